import PyProof.Rows.All
import Wide.All
import OpenK.AllK
import Wide.FinOn
import PySem.Challenge.RW_mj0233_01
set_option Elab.async false
set_option linter.all false
local macro_rules | `(tactic| omega) => `(tactic| first | assumption | lia | omega (config := {}))
section
namespace Mine
open PySem PySem.W PyProof.Rows
set_option maxRecDepth 100000
set_option maxHeartbeats 8000000

/-- the text's statements, by their places -/
noncomputable def nst (l : List Stmt) (i : Nat) : Stmt := match l[i]? with
  | some s => s
  | none => .Pass ⟨0, 0, 0, 0⟩
noncomputable def st (i : Nat) : Stmt := nst PySem.Challenge.pw_mj0233_01.main.body i
noncomputable def me (i j : Nat) : Stmt := match st i with
  | .ClassDef _ _ _ b .. => nst b j
  | s => s
/-- the object of a def -/
noncomputable def fo (s : Stmt) (q : Str) (df md cd : Value) : Obj := match s with
  | .FunctionDef nm ar bd _ _ _ sc _ _ _ => { cls := .type "function", data := .func { name := nm, qualname := q, params := ar, body := .stmts bd, scope := sc, globals := 3, closure := [], defaults := df, kwdefaults := .none, pyModule := md, code := cd } }
  | _ => { cls := .none, data := .plain }
/-- the text as the head looks at it -/
noncomputable def hd.view_39 : Program := { PySem.Challenge.pw_mj0233_01 with main := { PySem.Challenge.pw_mj0233_01.main with body := [st 0, st 2, st 3, st 4, st 5, st 7, st 8, st 9, st 10, st 11, st 13, st 14, st 15, st 16, st 17] } }
/-- the objects that the top leaves -/
noncomputable def hd.heap_39 (P : Params) : Frag := [
  (2, { cls := Value.none, data := Data.dict #[] }),
  (3, { cls := Value.type "dict", data := Data.dict #[{ hash := PyData.keyHash P (Str.ofString "__name__"), key := Value.str (Str.ofString "__name__") 165, val := Value.str (Str.ofString "law_mj0233_01") 420 }, { hash := PyData.keyHash P (Str.ofString "__doc__"), key := Value.str (Str.ofString "__doc__") 166, val := Value.none }, { hash := PyData.keyHash P (Str.ofString "__package__"), key := Value.str (Str.ofString "__package__") 167, val := Value.none }, { hash := PyData.keyHash P (Str.ofString "__loader__"), key := Value.str (Str.ofString "__loader__") 168, val := Value.builtin "__main__.__loader__#opaque" }, { hash := PyData.keyHash P (Str.ofString "__spec__"), key := Value.str (Str.ofString "__spec__") 169, val := Value.none }, { hash := PyData.keyHash P (Str.ofString "__annotations__"), key := Value.str (Str.ofString "__annotations__") 170, val := Value.ref 6 }, { hash := PyData.keyHash P (Str.ofString "__builtins__"), key := Value.str (Str.ofString "__builtins__") 171, val := Value.ref 4 }, { hash := PyData.keyHash P (Str.ofString "__file__"), key := Value.str (Str.ofString "__file__") 173, val := Value.str (Str.ofString "/claim/cut.py") 172 }, { hash := PyData.keyHash P (Str.ofString "__cached__"), key := Value.str (Str.ofString "__cached__") 174, val := Value.none }, { hash := PyData.keyHash P (Str.ofString "_wall"), key := Value.str (Str.ofString "_wall") 193, val := Value.ref 21 }, { hash := PyData.keyHash P (Str.ofString "heappush"), key := Value.str (Str.ofString "heappush") 203, val := Value.ref 28 }, { hash := PyData.keyHash P (Str.ofString "heapreplace"), key := Value.str (Str.ofString "heapreplace") 212, val := Value.ref 35 }, { hash := PyData.keyHash P (Str.ofString "_siftdown"), key := Value.str (Str.ofString "_siftdown") 224, val := Value.ref 42 }, { hash := PyData.keyHash P (Str.ofString "_siftup"), key := Value.str (Str.ofString "_siftup") 237, val := Value.ref 49 }, { hash := PyData.keyHash P (Str.ofString "_NODE_OUT"), key := Value.str (Str.ofString "_NODE_OUT") 242, val := Value.int (-1) 241 }, { hash := PyData.keyHash P (Str.ofString "_NODE_DONE"), key := Value.str (Str.ofString "_NODE_DONE") 245, val := Value.int (-2) 244 }, { hash := PyData.keyHash P (Str.ofString "_NodeInfo"), key := Value.str (Str.ofString "_NodeInfo") 282, val := Value.ref 68 }, { hash := PyData.keyHash P (Str.ofString "CycleError"), key := Value.str (Str.ofString "CycleError") 300, val := Value.ref 83 }, { hash := PyData.keyHash P (Str.ofString "TopologicalSorter"), key := Value.str (Str.ofString "TopologicalSorter") 419, val := Value.ref 165 }, { hash := PyData.keyHash P (Str.ofString "_law_dealt"), key := Value.str (Str.ofString "_law_dealt") 427, val := Value.ref 174 }, { hash := PyData.keyHash P (Str.ofString "_law_up"), key := Value.str (Str.ofString "_law_up") 433, val := Value.ref 179 }, { hash := PyData.keyHash P (Str.ofString "_law_down"), key := Value.str (Str.ofString "_law_down") 444, val := Value.ref 186 }, { hash := PyData.keyHash P (Str.ofString "_law_tables"), key := Value.str (Str.ofString "_law_tables") 450, val := Value.ref 191 }, { hash := PyData.keyHash P (Str.ofString "law"), key := Value.str (Str.ofString "law") 456, val := Value.ref 196 }] 24 }),
  (15, { cls := Value.type "tuple", data := Data.seq #[] }),
  (17, { cls := Value.type "tuple", data := Data.seq #[Value.str (Str.ofString "k") 190] }),
  (18, { cls := Value.type "tuple", data := Data.seq #[] }),
  (20, { cls := Value.type "code", data := Data.fields #[Value.str (Str.ofString "_wall") 187, Value.str (Str.ofString "_wall") 188, Value.str (Str.ofString "/claim/cut.py") 189, Value.int 1 0, Value.int 1 0, Value.int 0 0, Value.int 0 0, Value.int 3 0, Value.ref 15, Value.bool true, Value.int 181 0, Value.ref 16, Value.none, Value.ref 17, Value.ref 18, Value.ref 19, Value.int 191 0, Value.int 1 0, Value.str (Str.ofString "/claim/cut.py") 192] }),
  (21, fo (st 0) (Str.ofString "_wall") Value.none (Value.str (Str.ofString "__main__") 164) (Value.ref 20)),
  (22, { cls := Value.type "tuple", data := Data.seq #[] }),
  (24, { cls := Value.type "tuple", data := Data.seq #[Value.str (Str.ofString "heap") 199, Value.str (Str.ofString "item") 200] }),
  (25, { cls := Value.type "tuple", data := Data.seq #[] }),
  (27, { cls := Value.type "code", data := Data.fields #[Value.str (Str.ofString "heappush") 196, Value.str (Str.ofString "heappush") 197, Value.str (Str.ofString "/claim/cut.py") 198, Value.int 5 0, Value.int 2 0, Value.int 0 0, Value.int 0 0, Value.int 3 0, Value.ref 22, Value.bool true, Value.int 181 0, Value.ref 23, Value.none, Value.ref 24, Value.ref 25, Value.ref 26, Value.int 201 0, Value.int 5 0, Value.str (Str.ofString "/claim/cut.py") 202] }),
  (28, fo (st 2) (Str.ofString "heappush") Value.none (Value.str (Str.ofString "cpy313.heapq") 194) (Value.ref 27)),
  (29, { cls := Value.type "tuple", data := Data.seq #[] }),
  (31, { cls := Value.type "tuple", data := Data.seq #[Value.str (Str.ofString "heap") 207, Value.str (Str.ofString "item") 208, Value.str (Str.ofString "returnitem") 209] }),
  (32, { cls := Value.type "tuple", data := Data.seq #[] }),
  (34, { cls := Value.type "code", data := Data.fields #[Value.str (Str.ofString "heapreplace") 204, Value.str (Str.ofString "heapreplace") 205, Value.str (Str.ofString "/claim/cut.py") 206, Value.int 8 0, Value.int 2 0, Value.int 0 0, Value.int 0 0, Value.int 3 0, Value.ref 29, Value.bool true, Value.int 181 0, Value.ref 30, Value.none, Value.ref 31, Value.ref 32, Value.ref 33, Value.int 210 0, Value.int 8 0, Value.str (Str.ofString "/claim/cut.py") 211] }),
  (35, fo (st 3) (Str.ofString "heapreplace") Value.none (Value.str (Str.ofString "cpy313.heapq") 194) (Value.ref 34)),
  (36, { cls := Value.type "tuple", data := Data.seq #[] }),
  (38, { cls := Value.type "tuple", data := Data.seq #[Value.str (Str.ofString "heap") 216, Value.str (Str.ofString "startpos") 217, Value.str (Str.ofString "pos") 218, Value.str (Str.ofString "newitem") 219, Value.str (Str.ofString "parentpos") 220, Value.str (Str.ofString "parent") 221] }),
  (39, { cls := Value.type "tuple", data := Data.seq #[] }),
  (41, { cls := Value.type "code", data := Data.fields #[Value.str (Str.ofString "_siftdown") 213, Value.str (Str.ofString "_siftdown") 214, Value.str (Str.ofString "/claim/cut.py") 215, Value.int 13 0, Value.int 3 0, Value.int 0 0, Value.int 0 0, Value.int 3 0, Value.ref 36, Value.bool true, Value.int 181 0, Value.ref 37, Value.none, Value.ref 38, Value.ref 39, Value.ref 40, Value.int 222 0, Value.int 13 0, Value.str (Str.ofString "/claim/cut.py") 223] }),
  (42, fo (st 4) (Str.ofString "_siftdown") Value.none (Value.str (Str.ofString "cpy313.heapq") 194) (Value.ref 41)),
  (43, { cls := Value.type "tuple", data := Data.seq #[] }),
  (45, { cls := Value.type "tuple", data := Data.seq #[Value.str (Str.ofString "heap") 228, Value.str (Str.ofString "pos") 229, Value.str (Str.ofString "endpos") 230, Value.str (Str.ofString "startpos") 231, Value.str (Str.ofString "newitem") 232, Value.str (Str.ofString "childpos") 233, Value.str (Str.ofString "rightpos") 234] }),
  (46, { cls := Value.type "tuple", data := Data.seq #[] }),
  (48, { cls := Value.type "code", data := Data.fields #[Value.str (Str.ofString "_siftup") 225, Value.str (Str.ofString "_siftup") 226, Value.str (Str.ofString "/claim/cut.py") 227, Value.int 24 0, Value.int 2 0, Value.int 0 0, Value.int 0 0, Value.int 3 0, Value.ref 43, Value.bool true, Value.int 181 0, Value.ref 44, Value.none, Value.ref 45, Value.ref 46, Value.ref 47, Value.int 235 0, Value.int 24 0, Value.str (Str.ofString "/claim/cut.py") 236] }),
  (49, fo (st 5) (Str.ofString "_siftup") Value.none (Value.str (Str.ofString "cpy313.heapq") 194) (Value.ref 48)),
  (57, { cls := Value.type "tuple", data := Data.seq #[Value.str (Str.ofString "node") 258, Value.str (Str.ofString "npredecessors") 259, Value.str (Str.ofString "successors") 260] }),
  (58, { cls := Value.type "tuple", data := Data.seq #[] }),
  (60, { cls := Value.type "tuple", data := Data.seq #[Value.str (Str.ofString "self") 265, Value.str (Str.ofString "node") 266] }),
  (61, { cls := Value.type "tuple", data := Data.seq #[] }),
  (63, { cls := Value.type "code", data := Data.fields #[Value.str (Str.ofString "__init__") 262, Value.str (Str.ofString "_NodeInfo.__init__") 263, Value.str (Str.ofString "/claim/cut.py") 264, Value.int 44 0, Value.int 2 0, Value.int 0 0, Value.int 0 0, Value.int 3 0, Value.ref 58, Value.bool true, Value.int 181 0, Value.ref 59, Value.none, Value.ref 60, Value.ref 61, Value.ref 62, Value.int 267 0, Value.int 44 0, Value.str (Str.ofString "/claim/cut.py") 268] }),
  (64, fo (me 9 1) (Str.ofString "_NodeInfo.__init__") Value.none (Value.str (Str.ofString "cpy313.graphlib") 238) (Value.ref 63)),
  (65, { cls := Value.type "tuple", data := Data.seq #[Value.str (Str.ofString "node") 270, Value.str (Str.ofString "npredecessors") 271, Value.str (Str.ofString "successors") 272] }),
  (67, { cls := Value.type "dict", data := Data.dict #[{ hash := PyData.keyHash P (Str.ofString "__module__"), key := Value.str (Str.ofString "__module__") 253, val := Value.str (Str.ofString "cpy313.graphlib") 238 }, { hash := PyData.keyHash P (Str.ofString "__firstlineno__"), key := Value.str (Str.ofString "__firstlineno__") 257, val := Value.int 41 256 }, { hash := PyData.keyHash P (Str.ofString "__slots__"), key := Value.str (Str.ofString "__slots__") 261, val := Value.ref 57 }, { hash := PyData.keyHash P (Str.ofString "__init__"), key := Value.str (Str.ofString "__init__") 269, val := Value.ref 64 }, { hash := PyData.keyHash P (Str.ofString "__static_attributes__"), key := Value.str (Str.ofString "__static_attributes__") 273, val := Value.ref 65 }, { hash := PyData.keyHash P (Str.ofString "node"), key := Value.str (Str.ofString "node") 275, val := Value.ref 69 }, { hash := PyData.keyHash P (Str.ofString "npredecessors"), key := Value.str (Str.ofString "npredecessors") 277, val := Value.ref 70 }, { hash := PyData.keyHash P (Str.ofString "successors"), key := Value.str (Str.ofString "successors") 279, val := Value.ref 71 }, { hash := PyData.keyHash P (Str.ofString "__doc__"), key := Value.str (Str.ofString "__doc__") 280, val := Value.none }] 5 }),
  (68, { cls := Value.type "type", data := Data.cls { name := Str.ofString "_NodeInfo", bases := [Value.type "object"], mro := [Value.ref 68, Value.type "object"], ns := 67, qualname := Str.ofString "_NodeInfo", hasDict := false, slotNames := [Str.ofString "node", Str.ofString "npredecessors", Str.ofString "successors"] }, slots := #[none, none, some (Value.str (Str.ofString "_NodeInfo") 246), some (Value.str (Str.ofString "_NodeInfo") 254), some (Value.builtin "object.__new__"), some (Value.bool false)] }),
  (69, { cls := Value.type "member_descriptor", data := Data.fields #[Value.str (Str.ofString "node") 274, Value.ref 68, Value.builtin "proto.slot", Value.builtin "proto.slot#set", Value.int 2 0] }),
  (70, { cls := Value.type "member_descriptor", data := Data.fields #[Value.str (Str.ofString "npredecessors") 276, Value.ref 68, Value.builtin "proto.slot", Value.builtin "proto.slot#set", Value.int 1 0] }),
  (71, { cls := Value.type "member_descriptor", data := Data.fields #[Value.str (Str.ofString "successors") 278, Value.ref 68, Value.builtin "proto.slot", Value.builtin "proto.slot#set", Value.int 0 0] }),
  (74, { cls := Value.type "tuple", data := Data.seq #[Value.type "ValueError"] }),
  (81, { cls := Value.type "tuple", data := Data.seq #[] }),
  (82, { cls := Value.type "dict", data := Data.dict #[{ hash := PyData.keyHash P (Str.ofString "__module__"), key := Value.str (Str.ofString "__module__") 290, val := Value.str (Str.ofString "cpy313.graphlib") 238 }, { hash := PyData.keyHash P (Str.ofString "__firstlineno__"), key := Value.str (Str.ofString "__firstlineno__") 294, val := Value.int 48 293 }, { hash := PyData.keyHash P (Str.ofString "__static_attributes__"), key := Value.str (Str.ofString "__static_attributes__") 295, val := Value.ref 81 }, { hash := PyData.keyHash P (Str.ofString "__weakref__"), key := Value.str (Str.ofString "__weakref__") 297, val := Value.ref 84 }, { hash := PyData.keyHash P (Str.ofString "__doc__"), key := Value.str (Str.ofString "__doc__") 298, val := Value.none }] 3 }),
  (83, { cls := Value.type "type", data := Data.cls { name := Str.ofString "CycleError", bases := [Value.type "ValueError"], mro := [Value.ref 83, Value.type "ValueError", Value.type "Exception", Value.type "BaseException", Value.type "object"], ns := 82, qualname := Str.ofString "CycleError" }, slots := #[some (Value.ref 74), none, some (Value.str (Str.ofString "CycleError") 283), some (Value.str (Str.ofString "CycleError") 291), some (Value.builtin "ValueError.__new__"), some (Value.bool true)] }),
  (84, { cls := Value.type "getset_descriptor", data := Data.fields #[Value.str (Str.ofString "__weakref__") 296, Value.ref 83, Value.builtin "ExceptionGroup.__weakref__", Value.none] }),
  (94, { cls := Value.type "tuple", data := Data.seq #[Value.none] }),
  (95, { cls := Value.type "tuple", data := Data.seq #[] }),
  (97, { cls := Value.type "tuple", data := Data.seq #[Value.str (Str.ofString "self") 316, Value.str (Str.ofString "graph") 317, Value.str (Str.ofString "node") 318, Value.str (Str.ofString "predecessors") 319] }),
  (98, { cls := Value.type "tuple", data := Data.seq #[] }),
  (100, { cls := Value.type "code", data := Data.fields #[Value.str (Str.ofString "__init__") 313, Value.str (Str.ofString "TopologicalSorter.__init__") 314, Value.str (Str.ofString "/claim/cut.py") 315, Value.int 52 0, Value.int 2 0, Value.int 0 0, Value.int 0 0, Value.int 3 0, Value.ref 95, Value.bool true, Value.int 181 0, Value.ref 96, Value.none, Value.ref 97, Value.ref 98, Value.ref 99, Value.int 320 0, Value.int 52 0, Value.str (Str.ofString "/claim/cut.py") 321] }),
  (101, fo (me 11 0) (Str.ofString "TopologicalSorter.__init__") (Value.ref 94) (Value.str (Str.ofString "cpy313.graphlib") 238) (Value.ref 100)),
  (102, { cls := Value.type "tuple", data := Data.seq #[] }),
  (104, { cls := Value.type "tuple", data := Data.seq #[Value.str (Str.ofString "self") 326, Value.str (Str.ofString "node") 327, Value.str (Str.ofString "result") 328] }),
  (105, { cls := Value.type "tuple", data := Data.seq #[] }),
  (107, { cls := Value.type "code", data := Data.fields #[Value.str (Str.ofString "_get_nodeinfo") 323, Value.str (Str.ofString "TopologicalSorter._get_nodeinfo") 324, Value.str (Str.ofString "/claim/cut.py") 325, Value.int 61 0, Value.int 2 0, Value.int 0 0, Value.int 0 0, Value.int 3 0, Value.ref 102, Value.bool true, Value.int 181 0, Value.ref 103, Value.none, Value.ref 104, Value.ref 105, Value.ref 106, Value.int 329 0, Value.int 61 0, Value.str (Str.ofString "/claim/cut.py") 330] }),
  (108, fo (me 11 1) (Str.ofString "TopologicalSorter._get_nodeinfo") Value.none (Value.str (Str.ofString "cpy313.graphlib") 238) (Value.ref 107)),
  (109, { cls := Value.type "tuple", data := Data.seq #[] }),
  (111, { cls := Value.type "tuple", data := Data.seq #[Value.str (Str.ofString "self") 335, Value.str (Str.ofString "node") 336, Value.str (Str.ofString "predecessors") 337, Value.str (Str.ofString "nodeinfo") 338, Value.str (Str.ofString "pred") 339, Value.str (Str.ofString "pred_info") 340] }),
  (112, { cls := Value.type "tuple", data := Data.seq #[] }),
  (114, { cls := Value.type "code", data := Data.fields #[Value.str (Str.ofString "add") 332, Value.str (Str.ofString "TopologicalSorter.add") 333, Value.str (Str.ofString "/claim/cut.py") 334, Value.int 66 0, Value.int 2 0, Value.int 0 0, Value.int 0 0, Value.int 7 0, Value.ref 109, Value.bool true, Value.int 181 0, Value.ref 110, Value.none, Value.ref 111, Value.ref 112, Value.ref 113, Value.int 341 0, Value.int 66 0, Value.str (Str.ofString "/claim/cut.py") 342] }),
  (115, fo (me 11 2) (Str.ofString "TopologicalSorter.add") Value.none (Value.str (Str.ofString "cpy313.graphlib") 238) (Value.ref 114)),
  (116, { cls := Value.type "tuple", data := Data.seq #[] }),
  (119, { cls := Value.type "code", data := Data.fields #[Value.str (Str.ofString "prepare") 344, Value.str (Str.ofString "TopologicalSorter.prepare") 345, Value.str (Str.ofString "/claim/cut.py") 346, Value.int 75 0, Value.int 1 0, Value.int 0 0, Value.int 0 0, Value.int 3 0, Value.ref 116, Value.bool true, Value.int 181 0, Value.ref 117, Value.none, Value.none, Value.none, Value.ref 118, Value.int 347 0, Value.int 75 0, Value.str (Str.ofString "/claim/cut.py") 348] }),
  (120, fo (me 11 3) (Str.ofString "TopologicalSorter.prepare") Value.none (Value.str (Str.ofString "cpy313.graphlib") 238) (Value.ref 119)),
  (121, { cls := Value.type "tuple", data := Data.seq #[] }),
  (123, { cls := Value.type "tuple", data := Data.seq #[Value.str (Str.ofString "self") 353, Value.str (Str.ofString "result") 354, Value.str (Str.ofString "n2i") 355, Value.str (Str.ofString "node") 356] }),
  (124, { cls := Value.type "tuple", data := Data.seq #[] }),
  (126, { cls := Value.type "code", data := Data.fields #[Value.str (Str.ofString "get_ready") 350, Value.str (Str.ofString "TopologicalSorter.get_ready") 351, Value.str (Str.ofString "/claim/cut.py") 352, Value.int 83 0, Value.int 1 0, Value.int 0 0, Value.int 0 0, Value.int 3 0, Value.ref 121, Value.bool true, Value.int 181 0, Value.ref 122, Value.none, Value.ref 123, Value.ref 124, Value.ref 125, Value.int 357 0, Value.int 83 0, Value.str (Str.ofString "/claim/cut.py") 358] }),
  (127, fo (me 11 4) (Str.ofString "TopologicalSorter.get_ready") Value.none (Value.str (Str.ofString "cpy313.graphlib") 238) (Value.ref 126)),
  (128, { cls := Value.type "tuple", data := Data.seq #[] }),
  (130, { cls := Value.type "tuple", data := Data.seq #[Value.str (Str.ofString "self") 363] }),
  (131, { cls := Value.type "tuple", data := Data.seq #[] }),
  (133, { cls := Value.type "code", data := Data.fields #[Value.str (Str.ofString "is_active") 360, Value.str (Str.ofString "TopologicalSorter.is_active") 361, Value.str (Str.ofString "/claim/cut.py") 362, Value.int 94 0, Value.int 1 0, Value.int 0 0, Value.int 0 0, Value.int 3 0, Value.ref 128, Value.bool true, Value.int 181 0, Value.ref 129, Value.none, Value.ref 130, Value.ref 131, Value.ref 132, Value.int 364 0, Value.int 94 0, Value.str (Str.ofString "/claim/cut.py") 365] }),
  (134, fo (me 11 5) (Str.ofString "TopologicalSorter.is_active") Value.none (Value.str (Str.ofString "cpy313.graphlib") 238) (Value.ref 133)),
  (135, { cls := Value.type "tuple", data := Data.seq #[] }),
  (137, { cls := Value.type "tuple", data := Data.seq #[Value.str (Str.ofString "self") 370] }),
  (138, { cls := Value.type "tuple", data := Data.seq #[] }),
  (140, { cls := Value.type "code", data := Data.fields #[Value.str (Str.ofString "__bool__") 367, Value.str (Str.ofString "TopologicalSorter.__bool__") 368, Value.str (Str.ofString "/claim/cut.py") 369, Value.int 99 0, Value.int 1 0, Value.int 0 0, Value.int 0 0, Value.int 3 0, Value.ref 135, Value.bool true, Value.int 181 0, Value.ref 136, Value.none, Value.ref 137, Value.ref 138, Value.ref 139, Value.int 371 0, Value.int 99 0, Value.str (Str.ofString "/claim/cut.py") 372] }),
  (141, fo (me 11 6) (Str.ofString "TopologicalSorter.__bool__") Value.none (Value.str (Str.ofString "cpy313.graphlib") 238) (Value.ref 140)),
  (142, { cls := Value.type "tuple", data := Data.seq #[] }),
  (144, { cls := Value.type "tuple", data := Data.seq #[Value.str (Str.ofString "self") 377, Value.str (Str.ofString "nodes") 378, Value.str (Str.ofString "n2i") 379, Value.str (Str.ofString "node") 380, Value.str (Str.ofString "nodeinfo") 381, Value.str (Str.ofString "stat") 382, Value.str (Str.ofString "successor") 383, Value.str (Str.ofString "successor_info") 384] }),
  (145, { cls := Value.type "tuple", data := Data.seq #[] }),
  (147, { cls := Value.type "code", data := Data.fields #[Value.str (Str.ofString "done") 374, Value.str (Str.ofString "TopologicalSorter.done") 375, Value.str (Str.ofString "/claim/cut.py") 376, Value.int 102 0, Value.int 1 0, Value.int 0 0, Value.int 0 0, Value.int 7 0, Value.ref 142, Value.bool true, Value.int 181 0, Value.ref 143, Value.none, Value.ref 144, Value.ref 145, Value.ref 146, Value.int 385 0, Value.int 102 0, Value.str (Str.ofString "/claim/cut.py") 386] }),
  (148, fo (me 11 7) (Str.ofString "TopologicalSorter.done") Value.none (Value.str (Str.ofString "cpy313.graphlib") 238) (Value.ref 147)),
  (149, { cls := Value.type "tuple", data := Data.seq #[] }),
  (151, { cls := Value.type "tuple", data := Data.seq #[Value.str (Str.ofString "self") 391, Value.str (Str.ofString "n2i") 392, Value.str (Str.ofString "stack") 393, Value.str (Str.ofString "itstack") 394, Value.str (Str.ofString "seen") 395, Value.str (Str.ofString "node2stacki") 396, Value.str (Str.ofString "node") 397] }),
  (152, { cls := Value.type "tuple", data := Data.seq #[] }),
  (154, { cls := Value.type "code", data := Data.fields #[Value.str (Str.ofString "_find_cycle") 388, Value.str (Str.ofString "TopologicalSorter._find_cycle") 389, Value.str (Str.ofString "/claim/cut.py") 390, Value.int 125 0, Value.int 1 0, Value.int 0 0, Value.int 0 0, Value.int 3 0, Value.ref 149, Value.bool true, Value.int 181 0, Value.ref 150, Value.none, Value.ref 151, Value.ref 152, Value.ref 153, Value.int 398 0, Value.int 125 0, Value.str (Str.ofString "/claim/cut.py") 399] }),
  (155, fo (me 11 8) (Str.ofString "TopologicalSorter._find_cycle") Value.none (Value.str (Str.ofString "cpy313.graphlib") 238) (Value.ref 154)),
  (156, { cls := Value.type "tuple", data := Data.seq #[] }),
  (158, { cls := Value.type "tuple", data := Data.seq #[Value.str (Str.ofString "self") 404] }),
  (159, { cls := Value.type "tuple", data := Data.seq #[] }),
  (161, { cls := Value.type "code", data := Data.fields #[Value.str (Str.ofString "static_order") 401, Value.str (Str.ofString "TopologicalSorter.static_order") 402, Value.str (Str.ofString "/claim/cut.py") 403, Value.int 154 0, Value.int 1 0, Value.int 0 0, Value.int 0 0, Value.int 3 0, Value.ref 156, Value.bool true, Value.int 181 0, Value.ref 157, Value.none, Value.ref 158, Value.ref 159, Value.ref 160, Value.int 405 0, Value.int 154 0, Value.str (Str.ofString "/claim/cut.py") 406] }),
  (162, fo (me 11 9) (Str.ofString "TopologicalSorter.static_order") Value.none (Value.str (Str.ofString "cpy313.graphlib") 238) (Value.ref 161)),
  (163, { cls := Value.type "tuple", data := Data.seq #[Value.str (Str.ofString "_nfinished") 408, Value.str (Str.ofString "_node2info") 409, Value.str (Str.ofString "_npassedout") 410, Value.str (Str.ofString "_ready_nodes") 411] }),
  (164, { cls := Value.type "dict", data := Data.dict #[{ hash := PyData.keyHash P (Str.ofString "__module__"), key := Value.str (Str.ofString "__module__") 308, val := Value.str (Str.ofString "cpy313.graphlib") 238 }, { hash := PyData.keyHash P (Str.ofString "__firstlineno__"), key := Value.str (Str.ofString "__firstlineno__") 312, val := Value.int 50 311 }, { hash := PyData.keyHash P (Str.ofString "__init__"), key := Value.str (Str.ofString "__init__") 322, val := Value.ref 101 }, { hash := PyData.keyHash P (Str.ofString "_get_nodeinfo"), key := Value.str (Str.ofString "_get_nodeinfo") 331, val := Value.ref 108 }, { hash := PyData.keyHash P (Str.ofString "add"), key := Value.str (Str.ofString "add") 343, val := Value.ref 115 }, { hash := PyData.keyHash P (Str.ofString "prepare"), key := Value.str (Str.ofString "prepare") 349, val := Value.ref 120 }, { hash := PyData.keyHash P (Str.ofString "get_ready"), key := Value.str (Str.ofString "get_ready") 359, val := Value.ref 127 }, { hash := PyData.keyHash P (Str.ofString "is_active"), key := Value.str (Str.ofString "is_active") 366, val := Value.ref 134 }, { hash := PyData.keyHash P (Str.ofString "__bool__"), key := Value.str (Str.ofString "__bool__") 373, val := Value.ref 141 }, { hash := PyData.keyHash P (Str.ofString "done"), key := Value.str (Str.ofString "done") 387, val := Value.ref 148 }, { hash := PyData.keyHash P (Str.ofString "_find_cycle"), key := Value.str (Str.ofString "_find_cycle") 400, val := Value.ref 155 }, { hash := PyData.keyHash P (Str.ofString "static_order"), key := Value.str (Str.ofString "static_order") 407, val := Value.ref 162 }, { hash := PyData.keyHash P (Str.ofString "__static_attributes__"), key := Value.str (Str.ofString "__static_attributes__") 412, val := Value.ref 163 }, { hash := PyData.keyHash P (Str.ofString "__dict__"), key := Value.str (Str.ofString "__dict__") 414, val := Value.ref 166 }, { hash := PyData.keyHash P (Str.ofString "__weakref__"), key := Value.str (Str.ofString "__weakref__") 416, val := Value.ref 167 }, { hash := PyData.keyHash P (Str.ofString "__doc__"), key := Value.str (Str.ofString "__doc__") 417, val := Value.none }] 4 }),
  (165, { cls := Value.type "type", data := Data.cls { name := Str.ofString "TopologicalSorter", bases := [Value.type "object"], mro := [Value.ref 165, Value.type "object"], ns := 164, qualname := Str.ofString "TopologicalSorter" }, slots := #[none, none, some (Value.str (Str.ofString "TopologicalSorter") 301), some (Value.str (Str.ofString "TopologicalSorter") 309), some (Value.builtin "object.__new__"), some (Value.bool true)] }),
  (166, { cls := Value.type "getset_descriptor", data := Data.fields #[Value.str (Str.ofString "__dict__") 413, Value.ref 165, Value.builtin "function.__dict__", Value.builtin "function.__dict__#set"] }),
  (167, { cls := Value.type "getset_descriptor", data := Data.fields #[Value.str (Str.ofString "__weakref__") 415, Value.ref 165, Value.builtin "ExceptionGroup.__weakref__", Value.none] }),
  (170, { cls := Value.type "tuple", data := Data.seq #[] }),
  (173, { cls := Value.type "code", data := Data.fields #[Value.str (Str.ofString "_law_dealt") 422, Value.str (Str.ofString "_law_dealt") 423, Value.str (Str.ofString "/claim/cut.py") 424, Value.int 157 0, Value.int 2 0, Value.int 0 0, Value.int 0 0, Value.int 3 0, Value.ref 170, Value.bool true, Value.int 181 0, Value.ref 171, Value.none, Value.none, Value.none, Value.ref 172, Value.int 425 0, Value.int 157 0, Value.str (Str.ofString "/claim/cut.py") 426] }),
  (174, fo (st 13) (Str.ofString "_law_dealt") Value.none (Value.str (Str.ofString "law_mj0233_01") 420) (Value.ref 173)),
  (175, { cls := Value.type "tuple", data := Data.seq #[] }),
  (178, { cls := Value.type "code", data := Data.fields #[Value.str (Str.ofString "_law_up") 428, Value.str (Str.ofString "_law_up") 429, Value.str (Str.ofString "/claim/cut.py") 430, Value.int 159 0, Value.int 3 0, Value.int 0 0, Value.int 0 0, Value.int 3 0, Value.ref 175, Value.bool true, Value.int 181 0, Value.ref 176, Value.none, Value.none, Value.none, Value.ref 177, Value.int 431 0, Value.int 159 0, Value.str (Str.ofString "/claim/cut.py") 432] }),
  (179, fo (st 14) (Str.ofString "_law_up") Value.none (Value.str (Str.ofString "law_mj0233_01") 420) (Value.ref 178)),
  (180, { cls := Value.type "tuple", data := Data.seq #[] }),
  (182, { cls := Value.type "tuple", data := Data.seq #[Value.str (Str.ofString "above") 437, Value.str (Str.ofString "crests") 438, Value.str (Str.ofString "sorter") 439, Value.str (Str.ofString "k") 440, Value.str (Str.ofString "fresh") 441] }),
  (183, { cls := Value.type "tuple", data := Data.seq #[] }),
  (185, { cls := Value.type "code", data := Data.fields #[Value.str (Str.ofString "_law_down") 434, Value.str (Str.ofString "_law_down") 435, Value.str (Str.ofString "/claim/cut.py") 436, Value.int 182 0, Value.int 2 0, Value.int 0 0, Value.int 0 0, Value.int 3 0, Value.ref 180, Value.bool true, Value.int 181 0, Value.ref 181, Value.none, Value.ref 182, Value.ref 183, Value.ref 184, Value.int 442 0, Value.int 182 0, Value.str (Str.ofString "/claim/cut.py") 443] }),
  (186, fo (st 15) (Str.ofString "_law_down") Value.none (Value.str (Str.ofString "law_mj0233_01") 420) (Value.ref 185)),
  (187, { cls := Value.type "tuple", data := Data.seq #[] }),
  (190, { cls := Value.type "code", data := Data.fields #[Value.str (Str.ofString "_law_tables") 445, Value.str (Str.ofString "_law_tables") 446, Value.str (Str.ofString "/claim/cut.py") 447, Value.int 194 0, Value.int 4 0, Value.int 0 0, Value.int 0 0, Value.int 3 0, Value.ref 187, Value.bool true, Value.int 181 0, Value.ref 188, Value.none, Value.none, Value.none, Value.ref 189, Value.int 448 0, Value.int 194 0, Value.str (Str.ofString "/claim/cut.py") 449] }),
  (191, fo (st 16) (Str.ofString "_law_tables") Value.none (Value.str (Str.ofString "law_mj0233_01") 420) (Value.ref 190)),
  (192, { cls := Value.type "tuple", data := Data.seq #[] }),
  (195, { cls := Value.type "code", data := Data.fields #[Value.str (Str.ofString "law") 451, Value.str (Str.ofString "law") 452, Value.str (Str.ofString "/claim/cut.py") 453, Value.int 201 0, Value.int 1 0, Value.int 0 0, Value.int 0 0, Value.int 3 0, Value.ref 192, Value.bool true, Value.int 181 0, Value.ref 193, Value.none, Value.none, Value.none, Value.ref 194, Value.int 454 0, Value.int 201 0, Value.str (Str.ofString "/claim/cut.py") 455] }),
  (196, fo (st 17) (Str.ofString "law") Value.none (Value.str (Str.ofString "law_mj0233_01") 420) (Value.ref 195))]
end Mine
end
section
namespace Mine
set_option genSizeOf false
set_option genSizeOfSpec false
set_option genInjectivity false

inductive Ex2 {α0 α1 : Type} (P : α0 → α1 → Prop) : Prop
  | mk (a0 : α0) (a1 : α1) (h : P a0 a1)
inductive Ex3 {α0 α1 α2 : Type} (P : α0 → α1 → α2 → Prop) : Prop
  | mk (a0 : α0) (a1 : α1) (a2 : α2) (h : P a0 a1 a2)
inductive Ex4 {α0 α1 α2 α3 : Type} (P : α0 → α1 → α2 → α3 → Prop) : Prop
  | mk (a0 : α0) (a1 : α1) (a2 : α2) (a3 : α3) (h : P a0 a1 a2 a3)
inductive Ex5 {α0 α1 α2 α3 α4 : Type} (P : α0 → α1 → α2 → α3 → α4 → Prop) : Prop
  | mk (a0 : α0) (a1 : α1) (a2 : α2) (a3 : α3) (a4 : α4) (h : P a0 a1 a2 a3 a4)
inductive Ex6 {α0 α1 α2 α3 α4 α5 : Type} (P : α0 → α1 → α2 → α3 → α4 → α5 → Prop) : Prop
  | mk (a0 : α0) (a1 : α1) (a2 : α2) (a3 : α3) (a4 : α4) (a5 : α5) (h : P a0 a1 a2 a3 a4 a5)
inductive Ex7 {α0 α1 α2 α3 α4 α5 α6 : Type} (P : α0 → α1 → α2 → α3 → α4 → α5 → α6 → Prop) : Prop
  | mk (a0 : α0) (a1 : α1) (a2 : α2) (a3 : α3) (a4 : α4) (a5 : α5) (a6 : α6) (h : P a0 a1 a2 a3 a4 a5 a6)
inductive Ex8 {α0 α1 α2 α3 α4 α5 α6 α7 : Type} (P : α0 → α1 → α2 → α3 → α4 → α5 → α6 → α7 → Prop) : Prop
  | mk (a0 : α0) (a1 : α1) (a2 : α2) (a3 : α3) (a4 : α4) (a5 : α5) (a6 : α6) (a7 : α7) (h : P a0 a1 a2 a3 a4 a5 a6 a7)
inductive Ex12 {α0 α1 α2 α3 α4 α5 α6 α7 α8 α9 α10 α11 : Type} (P : α0 → α1 → α2 → α3 → α4 → α5 → α6 → α7 → α8 → α9 → α10 → α11 → Prop) : Prop
  | mk (a0 : α0) (a1 : α1) (a2 : α2) (a3 : α3) (a4 : α4) (a5 : α5) (a6 : α6) (a7 : α7) (a8 : α8) (a9 : α9) (a10 : α10) (a11 : α11) (h : P a0 a1 a2 a3 a4 a5 a6 a7 a8 a9 a10 a11)
inductive Ex15 {α0 α1 α2 α3 α4 α5 α6 α7 α8 α9 α10 α11 α12 α13 α14 : Type} (P : α0 → α1 → α2 → α3 → α4 → α5 → α6 → α7 → α8 → α9 → α10 → α11 → α12 → α13 → α14 → Prop) : Prop
  | mk (a0 : α0) (a1 : α1) (a2 : α2) (a3 : α3) (a4 : α4) (a5 : α5) (a6 : α6) (a7 : α7) (a8 : α8) (a9 : α9) (a10 : α10) (a11 : α11) (a12 : α12) (a13 : α13) (a14 : α14) (h : P a0 a1 a2 a3 a4 a5 a6 a7 a8 a9 a10 a11 a12 a13 a14)
inductive Ex16 {α0 α1 α2 α3 α4 α5 α6 α7 α8 α9 α10 α11 α12 α13 α14 α15 : Type} (P : α0 → α1 → α2 → α3 → α4 → α5 → α6 → α7 → α8 → α9 → α10 → α11 → α12 → α13 → α14 → α15 → Prop) : Prop
  | mk (a0 : α0) (a1 : α1) (a2 : α2) (a3 : α3) (a4 : α4) (a5 : α5) (a6 : α6) (a7 : α7) (a8 : α8) (a9 : α9) (a10 : α10) (a11 : α11) (a12 : α12) (a13 : α13) (a14 : α14) (a15 : α15) (h : P a0 a1 a2 a3 a4 a5 a6 a7 a8 a9 a10 a11 a12 a13 a14 a15)
inductive An3 (p0 p1 p2 : Prop) : Prop
  | mk (h0 : p0) (h1 : p1) (h2 : p2)
inductive An4 (p0 p1 p2 p3 : Prop) : Prop
  | mk (h0 : p0) (h1 : p1) (h2 : p2) (h3 : p3)
inductive An5 (p0 p1 p2 p3 p4 : Prop) : Prop
  | mk (h0 : p0) (h1 : p1) (h2 : p2) (h3 : p3) (h4 : p4)
inductive An6 (p0 p1 p2 p3 p4 p5 : Prop) : Prop
  | mk (h0 : p0) (h1 : p1) (h2 : p2) (h3 : p3) (h4 : p4) (h5 : p5)
inductive An7 (p0 p1 p2 p3 p4 p5 p6 : Prop) : Prop
  | mk (h0 : p0) (h1 : p1) (h2 : p2) (h3 : p3) (h4 : p4) (h5 : p5) (h6 : p6)
inductive An8 (p0 p1 p2 p3 p4 p5 p6 p7 : Prop) : Prop
  | mk (h0 : p0) (h1 : p1) (h2 : p2) (h3 : p3) (h4 : p4) (h5 : p5) (h6 : p6) (h7 : p7)
inductive An9 (p0 p1 p2 p3 p4 p5 p6 p7 p8 : Prop) : Prop
  | mk (h0 : p0) (h1 : p1) (h2 : p2) (h3 : p3) (h4 : p4) (h5 : p5) (h6 : p6) (h7 : p7) (h8 : p8)

noncomputable abbrev Adr := Nat

inductive BI where
  | len | sum | range | sorted | abs | min | max | list | tuple | set | bool | iter
  deriving DecidableEq

set_option genInjectivity true in
inductive AV where
  | none
  | bool (b : Bool)
  | int (i : Int)
  | ref (a : Adr)
  | blt (b : BI)
  deriving DecidableEq

set_option genInjectivity true in
inductive AO where
  | list (vs : List AV)
  | tuple (vs : List AV)
  | dict (es : List (Int × AV))
  | iset (xs : List Int)
  | range (lo : Int) (n : Nat) (step : Int)
  | ditems (d : Adr)
  | dvals (d : Adr)
  | inst (d : Adr)
  | sdict (vs : List AV)
  | node (a b c : Option AV)
  | liter (l : Adr) (i : Nat)
  | nextw (it : Adr)
  | ro (o : AO)

noncomputable def AO.rd : AO → AO
  | .ro o => o.rd
  | o => o

noncomputable abbrev Store := Adr → Option AO
noncomputable abbrev Mem := List (Option AV)

noncomputable def upd (σ : Store) (a : Adr) (o : AO) : Store := fun b => if b = a then some o else σ b
noncomputable def del (σ : Store) (a : Adr) : Store := fun b => if b = a then none else σ b
noncomputable def at? (σ : Store) (a : Adr) : Option AO := (σ a).map AO.rd
noncomputable def Sub (σ τ : Store) : Prop := ∀ a o, σ a = some o → τ a = some o
noncomputable def Fg (σ : Store) (P : Store → Prop) : Prop := ∃ τ, Sub τ σ ∧ P τ

noncomputable def lim : Nat := 1000000

inductive BOp where
  | add | sub | mul | fdiv | mod | shr
  deriving DecidableEq
inductive COp where
  | lt | gt | ge | eq | ne | is | isnot | mem
  deriving DecidableEq
inductive Fld where
  | n2i | ready | npass | nfin | node | npred | succ | next
  deriving DecidableEq
inductive Meth where
  | append | pop | clear | get | items | values | add | prepare | getready | isactive | done | findcycle | getinfo
  deriving DecidableEq

noncomputable def Fld.idx : Fld → Nat
  | .n2i => 0 | .ready => 1 | .npass => 2 | .nfin => 3 | .node => 0 | .npred => 1 | .succ => 2 | .next => 0
noncomputable def Meth.addr : Meth → Option Adr
  | .add => some 115 | .prepare => some 120 | .getready => some 127 | .isactive => some 134 | .done => some 148 | .findcycle => some 155 | .getinfo => some 108
  | _ => none

mutual
inductive PE where
  | int (i : Int) | none | bool (b : Bool)
  | var (i : Nat)
  | glob (v : AV)
  | bin (op : BOp) (a b : PE)
  | neg (a : PE)
  | cmp (op : COp) (a b : PE)
  | or (a b : PE)
  | ite (t : PT) (a b : PE)
  | walrus (i : Nat) (a : PE)
  | list (es : PL)
  | tuple (es : PL)
  | call (f : PE) (args : PL)
  | mcall (o : PE) (f : Meth) (args : PL)
  | mcallS (o : PE) (f : Meth) (args : PL) (star : PE)
  | attr (o : PE) (f : Fld)
  | sub (o i : PE)
  | sliceTo (o hi : PE)
  | sliceFrom (o lo : PE)
  | sliceStep (o lo st : PE)
  | lcomp (elt it : PE) (c : PT)
  | dcomp (k v it : PE)
  | edict
inductive PL where
  | nil
  | cons (e : PE) (r : PL)
inductive PT where
  | tt
  | tv (e : PE)
  | not (t : PT)
  | and (a b : PT)
  | or (a b : PT)
end

inductive Flw where
  | next | brk | cont | ret (v : AV)

inductive PS where
  | skip | bad | brk | cont
  | expr (e : PE)
  | assign (i : Nat) (e : PE)
  | assign3 (i j k : Nat) (e : PE)
  | setItem (o i e : PE)
  | setItemVar (o i : PE) (x : Nat) (e : PE)
  | setAttr (o : PE) (f : Fld) (e : PE)
  | augAttr (o : PE) (f : Fld) (op : BOp) (e : PE)
  | augSub (o i : PE) (op : BOp) (e : PE)
  | delSub (o i : PE)
  | ret (e : PE)
  | ite (t : PT) (a b : PS)
  | loop (t : PT) (b els : PS)
  | each (x : Nat) (it : PE) (b : PS)
  | each2 (x y : Nat) (it : PE) (b : PS)
  | tryNext (x : Nat) (f : PE) (h : PS)
  | seq (a b : PS)

noncomputable def allInt (vs : List AV) : Prop := ∀ v ∈ vs, ∃ i, v = AV.int i
noncomputable def ofInts (xs : List Int) : List AV := xs.map AV.int
noncomputable def toInt : AV → Int
  | .int i => i
  | _ => 0

noncomputable def Bin : BOp → AV → AV → (AV → Store → Prop) → Store → Prop
  | .add, .int a, .int b, Q, σ => Q (.int (a + b)) σ
  | .add, .ref a, .ref b, Q, σ => ∃ xs ys, at? σ a = some (.list xs) ∧ at? σ b = some (.list ys) ∧ xs.length + ys.length ≤ lim ∧ ∀ c, σ c = none → Q (.ref c) (upd σ c (.list (xs ++ ys)))
  | .sub, .int a, .int b, Q, σ => Q (.int (a - b)) σ
  | .mul, .int a, .int b, Q, σ => a.natAbs < 2 ^ 60 ∧ Q (.int (a * b)) σ
  | .fdiv, .int a, .int b, Q, σ => b ≠ 0 ∧ b.natAbs < 1073741824 ∧ Q (.int (a.fdiv b)) σ
  | .mod, .int a, .int b, Q, σ => b ≠ 0 ∧ Q (.int (a.fmod b)) σ
  | .shr, .int a, .int b, Q, σ => 0 ≤ b ∧ Q (.int (a.fdiv (2 ^ b.toNat))) σ
  | _, _, _, _, _ => False

noncomputable def Cmp : COp → AV → AV → (Bool → Prop) → Store → Prop
  | .lt, .int a, .int b, Q, _ => Q (decide (a < b))
  | .gt, .int a, .int b, Q, _ => Q (decide (a > b))
  | .ge, .int a, .int b, Q, _ => Q (decide (a ≥ b))
  | .eq, .int a, .int b, Q, _ => Q (decide (a = b))
  | .ne, .int a, .int b, Q, _ => Q (decide (a ≠ b))
  | .ne, .ref a, .ref b, Q, σ => ∃ xs ys, at? σ a = some (.list (ofInts xs)) ∧ at? σ b = some (.list (ofInts ys)) ∧ Q (decide (xs ≠ ys))
  | .is, v, .none, Q, _ => Q (decide (v = .none))
  | .isnot, v, .none, Q, _ => Q (decide (v ≠ .none))
  | .mem, .int k, .ref a, Q, σ => (∃ xs, at? σ a = some (.iset xs) ∧ Q (decide (k ∈ xs))) ∨ (∃ es, at? σ a = some (.dict es) ∧ Q (decide (k ∈ es.map (·.1))))
  | _, _, _, _, _ => False

noncomputable def Tru : AV → (Bool → Prop) → Store → Prop
  | .bool b, Q, _ => Q b
  | .none, Q, _ => Q false
  | .ref a, Q, σ => ∃ xs, at? σ a = some (.list xs) ∧ xs.length ≤ lim ∧ Q (!xs.isEmpty)
  | _, _, _ => False

noncomputable def stepCount (n lo st : Nat) : Nat := if lo < n then (n - lo + st - 1) / st else 0
noncomputable def stepped (xs : List AV) (lo st : Nat) : List AV := (List.range (stepCount xs.length lo st)).map fun j => xs.getD (lo + j * st) .none
noncomputable def fromAt (xs : List AV) (k : Int) : List AV := if 0 ≤ k then xs.drop k.toNat else xs.drop (xs.length - (-k).toNat)

noncomputable def sortInts (xs : List Int) : List Int := xs.mergeSort (fun a b => decide (a ≤ b))

inductive Bcall : BI → List AV → (AV → Store → Prop) → Store → Prop
  | len {a : Adr} {Q : AV → Store → Prop} {σ : Store} (vs : List AV) (h : at? σ a = some (.list vs) ∨ at? σ a = some (.tuple vs)) (hl : vs.length ≤ lim) (q : Q (.int vs.length) σ) : Bcall .len [.ref a] Q σ
  | sum {a : Adr} {Q : AV → Store → Prop} {σ : Store} (xs : List Int) (h : at? σ a = some (.list (ofInts xs))) (q : Q (.int xs.sum) σ) : Bcall .sum [.ref a] Q σ
  | range1 {n : Int} {Q : AV → Store → Prop} {σ : Store} (h : n.natAbs ≤ lim) (q : ∀ r, σ r = none → Q (.ref r) (upd σ r (.range 0 n.toNat 1))) : Bcall .range [.int n] Q σ
  | range2 {a b : Int} {Q : AV → Store → Prop} {σ : Store} (h1 : a.natAbs ≤ lim) (h2 : b.natAbs ≤ lim) (q : ∀ r, σ r = none → Q (.ref r) (upd σ r (.range a (b - a).toNat 1))) : Bcall .range [.int a, .int b] Q σ
  | range3 {a b : Int} {Q : AV → Store → Prop} {σ : Store} (h1 : a.natAbs ≤ lim) (h2 : b.natAbs ≤ lim) (q : ∀ r, σ r = none → Q (.ref r) (upd σ r (.range a (a - b).toNat (-1)))) : Bcall .range [.int a, .int b, .int (-1)] Q σ
  | sorted {a : Adr} {Q : AV → Store → Prop} {σ : Store} (xs : List Int) (h : at? σ a = some (.list (ofInts xs))) (hl : xs.length < 64) (q : ∀ r, σ r = none → ∀ ys : List Int, ys.Perm xs → ys.Pairwise (· ≤ ·) → Q (.ref r) (upd σ r (.list (ofInts ys)))) : Bcall .sorted [.ref a] Q σ
  | abs {a : Int} {Q : AV → Store → Prop} {σ : Store} (q : Q (.int a.natAbs) σ) : Bcall .abs [.int a] Q σ
  | min2 {a b : Int} {Q : AV → Store → Prop} {σ : Store} (q : Q (.int (Min.min a b)) σ) : Bcall .min [.int a, .int b] Q σ
  | max2 {a b : Int} {Q : AV → Store → Prop} {σ : Store} (q : Q (.int (Max.max a b)) σ) : Bcall .max [.int a, .int b] Q σ
  | min1 {a : Adr} {Q : AV → Store → Prop} {σ : Store} (x : Int) (xs : List Int) (h : at? σ a = some (.list (ofInts (x :: xs)))) (q : Q (.int (xs.foldl Min.min x)) σ) : Bcall .min [.ref a] Q σ
  | list {a : Adr} {Q : AV → Store → Prop} {σ : Store} (xs : List AV) (h : at? σ a = some (.list xs)) (hl : xs.length ≤ lim) (q : ∀ r, σ r = none → Q (.ref r) (upd σ r (.list xs))) : Bcall .list [.ref a] Q σ
  | tuple {a : Adr} {Q : AV → Store → Prop} {σ : Store} (xs : List AV) (h : at? σ a = some (.list xs)) (hl : xs.length ≤ lim) (q : ∀ r, σ r = none → Q (.ref r) (upd σ r (.tuple xs))) : Bcall .tuple [.ref a] Q σ
  | set {Q : AV → Store → Prop} {σ : Store} (q : ∀ r, σ r = none → Q (.ref r) (upd σ r (.iset []))) : Bcall .set [] Q σ
  | bool {a : Adr} {Q : AV → Store → Prop} {σ : Store} (xs : List AV) (h : at? σ a = some (.list xs)) (hl : xs.length ≤ lim) (q : Q (.bool (!xs.isEmpty)) σ) : Bcall .bool [.ref a] Q σ
  | iter {a : Adr} {Q : AV → Store → Prop} {σ : Store} (xs : List AV) (h : at? σ a = some (.list xs)) (q : ∀ r, σ r = none → Q (.ref r) (upd σ r (.liter a 0))) : Bcall .iter [.ref a] Q σ

noncomputable def dget (es : List (Int × AV)) (k : Int) : Option AV := (es.find? fun e => e.1 = k).map (·.2)
noncomputable def dput (es : List (Int × AV)) (k : Int) (v : AV) : List (Int × AV) :=
  if es.any (fun e => e.1 = k) then es.map (fun e => if e.1 = k then (e.1, v) else e) else es ++ [(k, v)]
noncomputable def ddel (es : List (Int × AV)) (k : Int) : List (Int × AV) := es.filter fun e => e.1 ≠ k
noncomputable def sins (xs : List Int) (k : Int) : List Int := if k ∈ xs then xs else xs ++ [k]

noncomputable abbrev Ctr := Adr → List AV → (AV → Store → Prop) → Store → Prop

inductive McallI (C : Ctr) (Q : AV → Store → Prop) (σ : Store) : Meth → AV → List AV → Prop
  | append {a : Adr} {x : AV} (xs : List AV) (h : σ a = some (.list xs)) (hl : xs.length < lim) (q : Q .none (upd σ a (.list (xs ++ [x])))) : McallI C Q σ .append (.ref a) [x]
  | pop {a : Adr} (ys : List AV) (y : AV) (h : σ a = some (.list (ys ++ [y]))) (hl : (ys ++ [y]).length ≤ lim) (q : Q y (upd σ a (.list ys))) : McallI C Q σ .pop (.ref a) []
  | clear {a : Adr} (xs : List AV) (h : σ a = some (.list xs)) (hl : xs.length ≤ lim) (q : Q .none (upd σ a (.list []))) : McallI C Q σ .clear (.ref a) []
  | get {a : Adr} {k : Int} (es : List (Int × AV)) (h : σ a = some (.dict es)) (q : Q ((dget es k).getD .none) σ) : McallI C Q σ .get (.ref a) [.int k]
  | items {a : Adr} (es : List (Int × AV)) (h : σ a = some (.dict es)) (q : ∀ r, σ r = none → Q (.ref r) (upd σ r (.ditems a))) : McallI C Q σ .items (.ref a) []
  | values {a : Adr} (es : List (Int × AV)) (h : σ a = some (.dict es)) (q : ∀ r, σ r = none → Q (.ref r) (upd σ r (.dvals a))) : McallI C Q σ .values (.ref a) []
  | add {a : Adr} {k : Int} (xs : List Int) (h : σ a = some (.iset xs)) (hl : xs.length < 1000) (q : Q .none (upd σ a (.iset (sins xs k)))) : McallI C Q σ .add (.ref a) [.int k]
  | inst {a d g : Adr} {f : Meth} {vs : List AV} (h : σ a = some (.inst d)) (hf : f.addr = some g) (q : C g (.ref a :: vs) Q σ) : McallI C Q σ f (.ref a) vs
noncomputable abbrev Mcall (C : Ctr) (f : Meth) (v : AV) (vs : List AV) (Q : AV → Store → Prop) (σ : Store) : Prop := McallI C Q σ f v vs

noncomputable def AO.kd (σ : Store) : AO → Nat
  | .list _ => 1
  | .dict _ => 2
  | .iset _ => 3
  | .inst d => match σ d with
    | some (.sdict _) => 4
    | _ => 0
  | _ => 0
noncomputable def Mk (σ : Store) : AV → Nat
  | .ref a => (σ a).elim 0 (AO.kd σ)
  | _ => 0
noncomputable def Meth.kind : Meth → Nat
  | .append | .pop | .clear => 1
  | .get | .items | .values => 2
  | .add => 3
  | _ => 9
noncomputable def methOk (k : Nat) (f : Meth) : Bool := if k = 4 then f.addr.isSome else f.kind == k

noncomputable def Call (C : Ctr) (f : AV) (vs : List AV) (Q : AV → Store → Prop) (σ : Store) : Prop :=
  match f with
  | .blt b => Bcall b vs Q σ
  | .ref g => C g vs Q σ
  | _ => False

noncomputable def Fld.sidx : Fld → Option Nat
  | .n2i => some 0
  | .ready => some 1
  | .npass => some 2
  | .nfin => some 3
  | _ => none
inductive AttrI (Q : AV → Store → Prop) (σ : Store) : Fld → AV → Prop
  | next {a l : Adr} {i : Nat} (h : σ a = some (.liter l i)) (q : ∀ r, σ r = none → Q (.ref r) (upd σ r (.nextw a))) : AttrI Q σ .next (.ref a)
  | node {a : Adr} {x : AV} {p c : Option AV} (h : σ a = some (.node (some x) p c)) (q : Q x σ) : AttrI Q σ .node (.ref a)
  | npred {a : Adr} {x : AV} {n c : Option AV} (h : σ a = some (.node n (some x) c)) (q : Q x σ) : AttrI Q σ .npred (.ref a)
  | succ {a : Adr} {x : AV} {n p : Option AV} (h : σ a = some (.node n p (some x))) (q : Q x σ) : AttrI Q σ .succ (.ref a)
  | inst {f : Fld} {a d : Adr} {vs : List AV} {x : AV} (i : Nat) (hf : f.sidx = some i) (h : σ a = some (.inst d)) (hd : σ d = some (.sdict vs)) (hv : vs[i]? = some x) (q : Q x σ) : AttrI Q σ f (.ref a)
noncomputable abbrev Attr (f : Fld) (v : AV) (Q : AV → Store → Prop) (σ : Store) : Prop := AttrI Q σ f v

noncomputable def sput (vs : List AV) (i : Nat) (v : AV) : List AV := if i < vs.length then vs.set i v else vs ++ [v]

inductive SetAttrI (x : AV) (Q : Store → Prop) (σ : Store) : Fld → AV → Prop
  | node {a : Adr} {n p c : Option AV} (h : σ a = some (.node n p c)) (q : Q (upd σ a (.node (some x) p c))) : SetAttrI x Q σ .node (.ref a)
  | npred {a : Adr} {n p c : Option AV} (h : σ a = some (.node n p c)) (q : Q (upd σ a (.node n (some x) c))) : SetAttrI x Q σ .npred (.ref a)
  | succ {a : Adr} {n p c : Option AV} (h : σ a = some (.node n p c)) (q : Q (upd σ a (.node n p (some x)))) : SetAttrI x Q σ .succ (.ref a)
  | inst {f : Fld} {a d : Adr} {vs : List AV} (i : Nat) (hf : f.sidx = some i) (h : σ a = some (.inst d)) (hd : σ d = some (.sdict vs)) (hi : i ≤ vs.length) (q : Q (upd σ d (.sdict (sput vs i x)))) : SetAttrI x Q σ f (.ref a)
noncomputable abbrev SetAttr (f : Fld) (v x : AV) (Q : Store → Prop) (σ : Store) : Prop := SetAttrI x Q σ f v

inductive GetI (Q : AV → Prop) (σ : Store) : AV → AV → Prop
  | list {a : Adr} {k : Int} {vs : List AV} {x : AV} (h : at? σ a = some (.list vs)) (hl : vs.length ≤ lim) (e : (if 0 ≤ k then vs[k.toNat]? else if (-k).toNat ≤ vs.length then vs[vs.length - (-k).toNat]? else none) = some x) (q : Q x) : GetI Q σ (.ref a) (.int k)
  | dict {a : Adr} {k : Int} {es : List (Int × AV)} {x : AV} (h : at? σ a = some (.dict es)) (e : dget es k = some x) (q : Q x) : GetI Q σ (.ref a) (.int k)
noncomputable abbrev GetItem (o i : AV) (Q : AV → Prop) (σ : Store) : Prop := GetI Q σ o i

inductive SetI (x : AV) (Q : Store → Prop) (σ : Store) : AV → AV → Prop
  | list {a : Adr} {k : Int} {vs : List AV} (h : σ a = some (.list vs)) (hl : vs.length ≤ lim) (h0 : 0 ≤ k) (hk : k.toNat < vs.length) (q : Q (upd σ a (.list (vs.set k.toNat x)))) : SetI x Q σ (.ref a) (.int k)
  | dict {a : Adr} {k : Int} {es : List (Int × AV)} (h : σ a = some (.dict es)) (hl : es.length < lim) (q : Q (upd σ a (.dict (dput es k x)))) : SetI x Q σ (.ref a) (.int k)
noncomputable abbrev SetItem (o i x : AV) (Q : Store → Prop) (σ : Store) : Prop := SetI x Q σ o i

inductive DelI (Q : Store → Prop) (σ : Store) : AV → AV → Prop
  | dict {a : Adr} {k : Int} {es : List (Int × AV)} (h : σ a = some (.dict es)) (hk : k ∈ es.map (·.1)) (hl : es.length ≤ lim) (q : Q (upd σ a (.dict (ddel es k)))) : DelI Q σ (.ref a) (.int k)
noncomputable abbrev DelItem (o i : AV) (Q : Store → Prop) (σ : Store) : Prop := DelI Q σ o i

noncomputable def SliceTo (o i : AV) (Q : AV → Store → Prop) (σ : Store) : Prop :=
  match o, i with
  | .ref a, .int k => ∃ vs, at? σ a = some (.list vs) ∧ vs.length ≤ lim ∧ 0 ≤ k ∧ k ≤ lim ∧ ∀ r, σ r = none → Q (.ref r) (upd σ r (.list (vs.take k.toNat)))
  | _, _ => False
noncomputable def SliceFrom (o i : AV) (Q : AV → Store → Prop) (σ : Store) : Prop :=
  match o, i with
  | .ref a, .int k => ∃ vs, at? σ a = some (.list vs) ∧ vs.length ≤ lim ∧ k.natAbs ≤ lim ∧ ∀ r, σ r = none → Q (.ref r) (upd σ r (.list (fromAt vs k)))
  | _, _ => False
noncomputable def SliceStep (o i j : AV) (Q : AV → Store → Prop) (σ : Store) : Prop :=
  match o, i, j with
  | .ref a, .int k, .int n => ∃ vs, at? σ a = some (.list vs) ∧ vs.length ≤ lim ∧ 0 ≤ k ∧ k ≤ lim ∧ 1 ≤ n ∧ n ≤ lim ∧ ∀ r, σ r = none → Q (.ref r) (upd σ r (.list (stepped vs k.toNat n.toNat)))
  | _, _, _ => False

noncomputable def itemsOf (σ : Store) (v : AV) : Option (List AV × Option Adr) :=
  match v with
  | .ref a => match at? σ a with
    | some (.list vs) => some (vs, some a)
    | some (.tuple vs) => some (vs, some a)
    | some (.range lo n st) => some ((List.range n).map (fun (i : Nat) => AV.int (lo + (i : Int) * st)), none)
    | some (.dict es) => match σ a with
      | some (.dict _) => some (es.map (fun e => AV.int e.1), some a)
      | _ => none
    | some (.dvals d) => match at? σ d with
      | some (.dict es) => some (es.map (·.2), some d)
      | _ => none
    | _ => none
  | _ => none
noncomputable def pairsOf (σ : Store) (v : AV) : Option (List (Int × AV) × Adr) :=
  match v with
  | .ref a => match at? σ a with
    | some (.ditems d) => match at? σ d with
      | some (.dict es) => some (es, d)
      | _ => none
    | _ => none
  | _ => none
noncomputable def lock (σ : Store) : Option Adr → Store
  | none => σ
  | some b => match σ b with
    | some o => upd σ b (.ro o.rd)
    | none => σ
noncomputable def Locked (σ σ' : Store) : Option Adr → Prop
  | none => True
  | some b => σ' b = lock σ (some b) b
noncomputable def unlock (σ σ' : Store) : Option Adr → Store
  | none => σ'
  | some b => fun c => if c = b then σ b else σ' c

noncomputable def LcT (B : (AV → Mem → Store → Prop) → Mem → Store → Prop) (I : Nat → List AV → Store → Prop) (i : Nat) (acc : List AV) (t : Bool) (m : Mem) (σ : Store) : Prop :=
  match t with
  | false => Fg σ (I (i + 1) acc)
  | true => B (fun z _ σ₂ => Fg σ₂ (I (i + 1) (acc ++ [z]))) m σ
inductive LcP (T : (Bool → Mem → Store → Prop) → Mem → Store → Prop) (B : (AV → Mem → Store → Prop) → Mem → Store → Prop) (Q : AV → Mem → Store → Prop) (x : AV) (m : Mem) (σ : Store) : Prop
  | mk (vs : List AV) (b : Option Adr) (h1 : itemsOf σ x = some (vs, b)) (h2 : vs.length ≤ lim) (I : Nat → List AV → Store → Prop) (h3 : I 0 [] (lock σ b)) (h4 : ∀ i acc σ', I i acc σ' → Locked σ σ' b)
    (h5 : ∀ i y acc σ', vs[i]? = some y → I i acc σ' → acc.length ≤ i → T (LcT B I i acc) (m ++ [some y]) σ')
    (h6 : ∀ acc σ', I vs.length acc σ' → acc.length ≤ vs.length → ∀ r, unlock σ σ' b r = none → Q (.ref r) m (upd (unlock σ σ' b) r (.list acc)))
noncomputable def DcT (I : Nat → List (Int × AV) → Store → Prop) (i : Nat) (acc : List (Int × AV)) (z : AV) (u : AV) (_ : Mem) (σ : Store) : Prop := ∃ n, z = .int n ∧ Fg σ (I (i + 1) (dput acc n u))
inductive DcP (K V : (AV → Mem → Store → Prop) → Mem → Store → Prop) (Q : AV → Mem → Store → Prop) (x : AV) (m : Mem) (σ : Store) : Prop
  | mk (vs : List AV) (b : Option Adr) (h1 : itemsOf σ x = some (vs, b)) (h2 : vs.length ≤ lim) (I : Nat → List (Int × AV) → Store → Prop) (h3 : I 0 [] (lock σ b)) (h4 : ∀ i acc σ', I i acc σ' → Locked σ σ' b)
    (h5 : ∀ i y acc σ', vs[i]? = some y → I i acc σ' → acc.length ≤ i → K (fun z m₁ σ₁ => V (DcT I i acc z) m₁ σ₁) (m ++ [some y]) σ')
    (h6 : ∀ acc σ', I vs.length acc σ' → acc.length ≤ vs.length → ∀ r, unlock σ σ' b r = none → Q (.ref r) m (upd (unlock σ σ' b) r (.dict acc)))

mutual
noncomputable def W (C : Ctr) : PE → (AV → Mem → Store → Prop) → Mem → Store → Prop
  | .int i, Q, m, σ => Q (.int i) m σ
  | .none, Q, m, σ => Q .none m σ
  | .bool b, Q, m, σ => Q (.bool b) m σ
  | .var i, Q, m, σ => match m[i]? with
    | some (some v) => Q v m σ
    | _ => False
  | .glob v, Q, m, σ => Q v m σ
  | .bin op a b, Q, m, σ => W C a (fun x m σ => W C b (fun y m σ => Bin op x y (fun v σ => Q v m σ) σ) m σ) m σ
  | .neg a, Q, m, σ => W C a (fun x m σ => match x with | .int i => Q (.int (-i)) m σ | _ => False) m σ
  | .cmp op a b, Q, m, σ => W C a (fun x m σ => W C b (fun y m σ => Cmp op x y (fun t => Q (.bool t) m σ) σ) m σ) m σ
  | .or a b, Q, m, σ => W C a (fun x m σ => Tru x (fun t => match t with | true => Q x m σ | false => W C b Q m σ) σ) m σ
  | .ite t a b, Q, m, σ => WT C t (fun t m σ => match t with | true => W C a Q m σ | false => W C b Q m σ) m σ
  | .walrus i a, Q, m, σ => W C a (fun x m σ => i < m.length ∧ Q x (m.set i (some x)) σ) m σ
  | .list es, Q, m, σ => WL C es (fun vs m σ => vs.length ≤ lim ∧ ∀ r, σ r = none → Q (.ref r) m (upd σ r (.list vs))) m σ
  | .tuple es, Q, m, σ => WL C es (fun vs m σ => vs.length ≤ lim ∧ ∀ r, σ r = none → Q (.ref r) m (upd σ r (.tuple vs))) m σ
  | .call f args, Q, m, σ => W C f (fun g m σ => WL C args (fun vs m σ => Call C g vs (fun v σ => Q v m σ) σ) m σ) m σ
  | .mcall o f args, Q, m, σ => W C o (fun g m σ => methOk (Mk σ g) f = true ∧ WL C args (fun vs m σ' => Mk σ' g = Mk σ g ∧ Mcall C f g vs (fun v σ => Q v m σ) σ') m σ) m σ
  | .mcallS o f args star, Q, m, σ => W C o (fun g m σ => Mk σ g = 4 ∧ f.addr.isSome = true ∧ WL C args (fun vs m σ => W C star (fun l m σ =>
      ∃ a xs, l = .ref a ∧ at? σ a = some (.list xs) ∧ xs.length ≤ lim ∧ Mk σ g = 4 ∧ Mcall C f g (vs ++ xs) (fun v σ => Q v m σ) σ) m σ) m σ) m σ
  | .attr o f, Q, m, σ => W C o (fun x m σ => Attr f x (fun v σ => Q v m σ) σ) m σ
  | .sub o i, Q, m, σ => W C o (fun x m σ => W C i (fun y m σ => GetItem x y (fun v => Q v m σ) σ) m σ) m σ
  | .sliceTo o i, Q, m, σ => W C o (fun x m σ => W C i (fun y m σ => SliceTo x y (fun v σ => Q v m σ) σ) m σ) m σ
  | .sliceFrom o i, Q, m, σ => W C o (fun x m σ => W C i (fun y m σ => SliceFrom x y (fun v σ => Q v m σ) σ) m σ) m σ
  | .sliceStep o i j, Q, m, σ => W C o (fun x m σ => W C i (fun y m σ => W C j (fun z m σ => SliceStep x y z (fun v σ => Q v m σ) σ) m σ) m σ) m σ
  | .lcomp elt it c, Q, m, σ => W C it (fun x m σ => LcP (fun Q m σ => WT C c Q m σ) (fun Q m σ => W C elt Q m σ) Q x m σ) m σ
  | .edict, Q, m, σ => ∀ r, σ r = none → Q (.ref r) m (upd σ r (.dict []))
  | .dcomp k v it, Q, m, σ => W C it (fun x m σ => DcP (fun Q m σ => W C k Q m σ) (fun Q m σ => W C v Q m σ) Q x m σ) m σ
noncomputable def WL (C : Ctr) : PL → (List AV → Mem → Store → Prop) → Mem → Store → Prop
  | .nil, Q, m, σ => Q [] m σ
  | .cons e r, Q, m, σ => W C e (fun v m σ => WL C r (fun vs m σ => Q (v :: vs) m σ) m σ) m σ
noncomputable def WT (C : Ctr) : PT → (Bool → Mem → Store → Prop) → Mem → Store → Prop
  | .tt, Q, m, σ => Q true m σ
  | .tv e, Q, m, σ => W C e (fun v m σ => Tru v (fun t => Q t m σ) σ) m σ
  | .not t, Q, m, σ => WT C t (fun b m σ => Q (!b) m σ) m σ
  | .and a b, Q, m, σ => WT C a (fun t m σ => match t with | true => WT C b Q m σ | false => Q false m σ) m σ
  | .or a b, Q, m, σ => WT C a (fun t m σ => match t with | true => Q true m σ | false => WT C b Q m σ) m σ
end

noncomputable def put (m : Mem) (i : Nat) (v : AV) : Mem := m.set i (some v)

noncomputable abbrev Post := Flw → Mem → Store → Prop
inductive LoopK (I : Nat → Mem → Store → Prop) (Q : Post) (n : Nat) (K : Post) : Prop
  | mk (next : ∀ k m σ, k < n → Fg σ (I k m) → K .next m σ) (cont : ∀ k m σ, k < n → Fg σ (I k m) → K .cont m σ) (brk : ∀ m σ, Q .next m σ → K .brk m σ) (ret : ∀ v m σ, Q (.ret v) m σ → K (.ret v) m σ)
inductive LoopP (T : (Bool → Mem → Store → Prop) → Mem → Store → Prop) (B E : Post → Mem → Store → Prop) (Q : Post) (m : Mem) (σ : Store) : Prop
  | mk (I : Nat → Mem → Store → Prop) (n : Nat) (h0 : I n m σ) (h1 : ∀ n m σ K, I n m σ → LoopK I Q n K → T (fun t m σ => match t with | true => B K m σ | false => E Q m σ) m σ)
inductive EachK (I : Nat → Mem → Store → Prop) (Q : Post) (c : Option Adr) (σ : Store) (i : Nat) (K : Post) : Prop
  | mk (next : ∀ m₁ σ₁, Fg σ₁ (I (i + 1) m₁) → K .next m₁ σ₁) (cont : ∀ m₁ σ₁, Fg σ₁ (I (i + 1) m₁) → K .cont m₁ σ₁) (ret : ∀ r m₁ σ₁, Locked σ σ₁ c → Q (.ret r) m₁ (unlock σ σ₁ c) → K (.ret r) m₁ σ₁)
inductive EachP (B : Post → Mem → Store → Prop) (x : Nat) (Q : Post) (v : AV) (m : Mem) (σ : Store) : Prop
  | mk (vs : List AV) (c : Option Adr) (h1 : itemsOf σ v = some (vs, c)) (h2 : vs.length ≤ lim) (h3 : x < m.length) (I : Nat → Mem → Store → Prop) (h4 : I 0 m (lock σ c)) (h5 : ∀ i m' σ', I i m' σ' → m'.length = m.length ∧ Locked σ σ' c)
    (h6 : ∀ i y m' σ' K, vs[i]? = some y → I i m' σ' → EachK I Q c σ i K → B K (put m' x y) σ')
    (h7 : ∀ m' σ', I vs.length m' σ' → Q .next m' (unlock σ σ' c))
inductive Each2P (B : Post → Mem → Store → Prop) (x y : Nat) (Q : Post) (v : AV) (m : Mem) (σ : Store) : Prop
  | mk (es : List (Int × AV)) (c : Adr) (h1 : pairsOf σ v = some (es, c)) (h2 : es.length ≤ lim) (h3 : x < m.length) (h3' : y < m.length) (I : Nat → Mem → Store → Prop) (h4 : I 0 m (lock σ (some c))) (h5 : ∀ i m' σ', I i m' σ' → m'.length = m.length ∧ Locked σ σ' (some c))
    (h6 : ∀ i k u m' σ' (K : Post), es[i]? = some (k, u) → I i m' σ' → (∀ m₁ σ₁, Fg σ₁ (I (i + 1) m₁) → K .next m₁ σ₁) → B K (put (put m' x (.int k)) y u) σ')
    (h7 : ∀ m' σ', I es.length m' σ' → Q .next m' (unlock σ σ' (some c)))
inductive NextP (H : Post → Mem → Store → Prop) (x : Nat) (Q : Post) (v : AV) (m : Mem) (σ : Store) : Prop
  | mk (w it l : Adr) (i : Nat) (xs : List AV) (e : v = .ref w) (h1 : at? σ w = some (.nextw it)) (h2 : σ it = some (.liter l i)) (h3 : at? σ l = some (.list xs)) (h4 : xs.length ≤ lim) (h5 : x < m.length)
    (some : ∀ y, xs[i]? = some y → Q .brk (put m x y) (upd σ it (.liter l (i + 1)))) (none : xs[i]? = none → H Q m (del σ it))

noncomputable def WS (C : Ctr) : PS → (Flw → Mem → Store → Prop) → Mem → Store → Prop
  | .skip, Q, m, σ => Q .next m σ
  | .bad, _, _, _ => False
  | .brk, Q, m, σ => Q .brk m σ
  | .cont, Q, m, σ => Q .cont m σ
  | .expr e, Q, m, σ => W C e (fun _ m σ => Q .next m σ) m σ
  | .assign i e, Q, m, σ => W C e (fun v m σ => i < m.length ∧ Q .next (put m i v) σ) m σ
  | .assign3 i j k e, Q, m, σ => W C e (fun v m σ => ∃ a x y z, v = .ref a ∧ at? σ a = some (.tuple [x, y, z]) ∧ i < m.length ∧ j < m.length ∧ k < m.length ∧ Q .next (put (put (put m i x) j y) k z) σ) m σ
  | .setItem o i e, Q, m, σ => W C e (fun v m σ => W C o (fun x m σ => W C i (fun y m σ => SetItem x y v (fun σ => Q .next m σ) σ) m σ) m σ) m σ
  | .setItemVar o i n e, Q, m, σ => W C e (fun v m σ => W C o (fun x m σ => W C i (fun y m σ => SetItem x y v (fun σ => n < m.length ∧ Q .next (put m n v) σ) σ) m σ) m σ) m σ
  | .setAttr o f e, Q, m, σ => W C e (fun v m σ => W C o (fun x m σ => SetAttr f x v (fun σ => Q .next m σ) σ) m σ) m σ
  | .augAttr o f op e, Q, m, σ => W C o (fun x m σ => Attr f x (fun old σ => W C e (fun v m σ => (∃ i, v = .int i) ∧ (∃ j, old = .int j) ∧ Bin op old v (fun r σ => SetAttr f x r (fun σ => Q .next m σ) σ) σ) m σ) σ) m σ
  | .augSub o i op e, Q, m, σ => W C o (fun x m σ => W C i (fun y m σ => GetItem x y (fun old => W C e (fun v m σ => (∃ i, v = .int i) ∧ (∃ j, old = .int j) ∧ Bin op old v (fun r σ => SetItem x y r (fun σ => Q .next m σ) σ) σ) m σ) σ) m σ) m σ
  | .delSub o i, Q, m, σ => W C o (fun x m σ => W C i (fun y m σ => DelItem x y (fun σ => Q .next m σ) σ) m σ) m σ
  | .ret e, Q, m, σ => W C e (fun v m σ => Q (.ret v) m σ) m σ
  | .ite t a b, Q, m, σ => WT C t (fun t m σ => match t with | true => WS C a Q m σ | false => WS C b Q m σ) m σ
  | .loop t b els, Q, m, σ => LoopP (fun Q m σ => WT C t Q m σ) (fun Q m σ => WS C b Q m σ) (fun Q m σ => WS C els Q m σ) Q m σ
  | .each x it b, Q, m, σ => W C it (fun v m σ => EachP (fun Q m σ => WS C b Q m σ) x Q v m σ) m σ
  | .each2 x y it b, Q, m, σ => W C it (fun v m σ => Each2P (fun Q m σ => WS C b Q m σ) x y Q v m σ) m σ
  | .tryNext x f h, Q, m, σ => W C f (fun v m σ => NextP (fun Q m σ => WS C h Q m σ) x Q v m σ) m σ
  | .seq a b, Q, m, σ => WS C a (fun f m σ => match f with
      | .next => WS C b Q m σ
      | .brk => Q .brk m σ
      | .cont => Q .cont m σ
      | .ret v => Q (.ret v) m σ) m σ

noncomputable def Br (a b : Mem → Store → Prop) (t : Bool) (m : Mem) (σ : Store) : Prop := match t with
  | true => a m σ
  | false => b m σ
noncomputable def Sq (r : Mem → Store → Prop) (Q : Post) (f : Flw) (m : Mem) (σ : Store) : Prop := match f with
  | .next => r m σ
  | .brk => Q .brk m σ
  | .cont => Q .cont m σ
  | .ret v => Q (.ret v) m σ
theorem LcT_t {B I i acc m σ} : LcT B I i acc true m σ = B (fun z _ σ₂ => Fg σ₂ (I (i + 1) (acc ++ [z]))) m σ := rfl
theorem LcT_f {B I i acc m σ} : LcT B I i acc false m σ = Fg σ (I (i + 1) acc) := rfl
theorem DcT_ {I i acc z u m σ} : DcT I i acc z u m σ = ∃ n, z = .int n ∧ Fg σ (I (i + 1) (dput acc n u)) := rfl
theorem Br_t {a b : Mem → Store → Prop} {m σ} : Br a b true m σ = a m σ := rfl
theorem Br_f {a b : Mem → Store → Prop} {m σ} : Br a b false m σ = b m σ := rfl
theorem Sq_n {r Q m σ} : Sq r Q .next m σ = r m σ := rfl
theorem Sq_b {r Q m σ} : Sq r Q .brk m σ = Q .brk m σ := rfl
theorem Sq_c {r Q m σ} : Sq r Q .cont m σ = Q .cont m σ := rfl
theorem Sq_r {r Q m σ v} : Sq r Q (.ret v) m σ = Q (.ret v) m σ := rfl
theorem W_1 {C} {Q} {m} {σ} {i} : W C (.int i) Q m σ = (Q (.int i) m σ) := rfl
theorem W_2 {C} {Q} {m} {σ} : W C .none Q m σ = (Q .none m σ) := rfl
theorem W_3 {C} {Q} {m} {σ} {b} : W C (.bool b) Q m σ = (Q (.bool b) m σ) := rfl
theorem W_4 {C} {Q} {m} {σ} {i} : W C (.var i) Q m σ = (match m[i]? with
    | some (some v) => Q v m σ
    | _ => False) := rfl
theorem W_5 {C} {Q} {m} {σ} {v} : W C (.glob v) Q m σ = (Q v m σ) := rfl
theorem W_6 {C} {Q} {m} {σ} {op} {a} {b} : W C (.bin op a b) Q m σ = (W C a (fun x m σ => W C b (fun y m σ => Bin op x y (fun v σ => Q v m σ) σ) m σ) m σ) := rfl
theorem W_7 {C} {Q} {m} {σ} {a} : W C (.neg a) Q m σ = (W C a (fun x m σ => match x with | .int i => Q (.int (-i)) m σ | _ => False) m σ) := rfl
theorem W_8 {C} {Q} {m} {σ} {op} {a} {b} : W C (.cmp op a b) Q m σ = (W C a (fun x m σ => W C b (fun y m σ => Cmp op x y (fun t => Q (.bool t) m σ) σ) m σ) m σ) := rfl
theorem W_9 {C} {Q} {m} {σ} {a} {b} : W C (.or a b) Q m σ = W C a (fun x m σ => Tru x (fun t => Br (Q x) (W C b Q) t m σ) σ) m σ := rfl
theorem W_10 {C} {Q} {m} {σ} {t} {a} {b} : W C (.ite t a b) Q m σ = WT C t (Br (W C a Q) (W C b Q)) m σ := rfl
theorem W_11 {C} {Q} {m} {σ} {i} {a} : W C (.walrus i a) Q m σ = (W C a (fun x m σ => i < m.length ∧ Q x (m.set i (some x)) σ) m σ) := rfl
theorem W_12 {C} {Q} {m} {σ} {es} : W C (.list es) Q m σ = (WL C es (fun vs m σ => vs.length ≤ lim ∧ ∀ r, σ r = none → Q (.ref r) m (upd σ r (.list vs))) m σ) := rfl
theorem W_13 {C} {Q} {m} {σ} {es} : W C (.tuple es) Q m σ = (WL C es (fun vs m σ => vs.length ≤ lim ∧ ∀ r, σ r = none → Q (.ref r) m (upd σ r (.tuple vs))) m σ) := rfl
theorem W_14 {C} {Q} {m} {σ} {f} {args} : W C (.call f args) Q m σ = (W C f (fun g m σ => WL C args (fun vs m σ => Call C g vs (fun v σ => Q v m σ) σ) m σ) m σ) := rfl
theorem W_15 {C} {Q} {m} {σ} {o} {f} {args} : W C (.mcall o f args) Q m σ = (W C o (fun g m σ => methOk (Mk σ g) f = true ∧ WL C args (fun vs m σ' => Mk σ' g = Mk σ g ∧ Mcall C f g vs (fun v σ => Q v m σ) σ') m σ) m σ) := rfl
theorem W_16 {C} {Q} {m} {σ} {o} {f} {args} {star} : W C (.mcallS o f args star) Q m σ = (W C o (fun g m σ => Mk σ g = 4 ∧ f.addr.isSome = true ∧ WL C args (fun vs m σ => W C star (fun l m σ =>
      ∃ a xs, l = .ref a ∧ at? σ a = some (.list xs) ∧ xs.length ≤ lim ∧ Mk σ g = 4 ∧ Mcall C f g (vs ++ xs) (fun v σ => Q v m σ) σ) m σ) m σ) m σ) := rfl
theorem W_17 {C} {Q} {m} {σ} {o} {f} : W C (.attr o f) Q m σ = (W C o (fun x m σ => Attr f x (fun v σ => Q v m σ) σ) m σ) := rfl
theorem W_18 {C} {Q} {m} {σ} {o} {i} : W C (.sub o i) Q m σ = (W C o (fun x m σ => W C i (fun y m σ => GetItem x y (fun v => Q v m σ) σ) m σ) m σ) := rfl
theorem W_19 {C} {Q} {m} {σ} {o} {i} : W C (.sliceTo o i) Q m σ = (W C o (fun x m σ => W C i (fun y m σ => SliceTo x y (fun v σ => Q v m σ) σ) m σ) m σ) := rfl
theorem W_20 {C} {Q} {m} {σ} {o} {i} : W C (.sliceFrom o i) Q m σ = (W C o (fun x m σ => W C i (fun y m σ => SliceFrom x y (fun v σ => Q v m σ) σ) m σ) m σ) := rfl
theorem W_21 {C} {Q} {m} {σ} {o} {i} {j} : W C (.sliceStep o i j) Q m σ = (W C o (fun x m σ => W C i (fun y m σ => W C j (fun z m σ => SliceStep x y z (fun v σ => Q v m σ) σ) m σ) m σ) m σ) := rfl
theorem W_22 {C} {Q} {m} {σ} {elt} {it} {c} : W C (.lcomp elt it c) Q m σ = (W C it (fun x m σ => LcP (fun Q m σ => WT C c Q m σ) (fun Q m σ => W C elt Q m σ) Q x m σ) m σ) := rfl
theorem W_23 {C} {Q} {m} {σ} : W C .edict Q m σ = (∀ r, σ r = none → Q (.ref r) m (upd σ r (.dict []))) := rfl
theorem W_24 {C} {Q} {m} {σ} {k} {v} {it} : W C (.dcomp k v it) Q m σ = (W C it (fun x m σ => DcP (fun Q m σ => W C k Q m σ) (fun Q m σ => W C v Q m σ) Q x m σ) m σ) := rfl
theorem WL_1 {C} {Q} {m} {σ} : WL C .nil Q m σ = (Q [] m σ) := rfl
theorem WL_2 {C} {Q} {m} {σ} {e} {r} : WL C (.cons e r) Q m σ = (W C e (fun v m σ => WL C r (fun vs m σ => Q (v :: vs) m σ) m σ) m σ) := rfl
theorem WT_1 {C} {Q} {m} {σ} : WT C .tt Q m σ = (Q true m σ) := rfl
theorem WT_2 {C} {Q} {m} {σ} {e} : WT C (.tv e) Q m σ = (W C e (fun v m σ => Tru v (fun t => Q t m σ) σ) m σ) := rfl
theorem WT_3 {C} {Q} {m} {σ} {t} : WT C (.not t) Q m σ = (WT C t (fun b m σ => Q (!b) m σ) m σ) := rfl
theorem WT_4 {C} {Q} {m} {σ} {a} {b} : WT C (.and a b) Q m σ = WT C a (Br (WT C b Q) (Q false)) m σ := rfl
theorem WT_5 {C} {Q} {m} {σ} {a} {b} : WT C (.or a b) Q m σ = WT C a (Br (Q true) (WT C b Q)) m σ := rfl
theorem WS_1 {C} {Q} {m} {σ} : WS C .skip Q m σ = (Q .next m σ) := rfl
theorem WS_2 {C} {Q} {m} {σ} : WS C .bad Q m σ = (False) := rfl
theorem WS_3 {C} {Q} {m} {σ} : WS C .brk Q m σ = (Q .brk m σ) := rfl
theorem WS_4 {C} {Q} {m} {σ} : WS C .cont Q m σ = (Q .cont m σ) := rfl
theorem WS_5 {C} {Q} {m} {σ} {e} : WS C (.expr e) Q m σ = (W C e (fun _ m σ => Q .next m σ) m σ) := rfl
theorem WS_6 {C} {Q} {m} {σ} {i} {e} : WS C (.assign i e) Q m σ = (W C e (fun v m σ => i < m.length ∧ Q .next (put m i v) σ) m σ) := rfl
theorem WS_7 {C} {Q} {m} {σ} {i} {j} {k} {e} : WS C (.assign3 i j k e) Q m σ = (W C e (fun v m σ => ∃ a x y z, v = .ref a ∧ at? σ a = some (.tuple [x, y, z]) ∧ i < m.length ∧ j < m.length ∧ k < m.length ∧ Q .next (put (put (put m i x) j y) k z) σ) m σ) := rfl
theorem WS_8 {C} {Q} {m} {σ} {o} {i} {e} : WS C (.setItem o i e) Q m σ = (W C e (fun v m σ => W C o (fun x m σ => W C i (fun y m σ => SetItem x y v (fun σ => Q .next m σ) σ) m σ) m σ) m σ) := rfl
theorem WS_9 {C} {Q} {m} {σ} {o} {i} {n} {e} : WS C (.setItemVar o i n e) Q m σ = (W C e (fun v m σ => W C o (fun x m σ => W C i (fun y m σ => SetItem x y v (fun σ => n < m.length ∧ Q .next (put m n v) σ) σ) m σ) m σ) m σ) := rfl
theorem WS_10 {C} {Q} {m} {σ} {o} {f} {e} : WS C (.setAttr o f e) Q m σ = (W C e (fun v m σ => W C o (fun x m σ => SetAttr f x v (fun σ => Q .next m σ) σ) m σ) m σ) := rfl
theorem WS_11 {C} {Q} {m} {σ} {o} {f} {op} {e} : WS C (.augAttr o f op e) Q m σ = (W C o (fun x m σ => Attr f x (fun old σ => W C e (fun v m σ => (∃ i, v = .int i) ∧ (∃ j, old = .int j) ∧ Bin op old v (fun r σ => SetAttr f x r (fun σ => Q .next m σ) σ) σ) m σ) σ) m σ) := rfl
theorem WS_12 {C} {Q} {m} {σ} {o} {i} {op} {e} : WS C (.augSub o i op e) Q m σ = (W C o (fun x m σ => W C i (fun y m σ => GetItem x y (fun old => W C e (fun v m σ => (∃ i, v = .int i) ∧ (∃ j, old = .int j) ∧ Bin op old v (fun r σ => SetItem x y r (fun σ => Q .next m σ) σ) σ) m σ) σ) m σ) m σ) := rfl
theorem WS_13 {C} {Q} {m} {σ} {o} {i} : WS C (.delSub o i) Q m σ = (W C o (fun x m σ => W C i (fun y m σ => DelItem x y (fun σ => Q .next m σ) σ) m σ) m σ) := rfl
theorem WS_14 {C} {Q} {m} {σ} {e} : WS C (.ret e) Q m σ = (W C e (fun v m σ => Q (.ret v) m σ) m σ) := rfl
theorem WS_15 {C} {Q} {m} {σ} {t} {a} {b} : WS C (.ite t a b) Q m σ = WT C t (Br (WS C a Q) (WS C b Q)) m σ := rfl
theorem WS_16 {C} {Q} {m} {σ} {t} {b} {els} : WS C (.loop t b els) Q m σ = (LoopP (fun Q m σ => WT C t Q m σ) (fun Q m σ => WS C b Q m σ) (fun Q m σ => WS C els Q m σ) Q m σ) := rfl
theorem WS_17 {C} {Q} {m} {σ} {x} {it} {b} : WS C (.each x it b) Q m σ = (W C it (fun v m σ => EachP (fun Q m σ => WS C b Q m σ) x Q v m σ) m σ) := rfl
theorem WS_18 {C} {Q} {m} {σ} {x} {y} {it} {b} : WS C (.each2 x y it b) Q m σ = (W C it (fun v m σ => Each2P (fun Q m σ => WS C b Q m σ) x y Q v m σ) m σ) := rfl
theorem WS_19 {C} {Q} {m} {σ} {x} {f} {h} : WS C (.tryNext x f h) Q m σ = (W C f (fun v m σ => NextP (fun Q m σ => WS C h Q m σ) x Q v m σ) m σ) := rfl
theorem WS_20 {C} {Q} {m} {σ} {a} {b} : WS C (.seq a b) Q m σ = WS C a (Sq (WS C b Q) Q) m σ := rfl

end Mine
end
section
namespace Mine
open PySem (Expr Stmt Str NameKind Operator CmpOp Comprehension ExceptHandler Keyword Scope Pos Const UnaryOp BoolOp)

structure TC where
  names : List (Str × NameKind)
  vt : List (Str × Nat)
  nx : Nat
  calm : Bool

noncomputable def gl : List (Str × AV) := [
  ("heappush", .ref 28), ("heapreplace", .ref 35), ("_siftdown", .ref 42), ("_siftup", .ref 49), ("_NodeInfo", .ref 68), ("TopologicalSorter", .ref 165),
  ("_law_dealt", .ref 174), ("_law_up", .ref 179), ("_law_down", .ref 186), ("_law_tables", .ref 191),
  ("_NODE_OUT", .int (-1)), ("_NODE_DONE", .int (-2)),
  ("len", .blt .len), ("sum", .blt .sum), ("range", .blt .range), ("sorted", .blt .sorted), ("abs", .blt .abs), ("min", .blt .min), ("max", .blt .max),
  ("list", .blt .list), ("tuple", .blt .tuple), ("set", .blt .set), ("bool", .blt .bool), ("iter", .blt .iter)]

noncomputable def flds : List (Str × Fld) := [("_node2info", .n2i), ("_ready_nodes", .ready), ("_npassedout", .npass), ("_nfinished", .nfin), ("node", .node), ("npredecessors", .npred), ("successors", .succ), ("__next__", .next)]
noncomputable def meths : List (Str × Meth) := [("append", .append), ("pop", .pop), ("clear", .clear), ("get", .get), ("items", .items), ("values", .values), ("add", .add), ("prepare", .prepare), ("get_ready", .getready), ("is_active", .isactive), ("done", .done),
  ("_find_cycle", .findcycle), ("_get_nodeinfo", .getinfo)]

noncomputable def bop : Operator → Option BOp
  | .Add => some .add | .Sub => some .sub | .Mult => some .mul | .FloorDiv => some .fdiv | .Mod => some .mod | .RShift => some .shr
  | _ => none
noncomputable def cop : CmpOp → Option COp
  | .Lt => some .lt | .Gt => some .gt | .GtE => some .ge | .Eq => some .eq | .NotEq => some .ne | .Is => some .is | .IsNot => some .isnot | .In => some .mem
  | _ => none

noncomputable def onIf {α : Type} {P : Prop} [Decidable P] (f : P → α) : Option α := if h : P then some (f h) else none
noncomputable def xConstant (e : Expr) : Option {a : Const × Nat × Pos // e = Expr.Constant a.1 a.2.1 a.2.2} := onIf fun h : e.ctorIdx = 19 => Expr.Constant.elim (motive_1 := fun e => {a : Const × Nat × Pos // e = Expr.Constant a.1 a.2.1 a.2.2}) e h fun v0 v1 v2 => ⟨(v0, v1, v2), rfl⟩
noncomputable def xName (e : Expr) : Option {a : Str × Pos // e = Expr.Name a.1 a.2} := onIf fun h : e.ctorIdx = 23 => Expr.Name.elim (motive_1 := fun e => {a : Str × Pos // e = Expr.Name a.1 a.2}) e h fun v0 v1 => ⟨(v0, v1), rfl⟩
noncomputable def xBinOp (e : Expr) : Option {a : Expr × Operator × Expr × Pos // e = Expr.BinOp a.1 a.2.1 a.2.2.1 a.2.2.2} := onIf fun h : e.ctorIdx = 2 => Expr.BinOp.elim (motive_1 := fun e => {a : Expr × Operator × Expr × Pos // e = Expr.BinOp a.1 a.2.1 a.2.2.1 a.2.2.2}) e h fun v0 v1 v2 v3 => ⟨(v0, v1, v2, v3), rfl⟩
noncomputable def xUnaryOp (e : Expr) : Option {a : UnaryOp × Expr × Pos // e = Expr.UnaryOp a.1 a.2.1 a.2.2} := onIf fun h : e.ctorIdx = 3 => Expr.UnaryOp.elim (motive_1 := fun e => {a : UnaryOp × Expr × Pos // e = Expr.UnaryOp a.1 a.2.1 a.2.2}) e h fun v0 v1 v2 => ⟨(v0, v1, v2), rfl⟩
noncomputable def xCompare (e : Expr) : Option {a : Expr × (List CmpOp) × (List Expr) × Pos // e = Expr.Compare a.1 a.2.1 a.2.2.1 a.2.2.2} := onIf fun h : e.ctorIdx = 15 => Expr.Compare.elim (motive_1 := fun e => {a : Expr × (List CmpOp) × (List Expr) × Pos // e = Expr.Compare a.1 a.2.1 a.2.2.1 a.2.2.2}) e h fun v0 v1 v2 v3 => ⟨(v0, v1, v2, v3), rfl⟩
noncomputable def xBoolOp (e : Expr) : Option {a : BoolOp × (List Expr) × Pos // e = Expr.BoolOp a.1 a.2.1 a.2.2} := onIf fun h : e.ctorIdx = 0 => Expr.BoolOp.elim (motive_1 := fun e => {a : BoolOp × (List Expr) × Pos // e = Expr.BoolOp a.1 a.2.1 a.2.2}) e h fun v0 v1 v2 => ⟨(v0, v1, v2), rfl⟩
noncomputable def xIfExp (e : Expr) : Option {a : Expr × Expr × Expr × Pos // e = Expr.IfExp a.1 a.2.1 a.2.2.1 a.2.2.2} := onIf fun h : e.ctorIdx = 5 => Expr.IfExp.elim (motive_1 := fun e => {a : Expr × Expr × Expr × Pos // e = Expr.IfExp a.1 a.2.1 a.2.2.1 a.2.2.2}) e h fun v0 v1 v2 v3 => ⟨(v0, v1, v2, v3), rfl⟩
noncomputable def xNamedExpr (e : Expr) : Option {a : Expr × Expr × Pos // e = Expr.NamedExpr a.1 a.2.1 a.2.2} := onIf fun h : e.ctorIdx = 1 => Expr.NamedExpr.elim (motive_1 := fun e => {a : Expr × Expr × Pos // e = Expr.NamedExpr a.1 a.2.1 a.2.2}) e h fun v0 v1 v2 => ⟨(v0, v1, v2), rfl⟩
noncomputable def xDict (e : Expr) : Option {a : (List (Option Expr)) × (List Expr) × Pos // e = Expr.Dict a.1 a.2.1 a.2.2} := onIf fun h : e.ctorIdx = 6 => Expr.Dict.elim (motive_1 := fun e => {a : (List (Option Expr)) × (List Expr) × Pos // e = Expr.Dict a.1 a.2.1 a.2.2}) e h fun v0 v1 v2 => ⟨(v0, v1, v2), rfl⟩
noncomputable def xList (e : Expr) : Option {a : (List Expr) × Pos // e = Expr.List a.1 a.2} := onIf fun h : e.ctorIdx = 24 => Expr.List.elim (motive_1 := fun e => {a : (List Expr) × Pos // e = Expr.List a.1 a.2}) e h fun v0 v1 => ⟨(v0, v1), rfl⟩
noncomputable def xTuple (e : Expr) : Option {a : (List Expr) × Nat × Pos // e = Expr.Tuple a.1 a.2.1 a.2.2} := onIf fun h : e.ctorIdx = 25 => Expr.Tuple.elim (motive_1 := fun e => {a : (List Expr) × Nat × Pos // e = Expr.Tuple a.1 a.2.1 a.2.2}) e h fun v0 v1 v2 => ⟨(v0, v1, v2), rfl⟩
noncomputable def xCall (e : Expr) : Option {a : Expr × (List Expr) × (List Keyword) × Pos // e = Expr.Call a.1 a.2.1 a.2.2.1 a.2.2.2} := onIf fun h : e.ctorIdx = 16 => Expr.Call.elim (motive_1 := fun e => {a : Expr × (List Expr) × (List Keyword) × Pos // e = Expr.Call a.1 a.2.1 a.2.2.1 a.2.2.2}) e h fun v0 v1 v2 v3 => ⟨(v0, v1, v2, v3), rfl⟩
noncomputable def xAttribute (e : Expr) : Option {a : Expr × Str × Pos // e = Expr.Attribute a.1 a.2.1 a.2.2} := onIf fun h : e.ctorIdx = 20 => Expr.Attribute.elim (motive_1 := fun e => {a : Expr × Str × Pos // e = Expr.Attribute a.1 a.2.1 a.2.2}) e h fun v0 v1 v2 => ⟨(v0, v1, v2), rfl⟩
noncomputable def xSubscript (e : Expr) : Option {a : Expr × Expr × Pos // e = Expr.Subscript a.1 a.2.1 a.2.2} := onIf fun h : e.ctorIdx = 21 => Expr.Subscript.elim (motive_1 := fun e => {a : Expr × Expr × Pos // e = Expr.Subscript a.1 a.2.1 a.2.2}) e h fun v0 v1 v2 => ⟨(v0, v1, v2), rfl⟩
noncomputable def xListComp (e : Expr) : Option {a : Expr × (List Comprehension) × Scope × Pos // e = Expr.ListComp a.1 a.2.1 a.2.2.1 a.2.2.2} := onIf fun h : e.ctorIdx = 8 => Expr.ListComp.elim (motive_1 := fun e => {a : Expr × (List Comprehension) × Scope × Pos // e = Expr.ListComp a.1 a.2.1 a.2.2.1 a.2.2.2}) e h fun v0 v1 v2 v3 => ⟨(v0, v1, v2, v3), rfl⟩
noncomputable def xDictComp (e : Expr) : Option {a : Expr × Expr × (List Comprehension) × Scope × Pos // e = Expr.DictComp a.1 a.2.1 a.2.2.1 a.2.2.2.1 a.2.2.2.2} := onIf fun h : e.ctorIdx = 10 => Expr.DictComp.elim (motive_1 := fun e => {a : Expr × Expr × (List Comprehension) × Scope × Pos // e = Expr.DictComp a.1 a.2.1 a.2.2.1 a.2.2.2.1 a.2.2.2.2}) e h fun v0 v1 v2 v3 v4 => ⟨(v0, v1, v2, v3, v4), rfl⟩
noncomputable def xStarred (e : Expr) : Option {a : Expr × Pos // e = Expr.Starred a.1 a.2} := onIf fun h : e.ctorIdx = 22 => Expr.Starred.elim (motive_1 := fun e => {a : Expr × Pos // e = Expr.Starred a.1 a.2}) e h fun v0 v1 => ⟨(v0, v1), rfl⟩
noncomputable def xSlice (e : Expr) : Option {a : (Option Expr) × (Option Expr) × (Option Expr) × Pos // e = Expr.Slice a.1 a.2.1 a.2.2.1 a.2.2.2} := onIf fun h : e.ctorIdx = 26 => Expr.Slice.elim (motive_1 := fun e => {a : (Option Expr) × (Option Expr) × (Option Expr) × Pos // e = Expr.Slice a.1 a.2.1 a.2.2.1 a.2.2.2}) e h fun v0 v1 v2 v3 => ⟨(v0, v1, v2, v3), rfl⟩
noncomputable def sReturn (e : Stmt) : Option {a : (Option Expr) × Pos // e = Stmt.Return a.1 a.2} := onIf fun h : e.ctorIdx = 3 => Stmt.Return.elim (motive_2 := fun e => {a : (Option Expr) × Pos // e = Stmt.Return a.1 a.2}) e h fun v0 v1 => ⟨(v0, v1), rfl⟩
noncomputable def sDelete (e : Stmt) : Option {a : (List Expr) × Pos // e = Stmt.Delete a.1 a.2} := onIf fun h : e.ctorIdx = 4 => Stmt.Delete.elim (motive_2 := fun e => {a : (List Expr) × Pos // e = Stmt.Delete a.1 a.2}) e h fun v0 v1 => ⟨(v0, v1), rfl⟩
noncomputable def sAssign (e : Stmt) : Option {a : (List Expr) × Expr × Pos // e = Stmt.Assign a.1 a.2.1 a.2.2} := onIf fun h : e.ctorIdx = 5 => Stmt.Assign.elim (motive_2 := fun e => {a : (List Expr) × Expr × Pos // e = Stmt.Assign a.1 a.2.1 a.2.2}) e h fun v0 v1 v2 => ⟨(v0, v1, v2), rfl⟩
noncomputable def sAugAssign (e : Stmt) : Option {a : Expr × Operator × Expr × Pos // e = Stmt.AugAssign a.1 a.2.1 a.2.2.1 a.2.2.2} := onIf fun h : e.ctorIdx = 7 => Stmt.AugAssign.elim (motive_2 := fun e => {a : Expr × Operator × Expr × Pos // e = Stmt.AugAssign a.1 a.2.1 a.2.2.1 a.2.2.2}) e h fun v0 v1 v2 v3 => ⟨(v0, v1, v2, v3), rfl⟩
noncomputable def sFor (e : Stmt) : Option {a : Expr × Expr × (List Stmt) × (List Stmt) × Pos // e = Stmt.For a.1 a.2.1 a.2.2.1 a.2.2.2.1 a.2.2.2.2} := onIf fun h : e.ctorIdx = 9 => Stmt.For.elim (motive_2 := fun e => {a : Expr × Expr × (List Stmt) × (List Stmt) × Pos // e = Stmt.For a.1 a.2.1 a.2.2.1 a.2.2.2.1 a.2.2.2.2}) e h fun v0 v1 v2 v3 v4 => ⟨(v0, v1, v2, v3, v4), rfl⟩
noncomputable def sWhile (e : Stmt) : Option {a : Expr × (List Stmt) × (List Stmt) × Pos // e = Stmt.While a.1 a.2.1 a.2.2.1 a.2.2.2} := onIf fun h : e.ctorIdx = 11 => Stmt.While.elim (motive_2 := fun e => {a : Expr × (List Stmt) × (List Stmt) × Pos // e = Stmt.While a.1 a.2.1 a.2.2.1 a.2.2.2}) e h fun v0 v1 v2 v3 => ⟨(v0, v1, v2, v3), rfl⟩
noncomputable def sIf (e : Stmt) : Option {a : Expr × (List Stmt) × (List Stmt) × Pos // e = Stmt.If a.1 a.2.1 a.2.2.1 a.2.2.2} := onIf fun h : e.ctorIdx = 12 => Stmt.If.elim (motive_2 := fun e => {a : Expr × (List Stmt) × (List Stmt) × Pos // e = Stmt.If a.1 a.2.1 a.2.2.1 a.2.2.2}) e h fun v0 v1 v2 v3 => ⟨(v0, v1, v2, v3), rfl⟩
noncomputable def sRaise (e : Stmt) : Option {a : (Option Expr) × (Option Expr) × Pos // e = Stmt.Raise a.1 a.2.1 a.2.2} := onIf fun h : e.ctorIdx = 16 => Stmt.Raise.elim (motive_2 := fun e => {a : (Option Expr) × (Option Expr) × Pos // e = Stmt.Raise a.1 a.2.1 a.2.2}) e h fun v0 v1 v2 => ⟨(v0, v1, v2), rfl⟩
noncomputable def sTry (e : Stmt) : Option {a : (List Stmt) × (List ExceptHandler) × (List Stmt) × (List Stmt) × Pos // e = Stmt.Try a.1 a.2.1 a.2.2.1 a.2.2.2.1 a.2.2.2.2} := onIf fun h : e.ctorIdx = 17 => Stmt.Try.elim (motive_2 := fun e => {a : (List Stmt) × (List ExceptHandler) × (List Stmt) × (List Stmt) × Pos // e = Stmt.Try a.1 a.2.1 a.2.2.1 a.2.2.2.1 a.2.2.2.2}) e h fun v0 v1 v2 v3 v4 => ⟨(v0, v1, v2, v3, v4), rfl⟩
noncomputable def sAssert (e : Stmt) : Option {a : Expr × (Option Expr) × Pos // e = Stmt.Assert a.1 a.2.1 a.2.2} := onIf fun h : e.ctorIdx = 19 => Stmt.Assert.elim (motive_2 := fun e => {a : Expr × (Option Expr) × Pos // e = Stmt.Assert a.1 a.2.1 a.2.2}) e h fun v0 v1 v2 => ⟨(v0, v1, v2), rfl⟩
noncomputable def sExpr (e : Stmt) : Option {a : Expr × Pos // e = Stmt.Expr a.1 a.2} := onIf fun h : e.ctorIdx = 24 => Stmt.Expr.elim (motive_2 := fun e => {a : Expr × Pos // e = Stmt.Expr a.1 a.2}) e h fun v0 v1 => ⟨(v0, v1), rfl⟩
noncomputable def sPass (e : Stmt) : Option {a : Pos // e = Stmt.Pass a} := onIf fun h : e.ctorIdx = 25 => Stmt.Pass.elim (motive_2 := fun e => {a : Pos // e = Stmt.Pass a}) e h fun v0 => ⟨v0, rfl⟩
noncomputable def sBreak (e : Stmt) : Option {a : Pos // e = Stmt.Break a} := onIf fun h : e.ctorIdx = 26 => Stmt.Break.elim (motive_2 := fun e => {a : Pos // e = Stmt.Break a}) e h fun v0 => ⟨v0, rfl⟩
noncomputable def sContinue (e : Stmt) : Option {a : Pos // e = Stmt.Continue a} := onIf fun h : e.ctorIdx = 27 => Stmt.Continue.elim (motive_2 := fun e => {a : Pos // e = Stmt.Continue a}) e h fun v0 => ⟨v0, rfl⟩
noncomputable def xOne {α : Type} : (l : List α) → Option {a : α // l = [a]}
  | [a] => some ⟨a, rfl⟩
  | _ => none
noncomputable def xTwo {α : Type} : (l : List α) → Option {a : α × α // l = [a.1, a.2]}
  | [a, b] => some ⟨(a, b), rfl⟩
  | _ => none
noncomputable def xThree {α : Type} : (l : List α) → Option {a : α × α × α // l = [a.1, a.2.1, a.2.2]}
  | [a, b, c] => some ⟨(a, b, c), rfl⟩
  | _ => none
noncomputable def xNil {α : Type} : (l : List α) → Option {a : Unit // l = []}
  | [] => some ⟨(), rfl⟩
  | _ => none
noncomputable def map1 {α δ : Type} (k : α → δ) (x : Option α) : Option δ := x.bind fun a => some (k a)
noncomputable def map2 {α β δ : Type} (k : α → β → δ) (x : Option α) (y : Option β) : Option δ := x.bind fun a => map1 (k a) y
noncomputable def map3 {α β γ δ : Type} (k : α → β → γ → δ) (x : Option α) (y : Option β) (z : Option γ) : Option δ := x.bind fun a => map2 (k a) y z
noncomputable def map4 {α β γ ε δ : Type} (k : α → β → γ → ε → δ) (x : Option α) (y : Option β) (z : Option γ) (u : Option ε) : Option δ := x.bind fun a => map3 (k a) y z u
noncomputable def alt {α : Type} (x y : Option α) : Option α := match x with
  | some a => some a
  | none => y
noncomputable def gd {α : Type} (b : Bool) (x : Option α) : Option α := match b with
  | true => x
  | false => none

noncomputable def plainBase (e : Expr) : Bool := match xCall e with
  | some a => !a.1.2.1.isEmpty
  | none => true
noncomputable def noSet (e : Expr) : Bool := e.ctorIdx != 7
noncomputable def isStar (e : Expr) : Bool := e.ctorIdx == 22
noncomputable def isComp (e : Expr) : Bool := e.ctorIdx == 8 || e.ctorIdx == 9 || e.ctorIdx == 10
noncomputable def isTup (e : Expr) : Bool := e.ctorIdx == 25
noncomputable def isSlice (e : Expr) : Bool := e.ctorIdx == 26
noncomputable def plainTest (e : Expr) : Bool := e.ctorIdx != 3 && e.ctorIdx != 0 && e.ctorIdx != 5 && e.ctorIdx != 15

noncomputable def TC.var (c : TC) (x : Str) : Option Nat :=
  match c.names.lookup x with
  | some .local => c.vt.lookup x
  | some .cell => c.vt.lookup x
  | _ => none

noncomputable def TC.inner (c : TC) (names : List (Str × NameKind)) (x : Str) : TC :=
  ⟨names, (x, c.nx) :: (names.filterMap fun p => if p.2 = .free then (c.vt.lookup p.1).map fun i => (p.1, i) else none), c.nx + 1, c.calm⟩

noncomputable def compOk (c : TC) (names : List (Str × NameKind)) (x : Str) : Bool :=
  decide ((names.map (·.1)).Nodup) && (names.lookup x == some .local || names.lookup x == some .cell) &&
  names.all fun p => p.2 != .free || ((c.vt.lookup p.1).isSome && (c.names.lookup p.1 == some .cell || c.names.lookup p.1 == some .free))

noncomputable def trName (c : TC) (x : Str) : Option PE :=
  if x = ("__debug__" : Str) ∨ x = ("__classdict__" : Str) then none else
  match c.names.lookup x with
  | some .globalImplicit => (gl.lookup x).map .glob
  | some .globalExplicit => none
  | some _ => (c.vt.lookup x).map .var
  | none => none

section
variable (f : TC → Expr → Option PE) (g : TC → Expr → Option PT) (c : TC)

noncomputable def tL : List Expr → Option PL
  | [] => some .nil
  | e :: r => gd (!isStar e) (map2 PL.cons (f c e) (tL r))
noncomputable def kPE : Const → Option PE
  | .int i => some (.int i)
  | .none => some .none
  | .bool b => some (.bool b)
  | _ => none
noncomputable def tConst (e : Expr) : Option PE := (xConstant e).bind fun a => kPE a.1.1
noncomputable def tName (e : Expr) : Option PE := (xName e).bind fun a => trName c a.1.1
noncomputable def tBin (e : Expr) : Option PE := (xBinOp e).bind fun a => map3 PE.bin (bop a.1.2.1) (f c a.1.1) (f c a.1.2.2.1)
noncomputable def tNeg (e : Expr) : Option PE := (xUnaryOp e).bind fun a => gd (a.1.1 = .USub) (map1 PE.neg (f c a.1.2.1))
noncomputable def tCmp (e : Expr) : Option PE := (xCompare e).bind fun a => (xOne a.1.2.1).bind fun o => (xOne a.1.2.2.1).bind fun b => gd (noSet b.1) (map3 PE.cmp (cop o.1) (f c a.1.1) (f c b.1))
noncomputable def tOr (e : Expr) : Option PE := (xBoolOp e).bind fun a => (xTwo a.1.2.1).bind fun b => gd (a.1.1 = .Or) (map2 PE.or (f c b.1.1) (f c b.1.2))
noncomputable def tIte (e : Expr) : Option PE := (xIfExp e).bind fun a => map3 PE.ite (g c a.1.1) (f c a.1.2.1) (f c a.1.2.2.1)
noncomputable def tWal (e : Expr) : Option PE := (xNamedExpr e).bind fun a => (xName a.1.1).bind fun y => map2 PE.walrus (c.var y.1.1) (f c a.1.2.1)
noncomputable def tDict (e : Expr) : Option PE := (xDict e).bind fun a => (xNil a.1.1).bind fun _ => (xNil a.1.2.1).bind fun _ => some .edict
noncomputable def tList (e : Expr) : Option PE := (xList e).bind fun a => map1 PE.list (tL f c a.1.1)
noncomputable def tTup (e : Expr) : Option PE := (xTuple e).bind fun a => map1 PE.tuple (tL f c a.1.1)
noncomputable def tMcallS (o : Expr) (m : Meth) (args : List Expr) : Option PE := (xTwo args).bind fun v => (xStarred v.1.2).bind fun s => gd (c.calm && !isStar v.1.1) (map3 (fun b l s => PE.mcallS b m (.cons l .nil) s) (f c o) (f c v.1.1) (f c s.1.1))
noncomputable def tMcall (o : Expr) (m : Meth) (args : List Expr) : Option PE := gd (c.calm || m = .pop) (map2 (fun b l => PE.mcall b m l) (f c o) (tL f c args))
noncomputable def tMeth (e : Expr) : Option PE := (xCall e).bind fun a => (xNil a.1.2.2.1).bind fun _ => (xAttribute a.1.1).bind fun b => gd (plainBase b.1.1 && b.1.2.2.endLine == a.1.2.2.2.line && decide (a.1.2.1.length < 20))
  ((meths.lookup b.1.2.1).bind fun m => alt (tMcallS f c b.1.1 m a.1.2.1) (tMcall f c b.1.1 m a.1.2.1))
noncomputable def tCall (e : Expr) : Option PE := (xCall e).bind fun a => (xNil a.1.2.2.1).bind fun _ => (xName a.1.1).bind fun _ => gd c.calm (map2 PE.call (f c a.1.1) (tL f c a.1.2.1))
noncomputable def tAttr (e : Expr) : Option PE := (xAttribute e).bind fun a => gd (plainBase a.1.1) (map2 (fun n b => PE.attr b n) (flds.lookup a.1.2.1) (f c a.1.1))
noncomputable def tSl (o : Expr) : Option Expr → Option Expr → Option Expr → Option PE
  | none, some h, none => map2 PE.sliceTo (f c o) (f c h)
  | some l, none, none => map2 PE.sliceFrom (f c o) (f c l)
  | some l, none, some s => map3 PE.sliceStep (f c o) (f c l) (f c s)
  | _, _, _ => none
noncomputable def tSub (e : Expr) : Option PE := (xSubscript e).bind fun a => gd (!isSlice a.1.2.1) (map2 PE.sub (f c a.1.1) (f c a.1.2.1))
noncomputable def tSlice (e : Expr) : Option PE := (xSubscript e).bind fun a => (xSlice a.1.2.1).bind fun s => tSl f c a.1.1 s.1.1 s.1.2.1 s.1.2.2.1
noncomputable def tIf : List Expr → Option PT
  | [] => some .tt
  | [t] => g c t
  | _ => none
noncomputable def compAsk (iter : Expr) (scope : Scope) (y : Str) (z : Int) : Bool := noSet iter && c.calm && scope.kind == .function && compOk c scope.names y && decide (z = 0)
noncomputable def tLC (e : Expr) : Option PE := (xListComp e).bind fun a => (xOne a.1.2.1).bind fun n => (xName n.1.target).bind fun y => gd (compAsk c n.1.iter a.1.2.2.1 y.1.1 n.1.is_async)
  (map3 (fun i t e => PE.lcomp e i t) (f c n.1.iter) (tIf g (c.inner a.1.2.2.1.names y.1.1) n.1.ifs) (f (c.inner a.1.2.2.1.names y.1.1) a.1.1))
noncomputable def tDC (e : Expr) : Option PE := (xDictComp e).bind fun a => (xOne a.1.2.2.1).bind fun n => (xName n.1.target).bind fun y => (xNil n.1.ifs).bind fun _ => gd (compAsk c n.1.iter a.1.2.2.2.1 y.1.1 n.1.is_async)
  (map3 (fun i k v => PE.dcomp k v i) (f c n.1.iter) (f (c.inner a.1.2.2.2.1.names y.1.1) a.1.1) (f (c.inner a.1.2.2.2.1.names y.1.1) a.1.2.1))
noncomputable def tComp (e : Expr) : Option PE := alt (tLC f g c e) (tDC f c e)
noncomputable def tE (e : Expr) : Option PE := alt (tConst e) (alt (tName c e) (alt (tBin f c e) (alt (tNeg f c e) (alt (tCmp f c e) (alt (tOr f c e) (alt (tIte f g c e) (alt (tWal f c e) (alt (tDict e) (alt (tList f c e)
  (alt (tTup f c e) (alt (tMeth f c e) (alt (tCall f c e) (alt (tAttr f c e) (alt (tSub f c e) (alt (tSlice f c e) (tComp f g c e))))))))))))))))

noncomputable def tNot (e : Expr) : Option PT := (xUnaryOp e).bind fun a => gd (a.1.1 = .Not) (map1 PT.not (g c a.1.2.1))
noncomputable def tAnd (e : Expr) : Option PT := (xBoolOp e).bind fun a => (xTwo a.1.2.1).bind fun b => gd (a.1.1 = .And) (map2 PT.and (g c b.1.1) (g c b.1.2))
noncomputable def tOrT (e : Expr) : Option PT := (xBoolOp e).bind fun a => (xTwo a.1.2.1).bind fun b => gd (a.1.1 = .Or) (map2 PT.or (g c b.1.1) (g c b.1.2))
noncomputable def tTv (e : Expr) : Option PT := gd (plainTest e) (map1 PT.tv (f c e))
noncomputable def tT : Nat → TC → Expr → Option PT
  | 0, _, _ => none
  | n + 1, c, e => alt (tNot (tT n) c e) (alt (tAnd (tT n) c e) (alt (tOrT (tT n) c e) (alt (map1 PT.tv (tCmp f c e)) (tTv f c e))))
end

noncomputable def tr : Nat → TC → Expr → Option PE
  | 0, _, _ => none
  | n + 1, c, e => tE (tr n) (tT (tr n) n) c e

theorem take_eq {s : Stmt} {ts args : List Expr} {y : Str} {yp cp pos : Pos} {kws : List Keyword} {q t v : Expr} (h : s = .Assign ts v pos) (h1 : ts = [t]) (h2 : t = .Name y yp) (h3 : v = .Call q args kws cp) (h4 : args = []) (h5 : kws = []) : s = .Assign [.Name y yp] (.Call q [] [] cp) pos := by rw [h, h1, h2, h3, h4, h5]
theorem hand_eq {h : ExceptHandler} {t : Expr} {x : Str} {b : List Stmt} {xp pos : Pos} {y : Str} (e : h = .ExceptHandler (some t) none b pos) (e1 : t = .Name x xp) (e2 : x = y) : h = .ExceptHandler (some (.Name y xp)) none b pos := e2 ▸ e1 ▸ e
section
variable (f : TC → Expr → Option PE) (g : TC → Expr → Option PT) (k : TC → List Stmt → Option PS) (c : TC)

noncomputable def tRhs (v : Expr) : Option PE := alt (gd (!isComp v) (f c v)) (tComp f g c v)
noncomputable def aName (t v : Expr) : Option PS := (xName t).bind fun y => map2 PS.assign (c.var y.1.1) (tRhs f g c v)
noncomputable def aTup (t v : Expr) : Option PS := (xTuple t).bind fun u => (xThree u.1.1).bind fun b => (xName b.1.1).bind fun x => (xName b.1.2.1).bind fun y => (xName b.1.2.2).bind fun z => gd (!isTup v && !isComp v && c.calm) (map4 PS.assign3 (c.var x.1.1) (c.var y.1.1) (c.var z.1.1) (f c v))
noncomputable def aSub (t v : Expr) : Option PS := (xSubscript t).bind fun a => gd (!isSlice a.1.2.1) (map3 (fun e o i => PS.setItem o i e) (f c v) (f c a.1.1) (f c a.1.2.1))
noncomputable def aAttr (t v : Expr) : Option PS := (xAttribute t).bind fun a => map3 (fun n e o => PS.setAttr o n e) (flds.lookup a.1.2.1) (f c v) (f c a.1.1)
noncomputable def tAs1 (s : Stmt) : Option PS := (sAssign s).bind fun a => (xOne a.1.1).bind fun t => alt (aName f g c t.1 a.1.2.1) (alt (aTup f c t.1 a.1.2.1) (alt (aSub f c t.1 a.1.2.1) (aAttr f c t.1 a.1.2.1)))
noncomputable def tAs2 (s : Stmt) : Option PS := (sAssign s).bind fun a => (xTwo a.1.1).bind fun t => (xSubscript t.1.1).bind fun b => (xName t.1.2).bind fun y => gd (!isComp a.1.2.1 && !isSlice b.1.2.1) (map4 (fun j e o i => PS.setItemVar o i j e) (c.var y.1.1) (f c a.1.2.1) (f c b.1.1) (f c b.1.2.1))
noncomputable def tExprS (s : Stmt) : Option PS := (sExpr s).bind fun a => gd (!isComp a.1.1) (map1 PS.expr (f c a.1.1))
noncomputable def tPass (s : Stmt) : Option PS := (sPass s).bind fun _ => some .skip
noncomputable def tBreak (s : Stmt) : Option PS := (sBreak s).bind fun _ => some .brk
noncomputable def tCont (s : Stmt) : Option PS := (sContinue s).bind fun _ => some .cont
noncomputable def tBad (s : Stmt) : Option PS := gd (s.ctorIdx == 16 || s.ctorIdx == 19) (some .bad)
noncomputable def tRet0 (s : Stmt) : Option PS := (sReturn s).bind fun a => gd (a.1.1.isNone) (some (.ret .none))
noncomputable def tRet (s : Stmt) : Option PS := (sReturn s).bind fun a => a.1.1.bind fun e => map1 PS.ret (f c e)
noncomputable def augOk : BOp → Option {o : BOp // o = .add ∨ o = .sub}
  | .add => some ⟨_, .inl rfl⟩
  | .sub => some ⟨_, .inr rfl⟩
  | _ => none
noncomputable def augA (t : Expr) (op : Operator) (v : Expr) : Option PS := (xAttribute t).bind fun a => (flds.lookup a.1.2.1).bind fun n => (bop op).bind fun p => gd ((p = .add || p = .sub) && n != .next) (map2 (fun o e => PS.augAttr o n p e) (f c a.1.1) (f c v))
noncomputable def augS (t : Expr) (op : Operator) (v : Expr) : Option PS := (xSubscript t).bind fun a => (bop op).bind fun p => gd (!isSlice a.1.2.1 && (p = .add || p = .sub)) (map3 (fun o i e => PS.augSub o i p e) (f c a.1.1) (f c a.1.2.1) (f c v))
noncomputable def tAug (s : Stmt) : Option PS := (sAugAssign s).bind fun a => alt (augA f c a.1.1 a.1.2.1 a.1.2.2.1) (augS f c a.1.1 a.1.2.1 a.1.2.2.1)
noncomputable def tDel (s : Stmt) : Option PS := (sDelete s).bind fun a => (xOne a.1.1).bind fun t => (xSubscript t.1).bind fun b => gd (!isSlice b.1.2.1) (map2 PS.delSub (f c b.1.1) (f c b.1.2.1))
noncomputable def tIfS (s : Stmt) : Option PS := (sIf s).bind fun a => map3 PS.ite (g c a.1.1) (k c a.1.2.1) (k c a.1.2.2.1)
noncomputable def tWhile (s : Stmt) : Option PS := (sWhile s).bind fun a => map3 PS.loop (g c a.1.1) (k c a.1.2.1) (k c a.1.2.2.1)
noncomputable def for1 (t it : Expr) (b : List Stmt) : Option PS := (xName t).bind fun y => map3 PS.each (c.var y.1.1) (f c it) (k c b)
noncomputable def for2 (t it : Expr) (b : List Stmt) : Option PS := (xTuple t).bind fun u => (xTwo u.1.1).bind fun e => (xName e.1.1).bind fun y => (xName e.1.2).bind fun z => map4 PS.each2 (c.var y.1.1) (c.var z.1.1) (f c it) (k c b)
noncomputable def tFor (s : Stmt) : Option PS := (sFor s).bind fun a => (xNil a.1.2.2.2.1).bind fun _ => gd (noSet a.1.2.1 && c.calm) (alt (for1 f k c a.1.1 a.1.2.1 a.1.2.2.1) (for2 f k c a.1.1 a.1.2.1 a.1.2.2.1))
noncomputable def xHandler : (h : ExceptHandler) → Option {a : Expr × Stmt × List Stmt × Pos // h = .ExceptHandler (some a.1) none (a.2.1 :: a.2.2.1) a.2.2.2}
  | .ExceptHandler (some e) none (s :: b) p => some ⟨(e, s, b, p), rfl⟩
  | _ => none
noncomputable def xTake (s : Stmt) : Option {a : Str × Pos × Expr × Pos × Pos // s = .Assign [.Name a.1 a.2.1] (.Call a.2.2.1 [] [] a.2.2.2.1) a.2.2.2.2} := (sAssign s).bind fun d => (xOne d.1.1).bind fun t => (xName t.1).bind fun y => (xCall d.1.2.1).bind fun q => (xNil q.1.2.1).bind fun n1 => (xNil q.1.2.2.1).bind fun n2 =>
  some ⟨(y.1.1, y.1.2, q.1.1, q.1.2.2.2, d.1.2.2), take_eq d.2 t.2 y.2 q.2 n1.2 n2.2⟩
noncomputable def xStop (hs : List ExceptHandler) : Option {a : Pos × Stmt × List Stmt × Pos // hs = [.ExceptHandler (some (.Name ("StopIteration" : Str) a.1)) none (a.2.1 :: a.2.2.1) a.2.2.2]} := (xOne hs).bind fun h => (xHandler h.1).bind fun g => (xName g.1.1).bind fun x =>
  if e : x.1.1 = ("StopIteration" : Str) then some ⟨(x.1.2, g.1.2), h.2.trans (congrArg (fun x => [x]) (hand_eq g.2 x.2 e))⟩ else none
noncomputable def tTry (s : Stmt) : Option PS := (sTry s).bind fun a => (xTwo a.1.1).bind fun b => (xTake b.1.1).bind fun q => (sBreak b.1.2).bind fun _ => (xStop a.1.2.1).bind fun h => (xNil a.1.2.2.1).bind fun _ => (xNil a.1.2.2.2.1).bind fun _ => (xSubscript q.1.2.2.1).bind fun _ =>
  gd (c.names.lookup ("StopIteration" : Str) == some .globalImplicit && c.calm) (map3 PS.tryNext (c.var q.1.1) (f c q.1.2.2.1) (k { c with calm := false } (h.1.2.1 :: h.1.2.2.1)))
noncomputable def tStep (s : Stmt) : Option PS := alt (tExprS f c s) (alt (tPass s) (alt (tBreak s) (alt (tCont s) (alt (tRet0 s) (alt (tRet f c s) (alt (tAs1 f g c s) (alt (tAs2 f c s) (alt (tAug f c s) (alt (tDel f c s) (alt (tIfS g k c s) (alt (tWhile g k c s)
  (alt (tFor f k c s) (alt (tTry f k c s) (tBad s))))))))))))))
noncomputable def tSs (h : TC → Stmt → Option PS) (c : TC) : List Stmt → Option PS
  | [] => some .skip
  | s :: r => map2 PS.seq (h c s) (tSs h c r)
noncomputable def tS : Nat → TC → Stmt → Option PS
  | 0, _, _ => none
  | n + 1, c, s => tStep f g (tSs (tS n)) c s
end
noncomputable def trSs (n : Nat) (c : TC) (b : List Stmt) : Option PS := tSs (tS (tr n) (tT (tr n) n) n) c b

noncomputable def isVar : NameKind → Bool
  | .local | .cell | .free => true
  | _ => false
noncomputable def numbered : Nat → List (Str × NameKind) → List (Str × Nat)
  | _, [] => []
  | i, (x, k) :: r => if isVar k then (x, i) :: numbered (i + 1) r else numbered i r
noncomputable def TC.of (names : List (Str × NameKind)) : TC := ⟨names, numbered 0 names, (numbered 0 names).length, true⟩

end Mine
end
section
namespace Mine
open PySem PySem.W PyProof.Rows PySem.Calls

noncomputable abbrev thePr : Program := PySem.Challenge.rw_mj0233_01.row.prog

noncomputable def BI.val : BI → Value
  | .len => .builtin "len" | .sum => .builtin "sum" | .range => .type "range" | .sorted => .builtin "sorted" | .abs => .builtin "abs" | .min => .builtin "min" | .max => .builtin "max"
  | .list => .type "list" | .tuple => .type "tuple" | .set => .type "set" | .bool => .type "bool" | .iter => .builtin "iter"

noncomputable def AV.R : AV → Value → Prop
  | .none, v => v = .none
  | .bool b, v => v = .bool b
  | .int i, v => ∃ t, v = .int i t
  | .ref a, v => v = .ref a
  | .blt b, v => v = b.val

inductive AllR : List AV → List Value → Prop
  | nil : AllR [] []
  | cons {a v as vs} : AV.R a v → AllR as vs → AllR (a :: as) (v :: vs)

theorem AllR.length {as vs} (h : AllR as vs) : as.length = vs.length := by
  induction h with
  | nil => rfl
  | cons _ _ ih => simp [ih]
theorem AllR.append {as vs bs ws} (h : AllR as vs) (g : AllR bs ws) : AllR (as ++ bs) (vs ++ ws) := by
  induction h with
  | nil => exact g
  | cons r _ ih => exact .cons r ih
theorem AllR.get {as vs} (h : AllR as vs) (i : Nat) (a : AV) (ha : as[i]? = some a) : ∃ v, vs[i]? = some v ∧ a.R v := by
  induction h generalizing i with
  | nil => simp at ha
  | cons r _ ih =>
    cases i with
    | zero => simp at ha; subst ha; exact ⟨_, rfl, r⟩
    | succ i => simpa using ih i (by simpa using ha)
theorem AllR.get' {as vs} (h : AllR as vs) (i : Nat) (v : Value) (hv : vs[i]? = some v) : ∃ a, as[i]? = some a ∧ a.R v := by
  induction h generalizing i with
  | nil => simp at hv
  | cons r _ ih =>
    cases i with
    | zero => simp at hv; subst hv; exact ⟨_, rfl, r⟩
    | succ i => simpa using ih i (by simpa using hv)
theorem AllR.set {as vs} (h : AllR as vs) (i : Nat) {a : AV} {v : Value} (r : a.R v) : AllR (as.set i a) (vs.set i v) := by
  induction h generalizing i with
  | nil => exact .nil
  | cons r' h' ih =>
    cases i with
    | zero => exact .cons r h'
    | succ i => exact .cons r' (ih i)
theorem AllR.take {as vs} (h : AllR as vs) (n : Nat) : AllR (as.take n) (vs.take n) := by
  induction h generalizing n with
  | nil => simpa using AllR.nil
  | cons r _ ih =>
    cases n with
    | zero => exact .nil
    | succ n => exact .cons r (ih n)
theorem AllR.drop {as vs} (h : AllR as vs) (n : Nat) : AllR (as.drop n) (vs.drop n) := by
  induction h generalizing n with
  | nil => simpa using AllR.nil
  | cons r h' ih =>
    cases n with
    | zero => exact .cons r h'
    | succ n => exact ih n
theorem AllR.snoc {as vs a v} (h : AllR as vs) (r : AV.R a v) : AllR (as ++ [a]) (vs ++ [v]) := h.append (.cons r .nil)
theorem allR_ints {xs : List Int} {vs : List Value} (h : AllR (ofInts xs) vs) : IntsAre vs xs := by
  induction xs generalizing vs with
  | nil => cases h; exact .nil
  | cons x xs ih => cases h with | cons r h' => obtain ⟨t, rfl⟩ := r; exact .cons _ _ (ih h')
theorem allR_ofInts {xs : List Int} {vs : List Value} (h : IntsAre vs xs) : AllR (ofInts xs) vs := by
  induction h with
  | nil => exact .nil
  | cons n t _ ih => exact .cons ⟨t, rfl⟩ ih

inductive PairR : List (Int × AV) → List (Int × Value) → Prop
  | nil : PairR [] []
  | cons {k a v es vs} : AV.R a v → PairR es vs → PairR ((k, a) :: es) ((k, v) :: vs)
theorem PairR.length {es kvs} (h : PairR es kvs) : es.length = kvs.length := by
  induction h with
  | nil => rfl
  | cons _ _ ih => simp [ih]
theorem PairR.keys {es kvs} (h : PairR es kvs) : es.map (·.1) = kvs.map (·.1) := by
  induction h with
  | nil => rfl
  | cons _ _ ih => simp [ih]
theorem PairR.get {es kvs} (h : PairR es kvs) (i : Nat) (k : Int) (a : AV) (ha : es[i]? = some (k, a)) : ∃ v, kvs[i]? = some (k, v) ∧ a.R v := by
  induction h generalizing i with
  | nil => simp at ha
  | cons r _ ih =>
    cases i with
    | zero => simp at ha; obtain ⟨rfl, rfl⟩ := ha; exact ⟨_, rfl, r⟩
    | succ i => simpa using ih i (by simpa using ha)
theorem PairR.get' {es kvs} (h : PairR es kvs) (i : Nat) (k : Int) (v : Value) (hv : kvs[i]? = some (k, v)) : ∃ a, es[i]? = some (k, a) ∧ a.R v := by
  induction h generalizing i with
  | nil => simp at hv
  | cons r _ ih =>
    cases i with
    | zero => simp at hv; obtain ⟨rfl, rfl⟩ := hv; exact ⟨_, rfl, r⟩
    | succ i => simpa using ih i (by simpa using hv)

noncomputable def OptR : Option AV → Option Value → Prop
  | none, v => v = none
  | some a, v => ∃ x, v = some x ∧ a.R x

noncomputable def sNames : List Str := ["_node2info", "_ready_nodes", "_npassedout", "_nfinished"]

inductive SDict (w : World) : List Str → List AV → List DictEntry → Prop
  | nil (ns) : SDict w ns [] []
  | cons {n ns a v as es t} : AV.R a v → SDict w ns as es → SDict w (n :: ns) (a :: as) (⟨PyData.keyHash w.params n, .str n t, v⟩ :: es)

inductive ListR (vs : List AV) (o : Obj) : Prop
  | mk (items : Array Value) (n : Nat) (e : o = W.listOf items n) (r : AllR vs items.toList)
inductive TupR (vs : List AV) (o : Obj) : Prop
  | mk (items : Array Value) (n : Nat) (e : o = ({ cls := .type "tuple", data := .seq items n } : Obj)) (r : AllR vs items.toList)
inductive DictR (w : World) (es : List (Int × AV)) (o : Obj) : Prop
  | mk (kvs : List (Int × Value)) (h : Obj.IsDictOf (intKind thePr w) o kvs) (p : PairR es kvs)
inductive SetR (w : World) (xs : List Int) (o : Obj) : Prop
  | mk (hn : xs.Nodup) (es : Array (Int × Value)) (ep : Nat) (t : SetTable) (h1 : o.ExactSet) (h2 : o.data = .set es ep t) (h3 : ElemsOf (intKind thePr w) es.toList) (h4 : ∀ k, decide (k ∈ xs) = true ↔ ∃ e ∈ es.toList, (intKind thePr w).is k e.2 = true)
      (h5 : es.size < scanBound) (h6 : t.fits es.size = true) (h7 : es.size = xs.length)
inductive RangeR (lo : Int) (n : Nat) (st : Int) (o : Obj) : Prop
  | mk (hi : Int) (t₁ t₂ t₃ : Tok) (e : o = ({ cls := .type "range", data := .fields #[.int lo t₁, .int hi t₂, .int st t₃] } : Obj)) (h1 : Builtin.Range.small lo hi st = true) (h2 : Builtin.Range.rangeSize lo hi st = (n : Int))
inductive SdR (w : World) (vs : List AV) (o : Obj) : Prop
  | mk (es : List DictEntry) (n : Nat) (e : o = dictOf es n) (h : SDict w sNames vs es)

section
variable (w : World)

noncomputable def RO : AO → Obj → Prop
  | .list vs, o => ListR vs o
  | .tuple vs, o => TupR vs o
  | .dict es, o => DictR w es o
  | .iset xs, o => SetR w xs o
  | .range lo n st, o => RangeR lo n st o
  | .ditems d, o => o.cls = .type "dict_items" ∧ o.data = .fields #[.ref d]
  | .dvals d, o => o.cls = .type "dict_values" ∧ o.data = .fields #[.ref d]
  | .inst d, o => o = instObj 165 d
  | .sdict vs, o => SdR w vs o
  | .node a b c, o => o.cls = .ref 68 ∧ o.data = .plain ∧ OptR a (o.slots[0]?).join ∧ OptR b (o.slots[1]?).join ∧ OptR c (o.slots[2]?).join
  | .liter l i, o => o = ({ cls := .type "list_iterator", data := .fields #[.ref l, .int i 0] } : Obj)
  | .nextw it, o => o = ({ cls := .type "method-wrapper", data := .fields #[.builtin "list_iterator.__next__", .ref it] } : Obj)
  | .ro _, _ => False
end

noncomputable def isRo : AO → Bool
  | .ro _ => true
  | _ => false

noncomputable def noF (z : Obj) : Prop := ∀ fs, z.data ≠ .fields fs
noncomputable def isF : AO → Bool
  | .range .. | .ditems _ | .dvals _ | .liter .. | .nextw _ => true
  | _ => false

theorem RO.noF {w : World} {o : AO} {y : Obj} (h : RO w o y) (hf : isF o = false) : Mine.noF y := by
  intro fs e
  cases o with
  | list _ => obtain ⟨_, _, rfl, _⟩ := h; cases e
  | tuple _ => obtain ⟨_, _, rfl, _⟩ := h; cases e
  | dict _ => obtain ⟨_, ⟨_, _, _, e', _⟩, _⟩ := h; rw [e'] at e; cases e
  | iset _ => obtain ⟨_, _, _, _, _, e', _⟩ := h; rw [e'] at e; cases e
  | inst _ => cases h; cases e
  | sdict _ => obtain ⟨_, _, rfl, _⟩ := h; cases e
  | node _ _ _ => obtain ⟨_, e', _⟩ := h; rw [e'] at e; cases e
  | ro _ => exact h
  | range _ _ _ => cases hf
  | ditems _ => cases hf
  | dvals _ => cases hf
  | liter _ _ => cases hf
  | nextw _ => cases hf

noncomputable def isNode : AO → Bool
  | .node .. => true
  | _ => false

theorem rd_notRo : ∀ o : AO, isRo o.rd = false
  | .ro o => rd_notRo o
  | .list _ | .tuple _ | .dict _ | .iset _ | .range .. | .ditems _ | .dvals _ | .inst _ | .sdict _ | .node .. | .liter .. | .nextw _ => rfl


theorem RO.cls {w : World} {o : AO} {y : Obj} (h : RO w o y) : y.cls ≠ .none := by
  intro e
  cases o with
  | list _ => obtain ⟨_, _, rfl, _⟩ := h; cases e
  | tuple _ => obtain ⟨_, _, rfl, _⟩ := h; cases e
  | dict _ => obtain ⟨_, ⟨_, _, ⟨e', _⟩, _⟩, _⟩ := h; rw [e'] at e; cases e
  | iset _ => obtain ⟨_, _, _, _, ⟨e', _⟩, _⟩ := h; rw [e'] at e; cases e
  | inst _ => cases h; cases e
  | sdict _ => obtain ⟨_, _, rfl, _⟩ := h; cases e
  | node _ _ _ => obtain ⟨e', _⟩ := h; rw [e'] at e; cases e
  | ro _ => exact h
  | range _ _ _ => obtain ⟨_, _, _, _, rfl, _⟩ := h; cases e
  | ditems _ => obtain ⟨e', _⟩ := h; rw [e'] at e; cases e
  | dvals _ => obtain ⟨e', _⟩ := h; rw [e'] at e; cases e
  | liter _ _ => cases h; cases e
  | nextw _ => cases h; cases e

noncomputable def Kp (base h : Heap) (a : Addr) (o : Obj) : Prop := ∃ y, h.get? a = some y ∧ y.data = o.data ∧ (o.cls ≠ .none ∨ (base.get? a).isSome = true → y = o)
theorem Kp.map {base h h' : Heap} {a : Addr} {o : Obj} (k : Kp base h a o) (hk : ∀ y, h.get? a = some y → h'.get? a = some y) : Kp base h' a o := let ⟨y, h1, h2, h3⟩ := k; ⟨y, hk y h1, h2, h3⟩
theorem Kp.exact {base h : Heap} {a : Addr} {o : Obj} (k : Kp base h a o) (hc : o.cls ≠ .none) : h.get? a = some o := by
  obtain ⟨y, h1, h2, h3⟩ := k
  rw [h3 (.inl hc)] at h1; exact h1
theorem Kp.of {base h : Heap} {a : Addr} {o : Obj} (e : h.get? a = some o) : Kp base h a o := ⟨o, e, rfl, fun _ => rfl⟩
noncomputable def unc (o : Obj) : Obj := { o with cls := .none }
theorem Kp.unc {base h : Heap} {a : Addr} {o : Obj} (e : h.get? a = some o) (hb : base.get? a = none) : Kp base h a (Mine.unc o) := ⟨o, e, rfl, fun h => by
  rcases h with h | h
  · exact absurd rfl h
  · rw [hb] at h; cases h⟩

inductive OwnR (w : World) (F : Addr → Option Obj) (h : Heap) (a : Adr) (o : AO) : Prop
  | mk (f : F a = none) (x : Obj) (e : h.get? a = some x) (r : RO w o x)
inductive RoR (w : World) (F : Addr → Option Obj) (a : Adr) (o : AO) : Prop
  | mk (x : Obj) (e : F a = some x) (r : RO w o.rd x)
inductive LiveR (h : Heap) (a : Adr) : Prop
  | mk (x : Obj) (d : Addr) (z : Obj) (e1 : h.get? a = some x) (e2 : x.dict = some d) (e3 : h.get? d = some z ∧ noF z)
inductive RestR (s₀ s : Shared) : Prop
  | mk (h : Heap) (tk : Nat) (e : s = { s₀ with heap := h, toks := tk })
inductive ReadR (w : World) (h : Heap) (a : Adr) (o : AO) : Prop
  | mk (y : Obj) (e : h.get? a = some y) (r : RO w o y)

section
variable (w : World) (base : Heap) (s₀ : Shared)

structure Ext (F : Addr → Option Obj) (P : Addr → Prop) (σ : Store) (s : Shared) : Prop where
  rest : RestR s₀ s
  still : ∀ a o, F a = some o → Kp base s.heap a o
  own : ∀ a o, σ a = some o → isRo o = false → OwnR w F s.heap a o
  ro : ∀ a o, σ a = some (.ro o) → RoR w F a o
  based : ∀ a o, base.get? a = some o → F a = some o
  priv : ∀ a, P a → σ a = none ∧ (F a).isSome
  three : ∃ o, F 196 = some o
  hi : ∀ a o, σ a = some o → isRo o = false → 196 < a
  live : ∀ a o, σ a = some o → isNode o = true → LiveR s.heap a
end

section
variable {w : World} {base : Heap} {s₀ : Shared} {F : Addr → Option Obj} {P : Addr → Prop} {σ τ : Store} {s : Shared}

theorem RO.alive {o : AO} {x : Obj} (h : RO w o x) (hr : isRo o = false) : True := trivial

theorem Ext.read (x : Ext w base s₀ F P σ s) {a : Addr} {o : AO} (h : at? σ a = some o) : ReadR w s.heap a o := by
  unfold at? at h
  cases e : σ a with
  | none => rw [e] at h; cases h
  | some o' =>
    rw [e] at h
    simp only [Option.map_some, Option.some.injEq] at h
    subst h
    cases hr : isRo o' with
    | false =>
      obtain ⟨_, y, hy, r⟩ := x.own a o' e hr
      refine ⟨y, hy, ?_⟩
      cases o' <;> first | exact r | cases hr
    | true =>
      cases o' <;> first | cases hr | skip
      rename_i o
      obtain ⟨y, hy, r⟩ := x.ro a o e
      exact ⟨y, (x.still a y hy).exact r.cls, r⟩

theorem Ext.inBase (x : Ext w base s₀ F P σ s) {a : Addr} {o : Obj} (e : base.get? a = some o) : s.heap.get? a = some o := by
  obtain ⟨y, h1, h2, h3⟩ := x.still a o (x.based a o e)
  rw [h3 (.inr (by rw [e]; rfl))] at h1; exact h1

theorem Ext.toks (x : Ext w base s₀ F P σ s) (tk : Nat) : Ext w base s₀ F P σ { s with toks := tk } := by
  obtain ⟨⟨h, t, rfl⟩, a, b, c, d, e, f, g, l⟩ := x
  exact ⟨⟨h, tk, rfl⟩, a, b, c, d, e, f, g, l⟩

theorem Ext.grow (x : Ext w base s₀ F P σ s) {h' : Heap} {tk : Nat} (hk : ∀ b o, s.heap.get? b = some o → h'.get? b = some o) : Ext w base s₀ F P σ { s with heap := h', toks := tk } := by
  obtain ⟨⟨h, t, rfl⟩, a, b, c, d, e, g, g', l⟩ := x
  exact ⟨⟨h', tk, rfl⟩, fun q o f => (a q o f).map (hk q), fun q o f r => let ⟨f1, y, f2, f3⟩ := b q o f r; ⟨f1, y, hk q y f2, f3⟩, c, d, e, g, g', fun q o f n => let ⟨y, u, z, f1, f2, f3, f4⟩ := l q o f n; ⟨y, u, z, hk _ _ f1, f2, hk _ _ f3, f4⟩⟩

theorem Sub.none (h : Sub τ σ) {a : Addr} (e : σ a = none) : τ a = none := by
  cases e' : τ a with
  | none => rfl
  | some o => rw [h a o e'] at e; cases e

theorem Ext.sub (x : Ext w base s₀ F P σ s) (h : Sub τ σ) : Ext w base s₀ F P τ s :=
  ⟨x.rest, x.still, fun a o e r => x.own a o (h a o e) r, fun a o e => x.ro a o (h a _ e), x.based, fun a p => ⟨h.none (x.priv a p).1, (x.priv a p).2⟩, x.three, fun a o e r => x.hi a o (h a o e) r, fun a o e r => x.live a o (h a o e) r⟩

theorem Ext.fresh (x : Ext w base s₀ F P σ s) {a : Addr} (ha : s.heap.get? a = none) : σ a = none ∧ F a = none := by
  constructor
  · cases e : σ a with
    | none => rfl
    | some o =>
      cases hr : isRo o with
      | false => obtain ⟨_, y, hy, _⟩ := x.own a o e hr; rw [ha] at hy; cases hy
      | true =>
        cases o <;> first | cases hr | skip
        rename_i o
        obtain ⟨y, hy, _⟩ := x.ro a o e
        obtain ⟨z, hz, _⟩ := x.still a y hy
        rw [hz] at ha; cases ha
  · cases e : F a with
    | none => rfl
    | some o => obtain ⟨z, hz, _⟩ := x.still a o e; rw [hz] at ha; cases ha

theorem get?_size (h : Heap) : h.get? h.objs.size = none := by
  cases e : h.get? h.objs.size with
  | none => rfl
  | some o => exact absurd (Heap.lt_size e) (Nat.lt_irrefl _)

theorem Ext.upd (x : Ext w base s₀ F P σ s) {a : Addr} {o o' : AO} {y : Obj} {h' : Heap} {tk : Nat} (ha : σ a = some o) (hr : isRo o = false) (hk : ∀ b z, b ≠ a → s.heap.get? b = some z → h'.get? b = some z)
    (hy : h'.get? a = some y) (r : RO w o' y) (hr' : isRo o' = false) (hn : isNode o' = true → ∃ d z, y.dict = some d ∧ h'.get? d = some z ∧ noF z := by intro e; cases e) (hF' : isF o' = false ∨ (∀ y, RO w o y → ∃ fs, y.data = .fields fs) := by exact .inl rfl) : Ext w base s₀ F P (Mine.upd σ a o') { s with heap := h', toks := tk } := by
  have hf := (x.own a o ha hr).1
  have hhi := x.hi a o ha hr
  obtain ⟨⟨h, t, rfl⟩, x1, x2, x3, x4, x5, x6, x7, x8⟩ := x
  refine ⟨⟨h', tk, rfl⟩, fun b z e => (x1 b z e).map fun y => hk b y (by rintro rfl; rw [hf] at e; cases e), fun b z e hz => ?_, fun b z e => ?_, x4, fun b p => ?_, x6, fun b z e hz => ?_, fun b z e hz => ?_⟩
  · unfold Mine.upd at e
    by_cases hb : b = a
    · subst hb; simp only [if_true, Option.some.injEq] at e; subst e; exact ⟨hf, y, hy, r⟩
    · rw [if_neg hb] at e
      obtain ⟨f1, q, f2, f3⟩ := x2 b z e hz
      exact ⟨f1, q, hk b q hb f2, f3⟩
  · unfold Mine.upd at e
    by_cases hb : b = a
    · subst hb; simp only [if_true, Option.some.injEq] at e; subst e; cases hr'
    · rw [if_neg hb] at e; exact x3 b z e
  · have := x5 b p
    have hb : b ≠ a := by rintro rfl; rw [this.1] at ha; cases ha
    exact ⟨by unfold Mine.upd; rw [if_neg hb]; exact this.1, this.2⟩
  · unfold Mine.upd at e
    by_cases hb : b = a
    · subst hb; exact hhi
    · rw [if_neg hb] at e; exact x7 b z e hz
  · have alive : ∀ q u, h.get? q = some u → noF u → ∃ u', h'.get? q = some u' ∧ noF u' := fun q u eu hu => by
      by_cases hq : q = a
      · subst hq
        refine ⟨_, hy, ?_⟩
        rcases hF' with hF' | hfs
        · exact r.noF hF'
        · obtain ⟨_, q', f2, f3⟩ := x2 q o ha hr
          have f4 : some u = some q' := eu.symm.trans f2
          cases f4
          obtain ⟨fs, hfs⟩ := hfs _ f3
          exact absurd hfs (hu _)
      · exact ⟨_, hk q u hq eu, hu⟩
    unfold Mine.upd at e
    by_cases hb : b = a
    · subst hb
      simp only [if_true, Option.some.injEq] at e; subst e
      obtain ⟨d, z, h1, h2⟩ := hn hz
      exact ⟨y, d, z, hy, h1, h2⟩
    · rw [if_neg hb] at e
      obtain ⟨u, d, v, h1, h2, h3⟩ := x8 b z e hz
      obtain ⟨v', h4, h5⟩ := alive d v h3.1 h3.2
      exact ⟨u, d, v', hk b u hb h1, h2, h4, h5⟩

theorem Ext.new (x : Ext w base s₀ F P σ s) {a : Addr} {o' : AO} {y : Obj} {h' : Heap} {tk : Nat} (ha : s.heap.get? a = none) (h3 : 196 < a) (hk : ∀ b z, s.heap.get? b = some z → h'.get? b = some z)
    (hy : h'.get? a = some y) (r : RO w o' y) (hr' : isRo o' = false) (hn : isNode o' = true → ∃ d z, y.dict = some d ∧ h'.get? d = some z ∧ noF z := by intro e; cases e) : Ext w base s₀ F P (Mine.upd σ a o') { s with heap := h', toks := tk } := by
  have hf := x.fresh ha
  obtain ⟨⟨h, t, rfl⟩, x1, x2, x3, x4, x5, x6, x7, x8⟩ := x
  refine ⟨⟨h', tk, rfl⟩, fun b z e => (x1 b z e).map (hk b), fun b z e hz => ?_, fun b z e => ?_, x4, fun b p => ?_, x6, fun b z e hz => ?_, fun b z e hz => ?_⟩
  · unfold Mine.upd at e
    by_cases hb : b = a
    · subst hb; simp only [if_true, Option.some.injEq] at e; subst e; exact ⟨hf.2, y, hy, r⟩
    · rw [if_neg hb] at e
      obtain ⟨f1, q, f2, f3⟩ := x2 b z e hz
      exact ⟨f1, q, hk b q f2, f3⟩
  · unfold Mine.upd at e
    by_cases hb : b = a
    · subst hb; simp only [if_true, Option.some.injEq] at e; subst e; cases hr'
    · rw [if_neg hb] at e; exact x3 b z e
  · have := x5 b p
    have hb : b ≠ a := by rintro rfl; rw [hf.2] at this; cases this.2
    exact ⟨by unfold Mine.upd; rw [if_neg hb]; exact this.1, this.2⟩
  · unfold Mine.upd at e
    by_cases hb : b = a
    · subst hb; exact h3
    · rw [if_neg hb] at e; exact x7 b z e hz
  · unfold Mine.upd at e
    by_cases hb : b = a
    · subst hb
      simp only [if_true, Option.some.injEq] at e; subst e
      obtain ⟨d, z, h1, h2⟩ := hn hz
      exact ⟨y, d, z, hy, h1, h2⟩
    · rw [if_neg hb] at e
      obtain ⟨u, d, v, h1, h2, h3⟩ := x8 b z e hz
      exact ⟨u, d, v, hk _ _ h1, h2, hk _ _ h3.1, h3.2⟩

theorem Ext.size3 (x : Ext w base s₀ F P σ s) : 196 < s.heap.objs.size := let ⟨o, e⟩ := x.three; let ⟨_, h, _⟩ := x.still 196 o e; Heap.lt_size h

theorem Ext.push (x : Ext w base s₀ F P σ s) {o' : AO} {y : Obj} {tk : Nat} (r : RO w o' y) (hr' : isRo o' = false) (hfr : y.isFreed = false) (hn : isNode o' = false := by rfl) :
    Ext w base s₀ F P (Mine.upd σ s.heap.objs.size o') { s with heap := s.heap.push y, toks := tk } :=
  x.new (get?_size _) x.size3 (fun b z e => Heap.get?_push_of_some _ e) (Heap.get?_push_size _ hfr) r hr' (by intro e; rw [hn] at e; cases e)

theorem Ext.del (x : Ext w base s₀ F P σ s) {a : Addr} {o : AO} {h' : Heap} {tk : Nat} (ha : σ a = some o) (hr : isRo o = false) (hk : ∀ b z, b ≠ a → s.heap.get? b = some z → h'.get? b = some z) (hal : ∀ y, RO w o y → ∃ fs, y.data = .fields fs) :
    Ext w base s₀ F P (Mine.del σ a) { s with heap := h', toks := tk } := by
  have hf := (x.own a o ha hr).1
  obtain ⟨⟨h, t, rfl⟩, x1, x2, x3, x4, x5, x6, x7, x8⟩ := x
  refine ⟨⟨h', tk, rfl⟩, fun b z e => (x1 b z e).map fun y => hk b y (by rintro rfl; rw [hf] at e; cases e), fun b z e hz => ?_, fun b z e => ?_, x4, fun b p => ?_, x6, fun b z e hz => ?_, fun b z e hz => ?_⟩
  · unfold Mine.del at e
    by_cases hb : b = a
    · rw [if_pos hb] at e; cases e
    · rw [if_neg hb] at e
      obtain ⟨f1, q, f2, f3⟩ := x2 b z e hz
      exact ⟨f1, q, hk b q hb f2, f3⟩
  · unfold Mine.del at e
    by_cases hb : b = a
    · rw [if_pos hb] at e; cases e
    · rw [if_neg hb] at e; exact x3 b z e
  · have := x5 b p
    refine ⟨?_, this.2⟩
    unfold Mine.del
    split
    · rfl
    · exact this.1
  · unfold Mine.del at e
    by_cases hb : b = a
    · rw [if_pos hb] at e; cases e
    · rw [if_neg hb] at e; exact x7 b z e hz
  · unfold Mine.del at e
    by_cases hb : b = a
    · rw [if_pos hb] at e; cases e
    · rw [if_neg hb] at e
      obtain ⟨u, d, v, h1, h2, h3⟩ := x8 b z e hz
      by_cases hd : d = a
      · subst hd
        obtain ⟨_, q', f2, f3⟩ := x2 d o ha hr
        have f4 : some v = some q' := h3.1.symm.trans f2
        cases f4
        obtain ⟨fs, hfs⟩ := hal _ f3
        exact absurd hfs (h3.2 _)
      · exact ⟨u, d, v, hk b u hb h1, h2, hk d v hd h3.1, h3.2⟩
end

end Mine
end
section
namespace Mine
open PySem PySem.W PyProof.Rows PySem.Calls
set_option maxRecDepth 100000

structure Bs (w : World) (base : Heap) (mg mb : Str → Option Value) : Prop where
  k : (hd.heap_39 w.params).In base
  g : base.Ns mainGlobals mg
  b : base.Ns builtinsNs mb
  nolimit : base.NoLimit
  builtins : ∀ x : Str, x ≠ "__name__" → mb x = bootBuiltins x

structure EnvOk (env : Env) (c : TC) : Prop where
  kind : env.scope.kind = .function
  glob : env.globals = mainGlobals
  bi : env.builtins = builtinsNs
  loc : ∀ x, c.names.lookup x = some .local → env.kindOf x = some .local
  cel : ∀ x, c.names.lookup x = some .cell → env.kindOf x = some .cell
  fre : ∀ x, c.names.lookup x = some .free → env.kindOf x = some .cell ∨ env.kindOf x = some .free
  gim : ∀ x, c.names.lookup x = some .globalImplicit → env.kindOf x = some .globalImplicit
  inj : ∀ x y i, c.vt.lookup x = some i → c.vt.lookup y = some i → x = y
  lt : ∀ x i, c.vt.lookup x = some i → i < c.nx
  cells : ∀ x y a, c.names.lookup x = some .cell → c.names.lookup y = some .cell → env.cells.lookup x = some a → env.cells.lookup y = some a → x = y

inductive NsR (c : TC) (m : Mem) (h : Heap) (L : Addr) : Prop
  | mk (nm : Str → Option Value) (hn : h.Ns L nm) (hl : ∀ x i v, c.names.lookup x = some .local → c.vt.lookup x = some i → m[i]? = some (some v) → ∃ v', nm x = some v' ∧ v.R v')
inductive CelR (env : Env) (c : TC) (F : Addr → Option Obj) (m : Mem) (σ : Store) (h : Heap) (x : Str) : Prop
  | mk (a : Addr) (o : Obj) (h1 : env.cells.lookup x = some a) (h2 : a ≠ env.locals) (h3 : F a = none) (h4 : σ a = none) (h5 : h.get? a = some o) (h6 : (∃ v₀, o.data = .cell v₀) ∧ ∀ i v, c.vt.lookup x = some i → m[i]? = some (some v) → ∃ v', o.data = .cell (some v') ∧ v.R v')
inductive FreR (env : Env) (F : Addr → Option Obj) (x : Str) (v : AV) : Prop
  | mk (a : Addr) (o : Obj) (v' : Value) (h1 : env.cells.lookup x = some a) (h2 : F a = some o) (h3 : o.data = .cell (some v') ∧ v.R v')

section
variable (w : World) (base : Heap) (s₀ : Shared)

structure Rep (env : Env) (c : TC) (F : Addr → Option Obj) (P : Addr → Prop) (m : Mem) (σ : Store) (s : Shared) : Prop where
  ext : Ext w base s₀ F P σ s
  len : m.length = c.nx
  ns : NsR c m s.heap env.locals
  apart : F env.locals = none ∧ σ env.locals = none
  lhi : 196 < env.locals
  cel : ∀ x, c.names.lookup x = some .cell → CelR env c F m σ s.heap x
  fre : ∀ x i v, c.names.lookup x = some .free → c.vt.lookup x = some i → m[i]? = some (some v) → FreR env F x v
  fin : ∀ y i, c.names.lookup y = some .free → c.vt.lookup y = some i → ∃ a, env.cells.lookup y = some a ∧ (F a).isSome

inductive PoE (env : Env) (c : TC) (F : Addr → Option Obj) (P : Addr → Prop) (Q : AV → Mem → Store → Prop) (v : Value) (s' : Shared) : Prop
  | mk (av : AV) (m' : Mem) (σ' : Store) (r : av.R v) (x : Rep w base s₀ env c F P m' σ' s') (h : Q av m' σ')
inductive PoA (env : Env) (c : TC) (F : Addr → Option Obj) (P : Addr → Prop) (m : Mem) (Q : AV → Store → Prop) (v : Value) (s' : Shared) : Prop
  | mk (av : AV) (σ' : Store) (r : av.R v) (x : Rep w base s₀ env c F P m σ' s') (h : Q av σ')
inductive PoU {α : Type} (env : Env) (c : TC) (F : Addr → Option Obj) (P : Addr → Prop) (m : Mem) (Q : Store → Prop) (v : α) (s' : Shared) : Prop
  | mk (σ' : Store) (x : Rep w base s₀ env c F P m σ' s') (h : Q σ')
inductive PoT (env : Env) (c : TC) (F : Addr → Option Obj) (P : Addr → Prop) (Q : Bool → Mem → Store → Prop) (b : Bool) (s' : Shared) : Prop
  | mk (m' : Mem) (σ' : Store) (x : Rep w base s₀ env c F P m' σ' s') (h : Q b m' σ')
inductive PoL (env : Env) (c : TC) (F : Addr → Option Obj) (P : Addr → Prop) (Q : List AV → Mem → Store → Prop) (vs : List Value) (s' : Shared) : Prop
  | mk (avs : List AV) (m' : Mem) (σ' : Store) (r : AllR avs vs) (x : Rep w base s₀ env c F P m' σ' s') (h : Q avs m' σ')
inductive PoV (env : Env) (c : TC) (F : Addr → Option Obj) (P : Addr → Prop) (m : Mem) (σ : Store) (Q : AV → Prop) (v : Value) (s' : Shared) : Prop
  | mk (av : AV) (r : av.R v) (x : Rep w base s₀ env c F P m σ s') (h : Q av)
inductive PoR (F : Addr → Option Obj) (P : Addr → Prop) (Q : AV → Store → Prop) (res : Result) (s' : Shared) : Prop
  | mk (v : Value) (av : AV) (σ' : Store) (e : res = .ok (.ret v)) (r : av.R v) (x : Ext w base s₀ F P σ' s') (h : Q av σ')

structure OkA (r : Nat) (F : Addr → Option Obj) (loc : Option Addr) (A : Around) : Prop where
  depth : A.depth + r ≤ 600
  units : A.units + 20 * r ≤ 2000
  frames : ∃ fr, A.frames = some fr ∧ ∀ e ∈ fr, e.scope.kind ≠ .module ∧ ∃ L, e.frame = some L ∧ base.get? L = none ∧ (some L = loc ∨ ∃ o, F L = some o ∧ o.cls = .none ∧ ∀ vs, o.data ≠ .fields vs)

structure Cm (env : Env) (c : TC) (A : Around) : Prop where
  calm : c.calm = true → A.handled = none
  head : ∃ e₀ outer, A.frames = some (e₀ :: outer) ∧ e₀.frame = env.frame

noncomputable def Known (f : Addr) : Prop := (∃ oc od fd sl, (hd.heap_39 w.params).lookup f = some ⟨oc, od, .func fd, sl⟩) ∨ f = 68 ∨ f = 165

noncomputable def SoundC (r : Nat) (C : Ctr) : Prop := ∀ f args Q σ, C f args Q σ → Known w f ∧ ∀ F P A s vs, OkA base r F none A → A.handled = none → Ext w base s₀ F P σ s → AllR args vs →
  codeAny (model thePr w) A (.call (.ref f) ⟨vs, []⟩) (PoR w base s₀ F P Q) s

noncomputable def SndE (r : Nat) (C : Ctr) (env : Env) (c : TC) (e : Expr) (p : PE) : Prop := ∀ F P A m σ s Q E, OkA base r F (some env.locals) A → Cm env c A → Rep w base s₀ env c F P m σ s → W C p Q m σ →
  wpAny (model thePr w) A (eval e env) (PoE w base s₀ env c F P Q) E s
noncomputable def SndT (r : Nat) (C : Ctr) (env : Env) (c : TC) (e : Expr) (p : PT) : Prop := ∀ F P A m σ s Q E, OkA base r F (some env.locals) A → Cm env c A → Rep w base s₀ env c F P m σ s → WT C p Q m σ →
  wpAny (model thePr w) A (PySem.isTrue e env (eval e env)) (PoT w base s₀ env c F P Q) E s
end

section
variable {w : World} {base : Heap} {s₀ : Shared} {mg mb : Str → Option Value} {env : Env} {c : TC} {F : Addr → Option Obj} {P : Addr → Prop} {m : Mem} {σ σ' : Store} {s : Shared}

theorem Rep.toks (x : Rep w base s₀ env c F P m σ s) (tk : Nat) : Rep w base s₀ env c F P m σ { s with toks := tk } :=
  ⟨x.ext.toks tk, x.len, x.ns, x.apart, x.lhi, x.cel, x.fre, x.fin⟩

theorem Rep.frame (x : Rep w base s₀ env c F P m σ s) {s' : Shared} (hx : Ext w base s₀ F P σ' s') (hk : ∀ b o, s.heap.get? b = some o → F b = none → σ b = none → s'.heap.get? b = some o)
    (hs : ∀ b o, s.heap.get? b = some o → F b = none → σ b = none → σ' b = none) : Rep w base s₀ env c F P m σ' s' := by
  refine ⟨hx, x.len, ?_, ?_, x.lhi, ?_, x.fre, x.fin⟩
  · obtain ⟨nm, ⟨o, es, ep, ho, r⟩, h2⟩ := x.ns
    exact ⟨nm, ⟨o, es, ep, hk _ _ ho x.apart.1 x.apart.2, r⟩, h2⟩
  · obtain ⟨nm, ⟨o, es, ep, ho, r⟩, h2⟩ := x.ns
    exact ⟨x.apart.1, hs _ _ ho x.apart.1 x.apart.2⟩
  · intro y hy
    obtain ⟨a, o, h1, h2, h3, h4, h5, h6⟩ := x.cel y hy
    exact ⟨a, o, h1, h2, h3, hs _ _ h5 h3 h4, hk _ _ h5 h3 h4, h6⟩

theorem Rep.grow (x : Rep w base s₀ env c F P m σ s) {h' : Heap} {tk : Nat} (hk : ∀ b o, s.heap.get? b = some o → h'.get? b = some o) : Rep w base s₀ env c F P m σ { s with heap := h', toks := tk } :=
  x.frame (x.ext.grow hk) (fun b o e _ _ => hk b o e) fun _ _ _ _ e => e

theorem Rep.sub (x : Rep w base s₀ env c F P m σ s) (h : Sub σ' σ) : Rep w base s₀ env c F P m σ' s :=
  x.frame (x.ext.sub h) (fun b o e _ _ => e) fun _ _ _ _ e => h.none e

theorem Rep.new (x : Rep w base s₀ env c F P m σ s) {a : Addr} {o' : AO} {y : Obj} {h' : Heap} {tk : Nat} (ha : s.heap.get? a = none) (h3 : 196 < a) (hk : ∀ b z, s.heap.get? b = some z → h'.get? b = some z)
    (hy : h'.get? a = some y) (r : RO w o' y) (hr' : isRo o' = false) (hn : isNode o' = true → ∃ d z, y.dict = some d ∧ h'.get? d = some z ∧ noF z := by intro e; cases e) : Rep w base s₀ env c F P m (Mine.upd σ a o') { s with heap := h', toks := tk } :=
  x.frame (x.ext.new ha h3 hk hy r hr' hn) (fun b o e _ _ => hk b o e) fun b o e _ h => by
    unfold Mine.upd
    rw [if_neg (by rintro rfl; rw [ha] at e; cases e)]; exact h

theorem Rep.push (x : Rep w base s₀ env c F P m σ s) {o' : AO} {y : Obj} {tk : Nat} (r : RO w o' y) (hr' : isRo o' = false) (hfr : y.isFreed = false) (hn : isNode o' = false := by rfl) :
    Rep w base s₀ env c F P m (Mine.upd σ s.heap.objs.size o') { s with heap := s.heap.push y, toks := tk } :=
  x.new (get?_size _) x.ext.size3 (fun b z e => Heap.get?_push_of_some _ e) (Heap.get?_push_size _ hfr) r hr' (by intro e; rw [hn] at e; cases e)

theorem Rep.upd (x : Rep w base s₀ env c F P m σ s) {a : Addr} {o o' : AO} {y : Obj} {h' : Heap} {tk : Nat} (ha : σ a = some o) (hr : isRo o = false) (hk : ∀ b z, b ≠ a → s.heap.get? b = some z → h'.get? b = some z)
    (hy : h'.get? a = some y) (r : RO w o' y) (hr' : isRo o' = false) (hn : isNode o' = true → ∃ d z, y.dict = some d ∧ h'.get? d = some z ∧ noF z := by intro e; cases e) (hF' : isF o' = false ∨ (∀ y, RO w o y → ∃ fs, y.data = .fields fs) := by exact .inl rfl) : Rep w base s₀ env c F P m (Mine.upd σ a o') { s with heap := h', toks := tk } :=
  x.frame (x.ext.upd ha hr hk hy r hr' hn hF') (fun b z e _ hs => hk b z (by rintro rfl; rw [ha] at hs; cases hs) e) fun b z e _ hs => by
    unfold Mine.upd
    rw [if_neg (by rintro rfl; rw [ha] at hs; cases hs)]; exact hs

theorem Rep.del (x : Rep w base s₀ env c F P m σ s) {a : Addr} {o : AO} {h' : Heap} {tk : Nat} (ha : σ a = some o) (hr : isRo o = false) (hk : ∀ b z, b ≠ a → s.heap.get? b = some z → h'.get? b = some z) (hal : ∀ y, RO w o y → ∃ fs, y.data = .fields fs) :
    Rep w base s₀ env c F P m (Mine.del σ a) { s with heap := h', toks := tk } :=
  x.frame (x.ext.del ha hr hk hal) (fun b z e _ hs => hk b z (by rintro rfl; rw [ha] at hs; cases hs) e) fun b z e _ hs => by
    unfold Mine.del
    split
    · rfl
    · exact hs

theorem Rep.suspend (x : Rep w base s₀ env c F P m σ s) (ok : EnvOk env c) : ∃ F' P', (∀ a o, F a = some o → F' a = some o) ∧ (∃ o, F' env.locals = some o ∧ o.cls = .none ∧ ∀ vs, o.data ≠ .fields vs) ∧
    (∀ x' a, c.names.lookup x' = some .cell → env.cells.lookup x' = some a → ∃ o, F' a = some (unc o) ∧ s.heap.get? a = some o) ∧ (∀ a, P a → P' a) ∧ Ext w base s₀ F' P' σ s ∧
    ∀ τ s', Ext w base s₀ F' P' τ s' → Rep w base s₀ env c F P m τ s' := by
  classical
  let own : Addr → Prop := fun a => a = env.locals ∨ ∃ y, c.names.lookup y = some .cell ∧ env.cells.lookup y = some a
  have hown : ∀ a, own a → F a = none ∧ σ a = none ∧ ∃ o, s.heap.get? a = some o := by
    rintro a (rfl | ⟨y, h1, h2⟩)
    · obtain ⟨nm, ⟨o, es, ep, ho, r⟩, _⟩ := x.ns
      exact ⟨x.apart.1, x.apart.2, o, ho⟩
    · obtain ⟨a', o, e1, e2, e3, e4, e5, _⟩ := x.cel y h1
      rw [h2] at e1; cases e1
      exact ⟨e3, e4, o, e5⟩
  refine ⟨fun a => if own a then (s.heap.get? a).map unc else F a, fun a => P a ∨ own a, ?_, ?_, ?_, fun a h => .inl h, ?_, ?_⟩
  · intro a o e
    have : ¬ own a := fun h => by rw [(hown a h).1] at e; cases e
    simp only [this, if_false]; exact e
  · obtain ⟨nm, ⟨o, es, ep, ho, hd, r⟩, _⟩ := x.ns
    refine ⟨unc o, ?_, rfl, fun vs e => by rw [show (unc o).data = o.data from rfl, hd] at e; cases e⟩
    have : own env.locals := .inl rfl
    simp only [this, if_true, ho]; rfl
  · intro y a h1 h2
    have h : own a := .inr ⟨y, h1, h2⟩
    obtain ⟨_, _, o, ho⟩ := hown a h
    refine ⟨o, ?_, ho⟩
    simp only [h, if_true, ho]; rfl
  · refine ⟨x.ext.rest, fun a o e => ?_, fun a o e hr => ?_, fun a o e => ?_, fun a o e => ?_, fun a h => ?_, ?_, x.ext.hi, x.ext.live⟩
    · by_cases h : own a
      · obtain ⟨hFa, _, o', ho'⟩ := hown a h
        simp only [h, if_true, ho', Option.map_some, Option.some.injEq] at e; subst e
        refine .unc ho' ?_
        cases hb : base.get? a with
        | none => rfl
        | some q => rw [x.ext.based a q hb] at hFa; cases hFa
      · simp only [h, if_false] at e; exact x.ext.still a o e
    · have : ¬ own a := fun h => by rw [(hown a h).2.1] at e; cases e
      obtain ⟨f, z, e1, r⟩ := x.ext.own a o e hr
      exact ⟨(if_neg this).trans f, z, e1, r⟩
    · have : ¬ own a := fun h => by rw [(hown a h).2.1] at e; cases e
      obtain ⟨z, e1, r⟩ := x.ext.ro a o e
      have : ¬ own a := fun h => by rw [(hown a h).1] at e1; cases e1
      exact ⟨z, (if_neg this).trans e1, r⟩
    · have e' := x.ext.based a o e
      have : ¬ own a := fun h => by rw [(hown a h).1] at e'; cases e'
      simp only [this, if_false]; exact e'
    · by_cases h' : own a
      · obtain ⟨_, h2, o, ho⟩ := hown a h'
        refine ⟨h2, ?_⟩
        simp only [h', if_true, ho]; rfl
      · have := x.ext.priv a (h.resolve_right h')
        exact ⟨this.1, by simp only [h', if_false]; exact this.2⟩
    · obtain ⟨o, e⟩ := x.ext.three
      have : ¬ own 196 := fun h => by rw [(hown 196 h).1] at e; cases e
      exact ⟨o, by simp only [this, if_false]; exact e⟩
  · intro τ s' hx
    have hst : ∀ a, own a → ∀ o, s.heap.get? a = some o → (∃ y, s'.heap.get? a = some y ∧ y.data = o.data) ∧ τ a = none := fun a h o ho => by
      have hk : Kp base s'.heap a (unc o) := hx.still a _ (by simp only [h, if_true, ho]; rfl)
      obtain ⟨y, h1, h2, _⟩ := hk
      exact ⟨⟨y, h1, h2⟩, (hx.priv a (.inr h)).1⟩
    have hno : ∀ a o, F a = some o → ¬ own a := fun a o e h => by rw [(hown a h).1] at e; cases e
    have hx' : Ext w base s₀ F P τ s' := by
      refine ⟨hx.rest, fun a o e => hx.still a o ?_, fun a o e hr => ?_, fun a o e => ?_, x.ext.based, fun a h => ⟨(hx.priv a (.inl h)).1, ?_⟩, x.ext.three, hx.hi, hx.live⟩
      · simp only [hno a o e, if_false]; exact e
      · obtain ⟨h1, z, h2, r⟩ := hx.own a o e hr
        by_cases h : own a
        · exact ⟨(hown a h).1, z, h2, r⟩
        · rw [if_neg h] at h1; exact ⟨h1, z, h2, r⟩
      · obtain ⟨z, h1, h2⟩ := hx.ro a o e
        by_cases h : own a
        · have := (hx.priv a (.inr h)).1; rw [this] at e; cases e
        · rw [if_neg h] at h1; exact ⟨z, h1, h2⟩
      · have := (x.ext.priv a h).2; exact this
    refine ⟨hx', x.len, ?_, ?_, x.lhi, ?_, x.fre, x.fin⟩
    · obtain ⟨nm, ⟨o, es, ep, ho, hd, r⟩, h2⟩ := x.ns
      obtain ⟨⟨y, hy, hyd⟩, _⟩ := hst _ (.inl rfl) o ho
      exact ⟨nm, ⟨y, es, ep, hy, hyd.trans hd, r⟩, h2⟩
    · obtain ⟨_, h2, o, ho⟩ := hown env.locals (.inl rfl)
      exact ⟨x.apart.1, (hst _ (.inl rfl) o ho).2⟩
    · intro y hy
      obtain ⟨a, o, h1, h2, h3, h4, h5, ⟨v₀, h6⟩, h7⟩ := x.cel y hy
      obtain ⟨⟨z, hz, hzd⟩, hτ⟩ := hst a (.inr ⟨y, hy, h1⟩) o h5
      exact ⟨a, z, h1, h2, h3, hτ, hz, ⟨v₀, hzd.trans h6⟩, fun i v hi hm => let ⟨v', e1, e2⟩ := h7 i v hi hm; ⟨v', hzd.trans e1, e2⟩⟩

theorem OkA.mono {r : Nat} {F' : Addr → Option Obj} {A : Around} {l : Addr} (h : OkA base r F (some l) A) (hF : ∀ a o, F a = some o → F' a = some o) (hl : ∃ o, F' l = some o ∧ o.cls = .none ∧ ∀ vs, o.data ≠ .fields vs) : OkA base r F' none A := by
  obtain ⟨fr, h1, h2⟩ := h.frames
  refine ⟨h.depth, h.units, fr, h1, fun e he => ?_⟩
  obtain ⟨k, L, a, b, d⟩ := h2 e he
  refine ⟨k, L, a, b, .inr ?_⟩
  rcases d with d | ⟨o, d, d'⟩
  · cases d; exact hl
  · exact ⟨o, hF _ _ d, d'⟩
theorem OkA.le {r r' : Nat} {A : Around} {l : Option Addr} (h : OkA base r F l A) (hr : r' ≤ r) : OkA base r' F l A :=
  ⟨by have := h.depth; omega, by have := h.units; omega, h.frames⟩
theorem OkA.grow {r : Nat} {F' : Addr → Option Obj} {A : Around} {l : Option Addr} (h : OkA base r F l A) (hF : ∀ a o, F a = some o → F' a = some o) : OkA base r F' l A := by
  obtain ⟨fr, h1, h2⟩ := h.frames
  refine ⟨h.depth, h.units, fr, h1, fun e he => ?_⟩
  obtain ⟨k, L, a, b, d⟩ := h2 e he
  exact ⟨k, L, a, b, d.imp id fun ⟨o, d, d'⟩ => ⟨o, hF _ _ d, d'⟩⟩
end

end Mine
end
section
namespace Mine
open PySem PySem.W PyProof.Rows PySem.Calls
set_option maxRecDepth 100000

section
variable {w : World} {base : Heap} {s₀ : Shared} {mg mb : Str → Option Value} {env : Env} {c : TC} {F : Addr → Option Obj} {P : Addr → Prop} {m : Mem} {σ σ' : Store} {s : Shared} {A : Around} {E : Value → Shared → Prop}

theorem load_var (x : Rep w base s₀ env c F P m σ s) (ok : EnvOk env c) {y : Str} {k : NameKind} {i : Nat} {v : AV} {Q : Value → Shared → Prop} (hk : c.names.lookup y = some k) (hv : isVar k = true) (hi : c.vt.lookup y = some i) (hm : m[i]? = some (some v))
    (hn : y ≠ ("__classdict__" : Str)) (h : ∀ v', v.R v' → Q v' s) : wpAny (model thePr w) A (loadName env y) Q E s := by
  cases k with
  | «local» =>
    obtain ⟨nm, hns, hl⟩ := x.ns
    obtain ⟨v', h1, h2⟩ := hl y i v hk hi hm
    exact wpAny_loadName_local ok.kind (ok.loc y hk) hns h1 (h v' h2)
  | cell =>
    obtain ⟨a, o, h1, _, _, _, h5, _, h7⟩ := x.cel y hk
    obtain ⟨v', h8, h9⟩ := h7 i v hi hm
    exact wpAny_loadName_cell ok.kind (ok.cel y hk) h1 ⟨o, h5, h8⟩ (h v' h9)
  | free =>
    obtain ⟨a, o, v', h1, h2, h3, h4⟩ := x.fre y i v hk hi hm
    obtain ⟨y', ho, hd', _⟩ := x.ext.still a o h2
    have h3 := hd'.trans h3
    rcases ok.fre y hk with q | q
    · exact wpAny_loadName_cell ok.kind q h1 ⟨y', ho, h3⟩ (h v' h4)
    · exact wpAny_loadName_free ok.kind q h1 ⟨y', ho, h3⟩ (h v' h4) (by simpa using hn)
  | globalExplicit => cases hv
  | globalImplicit => cases hv

theorem set_get {m : Mem} {i j : Nat} {v : Option AV} (hi : i < m.length) : (m.set i v)[j]? = if j = i then some v else m[j]? := by
  rw [List.getElem?_set]
  by_cases h : i = j
  · subst h; simp [hi]
  · rw [if_neg h, if_neg (fun e => h e.symm)]

theorem store_var (x : Rep w base s₀ env c F P m σ s) (ok : EnvOk env c) {y : Str} {i : Nat} {v : AV} {v' : Value} {Q : Unit → Shared → Prop} (hc : c.var y = some i) (r : v.R v')
    (h : ∀ s', Rep w base s₀ env c F P (put m i v) σ s' → Q () s') : wpAny (model thePr w) A (storeName env y v') Q E s := by
  unfold TC.var at hc
  have hlen := x.len
  split at hc
  · rename_i hk
    have hi := ok.lt y i hc
    obtain ⟨nm, hns, hl⟩ := x.ns
    refine wpAny_storeName_local (ok.loc y hk) hns (fun h' hn hs => h _ ?_) (by rw [ok.kind]; rfl)
    have hob : ∀ b o, b ≠ env.locals → s.heap.get? b = some o → h'.get? b = some o := fun b o hb e => (hs.2 b hb).trans e
    obtain ⟨on, _, _, hon, _⟩ := hns
    obtain ⟨on', _, _, hon', hd', _⟩ := id hn
    have hnf : noF on' := fun fs e => by rw [hd'] at e; cases e
    have hx : Ext w base s₀ F P σ { s with heap := h', toks := s.toks + 1 } := by
      obtain ⟨⟨hh, t, rfl⟩, x1, x2, x3, x4, x5, x6, x7, x8⟩ := x.ext
      refine ⟨⟨h', _, rfl⟩, fun b o e => (x1 b o e).map fun y => hob b y (by rintro rfl; rw [x.apart.1] at e; cases e), fun b o e hr => ?_, x3, x4, x5, x6, x7, fun b o e hn => ?_⟩
      rotate_left
      · obtain ⟨u, d, v, h1, h2, h3⟩ := x8 b o e hn
        have h4 : ∃ v', h'.get? d = some v' ∧ noF v' := by
          by_cases hd : d = env.locals
          · exact ⟨on', hd ▸ hon', hnf⟩
          · exact ⟨v, hob d v hd h3.1, h3.2⟩
        obtain ⟨v', h4⟩ := h4
        exact ⟨u, d, v', hob b u (by rintro rfl; rw [x.apart.2] at e; cases e) h1, h2, h4⟩
      obtain ⟨f1, q, f2, f3⟩ := x2 b o e hr
      exact ⟨f1, q, hob b q (by rintro rfl; rw [x.apart.2] at e; cases e) f2, f3⟩
    refine ⟨hx, by simp [put, hlen], ⟨_, hn, fun z j u hz hj hu => ?_⟩, x.apart, x.lhi, fun z hz => ?_, fun z j u hz hj hu => ?_, x.fin⟩
    · rw [put, set_get (by rw [hlen]; exact hi)] at hu
      by_cases hzy : z = y
      · subst hzy
        rw [hc] at hj; cases hj
        rw [if_pos rfl] at hu
        cases hu
        exact ⟨v', by simp, r⟩
      · rw [if_neg (fun e : j = i => hzy (ok.inj z y i (e ▸ hj) hc))] at hu
        obtain ⟨v'', h1, h2⟩ := hl z j u hz hj hu
        exact ⟨v'', by simp only [hzy, if_false]; exact h1, h2⟩
    · obtain ⟨a, o, h1, h2, h3, h4, h5, h6, h7⟩ := x.cel z hz
      refine ⟨a, o, h1, h2, h3, h4, hob a o h2 h5, h6, fun j u hj hu => ?_⟩
      rw [put, set_get (by rw [hlen]; exact hi)] at hu
      have hzy : z ≠ y := by rintro rfl; rw [hz] at hk; cases hk
      rw [if_neg (fun e : j = i => hzy (ok.inj z y i (e ▸ hj) hc))] at hu
      exact h7 j u hj hu
    · rw [put, set_get (by rw [hlen]; exact hi)] at hu
      have hzy : z ≠ y := by rintro rfl; rw [hz] at hk; cases hk
      rw [if_neg (fun e : j = i => hzy (ok.inj z y i (e ▸ hj) hc))] at hu
      exact x.fre z j u hz hj hu
  · rename_i hk
    have hi := ok.lt y i hc
    obtain ⟨a, o, h1, h2, h3, h4, h5, ⟨v₀, h6⟩, h7⟩ := x.cel y hk
    refine wpAny_storeName_cell ok.kind (ok.cel y hk) h1 ⟨o, h5, h6⟩ fun h' hn hs => h _ ?_
    have hob : ∀ b o, b ≠ a → s.heap.get? b = some o → h'.get? b = some o := fun b o hb e => (hs.2 b hb).trans e
    have hx : Ext w base s₀ F P σ { s with heap := h' } := by
      obtain ⟨⟨hh, t, rfl⟩, x1, x2, x3, x4, x5, x6, x7, x8⟩ := x.ext
      refine ⟨⟨h', _, rfl⟩, fun b o e => (x1 b o e).map fun y => hob b y (by rintro rfl; rw [h3] at e; cases e), fun b o e hr => ?_, x3, x4, x5, x6, x7, fun b o e hn' => ?_⟩
      rotate_left
      · obtain ⟨u, d, v, h1, h2, h3⟩ := x8 b o e hn'
        have h5 : ∃ v', h'.get? d = some v' ∧ noF v' := by
          by_cases hd : d = a
          · obtain ⟨o', ho', hd'⟩ := hn; exact ⟨o', hd ▸ ho', fun fs e => by rw [hd'] at e; cases e⟩
          · exact ⟨v, hob d v hd h3.1, h3.2⟩
        obtain ⟨v', h5⟩ := h5
        exact ⟨u, d, v', hob b u (by rintro rfl; rw [h4] at e; cases e) h1, h2, h5⟩
      obtain ⟨f1, q, f2, f3⟩ := x2 b o e hr
      exact ⟨f1, q, hob b q (by rintro rfl; rw [h4] at e; cases e) f2, f3⟩
    obtain ⟨o', ho', hd'⟩ := hn
    refine ⟨hx, by simp [put, hlen], ?_, x.apart, x.lhi, fun z hz => ?_, fun z j u hz hj hu => ?_, x.fin⟩
    · obtain ⟨nm, ⟨on, es, ep, hon, rr⟩, hl⟩ := x.ns
      refine ⟨nm, ⟨on, es, ep, hob _ _ (Ne.symm h2) hon, rr⟩, fun z j u hz hj hu => ?_⟩
      rw [put, set_get (by rw [hlen]; exact hi)] at hu
      have hzy : z ≠ y := by rintro rfl; rw [hz] at hk; cases hk
      rw [if_neg (fun e : j = i => hzy (ok.inj z y i (e ▸ hj) hc))] at hu
      exact hl z j u hz hj hu
    · by_cases hzy : z = y
      · subst hzy
        refine ⟨a, o', h1, h2, h3, h4, ho', ⟨_, hd'⟩, fun j u hj hu => ?_⟩
        rw [hc] at hj; cases hj
        rw [put, set_get (by rw [hlen]; exact hi), if_pos rfl] at hu
        cases hu
        exact ⟨v', hd', r⟩
      · obtain ⟨b, q, g1, g2, g3, g4, g5, g6, g7⟩ := x.cel z hz
        have hba : b ≠ a := by rintro rfl; exact hzy (ok.cells z y b hz hk g1 h1)
        refine ⟨b, q, g1, g2, g3, g4, hob b q hba g5, g6, fun j u hj hu => ?_⟩
        rw [put, set_get (by rw [hlen]; exact hi), if_neg (fun e : j = i => hzy (ok.inj z y i (e ▸ hj) hc))] at hu
        exact g7 j u hj hu
    · rw [put, set_get (by rw [hlen]; exact hi)] at hu
      have hzy : z ≠ y := by rintro rfl; rw [hz] at hk; cases hk
      rw [if_neg (fun e : j = i => hzy (ok.inj z y i (e ▸ hj) hc))] at hu
      exact x.fre z j u hz hj hu
  · cases hc

noncomputable def GlobOk (w : World) (x : Str) (v : Value) : Prop := nsIn (hd.heap_39 w.params) mainGlobals x = some (some v) ∨ (nsIn (hd.heap_39 w.params) mainGlobals x = some none ∧ bootBuiltins x = some v ∧ x ≠ "__name__")

theorem gl_ok (w : World) : ∀ p ∈ gl, ∃ v, p.2.R v ∧ GlobOk w p.1 v := by
  unfold gl
  iterate 10 (refine List.forall_mem_cons.mpr ⟨⟨_, rfl, .inl (by kernel_rfl)⟩, ?_⟩)
  iterate 2 (refine List.forall_mem_cons.mpr ⟨⟨_, ⟨_, rfl⟩, .inl (by with_unfolding_all rfl)⟩, ?_⟩)
  iterate 12 (refine List.forall_mem_cons.mpr ⟨⟨_, rfl, .inr ⟨by kernel_rfl, by kernel_rfl, by decide⟩⟩, ?_⟩)
  exact List.forall_mem_nil _

theorem mem_of_lookupG {α : Type} {x : Str} {v : α} : ∀ {l : List (Str × α)}, l.lookup x = some v → (x, v) ∈ l
  | [], h => nomatch h
  | (y, d) :: r, h => by
    rw [List.lookup_cons] at h
    cases hb : x == y with
    | true => rw [hb] at h; cases h; rw [eq_of_beq hb]; exact List.mem_cons_self
    | false => rw [hb] at h; exact List.mem_cons_of_mem _ (mem_of_lookupG h)

theorem load_glob (B : Bs w base mg mb) (x : Ext w base s₀ F P σ s) (ok : EnvOk env c) {y : Str} {v : AV} {pos : Pos} {Q : Value → Shared → Prop} (hk : c.names.lookup y = some .globalImplicit) (hg : gl.lookup y = some v) (hd : y ≠ ("__debug__" : Str))
    (h : ∀ v', v.R v' → Q v' s) : wpAny (model thePr w) A (eval (.Name y pos) env) Q E s := by
  obtain ⟨v', r, g⟩ := gl_ok w _ (mem_of_lookupG hg)
  have hkeep : ∀ b o, base.get? b = some o → s.heap.get? b = some o := fun b o e => x.inBase e
  refine Name_function_global ok.kind (ok.gim y hk) ?_ (by simpa using hd)
  rcases g with g | ⟨g1, g2, g3⟩
  · exact loadGlobal_global (by rw [ok.glob]; exact B.g.keeps hkeep) (mg_of B.k B.g g) (h v' r)
  · exact loadGlobal_builtin (by rw [ok.glob]; exact B.g.keeps hkeep) (mg_none_of B.k B.g g1) (by rw [ok.bi]; exact B.b.keeps hkeep) ((B.builtins y g3).trans g2) (h v' r)
end
end Mine
end
section
namespace Mine
open PySem PySem.W PyProof.Rows PySem.Calls
set_option maxRecDepth 100000

section
variable {w : World} {base : Heap} {s₀ : Shared} {mg mb : Str → Option Value} {env : Env} {c : TC} {F : Addr → Option Obj} {P : Addr → Prop} {m : Mem} {σ σ' : Store} {s : Shared} {A : Around} {E : Value → Shared → Prop}

theorem lim_size {n : Nat} (h : n ≤ lim) : n ≤ sizeLine := by rw [sizeLine_eq]; unfold lim at h; omega

theorem Ext.list (x : Ext w base s₀ F P σ s) {a : Addr} {vs : List AV} (h : at? σ a = some (.list vs)) : ∃ items n, s.heap.get? a = some (W.listOf items n) ∧ AllR vs items.toList := by
  obtain ⟨y, hy, items, n, rfl, r⟩ := x.read h
  exact ⟨items, n, hy, r⟩
theorem Ext.tuple (x : Ext w base s₀ F P σ s) {a : Addr} {vs : List AV} (h : at? σ a = some (.tuple vs)) : ∃ items n, s.heap.get? a = some ({ cls := .type "tuple", data := .seq items n } : Obj) ∧ AllR vs items.toList := by
  obtain ⟨y, hy, items, n, rfl, r⟩ := x.read h
  exact ⟨items, n, hy, r⟩
theorem isList_of {h : Heap} {a : Addr} {items : Array Value} {n : Nat} (e : h.get? a = some (W.listOf items n)) : h.IsList a items := ⟨_, e, rfl, n, rfl⟩
theorem at_of {σ : Store} {a : Addr} {o : AO} (h : σ a = some o) (hr : isRo o = false) : at? σ a = some o := by
  unfold at?; rw [h]; cases o <;> first | rfl | cases hr
theorem Ext.ints (x : Ext w base s₀ F P σ s) {a : Addr} {xs : List Int} (h : at? σ a = some (.list (ofInts xs))) : ∃ vs : List Value, s.heap.IsList a vs.toArray ∧ IntsAre vs xs := by
  obtain ⟨items, n, hy, r⟩ := x.list h
  exact ⟨items.toList, by simpa using isList_of hy, allR_ints r⟩

theorem new_list (x : Rep w base s₀ env c F P m σ s) {vs : List AV} {ys : Array Value} {n : Nat} {tk : Nat} (r : AllR vs ys.toList) :
    Rep w base s₀ env c F P m (upd σ s.heap.objs.size (.list vs)) { s with heap := s.heap.push { cls := .type "list", data := .seq ys n }, toks := tk } :=
  x.push ⟨ys, n, rfl, r⟩ rfl rfl

theorem IntMulOk.small {a b : Int} (h : a.natAbs < 2 ^ 60) : IntMulOk a b := by
  refine IntMulOk.of_left ?_
  unfold Builtin.Int.intBits
  split
  · exact Nat.zero_le _
  · rename_i h0
    have h0' : a.natAbs ≠ 0 := by simpa using h0
    have : a.natAbs.log2 < 60 := (Nat.log2_lt h0').mpr h
    omega

theorem intKeys_of {es : Array DictEntry} (h : KeysOf (intKind thePr w) es) : PySem.IntKeys es := fun e he => by
  obtain ⟨k, h1, h2⟩ := h e he
  obtain ⟨t, h3⟩ := Value.isInt_shape h1
  exact ⟨k, t, h3, h2⟩
theorem intMap_of {h : Heap} {a : Addr} {y : Obj} {kvs : List (Int × Value)} (hy : h.get? a = some y) (hd : Obj.IsDictOf (intKind thePr w) y kvs) : h.IntMap a (valueAt kvs) := by
  obtain ⟨es, ep, h1, h2, h3, h4, h5⟩ := hd
  obtain ⟨o, es', ep', g1, g2, g3, g4, g5⟩ := Heap.DictOf.mapOf (knd := intKind thePr w) (h := h) (a := a) (kvs := kvs) ⟨y, es, ep, hy, h1, h2, h3, h4, h5⟩
  exact ⟨o, es', ep', g1, g2.1, g3, intKeys_of g4, g5⟩
theorem valueAt_isSome (kvs : List (Int × Value)) (k : Int) : (valueAt kvs k).isSome = decide (k ∈ kvs.map (·.1)) := by
  unfold valueAt
  induction kvs with
  | nil => simp
  | cons p r ih =>
    rw [List.find?_cons]
    by_cases h : p.1 = k
    · simp [h]
    · have h' : ¬ k = p.1 := fun e => h e.symm
      simp only [h, decide_false, List.map_cons, List.mem_cons, h', false_or]
      exact ih
theorem dget_R {es : List (Int × AV)} {kvs : List (Int × Value)} (h : PairR es kvs) (k : Int) : OptR (dget es k) (valueAt kvs k) := by
  unfold dget valueAt
  induction h with
  | nil => exact rfl
  | cons r _ ih =>
    rename_i k' a v es' vs' _
    simp only [List.find?_cons]
    by_cases h : k' = k
    · simp only [h, decide_true]; exact ⟨v, rfl, r⟩
    · simp only [h, decide_false]; exact ih
theorem OptR.getD {a : Option AV} {v : Option Value} (h : OptR a v) : (a.getD .none).R (v.getD .none) := by
  cases a with
  | none => cases h; exact rfl
  | some a => obtain ⟨x, rfl, r⟩ := h; exact r

theorem bin_ok (x : Rep w base s₀ env c F P m σ s) {op : Operator} {o : BOp} {a b : AV} {va vb : Value} {Q : AV → Store → Prop} (ho : bop op = some o) (ra : a.R va) (rb : b.R vb) (h : Bin o a b Q σ) :
    wpAny (model thePr w) A (binaryOp op va vb) (PoA w base s₀ env c F P m Q) E s := by
  cases op <;> cases ho
  · -- add
    cases a <;> first | exact h.elim | (cases b <;> first | exact h.elim | skip)
    · obtain ⟨t, rfl⟩ := ra; obtain ⟨u, rfl⟩ := rb
      exact add_int ⟨.int _, _, ⟨_, rfl⟩, x.toks _, h⟩
    · cases ra; cases rb
      obtain ⟨xs, ys, h1, h2, h3, h4⟩ := h
      obtain ⟨i1, n1, e1, r1⟩ := x.ext.list h1
      obtain ⟨i2, n2, e2, r2⟩ := x.ext.list h2
      refine PySem.P.add_list e1 e2 ⟨.ref _, _, rfl, new_list x (vs := xs ++ ys) (by simpa using r1.append r2), h4 _ (x.ext.fresh (get?_size _)).1⟩ ?_
      have := r1.length; have := r2.length
      simp only [Array.length_toList] at *
      exact lim_size (by omega)
  · -- sub
    cases a <;> first | exact h.elim | (cases b <;> first | exact h.elim | skip)
    obtain ⟨t, rfl⟩ := ra; obtain ⟨u, rfl⟩ := rb
    exact sub_int ⟨.int _, _, ⟨_, rfl⟩, x.toks _, h⟩
  · cases a <;> first | exact h.elim | (cases b <;> first | exact h.elim | skip)
    obtain ⟨t, rfl⟩ := ra; obtain ⟨u, rfl⟩ := rb
    exact mul_int ⟨.int _, _, ⟨_, rfl⟩, x.toks _, h.2⟩ (IntMulOk.small h.1)
  · cases a <;> first | exact h.elim | (cases b <;> first | exact h.elim | skip)
    obtain ⟨t, rfl⟩ := ra; obtain ⟨u, rfl⟩ := rb
    exact mod_int' h.1 ⟨.int _, _, ⟨_, rfl⟩, x.toks _, h.2⟩
  · cases a <;> first | exact h.elim | (cases b <;> first | exact h.elim | skip)
    obtain ⟨t, rfl⟩ := ra; obtain ⟨u, rfl⟩ := rb
    exact rshift_int h.1 ⟨.int _, _, ⟨_, rfl⟩, x.toks _, h.2⟩
  · cases a <;> first | exact h.elim | (cases b <;> first | exact h.elim | skip)
    obtain ⟨t, rfl⟩ := ra; obtain ⟨u, rfl⟩ := rb
    exact floordiv_int h.1 ⟨.int _, _, ⟨_, rfl⟩, x.toks _, h.2.2⟩ (.inl (PyProof.noPylong_small h.2.1))

theorem iop_ok (x : Rep w base s₀ env c F P m σ s) {op : Operator} {o : BOp} {i j : Int} {va vb : Value} {Q : AV → Store → Prop} (ho : bop op = some o) (ra : (AV.int i).R va) (rb : (AV.int j).R vb) (h : Bin o (.int i) (.int j) Q σ) (hs : o = .add ∨ o = .sub) :
    wpAny (model thePr w) A (inplaceOp op va vb) (PoA w base s₀ env c F P m Q) E s := by
  obtain ⟨t, rfl⟩ := ra; obtain ⟨u, rfl⟩ := rb
  cases op <;> cases ho <;> first | (rcases hs with e | e <;> cases e; done) | skip
  · exact iadd_int ⟨.int _, _, ⟨_, rfl⟩, x.toks _, h⟩
  · exact isub_int ⟨.int _, _, ⟨_, rfl⟩, x.toks _, h⟩

theorem tru_ok (x : Rep w base s₀ env c F P m σ s) {a : AV} {va : Value} {Q : Bool → Prop} (ra : a.R va) (h : Tru a Q σ) :
    wpAny (model thePr w) A (truthy va) (fun b s' => Rep w base s₀ env c F P m σ s' ∧ Q b) E s := by
  cases a <;> first | exact h.elim | skip
  · cases ra; exact truthy_none ⟨x, h⟩
  · cases ra; exact wpAny_truthy_bool ⟨x, h⟩
  · cases ra
    obtain ⟨xs, h1, h2, h3⟩ := h
    obtain ⟨i1, n1, e1, r1⟩ := x.ext.list h1
    have hl := r1.length
    simp only [Array.length_toList] at hl
    refine wpAny_truthy_list (isList_of e1) (by unfold lim at h2; omega) ⟨x.toks _, ?_⟩
    have : i1.isEmpty = xs.isEmpty := by
      rw [Bool.eq_iff_iff]; simp only [Array.isEmpty_iff, List.isEmpty_iff, ← Array.size_eq_zero_iff, ← List.length_eq_zero_iff, hl]
    rw [this]; exact h3

theorem cmp_ok (x : Rep w base s₀ env c F P m σ s) {op : CmpOp} {o : COp} {a b : AV} {va vb : Value} {Q : Bool → Prop} (hu : A.units + 64 < cLine) (ho : cop op = some o) (ra : a.R va) (rb : b.R vb) (h : Cmp o a b Q σ) :
    wpAny (model thePr w) A (compareOp op va vb) (fun v s' => ∃ t, v = .bool t ∧ Rep w base s₀ env c F P m σ s' ∧ Q t) E s := by
  cases op <;> cases ho
  · -- eq
    cases a <;> first | exact h.elim | (cases b <;> first | exact h.elim | skip)
    obtain ⟨t, rfl⟩ := ra; obtain ⟨u, rfl⟩ := rb
    exact eq_int ⟨_, rfl, x, h⟩
  · cases a <;> first | exact h.elim | (cases b <;> first | exact h.elim | skip)
    · obtain ⟨t, rfl⟩ := ra; obtain ⟨u, rfl⟩ := rb
      refine ne_int ⟨_, rfl, x, ?_⟩
      have e : ∀ i j : Int, (i != j) = decide (i ≠ j) := fun i j => by by_cases h : i = j <;> simp [h]
      rw [e]; exact h
    · cases ra; cases rb
      obtain ⟨xs, ys, h1, h2, h3⟩ := h
      obtain ⟨vs, l1, i1⟩ := x.ext.ints h1
      obtain ⟨us, l2, i2⟩ := x.ext.ints h2
      refine ne_intsK l1 i1 l2 i2 hu ⟨_, rfl, x, ?_⟩
      have e : (!decide (xs = ys)) = decide (xs ≠ ys) := by by_cases h : xs = ys <;> simp [h]
      rw [e]; exact h3
  · cases a <;> first | exact h.elim | (cases b <;> first | exact h.elim | skip)
    obtain ⟨t, rfl⟩ := ra; obtain ⟨u, rfl⟩ := rb
    exact lt_int ⟨_, rfl, x, h⟩
  · cases a <;> first | exact h.elim | (cases b <;> first | exact h.elim | skip)
    obtain ⟨t, rfl⟩ := ra; obtain ⟨u, rfl⟩ := rb
    exact gt_int ⟨_, rfl, x, h⟩
  · cases a <;> first | exact h.elim | (cases b <;> first | exact h.elim | skip)
    obtain ⟨t, rfl⟩ := ra; obtain ⟨u, rfl⟩ := rb
    exact ge_int ⟨_, rfl, x, h⟩
  · -- is
    cases b <;> first | (cases a <;> exact h.elim) | skip
    cases rb
    refine is_none ⟨_, rfl, x, ?_⟩
    cases a
    · cases ra; exact h
    · cases ra; exact h
    · obtain ⟨t, rfl⟩ := ra; exact h
    · cases ra; exact h
    · rename_i b'; cases ra; cases b' <;> exact h
  · -- is not
    cases b <;> first | (cases a <;> exact h.elim) | skip
    cases rb
    refine isNot_none ⟨_, rfl, x, ?_⟩
    cases a
    · cases ra; exact h
    · cases ra; exact h
    · obtain ⟨t, rfl⟩ := ra; exact h
    · cases ra; exact h
    · rename_i b'; cases ra; cases b' <;> exact h
  · -- in
    cases a <;> first | exact h.elim | (cases b <;> first | exact h.elim | skip)
    obtain ⟨t, rfl⟩ := ra; cases rb
    rename_i k d
    rcases h with ⟨xs, h1, h2⟩ | ⟨es, h1, h2⟩
    · obtain ⟨y, hy, hn, es, ep, tb, r1, r2, r3, r4, r5, r6, r7⟩ := x.ext.read h1
      refine wpAny_inSet_of (knd := intKind thePr w) (S := fun k => decide (k ∈ xs)) (n := xs.length) (k := k) (by simp [intKind, Value.isInt]) rfl ⟨y, es, ep, tb, hy, r1, r2, r3, r4, r5, r6, r7⟩ ⟨_, rfl, x.toks _, h2⟩
    · obtain ⟨y, hy, kvs, hd, pr⟩ := x.ext.read h1
      refine wpAny_in_intMap (intMap_of hy hd) ⟨_, rfl, x.toks _, ?_⟩
      rw [show (valueAt kvs k).isSome = decide (k ∈ es.map (·.1)) from ?_]
      · exact h2
      · rw [pr.keys]; exact valueAt_isSome kvs k
end
end Mine
end
section
namespace Mine
open PySem PySem.W PyProof.Rows PySem.Calls
set_option maxRecDepth 100000

noncomputable def low (base : Heap) : Heap := ⟨(base.objs.toList.take 197).toArray, base.life⟩
theorem low_get {base : Heap} {a : Addr} (h : a < 197) : (low base).get? a = base.get? a := by
  unfold Heap.get? low
  simp only [List.getElem?_toArray, List.getElem?_take, h, if_true, Array.getElem?_toList]
theorem low_none {base : Heap} {a : Addr} (h : 197 ≤ a) : (low base).get? a = none := by
  unfold Heap.get? low
  have : ¬ a < 197 := Nat.not_lt.mpr h
  simp only [List.getElem?_toArray, List.getElem?_take, this, if_false]
theorem low_some {base : Heap} {a : Addr} {o : Obj} (h : (low base).get? a = some o) : base.get? a = some o := by
  by_cases ha : a < 197
  · rw [← low_get ha]; exact h
  · rw [low_none (Nat.not_lt.mp ha)] at h; cases h
theorem low_size (base : Heap) : (low base).objs.size ≤ 197 := by
  unfold low; simp only [List.size_toArray, List.length_take]; omega
theorem lookup_le {K : Frag} : ∀ {a : Addr} {o : Obj}, (K.all fun p => decide (p.1 < 197)) = true → K.lookup a = some o → a < 197 := by
  induction K with
  | nil => intro a o _ h; cases h
  | cons p r ih =>
    intro a o h e
    rw [List.all_cons, Bool.and_eq_true] at h
    rw [List.lookup_cons] at e
    cases hb : a == p.1 with
    | true => rw [eq_of_beq hb]; exact of_decide_eq_true h.1
    | false => rw [hb] at e; exact ih h.2 e
theorem frag_low (w : World) : ((hd.heap_39 w.params).all fun p => decide (p.1 < 197)) = true := by kernel_rfl
theorem Bs.low {w : World} {base : Heap} {mg mb : Str → Option Value} (B : Bs w base mg mb) : (hd.heap_39 w.params).In (low base) := fun a o e => by
  rw [low_get (lookup_le (frag_low w) e)]; exact B.k a o e

noncomputable def allNews (base h : Heap) (L : Addr) : List (Addr × Obj) :=
  (List.range h.objs.size).filterMap fun a => if a = L ∨ ((low base).get? a).isSome then none else (h.get? a).map fun o => (a, o)
theorem mem_allNews {base h : Heap} {L a : Addr} {o : Obj} : (a, o) ∈ allNews base h L ↔ h.get? a = some o ∧ a ≠ L ∧ (low base).get? a = none := by
  unfold allNews
  rw [List.mem_filterMap]
  constructor
  · rintro ⟨b, _, e⟩
    split at e
    · cases e
    · rename_i hn
      cases hb : h.get? b with
      | none => rw [hb] at e; cases e
      | some ob =>
        rw [hb] at e
        simp only [Option.map_some, Option.some.injEq, Prod.mk.injEq] at e
        obtain ⟨rfl, rfl⟩ := e
        refine ⟨hb, fun e => hn (.inl e), ?_⟩
        cases hl : (low base).get? b with
        | none => rfl
        | some q => exact absurd (.inr (by rw [hl]; rfl)) hn
  · rintro ⟨h1, h2, h3⟩
    refine ⟨a, List.mem_range.mpr (Heap.lt_size h1), ?_⟩
    rw [if_neg (by rintro (e | e); exact h2 e; rw [h3] at e; cases e), h1]; rfl

theorem nodup_of_range (f : Nat → Option Obj) (p : Nat → Bool) : ∀ n, (((List.range n).filterMap fun a => if p a then none else (f a).map fun o => (a, o)).map (·.1)).Nodup := by
  intro n
  have key : ∀ (l : List Nat), l.Nodup → ((l.filterMap fun a => if p a then none else (f a).map fun o => (a, o)).map (·.1)).Nodup ∧ ∀ b ∈ ((l.filterMap fun a => if p a then none else (f a).map fun o => (a, o)).map (·.1)), b ∈ l := by
    intro l
    induction l with
    | nil => intro _; exact ⟨List.nodup_nil, fun _ h => h⟩
    | cons a r ih =>
      intro hn
      rw [List.nodup_cons] at hn
      obtain ⟨i1, i2⟩ := ih hn.2
      rw [List.filterMap_cons]
      split
      · exact ⟨i1, fun b hb => List.mem_cons_of_mem _ (i2 b hb)⟩
      · rename_i q hq
        have hqa : q.1 = a := by
          split at hq
          · cases hq
          · cases hf : f a with
            | none => rw [hf] at hq; cases hq
            | some o => rw [hf] at hq; cases hq; rfl
        rw [List.map_cons, hqa]
        exact ⟨List.nodup_cons.mpr ⟨fun hm => hn.1 (i2 a hm), i1⟩, fun b hb => by
          rcases List.mem_cons.mp hb with rfl | hb
          · exact List.mem_cons_self
          · exact List.mem_cons_of_mem _ (i2 b hb)⟩
  exact (key _ List.nodup_range).1
theorem nodup_allNews (base h : Heap) (L : Addr) : ((allNews base h L).map (·.1)).Nodup := by
  have := nodup_of_range h.get? (fun a => decide (a = L ∨ ((low base).get? a).isSome)) h.objs.size
  simpa only [allNews, decide_eq_true_eq] using this
theorem split_mem {d : Addr} {o : Obj} : ∀ {l : List (Addr × Obj)}, (l.map (·.1)).Nodup → (d, o) ∈ l → ∃ pre post, l = pre ++ (d, o) :: post ∧ (∀ p ∈ pre, p.1 ≠ d) ∧ ∀ p ∈ post, p.1 ≠ d := by
  intro l
  induction l with
  | nil => intro _ h; cases h
  | cons q r ih =>
    intro hn hm
    rw [List.map_cons, List.nodup_cons] at hn
    rcases List.mem_cons.mp hm with rfl | hm
    · exact ⟨[], r, rfl, (fun _ h => nomatch h), fun p hp (e : p.1 = d) => hn.1 (List.mem_map.mpr ⟨p, hp, e⟩)⟩
    · obtain ⟨pre, post, rfl, h1, h2⟩ := ih hn.2 hm
      refine ⟨q :: pre, post, rfl, fun p hp => ?_, h2⟩
      rcases List.mem_cons.mp hp with rfl | hp
      · intro e
        exact hn.1 (by rw [e]; exact List.mem_map.mpr ⟨(d, o), by simp, rfl⟩)
      · exact h1 p hp
theorem upd_of {d : Addr} {o o' : Obj} : ∀ {pre post : List (Addr × Obj)}, (∀ p ∈ pre, p.1 ≠ d) → (∀ p ∈ post, p.1 ≠ d) → Upd d o o' (pre ++ (d, o) :: post) (pre ++ (d, o') :: post)
  | [], _, _, h2 => .head h2
  | q :: pre, _, h1, h2 => .tail (h1 q List.mem_cons_self) (upd_of (fun p hp => h1 p (List.mem_cons_of_mem _ hp)) h2)
theorem updF_of {d : Addr} {o : Obj} : ∀ {pre post : List (Addr × Obj)}, (∀ p ∈ pre, p.1 ≠ d) → (∀ p ∈ post, p.1 ≠ d) → UpdF d o (pre ++ (d, o) :: post) (fun o' => pre ++ (d, o') :: post)
  | [], _, _, h2 => .head h2
  | q :: pre, _, h1, h2 => .tail (h1 q List.mem_cons_self) (updF_of (fun p hp => h1 p (List.mem_cons_of_mem _ hp)) h2)

section
variable {w : World} {base : Heap} {s₀ : Shared} {mg mb : Str → Option Value} {env : Env} {c : TC} {F : Addr → Option Obj} {P : Addr → Prop} {m : Mem} {σ σ' : Store} {s : Shared} {A : Around} {E : Value → Shared → Prop}

theorem Rep.led (x : Rep w base s₀ env c F P m σ s) : ∃ nm, Fr (low base) env.locals s.heap nm ∧ News (low base) env.locals s.heap (allNews base s.heap env.locals) ∧
    ∀ x i v, c.names.lookup x = some .local → c.vt.lookup x = some i → m[i]? = some (some v) → ∃ v', nm x = some v' ∧ v.R v' := by
  obtain ⟨nm, hns, hl⟩ := x.ns
  refine ⟨nm, ⟨hns, fun b o e => x.ext.inBase (low_some e), Nat.le_trans (low_size base) x.lhi⟩, fun p hp => ?_, hl⟩
  obtain ⟨a, o⟩ := p
  obtain ⟨h1, h2, h3⟩ := mem_allNews.mp hp
  exact ⟨h1, h2, h3⟩
theorem Rep.inNews (x : Rep w base s₀ env c F P m σ s) {a : Addr} {o : AO} {y : Obj} (ha : σ a = some o) (hr : isRo o = false) (hy : s.heap.get? a = some y) : (a, y) ∈ allNews base s.heap env.locals :=
  mem_allNews.mpr ⟨hy, (by rintro rfl; rw [x.apart.2] at ha; cases ha), low_none (Nat.succ_le_of_lt (x.ext.hi a o ha hr))⟩
theorem Rep.ofLed (x : Rep w base s₀ env c F P m σ s) {nm : Str → Option Value} {h' : Heap} {tk : Nat} {d : Addr} {o o' : AO} {y y' : Obj} {pre post : List (Addr × Obj)}
    (hl : ∀ x i v, c.names.lookup x = some .local → c.vt.lookup x = some i → m[i]? = some (some v) → ∃ v', nm x = some v' ∧ v.R v')
    (hn : allNews base s.heap env.locals = pre ++ (d, y) :: post) (F' : Fr (low base) env.locals h' nm) (N' : News (low base) env.locals h' (pre ++ (d, y') :: post))
    (hd : σ d = some o) (hr : isRo o = false) (r : RO w o' y') (hr' : isRo o' = false) (hnd : isNode o' = true → ∃ d z, y'.dict = some d ∧ h'.get? d = some z ∧ noF z := by intro e; cases e) (hF' : isF o' = false := by rfl) : Rep w base s₀ env c F P m (Mine.upd σ d o') { s with heap := h', toks := tk } := by
  have hdL : d ≠ env.locals := by rintro rfl; rw [x.apart.2] at hd; cases hd
  have hk : ∀ b z, b ≠ d → b ≠ env.locals → s.heap.get? b = some z → h'.get? b = some z := fun b z hb hL e => by
    cases hlow : (low base).get? b with
    | some q =>
      have h1 := x.ext.inBase (low_some hlow)
      rw [e] at h1; cases h1
      exact F'.keep b _ hlow
    | none =>
      have hm : (b, z) ∈ allNews base s.heap env.locals := mem_allNews.mpr ⟨e, hL, hlow⟩
      rw [hn] at hm
      refine (N' (b, z) ?_).1
      rcases List.mem_append.mp hm with hm | hm
      · exact List.mem_append_left _ hm
      · rcases List.mem_cons.mp hm with hm | hm
        · cases hm; exact absurd rfl hb
        · exact List.mem_append_right _ (List.mem_cons_of_mem _ hm)
  have hy' := (N' (d, y') (by simp)).1
  have hF := (x.ext.own d o hd hr).1
  have hx : Ext w base s₀ F P (Mine.upd σ d o') { s with heap := h', toks := tk } := by
    obtain ⟨⟨h, t, rfl⟩, x1, x2, x3, x4, x5, x6, x7, x8⟩ := x.ext
    refine ⟨⟨h', tk, rfl⟩, fun b z e => (x1 b z e).map fun y => hk b y (by rintro rfl; rw [hF] at e; cases e) (by rintro rfl; rw [x.apart.1] at e; cases e), fun b z e hz => ?_, fun b z e => ?_, x4, fun b p => ?_, x6, fun b z e hz => ?_, fun b z e hz => ?_⟩
    · unfold Mine.upd at e
      by_cases hb : b = d
      · subst hb; simp only [if_true, Option.some.injEq] at e; subst e; exact ⟨hF, y', hy', r⟩
      · rw [if_neg hb] at e
        obtain ⟨f1, q, f2, f3⟩ := x2 b z e hz
        exact ⟨f1, q, hk b q hb (by rintro rfl; rw [x.apart.2] at e; cases e) f2, f3⟩
    · unfold Mine.upd at e
      by_cases hb : b = d
      · subst hb; simp only [if_true, Option.some.injEq] at e; subst e; cases hr'
      · rw [if_neg hb] at e; exact x3 b z e
    · have := x5 b p
      have hb : b ≠ d := by rintro rfl; rw [this.1] at hd; cases hd
      exact ⟨by unfold Mine.upd; rw [if_neg hb]; exact this.1, this.2⟩
    · unfold Mine.upd at e
      by_cases hb : b = d
      · subst hb; exact x7 b o hd hr
      · rw [if_neg hb] at e; exact x7 b z e hz
    · unfold Mine.upd at e
      by_cases hb : b = d
      · subst hb
        simp only [if_true, Option.some.injEq] at e; subst e
        obtain ⟨q, z, h1, h2⟩ := hnd hz
        exact ⟨y', q, z, hy', h1, h2⟩
      · rw [if_neg hb] at e
        obtain ⟨u, q, v, h1, h2, h3⟩ := x8 b z e hz
        have h4 : ∃ v', h'.get? q = some v' ∧ noF v' := by
          by_cases hq : q = d
          · exact ⟨y', hq ▸ hy', r.noF hF'⟩
          · by_cases hL : q = env.locals
            · obtain ⟨oL, _, _, hoL, hdL, _⟩ := F'.ns; exact ⟨oL, hL ▸ hoL, fun fs e => by rw [hdL] at e; cases e⟩
            · exact ⟨v, hk q v hq hL h3.1, h3.2⟩
        obtain ⟨v', h4⟩ := h4
        exact ⟨u, q, v', hk b u hb (by rintro rfl; rw [x.apart.2] at e; cases e) h1, h2, h4⟩
  refine ⟨hx, x.len, ⟨nm, F'.ns, hl⟩, ⟨x.apart.1, ?_⟩, x.lhi, fun z hz => ?_, x.fre, x.fin⟩
  · unfold Mine.upd; rw [if_neg (Ne.symm hdL)]; exact x.apart.2
  · obtain ⟨a, q, g1, g2, g3, g4, g5, g6⟩ := x.cel z hz
    have had : a ≠ d := by rintro rfl; rw [g4] at hd; cases hd
    exact ⟨a, q, g1, g2, g3, by unfold Mine.upd; rw [if_neg had]; exact g4, hk a q had g2 g5, g6⟩

theorem getItem_ok (x : Rep w base s₀ env c F P m σ s) {o i : AV} {vo vi : Value} {Q : AV → Prop} (ro : o.R vo) (ri : i.R vi) (h : GetItem o i Q σ) :
    wpAny (model thePr w) A (getItem vo vi) (PoV w base s₀ env c F P m σ Q) E s := by
  cases h with
  | @list a k vs y he hlim hy hq =>
    cases ro; obtain ⟨t, rfl⟩ := ri
    obtain ⟨items, n, e1, r1⟩ := x.ext.list he
    have hl := r1.length
    simp only [Array.length_toList] at hl
    unfold lim at hlim
    by_cases hk : 0 ≤ k
    · rw [if_pos hk] at hy
      obtain ⟨v, hv, r⟩ := r1.get _ y hy
      have hlt : k.toNat < vs.length := (List.getElem?_eq_some_iff.mp hy).1
      exact wpAny_getItem_list (isList_of e1) hk (by omega) (by simpa using hv) ⟨y, r, x, hq⟩
    · rw [if_neg hk] at hy
      split at hy
      · rename_i hle
        obtain ⟨v, hv, r⟩ := r1.get _ y hy
        refine wpAny_getItem_list_neg (isList_of e1) (by omega) (by omega) (by omega) ?_ ⟨y, r, x, hq⟩
        rw [← Array.getElem?_toList, ← hv]
        congr 1
        omega
      · cases hy
  | @dict a k es z he hz hq =>
    cases ro; obtain ⟨t, rfl⟩ := ri
    obtain ⟨y, hy, kvs, hd, pr⟩ := x.ext.read he
    have hR := dget_R pr k
    rw [hz] at hR
    obtain ⟨v, hv, r⟩ := hR
    exact wpAny_getItem_intMap (intMap_of hy hd) hv ⟨z, r, x.toks _, hq⟩

theorem PairR.put {es : List (Int × AV)} {kvs : List (Int × Value)} (h : PairR es kvs) (k : Int) {a : AV} {v : Value} (r : a.R v) : PairR (dput es k a) (stored kvs k v) := by
  have hany : (es.any fun e => decide (e.1 = k)) = (kvs.any fun e => decide (e.1 = k)) := by
    induction h with
    | nil => rfl
    | cons _ _ ih => simp only [List.any_cons, ih]
  unfold dput stored
  rw [hany]
  split
  · clear hany
    induction h with
    | nil => exact .nil
    | cons r' h' ih =>
      rename_i k' a' v' es' vs' hh
      simp only [List.map_cons]
      by_cases e : k' = k
      · subst e; simp only [if_true]
        refine .cons r ?_
        clear hh ih
        induction h' with
        | nil => exact .nil
        | cons r'' _ ih' =>
          simp only [List.map_cons]
          split
          · exact .cons r ih'
          · exact .cons r'' ih'
      · simp only [e, if_false]
        refine .cons r' ?_
        clear hh ih
        induction h' with
        | nil => exact .nil
        | cons r'' _ ih' =>
          simp only [List.map_cons]
          split
          · exact .cons r ih'
          · exact .cons r'' ih'
  · clear hany
    induction h with
    | nil => exact .cons r .nil
    | cons r' _ ih =>
      rename_i hh
      exact .cons r' (ih (fun e => hh (by rw [List.any_cons, e, Bool.or_true])))
theorem PairR.without {es : List (Int × AV)} {kvs : List (Int × Value)} (h : PairR es kvs) (k : Int) : PairR (ddel es k) (without kvs k) := by
  unfold ddel PySem.without
  induction h with
  | nil => exact .nil
  | cons r _ ih =>
    rename_i k' a v es' vs' _
    simp only [List.filter_cons]
    by_cases e : k' = k
    · simp [e]; simpa using ih
    · simp [e]; exact .cons r (by simpa using ih)

theorem setItem_ok (x : Rep w base s₀ env c F P m σ s) {o i u : AV} {vo vi vu : Value} {Q : Store → Prop} (ro : o.R vo) (ri : i.R vi) (ru : u.R vu) (h : SetItem o i u Q σ) :
    wpAny (model thePr w) A (setItem vo vi vu) (PoU w base s₀ env c F P m Q) E s := by
  cases h with
  | @list a k vs he hlim hk0 hk1 hq =>
    cases ro; obtain ⟨t, rfl⟩ := ri
    obtain ⟨items, n, e1, r1⟩ := x.ext.list (at_of he rfl)
    have hl := r1.length
    simp only [Array.length_toList] at hl
    unfold lim at hlim
    refine ki_setAt e1 hk0 (by omega) (by omega) ⟨_, x.upd (o' := .list (vs.set k.toNat u)) he rfl (fun b z hb e => (Heap.get?_update_other _ _ (Ne.symm hb)).trans e) (Heap.get?_update_self _ e1 rfl) ?_ rfl, hq⟩
    refine ⟨items.setIfInBounds k.toNat vu, n, ?_, ?_⟩
    · simp [Obj.mapSeq]
    · simpa using r1.set k.toNat ru
  | @dict a k es he hlim hq =>
    cases ro; obtain ⟨t, rfl⟩ := ri
    obtain ⟨y, hy, kvs, hd, pr⟩ := x.ext.read (at_of he rfl)
    have hl := pr.length
    unfold lim at hlim
    refine wpAny_setItem_pairs (knd := intKind thePr w) (k := k) (kvs := kvs) (by simp [intKind, Value.isInt]) (Heap.dictOf_iff.mpr ⟨y, hy, hd⟩) (fun h' hd' hs => ?_) (by rw [sizeLine_eq]; omega)
    obtain ⟨y', hy', hd''⟩ := Heap.dictOf_iff.mp hd'
    exact ⟨_, x.upd (o' := .dict (dput es k u)) he rfl (fun b z hb e => (hs.2 b hb).trans e) hy' ⟨_, hd'', pr.put k ru⟩ rfl, hq⟩

theorem delItem_ok (x : Rep w base s₀ env c F P m σ s) {o i : AV} {vo vi : Value} {Q : Store → Prop} (ro : o.R vo) (ri : i.R vi) (h : DelItem o i Q σ) :
    wpAny (model thePr w) A (delItem vo vi) (PoU w base s₀ env c F P m Q) E s := by
  cases h with
  | @dict a k es he hm hlim hq =>
    cases ro; obtain ⟨t, rfl⟩ := ri
    obtain ⟨y, hy, kvs, hd, pr⟩ := x.ext.read (at_of he rfl)
    have hl := pr.length
    unfold lim at hlim
    obtain ⟨nm, FR, NR, hloc⟩ := x.led
    obtain ⟨pre, post, hn, h1, h2⟩ := split_mem (nodup_allNews _ _ _) (x.inNews he rfl hy)
    rw [hn] at NR
    refine kob_del (knd := intKind thePr w) (k := k) FR NR (updF_of h1 h2) hd (by simp [intKind, Value.isInt]) ?_ (by rw [sizeLine_eq]; omega) fun h' o' F' N' hd' => ⟨_, x.ofLed (o' := .dict (ddel es k)) hloc hn F' N' he rfl ⟨_, hd', pr.without k⟩ rfl, hq⟩
    rw [valueAt_isSome, ← pr.keys]; exact decide_eq_true hm
end
end Mine
end
section
namespace Mine
open PySem PySem.W PyProof.Rows PySem.Calls
set_option maxRecDepth 100000

theorem slicePick_step (items : Array Value) (k n : Nat) (hn : 1 ≤ n) : (slicePick items (some (k : Int)) none (some (n : Int))).toList = (List.range (stepCount items.size k n)).filterMap fun j => items[k + j * n]? := by
  unfold slicePick sliceBounds sliceRange
  have hp : ((n : Int) > 0) = True := by simp; omega
  have hk : ¬ ((k : Int) < 0) := by omega
  simp only [Option.getD_some, hp, if_true, hk, if_false, List.toList_toArray]
  rw [List.filterMap_map]
  by_cases hlt : k < items.size
  · have e1 : max 0 (min (k : Int) (items.size : Int)) = (k : Int) := by omega
    rw [e1]
    have hlt' : (k : Int) < (items.size : Int) := by omega
    rw [if_pos hlt']
    have ec : (((items.size : Int) - (k : Int) + (n : Int) - 1) / (n : Int)).toNat = stepCount items.size k n := by
      unfold stepCount
      rw [if_pos hlt]
      have : (items.size : Int) - (k : Int) + (n : Int) - 1 = ((items.size - k + n - 1 : Nat) : Int) := by omega
      rw [this, ← Int.natCast_ediv, Int.toNat_natCast]
    rw [ec]
    congr 1
    funext j
    simp only [Function.comp]
    congr 1
    have : (k : Int) + (n : Int) * (j : Int) = ((k + j * n : Nat) : Int) := by push_cast; rw [Int.mul_comm]
    rw [this, Int.toNat_natCast]
  · have e1 : max 0 (min (k : Int) (items.size : Int)) = (items.size : Int) := by omega
    rw [e1, if_neg (Int.lt_irrefl _)]
    unfold stepCount
    rw [if_neg hlt]
    rfl

theorem stepCount_lt {s k n j : Nat} (hn : 1 ≤ n) (hj : j < stepCount s k n) : k + j * n < s := by
  unfold stepCount at hj
  split at hj
  · have h1 : j + 1 ≤ (s - k + n - 1) / n := hj
    have h2 := (Nat.le_div_iff_mul_le (by omega)).mp h1
    rw [Nat.add_mul] at h2
    omega
  · omega

theorem AllR.stepped {vs : List AV} {items : Array Value} (h : AllR vs items.toList) (k n : Nat) (hn : 1 ≤ n) : AllR (Mine.stepped vs k n) ((List.range (stepCount items.size k n)).filterMap fun j => items[k + j * n]?) := by
  have hl : vs.length = items.size := by simpa using h.length
  unfold Mine.stepped
  rw [hl]
  have key : ∀ c, c ≤ stepCount items.size k n → AllR ((List.range c).map fun j => vs.getD (k + j * n) .none) ((List.range c).filterMap fun j => items[k + j * n]?) := by
    intro c
    induction c with
    | zero => intro _; exact .nil
    | succ c ih =>
      intro hc
      rw [List.range_succ, List.map_append, List.filterMap_append]
      have hlt := stepCount_lt (s := items.size) (k := k) hn (j := c) hc
      have hv : vs[k + c * n]? = some (vs[k + c * n]'(by omega)) := List.getElem?_eq_getElem (by omega)
      obtain ⟨v, hv', r⟩ := h.get _ _ hv
      rw [Array.getElem?_toList] at hv'
      refine (ih (by omega)).append ?_
      simp only [List.map_cons, List.map_nil, List.filterMap_cons, hv', List.filterMap_nil, List.getD_eq_getElem?_getD, hv, Option.getD_some]
      exact .cons r .nil
  exact key _ (Nat.le_refl _)

section
variable {w : World} {base : Heap} {s₀ : Shared} {mg mb : Str → Option Value} {env : Env} {c : TC} {F : Addr → Option Obj} {P : Addr → Prop} {m : Mem} {σ σ' : Store} {s : Shared} {A : Around} {E : Value → Shared → Prop}

theorem Rep.ofNew (x : Rep w base s₀ env c F P m σ s) {nm : Str → Option Value} {h' : Heap} {tk : Nat} {d : Addr} {o' : AO} {y' : Obj}
    (hl : ∀ x i v, c.names.lookup x = some .local → c.vt.lookup x = some i → m[i]? = some (some v) → ∃ v', nm x = some v' ∧ v.R v')
    (F' : Fr (low base) env.locals h' nm) (N' : News (low base) env.locals h' ((d, y') :: allNews base s.heap env.locals)) (hd : s.heap.objs.size ≤ d) (r : RO w o' y') (hr' : isRo o' = false) (hnd : isNode o' = false := by rfl) :
    Rep w base s₀ env c F P m (Mine.upd σ d o') { s with heap := h', toks := tk } := by
  have hk : ∀ b z, b ≠ env.locals → s.heap.get? b = some z → h'.get? b = some z := fun b z hL e => by
    cases hlow : (low base).get? b with
    | some q =>
      have h1 := x.ext.inBase (low_some hlow)
      rw [e] at h1; cases h1
      exact F'.keep b _ hlow
    | none => exact (N' (b, z) (List.mem_cons_of_mem _ (mem_allNews.mpr ⟨e, hL, hlow⟩))).1
  have hnone : s.heap.get? d = none := by
    cases e : s.heap.get? d with
    | none => rfl
    | some o => exact absurd (Heap.lt_size e) (Nat.not_lt.mpr hd)
  have hfr := x.ext.fresh hnone
  have h196 : 196 < d := Nat.lt_of_lt_of_le x.ext.size3 hd
  have hdL : d ≠ env.locals := by
    rintro rfl
    obtain ⟨nm', ⟨oL, _, _, hoL, _⟩, _⟩ := x.ns
    rw [hnone] at hoL; cases hoL
  have hy' := (N' (d, y') (by simp)).1
  have hx : Ext w base s₀ F P (Mine.upd σ d o') { s with heap := h', toks := tk } := by
    obtain ⟨⟨h, t, rfl⟩, x1, x2, x3, x4, x5, x6, x7, x8⟩ := x.ext
    refine ⟨⟨h', tk, rfl⟩, fun b z e => (x1 b z e).map fun y => hk b y (by rintro rfl; rw [x.apart.1] at e; cases e), fun b z e hz => ?_, fun b z e => ?_, x4, fun b p => ?_, x6, fun b z e hz => ?_, fun b z e hz => ?_⟩
    · unfold Mine.upd at e
      by_cases hb : b = d
      · subst hb; simp only [if_true, Option.some.injEq] at e; subst e; exact ⟨hfr.2, y', hy', r⟩
      · rw [if_neg hb] at e
        obtain ⟨f1, q, f2, f3⟩ := x2 b z e hz
        exact ⟨f1, q, hk b q (by rintro rfl; rw [x.apart.2] at e; cases e) f2, f3⟩
    · unfold Mine.upd at e
      by_cases hb : b = d
      · subst hb; simp only [if_true, Option.some.injEq] at e; subst e; cases hr'
      · rw [if_neg hb] at e; exact x3 b z e
    · have := x5 b p
      have hb : b ≠ d := by rintro rfl; rw [hfr.2] at this; cases this.2
      exact ⟨by unfold Mine.upd; rw [if_neg hb]; exact this.1, this.2⟩
    · unfold Mine.upd at e
      by_cases hb : b = d
      · subst hb; exact h196
      · rw [if_neg hb] at e; exact x7 b z e hz
    · unfold Mine.upd at e
      by_cases hb : b = d
      · subst hb
        simp only [if_true, Option.some.injEq] at e; subst e
        rw [hnd] at hz; cases hz
      · rw [if_neg hb] at e
        obtain ⟨u, q, v, h1, h2, h3⟩ := x8 b z e hz
        have h4 : ∃ v', h'.get? q = some v' ∧ noF v' := by
          by_cases hL : q = env.locals
          · obtain ⟨oL, _, _, hoL, hdL, _⟩ := F'.ns; exact ⟨oL, hL ▸ hoL, fun fs e => by rw [hdL] at e; cases e⟩
          · exact ⟨v, hk q v hL h3.1, h3.2⟩
        obtain ⟨v', h4⟩ := h4
        exact ⟨u, q, v', hk b u (by rintro rfl; rw [x.apart.2] at e; cases e) h1, h2, h4⟩
  refine ⟨hx, x.len, ⟨nm, F'.ns, hl⟩, ⟨x.apart.1, ?_⟩, x.lhi, fun z hz => ?_, x.fre, x.fin⟩
  · unfold Mine.upd; rw [if_neg (Ne.symm hdL)]; exact x.apart.2
  · obtain ⟨a, q, g1, g2, g3, g4, g5, g6⟩ := x.cel z hz
    have had : a ≠ d := by rintro rfl; rw [hnone] at g5; cases g5
    exact ⟨a, q, g1, g2, g3, by unfold Mine.upd; rw [if_neg had]; exact g4, hk a q g2 g5, g6⟩

theorem Rep.ofSame (x : Rep w base s₀ env c F P m σ s) {nm : Str → Option Value} {h' : Heap} {tk : Nat}
    (hl : ∀ x i v, c.names.lookup x = some .local → c.vt.lookup x = some i → m[i]? = some (some v) → ∃ v', nm x = some v' ∧ v.R v')
    (F' : Fr (low base) env.locals h' nm) (N' : News (low base) env.locals h' (allNews base s.heap env.locals)) : Rep w base s₀ env c F P m σ { s with heap := h', toks := tk } := by
  have hk : ∀ b z, b ≠ env.locals → s.heap.get? b = some z → h'.get? b = some z := fun b z hL e => by
    cases hlow : (low base).get? b with
    | some q =>
      have h1 := x.ext.inBase (low_some hlow)
      rw [e] at h1; cases h1
      exact F'.keep b _ hlow
    | none => exact (N' (b, z) (mem_allNews.mpr ⟨e, hL, hlow⟩)).1
  have hx : Ext w base s₀ F P σ { s with heap := h', toks := tk } := by
    obtain ⟨⟨h, t, rfl⟩, x1, x2, x3, x4, x5, x6, x7, x8⟩ := x.ext
    refine ⟨⟨h', tk, rfl⟩, fun b z e => (x1 b z e).map fun y => hk b y (by rintro rfl; rw [x.apart.1] at e; cases e), fun b z e hz => ?_, x3, x4, x5, x6, x7, fun b z e hz => ?_⟩
    rotate_left
    · obtain ⟨u, q, v, h1, h2, h3⟩ := x8 b z e hz
      have h4 : ∃ v', h'.get? q = some v' ∧ noF v' := by
        by_cases hL : q = env.locals
        · obtain ⟨oL, _, _, hoL, hdL, _⟩ := F'.ns; exact ⟨oL, hL ▸ hoL, fun fs e => by rw [hdL] at e; cases e⟩
        · exact ⟨v, hk q v hL h3.1, h3.2⟩
      obtain ⟨v', h4⟩ := h4
      exact ⟨u, q, v', hk b u (by rintro rfl; rw [x.apart.2] at e; cases e) h1, h2, h4⟩
    obtain ⟨f1, q, f2, f3⟩ := x2 b z e hz
    exact ⟨f1, q, hk b q (by rintro rfl; rw [x.apart.2] at e; cases e) f2, f3⟩
  refine ⟨hx, x.len, ⟨nm, F'.ns, hl⟩, x.apart, x.lhi, fun z hz => ?_, x.fre, x.fin⟩
  obtain ⟨a, q, g1, g2, g3, g4, g5, g6⟩ := x.cel z hz
  exact ⟨a, q, g1, g2, g3, g4, hk a q g2 g5, g6⟩

theorem bool_list {l : Addr} {items : Array Value} {Q : Value → Shared → Prop} (hl : s.heap.IsList l items) (hz : (items.size : Int) < 2 ^ 63) (h : Q (.bool (!items.isEmpty)) { s with toks := s.toks + 1 + 1 }) :
    wpAny (model thePr w) A (call (.type "bool") [.ref l]) Q E s := by
  have g : Meets (Builtin.«bool.__new__» ⟨[.type "bool", .ref l], []⟩) (fun _ R s => ∃ items, s.heap.IsList l items ∧ (items.size : Int) < 2 ^ 63 ∧ R (.ok (.ret (.bool (!items.isEmpty)))) { s with toks := s.toks + 1 + 1 }) :=
    Meets.of_wp fun prog w A R s hs => by
      obtain ⟨items, hl, hz, hR⟩ := hs
      obtain ⟨hp, g, d, tk, os⟩ := s
      have f1 := PySem.F.conv_sub_bool
      repeat (any_goals (first | assumption | (with_reducible refine wpAny_truthy_list hl hz ?_) | wp_step))
      all_goals first | exact ⟨_, rfl, hR⟩ | skip
  exact call_bool_1 g (show ∃ items, _ ∧ _ ∧ wants (fun obj s₁ => s₁.TypeIs obj "bool" ∧ Q obj s₁) E _ _ from ⟨items, hl, hz, rfl, h⟩)

theorem iter_list {l : Addr} {items : Array Value} {Q : Value → Shared → Prop} (hl : s.heap.IsList l items)
    (h : Q (.ref s.heap.objs.size) { s with heap := s.heap.push { cls := .type "list_iterator", data := .fields #[.ref l, .int 0 0] } }) : wpAny (model thePr w) A (call (.builtin "iter") [.ref l]) Q E s := by
  refine call_function_entry (by decide +kernel) (by decide +kernel) kdk_entry_iter (kdk_args_iter _) ?_
  unfold Builtin.«iter»
  refine wpAny_bind (m := someArgs "iter" 1 2 _) (wpAny_of_eq (a := [Value.ref l]) (by first | rfl | kernel_rfl!) ?_)
  show wpAny _ _ (pyIter (.ref l) >>= _) _ _ _
  exact wpAny_bind (wpAny_pyIter_list hl (wpAny_pure ⟨_, rfl, h⟩))

theorem foldl_min_le (xs : List Int) : ∀ x : Int, xs.foldl min x ≤ x ∧ ∀ y ∈ xs, xs.foldl min x ≤ y := by
  induction xs with
  | nil => intro x; exact ⟨Int.le_refl _, fun _ h => nomatch h⟩
  | cons a r ih =>
    intro x
    rw [List.foldl_cons]
    obtain ⟨h1, h2⟩ := ih (min x a)
    refine ⟨by omega, fun y hy => ?_⟩
    rcases List.mem_cons.mp hy with rfl | hy
    · omega
    · exact h2 y hy
theorem foldl_min_mem (xs : List Int) : ∀ x : Int, xs.foldl min x ∈ x :: xs := by
  induction xs with
  | nil => intro x; exact List.mem_cons_self
  | cons a r ih =>
    intro x
    rw [List.foldl_cons]
    have := ih (min x a)
    rcases List.mem_cons.mp this with h | h
    · rw [h]
      by_cases hx : x ≤ a
      · rw [Int.min_eq_left hx]; exact List.mem_cons_self
      · rw [Int.min_eq_right (by omega)]; exact List.mem_cons_of_mem _ List.mem_cons_self
    · exact List.mem_cons_of_mem _ (List.mem_cons_of_mem _ h)

theorem AllR.one {a : AV} {vs : List Value} (h : AllR [a] vs) : ∃ v, vs = [v] ∧ a.R v := by
  cases h with | cons r h' => cases h'; exact ⟨_, rfl, r⟩
theorem AllR.two {a b : AV} {vs : List Value} (h : AllR [a, b] vs) : ∃ u v, vs = [u, v] ∧ a.R u ∧ b.R v := by
  cases h with | cons r h' => obtain ⟨v, rfl, r'⟩ := h'.one; exact ⟨_, v, rfl, r, r'⟩
theorem AllR.three {a b d : AV} {vs : List Value} (h : AllR [a, b, d] vs) : ∃ u v y, vs = [u, v, y] ∧ a.R u ∧ b.R v ∧ d.R y := by
  cases h with | cons r h' => obtain ⟨v, y, rfl, r', r''⟩ := h'.two; exact ⟨_, v, y, rfl, r, r', r''⟩

theorem fit64 {x : Int} (h1 : -2000002 ≤ x) (h2 : x ≤ 2000002) : -2 ^ 63 ≤ x ∧ x < 2 ^ 63 := ⟨Int.le_trans (by decide) h1, Int.lt_of_le_of_lt h2 (by decide)⟩
theorem abs_lim {a : Int} (h : a.natAbs ≤ lim) : -1000000 ≤ a ∧ a ≤ 1000000 := by
  unfold lim at h; omega
theorem small_of {a b c : Int} (ha : a.natAbs ≤ lim) (hb : b.natAbs ≤ lim) (hc : c = 1 ∨ c = -1) : Builtin.Range.small a b c = true := by
  obtain ⟨a1, a2⟩ := abs_lim ha
  obtain ⟨b1, b2⟩ := abs_lim hb
  have fa := fit64 (x := a) (Int.le_trans (by decide) a1) (Int.le_trans a2 (by decide))
  have fb := fit64 (x := b) (Int.le_trans (by decide) b1) (Int.le_trans b2 (by decide))
  have fd : ∀ x : Int, x = b - a ∨ x = a - b ∨ x = 0 → -2 ^ 63 ≤ x ∧ x < 2 ^ 63 := fun x hx => fit64 (by omega) (by omega)
  unfold Builtin.Range.small Builtin.Range.rangeSize
  rcases hc with rfl | rfl
  · simp only [Builtin.Range.rangeFitsLong, Bool.and_eq_true, Bool.or_eq_true, decide_eq_true_eq, beq_iff_eq, show (1 : Int) > 0 by decide, if_true, Int.ediv_one, Int.sub_add_cancel, Int.sub_self, Int.add_zero]
    refine ⟨⟨⟨⟨fa, fb⟩, by decide⟩, fd _ ?_⟩, .inr fb⟩
    split
    · exact .inl rfl
    · exact .inr (.inr rfl)
  · simp only [Builtin.Range.rangeFitsLong, Bool.and_eq_true, Bool.or_eq_true, decide_eq_true_eq, beq_iff_eq, show ¬ ((-1 : Int) > 0) by decide, if_false, Int.neg_neg, Int.ediv_one, Int.sub_add_cancel]
    refine ⟨⟨⟨⟨fa, fb⟩, by decide⟩, fd _ ?_⟩, .inr (fit64 (by omega) (by omega))⟩
    split
    · exact .inr (.inl rfl)
    · exact .inr (.inr rfl)

theorem new_range (x : Rep w base s₀ env c F P m σ s) {lo hi st : Int} {t₁ t₂ t₃ : Tok} {n : Nat} {tk : Nat} (h1 : Builtin.Range.small lo hi st = true) (h2 : Builtin.Range.rangeSize lo hi st = (n : Int)) :
    Rep w base s₀ env c F P m (Mine.upd σ s.heap.objs.size (.range lo n st)) { s with heap := s.heap.push { cls := .type "range", data := .fields #[.int lo t₁, .int hi t₂, .int st t₃] }, toks := tk } :=
  x.push ⟨hi, t₁, t₂, t₃, rfl, h1, h2⟩ rfl rfl

theorem rangeSize_up {lo hi : Int} : Builtin.Range.rangeSize lo hi 1 = ((hi - lo).toNat : Int) := by
  unfold Builtin.Range.rangeSize; split <;> (try split) <;> omega
theorem bcall_ok (x : Rep w base s₀ env c F P m σ s) {b : BI} {as : List AV} {vs : List Value} {Q : AV → Store → Prop} (hA : A.handled = none) (r : AllR as vs) (h : Bcall b as Q σ) :
    wpAny (model thePr w) A (call b.val vs) (PoA w base s₀ env c F P m Q) E s := by
  have hfresh := (x.ext.fresh (get?_size s.heap)).1
  cases h with
  | len us h1 h2 h3 =>
    obtain ⟨_, rfl, rfl⟩ := r.one
    rcases h1 with h1 | h1
    · obtain ⟨items, n, e1, r1⟩ := x.ext.list h1
      have hl := r1.length
      simp only [Array.length_toList] at hl
      refine call_len_list (isList_of e1) (by unfold lim at h2; omega) ⟨.int _, _, ⟨_, rfl⟩, x.toks _, ?_⟩
      rw [← hl]; exact h3
    · obtain ⟨items, n, e1, r1⟩ := x.ext.tuple h1
      have hl := r1.length
      simp only [Array.length_toList] at hl
      refine PyProof.Rows.len_tuple ⟨_, e1, rfl, n, rfl⟩ (by unfold lim at h2; omega) ⟨.int _, _, ⟨_, rfl⟩, x.toks _, ?_⟩
      rw [← hl]; exact h3
  | sum xs h1 h2 =>
    obtain ⟨_, rfl, rfl⟩ := r.one
    obtain ⟨us, l1, i1⟩ := x.ext.ints h1
    obtain ⟨nm, FR, NR, hloc⟩ := x.led
    exact sumK hA FR NR l1 i1 fun h' tk t' F' N' => ⟨.int _, _, ⟨_, rfl⟩, x.ofSame hloc F' N', h2⟩
  | @range1 n _ _ h1 h2 =>
    obtain ⟨_, rfl, t, rfl⟩ := r.one
    refine call_range_1 ⟨.ref _, _, rfl, new_range x (n := n.toNat) (small_of (by decide) h1 (.inl rfl)) ?_, h2 _ hfresh⟩
    rw [rangeSize_up, Int.sub_zero]
  | @range2 a b' _ _ h1 h2 h3 =>
    obtain ⟨_, _, rfl, ⟨t, rfl⟩, ⟨u, rfl⟩⟩ := r.two
    refine call_range_2 ⟨.ref _, _, rfl, new_range x (n := (b' - a).toNat) (small_of h1 h2 (.inl rfl)) ?_, h3 _ hfresh⟩
    exact rangeSize_up
  | @range3 a b' _ _ h1 h2 h3 =>
    obtain ⟨_, _, _, rfl, ⟨t, rfl⟩, ⟨u, rfl⟩, ⟨v, rfl⟩⟩ := r.three
    refine call_range_3 (by decide) ⟨.ref _, _, rfl, new_range x (n := (a - b').toNat) (small_of h1 h2 (.inr rfl)) ?_, h3 _ hfresh⟩ (.inl (PyProof.noPylong_small (by decide)))
    unfold Builtin.Range.rangeSize
    simp only [show ¬ ((-1 : Int) > 0) by decide, if_false, Int.neg_neg, Int.ediv_one]
    split <;> omega
  | sorted xs h1 h2 h3 =>
    obtain ⟨_, rfl, rfl⟩ := r.one
    obtain ⟨us, l1, i1⟩ := x.ext.ints h1
    obtain ⟨nm, FR, NR, hloc⟩ := x.led
    have hn1 : s.heap.get? (s.heap.objs.size + 1) = none := by
      cases e : s.heap.get? (s.heap.objs.size + 1) with
      | none => rfl
      | some o => exact absurd (Heap.lt_size e) (Nat.not_lt.mpr (Nat.le_succ _))
    have hlen : us.length < 64 := by have := i1.length; omega
    refine sorted_N FR NR l1 i1 hlen fun h' vs' ns' e F' N' i' p' s' => ⟨.ref _, _, rfl, x.ofNew (o' := .list (ofInts ns')) hloc F' N' (Nat.le_succ _) ⟨vs'.toArray, e, rfl, by simpa using allR_ofInts i'⟩ rfl, h3 _ (x.ext.fresh hn1).1 ns' p' s'⟩
  | @abs a _ _ h =>
    obtain ⟨_, rfl, t, rfl⟩ := r.one
    refine call_abs_int fun u tk => ⟨.int _, _, ⟨_, rfl⟩, x.toks _, ?_⟩
    have : (if a < 0 then -a else a) = (a.natAbs : Int) := by split <;> omega
    rw [this]; exact h
  | @min2 a b' _ _ h =>
    obtain ⟨_, _, rfl, ⟨t, rfl⟩, ⟨u, rfl⟩⟩ := r.two
    refine min_two_ints hA fun h' tk hk => ⟨.int (min a b'), _, ?_, x.grow hk, h⟩
    by_cases hb : b' < a
    · rw [if_pos hb]; exact ⟨u, by rw [Int.min_eq_right (by omega)]⟩
    · rw [if_neg hb]; exact ⟨t, by rw [Int.min_eq_left (by omega)]⟩
  | @max2 a b' _ _ h =>
    obtain ⟨_, _, rfl, ⟨t, rfl⟩, ⟨u, rfl⟩⟩ := r.two
    refine max_two_ints hA fun h' tk hk => ⟨.int (max a b'), _, ?_, x.grow hk, h⟩
    by_cases hb : b' > a
    · rw [if_pos hb]; exact ⟨u, by rw [Int.max_eq_right (by omega)]⟩
    · rw [if_neg hb]; exact ⟨t, by rw [Int.max_eq_left (by omega)]⟩
  | min1 y xs h1 h2 =>
    obtain ⟨_, rfl, rfl⟩ := r.one
    obtain ⟨us, l1, i1⟩ := x.ext.ints h1
    obtain ⟨nm, FR, NR, hloc⟩ := x.led
    refine min_list_N hA FR NR l1 i1 (by simp) fun h' M t tk F' N' hm hle => ⟨.int _, _, ⟨_, rfl⟩, x.ofSame hloc F' N', ?_⟩
    have e : M = xs.foldl min y := by
      have h3 := hle _ (foldl_min_mem xs y)
      have h4 := foldl_min_le xs y
      rcases List.mem_cons.mp hm with h5 | h5
      · have := h4.1; omega
      · have := h4.2 M h5; omega
    rw [e]; exact h2
  | list xs h1 h2 h3 =>
    obtain ⟨_, rfl, rfl⟩ := r.one
    obtain ⟨items, n, e1, r1⟩ := x.ext.list h1
    have hl := r1.length
    simp only [Array.length_toList] at hl
    refine call_list_seq _ (.inl rfl) e1 rfl rfl (fun h' c' hk hy => ⟨.ref _, _, rfl, x.new (o' := .list xs) (get?_size _) x.ext.size3 hk hy ⟨items, c', rfl, r1⟩ rfl, h3 _ hfresh⟩) (lim_size (by omega))
  | tuple xs h1 h2 h3 =>
    obtain ⟨_, rfl, rfl⟩ := r.one
    obtain ⟨items, n, e1, r1⟩ := x.ext.list h1
    have hl := r1.length
    simp only [Array.length_toList] at hl
    refine call_tuple_list (isList_of e1) (fun h' hk => ?_) (lim_size (by omega))
    have hk' := x.grow (tk := s.toks) hk
    exact ⟨.ref _, _, rfl, hk'.push (o' := .tuple xs) ⟨items, 0, rfl, r1⟩ rfl rfl, h3 _ (hk'.ext.fresh (get?_size h')).1⟩
  | set h =>
    cases r
    refine call_set_0 fun led => ⟨.ref _, _, rfl, x.push (o' := .iset []) ⟨List.nodup_nil, #[], 0, _, ⟨rfl, rfl, rfl⟩, rfl, (fun _ h => nomatch h), (fun k => by simp), (by decide), ?_, rfl⟩ rfl rfl, h _ hfresh⟩
    cases led <;> decide
  | bool xs h1 h2 h3 =>
    obtain ⟨_, rfl, rfl⟩ := r.one
    obtain ⟨items, n, e1, r1⟩ := x.ext.list h1
    have hl := r1.length
    simp only [Array.length_toList] at hl
    refine bool_list (isList_of e1) (by unfold lim at h2; omega) ⟨.bool _, _, rfl, x.toks _, ?_⟩
    have : items.isEmpty = xs.isEmpty := by
      rw [Bool.eq_iff_iff]; simp only [Array.isEmpty_iff, List.isEmpty_iff, ← Array.size_eq_zero_iff, ← List.length_eq_zero_iff, hl]
    rw [this]; exact h3
  | iter xs h1 h2 =>
    obtain ⟨_, rfl, rfl⟩ := r.one
    obtain ⟨items, n, e1, r1⟩ := x.ext.list h1
    exact iter_list (isList_of e1) ⟨.ref _, _, rfl, x.push (o' := .liter _ 0) rfl rfl rfl, h2 _ hfresh⟩
end
end Mine
end
section
namespace Mine
open PySem PySem.W PyProof.Rows PySem.Calls
set_option maxRecDepth 100000

theorem starEach1 {env : Env} {e : Expr} {r : List Expr} (h : isStar e = false) : starEach (e :: r) env = (false, eval e env) :: starEach r env := by
  cases e <;> first | rfl | (cases h; done)
theorem starEach_plain {env : Env} : ∀ {es : List Expr}, (∀ e ∈ es, isStar e = false) → starEach es env = es.map fun e => (false, eval e env)
  | [], _ => rfl
  | e :: r, h => by rw [starEach1 (h e List.mem_cons_self), starEach_plain fun x hx => h x (List.mem_cons_of_mem _ hx)]; rfl
theorem backTo_plain {pos : Pos} {env : Env} {es : List Expr} (h : ∀ e ∈ es, isStar e = false) : backTo pos (starEach es env) = es.map fun e => (false, eval e env) := by
  rw [starEach_plain h]
  unfold backTo
  rw [List.map_map]
  congr 1
theorem attributeBase_plain {o : Expr} {name : Str} {env : Env} {t : Sem Value} (h : plainBase o = true) : attributeBase o name env t = t := by
  cases o with
  | Call f args kws p => cases args with
    | nil => cases h
    | cons a l => cases f <;> rfl
  | _ => rfl

theorem ty_append : typeOf (.builtin "list.append") = pure (.type "method_descriptor") := by show builtinType _ = _; rw [builtinType_eq_fast]; kernel_rfl
theorem ty_pop : typeOf (.builtin "list.pop") = pure (.type "method_descriptor") := by show builtinType _ = _; rw [builtinType_eq_fast]; kernel_rfl
theorem ty_clear : typeOf (.builtin "list.clear") = pure (.type "method_descriptor") := by show builtinType _ = _; rw [builtinType_eq_fast]; kernel_rfl
theorem ty_get : typeOf (.builtin "dict.get") = pure (.type "method_descriptor") := by show builtinType _ = _; rw [builtinType_eq_fast]; kernel_rfl
theorem ty_items : typeOf (.builtin "dict.items") = pure (.type "method_descriptor") := by show builtinType _ = _; rw [builtinType_eq_fast]; kernel_rfl
theorem ty_values : typeOf (.builtin "dict.values") = pure (.type "method_descriptor") := by show builtinType _ = _; rw [builtinType_eq_fast]; kernel_rfl

section
variable {w : World} {base : Heap} {s₀ : Shared} {mg mb : Str → Option Value} {env : Env} {c : TC} {F : Addr → Option Obj} {P : Addr → Prop} {m : Mem} {σ σ' : Store} {s : Shared} {A : Around} {E : Value → Shared → Prop}

theorem eval_mcall {o : Expr} {name : Str} {apos pos : Pos} {args : List Expr} {Q : Value → Shared → Prop} (hb : plainBase o = true) (hl : (apos.endLine == pos.line) = true) (hn : args.length < 20) (hs : ∀ e ∈ args, isStar e = false)
    (h : wpAny (model thePr w) A (eval o env) (fun ov s₁ => ∀ pl, wpAny (model thePr w) A (getMethod ov name pl) (fun fr s₂ => wpAny (model thePr w) A (callWith pos fr.1 fr.2 (backTo pos (starEach args env)) []) Q E s₂) E s₁) E s) :
    wpAny (model thePr w) A (eval (.Call (.Attribute o name apos) args [] pos) env) Q E s := by
  show wpAny _ A (do
    let ov ← attributeBase o name env (eval o env)
    standAt apos.atName
    methodCall o name apos pos env ov (args.length + ([] : List Keyword).length) (backTo pos (starEach args env)) (backToKw pos (keywordEach [] env))) Q E s
  rw [attributeBase_plain hb]
  refine wpAny_bind (wpAny_mono h (fun ov s₁ h₁ => wpAny_bind (wpAny_standAt ?_)) fun _ _ e => e)
  have hform : methodCallForm (args.length + ([] : List Keyword).length) (backTo pos (starEach args env)) (backToKw pos (keywordEach [] env)) = true := by
    rw [backTo_plain hs]
    unfold methodCallForm
    have : backToKw pos (keywordEach [] env) = [] := rfl
    rw [this]
    simp; omega
  have hpos : methodCallPos true o env apos pos = pure pos := by unfold methodCallPos; simp [hl]
  unfold methodCall
  rw [hform]
  refine wpAny_bind (wpAny_holding ?_)
  show wpAny _ A (getMethod ov name _) _ E s₁
  refine wpAny_mono (h₁ _) (fun fr s₂ h₂ => ?_) fun _ _ e => e
  obtain ⟨f, first⟩ := fr
  show wpAny _ A (methodCallPos true o env apos pos >>= _) _ E s₂
  exact wpAny_bind (wpAny_of_eq hpos h₂)

theorem evalArgs_plainL {f : Value} {trees : List (Sem Value)} {Q : Args → Shared → Prop} (h : wpAny (model thePr w) A (spliced (trees.map fun t => (false, t))) (fun vs s' => Q ⟨vs, []⟩ s') E s) :
    wpAny (model thePr w) A (evalArgs f true (trees.map fun t => (false, t)) []) Q E s := by
  cases trees with
  | nil =>
    have e : evalArgs f true [] [] = pure ⟨[], []⟩ := rfl
    show wpAny _ A (evalArgs f true [] []) Q E s
    rw [e]
    exact fun Γ p hΓ => h Γ p hΓ
  | cons t r => exact evalArgs_plain h

theorem Ext.neSys (x : Ext w base s₀ F P σ s) {a : Addr} {o : AO} (ha : σ a = some o) (hr : isRo o = false) : (a == sysModules) = false := by
  have h := x.hi a o ha hr
  have : a ≠ sysModules := fun e => absurd (e ▸ h : 196 < sysModules) (by decide)
  simpa using this

theorem method_list (x : Rep w base s₀ env c F P m σ s) {a : Addr} {vs : List AV} {name : Str} {id : String} {pl : Sem Bool} {Q : Value × List Value → Shared → Prop} (ha : σ a = some (.list vs)) (slot : Slot "list" name id)
    (hty : typeOf (.builtin id) = pure (.type "method_descriptor")) (h : Q (.builtin id, [.ref a]) s) : wpAny (model thePr w) A (getMethod (.ref a) name pl) Q E s := by
  obtain ⟨items, n, e1, r1⟩ := x.ext.list (at_of ha rfl)
  exact getMethod_builtin (isList_of e1).typeIs PySem.F.plainAttrs_list slot hty (fun b hb => by cases hb; exact ⟨_, e1, rfl⟩) h
theorem method_dict (x : Rep w base s₀ env c F P m σ s) {a : Addr} {es : List (Int × AV)} {name : Str} {id : String} {pl : Sem Bool} {Q : Value × List Value → Shared → Prop} (ha : σ a = some (.dict es)) (slot : Slot "dict" name id)
    (hty : typeOf (.builtin id) = pure (.type "method_descriptor")) (h : Q (.builtin id, [.ref a]) s) : wpAny (model thePr w) A (getMethod (.ref a) name pl) Q E s := by
  obtain ⟨y, hy, kvs, hd, pr⟩ := x.ext.read (at_of ha rfl)
  have hT := (intMap_of hy hd).typeIs
  obtain ⟨_, _, hx, _⟩ := hd
  exact getMethod_builtin hT PySem.F.plainAttrs_dict slot hty (fun b hb => by cases hb; exact ⟨_, hy, hx.2.1⟩) h

inductive MkV (σ : Store) (a : Adr) : Nat → Prop
  | zero : MkV σ a 0
  | list (vs : List AV) (h : σ a = some (.list vs)) : MkV σ a 1
  | dict (es : List (Int × AV)) (h : σ a = some (.dict es)) : MkV σ a 2
  | iset (xs : List Int) (h : σ a = some (.iset xs)) : MkV σ a 3
  | inst (d : Adr) (vs : List AV) (h : σ a = some (.inst d)) (hd : σ d = some (.sdict vs)) : MkV σ a 4
theorem mk_view (σ : Store) (a : Adr) : MkV σ a (Mk σ (.ref a)) := by
  show MkV σ a ((σ a).elim 0 (AO.kd σ))
  cases e : σ a with
  | none => exact .zero
  | some o =>
    cases o with
    | list vs => exact .list vs e
    | dict es => exact .dict es e
    | iset xs => exact .iset xs e
    | inst d =>
      show MkV σ a (match σ d with | some (.sdict _) => 4 | _ => 0)
      cases e' : σ d with
      | none => exact .zero
      | some o' => cases o' with
        | sdict vs => exact .inst d vs e e'
        | _ => exact .zero
    | _ => exact .zero

noncomputable def Meth.nm : Meth → Str
  | .append => "append" | .pop => "pop" | .clear => "clear" | .get => "get" | .items => "items" | .values => "values" | .add => "add" | .prepare => "prepare" | .getready => "get_ready" | .isactive => "is_active" | .done => "done"
  | .findcycle => "_find_cycle" | .getinfo => "_get_nodeinfo"
theorem meth_nm {name : Str} {f : Meth} (h : (name, f) ∈ meths) : name = f.nm := (by decide : ∀ q ∈ meths, q.1 = q.2.nm) _ h
noncomputable def Meth.bid : Meth → String
  | .append => "list.append" | .pop => "list.pop" | .clear => "list.clear" | .get => "dict.get" | .items => "dict.items" | .values => "dict.values" | .add => "set.add" | _ => ""

theorem kind_list {f : Meth} (h : f.kind = 1) : Slot "list" f.nm f.bid ∧ typeOf (.builtin f.bid) = pure (.type "method_descriptor") := by
  cases f with
  | append => exact ⟨PySem.F.slot_list_append, ty_append⟩
  | pop => exact ⟨PySem.F.slot_list_pop, ty_pop⟩
  | clear => exact ⟨PySem.F.slot_list_clear, ty_clear⟩
  | _ => exact nomatch h
theorem kind_dict {f : Meth} (h : f.kind = 2) : Slot "dict" f.nm f.bid ∧ typeOf (.builtin f.bid) = pure (.type "method_descriptor") := by
  cases f with
  | get => exact ⟨PySem.F.slot_dict_get, ty_get⟩
  | items => exact ⟨PySem.F.slot_dict_items, ty_items⟩
  | values => exact ⟨PySem.F.slot_dict_values, ty_values⟩
  | _ => exact nomatch h
theorem kind_set {f : Meth} (h : f.kind = 3) : f = .add := by
  cases f with
  | add => rfl
  | _ => exact nomatch h
theorem kind_ne {f : Meth} (h : f.kind = 0) : False := by
  cases f <;> exact nomatch h

theorem getMeth_ok (x : Rep w base s₀ env c F P m σ s) {a : Addr} {f : Meth} {name : Str} {pl : Sem Bool} {Q : Value × List Value → Shared → Prop} (hf : (name, f) ∈ meths) (hi : f.kind = Mk σ (.ref a)) (h4 : Mk σ (.ref a) ≠ 4) (h : Q (.builtin f.bid, [.ref a]) s) :
    wpAny (model thePr w) A (getMethod (.ref a) name pl) Q E s := by
  rw [meth_nm hf]
  have v := mk_view σ a
  generalize Mk σ (.ref a) = k at v hi h4
  cases v with
  | zero => exact (kind_ne hi).elim
  | list vs he => exact method_list x he (kind_list hi).1 (kind_list hi).2 h
  | dict es he => exact method_dict x he (kind_dict hi).1 (kind_dict hi).2 h
  | iset xs he =>
    have hf := kind_set hi
    subst hf
    obtain ⟨y, hy, hn, es, ep, tb, r1, r2, r3, r4, r5, r6, r7⟩ := x.ext.read (at_of he rfl)
    exact getMethod_set_add (S := fun k => decide (k ∈ xs)) (n := xs.length) ⟨y, es, ep, tb, hy, r1, r2, r3, r4, r5, r6, r7⟩ h
  | inst => exact absurd rfl h4

theorem Rep.ofView (x : Rep w base s₀ env c F P m σ s) {a : Addr} {o' : AO} {y : Obj} (hy : s.heap.get? a = some y) {nm : Str → Option Value}
    (hl : ∀ x i v, c.names.lookup x = some .local → c.vt.lookup x = some i → m[i]? = some (some v) → ∃ v', nm x = some v' ∧ v.R v') {h' : Heap} {tk : Nat} {ov : Obj} (F' : Fr (low base) env.locals h' nm)
    (N' : News (low base) env.locals h' (allNews base s.heap env.locals)) (ho : h'.get? s.heap.objs.size = some ov) (r : RO w o' ov) (hr' : isRo o' = false) (hnd : isNode o' = false := by rfl) : Rep w base s₀ env c F P m (Mine.upd σ s.heap.objs.size o') { s with heap := h', toks := tk } := by
  refine x.ofNew hl F' (y' := ov) (fun p hp => ?_) (Nat.le_refl _) r hr' hnd
  rcases List.mem_cons.mp hp with rfl | hp
  · exact ⟨ho, by
      rintro e
      obtain ⟨nm', ⟨oL, _, _, hoL, _⟩, _⟩ := x.ns
      have := Heap.lt_size hoL
      rw [← e] at this
      exact absurd this (Nat.lt_irrefl _), low_none (Nat.succ_le_of_lt x.ext.size3)⟩
  · exact N' p hp

theorem mcall_ok (x : Rep w base s₀ env c F P m σ s) {f : Meth} {v : AV} {v' : Value} {as : List AV} {Q : AV → Store → Prop} {C : Ctr} (h : Mcall C f v as Q σ) (hi : ∀ a d, v = .ref a → σ a ≠ some (.inst d)) (rv : v.R v') {vs : List Value} (r : AllR as vs) :
    wpAny (model thePr w) A (call (.builtin f.bid) (v' :: vs)) (PoA w base s₀ env c F P m Q) E s := by
  have hfresh := (x.ext.fresh (get?_size s.heap)).1
  cases h with
  | @append a _ xs he hlt hq =>
    cases rv
    obtain ⟨v, rfl, rv⟩ := r.one
    obtain ⟨items, n, e1, r1⟩ := x.ext.list (at_of he rfl)
    have hl := r1.length
    refine wpAny_list_append_plain ⟨n, e1⟩ (fun h' hp hs => ?_) (lim_size (by rw [← Array.length_toList, ← hl]; exact Nat.le_of_lt hlt))
    obtain ⟨n', e'⟩ := hp
    exact ⟨.none, _, rfl, x.upd (o' := .list (xs ++ [_])) he rfl (fun b z hb e => (hs.2 b hb).trans e) e' ⟨_, n', rfl, by rw [Array.toList_push]; exact r1.snoc rv⟩ rfl, hq⟩
  | @pop a ys y he hz hq =>
    cases rv
    cases r
    obtain ⟨items, n, e1, r1⟩ := x.ext.list (at_of he rfl)
    have hl : items.size = ys.length + 1 := by rw [← Array.length_toList, ← r1.length, List.length_append]; rfl
    obtain ⟨v, hv, rv⟩ := r1.get ys.length y (by simp)
    have hsz : items.size ≤ sizeLine := lim_size (by rw [← Array.length_toList, ← r1.length]; exact hz)
    have hs1 : items.size - 1 = ys.length := by rw [hl]; rfl
    refine Copied.pop_at e1 (by rw [hs1]; simpa using hv) (fun h' hs hy => ?_) hsz
    refine ⟨y, _, rv, x.upd (o' := .list ys) he rfl (fun b z hb e => (hs.2 b hb).trans e) hy ⟨_, _, rfl, ?_⟩ rfl, hq⟩
    have := r1.take ys.length
    rw [Array.toList_pop, List.dropLast_eq_take, Array.length_toList, hs1]
    rwa [List.take_left] at this
  | @clear a xs he hz hq =>
    cases rv
    cases r
    obtain ⟨items, n, e1, r1⟩ := x.ext.list (at_of he rfl)
    have hsz : items.size ≤ sizeLine := lim_size (by rw [← Array.length_toList, ← r1.length]; exact hz)
    refine call_meets PySem.F.slot_list_clear (isList_of e1).typeIs PySem.F.entry_list_clear (PySem.F.args_list_clear_1 _) (AutoSeq1.list_clear_list_0 a items n hsz) ⟨e1, ?_⟩
    exact ⟨.none, _, rfl, x.upd (o' := .list []) he rfl (fun b z hb e => (Heap.get?_update_other _ _ (Ne.symm hb)).trans e) (Heap.get?_update_self _ e1 rfl) ⟨#[], _, by simp [Obj.mapSeq]; rfl, .nil⟩ rfl, hq⟩
  | @get a k es he hq =>
    cases rv
    obtain ⟨_, rfl, t, rfl⟩ := r.one
    obtain ⟨y, hy, kvs, hd, pr⟩ := x.ext.read (at_of he rfl)
    refine call_meetsIn PySem.F.slot_dict_get (intMap_of hy hd).typeIs PySem.F.entry_dict_get (PySem.F.args_dict_get_2 _ _) (meets_dict_get (intKind thePr w) a (k := k) (by simp [intKind, Value.isInt]) (x.ext.neSys he rfl)) ⟨_, (Heap.dictOf_iff.mpr ⟨y, hy, hd⟩).mapOf, ?_⟩
    exact ⟨_, _, (dget_R pr k).getD, x.toks _, hq⟩
  | @items a es he hq =>
    cases rv
    cases r
    obtain ⟨y, hy, kvs, hd, pr⟩ := x.ext.read (at_of he rfl)
    obtain ⟨nm, FR, NR, hloc⟩ := x.led
    refine kta_callItems FR NR (x.inNews he rfl hy) hd (x.ext.neSys he rfl) fun h' ho F' N' => ?_
    obtain ⟨ov, ho1, ho2, ho3⟩ := ho
    exact ⟨.ref _, _, rfl, x.ofView (o' := .ditems a) hy hloc F' N' ho1 ⟨ho2, ho3⟩ rfl, hq _ hfresh⟩
  | @values a es he hq =>
    cases rv
    cases r
    obtain ⟨y, hy, kvs, hd, pr⟩ := x.ext.read (at_of he rfl)
    obtain ⟨nm, FR, NR, hloc⟩ := x.led
    refine kta_callValues FR NR (x.inNews he rfl hy) hd (x.ext.neSys he rfl) fun h' ho F' N' => ?_
    obtain ⟨ov, ho1, ho2, ho3⟩ := ho
    exact ⟨.ref _, _, rfl, x.ofView (o' := .dvals a) hy hloc F' N' ho1 ⟨ho2, ho3⟩ rfl, hq _ hfresh⟩
  | @add a k xs he hlt hq =>
    cases rv
    obtain ⟨y, hy, hn, es, ep, tb, r1, r2, r3, r4, r5, r6, r7⟩ := x.ext.read (at_of he rfl)
    have hset : Heap.SetOf (intKind thePr w) s.heap a (fun k => decide (k ∈ xs)) xs.length := ⟨y, es, ep, tb, hy, r1, r2, r3, r4, r5, r6, r7⟩
    obtain ⟨_, rfl, t, rfl⟩ := r.one
    refine call_set_add (knd := intKind thePr w) (k := k) (by simp [intKind, Value.isInt]) rfl hset (by unfold scanBound; omega) fun h' hs hset' => ?_
    obtain ⟨y', es', ep', tb', q0, q1, q2, q3, q4, q5, q6, q7⟩ := hset'
    refine ⟨.none, _, rfl, x.upd (o' := .iset (sins xs k)) he rfl (fun b z hb e => (hs.2 b hb).trans e) q0 ⟨?_, es', ep', tb', q1, q2, q3, fun j => ?_, q5, q6, ?_⟩ rfl, hq⟩
    · unfold sins
      split
      · exact hn
      · rename_i hk
        exact List.nodup_append.mpr ⟨hn, by simp, fun u hu v hv => by rw [List.mem_singleton.mp hv]; rintro rfl; exact hk hu⟩
    · rw [← q4 j]
      unfold sins
      by_cases hk : k ∈ xs
      · simp only [hk, if_true, Bool.or_eq_true, decide_eq_true_eq]
        exact ⟨.inl, fun e => e.elim id fun e => e ▸ hk⟩
      · simp only [hk, if_false, List.mem_append, List.mem_singleton, Bool.or_eq_true, decide_eq_true_eq]
    · rw [q7]
      unfold sins
      by_cases hk : k ∈ xs
      · simp [hk]
      · simp [hk]
  | inst he hf hq => exact absurd he (hi _ _ rfl)
end
end Mine
end
section
namespace Mine
open PySem PySem.W PyProof.Rows PySem.Calls
set_option maxRecDepth 100000

noncomputable abbrev KK (w : World) : Frag := hd.heap_39 w.params

theorem AV.R.handed {a : AV} {v : Value} (r : a.R v) : handedIn v = true := by
  cases a
  · cases r; rfl
  · cases r; rfl
  · obtain ⟨t, rfl⟩ := r; rfl
  · cases r; rfl
  · rename_i b; cases r; cases b <;> first | rfl | decide

theorem SDict.get {w : World} : ∀ {ns : List Str} {vs : List AV} {es : List DictEntry}, SDict w ns vs es → ns.Nodup → ∀ (i : Nat) (n : Str) (a : AV), ns[i]? = some n → vs[i]? = some a → ∃ v, getL n es = some (some v) ∧ a.R v := by
  intro ns vs es h
  induction h with
  | nil => intro _ i n a _ h; simp at h
  | cons r h' ih =>
    rename_i n' ns' a' v' as' es' t'
    intro hn i n a h1 h2
    rw [List.nodup_cons] at hn
    cases i with
    | zero =>
      simp only [List.getElem?_cons_zero, Option.some.injEq] at h1 h2
      subst h1; subst h2
      refine ⟨v', ?_, r⟩
      simp [getL, List.find?_cons, Value.isStr]
    | succ j =>
      simp only [List.getElem?_cons_succ] at h1 h2
      obtain ⟨v, hv, r'⟩ := ih hn.2 j n a h1 h2
      have hne : ¬ n' = n := fun e => hn.1 (e ▸ List.mem_of_getElem? h1)
      refine ⟨v, ?_, r'⟩
      unfold getL at hv ⊢
      simpa [List.find?_cons, Value.isStr, hne, DictEntry.refKey] using hv
theorem SDict.none {w : World} : ∀ {ns : List Str} {vs : List AV} {es : List DictEntry}, SDict w ns vs es → ∀ n, n ∉ ns.take vs.length → getL n es = some none := by
  intro ns vs es h
  induction h with
  | nil => intro n _; rfl
  | cons r h' ih =>
    rename_i n' ns' a' v' as' es' t'
    intro n hn
    simp only [List.length_cons, List.take_succ_cons, List.mem_cons, not_or] at hn
    have := ih n hn.2
    have hne : ¬ n' = n := fun e => hn.1 e.symm
    unfold getL at this ⊢
    simpa [List.find?_cons, Value.isStr, hne, DictEntry.refKey] using this
theorem SDict.put {w : World} : ∀ {ns : List Str} {vs : List AV} {es : List DictEntry}, SDict w ns vs es → ns.Nodup → ∀ (i : Nat) (n : Str) (a : AV) (v : Value) (t : Tok), ns[i]? = some n → i ≤ vs.length → a.R v →
    SDict w ns (sput vs i a) (putL n (PyData.keyHash w.params n) (.str n t) v es) := by
  intro ns vs es h
  induction h with
  | nil =>
    rename_i ns
    intro hn i n a v t h1 h2 r
    have : i = 0 := by simpa using h2
    subst this
    cases ns with
    | nil => simp at h1
    | cons n' ns' =>
      simp at h1; subst h1
      simp only [sput, putL, List.length_nil, Nat.lt_irrefl, if_false, List.nil_append]
      exact .cons r (.nil _)
  | cons r h' ih =>
    rename_i n' ns' a' v' as' es' t'
    intro hn i n a v t h1 h2 r'
    rw [List.nodup_cons] at hn
    cases i with
    | zero =>
      simp only [List.getElem?_cons_zero, Option.some.injEq] at h1
      subst h1
      simp only [sput, List.length_cons, Nat.zero_lt_succ, if_true, List.set_cons_zero, putL, Value.isStr, beq_self_eq_true]
      exact .cons r' h'
    | succ j =>
      simp only [List.getElem?_cons_succ] at h1
      have hne : ¬ n' = n := fun e => hn.1 (e ▸ List.mem_of_getElem? h1)
      have hj : j ≤ as'.length := by simpa using h2
      have := ih hn.2 j n a v t h1 hj r'
      simp only [putL, Value.isStr, beq_iff_eq, hne, if_false]
      unfold sput at this ⊢
      simp only [List.length_cons, Nat.add_lt_add_iff_right, List.set_cons_succ]
      split at this
      · rename_i hlt; rw [if_pos hlt]; exact .cons r this
      · rename_i hlt; rw [if_neg hlt]; exact .cons r this
theorem sNames_nodup : sNames.Nodup := by decide
theorem SDict.length {w : World} {ns : List Str} {vs : List AV} {es : List DictEntry} (h : SDict w ns vs es) : es.length = vs.length ∧ vs.length ≤ ns.length := by
  induction h with
  | nil => exact ⟨rfl, Nat.zero_le _⟩
  | cons _ _ ih => simp [ih.1, ih.2]

section
variable {w : World} {base : Heap} {s₀ : Shared} {mg mb : Str → Option Value} {env : Env} {c : TC} {F : Addr → Option Obj} {P : Addr → Prop} {m : Mem} {σ σ' : Store} {s : Shared} {A : Around} {E : Value → Shared → Prop}

theorem Rep.inst (x : Rep w base s₀ env c F P m σ s) {a d : Addr} {vs : List AV} (ha : σ a = some (.inst d)) (hd : σ d = some (.sdict vs)) :
    ∃ es n, W.InstAt s.heap a (instObj 165 d) 165 (some (dictOf es n)) ∧ SDict w sNames vs es ∧ s.heap.get? d = some (dictOf es n) ∧ s.heap.get? a = some (instObj 165 d) := by
  obtain ⟨_, y, hy, rfl⟩ := x.ext.own a _ ha rfl
  obtain ⟨_, z, hz, es, n, rfl, sd⟩ := x.ext.own d _ hd rfl
  exact ⟨es, n, ⟨hy, rfl, rfl, hz⟩, sd, hz, hy⟩
theorem Rep.nodeAt (x : Rep w base s₀ env c F P m σ s) {a : Addr} {p q r : Option AV} (ha : σ a = some (.node p q r)) :
    ∃ o od, W.InstAt s.heap a o 68 (some od) ∧ RO w (.node p q r) o := by
  obtain ⟨_, y, hy, hr⟩ := x.ext.own a _ ha rfl
  obtain ⟨y', d, z, h1, h2, h3⟩ := x.ext.live a _ ha rfl
  rw [hy] at h1; cases h1
  refine ⟨y, z, ⟨hy, hr.1, ?_, ?_⟩, hr⟩
  · unfold notCls; rw [hr.2.1]
  · rw [h2]; exact h3.1

theorem get_inst (B : Bs w base mg mb) (x : Rep w base s₀ env c F P m σ s) {a d : Addr} {vs : List AV} {i : Nat} {n : Str} {y : AV} {ex : Bool} {Q : Value → Shared → Prop} (ha : σ a = some (.inst d)) (hd : σ d = some (.sdict vs)) (hn : sNames[i]? = some n) (hy : vs[i]? = some y)
    (h1 : findIn (KK w) (.ref 165) n = some none) (h : ∀ v, y.R v → Q v { s with toks := s.toks + 1 }) : wpAny (model thePr w) A (getAttr (.ref a) n ex) Q E s := by
  obtain ⟨es, k, I, sd, _, _⟩ := x.inst ha hd
  obtain ⟨nm, FR, NR, hloc⟩ := x.led
  obtain ⟨v, hv, r⟩ := sd.get sNames_nodup i n y hn hy
  exact get_own FR B.low I (by kernel_rfl) (by kernel_rfl) h1 rfl hv r.handed (h v r)

theorem get_node (B : Bs w base mg mb) (x : Rep w base s₀ env c F P m σ s) {a p : Addr} {u q r : Option AV} {i : Nat} {n : Str} {y : AV} {ex : Bool} {Q : Value → Shared → Prop} (ha : σ a = some (.node u q r)) (h1 : findIn (KK w) (.ref 68) n = some (some (.ref p)))
    (h2 : specialIn (KK w) (.ref p) "__get__" = some (some (.builtin "member_descriptor.__get__"))) (h3 : takesIn (KK w) (.ref p) = some true) (h4 : slotIn (KK w) p 68 = some i)
    (hv : ∀ o, RO w (.node u q r) o → OptR (some y) (o.slots[i]?).join) (h : ∀ v, y.R v → Q v { s with toks := s.toks + 1 }) : wpAny (model thePr w) A (getAttr (.ref a) n ex) Q E s := by
  obtain ⟨o, od, I, ro⟩ := x.nodeAt ha
  obtain ⟨nm, FR, NR, hloc⟩ := x.led
  obtain ⟨v, hv', rv⟩ := hv o ro
  exact get_slot FR B.low I (by kernel_rfl) (by kernel_rfl) h1 h2 h3 h4 hv' rv.handed (h v rv)

noncomputable def Fld.nm : Fld → Str
  | .n2i => "_node2info" | .ready => "_ready_nodes" | .npass => "_npassedout" | .nfin => "_nfinished" | .node => "node" | .npred => "npredecessors" | .succ => "successors" | .next => "__next__"
theorem fld_nm {name : Str} {f : Fld} (h : (name, f) ∈ flds) : name = f.nm := (by decide : ∀ q ∈ flds, q.1 = q.2.nm) _ h
theorem fld_inst (w : World) {f : Fld} {i : Nat} (h : f.sidx = some i) : sNames[i]? = some f.nm ∧ findIn (KK w) (.ref 165) f.nm = some none ∧ takerIn (KK w) 165 f.nm = some none := by
  cases f with
  | n2i => cases h; exact ⟨rfl, by kernel_rfl, by kernel_rfl⟩
  | ready => cases h; exact ⟨rfl, by kernel_rfl, by kernel_rfl⟩
  | npass => cases h; exact ⟨rfl, by kernel_rfl, by kernel_rfl⟩
  | nfin => cases h; exact ⟨rfl, by kernel_rfl, by kernel_rfl⟩
  | _ => exact nomatch h

theorem attr_ok (B : Bs w base mg mb) (x : Rep w base s₀ env c F P m σ s) {f : Fld} {name : Str} {a : AV} {v : Value} {ex : Bool} {Q : AV → Store → Prop} (hf : (name, f) ∈ flds) (hne : f ≠ .next) (r : a.R v) (h : Attr f a Q σ) :
    wpAny (model thePr w) A (getAttr v name ex) (PoA w base s₀ env c F P m Q) E s := by
  rw [fld_nm hf]
  cases h with
  | next => exact absurd rfl hne
  | node he q => cases r; exact get_node (p := 69) B x he (by kernel_rfl) (by kernel_rfl) (by kernel_rfl) (by kernel_rfl) (fun o ro => ro.2.2.1) fun v r => ⟨_, _, r, x.toks _, q⟩
  | npred he q => cases r; exact get_node (p := 70) B x he (by kernel_rfl) (by kernel_rfl) (by kernel_rfl) (by kernel_rfl) (fun o ro => ro.2.2.2.1) fun v r => ⟨_, _, r, x.toks _, q⟩
  | succ he q => cases r; exact get_node (p := 71) B x he (by kernel_rfl) (by kernel_rfl) (by kernel_rfl) (by kernel_rfl) (fun o ro => ro.2.2.2.2) fun v r => ⟨_, _, r, x.toks _, q⟩
  | inst i hs he hd hv q =>
    cases r
    have k := fld_inst w hs
    exact get_inst B x he hd k.1 hv k.2.1 fun v r => ⟨_, _, r, x.toks _, q⟩

theorem slots_set (sl : Array (Option Value)) (i j : Nat) (v : Value) : (((sl ++ Array.replicate (i + 1 - sl.size) none).setIfInBounds i (some v))[j]?).join = if j = i then some v else (sl[j]?).join := by
  rw [Array.getElem?_setIfInBounds]
  by_cases h : i = j
  · subst h
    have : i < (sl ++ Array.replicate (i + 1 - sl.size) none).size := by simp; omega
    rw [if_pos rfl, if_pos rfl, if_pos this]; rfl
  · rw [if_neg h, if_neg (fun e => h e.symm), Array.getElem?_append]
    split
    · rfl
    · rename_i hj
      rw [Array.getElem?_replicate]
      have : sl[j]? = none := Array.getElem?_eq_none (Nat.not_lt.mp hj)
      rw [this]
      split <;> rfl

theorem set_node (B : Bs w base mg mb) (x : Rep w base s₀ env c F P m σ s) {a p : Addr} {u q r : Option AV} {o' : AO} {i : Nat} {n : Str} {y : AV} {v : Value} {Q : Unit → Shared → Prop} (ha : σ a = some (.node u q r)) (ry : y.R v)
    (h1 : takerIn (KK w) 68 n = some (some (.ref p))) (h2 : typeIn (KK w) (.ref p) = some (.type "member_descriptor")) (h3 : slotIn (KK w) p 68 = some i) (hi : i < 1000)
    (hv : ∀ o, RO w (.node u q r) o → ∀ sl : Array (Option Value), (∀ j, (sl[j]?).join = if j = i then some v else (o.slots[j]?).join) → RO w o' { o with slots := sl }) (hr' : isRo o' = false) (hisF : isF o' = false)
    (h : ∀ s', Rep w base s₀ env c F P m (Mine.upd σ a o') s' → Q () s') : wpAny (model thePr w) A (setAttr (.ref a) n v) Q E s := by
  obtain ⟨o, od, I, ro⟩ := x.nodeAt ha
  obtain ⟨nm, FR, NR, hloc⟩ := x.led
  obtain ⟨y', d, z, g1, g2, g3⟩ := x.ext.live a _ ha rfl
  have e1 := I.at_
  rw [e1] at g1; cases g1
  obtain ⟨pre, post, hn, hp1, hp2⟩ := split_mem (nodup_allNews _ _ _) (x.inNews ha rfl I.at_)
  rw [hn] at NR
  refine set_slot FR B.low NR I (by kernel_rfl) (by kernel_rfl) h1 h2 h3 hi rfl ?_ (upd_of hp1 hp2) fun h' F' N' => h _ (x.ofLed (o' := o') hloc hn F' N' ha rfl (hv o ro _ fun j => slots_set _ _ _ _) hr' (fun _ => ?_) hisF)
  · have := ro.2.1
    unfold Obj.isFreed
    split
    · rename_i e; have e' := congrArg Obj.data e; simp only [this] at e'; cases e'
    · rfl
  · obtain ⟨g3, g4⟩ := g3
    refine ⟨d, ?_⟩
    have hda : d ≠ a ∨ d = a := by by_cases h : d = a <;> simp [h]
    rcases hda with hda | rfl
    · by_cases hL : d = env.locals
      · obtain ⟨oL, _, _, hoL, hdL, _⟩ := F'.ns; exact ⟨oL, g2, hL ▸ hoL, fun fs e => by rw [hdL] at e; cases e⟩
      · cases hlow : (low base).get? d with
        | some q => exact ⟨q, g2, F'.keep d q hlow, by have h1 := x.ext.inBase (low_some hlow); rw [g3] at h1; cases h1; exact g4⟩
        | none =>
          have hm : (d, z) ∈ allNews base s.heap env.locals := mem_allNews.mpr ⟨g3, hL, hlow⟩
          rw [hn] at hm
          refine ⟨z, g2, (N' (d, z) ?_).1, g4⟩
          rcases List.mem_append.mp hm with hm | hm
          · exact List.mem_append_left _ hm
          · rcases List.mem_cons.mp hm with hm | hm
            · cases hm; exact absurd rfl hda
            · exact List.mem_append_right _ (List.mem_cons_of_mem _ hm)
    · exact ⟨_, g2, (N' _ (List.mem_append_right _ List.mem_cons_self)).1, fun fs e => by have := ro.2.1; simp only [this] at e; cases e⟩

theorem set_inst (B : Bs w base mg mb) (x : Rep w base s₀ env c F P m σ s) {a d : Addr} {vs : List AV} {i : Nat} {n : Str} {y : AV} {v : Value} {Q : Unit → Shared → Prop} (ha : σ a = some (.inst d)) (hd : σ d = some (.sdict vs)) (hn : sNames[i]? = some n) (hi : i ≤ vs.length) (ry : y.R v)
    (h1 : takerIn (KK w) 165 n = some none) (h : ∀ s', Rep w base s₀ env c F P m (Mine.upd σ d (.sdict (sput vs i y))) s' → Q () s') : wpAny (model thePr w) A (setAttr (.ref a) n v) Q E s := by
  obtain ⟨es, k, I, sd, hz, hy⟩ := x.inst ha hd
  obtain ⟨nm, FR, NR, hloc⟩ := x.led
  obtain ⟨pre, post, hn', hp1, hp2⟩ := split_mem (nodup_allNews _ _ _) (x.inNews hd rfl hz)
  rw [hn'] at NR
  have hget : (getL n es).isSome = true := by
    by_cases hlt : i < vs.length
    · obtain ⟨v', hv', _⟩ := sd.get sNames_nodup i n _ hn (List.getElem?_eq_getElem hlt)
      rw [hv']; rfl
    · rw [sd.none n ?_]; · rfl
      intro hm
      obtain ⟨j, hj, e⟩ := List.mem_iff_getElem.mp hm
      rw [List.getElem_take] at e
      have hj' : j < vs.length := by simp at hj; omega
      have hi' : i < sNames.length := (List.getElem?_eq_some_iff.mp hn).1
      have e2 : sNames[i]'hi' = n := (List.getElem?_eq_some_iff.mp hn).2
      have := (List.getElem_inj (h₀ := by simp at hj; omega) (h₁ := hi') sNames_nodup).mp (e.trans e2.symm)
      omega
  have sd' := sd.put sNames_nodup i n y v (s.toks + 1) hn hi ry
  refine set_dict FR B.low NR I rfl (by kernel_rfl) (by kernel_rfl) h1 (by kernel_rfl) hget rfl (upd_of hp1 hp2) ?_ fun h' F' N' => h _ (x.ofLed (o' := .sdict (sput vs i y)) hloc hn' F' N' hd rfl ⟨_, _, rfl, sd'⟩ rfl)
  have h3 := sd'.length
  have h4 : sNames.length = 4 := rfl
  omega

theorem setAttr_ok (B : Bs w base mg mb) (x : Rep w base s₀ env c F P m σ s) {f : Fld} {name : Str} {a y : AV} {v u : Value} {Q : Store → Prop} (hf : (name, f) ∈ flds) (r : a.R v) (ry : y.R u) (h : SetAttr f a y Q σ) :
    wpAny (model thePr w) A (setAttr v name u) (PoU w base s₀ env c F P m Q) E s := by
  rw [fld_nm hf]
  cases h with
  | @node a n p c he q =>
    cases r
    refine set_node (o' := .node (some y) _ _) (p := 69) B x he ry (by kernel_rfl) (by kernel_rfl) (i := 0) (by kernel_rfl) (by decide) (fun o ro sl hs => ⟨ro.1, ro.2.1, ?_, ?_, ?_⟩) rfl rfl fun s' x' => ⟨_, x', q⟩
    · exact ⟨_, (hs 0).trans (if_pos rfl), ry⟩
    · rw [show (sl[1]?).join = _ from hs 1, if_neg (by decide)]; exact ro.2.2.2.1
    · rw [show (sl[2]?).join = _ from hs 2, if_neg (by decide)]; exact ro.2.2.2.2
  | @npred a n p c he q =>
    cases r
    refine set_node (o' := .node _ (some y) _) (p := 70) B x he ry (by kernel_rfl) (by kernel_rfl) (i := 1) (by kernel_rfl) (by decide) (fun o ro sl hs => ⟨ro.1, ro.2.1, ?_, ?_, ?_⟩) rfl rfl fun s' x' => ⟨_, x', q⟩
    · rw [show (sl[0]?).join = _ from hs 0, if_neg (by decide)]; exact ro.2.2.1
    · exact ⟨_, (hs 1).trans (if_pos rfl), ry⟩
    · rw [show (sl[2]?).join = _ from hs 2, if_neg (by decide)]; exact ro.2.2.2.2
  | @succ a n p c he q =>
    cases r
    refine set_node (o' := .node _ _ (some y)) (p := 71) B x he ry (by kernel_rfl) (by kernel_rfl) (i := 2) (by kernel_rfl) (by decide) (fun o ro sl hs => ⟨ro.1, ro.2.1, ?_, ?_, ?_⟩) rfl rfl fun s' x' => ⟨_, x', q⟩
    · rw [show (sl[0]?).join = _ from hs 0, if_neg (by decide)]; exact ro.2.2.1
    · rw [show (sl[1]?).join = _ from hs 1, if_neg (by decide)]; exact ro.2.2.2.1
    · exact ⟨_, (hs 2).trans (if_pos rfl), ry⟩
  | @inst f a d vs i hs he hd hi q =>
    cases r
    have k := fld_inst w hs
    exact set_inst B x he hd k.1 hi ry k.2.2 fun s' x' => ⟨_, x', q⟩
end
end Mine
end
section
namespace Mine
open PySem PySem.W PyProof.Rows PySem.Calls
set_option maxRecDepth 100000

theorem slot_li_ga : Slot "list_iterator" "__getattribute__" "object.__getattribute__" :=
  .of (owner := "object") (n := "__getattribute__") (by rw [typeLookup_type, builtinLookup_eq_fast]; kernel_rfl) (by decide +kernel) (by decide +kernel) (by decide +kernel)
    (by first | exact .inl (by decide +kernel) | exact .inr (by decide +kernel)) (by rw [isSubtype_type]; kernel_rfl)
theorem li_next : typeLookup (.type "list_iterator") "__next__" = pure (some (.builtin "list_iterator.__next__")) := by rw [typeLookup_type, builtinLookup_eq_fast]; kernel_rfl
theorem ty_next : typeOf (.builtin "list_iterator.__next__") = pure (.type "wrapper_descriptor") := by show builtinType _ = _; rw [builtinType_eq_fast]; kernel_rfl
theorem wd_get : typeLookup (.type "wrapper_descriptor") "__get__" = pure (some (.builtin "wrapper_descriptor.__get__")) := by rw [typeLookup_type, builtinLookup_eq_fast]; kernel_rfl
theorem wd_set : typeLookup (.type "wrapper_descriptor") "__set__" = pure none := by rw [typeLookup_type, builtinLookup_eq_fast]; kernel_rfl
theorem wd_del : typeLookup (.type "wrapper_descriptor") "__delete__" = pure none := by rw [typeLookup_type, builtinLookup_eq_fast]; kernel_rfl
theorem entry_oga : entryFor table "object.__getattribute__" = some Builtin.«object.__getattribute__» := entryFor_of_tree (by kernel_rfl)
theorem entry_wdg : entryFor table "wrapper_descriptor.__get__" = some Builtin.«wrapper_descriptor.__get__» := entryFor_of_tree (by kernel_rfl)
theorem args_oga (a b : Value) : argsOk "object.__getattribute__" ⟨[a, b], []⟩ := by unfold argsOk; kernel_rfl
theorem args_wdg (a b c : Value) : argsOk "wrapper_descriptor.__get__" ⟨[a, b, c], []⟩ := by unfold argsOk; kernel_rfl
theorem slot_wdg : Slot "wrapper_descriptor" "__get__" "wrapper_descriptor.__get__" :=
  .of (owner := "wrapper_descriptor") (n := "__get__") (by rw [typeLookup_type, builtinLookup_eq_fast]; kernel_rfl) (by decide +kernel) (by decide +kernel) (by decide +kernel)
    (by first | exact .inl (by decide +kernel) | exact .inr (by decide +kernel)) (by rw [isSubtype_type]; kernel_rfl)
theorem sub_li : isSubtype (.type "list_iterator") (.type (".".intercalate ("list_iterator.__next__".cutAt '.').dropLast)) = pure true := by rw [isSubtype_type]; kernel_rfl

noncomputable abbrev literObj (l : Addr) (i : Nat) : Obj := { cls := .type "list_iterator", data := .fields #[.ref l, .int i 0] }
noncomputable abbrev wrapObj (it : Addr) : Obj := { cls := .type "method-wrapper", data := .fields #[.builtin "list_iterator.__next__", .ref it] }

theorem wdg_run {prog : Program} {w : World} {A : Around} {E : Value → Shared → Prop} {s : Shared} {it l : Addr} {i : Nat} {Q : Value → Shared → Prop} (hi : s.heap.get? it = some (literObj l i))
    (h : Q (.ref s.heap.objs.size) { s with heap := s.heap.push (wrapObj it) }) : wpAny (model prog w) A (call (.builtin "wrapper_descriptor.__get__") [.builtin "list_iterator.__next__", .ref it, .type "list_iterator"]) Q E s := by
  obtain ⟨hp, g, d, tk, os⟩ := s
  have hT : (⟨hp, g, d, tk, os⟩ : Shared).TypeIs (.ref it) "list_iterator" := ⟨_, hi, rfl⟩
  refine wpAny_call_entry slot_wdg ty_next entry_wdg ?_ (args_wdg _ _ _)
  unfold Builtin.«wrapper_descriptor.__get__»
  have f1 := sub_li
  repeat (any_goals (first | assumption | wp_step))
  all_goals exact ⟨_, rfl, h⟩

theorem oga_run {prog : Program} {w : World} {A : Around} {E : Value → Shared → Prop} {s : Shared} {it l : Addr} {i : Nat} {tk : Tok} {Q : Value → Shared → Prop} (hi : s.heap.get? it = some (literObj l i))
    (h : Q (.ref s.heap.objs.size) { s with heap := s.heap.push (wrapObj it) }) : wpAny (model prog w) A (call (.builtin "object.__getattribute__") [.ref it, .str "__next__" tk]) Q E s := by
  obtain ⟨hp, g, d, tk, os⟩ := s
  have hT : (⟨hp, g, d, tk, os⟩ : Shared).TypeIs (.ref it) "list_iterator" := ⟨_, hi, rfl⟩
  refine wpAny_call_entry slot_li_ga hT entry_oga ?_ (args_oga _ _)
  unfold Builtin.«object.__getattribute__»
  have f1 := li_next
  have f2 := ty_next
  have f3 := wd_get
  have f4 := wd_set
  have f5 := wd_del
  repeat (any_goals (first | assumption | ((with_reducible show wpAny _ _ (call (Value.builtin "wrapper_descriptor.__get__") _ _) _ _ _); refine wdg_run hi ?_) | wp_step))
  all_goals exact ⟨_, rfl, h⟩

theorem next_attr {prog : Program} {w : World} {A : Around} {E : Value → Shared → Prop} {s : Shared} {it l : Addr} {i : Nat} {Q : Value → Shared → Prop} (hi : s.heap.get? it = some (literObj l i))
    (h : Q (.ref s.heap.objs.size) { s with heap := s.heap.push (wrapObj it), toks := s.toks + 1 }) : wpAny (model prog w) A (getAttr (.ref it) "__next__" true) Q E s := by
  obtain ⟨hp, g, d, tk, os⟩ := s
  have hT : ∀ tk', (⟨hp, g, d, tk', os⟩ : Shared).TypeIs (.ref it) "list_iterator" := fun _ => ⟨_, hi, rfl⟩
  have f3 := slot_li_ga.lookup
  have f4 := slot_li_ga.bind (.ref it)
  unfold getAttr getAttrBy
  repeat (any_goals (first | assumption | exact hT _ | ((with_reducible show wpAny _ _ (call (Value.builtin "object.__getattribute__") _ _) _ _ _); refine oga_run hi ?_) | wp_step))
end Mine
end
section
namespace Mine
open PySem PySem.W PyProof.Rows PySem.Calls
set_option maxRecDepth 100000

section
variable {w : World} {base : Heap} {s₀ : Shared} {mg mb : Str → Option Value} {r : Nat} {C : Ctr} {env : Env} {c : TC}

section
variable {F : Addr → Option Obj} {P : Addr → Prop} {A : Around} {m : Mem} {σ : Store} {s : Shared} {E : Value → Shared → Prop}
theorem SndE.go {e : Expr} {p : PE} {Q : AV → Mem → Store → Prop} {G : Value → Shared → Prop} (h1 : SndE w base s₀ r C env c e p) (ok : OkA base r F (some env.locals) A) (ca : Cm env c A) (x : Rep w base s₀ env c F P m σ s) (h : W C p Q m σ)
    (k : ∀ v s' av m' σ', av.R v → Rep w base s₀ env c F P m' σ' s' → Q av m' σ' → G v s') : wpAny (model thePr w) A (eval e env) G E s := wpAny_mono (h1 F P A m σ s Q E ok ca x h) (fun v s' h => by
      obtain ⟨av, m', σ', r, x, h⟩ := h
      exact k v s' av m' σ' r x h) fun _ _ e => e
theorem SndT.go {e : Expr} {p : PT} {Q : Bool → Mem → Store → Prop} {G : Bool → Shared → Prop} (h1 : SndT w base s₀ r C env c e p) (ok : OkA base r F (some env.locals) A) (ca : Cm env c A) (x : Rep w base s₀ env c F P m σ s) (h : WT C p Q m σ)
    (k : ∀ b s' m' σ', Rep w base s₀ env c F P m' σ' s' → Q b m' σ' → G b s') : wpAny (model thePr w) A (PySem.isTrue e env (eval e env)) G E s := wpAny_mono (h1 F P A m σ s Q E ok ca x h) (fun v s' h => by
      obtain ⟨m', σ', x, h⟩ := h
      exact k v s' m' σ' x h) fun _ _ e => e
theorem goA {code : Sem Value} {Q : AV → Store → Prop} {G : Value → Shared → Prop} (h : wpAny (model thePr w) A code (PoA w base s₀ env c F P m Q) E s) (k : ∀ v s' av σ', av.R v → Rep w base s₀ env c F P m σ' s' → Q av σ' → G v s') : wpAny (model thePr w) A code G E s := wpAny_mono h (fun v s' h => by
      obtain ⟨av, σ', r, x, h⟩ := h
      exact k v s' av σ' r x h) fun _ _ e => e
theorem goV {code : Sem Value} {Q : AV → Prop} {G : Value → Shared → Prop} (h : wpAny (model thePr w) A code (PoV w base s₀ env c F P m σ Q) E s) (k : ∀ v s' av, av.R v → Rep w base s₀ env c F P m σ s' → Q av → G v s') : wpAny (model thePr w) A code G E s := wpAny_mono h (fun v s' h => by
      obtain ⟨av, r, x, h⟩ := h
      exact k v s' av r x h) fun _ _ e => e
theorem goU {α : Type} {code : Sem α} {Q : Store → Prop} {G : α → Shared → Prop} (h : wpAny (model thePr w) A code (PoU w base s₀ env c F P m Q) E s) (k : ∀ v s' σ', Rep w base s₀ env c F P m σ' s' → Q σ' → G v s') : wpAny (model thePr w) A code G E s := wpAny_mono h (fun v s' h => by
      obtain ⟨σ', x, h⟩ := h
      exact k v s' σ' x h) fun _ _ e => e
end

noncomputable def SndL (w : World) (base : Heap) (s₀ : Shared) (r : Nat) (C : Ctr) (env : Env) (c : TC) (es : List Expr) (p : PL) : Prop := (∀ e ∈ es, isStar e = false) ∧ ∀ F P A m σ s Q E, OkA base r F (some env.locals) A → Cm env c A → Rep w base s₀ env c F P m σ s → WL C p Q m σ →
  wpAny (model thePr w) A (spliced (es.map fun e => (false, eval e env))) (PoL w base s₀ env c F P Q) E s

theorem SndL.go {es : List Expr} {p : PL} {F : Addr → Option Obj} {P : Addr → Prop} {A : Around} {m : Mem} {σ : Store} {s : Shared} {Q : List AV → Mem → Store → Prop} {E : Value → Shared → Prop} {G : List Value → Shared → Prop} (h1 : SndL w base s₀ r C env c es p) (ok : OkA base r F (some env.locals) A) (ca : Cm env c A) (x : Rep w base s₀ env c F P m σ s) (h : WL C p Q m σ)
    (k : ∀ v s' av m' σ', AllR av v → Rep w base s₀ env c F P m' σ' s' → Q av m' σ' → G v s') : wpAny (model thePr w) A (spliced (es.map fun e => (false, eval e env))) G E s := wpAny_mono (h1.2 F P A m σ s Q E ok ca x h) (fun v s' h => by
      obtain ⟨av, m', σ', r, x, h⟩ := h
      exact k v s' av m' σ' r x h) fun _ _ e => e
theorem SndL.nil : SndL w base s₀ r C env c [] .nil :=
  ⟨(fun _ h => nomatch h), fun F P A m σ s Q E _ _ x h => wpAny_pure ⟨[], m, σ, .nil, x, h⟩⟩
theorem SndL.cons {e : Expr} {es : List Expr} {p : PE} {q : PL} (h1 : SndE w base s₀ r C env c e p) (h2 : SndL w base s₀ r C env c es q) (hs : isStar e = false) : SndL w base s₀ r C env c (e :: es) (.cons p q) := by
  refine ⟨fun x hx => ?_, fun F P A m σ s Q E ok ca x h => ?_⟩
  · rcases List.mem_cons.mp hx with rfl | hx
    · exact hs
    · exact h2.1 x hx
  · skip
    refine spliced_cons (h1.go ok ca x h fun v s₁ av m₁ σ₁ rv x₁ h₁ => ?_)
    refine h2.go ok ca x₁ h₁ fun vs s₂ avs m₂ σ₂ rvs x₂ h₂ => ?_
    exact ⟨av :: avs, m₂, σ₂, .cons rv rvs, x₂, h₂⟩

theorem OkA.units64 {F : Addr → Option Obj} {l : Option Addr} {A : Around} (h : OkA base r F l A) : A.units + 64 < cLine := by
  have := h.units; unfold cLine; omega

theorem snd_int {i : Int} {k : Nat} {pos : Pos} : SndE w base s₀ r C env c (.Constant (.int i) k pos) (.int i) := fun F P A m σ s Q E ok ca x h =>
  wpAny_Constant_int ⟨.int i, m, σ, ⟨_, rfl⟩, x.toks _, h⟩
theorem snd_none {k : Nat} {pos : Pos} : SndE w base s₀ r C env c (.Constant .none k pos) .none := fun F P A m σ s Q E ok ca x h =>
  wpAny_pure ⟨.none, m, σ, rfl, x, h⟩
theorem snd_bool {b : Bool} {k : Nat} {pos : Pos} : SndE w base s₀ r C env c (.Constant (.bool b) k pos) (.bool b) := fun F P A m σ s Q E ok ca x h =>
  wpAny_pure ⟨.bool b, m, σ, rfl, x, h⟩

theorem w_var {i : Nat} {Q : AV → Mem → Store → Prop} {m : Mem} {σ : Store} (h : W C (.var i) Q m σ) : ∃ v, m[i]? = some (some v) ∧ Q v m σ := by
  rw [W_4] at h
  cases e : m[i]? with
  | none => rw [e] at h; exact h.elim
  | some o =>
    rw [e] at h
    cases o with
    | none => exact h.elim
    | some v => exact ⟨v, rfl, h⟩

theorem snd_name (B : Bs w base mg mb) (ok : EnvOk env c) {y : Str} {pos : Pos} {p : PE} (ht : trName c y = some p) : SndE w base s₀ r C env c (.Name y pos) p := fun F P A m σ s Q E oka ca x h => by
  unfold trName at ht
  split at ht
  · cases ht
  · rename_i hn
    have hn1 : y ≠ ("__debug__" : Str) := fun e => hn (.inl e)
    have hn2 : y ≠ ("__classdict__" : Str) := fun e => hn (.inr e)
    split at ht
    · rename_i hk
      cases hg : gl.lookup y with
      | none => rw [hg] at ht; cases ht
      | some v =>
        rw [hg] at ht; cases ht
        exact load_glob B x.ext ok hk hg hn1 fun v' r => ⟨v, m, σ, r, x, h⟩
    · cases ht
    · rename_i k hg1 hg2 hk
      cases hi : c.vt.lookup y with
      | none => rw [hi] at ht; cases ht
      | some i =>
        rw [hi] at ht; cases ht
        obtain ⟨v, hm, h⟩ := w_var h
        refine wpAny_Name (load_var x ok hk ?_ hi hm hn2 fun v' r => ⟨v, m, σ, r, x, h⟩) (by simpa using hn1)
        cases k
        · rfl
        · rfl
        · rfl
        · exact absurd rfl hg2
        · exact absurd rfl hg1
    · cases ht

theorem snd_bin {l rt : Expr} {op : Operator} {o : BOp} {p q : PE} {pos : Pos} (ho : bop op = some o) (h1 : SndE w base s₀ r C env c l p) (h2 : SndE w base s₀ r C env c rt q) : SndE w base s₀ r C env c (.BinOp l op rt pos) (.bin o p q) := fun F P A m σ s Q E ok ca x h => by
  refine wpAny_BinOp (h1.go ok ca x h fun v s₁ av m₁ σ₁ rv x₁ h₁ => ?_)
  refine h2.go ok ca x₁ h₁ fun u s₂ bv m₂ σ₂ ru x₂ h₂ => ?_
  refine goA (bin_ok x₂ ho rv ru h₂) fun y s₃ cv σ₃ ry x₃ h₃ => ?_
  exact ⟨cv, m₂, σ₃, ry, x₃, h₃⟩

theorem snd_neg {l : Expr} {p : PE} {pos : Pos} (h1 : SndE w base s₀ r C env c l p) : SndE w base s₀ r C env c (.UnaryOp .USub l pos) (.neg p) := fun F P A m σ s Q E ok ca x h => by
  refine wpAny_UnaryOp (h1.go ok ca x h fun v s₁ av m₁ σ₁ rv x₁ h₁ => ?_)
  cases av <;> first | exact h₁.elim | skip
  obtain ⟨t, rfl⟩ := rv
  exact neg_int ⟨.int _, m₁, σ₁, ⟨_, rfl⟩, x₁.toks _, h₁⟩

theorem marks_noSet {op : CmpOp} {e : Expr} (h : noSet e = true) : behindInMarks op e = false := by
  cases e <;> first | rfl | (cases h; done)

theorem snd_cmp {l rt : Expr} {op : CmpOp} {o : COp} {p q : PE} {pos : Pos} (hs : noSet rt = true) (ho : cop op = some o) (h1 : SndE w base s₀ r C env c l p) (h2 : SndE w base s₀ r C env c rt q) : SndE w base s₀ r C env c (.Compare l [op] [rt] pos) (.cmp o p q) := fun F P A m σ s Q E ok ca x h => by
  refine wpAny_Compare1 (wpAny_mono (h1 F P A m σ s _ E ok ca x h) (fun v s₁ h₁ => ?_) fun _ _ e => e) (marks_noSet hs)
  obtain ⟨av, m₁, σ₁, rv, x₁, h₁⟩ := h₁
  refine h2.go ok ca x₁ h₁ fun u s₂ bv m₂ σ₂ ru x₂ h₂ => ?_
  refine wpAny_mono (cmp_ok x₂ ok.units64 ho rv ru h₂) (fun y s₃ h₃ => ?_) fun _ _ e => e
  obtain ⟨t, rfl, x₃, h₃⟩ := h₃
  exact ⟨.bool t, m₂, σ₂, rfl, x₃, h₃⟩

theorem snd_or {l rt : Expr} {p q : PE} {pos : Pos} (h1 : SndE w base s₀ r C env c l p) (h2 : SndE w base s₀ r C env c rt q) : SndE w base s₀ r C env c (.BoolOp .Or [l, rt] pos) (.or p q) := fun F P A m σ s Q E ok ca x h => by
  show wpAny _ A (do
    let v ← eval l env
    standAt pos
    let t ← holding [v] (truthy v)
    match BoolOp.Or, t with
    | .And, false | .Or, true => pure v
    | _, _ => eval rt env) _ E s
  refine wpAny_bind (h1.go ok ca x h fun v s₁ av m₁ σ₁ rv x₁ h₁ => ?_)
  refine wpAny_bind (wpAny_standAt (wpAny_bind (wpAny_holding (wpAny_mono (tru_ok x₁ rv h₁) (fun t s₂ h₂ => ?_) fun _ _ e => e))))
  obtain ⟨x₂, h₂⟩ := h₂
  cases t with
  | true => exact wpAny_pure ⟨av, m₁, σ₁, rv, x₂, h₂⟩
  | false => exact h2 F P A m₁ σ₁ s₂ _ E ok ca x₂ h₂

theorem snd_ite {t l rt : Expr} {pt : PT} {p q : PE} {pos : Pos} (h0 : SndT w base s₀ r C env c t pt) (h1 : SndE w base s₀ r C env c l p) (h2 : SndE w base s₀ r C env c rt q) : SndE w base s₀ r C env c (.IfExp t l rt pos) (.ite pt p q) := fun F P A m σ s Q E ok ca x h => by
  refine wpAny_IfExp (h0.go ok ca x h fun b s₁ m₁ σ₁ x₁ h₁ => ?_)
  cases b with
  | true => rw [if_pos rfl]; exact h1 F P A m₁ σ₁ s₁ _ E ok ca x₁ h₁
  | false => rw [if_neg (by decide)]; exact h2 F P A m₁ σ₁ s₁ _ E ok ca x₁ h₁

theorem snd_walrus (oke : EnvOk env c) {l : Expr} {y : Str} {i : Nat} {p : PE} {pos npos : Pos} (hv : c.var y = some i) (h1 : SndE w base s₀ r C env c l p) : SndE w base s₀ r C env c (.NamedExpr (.Name y npos) l pos) (.walrus i p) := fun F P A m σ s Q E ok ca x h => by
  refine wpAny_NamedExpr (h1.go ok ca x h fun v s₁ av m₁ σ₁ rv x₁ h₁ => ?_)
  exact wpAny_bind (wpAny_standAt (wpAny_bindName (store_var x₁ oke hv rv fun s' x' => ⟨av, _, σ₁, rv, x', h₁.2⟩)))

theorem snd_list {es : List Expr} {p : PL} {pos : Pos} (h1 : SndL w base s₀ r C env c es p) : SndE w base s₀ r C env c (.List es pos) (.list p) := fun F P A m σ s Q E ok ca x h => by
  refine wpAny_List_spliced ?_
  rw [backTo_plain h1.1]
  refine h1.go ok ca x h fun vs s₁ avs m₁ σ₁ rv x₁ h₁ => ?_
  have hl := rv.length
  exact ⟨lim_size (by omega), .ref _, m₁, _, rfl, new_list x₁ (by simpa using rv), h₁.2 _ (x₁.ext.fresh (get?_size _)).1⟩
theorem snd_tuple {es : List Expr} {p : PL} {k : Nat} {pos : Pos} (h1 : SndL w base s₀ r C env c es p) : SndE w base s₀ r C env c (.Tuple es k pos) (.tuple p) := fun F P A m σ s Q E ok ca x h => by
  refine wpAny_Tuple_spliced ?_
  rw [backTo_plain h1.1]
  refine h1.go ok ca x h fun vs s₁ avs m₁ σ₁ rv x₁ h₁ => ?_
  have hl := rv.length
  exact ⟨lim_size (by omega), .ref _, m₁, _, rfl, x₁.push (o' := .tuple avs) ⟨vs.toArray, 0, rfl, by simpa using rv⟩ rfl rfl, h₁.2 _ (x₁.ext.fresh (get?_size _)).1⟩

theorem snd_edict {pos : Pos} : SndE w base s₀ r C env c (.Dict [] [] pos) .edict := fun F P A m σ s Q E ok ca x h => by
  show wpAny _ A (do standAt pos; newDict) _ E s
  refine wpAny_bind (wpAny_standAt ?_)
  refine wpAny_newObj_type ⟨.ref _, m, _, rfl, x.push (o' := .dict []) ⟨[], ⟨#[], 0, ⟨rfl, rfl, rfl⟩, rfl, (fun _ h => by simp at h), Pairs.nil, List.nodup_nil⟩, .nil⟩ rfl rfl, h _ (x.ext.fresh (get?_size _)).1⟩

theorem snd_sub {l i : Expr} {p q : PE} {pos : Pos} (hi : isSlice i = false) (h1 : SndE w base s₀ r C env c l p) (h2 : SndE w base s₀ r C env c i q) : SndE w base s₀ r C env c (.Subscript l i pos) (.sub p q) := fun F P A m σ s Q E ok ca x h => by
  refine Subscript_ (h1.go ok ca x h fun v s₁ av m₁ σ₁ rv x₁ h₁ => ?_)
  refine h2.go ok ca x₁ h₁ fun u s₂ bv m₂ σ₂ ru x₂ h₂ => ?_
  have hget := getItem_ok (A := A) (E := E) x₂ rv ru h₂
  have hsub : subscripted i false v u = operate [v, u] (getItem v u) := by cases i <;> first | rfl | (cases hi; done)
  have fin : ∀ T id, s₂.TypeIs v T → typeLookup (.type T) "__getitem__" = pure (some (.builtin id)) → wpAny (model thePr w) A (subscriptTail l i v u) (PoE w base s₀ env c F P Q) E s₂ := fun T id hT hl =>
    tail_any hT hl (wpAny_mono hget (fun y s₃ h₃ => by obtain ⟨cv, ry, x₃, h₃⟩ := h₃; exact ⟨cv, m₂, σ₂, ry, x₃, h₃⟩) fun _ _ e => e) hsub
  cases h₂ with
  | list he =>
    cases rv
    obtain ⟨items, n, e1, r1⟩ := x₂.ext.list he
    exact fin _ _ (isList_of e1).typeIs slot_list_getitem.lookup
  | dict he =>
    cases rv
    obtain ⟨y, hy, kvs, hd, pr⟩ := x₂.ext.read he
    exact fin _ _ (intMap_of hy hd).typeIs slot_dict_getitem.lookup

theorem Attr.ref {f : Fld} {v : AV} {Q : AV → Store → Prop} {σ : Store} (h : Attr f v Q σ) : ∃ a, v = .ref a := by cases h <;> exact ⟨_, rfl⟩
theorem Attr.next_inv {a : Adr} {Q : AV → Store → Prop} {σ : Store} (h : Attr .next (.ref a) Q σ) : ∃ l i, σ a = some (.liter l i) ∧ ∀ r, σ r = none → Q (.ref r) (upd σ r (.nextw a)) := by
  cases h with
  | next h q => exact ⟨_, _, h, q⟩
  | inst i hf => cases hf

theorem snd_attr (B : Bs w base mg mb) {l : Expr} {name : Str} {f : Fld} {p : PE} {pos : Pos} (hb : plainBase l = true) (hf : flds.lookup name = some f) (h1 : SndE w base s₀ r C env c l p) : SndE w base s₀ r C env c (.Attribute l name pos) (.attr p f) := fun F P A m σ s Q E ok ca x h => by
  refine Attribute_any_ (wpAny_mono (h1 F P A m σ s _ E ok ca x h) (fun v s₁ h₁ => ?_) fun _ _ e => e) (by rw [arm_eval_Attribute, attributeBase_plain hb])
  obtain ⟨av, m₁, σ₁, rv, x₁, h₁⟩ := h₁
  by_cases hn : f = .next
  · subst hn
    have hname : name = Str.ofString "__next__" := by
      have := mem_of_lookupG hf
      have key : ∀ q ∈ flds, q.2 = Fld.next → q.1 = Str.ofString "__next__" := by decide
      exact key _ this rfl
    subst hname
    obtain ⟨a', rfl⟩ := Attr.ref h₁
    cases rv
    obtain ⟨l', i', he, h₁⟩ := Attr.next_inv h₁
    obtain ⟨_, y, hy, rfl⟩ := x₁.ext.own _ _ he rfl
    exact next_attr hy ⟨.ref _, m₁, _, rfl, x₁.push (o' := .nextw _) rfl rfl rfl, h₁ _ (x₁.ext.fresh (get?_size _)).1⟩
  · refine goA (attr_ok B x₁ (mem_of_lookupG hf) hn rv h₁) fun y s₂ cv σ₂ ry x₂ h₂ => ?_
    exact ⟨cv, m₁, σ₂, ry, x₂, h₂⟩
end
end Mine
end
section
namespace Mine
open PySem PySem.W PyProof.Rows PySem.Calls
set_option maxRecDepth 100000

section
variable {w : World} {base : Heap} {s₀ : Shared} {mg mb : Str → Option Value} {r : Nat} {C : Ctr} {env : Env} {c : TC}

theorem keeper_ok (B : Bs w base mg mb) {F : Addr → Option Obj} {P : Addr → Prop} {σ : Store} {s : Shared} {A : Around} {E : Value → Shared → Prop} {f : Addr} {Q : Keeper → Shared → Prop} (x : Ext w base s₀ F P σ s) (hk : Known w f) (h : ∀ k, Q k s) :
    wpAny (model thePr w) A (keeperOf (.ref f)) Q E s := by
  have X : (KK w).In s.heap := B.k.keeps fun b o e => x.inBase e
  have cls : ∀ C, makesIn (KK w) C = true → wpAny (model thePr w) A (keeperOf (.ref C)) Q E s := fun C e => by
    have Y := makes_of (M := model thePr w) X e
    obtain ⟨oc, od, cd, sl, hC, _⟩ := Y.obj
    unfold keeperOf
    refine wpAny_bind (wpAny_load hC ?_)
    simp only
    refine wpAny_bind (Y.call.at ?_)
    exact wpAny_pure (h _)
  rcases hk with ⟨oc, od, fd, sl, e⟩ | rfl | rfl
  · unfold keeperOf
    exact wpAny_bind (wpAny_load (X _ _ e) (wpAny_pure (h _)))
  · exact cls 68 (by kernel_rfl)
  · exact cls 165 (by kernel_rfl)

theorem callWith_any {s : Shared} {A : Around} {E : Value → Shared → Prop} {pos : Pos} {f : Value} {first : List Value} {args : List (Bool × Sem Value)} {Q : Value → Shared → Prop}
    (h : wpAny (model thePr w) A (evalArgs f true args []) (fun x s₁ => (∀ Q' : Keeper → Shared → Prop, (∀ k, Q' k s₁) → wpAny (model thePr w) A (keeperOf f) Q' E s₁) ∧ wpAny (model thePr w) A (call f (first ++ x.pos) x.kw) Q E s₁) E s) :
    wpAny (model thePr w) A (callWith pos f first args []) Q E s := by
  unfold callWith
  refine wpAny_bind (wpAny_holding (wpAny_mono h (fun x s₁ h₁ => wpAny_bind (wpAny_standAt ?_)) fun _ _ e => e))
  obtain ⟨hk, hc⟩ := h₁
  have hc' : ∀ m, wpAny (model thePr w) A (callMarked m f (first ++ x.pos) x.kw) Q E s₁ := fun m Γ p hΓ => by
    unfold callMarked; rw [Sem.wp_keep]; exact hc Γ p hΓ
  have fin : ∀ t : Sem Value, wpAny (model thePr w) A t Q E s₁ → wpAny (model thePr w) A (t >>= fun r => do holding [r] point; pure r) Q E s₁ := fun t ht =>
    wpAny_bind (wpAny_mono ht (fun v s₂ hv => wpAny_bind (wpAny_holding (wpAny_point (wpAny_pure hv)))) fun _ _ e => e)
  have hop : ∀ vs, wpAny (model thePr w) A (operate vs (call f (first ++ x.pos) x.kw)) Q E s₁ := fun vs Γ p hΓ => by
    rw [Sem.wp_operate]; exact hc Γ p hΓ
  refine wpAny_bind (m := keeperOf f) (hk _ fun k => ?_)
  dsimp only
  split
  · exact fin _ (hc' _)
  · split
    · exact fin _ hc
    · exact fin _ (hc' _)
  · split
    · exact fin _ hc
    · exact fin _ (hc' _)
  · exact fin _ hc
  · exact fin _ (hop _)

theorem callWith_known (B : Bs w base mg mb) {s : Shared} {A : Around} {E : Value → Shared → Prop} {pos : Pos} {f : Addr} {first : List Value} {args : List (Bool × Sem Value)} {Q : Value → Shared → Prop}
    (h : wpAny (model thePr w) A (evalArgs (.ref f) true args []) (fun x s₁ => (∃ F P σ, Ext w base s₀ F P σ s₁) ∧ Known w f ∧ wpAny (model thePr w) A (call (.ref f) (first ++ x.pos) x.kw) Q E s₁) E s) :
    wpAny (model thePr w) A (callWith pos (.ref f) first args []) Q E s :=
  callWith_any (wpAny_mono h (fun x s₁ h₁ => by
    obtain ⟨⟨F, P, σ, hx⟩, hk, hc⟩ := h₁
    exact ⟨fun Q' hq => keeper_ok B hx hk hq, hc⟩) fun _ _ e => e)

theorem callWith_bi {s : Shared} {A : Around} {E : Value → Shared → Prop} {pos : Pos} (b : BI) {args : List (Bool × Sem Value)} {Q : Value → Shared → Prop} (hs : (args.any fun x => x.1) = false)
    (h : wpAny (model thePr w) A (evalArgs b.val true args []) (fun a s' => wpAny (model thePr w) A (call b.val a.pos a.kw) Q E s') E s) : wpAny (model thePr w) A (callWith pos b.val [] args []) Q E s := by
  have hb : ∀ id, b.val = .builtin id → wpAny (model thePr w) A (callWith pos b.val [] args []) Q E s := fun id e => by
    rw [e] at h ⊢; exact callWith_builtin hs h
  have ht : ∀ id, b.val = .type id → wpAny (model thePr w) A (callWith pos b.val [] args []) Q E s := fun id e => by
    rw [e] at h ⊢; exact callWith_excType hs h
  cases b
  · exact hb _ rfl
  · exact hb _ rfl
  · exact ht _ rfl
  · exact hb _ rfl
  · exact hb _ rfl
  · exact hb _ rfl
  · exact hb _ rfl
  · exact ht _ rfl
  · exact ht _ rfl
  · exact ht _ rfl
  · exact ht _ rfl
  · exact hb _ rfl

theorem callWith_false {s : Shared} {A : Around} {E : Value → Shared → Prop} {pos : Pos} {f : Value} {first : List Value} {args : List (Bool × Sem Value)} {Q : Value → Shared → Prop}
    (h : wpAny (model thePr w) A (evalArgs f true args []) (fun _ _ => False) E s) : wpAny (model thePr w) A (callWith pos f first args []) Q E s := by
  unfold callWith
  exact wpAny_bind (wpAny_holding (wpAny_mono h (fun _ _ e => e.elim) fun _ _ e => e))

theorem any_plain {α : Type} (l : List α) (f : α → Sem Value) : ((l.map fun e => (false, f e)).any fun x => x.1) = false := by
  induction l with
  | nil => rfl
  | cons a r ih => rw [List.map_cons, List.any_cons, ih]; rfl

theorem call_contract (hC : SoundC w base s₀ r C) (oke : EnvOk env c) {F : Addr → Option Obj} {P : Addr → Prop} {m : Mem} {σ : Store} {s : Shared} {A : Around} {E : Value → Shared → Prop} {f : Addr} {as : List AV} {vs : List Value} {Q : AV → Store → Prop}
    (ok : OkA base r F (some env.locals) A) (hA : A.handled = none) (x : Rep w base s₀ env c F P m σ s) (ra : AllR as vs) (h : C f as Q σ) :
    wpAny (model thePr w) A (call (.ref f) vs) (PoA w base s₀ env c F P m Q) E s := by
  obtain ⟨F', P', h1, h2, h3, h4, h5, h6⟩ := x.suspend oke
  refine wpAny_call (codeAny_mono ((hC f as Q σ h).2 F' P' A s vs (ok.mono h1 h2) hA h5 ra) fun res s' hres => ?_)
  obtain ⟨v, av, σ', rfl, rv, x', hq⟩ := hres
  exact ⟨av, σ', rv, h6 σ' s' x', hq⟩

theorem snd_call (B : Bs w base mg mb) (hC : SoundC w base s₀ r C) (oke : EnvOk env c) {y : Str} {npos pos : Pos} {args : List Expr} {p : PE} {q : PL} (hcalm : c.calm = true) (h1 : SndE w base s₀ r C env c (.Name y npos) p) (h2 : SndL w base s₀ r C env c args q) :
    SndE w base s₀ r C env c (.Call (.Name y npos) args [] pos) (.call p q) := fun F P A m σ s Q E ok ca x h => by
  refine Call_ (wpAny_mono (h1 F P A m σ s _ E ok ca x h) (fun fv s₁ h₁ => ?_) fun _ _ e => e) rfl
  obtain ⟨av, m₁, σ₁, rv, x₁, h₁⟩ := h₁
  rw [backTo_plain h2.1]
  have hargs := h2.2 F P A m₁ σ₁ s₁ _ E ok ca x₁ h₁
  have hA := ca.calm hcalm
  have go : ∀ b : BI, av = .blt b → wpAny (model thePr w) A (evalArgs fv true (args.map fun e => (false, eval e env)) []) (fun a s' => wpAny (model thePr w) A (call b.val (a.pos) a.kw) (PoE w base s₀ env c F P Q) E s') E s₁ := fun b e => by
    subst e
    have : (args.map fun e => (false, eval e env)) = (args.map fun e => eval e env).map fun t => (false, t) := by rw [List.map_map]; rfl
    rw [this] at hargs ⊢
    refine evalArgs_plainL (wpAny_mono hargs (fun vs s₂ h₂ => ?_) fun _ _ e => e)
    obtain ⟨avs, m₂, σ₂, rvs, x₂, h₂⟩ := h₂
    refine wpAny_mono (bcall_ok x₂ hA rvs h₂) (fun v s₃ h₃ => ?_) fun _ _ e => e
    obtain ⟨cv, σ₃, ry, x₃, h₃⟩ := h₃
    exact ⟨cv, m₂, σ₃, ry, x₃, h₃⟩
  have no : (∀ vs m σ, Call C av vs (fun v σ => Q v m σ) σ → False) → wpAny (model thePr w) A (evalArgs fv true (args.map fun e => (false, eval e env)) []) (fun _ _ => False) E s₁ := fun hf => by
    have : (args.map fun e => (false, eval e env)) = (args.map fun e => eval e env).map fun t => (false, t) := by rw [List.map_map]; rfl
    rw [this] at hargs ⊢
    refine evalArgs_plainL (wpAny_mono hargs (fun vs s₂ h₂ => ?_) fun _ _ e => e)
    obtain ⟨avs, m₂, σ₂, rvs, x₂, h₂⟩ := h₂
    exact hf _ _ _ h₂
  cases av with
  | blt b =>
    have hb := go b rfl
    cases rv
    exact callWith_bi b (any_plain _ _) hb
  | ref g =>
    cases rv
    refine callWith_known (s₀ := s₀) B ?_
    have : (args.map fun e => (false, eval e env)) = (args.map fun e => eval e env).map fun t => (false, t) := by rw [List.map_map]; rfl
    rw [this] at hargs ⊢
    refine evalArgs_plainL (wpAny_mono hargs (fun vs s₂ h₂ => ?_) fun _ _ e => e)
    obtain ⟨avs, m₂, σ₂, rvs, x₂, h₂⟩ := h₂
    refine ⟨⟨F, P, σ₂, x₂.ext⟩, (hC _ _ _ _ h₂).1, ?_⟩
    refine wpAny_mono (call_contract hC oke ok hA x₂ rvs h₂) (fun v s₃ h₃ => ?_) fun _ _ e => e
    obtain ⟨cv, σ₃, ry, x₃, h₃⟩ := h₃
    exact ⟨cv, m₂, σ₃, ry, x₃, h₃⟩
  | none => exact callWith_false (no (fun vs m σ h => h))
  | bool b => exact callWith_false (no (fun vs m σ h => h))
  | int i => exact callWith_false (no (fun vs m σ h => h))
end
end Mine
end
section
namespace Mine
open PySem PySem.W PyProof.Rows PySem.Calls
set_option maxRecDepth 100000

noncomputable def frz (F : Addr → Option Obj) (q : Addr) (o : Obj) : Addr → Option Obj := fun a => if a = q then some o else F a
theorem frz_self (F : Addr → Option Obj) (q : Addr) (o : Obj) : frz F q o q = some o := if_pos rfl
theorem frz_ne {F : Addr → Option Obj} {q a : Addr} {o : Obj} (h : a ≠ q) : frz F q o a = F a := if_neg h
theorem frz_grow {F : Addr → Option Obj} {q : Addr} {o : Obj} (h : F q = none) : ∀ a x, F a = some x → frz F q o a = some x := fun a x e => by
  rw [frz_ne (by rintro rfl; rw [h] at e; cases e)]; exact e

section
variable {w : World} {base : Heap} {s₀ : Shared} {env : Env} {c : TC} {F : Addr → Option Obj} {P : Addr → Prop} {m : Mem} {σ σ' : Store} {s : Shared} {A : Around}

theorem Rep.freezeNew (x : Rep w base s₀ env c F P m σ s) {q : Addr} {o : Obj} {h' : Heap} {tk : Nat} (hq : s.heap.get? q = none) (hk : ∀ b z, s.heap.get? b = some z → h'.get? b = some z) (hy : h'.get? q = some o) :
    Rep w base s₀ env c (frz F q o) (fun a => P a ∨ a = q) m σ { s with heap := h', toks := tk } := by
  have hf := x.ext.fresh hq
  have ne : ∀ a z, s.heap.get? a = some z → a ≠ q := fun a z e => by rintro rfl; rw [hq] at e; cases e
  have x' := x.grow (tk := tk) hk
  have hx : Ext w base s₀ (frz F q o) (fun a => P a ∨ a = q) σ { s with heap := h', toks := tk } := by
    obtain ⟨e1, e2, e3, e4, e5, e6, e7, e8, e9⟩ := x'.ext
    refine ⟨e1, fun a z e => ?_, fun a z e hr => ?_, fun a z e => ?_, fun a z e => frz_grow hf.2 _ _ (e5 a z e), fun a h => ?_, ?_, e8, e9⟩
    · by_cases h : a = q
      · subst h; rw [frz_self] at e; cases e; exact .of hy
      · rw [frz_ne h] at e; exact e2 a z e
    · obtain ⟨f1, y, f2, f3⟩ := e3 a z e hr
      have hne : a ≠ q := by rintro rfl; rw [hf.1] at e; cases e
      exact ⟨(frz_ne hne).trans f1, y, f2, f3⟩
    · obtain ⟨y, h1, h2⟩ := e4 a z e
      exact ⟨y, frz_grow hf.2 _ _ h1, h2⟩
    · rcases h with h | rfl
      · have := e6 a h
        obtain ⟨y, hy'⟩ := Option.isSome_iff_exists.mp this.2
        exact ⟨this.1, by rw [frz_grow hf.2 _ _ hy']; rfl⟩
      · exact ⟨hf.1, by rw [frz_self]; rfl⟩
    · obtain ⟨y, hy'⟩ := e7; exact ⟨y, frz_grow hf.2 _ _ hy'⟩
  refine ⟨hx, x'.len, x'.ns, ⟨?_, x'.apart.2⟩, x'.lhi, fun z hz => ?_, fun z i v hz hi hm => ?_, fun z i hz hi => ?_⟩
  · obtain ⟨nm, ⟨oL, _, _, hoL, _⟩, _⟩ := x.ns
    rw [frz_ne (ne _ _ hoL)]; exact x.apart.1
  · obtain ⟨a, y, g1, g2, g3, g4, g5, g6⟩ := x.cel z hz
    exact ⟨a, y, g1, g2, by rw [frz_ne (ne _ _ g5)]; exact g3, g4, hk _ _ g5, g6⟩
  · obtain ⟨a, y, v', g1, g2, g3⟩ := x'.fre z i v hz hi hm
    exact ⟨a, y, v', g1, frz_grow hf.2 _ _ g2, g3⟩
  · obtain ⟨a, ha, hs⟩ := x.fin z i hz hi
    obtain ⟨y, hy'⟩ := Option.isSome_iff_exists.mp hs
    exact ⟨a, ha, by rw [frz_grow hf.2 _ _ hy']; rfl⟩

theorem Ext.thaw {q : Addr} {o : Obj} (x : Ext w base s₀ (frz F q o) (fun a => P a ∨ a = q) σ s) (hF : F q = none) (hb : ∀ a z, base.get? a = some z → F a = some z) (hp : ∀ a, P a → (F a).isSome) (h3 : ∃ z, F 196 = some z) : Ext w base s₀ F P σ s ∧ Kp base s.heap q o ∧ σ q = none := by
  have hσ := (x.priv q (.inr rfl)).1
  refine ⟨⟨x.rest, fun a z e => x.still a z (frz_grow hF _ _ e), fun a z e hr => ?_, fun a z e => ?_, hb, fun a h => ⟨(x.priv a (.inl h)).1, hp a h⟩, h3, x.hi, x.live⟩, x.still q o (frz_self ..), hσ⟩
  · have hne : a ≠ q := by rintro rfl; rw [hσ] at e; cases e
    obtain ⟨f1, y, f2, f3⟩ := x.own a z e hr
    rw [frz_ne hne] at f1; exact ⟨f1, y, f2, f3⟩
  · have hne : a ≠ q := by rintro rfl; rw [hσ] at e; cases e
    obtain ⟨y, h1, h2⟩ := x.ro a z e
    rw [frz_ne hne] at h1; exact ⟨y, h1, h2⟩

theorem Rep.thaw {q : Addr} {o : Obj} {m₀ : Mem} {σ₀ : Store} {s₁ : Shared} (x₀ : Rep w base s₀ env c F P m₀ σ₀ s₁) (x : Rep w base s₀ env c (frz F q o) (fun a => P a ∨ a = q) m σ s) (hF : F q = none) :
    Rep w base s₀ env c F P m σ s ∧ Kp base s.heap q o ∧ σ q = none ∧ q ≠ env.locals := by
  obtain ⟨hx, h1, h2⟩ := x.ext.thaw hF x₀.ext.based (fun a h => (x₀.ext.priv a h).2) x₀.ext.three
  have hL : q ≠ env.locals := by
    rintro rfl
    have := x.apart.1; rw [frz_self] at this; cases this
  have ne : ∀ a, Mine.frz F q o a = none → a ≠ q ∧ F a = none := fun a e => by
    by_cases h : a = q
    · subst h; rw [frz_self] at e; cases e
    · rw [frz_ne h] at e; exact ⟨h, e⟩
  refine ⟨⟨hx, x.len, x.ns, ⟨(ne _ x.apart.1).2, x.apart.2⟩, x.lhi, fun z hz => ?_, fun z i v hz hi hm => ?_, x₀.fin⟩, h1, h2, hL⟩
  · obtain ⟨a, y, g1, g2, g3, g4, g5, g6⟩ := x.cel z hz
    exact ⟨a, y, g1, g2, (ne _ g3).2, g4, g5, g6⟩
  · obtain ⟨a, y, v', g1, g2, g3⟩ := x.fre z i v hz hi hm
    have hne : a ≠ q := by
      rintro rfl
      obtain ⟨a', h1', h2'⟩ := x₀.fin z i hz hi
      rw [g1] at h1'; cases h1'
      rw [hF] at h2'; cases h2'
    rw [frz_ne hne] at g2
    exact ⟨a, y, v', g1, g2, g3⟩

theorem OkA.frz {r : Nat} {q : Addr} {o : Obj} {l : Option Addr} (h : OkA base r F l A) (hF : F q = none) : OkA base r (frz F q o) l A := h.grow (frz_grow hF)
end
end Mine
end
section
namespace Mine
open PySem PySem.W PyProof.Rows PySem.Calls
set_option maxRecDepth 100000

section
variable {w : World} {base : Heap} {s₀ : Shared} {mg mb : Str → Option Value} {r : Nat} {C : Ctr} {env : Env} {c : TC}

theorem ok_kind {k : Nat} {f : Meth} (h : methOk k f = true) (hk : k ≠ 4) : f.kind = k := by
  unfold methOk at h
  rw [if_neg hk] at h
  exact eq_of_beq h
theorem Mk_inst {σ : Store} {a : Adr} (h : Mk σ (.ref a) = 4) : ∃ d vs, σ a = some (.inst d) ∧ σ d = some (.sdict vs) := by
  have v := mk_view σ a
  generalize Mk σ (.ref a) = k at v h
  cases v with
  | inst d vs ha hd => exact ⟨d, vs, ha, hd⟩
  | _ => exact nomatch h
theorem Mk_not {σ : Store} {a : Adr} {f : Meth} (h : f.kind = Mk σ (.ref a)) (h4 : Mk σ (.ref a) ≠ 4) (d : Adr) : σ a ≠ some (.inst d) := fun e => by
  have v := mk_view σ a
  generalize Mk σ (.ref a) = k at v h h4
  cases v with
  | zero => exact kind_ne h
  | inst => exact h4 rfl
  | _ => rename_i e'; rw [e] at e'; cases e'
theorem Mk_ref {σ : Store} {v : AV} {f : Meth} (h : methOk (Mk σ v) f = true) : ∃ a, v = .ref a := by
  cases v with
  | ref a => exact ⟨a, rfl⟩
  | _ => exact (kind_ne (ok_kind (k := 0) h (by decide))).elim
theorem no_inst {σ : Store} {a d : Adr} {o : AO} {G : Prop} (hd : σ a = some (.inst d)) (he : σ a = some o) (h : ∀ d, o ≠ .inst d) : G := absurd (Option.some.inj (he.symm.trans hd)) (h d)
theorem Mcall.inv' {σ : Store} {v : AV} {d : Adr} {f : Meth} {g : Adr} {vs : List AV} {Q : AV → Store → Prop} (h : Mcall C f v vs Q σ) (hd : ∀ a, v = .ref a → σ a = some (.inst d)) (hg : f.addr = some g) : C g (v :: vs) Q σ := by
  cases h with
  | inst h hf q => exact Option.some.inj (hf.symm.trans hg) ▸ q
  | append xs he | pop ys y he | clear xs he | get es he | items es he | values es he | add xs he => exact no_inst (hd _ rfl) he nofun
theorem Mcall.inv {σ : Store} {a d : Adr} {f : Meth} {g : Adr} {vs : List AV} {Q : AV → Store → Prop} (h : Mcall C f (.ref a) vs Q σ) (hd : σ a = some (.inst d)) (hg : f.addr = some g) : C g (.ref a :: vs) Q σ := h.inv' (fun b e => AV.ref.inj e ▸ hd) hg

theorem meth_at (w : World) {name : Str} {f : Meth} {g : Addr} (hf : (name, f) ∈ meths) (hg : f.addr = some g) : findIn (KK w) (.ref 165) name = some (some (.ref g)) ∧ isFn (KK w) (.ref g) = true ∧ name ∉ sNames ∧
    specialIn (KK w) (.ref g) "__get__" = some (some (.builtin "function.__get__")) ∧ takesIn (KK w) (.ref g) = some false ∧ copiedNames.contains name = false := by
  rw [meth_nm hf]
  cases f <;> cases hg <;> exact ⟨by kernel_rfl, by kernel_rfl, by decide, by kernel_rfl, by kernel_rfl, by decide⟩

theorem Rep.instAny {F : Addr → Option Obj} {P : Addr → Prop} {m : Mem} {σ : Store} {s : Shared} (x : Rep w base s₀ env c F P m σ s) {a d : Addr} {vs : List AV} (ha : σ a = some (.inst d)) (hd : σ d = some (.sdict vs)) :
    ∃ es n, W.InstAt s.heap a (instObj 165 d) 165 (some (dictOf es n)) ∧ ∀ nm, nm ∉ sNames → getL nm es = some none := by
  obtain ⟨es, n, I, sd, _, _⟩ := x.inst ha hd
  exact ⟨es, n, I, fun nm hn => sd.none nm fun hm => hn (List.mem_of_mem_take hm)⟩

theorem snd_mcall (B : Bs w base mg mb) (hC : SoundC w base s₀ r C) (oke : EnvOk env c) {o : Expr} {name : Str} {apos pos : Pos} {args : List Expr} {f : Meth} {p : PE} {q : PL} (hb : plainBase o = true) (hl : (apos.endLine == pos.line) = true) (hn : args.length < 20)
    (hf : (name, f) ∈ meths) (hcalm : c.calm = true ∨ f = .pop) (h1 : SndE w base s₀ r C env c o p) (h2 : SndL w base s₀ r C env c args q) : SndE w base s₀ r C env c (.Call (.Attribute o name apos) args [] pos) (.mcall p f q) := fun F P A m σ s Q E ok ca x h => by
  refine eval_mcall hb hl hn h2.1 (wpAny_mono (h1 F P A m σ s _ E ok ca x h) (fun ov s₁ h₁ pl => ?_) fun _ _ e => e)
  obtain ⟨av, m₁, σ₁, rv, x₁, hok, h₁⟩ := h₁
  obtain ⟨a, rfl⟩ := Mk_ref hok
  cases rv
  have hargs := h2.2 F P A m₁ σ₁ s₁ _ E ok ca x₁ h₁
  rw [backTo_plain h2.1]
  have hmap : (args.map fun e => (false, eval e env)) = (args.map fun e => eval e env).map fun t => (false, t) := by rw [List.map_map]; rfl
  by_cases h4 : Mk σ₁ (.ref a) = 4
  · obtain ⟨d, vs, ha, hd⟩ := Mk_inst h4
    obtain ⟨es, n, I, hnone⟩ := x₁.instAny ha hd
    obtain ⟨nm, FR, NR, hloc⟩ := x₁.led
    rw [h4] at hok
    have hsome : f.addr.isSome = true := hok
    obtain ⟨g, hg⟩ := Option.isSome_iff_exists.mp hsome
    obtain ⟨e1, e2, e3, _⟩ := meth_at w hf hg
    have hA : A.handled = none := ca.calm (hcalm.resolve_right (by rintro rfl; cases hg))
    refine method_inst FR B.low I (by kernel_rfl) e1 e2 (hnone name e3) ?_
    refine callWith_known (s₀ := s₀) B ?_
    rw [hmap] at hargs ⊢
    refine evalArgs_plainL (wpAny_mono hargs (fun vs s₂ h₂ => ?_) fun _ _ e => e)
    obtain ⟨avs, m₂, σ₂, rvs, x₂, hmk, h₂⟩ := h₂
    obtain ⟨d', vs', ha', hd'⟩ := Mk_inst (hmk.trans h4)
    have hcall := Mcall.inv h₂ ha' hg
    refine ⟨⟨F, P, σ₂, x₂.ext⟩, (hC _ _ _ _ hcall).1, ?_⟩
    refine wpAny_mono (call_contract hC oke ok hA x₂ (AllR.cons (a := .ref a) rfl rvs) hcall) (fun v s₃ h₃ => ?_) fun _ _ e => e
    obtain ⟨cv, σ₃, ry, x₃, h₃⟩ := h₃
    exact ⟨cv, m₂, σ₃, ry, x₃, h₃⟩
  · have hk := ok_kind hok h4
    refine getMeth_ok x₁ hf hk h4 ?_
    refine callWith_builtin (any_plain _ _) ?_
    rw [hmap] at hargs ⊢
    refine evalArgs_plainL (wpAny_mono hargs (fun vs s₂ h₂ => ?_) fun _ _ e => e)
    obtain ⟨avs, m₂, σ₂, rvs, x₂, hmk, h₂⟩ := h₂
    rw [← hmk] at hk h4
    refine wpAny_mono (mcall_ok (v := .ref a) x₂ h₂ (fun b d e => by cases e; exact Mk_not hk h4 d) rfl rvs) (fun v s₃ h₃ => ?_) fun _ _ e => e
    obtain ⟨cv, σ₃, ry, x₃, h₃⟩ := h₃
    exact ⟨cv, m₂, σ₃, ry, x₃, h₃⟩
end
end Mine
end
section
namespace Mine
open PySem PySem.W PyProof.Rows PySem.Calls
set_option maxRecDepth 100000

section
variable {w : World} {base : Heap} {s₀ : Shared} {mg mb : Str → Option Value} {r : Nat} {C : Ctr} {env : Env} {c : TC} {F : Addr → Option Obj} {P : Addr → Prop} {m : Mem} {σ σ' : Store} {s : Shared} {A : Around}

theorem Rep.freeze (x : Rep w base s₀ env c F P m σ s) {q : Addr} {o : Obj} (hy : Kp base s.heap q o) (hF : F q = none) (hσ : σ q = none) (hL : q ≠ env.locals) (hc : ∀ z a, c.names.lookup z = some .cell → env.cells.lookup z = some a → a ≠ q) :
    Rep w base s₀ env c (frz F q o) (fun a => P a ∨ a = q) m σ s := by
  have hx : Ext w base s₀ (frz F q o) (fun a => P a ∨ a = q) σ s := by
    obtain ⟨e1, e2, e3, e4, e5, e6, e7, e8, e9⟩ := x.ext
    refine ⟨e1, fun a z e => ?_, fun a z e hr => ?_, fun a z e => ?_, fun a z e => frz_grow hF _ _ (e5 a z e), fun a h => ?_, ?_, e8, e9⟩
    · by_cases h : a = q
      · subst h; rw [frz_self] at e; cases e; exact hy
      · rw [frz_ne h] at e; exact e2 a z e
    · obtain ⟨f1, y, f2, f3⟩ := e3 a z e hr
      have hne : a ≠ q := by rintro rfl; rw [hσ] at e; cases e
      exact ⟨(frz_ne hne).trans f1, y, f2, f3⟩
    · obtain ⟨y, h1, h2⟩ := e4 a z e
      exact ⟨y, frz_grow hF _ _ h1, h2⟩
    · rcases h with h | rfl
      · have := e6 a h
        obtain ⟨y, hy'⟩ := Option.isSome_iff_exists.mp this.2
        exact ⟨this.1, by rw [frz_grow hF _ _ hy']; rfl⟩
      · exact ⟨hσ, by rw [frz_self]; rfl⟩
    · obtain ⟨y, hy'⟩ := e7; exact ⟨y, frz_grow hF _ _ hy'⟩
  refine ⟨hx, x.len, x.ns, ⟨by rw [frz_ne (Ne.symm hL)]; exact x.apart.1, x.apart.2⟩, x.lhi, fun z hz => ?_, fun z i v hz hi hm => ?_, fun z i hz hi => ?_⟩
  · obtain ⟨a, y, g1, g2, g3, g4, g5, g6⟩ := x.cel z hz
    exact ⟨a, y, g1, g2, (frz_ne (hc z a hz g1)).trans g3, g4, g5, g6⟩
  · obtain ⟨a, y, v', g1, g2, g3⟩ := x.fre z i v hz hi hm
    exact ⟨a, y, v', g1, frz_grow hF _ _ g2, g3⟩
  · obtain ⟨a, ha, hs⟩ := x.fin z i hz hi
    obtain ⟨y, hy'⟩ := Option.isSome_iff_exists.mp hs
    exact ⟨a, ha, by rw [frz_grow hF _ _ hy']; rfl⟩

theorem Rep.freezeLed (x : Rep w base s₀ env c F P m σ s) {nm : Str → Option Value} {h' : Heap} {tk : Nat} {d : Addr} {y' : Obj}
    (hl : ∀ x i v, c.names.lookup x = some .local → c.vt.lookup x = some i → m[i]? = some (some v) → ∃ v', nm x = some v' ∧ v.R v')
    (F' : Fr (low base) env.locals h' nm) (N' : News (low base) env.locals h' ((d, y') :: allNews base s.heap env.locals)) (hlt : ∀ p ∈ allNews base s.heap env.locals, p.1 < d) :
    Rep w base s₀ env c (frz F d y') (fun a => P a ∨ a = d) m σ { s with heap := h', toks := tk } ∧ F d = none := by
  obtain ⟨g1, g2, g3⟩ := N' (d, y') List.mem_cons_self
  have hnone : s.heap.get? d = none := by
    cases e : s.heap.get? d with
    | none => rfl
    | some o => exact absurd (hlt (d, o) (mem_allNews.mpr ⟨e, g2, g3⟩)) (Nat.lt_irrefl _)
  have hfr := x.ext.fresh hnone
  refine ⟨(x.ofSame (tk := tk) hl F' fun p hp => N' p (List.mem_cons_of_mem _ hp)).freeze (.of g1) hfr.2 hfr.1 g2 fun z a hz ha => ?_, hfr.2⟩
  rintro rfl
  obtain ⟨a', y, k1, k2, k3, k4, k5, _⟩ := x.cel z hz
  rw [ha] at k1; cases k1
  rw [hnone] at k5; cases k5

theorem not_iter_list {l : Addr} {items : Array Value} {n : Nat} {E : Value → Shared → Prop} {Q : Bool → Shared → Prop} (e : s.heap.get? l = some (W.listOf items n)) (h : Q false s) : wpAny (model thePr w) A (notIterableAtAll (.ref l)) Q E s := by
  unfold notIterableAtAll
  refine wpAny_bind (wpAny_specialOf (isList_of e).typeIs PySem.F.slot_list_iter.lookup ?_)
  exact wpAny_pure h

theorem keeper_bound {E : Value → Shared → Prop} {q g : Addr} {self : Value} {og : Obj} {Q : Keeper → Shared → Prop} (hq : s.heap.get? q = some (methodObj (.ref g) self)) (hg : s.heap.get? g = some og) (h : ∀ k, Q k s) : wpAny (model thePr w) A (keeperOf (.ref q)) Q E s := by
  unfold keeperOf
  refine wpAny_bind (wpAny_load hq ?_)
  show wpAny _ A (load g >>= _) _ _ _
  exact wpAny_bind (wpAny_load hg (wpAny_pure (h _)))

theorem eval_mcallS {E : Value → Shared → Prop} {o a sx : Expr} {name : Str} {apos pos spos : Pos} {Q : Value → Shared → Prop} (hb : plainBase o = true) (ha : isStar a = false)
    (h : wpAny (model thePr w) A (eval o env) (fun ov s₁ => wpAny (model thePr w) A (getAttr ov name true) (fun f s₂ => wpAny (model thePr w) A (callWith pos f [] [(false, eval a env), (true, do let v ← eval sx env; standAt pos; pure v)] []) Q E s₂) E s₁) E s) :
    wpAny (model thePr w) A (eval (.Call (.Attribute o name apos) [a, .Starred sx spos] [] pos) env) Q E s := by
  have hst : backTo pos (starEach [a, .Starred sx spos] env) = [(false, eval a env), (true, do let v ← eval sx env; standAt pos; pure v)] := by
    cases a <;> first | rfl | (cases ha; done)
  show wpAny _ A (do
    let ov ← attributeBase o name env (eval o env)
    standAt apos.atName
    methodCall o name apos pos env ov ([a, .Starred sx spos].length + ([] : List Keyword).length) (backTo pos (starEach [a, .Starred sx spos] env)) (backToKw pos (keywordEach [] env))) Q E s
  rw [attributeBase_plain hb, hst]
  refine wpAny_bind (wpAny_mono h (fun ov s₁ h₁ => wpAny_bind (wpAny_standAt ?_)) fun _ _ e => e)
  show wpAny _ A (holding [ov] (getAttr ov name true >>= fun f => pure (f, [])) >>= _) Q E s₁
  refine wpAny_bind (wpAny_holding (wpAny_bind (wpAny_mono h₁ (fun f s₂ h₂ => wpAny_pure ?_) fun _ _ e => e)))
  exact wpAny_bind (wpAny_pure h₂)

theorem snd_mcallS (B : Bs w base mg mb) (hC : SoundC w base s₀ r C) (oke : EnvOk env c) {o a sx : Expr} {name : Str} {apos pos spos : Pos} {f : Meth} {p pa ps : PE} (hb : plainBase o = true) (ha : isStar a = false)
    (hf : (name, f) ∈ meths) (hcalm : c.calm = true) (h1 : SndE w base s₀ r C env c o p) (h2 : SndE w base s₀ r C env c a pa) (h3 : SndE w base s₀ r C env c sx ps) :
    SndE w base s₀ r C env c (.Call (.Attribute o name apos) [a, .Starred sx spos] [] pos) (.mcallS p f (.cons pa .nil) ps) := fun F P A m σ s Q E ok ca x h => by
  simp only [W_16, WL_1, WL_2] at h
  refine eval_mcallS hb ha (wpAny_mono (h1 F P A m σ s _ E ok ca x h) (fun ov s₁ h₁ => ?_) fun _ _ e => e)
  obtain ⟨av, m₁, σ₁, rv, x₁, h4, hsome, h₁⟩ := h₁
  have hA := ca.calm hcalm
  obtain ⟨b, rfl⟩ : ∃ b, av = .ref b := by
    cases av with
    | ref b => exact ⟨b, rfl⟩
    | _ => cases h4
  cases rv
  obtain ⟨d, vs, hb1, hd⟩ := Mk_inst h4
  obtain ⟨es, n, I, hnone⟩ := x₁.instAny hb1 hd
  obtain ⟨nm, FR, NR, hloc⟩ := x₁.led
  obtain ⟨g, hg⟩ := Option.isSome_iff_exists.mp hsome
  obtain ⟨e1, e2, e3, e4, e5, e6⟩ := meth_at w hf hg
  refine kbm_bound FR B.low NR I (by kernel_rfl) (by kernel_rfl) e1 e2 e4 e5 e6 (hnone name e3) fun q h' F' N' hlt => ?_
  obtain ⟨x₂, hFq⟩ := x₁.freezeLed (tk := s₁.toks + 1) hloc F' N' hlt
  refine callWith_any (evalArgs_plain (spliced_cons (wpAny_mono (h2 _ _ A m₁ σ₁ _ _ E (ok.frz hFq) ca x₂ h₁) (fun v s₃ h₃ => ?_) fun _ _ e => e)))
  obtain ⟨av, m₃, σ₃, rv, x₃, h₃⟩ := h₃
  refine ks_spliced (wpAny_mono (h3 _ _ A m₃ σ₃ _ _ E (ok.frz hFq) ca x₃ h₃) (fun u s₄ h₄ => ?_) fun _ _ e => e)
  obtain ⟨bv, m₄, σ₄, ru, x₄, l, xs, rfl, hl, hlim, h44, h₄⟩ := h₄
  cases ru
  obtain ⟨items, k, hit, rit⟩ := x₄.ext.list hl
  have hlen := rit.length
  refine not_iter_list hit ⟨rfl, collect_list (vs := items.toList) (by simpa using isList_of hit) ?_ (lim_size (by omega))⟩
  refine spliced_nil ?_
  have hk₅ : ∀ b o, s₄.heap.get? b = some o → ((s₄.heap.push (seqObj "list" #[] 0)).update s₄.heap.objs.size (Obj.mapSeq fun x => x ++ items.toList.toArray)).get? b = some o := fun b o e => by
    have hne : b ≠ s₄.heap.objs.size := by rintro rfl; rw [get?_size] at e; cases e
    rw [Heap.get?_update_ne _ _ _ _ hne]
    exact Heap.get?_push_of_some _ e
  generalize hh₅ : ((s₄.heap.push (seqObj "list" #[] 0)).update s₄.heap.objs.size (Obj.mapSeq fun x => x ++ items.toList.toArray)) = h₅ at hk₅ ⊢
  have x₅ := x₄.grow (tk := s₄.toks) hk₅
  obtain ⟨x₆, hq₆, hσq, hqL⟩ := Rep.thaw x₁ x₅ hFq
  obtain ⟨d', vs', hb', hd'⟩ := Mk_inst h44
  have hcall := Mcall.inv h₄ hb' hg
  have hkn := (hC _ _ _ _ hcall).1
  have hgobj : ∃ og, h₅.get? g = some og := by
    obtain ⟨og, hog⟩ : ∃ og, (KK w).lookup g = some og := by
      rcases hkn with ⟨oc, od, fd, sl, e⟩ | rfl | rfl
      · exact ⟨_, e⟩
      · cases f <;> cases hg
      · cases f <;> cases hg
    exact ⟨og, x₆.ext.inBase (B.k g og hog)⟩
  obtain ⟨og, hog⟩ := hgobj
  refine ⟨fun Q' hq' => keeper_bound (hq₆.exact (by rintro ⟨⟩)) hog hq', wpAny_call (method_call (hq₆.exact (by rintro ⟨⟩)) ?_)⟩
  obtain ⟨F', P', k1, k2, k3, k4, k5, k6⟩ := x₆.suspend oke
  refine codeAny_mono ((hC _ _ _ _ hcall).2 F' P' A _ (.ref b :: ([v] ++ (items.toList ++ []))) (ok.mono k1 k2) hA k5 (AllR.cons (a := .ref b) rfl (AllR.append (.cons rv .nil) (by simpa using rit)))) fun res s' hres => ?_
  obtain ⟨v', av', σ', rfl, rv', x', hq⟩ := hres
  exact ⟨av', m₄, σ', rv', k6 σ' s' x', hq⟩
end
end Mine
end
section
namespace Mine
open PySem PySem.W PyProof.Rows PySem.Calls
set_option maxRecDepth 100000

section
variable {w : World} {base : Heap} {s₀ : Shared} {mg mb : Str → Option Value} {r : Nat} {C : Ctr} {env : Env} {c : TC} {F : Addr → Option Obj} {P : Addr → Prop} {m : Mem} {σ σ' : Store} {s : Shared} {A : Around}

theorem slice_ok {E : Value → Shared → Prop} (x : Rep w base s₀ env c F P m σ s) {a : Adr} {vs ws : List AV} (ha : at? σ a = some (.list vs)) (hl : vs.length ≤ lim) {o : Expr} {lo' hi' st' : Option Expr} {sp : Pos} {vl vu vt : Value} {lo hi st : Option Int}
    (pl : IsPart vl lo) (pu : IsPart vu hi) (pt : IsPart vt st) (h0 : st ≠ some 0) (hr : ∀ items : Array Value, AllR vs items.toList → AllR ws (slicePick items lo hi st).toList) {Q : AV → Mem → Store → Prop}
    (h : ∀ r, σ r = none → Q (.ref r) m (upd σ r (.list ws))) :
    wpAny (model thePr w) A (subscriptTail o (.Slice lo' hi' st' sp) (.ref a) (.ref s.heap.objs.size)) (PoE w base s₀ env c F P Q) E
      { s with heap := s.heap.push { cls := .type "slice", data := .fields #[vl, vu, vt] } } := by
  obtain ⟨items, n, e1, r1⟩ := x.ext.list ha
  have hk : ∀ b o, s.heap.get? b = some o → (s.heap.push { cls := .type "slice", data := .fields #[vl, vu, vt] }).get? b = some o := fun b o e => Heap.get?_push_of_some _ e
  have x' := x.grow (tk := s.toks) hk
  have e1' := hk _ _ e1
  have hlen : vs.length = items.size := by simpa using r1.length
  have go : wpAny (model thePr w) A (getItem (.ref a) (.ref s.heap.objs.size)) (PoE w base s₀ env c F P Q) E { s with heap := s.heap.push { cls := .type "slice", data := .fields #[vl, vu, vt] } } :=
    wpAny_getItem_list_slice (isList_of e1') (Heap.IsSliceOf.new ..) pl pu pt h0 ⟨.ref _, m, _, rfl, new_list x' (hr items r1), h _ (x'.ext.fresh (get?_size _)).1⟩ (lim_size (by omega))
  cases st' with
  | none => exact tail_any (ops := [.ref s.heap.objs.size, .ref a]) (isList_of e1').typeIs slot_list_getitem.lookup go rfl
  | some _ => exact tail_any (ops := [.ref a, .ref s.heap.objs.size]) (isList_of e1').typeIs slot_list_getitem.lookup go rfl

theorem snd_sliceTo {l hi : Expr} {p q : PE} {pos sp : Pos} (h1 : SndE w base s₀ r C env c l p) (h2 : SndE w base s₀ r C env c hi q) : SndE w base s₀ r C env c (.Subscript l (.Slice none (some hi) none sp) pos) (.sliceTo p q) := fun F P A m σ s Q E ok ca x h => by
  refine Subscript_ (h1.go ok ca x h fun v s₁ av m₁ σ₁ rv x₁ h₁ => ?_)
  refine wpAny_Slice (wpAny_pure (wpAny_mono (h2 F P A m₁ σ₁ s₁ _ E ok ca x₁ h₁) (fun u s₂ h₂ => wpAny_pure ?_) fun _ _ e => e))
  obtain ⟨bv, m₂, σ₂, ru, x₂, h₂⟩ := h₂
  unfold SliceTo at h₂
  cases av <;> first | exact h₂.elim | (cases bv <;> first | exact h₂.elim | skip)
  cases rv; obtain ⟨t, rfl⟩ := ru
  obtain ⟨vs, hv, hl, k0, k1, h₂⟩ := h₂
  refine slice_ok x₂ hv hl .none (.int _ _) .none (by simp) (fun items hr => ?_) h₂
  obtain ⟨n, rfl⟩ := Int.eq_ofNat_of_zero_le k0
  rw [slicePick_upto']
  simpa using hr.take n

theorem snd_sliceFrom {l lo : Expr} {p q : PE} {pos sp : Pos} (h1 : SndE w base s₀ r C env c l p) (h2 : SndE w base s₀ r C env c lo q) : SndE w base s₀ r C env c (.Subscript l (.Slice (some lo) none none sp) pos) (.sliceFrom p q) := fun F P A m σ s Q E ok ca x h => by
  refine Subscript_ (h1.go ok ca x h fun v s₁ av m₁ σ₁ rv x₁ h₁ => ?_)
  refine wpAny_Slice (wpAny_mono (h2 F P A m₁ σ₁ s₁ _ E ok ca x₁ h₁) (fun u s₂ h₂ => wpAny_pure (wpAny_pure ?_)) fun _ _ e => e)
  obtain ⟨bv, m₂, σ₂, ru, x₂, h₂⟩ := h₂
  unfold SliceFrom at h₂
  cases av <;> first | exact h₂.elim | (cases bv <;> first | exact h₂.elim | skip)
  rename_i a k
  cases rv; obtain ⟨t, rfl⟩ := ru
  obtain ⟨vs, hv, hl, k1, h₂⟩ := h₂
  refine slice_ok x₂ hv hl (.int _ _) .none .none (by simp) (fun items hr => ?_) h₂
  have hlen : vs.length = items.size := by simpa using hr.length
  by_cases hk : 0 ≤ k
  · obtain ⟨n, rfl⟩ := Int.eq_ofNat_of_zero_le hk
    rw [slicePick_from']
    simpa [fromAt] using hr.drop n
  · obtain ⟨n, rfl⟩ : ∃ n : Nat, k = -(n : Int) := ⟨(-k).toNat, by omega⟩
    rw [slicePick_last _ _ (by omega)]
    unfold fromAt
    rw [if_neg hk, hlen]
    simpa using hr.drop (items.size - n)

theorem snd_sliceStep {l lo st : Expr} {p q q' : PE} {pos sp : Pos} (h1 : SndE w base s₀ r C env c l p) (h2 : SndE w base s₀ r C env c lo q) (h3 : SndE w base s₀ r C env c st q') : SndE w base s₀ r C env c (.Subscript l (.Slice (some lo) none (some st) sp) pos) (.sliceStep p q q') := fun F P A m σ s Q E ok ca x h => by
  refine Subscript_ (h1.go ok ca x h fun v s₁ av m₁ σ₁ rv x₁ h₁ => ?_)
  refine wpAny_Slice (wpAny_mono (h2 F P A m₁ σ₁ s₁ _ E ok ca x₁ h₁) (fun u s₂ h₂ => wpAny_pure ?_) fun _ _ e => e)
  obtain ⟨bv, m₂, σ₂, ru, x₂, h₂⟩ := h₂
  refine h3.go ok ca x₂ h₂ fun z s₃ cv m₃ σ₃ rz x₃ h₃ => ?_
  unfold SliceStep at h₃
  cases av <;> first | exact h₃.elim | (cases bv <;> first | exact h₃.elim | (cases cv <;> first | exact h₃.elim | skip))
  rename_i a k n
  cases rv; obtain ⟨t, rfl⟩ := ru; obtain ⟨t', rfl⟩ := rz
  obtain ⟨vs, hv, hl, k0, k1, n0, n1, h₃⟩ := h₃
  refine slice_ok x₃ hv hl (.int _ _) .none (.int _ _) (by simp; omega) (fun items hr => ?_) h₃
  obtain ⟨k', rfl⟩ := Int.eq_ofNat_of_zero_le k0
  obtain ⟨n', rfl⟩ := Int.eq_ofNat_of_zero_le (show 0 ≤ n by omega)
  rw [slicePick_step _ _ _ (by omega)]
  simpa using hr.stepped k' n' (by omega)
end
end Mine
end
section
namespace Mine
open PySem PySem.W PyProof.Rows PySem.Calls
set_option maxRecDepth 100000

section
variable {w : World} {base : Heap} {s₀ : Shared} {mg mb : Str → Option Value} {r : Nat} {C : Ctr} {env : Env} {c : TC} {F : Addr → Option Obj} {P : Addr → Prop} {m : Mem} {σ σ' : Store} {s : Shared} {A : Around}

theorem isTrue_pl {e : Expr} (h : plainTest e = true) {whole : Sem Value} : PySem.isTrue e env whole = (do let v ← whole; standAt e.pos; holding [v] (truthy v)) := by
  cases e <;> first | rfl | (cases h; done)

theorem snd_tv {e : Expr} {p : PE} (hp : plainTest e = true) (h1 : SndE w base s₀ r C env c e p) : SndT w base s₀ r C env c e (.tv p) := fun F P A m σ s Q E ok ca x h => by
  refine isTrue_plain (wpAny_mono (h1 F P A m σ s _ E ok ca x h) (fun v s₁ h₁ => ?_) fun _ _ e => e) (isTrue_pl hp)
  obtain ⟨av, m₁, σ₁, rv, x₁, h₁⟩ := h₁
  exact wpAny_mono (tru_ok x₁ rv h₁) (fun t s₂ h₂ => ⟨m₁, σ₁, h₂.1, h₂.2⟩) fun _ _ e => e

theorem snd_tv_cmp {l rt : Expr} {op : CmpOp} {o : COp} {p q : PE} {pos : Pos} (hs : noSet rt = true) (ho : cop op = some o) (h1 : SndE w base s₀ r C env c l p) (h2 : SndE w base s₀ r C env c rt q) : SndT w base s₀ r C env c (.Compare l [op] [rt] pos) (.tv (.cmp o p q)) := fun F P A m σ s Q E ok ca x h => by
  refine wpAny_isTrue_Compare1 (wpAny_mono (h1 F P A m σ s _ E ok ca x h) (fun v s₁ h₁ => ?_) fun _ _ e => e) (marks_noSet hs)
  obtain ⟨av, m₁, σ₁, rv, x₁, h₁⟩ := h₁
  refine h2.go ok ca x₁ h₁ fun u s₂ bv m₂ σ₂ ru x₂ h₂ => ?_
  refine wpAny_mono (cmp_ok x₂ ok.units64 ho rv ru h₂) (fun y s₃ h₃ => ?_) fun _ _ e => e
  obtain ⟨t, rfl, x₃, h₃⟩ := h₃
  exact wpAny_truthy_bool ⟨m₂, σ₂, x₃, h₃⟩

theorem snd_not {e : Expr} {p : PT} {pos : Pos} (h1 : SndT w base s₀ r C env c e p) : SndT w base s₀ r C env c (.UnaryOp .Not e pos) (.not p) := fun F P A m σ s Q E ok ca x h => by
  refine isTrue_not (h1.go ok ca x h fun t s₁ m₁ σ₁ x₁ h₁ => ?_)
  exact ⟨m₁, σ₁, x₁, h₁⟩

theorem snd_and {a b : Expr} {p q : PT} {pos : Pos} (h1 : SndT w base s₀ r C env c a p) (h2 : SndT w base s₀ r C env c b q) : SndT w base s₀ r C env c (.BoolOp .And [a, b] pos) (.and p q) := fun F P A m σ s Q E ok ca x h => by
  refine isTrue_and (h1.go ok ca x h fun t s₁ m₁ σ₁ x₁ h₁ => ?_)
  cases t with
  | false => rw [if_neg (by decide)]; exact ⟨m₁, σ₁, x₁, h₁⟩
  | true =>
    rw [if_pos rfl]
    refine isTrue_and (wpAny_mono (h2 F P A m₁ σ₁ s₁ _ E ok ca x₁ h₁) (fun t s₂ h₂ => ?_) fun _ _ e => e)
    cases t with
    | false => rw [if_neg (by decide)]; exact h₂
    | true => rw [if_pos rfl]; exact isTrue_and_nil h₂

theorem snd_or_t {a b : Expr} {p q : PT} {pos : Pos} (h1 : SndT w base s₀ r C env c a p) (h2 : SndT w base s₀ r C env c b q) : SndT w base s₀ r C env c (.BoolOp .Or [a, b] pos) (.or p q) := fun F P A m σ s Q E ok ca x h => by
  refine isTrue_or (h1.go ok ca x h fun t s₁ m₁ σ₁ x₁ h₁ => ?_)
  cases t with
  | true => rw [if_pos rfl]; exact ⟨m₁, σ₁, x₁, h₁⟩
  | false =>
    rw [if_neg (by decide)]
    refine isTrue_or (wpAny_mono (h2 F P A m₁ σ₁ s₁ _ E ok ca x₁ h₁) (fun t s₂ h₂ => ?_) fun _ _ e => e)
    cases t with
    | true => rw [if_pos rfl]; exact h₂
    | false => rw [if_neg (by decide)]; exact isTrue_or_nil h₂
end
end Mine
end
section
namespace Mine
open PySem PySem.W PyProof.Rows PySem.Calls
set_option maxRecDepth 100000

section
variable {w : World} {base : Heap} {s₀ : Shared} {mg mb : Str → Option Value} {r : Nat} {C : Ctr} {env : Env} {c : TC} {F : Addr → Option Obj} {P : Addr → Prop} {m : Mem} {σ σ' : Store} {s : Shared} {A : Around}

noncomputable def Off (env : Env) (c : TC) (q : Addr) : Prop := q ≠ env.locals ∧ ∀ z a, c.names.lookup z = some .cell → env.cells.lookup z = some a → a ≠ q

theorem Ext.touch (x : Ext w base s₀ F P σ s) {q : Addr} {oq : Obj} {h' : Heap} {tk : Nat} (hq : s.heap.get? q = some oq) (hF : F q = none) (hσ : σ q = none)
    (hk : ∀ b o, b ≠ q → s.heap.get? b = some o → h'.get? b = some o) (hal : (∃ fs, oq.data = .fields fs) ∨ ∃ z, h'.get? q = some z ∧ noF z) : Ext w base s₀ F P σ { s with heap := h', toks := tk } := by
  obtain ⟨⟨hh, t, rfl⟩, x1, x2, x3, x4, x5, x6, x7, x8⟩ := x
  refine ⟨⟨h', tk, rfl⟩, fun b o e => (x1 b o e).map fun y => hk b y (by rintro rfl; rw [hF] at e; cases e), fun b o e hr => ?_, x3, x4, x5, x6, x7, fun b o e hr => ?_⟩
  · obtain ⟨f1, y, f2, f3⟩ := x2 b o e hr
    exact ⟨f1, y, hk b y (by rintro rfl; rw [hσ] at e; cases e) f2, f3⟩
  · obtain ⟨u, d, v, h1, h2, h3, h4⟩ := x8 b o e hr
    have h5 : ∃ v', h'.get? d = some v' ∧ noF v' := by
      by_cases hd : d = q
      · subst hd
        rcases hal with ⟨fs, hfs⟩ | h
        · cases h3.symm.trans hq
          exact absurd hfs (h4 fs)
        · exact h
      · exact ⟨v, hk d v hd h3, h4⟩
    obtain ⟨v', h5⟩ := h5
    exact ⟨u, d, v', hk b u (by rintro rfl; rw [hσ] at e; cases e) h1, h2, h5⟩

theorem Rep.touch (x : Rep w base s₀ env c F P m σ s) {q : Addr} {oq : Obj} {h' : Heap} {tk : Nat} (hq : s.heap.get? q = some oq) (hF : F q = none) (hσ : σ q = none) (ho : Off env c q)
    (hk : ∀ b o, b ≠ q → s.heap.get? b = some o → h'.get? b = some o) (hal : (∃ fs, oq.data = .fields fs) ∨ ∃ z, h'.get? q = some z ∧ noF z) : Rep w base s₀ env c F P m σ { s with heap := h', toks := tk } := by
  refine ⟨x.ext.touch hq hF hσ hk hal, x.len, ?_, x.apart, x.lhi, fun y hy => ?_, x.fre, x.fin⟩
  · obtain ⟨nm, ⟨o, es, ep, ho', r⟩, h2⟩ := x.ns
    exact ⟨nm, ⟨o, es, ep, hk _ _ (Ne.symm ho.1) ho', r⟩, h2⟩
  · obtain ⟨a, o, h1, h2, h3, h4, h5, h6⟩ := x.cel y hy
    exact ⟨a, o, h1, h2, h3, h4, hk _ _ (ho.2 y a hy h1) h5, h6⟩

theorem Ext.adopt (x : Ext w base s₀ F P σ s) {q : Addr} {y : Obj} {o' : AO} (hq : s.heap.get? q = some y) (hF : F q = none) (hσ : σ q = none) (h3 : 196 < q) (r : RO w o' y) (hr' : isRo o' = false) (hnd : isNode o' = false) : Ext w base s₀ F P (Mine.upd σ q o') s := by
  obtain ⟨x0, x1, x2, x3, x4, x5, x6, x7, x8⟩ := x
  refine ⟨x0, x1, fun b z e hz => ?_, fun b z e => ?_, x4, fun b p => ?_, x6, fun b z e hz => ?_, fun b z e hz => ?_⟩
  · unfold Mine.upd at e
    by_cases hb : b = q
    · subst hb; simp only [if_true, Option.some.injEq] at e; subst e; exact ⟨hF, y, hq, r⟩
    · rw [if_neg hb] at e; exact x2 b z e hz
  · unfold Mine.upd at e
    by_cases hb : b = q
    · subst hb; simp only [if_true, Option.some.injEq] at e; subst e; cases hr'
    · rw [if_neg hb] at e; exact x3 b z e
  · have := x5 b p
    have hb : b ≠ q := by rintro rfl; rw [hF] at this; cases this.2
    exact ⟨by unfold Mine.upd; rw [if_neg hb]; exact this.1, this.2⟩
  · unfold Mine.upd at e
    by_cases hb : b = q
    · subst hb; exact h3
    · rw [if_neg hb] at e; exact x7 b z e hz
  · unfold Mine.upd at e
    by_cases hb : b = q
    · subst hb; simp only [if_true, Option.some.injEq] at e; subst e; rw [hnd] at hz; cases hz
    · rw [if_neg hb] at e; exact x8 b z e hz

theorem Rep.adopt (x : Rep w base s₀ env c F P m σ s) {q : Addr} {y : Obj} {o' : AO} (hq : s.heap.get? q = some y) (hF : F q = none) (hσ : σ q = none) (ho : Off env c q) (h3 : 196 < q) (r : RO w o' y) (hr' : isRo o' = false) (hnd : isNode o' = false) : Rep w base s₀ env c F P m (Mine.upd σ q o') s := by
  refine ⟨x.ext.adopt hq hF hσ h3 r hr' hnd, x.len, x.ns, ⟨x.apart.1, ?_⟩, x.lhi, fun z hz => ?_, x.fre, x.fin⟩
  · unfold Mine.upd; rw [if_neg (Ne.symm ho.1)]; exact x.apart.2
  · obtain ⟨a, o, h1, h2, h3, h4, h5, h6⟩ := x.cel z hz
    exact ⟨a, o, h1, h2, h3, by unfold Mine.upd; rw [if_neg (ho.2 z a hz h1)]; exact h4, h5, h6⟩

theorem Rep.off (x : Rep w base s₀ env c F P m σ s) {q : Addr} (hq : s.heap.get? q = none) : Off env c q := by
  obtain ⟨nm, ⟨o, es, ep, ho, _⟩, h2⟩ := x.ns
  refine ⟨(by rintro rfl; rw [hq] at ho; cases ho), fun z a hz ha => ?_⟩
  rintro rfl
  obtain ⟨a', o, h1, h2, h3, h4, h5, h6⟩ := x.cel z hz
  rw [ha] at h1; cases h1
  rw [hq] at h5; cases h5

structure It (w : World) (I : Addr) (b : Option Addr) (vs : List AV) (fp : List Addr) (Pv : Nat → Value → Prop) (St : Nat → Heap → Prop) : Prop where
  walks : ∀ A : Around, A.handled = none → Walks thePr w A I fp [I] vs.length Pv St
  val : ∀ i v, Pv i v → ∃ y, vs[i]? = some y ∧ y.R v
  fp : ∀ q ∈ fp, q = I ∨ some q = b
  fld : ∀ i h, St i h → ∃ o fs, h.get? I = some o ∧ o.data = .fields fs ∧ o.cls ≠ .none

theorem PairR.at' {es kvs} (h : PairR es kvs) {i : Nat} {k : Int} {v : Value} (e : kvs[i]? = some (k, v)) : ∃ y, es[i]? = some (k, y) ∧ y.R v := by
  induction h generalizing i with
  | nil => simp at e
  | cons a b ih => cases i with
    | zero => simp at e; obtain ⟨rfl, rfl⟩ := e; exact ⟨_, rfl, a⟩
    | succ n => simp at e; obtain ⟨y, h1, h2⟩ := ih e; exact ⟨y, by simpa using h1, h2⟩
theorem AllR.at' {as vs} (h : AllR as vs) {i : Nat} {v : Value} (e : vs[i]? = some v) : ∃ y, as[i]? = some y ∧ y.R v := by
  induction h generalizing i with
  | nil => simp at e
  | cons a b ih => cases i with
    | zero => simp at e; subst e; exact ⟨_, rfl, a⟩
    | succ n => simp at e; obtain ⟨y, h1, h2⟩ := ih e; exact ⟨y, by simpa using h1, h2⟩

theorem int_is {k : Int} {v : Value} (h : (intKind thePr w).is k v = true) : (AV.int k).R v := by
  cases v <;> first | (cases h; done) | skip
  rename_i i t
  have : i = k := by simpa [intKind, Value.isInt] using h
  subst this; exact ⟨_, rfl⟩

theorem iter_ok {E : Value → Shared → Prop} (x : Rep w base s₀ env c F P m σ s) {v : Value} {av : AV} (rv : av.R v) {vs : List AV} {b : Option Adr} (hi : itemsOf σ av = some (vs, b)) {Q : Value → Shared → Prop}
    (h : ∀ oI fp Pv St, oI.isFreed = false → It w s.heap.objs.size b vs fp Pv St → St 0 (s.heap.push oI) → Q (.ref s.heap.objs.size) { s with heap := s.heap.push oI }) : wpAny (model thePr w) A (pyIter v) Q E s := by
  unfold itemsOf at hi
  cases av <;> first | (cases hi; done) | skip
  rename_i a
  cases rv
  simp only at hi
  split at hi
  · rename_i xs he
    cases hi
    obtain ⟨items, n, e1, r1⟩ := x.ext.list he
    have hlen : vs.length = items.size := by simpa using r1.length
    have hne : a ≠ s.heap.objs.size := Nat.ne_of_lt (Heap.lt_size e1)
    refine wpAny_pyIter_list (isList_of e1) (h _ _ _ _ rfl ⟨fun A hA => hlen ▸ Walks.list hA _ a hne items, fun i v hv => r1.at' (by simpa using hv), fun q hq => ?_, fun i h hs => ?_⟩ ⟨⟨_, Heap.get?_push_size _ rfl, rfl, rfl⟩, isList_of (Heap.get?_push_of_some _ e1)⟩)
    · rcases List.mem_cons.mp hq with e | hq
      · exact .inl e
      · exact .inr (by rw [List.mem_singleton.mp hq])
    · obtain ⟨⟨o, h1, h3, h2⟩, _⟩ := hs; exact ⟨o, _, h1, h2, by rw [h3]; rintro ⟨⟩⟩
  · rename_i xs he
    cases hi
    obtain ⟨y, e1, items, n, rfl, r1⟩ := x.ext.read he
    have hlen : vs.length = items.size := by simpa using r1.length
    have hne : a ≠ s.heap.objs.size := Nat.ne_of_lt (Heap.lt_size e1)
    refine wpAny_pyIter_tuple ⟨_, e1, rfl, _, rfl⟩ (h _ _ _ _ rfl ⟨fun A hA => hlen ▸ Walks.tuple hA _ a hne items, fun i v hv => r1.at' (by simpa using hv), fun q hq => ?_, fun i h hs => ?_⟩ ⟨⟨_, Heap.get?_push_size _ rfl, rfl, rfl⟩, ⟨_, Heap.get?_push_of_some _ e1, rfl, _, rfl⟩⟩)
    · rcases List.mem_cons.mp hq with e | hq
      · exact .inl e
      · exact .inr (by rw [List.mem_singleton.mp hq])
    · obtain ⟨⟨o, h1, h3, h2⟩, _⟩ := hs; exact ⟨o, _, h1, h2, by rw [h3]; rintro ⟨⟩⟩
  · rename_i lo n st he
    cases hi
    obtain ⟨y, e1, hi, t₁, t₂, t₃, rfl, hs, hn⟩ := x.ext.read he
    refine wpAny_pyIter_range e1 hs ?_
    rw [hn]
    refine h _ [s.heap.objs.size] (fun i v => i < n ∧ ∃ t, v = .int (lo + i * st) t) (fun i h => i ≤ n ∧ IsRangeIter h s.heap.objs.size (lo + (i : Nat) * st) ((n : Int) - (i : Nat)) st) rfl ⟨fun A hA => ?_, ?_, fun q hq => .inl (List.mem_singleton.mp hq), fun i h hs => ?_⟩ ?_
    · have W := Walks.range (prog := thePr) (w := w) hA s.heap.objs.size lo st n
      rw [List.length_map, List.length_range]
      exact ⟨W.sub, fun i h h' st hk => ⟨st.1, W.frame i h h' st.2 hk⟩, fun i s Q E hi st hQ => W.item i s Q E hi st.2 fun v h' tk p st' hk => hQ v h' tk ⟨hi, p⟩ ⟨hi, st'⟩ hk, fun s Q E st hQ => W.done s Q E st.2 hQ, fun i s Q E st hQ => W.self i s Q E st.2 hQ⟩
    · rintro i v ⟨hi, t, rfl⟩
      exact ⟨.int (lo + i * st), by simp [hi], ⟨_, rfl⟩⟩
    · exact ⟨_, _, hs.2, rfl, by rintro ⟨⟩⟩
    · refine ⟨Nat.zero_le _, ?_⟩
      have := Heap.get?_push_size s.heap (o := { cls := .type "range_iterator", data := .fields #[rawInt lo, rawInt n, rawInt st] }) rfl
      unfold IsRangeIter
      simpa using this
  · rename_i es he
    split at hi
    rotate_left
    · cases hi
    rename_i hσa
    cases hi
    obtain ⟨y, e1, kvs, hd, pr⟩ := x.ext.read he
    obtain ⟨ees, ep, g1, g2, g3, g4, g5⟩ := hd
    have hlen := pr.length
    have hne : a ≠ s.heap.objs.size := Nat.ne_of_lt (Heap.lt_size e1)
    refine wpAny_pyIter_dict (knd := intKind thePr w) (kvs := kvs) (ep := ep) ?_ ⟨y, ees, e1, g1, g2, g3, g4, g5⟩ (h _ [s.heap.objs.size, a] (fun i v => ∃ k x, kvs[i]? = some (k, x) ∧ (intKind thePr w).is k v = true) (fun i h => h.IsKeyIter s.heap.objs.size a i kvs.length ep ∧ h.DictAt (intKind thePr w) a kvs ep) rfl ⟨fun A hA => ?_, fun i v hv => ?_, fun q hq => ?_, fun i h hs => ?_⟩ ⟨⟨_, Heap.get?_push_size _ rfl, rfl, rfl⟩, ⟨y, ees, Heap.get?_push_of_some _ e1, g1, g2, g3, g4, g5⟩⟩)
    · exact x.ext.neSys hσa rfl
    · rw [List.length_map, hlen]; exact Walks.dictKeys hA _ a hne kvs ep
    · obtain ⟨k, u, h1, h2⟩ := hv
      obtain ⟨z, h3, _⟩ := pr.at' h1
      exact ⟨.int k, by rw [List.getElem?_map, h3]; rfl, int_is h2⟩
    · rcases List.mem_cons.mp hq with e | hq
      · exact .inl e
      · exact .inr (by rw [List.mem_singleton.mp hq])
    · obtain ⟨⟨o, h1, h3, h2⟩, _⟩ := hs; exact ⟨o, _, h1, h2, by rw [h3]; rintro ⟨⟩⟩
  · rename_i d he
    split at hi
    · rename_i es hed
      cases hi
      obtain ⟨y, e1, kvs, hd, pr⟩ := x.ext.read hed
      obtain ⟨yv, ev, hv1, hv2⟩ := x.ext.read he
      obtain ⟨ees, ep, g1, g2, g3, g4, g5⟩ := hd
      have hlen := pr.length
      have hne : d ≠ s.heap.objs.size := Nat.ne_of_lt (Heap.lt_size e1)
      refine wpAny_pyIter_values (knd := intKind thePr w) (kvs := kvs) (ep := ep) ⟨yv, ev, hv1, hv2⟩ ⟨y, ees, e1, g1, g2, g3, g4, g5⟩ (h _ [s.heap.objs.size, d] (fun i v => ∃ k, kvs[i]? = some (k, v)) (fun i h => h.IsValIter s.heap.objs.size d i kvs.length ep ∧ h.DictAt (intKind thePr w) d kvs ep) rfl ⟨fun A hA => ?_, fun i v hv => ?_, fun q hq => ?_, fun i h hs => ?_⟩ ⟨⟨_, Heap.get?_push_size _ rfl, rfl, rfl⟩, ⟨y, ees, Heap.get?_push_of_some _ e1, g1, g2, g3, g4, g5⟩⟩)
      · rw [List.length_map, hlen]; exact Walks.dictValues hA _ d hne kvs ep
      · obtain ⟨k, h1⟩ := hv
        obtain ⟨z, h3, h4⟩ := pr.at' h1
        exact ⟨z, by rw [List.getElem?_map, h3]; rfl, h4⟩
      · rcases List.mem_cons.mp hq with e | hq
        · exact .inl e
        · exact .inr (by rw [List.mem_singleton.mp hq])
      · obtain ⟨⟨o, h1, h3, h2⟩, _⟩ := hs; exact ⟨o, _, h1, h2, by rw [h3]; rintro ⟨⟩⟩
    · cases hi
  · cases hi
end
end Mine
end
section
namespace Mine
open PySem PySem.W PyProof.Rows PySem.Calls
set_option maxRecDepth 100000

section
variable {w : World} {base : Heap} {s₀ : Shared} {mg mb : Str → Option Value} {r : Nat} {C : Ctr} {env : Env} {c : TC} {F : Addr → Option Obj} {P : Addr → Prop} {m : Mem} {σ σ' : Store} {s : Shared} {A : Around}

theorem lock_ne {σ : Store} {a b : Adr} (h : b ≠ a) : lock σ (some a) b = σ b := by
  show (match σ a with | some o => upd σ a (.ro o.rd) | none => σ) b = σ b
  cases σ a with
  | some o => exact if_neg h
  | none => rfl
theorem lock_self {σ : Store} {a : Adr} {o : AO} (h : σ a = some o) : lock σ (some a) a = some (.ro o.rd) := by
  show (match σ a with | some o => upd σ a (.ro o.rd) | none => σ) a = _
  rw [h]; simp [upd]
theorem rd_of_notRo {o : AO} (h : isRo o = false) : o.rd = o := by
  cases o <;> first | rfl | (cases h; done)

theorem Ext.lockAt (x : Ext w base s₀ F P σ s) {a : Adr} {o : AO} (ho : σ a = some o) (hnd : isNode o = false) :
    ∃ F', (∀ q z, F q = some z → F' q = some z) ∧ (∀ q, F q = none → F' q = none ∨ q = a) ∧ (∃ y, F' a = some y ∧ y.cls ≠ .none) ∧ Ext w base s₀ F' P (lock σ (some a)) s ∧
      ∀ τ s', Ext w base s₀ F' P τ s' → Locked σ τ (some a) → Ext w base s₀ F P (unlock σ τ (some a)) s' := by
  cases hr : isRo o with
  | true =>
    obtain ⟨o', rfl⟩ : ∃ o', o = .ro o' := by cases o <;> first | exact ⟨_, rfl⟩ | (cases hr; done)
    obtain ⟨y, hy, ry⟩ := x.ro a o' ho
    have hlk : ∀ b z, lock σ (some a) b = some z → isRo z = false → σ b = some z := fun b z e hz => by
      by_cases hb : b = a
      · subst hb; rw [lock_self ho] at e; cases e; cases hz
      · rwa [lock_ne hb] at e
    refine ⟨F, fun _ _ e => e, fun _ e => .inl e, ⟨y, hy, ry.cls⟩, ⟨x.rest, x.still, fun b z e hz => x.own b z (hlk b z e hz) hz, fun b z e => ?_, x.based, fun b p => ?_, x.three, fun b z e hz => x.hi b z (hlk b z e hz) hz, fun b z e hn => ?_⟩, fun τ s' hx hL => ?_⟩
    · by_cases hb : b = a
      · subst hb; rw [lock_self ho] at e; cases e
        exact ⟨y, hy, by rw [rd_of_notRo (rd_notRo _)]; exact ry⟩
      · rw [lock_ne hb] at e; exact x.ro b z e
    · have := x.priv b p
      have hb : b ≠ a := by rintro rfl; rw [this.1] at ho; cases ho
      exact ⟨by rw [lock_ne hb]; exact this.1, this.2⟩
    · have hz : isRo z = false := by cases z <;> first | rfl | (cases hn; done)
      exact x.live b z (hlk b z e hz) hn
    · have hun : ∀ b z, unlock σ τ (some a) b = some z → isRo z = false → τ b = some z := fun b z e hz => by
        simp only [unlock] at e
        by_cases hb : b = a
        · subst hb; rw [if_pos rfl, ho] at e; cases e; cases hz
        · rwa [if_neg hb] at e
      refine ⟨hx.rest, hx.still, fun b z e hz => hx.own b z (hun b z e hz) hz, fun b z e => ?_, x.based, fun b p => ?_, x.three, fun b z e hz => hx.hi b z (hun b z e hz) hz, fun b z e hn => ?_⟩
      · simp only [unlock] at e
        by_cases hb : b = a
        · subst hb; rw [if_pos rfl, ho] at e; cases e; exact ⟨y, hy, ry⟩
        · rw [if_neg hb] at e; exact hx.ro b z e
      · have := hx.priv b p
        have h' := x.priv b p
        refine ⟨?_, this.2⟩
        simp only [unlock]
        split
        · rename_i hb; subst hb; exact h'.1
        · exact this.1
      · have hz : isRo z = false := by cases z <;> first | rfl | (cases hn; done)
        exact hx.live b z (hun b z e hz) hn
  | false =>
    obtain ⟨hF, y, hy, ry⟩ := x.own a o ho hr
    have hlk : ∀ b z, lock σ (some a) b = some z → isRo z = false → b ≠ a ∧ σ b = some z := fun b z e hz => by
      by_cases hb : b = a
      · subst hb; rw [lock_self ho] at e; cases e; cases hz
      · exact ⟨hb, by rwa [lock_ne hb] at e⟩
    refine ⟨frz F a y, frz_grow hF, fun q e => ?_, ⟨y, frz_self .., ry.cls⟩, ⟨x.rest, fun b z e => ?_, fun b z e hz => ?_, fun b z e => ?_, fun b z e => frz_grow hF _ _ (x.based b z e), fun b p => ?_, ?_, fun b z e hz => x.hi b z (hlk b z e hz).2 hz, fun b z e hn => ?_⟩, fun τ s' hx hL => ?_⟩
    · by_cases h : q = a
      · exact .inr h
      · rw [frz_ne h]; exact .inl e
    · by_cases h : b = a
      · subst h; rw [frz_self] at e; cases e; exact .of hy
      · rw [frz_ne h] at e; exact x.still b z e
    · have := hlk b z e hz
      obtain ⟨f1, y', f2, f3⟩ := x.own b z this.2 hz
      exact ⟨(frz_ne this.1).trans f1, y', f2, f3⟩
    · by_cases hb : b = a
      · subst hb; rw [lock_self ho] at e; cases e
        exact ⟨y, frz_self .., by rw [rd_of_notRo (rd_notRo _), rd_of_notRo hr]; exact ry⟩
      · rw [lock_ne hb] at e
        obtain ⟨y', f1, f2⟩ := x.ro b z e
        exact ⟨y', (frz_ne hb).trans f1, f2⟩
    · have := x.priv b p
      have hb : b ≠ a := by rintro rfl; rw [this.1] at ho; cases ho
      exact ⟨by rw [lock_ne hb]; exact this.1, by rw [frz_ne hb]; exact this.2⟩
    · obtain ⟨z, hz⟩ := x.three; exact ⟨z, frz_grow hF _ _ hz⟩
    · have hz : isRo z = false := by cases z <;> first | rfl | (cases hn; done)
      exact x.live b z (hlk b z e hz).2 hn
    · have hτ : τ a = some (.ro o.rd) := by have := hL; unfold Locked at this; simp only at this; rw [this, lock_self ho]
      have hy' := (hx.still a y (frz_self ..)).exact ry.cls
      have hne : ∀ b z, unlock σ τ (some a) b = some z → b ≠ a → τ b = some z := fun b z e hb => by
        simp only [unlock] at e; rwa [if_neg hb] at e
      refine ⟨hx.rest, fun b z e => hx.still b z (frz_grow hF _ _ e), fun b z e hz => ?_, fun b z e => ?_, x.based, fun b p => ?_, x.three, fun b z e hz => ?_, fun b z e hn => ?_⟩
      · by_cases hb : b = a
        · subst hb
          simp only [unlock, if_true] at e; rw [ho] at e; cases e
          exact ⟨hF, y, hy', ry⟩
        · obtain ⟨f1, y', f2, f3⟩ := hx.own b z (hne b z e hb) hz
          rw [frz_ne hb] at f1; exact ⟨f1, y', f2, f3⟩
      · by_cases hb : b = a
        · subst hb
          simp only [unlock, if_true] at e; rw [ho] at e; cases e; cases hr
        · obtain ⟨y', f1, f2⟩ := hx.ro b z (hne b _ e hb)
          rw [frz_ne hb] at f1; exact ⟨y', f1, f2⟩
      · have := hx.priv b p
        have hb : b ≠ a := by rintro rfl; rw [(x.priv b p).1] at ho; cases ho
        exact ⟨by simp only [unlock]; rw [if_neg hb]; exact this.1, (x.priv b p).2⟩
      · by_cases hb : b = a
        · subst hb; exact x.hi b o ho hr
        · exact hx.hi b z (hne b z e hb) hz
      · by_cases hb : b = a
        · subst hb
          simp only [unlock, if_true] at e; rw [ho] at e; cases e; rw [hnd] at hn; cases hn
        · exact hx.live b z (hne b z e hb) hn

theorem Ext.lock (x : Ext w base s₀ F P σ s) {b : Option Adr} (hb : ∀ a, b = some a → ∃ o, σ a = some o ∧ isNode o = false) :
    ∃ F', (∀ q z, F q = some z → F' q = some z) ∧ (∀ q, F q = none → F' q = none ∨ b = some q) ∧ (∀ a, b = some a → ∃ y, F' a = some y ∧ y.cls ≠ .none) ∧ Ext w base s₀ F' P (lock σ b) s ∧
      ∀ τ s', Ext w base s₀ F' P τ s' → Locked σ τ b → Ext w base s₀ F P (unlock σ τ b) s' := by
  cases b with
  | none => exact ⟨F, fun _ _ e => e, fun _ e => .inl e, (fun _ e => nomatch e), x, fun τ s' h _ => h⟩
  | some a =>
    obtain ⟨o, ho, hn⟩ := hb a rfl
    obtain ⟨F', h1, h2, h3, h4, h5⟩ := x.lockAt ho hn
    exact ⟨F', h1, fun q e => (h2 q e).imp id (fun h => by rw [h]), (fun a' e => by cases e; exact h3), h4, h5⟩

theorem lock_none {σ : Store} {b : Option Adr} {q : Adr} (h : σ q = none) : lock σ b q = none := by
  cases b with
  | none => exact h
  | some a =>
    cases e : σ a with
    | none => show (match σ a with | some o => upd σ a (.ro o.rd) | none => σ) q = none; rw [e]; exact h
    | some o => rw [lock_ne (by rintro rfl; rw [h] at e; cases e)]; exact h

theorem Rep.lock (x : Rep w base s₀ env c F P m σ s) {b : Option Adr} (hb : ∀ a, b = some a → ∃ o, σ a = some o ∧ isNode o = false) :
    ∃ F', (∀ q z, F q = some z → F' q = some z) ∧ (∀ q, F q = none → F' q = none ∨ b = some q) ∧ (∀ a, b = some a → ∃ y, F' a = some y ∧ y.cls ≠ .none) ∧ Rep w base s₀ env c F' P m (Mine.lock σ b) s ∧
      ∀ m' τ s', Rep w base s₀ env c F' P m' τ s' → Locked σ τ b → Rep w base s₀ env c F P m' (unlock σ τ b) s' := by
  obtain ⟨F', h1, h2, h3, h4, h5⟩ := x.ext.lock hb
  have keep : ∀ q, F q = none → σ q = none → F' q = none := fun q hF hσ => by
    rcases h2 q hF with h | h
    · exact h
    · obtain ⟨o, ho, _⟩ := hb q h; rw [hσ] at ho; cases ho
  have back : ∀ q, F' q = none → F q = none := fun q e => by
    cases h : F q with
    | none => rfl
    | some z => rw [h1 q z h] at e; cases e
  have un : ∀ τ q, F' q = none → τ q = none → unlock σ τ b q = none := fun τ q hF hτ => by
    cases b with
    | none => exact hτ
    | some a =>
      obtain ⟨y, hy, _⟩ := h3 a rfl
      have : q ≠ a := by rintro rfl; rw [hF] at hy; cases hy
      simp only [unlock]; rw [if_neg this]; exact hτ
  refine ⟨F', h1, h2, h3, ⟨h4, x.len, x.ns, ⟨keep _ x.apart.1 x.apart.2, lock_none x.apart.2⟩, x.lhi, fun z hz => ?_, fun z i v hz hi hm => ?_, fun z i hz hi => ?_⟩, fun m' τ s' x' hL => ⟨h5 τ s' x'.ext hL, x'.len, x'.ns, ⟨x.apart.1, un τ _ x'.apart.1 x'.apart.2⟩, x.lhi, fun z hz => ?_, fun z i v hz hi hm => ?_, x.fin⟩⟩
  · obtain ⟨a, o, g1, g2, g3, g4, g5, g6⟩ := x.cel z hz
    exact ⟨a, o, g1, g2, keep _ g3 g4, lock_none g4, g5, g6⟩
  · obtain ⟨a, o, v', g1, g2, g3⟩ := x.fre z i v hz hi hm
    exact ⟨a, o, v', g1, h1 _ _ g2, g3⟩
  · obtain ⟨a, g1, g2⟩ := x.fin z i hz hi
    obtain ⟨o, ho⟩ := Option.isSome_iff_exists.mp g2
    exact ⟨a, g1, by rw [h1 _ _ ho]; rfl⟩
  · obtain ⟨a, o, g1, g2, g3, g4, g5, g6⟩ := x'.cel z hz
    exact ⟨a, o, g1, g2, back _ g3, un τ _ g3 g4, g5, g6⟩
  · obtain ⟨a, o, v', g1, g2, g3⟩ := x'.fre z i v hz hi hm
    obtain ⟨a', k1, k2⟩ := x.fin z i hz hi
    rw [g1] at k1; cases k1
    obtain ⟨o', ho'⟩ := Option.isSome_iff_exists.mp k2
    rw [h1 _ _ ho'] at g2; cases g2
    exact ⟨a, _, v', g1, ho', g3⟩

theorem items_lock {av : AV} {vs : List AV} {b : Option Adr} (h : itemsOf σ av = some (vs, b)) : ∀ a, b = some a → ∃ o, σ a = some o ∧ isNode o = false := by
  have key : ∀ a o, at? σ a = some o → isNode o = false → ∃ o, σ a = some o ∧ isNode o = false := fun a o e hn => by
    unfold at? at e
    cases h : σ a with
    | none => rw [h] at e; cases e
    | some z =>
      rw [h] at e; simp only [Option.map_some, Option.some.injEq] at e
      refine ⟨z, rfl, ?_⟩
      cases z <;> first | rfl | (subst e; cases hn; done)
  unfold itemsOf at h
  cases av <;> first | (cases h; done) | skip
  simp only at h
  split at h
  · rename_i e; cases h; intro a e'; cases e'; exact key _ _ e rfl
  · rename_i e; cases h; intro a e'; cases e'; exact key _ _ e rfl
  · cases h; exact fun _ e => nomatch e
  · rename_i e
    split at h
    · cases h; intro a e'; cases e'; exact key _ _ e rfl
    · cases h
  · split at h
    · rename_i e; cases h; intro a e'; cases e'; exact key _ _ e rfl
    · cases h
  · cases h
theorem pairs_lock {av : AV} {vs : List (Int × AV)} {b : Adr} (h : pairsOf σ av = some (vs, b)) : ∃ o, σ b = some o ∧ isNode o = false := by
  unfold pairsOf at h
  cases av <;> first | (cases h; done) | skip
  simp only at h
  split at h
  · split at h
    · rename_i e
      cases h
      unfold at? at e
      cases h : σ b with
      | none => rw [h] at e; cases e
      | some z =>
        rw [h] at e; simp only [Option.map_some, Option.some.injEq] at e
        refine ⟨z, rfl, ?_⟩
        cases z <;> first | rfl | (cases e; done)
    · cases h
  · cases h
end
end Mine
end
section
namespace Mine
open PySem PySem.W PyProof.Rows PySem.Calls
set_option maxRecDepth 100000

inductive FlR : Flw → Flow → Prop
  | next : FlR .next .next
  | brk : FlR .brk .brk
  | cont : FlR .cont .cont
  | ret {v : AV} {v' : Value} (r : v.R v') : FlR (.ret v) (.ret v')

inductive PoF (w : World) (base : Heap) (s₀ : Shared) (env : Env) (c : TC) (F : Addr → Option Obj) (P : Addr → Prop) (Q : Flw → Mem → Store → Prop) (f : Flow) (s' : Shared) : Prop
  | mk (fl : Flw) (m' : Mem) (σ' : Store) (r : FlR fl f) (x : Rep w base s₀ env c F P m' σ' s') (h : Q fl m' σ')
noncomputable def SndS (w : World) (base : Heap) (s₀ : Shared) (r : Nat) (C : Ctr) (env : Env) (c : TC) (t : Stmt) (p : PS) : Prop := ∀ F P A m σ s Q E, OkA base r F (some env.locals) A → Cm env c A → Rep w base s₀ env c F P m σ s → WS C p Q m σ →
  wpAny (model thePr w) A (exec t env) (PoF w base s₀ env c F P Q) E s
noncomputable def SndSs (w : World) (base : Heap) (s₀ : Shared) (r : Nat) (C : Ctr) (env : Env) (c : TC) (t : List Stmt) (p : PS) : Prop := ∀ F P A m σ s Q E, OkA base r F (some env.locals) A → Cm env c A → Rep w base s₀ env c F P m σ s → WS C p Q m σ →
  wpAny (model thePr w) A (execs t env) (PoF w base s₀ env c F P Q) E s

section
variable {w : World} {base : Heap} {s₀ : Shared} {mg mb : Str → Option Value} {r : Nat} {C : Ctr} {env : Env} {c : TC} {F : Addr → Option Obj} {P : Addr → Prop} {m : Mem} {σ σ' : Store} {s : Shared} {A : Around}

theorem SndS.go {t : Stmt} {p : PS} {Q : Flw → Mem → Store → Prop} {E : Value → Shared → Prop} {G : Flow → Shared → Prop} (h1 : SndS w base s₀ r C env c t p) (ok : OkA base r F (some env.locals) A) (ca : Cm env c A) (x : Rep w base s₀ env c F P m σ s) (h : WS C p Q m σ)
    (k : ∀ f s' fl m' σ', FlR fl f → Rep w base s₀ env c F P m' σ' s' → Q fl m' σ' → G f s') : wpAny (model thePr w) A (exec t env) G E s := wpAny_mono (h1 F P A m σ s Q E ok ca x h) (fun v s' h => by
      obtain ⟨av, m', σ', r, x, h⟩ := h
      exact k v s' av m' σ' r x h) fun _ _ e => e
theorem SndSs.go {t : List Stmt} {p : PS} {Q : Flw → Mem → Store → Prop} {E : Value → Shared → Prop} {G : Flow → Shared → Prop} (h1 : SndSs w base s₀ r C env c t p) (ok : OkA base r F (some env.locals) A) (ca : Cm env c A) (x : Rep w base s₀ env c F P m σ s) (h : WS C p Q m σ)
    (k : ∀ f s' fl m' σ', FlR fl f → Rep w base s₀ env c F P m' σ' s' → Q fl m' σ' → G f s') : wpAny (model thePr w) A (execs t env) G E s := wpAny_mono (h1 F P A m σ s Q E ok ca x h) (fun v s' h => by
      obtain ⟨av, m', σ', r, x, h⟩ := h
      exact k v s' av m' σ' r x h) fun _ _ e => e
theorem snds_nil : SndSs w base s₀ r C env c [] .skip := fun F P A m σ s Q E ok ca x h => wpAny_execs_nil ⟨.next, m, σ, .next, x, h⟩

theorem snds_cons {t : Stmt} {ts : List Stmt} {p q : PS} (h1 : SndS w base s₀ r C env c t p) (h2 : SndSs w base s₀ r C env c ts q) : SndSs w base s₀ r C env c (t :: ts) (.seq p q) := fun F P A m σ s Q E ok ca x h => by
  refine wpAny_execs_cons (h1.go ok ca x h fun f s₁ fl m₁ σ₁ rf x₁ h₁ => ?_)
  cases rf with
  | next => exact h2 F P A m₁ σ₁ s₁ _ E ok ca x₁ h₁
  | brk => exact ⟨.brk, m₁, σ₁, .brk, x₁, h₁⟩
  | cont => exact ⟨.cont, m₁, σ₁, .cont, x₁, h₁⟩
  | ret r => exact ⟨.ret _, m₁, σ₁, .ret r, x₁, h₁⟩

theorem snds_bad {t : Stmt} : SndS w base s₀ r C env c t .bad := fun F P A m σ s Q E ok ca x h => h.elim
theorem snds_pass {pos : Pos} : SndS w base s₀ r C env c (.Pass pos) .skip := fun F P A m σ s Q E ok ca x h => wpAny_Pass ⟨.next, m, σ, .next, x, h⟩
theorem snds_break {pos : Pos} : SndS w base s₀ r C env c (.Break pos) .brk := fun F P A m σ s Q E ok ca x h => wpAny_Break ⟨.brk, m, σ, .brk, x, h⟩
theorem snds_continue {pos : Pos} : SndS w base s₀ r C env c (.Continue pos) .cont := fun F P A m σ s Q E ok ca x h => wpAny_Continue ⟨.cont, m, σ, .cont, x, h⟩

theorem swaps_noComp {e : Expr} {t : Option Expr} {n : Nat} (h : isComp e = false) : swapsWith e t n env = pure false := by
  cases e <;> first | rfl | (cases h; done)
theorem swaps_noName {e t : Expr} {n : Nat} (h : ∀ x p, t ≠ .Name x p) : swapsWith e (some t) n env = pure false := by
  cases e <;> first | rfl | (cases t <;> first | rfl | exact absurd rfl (h _ _))

theorem snds_expr (oke : EnvOk env c) {e : Expr} {p : PE} {pos : Pos} (hc : isComp e = false) (h1 : SndE w base s₀ r C env c e p) : SndS w base s₀ r C env c (.Expr e pos) (.expr p) := fun F P A m σ s Q E ok ca x h => by
  refine wpAny_Expr_any (wpAny_mono (h1 F P A m σ s _ E ok ca x h) (fun v s₁ h₁ => ?_) fun _ _ e => e) ?_ (swaps_noComp hc)
  · obtain ⟨av, m₁, σ₁, rv, x₁, h₁⟩ := h₁
    exact ⟨.next, m₁, σ₁, .next, x₁, h₁⟩
  · unfold interactive; rw [oke.kind]; rfl

theorem snds_ret0 {pos : Pos} : SndS w base s₀ r C env c (.Return none pos) (.ret .none) := fun F P A m σ s Q E ok ca x h => by
  show wpAny _ A (do standAt pos; pure (Flow.ret .none)) _ E s
  exact wpAny_bind (wpAny_standAt (wpAny_pure ⟨.ret .none, m, σ, .ret rfl, x, h⟩))
theorem snds_ret {e : Expr} {p : PE} {pos : Pos} (h1 : SndE w base s₀ r C env c e p) : SndS w base s₀ r C env c (.Return (some e) pos) (.ret p) := fun F P A m σ s Q E ok ca x h => by
  show wpAny _ A (do standAt pos; let v ← eval e env; pure (Flow.ret v)) _ E s
  refine wpAny_bind (wpAny_standAt (wpAny_bind (h1.go ok ca x h fun v s₁ av m₁ σ₁ rv x₁ h₁ => ?_)))
  exact wpAny_pure ⟨.ret av, m₁, σ₁, .ret rv, x₁, h₁⟩

theorem snds_assign (oke : EnvOk env c) {y : Str} {i : Nat} {e : Expr} {p : PE} {pos npos : Pos} (hv : c.var y = some i) (h1 : SndE w base s₀ r C env c e p) (hs : swapsWith e (some (.Name y npos)) pos.line env = pure false) :
    SndS w base s₀ r C env c (.Assign [.Name y npos] e pos) (.assign i p) := fun F P A m σ s Q E ok ca x h => by
  refine wpAny_Assign_Name (wpAny_mono (h1 F P A m σ s _ E ok ca x h) (fun v s₁ h₁ => ?_) fun _ _ e => e) hs
  obtain ⟨av, m₁, σ₁, rv, x₁, h₁⟩ := h₁
  exact store_var x₁ oke hv rv fun s' x' => ⟨.next, _, σ₁, .next, x', h₁.2⟩

theorem eachC {t : Expr} {ts : List Expr} (h : isStar t = false) : assignEach (t :: ts) env = (false, assign t env) :: assignEach ts env := by
  cases t <;> first | rfl | (cases h; done)
theorem each1 {t : Expr} (h : isStar t = false) : assignEach [t] env = [(false, assign t env)] := eachC h
theorem each2' {t u : Expr} (h : isStar t = false) (h' : isStar u = false) : assignEach [t, u] env = [(false, assign t env), (false, assign u env)] := by
  rw [eachC h, each1 h']

theorem snds_setItem {o i e : Expr} {po pi pe : PE} {pos spos : Pos} (h1 : SndE w base s₀ r C env c e pe) (h2 : SndE w base s₀ r C env c o po) (h3 : SndE w base s₀ r C env c i pi) :
    SndS w base s₀ r C env c (.Assign [.Subscript o i spos] e pos) (.setItem po pi pe) := fun F P A m σ s Q E ok ca x h => by
  refine wpAny_Assign_stores (wpAny_mono (h1 F P A m σ s _ E ok ca x h) (fun v s₁ h₁ => ?_) fun _ _ e => e) (show swapsWith e (some (.Subscript o i spos)) pos.line env = pure false from swaps_noName (fun _ _ e => by cases e)) rfl
  obtain ⟨av, m₁, σ₁, rv, x₁, h₁⟩ := h₁
  rw [each1 rfl]
  refine kas_sub (h2.go ok ca x₁ h₁ fun u s₂ bv m₂ σ₂ ru x₂ h₂ => ?_)
  refine h3.go ok ca x₂ h₂ fun z s₃ cv m₃ σ₃ rz x₃ h₃ => ?_
  refine goU (setItem_ok x₃ ru rz rv h₃) fun _ s₄ σ₄ x₄ h₄ => ?_
  exact ⟨.next, m₃, σ₄, .next, x₄, h₄⟩

theorem snds_setItemVar (oke : EnvOk env c) {o i e : Expr} {po pi pe : PE} {y : Str} {j : Nat} {pos spos npos : Pos} (hv : c.var y = some j) (h1 : SndE w base s₀ r C env c e pe) (h2 : SndE w base s₀ r C env c o po) (h3 : SndE w base s₀ r C env c i pi) :
    SndS w base s₀ r C env c (.Assign [.Subscript o i spos, .Name y npos] e pos) (.setItemVar po pi j pe) := fun F P A m σ s Q E ok ca x h => by
  refine wpAny_Assign_two (wpAny_mono (h1 F P A m σ s _ E ok ca x h) (fun v s₁ h₁ => ?_) fun _ _ e => e) rfl rfl
  obtain ⟨av, m₁, σ₁, rv, x₁, h₁⟩ := h₁
  refine kas_sub (h2.go ok ca x₁ h₁ fun u s₂ bv m₂ σ₂ ru x₂ h₂ => ?_)
  refine h3.go ok ca x₂ h₂ fun z s₃ cv m₃ σ₃ rz x₃ h₃ => ?_
  refine goU (setItem_ok x₃ ru rz rv h₃) fun _ s₄ σ₄ x₄ h₄ => ?_
  exact wpAny_assign_Name (store_var x₄ oke hv rv fun s' x' => ⟨.next, _, σ₄, .next, x', h₄.2⟩)

theorem snds_setAttr (B : Bs w base mg mb) {o e : Expr} {name : Str} {f : Fld} {po pe : PE} {pos apos : Pos} (hf : (name, f) ∈ flds) (h1 : SndE w base s₀ r C env c e pe) (h2 : SndE w base s₀ r C env c o po) :
    SndS w base s₀ r C env c (.Assign [.Attribute o name apos] e pos) (.setAttr po f pe) := fun F P A m σ s Q E ok ca x h => by
  refine wpAny_Assign_stores (wpAny_mono (h1 F P A m σ s _ E ok ca x h) (fun v s₁ h₁ => ?_) fun _ _ e => e) (show swapsWith e (some (.Attribute o name apos)) pos.line env = pure false from swaps_noName (fun _ _ e => by cases e)) rfl
  obtain ⟨av, m₁, σ₁, rv, x₁, h₁⟩ := h₁
  rw [each1 rfl]
  refine kas_attr (h2.go ok ca x₁ h₁ fun u s₂ bv m₂ σ₂ ru x₂ h₂ => ?_)
  refine goU (setAttr_ok B x₂ hf ru rv h₂) fun _ s₄ σ₄ x₄ h₄ => ?_
  exact ⟨.next, m₂, σ₄, .next, x₄, h₄⟩

theorem snds_augSub {o i e : Expr} {op : Operator} {bo : BOp} {po pi pe : PE} {pos spos : Pos} (hsl : isSlice i = false) (ho : bop op = some bo) (hbo : bo = .add ∨ bo = .sub) (h1 : SndE w base s₀ r C env c e pe) (h2 : SndE w base s₀ r C env c o po) (h3 : SndE w base s₀ r C env c i pi) :
    SndS w base s₀ r C env c (.AugAssign (.Subscript o i spos) op e pos) (.augSub po pi bo pe) := fun F P A m σ s Q E ok ca x h => by
  refine wpAny_AugAssign_Subscript_any (wpAny_mono (h2 F P A m σ s _ E ok ca x h) (fun u s₂ h₂ => ?_) fun _ _ e => e) (by intro ov iv new; cases i <;> first | rfl | (cases hsl; done))
  obtain ⟨bv, m₂, σ₂, ru, x₂, h₂⟩ := h₂
  refine h3.go ok ca x₂ h₂ fun z s₃ cv m₃ σ₃ rz x₃ h₃ => ?_
  refine goV (getItem_ok x₃ ru rz h₃) fun old s₄ ov ro x₄ h₄ => ?_
  refine h1.go ok ca x₄ h₄ fun v s₅ av m₅ σ₅ rv x₅ h₅ => ?_
  obtain ⟨⟨n, rfl⟩, ⟨k, rfl⟩, h₅⟩ := h₅
  refine goA (iop_ok x₅ ho ro rv h₅ hbo) fun v s₆ dv σ₆ rd x₆ h₆ => ?_
  refine goU (setItem_ok x₆ ru rz rd h₆) fun _ s₇ σ₇ x₇ h₇ => ?_
  exact ⟨.next, m₅, σ₇, .next, x₇, h₇⟩

theorem snds_augAttr (B : Bs w base mg mb) {o e : Expr} {name : Str} {f : Fld} {op : Operator} {bo : BOp} {po pe : PE} {pos apos : Pos} (hf : (name, f) ∈ flds) (hnx : f ≠ .next) (ho : bop op = some bo) (hbo : bo = .add ∨ bo = .sub) (h1 : SndE w base s₀ r C env c e pe) (h2 : SndE w base s₀ r C env c o po) :
    SndS w base s₀ r C env c (.AugAssign (.Attribute o name apos) op e pos) (.augAttr po f bo pe) := fun F P A m σ s Q E ok ca x h => by
  show wpAny _ A (do
    standAt pos
    let ov ← eval o env
    let new ← holding [ov] do
      standAt apos.atName
      let old ← getAttr ov name true
      let v ← holding [old] (eval e env)
      standAt pos
      operate [old, v] (inplaceOp op old v)
    standAt apos.atName
    holding [new, ov] (setAttr ov name new)
    release [new, ov] []
    pure Flow.next) _ E s
  refine wpAny_bind (wpAny_standAt (wpAny_bind (h2.go ok ca x h fun u s₂ bv m₂ σ₂ ru x₂ h₂ => ?_)))
  refine wpAny_bind (wpAny_holding (wpAny_bind (wpAny_standAt (wpAny_bind (goA (attr_ok B x₂ hf hnx ru h₂) fun old s₄ ov σ₄ ro x₄ h₄ => ?_)))))
  refine wpAny_bind (wpAny_holding (h1.go ok ca x₄ h₄ fun v s₅ av m₅ σ₅ rv x₅ h₅ => ?_))
  obtain ⟨⟨n, rfl⟩, ⟨k, rfl⟩, h₅⟩ := h₅
  refine wpAny_bind (wpAny_standAt (wpAny_operating (goA (iop_ok x₅ ho ro rv h₅ hbo) fun v s₆ dv σ₆ rd x₆ h₆ => ?_)))
  refine wpAny_bind (wpAny_standAt (wpAny_bind (wpAny_holding (goU (setAttr_ok B x₆ hf ru rd h₆) fun _ s₇ σ₇ x₇ h₇ => ?_))))
  exact wpAny_bind (wpAny_releaseD (wpAny_pure ⟨.next, m₅, σ₇, .next, x₇, h₇⟩))

theorem snds_delSub {o i : Expr} {po pi : PE} {pos spos : Pos} (h2 : SndE w base s₀ r C env c o po) (h3 : SndE w base s₀ r C env c i pi) :
    SndS w base s₀ r C env c (.Delete [.Subscript o i spos] pos) (.delSub po pi) := fun F P A m σ s Q E ok ca x h => by
  refine wpAny_Delete (wpAny_deleteEach_cons ?_)
  show wpAny _ A (do
    let ov ← eval o env
    let iv ← holding [ov] (eval i env)
    standAt spos
    holding [ov, iv] (delItem ov iv)
    release [ov, iv] []) _ E s
  refine wpAny_bind (h2.go ok ca x h fun u s₂ bv m₂ σ₂ ru x₂ h₂ => ?_)
  refine wpAny_bind (wpAny_holding (h3.go ok ca x₂ h₂ fun z s₃ cv m₃ σ₃ rz x₃ h₃ => ?_))
  refine wpAny_bind (wpAny_standAt (wpAny_bind (wpAny_holding (goU (delItem_ok x₃ ru rz h₃) fun _ s₄ σ₄ x₄ h₄ => ?_))))
  exact wpAny_releaseD (wpAny_deleteEach_nil ⟨.next, m₃, σ₄, .next, x₄, h₄⟩)

theorem snds_assign3 (oke : EnvOk env c) {y₁ y₂ y₃ : Str} {i j k : Nat} {e : Expr} {p : PE} {pos tpos p₁ p₂ p₃ : Pos} {n : Nat} (hcalm : c.calm = true) (ht : isTup e = false) (hc : isComp e = false)
    (hv₁ : c.var y₁ = some i) (hv₂ : c.var y₂ = some j) (hv₃ : c.var y₃ = some k) (h1 : SndE w base s₀ r C env c e p) :
    SndS w base s₀ r C env c (.Assign [.Tuple [.Name y₁ p₁, .Name y₂ p₂, .Name y₃ p₃] n tpos] e pos) (.assign3 i j k p) := fun F P A m σ s Q E ok ca x h => by
  refine wpAny_Assign_stores (wpAny_mono (h1 F P A m σ s _ E ok ca x h) (fun v s₁ h₁ => ?_) fun _ _ e => e) (show swapsWith e (some (.Tuple [.Name y₁ p₁, .Name y₂ p₂, .Name y₃ p₃] n tpos)) pos.line env = pure false from swaps_noComp hc) (by cases e <;> first | rfl | (cases ht; done))
  obtain ⟨av, m₁, σ₁, rv, x₁, a, u, v, z, rfl, ha, l1, l2, l3, h₁⟩ := h₁
  cases rv
  obtain ⟨items, nn, e1, r1⟩ := x₁.ext.tuple ha
  have hlen : items.size = 3 := by have := r1.length; simp at this; omega
  rw [each1 rfl]
  refine wpAny_assign_Tuple (x1 := n) (ca.calm hcalm) ⟨_, e1, rfl, _, rfl⟩ hlen.symm rfl fun h' he => ?_
  have x₂ := x₁.grow (h' := h') (tk := s₁.toks) fun b o e => he b o (Nat.ne_of_lt (Heap.lt_size e)) e
  generalize items.toList = l at r1
  cases r1 with
  | cons ru r1 => cases r1 with
    | cons rv r1 => cases r1 with
      | cons rz r1 => cases r1 with
        | nil =>
          refine wpAny_assignInOrder_more (wpAny_assign_Name (store_var x₂ oke hv₁ ru fun s₃ x₃ => wpAny_assignInOrder_more (wpAny_assign_Name (store_var x₃ oke hv₂ rv fun s₄ x₄ => wpAny_assignInOrder_more (wpAny_assign_Name (store_var x₄ oke hv₃ rz fun s₅ x₅ => ?_))))))
          exact wpAny_assignInOrder_none ⟨.next, _, σ₁, .next, x₅, h₁⟩
end
end Mine
end
section
namespace Mine
open PySem PySem.W PyProof.Rows PySem.Calls
set_option maxRecDepth 100000

section
variable {w : World} {base : Heap} {s₀ : Shared} {mg mb : Str → Option Value} {r : Nat} {C : Ctr} {env : Env} {c : TC} {F : Addr → Option Obj} {P : Addr → Prop} {m : Mem} {σ σ' : Store} {s : Shared} {A : Around}

theorem snds_if {t : Expr} {a b : List Stmt} {pt : PT} {p q : PS} {pos : Pos} (h0 : SndT w base s₀ r C env c t pt) (h1 : SndSs w base s₀ r C env c a p) (h2 : SndSs w base s₀ r C env c b q) :
    SndS w base s₀ r C env c (.If t a b pos) (.ite pt p q) := fun F P A m σ s Q E ok ca x h => by
  refine wpAny_If (h0.go ok ca x h fun b s₁ m₁ σ₁ x₁ h₁ => ?_)
  cases b with
  | true => rw [if_pos rfl]; exact h1 F P A m₁ σ₁ s₁ _ E ok ca x₁ h₁
  | false => rw [if_neg (by decide)]; exact h2 F P A m₁ σ₁ s₁ _ E ok ca x₁ h₁

noncomputable def LoopC (I : Nat → Mem → Store → Prop) (Q : Post) (n : Nat) (f : Flw) (m : Mem) (σ : Store) : Prop := match f with
  | .next | .cont => ∃ k, k < n ∧ Fg σ (I k m)
  | .brk => Q .next m σ
  | .ret v => Q (.ret v) m σ
inductive LoopS (w : World) (base : Heap) (s₀ : Shared) (env : Env) (c : TC) (F : Addr → Option Obj) (P : Addr → Prop) (I : Nat → Mem → Store → Prop) (k : Nat) (s : Shared) : Prop
  | mk (m : Mem) (σ : Store) (h : I k m σ) (x : Rep w base s₀ env c F P m σ s)
theorem LoopS.of {I : Nat → Mem → Store → Prop} {n : Nat} (x : Rep w base s₀ env c F P m σ s) (h : ∃ k, k < n ∧ Fg σ (I k m)) : ∃ k, k < n ∧ LoopS w base s₀ env c F P I k s := by
  obtain ⟨k, hk, τ, hs, h⟩ := h
  exact ⟨k, hk, m, τ, h, x.sub hs⟩
theorem snds_while {t : Expr} {a b : List Stmt} {pt : PT} {p q : PS} {pos : Pos} (h0 : SndT w base s₀ r C env c t pt) (h1 : SndSs w base s₀ r C env c a p) (h2 : SndSs w base s₀ r C env c b q) :
    SndS w base s₀ r C env c (.While t a b pos) (.loop pt p q) := fun F P A m σ s Q E ok ca x h => by
  obtain ⟨I, n, hI, hstep⟩ := h
  refine wpAny_While (codeAny_whileLoop (LoopS w base s₀ env c F P I) (fun k s' hk => ?_) n ⟨m, σ, hI, x⟩)
  obtain ⟨m', σ', hI', x'⟩ := hk
  refine h0.go ok ca x' (hstep k m' σ' (LoopC I Q k) hI' ⟨fun k _ _ hk h => ⟨k, hk, h⟩, fun k _ _ hk h => ⟨k, hk, h⟩, fun _ _ h => h, fun _ _ _ h => h⟩) fun b s₁ m₁ σ₁ x₁ h₁ => ?_
  cases b with
  | true =>
    rw [if_pos rfl]
    refine h1.go ok ca x₁ h₁ fun f s₂ fl m₂ σ₂ rf x₂ h₂ => ?_
    cases rf with
    | next => exact LoopS.of x₂ h₂
    | brk => exact ⟨.next, m₂, σ₂, .next, x₂, h₂⟩
    | cont => exact LoopS.of x₂ h₂
    | ret r => exact ⟨.ret _, m₂, σ₂, .ret r, x₂, h₂⟩
  | false =>
    rw [if_neg (by decide)]
    exact wpAny_mono (h2 F P A m₁ σ₁ s₁ _ _ ok ca x₁ h₁) (fun f s₂ h₂ => h₂) fun _ _ e => e

theorem folded_noSet {e : Expr} (h : noSet e = true) (v : Value) : foldedSetIterable e env v = pure v := by
  cases e <;> first | rfl | (cases h; done)

theorem It.keep {I : Addr} {b : Option Addr} {vs : List AV} {fp : List Addr} {Pv : Nat → Value → Prop} {St : Nat → Heap → Prop} (W : It w I b vs fp Pv St) {i : Nat} {h h' : Heap} (hh : A.handled = none) (hs : St i h) (hI : ∀ o, h.get? I = some o → h'.get? I = some o) (hb : ∀ a, b = some a → ∀ o, h.get? a = some o → h'.get? a = some o) : St i h' :=
  (W.walks A hh).frame i h h' hs fun q hq o e => by
    rcases W.fp q hq with rfl | h
    · exact hI o e
    · exact hb q h.symm o e

noncomputable def EachC (I : Nat → Mem → Store → Prop) (Q : Post) (c : Option Adr) (σ : Store) (i : Nat) (f : Flw) (m : Mem) (σ₁ : Store) : Prop := match f with
  | .next | .cont => Fg σ₁ (I (i + 1) m)
  | .brk => False
  | .ret r => Locked σ σ₁ c ∧ Q (.ret r) m (unlock σ σ₁ c)
inductive EachS (w : World) (base : Heap) (s₀ : Shared) (env : Env) (c : TC) (F : Addr → Option Obj) (P : Addr → Prop) (n : Nat) (Inv : Nat → Mem → Store → Prop) (I : Addr) (St : Nat → Heap → Prop) (k : Nat) (s : Shared) : Prop
  | mk (i : Nat) (m : Mem) (σ : Store) (h : Inv i m σ) (x : Rep w base s₀ env c F P m σ s) (hI : σ I = none) (hs : St i s.heap) (hi : i ≤ n) (hk : k = n - i)
theorem EachS.step {Inv : Nat → Mem → Store → Prop} {n : Nat} {I : Addr} {St : Nat → Heap → Prop} {i : Nat} (x : Rep w base s₀ env c F P m σ s) (hI : σ I = none) (hs : St (i + 1) s.heap) (hi : i < n) (h : Fg σ (Inv (i + 1) m)) : ∃ k, k < n - i ∧ EachS w base s₀ env c F P n Inv I St k s := by
  obtain ⟨τ, hs', h⟩ := h
  exact ⟨n - (i + 1), Nat.sub_succ_lt_self n i hi, i + 1, m, τ, h, x.sub hs', hs'.none hI, hs, hi, rfl⟩
theorem snds_each (oke : EnvOk env c) {y : Str} {j : Nat} {it : Expr} {b : List Stmt} {pi : PE} {pb : PS} {pos npos : Pos} (hset : noSet it = true) (hcalm : c.calm = true) (hv : c.var y = some j) (h1 : SndE w base s₀ r C env c it pi) (h2 : SndSs w base s₀ r C env c b pb) :
    SndS w base s₀ r C env c (.For (.Name y npos) it b [] pos) (.each j pi pb) := fun F P A m σ s Q E ok ca x h => by
  have hA := ca.calm hcalm
  refine wpAny_For (wpAny_mono (h1 F P A m σ s _ E ok ca x h) (fun v s₁ h₁ => ?_) fun _ _ e => e) (folded_noSet hset)
  obtain ⟨av, m₁, σ₁, rv, x₁, vs, bb, hit, hl, hj, Inv, hI0, hIL, hstep, hend⟩ := h₁
  refine iter_ok x₁ rv hit fun oI fp Pv St hfr W hst => ?_
  have hIn := get?_size s₁.heap
  generalize hII : s₁.heap.objs.size = I at W hst hIn
  have hIo : (s₁.heap.push oI).get? I = some oI := by rw [← hII]; exact Heap.get?_push_size _ hfr
  have hup : ∀ q o, s₁.heap.get? q = some o → (s₁.heap.push oI).get? q = some o := fun q o e => Heap.get?_push_of_some _ e
  have x₂ := x₁.grow (tk := s₁.toks) hup
  have hfI := x₁.ext.fresh hIn
  have hoff := x₁.off hIn
  obtain ⟨F', hF1, hF2, hF3, x₃, back⟩ := x₂.lock (items_lock hit)
  have hbI : ∀ a, bb = some a → a ≠ I := fun a e => by
    obtain ⟨o, ho, _⟩ := items_lock hit a e
    rintro rfl
    rw [hfI.1] at ho; cases ho
  have hF'I : F' I = none := by
    rcases hF2 I hfI.2 with h | h
    · exact h
    · exact absurd rfl (hbI I h)
  have ok' := ok.grow hF1
  refine codeAny_forLoop (EachS w base s₀ env c F' P vs.length Inv I St) (fun k s' hk => ?_) vs.length
    ⟨0, m₁, _, hI0, x₃, lock_none hfI.1, hst, Nat.zero_le _, rfl⟩ (fun v => rfl)
  obtain ⟨i, m', σ', hI, x', hσI, hSt, hi, rfl⟩ := hk
  obtain ⟨oi, fs, hoi, hfs, _⟩ := W.fld i _ hSt
  by_cases hlt : i < vs.length
  · refine (W.walks A hA).item i s' _ _ hlt hSt fun v h' tk hP hSt' hk => ?_
    obtain ⟨av', hav, rv'⟩ := W.val i v hP
    have x₄ := x'.touch (tk := tk) hoi hF'I hσI hoff (fun b o hb e => hk b o (by simpa using hb) e) (.inl ⟨fs, hfs⟩)
    obtain ⟨oi', fs', hoi', hfs', hci'⟩ := W.fld _ _ hSt'
    have x₅ := x₄.freeze (.of hoi') hF'I hσI hoff.1 hoff.2
    refine wpAny_assign_Name (store_var x₅ oke hv rv' fun s₆ x₆ => ?_)
    refine wpAny_mono (h2 _ _ A _ _ s₆ _ _ (ok'.frz hF'I) ca x₆ (hstep i av' m' σ' (EachC Inv Q bb σ₁ i) hav hI ⟨fun _ _ h => h, fun _ _ h => h, fun _ _ _ h h' => ⟨h, h'⟩⟩)) (fun f s₇ h₇ => ?_) fun _ _ e => e
    obtain ⟨fl, m₇, σ₇, rf, x₇, h₇⟩ := h₇
    obtain ⟨x₈, hoI, hσI', _⟩ := Rep.thaw x' x₇ hF'I
    have k1 : ∀ o, h'.get? I = some o → s₇.heap.get? I = some o := fun o e => by
      have : some o = some oi' := e.symm.trans hoi'
      cases this
      exact hoI.exact hci'
    have k2 : ∀ a, bb = some a → ∀ o, h'.get? a = some o → s₇.heap.get? a = some o := fun a ha o e => by
      obtain ⟨u, hu, hcu⟩ := hF3 a ha
      have e1 := (x₄.ext.still a u hu).exact hcu
      have e2 : some o = some u := e.symm.trans e1
      cases e2
      exact (x₈.ext.still a _ hu).exact hcu
    have hSt₇ : St (i + 1) s₇.heap := W.keep hA hSt' k1 k2
    cases rf with
    | next => exact EachS.step x₈ hσI' hSt₇ hlt h₇
    | brk => exact h₇.elim
    | cont => exact EachS.step x₈ hσI' hSt₇ hlt h₇
    | ret r => exact ⟨.ret _, m₇, _, .ret r, back _ _ _ x₈ h₇.1, h₇.2⟩
  · have hie : i = vs.length := by omega
    subst hie
    refine (W.walks A hA).done s' _ _ hSt fun h' tk hk => ?_
    have x₄ := x'.touch (tk := tk) hoi hF'I hσI hoff (fun b o hb e => hk b o (by simpa using hb) e) (.inl ⟨fs, hfs⟩)
    exact wpAny_execs_nil ⟨.next, m', _, .next, back _ _ _ x₄ (hIL _ _ _ hI).2, hend m' σ' hI⟩
end
end Mine
end
section
namespace Mine
open PySem PySem.W PyProof.Rows PySem.Calls
set_option maxRecDepth 100000

section
variable {w : World} {base : Heap} {s₀ : Shared} {mg mb : Str → Option Value} {r : Nat} {C : Ctr} {env : Env} {c : TC} {F : Addr → Option Obj} {P : Addr → Prop} {m : Mem} {σ σ' : Store} {s : Shared} {A : Around}

theorem Heap.DictAt.at'' {h h' : Heap} {a : Addr} {kvs : List (Int × Value)} {ep : Nat} (x : h.DictAt (intKind thePr w) a kvs ep) (e : ∀ o, h.get? a = some o → h'.get? a = some o) : h'.DictAt (intKind thePr w) a kvs ep := let ⟨o, es, ho, r⟩ := x; ⟨o, es, e _ ho, r⟩

noncomputable def Each2C (I : Nat → Mem → Store → Prop) (i : Nat) (f : Flw) (m : Mem) (σ₁ : Store) : Prop := match f with
  | .next => Fg σ₁ (I (i + 1) m)
  | _ => False
inductive HIter (I d : Addr) (n ep : Nat) (i : Nat) (h : Heap) : Prop
  | mk (ok ov : Value) (h : IsItemIter h I d i n ep ok ov)
theorem snds_each2 (oke : EnvOk env c) {y z : Str} {j l : Nat} {it : Expr} {b : List Stmt} {pi : PE} {pb : PS} {pos py pz tp : Pos} {kk : Nat} (hset : noSet it = true) (hcalm : c.calm = true) (hv : c.var y = some j) (hv' : c.var z = some l) (h1 : SndE w base s₀ r C env c it pi) (h2 : SndSs w base s₀ r C env c b pb) :
    SndS w base s₀ r C env c (.For (.Tuple [.Name y py, .Name z pz] kk tp) it b [] pos) (.each2 j l pi pb) := fun F P A m σ s Q E ok ca x h => by
  have hA := ca.calm hcalm
  refine wpAny_For (wpAny_mono (h1 F P A m σ s _ E ok ca x h) (fun v s₁ h₁ => ?_) fun _ _ e => e) (folded_noSet hset)
  obtain ⟨av, m₁, σ₁, rv, x₁, es, d, hit, hl, hj, hj', Inv, hI0, hIL, hstep, hend⟩ := h₁
  have hlk := pairs_lock hit
  obtain ⟨a, rfl, hea, hed⟩ : ∃ a, av = .ref a ∧ at? σ₁ a = some (.ditems d) ∧ at? σ₁ d = some (.dict es) := by
    unfold pairsOf at hit
    cases av <;> first | (cases hit; done) | skip
    rename_i a
    simp only at hit
    split at hit
    · rename_i e1
      split at hit
      · rename_i e2
        cases hit
        exact ⟨a, rfl, e1, e2⟩
      · cases hit
    · cases hit
  cases rv
  obtain ⟨yv, ev, hv1, hv2⟩ := x₁.ext.read hea
  obtain ⟨yd, e1, kvs, hd, pr⟩ := x₁.ext.read hed
  obtain ⟨ees, ep, g1, g2, g3, g4, g5⟩ := hd
  have hlen := pr.length
  refine wpAny_pyIter_items (knd := intKind thePr w) (kvs := kvs) (ep := ep) ⟨yv, ev, hv1, hv2⟩ ⟨yd, ees, e1, g1, g2, g3, g4, g5⟩ ?_
  have hIn := get?_size s₁.heap
  generalize hII : s₁.heap.objs.size = I at hIn
  generalize hoo : ({ cls := Value.type "dict_itemiterator", data := Data.fields #[Value.none, Value.bool false, Value.ref d, Value.int 0 0, Value.int (kvs.length : Int) 0, Value.int (ep : Int) 0, Value.none, Value.none] } : Obj) = oI
  have hIo : (s₁.heap.push oI).get? I = some oI := by rw [← hII, ← hoo]; exact Heap.get?_push_size _ rfl
  have hup : ∀ q o, s₁.heap.get? q = some o → (s₁.heap.push oI).get? q = some o := fun q o e => Heap.get?_push_of_some _ e
  have x₂ := x₁.grow (tk := s₁.toks) hup
  have hfI := x₁.ext.fresh hIn
  have hoff := x₁.off hIn
  obtain ⟨F', hF1, hF2, hF3, x₃, back⟩ := x₂.lock (b := some d) (fun a e => by cases e; exact hlk)
  have hdI : d ≠ I := by
    obtain ⟨o, ho, _⟩ := hlk
    rintro rfl
    rw [hfI.1] at ho; cases ho
  have hF'I : F' I = none := by
    rcases hF2 I hfI.2 with h | h
    · exact h
    · cases h; exact absurd rfl hdI
  obtain ⟨u, hu, hcu⟩ := hF3 d rfl
  have hu' : u = yd := by
    have := (x₃.ext.still d u hu).exact hcu
    have h' : some u = some yd := this.symm.trans (hup _ _ e1)
    cases h'; rfl
  subst hu'
  have ok' := ok.grow hF1
  have dat : ∀ {m' : Mem} {τ : Store} {s' : Shared} {F₁ : Addr → Option Obj} {P₁ : Addr → Prop}, Rep w base s₀ env c F₁ P₁ m' τ s' → F₁ d = some u → s'.heap.DictAt (intKind thePr w) d kvs ep := fun x' hF => ⟨u, ees, (x'.ext.still d u hF).exact hcu, g1, g2, g3, g4, g5⟩
  refine codeAny_forLoop_any (EachS w base s₀ env c F' P kvs.length Inv I (HIter I d kvs.length ep)) (fun k s' hk => ?_) kvs.length
    ⟨0, m₁, _, hI0, x₃, lock_none hfI.1, ⟨.none, .none, by subst hoo; exact hIo⟩, Nat.zero_le _, rfl⟩
  obtain ⟨i, m', σ', hI, x', hσI, ⟨okk, ov, hSt⟩, hi, rfl⟩ := hk
  by_cases hlt : i < kvs.length
  · obtain ⟨⟨k, v⟩, hkv⟩ : ∃ p, kvs[i]? = some p := ⟨kvs[i], by simp [hlt]⟩
    obtain ⟨av', hav, rv'⟩ := pr.at' hkv
    refine wpAny_pyNext_items_item hSt (dat x' hu) hkv fun key h₁ hkey heo ht₁ hz₁ hk₁ => ?_
    have x₄ := x'.touch (tk := s'.toks) hSt hF'I hσI hoff hk₁ (.inl ⟨_, rfl⟩)
    refine wpAny_letOwnedTupleGo_items heo fun h₂ he₂ hs₂ => ?_
    have x₅ := x₄.touch (h' := h₂) (tk := s'.toks) heo hF'I hσI hoff (fun b o hb e => (hs₂.2 b hb).trans e) (.inl ⟨_, rfl⟩)
    have x₆ := x₅.freeze (.of he₂) hF'I hσI hoff.1 hoff.2
    have ht₂ : h₂.IsTuple s'.heap.objs.size #[key, v] := by
      have hne : s'.heap.objs.size ≠ I := Nat.ne_of_gt (Heap.lt_size hSt)
      exact ⟨_, (hs₂.2 _ hne).trans ht₁, rfl, _, rfl⟩
    refine wpAny_assign_Tuple (x1 := kk) hA ht₂ rfl rfl fun h₃ hx₃ => ?_
    have x₇ := x₆.grow (h' := h₃) (tk := s'.toks) fun b o e => hx₃ b o (Nat.ne_of_lt (Heap.lt_size e)) e
    refine wpAny_assignInOrder_more (wpAny_assign_Name (store_var x₇ oke hv (int_is hkey) fun s₈ x₈ => wpAny_assignInOrder_more (wpAny_assign_Name (store_var x₈ oke hv' rv' fun s₉ x₉ => wpAny_assignInOrder_none ?_))))
    refine wpAny_mono (h2 _ _ A _ _ s₉ _ _ (ok'.frz hF'I) ca x₉ (hstep i k av' m' σ' (Each2C Inv i) hav hI fun _ _ h => h)) (fun f s₁₀ h₁₀ => ?_) fun _ _ e => e
    obtain ⟨fl, m₁₀, σ₁₀, rf, x₁₀, h₁₀⟩ := h₁₀
    obtain ⟨x₁₁, hoI, hσI', _⟩ := Rep.thaw x' x₁₀ hF'I
    cases rf with
    | next => exact EachS.step x₁₁ hσI' ⟨_, _, hoI.exact (by rintro ⟨⟩)⟩ hlt h₁₀
    | _ => exact h₁₀.elim
  · have hie : i = es.length := by omega
    subst hie
    refine wpAny_pyNext_items_end hA hSt (dat x' hu) (by simp [hlen]) fun h' hk => ?_
    have x₄ := x'.touch (tk := s'.toks) hSt hF'I hσI hoff (fun b o hb e => hk b o hb e) (.inl ⟨_, rfl⟩)
    exact wpAny_execs_nil ⟨.next, m', _, .next, back _ _ _ x₄ (hIL _ _ _ hI).2, hend m' σ' hI⟩
end
end Mine
end
section
namespace Mine
open PySem PySem.W PyProof.Rows PySem.Calls
set_option maxRecDepth 100000

section
variable {M : Model} {A : Around} {E : Value → Shared → Prop} {s : Shared} {env : Env}

noncomputable def takes (env : Env) : List (Str × NameKind) → List (Str × Addr) → List (Str × Addr)
  | [], acc => acc
  | (n, k) :: r, acc => if k == .free then (match env.cells.lookup n with | some a => takes env r ((n, a) :: acc) | none => takes env r acc) else takes env r acc

theorem wp_takes (f : Str × NameKind → List (Str × Addr) → Sem (ForInStep (List (Str × Addr))))
    (hf : ∀ name kind cells, f (name, kind) cells = if kind == .free then (do let a ← cellOf env name; pure (.yield ((name, a) :: cells))) else pure (.yield cells)) :
    ∀ (names : List (Str × NameKind)) (acc : List (Str × Addr)) (Q : List (Str × Addr) → Shared → Prop), (∀ p ∈ names, p.2 = .free → ∃ a, env.cells.lookup p.1 = some a) →
      Q (takes env names acc) s → wpAny M A (forIn names acc f) Q E s
  | [], acc, Q, _, h => by rw [List.forIn_nil]; exact wpAny_pure h
  | (name, kind) :: r, acc, Q, hc, h => by
    rw [List.forIn_cons, hf]
    unfold takes at h
    have hr : ∀ p ∈ r, p.2 = .free → ∃ a, env.cells.lookup p.1 = some a := fun p hp => hc p (List.mem_cons_of_mem _ hp)
    split at h
    · rename_i hk
      rw [if_pos hk]
      obtain ⟨a, ha⟩ := hc (name, kind) List.mem_cons_self (beq_iff_eq.mp hk)
      rw [ha] at h
      exact wpAny_bind (wpAny_bind (wpAny_cellOf ha (wpAny_pure (wp_takes f hf r _ Q hr h))))
    · rename_i hk
      rw [if_neg hk]
      exact wpAny_bind (wpAny_pure (wp_takes f hf r _ Q hr h))

theorem wp_closureFor {scope : Scope} {Q : List (Str × Addr) → Shared → Prop} (hc : ∀ p ∈ scope.names, p.2 = .free → ∃ a, env.cells.lookup p.1 = some a) (h : Q (takes env scope.names []) s) :
    wpAny M A (closureFor scope env) Q E s := by
  unfold closureFor
  refine wpAny_bind (wp_takes (env := env) _ (fun name kind cells => ?_) _ _ _ hc (wpAny_pure h))
  cases hk : kind == NameKind.free <;> simp [hk]

noncomputable def compEnd (M : Model) (A : Around) (E : Value → Shared → Prop) (use : Option (Value → Sem Unit)) (Q : Value → Shared → Prop) (acc : Value) (L : Addr) (r : Result) (s' : Shared) : Prop :=
  match r, use with
  | .ok _, none => ∃ m, s'.heap.Ns L m ∧ ∀ h' m', h'.Ns L m' → Heap.SameBut L s'.heap h' → Q acc { s' with heap := h' }
  | .ok _, some u => wpAny M A (u acc) (fun _ s'' => ∃ m, s''.heap.Ns L m ∧ ∀ h' m', h'.Ns L m' → Heap.SameBut L s''.heap h' → Q .none { s'' with heap := h' }) E s'
  | .error _, _ => False

theorem wp_comp {e : Expr} {scope : Scope} {pos : Pos} {newAcc first : Sem Value} {g : Comprehension} {gs : List Comprehension} {use : Option (Value → Sem Unit)} {Q : Value → Shared → Prop}
    (hcl : clausesOf e = g :: gs) (hs : ∀ x, foldedSetIterable g.iter env x = pure x)
    (hkind : scope.kind = .function) (hnames : ∀ x ∈ scope.names, x.2 = .local → scope.names.lookup x.1 = some .local)
    (h : wpAny M A first (fun x s₁ => wpAny M A (pyIter x) (fun it s₂ => wpAny M A newAcc (fun acc s₃ => wpAny M A (closureFor scope env) (fun cl s₃ =>
      wpAny M A (newFunctionEnv scope env.globals cl [] env.qual none .none (some env)) (fun cenv s₄ =>
        codeAny M A (.compStart e 0 it acc { cenv with scope := relabel scope env }) (compEnd M A E use Q acc cenv.locals) s₄) E s₃) E s₃) E s₂) E s₁) E s) :
    wpAny M A (comprehension e scope env pos newAcc false first use) Q E s := by
  unfold comprehension
  rw [hcl]
  refine wpAny_bind (wpAny_mono h (fun x s₁ h₁ => wpAny_bind (wpAny_standAt (wpAny_bind (wpAny_of_eq (hs x) (wpAny_bind (wpAny_holding (wpAny_mono h₁ (fun it s₂ h₂ =>
    wpAny_standIf (wpAny_bind (wpAny_mono h₂ (fun acc s₃ h₃ => wpAny_bind (wpAny_mono h₃ (fun cl s₃ h₃ => wpAny_bind (wpAny_mono h₃ (fun cenv s₄ h₄ => ?_) fun _ _ h' => h')) fun _ _ h' => h')) fun _ _ h' => h')))
      fun _ _ h' => h'))))))) fun _ _ h' => h')
  dsimp only
  have hv : ∀ x ∈ (scope.names.filter fun x => (x.2 == .local || x.2 == .cell) && x.1 != (".0" : Str)).reverse, x.2 = .local →
      Env.kindOf { cenv with scope := relabel scope env } x.1 = some .local := fun x hx hl => lookup_relabel_local (hnames x (List.mem_filter.mp (List.mem_reverse.mp hx)).1 hl)
  have hv' : ∀ x ∈ (scope.names.filter fun x => (x.2 == .local || x.2 == .cell) && x.1 != (".0" : Str)).reverse.drop 1 ++ (scope.names.filter fun x => (x.2 == .local || x.2 == .cell) && x.1 != (".0" : Str)).reverse.take 1,
      x.2 = .local → Env.kindOf { cenv with scope := relabel scope env } x.1 = some .local := fun x hx hl => by
    rcases List.mem_append.mp hx with h1 | h1
    · exact hv x (List.mem_of_mem_drop h1) hl
    · exact hv x (List.mem_of_mem_take h1) hl
  refine wpAny_holding (wpAny_bind (wpAny_attempt (wpAny_holding (wpAny_run (codeAny_mono h₄ fun r s' hr => ?_)))))
  cases r with
  | ok f =>
    cases use with
    | none =>
      obtain ⟨m, hn, hr⟩ := hr
      exact wpAny_bind (wpAny_holding (wpAny_comp_letGo (cenv := { cenv with scope := relabel scope env }) hkind _ s' m hv hn fun h' m' hn' hs' => wpAny_pure (hr h' m' hn' hs')))
    | some u =>
      refine wpAny_bind (wpAny_rule (wpAny_bind (wpAny_holding (wpAny_mono hr (fun _ s'' hr' => ?_) fun _ _ h' => h'))))
      obtain ⟨m, hn, hr'⟩ := hr'
      exact wpAny_bind (wpAny_comp_letGo (cenv := { cenv with scope := relabel scope env }) hkind _ s'' m hv' hn fun h' m' hn' hs' => wpAny_pure (hr' h' m' hn' hs'))
  | error x => cases use <;> exact hr.elim

theorem cellsFrom_eq : ∀ (names : List (Str × NameKind)) (n : Nat) (acc : List (Str × Addr)), cellsFrom n names acc = cellsFrom n names [] ++ acc
  | [], _, _ => rfl
  | (x, k) :: r, n, acc => by
    unfold cellsFrom
    split
    · rw [cellsFrom_eq r (n + 1) ((x, n) :: acc), cellsFrom_eq r (n + 1) [(x, n)], List.append_assoc]; rfl
    · exact cellsFrom_eq r n acc
theorem cellsFrom_mem : ∀ (names : List (Str × NameKind)) (n : Nat) {z : Str} {a : Addr}, (z, a) ∈ cellsFrom n names [] → (z, .cell) ∈ names
  | [], _, z, a, h => nomatch h
  | (x, k) :: r, n, z, a, h => by
    unfold cellsFrom at h
    split at h
    · rename_i hk
      rw [cellsFrom_eq] at h
      rcases List.mem_append.mp h with h | h
      · exact List.mem_cons_of_mem _ (cellsFrom_mem r _ h)
      · obtain ⟨rfl, rfl⟩ := Prod.mk.inj (List.mem_singleton.mp h)
        rw [beq_iff_eq.mp hk]; exact List.mem_cons_self
    · exact List.mem_cons_of_mem _ (cellsFrom_mem r _ h)
theorem lookup_some_of_mem {α : Type} : ∀ {l : List (Str × α)} {z : Str} {a : α}, (z, a) ∈ l → ∃ b, l.lookup z = some b
  | (x, b) :: r, z, a, h => by
    rw [List.lookup_cons]
    cases e : z == x with
    | true => exact ⟨b, rfl⟩
    | false =>
      rcases List.mem_cons.mp h with h | h
      · obtain ⟨rfl, rfl⟩ := Prod.mk.inj h; simp at e
      · exact lookup_some_of_mem h
theorem cellsFrom_has : ∀ (names : List (Str × NameKind)) (n : Nat) {z : Str}, (z, .cell) ∈ names → ∃ a, (cellsFrom n names []).lookup z = some a
  | (x, k) :: r, n, z, h => by
    unfold cellsFrom
    split
    · rw [cellsFrom_eq]
      rcases List.mem_cons.mp h with h | h
      · obtain ⟨rfl, rfl⟩ := Prod.mk.inj h
        exact lookup_some_of_mem (a := n) (by simp)
      · obtain ⟨a, ha⟩ := cellsFrom_has r (n + 1) h
        exact lookup_some_of_mem (a := a) (List.mem_append_left _ (mem_of_lookup ha))
    · rename_i hk
      rcases List.mem_cons.mp h with h | h
      · obtain ⟨rfl, rfl⟩ := Prod.mk.inj h; simp at hk
      · exact cellsFrom_has r n h
theorem lookup_nodup {α : Type} : ∀ {l : List (Str × α)} {z : Str} {a : α}, (l.map (·.1)).Nodup → (z, a) ∈ l → l.lookup z = some a
  | (x, b) :: r, z, a, hn, h => by
    rw [List.map_cons, List.nodup_cons] at hn
    rw [List.lookup_cons]
    rcases List.mem_cons.mp h with h | h
    · obtain ⟨rfl, rfl⟩ := Prod.mk.inj h; simp
    · have : z ≠ x := fun e => hn.1 (e ▸ List.mem_map.mpr ⟨(z, a), h, rfl⟩)
      have e : (z == x) = false := by simpa using this
      rw [e]; exact lookup_nodup hn.2 h
theorem lookup_appendL {α : Type} : ∀ {l r : List (Str × α)} {z : Str} {a : α}, l.lookup z = some a → (l ++ r).lookup z = some a
  | (x, b) :: l, r, z, a, h => by
    rw [List.lookup_cons] at h
    rw [List.cons_append, List.lookup_cons]
    cases e : z == x with
    | true => rw [e] at h; exact h
    | false => rw [e] at h; exact lookup_appendL h
theorem lookup_appendR {α : Type} : ∀ {l r : List (Str × α)} {z : Str}, (∀ a, (z, a) ∉ l) → (l ++ r).lookup z = r.lookup z
  | [], _, _, _ => rfl
  | (x, b) :: l, r, z, h => by
    rw [List.cons_append, List.lookup_cons]
    cases e : z == x with
    | true => exact absurd (by rw [beq_iff_eq.mp e]; exact List.mem_cons_self) (h b)
    | false => exact lookup_appendR fun a ha => h a (List.mem_cons_of_mem _ ha)

theorem takes_mem : ∀ (names : List (Str × NameKind)) (acc : List (Str × Addr)) {z : Str} {a : Addr}, (z, a) ∈ takes env names acc → (z, a) ∈ acc ∨ env.cells.lookup z = some a
  | [], acc, z, a, h => .inl h
  | (x, k) :: r, acc, z, a, h => by
    unfold takes at h
    split at h
    · split at h
      · rename_i b hb
        rcases takes_mem r _ h with h | h
        · rcases List.mem_cons.mp h with h | h
          · obtain ⟨rfl, rfl⟩ := Prod.mk.inj h; exact .inr hb
          · exact .inl h
        · exact .inr h
      · exact takes_mem r _ h
    · exact takes_mem r _ h
theorem takes_sub : ∀ (names : List (Str × NameKind)) (acc : List (Str × Addr)) {p : Str × Addr}, p ∈ acc → p ∈ takes env names acc
  | [], acc, p, h => h
  | (x, k) :: r, acc, p, h => by
    unfold takes
    split
    · split
      · exact takes_sub r _ (List.mem_cons_of_mem _ h)
      · exact takes_sub r _ h
    · exact takes_sub r _ h
theorem takes_has : ∀ (names : List (Str × NameKind)) (acc : List (Str × Addr)) {z : Str} {a : Addr}, (z, .free) ∈ names → env.cells.lookup z = some a → (z, a) ∈ takes env names acc
  | (x, k) :: r, acc, z, a, h, e => by
    unfold takes
    rcases List.mem_cons.mp h with h | h
    · obtain ⟨rfl, rfl⟩ := Prod.mk.inj h
      rw [if_pos (by simp), e]
      exact takes_sub r _ List.mem_cons_self
    · split
      · split
        · exact takes_has r _ h e
        · exact takes_has r _ h e
      · exact takes_has r _ h e
theorem takes_lookup {names : List (Str × NameKind)} {z : Str} {a : Addr} (h : (z, .free) ∈ names) (e : env.cells.lookup z = some a) : (takes env names []).lookup z = some a := by
  obtain ⟨b, hb⟩ := lookup_some_of_mem (takes_has names [] h e)
  rcases takes_mem names [] (mem_of_lookup hb) with h' | h'
  · exact nomatch h'
  · rw [e] at h'; cases h'; exact hb

theorem lookup_relabel {names : List (Str × NameKind)} {z : Str} {k : NameKind} : ∀ (h : names.lookup z = some k),
    (names.map fun (n, k) => if (k == NameKind.free && env.scope.kind == .function && env.kindOf n == some .cell) then (n, NameKind.cell) else (n, k)).lookup z =
      some (if (k == NameKind.free && env.scope.kind == .function && env.kindOf z == some .cell) then NameKind.cell else k) := by
  induction names with
  | nil => intro h; simp at h
  | cons p r ih =>
    obtain ⟨n, k'⟩ := p
    intro h
    have hfst : ∀ b : Bool, (if b = true then (n, NameKind.cell) else (n, k')) = (n, if b = true then NameKind.cell else k') := fun b => by cases b <;> rfl
    simp only [List.map_cons]
    rw [hfst]
    rw [List.lookup_cons] at h ⊢
    cases e : z == n with
    | true =>
      rw [e] at h; cases h
      rw [beq_iff_eq.mp e]
    | false => rw [e] at h; exact ih h
end
end Mine
end
section
namespace Mine
open PySem PySem.W PyProof.Rows PySem.Calls
set_option maxRecDepth 100000

section
variable {w : World} {base : Heap} {s₀ : Shared} {mg mb : Str → Option Value} {r : Nat} {C : Ctr} {env : Env} {c : TC} {F : Addr → Option Obj} {P : Addr → Prop} {m : Mem} {σ σ' : Store} {s : Shared} {A : Around} {E : Value → Shared → Prop}

structure CompOk (c : TC) (names : List (Str × NameKind)) (x : Str) : Prop where
  nd : (names.map (·.1)).Nodup
  own : names.lookup x = some .local ∨ names.lookup x = some .cell
  frees : ∀ z, names.lookup z = some .free → (∃ i, c.vt.lookup z = some i) ∧ (c.names.lookup z = some .cell ∨ c.names.lookup z = some .free)
theorem compOk_of {names : List (Str × NameKind)} {x : Str} (h : compOk c names x = true) : CompOk c names x := by
  unfold compOk at h
  simp only [Bool.and_eq_true, Bool.or_eq_true, decide_eq_true_eq, beq_iff_eq, List.all_eq_true, bne_iff_ne] at h
  obtain ⟨⟨h1, h2⟩, h3⟩ := h
  refine ⟨h1, h2, fun z hz => ?_⟩
  have := h3 _ (mem_of_lookup hz)
  rcases this with h | ⟨h, h'⟩
  · exact absurd rfl h
  · exact ⟨Option.isSome_iff_exists.mp h, h'⟩

theorem inner_vt {names : List (Str × NameKind)} {x z : Str} {i : Nat} (hc : CompOk c names x) (h : (c.inner names x).vt.lookup z = some i) : (z = x ∧ i = c.nx) ∨ (z ≠ x ∧ names.lookup z = some .free ∧ c.vt.lookup z = some i) := by
  unfold TC.inner at h
  simp only [List.lookup_cons] at h
  cases e : z == x with
  | true => rw [e] at h; cases h; exact .inl ⟨beq_iff_eq.mp e, rfl⟩
  | false =>
    rw [e] at h
    have hm := mem_of_lookup h
    obtain ⟨⟨n, k⟩, hp, hq⟩ := List.mem_filterMap.mp hm
    simp only at hq
    split at hq
    · rename_i hk
      subst hk
      cases hv : c.vt.lookup n with
      | none => rw [hv] at hq; cases hq
      | some j =>
        rw [hv] at hq
        simp only [Option.map_some, Option.some.injEq, Prod.mk.injEq] at hq
        obtain ⟨rfl, rfl⟩ := hq
        exact .inr ⟨by simpa using e, lookup_nodup hc.nd hp, hv⟩
    · cases hq
theorem inner_free {names : List (Str × NameKind)} {x z : Str} {i : Nat} (hc : CompOk c names x) (hz : names.lookup z = some .free) (hi : c.vt.lookup z = some i) : (c.inner names x).vt.lookup z = some i := by
  have hne : z ≠ x := by
    rintro rfl
    rcases hc.own with h | h <;> rw [h] at hz <;> cases hz
  unfold TC.inner
  simp only [List.lookup_cons]
  have : (z == x) = false := by simpa using hne
  rw [this]
  obtain ⟨b, hb⟩ := lookup_some_of_mem (l := names.filterMap fun (p : Str × NameKind) => if p.2 = NameKind.free then (c.vt.lookup p.1).map fun i => (p.1, i) else none) (z := z) (a := i) (List.mem_filterMap.mpr ⟨(z, .free), mem_of_lookup hz, by simp [hi]⟩)
  rw [hb]
  obtain ⟨⟨n, k⟩, hp, hq⟩ := List.mem_filterMap.mp (mem_of_lookup hb)
  simp only at hq
  split at hq
  · cases hv : c.vt.lookup n with
    | none => rw [hv] at hq; cases hq
    | some j =>
      rw [hv] at hq
      simp only [Option.map_some, Option.some.injEq, Prod.mk.injEq] at hq
      obtain ⟨rfl, rfl⟩ := hq
      rw [hi] at hv; cases hv; rfl
  · cases hq
theorem inner_var {names : List (Str × NameKind)} {x : Str} (hc : CompOk c names x) : (c.inner names x).var x = some c.nx := by
  have hv : (c.inner names x).vt.lookup x = some c.nx := by unfold TC.inner; simp
  unfold TC.var
  rcases hc.own with h | h
  · rw [show (c.inner names x).names.lookup x = some .local from h]; exact hv
  · rw [show (c.inner names x).names.lookup x = some .cell from h]; exact hv

theorem comp_env (oke : EnvOk env c) {scope : Scope} {x : Str} (hc : CompOk c scope.names x) (hkind : scope.kind = .function) (hcells : ∀ z, scope.names.lookup z = some .free → ∃ a, env.cells.lookup z = some a) {Q : Env → Shared → Prop}
    (h : ∀ cenv h', EnvOk { cenv with scope := relabel scope env } (c.inner scope.names x) → cenv.frame = env.frame → (∀ q o, s.heap.get? q = some o → h'.get? q = some o) → h'.Ns cenv.locals (fun _ => none) → cenv.locals = s.heap.objs.size →
      (∀ z, scope.names.lookup z = some .cell → ∃ a o, cenv.cells.lookup z = some a ∧ s.heap.objs.size < a ∧ h'.get? a = some o ∧ o.data = .cell none) →
      (∀ z, scope.names.lookup z = some .free → cenv.cells.lookup z = env.cells.lookup z) → Q cenv { s with heap := h' }) :
    wpAny (model thePr w) A (closureFor scope env) (fun cl s₁ => wpAny (model thePr w) A (newFunctionEnv scope env.globals cl [] env.qual none .none (some env)) Q E s₁) E s := by
  refine wp_closureFor (fun p hp hf => hcells p.1 (lookup_nodup hc.nd (show (p.1, NameKind.free) ∈ scope.names from hf ▸ hp))) ?_
  simp only [newFunctionEnv, Option.isSome_some, if_true]
  refine wpAny_bind (wpAny_alloc ?_)
  refine wpAny_bind (wpAny_layCells _ (fun name kind cells => by cases hkc : kind == NameKind.cell <;> simp [hkc]) _ _ _ _ ?_)
  have ok := cellsFrom_ok scope.names (s.heap.push { cls := .type "dict", data := .dict #[] }) (s.heap.objs.size + 1) [] ⟨fun _ _ hm => (nomatch hm), List.Pairwise.nil⟩ (by rw [Heap.size_push]; exact Nat.le_refl _)
  rw [Heap.size_push] at ok
  rw [show ({ s with heap := s.heap.push { cls := .type "dict", data := .dict #[] } } : Shared).heap.objs.size = s.heap.objs.size + 1 from Heap.size_push ..]
  rw [List.forIn_nil]
  refine wpAny_bind (wpAny_pure (wpAny_pure ?_))
  rw [cellsFrom_eq]
  have lkc : ∀ z a, (cellsFrom (s.heap.objs.size + 1) scope.names []).lookup z = some a → (cellsFrom (s.heap.objs.size + 1) scope.names [] ++ takes env scope.names []).lookup z = some a := fun z a e => lookup_appendL e
  have lkf : ∀ z, scope.names.lookup z = some .free → (cellsFrom (s.heap.objs.size + 1) scope.names [] ++ takes env scope.names []).lookup z = env.cells.lookup z := fun z hz => by
    rw [lookup_appendR fun a ha => by
      have := lookup_nodup hc.nd (cellsFrom_mem _ _ ha)
      rw [hz] at this; cases this]
    obtain ⟨a, ha⟩ := hcells z hz
    rw [ha]; exact takes_lookup (mem_of_lookup hz) ha
  refine h _ _ ⟨hkind, oke.glob, oke.bi, fun z hz => ?_, fun z hz => ?_, fun z hz => ?_, fun z hz => ?_, fun y z i hy hz => ?_, fun y i hy => ?_, fun y z a hy hz hya hza => ?_⟩ rfl (fun q o e => pushCells_keeps _ _ _ _ (Heap.get?_push_of_some _ e))
    ((Heap.Ns.new s.heap (.type "dict")).keeps (pushCells_keeps _ _)) rfl (fun z hz => ?_) lkf
  · exact lookup_relabel (env := env) hz
  · exact lookup_relabel (env := env) hz
  · have := lookup_relabel (env := env) hz
    show List.lookup z _ = _ ∨ List.lookup z _ = _
    have e : List.lookup z (relabel scope env).names = some (if (NameKind.free == NameKind.free && env.scope.kind == .function && env.kindOf z == some .cell) = true then NameKind.cell else NameKind.free) := this
    rw [e]
    by_cases hb : (NameKind.free == NameKind.free && env.scope.kind == .function && env.kindOf z == some .cell) = true
    · rw [if_pos hb]; exact .inl rfl
    · rw [if_neg hb]; exact .inr rfl
  · exact lookup_relabel (env := env) hz
  · rcases inner_vt hc hy with ⟨rfl, h1⟩ | ⟨_, _, h1⟩ <;> rcases inner_vt hc hz with ⟨h2, h3⟩ | ⟨_, _, h3⟩
    · exact h2.symm
    · have := oke.lt _ _ h3; omega
    · have := oke.lt _ _ h1; omega
    · exact oke.inj _ _ _ h1 h3
  · rcases inner_vt hc hy with ⟨rfl, h1⟩ | ⟨_, _, h1⟩
    · show i < c.nx + 1; omega
    · have := oke.lt _ _ h1; show i < c.nx + 1; omega
  · obtain ⟨a₁, h1⟩ := cellsFrom_has scope.names (s.heap.objs.size + 1) (mem_of_lookup hy)
    obtain ⟨a₂, h2⟩ := cellsFrom_has scope.names (s.heap.objs.size + 1) (mem_of_lookup hz)
    have e1 := lkc _ _ h1
    have e2 := lkc _ _ h2
    have e3 : some a₁ = some a := e1.symm.trans hya
    have e4 : some a₂ = some a := e2.symm.trans hza
    cases e3; cases e4
    exact name_of_addr ok.apart (mem_of_lookup h1) (mem_of_lookup h2)
  · obtain ⟨a₁, h1⟩ := cellsFrom_has scope.names (s.heap.objs.size + 1) (mem_of_lookup hz)
    obtain ⟨⟨o, ho, hd⟩, hlo⟩ := ok.empty z a₁ (mem_of_lookup h1)
    exact ⟨a₁, o, lkc _ _ h1, hlo, ho, hd⟩
end
end Mine
end
section
namespace Mine
open PySem PySem.W PyProof.Rows PySem.Calls
set_option maxRecDepth 100000

section
variable {w : World} {base : Heap} {s₀ : Shared} {mg mb : Str → Option Value} {r : Nat} {C : Ctr} {env : Env} {c : TC} {F : Addr → Option Obj} {P : Addr → Prop} {m : Mem} {σ σ' : Store} {s : Shared} {A : Around} {E : Value → Shared → Prop}

theorem OkA.any (h : OkA base r F none A) (l : Addr) : OkA base r F (some l) A := by
  obtain ⟨fr, h1, h2⟩ := h.frames
  refine ⟨h.depth, h.units, fr, h1, fun e he => ?_⟩
  obtain ⟨k, L, a, b, d⟩ := h2 e he
  refine ⟨k, L, a, b, ?_⟩
  rcases d with d | d
  · cases d
  · exact .inr d

theorem unlock_none {σ τ : Store} {b : Option Adr} {q : Adr} (h : σ q = none) (h' : τ q = none) : unlock σ τ b q = none := by
  cases b with
  | none => exact h'
  | some a =>
    simp only [unlock]
    split
    · rename_i e; subst e; exact h
    · exact h'

inductive CompE (w : World) (base : Heap) (s₀ : Shared) (env : Env) (c : TC) (F : Addr → Option Obj) (P : Addr → Prop) (σ₁ : Store) (b : Option Adr) (D : Addr) (Q : AV → Mem → Store → Prop) (m₁ : Mem) (s : Shared) : Prop
  | mk (m : Mem) (σ : Store) (oD : Obj) (o : AO) (x : Rep w base s₀ env c F P m σ s) (hL : Locked σ₁ σ b) (hD : σ D = none) (ho : s.heap.get? D = some oD) (r : RO w o oD) (hr : isRo o = false) (hn : isNode o = false) (q : ∀ r, unlock σ₁ σ b r = none → Q (.ref r) m₁ (upd (unlock σ₁ σ b) r o))

inductive Used (w : World) (base : Heap) (s₀ : Shared) (env : Env) (c : TC) (F : Addr → Option Obj) (P : Addr → Prop) (Q : Mem → Store → Prop) (s : Shared) : Prop
  | mk (m : Mem) (σ : Store) (x : Rep w base s₀ env c F P m σ s) (q : Q m σ)
inductive UseP (w : World) (base : Heap) (s₀ : Shared) (env : Env) (c : TC) (F : Addr → Option Obj) (P : Addr → Prop) (A : Around) (m : Mem) (Q : AV → Mem → Store → Prop) (QQ : Value → Shared → Prop) (E : Value → Shared → Prop) (u : Value → Sem Unit) : Prop
  | mk (Q' : Mem → Store → Prop) (h1 : ∀ D F₁ P₁ s' σ', Rep w base s₀ env c F₁ P₁ m σ' s' → Q (.ref D) m σ' → wpAny (model thePr w) A (u (.ref D)) (fun _ => Used w base s₀ env c F₁ P₁ Q') E s') (h2 : ∀ m' σ' s', Rep w base s₀ env c F P m' σ' s' → Q' m' σ' → QQ .none s')
inductive UseM (w : World) (base : Heap) (s₀ : Shared) (env : Env) (c : TC) (F : Addr → Option Obj) (P : Addr → Prop) (A : Around) (Q : AV → Mem → Store → Prop) (QQ : Value → Shared → Prop) (E : Value → Shared → Prop) (u : Value → Sem Unit) : Prop
  | mk (Q' : Mem → Store → Prop) (h1 : ∀ m D F₁ P₁ s' σ', Rep w base s₀ env c F₁ P₁ m σ' s' → Q (.ref D) m σ' → wpAny (model thePr w) A (u (.ref D)) (fun _ => Used w base s₀ env c F₁ P₁ Q') E s') (h2 : ∀ m' σ' s', Rep w base s₀ env c F P m' σ' s' → Q' m' σ' → QQ .none s')
inductive SetUp (w : World) (base : Heap) (s₀ : Shared) (r : Nat) (env : Env) (c : TC) (A : Around) (σ : Store) (m : Mem) (b : Option Adr) (vs : List AV) (oD : Obj) (ci : TC) (I D : Addr) (cenv : Env) (F : Addr → Option Obj) (P : Addr → Prop) (fp : List Addr) (Pv : Nat → Value → Prop) (St : Nat → Heap → Prop) (s : Shared) : Prop
  | mk (okc : EnvOk cenv ci) (hfrm : cenv.frame = env.frame) (xr : Rep w base s₀ cenv ci F P (m ++ [none]) (lock σ b) s) (reset : ∀ m' τ s', Rep w base s₀ cenv ci F P m' τ s' → Rep w base s₀ cenv ci F P (m ++ [none]) τ s')
    (W : It w I b vs fp Pv St) (hst : St 0 s.heap) (fI : F I = none) (fD : F D = none) (lI : lock σ b I = none) (lD : lock σ b D = none) (offI : Off cenv ci I) (offD : Off cenv ci D) (hID : I ≠ D) (hF3 : ∀ a, b = some a → ∃ z, F a = some z ∧ z.cls ≠ .none) (ok2 : OkA base r F (some cenv.locals) A) (hD : s.heap.get? D = some oD)

theorem comp_setup (x₁ : Rep w base s₀ env c F P m σ s) (oke : EnvOk env c) (ok : OkA base r F (some env.locals) A) (hA : A.handled = none) {scope : Scope} {y : Str} (hc : CompOk c scope.names y) (hkind : scope.kind = .function)
    {v : Value} {av : AV} (rv : av.R v) {vs : List AV} {b : Option Adr} (hit : itemsOf σ av = some (vs, b)) {newAcc : Sem Value} {oD : Obj} (hfrD : oD.isFreed = false)
    (hnew : ∀ (Q : Value → Shared → Prop) (s : Shared), Q (.ref s.heap.objs.size) { s with heap := s.heap.push oD } → wpAny (model thePr w) A newAcc Q E s) {e : Expr} {use : Option (Value → Sem Unit)} {Q : AV → Mem → Store → Prop} {QQ : Value → Shared → Prop}
    (hnone : use = none → ∀ D σ' s', Rep w base s₀ env c F P m σ' s' → Q (.ref D) m σ' → QQ (.ref D) s')
    (hsome : ∀ u, use = some u → UseP w base s₀ env c F P A m Q QQ E u)
    (hb : ∀ I D cenv F₂ P₂ fp Pv St s₄, SetUp w base s₀ r env c A σ m b vs oD (c.inner scope.names y) I D cenv F₂ P₂ fp Pv St s₄ →
      codeAny (model thePr w) A (.compStart e 0 (.ref I) (.ref D) cenv) (fun res s' => ∃ f, res = .ok f ∧ CompE w base s₀ cenv (c.inner scope.names y) F₂ P₂ σ b D Q m s') s₄) :
    wpAny (model thePr w) A (pyIter v) (fun it s₂ => wpAny (model thePr w) A newAcc (fun acc s₃ => wpAny (model thePr w) A (closureFor scope env) (fun cl s₃ =>
      wpAny (model thePr w) A (newFunctionEnv scope env.globals cl [] env.qual none .none (some env)) (fun cenv s₄ =>
        codeAny (model thePr w) A (.compStart e 0 it acc { cenv with scope := relabel scope env }) (compEnd (model thePr w) A E use QQ acc cenv.locals) s₄) E s₃) E s₃) E s₂) E s := by
  obtain ⟨F', P', k1, k2, k3, k4, k5, k6⟩ := x₁.suspend oke
  obtain ⟨F₂, hF1, hF2, hF3, xl, back⟩ := k5.lock (items_lock hit)
  have hfree : ∀ z, scope.names.lookup z = some .free → ∃ a i o, env.cells.lookup z = some a ∧ c.vt.lookup z = some i ∧ F₂ a = some o ∧ ∀ v, m[i]? = some (some v) → ∃ v', o.data = .cell (some v') ∧ v.R v' := fun z hz => by
    obtain ⟨⟨i, hi⟩, hk⟩ := hc.frees z hz
    rcases hk with hk | hk
    · obtain ⟨a, o, h1, h2, h3, h4, h5, h6, h7⟩ := x₁.cel z hk
      obtain ⟨o', ho', ho''⟩ := k3 z a hk h1
      rw [h5] at ho''; cases ho''
      exact ⟨a, i, unc o, h1, hi, hF1 _ _ ho', fun v hv => h7 i v hi hv⟩
    · obtain ⟨a, h1, h2⟩ := x₁.fin z i hk hi
      obtain ⟨o, ho⟩ := Option.isSome_iff_exists.mp h2
      refine ⟨a, i, o, h1, hi, hF1 _ _ (k1 _ _ ho), fun v hv => ?_⟩
      obtain ⟨a', o', v', g1, g2, g3⟩ := x₁.fre z i v hk hi hv
      rw [h1] at g1; cases g1
      rw [ho] at g2; cases g2
      exact ⟨v', g3⟩
  refine iter_ok x₁ rv hit fun oI fp Pv St hfr W hst => ?_
  refine hnew _ _ ?_
  refine comp_env oke hc hkind (fun z hz => by obtain ⟨a, _, _, h, _⟩ := hfree z hz; exact ⟨a, h⟩) fun cenv h' okc hfrm hkeep hns hloc hcel hfr2 => ?_
  have hsz : s.heap.objs.size < (s.heap.push oI).objs.size := by rw [Heap.size_push]; omega
  have hDI : s.heap.objs.size ≠ (s.heap.push oI).objs.size := Nat.ne_of_lt hsz
  have hkI : ∀ q o, s.heap.get? q = some o → (s.heap.push oI).get? q = some o := fun q o e => Heap.get?_push_of_some _ e
  have hkD : ∀ q o, (s.heap.push oI).get? q = some o → ((s.heap.push oI).push oD).get? q = some o := fun q o e => Heap.get?_push_of_some _ e
  have hall : ∀ q o, s.heap.get? q = some o → h'.get? q = some o := fun q o e => hkeep q o (hkD q o (hkI q o e))
  have fr : ∀ q, s.heap.objs.size ≤ q → s.heap.get? q = none := fun q hq => by
    cases e : s.heap.get? q with
    | none => rfl
    | some o => exact absurd (Heap.lt_size e) (Nat.not_lt.mpr hq)
  have hbn : ∀ q, σ q = none → ∀ a, b = some a → a ≠ q := fun q hq a ha => by
    obtain ⟨o, ho, _⟩ := items_lock hit a ha
    rintro rfl
    rw [hq] at ho; cases ho
  have fr2 : ∀ q, s.heap.objs.size ≤ q → F₂ q = none ∧ lock σ b q = none ∧ F' q = none ∧ σ q = none := fun q hq => by
    have := k5.fresh (fr q hq)
    refine ⟨?_, lock_none this.1, this.2, this.1⟩
    rcases hF2 q this.2 with h | h
    · exact h
    · exact absurd rfl (hbn q this.1 q h)
  have szI : (s.heap.push oI).objs.size = s.heap.objs.size + 1 := Heap.size_push ..
  have szD : ((s.heap.push oI).push oD).objs.size = s.heap.objs.size + 2 := by rw [Heap.size_push, szI]
  have hloc' : cenv.locals = s.heap.objs.size + 2 := hloc.trans szD
  have hcel' : ∀ z, scope.names.lookup z = some .cell → ∃ a o, cenv.cells.lookup z = some a ∧ s.heap.objs.size + 2 < a ∧ h'.get? a = some o ∧ o.data = .cell none := fun z hz => by
    obtain ⟨a, o, h1, h2, h3, h4⟩ := hcel z hz
    refine ⟨a, o, h1, ?_, h3, h4⟩
    have h2' : ((s.heap.push oI).push oD).objs.size < a := h2
    rwa [szD] at h2'
  have offq : ∀ q, q < s.heap.objs.size + 2 → Off { cenv with scope := relabel scope env } (c.inner scope.names y) q := fun q hq => by
    refine ⟨fun e => ?_, fun z a hz ha => ?_⟩
    · have : q = cenv.locals := e
      rw [hloc'] at this; omega
    · obtain ⟨a', o, h1, h2, _⟩ := hcel' z hz
      have : some a' = some a := h1.symm.trans ha
      cases this
      intro e; subst e; omega
  have reset : ∀ m' τ s', Rep w base s₀ { cenv with scope := relabel scope env } (c.inner scope.names y) F₂ P' m' τ s' → Rep w base s₀ { cenv with scope := relabel scope env } (c.inner scope.names y) F₂ P' (m ++ [none]) τ s' := fun m' τ s' x' => by
    have hlen := x₁.len
    refine ⟨x'.ext, by show (m ++ [none]).length = c.nx + 1; simp [hlen], ?_, x'.apart, x'.lhi, fun z hz => ?_, fun z i v hz hi hm => ?_, x'.fin⟩
    · obtain ⟨nm, hn, _⟩ := x'.ns
      refine ⟨nm, hn, fun z i v hz hi hm => ?_⟩
      rcases inner_vt hc hi with ⟨rfl, rfl⟩ | ⟨_, h1, _⟩
      · rw [← hlen, List.getElem?_concat_length] at hm; cases hm
      · have : some NameKind.local = some NameKind.free := hz.symm.trans h1
        cases this
    · obtain ⟨a, o, h1, h2, h3, h4, h5, h6, h7⟩ := x'.cel z hz
      refine ⟨a, o, h1, h2, h3, h4, h5, h6, fun i v hi hm => ?_⟩
      rcases inner_vt hc hi with ⟨rfl, rfl⟩ | ⟨_, h1, _⟩
      · rw [← hlen, List.getElem?_concat_length] at hm; cases hm
      · have : some NameKind.cell = some NameKind.free := hz.symm.trans h1
        cases this
    · rcases inner_vt hc hi with ⟨rfl, rfl⟩ | ⟨_, h1, h2⟩
      · rw [← hlen, List.getElem?_concat_length] at hm; cases hm
      · obtain ⟨a, i', o, g1, g2, g3, g4⟩ := hfree z h1
        rw [h2] at g2; cases g2
        have hlt := oke.lt _ _ h2
        rw [List.getElem?_append_left (by omega)] at hm
        obtain ⟨v', hv', rr⟩ := g4 v hm
        exact ⟨a, o, v', (hfr2 z h1).trans g1, g3, hv', rr⟩
  have xr : Rep w base s₀ { cenv with scope := relabel scope env } (c.inner scope.names y) F₂ P' (m ++ [none]) (lock σ b) { s with heap := h' } := by
    have hlen := x₁.len
    refine reset (List.replicate (c.nx + 1) none) _ _ ⟨xl.grow (tk := s.toks) hall, by show _ = c.nx + 1; simp, ⟨_, hns, fun z i v hz hi hm => ?_⟩, ?_, ?_, fun z hz => ?_, fun z i v hz hi hm => ?_, fun z i hz hi => ?_⟩
    · rw [List.getElem?_replicate] at hm
      split at hm <;> cases hm
    · show F₂ cenv.locals = none ∧ lock σ b cenv.locals = none
      rw [hloc']
      have := fr2 (s.heap.objs.size + 2) (by omega)
      exact ⟨this.1, this.2.1⟩
    · show 196 < cenv.locals
      rw [hloc']
      exact Nat.lt_of_lt_of_le x₁.ext.size3 (Nat.le_add_right _ 2)
    · obtain ⟨a, o, h1, h2, h3, h4⟩ := hcel' z hz
      have := fr2 a (by omega)
      refine ⟨a, o, h1, ?_, this.1, this.2.1, h3, ⟨_, h4⟩, fun i v hi hm => ?_⟩
      · show a ≠ cenv.locals
        rw [hloc']; exact Nat.ne_of_gt h2
      · rw [List.getElem?_replicate] at hm
        split at hm <;> cases hm
    · rw [List.getElem?_replicate] at hm
      split at hm <;> cases hm
    · rcases inner_vt hc hi with ⟨rfl, rfl⟩ | ⟨_, h1, h2⟩
      · rcases hc.own with h | h
        · have : some NameKind.free = some NameKind.local := hz.symm.trans h
          cases this
        · have : some NameKind.free = some NameKind.cell := hz.symm.trans h
          cases this
      · obtain ⟨a, i', o, g1, g2, g3, g4⟩ := hfree z h1
        exact ⟨a, (hfr2 z h1).trans g1, by rw [g3]; rfl⟩
  have fI := fr2 s.heap.objs.size (Nat.le_refl _)
  have fD := fr2 (s.heap.push oI).objs.size (Nat.le_of_lt hsz)
  have hDobj : h'.get? (s.heap.push oI).objs.size = some oD := hkeep _ _ (Heap.get?_push_size _ hfrD)
  have hst' : St 0 h' := W.keep hA hst (fun o e => hkeep _ _ (hkD _ _ e)) fun a ha o e => hkeep _ _ (hkD _ _ e)
  have ok2 : OkA base r F₂ (some cenv.locals) A := by
    obtain ⟨o, ho, hnf⟩ := k2
    exact (ok.mono (fun a o e => hF1 _ _ (k1 a o e)) ⟨o, hF1 _ _ ho, hnf⟩).any _
  refine codeAny_mono (hb s.heap.objs.size (s.heap.push oI).objs.size { cenv with scope := relabel scope env } F₂ P' fp Pv St { s with heap := h' } ⟨okc, hfrm, xr, reset, W, hst', fI.1, fD.1, fI.2.1, fD.2.1, offq _ (by omega), offq _ (by rw [szI]; omega), hDI, hF3, ok2, hDobj⟩) fun res s' hres => ?_
  obtain ⟨f, rfl, m', τ, oD', o', x', hL, hτD, hD', rD, hro, hnd, hq⟩ := hres
  have fC := fr2 (s.heap.objs.size + 2) (by omega)
  have hτC : τ cenv.locals = none := x'.apart.2
  obtain ⟨nmC, hnsC, _⟩ := x'.ns
  have hnsC : s'.heap.Ns cenv.locals nmC := hnsC
  obtain ⟨oC, esC, epC, hoC, hdC, _⟩ := id hnsC
  have eB := back τ s' x'.ext hL
  have huC : unlock σ τ b cenv.locals = none := unlock_none (by rw [hloc']; exact fC.2.2.2) hτC
  have huD : unlock σ τ b (s.heap.push oI).objs.size = none := unlock_none fD.2.2.2 hτD
  have hCD : cenv.locals ≠ (s.heap.push oI).objs.size := by rw [hloc', szI]; exact Nat.ne_of_gt (Nat.lt_succ_self _)
  have h196 : 196 < (s.heap.push oI).objs.size := Nat.lt_trans x₁.ext.size3 hsz
  have eA := eB.adopt hD' fD.2.2.1 huD h196 rD hro hnd
  have hq' := hq _ huD
  have huC' : upd (unlock σ τ b) (s.heap.push oI).objs.size o' cenv.locals = none := by unfold upd; rw [if_neg hCD]; exact huC
  have touchC : ∀ (τ' : Store) (s'' : Shared) (m'' : Mem) (nm : Str → Option Value), Rep w base s₀ env c F P m'' τ' s'' → τ' cenv.locals = none → s''.heap.Ns cenv.locals nm → ∀ h'' m'', h''.Ns cenv.locals m'' → Heap.SameBut cenv.locals s''.heap h'' → Rep w base s₀ env c F P ‹Mem› τ' { s'' with heap := h'' } := fun τ' s'' mm nm xx hn hns'' h'' m'' hn'' hsb => by
    obtain ⟨o1, _, _, ho1, _⟩ := hns''
    obtain ⟨o2, _, _, ho2, hd2, _⟩ := hn''
    have hfC := x₁.ext.fresh (fr cenv.locals (by rw [hloc']; omega))
    exact xx.touch (tk := s''.toks) ho1 hfC.2 hn (x₁.off (fr cenv.locals (by rw [hloc']; omega))) (fun b o hb e => (hsb.2 b hb).trans e) (.inr ⟨o2, ho2, fun fs e => by rw [hd2] at e; cases e⟩)
  have xE := k6 _ _ eA
  cases use with
  | none =>
    exact ⟨nmC, hnsC, fun h'' m'' hn'' hsb => hnone rfl _ _ _ (touchC _ _ _ _ xE huC' hnsC h'' m'' hn'' hsb) hq'⟩
  | some u =>
    obtain ⟨Q', hu1, hu2⟩ := hsome u rfl
    have hfC := x₁.ext.fresh (fr cenv.locals (by rw [hloc']; omega))
    have hbC : base.get? cenv.locals = none := by
      cases hb : base.get? cenv.locals with
      | none => rfl
      | some q => have := hfC.2; rw [x₁.ext.based _ q hb] at this; cases this
    have hoffC := x₁.off (fr cenv.locals (by rw [hloc']; omega))
    have xf := xE.freeze (o := unc oC) (.unc hoC hbC) hfC.2 huC' hoffC.1 hoffC.2
    refine wpAny_mono (hu1 _ _ _ _ _ xf hq') (fun _ s'' h'' => ?_) fun _ _ e => e
    obtain ⟨m'', σ'', x'', hq''⟩ := h''
    obtain ⟨xt, hoC', hσC, _⟩ := Rep.thaw xE x'' hfC.2
    have hns'' : s''.heap.Ns cenv.locals nmC := by
      obtain ⟨o1, es1, ep1, ho1, d1, r1⟩ := hnsC
      have : some o1 = some oC := ho1.symm.trans hoC
      cases this
      obtain ⟨y, hy, hyd, _⟩ := hoC'
      exact ⟨y, es1, ep1, hy, hyd.trans d1, r1⟩
    exact ⟨nmC, hns'', fun h3 m3 hn3 hsb => hu2 _ _ _ (touchC _ _ _ _ xt hσC hns'' h3 m3 hn3 hsb) hq''⟩
end
end Mine
end
section
namespace Mine
open PySem PySem.W PyProof.Rows PySem.Calls
set_option maxRecDepth 100000

noncomputable def SndI (w : World) (base : Heap) (s₀ : Shared) (r : Nat) (C : Ctr) (env : Env) (c : TC) (ifs : List Expr) (p : PT) : Prop := ∀ F P A m σ s Q E, OkA base r F (some env.locals) A → Cm env c A → Rep w base s₀ env c F P m σ s → WT C p Q m σ →
  wpAny (model thePr w) A (forIn ifs true fun c r => if r = true then do let ok ← PySem.isTrue c env (eval c env); pure (ForInStep.yield ok) else pure (ForInStep.yield r)) (PoT w base s₀ env c F P Q) E s

noncomputable def SndC (w : World) (base : Heap) (s₀ : Shared) (r : Nat) (C : Ctr) (env : Env) (c : TC) (run : Option (Value → Sem Unit) → Sem Value) (p : PE) : Prop := ∀ F P A m σ s Q E use QQ, OkA base r F (some env.locals) A → Cm env c A → Rep w base s₀ env c F P m σ s → W C p Q m σ →
  (use = none → ∀ m D σ' s', Rep w base s₀ env c F P m σ' s' → Q (.ref D) m σ' → QQ (.ref D) s') →
  (∀ u, use = some u → UseM w base s₀ env c F P A Q QQ E u) →
  wpAny (model thePr w) A (run use) QQ E s

section
variable {w : World} {base : Heap} {s₀ : Shared} {mg mb : Str → Option Value} {r : Nat} {C : Ctr} {env : Env} {c : TC} {F : Addr → Option Obj} {P : Addr → Prop} {m : Mem} {σ σ' : Store} {s : Shared} {A : Around} {E : Value → Shared → Prop}

theorem UseM.at {u : Value → Sem Unit} {Q : AV → Mem → Store → Prop} {QQ : Value → Shared → Prop} (h : UseM w base s₀ env c F P A Q QQ E u) (m : Mem) : UseP w base s₀ env c F P A m Q QQ E u := by
  obtain ⟨Q', g1, g2⟩ := h
  exact ⟨Q', fun D F₁ P₁ s' σ' => g1 m D F₁ P₁ s' σ', g2⟩
theorem dput_len (es : List (Int × AV)) (k : Int) (v : AV) : (dput es k v).length ≤ es.length + 1 := by
  unfold dput
  split <;> simp
theorem sndI_nil : SndI w base s₀ r C env c [] .tt := fun F P A m σ s Q E ok ca x h => wpAny_tests_nil ⟨m, σ, x, h⟩
theorem sndI_one {t : Expr} {p : PT} (h1 : SndT w base s₀ r C env c t p) : SndI w base s₀ r C env c [t] p := fun F P A m σ s Q E ok ca x h => wpAny_tests_one (h1 F P A m σ s Q E ok ca x h)

theorem put_last {m : Mem} {n : Nat} {v : AV} (h : m.length = n) : put (m ++ [none]) n v = m ++ [some v] := by
  subst h; unfold put; simp

theorem local_names {names : List (Str × NameKind)} (h : (names.map (·.1)).Nodup) : ∀ x ∈ names, x.2 = .local → names.lookup x.1 = some .local := fun x hx hl => lookup_nodup h (show (x.1, NameKind.local) ∈ names from hl ▸ hx)

inductive CompS (w : World) (base : Heap) (s₀ : Shared) (env : Env) (c : TC) (F : Addr → Option Obj) (P : Addr → Prop) (n : Nat) (m : Mem) {α : Type} (Inv : Nat → List α → Store → Prop) (I D : Addr) (St : Nat → Heap → Prop) (RD : List α → Obj → Prop) (k : Nat) (s : Shared) : Prop
  | mk (i : Nat) (acc : List α) (σ : Store) (o : Obj) (h : Inv i acc σ) (x : Rep w base s₀ env c F P m σ s) (hI : σ I = none) (hD : σ D = none) (hs : St i s.heap) (ho : s.heap.get? D = some o) (r : RD acc o) (ha : acc.length ≤ i) (hi : i ≤ n) (hk : k = n - i)
theorem CompS.step {α : Type} {Inv : Nat → List α → Store → Prop} {I D : Addr} {St : Nat → Heap → Prop} {RD : List α → Obj → Prop} {n i : Nat} {acc : List α} {o : Obj} (x : Rep w base s₀ env c F P m σ s) (hI : σ I = none) (hD : σ D = none) (hs : St (i + 1) s.heap) (ho : s.heap.get? D = some o) (r : RD acc o) (ha : acc.length ≤ i + 1) (hi : i < n) (h : Fg σ (Inv (i + 1) acc)) :
    ∃ k, k < n - i ∧ CompS w base s₀ env c F P n m Inv I D St RD k s := by
  obtain ⟨τ, hs', h⟩ := h
  exact ⟨n - (i + 1), Nat.sub_succ_lt_self n i hi, i + 1, acc, τ, o, h, x.sub hs', hs'.none hI, hs'.none hD, hs, ho, r, ha, hi, rfl⟩
noncomputable def ListD (acc : List AV) (o : Obj) : Prop := ∃ ys n, o = listOf ys n ∧ AllR acc ys.toList
inductive Thw (w : World) (base : Heap) (s₀ : Shared) (env : Env) (c : TC) (F : Addr → Option Obj) (P : Addr → Prop) (I D : Addr) (o : Obj) (St : Heap → Prop) (m : Mem) (σ : Store) (s : Shared) : Prop
  | mk (x : Rep w base s₀ env c F P m σ s) (hI : σ I = none) (hD : σ D = none) (ho : s.heap.get? D = some o) (keep : ∀ m' σ' s', Rep w base s₀ env c F P m' σ' s' → (∀ z, s.heap.get? I = some z → s'.heap.get? I = some z) → St s'.heap)

theorem comp_turn {α : Type} {Inv : Nat → List α → Store → Prop} {I D : Addr} {vs : List AV} {b : Option Adr} {fp : List Addr} {Pv : Nat → Value → Prop} {St : Nat → Heap → Prop} {RD : List α → Obj → Prop} {k : Nat} {Q : Option Value → Shared → Prop}
    (W : It w I b vs fp Pv St) (hA : A.handled = none) (ok2 : OkA base r F (some env.locals) A) (fI : F I = none) (fD : F D = none) (offI : Off env c I) (offD : Off env c D) (hID : I ≠ D) (hF3 : ∀ a, b = some a → ∃ z, F a = some z ∧ z.cls ≠ .none) (hcls : ∀ acc o, RD acc o → o.cls ≠ .none)
    (hk : CompS w base s₀ env c F P vs.length m Inv I D St RD k s)
    (done : ∀ acc σ o s', Inv vs.length acc σ → Rep w base s₀ env c F P m σ s' → σ D = none → s'.heap.get? D = some o → RD acc o → acc.length ≤ vs.length → Q none s')
    (item : ∀ i acc σ o v av F₅ P₅ s₅, k = vs.length - i → i < vs.length → Inv i acc σ → acc.length ≤ i → RD acc o → vs[i]? = some av → av.R v → Rep w base s₀ env c F₅ P₅ m σ s₅ → OkA base r F₅ (some env.locals) A → (∀ m' σ' s', Rep w base s₀ env c F₅ P₅ m' σ' s' → Thw w base s₀ env c F P I D o (St (i + 1)) m' σ' s') → Q (some v) s₅) :
    wpAny (model thePr w) A (pyNext (.ref I)) Q E s := by
  obtain ⟨i, acc, τ, oD, hI, x', hτI, hτD, hSt, hDo, hacc, hal, hi, hk⟩ := hk
  obtain ⟨oi, fs, hoi, hfs, _⟩ := W.fld i _ hSt
  by_cases hlt : i < vs.length
  · refine (W.walks A hA).item i s _ _ hlt hSt fun v h' tk hP hSt' hk' => ?_
    obtain ⟨av', hav, rv'⟩ := W.val i v hP
    have x₄ := x'.touch (tk := tk) hoi fI hτI offI (fun b o hb e => hk' b o (by simpa using hb) e) (.inl ⟨fs, hfs⟩)
    obtain ⟨oi', fs', hoi', hfs', hci'⟩ := W.fld _ _ hSt'
    have hDo' : h'.get? D = some oD := hk' D _ (by simpa using Ne.symm hID) hDo
    have x₅ := x₄.freeze (.of hoi') fI hτI offI.1 offI.2
    have fD' : frz F I oi' D = none := by rw [frz_ne (Ne.symm hID)]; exact fD
    have x₅' := x₅.freeze (.of hDo') fD' hτD offD.1 offD.2
    refine item i acc τ oD v av' _ _ _ hk hlt hI hal hacc hav rv' x₅' ((ok2.frz (o := oi') fI).frz (o := oD) fD') fun m' σ' s' y => ?_
    obtain ⟨x₈, hD8, hσD, _⟩ := Rep.thaw x₅ y fD'
    obtain ⟨x₉, hI9, hσI, _⟩ := Rep.thaw x' x₈ fI
    refine ⟨x₉, hσI, hσD, hD8.exact (hcls _ _ hacc), fun m'' τ' s'' xx hoI => W.keep hA hSt' (fun o e => ?_) fun a ha o e => ?_⟩
    · have e' : some o = some oi' := e.symm.trans hoi'
      cases e'
      exact hoI _ (hI9.exact hci')
    · obtain ⟨u, hu, hcu⟩ := hF3 a ha
      have e2 : some o = some u := e.symm.trans ((x₄.ext.still a u hu).exact hcu)
      cases e2
      exact (xx.ext.still a _ hu).exact hcu
  · have hie : i = vs.length := Nat.le_antisymm hi (Nat.not_lt.mp hlt)
    subst hie
    refine (W.walks A hA).done s _ _ hSt fun h' tk hk => ?_
    exact done acc τ oD _ hI (x'.touch (tk := tk) hoi fI hτI offI (fun b o hb e => hk b o (by simpa using hb) e) (.inl ⟨fs, hfs⟩)) hτD (hk D _ (by simpa using Ne.symm hID) hDo) hacc hal

theorem snd_lcomp (oke : EnvOk env c) {elt iter : Expr} {ifs : List Expr} {y : Str} {py pos : Pos} {scope : Scope} {pe pi : PE} {pt : PT} (hset : noSet iter = true) (hcalm : c.calm = true) (hkind : scope.kind = .function) (hc : CompOk c scope.names y)
    (h1 : SndE w base s₀ r C env c iter pi) (h2 : ∀ cenv, EnvOk cenv (c.inner scope.names y) → SndI w base s₀ r C cenv (c.inner scope.names y) ifs pt) (h3 : ∀ cenv, EnvOk cenv (c.inner scope.names y) → SndE w base s₀ r C cenv (c.inner scope.names y) elt pe) :
    SndC w base s₀ r C env c (fun use => comprehension (.ListComp elt [⟨.Name y py, iter, ifs, 0⟩] scope pos) scope env iter.pos (newList []) false (eval iter env) use) (.lcomp pe pi pt) := fun F P A m σ s Q E use QQ ok ca x h hnone hsome => by
  have hA := ca.calm hcalm
  refine wp_comp rfl (folded_noSet hset) hkind (local_names hc.nd) (wpAny_mono (h1 F P A m σ s _ E ok ca x h) (fun v s₁ h₁ => ?_) fun _ _ e => e)
  obtain ⟨av, m₁, σ₁, rv, x₁, vs, b, hit, hlim, Inv, hI0, hIL, hstep, hend⟩ := h₁
  refine comp_setup x₁ oke ok hA hc hkind rv hit (oD := { cls := .type "list", data := .seq #[] }) rfl (fun Q s h => wpAny_newObj_type h) (fun e => hnone e m₁) (fun u e => (hsome u e).at m₁) fun I D cenv F₂ P₂ fp Pv St s₄ hs => ?_
  obtain ⟨okc, hfrm, xr, reset, W, hst, fI, fD, lI, lD, offI, offD, hID, hF3, ok2, hD⟩ := hs
  have hca : Cm cenv (c.inner scope.names y) A := ⟨fun _ => hA, hfrm ▸ ca.head⟩
  have loop : codeAny (model thePr w) A (.compLoop (.ListComp elt [⟨.Name y py, iter, ifs, 0⟩] scope pos) 0 (.ref I) (.ref D) cenv) (fun res s' => ∃ f, res = .ok f ∧ CompE w base s₀ cenv (c.inner scope.names y) F₂ P₂ σ₁ b D Q m₁ s') s₄ := by
    refine codeAny_compLoop_tests (CompS w base s₀ cenv (c.inner scope.names y) F₂ P₂ vs.length (m₁ ++ [none]) Inv I D St ListD) (fun k s' hk => ?_) vs.length ⟨0, [], _, _, hI0, xr, lI, lD, hst, hD, ⟨#[], 0, rfl, .nil⟩, Nat.le_refl _, Nat.zero_le _, rfl⟩ (fun v => rfl)
    refine comp_turn W hA ok2 fI fD offI offD hID hF3 (by rintro acc o ⟨ys, n, rfl, _⟩ ⟨⟩) hk (fun acc τ o s'' hI x₄ hτD ho hr hal => ?_) fun i acc τ o v av F₅ P₅ s₅ hk hlt hI hal hr hav rv x₅ ok5 thaw => ?_
    · obtain ⟨ys, n, rfl, hacc⟩ := hr
      exact ⟨_, rfl, _, τ, _, .list acc, x₄, hIL _ _ _ hI, hτD, ho, ⟨ys, n, rfl, hacc⟩, rfl, rfl, hend acc τ hI hal⟩
    obtain ⟨ys, n, rfl, hacc⟩ := hr
    subst hk
    refine wpAny_assign_Name (store_var x₅ okc (inner_var hc) rv fun s₆ x₆ => ?_)
    rw [put_last x₁.len] at x₆
    refine wpAny_mono (h2 cenv okc _ _ A _ _ s₆ _ _ ok5 hca x₆ (hstep i av acc τ hav hI hal)) (fun t s₇ h₇ => ?_) fun _ _ e => e
    obtain ⟨m₇, σ₇, x₇, h₇⟩ := h₇
    cases t with
    | false =>
      rw [if_neg (by decide)]
      obtain ⟨x₉, hI9, hD9, ho, keep⟩ := thaw _ _ _ x₇
      exact CompS.step (reset _ _ _ x₉) hI9 hD9 (keep _ _ _ x₉ fun z e => e) ho ⟨ys, n, rfl, hacc⟩ (Nat.le_succ_of_le hal) hlt h₇
    | true =>
      rw [if_pos rfl]
      refine wpAny_mono (h3 cenv okc _ _ A _ _ s₇ _ _ ok5 hca x₇ h₇) (fun z s₈ h₈ => ?_) fun _ _ e => e
      obtain ⟨zv, m₈, σ₈, rz, x₈, h₈⟩ := h₈
      obtain ⟨x₉, hI9, hD9, ho, keep⟩ := thaw _ _ _ x₈
      refine wpAny_list_append_plain ⟨n, ho⟩ (fun h'' hp hs => ?_) (lim_size (by have := hacc.length; simp at this; omega))
      obtain ⟨n', hp⟩ := hp
      have x₁₁ := x₉.touch (h' := h'') (tk := s₈.toks) ho fD hD9 offD (fun b o hb e => (hs.2 b hb).trans e) (.inr ⟨_, hp, fun fs e => by cases e⟩)
      exact CompS.step (reset _ _ _ x₁₁) hI9 hD9 (keep _ _ _ x₁₁ fun z e => (hs.2 I hID).trans e) hp ⟨ys.push z, n', rfl, by rw [Array.toList_push]; exact AllR.append hacc (.cons rz .nil)⟩ (by simp; omega) hlt h₈
  refine codeAny_compStart_list loop ((W.walks A hA).self 0 _ _ _ hst loop)

theorem snd_dcomp (oke : EnvOk env c) {kx vx iter : Expr} {y : Str} {py pos : Pos} {scope : Scope} {pk pv pi : PE} (hset : noSet iter = true) (hcalm : c.calm = true) (hkind : scope.kind = .function) (hc : CompOk c scope.names y)
    (h1 : SndE w base s₀ r C env c iter pi) (h2 : ∀ cenv, EnvOk cenv (c.inner scope.names y) → SndE w base s₀ r C cenv (c.inner scope.names y) kx pk) (h3 : ∀ cenv, EnvOk cenv (c.inner scope.names y) → SndE w base s₀ r C cenv (c.inner scope.names y) vx pv) :
    SndC w base s₀ r C env c (fun use => comprehension (.DictComp kx vx [⟨.Name y py, iter, [], 0⟩] scope pos) scope env iter.pos newDict false (eval iter env) use) (.dcomp pk pv pi) := fun F P A m σ s Q E use QQ ok ca x h hnone hsome => by
  have hA := ca.calm hcalm
  refine wp_comp rfl (folded_noSet hset) hkind (local_names hc.nd) (wpAny_mono (h1 F P A m σ s _ E ok ca x h) (fun v s₁ h₁ => ?_) fun _ _ e => e)
  obtain ⟨av, m₁, σ₁, rv, x₁, vs, b, hit, hlim, Inv, hI0, hIL, hstep, hend⟩ := h₁
  refine comp_setup x₁ oke ok hA hc hkind rv hit (oD := { cls := .type "dict", data := .dict #[] }) rfl (fun Q s h => wpAny_newObj_type h) (fun e => hnone e m₁) (fun u e => (hsome u e).at m₁) fun I D cenv F₂ P₂ fp Pv St s₄ hs => ?_
  obtain ⟨okc, hfrm, xr, reset, W, hst, fI, fD, lI, lD, offI, offD, hID, hF3, ok2, hD⟩ := hs
  have hca : Cm cenv (c.inner scope.names y) A := ⟨fun _ => hA, hfrm ▸ ca.head⟩
  have loop : codeAny (model thePr w) A (.compLoop (.DictComp kx vx [⟨.Name y py, iter, [], 0⟩] scope pos) 0 (.ref I) (.ref D) cenv) (fun res s' => ∃ f, res = .ok f ∧ CompE w base s₀ cenv (c.inner scope.names y) F₂ P₂ σ₁ b D Q m₁ s') s₄ := by
    refine codeAny_compLoop_testsD (CompS w base s₀ cenv (c.inner scope.names y) F₂ P₂ vs.length (m₁ ++ [none]) Inv I D St fun acc => RO w (.dict acc)) (fun k s' hk => ?_) vs.length ⟨0, [], _, _, hI0, xr, lI, lD, hst, hD, ⟨[], ⟨#[], 0, ⟨rfl, rfl, rfl⟩, rfl, (fun _ h => by simp at h), Pairs.nil, List.nodup_nil⟩, .nil⟩, Nat.le_refl _, Nat.zero_le _, rfl⟩ (fun v => rfl)
    refine comp_turn W hA ok2 fI fD offI offD hID hF3 (fun acc o hr => RO.cls hr) hk (fun acc τ o s'' hI x₄ hτD ho hr hal => ⟨_, rfl, _, τ, _, .dict acc, x₄, hIL _ _ _ hI, hτD, ho, hr, rfl, rfl, hend acc τ hI hal⟩) fun i acc τ o v av F₅ P₅ s₅ hk hlt hI hal hr hav rv x₅ ok5 thaw => ?_
    subst hk
    refine wpAny_assign_Name (store_var x₅ okc (inner_var hc) rv fun s₆ x₆ => ?_)
    rw [put_last x₁.len] at x₆
    refine wpAny_tests_nil ?_
    rw [if_pos rfl]
    refine wpAny_mono (h2 cenv okc _ _ A _ _ s₆ _ _ ok5 hca x₆ (hstep i av acc τ hav hI hal)) (fun kv s₇ h₇ => ?_) fun _ _ e => e
    obtain ⟨kv', m₇, σ₇, rk, x₇, h₇⟩ := h₇
    refine wpAny_mono (h3 cenv okc _ _ A _ _ s₇ _ _ ok5 hca x₇ h₇) (fun z s₈ h₈ => ?_) fun _ _ e => e
    obtain ⟨zv, m₈, σ₈, rz, x₈, nn, rfl, h₈⟩ := h₈
    obtain ⟨tt, rfl⟩ := rk
    obtain ⟨x₉, hI9, hD9, ho, keep⟩ := thaw _ _ _ x₈
    obtain ⟨kvs, hd, pr⟩ := hr
    have hl := pr.length
    unfold lim at hlim
    refine wpAny_dictSet_pairs (knd := intKind thePr w) (k := nn) (kvs := kvs) (by simp [intKind, Value.isInt]) (Heap.dictOf_iff.mpr ⟨o, ho, hd⟩) (fun h'' hd' hs => ?_) (by rw [sizeLine_eq]; omega)
    obtain ⟨y', hy', hd''⟩ := Heap.dictOf_iff.mp hd'
    have rD : RO w (.dict (dput acc nn zv)) y' := ⟨_, hd'', pr.put nn rz⟩
    have x₁₁ := x₉.touch (h' := h'') (tk := s₈.toks + 1) ho fD hD9 offD (fun b o hb e => (hs.2 b hb).trans e) (.inr ⟨_, hy', rD.noF rfl⟩)
    exact CompS.step (reset _ _ _ x₁₁) hI9 hD9 (keep _ _ _ x₁₁ fun z e => (hs.2 I hID).trans e) hy' rD (Nat.le_trans (dput_len ..) (Nat.succ_le_succ hal)) hlt h₈
  refine codeAny_compStart_dict loop ((W.walks A hA).self 0 _ _ _ hst loop)

theorem sndE_of_comp {e : Expr} {p : PE} {run : Option (Value → Sem Unit) → Sem Value} (h : SndC w base s₀ r C env c run p) (he : eval e env = run none) : SndE w base s₀ r C env c e p := fun F P A m σ s Q E ok ca x hw => by
  rw [he]
  exact h F P A m σ s Q E none _ ok ca x hw (fun _ m D σ' s' x' hq => ⟨.ref D, m, σ', rfl, x', hq⟩) fun u e => by cases e

theorem snds_assign_swap (oke : EnvOk env c) {y : Str} {i : Nat} {e : Expr} {p : PE} {run : Option (Value → Sem Unit) → Sem Value} {pos npos : Pos} (hv : c.var y = some i) (h : SndC w base s₀ r C env c run p)
    (hs : swapsWith e (some (.Name y npos)) pos.line env = pure true) (he : ∀ u, evalThenUse e env u = (run (some u) >>= fun _ => pure ())) :
    SndS w base s₀ r C env c (.Assign [.Name y npos] e pos) (.assign i p) := fun F P A m σ s Q E ok ca x hw => by
  show wpAny _ A (do
    standAt pos
    if ← swapsWithSole [.Name y npos] e pos.line env then do
      evalThenUse e env fun v => assignAll v ((assignEach [.Name y npos] env).map (·.2))
      pure Flow.next
    else do
      let v ← eval e env
      assignStores env v (← swappedStores [.Name y npos] e env) ((assignEach [.Name y npos] env).map (·.2))) _ E s
  have hs' : swapsWithSole [.Name y npos] e pos.line env = pure true := hs
  refine wpAny_bind (wpAny_standAt (wpAny_bind ?_))
  rw [hs']
  refine wpAny_pure ?_
  rw [if_pos rfl, he]
  refine wpAny_bind (wpAny_bind (h F P A m σ s _ E _ _ ok ca x hw (fun e => by cases e) fun u e => ?_))
  cases e
  refine ⟨fun m σ => Q .next m σ, fun m D F₁ P₁ s' σ' x' hq => ?_, fun m'' σ'' s'' x'' hq => wpAny_pure (wpAny_pure ⟨.next, m'', σ'', .next, x'', hq⟩)⟩
  show wpAny _ A (assign (.Name y npos) env (.ref D)) _ E s'
  exact wpAny_assign_Name (store_var (v := .ref D) x' oke hv rfl fun s'' x'' => ⟨_, σ', x'', hq.2⟩)
end
end Mine
end
section
namespace Mine
open PySem PySem.W PyProof.Rows PySem.Calls
set_option maxRecDepth 100000

section
variable {w : World} {base : Heap} {s₀ : Shared} {mg mb : Str → Option Value} {r : Nat} {C : Ctr} {env : Env} {c : TC} {F : Addr → Option Obj} {P : Addr → Prop} {m : Mem} {σ σ' : Store} {s : Shared} {A : Around} {E : Value → Shared → Prop}

theorem Rep.slots (x : Rep w base s₀ env c F P m σ s) {S : List Addr} {h' : Heap} {tk : Nat} (hs : Heap.SlotsOnly S s.heap h') (hS : ∀ a ∈ S, base.get? a = none ∧ (a = env.locals ∨ ∃ o, F a = some o ∧ o.cls = .none)) : Rep w base s₀ env c F P m σ { s with heap := h', toks := tk } := by
  have other : ∀ b, b ∉ S → h'.get? b = s.heap.get? b := hs.2.1
  have nS : ∀ b, F b = none → b ≠ env.locals → b ∉ S := fun b hF hL hb => by
    rcases (hS b hb).2 with h | ⟨o, h, _⟩
    · exact hL h
    · rw [hF] at h; cases h
  have nR : ∀ b o, F b = some o → o.cls ≠ .none → b ≠ env.locals → b ∉ S := fun b o hF hc hL hb => by
    rcases (hS b hb).2 with h | ⟨o', h, hc'⟩
    · exact hL h
    · rw [hF] at h; cases h; exact hc hc'
  have hx : Ext w base s₀ F P σ { s with heap := h', toks := tk } := by
    obtain ⟨⟨hh, t, rfl⟩, x1, x2, x3, x4, x5, x6, x7, x8⟩ := x.ext
    refine ⟨⟨h', tk, rfl⟩, fun b o e => ?_, fun b o e hr => ?_, x3, x4, x5, x6, x7, fun b o e hr => ?_⟩
    · obtain ⟨y, h1, h2, h3⟩ := x1 b o e
      by_cases hb : b ∈ S
      · obtain ⟨sl, hsl⟩ := hs.2.2 b y h1
        refine ⟨_, hsl, h2, fun hc => ?_⟩
        obtain ⟨hn, hL | ⟨o', ho', hc'⟩⟩ := hS b hb
        · subst hL; rw [x.apart.1] at e; cases e
        · rw [e] at ho'; cases ho'
          rcases hc with hc | hc
          · exact absurd hc' hc
          · rw [hn] at hc; cases hc
      · exact ⟨y, (other b hb).trans h1, h2, h3⟩
    · obtain ⟨f1, y, f2, f3⟩ := x2 b o e hr
      exact ⟨f1, y, (other b (nS b f1 (by rintro rfl; rw [x.apart.2] at e; cases e))).trans f2, f3⟩
    · obtain ⟨u, d, v, h1, h2, h3, h4⟩ := x8 b o e hr
      obtain ⟨sl, hsl⟩ := hs.2.2 d v h3
      have hro : isRo o = false := by cases o <;> first | rfl | (cases hr; done)
      obtain ⟨f1, _⟩ := x2 b o e hro
      exact ⟨u, d, _, (other b (nS b f1 (by rintro rfl; rw [x.apart.2] at e; cases e))).trans h1, h2, hsl, h4⟩
  refine ⟨hx, x.len, ?_, x.apart, x.lhi, fun z hz => ?_, x.fre, x.fin⟩
  · obtain ⟨nm, ⟨o, es, ep, ho, hd, r⟩, h2⟩ := x.ns
    obtain ⟨sl, hsl⟩ := hs.2.2 _ o ho
    exact ⟨nm, ⟨_, es, ep, hsl, hd, r⟩, h2⟩
  · obtain ⟨a, o, h1, h2, h3, h4, h5, h6⟩ := x.cel z hz
    exact ⟨a, o, h1, h2, h3, h4, (other a (nS a h3 h2)).trans h5, h6⟩

theorem frames_fun (x : Rep w base s₀ env c F P m σ s) : ∀ {fr : List Env}, (∀ e ∈ fr, e.scope.kind ≠ .module ∧ ∃ L, e.frame = some L ∧ base.get? L = none ∧ (some L = some env.locals ∨ ∃ o, F L = some o ∧ o.cls = .none ∧ ∀ vs, o.data ≠ .fields vs)) → s.heap.FunFrames base fr
  | [], _ => trivial
  | e :: r, h => by
    obtain ⟨hk, L, h1, h2, h3⟩ := h e List.mem_cons_self
    refine ⟨hk, ?_, frames_fun x fun e' he' => h e' (List.mem_cons_of_mem _ he')⟩
    rcases h3 with h3 | ⟨o, h3, hc, hd⟩
    · cases h3
      obtain ⟨nm, ⟨o, es, ep, ho, hd, _⟩, _⟩ := x.ns
      exact ⟨_, o, h1, h2, ho, fun vs e => by rw [hd] at e; cases e⟩
    · obtain ⟨y, hy, hyd, _⟩ := x.ext.still L o h3
      exact ⟨L, y, h1, h2, hy, fun vs e => hd vs (hyd.symm.trans e)⟩

theorem note_new (x : Rep w base s₀ env c F P m σ s) (ok : OkA base r F (some env.locals) A) (ca : Cm env c A) {e : Addr} {oe : Obj} {vs : Array Value} (he : s.heap.get? e = some oe) (hd : oe.data = .fields vs) (h1 : vs[1]? = some .none) (hF : F e = none) (hσ : σ e = none) (hoff : Off env c e) (hbe : base.get? e = none) {Q : Unit → Shared → Prop}
    (h : ∀ s' tb otb tvs oe' vs', Rep w base s₀ env c F P m σ s' → F tb = none → σ tb = none → Off env c tb → s'.heap.get? tb = some otb → otb.data = .fields tvs → 3 < tvs.size → s'.heap.get? e = some oe' → oe'.cls = oe.cls → oe'.data = .fields vs' → vs'[1]? = some (.ref tb) → e ≠ tb → Q () s') :
    wpAny (model thePr w) A (noteFrame (.ref e) env) Q E s := by
  obtain ⟨e₀, outer, hfr, hf0⟩ := ca.head
  obtain ⟨fr, hfr', hall⟩ := ok.frames
  rw [hfr] at hfr'; cases hfr'
  obtain ⟨hk0, L, hL, hLb, hL2⟩ := hall e₀ List.mem_cons_self
  have hL' : env.frame = some L := hf0.symm.trans hL
  have hsz : 1 < vs.size := (Array.getElem?_eq_some_iff.mp h1).1
  unfold noteFrame
  simp only [hL']
  refine wpAny_bind (wpAny_field he hd h1 ?_)
  rw [if_neg (by decide)]
  unfold PySem.frameOf
  refine wpAny_bind (wpAny_bind (wpAny_frameEnvs hfr ?_))
  have hdw : ((e₀ :: outer).dropWhile fun x => x.frame != env.frame) = e₀ :: outer := by simp [List.dropWhile, hf0]
  rw [hdw]
  unfold frameObject
  refine wpAny_bind (wpAny_bind (wpAny_readyFrames_fun (frames_fun x hall) fun h₁ hs₁ => wpAny_pure ?_))
  have hS : ∀ a ∈ (e₀ :: outer).filterMap (·.frame), base.get? a = none ∧ (a = env.locals ∨ ∃ o, F a = some o ∧ o.cls = .none) := fun a ha => by
    obtain ⟨e', he', hfe⟩ := List.mem_filterMap.mp ha
    obtain ⟨_, L', g1, g2, g3⟩ := hall e' he'
    rw [hfe] at g1; cases g1
    refine ⟨g2, ?_⟩
    rcases g3 with g3 | ⟨o, g3, g4, _⟩
    · cases g3; exact .inl rfl
    · exact .inr ⟨o, g3, g4⟩
  have x₁ := x.slots (tk := s.toks) hs₁ hS
  have heS : e ∉ (e₀ :: outer).filterMap (·.frame) := fun hm => by
    rcases (hS e hm).2 with h | ⟨o, h, _⟩
    · exact hoff.1 h
    · rw [hF] at h; cases h
  have he₁ : h₁.get? e = some oe := (hs₁.2.1 e heS).trans he
  rw [hL]
  refine wpAny_pure ?_
  refine wpAny_bind (wpAny_entryPlaceOf fun pl hpl => ?_)
  unfold EntryCells.newEntry newFields
  refine wpAny_bind (wpAny_newObj_type ?_ (hpl.sizeOk5 _ _ _ _ _))
  generalize hot : ({ cls := .type "traceback", dict := none, data := .fields ([Value.none, .ref L, .none, rawInt L, .none] ++ (if pl.isEmpty then List.replicate 6 Value.none else pl)).toArray } : Obj) = ot
  have hotd : ot.data = .fields ([Value.none, .ref L, .none, rawInt L, .none] ++ (if pl.isEmpty then List.replicate 6 Value.none else pl)).toArray := by rw [← hot]
  have hofr : ot.isFreed = false := by rw [← hot]; rfl
  have he₂ : (h₁.push ot).get? e = some oe := Heap.get?_push_of_some _ he₁
  have x₂ := x₁.grow (h' := h₁.push ot) (tk := s.toks) fun b o hb => Heap.get?_push_of_some _ hb
  have hTn := get?_size h₁
  have hfT := x₁.ext.fresh hTn
  have hoffT := x₁.off hTn
  refine wpAny_setField he₂ hd hsz ?_
  have hTe : e ≠ h₁.objs.size := Nat.ne_of_lt (Heap.lt_size he₁)
  have hup := Heap.get?_update_self (h := h₁.push ot) (Obj.mapFields fun y => y.setIfInBounds 1 (.ref h₁.objs.size)) he₂ (Obj.isFreed_of_fields (Obj.data_mapFields hd _))
  have x₃ := x₂.touch (h' := (h₁.push ot).update e (Obj.mapFields fun y => y.setIfInBounds 1 (.ref h₁.objs.size))) (tk := s.toks) he₂ hF hσ hoff (fun b o hb hbo => (Heap.get?_update_other _ _ (Ne.symm hb)).trans hbo) (.inl ⟨vs, hd⟩)
  refine h _ h₁.objs.size ot _ _ _ x₃ hfT.2 hfT.1 hoffT ((Heap.get?_update_other _ _ hTe).trans (Heap.get?_push_size _ hofr)) hotd ?_ hup (Obj.cls_mapFields ..) (Obj.data_mapFields hd _) ?_ hTe
  · simp
  · simp [Array.getElem?_setIfInBounds, hsz]

theorem land (x : Rep w base s₀ env c F P m σ s) {e tb : Addr} {oe otb : Obj} {vs tvs : Array Value} (he : s.heap.get? e = some oe) (hd : oe.data = .fields vs) (h1 : vs[1]? = some (.ref tb)) (ht : s.heap.get? tb = some otb) (htd : otb.data = .fields tvs) (h3 : 3 < tvs.size)
    (hF : F tb = none) (hσ : σ tb = none) (hoff : Off env c tb) (hne : e ≠ tb) {Q : Unit → Shared → Prop}
    (h : ∀ s' otb' tvs', Rep w base s₀ env c F P m σ s' → s'.heap.get? e = some oe → s'.heap.get? tb = some otb' → otb'.data = .fields tvs' → 3 < tvs'.size → Q () s') : wpAny (model thePr w) A (setFlight (.ref e) none) Q E s := by
  refine wpAny_setFlight_none he hd h1 ht htd h3 ?_
  have x' := x.touch (h' := s.heap.update tb (Obj.mapFields fun x => x.setIfInBounds 3 Value.none)) (tk := s.toks) ht hF hσ hoff (fun b o hb hbo => (Heap.get?_update_other _ _ (Ne.symm hb)).trans hbo) (.inl ⟨tvs, htd⟩)
  refine h _ _ _ x' ((Heap.get?_update_other _ _ (Ne.symm hne)).trans he) (Heap.get?_update_self _ ht (Obj.isFreed_of_fields (Obj.data_mapFields htd _))) (Obj.data_mapFields htd _) ?_
  simpa using h3
end
end Mine
end
section
namespace Mine
open PySem PySem.W PyProof.Rows PySem.Calls
set_option maxRecDepth 100000

section
variable {w : World} {base : Heap} {s₀ : Shared} {mg mb : Str → Option Value} {r : Nat} {C : Ctr} {env : Env} {c : TC} {F : Addr → Option Obj} {P : Addr → Prop} {m : Mem} {σ σ' : Store} {s : Shared} {A : Around} {E : Value → Shared → Prop}

theorem check_next {it : Addr} : checkBoundCall "list_iterator.__next__" ⟨[.ref it], []⟩ = pure () := by first | kernel_rfl | rfl

theorem keeper_wrap {q it : Addr} {Q : Keeper → Shared → Prop} (hq : s.heap.get? q = some (wrapObj it)) (h : ∀ k, Q k s) : wpAny (model thePr w) A (keeperOf (.ref q)) Q E s := by
  unfold keeperOf
  refine wpAny_bind (wpAny_load hq ?_)
  simp only [show (Value.type "method-wrapper" != Value.type "method") = true by decide, show (Value.type "method-wrapper" == Value.type "builtin_function_or_method" || Value.type "method-wrapper" == Value.type "method-wrapper") = true by decide, if_true]
  exact wpAny_pure (h _)

theorem call_next {q it l : Addr} {i : Nat} {items : Array Value} {Q : Value → Shared → Prop} (hA : A.handled = none) (hq : s.heap.get? q = some (wrapObj it)) (hi : s.heap.get? it = some (literObj l i)) (hl : s.heap.IsList l items)
    (h : match items[i]? with
      | some x => ∀ h', h'.get? it = some (literObj l (i + 1)) → Heap.SameBut it s.heap h' → Q x { s with heap := h' }
      | none => ∀ h' e oe vs, Heap.ExtBut it s.heap h' → s.heap.get? e = none → h'.get? e = some oe → oe.cls = .type "StopIteration" → oe.data = .fields vs → vs[1]? = some .none → E (.ref e) { s with heap := h' }) :
    wpAny (model thePr w) A (call (.ref q) []) Q E s := by
  refine wpAny_call (codeAny_of_tree ?_)
  show wpAny _ A.in1 (callAny (.ref q) ⟨[], []⟩) _ _ s
  simp only [callAny]
  refine wpAny_bind (wpAny_load hq ?_)
  simp only [show (Value.type "method-wrapper" == Value.type "method" || Value.type "method-wrapper" == Value.type "builtin_function_or_method" || Value.type "method-wrapper" == Value.type "method-wrapper") = true by decide, if_true]
  show wpAny _ A.in1 (if (Value.type "method-wrapper" != Value.type "method") = true then (do checkBoundCall "list_iterator.__next__" ⟨[.ref it], []⟩; again (Code.builtin "list_iterator.__next__" ⟨[.ref it], []⟩)) else again (Code.call (.builtin "list_iterator.__next__") ⟨[.ref it], []⟩)) _ _ s
  rw [if_pos (by decide)]
  refine wpAny_bind (wpAny_of_eq (a := ()) check_next (wpAny_pure ?_))
  refine ⟨Code.quiet_builtin _ (by decide +kernel), codeAny_builtin entry_listiter_next ?_⟩
  obtain ⟨ol, hol, _, nl, hdl⟩ := hl
  have hd : (literObj l i).data = .fields #[.ref l, .int i 0] := rfl
  show wpAny _ _ (field (.ref it) 0 >>= _) _ _ s
  refine wpAny_bind (wpAny_field hi hd (x := .ref l) rfl ?_)
  show wpAny _ _ (if (Value.ref l == Value.none) = true then _ else _) _ _ s
  rw [if_neg (show ¬ ((Value.ref l == Value.none) = true) from Bool.false_ne_true)]
  show wpAny _ _ (field (.ref it) 1 >>= _) _ _ s
  refine wpAny_bind (wpAny_field hi hd (x := .int i 0) rfl ?_)
  show wpAny _ _ (seqItems? (.ref l) >>= _) _ _ s
  refine wpAny_bind (wpAny_seqItems hol hdl ?_)
  cases hx : items[i]? with
  | some x =>
    rw [hx] at h
    simp only [Int.toNat_natCast, hx]
    refine wpAny_bind (wpAny_setField hi hd (by simp) (wpAny_pure (h _ ?_ (Heap.SameBut.update ..))))
    rw [Heap.get?_update_self _ hi (Obj.isFreed_of_fields (Obj.data_mapFields hd _))]
    simp [Obj.mapFields, rawInt]
  | none =>
    rw [hx] at h
    simp only [Int.toNat_natCast, hx]
    refine wpAny_bind (wpAny_rule (wpAny_bind (wpAny_setField hi hd (by simp) ?_)))
    show wpAny _ _ (newExc (.type "StopIteration") [] >>= _) _ _ _
    refine wpAny_bind ?_
    simp only [newExc, newTuple]
    refine wpAny_bind (wpAny_newObj_type ?_ (by size_fits))
    refine wpAny_bind (m := firstArgMember _ _) (wpAny_of_eq (a := Value.none) (by first | rfl | (simp only [firstArgMember]; rfl)) ?_)
    refine wpAny_newObj_type ?_ (by size_fits)
    simp only [raiseNew]
    refine wpAny_bind (wpAny_handled ?_)
    rw [show (A.under (Code.builtin "list_iterator.__next__" ⟨[.ref it], []⟩)).handled = none from hA]
    refine wpAny_bind (wpAny_pure (wpAny_throw ?_))
    have hn : s.heap.get? ((s.heap.update it (Obj.mapFields fun x => x.setIfInBounds 0 Value.none)).push ({ cls := Value.type "tuple", data := Data.seq [].toArray } : Obj)).objs.size = none := by
      cases e : s.heap.get? ((s.heap.update it (Obj.mapFields fun x => x.setIfInBounds 0 Value.none)).push ({ cls := Value.type "tuple", data := Data.seq [].toArray } : Obj)).objs.size with
      | none => rfl
      | some o =>
        have h1 := Heap.lt_size e
        rw [Heap.size_push, Heap.size_after_update] at h1
        exact absurd h1 (Nat.not_lt.mpr (Nat.le_succ _))
    exact h _ _ _ _ (((Heap.SameBut.update ..).extBut.push _).push _) hn (Heap.get?_push_size _ rfl) rfl rfl rfl

theorem sub_stop_base : isSubtype (.type "StopIteration") (.type "BaseException") = pure true := by rw [isSubtype_type]; kernel_rfl
theorem sub_stop_tup : isSubtype (.type ((Manifest.find? "StopIteration").elim "type" fun x => x.metatype)) (.type "tuple") = pure false := by
  have : ((Manifest.find? "StopIteration").elim "type" fun x => x.metatype) = "type" := by kernel_rfl
  rw [this, isSubtype_type]; kernel_rfl

theorem glob_stop (w : World) : nsIn (hd.heap_39 w.params) mainGlobals (Str.ofString "StopIteration") = some none ∧ bootBuiltins (Str.ofString "StopIteration") = some (.type "StopIteration") := ⟨by kernel_rfl, by kernel_rfl⟩

theorem NsR.to {c' : TC} {h : Heap} {L : Addr} (hn : c'.names = c.names) (hv : c'.vt = c.vt) (x : NsR c m h L) : NsR c' m h L := by
  obtain ⟨nm, h1, h2⟩ := x
  exact ⟨nm, h1, by rw [hn, hv]; exact h2⟩
theorem CelR.to {c' : TC} {h : Heap} {z : Str} (hv : c'.vt = c.vt) (x : CelR env c F m σ h z) : CelR env c' F m σ h z := by
  obtain ⟨a, o, h1, h2, h3, h4, h5, h6, h7⟩ := x
  exact ⟨a, o, h1, h2, h3, h4, h5, h6, by rw [hv]; exact h7⟩
theorem Rep.recalm (x : Rep w base s₀ env c F P m σ s) (b : Bool) : Rep w base s₀ env { c with calm := b } F P m σ s := ⟨x.ext, x.len, NsR.to (c := c) (c' := { c with calm := b }) rfl rfl x.ns, x.apart, x.lhi, fun z hz => CelR.to (c := c) (c' := { c with calm := b }) rfl (x.cel z hz), x.fre, x.fin⟩
theorem Rep.ofRecalm {b : Bool} (x : Rep w base s₀ env { c with calm := b } F P m σ s) : Rep w base s₀ env c F P m σ s := ⟨x.ext, x.len, NsR.to (c := { c with calm := b }) (c' := c) rfl rfl x.ns, x.apart, x.lhi, fun z hz => CelR.to (c := { c with calm := b }) (c' := c) rfl (x.cel z hz), x.fre, x.fin⟩
theorem EnvOk.recalm (x : EnvOk env c) (b : Bool) : EnvOk env { c with calm := b } := ⟨x.kind, x.glob, x.bi, x.loc, x.cel, x.fre, x.gim, x.inj, x.lt, x.cells⟩

theorem snds_tryNext (B : Bs w base mg mb) (oke : EnvOk env c) {y : Str} {j : Nat} {f : Expr} {hb : Stmt} {hs : List Stmt} {pf : PE} {ph : PS} {pos py apos cpos bpos exp hpos : Pos} (hcalm : c.calm = true) (hex : c.names.lookup (Str.ofString "StopIteration") = some .globalImplicit) (hv : c.var y = some j)
    (hcall : eval (.Call f [] [] cpos) env = (do let fv ← eval f env; callWith cpos fv [] (backTo cpos (starEach [] env)) (backToKw cpos (keywordEach [] env))))
    (h1 : SndE w base s₀ r C env c f pf) (h2 : SndSs w base s₀ r C env { c with calm := false } (hb :: hs) ph) :
    SndS w base s₀ r C env c (.Try [.Assign [.Name y py] (.Call f [] [] cpos) apos, .Break bpos] [.ExceptHandler (some (.Name (Str.ofString "StopIteration") exp)) none (hb :: hs) hpos] [] [] pos) (.tryNext j pf ph) := fun F P A m σ s Q E ok ca x h => by
  have hA := ca.calm hcalm
  refine wpAny_Try_except (wpAny_execs_cons (wpAny_Assign_Name (Call_ (wpAny_mono (h1 F P A m σ s _ _ ok ca x h) (fun v s₁ h₁ => ?_) fun _ _ e => e) hcall) rfl))
  obtain ⟨av, m₁, σ₁, rv, x₁, q, it, l, i, xs, rfl, hq, hit, hl, hlim, hj, hcase, hcase'⟩ := h₁
  cases rv
  obtain ⟨yq, hyq, rq⟩ := x₁.ext.read hq
  cases rq
  obtain ⟨hFit, yit, hyit, rit⟩ := x₁.ext.own it _ hit rfl
  cases rit
  obtain ⟨items, n, e1, r1⟩ := x₁.ext.list hl
  refine callWith_any (first := []) ?_
  refine wpAny_pure ⟨fun Q' hq' => keeper_wrap hyq hq', ?_⟩
  refine call_next hA hyq hyit (isList_of e1) ?_
  cases hx : items[i]? with
  | some z =>
    obtain ⟨za, hza, rz⟩ := r1.at' (i := i) (v := z) (by simpa using hx)
    have hcase := hcase za hza
    clear hcase'
    intro h' hit' hsb
    have x₂ := x₁.upd (o' := .liter l (i + 1)) (h' := h') (tk := s₁.toks) hit rfl (fun b o hb' e => (hsb.2 b hb').trans e) hit' rfl rfl (by intro e; cases e) (.inr fun y hy => by cases hy; exact ⟨_, rfl⟩)
    refine store_var x₂ oke hv rz fun s₃ x₃ => ?_
    exact wpAny_execs_cons (wpAny_Break ⟨.brk, _, _, .brk, x₃, hcase⟩)
  | none =>
    have hxs : xs[i]? = none := by
      have hlen : xs.length = items.size := by simpa using r1.length
      have : items.size ≤ i := by simpa using hx
      simp; omega
    clear hcase
    have hcase := hcase' hxs
    clear hcase'
    intro h' e oe vs hext hen he hec hed h1'
    have heit : e ≠ it := by rintro rfl; rw [hen] at hyit; cases hyit
    have x₂ := x₁.del (h' := h') (tk := s₁.toks) hit rfl (fun b o hb' e => hext b o hb' e) (fun y hy => by cases hy; exact ⟨_, rfl⟩)
    have hfe := x₁.ext.fresh hen
    have hoff := x₁.off hen
    have hbe : base.get? e = none := by
      cases hb' : base.get? e with
      | none => rfl
      | some o => have := hfe.2; rw [x₁.ext.based e o hb'] at this; cases this
    have hσe : del σ₁ it e = none := by unfold del; rw [if_neg heit]; exact hfe.1
    refine note_new x₂ ok ca he hed h1' hfe.2 hσe hoff hbe fun s₃ tb otb tvs oe' vs' x₃ hFt hσt hofft ht htd h3 he' hec' hed' h1'' hne => ?_
    refine land x₃ he' hed' h1'' ht htd h3 hFt hσt hofft hne fun s₄ otb' tvs' x₄ he4 ht4 htd4 h34 => ?_
    refine wpAny_handleBy_builtin (X := "StopIteration") (T := "StopIteration") (b := true) sub_stop_base sub_stop_tup isSubtype_stop ?_
    have hkeep : ∀ b o, base.get? b = some o → s₄.heap.get? b = some o := fun b o e => x₄.ext.inBase e
    refine Name_function_global oke.kind (oke.gim _ hex) (loadGlobal_builtin (by rw [oke.glob]; exact B.g.keeps hkeep) (mg_none_of B.k B.g (glob_stop w).1) (by rw [oke.bi]; exact B.b.keeps hkeep) ((B.builtins _ (by decide)).trans (glob_stop w).2) ?_) (by decide)
    refine ⟨rfl, ⟨_, he4, hec'.trans hec⟩, ?_⟩
    rw [if_pos rfl]
    refine land x₄ he4 hed' h1'' ht4 htd4 h34 hFt hσt hofft hne fun s₅ otb5 tvs5 x₅ he5 ht5 htd5 h35 => ?_
    refine wpAny_mono (h2 F P (A.mark (some (.ref e))) m₁ _ s₅ _ _ ⟨ok.depth, ok.units, ok.frames⟩ ⟨(fun e => by cases e), ca.head⟩ (x₅.recalm false) hcase) (fun fl s₆ h₆ => ?_) fun _ _ e => e
    obtain ⟨fl', m₆, σ₆, rf, x₆, h₆⟩ := h₆
    exact ⟨fl', m₆, σ₆, rf, x₆.ofRecalm, h₆⟩
end
end Mine
end
section
namespace Mine
open PySem PySem.W PyProof.Rows PySem.Calls
set_option maxRecDepth 100000

section
variable {α β γ ε δ : Type} {x : Option α} {y : Option β} {z : Option γ} {u : Option ε} {d : δ} {G : Prop} {H : δ → Prop}
theorem no_some {p : α} {G : Prop} (h : (none : Option α) = some p) : G := nomatch h
theorem bk {f : α → Option δ} (h : x.bind f = some d) (k : ∀ a, f a = some d → G) : G := by
  cases x with
  | none => exact no_some h
  | some a => exact k a h
theorem bk' {f : α → Option δ} (h : x.bind f = some d) (k : ∀ a, x = some a → f a = some d → G) : G := by
  cases x with
  | none => exact no_some h
  | some a => exact k a rfl h
theorem gdk {b : Bool} {x : Option δ} (h : gd b x = some d) (k : b = true → x = some d → G) : G := by
  cases b with
  | true => exact k rfl h
  | false => exact no_some h
theorem altk {x y : Option δ} (h : alt x y = some d) (k : x = some d → G) (k' : y = some d → G) : G := by
  cases x with
  | none => exact k' h
  | some a => exact k h
theorem map1k {k : α → δ} (h : map1 k x = some d) (j : ∀ a, x = some a → H (k a)) : H d := bk' h fun a e h => by
  cases h; exact j a e
theorem map2k {k : α → β → δ} (h : map2 k x y = some d) (j : ∀ a b, x = some a → y = some b → H (k a b)) : H d := bk' h fun a e h => map1k h fun b e' => j a b e e'
theorem map3k {k : α → β → γ → δ} (h : map3 k x y z = some d) (j : ∀ a b c, x = some a → y = some b → z = some c → H (k a b c)) : H d := bk' h fun a e h => map2k h fun b c e' e'' => j a b c e e' e''
theorem map4k {k : α → β → γ → ε → δ} (h : map4 k x y z u = some d) (j : ∀ a b c o, x = some a → y = some b → z = some c → u = some o → H (k a b c o)) : H d := bk' h fun a e h => map3k h fun b c o e' e'' e3 => j a b c o e e' e'' e3
theorem and2 {a b : Bool} (h : (a && b) = true) (k : a = true → b = true → G) : G := by
  cases a with
  | true => exact k rfl h
  | false => nomatch h
theorem of_not {a : Bool} (h : (!a) = true) : a = false := by
  cases a with
  | true => nomatch h
  | false => rfl
end

section
variable {w : World} {base : Heap} {s₀ : Shared} {mg mb : Str → Option Value} {r : Nat} {C : Ctr} {env : Env} {c : TC} {e e' : Expr} {s s' : Stmt} {p : PE} {q : PT} {l : PL} {o : PS} {f : TC → Expr → Option PE} {g : TC → Expr → Option PT} {k : TC → List Stmt → Option PS}

theorem SndE.eq (h : e = e') (x : SndE w base s₀ r C env c e' p) : SndE w base s₀ r C env c e p := h ▸ x
theorem SndT.eq (h : e = e') (x : SndT w base s₀ r C env c e' q) : SndT w base s₀ r C env c e q := h ▸ x
theorem SndS.eq (h : s = s') (x : SndS w base s₀ r C env c s' o) : SndS w base s₀ r C env c s o := h ▸ x

noncomputable def FOk (w : World) (base : Heap) (s₀ : Shared) (r : Nat) (C : Ctr) (f : TC → Expr → Option PE) : Prop := ∀ {env c e p}, EnvOk env c → f c e = some p → SndE w base s₀ r C env c e p
noncomputable def GOk (w : World) (base : Heap) (s₀ : Shared) (r : Nat) (C : Ctr) (g : TC → Expr → Option PT) : Prop := ∀ {env c e p}, EnvOk env c → g c e = some p → SndT w base s₀ r C env c e p
noncomputable def KOk (w : World) (base : Heap) (s₀ : Shared) (r : Nat) (C : Ctr) (k : TC → List Stmt → Option PS) : Prop := ∀ {env c e p}, EnvOk env c → k c e = some p → SndSs w base s₀ r C env c e p

theorem tL_ok (hf : FOk w base s₀ r C f) (ok : EnvOk env c) : ∀ {es : List Expr} {l : PL}, tL f c es = some l → SndL w base s₀ r C env c es l
  | [], _, h => by cases h; exact SndL.nil
  | e :: es, l, h => gdk h fun hs h => map2k h fun a b ha hb => .cons (hf ok ha) (tL_ok hf ok hb) (of_not hs)

theorem kPE_ok {v : Const} {n : Nat} {pos : Pos} (h : kPE v = some p) : SndE w base s₀ r C env c (.Constant v n pos) p := by
  cases v with
  | int i => cases h; exact snd_int
  | none => cases h; exact snd_none
  | bool i => cases h; exact snd_bool
  | _ => exact no_some h
theorem tConst_ok (h : tConst e = some p) : SndE w base s₀ r C env c e p := bk h fun a h => .eq a.2 (kPE_ok h)
theorem tName_ok (B : Bs w base mg mb) (ok : EnvOk env c) (h : tName c e = some p) : SndE w base s₀ r C env c e p := bk h fun a h => .eq a.2 (snd_name B ok h)
theorem tBin_ok (hf : FOk w base s₀ r C f) (ok : EnvOk env c) (h : tBin f c e = some p) : SndE w base s₀ r C env c e p := bk h fun a h => map3k h fun o x y ho hx hy => .eq a.2 (snd_bin ho (hf ok hx) (hf ok hy))
theorem tNeg_ok (hf : FOk w base s₀ r C f) (ok : EnvOk env c) (h : tNeg f c e = some p) : SndE w base s₀ r C env c e p := bk h fun a h => gdk h fun hg h => map1k h fun x hx => .eq (of_decide_eq_true hg ▸ a.2) (snd_neg (hf ok hx))

inductive CmpOkP (w : World) (base : Heap) (s₀ : Shared) (r : Nat) (C : Ctr) (env : Env) (c : TC) : Expr → PE → Prop
  | mk {l rt : Expr} {op : CmpOp} {o : COp} {x y : PE} {pos : Pos} (hs : noSet rt = true) (ho : cop op = some o) (h1 : SndE w base s₀ r C env c l x) (h2 : SndE w base s₀ r C env c rt y) : CmpOkP w base s₀ r C env c (.Compare l [op] [rt] pos) (.cmp o x y)
theorem CmpOkP.eq (h : e = e') (x : CmpOkP w base s₀ r C env c e' p) : CmpOkP w base s₀ r C env c e p := h ▸ x
theorem tCmp_ok (hf : FOk w base s₀ r C f) (ok : EnvOk env c) (h : tCmp f c e = some p) : CmpOkP w base s₀ r C env c e p :=
  bk h fun a h => bk h fun o h => bk h fun b h => gdk h fun hs h => map3k h fun op x y ho hx hy => .eq (b.2 ▸ o.2 ▸ a.2) (.mk hs ho (hf ok hx) (hf ok hy))
theorem CmpOkP.toE (h : CmpOkP w base s₀ r C env c e p) : SndE w base s₀ r C env c e p := by
  cases h with | mk hs ho h1 h2 => exact snd_cmp hs ho h1 h2
theorem CmpOkP.t (h : CmpOkP w base s₀ r C env c e p) : SndT w base s₀ r C env c e (.tv p) := by
  cases h with | mk hs ho h1 h2 => exact snd_tv_cmp hs ho h1 h2

theorem tOr_ok (hf : FOk w base s₀ r C f) (ok : EnvOk env c) (h : tOr f c e = some p) : SndE w base s₀ r C env c e p :=
  bk h fun a h => bk h fun b h => gdk h fun hg h => map2k h fun x y hx hy => .eq (b.2 ▸ of_decide_eq_true hg ▸ a.2) (snd_or (hf ok hx) (hf ok hy))
theorem tIte_ok (hf : FOk w base s₀ r C f) (hg : GOk w base s₀ r C g) (ok : EnvOk env c) (h : tIte f g c e = some p) : SndE w base s₀ r C env c e p :=
  bk h fun a h => map3k h fun t x y ht hx hy => .eq a.2 (snd_ite (hg ok ht) (hf ok hx) (hf ok hy))
theorem tWal_ok (hf : FOk w base s₀ r C f) (ok : EnvOk env c) (h : tWal f c e = some p) : SndE w base s₀ r C env c e p :=
  bk h fun a h => bk h fun y h => map2k h fun i x hi hx => .eq (y.2 ▸ a.2) (snd_walrus ok hi (hf ok hx))
theorem tDict_ok (h : tDict e = some p) : SndE w base s₀ r C env c e p :=
  bk h fun a h => bk h fun x h => bk h fun y h => by
    cases h
    have q := a.2
    rw [x.2, y.2] at q
    exact .eq q snd_edict
theorem tList_ok (hf : FOk w base s₀ r C f) (ok : EnvOk env c) (h : tList f c e = some p) : SndE w base s₀ r C env c e p := bk h fun a h => map1k h fun l hl => .eq a.2 (snd_list (tL_ok hf ok hl))
theorem tTup_ok (hf : FOk w base s₀ r C f) (ok : EnvOk env c) (h : tTup f c e = some p) : SndE w base s₀ r C env c e p := bk h fun a h => map1k h fun l hl => .eq a.2 (snd_tuple (tL_ok hf ok hl))

theorem tMeth_ok (B : Bs w base mg mb) (hC : SoundC w base s₀ r C) (hf : FOk w base s₀ r C f) (ok : EnvOk env c) (h : tMeth f c e = some p) : SndE w base s₀ r C env c e p :=
  bk h fun a h => bk h fun n h => bk h fun b h => gdk h fun hg h => bk' h fun m hm h => and2 hg fun hg h3 => and2 hg fun h1 h2 =>
  .eq (b.2 ▸ n.2 ▸ a.2) (altk h
    (fun h => bk h fun v h => bk h fun s h => gdk h fun hg h => and2 hg fun h4 h5 => map3k h fun x y z hx hy hz =>
      .eq (congrArg (fun l => Expr.Call _ l _ _) (v.2.trans (congrArg (fun x => [v.1.1, x]) s.2))) (snd_mcallS B hC ok h1 (of_not h5) (mem_of_lookupG hm) h4 (hf ok hx) (hf ok hy) (hf ok hz)))
    fun h => gdk h fun hg h => map2k h fun x y hx hy => snd_mcall B hC ok h1 h2 (of_decide_eq_true h3) (mem_of_lookupG hm) (by simpa using hg) (hf ok hx) (tL_ok hf ok hy))
theorem tCall_ok (B : Bs w base mg mb) (hC : SoundC w base s₀ r C) (hf : FOk w base s₀ r C f) (ok : EnvOk env c) (h : tCall f c e = some p) : SndE w base s₀ r C env c e p :=
  bk h fun a h => bk h fun n h => bk h fun y h => gdk h fun hg h => map2k h fun x l hx hl => .eq (y.2 ▸ n.2 ▸ a.2) (snd_call B hC ok hg (.eq y.2.symm (hf ok hx)) (tL_ok hf ok hl))
theorem tAttr_ok (B : Bs w base mg mb) (hf : FOk w base s₀ r C f) (ok : EnvOk env c) (h : tAttr f c e = some p) : SndE w base s₀ r C env c e p :=
  bk h fun a h => gdk h fun hg h => map2k h fun n b hn hb => .eq a.2 (snd_attr B hg hn (hf ok hb))
theorem tSl_ok (hf : FOk w base s₀ r C f) (ok : EnvOk env c) {o : Expr} {u v t : Option Expr} {sp pos : Pos} (h : tSl f c o u v t = some p) : SndE w base s₀ r C env c (.Subscript o (.Slice u v t sp) pos) p := by
  rcases u with _ | u <;> rcases v with _ | v <;> rcases t with _ | t
  · exact no_some h
  · exact no_some h
  · exact map2k h fun x y hx hy => snd_sliceTo (hf ok hx) (hf ok hy)
  · exact no_some h
  · exact map2k h fun x y hx hy => snd_sliceFrom (hf ok hx) (hf ok hy)
  · exact map3k h fun x y z hx hy hz => snd_sliceStep (hf ok hx) (hf ok hy) (hf ok hz)
  · exact no_some h
  · exact no_some h
theorem tSub_ok (hf : FOk w base s₀ r C f) (ok : EnvOk env c) (h : tSub f c e = some p) : SndE w base s₀ r C env c e p :=
  bk h fun a h => gdk h fun hg h => map2k h fun x y hx hy => .eq a.2 (snd_sub (of_not hg) (hf ok hx) (hf ok hy))
theorem tSlice_ok (hf : FOk w base s₀ r C f) (ok : EnvOk env c) (h : tSlice f c e = some p) : SndE w base s₀ r C env c e p :=
  bk h fun a h => bk h fun s h => .eq (s.2 ▸ a.2) (tSl_ok hf ok h)

inductive LcOk (w : World) (base : Heap) (s₀ : Shared) (r : Nat) (C : Ctr) (env : Env) (c : TC) (p : PE) : Expr → Prop
  | lc {elt iter : Expr} {y : Str} {py pos : Pos} {ifs : List Expr} {scope : Scope} (h : SndC w base s₀ r C env c (fun use => comprehension (.ListComp elt [⟨.Name y py, iter, ifs, 0⟩] scope pos) scope env iter.pos (newList []) false (eval iter env) use) p) : LcOk w base s₀ r C env c p (.ListComp elt [⟨.Name y py, iter, ifs, 0⟩] scope pos)
  | dc {kx vx iter : Expr} {y : Str} {py pos : Pos} {scope : Scope} (h : SndC w base s₀ r C env c (fun use => comprehension (.DictComp kx vx [⟨.Name y py, iter, [], 0⟩] scope pos) scope env iter.pos newDict false (eval iter env) use) p) : LcOk w base s₀ r C env c p (.DictComp kx vx [⟨.Name y py, iter, [], 0⟩] scope pos)
theorem LcOk.eq (h : e = e') (x : LcOk w base s₀ r C env c p e') : LcOk w base s₀ r C env c p e := h ▸ x
theorem LcOk.toE (h : LcOk w base s₀ r C env c p e) : SndE w base s₀ r C env c e p := by
  cases h with
  | lc h => exact sndE_of_comp h rfl
  | dc h => exact sndE_of_comp h rfl
theorem comp_eq {n : Comprehension} {y : Str} {t : Pos} (h1 : n.target = .Name y t) (h2 : n.is_async = 0) : n = ⟨.Name y t, n.iter, n.ifs, 0⟩ := by
  cases n; cases h1; cases h2; rfl
theorem tIf_ok (hg : GOk w base s₀ r C g) (ok : EnvOk env c) {ifs : List Expr} (h : tIf g c ifs = some q) : SndI w base s₀ r C env c ifs q := by
  rcases ifs with _ | ⟨t, _ | ⟨t', ts⟩⟩
  · cases h; exact sndI_nil
  · exact sndI_one (hg ok h)
  · exact no_some h
theorem ask_k {iter : Expr} {scope : Scope} {y : Str} {z : Int} {G : Prop} (h : compAsk c iter scope y z = true) (k : noSet iter = true → c.calm = true → scope.kind = .function → CompOk c scope.names y → z = 0 → G) : G :=
  and2 h fun h h5 => and2 h fun h h4 => and2 h fun h h3 => and2 h fun h1 h2 => k h1 h2 (eq_of_beq h3) (compOk_of h4) (of_decide_eq_true h5)
theorem tLC_ok (hf : FOk w base s₀ r C f) (hg : GOk w base s₀ r C g) (ok : EnvOk env c) (h : tLC f g c e = some p) : LcOk w base s₀ r C env c p e :=
  bk h fun a h => bk h fun n h => bk h fun y h => gdk h fun ha h => ask_k ha fun h1 h2 h3 h4 h5 => map3k (H := fun p => LcOk w base s₀ r C env c p e) h fun i t v hi ht hv =>
  .eq (a.2.trans (congrArg (fun g => Expr.ListComp _ g _ _) (n.2.trans (congrArg (fun x => [x]) (comp_eq y.2 h5))))) (.lc (snd_lcomp ok h1 h2 h3 h4 (hf ok hi) (fun cenv okc => tIf_ok hg okc ht) fun cenv okc => hf okc hv))
theorem tDC_ok (hf : FOk w base s₀ r C f) (ok : EnvOk env c) (h : tDC f c e = some p) : LcOk w base s₀ r C env c p e :=
  bk h fun a h => bk h fun n h => bk h fun y h => bk h fun z h => gdk h fun ha h => ask_k ha fun h1 h2 h3 h4 h5 => map3k (H := fun p => LcOk w base s₀ r C env c p e) h fun i t v hi ht hv =>
  .eq (a.2.trans (congrArg (fun g => Expr.DictComp _ _ g _ _) (n.2.trans (congrArg (fun x => [x]) (z.2 ▸ comp_eq y.2 h5))))) (.dc (snd_dcomp ok h1 h2 h3 h4 (hf ok hi) (fun cenv okc => hf okc ht) fun cenv okc => hf okc hv))
theorem tComp_ok (hf : FOk w base s₀ r C f) (hg : GOk w base s₀ r C g) (ok : EnvOk env c) (h : tComp f g c e = some p) : LcOk w base s₀ r C env c p e :=
  altk h (fun h => tLC_ok hf hg ok h) fun h => tDC_ok hf ok h

theorem tE_ok (B : Bs w base mg mb) (hC : SoundC w base s₀ r C) (hf : FOk w base s₀ r C f) (hg : GOk w base s₀ r C g) : FOk w base s₀ r C (tE f g) := fun ok h =>
  altk h tConst_ok fun h => altk h (tName_ok B ok) fun h => altk h (tBin_ok hf ok) fun h => altk h (tNeg_ok hf ok) fun h => altk h (fun h => (tCmp_ok hf ok h).toE) fun h => altk h (tOr_ok hf ok) fun h => altk h (tIte_ok hf hg ok) fun h =>
  altk h (tWal_ok hf ok) fun h => altk h tDict_ok fun h => altk h (tList_ok hf ok) fun h => altk h (tTup_ok hf ok) fun h => altk h (tMeth_ok B hC hf ok) fun h => altk h (tCall_ok B hC hf ok) fun h => altk h (tAttr_ok B hf ok) fun h =>
  altk h (tSub_ok hf ok) fun h => altk h (tSlice_ok hf ok) fun h => (tComp_ok hf hg ok h).toE

theorem tNot_ok (hg : GOk w base s₀ r C g) (ok : EnvOk env c) (h : tNot g c e = some q) : SndT w base s₀ r C env c e q :=
  bk h fun a h => gdk h fun ha h => map1k h fun x hx => .eq (of_decide_eq_true ha ▸ a.2) (snd_not (hg ok hx))
theorem tAnd_ok (hg : GOk w base s₀ r C g) (ok : EnvOk env c) (h : tAnd g c e = some q) : SndT w base s₀ r C env c e q :=
  bk h fun a h => bk h fun b h => gdk h fun ha h => map2k h fun x y hx hy => .eq (b.2 ▸ of_decide_eq_true ha ▸ a.2) (snd_and (hg ok hx) (hg ok hy))
theorem tOrT_ok (hg : GOk w base s₀ r C g) (ok : EnvOk env c) (h : tOrT g c e = some q) : SndT w base s₀ r C env c e q :=
  bk h fun a h => bk h fun b h => gdk h fun ha h => map2k h fun x y hx hy => .eq (b.2 ▸ of_decide_eq_true ha ▸ a.2) (snd_or_t (hg ok hx) (hg ok hy))
theorem tT_ok (hf : FOk w base s₀ r C f) : ∀ n, GOk w base s₀ r C (tT f n)
  | 0 => fun _ h => no_some h
  | n + 1 => fun ok h => altk h (tNot_ok (tT_ok hf n) ok) fun h => altk h (tAnd_ok (tT_ok hf n) ok) fun h => altk h (tOrT_ok (tT_ok hf n) ok) fun h =>
      altk h (fun h => map1k h fun x hx => (tCmp_ok hf ok hx).t) fun h => gdk h fun ha h => map1k h fun x hx => snd_tv ha (hf ok hx)
theorem tr_ok (B : Bs w base mg mb) (hC : SoundC w base s₀ r C) : ∀ n, FOk w base s₀ r C (tr n)
  | 0 => fun _ h => no_some h
  | n + 1 => fun ok h => tE_ok B hC (tr_ok B hC n) (tT_ok (tr_ok B hC n) n) ok h
end
end Mine
end
section
namespace Mine
open PySem PySem.W PyProof.Rows PySem.Calls
set_option maxRecDepth 100000

section
variable {w : World} {base : Heap} {s₀ : Shared} {mg mb : Str → Option Value} {r : Nat} {C : Ctr} {env : Env} {c : TC} {s : Stmt} {p : PS} {f : TC → Expr → Option PE} {g : TC → Expr → Option PT} {k : TC → List Stmt → Option PS} {t v : Expr} {pos : Pos}

theorem two_swaps {x : Sem Bool} {b : Bool} (e : x = pure b) {G : Prop} (h0 : x = pure false → G) (h1 : x = pure true → G) : G := by
  cases b with
  | false => exact h0 e
  | true => exact h1 e
theorem comp_assign (ok : EnvOk env c) {y : Str} {q : Pos} {i : Nat} {a : PE} (hv : c.var y = some i) (h : LcOk w base s₀ r C env c a v) : SndS w base s₀ r C env c (.Assign [.Name y q] v pos) (.assign i a) := by
  have he := h.toE
  cases h with
  | lc h => exact two_swaps rfl (fun e => snds_assign ok hv he e) fun e => snds_assign_swap ok hv h e fun u => rfl
  | dc h => exact two_swaps rfl (fun e => snds_assign ok hv he e) fun e => snds_assign_swap ok hv h e fun u => rfl

theorem aName_ok (hf : FOk w base s₀ r C f) (hg : GOk w base s₀ r C g) (ok : EnvOk env c) (h : aName f g c t v = some p) : SndS w base s₀ r C env c (.Assign [t] v pos) p :=
  bk h fun y h => map2k h fun i a hi ha => .eq (congrArg (fun t => Stmt.Assign [t] v pos) y.2) (altk ha (fun ha => gdk ha fun hc ha => snds_assign ok hi (hf ok ha) (swaps_noComp (of_not hc))) fun ha => comp_assign ok hi (tComp_ok hf hg ok ha))
theorem aTup_ok (hf : FOk w base s₀ r C f) (ok : EnvOk env c) (h : aTup f c t v = some p) : SndS w base s₀ r C env c (.Assign [t] v pos) p :=
  bk h fun u h => bk h fun b h => bk h fun x h => bk h fun y h => bk h fun z h => gdk h fun hg h => and2 hg fun hg h3 => and2 hg fun h1 h2 => map4k h fun i j l a hi hj hl ha =>
  .eq (congrArg (fun t => Stmt.Assign [t] v pos) (u.2.trans (congrArg (fun l => Expr.Tuple l _ _) (z.2 ▸ y.2 ▸ x.2 ▸ b.2)))) (snds_assign3 ok h3 (of_not h1) (of_not h2) hi hj hl (hf ok ha))
theorem aSub_ok (hf : FOk w base s₀ r C f) (ok : EnvOk env c) (h : aSub f c t v = some p) : SndS w base s₀ r C env c (.Assign [t] v pos) p :=
  bk h fun a h => gdk h fun hg h => map3k h fun x y z hx hy hz => .eq (congrArg (fun t => Stmt.Assign [t] v pos) a.2) (snds_setItem (hf ok hx) (hf ok hy) (hf ok hz))
theorem aAttr_ok (B : Bs w base mg mb) (hf : FOk w base s₀ r C f) (ok : EnvOk env c) (h : aAttr f c t v = some p) : SndS w base s₀ r C env c (.Assign [t] v pos) p :=
  bk h fun a h => map3k h fun n x y hn hx hy => .eq (congrArg (fun t => Stmt.Assign [t] v pos) a.2) (snds_setAttr B (mem_of_lookupG hn) (hf ok hx) (hf ok hy))
theorem tAs1_ok (B : Bs w base mg mb) (hf : FOk w base s₀ r C f) (hg : GOk w base s₀ r C g) (ok : EnvOk env c) (h : tAs1 f g c s = some p) : SndS w base s₀ r C env c s p :=
  bk h fun a h => bk h fun t h => .eq (t.2 ▸ a.2) (altk h (aName_ok hf hg ok) fun h => altk h (aTup_ok hf ok) fun h => altk h (aSub_ok hf ok) (aAttr_ok B hf ok))
theorem tAs2_ok (hf : FOk w base s₀ r C f) (ok : EnvOk env c) (h : tAs2 f c s = some p) : SndS w base s₀ r C env c s p :=
  bk h fun a h => bk h fun t h => bk h fun b h => bk h fun y h => gdk h fun hg h => map4k h fun j x o i hj hx ho hi =>
  .eq (a.2.trans (congrArg (fun l => Stmt.Assign l _ _) (y.2 ▸ b.2 ▸ t.2))) (snds_setItemVar ok hj (hf ok hx) (hf ok ho) (hf ok hi))
theorem tExprS_ok (hf : FOk w base s₀ r C f) (ok : EnvOk env c) (h : tExprS f c s = some p) : SndS w base s₀ r C env c s p :=
  bk h fun a h => gdk h fun hg h => map1k h fun x hx => .eq a.2 (snds_expr ok (of_not hg) (hf ok hx))
theorem tPass_ok (h : tPass s = some p) : SndS w base s₀ r C env c s p := bk h fun a h => by cases h; exact .eq a.2 snds_pass
theorem tBreak_ok (h : tBreak s = some p) : SndS w base s₀ r C env c s p := bk h fun a h => by cases h; exact .eq a.2 snds_break
theorem tCont_ok (h : tCont s = some p) : SndS w base s₀ r C env c s p := bk h fun a h => by cases h; exact .eq a.2 snds_continue
theorem tBad_ok (h : tBad s = some p) : SndS w base s₀ r C env c s p := gdk h fun _ h => by cases h; exact snds_bad
theorem tRet0_ok (h : tRet0 s = some p) : SndS w base s₀ r C env c s p := bk h fun a h => gdk h fun hg h => by
  cases h
  exact .eq (a.2.trans (congrArg (fun v => Stmt.Return v _) (Option.isNone_iff_eq_none.mp hg))) snds_ret0
theorem tRet_ok (hf : FOk w base s₀ r C f) (ok : EnvOk env c) (h : tRet f c s = some p) : SndS w base s₀ r C env c s p :=
  bk h fun a h => bk' h fun e he h => map1k h fun x hx => .eq (he ▸ a.2) (snds_ret (hf ok hx))
theorem aug_or {o : BOp} (h : (decide (o = .add) || decide (o = .sub)) = true) : o = .add ∨ o = .sub := by
  rcases (Bool.or_eq_true ..).mp h with h | h
  · exact .inl (of_decide_eq_true h)
  · exact .inr (of_decide_eq_true h)
theorem tAug_ok (B : Bs w base mg mb) (hf : FOk w base s₀ r C f) (ok : EnvOk env c) (h : tAug f c s = some p) : SndS w base s₀ r C env c s p :=
  bk h fun a h => altk h
    (fun h => bk h fun t h => bk' h fun n hn h => bk' h fun o ho h => gdk h fun hg h => and2 hg fun h1 h2 => map2k h fun x y hx hy =>
      .eq (t.2 ▸ a.2) (snds_augAttr B (mem_of_lookupG hn) (by simpa using h2) ho (aug_or h1) (hf ok hy) (hf ok hx)))
    fun h => bk h fun t h => bk' h fun o ho h => gdk h fun hg h => and2 hg fun h1 h2 => map3k h fun x y z hx hy hz =>
      .eq (t.2 ▸ a.2) (snds_augSub (of_not h1) ho (aug_or h2) (hf ok hz) (hf ok hx) (hf ok hy))
theorem tDel_ok (hf : FOk w base s₀ r C f) (ok : EnvOk env c) (h : tDel f c s = some p) : SndS w base s₀ r C env c s p :=
  bk h fun a h => bk h fun t h => bk h fun b h => gdk h fun hg h => map2k h fun x y hx hy => .eq (b.2 ▸ t.2 ▸ a.2) (snds_delSub (hf ok hx) (hf ok hy))
theorem tIfS_ok (hg : GOk w base s₀ r C g) (hk : KOk w base s₀ r C k) (ok : EnvOk env c) (h : tIfS g k c s = some p) : SndS w base s₀ r C env c s p :=
  bk h fun a h => map3k h fun t x y ht hx hy => .eq a.2 (snds_if (hg ok ht) (hk ok hx) (hk ok hy))
theorem tWhile_ok (hg : GOk w base s₀ r C g) (hk : KOk w base s₀ r C k) (ok : EnvOk env c) (h : tWhile g k c s = some p) : SndS w base s₀ r C env c s p :=
  bk h fun a h => map3k h fun t x y ht hx hy => .eq a.2 (snds_while (hg ok ht) (hk ok hx) (hk ok hy))
theorem for_eq {t t' it : Expr} {b e : List Stmt} (h : s = .For t it b e pos) (h1 : e = []) (h2 : t = t') : s = .For t' it b [] pos := h2 ▸ h1 ▸ h
theorem tFor_ok (hf : FOk w base s₀ r C f) (hk : KOk w base s₀ r C k) (ok : EnvOk env c) (h : tFor f k c s = some p) : SndS w base s₀ r C env c s p :=
  bk h fun a h => bk h fun n h => gdk h fun hg h => and2 hg fun h1 h2 => altk h
    (fun h => bk h fun y h => map3k h fun i x b hi hx hb => .eq (y.2 ▸ n.2 ▸ a.2) (snds_each ok h1 h2 hi (hf ok hx) (hk ok hb)))
    fun h => bk h fun u h => bk h fun e h => bk h fun y h => bk h fun z h => map4k h fun i j x b hi hj hx hb =>
      .eq (for_eq a.2 n.2 (u.2.trans (congrArg (fun l => Expr.Tuple l _ _) (z.2 ▸ y.2 ▸ e.2)))) (snds_each2 ok h1 h2 hi hj (hf ok hx) (hk ok hb))
theorem eval_call0 {q : Expr} {o i : Expr} {qp cp : Pos} (h : q = .Subscript o i qp) : eval (.Call q [] [] cp) env = (do let fv ← eval q env; callWith cp fv [] (backTo cp (starEach [] env)) (backToKw cp (keywordEach [] env))) := by
  subst h; rfl
theorem try_eq {b e f : List Stmt} {hs hs' : List ExceptHandler} {s1 s2 s1' s2' : Stmt} (e0 : s = .Try b hs e f pos) (e1 : b = [s1, s2]) (e2 : s1 = s1') (e3 : s2 = s2') (e4 : hs = hs') (e6 : e = []) (e7 : f = []) : s = .Try [s1', s2'] hs' [] [] pos := by rw [e0, e1, e2, e3, e4, e6, e7]
theorem tTry_ok (B : Bs w base mg mb) (hf : FOk w base s₀ r C f) (hk : KOk w base s₀ r C k) (ok : EnvOk env c) (h : tTry f k c s = some p) : SndS w base s₀ r C env c s p :=
  bk h fun a h => bk h fun b h => bk h fun q h => bk h fun br h => bk h fun hd h => bk h fun n3 h => bk h fun n4 h => bk h fun sb h => gdk h fun hg h => and2 hg fun h2 h3 => map3k h fun i u v hi hu hv =>
  .eq (try_eq a.2 b.2 q.2 br.2 hd.2 n3.2 n4.2) (snds_tryNext B ok h3 (eq_of_beq h2) hi (eval_call0 sb.2) (hf ok hu) (hk (ok.recalm false) hv))
theorem tStep_ok (B : Bs w base mg mb) (hf : FOk w base s₀ r C f) (hg : GOk w base s₀ r C g) (hk : KOk w base s₀ r C k) (ok : EnvOk env c) (h : tStep f g k c s = some p) : SndS w base s₀ r C env c s p :=
  altk h (tExprS_ok hf ok) fun h => altk h tPass_ok fun h => altk h tBreak_ok fun h => altk h tCont_ok fun h => altk h tRet0_ok fun h => altk h (tRet_ok hf ok) fun h => altk h (tAs1_ok B hf hg ok) fun h => altk h (tAs2_ok hf ok) fun h => altk h (tAug_ok B hf ok) fun h =>
  altk h (tDel_ok hf ok) fun h => altk h (tIfS_ok hg hk ok) fun h => altk h (tWhile_ok hg hk ok) fun h => altk h (tFor_ok hf hk ok) fun h => altk h (tTry_ok B hf hk ok) tBad_ok
theorem tSs_ok {h : TC → Stmt → Option PS} (hh : ∀ {env c s p}, EnvOk env c → h c s = some p → SndS w base s₀ r C env c s p) (ok : EnvOk env c) : ∀ {b : List Stmt} {p : PS}, tSs h c b = some p → SndSs w base s₀ r C env c b p
  | [], _, e => by cases e; exact snds_nil
  | s :: b, p, e => map2k e fun x y hx hy => snds_cons (hh ok hx) (tSs_ok hh ok hy)
theorem tS_ok (B : Bs w base mg mb) (hf : FOk w base s₀ r C f) (hg : GOk w base s₀ r C g) : ∀ n {env c s p}, EnvOk env c → tS f g n c s = some p → SndS w base s₀ r C env c s p
  | 0, _, _, _, _, _, h => no_some h
  | n + 1, _, _, _, _, ok, h => tStep_ok B hf hg (fun ok h => tSs_ok (tS_ok B hf hg n) ok h) ok h
theorem trSs_ok (B : Bs w base mg mb) (hC : SoundC w base s₀ r C) {n : Nat} (ok : EnvOk env c) {b : List Stmt} (h : trSs n c b = some p) : SndSs w base s₀ r C env c b p :=
  tSs_ok (tS_ok B (tr_ok B hC n) (tT_ok (tr_ok B hC n) n) n) ok h
end
end Mine
end
section
namespace Mine
open PySem PySem.W PyProof.Rows PySem.Calls
set_option maxRecDepth 100000

noncomputable def memOf (c : TC) : List (Str × AV) → Mem → Mem
  | [], m => m
  | (x, v) :: r, m => match c.vt.lookup x with
    | some i => memOf c r (put m i v)
    | none => memOf c r m

inductive BindR : List (Str × AV) → List (Str × Value) → Prop
  | nil : BindR [] []
  | cons {x a v r r'} : a.R v → BindR r r' → BindR ((x, a) :: r) ((x, v) :: r')

theorem numbered_ge : ∀ (names : List (Str × NameKind)) (k : Nat) {x : Str} {i : Nat}, (x, i) ∈ numbered k names → k ≤ i ∧ i < k + (numbered k names).length
  | [], _, _, _, h => nomatch h
  | (n, kd) :: r, k, x, i, h => by
    unfold numbered at h ⊢
    split at h
    · rename_i hk
      rw [if_pos hk]
      rcases List.mem_cons.mp h with h | h
      · cases h; simp
      · have := numbered_ge r (k + 1) h
        simp only [List.length_cons]; omega
    · rename_i hk
      rw [if_neg hk]; exact numbered_ge r k h
theorem numbered_inj : ∀ (names : List (Str × NameKind)) (k : Nat) {x y : Str} {i : Nat}, (x, i) ∈ numbered k names → (y, i) ∈ numbered k names → x = y
  | [], _, _, _, _, h, _ => nomatch h
  | (n, kd) :: r, k, x, y, i, h, h' => by
    unfold numbered at h h'
    split at h
    · rename_i hk
      rw [if_pos hk] at h'
      rcases List.mem_cons.mp h with h | h <;> rcases List.mem_cons.mp h' with h' | h'
      · cases h; cases h'; rfl
      · cases h; have := numbered_ge r _ h'; omega
      · cases h'; have := numbered_ge r _ h; omega
      · exact numbered_inj r _ h h'
    · rename_i hk
      rw [if_neg hk] at h'
      exact numbered_inj r _ h h'

section
variable {w : World} {base : Heap} {s₀ : Shared} {mg mb : Str → Option Value} {r : Nat} {C : Ctr} {F : Addr → Option Obj} {P : Addr → Prop} {σ : Store} {s : Shared} {A : Around} {E : Value → Shared → Prop}

theorem bind_all {env : Env} {c : TC} (oke : EnvOk env c) {m : Mem} (f : Str × Value → PUnit → Sem (ForInStep PUnit)) (hf : ∀ n v u, f (n, v) u = (do storeName env n v; pure (.yield ⟨⟩))) {Q : PUnit → Shared → Prop} {bs : List (Str × AV)} {binds : List (Str × Value)} (rb : BindR bs binds)
    (hv : ∀ q ∈ bs, ∃ i, c.var q.1 = some i) (x : Rep w base s₀ env c F P m σ s) (h : ∀ s', Rep w base s₀ env c F P (memOf c bs m) σ s' → Q ⟨⟩ s') : wpAny (model thePr w) A (forIn binds ⟨⟩ f) Q E s := by
  induction rb generalizing m s with
  | nil => rw [List.forIn_nil]; exact wpAny_pure (h s x)
  | @cons n a v r r' ra rb ih =>
    obtain ⟨i, hi⟩ := hv (n, a) List.mem_cons_self
    rw [List.forIn_cons, hf]
    refine wpAny_bind (wpAny_bind (store_var x oke hi ra fun s' x' => wpAny_pure (ih (fun q hq => hv q (List.mem_cons_of_mem _ hq)) x' fun s'' x'' => h s'' ?_)))
    unfold memOf
    have hvt : c.vt.lookup n = some i := by
      unfold TC.var at hi
      split at hi
      · exact hi
      · exact hi
      · cases hi
    rw [hvt]; exact x''

theorem fn_env (x : Ext w base s₀ F P σ s) {scope : Scope} {qual : Str} {func : Option Addr} {code : Value} (hkind : scope.kind = .function) (hnd : (scope.names.map (·.1)).Nodup) (hfree : ∀ q ∈ scope.names, q.2 ≠ .free)
    {bs : List (Str × AV)} {binds : List (Str × Value)} (rb : BindR bs binds) (hv : ∀ q ∈ bs, ∃ i, (TC.of scope.names).var q.1 = some i) {Q : Env → Shared → Prop}
    (h : ∀ env s', EnvOk env (TC.of scope.names) → env.frame = some env.locals → base.get? env.locals = none → env.scope.kind ≠ .module → Rep w base s₀ env (TC.of scope.names) F P (memOf (TC.of scope.names) bs (List.replicate (TC.of scope.names).nx none)) σ s' → Q env s') :
    wpAny (model thePr w) A (newFunctionEnv scope mainGlobals [] binds qual func code none builtinsNs) Q E s := by
  simp only [newFunctionEnv, Option.isSome_none, Bool.false_eq_true, if_false]
  refine wpAny_bind (wpAny_alloc ?_)
  refine wpAny_bind (wpAny_layCells _ (fun name kind cells => by cases hkc : kind == NameKind.cell <;> simp [hkc]) _ _ _ _ ?_)
  have ok := cellsFrom_ok scope.names (s.heap.push { cls := .type "frame", data := .dict #[] }) (s.heap.objs.size + 1) [] ⟨fun _ _ hm => (nomatch hm), List.Pairwise.nil⟩ (by rw [Heap.size_push]; exact Nat.le_refl _)
  rw [Heap.size_push] at ok
  rw [show ({ s with heap := s.heap.push { cls := .type "frame", data := .dict #[] } } : Shared).heap.objs.size = s.heap.objs.size + 1 from Heap.size_push ..]
  have fr : ∀ q, s.heap.objs.size ≤ q → s.heap.get? q = none := fun q hq => by
    cases e : s.heap.get? q with
    | none => rfl
    | some o => exact absurd (Heap.lt_size e) (Nat.not_lt.mpr hq)
  have hall : ∀ q o, s.heap.get? q = some o → (pushCells (s.heap.push { cls := .type "frame", data := .dict #[] }) scope.names).get? q = some o := fun q o e => pushCells_keeps _ _ _ _ (Heap.get?_push_of_some _ e)
  have okE : EnvOk (newEnv scope s.heap.objs.size mainGlobals (cellsFrom (s.heap.objs.size + 1) scope.names []) qual func code none builtinsNs) (TC.of scope.names) := by
    refine ⟨hkind, rfl, rfl, fun z hz => hz, fun z hz => hz, fun z hz => absurd rfl (hfree _ (mem_of_lookup hz)), fun z hz => hz, fun y z i hy hz => numbered_inj _ _ (mem_of_lookup hy) (mem_of_lookup hz), fun y i hy => ?_, fun y z a hy hz hya hza => name_of_addr ok.apart (mem_of_lookup hya) (mem_of_lookup hza)⟩
    have := (numbered_ge _ _ (mem_of_lookup hy)).2
    show i < (numbered 0 scope.names).length
    omega
  have rep : ∀ {i : Nat} {v : AV}, (List.replicate (TC.of scope.names).nx (none : Option AV))[i]? = some (some v) → False := fun {i v} h => by
    rw [List.getElem?_replicate] at h
    split at h <;> cases h
  have xr : Rep w base s₀ (newEnv scope s.heap.objs.size mainGlobals (cellsFrom (s.heap.objs.size + 1) scope.names []) qual func code none builtinsNs) (TC.of scope.names) F P (List.replicate (TC.of scope.names).nx none) σ { s with heap := pushCells (s.heap.push { cls := .type "frame", data := .dict #[] }) scope.names } := by
    have fL := x.fresh (fr s.heap.objs.size (Nat.le_refl _))
    refine ⟨x.grow (tk := s.toks) hall, by simp, ⟨_, (Heap.Ns.new s.heap (.type "frame")).keeps (pushCells_keeps _ _), fun z i v hz hi hm => (rep hm).elim⟩, ⟨fL.2, fL.1⟩, x.size3, fun z hz => ?_, fun z i v hz hi hm => (rep hm).elim, fun z i hz hi => absurd rfl (hfree _ (mem_of_lookup hz))⟩
    obtain ⟨a₁, h1⟩ := cellsFrom_has scope.names (s.heap.objs.size + 1) (mem_of_lookup hz)
    obtain ⟨⟨o, ho, hd⟩, hlo⟩ := ok.empty z a₁ (mem_of_lookup h1)
    have hlo' : s.heap.objs.size < a₁ := hlo
    have fa := x.fresh (fr a₁ (Nat.le_of_lt hlo'))
    exact ⟨a₁, o, h1, Nat.ne_of_gt hlo', fa.2, fa.1, ho, ⟨_, hd⟩, fun i v hi hm => (rep hm).elim⟩
  have hbL : base.get? s.heap.objs.size = none := by
    cases e : base.get? s.heap.objs.size with
    | none => rfl
    | some o => have := x.inBase e; rw [get?_size] at this; cases this
  refine wpAny_bind (bind_all okE _ (fun _ _ _ => rfl) rb hv xr fun s' x' => wpAny_pure (h _ s' okE rfl hbL ?_ x'))
  show scope.kind ≠ .module
  rw [hkind]; decide
end
end Mine
end
section
namespace Mine
open PySem PySem.W PyProof.Rows PySem.Calls
set_option maxRecDepth 100000

noncomputable def parsOf (fd : FuncData) : List Str := fd.params.args.map (·.arg)

noncomputable def Binds (fd : FuncData) (n : Nat) : Prop := ∀ vs : List Value, vs.length = n → bindArgs fd ⟨vs, []⟩ = pure ((parsOf fd).zip vs)
noncomputable def BindsV (fd : FuncData) (va : Str) (n : Nat) : Prop := ∀ vs : List Value, n ≤ vs.length → bindArgs fd ⟨vs, []⟩ = (do let t ← newTuple (vs.drop n); pure ((parsOf fd).zip vs ++ [(va, t)]))

section
variable {fd : FuncData} {va x y : Str}
theorem lcons {l : List Value} {n : Nat} (h : l.length = n + 1) : ∃ a t, l = a :: t ∧ t.length = n := by
  cases l with
  | nil => exact nomatch h
  | cons a t => exact ⟨a, t, rfl, Nat.succ.inj h⟩
theorem lnil {l : List Value} (h : l.length = 0) : l = [] := List.eq_nil_of_length_eq_zero h
theorem binds1 (h : ∀ u, bindArgs fd ⟨[u], []⟩ = pure ((parsOf fd).zip [u])) : Binds fd 1 := fun vs e => by
  obtain ⟨a, t1, rfl, e1⟩ := lcons e
  cases lnil e1
  exact h a
theorem binds2 (h : ∀ u v, bindArgs fd ⟨[u, v], []⟩ = pure ((parsOf fd).zip [u, v])) : Binds fd 2 := fun vs e => by
  obtain ⟨a, t1, rfl, e1⟩ := lcons e
  obtain ⟨b, t2, rfl, e2⟩ := lcons e1
  cases lnil e2
  exact h a b
theorem binds3 (h : ∀ u v w, bindArgs fd ⟨[u, v, w], []⟩ = pure ((parsOf fd).zip [u, v, w])) : Binds fd 3 := fun vs e => by
  obtain ⟨a, t1, rfl, e1⟩ := lcons e
  obtain ⟨b, t2, rfl, e2⟩ := lcons e1
  obtain ⟨c, t3, rfl, e3⟩ := lcons e2
  cases lnil e3
  exact h a b c
theorem binds4 (h : ∀ u v w z, bindArgs fd ⟨[u, v, w, z], []⟩ = pure ((parsOf fd).zip [u, v, w, z])) : Binds fd 4 := fun vs e => by
  obtain ⟨a, t1, rfl, e1⟩ := lcons e
  obtain ⟨b, t2, rfl, e2⟩ := lcons e1
  obtain ⟨c, t3, rfl, e3⟩ := lcons e2
  obtain ⟨d, t4, rfl, e4⟩ := lcons e3
  cases lnil e4
  exact h a b c d
theorem bindsV1 (hp : parsOf fd = [x]) (h0 : ∀ u, bindArgs fd ⟨[u], []⟩ = (do let t ← newTuple []; pure [(x, u), (va, t)])) (h1 : ∀ u a l, bindArgs fd ⟨u :: a :: l, []⟩ = (do let t ← newTuple (a :: l); pure [(x, u), (va, t)])) : BindsV fd va 1 := fun vs e => by
  rw [hp]
  cases vs with
  | nil => exact nomatch e
  | cons u t => cases t with
    | nil => exact h0 u
    | cons a l => exact h1 u a l
theorem bindsV2 (hp : parsOf fd = [x, y]) (h0 : ∀ u v, bindArgs fd ⟨[u, v], []⟩ = (do let t ← newTuple []; pure [(x, u), (y, v), (va, t)])) (h1 : ∀ u v a l, bindArgs fd ⟨u :: v :: a :: l, []⟩ = (do let t ← newTuple (a :: l); pure [(x, u), (y, v), (va, t)])) : BindsV fd va 2 := fun vs e => by
  rw [hp]
  cases vs with
  | nil => exact nomatch e
  | cons u t => cases t with
    | nil => exact nomatch Nat.le_of_succ_le_succ e
    | cons v t => cases t with
      | nil => exact h0 u v
      | cons a l => exact h1 u v a l
end
end Mine
end
section
namespace Mine
open PySem PySem.W PyProof.Rows PySem.Calls
set_option maxRecDepth 100000

noncomputable def fdOf (w : World) (a : Addr) : FuncData := match (KK w).lookup a with
  | some ⟨_, _, .func fd, _⟩ => fd
  | _ => default
noncomputable def bodyOf (fd : FuncData) : List Stmt := match fd.body with
  | .stmts b => b
  | _ => []
noncomputable def pOf (w : World) (a : Addr) : Option PS := trSs 60 (TC.of (fdOf w a).scope.names) (bodyOf (fdOf w a))

noncomputable def funB : Option Obj → Bool
  | some ⟨_, _, .func _, _⟩ => true
  | _ => false
noncomputable def codeB (w : World) (fd : FuncData) : Bool := match fd.code with
  | .ref c => match (KK w).lookup c with
    | some ⟨_, _, .fields vs, _⟩ => match (vs[1]? : Option Value) with
      | some (.str q _) => q == fd.qualname
      | _ => false
    | _ => false
  | _ => false
noncomputable def fnB (w : World) (a : Addr) : Bool :=
  funB ((KK w).lookup a) && (match (fdOf w a).body with | .stmts _ => true | _ => false) && (fdOf w a).closure.isEmpty && !(fdOf w a).scope.isCoroutine && !(fdOf w a).scope.isGenerator && ((fdOf w a).scope.kind == .function) &&
  ((fdOf w a).globals == mainGlobals) && ((fdOf w a).builtins == builtinsNs) && codeB w (fdOf w a) && decide ((fdOf w a).scope.names.map (·.1)).Nodup && (fdOf w a).scope.names.all (fun q => q.2 != .free) &&
  (parsOf (fdOf w a)).all (fun x => ((TC.of (fdOf w a).scope.names).var x).isSome)

structure Fn (w : World) (a : Addr) : Prop where
  at_ : ∃ oc od sl, (KK w).lookup a = some ⟨oc, od, .func (fdOf w a), sl⟩
  body : (fdOf w a).body = .stmts (bodyOf (fdOf w a))
  clo : (fdOf w a).closure = []
  co : (fdOf w a).scope.isCoroutine = false
  gen : (fdOf w a).scope.isGenerator = false
  kind : (fdOf w a).scope.kind = .function
  glob : (fdOf w a).globals = mainGlobals
  bi : (fdOf w a).builtins = builtinsNs
  code : ∃ c oc vs t, (fdOf w a).code = .ref c ∧ (KK w).lookup c = some oc ∧ oc.data = .fields vs ∧ vs[1]? = some (.str (fdOf w a).qualname t)
  nd : ((fdOf w a).scope.names.map (·.1)).Nodup
  free : ∀ q ∈ (fdOf w a).scope.names, q.2 ≠ .free
  vars : ∀ x ∈ parsOf (fdOf w a), ∃ i, (TC.of (fdOf w a).scope.names).var x = some i

theorem fn_of {w : World} {a : Addr} (h : fnB w a = true) : Fn w a := by
  unfold fnB at h
  simp only [Bool.and_eq_true, Bool.not_eq_true', beq_iff_eq, decide_eq_true_eq, List.all_eq_true, bne_iff_ne, List.isEmpty_iff, Option.isNone_iff_eq_none] at h
  obtain ⟨⟨⟨⟨⟨⟨⟨⟨⟨⟨⟨h1, h2⟩, h3⟩, h4⟩, h5⟩, h6⟩, h7⟩, h8⟩, h9⟩, h10⟩, h11⟩, h16⟩ := h
  refine ⟨?_, ?_, h3, h4, h5, h6, h7, h8, ?_, h10, h11, fun x hx => Option.isSome_iff_exists.mp (h16 x hx)⟩
  · unfold funB at h1
    split at h1
    · rename_i oc od fd sl e
      exact ⟨oc, od, sl, by unfold fdOf; rw [e]⟩
    · cases h1
  · unfold bodyOf
    split at h2
    · rename_i b e; rw [e]
    · cases h2
  · unfold codeB at h9
    split at h9
    · rename_i c e
      split at h9
      · rename_i x1 x2 vs x3 e'
        split at h9
        · rename_i q t e''
          have : q = (fdOf w a).qualname := by simpa using h9
          subst this
          exact ⟨c, _, vs, t, e, e', rfl, e''⟩
        · cases h9
      · cases h9
    · cases h9

section
variable {w : World} {base : Heap} {s₀ : Shared} {mg mb : Str → Option Value} {r : Nat} {C : Ctr} {F : Addr → Option Obj} {P : Addr → Prop} {σ : Store} {s : Shared} {A : Around} {E : Value → Shared → Prop}

noncomputable def fin (Q : AV → Store → Prop) : Flw → Mem → Store → Prop := fun fl _ σ => match fl with
  | .next => Q .none σ
  | .ret v => Q v σ
  | _ => False

theorem OkA.deeper (ok : OkA base (r + 1) F none A) {env : Env} (hk : env.scope.kind ≠ .module) (hf : env.frame = some env.locals) (hb : base.get? env.locals = none) : OkA base r F (some env.locals) (A.deeper env) ∧ ∀ c, (c.calm = true → A.handled = none) → Cm env c (A.deeper env) := by
  obtain ⟨fr, h1, h2⟩ := ok.frames
  have e : (A.deeper env).frames = some (env :: fr) := by show A.frames.map (env :: ·) = _; rw [h1]; rfl
  refine ⟨⟨?_, ?_, env :: fr, e, fun e' he' => ?_⟩, fun c hc => ⟨hc, env, fr, e, rfl⟩⟩
  · have := ok.depth; show A.depth + 1 + r ≤ 600; omega
  · have := ok.units; show A.units + 3 + 20 * r ≤ 2000; omega
  · rcases List.mem_cons.mp he' with rfl | he'
    · exact ⟨hk, _, hf, hb, .inl rfl⟩
    · obtain ⟨k, L, g1, g2, g3⟩ := h2 e' he'
      refine ⟨k, L, g1, g2, ?_⟩
      rcases g3 with g3 | g3
      · cases g3
      · exact .inr g3

theorem enter_fn (B : Bs w base mg mb) (hC : SoundC w base s₀ r C) {a : Addr} (hf : Fn w a) {p : PS} (hp : pOf w a = some p) {vs : List Value} {Q : AV → Store → Prop} (ok : OkA base (r + 1) F none A) (hA : A.handled = none) (x : Ext w base s₀ F P σ s)
    (hb : ∀ E', wpAny (model thePr w) A.in1 (bindArgs (fdOf w a) ⟨vs, []⟩) (fun binds s₁ => ∃ bs σ₁, BindR bs binds ∧ (∀ q ∈ bs, ∃ i, (TC.of (fdOf w a).scope.names).var q.1 = some i) ∧ Ext w base s₀ F P σ₁ s₁ ∧
      WS C p (fin Q) (memOf (TC.of (fdOf w a).scope.names) bs (List.replicate (TC.of (fdOf w a).scope.names).nx none)) σ₁) E' s) :
    codeAny (model thePr w) A (.call (.ref a) ⟨vs, []⟩) (PoR w base s₀ F P Q) s := by
  obtain ⟨oc, od, sl, hK⟩ := hf.at_
  obtain ⟨c, occ, cvs, t, e1, e2, e3, e4⟩ := hf.code
  refine codeAny_call_function ?_ (x.inBase (B.k _ _ hK)) rfl hf.co hf.gen hf.body ⟨c, occ, cvs, t, e1, x.inBase (B.k _ _ e2), e3, e4⟩ ?_
  · have := ok.depth; unfold recursionLimit; omega
  refine wpAny_mono (hb _) (fun binds s₁ h₁ => ?_) fun _ _ e => e
  obtain ⟨bs, σ₁, rb, hv, x₁, hw⟩ := h₁
  rw [hf.glob, hf.bi, hf.clo]
  refine fn_env x₁ hf.kind hf.nd hf.free rb hv fun env s₂ oke hfr hbl hkm x₂ => ?_
  refine ⟨B.nolimit.keeps fun b o e => x₂.ext.inBase e, codeAny_func ?_⟩
  obtain ⟨ok', cm⟩ := ok.deeper (env := env) hkm hfr hbl
  refine wpAny_mono (trSs_ok (s₀ := s₀) B hC oke hp F P (A.deeper env) _ _ s₂ _ _ ok' (cm _ fun _ => hA) x₂ hw) (fun f s₃ h₃ => ?_) fun _ _ e => e
  obtain ⟨fl, m₃, σ₃, rf, x₃, h₃⟩ := h₃
  cases rf with
  | next => exact ⟨.none, .none, σ₃, rfl, rfl, x₃.ext, h₃⟩
  | ret r => exact ⟨_, _, σ₃, rfl, r, x₃.ext, h₃⟩
  | _ => exact h₃.elim

noncomputable def Ctr.add (C : Ctr) (a : Addr) (S : List AV → (AV → Store → Prop) → Store → Prop) : Ctr := fun f args Q σ => C f args Q σ ∨ (f = a ∧ S args Q σ)

theorem SoundC.le {r' : Nat} (h : SoundC w base s₀ r C) (hr : r ≤ r') : SoundC w base s₀ r' C := fun f args Q σ hc => ⟨(h f args Q σ hc).1, fun F P A s vs ok => (h f args Q σ hc).2 F P A s vs (ok.le hr)⟩

theorem soundC_none : SoundC w base s₀ 0 (fun _ _ _ _ => False) := fun _ _ _ _ h => h.elim

theorem Fn.known {a : Addr} (h : Fn w a) : Known w a := by
  obtain ⟨oc, od, sl, hK⟩ := h.at_
  exact .inl ⟨oc, od, _, sl, hK⟩

theorem SoundC.add (h : SoundC w base s₀ r C) {a : Addr} (ha : Known w a) {S : List AV → (AV → Store → Prop) → Store → Prop}
    (hs : ∀ args Q σ, S args Q σ → ∀ F P A s vs, OkA base (r + 1) F none A → A.handled = none → Ext w base s₀ F P σ s → AllR args vs →
      codeAny (model thePr w) A (.call (.ref a) ⟨vs, []⟩) (PoR w base s₀ F P Q) s) :
    SoundC w base s₀ (r + 1) (C.add a S) := fun f args Q σ hc => by
  rcases hc with hc | ⟨rfl, hc⟩
  · exact (h.le (Nat.le_succ r)) f args Q σ hc
  · exact ⟨ha, hs args Q σ hc⟩

theorem zipR {ns : List Str} {as : List AV} {vs : List Value} (h : AllR as vs) : BindR (ns.zip as) (ns.zip vs) := by
  induction ns generalizing as vs with
  | nil => simp; exact .nil
  | cons n ns ih => cases h with
    | nil => simp; exact .nil
    | cons a b => exact .cons a (ih b)

theorem SoundC.def_ (h : SoundC w base s₀ r C) (B : Bs w base mg mb) {a : Addr} (hf : Fn w a) {n : Nat} (hb : Binds (fdOf w a) n) {p : PS} (hp : pOf w a = some p) {S : List AV → (AV → Store → Prop) → Store → Prop}
    (hs : ∀ args Q σ, S args Q σ → args.length = n ∧ WS C p (fin Q) (memOf (TC.of (fdOf w a).scope.names) ((parsOf (fdOf w a)).zip args) (List.replicate (TC.of (fdOf w a).scope.names).nx none)) σ) : SoundC w base s₀ (r + 1) (C.add a S) :=
  h.add hf.known fun args Q σ hS F P A s vs ok hA x ra => by
    obtain ⟨hl, hw⟩ := hs args Q σ hS
    refine enter_fn B h hf hp ok hA x fun E' => ?_
    rw [hb vs (ra.length.symm.trans hl)]
    exact wpAny_pure ⟨_, σ, zipR ra, fun q hq => hf.vars q.1 (List.of_mem_zip hq).1, x, hw⟩
end
end Mine
end
section
namespace Mine
open PySem
/- slots: [(heap, 0), (item, 1)] -/
noncomputable def p28 : PS :=
  PS.seq
  (PS.expr (PE.mcall (PE.var 0) (Meth.append) (PL.cons (PE.var 1) (PL.nil))))
  (PS.seq
    (PS.expr
      (PE.call
        (PE.glob (AV.ref 42))
        (PL.cons
          (PE.var 0)
          (PL.cons
            (PE.int 0)
            (PL.cons (PE.bin (BOp.sub) (PE.call (PE.glob (AV.blt (BI.len))) (PL.cons (PE.var 0) (PL.nil))) (PE.int 1)) (PL.nil))))))
    (PS.skip))
/- slots: [(heap, 0), (item, 1), (returnitem, 2)] -/
noncomputable def p35 : PS :=
  PS.seq
  (PS.assign 2 (PE.sub (PE.var 0) (PE.int 0)))
  (PS.seq
    (PS.setItem (PE.var 0) (PE.int 0) (PE.var 1))
    (PS.seq
      (PS.expr (PE.call (PE.glob (AV.ref 49)) (PL.cons (PE.var 0) (PL.cons (PE.int 0) (PL.nil)))))
      (PS.seq (PS.ret (PE.var 2)) (PS.skip))))
/- slots: [(heap, 0), (startpos, 1), (pos, 2), (newitem, 3), (parentpos, 4), (parent, 5)] -/
noncomputable def p42 : PS :=
  PS.seq
  (PS.assign 3 (PE.sub (PE.var 0) (PE.var 2)))
  (PS.seq
    (PS.loop
      (PT.tv (PE.cmp (COp.gt) (PE.var 2) (PE.var 1)))
      (PS.seq
        (PS.assign 4 (PE.bin (BOp.shr) (PE.bin (BOp.sub) (PE.var 2) (PE.int 1)) (PE.int 1)))
        (PS.seq
          (PS.assign 5 (PE.sub (PE.var 0) (PE.var 4)))
          (PS.seq
            (PS.ite
              (PT.tv (PE.cmp (COp.lt) (PE.var 3) (PE.var 5)))
              (PS.seq (PS.setItem (PE.var 0) (PE.var 2) (PE.var 5)) (PS.seq (PS.assign 2 (PE.var 4)) (PS.seq (PS.cont) (PS.skip))))
              (PS.skip))
            (PS.seq (PS.brk) (PS.skip)))))
      (PS.skip))
    (PS.seq (PS.setItem (PE.var 0) (PE.var 2) (PE.var 3)) (PS.skip)))
/- slots: [(heap, 0), (pos, 1), (endpos, 2), (startpos, 3), (newitem, 4), (childpos, 5), (rightpos, 6)] -/
noncomputable def p49 : PS :=
  PS.seq
  (PS.assign 2 (PE.call (PE.glob (AV.blt (BI.len))) (PL.cons (PE.var 0) (PL.nil))))
  (PS.seq
    (PS.assign 3 (PE.var 1))
    (PS.seq
      (PS.assign 4 (PE.sub (PE.var 0) (PE.var 1)))
      (PS.seq
        (PS.assign 5 (PE.bin (BOp.add) (PE.bin (BOp.mul) (PE.int 2) (PE.var 1)) (PE.int 1)))
        (PS.seq
          (PS.loop
            (PT.tv (PE.cmp (COp.lt) (PE.var 5) (PE.var 2)))
            (PS.seq
              (PS.assign 6 (PE.bin (BOp.add) (PE.var 5) (PE.int 1)))
              (PS.seq
                (PS.ite
                  (PT.and
                    (PT.tv (PE.cmp (COp.lt) (PE.var 6) (PE.var 2)))
                    (PT.not (PT.tv (PE.cmp (COp.lt) (PE.sub (PE.var 0) (PE.var 5)) (PE.sub (PE.var 0) (PE.var 6))))))
                  (PS.seq (PS.assign 5 (PE.var 6)) (PS.skip))
                  (PS.skip))
                (PS.seq
                  (PS.setItem (PE.var 0) (PE.var 1) (PE.sub (PE.var 0) (PE.var 5)))
                  (PS.seq
                    (PS.assign 1 (PE.var 5))
                    (PS.seq (PS.assign 5 (PE.bin (BOp.add) (PE.bin (BOp.mul) (PE.int 2) (PE.var 1)) (PE.int 1))) (PS.skip))))))
            (PS.skip))
          (PS.seq
            (PS.setItem (PE.var 0) (PE.var 1) (PE.var 4))
            (PS.seq
              (PS.expr (PE.call (PE.glob (AV.ref 42)) (PL.cons (PE.var 0) (PL.cons (PE.var 3) (PL.cons (PE.var 1) (PL.nil))))))
              (PS.skip)))))))
/- slots: [(self, 0), (node, 1)] -/
noncomputable def p64 : PS :=
  PS.seq
  (PS.setAttr (PE.var 0) (Fld.node) (PE.var 1))
  (PS.seq (PS.setAttr (PE.var 0) (Fld.npred) (PE.int 0)) (PS.seq (PS.setAttr (PE.var 0) (Fld.succ) (PE.list (PL.nil))) (PS.skip)))
/- slots: [(self, 0), (graph, 1), (node, 2), (predecessors, 3)] -/
noncomputable def p101 : PS :=
  PS.seq
  (PS.setAttr (PE.var 0) (Fld.n2i) (PE.edict))
  (PS.seq
    (PS.setAttr (PE.var 0) (Fld.ready) (PE.none))
    (PS.seq
      (PS.setAttr (PE.var 0) (Fld.npass) (PE.int 0))
      (PS.seq
        (PS.setAttr (PE.var 0) (Fld.nfin) (PE.int 0))
        (PS.seq
          (PS.ite
            (PT.tv (PE.cmp (COp.isnot) (PE.var 1) (PE.none)))
            (PS.seq
              (PS.each2
                2
                3
                (PE.mcall (PE.var 1) (Meth.items) (PL.nil))
                (PS.seq (PS.expr (PE.mcallS (PE.var 0) (Meth.add) (PL.cons (PE.var 2) (PL.nil)) (PE.var 3))) (PS.skip)))
              (PS.skip))
            (PS.skip))
          (PS.skip)))))
/- slots: [(self, 0), (node, 1), (result, 2)] -/
noncomputable def p108 : PS :=
  PS.seq
  (PS.ite
    (PT.tv
      (PE.cmp (COp.is) (PE.walrus 2 (PE.mcall (PE.attr (PE.var 0) (Fld.n2i)) (Meth.get) (PL.cons (PE.var 1) (PL.nil)))) (PE.none)))
    (PS.seq
      (PS.setItemVar (PE.attr (PE.var 0) (Fld.n2i)) (PE.var 1) 2 (PE.call (PE.glob (AV.ref 68)) (PL.cons (PE.var 1) (PL.nil))))
      (PS.skip))
    (PS.skip))
  (PS.seq (PS.ret (PE.var 2)) (PS.skip))
/- slots: [(self, 0), (node, 1), (predecessors, 2), (nodeinfo, 3), (pred, 4), (pred_info, 5)] -/
noncomputable def p115 : PS :=
  PS.seq
  (PS.ite (PT.tv (PE.cmp (COp.isnot) (PE.attr (PE.var 0) (Fld.ready)) (PE.none))) (PS.seq (PS.bad) (PS.skip)) (PS.skip))
  (PS.seq
    (PS.assign 3 (PE.mcall (PE.var 0) (Meth.getinfo) (PL.cons (PE.var 1) (PL.nil))))
    (PS.seq
      (PS.augAttr (PE.var 3) (Fld.npred) (BOp.add) (PE.call (PE.glob (AV.blt (BI.len))) (PL.cons (PE.var 2) (PL.nil))))
      (PS.seq
        (PS.each
          4
          (PE.var 2)
          (PS.seq
            (PS.assign 5 (PE.mcall (PE.var 0) (Meth.getinfo) (PL.cons (PE.var 4) (PL.nil))))
            (PS.seq (PS.expr (PE.mcall (PE.attr (PE.var 5) (Fld.succ)) (Meth.append) (PL.cons (PE.var 1) (PL.nil)))) (PS.skip))))
        (PS.skip))))
/- slots: [(self, 0), (cycle, 1)] -/
noncomputable def p120 : PS :=
  PS.seq
  (PS.ite (PT.tv (PE.cmp (COp.isnot) (PE.attr (PE.var 0) (Fld.ready)) (PE.none))) (PS.seq (PS.bad) (PS.skip)) (PS.skip))
  (PS.seq
    (PS.setAttr
      (PE.var 0)
      (Fld.ready)
      (PE.lcomp
        (PE.attr (PE.var 2) (Fld.node))
        (PE.mcall (PE.attr (PE.var 0) (Fld.n2i)) (Meth.values) (PL.nil))
        (PT.tv (PE.cmp (COp.eq) (PE.attr (PE.var 2) (Fld.npred)) (PE.int 0)))))
    (PS.seq
      (PS.assign 1 (PE.mcall (PE.var 0) (Meth.findcycle) (PL.nil)))
      (PS.seq (PS.ite (PT.tv (PE.var 1)) (PS.seq (PS.bad) (PS.skip)) (PS.skip)) (PS.skip))))
/- slots: [(self, 0), (result, 1), (n2i, 2), (node, 3)] -/
noncomputable def p127 : PS :=
  PS.seq
  (PS.ite (PT.tv (PE.cmp (COp.is) (PE.attr (PE.var 0) (Fld.ready)) (PE.none))) (PS.seq (PS.bad) (PS.skip)) (PS.skip))
  (PS.seq
    (PS.assign 1 (PE.call (PE.glob (AV.blt (BI.tuple))) (PL.cons (PE.attr (PE.var 0) (Fld.ready)) (PL.nil))))
    (PS.seq
      (PS.assign 2 (PE.attr (PE.var 0) (Fld.n2i)))
      (PS.seq
        (PS.each 3 (PE.var 1) (PS.seq (PS.setAttr (PE.sub (PE.var 2) (PE.var 3)) (Fld.npred) (PE.glob (AV.int (-1)))) (PS.skip)))
        (PS.seq
          (PS.expr (PE.mcall (PE.attr (PE.var 0) (Fld.ready)) (Meth.clear) (PL.nil)))
          (PS.seq
            (PS.augAttr (PE.var 0) (Fld.npass) (BOp.add) (PE.call (PE.glob (AV.blt (BI.len))) (PL.cons (PE.var 1) (PL.nil))))
            (PS.seq (PS.ret (PE.var 1)) (PS.skip)))))))
/- slots: [(self, 0)] -/
noncomputable def p134 : PS :=
  PS.seq
  (PS.ite (PT.tv (PE.cmp (COp.is) (PE.attr (PE.var 0) (Fld.ready)) (PE.none))) (PS.seq (PS.bad) (PS.skip)) (PS.skip))
  (PS.seq
    (PS.ret
      (PE.or
        (PE.cmp (COp.lt) (PE.attr (PE.var 0) (Fld.nfin)) (PE.attr (PE.var 0) (Fld.npass)))
        (PE.call (PE.glob (AV.blt (BI.bool))) (PL.cons (PE.attr (PE.var 0) (Fld.ready)) (PL.nil)))))
    (PS.skip))
/- slots: [(self, 0), (nodes, 1), (n2i, 2), (node, 3), (nodeinfo, 4), (stat, 5), (successor, 6), (successor_info, 7)] -/
noncomputable def p148 : PS :=
  PS.seq
  (PS.ite (PT.tv (PE.cmp (COp.is) (PE.attr (PE.var 0) (Fld.ready)) (PE.none))) (PS.seq (PS.bad) (PS.skip)) (PS.skip))
  (PS.seq
    (PS.assign 2 (PE.attr (PE.var 0) (Fld.n2i)))
    (PS.seq
      (PS.each
        3
        (PE.var 1)
        (PS.seq
          (PS.ite
            (PT.tv (PE.cmp (COp.is) (PE.walrus 4 (PE.mcall (PE.var 2) (Meth.get) (PL.cons (PE.var 3) (PL.nil)))) (PE.none)))
            (PS.seq (PS.bad) (PS.skip))
            (PS.skip))
          (PS.seq
            (PS.assign 5 (PE.attr (PE.var 4) (Fld.npred)))
            (PS.seq
              (PS.ite
                (PT.tv (PE.cmp (COp.ne) (PE.var 5) (PE.glob (AV.int (-1)))))
                (PS.seq
                  (PS.ite
                    (PT.tv (PE.cmp (COp.ge) (PE.var 5) (PE.int 0)))
                    (PS.seq (PS.bad) (PS.skip))
                    (PS.seq
                      (PS.ite
                        (PT.tv (PE.cmp (COp.eq) (PE.var 5) (PE.glob (AV.int (-2)))))
                        (PS.seq (PS.bad) (PS.skip))
                        (PS.seq (PS.bad) (PS.skip)))
                      (PS.skip)))
                  (PS.skip))
                (PS.skip))
              (PS.seq
                (PS.setAttr (PE.var 4) (Fld.npred) (PE.glob (AV.int (-2))))
                (PS.seq
                  (PS.each
                    6
                    (PE.attr (PE.var 4) (Fld.succ))
                    (PS.seq
                      (PS.assign 7 (PE.sub (PE.var 2) (PE.var 6)))
                      (PS.seq
                        (PS.augAttr (PE.var 7) (Fld.npred) (BOp.sub) (PE.int 1))
                        (PS.seq
                          (PS.ite
                            (PT.tv (PE.cmp (COp.eq) (PE.attr (PE.var 7) (Fld.npred)) (PE.int 0)))
                            (PS.seq (PS.expr (PE.mcall (PE.attr (PE.var 0) (Fld.ready)) (Meth.append) (PL.cons (PE.var 6) (PL.nil)))) (PS.skip))
                            (PS.skip))
                          (PS.skip)))))
                  (PS.seq (PS.augAttr (PE.var 0) (Fld.nfin) (BOp.add) (PE.int 1)) (PS.skip))))))))
      (PS.skip)))
/- slots: [(self, 0), (n2i, 1), (stack, 2), (itstack, 3), (seen, 4), (node2stacki, 5), (node, 6)] -/
noncomputable def p155 : PS :=
  PS.seq
  (PS.assign 1 (PE.attr (PE.var 0) (Fld.n2i)))
  (PS.seq
    (PS.assign 2 (PE.list (PL.nil)))
    (PS.seq
      (PS.assign 3 (PE.list (PL.nil)))
      (PS.seq
        (PS.assign 4 (PE.call (PE.glob (AV.blt (BI.set))) (PL.nil)))
        (PS.seq
          (PS.assign 5 (PE.edict))
          (PS.seq
            (PS.each
              6
              (PE.var 1)
              (PS.seq
                (PS.ite (PT.tv (PE.cmp (COp.mem) (PE.var 6) (PE.var 4))) (PS.seq (PS.cont) (PS.skip)) (PS.skip))
                (PS.seq
                  (PS.loop
                    (PT.tv (PE.bool true))
                    (PS.seq
                      (PS.ite
                        (PT.tv (PE.cmp (COp.mem) (PE.var 6) (PE.var 4)))
                        (PS.seq
                          (PS.ite
                            (PT.tv (PE.cmp (COp.mem) (PE.var 6) (PE.var 5)))
                            (PS.seq
                              (PS.ret
                                (PE.bin
                                  (BOp.add)
                                  (PE.sliceFrom (PE.var 2) (PE.sub (PE.var 5) (PE.var 6)))
                                  (PE.list (PL.cons (PE.var 6) (PL.nil)))))
                              (PS.skip))
                            (PS.skip))
                          (PS.skip))
                        (PS.seq
                          (PS.expr (PE.mcall (PE.var 4) (Meth.add) (PL.cons (PE.var 6) (PL.nil))))
                          (PS.seq
                            (PS.expr
                              (PE.mcall
                                (PE.var 3)
                                (Meth.append)
                                (PL.cons
                                  (PE.attr
                                    (PE.call (PE.glob (AV.blt (BI.iter))) (PL.cons (PE.attr (PE.sub (PE.var 1) (PE.var 6)) (Fld.succ)) (PL.nil)))
                                    (Fld.next))
                                  (PL.nil))))
                            (PS.seq
                              (PS.setItem (PE.var 5) (PE.var 6) (PE.call (PE.glob (AV.blt (BI.len))) (PL.cons (PE.var 2) (PL.nil))))
                              (PS.seq (PS.expr (PE.mcall (PE.var 2) (Meth.append) (PL.cons (PE.var 6) (PL.nil)))) (PS.skip))))))
                      (PS.seq
                        (PS.loop
                          (PT.tv (PE.var 2))
                          (PS.seq
                            (PS.tryNext
                              6
                              (PE.sub (PE.var 3) (PE.neg (PE.int 1)))
                              (PS.seq
                                (PS.delSub (PE.var 5) (PE.mcall (PE.var 2) (Meth.pop) (PL.nil)))
                                (PS.seq (PS.expr (PE.mcall (PE.var 3) (Meth.pop) (PL.nil))) (PS.skip))))
                            (PS.skip))
                          (PS.seq (PS.brk) (PS.skip)))
                        (PS.skip)))
                    (PS.skip))
                  (PS.skip))))
            (PS.seq (PS.ret (PE.none)) (PS.skip)))))))
/- slots: [(base, 0), (numbers, 1)] -/
noncomputable def p174 : PS :=
  PS.seq
  (PS.ret
    (PE.lcomp
      (PE.bin
        (BOp.add)
        (PE.sub (PE.var 0) (PE.var 2))
        (PE.call
          (PE.glob (AV.blt (BI.sum)))
          (PL.cons (PE.sliceStep (PE.var 1) (PE.var 2) (PE.call (PE.glob (AV.blt (BI.len))) (PL.cons (PE.var 0) (PL.nil)))) (PL.nil))))
      (PE.call (PE.glob (AV.blt (BI.range))) (PL.cons (PE.call (PE.glob (AV.blt (BI.len))) (PL.cons (PE.var 0) (PL.nil))) (PL.nil)))
      (PT.tt)))
  (PS.skip)
/- slots: [(below, 0), (heights, 1), (weights, 2), (k, 3), (sorter, 4), (heaps, 5), (bends, 6), (paid, 7), (crests, 8), (heap, 9), (child, 10), (bend, 11), (turn, 12)] -/
noncomputable def p179 : PS :=
  PS.seq
  (PS.assign
    4
    (PE.call
      (PE.glob (AV.ref 165))
      (PL.cons
        (PE.dcomp
          (PE.var 13)
          (PE.sub (PE.var 0) (PE.var 13))
          (PE.call
            (PE.glob (AV.blt (BI.range)))
            (PL.cons (PE.call (PE.glob (AV.blt (BI.len))) (PL.cons (PE.var 1) (PL.nil))) (PL.nil))))
        (PL.nil))))
  (PS.seq
    (PS.expr (PE.mcall (PE.var 4) (Meth.prepare) (PL.nil)))
    (PS.seq
      (PS.assign 5 (PE.lcomp (PE.list (PL.nil)) (PE.var 1) (PT.tt)))
      (PS.seq
        (PS.assign 6 (PE.lcomp (PE.list (PL.nil)) (PE.var 1) (PT.tt)))
        (PS.seq
          (PS.assign 7 (PE.lcomp (PE.int 0) (PE.var 1) (PT.tt)))
          (PS.seq
            (PS.assign 8 (PE.lcomp (PE.int 0) (PE.var 1) (PT.tt)))
            (PS.seq
              (PS.loop
                (PT.tv (PE.mcall (PE.var 4) (Meth.isactive) (PL.nil)))
                (PS.seq
                  (PS.each
                    3
                    (PE.mcall (PE.var 4) (Meth.getready) (PL.nil))
                    (PS.seq
                      (PS.assign
                        9
                        (PE.ite
                          (PT.tv (PE.cmp (COp.ne) (PE.sub (PE.var 0) (PE.var 3)) (PE.list (PL.nil))))
                          (PE.sub (PE.var 5) (PE.sub (PE.sub (PE.var 0) (PE.var 3)) (PE.int 0)))
                          (PE.list (PL.nil))))
                      (PS.seq
                        (PS.each
                          10
                          (PE.sliceFrom (PE.sub (PE.var 0) (PE.var 3)) (PE.int 1))
                          (PS.seq
                            (PS.each
                              11
                              (PE.sub (PE.var 5) (PE.var 10))
                              (PS.seq (PS.expr (PE.call (PE.glob (AV.ref 28)) (PL.cons (PE.var 9) (PL.cons (PE.var 11) (PL.nil))))) (PS.skip)))
                            (PS.skip)))
                        (PS.seq
                          (PS.setItem
                            (PE.var 7)
                            (PE.var 3)
                            (PE.call
                              (PE.glob (AV.blt (BI.sum)))
                              (PL.cons (PE.lcomp (PE.sub (PE.var 7) (PE.var 13)) (PE.sub (PE.var 0) (PE.var 3)) (PT.tt)) (PL.nil))))
                          (PS.seq
                            (PS.each
                              12
                              (PE.call (PE.glob (AV.blt (BI.range))) (PL.cons (PE.sub (PE.var 2) (PE.var 3)) (PL.nil)))
                              (PS.seq
                                (PS.expr
                                  (PE.call
                                    (PE.glob (AV.ref 28))
                                    (PL.cons (PE.var 9) (PL.cons (PE.neg (PE.sub (PE.var 1) (PE.var 3))) (PL.nil)))))
                                (PS.skip)))
                            (PS.seq
                              (PS.each
                                12
                                (PE.call (PE.glob (AV.blt (BI.range))) (PL.cons (PE.sub (PE.var 2) (PE.var 3)) (PL.nil)))
                                (PS.seq
                                  (PS.setItem
                                    (PE.var 8)
                                    (PE.var 3)
                                    (PE.neg
                                      (PE.call
                                        (PE.glob (AV.ref 35))
                                        (PL.cons (PE.var 9) (PL.cons (PE.neg (PE.sub (PE.var 1) (PE.var 3))) (PL.nil))))))
                                  (PS.seq
                                    (PS.augSub
                                      (PE.var 7)
                                      (PE.var 3)
                                      (BOp.add)
                                      (PE.bin (BOp.sub) (PE.sub (PE.var 8) (PE.var 3)) (PE.sub (PE.var 1) (PE.var 3))))
                                    (PS.skip))))
                              (PS.seq
                                (PS.setItem (PE.var 5) (PE.var 3) (PE.var 9))
                                (PS.seq
                                  (PS.setItem (PE.var 6) (PE.var 3) (PE.lcomp (PE.neg (PE.var 13)) (PE.var 9) (PT.tt)))
                                  (PS.seq (PS.expr (PE.mcall (PE.var 4) (Meth.done) (PL.cons (PE.var 3) (PL.nil)))) (PS.skip))))))))))
                  (PS.skip))
                (PS.skip))
              (PS.seq (PS.ret (PE.tuple (PL.cons (PE.var 6) (PL.cons (PE.var 7) (PL.cons (PE.var 8) (PL.nil)))))) (PS.skip))))))))
/- slots: [(above, 0), (crests, 1), (sorter, 2), (k, 3), (fresh, 4)] -/
noncomputable def p186 : PS :=
  PS.seq
  (PS.assign 2 (PE.call (PE.glob (AV.ref 165)) (PL.nil)))
  (PS.seq
    (PS.each
      3
      (PE.call
        (PE.glob (AV.blt (BI.range)))
        (PL.cons
          (PE.bin (BOp.sub) (PE.call (PE.glob (AV.blt (BI.len))) (PL.cons (PE.var 1) (PL.nil))) (PE.int 1))
          (PL.cons (PE.int 0) (PL.cons (PE.neg (PE.int 1)) (PL.nil)))))
      (PS.seq
        (PS.expr (PE.mcall (PE.var 2) (Meth.add) (PL.cons (PE.var 3) (PL.cons (PE.sub (PE.var 0) (PE.var 3)) (PL.nil)))))
        (PS.skip)))
    (PS.seq
      (PS.expr (PE.mcall (PE.var 2) (Meth.prepare) (PL.nil)))
      (PS.seq
        (PS.assign 4 (PE.call (PE.glob (AV.blt (BI.list))) (PL.cons (PE.var 1) (PL.nil))))
        (PS.seq
          (PS.loop
            (PT.tv (PE.mcall (PE.var 2) (Meth.isactive) (PL.nil)))
            (PS.seq
              (PS.each
                3
                (PE.mcall (PE.var 2) (Meth.getready) (PL.nil))
                (PS.seq
                  (PS.ite
                    (PT.tv (PE.cmp (COp.gt) (PE.var 3) (PE.int 0)))
                    (PS.seq
                      (PS.setItem
                        (PE.var 4)
                        (PE.var 3)
                        (PE.call
                          (PE.glob (AV.blt (BI.min)))
                          (PL.cons (PE.sub (PE.var 1) (PE.var 3)) (PL.cons (PE.sub (PE.var 4) (PE.sub (PE.var 0) (PE.var 3))) (PL.nil)))))
                      (PS.skip))
                    (PS.skip))
                  (PS.seq (PS.expr (PE.mcall (PE.var 2) (Meth.done) (PL.cons (PE.var 3) (PL.nil)))) (PS.skip))))
              (PS.skip))
            (PS.skip))
          (PS.seq (PS.ret (PE.var 4)) (PS.skip))))))
/- slots: [(below, 0), (heights, 1), (weights, 2), (levels, 3), (k, 4), (tables, 5), (j, 6), (cost, 7)] -/
noncomputable def p191 : PS :=
  PS.seq
  (PS.assign 5 (PE.lcomp (PE.list (PL.nil)) (PE.var 1) (PT.tt)))
  (PS.seq
    (PS.each
      4
      (PE.call
        (PE.glob (AV.blt (BI.range)))
        (PL.cons
          (PE.bin (BOp.sub) (PE.call (PE.glob (AV.blt (BI.len))) (PL.cons (PE.var 1) (PL.nil))) (PE.int 1))
          (PL.cons (PE.neg (PE.int 1)) (PL.cons (PE.neg (PE.int 1)) (PL.nil)))))
      (PS.seq
        (PS.each
          6
          (PE.call
            (PE.glob (AV.blt (BI.range)))
            (PL.cons (PE.call (PE.glob (AV.blt (BI.len))) (PL.cons (PE.var 3) (PL.nil))) (PL.nil)))
          (PS.seq
            (PS.assign
              7
              (PE.bin
                (BOp.add)
                (PE.bin
                  (BOp.mul)
                  (PE.sub (PE.var 2) (PE.var 4))
                  (PE.call
                    (PE.glob (AV.blt (BI.abs)))
                    (PL.cons (PE.bin (BOp.sub) (PE.sub (PE.var 3) (PE.var 6)) (PE.sub (PE.var 1) (PE.var 4))) (PL.nil))))
                (PE.call
                  (PE.glob (AV.blt (BI.sum)))
                  (PL.cons (PE.lcomp (PE.sub (PE.sub (PE.var 5) (PE.var 8)) (PE.var 6)) (PE.sub (PE.var 0) (PE.var 4)) (PT.tt)) (PL.nil)))))
            (PS.seq
              (PS.expr
                (PE.mcall
                  (PE.sub (PE.var 5) (PE.var 4))
                  (Meth.append)
                  (PL.cons
                    (PE.call
                      (PE.glob (AV.blt (BI.min)))
                      (PL.cons
                        (PE.bin
                          (BOp.add)
                          (PE.sliceFrom (PE.sub (PE.var 5) (PE.var 4)) (PE.neg (PE.int 1)))
                          (PE.list (PL.cons (PE.var 7) (PL.nil))))
                        (PL.nil)))
                    (PL.nil))))
              (PS.skip))))
        (PS.skip)))
    (PS.seq (PS.ret (PE.var 5)) (PS.skip)))
/- slots: [(script, 0), (numbers, 1), (size, 2), (heights, 3), (draws, 4), (k, 5), (above, 6), (weights, 7), (below, 8), (bends, 9), (paid, 10), (crests, 11), (levels, 12), (tables, 13), (told, 14), (fresh, 15)] -/
noncomputable def p196 : PS :=
  PS.seq
  (PS.assign 1 (PE.sliceTo (PE.var 0) (PE.int 24)))
  (PS.seq
    (PS.assign
      2
      (PE.bin (BOp.add) (PE.int 5) (PE.bin (BOp.mod) (PE.call (PE.glob (AV.blt (BI.sum))) (PL.cons (PE.var 1) (PL.nil))) (PE.int 4))))
    (PS.seq
      (PS.assign
        3
        (PE.call
          (PE.glob (AV.ref 174))
          (PL.cons
            (PE.sliceTo
              (PE.list
                (PL.cons
                  (PE.int 5)
                  (PL.cons
                    (PE.int 2)
                    (PL.cons
                      (PE.int 7)
                      (PL.cons (PE.int 4) (PL.cons (PE.int 9) (PL.cons (PE.int 1) (PL.cons (PE.int 8) (PL.cons (PE.int 3) (PL.nil))))))))))
              (PE.var 2))
            (PL.cons (PE.var 1) (PL.nil)))))
      (PS.seq
        (PS.ite
          (PT.tv
            (PE.cmp
              (COp.eq)
              (PE.bin (BOp.mod) (PE.call (PE.glob (AV.blt (BI.sum))) (PL.cons (PE.var 1) (PL.nil))) (PE.int 2))
              (PE.int 1)))
          (PS.seq (PS.assign 3 (PE.lcomp (PE.bin (BOp.mod) (PE.var 16) (PE.int 5)) (PE.var 3) (PT.tt))) (PS.skip))
          (PS.skip))
        (PS.seq
          (PS.assign
            4
            (PE.call
              (PE.glob (AV.ref 174))
              (PL.cons
                (PE.sliceTo
                  (PE.list
                    (PL.cons
                      (PE.int 0)
                      (PL.cons
                        (PE.int 0)
                        (PL.cons
                          (PE.int 3)
                          (PL.cons (PE.int 1) (PL.cons (PE.int 8) (PL.cons (PE.int 5) (PL.cons (PE.int 2) (PL.cons (PE.int 9) (PL.nil))))))))))
                  (PE.var 2))
                (PL.cons (PE.lcomp (PE.bin (BOp.fdiv) (PE.var 16) (PE.int 8)) (PE.var 1) (PT.tt)) (PL.nil)))))
          (PS.seq
            (PS.assign
              6
              (PE.bin
                (BOp.add)
                (PE.list (PL.cons (PE.int 0) (PL.nil)))
                (PE.lcomp
                  (PE.bin (BOp.mod) (PE.sub (PE.var 4) (PE.var 16)) (PE.var 16))
                  (PE.call (PE.glob (AV.blt (BI.range))) (PL.cons (PE.int 1) (PL.cons (PE.var 2) (PL.nil))))
                  (PT.tt))))
            (PS.seq
              (PS.assign
                7
                (PE.lcomp
                  (PE.bin (BOp.add) (PE.int 1) (PE.bin (BOp.mod) (PE.bin (BOp.fdiv) (PE.var 16) (PE.int 8)) (PE.int 3)))
                  (PE.var 4)
                  (PT.tt)))
              (PS.seq
                (PS.assign
                  8
                  (PE.lcomp
                    (PE.lcomp
                      (PE.var 17)
                      (PE.call (PE.glob (AV.blt (BI.range))) (PL.cons (PE.int 1) (PL.cons (PE.var 2) (PL.nil))))
                      (PT.tv (PE.cmp (COp.eq) (PE.sub (PE.var 6) (PE.var 17)) (PE.var 16))))
                    (PE.call (PE.glob (AV.blt (BI.range))) (PL.cons (PE.var 2) (PL.nil)))
                    (PT.tt)))
                (PS.seq
                  (PS.assign3 9 10 11 (PE.call (PE.glob (AV.ref 179)) (PL.cons (PE.var 8) (PL.cons (PE.var 3) (PL.cons (PE.var 7) (PL.nil))))))
                  (PS.seq
                    (PS.assign 12 (PE.call (PE.glob (AV.blt (BI.sorted))) (PL.cons (PE.var 3) (PL.nil))))
                    (PS.seq
                      (PS.assign
                        13
                        (PE.call
                          (PE.glob (AV.ref 191))
                          (PL.cons (PE.var 8) (PL.cons (PE.var 3) (PL.cons (PE.var 7) (PL.cons (PE.var 12) (PL.nil)))))))
                      (PS.seq
                        (PS.each
                          5
                          (PE.call (PE.glob (AV.blt (BI.range))) (PL.cons (PE.var 2) (PL.nil)))
                          (PS.seq
                            (PS.assign
                              14
                              (PE.lcomp
                                (PE.bin
                                  (BOp.add)
                                  (PE.sub (PE.var 10) (PE.var 5))
                                  (PE.call
                                    (PE.glob (AV.blt (BI.sum)))
                                    (PL.cons
                                      (PE.lcomp
                                        (PE.call
                                          (PE.glob (AV.blt (BI.max)))
                                          (PL.cons (PE.int 0) (PL.cons (PE.bin (BOp.sub) (PE.var 17) (PE.var 16)) (PL.nil))))
                                        (PE.sub (PE.var 9) (PE.var 5))
                                        (PT.tt))
                                      (PL.nil))))
                                (PE.var 12)
                                (PT.tt)))
                            (PS.seq
                              (PS.ite
                                (PT.tv (PE.cmp (COp.ne) (PE.var 14) (PE.sub (PE.var 13) (PE.var 5))))
                                (PS.seq (PS.ret (PE.bool false)) (PS.skip))
                                (PS.skip))
                              (PS.skip))))
                        (PS.seq
                          (PS.assign 15 (PE.call (PE.glob (AV.ref 186)) (PL.cons (PE.var 6) (PL.cons (PE.var 11) (PL.nil)))))
                          (PS.seq
                            (PS.ite
                              (PT.tv
                                (PE.cmp
                                  (COp.ne)
                                  (PE.lcomp
                                    (PE.var 16)
                                    (PE.call (PE.glob (AV.blt (BI.range))) (PL.cons (PE.int 1) (PL.cons (PE.var 2) (PL.nil))))
                                    (PT.tv
                                      (PE.cmp (COp.gt) (PE.sub (PE.var 15) (PE.var 16)) (PE.sub (PE.var 15) (PE.sub (PE.var 6) (PE.var 16))))))
                                  (PE.list (PL.nil))))
                              (PS.seq (PS.ret (PE.bool false)) (PS.skip))
                              (PS.skip))
                            (PS.seq
                              (PS.ret
                                (PE.cmp
                                  (COp.eq)
                                  (PE.call
                                    (PE.glob (AV.blt (BI.sum)))
                                    (PL.cons
                                      (PE.lcomp
                                        (PE.bin
                                          (BOp.mul)
                                          (PE.sub (PE.var 7) (PE.var 16))
                                          (PE.call
                                            (PE.glob (AV.blt (BI.abs)))
                                            (PL.cons (PE.bin (BOp.sub) (PE.sub (PE.var 15) (PE.var 16)) (PE.sub (PE.var 3) (PE.var 16))) (PL.nil))))
                                        (PE.call (PE.glob (AV.blt (BI.range))) (PL.cons (PE.var 2) (PL.nil)))
                                        (PT.tt))
                                      (PL.nil)))
                                  (PE.sub (PE.var 10) (PE.int 0))))
                              (PS.skip)))))))))))))))
theorem fn28 (w : World) : Fn w 28 := fn_of (by kernel_rfl)
theorem pr28 (w : World) : pOf w 28 = some p28 := by kernel_rfl
theorem fn35 (w : World) : Fn w 35 := fn_of (by kernel_rfl)
theorem pr35 (w : World) : pOf w 35 = some p35 := by kernel_rfl
theorem fn42 (w : World) : Fn w 42 := fn_of (by kernel_rfl)
theorem pr42 (w : World) : pOf w 42 = some p42 := by kernel_rfl
theorem fn49 (w : World) : Fn w 49 := fn_of (by kernel_rfl)
theorem pr49 (w : World) : pOf w 49 = some p49 := by kernel_rfl
theorem fn64 (w : World) : Fn w 64 := fn_of (by kernel_rfl)
theorem pr64 (w : World) : pOf w 64 = some p64 := by kernel_rfl
theorem fn101 (w : World) : Fn w 101 := fn_of (by kernel_rfl)
theorem pr101 (w : World) : pOf w 101 = some p101 := by kernel_rfl
theorem fn108 (w : World) : Fn w 108 := fn_of (by kernel_rfl)
theorem pr108 (w : World) : pOf w 108 = some p108 := by kernel_rfl
theorem fn115 (w : World) : Fn w 115 := fn_of (by kernel_rfl)
theorem pr115 (w : World) : pOf w 115 = some p115 := by kernel_rfl
theorem fn120 (w : World) : Fn w 120 := fn_of (by kernel_rfl)
theorem pr120 (w : World) : pOf w 120 = some p120 := by kernel_rfl
theorem fn127 (w : World) : Fn w 127 := fn_of (by kernel_rfl)
theorem pr127 (w : World) : pOf w 127 = some p127 := by kernel_rfl
theorem fn134 (w : World) : Fn w 134 := fn_of (by kernel_rfl)
theorem pr134 (w : World) : pOf w 134 = some p134 := by kernel_rfl
theorem fn148 (w : World) : Fn w 148 := fn_of (by kernel_rfl)
theorem pr148 (w : World) : pOf w 148 = some p148 := by kernel_rfl
theorem fn155 (w : World) : Fn w 155 := fn_of (by kernel_rfl)
theorem pr155 (w : World) : pOf w 155 = some p155 := by kernel_rfl
theorem fn174 (w : World) : Fn w 174 := fn_of (by kernel_rfl)
theorem pr174 (w : World) : pOf w 174 = some p174 := by kernel_rfl
theorem fn179 (w : World) : Fn w 179 := fn_of (by kernel_rfl)
theorem pr179 (w : World) : pOf w 179 = some p179 := by kernel_rfl
theorem fn186 (w : World) : Fn w 186 := fn_of (by kernel_rfl)
theorem pr186 (w : World) : pOf w 186 = some p186 := by kernel_rfl
theorem fn191 (w : World) : Fn w 191 := fn_of (by kernel_rfl)
theorem pr191 (w : World) : pOf w 191 = some p191 := by kernel_rfl
theorem fn196 (w : World) : Fn w 196 := fn_of (by kernel_rfl)
theorem pr196 (w : World) : pOf w 196 = some p196 := by kernel_rfl
end Mine
end
section
namespace Mine
open PySem PySem.W PyProof.Rows PySem.Calls
set_option maxRecDepth 100000

section
variable {w : World} {base : Heap} {s₀ : Shared} {mg mb : Str → Option Value} {r : Nat} {C : Ctr} {F : Addr → Option Obj} {P : Addr → Prop} {σ : Store} {s : Shared} {A : Around} {E : Value → Shared → Prop}

theorem OkA.make (ok : OkA base (r + 1) F none A) {args : Args} : OkA base r F none (A.under (.builtin "type.__call__" args)) := by
  obtain ⟨fr, h1, h2⟩ := ok.frames
  refine ⟨?_, ?_, fr, ?_, h2⟩
  · have := ok.depth
    show A.depth + (Code.builtin "type.__call__" args).weight + r ≤ 600
    have : (Code.builtin "type.__call__" args).weight ≤ 1 := by
      unfold Code.weight
      have h1 : (Code.builtin "type.__call__" args).frames = 0 := by rfl
      have h2 : (Code.builtin "type.__call__" args).isGuard = false := by show guardIds.contains "type.__call__" = false; decide +kernel
      have h3 : (Code.builtin "type.__call__" args).isCaller = false := by rfl
      rw [h1, h2, h3]
      simp only [Bool.false_eq_true, if_false]
      split <;> omega
    omega
  · have := ok.units
    show A.units + (Code.builtin "type.__call__" args).cUnits + 20 * r ≤ 2000
    have : (Code.builtin "type.__call__" args).cUnits ≤ 5 := by
      have h1 : (Code.builtin "type.__call__" args).cUnits = (Code.builtin "type.__call__" ⟨[], []⟩).cUnits := by rfl
      rw [h1]; decide +kernel
    omega
  · show pushEnvs (Code.builtin "type.__call__" args).envs A.frames = some fr
    rw [h1]; rfl

theorem SoundC.make165 (h : SoundC w base s₀ r C) (B : Bs w base mg mb) : SoundC w base s₀ (r + 1) (C.add 165 fun args Q σ => ∀ d x, σ d = none → σ x = none → d ≠ x → C 101 (.ref x :: args) (fun v σ' => v = .none ∧ Q (.ref x) σ') (upd (upd σ d (.sdict [])) x (.inst d))) :=
  h.add (.inr (.inr rfl)) fun args Q σ hS F P A s vs ok hA x ra => by
    have X : (KK w).In s.heap := B.k.keeps fun b o e => x.inBase e
    have hx := hS s.heap.objs.size (s.heap.objs.size + 1)
    obtain ⟨hh, g, d, t, os⟩ := s
    have f1 := x.fresh (get?_size hh)
    have x₁ := x.push (o' := .sdict []) (y := emptyDict) (tk := t) ⟨[], 0, rfl, .nil _⟩ rfl rfl
    have f2 := x₁.fresh (get?_size _)
    have x₂ := x₁.push (o' := .inst hh.objs.size) (y := instObj 165 hh.objs.size) (tk := t) rfl rfl rfl
    have sz : (hh.push emptyDict).objs.size = hh.objs.size + 1 := Heap.size_push ..
    have hne : hh.objs.size ≠ hh.objs.size + 1 := Nat.ne_of_lt (Nat.lt_succ_self _)
    have hσ : σ (hh.objs.size + 1) = none := by
      have f3 := f2.1
      rw [show ({ heap := hh.push emptyDict, gens := g, drawn := d, toks := t, os := os } : Shared).heap.objs.size = hh.objs.size + 1 from sz] at f3
      unfold upd at f3
      rw [if_neg (Ne.symm hne)] at f3; exact f3
    have hc := hx f1.1 hσ hne
    refine make_core (makes_of X (by kernel_rfl)) (looks_findIn X (r := some (.ref 101)) (by kernel_rfl)) (fun self => bind_fn X self (by kernel_rfl)) (.inl rfl) ?_
    have x₃ : Ext w base s₀ F P (upd (upd σ hh.objs.size (.sdict [])) (hh.objs.size + 1) (.inst hh.objs.size)) { heap := (hh.push emptyDict).push (instObj 165 hh.objs.size), gens := g, drawn := d, toks := t, os := os } := by
      have := x₂
      rw [show ({ heap := hh.push emptyDict, gens := g, drawn := d, toks := t, os := os } : Shared).heap.objs.size = hh.objs.size + 1 from sz] at this
      exact this
    refine codeAny_mono ((h 101 _ _ _ hc).2 F P _ _ (.ref (hh.objs.size + 1) :: vs) ok.make hA x₃ (.cons (a := .ref (hh.objs.size + 1)) rfl ra)) fun res s' hres => ?_
    obtain ⟨v, av, σ', rfl, rv, x', rfl, hq⟩ := hres
    cases rv
    exact ⟨rfl, _, .ref _, σ', rfl, rfl, x', hq⟩

theorem SoundC.make68 (h : SoundC w base s₀ r C) (B : Bs w base mg mb) : SoundC w base s₀ (r + 1) (C.add 68 fun args Q σ => ∀ x, σ x = none → C 64 (.ref x :: args) (fun v σ' => v = .none ∧ Q (.ref x) σ') (upd σ x (.node none none none))) :=
  h.add (.inr (.inl rfl)) fun args Q σ hS F P A s vs ok hA x ra => by
    have X : (KK w).In s.heap := B.k.keeps fun b o e => x.inBase e
    have hx := hS (s.heap.objs.size + 1)
    obtain ⟨hh, g, d, t, os⟩ := s
    have sz : (hh.push emptyDict).objs.size = hh.objs.size + 1 := Heap.size_push ..
    have hn : hh.get? (hh.objs.size + 1) = none := by
      cases e : hh.get? (hh.objs.size + 1) with
      | none => rfl
      | some o => exact absurd (Heap.lt_size e) (Nat.not_lt.mpr (Nat.le_succ _))
    have f1 := x.fresh hn
    have hc := hx f1.1
    refine make_core (makes_of X (by kernel_rfl)) (looks_findIn X (r := some (.ref 64)) (by kernel_rfl)) (fun self => bind_fn X self (by kernel_rfl)) (.inl rfl) ?_
    have x₃ : Ext w base s₀ F P (upd σ (hh.objs.size + 1) (.node none none none)) { heap := (hh.push emptyDict).push (instObj 68 hh.objs.size), gens := g, drawn := d, toks := t, os := os } := by
      refine x.new (tk := t) hn (Nat.lt_succ_of_lt x.size3) (fun b z e => Heap.get?_push_of_some _ (Heap.get?_push_of_some _ e)) (y := instObj 68 hh.objs.size) ?_ ⟨rfl, rfl, rfl, rfl, rfl⟩ rfl fun _ => ⟨hh.objs.size, emptyDict, rfl, Heap.get?_push_of_some _ (Heap.get?_push_size _ rfl), fun fs e => by cases e⟩
      have := Heap.get?_push_size (hh.push emptyDict) (o := instObj 68 hh.objs.size) rfl
      rw [sz] at this; exact this
    refine codeAny_mono ((h 64 _ _ _ hc).2 F P _ _ (.ref (hh.objs.size + 1) :: vs) ok.make hA x₃ (.cons (a := .ref (hh.objs.size + 1)) rfl ra)) fun res s' hres => ?_
    obtain ⟨v, av, σ', rfl, rv, x', rfl, hq⟩ := hres
    cases rv
    exact ⟨rfl, _, .ref _, σ', rfl, rfl, x', hq⟩
end
end Mine
end
section
namespace Mine
open PySem PySem.W PyProof.Rows PySem.Calls
set_option maxRecDepth 100000

section
variable {w : World} {base : Heap} {s₀ : Shared} {mg mb : Str → Option Value} {r : Nat} {C : Ctr} {F : Addr → Option Obj} {P : Addr → Prop} {σ : Store} {s : Shared} {A : Around} {E : Value → Shared → Prop}

theorem BindR.append {a b : List (Str × AV)} {a' b' : List (Str × Value)} (h : BindR a a') (h' : BindR b b') : BindR (a ++ b) (a' ++ b') := by
  induction h with
  | nil => exact h'
  | cons r _ ih => exact .cons r ih

theorem SoundC.defV (h : SoundC w base s₀ r C) (B : Bs w base mg mb) {a : Addr} (hf : Fn w a) {va : Str} {n : Nat} (hb : BindsV (fdOf w a) va n) (hvv : ∃ i, (TC.of (fdOf w a).scope.names).var va = some i) {p : PS} (hp : pOf w a = some p) {S : List AV → (AV → Store → Prop) → Store → Prop}
    (hs : ∀ args Q σ, S args Q σ → n ≤ args.length ∧ args.length ≤ lim ∧ ∀ t, σ t = none →
      WS C p (fin Q) (memOf (TC.of (fdOf w a).scope.names) ((parsOf (fdOf w a)).zip args ++ [(va, .ref t)]) (List.replicate (TC.of (fdOf w a).scope.names).nx none)) (upd σ t (.tuple (args.drop n)))) : SoundC w base s₀ (r + 1) (C.add a S) :=
  h.add hf.known fun args Q σ hS F P A s vs ok hA x ra => by
    obtain ⟨hl, hlim, hw⟩ := hs args Q σ hS
    have hl' := ra.length
    refine enter_fn B h hf hp ok hA x fun E' => ?_
    rw [hb vs (hl' ▸ hl)]
    refine wpAny_bind ?_
    unfold newTuple
    refine wpAny_newObj_type (wpAny_pure ?_) ?_
    · have x' := x.push (o' := .tuple (args.drop n)) (y := { cls := .type "tuple", data := .seq (vs.drop n).toArray }) (tk := s.toks) ⟨_, 0, rfl, by rw [List.toList_toArray]; exact ra.drop n⟩ rfl rfl
      refine ⟨_, _, (zipR ra).append (.cons (a := .ref s.heap.objs.size) rfl .nil), fun q hq => ?_, x', hw _ (x.fresh (get?_size _)).1⟩
      rcases List.mem_append.mp hq with hq | hq
      · exact hf.vars q.1 (List.of_mem_zip hq).1
      · rw [List.mem_singleton.mp hq]; exact hvv
    · refine lim_size (Nat.le_trans ?_ hlim)
      rw [List.size_toArray, List.length_drop, ← hl']
      exact Nat.sub_le ..

theorem SoundC.defD (h : SoundC w base s₀ r C) (B : Bs w base mg mb) {a : Addr} (hf : Fn w a) {y z : Str} (hps : parsOf (fdOf w a) = [y, z]) (hb : ∀ {s : Shared}, (KK w).In s.heap → (∀ u v, BindsTo s (fdOf w a) ⟨[u, v], []⟩ [(y, u), (z, v)]) ∧ ∀ u, BindsTo s (fdOf w a) ⟨[u], []⟩ [(y, u), (z, .none)])
    {p : PS} (hp : pOf w a = some p) {S : List AV → (AV → Store → Prop) → Store → Prop}
    (hs : ∀ args Q σ, S args Q σ → ∃ u v, (args = [u, v] ∨ (args = [u] ∧ v = .none)) ∧ WS C p (fin Q) (memOf (TC.of (fdOf w a).scope.names) [(y, u), (z, v)] (List.replicate (TC.of (fdOf w a).scope.names).nx none)) σ) : SoundC w base s₀ (r + 1) (C.add a S) :=
  h.add hf.known fun args Q σ hS F P A s vs ok hA x ra => by
    obtain ⟨u, v, hargs, hw⟩ := hs args Q σ hS
    refine enter_fn B h hf hp ok hA x fun E' => ?_
    have hv : ∀ q ∈ [(y, u), (z, v)], ∃ i, (TC.of (fdOf w a).scope.names).var q.1 = some i := fun q hq => hf.vars q.1 (by
      rw [hps]
      rcases List.mem_cons.mp hq with rfl | hq
      · exact List.mem_cons_self
      · rw [List.mem_singleton.mp hq]; exact List.mem_cons_of_mem _ List.mem_cons_self)
    have hb := hb (B.k.keeps fun b o e => x.inBase e)
    rcases hargs with rfl | ⟨rfl, rfl⟩
    · cases ra with
      | cons r1 ra => cases ra with
        | cons r2 ra => cases ra with
          | nil => exact hb.1 _ _ _ _ _ _ ⟨_, σ, .cons r1 (.cons r2 .nil), hv, x, hw⟩
    · cases ra with
      | cons r1 ra => cases ra with
        | nil => exact hb.2 _ _ _ _ _ ⟨_, σ, .cons r1 (.cons (a := .none) rfl .nil), hv, x, hw⟩
end
end Mine
end
section
namespace Mine
open PySem PySem.W PyProof.Rows PySem.Calls
set_option maxRecDepth 100000

noncomputable def join (τ ρ : Store) : Store := fun a => match τ a with
  | some o => some o
  | none => ρ a
theorem join_l {τ ρ : Store} {a : Adr} {o : AO} (h : τ a = some o) : join τ ρ a = some o := by unfold join; rw [h]
theorem join_r {τ ρ : Store} {a : Adr} (h : τ a = none) : join τ ρ a = ρ a := by unfold join; rw [h]

noncomputable def Cl (C : Ctr) : Ctr := fun f args Q σ => ∃ τ ρ, σ = join τ ρ ∧ (∀ a o, ρ a = some o → τ a = none ∧ isNode o = false) ∧
  C f args (fun v τ' => (∀ a o, ρ a = some o → τ' a = none) → Fg τ' (fun τ'' => Q v (join τ'' ρ))) τ

section
variable {w : World} {base : Heap} {s₀ : Shared} {mg mb : Str → Option Value} {r : Nat} {C : Ctr} {F : Addr → Option Obj} {P : Addr → Prop} {σ : Store} {s : Shared} {A : Around} {E : Value → Shared → Prop}

theorem SoundC.cl (h : SoundC w base s₀ r C) : SoundC w base s₀ r (Cl C) := fun f args Q σ hc => by
  obtain ⟨τ, ρ, rfl, hdis, hc⟩ := hc
  refine ⟨(h _ _ _ _ hc).1, fun F P A s vs ok hA x ra => ?_⟩
  classical
  let ow : Addr → Prop := fun a => ∃ o, ρ a = some o ∧ isRo o = false
  have hσ : ∀ a o, ρ a = some o → join τ ρ a = some o := fun a o e => by rw [join_r (hdis a o e).1]; exact e
  have how : ∀ a, ow a → F a = none ∧ ∃ y, s.heap.get? a = some y := fun a ⟨o, e, hr⟩ => by
    obtain ⟨f1, y, f2, _⟩ := x.own a o (hσ a o e) hr
    exact ⟨f1, y, f2⟩
  let F' : Addr → Option Obj := fun a => if ow a then s.heap.get? a else F a
  let P' : Addr → Prop := fun a => P a ∨ ∃ o, ρ a = some o
  have hF : ∀ a o, F a = some o → F' a = some o := fun a o e => by
    have : ¬ ow a := fun h => by rw [(how a h).1] at e; cases e
    show (if ow a then s.heap.get? a else F a) = some o
    rw [if_neg this]; exact e
  have hFn : ∀ a, ¬ ow a → F' a = F a := fun a h => if_neg h
  have x' : Ext w base s₀ F' P' τ s := by
    refine ⟨x.rest, fun a o e => ?_, fun a o e hr => ?_, fun a o e => ?_, fun a o e => hF a o (x.based a o e), fun a h => ?_, ?_, fun a o e => x.hi a o (join_l e), fun a o e => x.live a o (join_l e)⟩
    · by_cases ha : ow a
      · have : s.heap.get? a = some o := by
          have e' : (if ow a then s.heap.get? a else F a) = some o := e
          rwa [if_pos ha] at e'
        exact .of this
      · rw [hFn a ha] at e; exact x.still a o e
    · have ha : ¬ ow a := fun ⟨z, hz, _⟩ => by rw [(hdis a z hz).1] at e; cases e
      obtain ⟨f1, y, f2, f3⟩ := x.own a o (join_l e) hr
      exact ⟨(hFn a ha).trans f1, y, f2, f3⟩
    · have ha : ¬ ow a := fun ⟨z, hz, _⟩ => by rw [(hdis a z hz).1] at e; cases e
      obtain ⟨y, f1, f2⟩ := x.ro a o (join_l e)
      exact ⟨y, (hFn a ha).trans f1, f2⟩
    · rcases h with h | ⟨o, ho⟩
      · have hp := x.priv a h
        obtain ⟨z, hz⟩ := Option.isSome_iff_exists.mp hp.2
        refine ⟨?_, by rw [hF a z hz]; rfl⟩
        cases e : τ a with
        | none => rfl
        | some q => rw [join_l e] at hp; cases hp.1
      · refine ⟨(hdis a o ho).1, ?_⟩
        cases hr : isRo o with
        | false =>
          have ha : ow a := ⟨o, ho, hr⟩
          obtain ⟨_, y, hy⟩ := how a ha
          show (if ow a then s.heap.get? a else F a).isSome
          rw [if_pos ha, hy]; rfl
        | true =>
          obtain ⟨o', rfl⟩ : ∃ o', o = .ro o' := by cases o <;> first | exact ⟨_, rfl⟩ | (cases hr; done)
          obtain ⟨y, hy, _⟩ := x.ro a o' (hσ a _ ho)
          rw [hF a y hy]; rfl
    · obtain ⟨o, e⟩ := x.three; exact ⟨o, hF _ _ e⟩
  refine codeAny_mono ((h _ _ _ _ hc).2 F' P' A s vs (ok.grow hF) hA x' ra) fun res s' hres => ?_
  obtain ⟨v, av, τ', rfl, rv, x₁, hq⟩ := hres
  obtain ⟨τ'', hsub, hq⟩ := hq fun a o ho => (x₁.priv a (.inr ⟨o, ho⟩)).1
  have x₂ := x₁.sub hsub
  refine ⟨v, av, join τ'' ρ, rfl, rv, ?_, hq⟩
  have hsplit : ∀ a o, join τ'' ρ a = some o → τ'' a = some o ∨ (τ'' a = none ∧ ρ a = some o) := fun a o e => by
    cases e' : τ'' a with
    | some q => rw [join_l e'] at e; cases e; exact .inl rfl
    | none => rw [join_r e'] at e; exact .inr ⟨rfl, e⟩
  refine ⟨x₂.rest, fun a o e => x₂.still a o (hF a o e), fun a o e hr => ?_, fun a o e => ?_, x.based, fun a p => ?_, x.three, fun a o e hr => ?_, fun a o e hn => ?_⟩
  · rcases hsplit a o e with e | ⟨_, e⟩
    · obtain ⟨f1, y, f2, f3⟩ := x₂.own a o e hr
      refine ⟨?_, y, f2, f3⟩
      cases h' : F a with
      | none => rfl
      | some q => rw [hF a q h'] at f1; cases f1
    · obtain ⟨f1, y, f2, f3⟩ := x.own a o (hσ a o e) hr
      have ha : ow a := ⟨o, e, hr⟩
      have hFy : F' a = some y := by
        show (if ow a then s.heap.get? a else F a) = some y
        rw [if_pos ha]; exact f2
      exact ⟨f1, y, (x₂.still a y hFy).exact f3.cls, f3⟩
  · rcases hsplit a _ e with e | ⟨_, e⟩
    · obtain ⟨y, f1, f2⟩ := x₂.ro a o e
      refine ⟨y, ?_, f2⟩
      by_cases ha : ow a
      · obtain ⟨z, hz, hzr⟩ := ha
        have := (x₂.priv a (.inr ⟨z, hz⟩)).1
        rw [this] at e; cases e
      · rw [hFn a ha] at f1; exact f1
    · exact x.ro a o (hσ a _ e)
  · have hp := x.priv a p
    have hρ : ρ a = none := by
      cases e : ρ a with
      | none => rfl
      | some q => rw [hσ a q e] at hp; cases hp.1
    refine ⟨?_, hp.2⟩
    rw [join_r (x₂.priv a (.inl p)).1]; exact hρ
  · rcases hsplit a o e with e | ⟨_, e⟩
    · exact x₂.hi a o e hr
    · exact x.hi a o (hσ a o e) hr
  · rcases hsplit a o e with e | ⟨_, e⟩
    · exact x₂.live a o e hn
    · rw [(hdis a o e).2] at hn; cases hn
end
end Mine
end
section
namespace Mine

theorem upd_self (σ : Store) (a : Adr) (o : AO) : upd σ a o a = some o := if_pos rfl
theorem upd_ne {σ : Store} {a b : Adr} {o : AO} (h : b ≠ a) : upd σ a o b = σ b := if_neg h
theorem upd_upd (σ : Store) (a : Adr) (o o' : AO) : upd (upd σ a o) a o' = upd σ a o' := by
  funext b; unfold upd; split <;> rfl
theorem upd_same {σ : Store} {a : Adr} {o : AO} (h : σ a = some o) : upd σ a o = σ := by
  funext b; unfold upd; split
  · rename_i e; rw [e, h]
  · rfl
theorem at_own {σ : Store} {a : Adr} {o : AO} (h : σ a = some o) (hr : isRo o = false) : at? σ a = some o := by unfold at?; rw [h]; simp only [Option.map_some]; rw [rd_of_notRo hr]
theorem fg_self {σ : Store} {P : Store → Prop} (h : P σ) : Fg σ P := ⟨σ, fun _ _ e => e, h⟩

section
variable {a b : Int} {v : AV} {Q : Bool → Prop} {R : AV → Store → Prop} {σ : Store}
theorem cmp_lt : Cmp .lt (.int a) (.int b) Q σ = Q (decide (a < b)) := rfl
theorem cmp_gt : Cmp .gt (.int a) (.int b) Q σ = Q (decide (a > b)) := rfl
theorem cmp_ge : Cmp .ge (.int a) (.int b) Q σ = Q (decide (a ≥ b)) := rfl
theorem cmp_eq : Cmp .eq (.int a) (.int b) Q σ = Q (decide (a = b)) := rfl
theorem cmp_ne : Cmp .ne (.int a) (.int b) Q σ = Q (decide (a ≠ b)) := rfl
theorem cmp_is : Cmp .is v .none Q σ = Q (decide (v = .none)) := by cases v <;> rfl
theorem cmp_isnot : Cmp .isnot v .none Q σ = Q (decide (v ≠ .none)) := by cases v <;> rfl
theorem bin_add : Bin .add (.int a) (.int b) R σ = R (.int (a + b)) σ := rfl
theorem bin_sub : Bin .sub (.int a) (.int b) R σ = R (.int (a - b)) σ := rfl
theorem bin_mul : Bin .mul (.int a) (.int b) R σ = (a.natAbs < 2 ^ 60 ∧ R (.int (a * b)) σ) := rfl
theorem bin_fdiv : Bin .fdiv (.int a) (.int b) R σ = (b ≠ 0 ∧ b.natAbs < 1073741824 ∧ R (.int (a.fdiv b)) σ) := rfl
theorem bin_mod : Bin .mod (.int a) (.int b) R σ = (b ≠ 0 ∧ R (.int (a.fmod b)) σ) := rfl
theorem bin_shr : Bin .shr (.int a) (.int b) R σ = (0 ≤ b ∧ R (.int (a.fdiv (2 ^ b.toNat))) σ) := rfl
theorem tru_bool {t : Bool} : Tru (.bool t) Q σ = Q t := rfl
end

theorem ofInts_get {xs : List Int} {k : Nat} (h : k < xs.length) : (ofInts xs)[k]? = some (.int (xs.getD k 0)) := by
  unfold ofInts; simp [h]
theorem ofInts_len (xs : List Int) : (ofInts xs).length = xs.length := by unfold ofInts; simp
theorem ofInts_set (xs : List Int) (k : Nat) (v : Int) : (ofInts xs).set k (.int v) = ofInts (xs.set k v) := by unfold ofInts; rw [List.map_set]
theorem getD_set {xs : List Int} {p i : Nat} {v : Int} (hp : p < xs.length) : (xs.set p v).getD i 0 = if i = p then v else xs.getD i 0 := by
  simp only [List.getD_eq_getElem?_getD, List.getElem?_set]
  by_cases h : i = p
  · subst h; simp [hp]
  · rw [if_neg (Ne.symm h), if_neg h]

theorem ws_loop {C : Ctr} {t : PT} {b els : PS} {Q : Post} {m : Mem} {σ : Store} (I : Nat → Mem → Store → Prop) {n : Nat} (h0 : I n m σ)
    (hs : ∀ n m σ K, I n m σ → LoopK I Q n K → WT C t (Br (WS C b K) (WS C els Q)) m σ) : WS C (.loop t b els) Q m σ := by
  rw [WS_16]; exact ⟨I, n, h0, hs⟩

theorem getItem_list {σ : Store} {h : Adr} {xs : List Int} {k : Nat} {Q : AV → Prop} (hσ : at? σ h = some (.list (ofInts xs))) (hl : xs.length ≤ lim) (h1 : k < xs.length) (hq : Q (.int (xs.getD k 0))) : GetItem (.ref h) (.int k) Q σ := by
  exact .list hσ (by rw [ofInts_len]; exact hl) (by rw [if_pos (Int.natCast_nonneg k), Int.toNat_natCast, ofInts_get h1]) hq
theorem setItem_list {σ : Store} {h : Adr} {xs : List Int} {k : Nat} {v : Int} {Q : Store → Prop} (hσ : σ h = some (.list (ofInts xs))) (hl : xs.length ≤ lim) (h1 : k < xs.length) (hq : Q (upd σ h (.list (ofInts (xs.set k v))))) : SetItem (.ref h) (.int k) (.int v) Q σ := by
  exact .list hσ (by rw [ofInts_len]; exact hl) (Int.natCast_nonneg k) (by rw [ofInts_len, Int.toNat_natCast]; exact h1) (by rw [Int.toNat_natCast, ofInts_set]; exact hq)

noncomputable def Hp (xs : List Int) : Prop := ∀ i, 0 < i → i < xs.length → xs.getD ((i - 1) / 2) 0 ≤ xs.getD i 0
noncomputable def Al (xs : List Int) (p : Nat) : Prop :=
  (∀ i, 0 < i → i < xs.length → i ≠ p → xs.getD ((i - 1) / 2) 0 ≤ xs.getD i 0) ∧
  (0 < p → ∀ c, 0 < c → c < xs.length → (c - 1) / 2 = p → xs.getD ((p - 1) / 2) 0 ≤ xs.getD c 0)

theorem set_perm {V : List Int} {q j : Nat} {x y : Int} (hq : q < V.length) (hj : j < V.length) (hx : V.getD q 0 = x) (hy : V.getD j 0 = y) : ((V.set q y).set j x).Perm V := by
  have := List.set_set_perm hq hj
  have e1 : V[j] = y := by rw [← hy]; simp [hj]
  have e2 : V[q] = x := by rw [← hx]; simp [hq]
  rw [e1, e2] at this; exact this

theorem al_up {V : List Int} {q : Nat} {x : Int} (hq : q < V.length) (h0 : 0 < q) (hx : V.getD q 0 = x) (ha : Al V q) (hlt : x < V.getD ((q - 1) / 2) 0) :
    Al ((V.set q (V.getD ((q - 1) / 2) 0)).set ((q - 1) / 2) x) ((q - 1) / 2) := by
  obtain ⟨a1, a2⟩ := ha
  have hj : (q - 1) / 2 < q := by omega
  generalize hjj : (q - 1) / 2 = j at *
  have hjl : j < V.length := by omega
  have g : ∀ i, ((V.set q (V.getD j 0)).set j x).getD i 0 = if i = j then x else if i = q then V.getD j 0 else V.getD i 0 := fun i => by
    rw [getD_set (by simp; omega), getD_set hq]
  refine ⟨fun i hi0 hil hij => ?_, fun hj0 c hc0 hcl hcp => ?_⟩
  · simp only [List.length_set] at hil
    rw [g i, g ((i - 1) / 2), if_neg hij]
    by_cases hiq : i = q
    · subst hiq
      rw [if_pos rfl, hjj, if_pos rfl]; omega
    · rw [if_neg hiq]
      by_cases hp : (i - 1) / 2 = j
      · rw [if_pos hp]
        have := a1 i hi0 hil hiq
        rw [hp] at this; omega
      · rw [if_neg hp]
        by_cases hpq : (i - 1) / 2 = q
        · rw [if_pos hpq]
          have := a2 h0 i hi0 hil hpq
          exact this
        · rw [if_neg hpq]; exact a1 i hi0 hil hiq
  · simp only [List.length_set] at hcl
    have hpj : (j - 1) / 2 < j := by omega
    rw [g ((j - 1) / 2), g c, if_neg (by omega), if_neg (by omega)]
    have hj' := a1 j hj0 hjl (by omega)
    have hcj : c ≠ j := by omega
    rw [if_neg hcj]
    by_cases hcq : c = q
    · rw [if_pos hcq]; exact hj'
    · rw [if_neg hcq]
      have := a1 c hc0 hcl hcq
      rw [hcp] at this; omega

theorem v42 {C : Ctr} {σ : Store} {h : Adr} {xs : List Int} {p : Nat} {Q : AV → Store → Prop} (hσ : σ h = some (.list (ofInts xs))) (hp : p < xs.length) (hl : xs.length ≤ lim) (ha : Al xs p)
    (hq : ∀ ys : List Int, ys.Perm xs → Hp ys → Q .none (upd σ h (.list (ofInts ys)))) : WS C p42 (fin Q) [some (.ref h), some (.int 0), some (.int p), none, none, none] σ := by
  unfold p42
  simp only [WS_20, WS_6, put, Sq_n, W_18, W_4, List.getElem?_cons_zero, List.getElem?_cons_succ, List.length_cons, List.length_nil, List.set_cons_succ, List.set_cons_zero]
  refine getItem_list (at_own hσ rfl) hl hp ⟨by omega, ?_⟩
  generalize hx : xs.getD p 0 = x
  refine ws_loop (fun n m σ' => Ex4 fun (L : List Int) (q : Nat) (m4 m5 : Option AV) => An7 (m = [some (.ref h), some (.int 0), some (.int q), some (.int x), m4, m5]) (σ' = upd σ h (.list (ofInts L))) (L.length = xs.length) (q < xs.length) (n = q) ((L.set q x).Perm xs) (Al (L.set q x) q))
    (n := p) ⟨xs, p, none, none, by simp [put], (upd_same hσ).symm, rfl, hp, rfl, ?_, ?_⟩ ?_
  · rw [← hx]
    have : xs.set p (xs.getD p 0) = xs := by
      apply List.ext_getElem (by simp)
      intro i h1 h2
      rw [List.getElem_set]
      split
      · rename_i e; subst e; simp [hp]
      · rfl
    rw [this]
  · have : xs.set p x = xs := by
      rw [← hx]
      apply List.ext_getElem (by simp)
      intro i h1 h2
      rw [List.getElem_set]
      split
      · rename_i e; subst e; simp [hp]
      · rfl
    rw [this]; exact ha
  · rintro n m σ' K ⟨L, q, m4, m5, rfl, rfl, hL, hql, rfl, hperm, hal⟩ hK
    simp only [WT_2, W_8, tru_bool, W_4, List.getElem?_cons_succ, List.getElem?_cons_zero, cmp_gt]
    have hqL : n < L.length := by omega
    have hend : Hp (L.set n x) → SetItem (.ref h) (.int n) (.int x) (fun σ => Q .none σ) (upd σ h (.list (ofInts L))) := fun hH => by
      refine setItem_list (upd_self ..) (by omega) hqL ?_
      rw [upd_upd]
      exact hq _ hperm hH
    by_cases h0 : (n : Int) > 0
    · rw [decide_eq_true h0]
      simp only [Br_t, WS_20, WS_6, put, Sq_n, WS_15, WT_2, W_8, tru_bool, W_4, W_18, List.length_set, W_6, W_1, List.getElem?_cons_succ, List.getElem?_cons_zero, List.length_cons, List.length_nil, List.set_cons_succ, List.set_cons_zero, bin_sub, bin_shr]
      have hn0 : 0 < n := by omega
      have hj : ((n : Int) - 1).fdiv (2 ^ Int.toNat 1) = ((n - 1) / 2 : Nat) := by
        rw [Int.fdiv_eq_ediv_of_nonneg _ (by decide)]
        have : ((2 : Int) ^ Int.toNat 1) = 2 := by decide
        rw [this]; omega
      rw [hj]
      refine ⟨by omega, by omega, ?_⟩
      have hjl : (n - 1) / 2 < L.length := by omega
      refine getItem_list (at_own (upd_self ..) rfl) (by omega) hjl ⟨by omega, ?_⟩
      simp only [cmp_lt]
      have hVj : (L.set n x).getD ((n - 1) / 2) 0 = L.getD ((n - 1) / 2) 0 := by rw [getD_set hqL, if_neg (by omega)]
      have hVn : (L.set n x).getD n 0 = x := by rw [getD_set hqL, if_pos rfl]
      by_cases hlt : x < L.getD ((n - 1) / 2) 0
      · rw [decide_eq_true hlt]
        simp only [Br_t, WS_20, WS_8, Sq_n, WS_6, put, WS_4, Sq_c, W_4, List.getElem?_cons_succ, List.getElem?_cons_zero, List.length_cons, List.length_nil, List.set_cons_succ, List.set_cons_zero]
        refine setItem_list (upd_self ..) (by omega) hqL ⟨by omega, hK.2 ((n - 1) / 2) _ _ (by omega) (fg_self ⟨L.set n (L.getD ((n - 1) / 2) 0), (n - 1) / 2, _, _, rfl, ?_, by simp [hL], by omega, rfl, ?_, ?_⟩)⟩
        · rw [upd_upd]
        · have := set_perm (V := L.set n x) (q := n) (j := (n - 1) / 2) (by simpa using hqL) (by simpa using hjl) hVn hVj
          rw [List.set_set] at this
          exact this.trans hperm
        · have := al_up (V := L.set n x) (by simpa using hqL) hn0 hVn hal (by rw [hVj]; exact hlt)
          rw [hVj, List.set_set] at this
          exact this
      · rw [decide_eq_false hlt]
        simp only [Br_f, WS_1, Sq_n, WS_20, WS_3, Sq_b]
        refine hK.3 _ _ ?_
        simp only [Sq_n, WS_20, WS_8, WS_1, W_4, List.getElem?_cons_succ, List.getElem?_cons_zero]
        refine hend fun i hi0 hil => ?_
        by_cases hin : i = n
        · subst hin
          rw [hVn, hVj]; omega
        · exact hal.1 i hi0 hil hin
    · rw [decide_eq_false h0]
      simp only [Br_f, WS_1, Sq_n, WS_20, WS_8, W_4, List.getElem?_cons_succ, List.getElem?_cons_zero]
      have hn0 : n = 0 := by omega
      refine hend fun i hi0 hil => hal.1 i hi0 hil (by omega)
end Mine
end
section
namespace Mine

noncomputable def Dn (V : List Int) (q : Nat) : Prop :=
  (∀ i, 0 < i → i < V.length → i ≠ q → (i - 1) / 2 ≠ q → V.getD ((i - 1) / 2) 0 ≤ V.getD i 0) ∧
  (0 < q → ∀ c, 0 < c → c < V.length → (c - 1) / 2 = q → V.getD ((q - 1) / 2) 0 ≤ V.getD c 0)

theorem dn_leaf {V : List Int} {q : Nat} (h : Dn V q) (hl : V.length ≤ 2 * q + 1) : Al V q :=
  ⟨fun i h0 h1 h2 => h.1 i h0 h1 h2 (by omega), h.2⟩

theorem dn_step {V : List Int} {q c : Nat} {x : Int} (hq : q < V.length) (hc : c < V.length) (hpc : (c - 1) / 2 = q) (hc0 : 0 < c) (hqc : q < c) (hx : V.getD q 0 = x) (hd : Dn V q) (hmin : ∀ i, 0 < i → i < V.length → (i - 1) / 2 = q → V.getD c 0 ≤ V.getD i 0) :
    Dn ((V.set q (V.getD c 0)).set c x) c := by
  have g : ∀ i, ((V.set q (V.getD c 0)).set c x).getD i 0 = if i = c then x else if i = q then V.getD c 0 else V.getD i 0 := fun i => by
    rw [getD_set (by simp; omega), getD_set hq]
  refine ⟨fun i hi0 hil hic hpi => ?_, fun _ d hd0 hdl hdp => ?_⟩
  · simp only [List.length_set] at hil
    rw [g i, g ((i - 1) / 2), if_neg hic, if_neg hpi]
    by_cases hiq : i = q
    · subst hiq
      rw [if_pos rfl, if_neg (by omega)]
      exact hd.2 hi0 c hc0 hc hpc
    · rw [if_neg hiq]
      by_cases hp : (i - 1) / 2 = q
      · rw [if_pos hp]; exact hmin i hi0 hil hp
      · rw [if_neg hp]; exact hd.1 i hi0 hil hiq hp
  · simp only [List.length_set] at hdl
    rw [hpc, g q, g d, if_neg (show ¬ q = c by omega), if_pos rfl, if_neg (show ¬ d = c by omega), if_neg (show ¬ d = q by omega)]
    have := hd.1 d hd0 hdl (by omega) (by omega)
    rw [hdp] at this; exact this

noncomputable def S42 (args : List AV) (Q : AV → Store → Prop) (σ : Store) : Prop := Ex3 fun (h : Adr) (xs : List Int) (p : Nat) => An6 (args = [.ref h, .int 0, .int p]) (σ h = some (.list (ofInts xs))) (p < xs.length) (xs.length ≤ lim) (Al xs p) (∀ ys : List Int, ys.Perm xs → Hp ys → Q .none (upd σ h (.list (ofInts ys))))
noncomputable def S49 (args : List AV) (Q : AV → Store → Prop) (σ : Store) : Prop := Ex2 fun (h : Adr) (xs : List Int) => An6 (args = [.ref h, .int 0]) (σ h = some (.list (ofInts xs))) (0 < xs.length) (xs.length ≤ lim) (Dn xs 0) (∀ ys : List Int, ys.Perm xs → Hp ys → Q .none (upd σ h (.list (ofInts ys))))
noncomputable def S28 (args : List AV) (Q : AV → Store → Prop) (σ : Store) : Prop := Ex3 fun (h : Adr) (xs : List Int) (x : Int) => An5 (args = [.ref h, .int x]) (σ h = some (.list (ofInts xs))) (xs.length < lim) (Hp xs) (∀ ys : List Int, ys.Perm (x :: xs) → Hp ys → Q .none (upd σ h (.list (ofInts ys))))
noncomputable def S35 (args : List AV) (Q : AV → Store → Prop) (σ : Store) : Prop := Ex3 fun (h : Adr) (xs : List Int) (x : Int) => An6 (args = [.ref h, .int x]) (σ h = some (.list (ofInts xs))) (0 < xs.length) (xs.length ≤ lim) (Hp xs) (∀ ys : List Int, ys.Perm (xs.set 0 x) → Hp ys → Q (.int (xs.getD 0 0)) (upd σ h (.list (ofInts ys))))

theorem set_same {xs : List Int} {p : Nat} (hp : p < xs.length) : xs.set p (xs.getD p 0) = xs := by
  apply List.ext_getElem (by simp)
  intro i h1 h2
  rw [List.getElem_set]
  split
  · rename_i e; subst e; simp [hp]
  · rfl

theorem bcall_len {σ : Store} {h : Adr} {vs : List AV} {Q : AV → Store → Prop} (hσ : at? σ h = some (.list vs)) (hl : vs.length ≤ lim) (hq : Q (.int vs.length) σ) : Bcall .len [.ref h] Q σ := .len vs (.inl hσ) hl hq
theorem call_blt {C : Ctr} {b : BI} {vs : List AV} {Q : AV → Store → Prop} {σ : Store} : Call C (.blt b) vs Q σ = Bcall b vs Q σ := rfl
theorem call_ref {C : Ctr} {g : Adr} {vs : List AV} {Q : AV → Store → Prop} {σ : Store} : Call C (.ref g) vs Q σ = C g vs Q σ := rfl

theorem v49 {C : Ctr} (h42 : ∀ args Q σ, S42 args Q σ → C 42 args Q σ) {σ : Store} {h : Adr} {xs : List Int} {Q : AV → Store → Prop} (hσ : σ h = some (.list (ofInts xs))) (hp : 0 < xs.length) (hl : xs.length ≤ lim) (hd : Dn xs 0)
    (hq : ∀ ys : List Int, ys.Perm xs → Hp ys → Q .none (upd σ h (.list (ofInts ys)))) : WS C p49 (fin Q) [some (.ref h), some (.int 0), none, none, none, none, none] σ := by
  unfold p49
  simp only [WS_20, WS_6, put, Sq_n, W_6, W_1, W_4, List.length_set, W_18, W_14, WL_2, WL_1, W_5, List.getElem?_cons_zero, List.length_cons, List.length_nil, List.set_cons_succ, List.set_cons_zero, List.getElem?_cons_succ, bin_mul, bin_add, call_blt]
  refine bcall_len (at_own hσ rfl) (by rw [ofInts_len]; exact hl) ⟨by omega, by omega, ?_⟩
  rw [ofInts_len]
  refine getItem_list (k := 0) (at_own hσ rfl) hl hp ⟨by omega, by decide, by omega, ?_⟩
  generalize hx : xs.getD 0 0 = x
  refine ws_loop (fun n m σ' => Ex3 fun (L : List Int) (q : Nat) (m6 : Option AV) => An7 (m = [some (.ref h), some (.int q), some (.int xs.length), some (.int 0), some (.int x), some (.int (2 * q + 1)), m6]) (σ' = upd σ h (.list (ofInts L))) (L.length = xs.length) (q < xs.length) (n = xs.length - q) ((L.set q x).Perm xs) (Dn (L.set q x) q))
    (n := xs.length) ⟨xs, 0, none, by simp, (upd_same hσ).symm, rfl, hp, rfl, ?_, ?_⟩ ?_
  · rw [← hx, set_same hp]
  · rw [← hx, set_same hp]; exact hd
  · rintro n m σ' K ⟨L, q, m6, rfl, rfl, hL, hql, rfl, hperm, hdn⟩ hK
    simp only [WT_2, W_8, tru_bool, W_4, List.getElem?_cons_succ, List.getElem?_cons_zero, cmp_lt]
    have hqL : q < L.length := by omega
    have hVq : (L.set q x).getD q 0 = x := by rw [getD_set hqL, if_pos rfl]
    by_cases hlt : (2 * (q : Int) + 1 < xs.length)
    · rw [decide_eq_true hlt]
      simp only [Br_t, WS_20, WS_6, put, Sq_n, WS_15, WT_4, WT_2, W_8, tru_bool, W_4, W_6, W_1, List.getElem?_cons_succ, List.getElem?_cons_zero, List.length_cons, List.length_nil, List.set_cons_succ, List.set_cons_zero, bin_add, cmp_lt]
      have turn : ∀ c : Nat, c < L.length → (c - 1) / 2 = q → q < c → (∀ i, 0 < i → i < L.length → (i - 1) / 2 = q → L.getD c 0 ≤ L.getD i 0) → ∀ m6 : Option AV,
          GetItem (.ref h) (.int c) (fun v => SetItem (.ref h) (.int q) v (fun σ_1 => (1 : Nat) < 7 ∧ (2 : Int).natAbs < 2 ^ 60 ∧ (5 : Nat) < 7 ∧ K .next [some (.ref h), some (.int c), some (.int xs.length), some (.int 0), some (.int x), some (.int (2 * c + 1)), m6] σ_1) (upd σ h (.list (ofInts L)))) (upd σ h (.list (ofInts L))) := fun c hc hpc hqc hmin m6 => by
        have hVc : (L.set q x).getD c 0 = L.getD c 0 := by rw [getD_set hqL, if_neg (by omega)]
        refine getItem_list (at_own (upd_self ..) rfl) (by omega) hc (setItem_list (upd_self ..) (by omega) hqL ⟨by omega, by decide, by omega, hK.1 (xs.length - c) _ _ (by omega) (fg_self ⟨L.set q (L.getD c 0), c, m6, rfl, by rw [upd_upd], by simp [hL], by omega, rfl, ?_, ?_⟩)⟩)
        · have := set_perm (V := L.set q x) (q := q) (j := c) (by simpa using hqL) (by simpa using hc) hVq hVc
          rw [List.set_set] at this
          exact this.trans hperm
        · have := dn_step (V := L.set q x) (q := q) (c := c) (by simpa using hqL) (by simpa using hc) hpc (by omega) hqc hVq hdn fun i hi0 hil hip => by
            simp only [List.length_set] at hil
            rw [hVc, getD_set hqL, if_neg (by omega)]
            exact hmin i hi0 hil hip
          rw [hVc, List.set_set] at this
          exact this
      have e1 : 2 * (q : Int) + 1 = ((2 * q + 1 : Nat) : Int) := by omega
      have e2 : 2 * (q : Int) + 1 + 1 = ((2 * q + 2 : Nat) : Int) := by omega
      have hc1 : 2 * q + 1 < L.length := by omega
      refine ⟨by omega, ?_⟩
      by_cases hr : 2 * (q : Int) + 1 + 1 < xs.length
      · rw [decide_eq_true hr]
        simp only [Br_t, WT_3, WT_2, W_8, tru_bool, W_18, W_4, List.getElem?_cons_zero, List.getElem?_cons_succ]
        have hc2 : 2 * q + 2 < L.length := by omega
        rw [e2, e1]
        refine getItem_list (at_own (upd_self ..) rfl) (by omega) hc1 (getItem_list (at_own (upd_self ..) rfl) (by omega) hc2 ?_)
        simp only [cmp_lt]
        by_cases hcmp : L.getD (2 * q + 1) 0 < L.getD (2 * q + 2) 0
        · rw [decide_eq_true hcmp]
          simp only [Bool.not_true, Br_f, WS_1, Sq_n, WS_20, WS_8, WS_6, put, W_6, W_1, W_4, List.length_set, W_18, List.getElem?_cons_zero, List.getElem?_cons_succ, List.length_cons, List.length_nil, List.set_cons_succ, List.set_cons_zero, bin_mul, bin_add]
          exact turn (2 * q + 1) hc1 (by omega) (by omega) (fun i h0 hi hp => by
            rcases (by omega : i = 2 * q + 1 ∨ i = 2 * q + 2) with rfl | rfl <;> omega) _
        · rw [decide_eq_false hcmp]
          simp only [Bool.not_false, Br_t, WS_20, WS_6, put, Sq_n, WS_1, WS_8, W_6, W_1, W_4, List.length_set, W_18, List.getElem?_cons_succ, List.getElem?_cons_zero, List.length_cons, List.length_nil, List.set_cons_succ, List.set_cons_zero, bin_mul, bin_add]
          exact ⟨by omega, turn (2 * q + 2) hc2 (by omega) (by omega) (fun i h0 hi hp => by
            rcases (by omega : i = 2 * q + 1 ∨ i = 2 * q + 2) with rfl | rfl <;> omega) _⟩
      · rw [decide_eq_false hr]
        simp only [Br_f, WS_1, Sq_n, WS_20, WS_8, WS_6, put, W_6, W_1, W_4, List.length_set, W_18, List.getElem?_cons_zero, List.getElem?_cons_succ, List.length_cons, List.length_nil, List.set_cons_succ, List.set_cons_zero, bin_mul, bin_add]
        rw [e1]
        exact turn (2 * q + 1) hc1 (by omega) (by omega) (fun i h0 hi hp => by
          have : i = 2 * q + 1 := by omega
          subst this; exact Int.le_refl _) _
    · rw [decide_eq_false hlt]
      simp only [Br_f, WS_1, Sq_n, WS_20, WS_8, WS_5, W_14, WL_2, WL_1, W_4, W_5, call_ref, List.getElem?_cons_succ, List.getElem?_cons_zero]
      refine setItem_list (upd_self ..) (by omega) hqL (h42 _ _ _ ⟨h, L.set q x, q, rfl, by rw [upd_self], by simpa using hqL, by simp; omega, dn_leaf hdn (by simp; omega), fun ys hy hh => ?_⟩)
      rw [upd_upd, upd_upd]
      exact hq ys (hy.trans hperm) hh

theorem mcall_append {C : Ctr} {σ : Store} {a : Adr} {xs : List AV} {x : AV} {Q : AV → Store → Prop} (hσ : σ a = some (.list xs)) (hl : xs.length < lim) (hq : Q .none (upd σ a (.list (xs ++ [x])))) : Mcall C .append (.ref a) [x] Q σ := .append xs hσ hl hq
theorem mk_of {σ : Store} {a : Adr} {o : AO} (hσ : σ a = some o) : Mk σ (.ref a) = o.kd σ := by show (σ a).elim 0 (AO.kd σ) = _; rw [hσ]; rfl
theorem mk_list {σ : Store} {a : Adr} {xs : List AV} (hσ : σ a = some (.list xs)) : Mk σ (.ref a) = 1 := mk_of hσ

theorem v28 {C : Ctr} (h42 : ∀ args Q σ, S42 args Q σ → C 42 args Q σ) {σ : Store} {h : Adr} {xs : List Int} {x : Int} {Q : AV → Store → Prop} (hσ : σ h = some (.list (ofInts xs))) (hl : xs.length < lim) (hh : Hp xs)
    (hq : ∀ ys : List Int, ys.Perm (x :: xs) → Hp ys → Q .none (upd σ h (.list (ofInts ys)))) : WS C p28 (fin Q) [some (.ref h), some (.int x)] σ := by
  unfold p28
  simp only [WS_20, WS_5, Sq_n, WS_1, W_14, WL_2, WL_1, W_6, W_1, W_4, W_5, call_blt, call_ref, W_15, List.getElem?_cons_zero, List.getElem?_cons_succ]
  refine ⟨by rw [mk_list hσ]; rfl, by trivial, mcall_append hσ (by rw [ofInts_len]; exact hl) ?_⟩
  have e : ofInts xs ++ [.int x] = ofInts (xs ++ [x]) := by unfold ofInts; simp
  rw [e]
  refine bcall_len (at_own (upd_self ..) rfl) (by rw [ofInts_len]; simp; omega) ?_
  have e2 : ((ofInts (xs ++ [x])).length : Int) - 1 = (xs.length : Nat) := by rw [ofInts_len]; simp
  simp only [bin_sub]
  rw [e2]
  refine h42 _ _ _ ⟨h, xs ++ [x], xs.length, rfl, upd_self .., by simp, by simp; omega, ⟨fun i h0 h1 h2 => ?_, fun h0 c hc0 hc1 hc2 => ?_⟩, fun ys hy hH => ?_⟩
  · simp only [List.length_append, List.length_cons, List.length_nil] at h1
    have hi : i < xs.length := by omega
    have g : ∀ k, k < xs.length → (xs ++ [x]).getD k 0 = xs.getD k 0 := fun k hk => by simp [List.getElem?_append_left hk]
    rw [g i hi, g _ (by omega)]
    exact hh i h0 hi
  · simp only [List.length_append, List.length_cons, List.length_nil] at hc1
    omega
  · rw [upd_upd]
    exact hq ys (hy.trans (List.perm_append_comm.trans (by simp))) hH

theorem v35 {C : Ctr} (h49 : ∀ args Q σ, S49 args Q σ → C 49 args Q σ) {σ : Store} {h : Adr} {xs : List Int} {x : Int} {Q : AV → Store → Prop} (hσ : σ h = some (.list (ofInts xs))) (hp : 0 < xs.length) (hl : xs.length ≤ lim) (hh : Hp xs)
    (hq : ∀ ys : List Int, ys.Perm (xs.set 0 x) → Hp ys → Q (.int (xs.getD 0 0)) (upd σ h (.list (ofInts ys)))) : WS C p35 (fin Q) [some (.ref h), some (.int x), none] σ := by
  unfold p35
  simp only [WS_20, WS_6, put, Sq_n, WS_8, WS_5, WS_14, Sq_r, W_4, W_14, WL_2, WL_1, W_1, W_5, call_ref, W_18, List.getElem?_cons_zero, List.length_cons, List.length_nil, List.set_cons_succ, List.set_cons_zero, List.getElem?_cons_succ]
  refine getItem_list (k := 0) (at_own hσ rfl) hl hp ⟨by omega, setItem_list (k := 0) hσ hl hp ?_⟩
  refine h49 _ _ _ ⟨h, xs.set 0 x, rfl, upd_self .., by simpa using hp, by simpa using hl, ⟨fun i h0 h1 h2 h3 => ?_, fun h0 => by omega⟩, fun ys hy hH => ?_⟩
  · simp only [List.length_set] at h1
    rw [getD_set hp, getD_set hp, if_neg h3, if_neg h2]
    exact hh i h0 h1
  · rw [upd_upd]
    exact hq ys hy hH
end Mine
end
section
namespace Mine

theorem ne_of_obj {σ : Store} {a b : Adr} {o o' : AO} (ha : σ a = some o) (hb : σ b = some o') (h : o ≠ o') : a ≠ b := by
  rintro rfl; rw [ha] at hb; cases hb; exact h rfl
theorem ne_of_none {σ : Store} {a b : Adr} {o : AO} (ha : σ a = some o) (hb : σ b = none) : a ≠ b := by
  rintro rfl; rw [ha] at hb; cases hb
theorem at_some {σ : Store} {a : Adr} {o : AO} (h : at? σ a = some o) : ∃ o', σ a = some o' := by
  unfold at? at h
  cases e : σ a with
  | none => rw [e] at h; cases h
  | some o' => exact ⟨o', rfl⟩
theorem ne_of_at {σ : Store} {a b : Adr} {o o' : AO} (ha : at? σ a = some o) (hb : at? σ b = some o') (h : o ≠ o') : a ≠ b := by
  rintro rfl; rw [ha] at hb; cases hb; exact h rfl
theorem at_upd_ne {σ : Store} {a b : Adr} {o : AO} (h : b ≠ a) : at? (upd σ a o) b = at? σ b := by unfold at?; rw [upd_ne h]
theorem at_upd_self (σ : Store) (a : Adr) {o : AO} (hr : isRo o = false) : at? (upd σ a o) a = some o := at_own (upd_self ..) hr

noncomputable def fset {β : Type} (f : Int → β) (k : Int) (v : β) : Int → β := fun j => if j = k then v else f j
theorem fset_self {β : Type} (f : Int → β) (k : Int) (v : β) : fset f k v k = v := if_pos rfl
theorem fset_ne {β : Type} {f : Int → β} {k j : Int} {v : β} (h : j ≠ k) : fset f k v j = f j := if_neg h

structure Raw (x d n : Adr) (rd : AV) (ps fs : Int) (ks : List Int) (ad sl : Int → Adr) (np : Int → Int) (sc : Int → List Int) (σ : Store) : Prop where
  hx : σ x = some (.inst d)
  hd : σ d = some (.sdict [.ref n, rd, .int ps, .int fs])
  hn : at? σ n = some (.dict (ks.map fun k => (k, AV.ref (ad k))))
  nd : ks.Nodup
  node : ∀ k ∈ ks, σ (ad k) = some (.node (some (.int k)) (some (.int (np k))) (some (.ref (sl k))))
  succ : ∀ k ∈ ks, at? σ (sl k) = some (.list (ofInts (sc k)))
  adi : ∀ k ∈ ks, ∀ j ∈ ks, ad k = ad j → k = j
  sli : ∀ k ∈ ks, ∀ j ∈ ks, sl k = sl j → k = j
  dnp : ∀ k, k ∉ ks → np k = 0
  dsc : ∀ k, k ∉ ks → sc k = []

noncomputable def ins (ks : List Int) (k : Int) : List Int := if k ∈ ks then ks else ks ++ [k]

theorem dget_map {ks : List Int} {ad : Int → Adr} {k : Int} (h : k ∈ ks) : dget (ks.map fun k => (k, AV.ref (ad k))) k = some (.ref (ad k)) := by
  unfold dget
  induction ks with
  | nil => cases h
  | cons j ks ih =>
    rw [List.map_cons, List.find?_cons]
    by_cases hj : j = k
    · subst hj; simp
    · rw [decide_eq_false (by exact hj)]
      exact ih ((List.mem_cons.mp h).resolve_left (Ne.symm hj))
theorem dget_map_none {ks : List Int} {ad : Int → Adr} {k : Int} (h : k ∉ ks) : dget (ks.map fun k => (k, AV.ref (ad k))) k = none := by
  unfold dget
  rw [Option.map_eq_none_iff, List.find?_eq_none]
  intro q hq
  obtain ⟨j, hj, rfl⟩ := List.mem_map.mp hq
  simp only [decide_eq_true_eq]
  rintro rfl; exact h hj
theorem dput_map {ks : List Int} {ad : Int → Adr} {k : Int} {a : Adr} (h : k ∉ ks) : dput (ks.map fun k => (k, AV.ref (ad k))) k (.ref a) = (ks ++ [k]).map fun j => (j, AV.ref (fset ad k a j)) := by
  unfold dput
  have : ((ks.map fun k => (k, AV.ref (ad k))).any fun e => decide (e.1 = k)) = false := by
    rw [List.any_eq_false]
    intro q hq
    obtain ⟨j, hj, rfl⟩ := List.mem_map.mp hq
    simp only [decide_eq_true_eq]
    rintro rfl; exact h hj
  rw [this, if_neg (by decide), List.map_append]
  congr 1
  · exact List.map_congr_left fun j hj => by rw [fset_ne (by rintro rfl; exact h hj)]
  · simp [fset_self]

theorem setAttr_node {f : Fld} {σ : Store} {a : Adr} {p q r : Option AV} {x : AV} {Q : Store → Prop} (hσ : σ a = some (.node p q r)) :
    (Q (upd σ a (.node (some x) q r)) → SetAttr .node (.ref a) x Q σ) ∧ (Q (upd σ a (.node p (some x) r)) → SetAttr .npred (.ref a) x Q σ) ∧ (Q (upd σ a (.node p q (some x))) → SetAttr .succ (.ref a) x Q σ) := by
  exact ⟨.node hσ, .npred hσ, .succ hσ⟩

noncomputable def S64 (args : List AV) (Q : AV → Store → Prop) (σ : Store) : Prop := Ex5 fun (a : Adr) (k : Int) (p q r : Option AV) => An3 (args = [.ref a, .int k]) (σ a = some (.node p q r)) (∀ s, σ s = none → Q .none (upd (upd σ s (.list [])) a (.node (some (.int k)) (some (.int 0)) (some (.ref s)))))

theorem v64 {C : Ctr} {σ : Store} {a : Adr} {k : Int} {p q r : Option AV} {Q : AV → Store → Prop} (hσ : σ a = some (.node p q r)) (hq : ∀ s, σ s = none → Q .none (upd (upd σ s (.list [])) a (.node (some (.int k)) (some (.int 0)) (some (.ref s))))) :
    WS C p64 (fin Q) [some (.ref a), some (.int k)] σ := by
  unfold p64
  simp only [WS_20, WS_10, Sq_n, WS_1, W_4, W_12, WL_1, List.length_nil, W_1, List.getElem?_cons_succ, List.getElem?_cons_zero]
  refine (setAttr_node (f := .node) hσ).1 ((setAttr_node (f := .node) (upd_self ..)).2.1 ⟨by decide, fun s hs => (setAttr_node (f := .node) (p := some (.int k)) (q := some (.int 0)) (r := r) ?_).2.2 ?_⟩)
  · rw [upd_ne (ne_of_none (upd_self ..) hs), upd_self]
  · have hsa : s ≠ a := by rintro rfl; rw [upd_self] at hs; cases hs
    have hs' : σ s = none := by rw [upd_ne hsa, upd_ne hsa] at hs; exact hs
    have e : upd (upd (upd (upd σ a (.node (some (.int k)) q r)) a (.node (some (.int k)) (some (.int 0)) r)) s (.list [])) a (.node (some (.int k)) (some (.int 0)) (some (.ref s))) = upd (upd σ s (.list [])) a (.node (some (.int k)) (some (.int 0)) (some (.ref s))) := by
      funext b; unfold upd; split
      · rfl
      · rfl
    show Q .none _
    rw [e]; exact hq s hs'

theorem attr_inst {σ : Store} {x d : Adr} {vs : List AV} {Q : AV → Store → Prop} (hx : σ x = some (.inst d)) (hd : σ d = some (.sdict vs)) {y : AV} :
    (vs[0]? = some y → Q y σ → Attr .n2i (.ref x) Q σ) ∧ (vs[1]? = some y → Q y σ → Attr .ready (.ref x) Q σ) ∧ (vs[2]? = some y → Q y σ → Attr .npass (.ref x) Q σ) ∧ (vs[3]? = some y → Q y σ → Attr .nfin (.ref x) Q σ) := by
  exact ⟨.inst 0 rfl hx hd, .inst 1 rfl hx hd, .inst 2 rfl hx hd, .inst 3 rfl hx hd⟩
theorem attr_node {σ : Store} {a : Adr} {p q r : AV} {Q : AV → Store → Prop} (h : σ a = some (.node (some p) (some q) (some r))) :
    (Q p σ → Attr .node (.ref a) Q σ) ∧ (Q q σ → Attr .npred (.ref a) Q σ) ∧ (Q r σ → Attr .succ (.ref a) Q σ) := by
  exact ⟨.node h, .npred h, .succ h⟩
theorem setAttr_inst {σ : Store} {x d : Adr} {v0 v1 v2 v3 y : AV} {Q : Store → Prop} (hx : σ x = some (.inst d)) (hd : σ d = some (.sdict [v0, v1, v2, v3])) :
    (Q (upd σ d (.sdict [v0, y, v2, v3])) → SetAttr .ready (.ref x) y Q σ) ∧ (Q (upd σ d (.sdict [v0, v1, y, v3])) → SetAttr .npass (.ref x) y Q σ) ∧ (Q (upd σ d (.sdict [v0, v1, v2, y])) → SetAttr .nfin (.ref x) y Q σ) := by
  exact ⟨fun q => .inst 1 rfl hx hd (by decide : 1 ≤ 4) q, fun q => .inst 2 rfl hx hd (by decide : 2 ≤ 4) q, fun q => .inst 3 rfl hx hd (by decide : 3 ≤ 4) q⟩
theorem mcall_get {C : Ctr} {σ : Store} {a : Adr} {es : List (Int × AV)} {k : Int} {Q : AV → Store → Prop} (hσ : σ a = some (.dict es)) (hq : Q ((dget es k).getD .none) σ) : Mcall C .get (.ref a) [.int k] Q σ := .get es hσ hq
theorem mk_dict {σ : Store} {a : Adr} {es : List (Int × AV)} (hσ : σ a = some (.dict es)) : Mk σ (.ref a) = 2 := mk_of hσ
theorem mk_inst {σ : Store} {a d : Adr} {vs : List AV} (hσ : σ a = some (.inst d)) (hd : σ d = some (.sdict vs)) : Mk σ (.ref a) = 4 := (mk_of hσ).trans (by show (match σ d with | some (.sdict _) => 4 | _ => 0) = 4; rw [hd])
theorem mcall_inst {C : Ctr} {f : Meth} {g : Adr} {σ : Store} {a d : Adr} {vs : List AV} {Q : AV → Store → Prop} (hσ : σ a = some (.inst d)) (hf : f.addr = some g) (hq : C g (.ref a :: vs) Q σ) : Mcall C f (.ref a) vs Q σ := .inst hσ hf hq
theorem setItem_dict {σ : Store} {a : Adr} {es : List (Int × AV)} {k : Int} {v : AV} {Q : Store → Prop} (hσ : σ a = some (.dict es)) (hl : es.length < lim) (hq : Q (upd σ a (.dict (dput es k v)))) : SetItem (.ref a) (.int k) v Q σ := .dict hσ hl hq

theorem Raw.add {x d n : Adr} {rd : AV} {ps fs : Int} {ks : List Int} {ad sl : Int → Adr} {np : Int → Int} {sc : Int → List Int} {σ : Store} (R : Raw x d n rd ps fs ks ad sl np sc σ) {k : Int} (hk : k ∉ ks) {a s : Adr} (ha : σ a = none) (hs : σ s = none) (hne : a ≠ s) :
    Raw x d n rd ps fs (ks ++ [k]) (fset ad k a) (fset sl k s) np sc (upd (upd (upd σ s (.list [])) a (.node (some (.int k)) (some (.int 0)) (some (.ref s)))) n (.dict ((ks ++ [k]).map fun j => (j, AV.ref (fset ad k a j))))) := by
  obtain ⟨on, hon⟩ := at_some R.hn
  have hna : n ≠ a := ne_of_none hon ha
  have hns : n ≠ s := ne_of_none hon hs
  have old : ∀ b o, σ b = some o → b ≠ n → upd (upd (upd σ s (.list [])) a (.node (some (.int k)) (some (.int 0)) (some (.ref s)))) n (.dict ((ks ++ [k]).map fun j => (j, AV.ref (fset ad k a j)))) b = some o := fun b o hb hbn => by
    rw [upd_ne hbn, upd_ne (ne_of_none hb ha), upd_ne (ne_of_none hb hs)]; exact hb
  have hmem : ∀ j, j ∈ ks ++ [k] → j ∈ ks ∨ j = k := fun j hj => by simpa using hj
  have hjk : ∀ j ∈ ks, j ≠ k := fun j hj => by rintro rfl; exact hk hj
  have nn : ∀ b o, σ b = some o → (∀ es, o.rd ≠ .dict es) → b ≠ n := fun b o hb ho => by
    rintro rfl
    have := R.hn
    unfold at? at this
    rw [hb] at this
    simp only [Option.map_some, Option.some.injEq] at this
    exact ho _ this
  refine ⟨old _ _ R.hx (nn _ _ R.hx (by intro es; simp [AO.rd])), old _ _ R.hd (nn _ _ R.hd (by intro es; simp [AO.rd])), at_upd_self _ _ rfl, ?_, fun j hj => ?_, fun j hj => ?_, fun j hj i hi e => ?_, fun j hj i hi e => ?_, fun j hj => R.dnp j fun h => hj (List.mem_append_left _ h), fun j hj => R.dsc j fun h => hj (List.mem_append_left _ h)⟩
  · exact List.nodup_append.mpr ⟨R.nd, by simp, fun u hu v hv => by rw [List.mem_singleton.mp hv]; exact hjk u hu⟩
  · rcases hmem j hj with hj | rfl
    · rw [fset_ne (hjk j hj), fset_ne (hjk j hj)]
      exact old _ _ (R.node j hj) (nn _ _ (R.node j hj) (by intro es; simp [AO.rd]))
    · rw [fset_self, fset_self, upd_ne (Ne.symm hna), upd_self, R.dnp j hk]
  · rcases hmem j hj with hj | rfl
    · rw [fset_ne (hjk j hj)]
      have h := R.succ j hj
      obtain ⟨o, ho⟩ := at_some h
      have hbn : sl j ≠ n := ne_of_at h R.hn (by simp)
      rw [at_upd_ne hbn, at_upd_ne (ne_of_none ho ha), at_upd_ne (ne_of_none ho hs)]; exact h
    · rw [fset_self, at_upd_ne (Ne.symm hns), at_upd_ne (Ne.symm hne), at_upd_self _ _ rfl, R.dsc j hk]; rfl
  · rcases hmem j hj with hj' | hj' <;> rcases hmem i hi with hi' | hi'
    · rw [fset_ne (hjk j hj'), fset_ne (hjk i hi')] at e; exact R.adi j hj' i hi' e
    · subst hi'; rw [fset_ne (hjk j hj'), fset_self] at e; exact absurd e (ne_of_none (R.node j hj') ha)
    · subst hj'; rw [fset_ne (hjk i hi'), fset_self] at e; exact absurd e.symm (ne_of_none (R.node i hi') ha)
    · exact hj'.trans hi'.symm
  · rcases hmem j hj with hj' | hj' <;> rcases hmem i hi with hi' | hi'
    · rw [fset_ne (hjk j hj'), fset_ne (hjk i hi')] at e; exact R.sli j hj' i hi' e
    · subst hi'
      obtain ⟨o, ho⟩ := at_some (R.succ j hj')
      rw [fset_ne (hjk j hj'), fset_self] at e; exact absurd e (ne_of_none ho hs)
    · subst hj'
      obtain ⟨o, ho⟩ := at_some (R.succ i hi')
      rw [fset_ne (hjk i hi'), fset_self] at e; exact absurd e.symm (ne_of_none ho hs)
    · exact hj'.trans hi'.symm

structure Own (n : Adr) (ks : List Int) (ad sl : Int → Adr) (sc : Int → List Int) (σ : Store) : Prop where
  dict : σ n = some (.dict (ks.map fun k => (k, AV.ref (ad k))))
  list : ∀ k ∈ ks, σ (sl k) = some (.list (ofInts (sc k)))

noncomputable def S108 (args : List AV) (Q : AV → Store → Prop) (σ : Store) : Prop := Ex12 fun (x d n : Adr) (rd : AV) (ps fs : Int) (ks : List Int) (ad sl : Int → Adr) (np : Int → Int) (sc : Int → List Int) (k : Int) => An5 (args = [.ref x, .int k]) (Raw x d n rd ps fs ks ad sl np sc σ) (Own n ks ad sl sc σ) (ks.length < lim) (∀ σ' ad' sl', Raw x d n rd ps fs (ins ks k) ad' sl' np sc σ' → Own n (ins ks k) ad' sl' sc σ' → Q (.ref (ad' k)) σ')

theorem v108 {C : Ctr} (h68 : ∀ (k : Int) Q σ, (∀ a s, σ a = none → σ s = none → a ≠ s → Q (.ref a) (upd (upd σ s (.list [])) a (.node (some (.int k)) (some (.int 0)) (some (.ref s))))) → C 68 [.int k] Q σ)
    {x d n : Adr} {rd : AV} {ps fs : Int} {ks : List Int} {ad sl : Int → Adr} {np : Int → Int} {sc : Int → List Int} {k : Int} {σ : Store} {Q : AV → Store → Prop} (R : Raw x d n rd ps fs ks ad sl np sc σ)
    (ow : Own n ks ad sl sc σ) (hl : ks.length < lim)
    (hq : ∀ σ' ad' sl', Raw x d n rd ps fs (ins ks k) ad' sl' np sc σ' → Own n (ins ks k) ad' sl' sc σ' → Q (.ref (ad' k)) σ') :
    WS C p108 (fin Q) [some (.ref x), some (.int k), none] σ := by
  have hn := ow.dict
  unfold p108
  simp only [WS_20, WS_15, WT_2, W_8, tru_bool, W_2, cmp_is, W_11, W_15, WL_2, WL_1, W_4, W_17, List.getElem?_cons_zero, List.getElem?_cons_succ, List.length_cons, List.length_nil, List.set_cons_succ, List.set_cons_zero]
  refine (attr_inst R.hx R.hd).1 rfl ⟨by rw [mk_dict hn]; rfl, by trivial, mcall_get hn ⟨by omega, ?_⟩⟩
  by_cases hk : k ∈ ks
  · rw [dget_map hk]
    simp only [Option.getD_some]
    rw [decide_eq_false (by simp)]
    simp only [Br_f, WS_1, Sq_n, WS_20, WS_14, Sq_r, W_4, List.getElem?_cons_succ, List.getElem?_cons_zero]
    have := hq σ ad sl
    unfold ins at this
    rw [if_pos hk] at this
    exact this R ow
  · rw [dget_map_none hk]
    simp only [Option.getD_none, decide_true, Br_t, WS_20, WS_9, put, Sq_n, WS_1, WS_14, Sq_r, W_4, W_17, W_14, WL_2, WL_1, W_5, List.getElem?_cons_succ, List.getElem?_cons_zero, List.length_cons, List.length_nil, List.set_cons_succ, List.set_cons_zero]
    refine h68 k _ _ fun a s ha hs hne => ?_
    have keep : ∀ b o, σ b = some o → upd (upd σ s (.list [])) a (.node (some (.int k)) (some (.int 0)) (some (.ref s))) b = some o := fun b o hb => by
      rw [upd_ne (ne_of_none hb ha), upd_ne (ne_of_none hb hs)]; exact hb
    refine (attr_inst (keep _ _ R.hx) (keep _ _ R.hd)).1 rfl (setItem_dict (keep _ _ hn) (by simpa using hl) ⟨by omega, ?_⟩)
    rw [dput_map hk]
    have := hq _ _ _ (by unfold ins; rw [if_neg hk]; exact R.add hk ha hs hne) (by
      unfold ins
      rw [if_neg hk]
      refine ⟨upd_self .., fun j hj => ?_⟩
      rcases (by simpa using hj : j ∈ ks ∨ j = k) with hj' | hj'
      · have hjk : j ≠ k := by rintro rfl; exact hk hj'
        rw [fset_ne hjk, upd_ne (ne_of_obj (ow.list j hj') hn (by simp)), keep _ _ (ow.list j hj')]
      · subst hj'
        rw [fset_self, upd_ne (Ne.symm (ne_of_none hn hs)), upd_ne (Ne.symm hne), upd_self, R.dsc j hk]; rfl)
    rw [fset_self] at this
    exact this
end Mine
end
section
namespace Mine

noncomputable def ClS (S : List AV → (AV → Store → Prop) → Store → Prop) (args : List AV) (Q : AV → Store → Prop) (σ : Store) : Prop := Ex2 fun τ ρ => An3 (σ = join τ ρ) (∀ a o, ρ a = some o → τ a = none ∧ isNode o = false) (S args (fun v τ' => (∀ a o, ρ a = some o → τ' a = none) → Fg τ' (fun τ'' => Q v (join τ'' ρ))) τ)

open Classical in
noncomputable def on (σ : Store) (D : Adr → Prop) : Store := fun a => if D a then σ a else none
open Classical in
noncomputable def off (σ : Store) (D : Adr → Prop) : Store := fun a => if D a then none else σ a
theorem on_in {σ : Store} {D : Adr → Prop} {a : Adr} (h : D a) : on σ D a = σ a := if_pos h
theorem on_out {σ : Store} {D : Adr → Prop} {a : Adr} (h : ¬ D a) : on σ D a = none := if_neg h
theorem off_in {σ : Store} {D : Adr → Prop} {a : Adr} (h : D a) : off σ D a = none := if_pos h
theorem off_out {σ : Store} {D : Adr → Prop} {a : Adr} (h : ¬ D a) : off σ D a = σ a := if_neg h
theorem join_off_on (σ : Store) (D : Adr → Prop) : join (off σ D) (on σ D) = σ := by
  funext a
  by_cases h : D a
  · rw [join_r (off_in h), on_in h]
  · cases e : σ a with
    | some o => rw [join_l (by rw [off_out h]; exact e)]
    | none => rw [join_r (by rw [off_out h]; exact e), on_out h]

theorem clS_frame {S : List AV → (AV → Store → Prop) → Store → Prop} {args : List AV} {Q : AV → Store → Prop} {σ : Store} (D : Adr → Prop) (hn : ∀ a o, D a → σ a = some o → isNode o = false)
    (h : S args (fun v τ' => (∀ a o, D a → σ a = some o → τ' a = none) → Q v (join τ' (on σ D))) (off σ D)) (hmono : ∀ Q Q' : AV → Store → Prop, ∀ τ, (∀ v τ, Q v τ → Q' v τ) → S args Q τ → S args Q' τ) : ClS S args Q σ := by
  refine ⟨off σ D, on σ D, (join_off_on σ D).symm, fun a o e => ?_, hmono _ _ _ (fun v τ' hq hdis => fg_self (hq fun a o hd ho => hdis a o (by rw [on_in hd]; exact ho))) h⟩
  by_cases hd : D a
  · rw [on_in hd] at e
    exact ⟨off_in hd, hn a o hd e⟩
  · rw [on_out hd] at e; cases e

theorem Raw.mono {x d n : Adr} {rd : AV} {ps fs : Int} {ks : List Int} {ad sl : Int → Adr} {np : Int → Int} {sc : Int → List Int} {τ σ : Store} (h : ∀ a o, τ a = some o → σ a = some o) (R : Raw x d n rd ps fs ks ad sl np sc τ) : Raw x d n rd ps fs ks ad sl np sc σ := by
  have hat : ∀ a o, at? τ a = some o → at? σ a = some o := fun a o e => by
    obtain ⟨o', ho'⟩ := at_some e
    unfold at? at e ⊢
    rw [h a o' ho']
    rw [ho'] at e; exact e
  exact ⟨h _ _ R.hx, h _ _ R.hd, hat _ _ R.hn, R.nd, fun k hk => h _ _ (R.node k hk), fun k hk => hat _ _ (R.succ k hk), R.adi, R.sli, R.dnp, R.dsc⟩

theorem Raw.off {x d n : Adr} {rd : AV} {ps fs : Int} {ks : List Int} {ad sl : Int → Adr} {np : Int → Int} {sc : Int → List Int} {σ : Store} {D : Adr → Prop} (R : Raw x d n rd ps fs ks ad sl np sc σ) (hD : ∀ a, D a → ∃ vs, at? σ a = some (.tuple vs)) : Raw x d n rd ps fs ks ad sl np sc (off σ D) := by
  have hno : ∀ a o, at? σ a = some o → (∀ vs, o ≠ .tuple vs) → ¬ D a := fun a o e ho hd => by
    obtain ⟨vs, hvs⟩ := hD a hd
    rw [e] at hvs; cases hvs; exact ho _ rfl
  have hat : ∀ a o, at? σ a = some o → (∀ vs, o ≠ .tuple vs) → at? (Mine.off σ D) a = some o := fun a o e ho => by
    unfold at?
    rw [off_out (hno a o e ho)]; exact e
  have hs : ∀ a o, σ a = some o → isRo o = false → (∀ vs, o ≠ .tuple vs) → Mine.off σ D a = some o := fun a o e hr ho => by
    rw [off_out (hno a o (at_own e hr) ho)]; exact e
  exact ⟨hs _ _ R.hx rfl (by simp), hs _ _ R.hd rfl (by simp), hat _ _ R.hn (by simp), R.nd, fun k hk => hs _ _ (R.node k hk) rfl (by simp), fun k hk => hat _ _ (R.succ k hk) (by simp), R.adi, R.sli, R.dnp, R.dsc⟩

theorem S108.mono (args : List AV) (Q Q' : AV → Store → Prop) (τ : Store) (h : ∀ v τ, Q v τ → Q' v τ) (hs : S108 args Q τ) : S108 args Q' τ := by
  obtain ⟨x, d, n, rd, ps, fs, ks, ad, sl, np, sc, k, h1, h2, h3, h4, h5⟩ := hs
  exact ⟨x, d, n, rd, ps, fs, ks, ad, sl, np, sc, k, h1, h2, h3, h4, fun σ' ad' sl' r1 r2 => h _ _ (h5 σ' ad' sl' r1 r2)⟩

theorem Raw.append {x d n : Adr} {rd : AV} {ps fs : Int} {ks : List Int} {ad sl : Int → Adr} {np : Int → Int} {sc : Int → List Int} {σ : Store} (R : Raw x d n rd ps fs ks ad sl np sc σ) {p k : Int} (hp : p ∈ ks) :
    Raw x d n rd ps fs ks ad sl np (fset sc p (sc p ++ [k])) (upd σ (sl p) (.list (ofInts (sc p ++ [k])))) := by
  have hl := R.succ p hp
  have ne : ∀ b o, at? σ b = some o → (∀ vs, o ≠ .list vs) → b ≠ sl p := fun b o e ho => ne_of_at e hl (fun h => ho _ h)
  refine ⟨?_, ?_, ?_, R.nd, fun j hj => ?_, fun j hj => ?_, R.adi, R.sli, R.dnp, fun j hj => ?_⟩
  · rw [upd_ne (ne _ _ (at_own R.hx rfl) (by simp))]; exact R.hx
  · rw [upd_ne (ne _ _ (at_own R.hd rfl) (by simp))]; exact R.hd
  · rw [at_upd_ne (ne _ _ R.hn (by simp))]; exact R.hn
  · rw [upd_ne (ne _ _ (at_own (R.node j hj) rfl) (by simp))]; exact R.node j hj
  · by_cases h : j = p
    · subst h; rw [fset_self, at_upd_self _ _ rfl]
    · rw [fset_ne h, at_upd_ne (fun e => h (R.sli j hj p hp e))]; exact R.succ j hj
  · rw [fset_ne (by rintro rfl; exact hj hp)]; exact R.dsc j hj
theorem Raw.count {x d n : Adr} {rd : AV} {ps fs : Int} {ks : List Int} {ad sl : Int → Adr} {np : Int → Int} {sc : Int → List Int} {σ : Store} (R : Raw x d n rd ps fs ks ad sl np sc σ) {p v : Int} (hp : p ∈ ks) :
    Raw x d n rd ps fs ks ad sl (fset np p v) sc (upd σ (ad p) (.node (some (.int p)) (some (.int v)) (some (.ref (sl p))))) := by
  have hl := at_own (R.node p hp) rfl
  have ne : ∀ b o, at? σ b = some o → (∀ a b c, o ≠ .node a b c) → b ≠ ad p := fun b o e ho => ne_of_at e hl (fun h => ho _ _ _ h)
  refine ⟨?_, ?_, ?_, R.nd, fun j hj => ?_, fun j hj => ?_, R.adi, R.sli, fun j hj => ?_, R.dsc⟩
  · rw [upd_ne (ne _ _ (at_own R.hx rfl) (by simp))]; exact R.hx
  · rw [upd_ne (ne _ _ (at_own R.hd rfl) (by simp))]; exact R.hd
  · rw [at_upd_ne (ne _ _ R.hn (by simp))]; exact R.hn
  · by_cases h : j = p
    · subst h; rw [fset_self, upd_self]
    · rw [fset_ne h, upd_ne (fun e => h (R.adi j hj p hp e))]; exact R.node j hj
  · rw [at_upd_ne (ne _ _ (R.succ j hj) (by simp))]; exact R.succ j hj
  · rw [fset_ne (by rintro rfl; exact hj hp)]; exact R.dnp j hj
end Mine
end
section
namespace Mine

noncomputable def insAll (ks ps : List Int) : List Int := ps.foldl ins ks
noncomputable def scAdd (sc : Int → List Int) (k : Int) (ps : List Int) : Int → List Int := ps.foldl (fun sc p => fset sc p (sc p ++ [k])) sc

theorem ins_mem {ks : List Int} {k : Int} : k ∈ ins ks k := by
  unfold ins; split
  · assumption
  · simp
theorem ins_sub {ks : List Int} {k j : Int} (h : j ∈ ks) : j ∈ ins ks k := by
  unfold ins; split
  · exact h
  · exact List.mem_append_left _ h
theorem ins_len (ks : List Int) (k : Int) : (ins ks k).length ≤ ks.length + 1 := by
  unfold ins; split
  · omega
  · simp
theorem insAll_len (ks ps : List Int) : (insAll ks ps).length ≤ ks.length + ps.length := by
  unfold insAll
  induction ps generalizing ks with
  | nil => simp
  | cons p ps ih =>
    rw [List.foldl_cons]
    have := ih (ins ks p)
    have := ins_len ks p
    simp only [List.length_cons]; omega
theorem insAll_snoc (ks ps : List Int) (p : Int) : insAll ks (ps ++ [p]) = ins (insAll ks ps) p := by unfold insAll; rw [List.foldl_append]; rfl
theorem scAdd_snoc (sc : Int → List Int) (k : Int) (ps : List Int) (p : Int) : scAdd sc k (ps ++ [p]) = fset (scAdd sc k ps) p (scAdd sc k ps p ++ [k]) := by unfold scAdd; rw [List.foldl_append]; rfl
theorem scAdd_len (sc : Int → List Int) (k : Int) (ps : List Int) (p : Int) : (scAdd sc k ps p).length ≤ (sc p).length + ps.length := by
  unfold scAdd
  induction ps generalizing sc with
  | nil => simp
  | cons q ps ih =>
    rw [List.foldl_cons]
    have := ih (fset sc q (sc q ++ [k]))
    by_cases h : p = q
    · subst h; rw [fset_self] at this; simp only [List.length_append, List.length_cons, List.length_nil] at this ⊢; omega
    · rw [fset_ne h] at this; simp only [List.length_cons]; omega
theorem insAll_sub {ks ps : List Int} {j : Int} (h : j ∈ ks) : j ∈ insAll ks ps := by
  unfold insAll
  induction ps generalizing ks with
  | nil => exact h
  | cons p ps ih => exact ih (ins_sub h)

theorem ltb {a b : Nat} (h : Nat.ble (a + 1) b = true) : a < b := Nat.le_of_ble_eq_true h
theorem ws_each {C : Ctr} {x : Nat} {it : PE} {b : PS} {Q : Post} {m : Mem} {σ : Store} (h : W C it (EachP (WS C b) x Q) m σ) : WS C (.each x it b) Q m σ := by
  rw [WS_17]; exact h

theorem items_tuple {σ : Store} {t : Adr} {vs : List AV} (h : at? σ t = some (.tuple vs)) : itemsOf σ (.ref t) = some (vs, some t) := by
  unfold itemsOf; simp only [h]
theorem items_list {σ : Store} {t : Adr} {vs : List AV} (h : at? σ t = some (.list vs)) : itemsOf σ (.ref t) = some (vs, some t) := by
  unfold itemsOf; simp only [h]
theorem bcall_len_tuple {σ : Store} {h : Adr} {vs : List AV} {Q : AV → Store → Prop} (hσ : at? σ h = some (.tuple vs)) (hl : vs.length ≤ lim) (hq : Q (.int vs.length) σ) : Bcall .len [.ref h] Q σ := .len vs (.inr hσ) hl hq

theorem ask_node {C : Ctr} (h108 : ∀ args Q σ, ClS S108 args Q σ → C 108 args Q σ) {x d n t : Adr} {rd : AV} {ps fs : Int} {ks : List Int} {ad sl : Int → Adr} {np : Int → Int} {sc : Int → List Int} {k : Int} {σ : Store} {o : AO} {vs : List AV} {Q : AV → Store → Prop}
    (R : Raw x d n rd ps fs ks ad sl np sc σ) (ow : Own n ks ad sl sc σ) (hl : ks.length < lim) (ht : σ t = some o) (hto : o.rd = .tuple vs)
    (hq : ∀ σ' ad' sl', Raw x d n rd ps fs (ins ks k) ad' sl' np sc σ' → Own n (ins ks k) ad' sl' sc σ' → σ' t = some o → Q (.ref (ad' k)) σ') : C 108 [.ref x, .int k] Q σ := by
  have hat : at? σ t = some (.tuple vs) := by unfold at?; rw [ht]; simp [hto]
  refine h108 _ _ _ (clS_frame (fun a => a = t) (fun a o' h e => ?_) ⟨x, d, n, rd, ps, fs, ks, ad, sl, np, sc, k, rfl, R.off fun a h => ⟨vs, h ▸ hat⟩, ⟨?_, fun j hj => ?_⟩, hl, fun τ' ad' sl' R' ow' hdis => ?_⟩ fun Q Q' τ h => S108.mono _ Q Q' τ h)
  · subst h; rw [ht] at e; cases e
    cases o <;> first | rfl | (cases hto; done)
  · rw [off_out (D := fun a => a = t) (ne_of_at (at_own ow.dict rfl) hat (by simp))]; exact ow.dict
  · rw [off_out (D := fun a => a = t) (ne_of_at (at_own (ow.list j hj) rfl) hat (by simp))]; exact ow.list j hj
  · have hsub : ∀ a o, τ' a = some o → join τ' (on σ fun a => a = t) a = some o := fun a o e => join_l e
    refine hq _ _ _ (R'.mono hsub) ⟨hsub _ _ ow'.dict, fun j hj => hsub _ _ (ow'.list j hj)⟩ ?_
    rw [join_r (hdis t o rfl ht), on_in (D := fun a => a = t) rfl]; exact ht

noncomputable def S115 (args : List AV) (Q : AV → Store → Prop) (σ : Store) : Prop := Ex12 fun (x d n : Adr) (ps fs : Int) (ks : List Int) (ad sl : Int → Adr) (np : Int → Int) (sc : Int → List Int) (k : Int) (preds : List Int) => An6 (args = .ref x :: .int k :: ofInts preds) (Raw x d n .none ps fs ks ad sl np sc σ) (Own n ks ad sl sc σ) (ks.length + preds.length + 2 < lim) (∀ p, (sc p).length + preds.length < lim) (∀ σ' ad' sl', Raw x d n .none ps fs (insAll (ins ks k) preds) ad' sl' (fset np k (np k + preds.length)) (scAdd sc k preds) σ' → Own n (insAll (ins ks k) preds) ad' sl' (scAdd sc k preds) σ' → Q .none σ')

theorem Own.count {n : Adr} {ks : List Int} {ad sl : Int → Adr} {sc : Int → List Int} {σ : Store} (ow : Own n ks ad sl sc σ) {a : Adr} {p q r p' q' r' : Option AV} (ha : σ a = some (.node p q r)) : Own n ks ad sl sc (upd σ a (.node p' q' r')) :=
  ⟨by rw [upd_ne (ne_of_obj ow.dict ha (by simp))]; exact ow.dict, fun j hj => by rw [upd_ne (ne_of_obj (ow.list j hj) ha (by simp))]; exact ow.list j hj⟩
theorem Own.append {x d n : Adr} {rd : AV} {ps fs : Int} {ks : List Int} {ad sl : Int → Adr} {np : Int → Int} {sc : Int → List Int} {σ : Store} (R : Raw x d n rd ps fs ks ad sl np sc σ) (ow : Own n ks ad sl sc σ) {p k : Int} (hp : p ∈ ks) : Own n ks ad sl (fset sc p (sc p ++ [k])) (upd σ (sl p) (.list (ofInts (sc p ++ [k])))) := by
  refine ⟨by rw [upd_ne (ne_of_obj ow.dict (ow.list p hp) (by simp))]; exact ow.dict, fun j hj => ?_⟩
  by_cases h : j = p
  · subst h; rw [fset_self, upd_self]
  · rw [fset_ne h, upd_ne (fun e => h (R.sli j hj p hp e))]; exact ow.list j hj

theorem v115 {C : Ctr} (h108 : ∀ args Q σ, ClS S108 args Q σ → C 108 args Q σ) {x d n t : Adr} {ps fs : Int} {ks : List Int} {ad sl : Int → Adr} {np : Int → Int} {sc : Int → List Int} {k : Int} {preds : List Int} {σ : Store} {Q : AV → Store → Prop}
    (R : Raw x d n .none ps fs ks ad sl np sc σ) (ow : Own n ks ad sl sc σ) (hl : ks.length + preds.length + 2 < lim) (hsl : ∀ p, (sc p).length + preds.length < lim) (ht : σ t = some (.tuple (ofInts preds)))
    (hq : ∀ σ' ad' sl', Raw x d n .none ps fs (insAll (ins ks k) preds) ad' sl' (fset np k (np k + preds.length)) (scAdd sc k preds) σ' → Own n (insAll (ins ks k) preds) ad' sl' (scAdd sc k preds) σ' → Q .none σ') :
    WS C p115 (fin Q) [some (.ref x), some (.int k), some (.ref t), none, none, none] σ := by
  unfold p115
  simp only [WS_20, WS_15, WT_2, W_8, tru_bool, W_2, cmp_isnot, W_17, W_4, List.getElem?_cons_zero]
  refine (attr_inst R.hx R.hd).2.1 rfl ?_
  rw [decide_eq_false (by simp)]
  simp only [Br_f, WS_1, Sq_n, WS_20, WS_6, put, WS_11, W_14, WL_2, WL_1, W_4, W_5, W_15, List.getElem?_cons_zero, List.getElem?_cons_succ, List.length_cons, List.length_nil, List.set_cons_succ, List.set_cons_zero]
  refine ⟨by rw [mk_inst R.hx R.hd]; rfl, by trivial, mcall_inst R.hx rfl (ask_node h108 R ow (by omega) ht rfl fun σ₁ ad₁ sl₁ R₁ ow₁ ht₁ => ⟨by omega, ?_⟩)⟩
  have hk := ins_mem (ks := ks) (k := k)
  refine (attr_node (R₁.node k hk)).2.1 (bcall_len_tuple (at_own ht₁ rfl) (by rw [ofInts_len]; omega) ⟨⟨_, rfl⟩, ⟨_, rfl⟩, ?_⟩)
  simp only [bin_add]
  refine (setAttr_node (f := .node) (R₁.node k hk)).2.1 ?_
  rw [ofInts_len]
  have R₂ := R₁.count (p := k) (v := np k + preds.length) hk
  have ow₂ := ow₁.count (p' := some (.int k)) (q' := some (.int (np k + preds.length))) (r' := some (.ref (sl₁ k))) (R₁.node k hk)
  have ht₂ : upd σ₁ (ad₁ k) (.node (some (.int k)) (some (.int (np k + preds.length))) (some (.ref (sl₁ k)))) t = some (.tuple (ofInts preds)) := by rw [upd_ne (ne_of_obj ht₁ (R₁.node k hk) (by simp))]; exact ht₁
  generalize upd σ₁ (ad₁ k) (.node (some (.int k)) (some (.int (np k + preds.length))) (some (.ref (sl₁ k)))) = σ₂ at R₂ ow₂ ht₂
  refine ws_each ?_
  simp only [W_4, List.getElem?_cons_succ, List.getElem?_cons_zero]
  refine ⟨_, _, items_tuple (at_own ht₂ rfl), by rw [ofInts_len]; omega, ltb rfl, fun i m' σ' => Ex4 fun (m4 m5 : Option AV) (ad' sl' : Int → Adr) => An4 (m' = [some (.ref x), some (.int k), some (.ref t), some (.ref (ad₁ k)), m4, m5]) (Raw x d n .none ps fs (insAll (ins ks k) (preds.take i)) ad' sl' (fset np k (np k + preds.length)) (scAdd sc k (preds.take i)) σ') (Own n (insAll (ins ks k) (preds.take i)) ad' sl' (scAdd sc k (preds.take i)) σ') (σ' t = some (.ro (.tuple (ofInts preds)))), ?_, ?_, ?_, ?_⟩
  · have hlt := lock_self ht₂
    have hne : ∀ b o, σ₂ b = some o → (∀ vs, o ≠ .tuple vs) → lock σ₂ (some t) b = some o := fun b o hb ho => by rw [lock_ne (ne_of_obj hb ht₂ (ho _))]; exact hb
    refine ⟨none, none, ad₁, sl₁, rfl, ?_, ?_, hlt⟩
    · refine ⟨hne _ _ R₂.hx (by simp), hne _ _ R₂.hd (by simp), at_own (hne _ _ ow₂.dict (by simp)) rfl, R₂.nd, fun j hj => hne _ _ (R₂.node j hj) (by simp), fun j hj => at_own (hne _ _ (ow₂.list j hj) (by simp)) rfl, R₂.adi, R₂.sli, R₂.dnp, R₂.dsc⟩
    · exact ⟨hne _ _ ow₂.dict (by simp), fun j hj => hne _ _ (ow₂.list j hj) (by simp)⟩
  · rintro i m' σ' ⟨m4, m5, ad', sl', rfl, R', ow', ht'⟩
    exact ⟨rfl, by rw [Locked, lock_self ht₂]; exact ht'⟩
  · rintro i y m' σ' K hy ⟨m4, m5, ad', sl', rfl, R', ow', ht'⟩ hK
    have hi : i < preds.length := by
      have := (List.getElem?_eq_some_iff.mp hy).1
      rwa [ofInts_len] at this
    rw [ofInts_get hi] at hy
    cases hy
    simp only [put, List.set_cons_succ, List.set_cons_zero, WS_20, WS_6, Sq_n, WS_5, WS_1, W_15, WL_2, WL_1, W_4, W_17, List.getElem?_cons_zero, List.getElem?_cons_succ, List.length_cons, List.length_nil]
    have hlen := insAll_len (ins ks k) (preds.take i)
    have hlen2 := ins_len ks k
    have htk : (preds.take i).length ≤ preds.length := by rw [List.length_take]; exact Nat.min_le_right ..
    have hsn : preds.take (i + 1) = preds.take i ++ [preds.getD i 0] := by
      rw [List.take_add_one]; congr 1; simp [hi]
    refine ⟨by rw [mk_inst R'.hx R'.hd]; rfl, by trivial, mcall_inst R'.hx rfl (ask_node h108 R' ow' (by omega) ht' rfl fun σ₃ ad₃ sl₃ R₃ ow₃ ht₃ => ⟨by omega, ?_⟩)⟩
    have hp := ins_mem (ks := insAll (ins ks k) (preds.take i)) (k := preds.getD i 0)
    refine (attr_node (R₃.node _ hp)).2.2 ⟨by rw [mk_list (ow₃.list _ hp)]; rfl, by trivial, mcall_append (ow₃.list _ hp) ?_ (hK.1 _ _ (fg_self ⟨_, _, ad₃, sl₃, rfl, ?_, ?_, ?_⟩))⟩
    · rw [ofInts_len]
      have h1 := scAdd_len sc k (preds.take i) (preds.getD i 0)
      have h2 := hsl (preds.getD i 0)
      simp only [List.length_take] at h1
      omega
    · rw [hsn, insAll_snoc, scAdd_snoc]
      have := R₃.append (p := preds.getD i 0) (k := k) hp
      unfold ofInts at this ⊢
      simpa using this
    · rw [hsn, insAll_snoc, scAdd_snoc]
      have := ow₃.append R₃ (p := preds.getD i 0) (k := k) hp
      unfold ofInts at this ⊢
      simpa using this
    · rw [upd_ne (ne_of_obj ht₃ (ow₃.list _ hp) (by simp))]; exact ht₃
  · rintro m' σ' ⟨m4, m5, ad', sl', rfl, R', ow', ht'⟩
    rw [ofInts_len, List.take_length] at R' ow'
    have hne : ∀ b o, σ' b = some o → isRo o = false → unlock σ₂ σ' (some t) b = some o := fun b o hb hr => by
      have : b ≠ t := ne_of_obj hb ht' (by rintro rfl; cases hr)
      simp only [unlock]; rw [if_neg this]; exact hb
    exact hq _ ad' sl' ⟨hne _ _ R'.hx rfl, hne _ _ R'.hd rfl, at_own (hne _ _ ow'.dict rfl) rfl, R'.nd, fun j hj => hne _ _ (R'.node j hj) rfl, fun j hj => at_own (hne _ _ (ow'.list j hj) rfl) rfl, R'.adi, R'.sli, R'.dnp, R'.dsc⟩
      ⟨hne _ _ ow'.dict rfl, fun j hj => hne _ _ (ow'.list j hj) rfl⟩
end Mine
end
section
namespace Mine

noncomputable def gks (adds : List (Int × List Int)) : List Int := adds.foldl (fun ks a => insAll (ins ks a.1) a.2) []
noncomputable def gnp (adds : List (Int × List Int)) : Int → Int := adds.foldl (fun np a => fset np a.1 (np a.1 + a.2.length)) (fun _ => 0)
noncomputable def gsc (adds : List (Int × List Int)) : Int → List Int := adds.foldl (fun sc a => scAdd sc a.1 a.2) (fun _ => [])
theorem gks_snoc (adds : List (Int × List Int)) (a : Int × List Int) : gks (adds ++ [a]) = insAll (ins (gks adds) a.1) a.2 := by unfold gks; rw [List.foldl_append]; rfl
theorem gnp_snoc (adds : List (Int × List Int)) (a : Int × List Int) : gnp (adds ++ [a]) = fset (gnp adds) a.1 (gnp adds a.1 + a.2.length) := by unfold gnp; rw [List.foldl_append]; rfl
theorem gsc_snoc (adds : List (Int × List Int)) (a : Int × List Int) : gsc (adds ++ [a]) = scAdd (gsc adds) a.1 a.2 := by unfold gsc; rw [List.foldl_append]; rfl

noncomputable def tot (adds : List (Int × List Int)) : Nat := (adds.map fun a => a.2.length + 1).sum
theorem tot_snoc (adds : List (Int × List Int)) (a : Int × List Int) : tot (adds ++ [a]) = tot adds + (a.2.length + 1) := by unfold tot; simp
theorem snoc_ind {α : Type} {P : List α → Prop} (h0 : P []) (hs : ∀ l a, P l → P (l ++ [a])) : ∀ l, P l := fun l => by
  rw [← List.reverse_reverse l]
  induction l.reverse with
  | nil => exact h0
  | cons a l ih => rw [List.reverse_cons]; exact hs _ _ ih
theorem gks_len (adds : List (Int × List Int)) : (gks adds).length ≤ tot adds := by
  refine snoc_ind (P := fun adds => (gks adds).length ≤ tot adds) (by simp [gks, tot]) (fun l a ih => ?_) adds
  rw [gks_snoc, tot_snoc]
  have := insAll_len (ins (gks l) a.1) a.2
  have := ins_len (gks l) a.1
  omega
theorem gsc_len (adds : List (Int × List Int)) (p : Int) : (gsc adds p).length ≤ tot adds := by
  refine snoc_ind (P := fun adds => ∀ p, (gsc adds p).length ≤ tot adds) (by simp [gsc]) (fun l a ih p => ?_) adds p
  rw [gsc_snoc, tot_snoc]
  have := scAdd_len (gsc l) a.1 a.2 p
  have := ih p
  omega

theorem S115.mono (args : List AV) (Q Q' : AV → Store → Prop) (τ : Store) (h : ∀ v τ, Q v τ → Q' v τ) (hs : S115 args Q τ) : S115 args Q' τ := by
  obtain ⟨x, d, n, ps, fs, ks, ad, sl, np, sc, k, preds, h1, h2, h3, h4, h5, h6⟩ := hs
  exact ⟨x, d, n, ps, fs, ks, ad, sl, np, sc, k, preds, h1, h2, h3, h4, h5, fun σ' ad' sl' r1 r2 => h _ _ (h6 σ' ad' sl' r1 r2)⟩

noncomputable def Gr (x : Adr) (adds : List (Int × List Int)) (σ : Store) : Prop := Ex4 fun d n ad sl => Raw x d n .none 0 0 (gks adds) ad sl (gnp adds) (gsc adds) σ ∧ Own n (gks adds) ad sl (gsc adds) σ

theorem Gr.mono {x : Adr} {adds : List (Int × List Int)} {τ σ : Store} (h : ∀ a o, τ a = some o → σ a = some o) (g : Gr x adds τ) : Gr x adds σ := by
  obtain ⟨d, n, ad, sl, R, ow⟩ := g
  exact ⟨d, n, ad, sl, R.mono h, ⟨h _ _ ow.dict, fun j hj => h _ _ (ow.list j hj)⟩⟩

noncomputable def S115g (args : List AV) (Q : AV → Store → Prop) (σ : Store) : Prop := Ex4 fun (x : Adr) (adds : List (Int × List Int)) (k : Int) (preds : List Int) => An4 (args = .ref x :: .int k :: ofInts preds) (Gr x adds σ) (tot adds + preds.length + 2 < lim) (∀ σ', Gr x (adds ++ [(k, preds)]) σ' → Q .none σ')
theorem S115g.to {args : List AV} {Q : AV → Store → Prop} {σ : Store} (h : S115g args Q σ) : S115 args Q σ := by
  obtain ⟨x, adds, k, preds, h1, ⟨d, n, ad, sl, R, ow⟩, h3, h4⟩ := h
  have h5 := gks_len adds
  refine ⟨x, d, n, 0, 0, _, ad, sl, _, _, k, preds, h1, R, ow, by omega, fun p => ?_, fun σ' ad' sl' R' ow' => h4 σ' ⟨d, n, ad', sl', ?_, ?_⟩⟩
  · have := gsc_len adds p; omega
  · rw [gks_snoc, gnp_snoc, gsc_snoc]; exact R'
  · rw [gks_snoc, gsc_snoc]; exact ow'
end Mine
end
section
namespace Mine

theorem ws_each2 {C : Ctr} {x y : Nat} {it : PE} {b : PS} {Q : Post} {m : Mem} {σ : Store} (h : W C it (Each2P (WS C b) x y Q) m σ) : WS C (.each2 x y it b) Q m σ := by
  rw [WS_18]; exact h

theorem setAttr_grow {σ : Store} {x d : Adr} {y : AV} {Q : Store → Prop} (hx : σ x = some (.inst d)) :
    (σ d = some (.sdict []) → Q (upd σ d (.sdict [y])) → SetAttr .n2i (.ref x) y Q σ) ∧ (∀ v0, σ d = some (.sdict [v0]) → Q (upd σ d (.sdict [v0, y])) → SetAttr .ready (.ref x) y Q σ) ∧
    (∀ v0 v1, σ d = some (.sdict [v0, v1]) → Q (upd σ d (.sdict [v0, v1, y])) → SetAttr .npass (.ref x) y Q σ) ∧ (∀ v0 v1 v2, σ d = some (.sdict [v0, v1, v2]) → Q (upd σ d (.sdict [v0, v1, v2, y])) → SetAttr .nfin (.ref x) y Q σ) := by
  exact ⟨fun h q => .inst 0 rfl hx h (Nat.zero_le _) q, fun v0 h q => .inst 1 rfl hx h (Nat.le_refl 1) q, fun v0 v1 h q => .inst 2 rfl hx h (Nat.le_refl 2) q, fun v0 v1 v2 h q => .inst 3 rfl hx h (Nat.le_refl 3) q⟩

noncomputable def bare (x d n : Adr) : Store := fun a => if a = x then some (.inst d) else if a = d then some (.sdict [.ref n, .none, .int 0, .int 0]) else if a = n then some (.dict []) else none
theorem bare_gr {x d n : Adr} (h1 : d ≠ x) (h2 : n ≠ x) (h3 : n ≠ d) : Gr x [] (bare x d n) := by
  have hn : bare x d n n = some (.dict []) := by unfold bare; rw [if_neg h2, if_neg h3, if_pos rfl]
  refine ⟨d, n, fun _ => 0, fun _ => 0, ⟨?_, ?_, at_own hn rfl, ?_, ?_, ?_, ?_, ?_, ?_, ?_⟩, ⟨hn, ?_⟩⟩
  · unfold bare; rw [if_pos rfl]
  · unfold bare; rw [if_neg h1, if_pos rfl]
  all_goals simp [gks, gnp, gsc]

noncomputable def xd (x d : Adr) : Adr → Prop := fun a => a = x ∨ a = d

theorem init4 {C : Ctr} {x d : Adr} {σ : Store} {g : AV} {P : PS} {Q : Flw → Mem → Store → Prop} (hx : σ x = some (.inst d)) (hd : σ d = some (.sdict []))
    (h : ∀ n, σ n = none → WS C P Q [some (.ref x), some g, none, none] (upd (upd σ n (.dict [])) d (.sdict [.ref n, .none, .int 0, .int 0]))) :
    WS C (.seq (.setAttr (.var 0) .n2i .edict) (.seq (.setAttr (.var 0) .ready .none) (.seq (.setAttr (.var 0) .npass (.int 0)) (.seq (.setAttr (.var 0) .nfin (.int 0)) P)))) Q [some (.ref x), some g, none, none] σ := by
  simp only [WS_20, WS_10, Sq_n, W_4, W_1, W_2, W_23, List.getElem?_cons_zero]
  intro n hn
  have hxn : x ≠ n := ne_of_none hx hn
  have hdn : d ≠ n := ne_of_none hd hn
  have hxd : x ≠ d := ne_of_obj hx hd (by simp)
  refine (setAttr_grow (by rw [upd_ne hxn]; exact hx)).1 (by rw [upd_ne hdn]; exact hd) ?_
  rw [show WS C = WS C from rfl]
  refine (setAttr_grow (by rw [upd_ne hxd, upd_ne hxn]; exact hx)).2.1 _ (upd_self ..) ?_
  refine (setAttr_grow (by rw [upd_ne hxd, upd_ne hxd, upd_ne hxn]; exact hx)).2.2.1 _ _ (upd_self ..) ?_
  refine (setAttr_grow (by rw [upd_ne hxd, upd_ne hxd, upd_ne hxd, upd_ne hxn]; exact hx)).2.2.2 _ _ _ (upd_self ..) ?_
  rw [upd_upd, upd_upd, upd_upd]
  exact h n hn

theorem tot_len (adds : List (Int × List Int)) : adds.length ≤ tot adds := by
  unfold tot
  induction adds with
  | nil => simp
  | cons a l ih => simp only [List.length_cons, List.map_cons, List.sum_cons]; omega
theorem tot_mem {adds : List (Int × List Int)} {a : Int × List Int} (h : a ∈ adds) : a.2.length + 1 ≤ tot adds := by
  unfold tot
  induction adds with
  | nil => cases h
  | cons b l ih =>
    simp only [List.map_cons, List.sum_cons]
    rcases List.mem_cons.mp h with rfl | h
    · omega
    · have := ih h; omega
theorem tot_take {adds : List (Int × List Int)} {i : Nat} (h : i < adds.length) : tot (adds.take i) + (adds[i].2.length + 1) ≤ tot adds := by
  unfold tot
  induction adds generalizing i with
  | nil => simp at h
  | cons b l ih =>
    cases i with
    | zero => simp
    | succ i =>
      have := ih (i := i) (by simpa using h)
      simp only [List.take_succ_cons, List.map_cons, List.sum_cons, List.getElem_cons_succ]
      omega
theorem lock_join {τ ρ : Store} {r g : Adr} {o : AO} {og : AO} (hτr : τ r = none) (hτg : τ g = none) (hg : ρ g = some og) (hgr : g ≠ r) : lock (upd (join τ ρ) r o) (some g) = join τ (lock (upd ρ r o) (some g)) := by
  funext a
  by_cases ha : a = g
  · subst ha
    rw [lock_self (o := og) (by rw [upd_ne hgr, join_r hτg]; exact hg), join_r hτg, lock_self (o := og) (by rw [upd_ne hgr]; exact hg)]
  · rw [lock_ne ha]
    by_cases har : a = r
    · subst har; rw [upd_self, join_r hτr, lock_ne ha, upd_self]
    · rw [upd_ne har]
      cases e : τ a with
      | some q => rw [join_l e, join_l e]
      | none => rw [join_r e, join_r e, lock_ne ha, upd_ne har]

theorem mcall_items {C : Ctr} {σ : Store} {a : Adr} {es : List (Int × AV)} {Q : AV → Store → Prop} (hσ : σ a = some (.dict es)) (hq : ∀ r, σ r = none → Q (.ref r) (upd σ r (.ditems a))) : Mcall C .items (.ref a) [] Q σ := .items es hσ hq
theorem pairs_items {σ : Store} {r g : Adr} {es : List (Int × AV)} (hr : at? σ r = some (.ditems g)) (hg : at? σ g = some (.dict es)) : pairsOf σ (.ref r) = some (es, g) := by
  unfold pairsOf; simp only [hr, hg]

noncomputable def S101 (args : List AV) (Q : AV → Store → Prop) (σ : Store) : Prop := Ex2 fun (x d : Adr) => An4 (σ x = some (.inst d)) (σ d = some (.sdict [])) (∀ a o, σ a = some o → isNode o = false) ((args = [.ref x] ∧ ∀ τ, Gr x [] τ → (∀ a o, off σ (xd x d) a = some o → τ a = none) → Q .none (join τ (off σ (xd x d)))) ∨
   (∃ (g : Adr) (adds : List (Int × List Int)) (lf : Int → Adr), args = [.ref x, .ref g] ∧ σ g = some (.dict (adds.map fun a => (a.1, AV.ref (lf a.1)))) ∧ (∀ a ∈ adds, at? σ (lf a.1) = some (.list (ofInts a.2))) ∧ tot adds + 2 < lim ∧
     ∀ τ σ', Gr x adds τ → (∀ a o, off σ (xd x d) a = some o → τ a = none) → Sub (join τ (off σ (xd x d))) σ' → Q .none σ'))

theorem v101 {C : Ctr} (h115 : ∀ args Q σ, ClS S115g args Q σ → C 115 args Q σ) {args : List AV} {Q : AV → Store → Prop} {σ : Store} (h : S101 args Q σ) :
    ∃ u v, (args = [u, v] ∨ (args = [u] ∧ v = .none)) ∧ WS C p101 (fin Q) [some u, some v, none, none] σ := by
  obtain ⟨x, d, hx, hd, hnn, h⟩ := h
  have hxd : x ≠ d := ne_of_obj hx hd (by simp)
  have hj : ∀ n, σ n = none → upd (upd σ n (.dict [])) d (.sdict [.ref n, .none, .int 0, .int 0]) = join (bare x d n) (off σ (xd x d)) := fun n hn => by
    have hxn : x ≠ n := ne_of_none hx hn
    have hdn : d ≠ n := ne_of_none hd hn
    funext a
    by_cases ha : a = d
    · rw [ha, upd_self, join_l]; unfold bare; rw [if_neg (Ne.symm hxd), if_pos rfl]
    · rw [upd_ne ha]
      by_cases han : a = n
      · rw [han, upd_self, join_l]; unfold bare; rw [if_neg (Ne.symm hxn), if_neg (Ne.symm hdn), if_pos rfl]
      · rw [upd_ne han]
        by_cases hax : a = x
        · rw [hax, hx, join_l]; unfold bare; rw [if_pos rfl]
        · rw [join_r (by unfold bare; rw [if_neg hax, if_neg ha, if_neg han]), off_out]
          rintro (e | e)
          · exact hax e
          · exact ha e
  have hdis : ∀ n, σ n = none → ∀ a o, off σ (xd x d) a = some o → bare x d n a = none := fun n hn a o e => by
    by_cases hxa : xd x d a
    · rw [off_in hxa] at e; cases e
    · rw [off_out hxa] at e
      unfold bare
      rw [if_neg (fun h => hxa (.inl h)), if_neg (fun h => hxa (.inr h)), if_neg (ne_of_none e hn)]
  rcases h with ⟨rfl, hq⟩ | ⟨g, adds, lf, rfl, hg, hls, htot, hq⟩
  · refine ⟨.ref x, .none, .inr ⟨rfl, rfl⟩, ?_⟩
    unfold p101
    refine init4 hx hd fun n hn => ?_
    simp only [WS_20, WS_15, WT_2, W_8, tru_bool, W_2, cmp_isnot, W_4, List.getElem?_cons_succ, List.getElem?_cons_zero]
    rw [decide_eq_false (by simp)]
    simp only [Br_f, WS_1, Sq_n]
    rw [hj n hn]
    exact hq _ (bare_gr (Ne.symm hxd) (Ne.symm (ne_of_none hx hn)) (Ne.symm (ne_of_none hd hn))) (hdis n hn)
  · refine ⟨.ref x, .ref g, .inl rfl, ?_⟩
    unfold p101
    refine init4 hx hd fun n hn => ?_
    simp only [WS_20, WS_15, WT_2, W_8, tru_bool, W_2, cmp_isnot, W_4, List.getElem?_cons_succ, List.getElem?_cons_zero]
    rw [decide_eq_true (by simp)]
    simp only [Br_t, WS_20]
    refine ws_each2 ?_
    simp only [W_15, WL_1, W_4, List.getElem?_cons_succ, List.getElem?_cons_zero]
    have hgx : g ≠ x := ne_of_obj hg hx (by simp)
    have hgd : g ≠ d := ne_of_obj hg hd (by simp)
    have hgn : g ≠ n := ne_of_none hg hn
    have hg1 : upd (upd σ n (.dict [])) d (.sdict [.ref n, .none, .int 0, .int 0]) g = some (.dict (adds.map fun a => (a.1, AV.ref (lf a.1)))) := by rw [upd_ne hgd, upd_ne hgn]; exact hg
    refine ⟨by rw [mk_dict hg1]; rfl, by trivial, mcall_items hg1 fun r hr => ?_⟩
    rw [hj n hn] at hg1 hr ⊢
    have hgr : g ≠ r := ne_of_none hg1 hr
    generalize hρ0 : off σ (xd x d) = ρ₀ at *
    have hρg : ρ₀ g = some (.dict (adds.map fun a => (a.1, AV.ref (lf a.1)))) := by
      rw [← hρ0, off_out]; exact hg
      rintro (e | e)
      · exact hgx e
      · exact hgd e
    have hτr : bare x d n r = none := by
      cases e : bare x d n r with
      | none => rfl
      | some o => rw [join_l e] at hr; cases hr
    have hρr : ρ₀ r = none := by rw [join_r hτr] at hr; exact hr
    have hgu : upd (join (bare x d n) ρ₀) r (.ditems g) g = some (.dict (adds.map fun a => (a.1, AV.ref (lf a.1)))) := by rw [upd_ne hgr]; exact hg1
    have hlen := tot_len adds
    refine ⟨_, _, pairs_items (at_upd_self _ _ rfl) (at_own hgu rfl), by simp; omega, ltb rfl, ltb rfl, fun i m' σ' => Ex3 fun (m2 m3 : Option AV) (τ : Store) => An4 (m' = [some (.ref x), some (.ref g), m2, m3]) (σ' = join τ (lock (upd ρ₀ r (.ditems g)) (some g))) (∀ a o, lock (upd ρ₀ r (.ditems g)) (some g) a = some o → τ a = none) (Gr x (adds.take i) τ), ?_, ?_, ?_, ?_⟩
    · have hτg : bare x d n g = none := hdis n hn g _ hρg
      refine ⟨none, none, bare x d n, rfl, lock_join hτr hτg hρg hgr, fun a o e => ?_, bare_gr (Ne.symm hxd) (Ne.symm (ne_of_none hx hn)) (Ne.symm (ne_of_none hd hn))⟩
      by_cases ha : a = g
      · subst ha; exact hτg
      · rw [lock_ne ha] at e
        by_cases har : a = r
        · subst har; exact hτr
        · rw [upd_ne har] at e; exact hdis n hn a o e
    · rintro i m' σ' ⟨m2, m3, τ, rfl, rfl, hdj, hG⟩
      have hL := lock_self (σ := upd ρ₀ r (.ditems g)) (a := g) (by rw [upd_ne hgr]; exact hρg)
      refine ⟨rfl, ?_⟩
      rw [Locked, lock_self hgu, join_r (hdj g _ hL), hL]
    · rintro i k u m' σ' K hi ⟨m2, m3, τ, rfl, rfl, hdj, hG⟩ hK
      simp only [put, List.set_cons_succ, List.set_cons_zero, WS_20, WS_5, Sq_n, WS_1, W_16, W_4, WL_2, WL_1, List.getElem?_cons_zero, List.getElem?_cons_succ]
      have hil : i < adds.length := by
        have := (List.getElem?_eq_some_iff.mp hi).1
        simpa using this
      rw [List.getElem?_map, List.getElem?_eq_getElem hil] at hi
      simp only [Option.map_some, Option.some.injEq, Prod.mk.injEq] at hi
      obtain ⟨rfl, rfl⟩ := hi
      have hmem : adds[i] ∈ adds := List.getElem_mem hil
      have hGj : Gr x (adds.take i) (join τ (lock (upd ρ₀ r (.ditems g)) (some g))) := hG.mono fun a o e => join_l e
      obtain ⟨d', n', ad', sl', R', ow'⟩ := hGj
      have hla := hls _ hmem
      have hlr : at? (join τ (lock (upd ρ₀ r (.ditems g)) (some g))) (lf adds[i].1) = some (.list (ofInts adds[i].2)) := by
        obtain ⟨ol, hol⟩ := at_some hla
        have e1 : lf adds[i].1 ≠ g := ne_of_at hla (at_own hg rfl) (by simp)
        have e2 : lf adds[i].1 ≠ x := ne_of_at hla (at_own hx rfl) (by simp)
        have e3 : lf adds[i].1 ≠ d := ne_of_at hla (at_own hd rfl) (by simp)
        have hρl : ρ₀ (lf adds[i].1) = some ol := by
          rw [← hρ0, off_out (fun h => h.elim e2 e3)]; exact hol
        have e4 : lf adds[i].1 ≠ r := ne_of_none hρl hρr
        have hL : lock (upd ρ₀ r (.ditems g)) (some g) (lf adds[i].1) = some ol := by rw [lock_ne e1, upd_ne e4]; exact hρl
        unfold at? at hla ⊢
        rw [join_r (hdj _ _ hL), hL]
        rw [hol] at hla; exact hla
      refine ⟨mk_inst R'.hx R'.hd, rfl, _, _, rfl, hlr, ?_, mk_inst R'.hx R'.hd, mcall_inst R'.hx rfl (h115 _ _ _ ⟨τ, _, rfl, ?_, x, adds.take i, adds[i].1, adds[i].2, rfl, hG, ?_, fun τ' hG' hdj' => fg_self (hK _ _ (fg_self ⟨_, _, τ', rfl, rfl, hdj', ?_⟩))⟩)⟩
      · rw [ofInts_len]; have := tot_mem hmem; omega
      · intro a o e
        refine ⟨hdj a o e, ?_⟩
        by_cases ha : a = g
        · subst ha
          rw [lock_self (o := .dict (adds.map fun a => (a.1, AV.ref (lf a.1)))) (by rw [upd_ne hgr]; exact hρg)] at e
          cases e; rfl
        · rw [lock_ne ha] at e
          by_cases har : a = r
          · subst har; rw [upd_self] at e; cases e; rfl
          · rw [upd_ne har, ← hρ0] at e
            by_cases hxa : xd x d a
            · rw [off_in hxa] at e; cases e
            · rw [off_out hxa] at e; exact hnn a o e
      · have := tot_take hil; omega
      · rw [List.take_add_one, List.getElem?_eq_getElem hil]
        exact hG'
    · rintro m' σ' ⟨m2, m3, τ, rfl, rfl, hdj, hG⟩
      rw [List.length_map, List.take_length] at hG
      have hL := lock_self (σ := upd ρ₀ r (.ditems g)) (a := g) (by rw [upd_ne hgr]; exact hρg)
      have hτg := hdj g _ hL
      have hd0 : ∀ a o, ρ₀ a = some o → τ a = none := fun a o e => by
        by_cases ha : a = g
        · subst ha; exact hτg
        · exact hdj a o (by rw [lock_ne ha, upd_ne (ne_of_none e hρr)]; exact e)
      refine hq τ _ hG hd0 fun a o e => ?_
      simp only [unlock]
      by_cases ha : a = g
      · subst ha
        rw [if_pos rfl, hgu]
        rw [join_r hτg, hρg] at e; exact e
      · rw [if_neg ha]
        cases e' : τ a with
        | some q => rw [join_l e'] at e ⊢; exact e
        | none =>
          rw [join_r e'] at e ⊢
          rw [lock_ne ha, upd_ne (ne_of_none e hρr)]; exact e
end Mine
end
section
namespace Mine

structure Sty where
  v : Int
  i : Nat
  w : Adr
  it : Adr

structure Fc (S T E N : Adr) (sl : Int → Adr) (sc : Int → List Int) (ks : List Int) (rk : Int → Nat) (σ : Store) (stk : List Sty) (sn : List Int) (σ' : Store) : Prop where
  hS : σ' S = some (.list (ofInts (stk.map (·.v))))
  hT : σ' T = some (.list (stk.map fun e => AV.ref e.w))
  hE : σ' E = some (.iset sn)
  hN : ∃ es : List (Int × AV), σ' N = some (.dict es) ∧ es.map (·.1) = stk.map (·.v)
  its : ∀ e ∈ stk, σ' e.w = some (.nextw e.it) ∧ σ' e.it = some (.liter (sl e.v) e.i)
  nd : (stk.map (·.it)).Nodup
  keep : ∀ b o, σ b = some o → σ' b = some o
  fr : σ S = none ∧ σ T = none ∧ σ E = none ∧ σ N = none ∧ S ≠ T
  frs : ∀ e ∈ stk, σ e.it = none
  path : stk.Pairwise fun a b => rk a.v < rk b.v
  inks : ∀ e ∈ stk, e.v ∈ ks
  sn1 : sn.Nodup
  sn2 : ∀ k ∈ sn, k ∈ ks
  sn3 : ∀ e ∈ stk, e.v ∈ sn

noncomputable def left (sc : Int → List Int) (ks : List Int) (stk : List Sty) (sn : List Int) : Nat :=
  ((ks.filter fun k => !sn.contains k).map fun k => (sc k).length + 2).sum + (stk.map fun e => (sc e.v).length + 1 - e.i).sum

section
variable {S T E N : Adr} {sl : Int → Adr} {sc : Int → List Int} {ks : List Int} {rk : Int → Nat} {σ σ' : Store} {stk : List Sty} {sn : List Int}

theorem Fc.nodes_nodup (f : Fc S T E N sl sc ks rk σ stk sn σ') : (stk.map (·.v)).Nodup := by
  rw [List.nodup_iff_pairwise_ne, List.pairwise_map]
  exact f.path.imp fun h e => by rw [e] at h; exact Nat.lt_irrefl _ h

theorem ddel_last {es : List (Int × AV)} {vs : List Int} {v : Int} (h : es.map (·.1) = vs ++ [v]) (hn : v ∉ vs) : (ddel es v).map (·.1) = vs := by
  have : (ddel es v).map (·.1) = (es.map (·.1)).filter fun k => decide (k ≠ v) := by
    unfold ddel; rw [List.filter_map]; rfl
  rw [this, h, List.filter_append]
  have e1 : vs.filter (fun k => decide (k ≠ v)) = vs := List.filter_eq_self.mpr fun a ha => by simp; rintro rfl; exact hn ha
  rw [e1]; simp

theorem Fc.pop {e : Sty} (f : Fc S T E N sl sc ks rk σ (stk ++ [e]) sn σ') {es : List (Int × AV)} (hes : σ' N = some (.dict es)) :
    Fc S T E N sl sc ks rk σ stk sn (upd (upd (upd (del σ' e.it) S (.list (ofInts (stk.map (·.v))))) N (.dict (ddel es e.v))) T (.list (stk.map fun e => AV.ref e.w))) := by
  obtain ⟨es', hes', hk⟩ := f.hN
  rw [hes] at hes'; cases hes'
  have hTN : T ≠ N := ne_of_obj f.hT hes (by simp)
  have hSN : S ≠ N := ne_of_obj f.hS hes (by simp)
  have hES : E ≠ S := ne_of_obj f.hE f.hS (by simp)
  have hET : E ≠ T := ne_of_obj f.hE f.hT (by simp)
  have hEN : E ≠ N := ne_of_obj f.hE hes (by simp)
  have hit := (f.its e (by simp)).2
  have hEi : E ≠ e.it := ne_of_obj f.hE hit (by simp)
  have nd := f.nodes_nodup
  have oth : ∀ b, b ≠ S → b ≠ N → b ≠ T → b ≠ e.it → upd (upd (upd (del σ' e.it) S (.list (ofInts (stk.map (·.v))))) N (.dict (ddel es e.v))) T (.list (stk.map fun e => AV.ref e.w)) b = σ' b := fun b h1 h2 h3 h4 => by
    rw [upd_ne h3, upd_ne h2, upd_ne h1]; unfold del; rw [if_neg h4]
  refine ⟨by rw [upd_ne f.fr.2.2.2.2, upd_ne hSN, upd_self], upd_self .., by rw [oth E hES hEN hET hEi]; exact f.hE, ⟨_, by rw [upd_ne (Ne.symm hTN), upd_self], ?_⟩, fun q hq => ?_, ?_, fun b o hb => ?_, f.fr, fun q hq => f.frs q (List.mem_append_left _ hq), ?_, fun q hq => f.inks q (List.mem_append_left _ hq), f.sn1, f.sn2, fun q hq => f.sn3 q (List.mem_append_left _ hq)⟩
  · rw [List.map_append] at hk nd
    exact ddel_last hk fun h => by
      have := List.nodup_append.mp nd
      exact this.2.2 _ h _ (by simp) rfl
  · have hq' := f.its q (List.mem_append_left _ hq)
    have hne : q.it ≠ e.it := fun h => by
      have := f.nd
      rw [List.map_append] at this
      exact (List.nodup_append.mp this).2.2 _ (List.mem_map.mpr ⟨q, hq, rfl⟩) _ (by simp) h
    refine ⟨?_, ?_⟩
    · rw [oth q.w (ne_of_obj hq'.1 f.hS (by simp)) (ne_of_obj hq'.1 hes (by simp)) (ne_of_obj hq'.1 f.hT (by simp)) (ne_of_obj hq'.1 hit (by simp))]; exact hq'.1
    · rw [oth q.it (ne_of_obj hq'.2 f.hS (by simp)) (ne_of_obj hq'.2 hes (by simp)) (ne_of_obj hq'.2 f.hT (by simp)) hne]; exact hq'.2
  · have := f.nd
    rw [List.map_append] at this
    exact (List.nodup_append.mp this).1
  · rw [oth b (ne_of_none hb f.fr.1) (ne_of_none hb f.fr.2.2.2.1) (ne_of_none hb f.fr.2.1) (ne_of_none hb (f.frs e (by simp)))]; exact f.keep b o hb
  · exact (List.pairwise_append.mp f.path).1

theorem Fc.next {e : Sty} (f : Fc S T E N sl sc ks rk σ (stk ++ [e]) sn σ') : Fc S T E N sl sc ks rk σ (stk ++ [{ e with i := e.i + 1 }]) sn (upd σ' e.it (.liter (sl e.v) (e.i + 1))) := by
  obtain ⟨es, hes, hk⟩ := f.hN
  have hit := (f.its e (by simp)).2
  have hne : ∀ q ∈ stk, q.it ≠ e.it := fun q hq h => by
    have := f.nd
    rw [List.map_append] at this
    exact (List.nodup_append.mp this).2.2 _ (List.mem_map.mpr ⟨q, hq, rfl⟩) _ (by simp) h
  have sp : ∀ q, q ∈ stk ++ [{ e with i := e.i + 1 }] → q ∈ stk ∨ q = { e with i := e.i + 1 } := fun q hq => by simpa using hq
  refine ⟨?_, ?_, by rw [upd_ne (ne_of_obj f.hE hit (by simp))]; exact f.hE, ⟨es, by rw [upd_ne (ne_of_obj hes hit (by simp))]; exact hes, ?_⟩, fun q hq => ?_, ?_, fun b o hb => ?_, f.fr, fun q hq => ?_, ?_, fun q hq => ?_, f.sn1, f.sn2, fun q hq => ?_⟩
  · rw [upd_ne (ne_of_obj f.hS hit (by simp)), f.hS]; simp
  · rw [upd_ne (ne_of_obj f.hT hit (by simp)), f.hT]; simp
  · rw [hk]; simp
  · rcases sp q hq with hq | rfl
    · have := f.its q (List.mem_append_left _ hq)
      exact ⟨by rw [upd_ne (ne_of_obj this.1 hit (by simp))]; exact this.1, by rw [upd_ne (hne q hq)]; exact this.2⟩
    · have := f.its e (by simp)
      exact ⟨by rw [upd_ne (ne_of_obj this.1 hit (by simp))]; exact this.1, upd_self ..⟩
  · have := f.nd
    simpa using this
  · rw [upd_ne (ne_of_none hb (f.frs e (by simp)))]; exact f.keep b o hb
  · rcases sp q hq with hq | rfl
    · exact f.frs q (List.mem_append_left _ hq)
    · exact f.frs e (by simp)
  · have := f.path
    rw [List.pairwise_append] at this ⊢
    refine ⟨this.1, by simp, fun a ha b hb => ?_⟩
    rw [List.mem_singleton.mp hb]
    exact this.2.2 a ha e (by simp)
  · rcases sp q hq with hq | rfl
    · exact f.inks q (List.mem_append_left _ hq)
    · exact f.inks e (by simp)
  · rcases sp q hq with hq | rfl
    · exact f.sn3 q (List.mem_append_left _ hq)
    · exact f.sn3 e (by simp)

theorem Fc.push (f : Fc S T E N sl sc ks rk σ stk sn σ') {v : Int} (hv : v ∈ ks) (hvn : v ∉ sn) (hrk : ∀ e ∈ stk, rk e.v < rk v) {es : List (Int × AV)} (hes : σ' N = some (.dict es)) {it w : Adr} (hit : σ' it = none) (hw : σ' w = none) (hne : it ≠ w) {u : AV} :
    Fc S T E N sl sc ks rk σ (stk ++ [⟨v, 0, w, it⟩]) (sn ++ [v])
      (upd (upd (upd (upd (upd (upd σ' E (.iset (sn ++ [v]))) it (.liter (sl v) 0)) w (.nextw it)) T (.list ((stk.map fun e => AV.ref e.w) ++ [.ref w]))) N (.dict (dput es v u))) S (.list (ofInts (stk.map (·.v)) ++ [.int v]))) := by
  obtain ⟨es', hes', hk⟩ := f.hN
  rw [hes] at hes'; cases hes'
  have hTN : T ≠ N := ne_of_obj f.hT hes (by simp)
  have hSN : S ≠ N := ne_of_obj f.hS hes (by simp)
  have hES : E ≠ S := ne_of_obj f.hE f.hS (by simp)
  have hET : E ≠ T := ne_of_obj f.hE f.hT (by simp)
  have hEN : E ≠ N := ne_of_obj f.hE hes (by simp)
  have hST := f.fr.2.2.2.2
  have oth : ∀ b, b ≠ E → b ≠ it → b ≠ w → b ≠ T → b ≠ N → b ≠ S → (upd (upd (upd (upd (upd (upd σ' E (.iset (sn ++ [v]))) it (.liter (sl v) 0)) w (.nextw it)) T (.list ((stk.map fun e => AV.ref e.w) ++ [.ref w]))) N (.dict (dput es v u))) S (.list (ofInts (stk.map (·.v)) ++ [.int v]))) b = σ' b := fun b h1 h2 h3 h4 h5 h6 => by
    rw [upd_ne h6, upd_ne h5, upd_ne h4, upd_ne h3, upd_ne h2, upd_ne h1]
  have sp : ∀ q, q ∈ stk ++ [(⟨v, 0, w, it⟩ : Sty)] → q ∈ stk ∨ q = ⟨v, 0, w, it⟩ := fun q hq => by simpa using hq
  have hEi : E ≠ it := ne_of_none f.hE hit
  have hEw : E ≠ w := ne_of_none f.hE hw
  have hTi : T ≠ it := ne_of_none f.hT hit
  have hTw : T ≠ w := ne_of_none f.hT hw
  have hNi : N ≠ it := ne_of_none hes hit
  have hNw : N ≠ w := ne_of_none hes hw
  have hSi : S ≠ it := ne_of_none f.hS hit
  have hSw : S ≠ w := ne_of_none f.hS hw
  have hvs : v ∉ stk.map (·.v) := fun h => by
    obtain ⟨e, he, rfl⟩ := List.mem_map.mp h
    exact Nat.lt_irrefl _ (hrk e he)
  refine ⟨?_, ?_, ?_, ⟨dput es v u, ?_, ?_⟩, fun q hq => ?_, ?_, fun b o hb => ?_, f.fr, fun q hq => ?_, ?_, fun q hq => ?_, ?_, fun j hj => ?_, fun q hq => ?_⟩
  · rw [upd_self]; unfold ofInts; simp
  · rw [upd_ne (Ne.symm hST), upd_ne hTN, upd_self]; simp
  · rw [upd_ne hES, upd_ne hEN, upd_ne hET, upd_ne hEw, upd_ne hEi, upd_self]
  · rw [upd_ne (Ne.symm hSN), upd_self]
  · unfold dput
    have : (es.any fun e => decide (e.1 = v)) = false := by
      rw [List.any_eq_false]
      intro q hq
      simp only [decide_eq_true_eq]
      rintro rfl
      exact hvs (hk ▸ List.mem_map.mpr ⟨q, hq, rfl⟩)
    rw [this, if_neg (by decide), List.map_append, hk]; simp
  · rcases sp q hq with hq | rfl
    · have hq' := f.its q hq
      refine ⟨?_, ?_⟩
      · rw [oth q.w (ne_of_obj hq'.1 f.hE (by simp)) (ne_of_none hq'.1 hit) (ne_of_none hq'.1 hw) (ne_of_obj hq'.1 f.hT (by simp)) (ne_of_obj hq'.1 hes (by simp)) (ne_of_obj hq'.1 f.hS (by simp))]; exact hq'.1
      · rw [oth q.it (ne_of_obj hq'.2 f.hE (by simp)) (ne_of_none hq'.2 hit) (ne_of_none hq'.2 hw) (ne_of_obj hq'.2 f.hT (by simp)) (ne_of_obj hq'.2 hes (by simp)) (ne_of_obj hq'.2 f.hS (by simp))]; exact hq'.2
    · refine ⟨?_, ?_⟩
      · show upd _ S _ w = _
        rw [upd_ne (Ne.symm hSw), upd_ne (Ne.symm hNw), upd_ne (Ne.symm hTw), upd_self]
      · show upd _ S _ it = _
        rw [upd_ne (Ne.symm hSi), upd_ne (Ne.symm hNi), upd_ne (Ne.symm hTi), upd_ne hne, upd_self]
  · rw [List.map_append]
    refine List.nodup_append.mpr ⟨f.nd, by simp, fun a ha b hb => ?_⟩
    obtain ⟨q, hq, rfl⟩ := List.mem_map.mp ha
    have : b = it := by simpa using hb
    subst this
    exact ne_of_none (f.its q hq).2 hit
  · have hb' := f.keep b o hb
    rw [oth b (ne_of_none hb f.fr.2.2.1) (ne_of_none hb' hit) (ne_of_none hb' hw) (ne_of_none hb f.fr.2.1) (ne_of_none hb f.fr.2.2.2.1) (ne_of_none hb f.fr.1)]; exact hb'
  · rcases sp q hq with hq | rfl
    · exact f.frs q hq
    · cases e : σ it with
      | none => rfl
      | some o => rw [f.keep it o e] at hit; cases hit
  · rw [List.pairwise_append]
    refine ⟨f.path, by simp, fun a ha b hb => ?_⟩
    rw [List.mem_singleton.mp hb]; exact hrk a ha
  · rcases sp q hq with hq | rfl
    · exact f.inks q hq
    · exact hv
  · exact List.nodup_append.mpr ⟨f.sn1, by simp, fun a ha b hb => by rw [List.mem_singleton.mp hb]; rintro rfl; exact hvn ha⟩
  · rcases List.mem_append.mp hj with hj | hj
    · exact f.sn2 j hj
    · rw [List.mem_singleton.mp hj]; exact hv
  · rcases sp q hq with hq | rfl
    · exact List.mem_append_left _ (f.sn3 q hq)
    · simp
end

noncomputable def S155 (args : List AV) (Q : AV → Store → Prop) (σ : Store) : Prop := Ex12 fun (x d n : Adr) (rd : AV) (ps fs : Int) (ks : List Int) (ad sl : Int → Adr) (np : Int → Int) (sc : Int → List Int) (rk : Int → Nat) => An7 (args = [.ref x]) (Raw x d n rd ps fs ks ad sl np sc σ) (Own n ks ad sl sc σ) (∀ p ∈ ks, ∀ j ∈ sc p, j ∈ ks ∧ rk p < rk j) (ks.length < 1000) (∀ p ∈ ks, (sc p).length < lim) (∀ σ', Sub σ σ' → Q .none σ')
end Mine
end
section
namespace Mine

theorem tru_list {σ : Store} {a : Adr} {xs : List AV} {Q : Bool → Prop} (h : at? σ a = some (.list xs)) (hl : xs.length ≤ lim) (hq : Q (!xs.isEmpty)) : Tru (.ref a) Q σ := ⟨xs, h, hl, hq⟩
theorem mcall_pop {C : Ctr} {σ : Store} {a : Adr} {ys : List AV} {y : AV} {Q : AV → Store → Prop} (h : σ a = some (.list (ys ++ [y]))) (hl : (ys ++ [y]).length ≤ lim) (hq : Q y (upd σ a (.list ys))) : Mcall C .pop (.ref a) [] Q σ := .pop ys y h hl hq
theorem delItem_dict {σ : Store} {a : Adr} {es : List (Int × AV)} {k : Int} {Q : Store → Prop} (h : σ a = some (.dict es)) (hk : k ∈ es.map (·.1)) (hl : es.length ≤ lim) (hq : Q (upd σ a (.dict (ddel es k)))) : DelItem (.ref a) (.int k) Q σ := .dict h hk hl hq
theorem getItem_last {σ : Store} {a : Adr} {ys : List AV} {y : AV} {Q : AV → Prop} (h : at? σ a = some (.list (ys ++ [y]))) (hl : (ys ++ [y]).length ≤ lim) (hq : Q y) : GetItem (.ref a) (.int (-1)) Q σ := by
  refine .list h hl ?_ hq
  rw [if_neg (by omega), if_pos (by simp)]
  simp
theorem mcall_sadd {C : Ctr} {σ : Store} {a : Adr} {xs : List Int} {k : Int} {Q : AV → Store → Prop} (h : σ a = some (.iset xs)) (hl : xs.length < 1000) (hq : Q .none (upd σ a (.iset (sins xs k)))) : Mcall C .add (.ref a) [.int k] Q σ := .add xs h hl hq
theorem mk_set {σ : Store} {a : Adr} {xs : List Int} (h : σ a = some (.iset xs)) : Mk σ (.ref a) = 3 := mk_of h
theorem cmp_mem_set {σ : Store} {a : Adr} {xs : List Int} {k : Int} {Q : Bool → Prop} (h : at? σ a = some (.iset xs)) (hq : Q (decide (k ∈ xs))) : Cmp .mem (.int k) (.ref a) Q σ := .inl ⟨xs, h, hq⟩
theorem cmp_mem_dict {σ : Store} {a : Adr} {es : List (Int × AV)} {k : Int} {Q : Bool → Prop} (h : at? σ a = some (.dict es)) (hq : Q (decide (k ∈ es.map (·.1)))) : Cmp .mem (.int k) (.ref a) Q σ := .inr ⟨es, h, hq⟩
theorem getItem_dict {σ : Store} {a : Adr} {es : List (Int × AV)} {k : Int} {x : AV} {Q : AV → Prop} (h : at? σ a = some (.dict es)) (hk : dget es k = some x) (hq : Q x) : GetItem (.ref a) (.int k) Q σ := .dict h hk hq
theorem bcall_iter {σ : Store} {a : Adr} {xs : List AV} {Q : AV → Store → Prop} (h : at? σ a = some (.list xs)) (hq : ∀ r, σ r = none → Q (.ref r) (upd σ r (.liter a 0))) : Bcall .iter [.ref a] Q σ := .iter xs h hq
theorem attr_next {σ : Store} {a l : Adr} {i : Nat} {Q : AV → Store → Prop} (h : σ a = some (.liter l i)) (hq : ∀ r, σ r = none → Q (.ref r) (upd σ r (.nextw a))) : Attr .next (.ref a) Q σ := .next h hq

section
variable {S T E N : Adr} {sl : Int → Adr} {sc : Int → List Int} {ks : List Int} {rk : Int → Nat} {σ σ' : Store} {stk : List Sty} {sn : List Int}

theorem Fc.len (f : Fc S T E N sl sc ks rk σ stk sn σ') : stk.length ≤ ks.length := by
  have := f.nodes_nodup.length_le_of_subset (l₂ := ks) fun a ha => by
    obtain ⟨e, he, rfl⟩ := List.mem_map.mp ha; exact f.inks e he
  simpa using this
theorem Fc.slen (f : Fc S T E N sl sc ks rk σ stk sn σ') : sn.length ≤ ks.length := f.sn1.length_le_of_subset f.sn2

noncomputable def pIn : PS := .loop (.tv (.var 2)) (.seq (.tryNext 6 (.sub (.var 3) (.neg (.int 1))) (.seq (.delSub (.var 5) (.mcall (.var 2) .pop .nil)) (.seq (.expr (.mcall (.var 3) .pop .nil)) .skip))) .skip) (.seq .brk .skip)

noncomputable def m155 (x n S T E N : Adr) (m6 : Option AV) : Mem := [some (.ref x), some (.ref n), some (.ref S), some (.ref T), some (.ref E), some (.ref N), m6]

theorem left_next {e : Sty} (h : e.i < (sc e.v).length) : left sc ks (stk ++ [{ e with i := e.i + 1 }]) sn < left sc ks (stk ++ [e]) sn := by
  unfold left
  simp only [List.map_append, List.map_cons, List.map_nil, List.sum_append, List.sum_cons, List.sum_nil]
  omega
theorem left_pop {e : Sty} (h : e.i ≤ (sc e.v).length) : left sc ks stk sn < left sc ks (stk ++ [e]) sn := by
  unfold left
  simp only [List.map_append, List.map_cons, List.map_nil, List.sum_append, List.sum_cons, List.sum_nil]
  omega
end
end Mine
end
section
namespace Mine
section
variable {x n S T E N : Adr} {sl : Int → Adr} {sc : Int → List Int} {ks : List Int} {rk : Int → Nat} {σ σ' : Store} {stk : List Sty} {sn : List Int}

theorem fc_in {C : Ctr} {Q : Flw → Mem → Store → Prop} (hrk : ∀ p ∈ ks, ∀ j ∈ sc p, j ∈ ks ∧ rk p < rk j) (hkl : ks.length < 1000) (hsl : ∀ p ∈ ks, (sc p).length < lim)
    (hsc : ∀ p ∈ ks, at? σ (sl p) = some (.list (ofInts (sc p)))) (f : Fc S T E N sl sc ks rk σ stk sn σ') (hi : ∀ e ∈ stk, e.i ≤ (sc e.v).length) {m6 : Option AV}
    (hbrk : ∀ σ'', Fc S T E N sl sc ks rk σ [] sn σ'' → Q .brk (m155 x n S T E N m6) σ'')
    (hnext : ∀ v stk₂ σ'', Fc S T E N sl sc ks rk σ stk₂ sn σ'' → (∀ e ∈ stk₂, e.i ≤ (sc e.v).length) → v ∈ ks → (∀ e ∈ stk₂, rk e.v < rk v) → left sc ks stk₂ sn < left sc ks stk sn → Q .next (m155 x n S T E N (some (.int v))) σ'') :
    WS C pIn Q (m155 x n S T E N m6) σ' := by
  unfold pIn
  refine ws_loop (fun k m σ'' => ∃ stk', An5 (m = m155 x n S T E N m6) (Fc S T E N sl sc ks rk σ stk' sn σ'') (∀ e ∈ stk', e.i ≤ (sc e.v).length) (k = left sc ks stk' sn) (k ≤ left sc ks stk sn)) ⟨stk, rfl, f, hi, rfl, Nat.le_refl _⟩ ?_
  rintro k m σ₁ K ⟨stk', rfl, f₁, hi₁, rfl, hle⟩ hK
  have hlim : (1000 : Nat) ≤ lim := by decide
  have hlen := f₁.len
  simp only [m155, WT_2, W_4, List.getElem?_cons_succ, List.getElem?_cons_zero]
  refine tru_list (at_own f₁.hS rfl) (by rw [ofInts_len, List.length_map]; omega) ?_
  rcases List.eq_nil_or_concat stk' with rfl | ⟨stk₀, e, he⟩
  · exact hbrk _ f₁
  · rw [List.concat_eq_append] at he
    subst he
    have hev : e.v ∈ ks := f₁.inks e (by simp)
    obtain ⟨hw, hit⟩ := f₁.its e (by simp)
    have e1 : (!(ofInts ((stk₀ ++ [e]).map (·.v))).isEmpty) = true := by unfold ofInts; simp
    rw [e1]
    simp only [Br_t, WS_20]
    have hT : σ₁ T = some (.list ((stk₀.map fun e => AV.ref e.w) ++ [.ref e.w])) := by rw [f₁.hT]; simp
    have hS : σ₁ S = some (.list (ofInts (stk₀.map (·.v)) ++ [.int e.v])) := by rw [f₁.hS]; unfold ofInts; simp
    have hll : stk₀.length + 1 ≤ ks.length := by simpa using hlen
    have hsce : at? σ₁ (sl e.v) = some (.list (ofInts (sc e.v))) := by
      obtain ⟨o, ho⟩ := at_some (hsc e.v hev)
      have := f₁.keep _ _ ho
      have h2 := hsc e.v hev
      unfold at? at h2 ⊢; rw [this]; rw [ho] at h2; exact h2
    refine getItem_last (at_own hT rfl) (by simp; omega) ⟨e.w, e.it, sl e.v, e.i, ofInts (sc e.v), rfl, at_own hw rfl, hit, hsce, by rw [ofInts_len]; have := hsl e.v hev; omega, ltb rfl, fun y hy => ?_, fun hnone => ?_⟩
    · have hlt : e.i < (sc e.v).length := by
        have := (List.getElem?_eq_some_iff.mp hy).1
        rwa [ofInts_len] at this
      rw [ofInts_get hlt] at hy
      cases hy
      have hmem : (sc e.v).getD e.i 0 ∈ sc e.v := by
        rw [List.getD_eq_getElem?_getD, List.getElem?_eq_getElem hlt]; exact List.getElem_mem hlt
      obtain ⟨hjk, hjr⟩ := hrk e.v hev _ hmem
      refine hK.3 _ _ (hnext _ (stk₀ ++ [{ e with i := e.i + 1 }]) _ f₁.next ?_ hjk ?_ ?_)
      · intro q hq
        rcases List.mem_append.mp hq with hq | hq
        · exact hi₁ q (List.mem_append_left _ hq)
        · rw [List.mem_singleton.mp hq]; exact hlt
      · intro q hq
        rcases List.mem_append.mp hq with hq | hq
        · have := (List.pairwise_append.mp f₁.path).2.2 q hq e (by simp)
          omega
        · rw [List.mem_singleton.mp hq]; exact hjr
      · exact Nat.lt_of_lt_of_le (left_next hlt) hle
    · obtain ⟨es, hes, hk⟩ := f₁.hN
      have hSi : S ≠ e.it := ne_of_obj f₁.hS hit (by simp)
      have hTi : T ≠ e.it := ne_of_obj f₁.hT hit (by simp)
      have hNi : N ≠ e.it := ne_of_obj hes hit (by simp)
      have hST := f₁.fr.2.2.2.2
      have hTN : T ≠ N := ne_of_obj f₁.hT hes (by simp)
      have hSN : S ≠ N := ne_of_obj f₁.hS hes (by simp)
      have hdS : del σ₁ e.it S = some (.list (ofInts (stk₀.map (·.v)) ++ [.int e.v])) := by unfold del; rw [if_neg hSi]; exact hS
      have hdT : del σ₁ e.it T = some (.list ((stk₀.map fun e => AV.ref e.w) ++ [.ref e.w])) := by unfold del; rw [if_neg hTi]; exact hT
      have hdN : del σ₁ e.it N = some (.dict es) := by unfold del; rw [if_neg hNi]; exact hes
      have heslen : es.length = stk₀.length + 1 := by
        have := congrArg List.length hk
        simpa using this
      refine ⟨by rw [mk_list hdS]; rfl, rfl, mcall_pop hdS (by unfold ofInts; simp; omega) ?_⟩
      refine delItem_dict (es := es) (by rw [upd_ne (Ne.symm hSN)]; exact hdN) (by rw [hk]; simp) (by omega) ?_
      have hT2 : upd (upd (del σ₁ e.it) S (.list (ofInts (stk₀.map (·.v))))) N (.dict (ddel es e.v)) T = some (.list ((stk₀.map fun e => AV.ref e.w) ++ [.ref e.w])) := by rw [upd_ne hTN, upd_ne (Ne.symm hST)]; exact hdT
      refine ⟨by rw [mk_list hT2]; rfl, rfl, mcall_pop hT2 (by simp; omega) (hK.1 _ _ _ ?_ (fg_self ⟨stk₀, rfl, f₁.pop hes, fun q hq => hi₁ q (List.mem_append_left _ hq), rfl, ?_⟩))⟩
      · exact left_pop (hi₁ e (by simp))
      · have := left_pop (ks := ks) (sn := sn) (stk := stk₀) (hi₁ e (by simp)); omega
end
end Mine
end
section
namespace Mine
section
variable {x d n S T E N : Adr} {rd : AV} {ps fs : Int} {ad sl : Int → Adr} {np : Int → Int} {sc : Int → List Int} {ks : List Int} {rk : Int → Nat} {σ σ' : Store} {stk : List Sty} {sn : List Int}

noncomputable def pTrue : PS := .loop (.tv (.bool true)) (.seq (.ite (.tv (.cmp .mem (.var 6) (.var 4))) (.seq (.ite (.tv (.cmp .mem (.var 6) (.var 5))) (.seq (.ret (.bin .add (.sliceFrom (.var 2) (.sub (.var 5) (.var 6))) (.list (.cons (.var 6) .nil)))) .skip) .skip) .skip)
    (.seq (.expr (.mcall (.var 4) .add (.cons (.var 6) .nil))) (.seq (.expr (.mcall (.var 3) .append (.cons (.attr (.call (.glob (.blt .iter)) (.cons (.attr (.sub (.var 1) (.var 6)) .succ) .nil)) .next) .nil)))
      (.seq (.setItem (.var 5) (.var 6) (.call (.glob (.blt .len)) (.cons (.var 2) .nil))) (.seq (.expr (.mcall (.var 2) .append (.cons (.var 6) .nil))) .skip))))) (.seq pIn .skip)) .skip

theorem left_push {v : Int} (hv : v ∈ ks) (hnd : ks.Nodup) (hvn : v ∉ sn) {w it : Adr} : left sc ks (stk ++ [⟨v, 0, w, it⟩]) (sn ++ [v]) < left sc ks stk sn := by
  unfold left
  simp only [List.map_append, List.map_cons, List.map_nil, List.sum_append, List.sum_cons, List.sum_nil]
  have key : ∀ l : List Int, l.Nodup → v ∈ l → ((l.filter fun k => !sn.contains k).map fun k => (sc k).length + 2).sum = ((l.filter fun k => !(sn ++ [v]).contains k).map fun k => (sc k).length + 2).sum + ((sc v).length + 2) := by
    intro l
    induction l with
    | nil => intro _ h; cases h
    | cons a l ih =>
      intro hnd hm
      rw [List.nodup_cons] at hnd
      by_cases hav : a = v
      · subst hav
        have h1 : (!sn.contains a) = true := by simpa using hvn
        have h2 : (!(sn ++ [a]).contains a) = false := by simp
        rw [List.filter_cons, List.filter_cons, if_pos h1, if_neg (by rw [h2]; decide)]
        have h3 : l.filter (fun k => !(sn ++ [a]).contains k) = l.filter fun k => !sn.contains k := by
          apply List.filter_congr
          intro k hk
          have : k ≠ a := by rintro rfl; exact hnd.1 hk
          simp [this]
        rw [h3]
        simp only [List.map_cons, List.sum_cons]; omega
      · have hm' : v ∈ l := by
          rcases List.mem_cons.mp hm with h | h
          · exact absurd h.symm hav
          · exact h
        have := ih hnd.2 hm'
        have h3 : (!(sn ++ [v]).contains a) = !sn.contains a := by simp [hav]
        rw [List.filter_cons, List.filter_cons, h3]
        split
        · simp only [List.map_cons, List.sum_cons]; omega
        · exact this
  have := key ks hnd hv
  omega

theorem fc_true {C : Ctr} {Q : Flw → Mem → Store → Prop} (hnd : ks.Nodup) (hrk : ∀ p ∈ ks, ∀ j ∈ sc p, j ∈ ks ∧ rk p < rk j) (hkl : ks.length < 1000) (hsl : ∀ p ∈ ks, (sc p).length < lim)
    (hn : at? σ n = some (.dict (ks.map fun k => (k, AV.ref (ad k))))) (hnode : ∀ k ∈ ks, σ (ad k) = some (.node (some (.int k)) (some (.int (np k))) (some (.ref (sl k)))))
    (hsc : ∀ p ∈ ks, at? σ (sl p) = some (.list (ofInts (sc p)))) (f : Fc S T E N sl sc ks rk σ [] sn σ') {v : Int} (hv : v ∈ ks)
    (hq : ∀ m6 sn σ'', Fc S T E N sl sc ks rk σ [] sn σ'' → Q .next (m155 x n S T E N m6) σ'') : WS C pTrue Q (m155 x n S T E N (some (.int v))) σ' := by
  unfold pTrue
  refine ws_loop (fun k m σ'' => Ex3 fun stk sn v => An6 (m = m155 x n S T E N (some (.int v))) (Fc S T E N sl sc ks rk σ stk sn σ'') (∀ e ∈ stk, e.i ≤ (sc e.v).length) (v ∈ ks) (∀ e ∈ stk, rk e.v < rk v) (k = left sc ks stk sn)) ⟨[], sn, v, rfl, f, by simp, hv, by simp, rfl⟩ ?_
  rintro k m σ₁ K ⟨stk, sn, v, rfl, f₁, hi₁, hv, hr, rfl⟩ hK
  have hlim : (1000 : Nat) ≤ lim := by decide
  obtain ⟨es, hes, hk⟩ := f₁.hN
  have hat : ∀ a o, at? σ a = some o → at? σ₁ a = some o := fun a o h => by
    obtain ⟨o', ho'⟩ := at_some h
    unfold at? at h ⊢; rw [f₁.keep _ _ ho']; rw [ho'] at h; exact h
  have hslen := f₁.slen
  have hlen := f₁.len
  simp only [m155, WT_2, W_3, tru_bool, Br_t, WS_20, WS_15, W_8, W_4, List.getElem?_cons_succ, List.getElem?_cons_zero]
  refine cmp_mem_set (at_own f₁.hE rfl) ?_
  by_cases hm : v ∈ sn
  · rw [decide_eq_true hm]
    simp only [Br_t, WS_20, WS_15, WT_2, W_8, tru_bool, W_4, List.getElem?_cons_succ, List.getElem?_cons_zero]
    refine cmp_mem_dict (at_own hes rfl) ?_
    rw [decide_eq_false (by
      rw [hk]; intro h
      obtain ⟨e, he, rfl⟩ := List.mem_map.mp h
      exact Nat.lt_irrefl _ (hr e he))]
    simp only [Br_f, WS_1, Sq_n, WS_20]
    refine fc_in hrk hkl hsl hsc f₁ hi₁ (fun σ'' f₂ => hK.3 _ _ (hq _ _ _ f₂)) fun v' stk₂ σ'' f₂ hi₂ hv₂ hr₂ hlt => ?_
    exact hK.1 _ _ _ hlt (fg_self ⟨stk₂, sn, v', rfl, f₂, hi₂, hv₂, hr₂, rfl⟩)
  · rw [decide_eq_false hm]
    simp only [Br_f, WS_20, WS_5, Sq_n, WS_8, WS_1, W_15, WL_2, WL_1, W_4, W_14, W_5, W_17, W_18, List.getElem?_cons_succ, List.getElem?_cons_zero]
    have hTN : T ≠ N := ne_of_obj f₁.hT hes (by simp)
    have hSN : S ≠ N := ne_of_obj f₁.hS hes (by simp)
    have hES : E ≠ S := ne_of_obj f₁.hE f₁.hS (by simp)
    have hET : E ≠ T := ne_of_obj f₁.hE f₁.hT (by simp)
    have hEN : E ≠ N := ne_of_obj f₁.hE hes (by simp)
    have hST := f₁.fr.2.2.2.2
    refine ⟨by rw [mk_set f₁.hE]; rfl, by trivial, mcall_sadd f₁.hE (by omega) ?_⟩
    have hsins : sins sn v = sn ++ [v] := if_neg hm
    rw [hsins]
    have hT1 : upd σ₁ E (.iset (sn ++ [v])) T = some (.list (stk.map fun e => AV.ref e.w)) := by rw [upd_ne (Ne.symm hET)]; exact f₁.hT
    have k1 : ∀ b o, at? σ₁ b = some o → (∀ xs, o ≠ .iset xs) → at? (upd σ₁ E (.iset (sn ++ [v]))) b = some o := fun b o h ho => by
      rw [at_upd_ne (ne_of_at h (at_own f₁.hE rfl) (ho _))]; exact h
    have hn1 := k1 _ _ (hat _ _ hn) (by simp)
    have hnd1 : upd σ₁ E (.iset (sn ++ [v])) (ad v) = some (.node (some (.int v)) (some (.int (np v))) (some (.ref (sl v)))) := by
      have h0 := f₁.keep _ _ (hnode v hv)
      rw [upd_ne (ne_of_obj h0 f₁.hE (by simp))]; exact h0
    have hs1 := k1 _ _ (hat _ _ (hsc v hv)) (by simp)
    refine ⟨by rw [mk_list hT1]; rfl, getItem_dict hn1 (dget_map hv) ((attr_node hnd1).2.2 ?_)⟩
    simp only [call_blt]
    refine bcall_iter hs1 fun it hit => attr_next (upd_self ..) fun w hw => ?_
    have hit1 : σ₁ it = none := by
      have : it ≠ E := by rintro rfl; rw [upd_self] at hit; cases hit
      rw [upd_ne this] at hit; exact hit
    have hwi : w ≠ it := Ne.symm (ne_of_none (upd_self ..) hw)
    have hw1 : σ₁ w = none := by
      have : w ≠ E := by rintro rfl; rw [upd_ne hwi, upd_self] at hw; cases hw
      rw [upd_ne hwi, upd_ne this] at hw; exact hw
    have hTi : T ≠ it := ne_of_none f₁.hT hit1
    have hTw : T ≠ w := ne_of_none f₁.hT hw1
    have hSi : S ≠ it := ne_of_none f₁.hS hit1
    have hSw : S ≠ w := ne_of_none f₁.hS hw1
    have hNi : N ≠ it := ne_of_none hes hit1
    have hNw : N ≠ w := ne_of_none hes hw1
    have hT2 : upd (upd (upd σ₁ E (.iset (sn ++ [v]))) it (.liter (sl v) 0)) w (.nextw it) T = some (.list (stk.map fun e => AV.ref e.w)) := by rw [upd_ne hTw, upd_ne hTi]; exact hT1
    refine ⟨by rw [mk_list hT2, mk_list hT1], mcall_append hT2 (by simp; omega) ?_⟩
    have hS3 : ∀ l, upd (upd (upd (upd σ₁ E (.iset (sn ++ [v]))) it (.liter (sl v) 0)) w (.nextw it)) T l S = some (.list (ofInts (stk.map (·.v)))) := fun l => by
      rw [upd_ne hST, upd_ne hSw, upd_ne hSi, upd_ne (Ne.symm hES)]; exact f₁.hS
    refine bcall_len (at_own (hS3 _) rfl) (by rw [ofInts_len]; simp; omega) ?_
    refine setItem_dict (es := es) (by rw [upd_ne (Ne.symm hTN), upd_ne hNw, upd_ne hNi, upd_ne (Ne.symm hEN)]; exact hes) (by
      have := congrArg List.length hk
      simp at this; omega) ?_
    have hS4 := fun l l' => (upd_ne (σ := upd (upd (upd (upd σ₁ E (.iset (sn ++ [v]))) it (.liter (sl v) 0)) w (.nextw it)) T l) (o := l') hSN).trans (hS3 l)
    refine ⟨by rw [mk_list (hS4 _ _)]; rfl, by trivial, mcall_append (hS4 _ _) (by rw [ofInts_len]; simp; omega) ?_⟩
    have f₂ := f₁.push hv hm hr hes hit1 hw1 (Ne.symm hwi) (u := .int ((ofInts (stk.map (·.v))).length))
    refine fc_in hrk hkl hsl hsc f₂ ?_ (fun σ'' f₂ => hK.3 _ _ (hq _ _ _ f₂)) fun v' stk₂ σ'' f₃ hi₃ hv₃ hr₃ hlt => ?_
    · intro e he
      rcases List.mem_append.mp he with he | he
      · exact hi₁ e he
      · rw [List.mem_singleton.mp he]; exact Nat.zero_le _
    · exact hK.1 _ _ _ (Nat.lt_trans hlt (left_push hv hnd hm)) (fg_self ⟨stk₂, _, v', rfl, f₃, hi₃, hv₃, hr₃, rfl⟩)
end
end Mine
end
section
namespace Mine

theorem items_dict {σ : Store} {t : Adr} {es : List (Int × AV)} (h : σ t = some (.dict es)) : itemsOf σ (.ref t) = some (es.map (fun e => AV.int e.1), some t) := by
  unfold itemsOf; simp only [at_own h rfl, h]

theorem v155 {C : Ctr} {x d n : Adr} {rd : AV} {ps fs : Int} {ks : List Int} {ad sl : Int → Adr} {np : Int → Int} {sc : Int → List Int} {rk : Int → Nat} {σ : Store} {Q : AV → Store → Prop}
    (R : Raw x d n rd ps fs ks ad sl np sc σ) (ow : Own n ks ad sl sc σ) (hrk : ∀ p ∈ ks, ∀ j ∈ sc p, j ∈ ks ∧ rk p < rk j) (hkl : ks.length < 1000) (hsl : ∀ p ∈ ks, (sc p).length < lim)
    (hq : ∀ σ', Sub σ σ' → Q .none σ') : WS C p155 (fin Q) [some (.ref x), none, none, none, none, none, none] σ := by
  have hlim : (1000 : Nat) ≤ lim := by decide
  unfold p155
  simp only [WS_20, WS_6, put, Sq_n, W_23, List.length_set, W_14, WL_1, W_5, call_blt, W_12, List.length_nil, W_17, W_4, List.getElem?_cons_zero, List.length_cons, List.set_cons_succ, List.set_cons_zero]
  refine (attr_inst R.hx R.hd).1 rfl ⟨by omega, ?_⟩
  refine ⟨by decide, fun S hS => ⟨by omega, by decide, fun T hT => ⟨by omega, .set fun E hE => ⟨by omega, fun N hN => ⟨by omega, ?_⟩⟩⟩⟩⟩
  refine ws_each ?_
  simp only [W_4, List.getElem?_cons_succ, List.getElem?_cons_zero]
  have hTS : T ≠ S := Ne.symm (ne_of_none (upd_self ..) hT)
  rw [upd_ne hTS] at hT
  have hET : E ≠ T := Ne.symm (ne_of_none (upd_self ..) hE)
  rw [upd_ne hET] at hE
  have hES : E ≠ S := Ne.symm (ne_of_none (upd_self ..) hE)
  rw [upd_ne hES] at hE
  have hNE : N ≠ E := Ne.symm (ne_of_none (upd_self ..) hN)
  rw [upd_ne hNE] at hN
  have hNT : N ≠ T := Ne.symm (ne_of_none (upd_self ..) hN)
  rw [upd_ne hNT] at hN
  have hNS : N ≠ S := Ne.symm (ne_of_none (upd_self ..) hN)
  rw [upd_ne hNS] at hN
  generalize hσ₄ : upd (upd (upd (upd σ S (.list [])) T (.list [])) E (.iset [])) N (.dict []) = σ₄
  have old : ∀ b o, σ b = some o → σ₄ b = some o := fun b o h => by
    rw [← hσ₄, upd_ne (ne_of_none h hN), upd_ne (ne_of_none h hE), upd_ne (ne_of_none h hT), upd_ne (ne_of_none h hS)]; exact h
  have hn4 := old _ _ ow.dict
  have hL := lock_self ow.dict
  have hL4 := lock_self hn4
  have lne : ∀ b, σ b = none → lock σ (some n) b = none := fun b h => by
    rw [lock_ne (Ne.symm (ne_of_none ow.dict h))]; exact h
  refine ⟨_, _, items_dict hn4, by simp; omega, ltb rfl, fun i m' σ' => Ex2 fun m6 sn => m' = m155 x n S T E N m6 ∧ Fc S T E N sl sc ks rk (lock σ (some n)) [] sn σ', ?_, ?_, ?_, ?_⟩
  · have l4 : ∀ b, b ≠ n → lock σ₄ (some n) b = σ₄ b := fun b h => lock_ne h
    refine ⟨none, [], rfl, ⟨?_, ?_, ?_, ⟨[], ?_, rfl⟩, by simp, by simp, ?_, ⟨lne _ hS, lne _ hT, lne _ hE, lne _ hN, Ne.symm hTS⟩, by simp, by simp, by simp, by simp, by simp, by simp⟩⟩
    · rw [l4 S (Ne.symm (ne_of_none ow.dict hS)), ← hσ₄, upd_ne (Ne.symm hNS), upd_ne (Ne.symm hES), upd_ne (Ne.symm hTS), upd_self]; rfl
    · rw [l4 T (Ne.symm (ne_of_none ow.dict hT)), ← hσ₄, upd_ne (Ne.symm hNT), upd_ne (Ne.symm hET), upd_self]; rfl
    · rw [l4 E (Ne.symm (ne_of_none ow.dict hE)), ← hσ₄, upd_ne (Ne.symm hNE), upd_self]
    · rw [l4 N (Ne.symm (ne_of_none ow.dict hN)), ← hσ₄, upd_self]
    · intro b o hb
      by_cases h : b = n
      · subst h; rw [hL4]; rw [hL] at hb; exact hb
      · rw [lock_ne h] at hb ⊢; exact old _ _ hb
  · rintro i m' σ' ⟨m6, sn, rfl, f⟩
    exact ⟨rfl, by rw [Locked, hL4]; exact f.keep _ _ hL⟩
  · rintro i y m' σ' K hy ⟨m6, sn, rfl, f⟩ hK
    have hi : i < ks.length := by
      have := (List.getElem?_eq_some_iff.mp hy).1
      simpa using this
    have hy' : y = .int ks[i] := by
      rw [List.map_map, List.getElem?_map, List.getElem?_eq_getElem hi] at hy
      simpa using hy.symm
    subst hy'
    have hv : ks[i] ∈ ks := List.getElem_mem hi
    simp only [put, m155, List.set_cons_succ, List.set_cons_zero, WS_20, WS_15, WT_2, W_8, tru_bool, W_4, List.getElem?_cons_succ, List.getElem?_cons_zero]
    refine cmp_mem_set (at_own f.hE rfl) ?_
    by_cases hm : ks[i] ∈ sn
    · rw [decide_eq_true hm]
      simp only [Br_t, WS_20, WS_4, Sq_c]
      exact hK.2 _ _ (fg_self ⟨_, sn, rfl, f⟩)
    · rw [decide_eq_false hm]
      simp only [Br_f, WS_1, Sq_n, WS_20]
      refine fc_true (ad := ad) (np := np) R.nd hrk hkl hsl ?_ ?_ ?_ f hv fun m6 sn σ'' f' => hK.1 _ _ (fg_self ⟨m6, sn, rfl, f'⟩)
      · unfold at?; rw [hL]; rfl
      · intro k hk
        rw [lock_ne (ne_of_obj (R.node k hk) ow.dict (by simp))]; exact R.node k hk
      · intro k hk
        unfold at?
        rw [lock_ne (ne_of_obj (ow.list k hk) ow.dict (by simp)), ow.list k hk]; rfl
  · rintro m' σ' ⟨m6, sn, rfl, f⟩
    refine hq _ fun b o hb => ?_
    simp only [unlock]
    by_cases h : b = n
    · subst h; rw [if_pos rfl]; exact old _ _ hb
    · rw [if_neg h]; exact f.keep _ _ (by rw [lock_ne h]; exact hb)
end Mine
end
section
namespace Mine

theorem unlock_lock (σ : Store) (b : Option Adr) : unlock σ (lock σ b) b = σ := by
  cases b with
  | none => rfl
  | some b =>
    funext c
    simp only [unlock]
    by_cases h : c = b
    · rw [if_pos h, h]
    · rw [if_neg h, lock_ne h]
theorem rd_rd (o : AO) : o.rd.rd = o.rd := by
  induction o with
  | ro o ih => exact ih
  | _ => rfl
theorem at_lock (σ : Store) (b : Option Adr) (a : Adr) : at? (lock σ b) a = at? σ a := by
  cases b with
  | none => rfl
  | some b =>
    by_cases h : a = b
    · subst h
      cases e : σ a with
      | none => unfold at? lock; simp only [e]
      | some o => unfold at?; rw [lock_self e, e]; simp only [Option.map_some]; rw [show (AO.ro o.rd).rd = o.rd.rd from rfl, rd_rd]
    · unfold at?; rw [lock_ne h]
theorem locked_lock (σ : Store) (b : Option Adr) : Locked σ (lock σ b) b := by
  cases b with
  | none => trivial
  | some b => rfl

noncomputable def LcI {α : Type} (res : Nat → List α) (σ : Store) (b : Option Adr) (i : Nat) (acc : List α) (σ' : Store) : Prop := acc = res i ∧ σ' = lock σ b
theorem lc_end {α : Type} {res : Nat → List α} {σ : Store} {b : Option Adr} {i : Nat} {acc : List α} {σ₂ : Store} (h : Sub (lock σ b) σ₂) (e : acc = res i) : Fg σ₂ (LcI res σ b i acc) := ⟨_, h, e, rfl⟩
theorem sub_refl (σ : Store) : Sub σ σ := fun _ _ e => e
theorem sub_upd {σ τ : Store} {r : Adr} {o : AO} (h : Sub σ τ) (hr : τ r = none) : Sub σ (upd τ r o) := fun a o' e => by
  have := h a o' e
  rw [upd_ne (ne_of_none this hr)]; exact this
theorem sub_trans {σ τ ρ : Store} (h : Sub σ τ) (h' : Sub τ ρ) : Sub σ ρ := fun a o e => h' a o (h a o e)

noncomputable abbrev Lc (C : Ctr) (elt : PE) (c : PT) : (AV → Mem → Store → Prop) → AV → Mem → Store → Prop := LcP (WT C c) (W C elt)
theorem w_lcomp {C : Ctr} {elt it : PE} {c : PT} {Q : AV → Mem → Store → Prop} {m : Mem} {σ : Store}
    (h : W C it (Lc C elt c Q) m σ) : W C (.lcomp elt it c) Q m σ := by
  rw [W_22]; exact h

theorem lc_pure {C : Ctr} {elt : PE} {c : PT} {Q : AV → Mem → Store → Prop} {m : Mem} {σ : Store} {x : AV} {vs : List AV} {b : Option Adr} (res : Nat → List AV) (h1 : itemsOf σ x = some (vs, b)) (h2 : vs.length ≤ lim) (h3 : res 0 = [])
    (h4 : ∀ i y, vs[i]? = some y → WT C c (LcT (W C elt) (LcI res σ b) i (res i)) (m ++ [some y]) (lock σ b))
    (h5 : ∀ r, σ r = none → Q (.ref r) m (upd σ r (.list (res vs.length)))) : Lc C elt c Q x m σ := by
  refine ⟨vs, b, h1, h2, LcI res σ b, ⟨h3.symm, rfl⟩, ?_, ?_, ?_⟩
  · rintro i acc σ' ⟨_, rfl⟩; exact locked_lock σ b
  · rintro i y acc σ' hy ⟨rfl, rfl⟩ _
    exact h4 i y hy
  · rintro acc σ' ⟨rfl, rfl⟩ _ r hr
    rw [unlock_lock] at hr ⊢
    exact h5 r hr

noncomputable abbrev Dc (C : Ctr) (k v : PE) : (AV → Mem → Store → Prop) → AV → Mem → Store → Prop := DcP (W C k) (W C v)
theorem w_dcomp {C : Ctr} {k v it : PE} {Q : AV → Mem → Store → Prop} {m : Mem} {σ : Store}
    (h : W C it (Dc C k v Q) m σ) : W C (.dcomp k v it) Q m σ := by
  rw [W_24]; exact h
theorem dc_pure {C : Ctr} {k v : PE} {Q : AV → Mem → Store → Prop} {m : Mem} {σ : Store} {x : AV} {vs : List AV} {b : Option Adr} (res : Nat → List (Int × AV)) (h1 : itemsOf σ x = some (vs, b)) (h2 : vs.length ≤ lim) (h3 : res 0 = [])
    (h4 : ∀ i y, vs[i]? = some y → W C k (fun z m₁ σ₁ => W C v (DcT (LcI res σ b) i (res i) z) m₁ σ₁) (m ++ [some y]) (lock σ b))
    (h5 : ∀ r, σ r = none → Q (.ref r) m (upd σ r (.dict (res vs.length)))) : Dc C k v Q x m σ := by
  refine ⟨vs, b, h1, h2, LcI res σ b, ⟨h3.symm, rfl⟩, ?_, ?_, ?_⟩
  · rintro i acc σ' ⟨_, rfl⟩; exact locked_lock σ b
  · rintro i y acc σ' hy ⟨rfl, rfl⟩ _
    exact h4 i y hy
  · rintro acc σ' ⟨rfl, rfl⟩ _ r hr
    rw [unlock_lock] at hr ⊢
    exact h5 r hr

noncomputable def need (ks : List Int) (sc : Int → List Int) (D : List Int) (k : Int) : Int := (((ks.filter fun p => !D.contains p).map fun p => ((sc p).count k : Int)).sum : Int)

structure Sts (ks : List Int) (sc : Int → List Int) (D O Rl : List Int) (np : Int → Int) : Prop where
  dn : D.Nodup
  on : O.Nodup
  rn : Rl.Nodup
  dis : ∀ k ∈ D, k ∉ O
  dk : ∀ k ∈ D, k ∈ ks
  ok : ∀ k ∈ O, k ∈ ks
  cl : ∀ k, k ∈ D ∨ k ∈ O → ∀ p ∈ ks, k ∈ sc p → p ∈ D
  nD : ∀ k ∈ D, np k = -2
  nO : ∀ k ∈ O, np k = -1
  nW : ∀ k ∈ ks, k ∉ D → k ∉ O → np k = need ks sc D k
  rd : ∀ k, k ∈ Rl ↔ k ∈ ks ∧ k ∉ D ∧ k ∉ O ∧ np k = 0
  scs : ∀ p ∈ ks, ∀ j ∈ sc p, j ∈ ks
  kl : ks.length < 1000
  sl : ∀ p ∈ ks, (sc p).length < lim

noncomputable def Srt (x : Adr) (ks : List Int) (sc : Int → List Int) (D O Rl : List Int) (σ : Store) : Prop := Ex6 fun d n r ad sl np => An5 (Raw x d n (.ref r) (D.length + O.length) D.length ks ad sl np sc σ) (Own n ks ad sl sc σ) (σ r = some (.list (ofInts Rl))) (∀ k ∈ ks, r ≠ sl k) (Sts ks sc D O Rl np)

theorem Srt.mono {x : Adr} {ks : List Int} {sc : Int → List Int} {D O Rl : List Int} {τ σ : Store} (h : Sub τ σ) (s : Srt x ks sc D O Rl τ) : Srt x ks sc D O Rl σ := by
  obtain ⟨d, n, r, ad, sl, np, R, ow, hr, hne, st⟩ := s
  exact ⟨d, n, r, ad, sl, np, R.mono h, ⟨h _ _ ow.dict, fun j hj => h _ _ (ow.list j hj)⟩, h _ _ hr, hne, st⟩
end Mine
end
section
namespace Mine
section
variable {ks : List Int} {sc : Int → List Int} {D O Rl : List Int} {np : Int → Int}

theorem need_done {k j : Int} (hk : k ∈ ks) (hnd : ks.Nodup) (hD : k ∉ D) : need ks sc (D ++ [k]) j = need ks sc D j - ((sc k).count j : Int) := by
  unfold need
  have key : ∀ l : List Int, l.Nodup → k ∈ l → ((l.filter fun p => !D.contains p).map fun p => ((sc p).count j : Int)).sum = ((l.filter fun p => !(D ++ [k]).contains p).map fun p => ((sc p).count j : Int)).sum + ((sc k).count j : Int) := by
    intro l
    induction l with
    | nil => intro _ h; cases h
    | cons a l ih =>
      intro hnd hm
      rw [List.nodup_cons] at hnd
      by_cases hav : a = k
      · subst hav
        have h1 : (!D.contains a) = true := by simpa using hD
        have h2 : (!(D ++ [a]).contains a) = false := by simp
        rw [List.filter_cons, List.filter_cons, if_pos h1, if_neg (by rw [h2]; decide)]
        have h3 : l.filter (fun p => !(D ++ [a]).contains p) = l.filter fun p => !D.contains p := by
          apply List.filter_congr
          intro p hp
          have : p ≠ a := by rintro rfl; exact hnd.1 hp
          simp [this]
        rw [h3]
        simp only [List.map_cons, List.sum_cons]; omega
      · have hm' : k ∈ l := by
          rcases List.mem_cons.mp hm with h | h
          · exact absurd h.symm hav
          · exact h
        have := ih hnd.2 hm'
        have h3 : (!(D ++ [k]).contains a) = !D.contains a := by simp [hav]
        rw [List.filter_cons, List.filter_cons, h3]
        split
        · simp only [List.map_cons, List.sum_cons]; omega
        · exact this
  have := key ks hnd hk
  omega

theorem sum_nonneg {l : List Int} {f : Int → Int} (h : ∀ p ∈ l, 0 ≤ f p) : 0 ≤ (l.map f).sum := by
  induction l with
  | nil => simp
  | cons a l ih =>
    simp only [List.map_cons, List.sum_cons]
    have h1 := h a (by simp)
    have h2 := ih fun p hp => h p (by simp [hp])
    omega
theorem sum_ge {l : List Int} {f : Int → Int} (h : ∀ p ∈ l, 0 ≤ f p) {q : Int} (hq : q ∈ l) : f q ≤ (l.map f).sum := by
  induction l with
  | nil => cases hq
  | cons a l ih =>
    simp only [List.map_cons, List.sum_cons]
    have h1 := h a (by simp)
    have h2 := sum_nonneg fun p hp => h p (List.mem_cons_of_mem _ hp)
    rcases List.mem_cons.mp hq with rfl | hq
    · omega
    · have := ih (fun p hp => h p (by simp [hp])) hq; omega
theorem sum_zero {l : List Int} {f : Int → Int} (h : ∀ p ∈ l, f p = 0) : (l.map f).sum = 0 := by
  induction l with
  | nil => simp
  | cons a l ih =>
    simp only [List.map_cons, List.sum_cons]
    rw [h a (by simp), ih fun p hp => h p (by simp [hp])]; rfl

theorem need_ge {k j : Int} (hk : k ∈ ks) (hD : k ∉ D) : ((sc k).count j : Int) ≤ need ks sc D j := by
  unfold need
  exact sum_ge (f := fun p => ((sc p).count j : Int)) (fun p _ => by simp) (List.mem_filter.mpr ⟨hk, by simpa using hD⟩)
theorem need_zero {k : Int} (h : need ks sc D k = 0) : ∀ p ∈ ks, k ∈ sc p → p ∈ D := fun p hp hm => by
  by_cases hD : p ∈ D
  · exact hD
  · have := need_ge (sc := sc) (j := k) hp hD
    have h2 : 0 < (sc p).count k := List.count_pos_iff.mpr hm
    omega
theorem need_pos {k : Int} (h : need ks sc D k ≠ 0) : ∃ p ∈ ks, p ∉ D ∧ k ∈ sc p := by
  refine Classical.byContradiction fun hn => h ?_
  unfold need
  refine sum_zero (f := fun p => ((sc p).count k : Int)) fun p hp => ?_
  obtain ⟨hp1, hp2⟩ := List.mem_filter.mp hp
  have : k ∉ sc p := fun hm => hn ⟨p, hp1, by simpa using hp2, hm⟩
  rw [List.count_eq_zero.mpr this]; rfl

theorem Sts.all {rk : Int → Nat} (s : Sts ks sc D [] [] np) (hrk : ∀ p ∈ ks, ∀ j ∈ sc p, rk p < rk j) : ∀ k ∈ ks, k ∈ D := by
  have : ∀ n k, rk k < n → k ∈ ks → k ∈ D := by
    intro n
    induction n with
    | zero => intro k h; omega
    | succ n ih =>
      intro k h hk
      refine Classical.byContradiction fun hD => ?_
      have h1 := s.nW k hk hD (by simp)
      have h2 : np k ≠ 0 := fun h0 => by
        have := (s.rd k).mpr ⟨hk, hD, by simp, h0⟩
        cases this
      rw [h1] at h2
      obtain ⟨p, hp, hpD, hm⟩ := need_pos h2
      have := hrk p hp k hm
      exact hpD (ih p (by omega) hp)
  exact fun k hk => this (rk k + 1) k (by omega) hk

theorem Sts.rlen (s : Sts ks sc D O Rl np) : Rl.length ≤ ks.length := s.rn.length_le_of_subset fun k hk => ((s.rd k).mp hk).1

noncomputable def outN (np : Int → Int) (l : List Int) : Int → Int := fun k => if k ∈ l then -1 else np k
theorem outN_snoc (np : Int → Int) (l : List Int) (k : Int) : outN np (l ++ [k]) = fset (outN np l) k (-1) := by
  funext j
  unfold outN fset
  by_cases h : j = k
  · subst h; simp
  · simp [h]
theorem Sts.get (s : Sts ks sc D [] Rl np) : Sts ks sc D Rl [] (outN np Rl) := by
  have hD : ∀ k ∈ D, k ∉ Rl := fun k hk h => ((s.rd k).mp h).2.1 hk
  refine ⟨s.dn, s.rn, by simp, hD, s.dk, fun k hk => ((s.rd k).mp hk).1, ?_, fun k hk => ?_, fun k hk => ?_, fun k hk h1 h2 => ?_, fun k => ⟨by simp, ?_⟩, s.scs, s.kl, s.sl⟩
  · rintro k (hk | hk)
    · exact s.cl k (.inl hk)
    · obtain ⟨h1, h2, h3, h4⟩ := (s.rd k).mp hk
      rw [s.nW k h1 h2 h3] at h4
      exact need_zero h4
  · unfold outN; rw [if_neg (hD k hk)]; exact s.nD k hk
  · unfold outN; rw [if_pos hk]
  · unfold outN; rw [if_neg h2]; exact s.nW k hk h1 (by simp)
  · rintro ⟨h1, h2, h3, h4⟩
    unfold outN at h4; rw [if_neg h3] at h4
    exact absurd ((s.rd k).mpr ⟨h1, h2, by simp, h4⟩) h3

noncomputable def doneN (np : Int → Int) (k : Int) (l : List Int) : Int → Int := fun j => fset np k (-2) j - (l.count j : Int)
theorem doneN_nil (np : Int → Int) (k : Int) : doneN np k [] = fset np k (-2) := by funext j; unfold doneN; simp
theorem doneN_snoc (np : Int → Int) (k j : Int) (l : List Int) : doneN np k (l ++ [j]) = fset (doneN np k l) j (doneN np k l j - 1) := by
  funext i
  by_cases h : i = j
  · subst h; rw [fset_self]; unfold doneN; rw [List.count_append, List.count_singleton_self]; omega
  · rw [fset_ne h]; unfold doneN; rw [List.count_append, List.count_singleton, if_neg (by simpa using fun e => h e.symm)]; simp
theorem Sts.done {k : Int} {O' Rl' : List Int} (s : Sts ks sc D (k :: O') Rl np) (hnd : ks.Nodup) (hrn : Rl'.Nodup) (hrd : ∀ j, j ∈ Rl' ↔ j ∈ ks ∧ j ∉ D ∧ j ∉ k :: O' ∧ doneN np k (sc k) j = 0) : Sts ks sc (D ++ [k]) O' Rl' (doneN np k (sc k)) := by
  have hkO : k ∉ O' := (List.nodup_cons.mp s.on).1
  have hkD : k ∉ D := fun h => s.dis k h (by simp)
  have hkk : k ∈ ks := s.ok k (by simp)
  have hns : ∀ j, j ∈ D ∨ j ∈ k :: O' → (sc k).count j = 0 := fun j hj => List.count_eq_zero.mpr fun hm => hkD (s.cl j hj k hkk hm)
  refine ⟨?_, (List.nodup_cons.mp s.on).2, hrn, ?_, ?_, fun j hj => s.ok j (by simp [hj]), ?_, fun j hj => ?_, fun j hj => ?_, fun j hj h1 h2 => ?_, fun j => ?_, s.scs, s.kl, s.sl⟩
  · exact List.nodup_append.mpr ⟨s.dn, by simp, fun a ha b hb => by rw [List.mem_singleton.mp hb]; rintro rfl; exact hkD ha⟩
  · intro j hj
    rcases List.mem_append.mp hj with hj | hj
    · exact fun h => s.dis j hj (by simp [h])
    · rw [List.mem_singleton.mp hj]; exact hkO
  · intro j hj
    rcases List.mem_append.mp hj with hj | hj
    · exact s.dk j hj
    · rw [List.mem_singleton.mp hj]; exact hkk
  · intro j hj p hp hm
    refine List.mem_append_left _ (s.cl j ?_ p hp hm)
    rcases hj with hj | hj
    · rcases List.mem_append.mp hj with hj | hj
      · exact .inl hj
      · rw [List.mem_singleton.mp hj]; exact .inr (by simp)
    · exact .inr (by simp [hj])
  · unfold doneN
    rcases List.mem_append.mp hj with hj' | hj
    · rw [hns j (.inl hj'), fset_ne (show j ≠ k from fun e => hkD (e ▸ hj')), s.nD j hj']; rfl
    · rw [List.mem_singleton.mp hj, hns k (.inr (by simp)), fset_self]; rfl
  · unfold doneN
    rw [hns j (.inr (by simp [hj])), fset_ne (by rintro rfl; exact hkO hj), s.nO j (by simp [hj])]; rfl
  · have hjD : j ∉ D := fun h => h1 (List.mem_append_left _ h)
    have hjk : j ≠ k := by rintro rfl; exact h1 (by simp)
    unfold doneN
    rw [fset_ne hjk, s.nW j hj hjD (by simp [hjk, h2]), need_done hkk hnd hkD]
  · rw [hrd j]
    simp only [List.mem_append, List.mem_cons, List.mem_singleton, not_or]
    constructor
    · rintro ⟨a, b, ⟨c, d⟩, e⟩; exact ⟨a, ⟨b, c, by simp⟩, d, e⟩
    · rintro ⟨a, ⟨b, c⟩, d, e⟩; exact ⟨a, b, ⟨c.1, d⟩, e⟩
end
end Mine
end
section
namespace Mine

theorem unlock_self (σ σ' : Store) (b : Adr) : unlock σ σ' (some b) b = σ b := if_pos rfl
theorem unlock_ne {σ σ' : Store} {b c : Adr} (h : c ≠ b) : unlock σ σ' (some b) c = σ' c := if_neg h
theorem bcall_bool {σ : Store} {a : Adr} {xs : List AV} {Q : AV → Store → Prop} (h : at? σ a = some (.list xs)) (hl : xs.length ≤ lim) (hq : Q (.bool (!xs.isEmpty)) σ) : Bcall .bool [.ref a] Q σ := .bool xs h hl hq
theorem bcall_tuple {σ : Store} {a : Adr} {xs : List AV} {Q : AV → Store → Prop} (h : at? σ a = some (.list xs)) (hl : xs.length ≤ lim) (hq : ∀ r, σ r = none → Q (.ref r) (upd σ r (.tuple xs))) : Bcall .tuple [.ref a] Q σ := .tuple xs h hl hq
theorem mcall_clear {C : Ctr} {σ : Store} {a : Adr} {xs : List AV} {Q : AV → Store → Prop} (h : σ a = some (.list xs)) (hl : xs.length ≤ lim) (hq : Q .none (upd σ a (.list []))) : Mcall C .clear (.ref a) [] Q σ := .clear xs h hl hq
theorem ofInts_isEmpty (xs : List Int) : (ofInts xs).isEmpty = xs.isEmpty := by unfold ofInts; cases xs <;> rfl

noncomputable def S134 (args : List AV) (Q : AV → Store → Prop) (σ : Store) : Prop := Ex5 fun (x : Adr) (ks : List Int) (sc : Int → List Int) (D Rl : List Int) => An3 (args = [.ref x]) (Srt x ks sc D [] Rl σ) (Q (.bool (!Rl.isEmpty)) σ)
theorem v134 {C : Ctr} {x : Adr} {ks : List Int} {sc : Int → List Int} {D Rl : List Int} {σ : Store} {Q : AV → Store → Prop} (s : Srt x ks sc D [] Rl σ) (hq : Q (.bool (!Rl.isEmpty)) σ) : WS C p134 (fin Q) [some (.ref x)] σ := by
  obtain ⟨d, n, r, ad, sl, np, R, ow, hr, hne, st⟩ := s
  have hlim : (1000 : Nat) ≤ lim := by decide
  have := st.kl
  have := st.rlen
  unfold p134
  simp only [WS_20, WS_15, WT_2, W_8, tru_bool, W_2, cmp_is, W_17, W_4, List.getElem?_cons_zero]
  refine (attr_inst R.hx R.hd).2.1 rfl ?_
  rw [decide_eq_false (by simp)]
  simp only [Br_f, WS_1, Sq_n, WS_20, WS_14, Sq_r, W_9, W_8, tru_bool, W_17, W_4, List.getElem?_cons_zero]
  refine (attr_inst R.hx R.hd).2.2.2 rfl ((attr_inst R.hx R.hd).2.2.1 rfl ?_)
  simp only [List.length_nil, cmp_lt]
  rw [decide_eq_false (by simp)]
  simp only [Br_f, W_14, WL_2, WL_1, W_17, W_4, W_5, List.getElem?_cons_zero]
  refine (attr_inst R.hx R.hd).2.1 rfl (bcall_bool (at_own hr rfl) (by rw [ofInts_len]; omega) ?_)
  rw [ofInts_isEmpty]; exact hq

noncomputable def S127 (args : List AV) (Q : AV → Store → Prop) (σ : Store) : Prop := Ex5 fun (x : Adr) (ks : List Int) (sc : Int → List Int) (D Rl : List Int) => An3 (args = [.ref x]) (Srt x ks sc D [] Rl σ) (∀ τ t, Srt x ks sc D Rl [] τ → τ t = none → Q (.ref t) (upd τ t (.tuple (ofInts Rl))))
theorem v127 {C : Ctr} {x : Adr} {ks : List Int} {sc : Int → List Int} {D Rl : List Int} {σ : Store} {Q : AV → Store → Prop} (s : Srt x ks sc D [] Rl σ)
    (hq : ∀ τ t, Srt x ks sc D Rl [] τ → τ t = none → Q (.ref t) (upd τ t (.tuple (ofInts Rl)))) : WS C p127 (fin Q) [some (.ref x), none, none, none] σ := by
  obtain ⟨d, n, r, ad, sl, np, R, ow, hr, hne, st⟩ := s
  have hlim : (1000 : Nat) ≤ lim := by decide
  have hkl := st.kl
  have hrl := st.rlen
  unfold p127
  simp only [WS_20, WS_15, WT_2, W_8, tru_bool, W_2, cmp_is, W_17, W_4, List.getElem?_cons_zero]
  refine (attr_inst R.hx R.hd).2.1 rfl ?_
  rw [decide_eq_false (by simp)]
  simp only [Br_f, WS_1, Sq_n, WS_20, WS_6, put, W_17, W_4, List.length_set, W_14, WL_2, WL_1, W_5, List.getElem?_cons_zero, List.length_cons, List.length_nil, List.set_cons_succ, List.set_cons_zero]
  refine (attr_inst R.hx R.hd).2.1 rfl (bcall_tuple (at_own hr rfl) (by rw [ofInts_len]; omega) fun t ht => ⟨by omega, ?_⟩)
  have R1 : Raw x d n (.ref r) (D.length + ([] : List Int).length) D.length ks ad sl np sc (upd σ t (.tuple (ofInts Rl))) := R.mono (sub_upd (sub_refl σ) ht)
  have k1 : ∀ b o, σ b = some o → upd σ t (.tuple (ofInts Rl)) b = some o := sub_upd (sub_refl σ) ht
  refine (attr_inst R1.hx R1.hd).1 rfl ⟨by omega, ?_⟩
  refine ws_each ?_
  simp only [W_4, List.getElem?_cons_succ, List.getElem?_cons_zero]
  refine ⟨_, _, items_tuple (at_upd_self _ _ rfl), by rw [ofInts_len]; omega, ltb rfl, fun i m' σ' => ∃ m3, An5 (m' = [some (.ref x), some (.ref t), some (.ref n), m3]) (Raw x d n (.ref r) (D.length + ([] : List Int).length) D.length ks ad sl (outN np (Rl.take i)) sc σ') (Own n ks ad sl sc σ') (σ' r = some (.list (ofInts Rl))) (σ' t = some (.ro (.tuple (ofInts Rl)))), ?_, ?_, ?_, ?_⟩
  · have hL := lock_self (upd_self σ t (.tuple (ofInts Rl)))
    have kL : ∀ b o, σ b = some o → lock (upd σ t (.tuple (ofInts Rl))) (some t) b = some o := fun b o h => by rw [lock_ne (ne_of_none h ht)]; exact k1 b o h
    have e0 : outN np [] = np := by funext j; unfold outN; simp
    refine ⟨none, rfl, ?_, ⟨kL _ _ ow.dict, fun j hj => kL _ _ (ow.list j hj)⟩, kL _ _ hr, hL⟩
    rw [List.take_zero, e0]
    exact R.mono kL
  · rintro i m' σ' ⟨m3, rfl, R', ow', hr', ht'⟩
    exact ⟨rfl, by rw [Locked, lock_self (upd_self ..)]; exact ht'⟩
  · rintro i y m' σ' K hy ⟨m3, rfl, R', ow', hr', ht'⟩ hK
    have hi : i < Rl.length := by
      have := (List.getElem?_eq_some_iff.mp hy).1
      rwa [ofInts_len] at this
    rw [ofInts_get hi] at hy; cases hy
    have hmem : Rl.getD i 0 ∈ Rl := by
      rw [List.getD_eq_getElem?_getD, List.getElem?_eq_getElem hi]; exact List.getElem_mem hi
    have hk := ((st.rd _).mp hmem).1
    have hsn : Rl.take (i + 1) = Rl.take i ++ [Rl.getD i 0] := by
      rw [List.take_add_one]; congr 1; simp [hi]
    simp only [put, List.set_cons_succ, List.set_cons_zero, WS_20, WS_10, Sq_n, WS_1, W_18, W_4, W_5, List.getElem?_cons_succ, List.getElem?_cons_zero]
    refine getItem_dict (at_own ow'.dict rfl) (dget_map hk) ?_
    refine (setAttr_node (f := .node) (R'.node _ hk)).2.1 ?_
    refine hK.1 _ _ (fg_self ⟨_, rfl, ?_, ow'.count (R'.node _ hk), ?_, ?_⟩)
    · rw [hsn, outN_snoc]; exact R'.count hk
    · rw [upd_ne (ne_of_obj hr' (R'.node _ hk) (by simp))]; exact hr'
    · rw [upd_ne (ne_of_obj ht' (R'.node _ hk) (by simp))]; exact ht'
  · rintro m' σ' ⟨m3, rfl, R', ow', hr', ht'⟩
    rw [ofInts_len, List.take_length] at R'
    have hU : ∀ b o, σ' b = some o → isRo o = false → unlock (upd σ t (.tuple (ofInts Rl))) σ' (some t) b = some o := fun b o hb ho => by
      have : b ≠ t := ne_of_obj hb ht' (by rintro rfl; cases ho)
      simp only [unlock]; rw [if_neg this]; exact hb
    have hUt : unlock (upd σ t (.tuple (ofInts Rl))) σ' (some t) t = some (.tuple (ofInts Rl)) := by rw [unlock_self, upd_self]
    generalize unlock (upd σ t (.tuple (ofInts Rl))) σ' (some t) = σ₂ at hU hUt
    have R₂ : Raw x d n (.ref r) (D.length + ([] : List Int).length) D.length ks ad sl (outN np Rl) sc σ₂ := ⟨hU _ _ R'.hx rfl, hU _ _ R'.hd rfl, at_own (hU _ _ ow'.dict rfl) rfl, R'.nd, fun j hj => hU _ _ (R'.node j hj) rfl, fun j hj => at_own (hU _ _ (ow'.list j hj) rfl) rfl, R'.adi, R'.sli, R'.dnp, R'.dsc⟩
    have ow₂ : Own n ks ad sl sc σ₂ := ⟨hU _ _ ow'.dict rfl, fun j hj => hU _ _ (ow'.list j hj) rfl⟩
    have hr₂ := hU _ _ hr' rfl
    simp only [Sq_n, WS_20, WS_5, WS_11, WS_14, Sq_r, W_4, W_14, WL_2, WL_1, W_5, W_15, W_17, List.getElem?_cons_zero, List.getElem?_cons_succ]
    refine (attr_inst R₂.hx R₂.hd).2.1 rfl ⟨by rw [mk_list hr₂]; rfl, by trivial, mcall_clear hr₂ (by rw [ofInts_len]; omega) ?_⟩
    have nr : ∀ b o, σ₂ b = some o → (∀ vs, o ≠ .list vs) → upd σ₂ r (.list []) b = some o := fun b o hb ho => by rw [upd_ne (ne_of_obj hb hr₂ (ho _))]; exact hb
    have hx₃ := nr _ _ R₂.hx (by simp)
    have hd₃ := nr _ _ R₂.hd (by simp)
    have ht₃ := nr _ _ hUt (by simp)
    refine (attr_inst hx₃ hd₃).2.2.1 rfl (bcall_len_tuple (at_own ht₃ rfl) (by rw [ofInts_len]; omega) ⟨⟨_, rfl⟩, ⟨_, rfl⟩, ?_⟩)
    simp only [List.length_nil, bin_add]
    refine (setAttr_inst hx₃ hd₃).2.1 ?_
    have fin_eq : ∀ σ₅ : Store, σ₅ t = some (.tuple (ofInts Rl)) → upd (off σ₅ fun a => a = t) t (.tuple (ofInts Rl)) = σ₅ := fun σ₅ h => by
      funext a
      by_cases ha : a = t
      · subst ha; rw [upd_self]; exact h.symm
      · rw [upd_ne ha, off_out (D := fun a => a = t) ha]
    have nd : ∀ b o, upd σ₂ r (.list []) b = some o → (∀ vs, o ≠ .sdict vs) → ∀ l, upd (upd σ₂ r (.list [])) d l b = some o := fun b o hb ho l => by rw [upd_ne (ne_of_obj hb hd₃ (ho _))]; exact hb
    have ht₄ := nd _ _ ht₃ (by simp)
    rw [← fin_eq _ (ht₄ _)]
    refine hq _ t ?_ (off_in (D := fun a => a = t) rfl)
    have dn : ∀ b o, σ₂ b = some o → (∀ vs, o ≠ .list vs) → (∀ vs, o ≠ .sdict vs) → ∀ l, upd (upd σ₂ r (.list [])) d l b = some o := fun b o hb h1 h2 l => nd _ _ (nr _ _ hb h1) h2 l
    have hls : ∀ j ∈ ks, ∀ l, upd (upd σ₂ r (.list [])) d l (sl j) = some (.list (ofInts (sc j))) := fun j hj l => nd _ _ (by rw [upd_ne (Ne.symm (hne j hj))]; exact ow₂.list j hj) (by simp) l
    have hrr : ∀ l, upd (upd σ₂ r (.list [])) d l r = some (.list []) := fun l => nd _ _ (upd_self ..) (by simp) l
    have of : ∀ (σ₅ : Store) b o, σ₅ b = some o → σ₅ t = some (.tuple (ofInts Rl)) → (∀ vs, o ≠ .tuple vs) → off σ₅ (fun a => a = t) b = some o := fun σ₅ b o h1 h2 h3 => by rw [off_out (D := fun a => a = t) (ne_of_obj h1 h2 (h3 _))]; exact h1
    refine ⟨d, n, r, ad, sl, outN np Rl, ⟨?_, ?_, ?_, R₂.nd, fun j hj => ?_, fun j hj => ?_, R₂.adi, R₂.sli, R₂.dnp, R₂.dsc⟩, ⟨?_, fun j hj => ?_⟩, ?_, hne, st.get⟩
    · exact of _ _ _ (dn _ _ R₂.hx (by simp) (by simp) _) (ht₄ _) (by simp)
    · refine of _ _ _ ?_ (ht₄ _) (by simp)
      rw [upd_self]; rw [ofInts_len]; simp
    · exact at_own (of _ _ _ (dn _ _ ow₂.dict (by simp) (by simp) _) (ht₄ _) (by simp)) rfl
    · exact of _ _ _ (dn _ _ (R₂.node j hj) (by simp) (by simp) _) (ht₄ _) (by simp)
    · exact at_own (of _ _ _ (hls j hj _) (ht₄ _) (by simp)) rfl
    · exact of _ _ _ (dn _ _ ow₂.dict (by simp) (by simp) _) (ht₄ _) (by simp)
    · exact of _ _ _ (hls j hj _) (ht₄ _) (by simp)
    · exact of _ _ _ (hrr _) (ht₄ _) (by simp)
end Mine
end
section
namespace Mine

theorem ne_head {a b : Int} {l : List Int} (h : a ∉ b :: l) : a ≠ b := fun e => h (e ▸ List.mem_cons_self)

noncomputable def S148 (args : List AV) (Q : AV → Store → Prop) (σ : Store) : Prop := Ex7 fun (x : Adr) (ks : List Int) (sc : Int → List Int) (D O Rl : List Int) (k : Int) => An3 (args = [.ref x, .int k]) (Srt x ks sc D (k :: O) Rl σ) (∀ τ Rl', Srt x ks sc (D ++ [k]) O Rl' τ → Q .none τ)

theorem v148 {C : Ctr} {x t : Adr} {ks : List Int} {sc : Int → List Int} {D O Rl : List Int} {k : Int} {σ : Store} {Q : AV → Store → Prop} (s : Srt x ks sc D (k :: O) Rl σ) (ht : σ t = some (.tuple [.int k]))
    (hq : ∀ τ Rl', Srt x ks sc (D ++ [k]) O Rl' τ → Q .none τ) : WS C p148 (fin Q) [some (.ref x), some (.ref t), none, none, none, none, none, none] σ := by
  obtain ⟨d, n, r, ad, sl, np, R, ow, hr, hne, st⟩ := s
  have hlim : (1000 : Nat) ≤ lim := by decide
  have hkl := st.kl
  have hrl := st.rlen
  have hkO : k ∉ O := (List.nodup_cons.mp st.on).1
  have hkD : k ∉ D := fun h => st.dis k h (by simp)
  have hkk : k ∈ ks := st.ok k (by simp)
  have hnpk : np k = -1 := st.nO k (by simp)
  unfold p148
  simp only [WS_20, WS_15, WT_2, W_8, tru_bool, W_2, cmp_is, W_17, W_4, List.getElem?_cons_zero]
  refine (attr_inst R.hx R.hd).2.1 rfl ?_
  rw [decide_eq_false (by simp)]
  simp only [Br_f, WS_1, Sq_n, WS_20, WS_6, put, W_17, W_4, List.getElem?_cons_zero, List.length_cons, List.length_nil, List.set_cons_succ, List.set_cons_zero]
  refine (attr_inst R.hx R.hd).1 rfl ⟨by omega, ?_⟩
  refine ws_each ?_
  simp only [W_4, List.getElem?_cons_succ, List.getElem?_cons_zero]
  refine ⟨_, _, items_tuple (at_own ht rfl), by simp [lim], ltb rfl, fun i m' σ' => Ex5 fun m3 m4 m5 m6 m7 => An3 (m' = [some (.ref x), some (.ref t), some (.ref n), m3, m4, m5, m6, m7]) (σ' t = some (.ro (.tuple [.int k]))) ((i = 0 ∧ Raw x d n (.ref r) (D.length + (k :: O).length) D.length ks ad sl np sc σ' ∧ Own n ks ad sl sc σ' ∧ σ' r = some (.list (ofInts Rl))) ∨ (i = 1 ∧ ∃ Rl', Srt x ks sc (D ++ [k]) O Rl' σ')), ?_, ?_, ?_, ?_⟩
  · have kL : ∀ b o, σ b = some o → (∀ vs, o ≠ .tuple vs) → lock σ (some t) b = some o := fun b o h ho => by rw [lock_ne (ne_of_obj h ht (ho _))]; exact h
    refine ⟨none, none, none, none, none, rfl, lock_self ht, .inl ⟨rfl, ⟨kL _ _ R.hx (by simp), kL _ _ R.hd (by simp), at_own (kL _ _ ow.dict (by simp)) rfl, R.nd, fun j hj => kL _ _ (R.node j hj) (by simp), fun j hj => at_own (kL _ _ (ow.list j hj) (by simp)) rfl, R.adi, R.sli, R.dnp, R.dsc⟩, ⟨kL _ _ ow.dict (by simp), fun j hj => kL _ _ (ow.list j hj) (by simp)⟩, kL _ _ hr (by simp)⟩⟩
  · rintro i m' σ' ⟨m3, m4, m5, m6, m7, rfl, ht', _⟩
    exact ⟨rfl, by rw [Locked, lock_self ht]; exact ht'⟩
  · rintro i y m' σ' K hy ⟨m3, m4, m5, m6, m7, rfl, ht', ⟨rfl, R', ow', hr'⟩ | ⟨rfl, _⟩⟩ hK
    rotate_left
    · simp at hy
    have hy' : y = .int k := by simpa using hy.symm
    subst hy'
    simp only [put, List.set_cons_succ, List.set_cons_zero, WS_20, WS_15, WT_2, W_8, tru_bool, W_2, cmp_is, W_11, W_15, WL_2, WL_1, W_4, List.getElem?_cons_succ, List.getElem?_cons_zero, List.length_cons, List.length_nil]
    refine ⟨by rw [mk_dict ow'.dict]; rfl, by trivial, mcall_get ow'.dict ⟨by omega, ?_⟩⟩
    rw [dget_map hkk]
    simp only [Option.getD_some]
    rw [decide_eq_false (by simp)]
    simp only [Br_f, WS_1, Sq_n, WS_20, WS_6, put, WS_15, WT_2, W_8, tru_bool, W_5, W_4, W_17, List.getElem?_cons_succ, List.getElem?_cons_zero, List.length_cons, List.length_nil, List.set_cons_succ, List.set_cons_zero]
    refine (attr_node (R'.node k hkk)).2.1 ⟨by omega, ?_⟩
    rw [hnpk, cmp_ne, decide_eq_false (by simp)]
    simp only [Br_f, WS_1, Sq_n, WS_20, WS_10, W_4, W_5, List.getElem?_cons_succ, List.getElem?_cons_zero]
    refine (setAttr_node (f := .node) (R'.node k hkk)).2.1 ?_
    have R₂ := R'.count (p := k) (v := -2) hkk
    have ow₂ := ow'.count (p' := some (.int k)) (q' := some (.int (-2))) (r' := some (.ref (sl k))) (R'.node k hkk)
    have hr₂ : upd σ' (ad k) (.node (some (.int k)) (some (.int (-2))) (some (.ref (sl k)))) r = some (.list (ofInts Rl)) := by rw [upd_ne (ne_of_obj hr' (R'.node k hkk) (by simp))]; exact hr'
    have ht₂ : upd σ' (ad k) (.node (some (.int k)) (some (.int (-2))) (some (.ref (sl k)))) t = some (.ro (.tuple [.int k])) := by rw [upd_ne (ne_of_obj ht' (R'.node k hkk) (by simp))]; exact ht'
    generalize upd σ' (ad k) (.node (some (.int k)) (some (.int (-2))) (some (.ref (sl k)))) = σ₂ at R₂ ow₂ hr₂ ht₂
    refine ws_each ?_
    simp only [W_17, W_4, List.getElem?_cons_succ, List.getElem?_cons_zero]
    refine (attr_node (R₂.node k hkk)).2.2 ?_
    have hsk := ow₂.list k hkk
    have hslk := st.sl k hkk
    have hrk : r ≠ sl k := hne k hkk
    refine ⟨_, _, items_list (at_own hsk rfl), by rw [ofInts_len]; omega, ltb rfl, fun i m' σ₃ => Ex3 fun m6 m7 Rl' => An9 (m' = [some (.ref x), some (.ref t), some (.ref n), some (.int k), some (.ref (ad k)), some (.int (-1)), m6, m7]) (σ₃ t = some (.ro (.tuple [.int k]))) (Raw x d n (.ref r) (D.length + (k :: O).length) D.length ks ad sl (doneN np k ((sc k).take i)) sc σ₃) (σ₃ n = some (.dict (ks.map fun k => (k, AV.ref (ad k))))) (∀ j ∈ ks, j ≠ k → σ₃ (sl j) = some (.list (ofInts (sc j)))) (σ₃ (sl k) = some (.ro (.list (ofInts (sc k))))) (σ₃ r = some (.list (ofInts Rl'))) Rl'.Nodup (∀ j, j ∈ Rl' ↔ j ∈ ks ∧ j ∉ D ∧ j ∉ k :: O ∧ doneN np k ((sc k).take i) j = 0), ?_, ?_, ?_, ?_⟩
    · have hL := lock_self hsk
      have kL : ∀ b, b ≠ sl k → lock σ₂ (some (sl k)) b = σ₂ b := fun b h => lock_ne h
      have kn : ∀ b o, σ₂ b = some o → (∀ vs, o ≠ .list vs) → lock σ₂ (some (sl k)) b = some o := fun b o h ho => by rw [kL b (ne_of_obj h hsk (ho _))]; exact h
      refine ⟨_, _, Rl, rfl, kn _ _ ht₂ (by simp), ?_, kn _ _ ow₂.dict (by simp), fun j hj hjk => ?_, hL, by rw [kL r hrk]; exact hr₂, st.rn, fun j => ?_⟩
      · rw [List.take_zero, doneN_nil]
        exact ⟨kn _ _ R₂.hx (by simp), kn _ _ R₂.hd (by simp), at_own (kn _ _ ow₂.dict (by simp)) rfl, R₂.nd, fun j hj => kn _ _ (R₂.node j hj) (by simp), fun j hj => by rw [at_lock]; exact R₂.succ j hj, R₂.adi, R₂.sli, R₂.dnp, R₂.dsc⟩
      · rw [kL _ (fun e => hjk (R₂.sli j hj k hkk e))]; exact ow₂.list j hj
      · rw [List.take_zero, doneN_nil, st.rd j]
        constructor
        · rintro ⟨a, b, c, e⟩
          exact ⟨a, b, c, by rw [fset_ne (ne_head c)]; exact e⟩
        · rintro ⟨a, b, c, e⟩
          exact ⟨a, b, c, by rw [fset_ne (ne_head c)] at e; exact e⟩
    · rintro i m' σ₃ ⟨m6, m7, Rl', rfl, ht₃, R₃, hn₃, hl₃, hk₃, hr₃, hnd₃, hrd₃⟩
      exact ⟨rfl, by rw [Locked, lock_self hsk]; exact hk₃⟩
    · rintro i y m' σ₃ K₂ hy ⟨m6, m7, Rl', rfl, ht₃, R₃, hn₃, hl₃, hk₃, hr₃, hnd₃, hrd₃⟩ hK₂
      have hi : i < (sc k).length := by
        have := (List.getElem?_eq_some_iff.mp hy).1
        rwa [ofInts_len] at this
      rw [ofInts_get hi] at hy; cases hy
      have hmem : (sc k).getD i 0 ∈ sc k := by
        rw [List.getD_eq_getElem?_getD, List.getElem?_eq_getElem hi]; exact List.getElem_mem hi
      have hjk := st.scs k hkk _ hmem
      have hsn : (sc k).take (i + 1) = (sc k).take i ++ [(sc k).getD i 0] := by
        rw [List.take_add_one]; congr 1; simp [hi]
      have hcnt : ((sc k).take i).count ((sc k).getD i 0) + 1 ≤ (sc k).count ((sc k).getD i 0) := by
        have h1 : ((sc k).take (i + 1)).count ((sc k).getD i 0) ≤ (sc k).count ((sc k).getD i 0) := (List.take_sublist ..).count_le _
        rw [hsn, List.count_append, List.count_singleton_self] at h1; exact h1
      generalize (sc k).getD i 0 = j at hmem hjk hsn hcnt
      have hjD : j ∉ D := fun h => hkD (st.cl j (.inl h) k hkk hmem)
      have hjO : j ∉ k :: O := fun h => hkD (st.cl j (.inr h) k hkk hmem)
      have hjne : j ≠ k := ne_head hjO
      have hpos : 1 ≤ doneN np k ((sc k).take i) j := by
        unfold doneN
        rw [fset_ne hjne, st.nW j hjk hjD hjO]
        have := need_ge (sc := sc) (D := D) (j := j) hkk hkD
        omega
      have hjR : j ∉ Rl' := fun h => by have := ((hrd₃ j).mp h).2.2.2; omega
      simp only [put, List.set_cons_succ, List.set_cons_zero, WS_20, WS_6, Sq_n, WS_11, WS_15, WT_2, W_8, tru_bool, W_1, W_17, W_4, W_18, List.getElem?_cons_succ, List.getElem?_cons_zero, List.length_cons, List.length_nil]
      refine getItem_dict (at_own hn₃ rfl) (dget_map hjk) ⟨by omega, ?_⟩
      refine (attr_node (R₃.node j hjk)).2.1 ⟨⟨_, rfl⟩, ⟨_, rfl⟩, ?_⟩
      simp only [bin_sub]
      refine (setAttr_node (f := .node) (R₃.node j hjk)).2.1 ?_
      have R₄ := R₃.count (p := j) (v := doneN np k ((sc k).take i) j - 1) hjk
      rw [← doneN_snoc, ← hsn] at R₄
      have nn : ∀ b o, σ₃ b = some o → (∀ u v w, o ≠ .node u v w) → ∀ l, upd σ₃ (ad j) l b = some o := fun b o hb ho l => by rw [upd_ne (ne_of_obj hb (R₃.node j hjk) (ho _ _ _))]; exact hb
      have ht₄ := nn _ _ ht₃ (by simp) (.node (some (.int j)) (some (.int (doneN np k ((sc k).take i) j - 1))) (some (.ref (sl j))))
      have hn₄ := nn _ _ hn₃ (by simp) (.node (some (.int j)) (some (.int (doneN np k ((sc k).take i) j - 1))) (some (.ref (sl j))))
      have hl₄ := fun q hq hqk => nn _ _ (hl₃ q hq hqk) (by simp) (.node (some (.int j)) (some (.int (doneN np k ((sc k).take i) j - 1))) (some (.ref (sl j))))
      have hk₄ := nn _ _ hk₃ (by simp) (.node (some (.int j)) (some (.int (doneN np k ((sc k).take i) j - 1))) (some (.ref (sl j))))
      have hr₄ := nn _ _ hr₃ (by simp) (.node (some (.int j)) (some (.int (doneN np k ((sc k).take i) j - 1))) (some (.ref (sl j))))
      generalize upd σ₃ (ad j) (.node (some (.int j)) (some (.int (doneN np k ((sc k).take i) j - 1))) (some (.ref (sl j)))) = σ₄ at R₄ ht₄ hn₄ hl₄ hk₄ hr₄
      have hval : doneN np k ((sc k).take (i + 1)) j = doneN np k ((sc k).take i) j - 1 := by rw [hsn, doneN_snoc, fset_self]
      have hoth : ∀ q, q ≠ j → doneN np k ((sc k).take (i + 1)) q = doneN np k ((sc k).take i) q := fun q hq => by rw [hsn, doneN_snoc, fset_ne hq]
      refine (attr_node (R₄.node j hjk)).2.1 ?_
      simp only [cmp_eq]
      by_cases h0 : doneN np k ((sc k).take (i + 1)) j = 0
      · rw [decide_eq_true h0]
        simp only [Br_t, WS_20, WS_5, Sq_n, WS_1, W_15, WL_2, WL_1, W_4, W_17, List.getElem?_cons_zero, List.getElem?_cons_succ]
        have hRlen : Rl'.length ≤ ks.length := hnd₃.length_le_of_subset fun q hq => ((hrd₃ q).mp hq).1
        refine (attr_inst R₄.hx R₄.hd).2.1 rfl ⟨by rw [mk_list hr₄]; rfl, by trivial, mcall_append hr₄ (by rw [ofInts_len]; omega) (hK₂.1 _ _ (fg_self ⟨_, _, Rl' ++ [j], rfl, ?_, ?_, ?_, fun q hq hqk => ?_, ?_, ?_, ?_, fun q => ?_⟩))⟩
        · rw [upd_ne (ne_of_obj ht₄ hr₄ (by simp))]; exact ht₄
        · have nr : ∀ b o, σ₄ b = some o → (∀ vs, o ≠ .list vs) → ∀ l, upd σ₄ r l b = some o := fun b o hb ho l => by rw [upd_ne (ne_of_obj hb hr₄ (ho _))]; exact hb
          refine ⟨nr _ _ R₄.hx (by simp) _, nr _ _ R₄.hd (by simp) _, at_own (nr _ _ hn₄ (by simp) _) rfl, R₄.nd, fun q hq => nr _ _ (R₄.node q hq) (by simp) _, fun q hq => ?_, R₄.adi, R₄.sli, R₄.dnp, R₄.dsc⟩
          rw [at_upd_ne (Ne.symm (hne q hq))]; exact R₄.succ q hq
        · rw [upd_ne (ne_of_obj hn₄ hr₄ (by simp))]; exact hn₄
        · rw [upd_ne (Ne.symm (hne q hq))]; exact hl₄ q hq hqk
        · rw [upd_ne (Ne.symm hrk)]; exact hk₄
        · rw [upd_self]; unfold ofInts; simp
        · exact List.nodup_append.mpr ⟨hnd₃, by simp, fun a ha b hb => by rw [List.mem_singleton.mp hb]; rintro rfl; exact hjR ha⟩
        · by_cases hqj : q = j
          · rw [hqj]; simp only [List.mem_append, List.mem_singleton, or_true, true_iff]; exact ⟨hjk, hjD, hjO, h0⟩
          · rw [hoth q hqj, ← hrd₃ q]; simp [hqj]
      · rw [decide_eq_false h0]
        simp only [Br_f, WS_1, Sq_n]
        refine hK₂.1 _ _ (fg_self ⟨_, _, Rl', rfl, ht₄, R₄, hn₄, hl₄, hk₄, hr₄, hnd₃, fun q => ?_⟩)
        by_cases hqj : q = j
        · rw [hqj]
          exact ⟨fun h => absurd h hjR, fun h => absurd h.2.2.2 h0⟩
        · rw [hoth q hqj]; exact hrd₃ q
    · rintro m' σ₃ ⟨m6, m7, Rl', rfl, ht₃, R₃, hn₃, hl₃, hk₃, hr₃, hnd₃, hrd₃⟩
      rw [ofInts_len, List.take_length] at R₃ hrd₃
      have hU : ∀ b, b ≠ sl k → unlock σ₂ σ₃ (some (sl k)) b = σ₃ b := fun b h => unlock_ne h
      have hUk : unlock σ₂ σ₃ (some (sl k)) (sl k) = some (.list (ofInts (sc k))) := by rw [unlock_self]; exact hsk
      have kU : ∀ b o, σ₃ b = some o → o ≠ .ro (.list (ofInts (sc k))) → unlock σ₂ σ₃ (some (sl k)) b = some o := fun b o h ho => by rw [hU b (ne_of_obj h hk₃ ho)]; exact h
      generalize unlock σ₂ σ₃ (some (sl k)) = σ₄ at hU hUk kU
      simp only [Sq_n, WS_20, WS_11, WS_1, W_1, W_4, List.getElem?_cons_zero]
      have hx₄ := kU _ _ R₃.hx (by simp)
      have hd₄ := kU _ _ R₃.hd (by simp)
      refine (attr_inst hx₄ hd₄).2.2.2 rfl ⟨⟨_, rfl⟩, ⟨_, rfl⟩, ?_⟩
      simp only [bin_add]
      refine (setAttr_inst hx₄ hd₄).2.2 ?_
      have nd : ∀ b o, σ₄ b = some o → (∀ vs, o ≠ .sdict vs) → ∀ l, upd σ₄ d l b = some o := fun b o hb ho l => by rw [upd_ne (ne_of_obj hb hd₄ (ho _))]; exact hb
      have hlj : ∀ j ∈ ks, σ₄ (sl j) = some (.list (ofInts (sc j))) := fun j hj => by
        by_cases h : j = k
        · rw [h]; exact hUk
        · exact kU _ _ (hl₃ j hj h) (by simp)
      refine hK.1 _ _ (fg_self ⟨_, _, _, _, _, rfl, nd _ _ (kU _ _ ht₃ (by simp)) (by simp) _, .inr ⟨by trivial, Rl', d, n, r, ad, sl, _, ⟨?_, ?_, ?_, R₃.nd, fun j hj => ?_, fun j hj => ?_, R₃.adi, R₃.sli, R₃.dnp, R₃.dsc⟩, ⟨?_, fun j hj => ?_⟩, ?_, hne, st.done R.nd hnd₃ hrd₃⟩⟩)
      · exact nd _ _ hx₄ (by simp) _
      · rw [upd_self]; simp; omega
      · exact at_own (nd _ _ (kU _ _ hn₃ (by simp)) (by simp) _) rfl
      · exact nd _ _ (kU _ _ (R₃.node j hj) (by simp)) (by simp) _
      · exact at_own (nd _ _ (hlj j hj) (by simp) _) rfl
      · exact nd _ _ (kU _ _ hn₃ (by simp)) (by simp) _
      · exact nd _ _ (hlj j hj) (by simp) _
      · exact nd _ _ (kU _ _ hr₃ (by simp)) (by simp) _
  · rintro m' σ' ⟨m3, m4, m5, m6, m7, rfl, ht', ⟨h, _⟩ | ⟨_, Rl', s'⟩⟩
    · simp at h
    · refine hq _ Rl' (Srt.mono (τ := off σ' fun a => a = t) (fun b o hb => ?_) ?_)
      · have hbt : b ≠ t := by
          rintro rfl
          rw [off_in (D := fun a => a = b) rfl] at hb; cases hb
        rw [off_out (D := fun a => a = t) hbt] at hb
        rw [unlock_ne hbt]; exact hb
      · obtain ⟨d, n, r, ad, sl, np, R, ow, hr, hne, st⟩ := s'
        have of : ∀ b o, σ' b = some o → o ≠ .ro (.tuple [.int k]) → off σ' (fun a => a = t) b = some o := fun b o h1 h2 => by rw [off_out (D := fun a => a = t) (ne_of_obj h1 ht' h2)]; exact h1
        exact ⟨d, n, r, ad, sl, np, ⟨of _ _ R.hx (by simp), of _ _ R.hd (by simp), at_own (of _ _ ow.dict (by simp)) rfl, R.nd, fun j hj => of _ _ (R.node j hj) (by simp), fun j hj => at_own (of _ _ (ow.list j hj) (by simp)) rfl, R.adi, R.sli, R.dnp, R.dsc⟩, ⟨of _ _ ow.dict (by simp), fun j hj => of _ _ (ow.list j hj) (by simp)⟩, of _ _ hr (by simp), hne, st⟩
end Mine
end
section
namespace Mine

noncomputable def cnt (ks : List Int) (sc : Int → List Int) (k : Int) : Int := ((ks.map fun p => ((sc p).count k : Int)).sum : Int)
theorem need_nil (ks : List Int) (sc : Int → List Int) (k : Int) : need ks sc [] k = cnt ks sc k := by
  unfold need cnt
  congr 2
  exact List.filter_eq_self.mpr fun a _ => by simp
theorem cnt_congr {ks : List Int} {sc sc' : Int → List Int} {k : Int} (h : ∀ p ∈ ks, sc p = sc' p) : cnt ks sc k = cnt ks sc' k := by
  unfold cnt
  congr 1
  exact List.map_congr_left fun p hp => by rw [h p hp]
theorem cnt_step {ks : List Int} {sc : Int → List Int} {p a k : Int} (hp : p ∈ ks) (hnd : ks.Nodup) : cnt ks (fset sc p (sc p ++ [a])) k = cnt ks sc k + (if k = a then 1 else 0) := by
  induction ks with
  | nil => cases hp
  | cons q l ih =>
    rw [List.nodup_cons] at hnd
    have hc : ∀ sc, cnt (q :: l) sc k = ((sc q).count k : Int) + cnt l sc k := fun sc => by unfold cnt; simp
    rw [hc, hc]
    by_cases hq : q = p
    · subst hq
      rw [fset_self, cnt_congr (sc' := sc) fun j hj => fset_ne (by rintro rfl; exact hnd.1 hj)]
      rw [List.count_append]
      by_cases h : k = a
      · subst h; rw [List.count_singleton_self, if_pos rfl]; omega
      · rw [List.count_singleton, if_neg (by simpa using fun e => h e.symm), if_neg h]; simp
    · have hl : p ∈ l := by
        rcases List.mem_cons.mp hp with h | h
        · exact absurd h.symm hq
        · exact h
      rw [fset_ne hq, ih hl hnd.2]; omega
theorem ins_nodup {ks : List Int} {p : Int} (h : ks.Nodup) : (ins ks p).Nodup := by
  unfold ins; split
  · exact h
  · rename_i hp
    exact List.nodup_append.mpr ⟨h, by simp, fun a ha b hb => by rw [List.mem_singleton.mp hb]; rintro rfl; exact hp ha⟩
theorem cnt_ins {ks : List Int} {sc : Int → List Int} {p k : Int} (hd : ∀ q, q ∉ ks → sc q = []) : cnt (ins ks p) sc k = cnt ks sc k := by
  unfold ins; split
  · rfl
  · rename_i hp
    unfold cnt; simp [hd p hp]
theorem ins_dsc {ks : List Int} {sc : Int → List Int} {p : Int} (hd : ∀ q, q ∉ ks → sc q = []) : ∀ q, q ∉ ins ks p → sc q = [] := fun q hq => hd q fun h => hq (ins_sub h)

theorem gr_count (adds : List (Int × List Int)) : (gks adds).Nodup ∧ (∀ q, q ∉ gks adds → gsc adds q = []) ∧ ∀ k, gnp adds k = cnt (gks adds) (gsc adds) k := by
  refine snoc_ind (P := fun adds => (gks adds).Nodup ∧ (∀ q, q ∉ gks adds → gsc adds q = []) ∧ ∀ k, gnp adds k = cnt (gks adds) (gsc adds) k) ?_ ?_ adds
  · refine ⟨by simp [gks], fun q _ => by simp [gsc], fun k => by simp [gnp, gks, cnt]⟩
  · rintro l ⟨a, preds⟩ ⟨h1, h2, h3⟩
    rw [gks_snoc, gsc_snoc, gnp_snoc]
    have key : ∀ preds : List Int, (insAll (ins (gks l) a) preds).Nodup ∧ (∀ q, q ∉ insAll (ins (gks l) a) preds → scAdd (gsc l) a preds q = []) ∧ ∀ k, cnt (gks l) (gsc l) k + (if k = a then (preds.length : Int) else 0) = cnt (insAll (ins (gks l) a) preds) (scAdd (gsc l) a preds) k := by
      refine snoc_ind ⟨ins_nodup h1, ins_dsc h2, fun k => ?_⟩ ?_
      · show _ = cnt (ins (gks l) a) (gsc l) k
        rw [cnt_ins h2]; simp
      · rintro ps p ⟨i1, i2, i3⟩
        rw [insAll_snoc, scAdd_snoc]
        refine ⟨ins_nodup i1, fun q hq => ?_, fun k => ?_⟩
        · rw [fset_ne (by rintro rfl; exact hq ins_mem)]; exact ins_dsc i2 q hq
        · rw [cnt_step ins_mem (ins_nodup i1), cnt_ins i2, ← i3 k]
          by_cases h : k = a
          · simp [h]; omega
          · simp [h]
    obtain ⟨k1, k2, k3⟩ := key preds
    refine ⟨k1, k2, fun k => ?_⟩
    rw [← k3 k]
    by_cases h : k = a
    · subst h; rw [fset_self, h3, if_pos rfl]
    · rw [fset_ne h, h3, if_neg h]; omega

theorem init_sts {adds : List (Int × List Int)} {rk : Int → Nat} (hrk : ∀ p ∈ gks adds, ∀ j ∈ gsc adds p, j ∈ gks adds ∧ rk p < rk j) (hkl : (gks adds).length < 1000) (hsl : tot adds < lim) :
    Sts (gks adds) (gsc adds) [] [] ((gks adds).filter fun k => decide (gnp adds k = 0)) (gnp adds) := by
  obtain ⟨h1, h2, h3⟩ := gr_count adds
  refine ⟨by simp, by simp, h1.filter _, by simp, by simp, by simp, by simp, by simp, by simp, fun k _ _ _ => by rw [need_nil]; exact h3 k, fun k => by simp, fun p hp j hj => (hrk p hp j hj).1, hkl, fun p _ => ?_⟩
  have := gsc_len adds p; omega

noncomputable def S120 (args : List AV) (Q : AV → Store → Prop) (σ : Store) : Prop := Ex3 fun (x : Adr) (adds : List (Int × List Int)) (rk : Int → Nat) => An6 (args = [.ref x]) (Gr x adds σ) (∀ p ∈ gks adds, ∀ j ∈ gsc adds p, j ∈ gks adds ∧ rk p < rk j) ((gks adds).length < 1000) (tot adds < lim) (∀ Rl τ, Srt x (gks adds) (gsc adds) [] [] Rl τ → Q .none τ)

theorem mcall_values {C : Ctr} {σ : Store} {a : Adr} {es : List (Int × AV)} {Q : AV → Store → Prop} (hσ : σ a = some (.dict es)) (hq : ∀ r, σ r = none → Q (.ref r) (upd σ r (.dvals a))) : Mcall C .values (.ref a) [] Q σ := .values es hσ hq
theorem items_vals {σ : Store} {r g : Adr} {es : List (Int × AV)} (hr : at? σ r = some (.dvals g)) (hg : at? σ g = some (.dict es)) : itemsOf σ (.ref r) = some (es.map (·.2), some g) := by
  unfold itemsOf; simp only [hr, hg]

theorem v120 {C : Ctr} (h155 : ∀ args Q σ, S155 args Q σ → C 155 args Q σ) {x : Adr} {adds : List (Int × List Int)} {rk : Int → Nat} {σ : Store} {Q : AV → Store → Prop} (g : Gr x adds σ) (hrk : ∀ p ∈ gks adds, ∀ j ∈ gsc adds p, j ∈ gks adds ∧ rk p < rk j) (hkl : (gks adds).length < 1000) (hsl : tot adds < lim)
    (hq : ∀ Rl τ, Srt x (gks adds) (gsc adds) [] [] Rl τ → Q .none τ) : WS C p120 (fin Q) [some (.ref x), none] σ := by
  have st := init_sts hrk hkl hsl
  obtain ⟨d, n, ad, sl, R, ow⟩ := g
  have hlim : (1000 : Nat) ≤ lim := by decide
  generalize gks adds = ks at *
  generalize gsc adds = sc at *
  generalize gnp adds = np at *
  unfold p120
  simp only [WS_20, WS_15, WT_2, W_8, tru_bool, W_2, cmp_isnot, W_17, W_4, List.getElem?_cons_zero]
  refine (attr_inst R.hx R.hd).2.1 rfl ?_
  rw [decide_eq_false (by simp)]
  simp only [Br_f, WS_1, Sq_n, WS_20, WS_10, WS_6, put, WS_15, WT_2, W_4, W_15, WL_1]
  refine w_lcomp ?_
  simp only [W_15, WL_1, W_17, W_4, List.getElem?_cons_zero]
  refine (attr_inst R.hx R.hd).1 rfl ⟨by rw [mk_dict ow.dict]; rfl, by trivial, mcall_values ow.dict fun v hv => ?_⟩
  have s1 : Sub σ (upd σ v (.dvals n)) := sub_upd (sub_refl σ) hv
  refine lc_pure (fun i => ofInts ((ks.take i).filter fun k => decide (np k = 0))) (items_vals (at_upd_self _ _ rfl) (at_own (s1 _ _ ow.dict) rfl)) (by simp; omega) rfl ?_ ?_
  · intro i y hy
    have hi : i < ks.length := by
      have := (List.getElem?_eq_some_iff.mp hy).1
      simpa using this
    have hy' : y = .ref (ad ks[i]) := by
      rw [List.map_map, List.getElem?_map, List.getElem?_eq_getElem hi] at hy
      simpa using hy.symm
    subst hy'
    have hk : ks[i] ∈ ks := List.getElem_mem hi
    have hnl : ∀ b, b ≠ n → lock (upd σ v (.dvals n)) (some n) b = upd σ v (.dvals n) b := fun b h => lock_ne h
    have hnode : lock (upd σ v (.dvals n)) (some n) (ad ks[i]) = some (.node (some (.int ks[i])) (some (.int (np ks[i]))) (some (.ref (sl ks[i])))) := by
      rw [hnl _ (ne_of_obj (R.node _ hk) ow.dict (by simp))]; exact s1 _ _ (R.node _ hk)
    have htk : ks.take (i + 1) = ks.take i ++ [ks[i]] := by rw [List.take_add_one, List.getElem?_eq_getElem hi]; rfl
    simp only [List.cons_append, List.nil_append, WT_2, W_8, tru_bool, W_1, W_17, W_4, List.getElem?_cons_succ, List.getElem?_cons_zero]
    refine (attr_node hnode).2.1 ?_
    simp only [cmp_eq]
    by_cases h0 : np ks[i] = 0
    · rw [decide_eq_true h0]
      simp only [LcT_t, W_17, W_4, List.getElem?_cons_succ, List.getElem?_cons_zero]
      refine (attr_node hnode).1 (lc_end (sub_refl _) ?_)
      rw [htk, List.filter_append]; unfold ofInts; simp [h0]
    · rw [decide_eq_false h0]
      simp only [LcT_f]
      refine lc_end (sub_refl _) ?_
      rw [htk, List.filter_append]; simp [h0]
  · intro r hr
    rw [List.length_map, List.length_map, List.take_length]
    have s2 : Sub σ (upd (upd σ v (.dvals n)) r (.list (ofInts (ks.filter fun k => decide (np k = 0))))) := sub_upd s1 hr
    have hσr : σ r = none := by
      cases e : σ r with
      | none => rfl
      | some o => rw [s1 _ _ e] at hr; cases hr
    have hrr := upd_self (upd σ v (.dvals n)) r (.list (ofInts (ks.filter fun k => decide (np k = 0))))
    generalize upd (upd σ v (.dvals n)) r (.list (ofInts (ks.filter fun k => decide (np k = 0)))) = σ₂ at s2 hrr
    refine (setAttr_inst (s2 _ _ R.hx) (s2 _ _ R.hd)).1 ?_
    have nd : ∀ b o, σ₂ b = some o → (∀ vs, o ≠ .sdict vs) → ∀ l, upd σ₂ d l b = some o := fun b o hb ho l => by rw [upd_ne (ne_of_obj hb (s2 _ _ R.hd) (ho _))]; exact hb
    have R₃ : Raw x d n (.ref r) 0 0 ks ad sl np sc (upd σ₂ d (.sdict [.ref n, .ref r, .int 0, .int 0])) :=
      ⟨nd _ _ (s2 _ _ R.hx) (by simp) _, upd_self .., at_own (nd _ _ (s2 _ _ ow.dict) (by simp) _) rfl, R.nd, fun j hj => nd _ _ (s2 _ _ (R.node j hj)) (by simp) _, fun j hj => at_own (nd _ _ (s2 _ _ (ow.list j hj)) (by simp) _) rfl, R.adi, R.sli, R.dnp, R.dsc⟩
    have ow₃ : Own n ks ad sl sc (upd σ₂ d (.sdict [.ref n, .ref r, .int 0, .int 0])) := ⟨nd _ _ (s2 _ _ ow.dict) (by simp) _, fun j hj => nd _ _ (s2 _ _ (ow.list j hj)) (by simp) _⟩
    have hr₃ := nd _ _ hrr (by simp) (.sdict [.ref n, .ref r, .int 0, .int 0])
    refine ⟨by rw [mk_inst R₃.hx R₃.hd]; rfl, by trivial, mcall_inst R₃.hx rfl (h155 _ _ _ ⟨x, d, n, .ref r, 0, 0, ks, ad, sl, np, sc, rk, rfl, R₃, ow₃, hrk, hkl, st.sl, fun σ₄ hs => ⟨by simp, ?_⟩⟩)⟩
    show Q .none _
    refine hq _ _ ⟨d, n, r, ad, sl, np, R₃.mono hs, ⟨hs _ _ ow₃.dict, fun j hj => hs _ _ (ow₃.list j hj)⟩, hs _ _ hr₃, fun k hk e => ?_, st⟩
    exact absurd e.symm (ne_of_none (ow.list k hk) hσr)
end Mine
end
section
namespace Mine

noncomputable def tab {α : Type} (n : Nat) (f : Int → α) : List α := (List.range n).map fun (i : Nat) => f (i : Int)
theorem tab_len {α : Type} (n : Nat) (f : Int → α) : (tab n f).length = n := by unfold tab; simp
theorem tab_get {α : Type} {n : Nat} {f : Int → α} {i : Nat} (h : i < n) : (tab n f)[i]? = some (f i) := by unfold tab; simp [h]
theorem tab_congr {α : Type} {n : Nat} {f g : Int → α} (h : ∀ k : Int, 0 ≤ k → k < n → f k = g k) : tab n f = tab n g := by
  unfold tab
  exact List.map_congr_left fun i hi => h i (by omega) (by have := List.mem_range.mp hi; omega)
theorem tab_set {α : Type} {n : Nat} {f : Int → α} {k : Int} {v : α} (h0 : 0 ≤ k) (h1 : k < n) : (tab n f).set k.toNat v = tab n (fset f k v) := by
  refine List.ext_getElem? fun i => ?_
  rw [List.getElem?_set]
  by_cases hi : i < n
  · rw [tab_get hi, tab_get hi, tab_len]
    by_cases h : k.toNat = i
    · rw [if_pos h, if_pos (by omega), show ((i : Nat) : Int) = k by omega, fset_self]
    · rw [if_neg h, fset_ne (by omega)]
  · have e1 : (tab n f)[i]? = none := by rw [List.getElem?_eq_none_iff, tab_len]; omega
    have e2 : (tab n (fset f k v))[i]? = none := by rw [List.getElem?_eq_none_iff, tab_len]; omega
    rw [e1, e2, tab_len]
    split
    · rw [if_neg (by omega)]
    · rfl
theorem tab_snoc {α : Type} (n : Nat) (f : Int → α) : tab (n + 1) f = tab n f ++ [f n] := by unfold tab; rw [List.range_succ]; simp
theorem tab_of {xs : List Int} {n : Nat} (h : xs.length = n) : xs = tab n fun k => xs.getD k.toNat 0 := by
  refine List.ext_getElem? fun i => ?_
  by_cases hi : i < n
  · rw [tab_get hi, List.getElem?_eq_getElem (by omega), List.getD_eq_getElem?_getD]; simp [h, hi]
  · rw [List.getElem?_eq_none_iff.mpr (by omega), List.getElem?_eq_none_iff.mpr (by rw [tab_len]; omega)]
theorem ofInts_tab (n : Nat) (f : Int → Int) : ofInts (tab n f) = tab n fun k => .int (f k) := by unfold ofInts tab; simp
theorem tab_ext {α : Type} {n : Nat} {f g : Int → α} (h : tab n f = tab n g) {k : Int} (h0 : 0 ≤ k) (h1 : k < n) : f k = g k := by
  have e : (tab n f)[k.toNat]? = (tab n g)[k.toNat]? := by rw [h]
  rw [tab_get (by omega), tab_get (by omega)] at e
  have : ((k.toNat : Nat) : Int) = k := by omega
  rw [this] at e
  exact Option.some.inj e

theorem getItem_tab {σ : Store} {a : Adr} {n : Nat} {f : Int → AV} {k : Int} {Q : AV → Prop} (h : at? σ a = some (.list (tab n f))) (hl : n ≤ lim) (h0 : 0 ≤ k) (h1 : k < n) (hq : Q (f k)) : GetItem (.ref a) (.int k) Q σ := by
  refine .list h (by rw [tab_len]; exact hl) (x := f k) ?_ hq
  rw [if_pos h0, tab_get (by omega)]
  congr 2; omega
theorem setItem_tab {σ : Store} {a : Adr} {n : Nat} {f : Int → AV} {k : Int} {v : AV} {Q : Store → Prop} (h : σ a = some (.list (tab n f))) (hl : n ≤ lim) (h0 : 0 ≤ k) (h1 : k < n) (hq : Q (upd σ a (.list (tab n (fset f k v))))) : SetItem (.ref a) (.int k) v Q σ := by
  exact .list h (by rw [tab_len]; exact hl) h0 (by rw [tab_len]; omega) (by rw [tab_set h0 h1]; exact hq)
theorem fset_int {f : Int → Int} {k v : Int} : (fset (fun j => AV.int (f j)) k (.int v)) = fun j => AV.int (fset f k v j) := by funext j; unfold fset; split <;> rfl
theorem fset_ref {f : Int → Adr} {k : Int} {v : Adr} : (fset (fun j => AV.ref (f j)) k (.ref v)) = fun j => AV.ref (fset f k v j) := by funext j; unfold fset; split <;> rfl

noncomputable def Gb (σ σ' : Store) : Prop := Sub σ σ' ∧ ∀ b o, σ' b = some o → isNode o = true → σ b = some o
theorem Gb.refl (σ : Store) : Gb σ σ := ⟨sub_refl σ, fun _ _ h _ => h⟩
theorem Gb.trans {σ τ ρ : Store} (h : Gb σ τ) (h' : Gb τ ρ) : Gb σ ρ := ⟨sub_trans h.1 h'.1, fun b o e n => h.2 b o (h'.2 b o e n) n⟩
theorem Gb.new {σ σ' : Store} {r : Adr} {o : AO} (h : Gb σ σ') (hr : σ' r = none) (ho : isNode o = false) : Gb σ (upd σ' r o) := ⟨sub_upd h.1 hr, fun b o' e n => by
  by_cases hb : b = r
  · subst hb; rw [upd_self] at e; cases e; rw [ho] at n; cases n
  · rw [upd_ne hb] at e; exact h.2 b o' e n⟩
theorem Gb.upd {σ σ' : Store} {r : Adr} {o : AO} (h : Gb σ σ') : Gb (upd σ r o) (upd σ' r o) := ⟨fun b o' e => by
  by_cases hb : b = r
  · subst hb; rw [upd_self] at e ⊢; exact e
  · rw [upd_ne hb] at e ⊢; exact h.1 b o' e, fun b o' e n => by
  by_cases hb : b = r
  · subst hb; rw [upd_self] at e ⊢; exact e
  · rw [upd_ne hb] at e ⊢; exact h.2 b o' e n⟩
theorem sub_at {σ σ' : Store} {a : Adr} {o : AO} (h : Sub σ σ') (e : at? σ a = some o) : at? σ' a = some o := by
  obtain ⟨o', ho'⟩ := at_some e
  unfold at? at e ⊢; rw [h a o' ho']; rw [ho'] at e; exact e
theorem fg_gb {σ σ' : Store} {P : Store → Prop} (h : Gb σ σ') (hp : P σ) : Fg σ' P := ⟨σ, h.1, hp⟩

noncomputable def Dj (τ ρ : Store) : Prop := ∀ a o, ρ a = some o → τ a = none
noncomputable def Nf (ρ : Store) : Prop := ∀ a o, ρ a = some o → isNode o = false
theorem Dj.left {τ ρ : Store} (h : Dj τ ρ) {a : Adr} {o : AO} (e : τ a = some o) : ρ a = none := by
  cases e' : ρ a with
  | none => rfl
  | some q => rw [h a q e'] at e; cases e
theorem join_rd {τ ρ : Store} (h : Dj τ ρ) {a : Adr} {o : AO} (e : ρ a = some o) : join τ ρ a = some o := by rw [join_r (h a o e)]; exact e
theorem join_sub {τ ρ : Store} (h : Dj τ ρ) : Sub ρ (join τ ρ) := fun _ _ e => join_rd h e
theorem join_none {τ ρ : Store} {a : Adr} (h : join τ ρ a = none) : τ a = none ∧ ρ a = none := by
  cases e : τ a with
  | some o => rw [join_l e] at h; cases h
  | none => rw [join_r e] at h; exact ⟨rfl, h⟩
theorem join_upd {τ ρ : Store} {a : Adr} {o : AO} (h : τ a = none) : upd (join τ ρ) a o = join τ (upd ρ a o) := by
  funext b
  by_cases hb : b = a
  · subst hb; rw [upd_self, join_r h, upd_self]
  · rw [upd_ne hb]
    cases e : τ b with
    | some q => rw [join_l e, join_l e]
    | none => rw [join_r e, join_r e, upd_ne hb]
theorem Dj.upd {τ ρ : Store} (h : Dj τ ρ) {a : Adr} {o : AO} (ha : τ a = none) : Dj τ (upd ρ a o) := fun b q e => by
  by_cases hb : b = a
  · subst hb; exact ha
  · rw [upd_ne hb] at e; exact h b q e
theorem Nf.upd {ρ : Store} (h : Nf ρ) {a : Adr} {o : AO} (ho : isNode o = false) : Nf (upd ρ a o) := fun b q e => by
  by_cases hb : b = a
  · subst hb; rw [upd_self] at e; cases e; exact ho
  · rw [upd_ne hb] at e; exact h b q e
theorem Gb.split {τ ρ σ' : Store} (h : Gb (join τ ρ) σ') (hd : Dj τ ρ) (hn : Nf ρ) : ∃ ρ', σ' = join τ ρ' ∧ Dj τ ρ' ∧ Nf ρ' ∧ Sub ρ ρ' := by
  refine ⟨off σ' fun a => ∃ o, τ a = some o, ?_, fun a o e => ?_, fun a o e => ?_, fun a o e => ?_⟩
  · funext a
    cases e : τ a with
    | some o => rw [join_l e]; exact h.1 a o (join_l e)
    | none => rw [join_r e, off_out (D := fun a => ∃ o, τ a = some o)]; rintro ⟨o, ho⟩; rw [e] at ho; cases ho
  · cases e' : τ a with
    | none => rfl
    | some q => rw [off_in (D := fun a => ∃ o, τ a = some o) ⟨q, e'⟩] at e; cases e
  · cases e' : τ a with
    | some q => rw [off_in (D := fun a => ∃ o, τ a = some o) ⟨q, e'⟩] at e; cases e
    | none =>
      rw [off_out (D := fun a => ∃ o, τ a = some o) (by rintro ⟨o, ho⟩; rw [e'] at ho; cases ho)] at e
      cases hn' : isNode o with
      | false => rfl
      | true =>
        have := h.2 a o e hn'
        rw [join_r e'] at this
        rw [hn a o this] at hn'; cases hn'
  · have h1 := h.1 a o (join_rd hd e)
    rw [off_out (D := fun a => ∃ o, τ a = some o)]
    · exact h1
    · rintro ⟨q, hq⟩
      rw [hd a o e] at hq; cases hq

section
variable {C : Ctr} {x : Adr} {ks : List Int} {sc : Int → List Int} {D O Rl : List Int} {τ ρ : Store} {Q : AV → Store → Prop}
theorem call120 (h120 : ∀ args Q σ, ClS S120 args Q σ → C 120 args Q σ) {adds : List (Int × List Int)} {rk : Int → Nat} (g : Gr x adds τ) (hd : Dj τ ρ) (hn : Nf ρ) (hrk : ∀ p ∈ gks adds, ∀ j ∈ gsc adds p, j ∈ gks adds ∧ rk p < rk j) (hkl : (gks adds).length < 1000) (hsl : tot adds < lim)
    (hq : ∀ Rl τ', Srt x (gks adds) (gsc adds) [] [] Rl τ' → Dj τ' ρ → Q .none (join τ' ρ)) : C 120 [.ref x] Q (join τ ρ) :=
  h120 _ _ _ ⟨τ, ρ, rfl, fun a o e => ⟨hd a o e, hn a o e⟩, x, adds, rk, rfl, g, hrk, hkl, hsl, fun Rl τ' s hd' => fg_self (hq Rl τ' s hd')⟩
theorem call134 (h134 : ∀ args Q σ, ClS S134 args Q σ → C 134 args Q σ) (s : Srt x ks sc D [] Rl τ) (hd : Dj τ ρ) (hn : Nf ρ) (hq : Q (.bool (!Rl.isEmpty)) (join τ ρ)) : C 134 [.ref x] Q (join τ ρ) :=
  h134 _ _ _ ⟨τ, ρ, rfl, fun a o e => ⟨hd a o e, hn a o e⟩, x, ks, sc, D, Rl, rfl, s, fun _ => fg_self hq⟩
theorem call127 (h127 : ∀ args Q σ, ClS S127 args Q σ → C 127 args Q σ) (s : Srt x ks sc D [] Rl τ) (hd : Dj τ ρ) (hn : Nf ρ) (hq : ∀ τ' t, Srt x ks sc D Rl [] τ' → Dj τ' ρ → τ' t = none → ρ t = none → Q (.ref t) (join τ' (upd ρ t (.tuple (ofInts Rl))))) : C 127 [.ref x] Q (join τ ρ) :=
  h127 _ _ _ ⟨τ, ρ, rfl, fun a o e => ⟨hd a o e, hn a o e⟩, x, ks, sc, D, Rl, rfl, s, fun τ' t s' ht hd' => by
    have hρt : ρ t = none := by
      cases e : ρ t with
      | none => rfl
      | some o => have := hd' t o e; rw [upd_self] at this; cases this
    have hd'' : Dj τ' ρ := fun a o e => by
      have := hd' a o e
      rw [upd_ne (ne_of_none e hρt)] at this; exact this
    have e : join (Mine.upd τ' t (.tuple (ofInts Rl))) ρ = join τ' (Mine.upd ρ t (.tuple (ofInts Rl))) := by
      funext a
      by_cases ha : a = t
      · subst ha; rw [join_l (upd_self ..), join_r ht, upd_self]
      · cases e : τ' a with
        | some o => rw [join_l e, join_l (by rw [upd_ne ha]; exact e)]
        | none => rw [join_r e, join_r (by rw [upd_ne ha]; exact e), upd_ne ha]
    refine fg_self ?_
    rw [e]
    exact hq τ' t s' hd'' ht hρt⟩
theorem call148 (h148 : ∀ args Q σ, ClS S148 args Q σ → C 148 args Q σ) {k : Int} (s : Srt x ks sc D (k :: O) Rl τ) (hd : Dj τ ρ) (hn : Nf ρ) (hq : ∀ τ' Rl', Srt x ks sc (D ++ [k]) O Rl' τ' → Dj τ' ρ → Q .none (join τ' ρ)) : C 148 [.ref x, .int k] Q (join τ ρ) :=
  h148 _ _ _ ⟨τ, ρ, rfl, fun a o e => ⟨hd a o e, hn a o e⟩, x, ks, sc, D, O, Rl, k, rfl, s, fun τ' Rl' s' hd' => fg_self (hq τ' Rl' s' hd')⟩
theorem call115 (h115 : ∀ args Q σ, ClS S115g args Q σ → C 115 args Q σ) {adds : List (Int × List Int)} {k : Int} {preds : List Int} (g : Gr x adds τ) (hd : Dj τ ρ) (hn : Nf ρ) (hl : tot adds + preds.length + 2 < lim) (hq : ∀ τ', Gr x (adds ++ [(k, preds)]) τ' → Dj τ' ρ → Q .none (join τ' ρ)) :
    C 115 (.ref x :: .int k :: ofInts preds) Q (join τ ρ) :=
  h115 _ _ _ ⟨τ, ρ, rfl, fun a o e => ⟨hd a o e, hn a o e⟩, x, adds, k, preds, rfl, g, hl, fun τ' g' hd' => fg_self (hq τ' g' hd')⟩
theorem Srt.inst (s : Srt x ks sc D O Rl τ) : ∃ d vs, τ x = some (.inst d) ∧ τ d = some (.sdict vs) := by
  obtain ⟨d, n, r, ad, sl, np, R, _⟩ := s; exact ⟨d, _, R.hx, R.hd⟩
theorem Gr.inst {adds : List (Int × List Int)} (s : Gr x adds τ) : ∃ d vs, τ x = some (.inst d) ∧ τ d = some (.sdict vs) := by
  obtain ⟨d, n, ad, sl, R, _⟩ := s; exact ⟨d, _, R.hx, R.hd⟩
theorem mcall_srt {f : Meth} {g : Adr} {vs : List AV} (s : ∃ d vs, τ x = some (.inst d) ∧ τ d = some (.sdict vs)) (hf : f.addr = some g) (hq : C g (.ref x :: vs) Q (join τ ρ)) : Mk (join τ ρ) (.ref x) = 4 ∧ Mcall C f (.ref x) vs Q (join τ ρ) := by
  obtain ⟨d, l, h1, h2⟩ := s
  exact ⟨mk_inst (join_l h1) (join_l h2), mcall_inst (join_l h1) hf hq⟩
end

noncomputable def S165 (args : List AV) (Q : AV → Store → Prop) (σ : Store) : Prop := Nf σ ∧
  ((args = [] ∧ ∀ x τ, Gr x [] τ → Dj τ σ → Q (.ref x) (join τ σ)) ∨
   (∃ (g : Adr) (adds : List (Int × List Int)) (lf : Int → Adr), args = [.ref g] ∧ σ g = some (.dict (adds.map fun a => (a.1, AV.ref (lf a.1)))) ∧ (∀ a ∈ adds, at? σ (lf a.1) = some (.list (ofInts a.2))) ∧ tot adds + 2 < lim ∧
     ∀ x τ, Gr x adds τ → Dj τ σ → Q (.ref x) (join τ σ)))
end Mine
end
section
namespace Mine

noncomputable def mU (bl hh ww : Adr) (m3 : Option AV) (x H B P Cc : Adr) (m9 m10 m11 m12 : Option AV) : Mem := [some (.ref bl), some (.ref hh), some (.ref ww), m3, some (.ref x), some (.ref H), some (.ref B), some (.ref P), some (.ref Cc), m9, m10, m11, m12]

noncomputable def pPush : PS := .each 12 (.call (.glob (.blt .range)) (.cons (.sub (.var 2) (.var 3)) .nil)) (.seq (.expr (.call (.glob (.ref 28)) (.cons (.var 9) (.cons (.neg (.sub (.var 1) (.var 3))) .nil)))) .skip)
noncomputable def pRep : PS := .each 12 (.call (.glob (.blt .range)) (.cons (.sub (.var 2) (.var 3)) .nil)) (.seq (.setItem (.var 8) (.var 3) (.neg (.call (.glob (.ref 35)) (.cons (.var 9) (.cons (.neg (.sub (.var 1) (.var 3))) .nil)))))
  (.seq (.augSub (.var 7) (.var 3) .add (.bin .sub (.sub (.var 8) (.var 3)) (.sub (.var 1) (.var 3)))) .skip))
noncomputable def pMerge : PS := .each 10 (.sliceFrom (.sub (.var 0) (.var 3)) (.int 1)) (.seq (.each 11 (.sub (.var 5) (.var 10)) (.seq (.expr (.call (.glob (.ref 28)) (.cons (.var 9) (.cons (.var 11) .nil)))) .skip)) .skip)

theorem bcall_range {σ : Store} {n : Int} {Q : AV → Store → Prop} (h : n.natAbs ≤ lim) (hq : ∀ r, σ r = none → Q (.ref r) (upd σ r (.range 0 n.toNat 1))) : Bcall .range [.int n] Q σ := .range1 h hq
theorem items_range {σ : Store} {r : Adr} {lo st : Int} {n : Nat} (h : at? σ r = some (.range lo n st)) : itemsOf σ (.ref r) = some ((List.range n).map (fun (i : Nat) => AV.int (lo + (i : Int) * st)), none) := by
  unfold itemsOf; simp only [h]

section
variable {C : Ctr} {bl hh ww x H B P Cc a : Adr} {n : Nat} {bA hA : Int → Adr} {bel hp : Int → List Int} {h w pd cr : Int → Int} {k : Int} {σ : Store} {xs : List Int} {Q : Flw → Mem → Store → Prop}

theorem pc_push (h28 : ∀ args Q σ, S28 args Q σ → C 28 args Q σ) (hl : n ≤ lim) (h0 : 0 ≤ k) (h1 : k < n) (hhh : at? σ hh = some (.list (tab n fun k => .int (h k)))) (hww : at? σ ww = some (.list (tab n fun k => .int (w k)))) (ha : σ a = some (.list (ofInts xs))) (hhp : Hp xs)
    (nh : hh ≠ a) (hw : 0 ≤ w k) (hb : xs.length + (w k).toNat ≤ lim) {m10 m11 m12 : Option AV}
    (hq : ∀ ys σ' m12, ys.Perm (List.replicate (w k).toNat (-(h k)) ++ xs) → Hp ys → Gb (upd σ a (.list (ofInts ys))) σ' → Q .next (mU bl hh ww (some (.int k)) x H B P Cc (some (.ref a)) m10 m11 m12) σ') :
    WS C pPush Q (mU bl hh ww (some (.int k)) x H B P Cc (some (.ref a)) m10 m11 m12) σ := by
  unfold pPush
  refine ws_each ?_
  simp only [mU, W_14, WL_2, WL_1, W_18, W_4, W_5, List.getElem?_cons_succ, List.getElem?_cons_zero, call_blt]
  refine getItem_tab hww hl h0 h1 (bcall_range (by omega) fun r hr => ?_)
  have sr : Sub σ (upd σ r (.range 0 (w k).toNat 1)) := sub_upd (sub_refl σ) hr
  refine ⟨_, _, items_range (at_upd_self _ _ rfl), by simp; omega, ltb rfl, fun i m' σ' => Ex2 fun ys m12 => An4 (m' = mU bl hh ww (some (.int k)) x H B P Cc (some (.ref a)) m10 m11 m12) (ys.Perm (List.replicate i (-(h k)) ++ xs)) (Hp ys) (σ' = upd (upd σ r (.range 0 (w k).toNat 1)) a (.list (ofInts ys))), ?_, ?_, ?_, ?_⟩
  · exact ⟨xs, m12, rfl, by simp, hhp, (upd_same (sr _ _ ha)).symm⟩
  · rintro i m' σ' ⟨ys, m12, rfl, _⟩; exact ⟨rfl, trivial⟩
  · rintro i y m' σ' K hy ⟨ys, m12, rfl, hperm, hh1, rfl⟩ hK
    have hi : i < (w k).toNat := by
      have := (List.getElem?_eq_some_iff.mp hy).1
      simpa using this
    have hlen := hperm.length_eq
    simp only [List.length_append, List.length_replicate] at hlen
    simp only [put, mU, List.set_cons_succ, List.set_cons_zero, WS_20, WS_5, Sq_n, WS_1, W_14, WL_2, WL_1, W_7, W_18, W_4, W_5, List.getElem?_cons_succ, List.getElem?_cons_zero, call_ref]
    refine getItem_tab (by rw [at_upd_ne nh]; exact sub_at sr hhh) hl h0 h1 ?_
    refine h28 _ _ _ ⟨a, ys, -(h k), rfl, upd_self .., by omega, hh1, fun zs hp1 hp2 => hK.1 _ _ (fg_self ⟨zs, _, rfl, ?_, hp2, upd_upd ..⟩)⟩
    rw [List.replicate_succ, List.cons_append]
    exact hp1.trans (hperm.cons _)
  · rintro m' σ' ⟨ys, m12, rfl, hperm, hh1, rfl⟩
    rw [List.length_map, List.length_range] at hperm
    exact hq ys _ m12 hperm hh1 (((Gb.refl σ).new hr rfl).upd)

theorem fset_id {β : Type} (f : Int → β) (k : Int) : fset f k (f k) = f := by
  funext j
  by_cases h : j = k
  · rw [h, fset_self]
  · rw [fset_ne h]
theorem fset_fset {β : Type} (f : Int → β) (k : Int) (u v : β) : fset (fset f k u) k v = fset f k v := by
  funext j
  by_cases h : j = k
  · rw [h, fset_self, fset_self]
  · rw [fset_ne h, fset_ne h, fset_ne h]

theorem upd_comm {σ : Store} {a b : Adr} {o o' : AO} (h : a ≠ b) : upd (upd σ a o) b o' = upd (upd σ b o') a o := by
  funext c
  by_cases h1 : c = a
  · subst h1; rw [upd_ne h, upd_self, upd_self]
  · by_cases h2 : c = b
    · subst h2; rw [upd_self, upd_ne h1, upd_self]
    · rw [upd_ne h2, upd_ne h1, upd_ne h1, upd_ne h2]

theorem pc_rep (h35 : ∀ args Q σ, S35 args Q σ → C 35 args Q σ) (R : Nat → List Int → Int → Int → Prop) (hl : n ≤ lim) (h0 : 0 ≤ k) (h1 : k < n) (hhh : at? σ hh = some (.list (tab n fun k => .int (h k)))) (hww : at? σ ww = some (.list (tab n fun k => .int (w k)))) (ha : σ a = some (.list (ofInts xs))) (hhp : Hp xs)
    (hP : σ P = some (.list (tab n fun k => .int (pd k)))) (hC : σ Cc = some (.list (tab n fun k => .int (cr k))))
    (nh : hh ≠ a) (nhP : hh ≠ P) (nhC : hh ≠ Cc) (naP : a ≠ P) (naC : a ≠ Cc) (nPC : P ≠ Cc) (hw : 0 ≤ w k) (hwl : (w k).natAbs ≤ lim) (hx0 : 0 < xs.length) (hxl : xs.length ≤ lim)
    (R0 : R 0 xs (pd k) (cr k)) (RS : ∀ i ys p c, R i ys p c → Hp ys → 0 < ys.length → ∀ ys' : List Int, ys'.Perm (ys.set 0 (-(h k))) → Hp ys' → R (i + 1) ys' (p + (-(ys.getD 0 0) - h k)) (-(ys.getD 0 0)))
    {m10 m11 m12 : Option AV}
    (hq : ∀ ys p c σ' m12, R (w k).toNat ys p c → Hp ys → ys.length = xs.length → Gb (upd (upd (upd σ a (.list (ofInts ys))) P (.list (tab n fun j => .int (fset pd k p j)))) Cc (.list (tab n fun j => .int (fset cr k c j)))) σ' → Q .next (mU bl hh ww (some (.int k)) x H B P Cc (some (.ref a)) m10 m11 m12) σ') :
    WS C pRep Q (mU bl hh ww (some (.int k)) x H B P Cc (some (.ref a)) m10 m11 m12) σ := by
  unfold pRep
  refine ws_each ?_
  simp only [mU, W_14, WL_2, WL_1, W_18, W_4, W_5, List.getElem?_cons_succ, List.getElem?_cons_zero, call_blt]
  refine getItem_tab hww hl h0 h1 (bcall_range (by omega) fun r hr => ?_)
  have sr : Sub σ (upd σ r (.range 0 (w k).toNat 1)) := sub_upd (sub_refl σ) hr
  refine ⟨_, _, items_range (at_upd_self _ _ rfl), by simp; omega, ltb rfl, fun i m' σ' => Ex4 fun ys p c m12 => An5 (m' = mU bl hh ww (some (.int k)) x H B P Cc (some (.ref a)) m10 m11 m12) (R i ys p c) (Hp ys) (ys.length = xs.length) (σ' = upd (upd (upd (upd σ r (.range 0 (w k).toNat 1)) a (.list (ofInts ys))) P (.list (tab n fun j => .int (fset pd k p j)))) Cc (.list (tab n fun j => .int (fset cr k c j)))), ?_, ?_, ?_, ?_⟩
  · refine ⟨xs, pd k, cr k, m12, rfl, R0, hhp, rfl, ?_⟩
    rw [fset_id, fset_id, upd_same (sr _ _ ha), upd_same (sr _ _ hP), upd_same (sr _ _ hC)]; rfl
  · rintro i m' σ' ⟨ys, p, c, m12, rfl, _⟩; exact ⟨rfl, trivial⟩
  · rintro i y m' σ' K hy ⟨ys, p, c, m12, rfl, hR, hh1, hlen, rfl⟩ hK
    simp only [put, mU, List.set_cons_succ, List.set_cons_zero, WS_20, WS_8, Sq_n, WS_12, WS_1, W_6, W_18, W_4, W_7, W_14, WL_2, WL_1, W_5, List.getElem?_cons_succ, List.getElem?_cons_zero, call_ref]
    have hat : ∀ (σ' : Store) o1 o2 o3, at? (upd (upd (upd σ' a o1) P o2) Cc o3) hh = at? σ' hh := fun σ' o1 o2 o3 => by rw [at_upd_ne nhC, at_upd_ne nhP, at_upd_ne nh]
    refine getItem_tab ((hat _ _ _ _).trans (sub_at sr hhh)) hl h0 h1 ?_
    refine h35 _ _ _ ⟨a, ys, -(h k), rfl, by rw [upd_ne naC, upd_ne naP, upd_self], by omega, by omega, hh1, fun zs hp1 hp2 => ?_⟩
    rw [upd_comm (Ne.symm naC), upd_comm (Ne.symm naP), upd_upd]
    refine setItem_tab (upd_self ..) hl h0 h1 ?_
    rw [upd_upd, fset_int, fset_fset]
    have hzl : zs.length = xs.length := by rw [hp1.length_eq, List.length_set, hlen]
    refine getItem_tab (f := fun j => .int (fset pd k p j)) (at_own (by rw [upd_ne nPC, upd_self]) rfl) hl h0 h1 ?_
    refine getItem_tab (f := fun j => .int (fset cr k (-(ys.getD 0 0)) j)) (at_own (upd_self ..) rfl) hl h0 h1 ?_
    refine getItem_tab ((hat _ _ _ _).trans (sub_at sr hhh)) hl h0 h1 ?_
    simp only [fset_self, bin_sub, bin_add]
    refine ⟨⟨_, rfl⟩, ⟨_, rfl⟩, ?_⟩
    refine setItem_tab (f := fun j => .int (fset pd k p j)) (by rw [upd_ne nPC, upd_self]) hl h0 h1 ?_
    rw [fset_int, fset_fset]
    refine hK.1 _ _ (fg_self ⟨zs, _, _, _, rfl, RS i ys p c hR hh1 (by omega) zs hp1 hp2, hp2, hzl, ?_⟩)
    rw [upd_comm (Ne.symm nPC), upd_upd]
  · rintro m' σ' ⟨ys, p, c, m12, rfl, hR, hh1, hlen, rfl⟩
    rw [List.length_map, List.length_range] at hR
    exact hq ys p c _ m12 hR hh1 hlen (((((Gb.refl σ).new hr rfl).upd).upd).upd)
end
end Mine
end
section
namespace Mine

theorem unlock_upd_lock {σ : Store} {a b : Adr} {o : AO} (h : a ≠ b) : unlock σ (upd (lock σ (some b)) a o) (some b) = upd σ a o := by
  funext c
  by_cases h1 : c = b
  · subst h1; rw [unlock_self, upd_ne (Ne.symm h)]
  · rw [unlock_ne h1]
    by_cases h2 : c = a
    · subst h2; rw [upd_self, upd_self]
    · rw [upd_ne h2, upd_ne h2, lock_ne h1]
theorem sliceFrom_list {σ : Store} {a : Adr} {vs : List AV} {k : Int} {Q : AV → Store → Prop} (h : at? σ a = some (.list vs)) (hl : vs.length ≤ lim) (hk : k.natAbs ≤ lim) (hq : ∀ r, σ r = none → Q (.ref r) (upd σ r (.list (fromAt vs k)))) : SliceFrom (.ref a) (.int k) Q σ := ⟨vs, h, hl, hk, hq⟩
theorem fromAt_one (l : List Int) : fromAt (ofInts l) 1 = ofInts l.tail := by
  unfold fromAt ofInts
  rw [if_pos (by decide)]
  cases l <;> simp
theorem take_snoc {l : List Int} {i : Nat} (h : i < l.length) : l.take (i + 1) = l.take i ++ [l.getD i 0] := by
  rw [List.take_add_one]; congr 1; simp [h]
theorem getD_mem {l : List Int} {i : Nat} (h : i < l.length) : l.getD i 0 ∈ l := by
  rw [List.getD_eq_getElem?_getD, List.getElem?_eq_getElem h]; exact List.getElem_mem h
theorem sum_take_le (l : List Nat) (i : Nat) : (l.take i).sum ≤ l.sum := by
  have := List.take_append_drop i l
  rw [← this, List.sum_append, this]; omega

section
variable {C : Ctr} {bl hh ww x H B P Cc a : Adr} {n : Nat} {bA hA : Int → Adr} {bel hp : Int → List Int} {h w pd cr : Int → Int} {k : Int} {σ : Store} {xs : List Int} {Q : Flw → Mem → Store → Prop}

theorem pc_merge (h28 : ∀ args Q σ, S28 args Q σ → C 28 args Q σ) (hl : n ≤ lim) (h0 : 0 ≤ k) (h1 : k < n) (hbl : at? σ bl = some (.list (tab n fun k => .ref (bA k)))) (hbk : at? σ (bA k) = some (.list (ofInts (bel k)))) (hbkl : (bel k).length ≤ lim)
    (hH : σ H = some (.list (tab n fun k => .ref (hA k)))) (ha : σ a = some (.list (ofInts xs))) (hhp : Hp xs) (naH : a ≠ H) (hkid : ∀ j ∈ (bel k).tail, 0 ≤ j ∧ j < n ∧ σ (hA j) = some (.list (ofInts (hp j))) ∧ hA j ≠ a)
    (hb : xs.length + ((bel k).tail.map fun j => (hp j).length).sum < lim) {m10 m11 m12 : Option AV}
    (hq : ∀ ys σ' m10 m11, ys.Perm (xs ++ ((bel k).tail.map hp).flatten) → Hp ys → Gb (upd σ a (.list (ofInts ys))) σ' → Q .next (mU bl hh ww (some (.int k)) x H B P Cc (some (.ref a)) m10 m11 m12) σ') :
    WS C pMerge Q (mU bl hh ww (some (.int k)) x H B P Cc (some (.ref a)) m10 m11 m12) σ := by
  unfold pMerge
  refine ws_each ?_
  simp only [mU, W_20, W_1, W_18, W_4, List.getElem?_cons_zero, List.getElem?_cons_succ]
  refine getItem_tab hbl hl h0 h1 (sliceFrom_list hbk (by rw [ofInts_len]; exact hbkl) (by decide) fun r hr => ?_)
  rw [fromAt_one]
  have hkl : (bel k).tail.length ≤ lim := by rw [List.length_tail]; omega
  generalize (bel k).tail = kids at *
  have sr : Sub σ (upd σ r (.list (ofInts kids))) := sub_upd (sub_refl σ) hr
  have hrr := upd_self σ r (.list (ofInts kids))
  have har : a ≠ r := ne_of_none ha hr
  have hHr : H ≠ r := ne_of_none hH hr
  refine ⟨_, _, items_list (at_own hrr rfl), by rw [ofInts_len]; exact hkl, ltb rfl, fun i m' σ' => Ex3 fun ys m10 m11 => An4 (m' = mU bl hh ww (some (.int k)) x H B P Cc (some (.ref a)) m10 m11 m12) (ys.Perm (xs ++ ((kids.take i).map hp).flatten)) (Hp ys) (σ' = upd (lock (upd σ r (.list (ofInts kids))) (some r)) a (.list (ofInts ys))), ?_, ?_, ?_, ?_⟩
  · exact ⟨xs, m10, m11, rfl, by simp, hhp, (upd_same (by rw [lock_ne har]; exact sr _ _ ha)).symm⟩
  · rintro i m' σ' ⟨ys, m10, m11, rfl, _, _, rfl⟩
    exact ⟨rfl, by rw [Locked, upd_ne (Ne.symm har)]⟩
  · rintro i y m' σ' K hy ⟨ys, m10, m11, rfl, hperm, hh1, rfl⟩ hK
    have hi : i < kids.length := by
      have := (List.getElem?_eq_some_iff.mp hy).1
      rwa [ofInts_len] at this
    rw [ofInts_get hi] at hy; cases hy
    obtain ⟨j0, j1, hj, hja⟩ := hkid _ (getD_mem hi)
    have hsn := take_snoc hi
    generalize kids.getD i 0 = j at *
    have hjr : hA j ≠ r := ne_of_none hj hr
    have hjs : upd (lock (upd σ r (.list (ofInts kids))) (some r)) a (.list (ofInts ys)) (hA j) = some (.list (ofInts (hp j))) := by rw [upd_ne hja, lock_ne hjr]; exact sr _ _ hj
    have hHs : upd (lock (upd σ r (.list (ofInts kids))) (some r)) a (.list (ofInts ys)) H = some (.list (tab n fun k => .ref (hA k))) := by rw [upd_ne (Ne.symm naH), lock_ne hHr]; exact sr _ _ hH
    have hlen := hperm.length_eq
    have htk : ((kids.take (i + 1)).map fun j => (hp j).length).sum ≤ (kids.map fun j => (hp j).length).sum := by rw [List.map_take]; exact sum_take_le ..
    have hfl : ((kids.take i).map hp).flatten.length = ((kids.take i).map fun j => (hp j).length).sum := by rw [List.length_flatten, List.map_map]; rfl
    rw [hsn, List.map_append, List.sum_append] at htk
    simp only [List.map_cons, List.map_nil, List.sum_cons, List.sum_nil] at htk
    rw [List.length_append, hfl] at hlen
    simp only [put, mU, List.set_cons_succ, List.set_cons_zero, WS_20]
    refine ws_each ?_
    simp only [W_18, W_4, List.getElem?_cons_succ, List.getElem?_cons_zero]
    refine getItem_tab (at_own hHs rfl) hl j0 j1 ?_
    refine ⟨_, _, items_list (at_own hjs rfl), by rw [ofInts_len]; omega, ltb rfl, fun i' m' σ' => Ex2 fun zs m11 => An4 (m' = mU bl hh ww (some (.int k)) x H B P Cc (some (.ref a)) (some (.int j)) m11 m12) (zs.Perm (ys ++ (hp j).take i')) (Hp zs) (σ' = upd (lock (upd (lock (upd σ r (.list (ofInts kids))) (some r)) a (.list (ofInts ys))) (some (hA j))) a (.list (ofInts zs))), ?_, ?_, ?_, ?_⟩
    · exact ⟨ys, m11, rfl, by simp, hh1, (upd_same (by rw [lock_ne (Ne.symm hja)]; exact upd_self ..)).symm⟩
    · rintro i' m' σ' ⟨zs, m11, rfl, _, _, rfl⟩
      exact ⟨rfl, by rw [Locked, upd_ne hja]⟩
    · rintro i' y m' σ' K hy ⟨zs, m11, rfl, hperm', hh2, rfl⟩ hK
      have hi' : i' < (hp j).length := by
        have := (List.getElem?_eq_some_iff.mp hy).1
        rwa [ofInts_len] at this
      rw [ofInts_get hi'] at hy; cases hy
      have hlen' := hperm'.length_eq
      rw [List.length_append, List.length_take] at hlen'
      simp only [put, mU, List.set_cons_succ, List.set_cons_zero, WS_20, WS_5, Sq_n, WS_1, W_14, WL_2, WL_1, W_4, W_5, List.getElem?_cons_succ, List.getElem?_cons_zero, call_ref]
      refine h28 _ _ _ ⟨a, zs, _, rfl, upd_self .., by omega, hh2, fun us hp1 hp2 => hK.1 _ _ (fg_self ⟨us, _, rfl, ?_, hp2, upd_upd ..⟩)⟩
      rw [take_snoc hi', ← List.append_assoc]
      exact hp1.trans ((hperm'.cons _).trans (List.perm_append_singleton _ _).symm)
    · rintro m' σ' ⟨zs, m11, rfl, hperm', hh2, rfl⟩
      rw [ofInts_len, List.take_length] at hperm'
      rw [unlock_upd_lock (Ne.symm hja), upd_upd]
      refine hK.1 _ _ (fg_self ⟨zs, _, _, rfl, ?_, hh2, rfl⟩)
      rw [hsn, List.map_append, List.flatten_append, ← List.append_assoc]
      simp only [List.map_cons, List.map_nil, List.flatten_cons, List.flatten_nil, List.append_nil]
      exact hperm'.trans (hperm.append_right _)
  · rintro m' σ' ⟨ys, m10, m11, rfl, hperm, hh1, rfl⟩
    rw [ofInts_len, List.take_length] at hperm
    rw [unlock_upd_lock har]
    exact hq ys _ m10 m11 hperm hh1 (((Gb.refl σ).new hr rfl).upd)
end
end Mine
end
section
namespace Mine

noncomputable def gy (p : Int) (ys : List Int) (x : Int) : Int := p + (ys.map fun y => max 0 (-y - x)).sum

theorem perm_sum {l l' : List Int} (h : l.Perm l') : l.sum = l'.sum := by
  induction h with
  | nil => rfl
  | cons a _ ih => simp [ih]
  | swap a b l => simp only [List.sum_cons]; omega
  | trans _ _ i1 i2 => exact i1.trans i2
theorem gy_perm {p : Int} {ys zs : List Int} (h : ys.Perm zs) (x : Int) : gy p ys x = gy p zs x := by unfold gy; rw [perm_sum (h.map _)]

structure Rpl (xs0 : List Int) (P0 h : Int) (i : Nat) (ys : List Int) (p c : Int) : Prop where
  le : ∀ x, gy p ys x ≤ gy P0 xs0 x + i * max 0 (x - h)
  eq : ∀ x, (i = 0 ∨ x ≤ c) → gy p ys x = gy P0 xs0 x + i * max 0 (x - h)
  top : 0 < i → ∀ y ∈ ys, -c ≤ y
  has : -h ∈ ys
  mem : ∀ y ∈ ys, y ∈ xs0
  cm : 0 < i → -c ∈ xs0

theorem hp_min {ys : List Int} (h : Hp ys) : ∀ i, i < ys.length → ys.getD 0 0 ≤ ys.getD i 0 := by
  intro i
  induction i using Nat.strongRecOn with
  | ind i ih =>
    intro hi
    by_cases h0 : i = 0
    · subst h0; exact Int.le_refl _
    · have h1 := ih ((i - 1) / 2) (by omega) (by omega)
      have h2 := h i (by omega) hi
      omega
theorem hp_min_mem {ys : List Int} (h : Hp ys) : ∀ y ∈ ys, ys.getD 0 0 ≤ y := fun y hy => by
  obtain ⟨i, hi, rfl⟩ := List.mem_iff_getElem.mp hy
  have := hp_min h i hi
  rw [List.getD_eq_getElem?_getD (i := i), List.getElem?_eq_getElem hi] at this
  exact this
theorem Rpl.zero {xs : List Int} {P0 h c : Int} (hh : -h ∈ xs) : Rpl xs P0 h 0 xs P0 c :=
  ⟨fun x => by simp, fun x _ => by simp, fun h => absurd h (by omega), hh, fun y hy => hy, fun h => absurd h (by omega)⟩

theorem Rpl.step {xs0 : List Int} {P0 h : Int} {i : Nat} {ys : List Int} {p c : Int} (r : Rpl xs0 P0 h i ys p c) (hp : Hp ys) (hl : 0 < ys.length) {ys' : List Int} (hperm : ys'.Perm (ys.set 0 (-h))) :
    Rpl xs0 P0 h (i + 1) ys' (p + (-(ys.getD 0 0) - h)) (-(ys.getD 0 0)) := by
  have hmin := hp_min_mem hp
  cases ys with
  | nil => simp at hl
  | cons y0 ys =>
    simp only [List.getD_cons_zero] at hmin ⊢
    rw [List.set_cons_zero] at hperm
    have hg : ∀ x, gy (p + (-y0 - h)) ys' x = gy p (y0 :: ys) x + (-y0 - h) - max 0 (-y0 - x) + max 0 (h - x) := fun x => by
      rw [gy_perm hperm]
      unfold gy
      simp only [List.map_cons, List.sum_cons, Int.neg_neg]
      omega
    have hy0 : y0 ≤ -h := hmin _ r.has
    have hm : ∀ x, ((i + 1 : Nat) : Int) * max 0 (x - h) = i * max 0 (x - h) + max 0 (x - h) := fun x => by rw [Int.natCast_add, Int.add_mul]; simp
    refine ⟨fun x => ?_, fun x hx => ?_, fun _ y hy => ?_, ?_, fun y hy => ?_, fun _ => ?_⟩
    · rw [hg, hm]
      have := r.le x
      omega
    · rw [hg, hm]
      have hx' : x ≤ -y0 := by omega
      have : i = 0 ∨ x ≤ c := by
        by_cases h0 : i = 0
        · exact .inl h0
        · have := r.top (by omega) y0 (by simp)
          exact .inr (by omega)
      have := r.eq x this
      omega
    · rcases List.mem_cons.mp (hperm.mem_iff.mp hy) with rfl | hy
      · omega
      · have := hmin y (by simp [hy]); omega
    · exact hperm.mem_iff.mpr (by simp)
    · rcases List.mem_cons.mp (hperm.mem_iff.mp hy) with rfl | hy
      · exact r.mem _ r.has
      · exact r.mem y (by simp [hy])
    · rw [Int.neg_neg]; exact r.mem y0 (by simp)

noncomputable def gk (pd : Int → Int) (bd : Int → List Int) (k x : Int) : Int := pd k + ((bd k).map fun b => max 0 (b - x)).sum

structure UpK (n : Nat) (bel : Int → List Int) (h w : Int → Int) (pd : Int → Int) (bd : Int → List Int) (cr : Int → Int) (k : Int) : Prop where
  le : ∀ x, gk pd bd k x ≤ w k * ((x - h k).natAbs : Int) + ((bel k).map fun j => gk pd bd j x).sum
  eq : ∀ x, x ≤ cr k → gk pd bd k x = w k * ((x - h k).natAbs : Int) + ((bel k).map fun j => gk pd bd j x).sum
  top : ∀ x, cr k ≤ x → gk pd bd k x = pd k
  hts : ∀ b ∈ bd k, ∃ j : Int, 0 ≤ j ∧ j < n ∧ h j = b
  chts : ∃ j : Int, 0 ≤ j ∧ j < n ∧ h j = cr k

theorem gy_flat {pd : Int → Int} {bd hp : Int → List Int} {l : List Int} {x : Int} (hhp : ∀ j ∈ l, (hp j).map (fun y => -y) = bd j) : gy (l.map pd).sum ((l.map hp).flatten) x = (l.map fun j => gk pd bd j x).sum := by
  unfold gy
  induction l with
  | nil => rfl
  | cons j l ih =>
    have := ih fun i hi => hhp i (by simp [hi])
    simp only [List.map_cons, List.sum_cons, List.flatten_cons, List.map_append, List.sum_append]
    unfold gk at this ⊢
    rw [← hhp j (by simp), List.map_map]
    have e : ((hp j).map fun y => max 0 (-y - x)) = (hp j).map ((fun b => max 0 (b - x)) ∘ fun y => -y) := rfl
    rw [e]
    omega

theorem gy_rep {p : Int} {m : Nat} {h : Int} {xs : List Int} {x : Int} : gy p (List.replicate m (-h) ++ xs) x = gy p xs x + m * max 0 (h - x) := by
  unfold gy
  rw [List.map_append, List.sum_append, List.map_replicate]
  have : (List.replicate m (max 0 (- -h - x))).sum = m * max 0 (h - x) := by
    rw [Int.neg_neg]
    induction m with
    | zero => simp
    | succ m ih => rw [List.replicate_succ, List.sum_cons, ih, Int.natCast_add, Int.add_mul]; simp; omega
  rw [this]; omega

theorem upk {n : Nat} {bel : Int → List Int} {h w pd cr : Int → Int} {bd hp : Int → List Int} {k : Int} {xs1 xsm ys : List Int} {p c : Int} (hk : 0 ≤ k ∧ k < n) (hw : 1 ≤ w k)
    (hhp : ∀ j ∈ bel k, (hp j).map (fun y => -y) = bd j) (hne : ∀ j ∈ bel k, j ≠ k) (hts : ∀ j ∈ bel k, ∀ b ∈ bd j, ∃ i : Int, 0 ≤ i ∧ i < n ∧ h i = b)
    (hxm : xsm.Perm ((bel k).map hp).flatten) (hx1 : xs1.Perm (List.replicate (w k).toNat (-(h k)) ++ xsm)) (r : Rpl xs1 ((bel k).map pd).sum (h k) (w k).toNat ys p c) :
    UpK n bel h w (fset pd k p) (fset bd k (ys.map fun y => -y)) (fset cr k c) k := by
  have hg : ∀ x, gk (fset pd k p) (fset bd k (ys.map fun y => -y)) k x = gy p ys x := fun x => by
    unfold gk gy; rw [fset_self, fset_self, List.map_map]; rfl
  have hkids : ∀ x, ((bel k).map fun j => gk (fset pd k p) (fset bd k (ys.map fun y => -y)) j x).sum = ((bel k).map fun j => gk pd bd j x).sum := fun x => by
    congr 1
    refine List.map_congr_left fun j hj => ?_
    unfold gk; rw [fset_ne (hne j hj), fset_ne (hne j hj)]
  have hb : ∀ x, gy ((bel k).map pd).sum xs1 x = ((bel k).map fun j => gk pd bd j x).sum + (w k).toNat * max 0 (h k - x) := fun x => by
    rw [gy_perm hx1, gy_rep, gy_perm hxm, gy_flat hhp]
  have hwn : ((w k).toNat : Int) = w k := by omega
  have hab : ∀ x, w k * max 0 (h k - x) + w k * max 0 (x - h k) = w k * ((x - h k).natAbs : Int) := fun x => by
    rw [← Int.mul_add]; congr 1; omega
  have hmem : ∀ y ∈ xs1, ∃ i : Int, 0 ≤ i ∧ i < n ∧ h i = -y := fun y hy => by
    rcases List.mem_append.mp (hx1.mem_iff.mp hy) with hy | hy
    · exact ⟨k, hk.1, hk.2, by rw [List.eq_of_mem_replicate hy]; omega⟩
    · obtain ⟨l, hl, hyl⟩ := List.mem_flatten.mp (hxm.mem_iff.mp hy)
      obtain ⟨j, hj, rfl⟩ := List.mem_map.mp hl
      exact hts j hj (-y) (by rw [← hhp j hj]; exact List.mem_map.mpr ⟨y, hyl, rfl⟩)
  refine ⟨fun x => ?_, fun x hx => ?_, fun x hx => ?_, fun b hb' => ?_, ?_⟩
  · have h1 := r.le x
    have h2 := hab x
    rw [hg, hkids]
    rw [hb, hwn] at h1
    omega
  · rw [fset_self] at hx
    have h1 := r.eq x (.inr hx)
    have h2 := hab x
    rw [hg, hkids]
    rw [hb, hwn] at h1
    omega
  · rw [fset_self] at hx
    rw [hg, fset_self]
    unfold gy
    have : (ys.map fun y => max 0 (-y - x)).sum = 0 := sum_zero (f := fun y => max 0 (-y - x)) fun y hy => by
      have := r.top (by omega) y hy
      show max 0 (-y - x) = 0
      omega
    rw [this]; omega
  · rw [fset_self] at hb'
    obtain ⟨y, hy, rfl⟩ := List.mem_map.mp hb'
    exact hmem y (r.mem y hy)
  · rw [fset_self]
    obtain ⟨i, h1, h2, h3⟩ := hmem _ (r.cm (by omega))
    exact ⟨i, h1, h2, by rw [h3]; omega⟩

theorem pow_sum : ∀ (d : Nat) (l : List Int) (k : Int), l.Nodup → (∀ j ∈ l, k < j ∧ j ≤ k + d) → (l.map fun j => 2 ^ (k + d - j).toNat).sum + 1 ≤ 2 ^ d := by
  intro d
  induction d with
  | zero =>
    intro l k _ h
    cases l with
    | nil => simp
    | cons j l => have := h j (by simp); omega
  | succ d ih =>
    intro l k hnd h
    have e : ∀ j : Int, k + ((d + 1 : Nat) : Int) - j = (k + 1) + (d : Int) - j := fun j => by omega
    have e2 : (2 : Nat) ^ (d + 1) = 2 ^ d + 2 ^ d := by rw [Nat.pow_succ]; omega
    simp only [e]
    by_cases hm : k + 1 ∈ l
    · have hp := List.perm_cons_erase hm
      have hnd' : (l.erase (k + 1)).Nodup := hnd.erase _
      have h1 := ih (l.erase (k + 1)) (k + 1) hnd' fun j hj => by
        have hj' : j ∈ l := List.mem_of_mem_erase hj
        have hne : j ≠ k + 1 := fun e => by
          subst e; exact (List.Nodup.not_mem_erase hnd) hj
        have := h j hj'
        omega
      have h2 : (l.map fun j => 2 ^ (k + 1 + (d : Int) - j).toNat).sum = 2 ^ d + ((l.erase (k + 1)).map fun j => 2 ^ (k + 1 + (d : Int) - j).toNat).sum := by
        rw [(hp.map _).sum_nat]
        simp only [List.map_cons, List.sum_cons]
        rw [show (k + 1 + (d : Int) - (k + 1)).toNat = d by omega]
      omega
    · have h1 := ih l (k + 1) hnd fun j hj => by
        have := h j hj
        have hne : j ≠ k + 1 := fun e => hm (e ▸ hj)
        omega
      omega
end Mine
end
section
namespace Mine

theorem ws_seq {C : Ctr} {a b : PS} {Q : Post} {m : Mem} {σ : Store} (h : WS C a (Sq (WS C b Q) Q) m σ) : WS C (.seq a b) Q m σ := h

noncomputable def pHeap : PS := .assign 9 (.ite (.tv (.cmp .ne (.sub (.var 0) (.var 3)) (.list .nil))) (.sub (.var 5) (.sub (.sub (.var 0) (.var 3)) (.int 0))) (.list .nil))
noncomputable def pPaid : PS := .setItem (.var 7) (.var 3) (.call (.glob (.blt .sum)) (.cons (.lcomp (.sub (.var 7) (.var 13)) (.sub (.var 0) (.var 3)) .tt) .nil))
noncomputable def pSetH : PS := .setItem (.var 5) (.var 3) (.var 9)
noncomputable def pBends : PS := .setItem (.var 6) (.var 3) (.lcomp (.neg (.var 13)) (.var 9) .tt)

theorem cmp_ne_ref {σ : Store} {a b : Adr} {xs ys : List Int} {Q : Bool → Prop} (h1 : at? σ a = some (.list (ofInts xs))) (h2 : at? σ b = some (.list (ofInts ys))) (hq : Q (decide (xs ≠ ys))) : Cmp .ne (.ref a) (.ref b) Q σ := ⟨xs, ys, h1, h2, hq⟩
theorem bcall_sum {σ : Store} {a : Adr} {xs : List Int} {Q : AV → Store → Prop} (h : at? σ a = some (.list (ofInts xs))) (hq : Q (.int xs.sum) σ) : Bcall .sum [.ref a] Q σ := .sum xs h hq

section
variable {C : Ctr} {bl hh ww x H B P Cc a : Adr} {n : Nat} {bA hA bdA : Int → Adr} {bel hp : Int → List Int} {h w pd cr : Int → Int} {k : Int} {σ : Store} {xs : List Int} {Q : Flw → Mem → Store → Prop} {m9 m10 m11 m12 : Option AV}

theorem pc_heap (hl : n ≤ lim) (h0 : 0 ≤ k) (h1 : k < n) (hbl : at? σ bl = some (.list (tab n fun k => .ref (bA k)))) (hbk : at? σ (bA k) = some (.list (ofInts (bel k)))) (hbkl : (bel k).length ≤ lim) (hH : at? σ H = some (.list (tab n fun k => .ref (hA k)))) (hj : ∀ j ∈ bel k, 0 ≤ j ∧ j < n)
    (hq1 : ∀ j l σ', bel k = j :: l → Gb σ σ' → Q .next (mU bl hh ww (some (.int k)) x H B P Cc (some (.ref (hA j))) m10 m11 m12) σ')
    (hq2 : ∀ a σ', bel k = [] → σ a = none → Gb (upd σ a (.list [])) σ' → Q .next (mU bl hh ww (some (.int k)) x H B P Cc (some (.ref a)) m10 m11 m12) σ') :
    WS C pHeap Q (mU bl hh ww (some (.int k)) x H B P Cc m9 m10 m11 m12) σ := by
  unfold pHeap
  simp only [mU, WS_6, put, W_10, WT_2, W_8, tru_bool, W_12, WL_1, List.length_nil, W_18, W_4, List.getElem?_cons_zero, List.getElem?_cons_succ]
  refine getItem_tab hbl hl h0 h1 ⟨by decide, fun r hr => ?_⟩
  have g := (Gb.refl σ).new (o := .list []) hr rfl
  refine cmp_ne_ref (ys := []) (sub_at g.1 hbk) (at_upd_self _ _ rfl) ?_
  cases e : bel k with
  | nil =>
    rw [decide_eq_false (by simp)]
    simp only [Br_f, W_12, WL_1, List.length_nil, List.length_cons, List.set_cons_succ, List.set_cons_zero]
    refine ⟨by decide, fun a ha => ⟨by simp, hq2 a _ e ?_ ?_⟩⟩
    · cases e' : σ a with
      | none => rfl
      | some o => rw [g.1 _ _ e'] at ha; cases ha
    · exact g.upd
  | cons j l =>
    rw [decide_eq_true (by simp)]
    simp only [Br_t, W_18, W_1, W_4, List.getElem?_cons_succ, List.getElem?_cons_zero, List.length_cons, List.length_nil, List.set_cons_succ, List.set_cons_zero]
    have hjm := hj j (by rw [e]; simp)
    refine getItem_tab (sub_at g.1 hbl) hl h0 h1 ?_
    refine getItem_list (xs := bel k) (k := 0) (sub_at g.1 hbk) hbkl (by rw [e]; simp) ?_
    rw [e]
    refine getItem_tab (sub_at g.1 hH) hl (show 0 ≤ (j :: l).getD 0 0 from hjm.1) hjm.2 ⟨by simp, hq1 j l _ e g⟩

theorem pc_paid (hl : n ≤ lim) (h0 : 0 ≤ k) (h1 : k < n) (hbl : at? σ bl = some (.list (tab n fun k => .ref (bA k)))) (hbk : at? σ (bA k) = some (.list (ofInts (bel k)))) (hbkl : (bel k).length ≤ lim) (hP : σ P = some (.list (tab n fun k => .int (pd k)))) (hbP : bA k ≠ P) (hj : ∀ j ∈ bel k, 0 ≤ j ∧ j < n)
    (hq : ∀ σ', Gb (upd σ P (.list (tab n fun j => .int (fset pd k ((bel k).map pd).sum j)))) σ' → Q .next (mU bl hh ww (some (.int k)) x H B P Cc m9 m10 m11 m12) σ') :
    WS C pPaid Q (mU bl hh ww (some (.int k)) x H B P Cc m9 m10 m11 m12) σ := by
  unfold pPaid
  simp only [mU, WS_8, W_4, W_14, WL_2, WL_1, W_5, call_blt]
  refine w_lcomp ?_
  simp only [W_18, W_4, List.getElem?_cons_zero, List.getElem?_cons_succ]
  refine getItem_tab hbl hl h0 h1 ?_
  refine lc_pure (fun i => ofInts (((bel k).take i).map pd)) (items_list hbk) (by rw [ofInts_len]; exact hbkl) rfl ?_ ?_
  · intro i y hy
    have hi : i < (bel k).length := by
      have := (List.getElem?_eq_some_iff.mp hy).1
      rwa [ofInts_len] at this
    rw [ofInts_get hi] at hy; cases hy
    obtain ⟨j0, j1⟩ := hj _ (getD_mem hi)
    simp only [List.cons_append, List.nil_append, WT_1, LcT_t, W_18, W_4, List.getElem?_cons_succ, List.getElem?_cons_zero]
    refine getItem_tab (f := fun k => .int (pd k)) (by rw [at_lock]; exact at_own hP rfl) hl j0 j1 (lc_end (sub_refl _) ?_)
    rw [take_snoc hi]; unfold ofInts; simp
  · intro r hr
    rw [ofInts_len, List.take_length]
    have g := (Gb.refl σ).new (o := .list (ofInts ((bel k).map pd))) hr rfl
    refine bcall_sum (at_upd_self _ _ rfl) ?_
    simp only [List.getElem?_cons_succ, List.getElem?_cons_zero]
    refine setItem_tab (g.1 _ _ hP) hl h0 h1 ?_
    rw [fset_int]
    exact hq _ g.upd

theorem pc_seth (hl : n ≤ lim) (h0 : 0 ≤ k) (h1 : k < n) (hH : σ H = some (.list (tab n fun k => .ref (hA k)))) (hq : Q .next (mU bl hh ww (some (.int k)) x H B P Cc (some (.ref a)) m10 m11 m12) (upd σ H (.list (tab n fun j => .ref (fset hA k a j))))) :
    WS C pSetH Q (mU bl hh ww (some (.int k)) x H B P Cc (some (.ref a)) m10 m11 m12) σ := by
  unfold pSetH
  simp only [mU, WS_8, W_4, List.getElem?_cons_succ, List.getElem?_cons_zero]
  refine setItem_tab hH hl h0 h1 ?_
  rw [fset_ref]; exact hq

theorem pc_bends (hl : n ≤ lim) (h0 : 0 ≤ k) (h1 : k < n) (ha : σ a = some (.list (ofInts xs))) (hxl : xs.length ≤ lim) (hB : σ B = some (.list (tab n fun k => .ref (bdA k))))
    (hq : ∀ r, σ r = none → Q .next (mU bl hh ww (some (.int k)) x H B P Cc (some (.ref a)) m10 m11 m12) (upd (upd σ r (.list (ofInts (xs.map fun y => -y)))) B (.list (tab n fun j => .ref (fset bdA k r j))))) :
    WS C pBends Q (mU bl hh ww (some (.int k)) x H B P Cc (some (.ref a)) m10 m11 m12) σ := by
  unfold pBends
  simp only [mU, WS_8, W_4]
  refine w_lcomp ?_
  simp only [W_4, List.getElem?_cons_succ, List.getElem?_cons_zero]
  refine lc_pure (fun i => ofInts ((xs.take i).map fun y => -y)) (items_list (at_own ha rfl)) (by rw [ofInts_len]; exact hxl) rfl ?_ ?_
  · intro i y hy
    have hi : i < xs.length := by
      have := (List.getElem?_eq_some_iff.mp hy).1
      rwa [ofInts_len] at this
    rw [ofInts_get hi] at hy; cases hy
    simp only [List.cons_append, List.nil_append, WT_1, LcT_t, W_7, W_4, List.getElem?_cons_succ, List.getElem?_cons_zero]
    refine lc_end (sub_refl _) ?_
    rw [take_snoc hi]; unfold ofInts; simp
  · intro r hr
    rw [ofInts_len, List.take_length]
    refine setItem_tab (by rw [upd_ne (ne_of_none hB hr)]; exact hB) hl h0 h1 ?_
    rw [fset_ref]; exact hq r hr
end
end Mine
end
section
namespace Mine

structure Ins (n : Nat) (bl hh ww : Adr) (bA : Int → Adr) (bel : Int → List Int) (h w : Int → Int) (κ : Store) : Prop where
  hbl : at? κ bl = some (.list (tab n fun k => .ref (bA k)))
  hbk : ∀ k : Int, 0 ≤ k → k < n → at? κ (bA k) = some (.list (ofInts (bel k)))
  hhh : at? κ hh = some (.list (tab n fun k => .int (h k)))
  hww : at? κ ww = some (.list (tab n fun k => .int (w k)))
theorem Ins.mono {n : Nat} {bl hh ww : Adr} {bA : Int → Adr} {bel : Int → List Int} {h w : Int → Int} {κ σ : Store} (s : Sub κ σ) (i : Ins n bl hh ww bA bel h w κ) : Ins n bl hh ww bA bel h w σ :=
  ⟨sub_at s i.hbl, fun k h0 h1 => sub_at s (i.hbk k h0 h1), sub_at s i.hhh, sub_at s i.hww⟩

structure Tree (n : Nat) (bel : Int → List Int) (w : Int → Int) : Prop where
  n8 : n ≤ 8
  rng : ∀ k : Int, 0 ≤ k → k < n → ∀ j ∈ bel k, k < j ∧ j < n
  nd : ∀ k : Int, 0 ≤ k → k < n → (bel k).Nodup
  one : ∀ k q j : Int, 0 ≤ k → k < n → 0 ≤ q → q < n → j ∈ bel k → j ∈ bel q → k = q
  wt : ∀ k : Int, 0 ≤ k → k < n → 1 ≤ w k ∧ w k ≤ 3

structure Lup (n : Nat) (H B P Cc : Adr) (bel : Int → List Int) (h w : Int → Int) (κ : Store) (T : Adr → Nat) (D : List Int) (hA bdA : Int → Adr) (hp bd : Int → List Int) (pd cr : Int → Int) (ρ : Store) : Prop where
  keep : Sub κ ρ
  hH : ρ H = some (.list (tab n fun k => .ref (hA k)))
  hB : ρ B = some (.list (tab n fun k => .ref (bdA k)))
  hP : ρ P = some (.list (tab n fun k => .int (pd k)))
  hC : ρ Cc = some (.list (tab n fun k => .int (cr k)))
  tH : T H = 1
  tB : T B = 2
  tP : T P = 3
  tC : T Cc = 4
  fr : ∀ b o, κ b = some o → T b = 0
  heap : ∀ k ∈ D, (∀ q ∈ D, k ∉ bel q) → ρ (hA k) = some (.list (ofInts (hp k))) ∧ Hp (hp k) ∧ T (hA k) = 5
  bend : ∀ k ∈ D, ρ (bdA k) = some (.list (ofInts (bd k))) ∧ T (bdA k) = 6
  inj : ∀ k ∈ D, (∀ q ∈ D, k ∉ bel q) → ∀ j ∈ D, (∀ q ∈ D, j ∉ bel q) → hA k = hA j → k = j
  neg : ∀ k ∈ D, (hp k).map (fun y => -y) = bd k
  len : ∀ k ∈ D, (hp k).length ≤ 3 * 2 ^ ((n : Int) - 1 - k).toNat
  up : ∀ k ∈ D, UpK n bel h w pd bd cr k
  rng : ∀ k ∈ D, 0 ≤ k ∧ k < n
  cl : ∀ q ∈ D, ∀ j ∈ bel q, j ∈ D

section
variable {C : Ctr} {bl hh ww x H B P Cc a : Adr} {n : Nat} {bA hA bdA : Int → Adr} {bel hp bd : Int → List Int} {h w pd cr : Int → Int} {k : Int} {κ ρ τ σ : Store} {T : Adr → Nat} {D xs : List Int} {Q : Flw → Mem → Store → Prop} {m9 m10 m11 m12 : Option AV}

theorem Lup.agree (L : Lup n H B P Cc bel h w κ T D hA bdA hp bd pd cr ρ) {κ' ρ' : Store} {T' : Adr → Nat} (h1 : ∀ b o, ρ b = some o → T b ≠ 0 → ρ' b = some o) (h2 : ∀ b o, ρ b = some o → T b ≠ 0 → T' b = T b) (h3 : Sub κ' ρ') (h4 : ∀ b o, κ' b = some o → T' b = 0) : Lup n H B P Cc bel h w κ' T' D hA bdA hp bd pd cr ρ' := by
  have e1 : T H ≠ 0 := by rw [L.tH]; decide
  have e2 : T B ≠ 0 := by rw [L.tB]; decide
  have e3 : T P ≠ 0 := by rw [L.tP]; decide
  have e4 : T Cc ≠ 0 := by rw [L.tC]; decide
  refine ⟨h3, h1 _ _ L.hH e1, h1 _ _ L.hB e2, h1 _ _ L.hP e3, h1 _ _ L.hC e4, (h2 _ _ L.hH e1).trans L.tH, (h2 _ _ L.hB e2).trans L.tB, (h2 _ _ L.hP e3).trans L.tP, (h2 _ _ L.hC e4).trans L.tC, h4, fun k hk hu => ?_, fun k hk => ?_, L.inj, L.neg, L.len, L.up, L.rng, L.cl⟩
  · obtain ⟨a, b, c⟩ := L.heap k hk hu
    have e : T (hA k) ≠ 0 := by rw [c]; decide
    exact ⟨h1 _ _ a e, b, (h2 _ _ a e).trans c⟩
  · obtain ⟨a, c⟩ := L.bend k hk
    have e : T (bdA k) ≠ 0 := by rw [c]; decide
    exact ⟨h1 _ _ a e, (h2 _ _ a e).trans c⟩

theorem UpK.congr {pd' cr' : Int → Int} {bd' : Int → List Int} (u : UpK n bel h w pd bd cr k) (e1 : pd' k = pd k) (e2 : bd' k = bd k) (e3 : cr' k = cr k) (e4 : ∀ j ∈ bel k, pd' j = pd j ∧ bd' j = bd j) : UpK n bel h w pd' bd' cr' k := by
  have hg : ∀ x, gk pd' bd' k x = gk pd bd k x := fun x => by unfold gk; rw [e1, e2]
  have hs : ∀ x, ((bel k).map fun j => gk pd' bd' j x).sum = ((bel k).map fun j => gk pd bd j x).sum := fun x => by
    congr 1
    exact List.map_congr_left fun j hj => by unfold gk; rw [(e4 j hj).1, (e4 j hj).2]
  exact ⟨fun x => by rw [hg, hs]; exact u.le x, fun x hx => by rw [hg, hs]; exact u.eq x (by rw [← e3]; exact hx), fun x hx => by rw [hg, e1]; exact u.top x (by rw [← e3]; exact hx), fun b hb => u.hts b (by rw [← e2]; exact hb), by rw [e3]; exact u.chts⟩

noncomputable def pRest (rest : PS) : PS := .seq pMerge (.seq pPaid (.seq pPush (.seq pRep (.seq pSetH (.seq pBends rest)))))
noncomputable def pBody (rest : PS) : PS := .seq pHeap (pRest rest)

theorem kids_len (t : Tree n bel w) (L : Lup n H B P Cc bel h w κ T D hA bdA hp bd pd cr ρ) (h0 : 0 ≤ k) (h1 : k < n) (hk : ∀ j ∈ bel k, j ∈ D) : ((bel k).map fun j => (hp j).length).sum + 3 ≤ 3 * 2 ^ ((n : Int) - 1 - k).toNat := by
  have e := pow_sum ((n : Int) - 1 - k).toNat (bel k) k (t.nd k h0 h1) fun j hj => by have := t.rng k h0 h1 j hj; omega
  have : ((bel k).map fun j => (hp j).length).sum ≤ 3 * ((bel k).map fun j => 2 ^ (k + (((n : Int) - 1 - k).toNat : Int) - j).toNat).sum := by
    have hl : ∀ j ∈ bel k, (hp j).length ≤ 3 * 2 ^ (k + (((n : Int) - 1 - k).toNat : Int) - j).toNat := fun j hj => by
      have := L.len j (hk j hj)
      rw [show k + (((n : Int) - 1 - k).toNat : Int) - j = (n : Int) - 1 - j by omega]; exact this
    clear e hk
    revert hl
    induction bel k with
    | nil => intro _; simp
    | cons j l ih =>
      intro hl
      simp only [List.map_cons, List.sum_cons]
      have h1 := hl j (by simp)
      have h2 := ih fun i hi => hl i (by simp [hi])
      omega
  omega
theorem pow_small (n8 : n ≤ 8) (h0 : 0 ≤ k) : 3 * 2 ^ ((n : Int) - 1 - k).toNat ≤ 384 := by
  have : 2 ^ ((n : Int) - 1 - k).toNat ≤ 2 ^ 7 := Nat.pow_le_pow_right (by decide) (by omega)
  omega
end
end Mine
end
section
namespace Mine
section
variable {C : Ctr} {bl hh ww x H B P Cc a : Adr} {n : Nat} {bA hA bdA : Int → Adr} {bel hp bd : Int → List Int} {h w pd cr : Int → Int} {k : Int} {κ ρ τ σ : Store} {T : Adr → Nat} {D xs : List Int} {Q : Flw → Mem → Store → Prop} {m9 m10 m11 m12 : Option AV}

theorem ne_tag {T : Adr → Nat} {a b : Adr} {i j : Nat} (ha : T a = i) (hb : T b = j) (h : i ≠ j) : a ≠ b := by rintro rfl; exact h (ha.symm.trans hb)

theorem upd3 {σ : Store} {a P : Adr} {x y z : AO} (h : a ≠ P) : upd (upd (upd σ a x) P y) a z = upd (upd σ a z) P y := by
  rw [upd_comm (Ne.symm h), upd_upd]

noncomputable def tput (T : Adr → Nat) (r : Adr) (i : Nat) : Adr → Nat := fun b => if b = r then i else T b
theorem tput_self (T : Adr → Nat) (r : Adr) (i : Nat) : tput T r i r = i := if_pos rfl
theorem tput_ne {T : Adr → Nat} {r b : Adr} {i : Nat} (h : b ≠ r) : tput T r i b = T b := if_neg h

theorem Lup.next (t : Tree n bel w) (L : Lup n H B P Cc bel h w κ T D hA bdA hp bd pd cr ρ) (h0 : 0 ≤ k) (h1 : k < n) (hkD : k ∉ D) (hkids : ∀ j ∈ bel k, j ∈ D) (ha : ρ a = some (.list (ofInts xs))) (hTa : T a = 5)
    (hna : ∀ j ∈ D, (∀ q ∈ D, j ∉ bel q) → hA j = a → j ∈ bel k) {ys : List Int} {p c : Int} {r : Adr} (hr : ρ r = none) (hhp : Hp ys) (hyl : ys.length ≤ 3 * 2 ^ ((n : Int) - 1 - k).toNat) (hu : UpK n bel h w (fset pd k p) (fset bd k (ys.map fun y => -y)) (fset cr k c) k) :
    Lup n H B P Cc bel h w κ (tput T r 6) (D ++ [k]) (fset hA k a) (fset bdA k r) (fset hp k ys) (fset bd k (ys.map fun y => -y)) (fset pd k p) (fset cr k c)
      (upd (upd (upd (upd (upd (upd ρ a (.list (ofInts ys))) P (.list (tab n fun j => .int (fset pd k p j)))) Cc (.list (tab n fun j => .int (fset cr k c j)))) H (.list (tab n fun j => .ref (fset hA k a j)))) r (.list (ofInts (ys.map fun y => -y)))) B (.list (tab n fun j => .ref (fset bdA k r j)))) := by
  have nHr : H ≠ r := ne_of_none L.hH hr
  have nBr : B ≠ r := ne_of_none L.hB hr
  have nPr : P ≠ r := ne_of_none L.hP hr
  have nCr : Cc ≠ r := ne_of_none L.hC hr
  have nar : a ≠ r := ne_of_none ha hr
  have naP : a ≠ P := ne_tag hTa L.tP (by decide)
  have naC : a ≠ Cc := ne_tag hTa L.tC (by decide)
  have naH : a ≠ H := ne_tag hTa L.tH (by decide)
  have naB : a ≠ B := ne_tag hTa L.tB (by decide)
  have nPC : P ≠ Cc := ne_tag L.tP L.tC (by decide)
  have nPH : P ≠ H := ne_tag L.tP L.tH (by decide)
  have nPB : P ≠ B := ne_tag L.tP L.tB (by decide)
  have nCH : Cc ≠ H := ne_tag L.tC L.tH (by decide)
  have nCB : Cc ≠ B := ne_tag L.tC L.tB (by decide)
  have nHB : H ≠ B := ne_tag L.tH L.tB (by decide)
  have oth : ∀ b o1 o2 o3 o4 o5 o6, b ≠ a → b ≠ P → b ≠ Cc → b ≠ H → b ≠ r → b ≠ B → upd (upd (upd (upd (upd (upd ρ a o1) P o2) Cc o3) H o4) r o5) B o6 b = ρ b := fun b o1 o2 o3 o4 o5 o6 e1 e2 e3 e4 e5 e6 => by
    rw [upd_ne e6, upd_ne e5, upd_ne e4, upd_ne e3, upd_ne e2, upd_ne e1]
  have tk : ∀ b o, ρ b = some o → tput T r 6 b = T b := fun b o e => tput_ne (ne_of_none e hr)
  have mem : ∀ j, j ∈ D ++ [k] → j ∈ D ∨ j = k := fun j hj => by simpa using hj
  have hun : ∀ j ∈ D, (∀ q ∈ D ++ [k], j ∉ bel q) → hA j ≠ a := fun j hj hq e => hq k (by simp) (hna j hj (fun q hqD => hq q (List.mem_append_left _ hqD)) e)
  refine ⟨fun b o e => ?_, ?_, upd_self .., ?_, ?_, ?_, ?_, ?_, ?_, fun b o e => ?_, fun j hj hq => ?_, fun j hj => ?_, fun j hj hjq i hi hiq e => ?_, fun j hj => ?_, fun j hj => ?_, fun j hj => ?_, fun j hj => ?_, fun q hq j hj => ?_⟩
  · have e' := L.keep b o e
    have e0 := L.fr b o e
    rw [oth b _ _ _ _ _ _ (ne_tag e0 hTa (by decide)) (ne_tag e0 L.tP (by decide)) (ne_tag e0 L.tC (by decide)) (ne_tag e0 L.tH (by decide)) (ne_of_none e' hr) (ne_tag e0 L.tB (by decide))]; exact e'
  · rw [upd_ne nHB, upd_ne nHr, upd_self]
  · rw [upd_ne nPB, upd_ne nPr, upd_ne nPH, upd_ne nPC, upd_self]
  · rw [upd_ne nCB, upd_ne nCr, upd_ne nCH, upd_self]
  · rw [tk _ _ L.hH]; exact L.tH
  · rw [tk _ _ L.hB]; exact L.tB
  · rw [tk _ _ L.hP]; exact L.tP
  · rw [tk _ _ L.hC]; exact L.tC
  · rw [tk _ _ (L.keep b o e)]; exact L.fr b o e
  · replace hj := mem j hj; rcases hj with hj | rfl
    · have hjk : j ≠ k := fun ee => hkD (ee ▸ hj)
      obtain ⟨e1, e2, e3⟩ := L.heap j hj fun q hqD => hq q (List.mem_append_left _ hqD)
      rw [fset_ne hjk, fset_ne hjk]
      refine ⟨?_, e2, by rw [tk _ _ e1]; exact e3⟩
      rw [oth _ _ _ _ _ _ _ (hun j hj hq) (ne_tag e3 L.tP (by decide)) (ne_tag e3 L.tC (by decide)) (ne_tag e3 L.tH (by decide)) (ne_of_none e1 hr) (ne_tag e3 L.tB (by decide))]; exact e1
    · rw [fset_self, fset_self]
      refine ⟨?_, hhp, by rw [tk _ _ ha]; exact hTa⟩
      rw [upd_ne naB, upd_ne nar, upd_ne naH, upd_ne naC, upd_ne naP, upd_self]
  · replace hj := mem j hj; rcases hj with hj | rfl
    · have hjk : j ≠ k := fun ee => hkD (ee ▸ hj)
      obtain ⟨e1, e3⟩ := L.bend j hj
      rw [fset_ne hjk, fset_ne hjk]
      refine ⟨?_, by rw [tk _ _ e1]; exact e3⟩
      rw [oth _ _ _ _ _ _ _ (ne_tag e3 hTa (by decide)) (ne_tag e3 L.tP (by decide)) (ne_tag e3 L.tC (by decide)) (ne_tag e3 L.tH (by decide)) (ne_of_none e1 hr) (ne_tag e3 L.tB (by decide))]; exact e1
    · rw [fset_self, fset_self]
      exact ⟨by rw [upd_ne (Ne.symm nBr), upd_self], tput_self ..⟩
  · replace hj := mem j hj; rcases hj with hj | rfl
    · have hjk : j ≠ k := fun ee => hkD (ee ▸ hj)
      replace hi := mem i hi; rcases hi with hi | rfl
      · have hik : i ≠ k := fun ee => hkD (ee ▸ hi)
        rw [fset_ne hjk, fset_ne hik] at e
        exact L.inj j hj (fun q hqD => hjq q (List.mem_append_left _ hqD)) i hi (fun q hqD => hiq q (List.mem_append_left _ hqD)) e
      · rw [fset_ne hjk, fset_self] at e
        exact absurd e (hun j hj hjq)
    · replace hi := mem i hi; rcases hi with hi | rfl
      · have hik : i ≠ j := fun ee => hkD (ee ▸ hi)
        rw [fset_self, fset_ne hik] at e
        exact absurd e.symm (hun i hi hiq)
      · rfl
  · replace hj := mem j hj; rcases hj with hj | rfl
    · have hjk : j ≠ k := fun ee => hkD (ee ▸ hj)
      rw [fset_ne hjk, fset_ne hjk]; exact L.neg j hj
    · rw [fset_self, fset_self]
  · replace hj := mem j hj; rcases hj with hj | rfl
    · have hjk : j ≠ k := fun ee => hkD (ee ▸ hj)
      rw [fset_ne hjk]; exact L.len j hj
    · rw [fset_self]; exact hyl
  · replace hj := mem j hj; rcases hj with hj | rfl
    · have hjk : j ≠ k := fun ee => hkD (ee ▸ hj)
      refine (L.up j hj).congr (fset_ne hjk) (fset_ne hjk) (fset_ne hjk) fun i hi => ?_
      have hik : i ≠ k := fun ee => hkD (ee ▸ L.cl j hj i hi)
      exact ⟨fset_ne hik, fset_ne hik⟩
    · exact hu
  · replace hj := mem j hj; rcases hj with hj | rfl
    · exact L.rng j hj
    · exact ⟨h0, h1⟩
  · replace hq := mem q hq; rcases hq with hq | rfl
    · exact List.mem_append_left _ (L.cl q hq j hj)
    · exact List.mem_append_left _ (hkids j hj)

theorem pc_rest {rest : PS} (h28 : ∀ args Q σ, S28 args Q σ → C 28 args Q σ) (h35 : ∀ args Q σ, S35 args Q σ → C 35 args Q σ) (I : Ins n bl hh ww bA bel h w κ) (t : Tree n bel w) (L : Lup n H B P Cc bel h w κ T D hA bdA hp bd pd cr ρ) (hd : Dj τ ρ) (hn : Nf ρ) (g : Gb (join τ ρ) σ)
    (h0 : 0 ≤ k) (h1 : k < n) (hkD : k ∉ D) (hkids : ∀ j ∈ bel k, j ∈ D) (ha : ρ a = some (.list (ofInts xs))) (hTa : T a = 5) (hhp : Hp xs) (hx : xs ++ ((bel k).tail.map hp).flatten = ((bel k).map hp).flatten)
    (hna : ∀ j ∈ D, (∀ q ∈ D, j ∉ bel q) → hA j = a → j ∈ bel k ∧ j ∉ (bel k).tail)
    (hq : ∀ T' hA' bdA' hp' bd' pd' cr' ρ' σ' m9 m10 m11 m12, Lup n H B P Cc bel h w κ T' (D ++ [k]) hA' bdA' hp' bd' pd' cr' ρ' → Dj τ ρ' → Nf ρ' → Gb (join τ ρ') σ' → WS C rest Q (mU bl hh ww (some (.int k)) x H B P Cc m9 m10 m11 m12) σ') :
    WS C (pRest rest) Q (mU bl hh ww (some (.int k)) x H B P Cc (some (.ref a)) m10 m11 m12) σ := by
  have hlim : (1000 : Nat) ≤ lim := by decide
  have hn8 := t.n8
  have hl : n ≤ lim := by omega
  have hkl := kids_len t L h0 h1 hkids
  have hps := pow_small (k := k) t.n8 h0
  have hun : ∀ j ∈ bel k, ∀ q ∈ D, j ∉ bel q := fun j hj q hq hm => by
    have := t.one k q j h0 h1 (L.rng q hq).1 (L.rng q hq).2 hj hm
    exact hkD (this ▸ hq)
  have nbl : (bel k).length ≤ 8 := by
    have := (t.nd k h0 h1).length_le_of_subset (l₂ := tab n fun i => i) fun j hj => by
      have := t.rng k h0 h1 j hj
      unfold tab; exact List.mem_map.mpr ⟨j.toNat, List.mem_range.mpr (by omega), by simp; omega⟩
    rw [tab_len] at this; omega
  have zk : ∀ b o, at? κ b = some o → T b = 0 := fun b o e => by
    obtain ⟨o', ho'⟩ := at_some e; exact L.fr b o' ho'
  have naP : a ≠ P := ne_tag hTa L.tP (by decide)
  have naC : a ≠ Cc := ne_tag hTa L.tC (by decide)
  have naH : a ≠ H := ne_tag hTa L.tH (by decide)
  have naB : a ≠ B := ne_tag hTa L.tB (by decide)
  have nPC : P ≠ Cc := ne_tag L.tP L.tC (by decide)
  have nPH : P ≠ H := ne_tag L.tP L.tH (by decide)
  have nPB : P ≠ B := ne_tag L.tP L.tB (by decide)
  have nCH : Cc ≠ H := ne_tag L.tC L.tH (by decide)
  have nCB : Cc ≠ B := ne_tag L.tC L.tB (by decide)
  have nHB : H ≠ B := ne_tag L.tH L.tB (by decide)
  have nha : hh ≠ a := ne_tag (zk _ _ I.hhh) hTa (by decide)
  have nhP : hh ≠ P := ne_tag (zk _ _ I.hhh) L.tP (by decide)
  have nhC : hh ≠ Cc := ne_tag (zk _ _ I.hhh) L.tC (by decide)
  have nwa : ww ≠ a := ne_tag (zk _ _ I.hww) hTa (by decide)
  have nwP : ww ≠ P := ne_tag (zk _ _ I.hww) L.tP (by decide)
  have nba : bl ≠ a := ne_tag (zk _ _ I.hbl) hTa (by decide)
  have nbka : bA k ≠ a := ne_tag (zk _ _ (I.hbk k h0 h1)) hTa (by decide)
  have nbkP : bA k ≠ P := ne_tag (zk _ _ (I.hbk k h0 h1)) L.tP (by decide)
  have s0 : Sub ρ σ := sub_trans (join_sub hd) g.1
  have I0 := I.mono (sub_trans L.keep s0)
  have hw := t.wt k h0 h1
  have hxl := congrArg List.length hx
  rw [List.length_append, List.length_flatten, List.length_flatten, List.map_map, List.map_map] at hxl
  have hxl : xs.length + ((bel k).tail.map fun j => (hp j).length).sum = ((bel k).map fun j => (hp j).length).sum := hxl
  unfold pRest
  refine ws_seq (pc_merge (hp := hp) h28 hl h0 h1 I0.hbl (I0.hbk k h0 h1) (by omega) (s0 _ _ L.hH) (s0 _ _ ha) hhp naH ?_ (by omega) fun xsm σ₂ m10 m11 hxm hhm g₂ => ?_)
  · intro j hj
    have hjb : j ∈ bel k := List.mem_of_mem_tail hj
    have hjr := t.rng k h0 h1 j hjb
    refine ⟨by omega, by omega, s0 _ _ (L.heap j (hkids j hjb) (hun j hjb)).1, fun e => ?_⟩
    exact (hna j (hkids j hjb) (hun j hjb) e).2 hj
  rw [hx] at hxm
  have g₂' : Gb (upd (join τ ρ) a (.list (ofInts xsm))) σ₂ := g.upd.trans g₂
  refine ws_seq (pc_paid (pd := pd) hl h0 h1 (sub_at g₂.1 (by rw [at_upd_ne nba]; exact I0.hbl)) (sub_at g₂.1 (by rw [at_upd_ne nbka]; exact I0.hbk k h0 h1)) (by omega) (g₂.1 _ _ (by rw [upd_ne (Ne.symm naP)]; exact s0 _ _ L.hP)) nbkP (fun j hj => by have := t.rng k h0 h1 j hj; omega) fun σ₃ g₃ => ?_)
  have g₃' := g₂'.upd.trans g₃
  have a3 : ∀ b, b ≠ a → b ≠ P → ∀ o, at? σ b = some o → at? σ₃ b = some o := fun b e1 e2 o ho => sub_at g₃.1 (by rw [at_upd_ne e2]; exact sub_at g₂.1 (by rw [at_upd_ne e1]; exact ho))
  have hxml := hxm.length_eq
  rw [List.length_flatten, List.map_map] at hxml
  have hxml : xsm.length = ((bel k).map fun j => (hp j).length).sum := hxml
  refine ws_seq (pc_push h28 hl h0 h1 (a3 _ nha nhP _ I0.hhh) (a3 _ nwa nwP _ I0.hww) (xs := xsm) (g₃.1 _ _ (by rw [upd_ne naP]; exact g₂.1 _ _ (upd_self ..))) hhm nha (by omega) (by omega) fun xs1 σ₄ m12 hx1 hh1 g₄ => ?_)
  have g₄' := g₃'.upd.trans g₄
  rw [upd3 naP] at g₄'
  have hx1l := hx1.length_eq
  rw [List.length_append, List.length_replicate] at hx1l
  have hmem : -(h k) ∈ xs1 := hx1.mem_iff.mpr (List.mem_append_left _ (List.mem_replicate.mpr ⟨by omega, rfl⟩))
  have a4 : ∀ b, b ≠ a → b ≠ P → ∀ o, at? σ b = some o → at? σ₄ b = some o := fun b e1 e2 o ho => sub_at g₄.1 (by rw [at_upd_ne e1]; exact a3 b e1 e2 o ho)
  have hC4 : σ₄ Cc = some (.list (tab n fun k => .int (cr k))) := g₄.1 _ _ (by rw [upd_ne (Ne.symm naC)]; exact g₃.1 _ _ (by rw [upd_ne (Ne.symm nPC)]; exact g₂.1 _ _ (by rw [upd_ne (Ne.symm naC)]; exact s0 _ _ L.hC)))
  have hP4 : σ₄ P = some (.list (tab n fun j => .int (fset pd k ((bel k).map pd).sum j))) := g₄.1 _ _ (by rw [upd_ne (Ne.symm naP)]; exact g₃.1 _ _ (upd_self ..))
  refine ws_seq (pc_rep h35 (pd := fset pd k ((bel k).map pd).sum) (Rpl xs1 ((bel k).map pd).sum (h k)) hl h0 h1 (a4 _ nha nhP _ I0.hhh) (a4 _ nwa nwP _ I0.hww) (xs := xs1) (g₄.1 _ _ (upd_self ..)) hh1 hP4 hC4 nha nhP nhC naP naC nPC (by omega) (by omega) (by omega) (by omega)
    (by rw [fset_self]; exact Rpl.zero hmem) (fun i ys p c r hpy hl0 ys' hperm _ => r.step hpy hl0 hperm) fun ys p c σ₅ m12 hR hhy hyl g₅ => ?_)
  simp only [fset_fset] at g₅
  have g₅' := g₄'.upd.upd.upd.trans g₅
  have e5 : ∀ (J : Store) u1 u2 u3 u4 u5, upd (upd (upd (upd (upd J a u1) P u2) a u3) P u4) Cc u5 = upd (upd (upd J a u3) P u4) Cc u5 := fun J u1 u2 u3 u4 u5 => by rw [upd3 naP, upd_upd]
  rw [e5] at g₅'
  have hH5 : σ₅ H = some (.list (tab n fun k => .ref (hA k))) := g₅'.1 _ _ (by rw [upd_ne (Ne.symm nCH), upd_ne (Ne.symm nPH), upd_ne (Ne.symm naH)]; exact join_rd hd L.hH)
  refine ws_seq (pc_seth hl h0 h1 hH5 ?_)
  have g₆' := g₅'.upd (r := H) (o := .list (tab n fun j => .ref (fset hA k a j)))
  refine ws_seq (pc_bends (xs := ys) (bdA := bdA) hl h0 h1 (g₆'.1 _ _ (by rw [upd_ne naH, upd_ne naC, upd_ne naP, upd_self])) (by omega) (g₆'.1 _ _ (by rw [upd_ne (Ne.symm nHB), upd_ne (Ne.symm nCB), upd_ne (Ne.symm nPB), upd_ne (Ne.symm naB)]; exact join_rd hd L.hB)) fun r hr => ?_)
  have g₇' := (g₆'.upd (r := r) (o := .list (ofInts (ys.map fun y => -y)))).upd (r := B) (o := .list (tab n fun j => .ref (fset bdA k r j)))
  have hrJ : join τ ρ r = none := by
    have e1 : r ≠ a := Ne.symm (ne_of_none (g₆'.1 a (.list (ofInts ys)) (by rw [upd_ne naH, upd_ne naC, upd_ne naP, upd_self])) hr)
    have e2 : r ≠ P := Ne.symm (ne_of_none (g₆'.1 P _ (by rw [upd_ne nPH, upd_ne nPC, upd_self])) hr)
    have e3 : r ≠ Cc := Ne.symm (ne_of_none (g₆'.1 Cc _ (by rw [upd_ne nCH, upd_self])) hr)
    have e4 : r ≠ H := Ne.symm (ne_of_none (upd_self ..) hr)
    cases e : join τ ρ r with
    | none => rfl
    | some o => rw [g₆'.1 r o (by rw [upd_ne e4, upd_ne e3, upd_ne e2, upd_ne e1]; exact e)] at hr; cases hr
  obtain ⟨hτr, hρr⟩ := join_none hrJ
  have tτ : ∀ b o, ρ b = some o → τ b = none := fun b o e => hd b o e
  have ta := tτ _ _ ha
  have tP := tτ _ _ L.hP
  have tC := tτ _ _ L.hC
  have tH := tτ _ _ L.hH
  have tB := tτ _ _ L.hB
  have hu : UpK n bel h w (fset pd k p) (fset bd k (ys.map fun y => -y)) (fset cr k c) k :=
    upk ⟨h0, h1⟩ hw.1 (fun j hj => L.neg j (hkids j hj)) (fun j hj e => by have := t.rng k h0 h1 j hj; omega) (fun j hj => (L.up j (hkids j hj)).hts) hxm hx1 hR
  have L' := L.next t h0 h1 hkD hkids ha hTa (fun j hj hjq e => (hna j hj hjq e).1) (ys := ys) (p := p) (c := c) hρr hhy (by omega) hu
  refine hq _ _ _ _ _ _ _ _ _ _ _ _ _ L' ?_ ?_ ?_
  · exact (((((hd.upd ta).upd tP).upd tC).upd tH).upd hτr).upd tB
  · exact (((((hn.upd rfl).upd rfl).upd rfl).upd rfl).upd rfl).upd rfl
  · rw [← join_upd tB, ← join_upd hτr, ← join_upd tH, ← join_upd tC, ← join_upd tP, ← join_upd ta]
    exact g₇'
end
end Mine
end
section
namespace Mine
section
variable {C : Ctr} {bl hh ww x H B P Cc a : Adr} {n : Nat} {bA hA bdA : Int → Adr} {bel hp bd : Int → List Int} {h w pd cr : Int → Int} {k : Int} {κ ρ τ σ : Store} {T : Adr → Nat} {D xs : List Int} {Q : Flw → Mem → Store → Prop} {m9 m10 m11 m12 : Option AV}

theorem pc_body {rest : PS} (h28 : ∀ args Q σ, S28 args Q σ → C 28 args Q σ) (h35 : ∀ args Q σ, S35 args Q σ → C 35 args Q σ) (I : Ins n bl hh ww bA bel h w κ) (t : Tree n bel w) (L : Lup n H B P Cc bel h w κ T D hA bdA hp bd pd cr ρ) (hd : Dj τ ρ) (hn : Nf ρ)
    (h0 : 0 ≤ k) (h1 : k < n) (hkD : k ∉ D) (hkids : ∀ j ∈ bel k, j ∈ D)
    (hq : ∀ T' hA' bdA' hp' bd' pd' cr' ρ' σ' m9 m10 m11 m12, Lup n H B P Cc bel h w κ T' (D ++ [k]) hA' bdA' hp' bd' pd' cr' ρ' → Dj τ ρ' → Nf ρ' → Gb (join τ ρ') σ' → WS C rest Q (mU bl hh ww (some (.int k)) x H B P Cc m9 m10 m11 m12) σ') :
    WS C (pBody rest) Q (mU bl hh ww (some (.int k)) x H B P Cc m9 m10 m11 m12) (join τ ρ) := by
  have hlim : (1000 : Nat) ≤ lim := by decide
  have hn8 := t.n8
  have s0 : Sub ρ (join τ ρ) := join_sub hd
  have I0 := I.mono (sub_trans L.keep s0)
  have nbl : (bel k).length ≤ 8 := by
    have := (t.nd k h0 h1).length_le_of_subset (l₂ := tab n fun i => i) fun j hj => by
      have := t.rng k h0 h1 j hj
      unfold tab; exact List.mem_map.mpr ⟨j.toNat, List.mem_range.mpr (by omega), by simp; omega⟩
    rw [tab_len] at this; omega
  have hun : ∀ j ∈ bel k, ∀ q ∈ D, j ∉ bel q := fun j hj q hq hm => by
    have := t.one k q j h0 h1 (L.rng q hq).1 (L.rng q hq).2 hj hm
    subst this; exact hkD hq
  unfold pBody
  refine ws_seq (pc_heap (by omega) h0 h1 I0.hbl (I0.hbk k h0 h1) (by omega) (at_own (s0 _ _ L.hH) rfl) (fun j hj => by have := t.rng k h0 h1 j hj; omega) (fun j l σ' e g => ?_) fun a σ' e ha g => ?_)
  · have hj : j ∈ bel k := by rw [e]; simp
    obtain ⟨e1, e2, e3⟩ := L.heap j (hkids j hj) (hun j hj)
    refine pc_rest h28 h35 I t L hd hn g h0 h1 hkD hkids e1 e3 e2 ?_ ?_ hq
    · rw [e]; simp
    · intro i hi hiq he
      have := L.inj i hi hiq j (hkids j hj) (hun j hj) he
      subst this
      refine ⟨hj, ?_⟩
      have := t.nd k h0 h1
      rw [e] at this ⊢
      exact (List.nodup_cons.mp this).1
  · obtain ⟨ha1, ha2⟩ := join_none ha
    have L1 : Lup n H B P Cc bel h w κ (tput T a 5) D hA bdA hp bd pd cr (upd ρ a (.list [])) := L.agree (fun b o e _ => sub_upd (sub_refl ρ) ha2 _ _ e) (fun b o e _ => tput_ne (ne_of_none e ha2)) (sub_upd L.keep ha2) (fun b o e => by rw [tput_ne (ne_of_none (L.keep b o e) ha2)]; exact L.fr b o e)
    rw [join_upd ha1] at g
    refine pc_rest h28 h35 I t L1 (hd.upd ha1) (hn.upd rfl) g h0 h1 hkD hkids (xs := []) (upd_self ..) (tput_self ..) ?_ ?_ ?_ hq
    · intro i hi hl; simp at hl
    · rw [e]; simp
    · intro i hi hiq he
      have := (L.heap i hi hiq).1
      rw [he, ha2] at this; cases this
end

theorem mem_insAll {ks ps : List Int} {k : Int} : k ∈ insAll ks ps ↔ k ∈ ks ∨ k ∈ ps := by
  unfold insAll
  induction ps generalizing ks with
  | nil => simp
  | cons p ps ih =>
    rw [List.foldl_cons, ih]
    have : k ∈ ins ks p ↔ k ∈ ks ∨ k = p := by
      unfold ins; split
      · constructor
        · exact .inl
        · rintro (h | rfl)
          · exact h
          · assumption
      · simp
    rw [this]; simp [or_assoc]
theorem mem_ins {ks : List Int} {k p : Int} : k ∈ ins ks p ↔ k ∈ ks ∨ k = p := by
  have := mem_insAll (ks := ks) (ps := [p]) (k := k)
  simpa [insAll] using this
theorem mem_scAdd {sc : Int → List Int} {a j p : Int} {ps : List Int} : j ∈ scAdd sc a ps p ↔ j ∈ sc p ∨ (j = a ∧ p ∈ ps) := by
  unfold scAdd
  induction ps generalizing sc with
  | nil => simp
  | cons q ps ih =>
    rw [List.foldl_cons, ih]
    by_cases h : p = q
    · subst h; rw [fset_self]
      constructor
      · rintro (h | h)
        · rcases List.mem_append.mp h with h | h
          · exact .inl h
          · exact .inr ⟨List.mem_singleton.mp h, by simp⟩
        · exact .inr ⟨h.1, by simp⟩
      · rintro (h | h)
        · exact .inl (List.mem_append_left _ h)
        · exact .inl (List.mem_append_right _ (by simp [h.1]))
    · rw [fset_ne h]; simp [h]
theorem mem_gks {adds : List (Int × List Int)} {k : Int} : k ∈ gks adds ↔ ∃ a ∈ adds, k = a.1 ∨ k ∈ a.2 := by
  refine snoc_ind (P := fun adds => k ∈ gks adds ↔ ∃ a ∈ adds, k = a.1 ∨ k ∈ a.2) (by simp [gks]) (fun l a ih => ?_) adds
  rw [gks_snoc, mem_insAll, mem_ins, ih]
  constructor
  · rintro ((⟨b, hb, h⟩ | h) | h)
    · exact ⟨b, by simp [hb], h⟩
    · exact ⟨a, by simp, .inl h⟩
    · exact ⟨a, by simp, .inr h⟩
  · rintro ⟨b, hb, h⟩
    rcases List.mem_append.mp hb with hb | hb
    · exact .inl (.inl ⟨b, hb, h⟩)
    · rw [List.mem_singleton.mp hb] at h
      rcases h with h | h
      · exact .inl (.inr h)
      · exact .inr h
theorem mem_gsc {adds : List (Int × List Int)} {j p : Int} : j ∈ gsc adds p ↔ ∃ a ∈ adds, j = a.1 ∧ p ∈ a.2 := by
  refine snoc_ind (P := fun adds => j ∈ gsc adds p ↔ ∃ a ∈ adds, j = a.1 ∧ p ∈ a.2) (by simp [gsc]) (fun l a ih => ?_) adds
  rw [gsc_snoc, mem_scAdd, ih]
  constructor
  · rintro (⟨b, hb, h⟩ | h)
    · exact ⟨b, by simp [hb], h⟩
    · exact ⟨a, by simp, h⟩
  · rintro ⟨b, hb, h⟩
    rcases List.mem_append.mp hb with hb | hb
    · exact .inl ⟨b, hb, h⟩
    · rw [List.mem_singleton.mp hb] at h
      exact .inr h

theorem mem_tab {α : Type} {n : Nat} {f : Int → α} {y : α} : y ∈ tab n f ↔ ∃ k : Int, 0 ≤ k ∧ k < n ∧ f k = y := by
  unfold tab
  rw [List.mem_map]
  constructor
  · rintro ⟨i, hi, rfl⟩; exact ⟨i, by omega, by have := List.mem_range.mp hi; omega, rfl⟩
  · rintro ⟨k, h0, h1, rfl⟩; exact ⟨k.toNat, List.mem_range.mpr (by omega), by congr 1; omega⟩

theorem w_lists {C : Ctr} {Q : AV → Mem → Store → Prop} {m : Mem} {σ : Store} {i : Nat} {hh : Adr} {vs : List AV} {n : Nat} (hm : m[i]? = some (some (.ref hh))) (hhh : at? σ hh = some (.list vs)) (hlen : vs.length = n) (hl : n ≤ lim)
    (hq : ∀ (f : Int → Adr) σ' r, Gb σ σ' → (∀ k : Int, 0 ≤ k → k < n → σ (f k) = none ∧ σ' (f k) = some (.list [])) → (∀ k j : Int, 0 ≤ k → k < n → 0 ≤ j → j < n → f k = f j → k = j) → σ' r = none → Q (.ref r) m (upd σ' r (.list (tab n fun k => .ref (f k))))) :
    W C (.lcomp (.list .nil) (.var i) .tt) Q m σ := by
  refine w_lcomp ?_
  simp only [W_4, hm]
  obtain ⟨oh, hoh⟩ := at_some hhh
  have hL := lock_self hoh
  refine ⟨vs, some hh, items_list hhh, by omega, fun i acc σ' => ∃ (f : Int → Adr), An4 (acc = tab i (fun k => .ref (f k))) (Gb (lock σ (some hh)) σ') (∀ k : Int, 0 ≤ k → k < i → σ (f k) = none ∧ σ' (f k) = some (.list [])) (∀ k j : Int, 0 ≤ k → k < i → 0 ≤ j → j < i → f k = f j → k = j), ?_, ?_, ?_, ?_⟩
  · exact ⟨fun _ => 0, rfl, Gb.refl _, fun k h0 h1 => by omega, fun k j h0 h1 => by omega⟩
  · rintro i acc σ' ⟨f, rfl, g, _⟩
    rw [Locked, hL]; exact g.1 _ _ hL
  · rintro i y acc σ' hy ⟨f, rfl, g, hf, hinj⟩ _
    simp only [WT_1, LcT_t, W_12, WL_1, List.length_nil]
    refine ⟨by decide, fun r hr => fg_self ⟨fset f i r, ?_, g.new hr rfl, fun k h0 h1 => ?_, fun k j a1 a2 a3 a4 e => ?_⟩⟩
    · rw [tab_snoc, fset_self]
      congr 1
      exact tab_congr fun k h0 h1 => by rw [fset_ne (by omega)]
    · by_cases hk : k = i
      · subst hk
        rw [fset_self]
        refine ⟨?_, upd_self ..⟩
        cases e : σ r with
        | none => rfl
        | some o =>
          by_cases hrh : r = hh
          · subst hrh; rw [g.1 _ _ hL] at hr; cases hr
          · rw [g.1 r o (by rw [lock_ne hrh]; exact e)] at hr; cases hr
      · rw [fset_ne hk]
        have := hf k h0 (by omega)
        exact ⟨this.1, by rw [upd_ne (ne_of_none this.2 hr)]; exact this.2⟩
    · by_cases hk : k = i
      · subst hk
        by_cases hj : j = i
        · exact hj.symm
        · rw [fset_self, fset_ne hj] at e
          exact absurd e.symm (ne_of_none (hf j a3 (by omega)).2 hr)
      · rw [fset_ne hk] at e
        by_cases hj : j = i
        · subst hj; rw [fset_self] at e
          exact absurd e (ne_of_none (hf k a1 (by omega)).2 hr)
        · rw [fset_ne hj] at e
          exact hinj k j a1 (by omega) a3 (by omega) e
  · rintro acc σ' ⟨f, rfl, g, hf, hinj⟩ _ r hr
    rw [hlen] at hf hinj ⊢
    refine hq f _ r ⟨fun b o e => ?_, fun b o e no => ?_⟩ (fun k h0 h1 => ⟨(hf k h0 h1).1, ?_⟩) hinj hr
    · by_cases hb : b = hh
      · subst hb; rw [unlock_self]; exact e
      · rw [unlock_ne hb]; exact g.1 _ _ (by rw [lock_ne hb]; exact e)
    · by_cases hb : b = hh
      · subst hb; rw [unlock_self] at e; exact e
      · rw [unlock_ne hb] at e
        have := g.2 b o e no
        rw [lock_ne hb] at this; exact this
    · have := hf k h0 h1
      have hne : f k ≠ hh := by intro e; rw [e, hoh] at this; cases this.1
      rw [unlock_ne hne]; exact this.2
theorem w_zeros {C : Ctr} {Q : AV → Mem → Store → Prop} {m : Mem} {σ : Store} {i : Nat} {hh : Adr} {vs : List AV} {n : Nat} (hm : m[i]? = some (some (.ref hh))) (hhh : at? σ hh = some (.list vs)) (hlen : vs.length = n) (hl : n ≤ lim)
    (hq : ∀ r, σ r = none → Q (.ref r) m (upd σ r (.list (tab n fun _ => .int 0)))) :
    W C (.lcomp (.int 0) (.var i) .tt) Q m σ := by
  refine w_lcomp ?_
  simp only [W_4, hm]
  refine lc_pure (fun i => tab i fun _ => .int 0) (items_list hhh) (by omega) rfl (fun i y hy => ?_) fun r hr => ?_
  · simp only [WT_1, LcT_t, W_1]
    exact lc_end (sub_refl _) (tab_snoc ..).symm
  · rw [hlen]; exact hq r hr
end Mine
end
section
namespace Mine

theorem lock_tup {τ ρ : Store} {t : Adr} {o : AO} (ht : τ t = none) : lock (join τ (upd ρ t o)) (some t) = join τ (upd ρ t (.ro o.rd)) := by
  funext a
  by_cases ha : a = t
  · subst ha
    rw [lock_self (o := o) (by rw [join_r ht, upd_self]), join_r ht, upd_self]
  · rw [lock_ne ha]
    cases e : τ a with
    | some q => rw [join_l e, join_l e]
    | none => rw [join_r e, join_r e, upd_ne ha, upd_ne ha]

noncomputable def pDone : PS := .seq (.expr (.mcall (.var 4) .done (.cons (.var 3) .nil))) .skip
noncomputable def pUp : PS := .loop (.tv (.mcall (.var 4) .isactive .nil)) (.seq (.each 3 (.mcall (.var 4) .getready .nil) (pBody pDone)) .skip) .skip

section
variable {C : Ctr} {bl hh ww x H B P Cc a : Adr} {n : Nat} {bA hA bdA : Int → Adr} {bel hp bd : Int → List Int} {h w pd cr : Int → Int} {k : Int} {κ ρ τ σ : Store} {T : Adr → Nat} {D xs : List Int} {Q : Flw → Mem → Store → Prop} {m3 m9 m10 m11 m12 : Option AV}

theorem pc_up (h28 : ∀ args Q σ, S28 args Q σ → C 28 args Q σ) (h35 : ∀ args Q σ, S35 args Q σ → C 35 args Q σ) (h134 : ∀ args Q σ, ClS S134 args Q σ → C 134 args Q σ) (h127 : ∀ args Q σ, ClS S127 args Q σ → C 127 args Q σ) (h148 : ∀ args Q σ, ClS S148 args Q σ → C 148 args Q σ)
    (I : Ins n bl hh ww bA bel h w κ) (t : Tree n bel w) (L : Lup n H B P Cc bel h w κ T [] hA bdA hp bd pd cr ρ) (hd : Dj τ ρ) (hn : Nf ρ) {ks : List Int} {sc : Int → List Int} {Rl : List Int} {rk : Int → Nat} (s : Srt x ks sc [] [] Rl τ)
    (hks : ∀ k : Int, k ∈ ks ↔ 0 ≤ k ∧ k < n) (hsc : ∀ k j : Int, 0 ≤ k → k < n → j ∈ bel k → k ∈ sc j) (hrk : ∀ p ∈ ks, ∀ j ∈ sc p, rk p < rk j)
    (hq : ∀ T D hA bdA hp bd pd cr τ ρ m3 m9 m10 m11 m12, (∀ k : Int, 0 ≤ k → k < n → k ∈ D) → Lup n H B P Cc bel h w κ T D hA bdA hp bd pd cr ρ → Dj τ ρ → Nf ρ → Q .next (mU bl hh ww m3 x H B P Cc m9 m10 m11 m12) (join τ ρ)) :
    WS C pUp Q (mU bl hh ww m3 x H B P Cc m9 m10 m11 m12) (join τ ρ) := by
  have hlim : (1000 : Nat) ≤ lim := by decide
  unfold pUp
  refine ws_loop (fun k m σ => Ex16 fun T D Rl hA bdA hp bd pd cr τ ρ m3 m9 m10 m11 m12 => An7 (m = mU bl hh ww m3 x H B P Cc m9 m10 m11 m12) (σ = join τ ρ) (Dj τ ρ) (Nf ρ) (Srt x ks sc D [] Rl τ) (Lup n H B P Cc bel h w κ T D hA bdA hp bd pd cr ρ) (k + D.length = ks.length))
    (n := ks.length) ⟨T, [], Rl, hA, bdA, hp, bd, pd, cr, τ, ρ, m3, m9, m10, m11, m12, rfl, rfl, hd, hn, s, L, by simp⟩ ?_
  rintro N m σ K₀ ⟨T, D, Rl, hA, bdA, hp, bd, pd, cr, τ, ρ, m3, m9, m10, m11, m12, rfl, rfl, hd, hn, s, L, hN⟩ hK₀
  simp only [WT_2, W_15, W_4, WL_1, mU, List.getElem?_cons_zero, List.getElem?_cons_succ]
  refine ⟨by obtain ⟨d, l, e1, e2⟩ := s.inst; rw [mk_inst (join_l e1) (join_l e2)]; rfl, by trivial, (mcall_srt s.inst rfl (call134 h134 s hd hn ?_)).2⟩
  rw [tru_bool]
  cases Rl with
  | nil =>
    show WS C .skip Q _ _
    simp only [Sq_n, WS_1]
    obtain ⟨d, nn, r, ad, sl, np, R, ow, hr, hne, st⟩ := s
    have := st.all hrk
    exact hq T D hA bdA hp bd pd cr τ ρ _ _ _ _ _ (fun k h0 h1 => this k ((hks k).mpr ⟨h0, h1⟩)) L hd hn
  | cons r0 Rl0 =>
    show WS C (.seq _ _) _ _ _
    have hRl0 : 0 < (r0 :: Rl0).length := by simp
    generalize r0 :: Rl0 = Rl at *
    have hst : ∃ np, Sts ks sc D [] Rl np := by
      obtain ⟨d, nn, r, ad, sl, np, R, ow, hr, hne, st⟩ := s; exact ⟨np, st⟩
    obtain ⟨np, st⟩ := hst
    have hrl := st.rlen
    have hkl := st.kl
    refine ws_seq (ws_each ?_)
    simp only [W_15, W_4, WL_1, mU, List.getElem?_cons_zero, List.getElem?_cons_succ]
    refine ⟨by obtain ⟨d, l, e1, e2⟩ := s.inst; rw [mk_inst (join_l e1) (join_l e2)]; rfl, by trivial, (mcall_srt s.inst rfl (call127 h127 s hd hn fun τ₁ tt s₁ hd₁ ht1 ht2 => ?_)).2⟩
    have htup : join τ₁ (upd ρ tt (.tuple (ofInts Rl))) tt = some (.tuple (ofInts Rl)) := by rw [join_r ht1, upd_self]
    refine ⟨_, _, items_tuple (at_own htup rfl), by rw [ofInts_len]; omega, ltb rfl, fun i m' σ' => Ex15 fun T hA bdA hp bd pd cr τ₂ ρ₂ Rl₂ m3 m9 m10 m11 m12 => An6 (m' = mU bl hh ww m3 x H B P Cc m9 m10 m11 m12) (σ' = join τ₂ ρ₂) (Dj τ₂ ρ₂) (Nf ρ₂) (Srt x ks sc (D ++ Rl.take i) (Rl.drop i) Rl₂ τ₂) (Lup n H B P Cc bel h w (upd κ tt (.ro (.tuple (ofInts Rl)))) T (D ++ Rl.take i) hA bdA hp bd pd cr ρ₂), ?_, ?_, ?_, ?_⟩
    · refine ⟨tput T tt 0, hA, bdA, hp, bd, pd, cr, τ₁, upd ρ tt (.ro (.tuple (ofInts Rl))), [], m3, m9, m10, m11, m12, rfl, lock_tup ht1, hd₁.upd ht1, hn.upd rfl, by simpa using s₁, ?_⟩
      rw [List.take_zero, List.append_nil]
      refine L.agree (fun b o e _ => sub_upd (sub_refl ρ) ht2 _ _ e) (fun b o e _ => tput_ne (ne_of_none e ht2)) (fun b o e => ?_) fun b o e => ?_
      · by_cases hb : b = tt
        · subst hb; rw [upd_self] at e ⊢; exact e
        · rw [upd_ne hb] at e ⊢; exact L.keep b o e
      · by_cases hb : b = tt
        · subst hb; exact tput_self ..
        · rw [upd_ne hb] at e; rw [tput_ne hb]; exact L.fr b o e
    · rintro i m' σ' ⟨T, hA, bdA, hp, bd, pd, cr, τ₂, ρ₂, Rl₂, m3, m9, m10, m11, m12, rfl, rfl, hd₂, hn₂, s₂, L₂⟩
      exact ⟨rfl, by rw [Locked, lock_self htup]; exact join_rd hd₂ (L₂.keep _ _ (upd_self ..))⟩
    · rintro i y m' σ' K hy ⟨T, hA, bdA, hp, bd, pd, cr, τ₂, ρ₂, Rl₂, m3, m9, m10, m11, m12, rfl, rfl, hd₂, hn₂, s₂, L₂⟩ hK
      have hi : i < Rl.length := by
        have := (List.getElem?_eq_some_iff.mp hy).1
        rwa [ofInts_len] at this
      rw [ofInts_get hi] at hy; cases hy
      have hdr : Rl.drop i = Rl.getD i 0 :: Rl.drop (i + 1) := by
        rw [List.drop_eq_getElem_cons hi, List.getD_eq_getElem?_getD, List.getElem?_eq_getElem hi]; rfl
      have htk := take_snoc hi
      rw [hdr] at s₂
      generalize Rl.getD i 0 = k at *
      have hst₂ : ∃ np, Sts ks sc (D ++ Rl.take i) (k :: Rl.drop (i + 1)) Rl₂ np := by
        obtain ⟨d, nn, r, ad, sl, np, R, ow, hr, hne, st⟩ := s₂; exact ⟨np, st⟩
      obtain ⟨np₂, st₂⟩ := hst₂
      obtain ⟨h0, h1⟩ := (hks k).mp (st₂.ok k (by simp))
      have hkD : k ∉ D ++ Rl.take i := fun hm => st₂.dis k hm (by simp)
      have hκt : κ tt = none := by
        cases e : κ tt with
        | none => rfl
        | some o => rw [L.keep _ _ e] at ht2; cases ht2
      have I' : Ins n bl hh ww bA bel h w (upd κ tt (.ro (.tuple (ofInts Rl)))) := I.mono (sub_upd (sub_refl κ) hκt)
      refine pc_body h28 h35 I' t L₂ hd₂ hn₂ h0 h1 hkD (fun j hj => ?_) fun T' hA' bdA' hp' bd' pd' cr' ρ' σ' m9 m10 m11 m12 L' hd' hn' g' => ?_
      · have hjr := t.rng k h0 h1 j hj
        exact st₂.cl k (.inr (by simp)) j ((hks j).mpr ⟨by omega, by omega⟩) (hsc k j h0 h1 hj)
      · obtain ⟨ρ'', rfl, hd'', hn'', hs''⟩ := g'.split hd' hn'
        unfold pDone
        refine ws_seq ?_
        simp only [WS_5, W_15, W_4, WL_1, WL_2, mU, List.getElem?_cons_zero, List.getElem?_cons_succ]
        refine ⟨by obtain ⟨d, l, e1, e2⟩ := s₂.inst; rw [mk_inst (join_l e1) (join_l e2)]; rfl, by trivial, (mcall_srt s₂.inst rfl (call148 h148 s₂ hd'' hn'' fun τ₃ Rl₃ s₃ hd₃ => ?_)).2⟩
        simp only [Sq_n, WS_1]
        have hd₃' : Dj τ₃ ρ' := fun a o e => hd₃ a o (hs'' a o e)
        refine hK.1 _ _ ⟨join τ₃ ρ', fun a o e => ?_, T', hA', bdA', hp', bd', pd', cr', τ₃, ρ', Rl₃, some (.int k), m9, m10, m11, m12, rfl, rfl, hd₃', hn', ?_, ?_⟩
        · cases e' : τ₃ a with
          | some q => rw [join_l e'] at e ⊢; exact e
          | none => rw [join_r e'] at e ⊢; exact hs'' a o e
        · rw [htk, ← List.append_assoc]; exact s₃
        · rw [htk, ← List.append_assoc]; exact L'
    · rintro m' σ' ⟨T, hA, bdA, hp, bd, pd, cr, τ₂, ρ₂, Rl₂, m3, m9, m10, m11, m12, rfl, rfl, hd₂, hn₂, s₂, L₂⟩
      rw [ofInts_len, List.take_length, List.drop_length] at s₂
      rw [ofInts_len, List.take_length] at L₂
      show WS C .skip _ _ _
      simp only [Sq_n, WS_1]
      have hρt : ρ₂ tt = some (.ro (.tuple (ofInts Rl))) := L₂.keep _ _ (upd_self ..)
      have hTt : T tt = 0 := L₂.fr tt _ (upd_self ..)
      have hκt : κ tt = none := by
        cases e : κ tt with
        | none => rfl
        | some o => rw [L.keep _ _ e] at ht2; cases ht2
      have hoff : ∀ b o, off ρ₂ (fun a => a = tt) b = some o → b ≠ tt ∧ ρ₂ b = some o := fun b o e => by
        by_cases hb : b = tt
        · rw [off_in (D := fun a => a = tt) hb] at e; cases e
        · rw [off_out (D := fun a => a = tt) hb] at e; exact ⟨hb, e⟩
      have hst₂ : ∃ np, Sts ks sc (D ++ Rl) [] Rl₂ np := by
        obtain ⟨d, nn, r, ad, sl, np, R, ow, hr, hne, st⟩ := s₂; exact ⟨np, st⟩
      obtain ⟨np₂, st₂⟩ := hst₂
      have hdl : (D ++ Rl).length ≤ ks.length := st₂.dn.length_le_of_subset st₂.dk
      rw [List.length_append] at hdl
      refine hK₀.1 (ks.length - (D ++ Rl).length) _ _ (by rw [List.length_append]; omega) ⟨join τ₂ (off ρ₂ fun a => a = tt), fun a o e => ?_, T, D ++ Rl, Rl₂, hA, bdA, hp, bd, pd, cr, τ₂, off ρ₂ fun a => a = tt, m3, m9, m10, m11, m12, rfl, rfl, fun a o e => hd₂ a o (hoff a o e).2, fun a o e => hn₂ a o (hoff a o e).2, s₂, ?_, by rw [List.length_append]; omega⟩
      · cases e' : τ₂ a with
        | some q =>
          rw [join_l e'] at e
          have hat : a ≠ tt := by rintro rfl; rw [hd₂ _ _ hρt] at e'; cases e'
          rw [unlock_ne hat, join_l e']; exact e
        | none =>
          rw [join_r e'] at e
          obtain ⟨e1, e2⟩ := hoff a o e
          rw [unlock_ne e1, join_r e']; exact e2
      · refine L₂.agree (fun b o e hT => ?_) (fun b o e _ => rfl) (fun b o e => ?_) fun b o e => ?_
        · rw [off_out (D := fun a => a = tt)]
          · exact e
          · rintro rfl; exact hT hTt
        · have hb : b ≠ tt := by rintro rfl; rw [hκt] at e; cases e
          rw [off_out (D := fun a => a = tt) hb]
          exact L₂.keep b o (by rw [upd_ne hb]; exact e)
        · have hb : b ≠ tt := by rintro rfl; rw [hκt] at e; cases e
          exact L₂.fr b o (by rw [upd_ne hb]; exact e)
end
end Mine
end
section
namespace Mine

noncomputable def S179 (args : List AV) (Q : AV → Store → Prop) (σ : Store) : Prop := Ex8 fun (n : Nat) (bl hh ww : Adr) (bA : Int → Adr) (bel : Int → List Int) (h w : Int → Int) => An5 (args = [.ref bl, .ref hh, .ref ww]) (Nf σ) (Ins n bl hh ww bA bel h w σ) (Tree n bel w) (∀ (r B P Cc : Adr) (bdA : Int → Adr) (bd : Int → List Int) (pd cr : Int → Int) σ', Sub σ σ' → σ' r = some (.tuple [.ref B, .ref P, .ref Cc]) → σ' B = some (.list (tab n fun k => .ref (bdA k))) → σ' P = some (.list (tab n fun k => .int (pd k))) → σ' Cc = some (.list (tab n fun k => .int (cr k))) →
    (∀ k : Int, 0 ≤ k → k < n → σ' (bdA k) = some (.list (ofInts (bd k))) ∧ (bd k).length ≤ 384 ∧ UpK n bel h w pd bd cr k) → Q (.ref r) σ')

theorem dput_new {es : List (Int × AV)} {k : Int} {v : AV} (h : ∀ e ∈ es, e.1 ≠ k) : dput es k v = es ++ [(k, v)] := by
  unfold dput
  have : (es.any fun e => decide (e.1 = k)) = false := by
    rw [List.any_eq_false]; intro e he; simpa using h e he
  rw [this]; rfl

theorem tree_kids {n : Nat} {bel : Int → List Int} {w : Int → Int} (t : Tree n bel w) {k : Int} (h0 : 0 ≤ k) (h1 : k < n) : (bel k).length ≤ 8 := by
  have := (t.nd k h0 h1).length_le_of_subset (l₂ := tab n fun i => i) fun j hj => by
    have := t.rng k h0 h1 j hj
    exact mem_tab.mpr ⟨j, by omega, by omega, rfl⟩
  have h2 := t.n8
  rw [tab_len] at this; omega

theorem tot_tab {n : Nat} {bel : Int → List Int} {w : Int → Int} (t : Tree n bel w) : tot (tab n fun k => (k, bel k)) ≤ 9 * n := by
  have : ∀ m : Nat, m ≤ n → tot (tab m fun k => (k, bel k)) ≤ 9 * m := by
    intro m
    induction m with
    | zero => intro _; exact Nat.le_refl 0
    | succ m ih =>
      intro hm
      have h1 := ih (by omega)
      rw [tab_snoc, tot_snoc]
      have := tree_kids t (k := m) (by omega) (by omega)
      simp only
      omega
  exact this n (Nat.le_refl n)

theorem v179 {C : Ctr} (h28 : ∀ args Q σ, S28 args Q σ → C 28 args Q σ) (h35 : ∀ args Q σ, S35 args Q σ → C 35 args Q σ) (h134 : ∀ args Q σ, ClS S134 args Q σ → C 134 args Q σ) (h127 : ∀ args Q σ, ClS S127 args Q σ → C 127 args Q σ) (h148 : ∀ args Q σ, ClS S148 args Q σ → C 148 args Q σ) (h120 : ∀ args Q σ, ClS S120 args Q σ → C 120 args Q σ) (h165 : ∀ args Q σ, S165 args Q σ → C 165 args Q σ)
    {n : Nat} {bl hh ww : Adr} {bA : Int → Adr} {bel : Int → List Int} {h w : Int → Int} {σ : Store} {Q : AV → Store → Prop} (hn : Nf σ) (I : Ins n bl hh ww bA bel h w σ) (t : Tree n bel w)
    (hq : ∀ (r B P Cc : Adr) (bdA : Int → Adr) (bd : Int → List Int) (pd cr : Int → Int) σ', Sub σ σ' → σ' r = some (.tuple [.ref B, .ref P, .ref Cc]) → σ' B = some (.list (tab n fun k => .ref (bdA k))) → σ' P = some (.list (tab n fun k => .int (pd k))) → σ' Cc = some (.list (tab n fun k => .int (cr k))) →
      (∀ k : Int, 0 ≤ k → k < n → σ' (bdA k) = some (.list (ofInts (bd k))) ∧ (bd k).length ≤ 384 ∧ UpK n bel h w pd bd cr k) → Q (.ref r) σ') :
    WS C p179 (fin Q) [some (.ref bl), some (.ref hh), some (.ref ww), none, none, none, none, none, none, none, none, none, none] σ := by
  have hlim : (1000 : Nat) ≤ lim := by decide
  have hn8 := t.n8
  have hl : n ≤ lim := by omega
  unfold p179
  refine ws_seq ?_
  simp only [WS_6, W_14, W_5, WL_2, WL_1, call_ref]
  refine w_dcomp ?_
  simp only [put, Sq_n, W_14, WL_2, WL_1, W_4, W_5, call_blt, List.getElem?_cons_succ, List.getElem?_cons_zero]
  refine bcall_len I.hhh (by rw [tab_len]; omega) (bcall_range (by rw [tab_len]; omega) fun r hr => ?_)
  rw [tab_len, Int.toNat_natCast]
  have g1 := (Gb.refl σ).new (o := .range 0 n 1) hr rfl
  have n1 : Nf (upd σ r (.range 0 n 1)) := hn.upd rfl
  have hr1 := at_upd_self σ r (o := .range 0 n 1) rfl
  generalize upd σ r (.range 0 n 1) = σ₁ at g1 n1 hr1 ⊢
  refine dc_pure (fun i => tab i fun k => (k, AV.ref (bA k))) (items_range hr1) (by simp; omega) rfl (fun i y hy => ?_) fun g hg => ?_
  · have hi : i < n := by
      have := (List.getElem?_eq_some_iff.mp hy).1
      simpa using this
    have hy' : y = .int i := by
      rw [List.getElem?_map, List.getElem?_range hi] at hy
      simpa using hy.symm
    subst hy'
    simp only [W_18, DcT_, W_4, List.cons_append, List.nil_append, List.getElem?_cons_succ, List.getElem?_cons_zero]
    refine getItem_tab (by rw [at_lock]; exact sub_at g1.1 I.hbl) hl (by omega) (by omega) ⟨_, rfl, lc_end (sub_refl _) ?_⟩
    rw [dput_new, tab_snoc]
    intro e he
    obtain ⟨k, h0, h1, rfl⟩ := mem_tab.mp he
    show k ≠ i
    omega
  · rw [List.length_map, List.length_range]
    have g2 := g1.new (o := .dict (tab n fun k => (k, AV.ref (bA k)))) hg rfl
    have n2 : Nf (upd σ₁ g (.dict (tab n fun k => (k, AV.ref (bA k))))) := n1.upd rfl
    have hgg := upd_self σ₁ g (.dict (tab n fun k => (k, AV.ref (bA k))))
    generalize upd σ₁ g (.dict (tab n fun k => (k, AV.ref (bA k)))) = σ₂ at g2 n2 hgg ⊢
    have htot := tot_tab t
    refine h165 _ _ _ ⟨n2, .inr ⟨g, tab n fun k => (k, bel k), bA, rfl, ?_, ?_, by omega, fun x τ G hd => ⟨by simp, ?_⟩⟩⟩
    · rw [hgg]; unfold tab; simp
    · intro a ha
      obtain ⟨k, h0, h1, rfl⟩ := mem_tab.mp ha
      exact sub_at g2.1 (I.hbk k h0 h1)
    · simp only [put, List.set_cons_zero, List.set_cons_succ]
      have hgks : ∀ k : Int, k ∈ gks (tab n fun k => (k, bel k)) ↔ 0 ≤ k ∧ k < n := fun k => by
        rw [mem_gks]
        constructor
        · rintro ⟨a, ha, hk⟩
          obtain ⟨q, h0, h1, rfl⟩ := mem_tab.mp ha
          rcases hk with rfl | hk
          · exact ⟨h0, h1⟩
          · have := t.rng q h0 h1 k hk; omega
        · rintro ⟨h0, h1⟩
          exact ⟨_, mem_tab.mpr ⟨k, h0, h1, rfl⟩, .inl rfl⟩
      have hgsc : ∀ p j, j ∈ gsc (tab n fun k => (k, bel k)) p ↔ 0 ≤ j ∧ j < n ∧ p ∈ bel j := fun p j => by
        rw [mem_gsc]
        constructor
        · rintro ⟨a, ha, rfl, hp⟩
          obtain ⟨q, h0, h1, rfl⟩ := mem_tab.mp ha
          exact ⟨h0, h1, hp⟩
        · rintro ⟨h0, h1, hp⟩
          exact ⟨_, mem_tab.mpr ⟨j, h0, h1, rfl⟩, rfl, hp⟩
      have hrk : ∀ p ∈ gks (tab n fun k => (k, bel k)), ∀ j ∈ gsc (tab n fun k => (k, bel k)) p, j ∈ gks (tab n fun k => (k, bel k)) ∧ ((n : Int) - p).toNat < ((n : Int) - j).toNat := fun p hp j hj => by
        obtain ⟨h0, h1, hm⟩ := (hgsc p j).mp hj
        have := t.rng j h0 h1 p hm
        exact ⟨(hgks j).mpr ⟨h0, h1⟩, by omega⟩
      refine ws_seq ?_
      simp only [WS_5, W_15, W_4, WL_1, WL_2, List.getElem?_cons_zero, List.getElem?_cons_succ]
      refine ⟨by obtain ⟨d, l, e1, e2⟩ := G.inst; rw [mk_inst (join_l e1) (join_l e2)]; rfl, by trivial, (mcall_srt G.inst rfl (call120 h120 (rk := fun p => ((n : Int) - p).toNat) G hd n2 hrk ?_ (by omega) fun Rl τ₁ s hd₁ => ?_)).2⟩
      · have := gks_len (tab n fun k => (k, bel k)); omega
      have sσ : Sub σ (join τ₁ σ₂) := sub_trans g2.1 (join_sub hd₁)
      refine ws_seq ?_
      rw [WS_6]
      refine w_lists (n := n) rfl (sub_at sσ I.hhh) (tab_len ..) hl fun fH σ₃ H g₃ _ _ hH => ⟨by simp, ?_⟩
      simp only [put, List.set_cons_zero, List.set_cons_succ]
      have g₃' := g₃.new (o := .list (tab n fun k => .ref (fH k))) hH rfl
      have eH := upd_self σ₃ H (.list (tab n fun k => .ref (fH k)))
      have nH : join τ₁ σ₂ H = none := by
        cases e : join τ₁ σ₂ H with
        | none => rfl
        | some o => rw [g₃.1 _ _ e] at hH; cases hH
      generalize upd σ₃ H (.list (tab n fun k => .ref (fH k))) = σ₄ at g₃' eH ⊢
      refine ws_seq ?_
      rw [WS_6]
      refine w_lists (n := n) rfl (sub_at (sub_trans sσ g₃'.1) I.hhh) (tab_len ..) hl fun fB σ₅ B g₅ _ _ hB => ⟨by simp, ?_⟩
      simp only [put, List.set_cons_zero, List.set_cons_succ]
      have g₅' := (g₃'.trans g₅).new (o := .list (tab n fun k => .ref (fB k))) hB rfl
      have eB := upd_self σ₅ B (.list (tab n fun k => .ref (fB k)))
      have eH5 : upd σ₅ B (.list (tab n fun k => .ref (fB k))) H = some (.list (tab n fun k => .ref (fH k))) := sub_upd g₅.1 hB _ _ eH
      have nB : join τ₁ σ₂ B = none ∧ B ≠ H := by
        refine ⟨?_, ?_⟩
        · cases e : join τ₁ σ₂ B with
          | none => rfl
          | some o => rw [(g₃'.trans g₅).1 _ _ e] at hB; cases hB
        · rintro rfl; rw [g₅.1 _ _ eH] at hB; cases hB
      generalize upd σ₅ B (.list (tab n fun k => .ref (fB k))) = σ₆ at g₅' eB eH5 ⊢
      refine ws_seq ?_
      rw [WS_6]
      refine w_zeros (n := n) rfl (sub_at (sub_trans sσ g₅'.1) I.hhh) (tab_len ..) hl fun P hP => ⟨by simp, ?_⟩
      simp only [put, List.set_cons_zero, List.set_cons_succ]
      have g₇' := g₅'.new (o := .list (tab n fun _ => .int 0)) hP rfl
      have eP := upd_self σ₆ P (.list (tab n fun _ => .int 0))
      have sP := sub_upd (o := .list (tab n fun _ => .int 0)) (sub_refl σ₆) hP
      have nP : join τ₁ σ₂ P = none ∧ P ≠ H ∧ P ≠ B := by
        refine ⟨?_, ?_, ?_⟩
        · cases e : join τ₁ σ₂ P with
          | none => rfl
          | some o => rw [g₅'.1 _ _ e] at hP; cases hP
        · rintro rfl; rw [eH5] at hP; cases hP
        · rintro rfl; rw [eB] at hP; cases hP
      generalize upd σ₆ P (.list (tab n fun _ => .int 0)) = σ₇ at g₇' eP sP ⊢
      refine ws_seq ?_
      rw [WS_6]
      refine w_zeros (n := n) rfl (sub_at (sub_trans sσ g₇'.1) I.hhh) (tab_len ..) hl fun Cc hC => ⟨by simp, ?_⟩
      simp only [put, List.set_cons_zero, List.set_cons_succ]
      have g₈' := g₇'.new (o := .list (tab n fun _ => .int 0)) hC rfl
      have eC := upd_self σ₇ Cc (.list (tab n fun _ => .int 0))
      have sC := sub_upd (o := .list (tab n fun _ => .int 0)) (sub_refl σ₇) hC
      have nC : join τ₁ σ₂ Cc = none ∧ Cc ≠ H ∧ Cc ≠ B ∧ Cc ≠ P := by
        refine ⟨?_, ?_, ?_, ?_⟩
        · cases e : join τ₁ σ₂ Cc with
          | none => rfl
          | some o => rw [g₇'.1 _ _ e] at hC; cases hC
        · rintro rfl; rw [sP _ _ eH5] at hC; cases hC
        · rintro rfl; rw [sP _ _ eB] at hC; cases hC
        · rintro rfl; rw [eP] at hC; cases hC
      generalize upd σ₇ Cc (.list (tab n fun _ => .int 0)) = σ₈ at g₈' eC sC ⊢
      obtain ⟨ρ, rfl, hdρ, hnρ, hsρ⟩ := g₈'.split hd₁ n2
      have toρ : ∀ b o, join τ₁ σ₂ b = none → join τ₁ ρ b = some o → ρ b = some o := fun b o e1 e2 => by
        rw [join_r (join_none e1).1] at e2; exact e2
      have noσ : ∀ b, join τ₁ σ₂ b = none → σ b = none := fun b e => by
        cases e' : σ b with
        | none => rfl
        | some o => rw [sσ _ _ e'] at e; cases e
      have L : Lup n H B P Cc bel h w σ (fun b => if b = H then 1 else if b = B then 2 else if b = P then 3 else if b = Cc then 4 else 0) [] fH fB (fun _ => []) (fun _ => []) (fun _ => 0) (fun _ => 0) ρ := by
        refine ⟨sub_trans g2.1 hsρ, toρ _ _ nH (sC _ _ (sP _ _ eH5)), toρ _ _ nB.1 (sC _ _ (sP _ _ eB)), toρ _ _ nP.1 (sC _ _ eP), toρ _ _ nC.1 eC, by simp, by simp [nB.2], by simp [nP.2], by simp [nC.2], fun b o e => ?_, by simp, by simp, by simp, by simp, by simp, by simp, by simp, by simp⟩
        rw [if_neg (ne_of_none e (noσ _ nH)), if_neg (ne_of_none e (noσ _ nB.1)), if_neg (ne_of_none e (noσ _ nP.1)), if_neg (ne_of_none e (noσ _ nC.1))]
      refine ws_seq (pc_up (Rl := Rl) (rk := fun p => ((n : Int) - p).toNat) h28 h35 h134 h127 h148 I t L hdρ hnρ s hgks (fun k j h0 h1 hj => (hgsc j k).mpr ⟨h0, h1, hj⟩) (fun p hp j hj => (hrk p hp j hj).2) ?_)
      intro T D hA bdA hp bd pd cr τ₂ ρ₂ m3 m9 m10 m11 m12 hall L₂ hd₂ hn₂
      refine ws_seq ?_
      simp only [mU, WS_14, Sq_r, W_13, WL_2, List.length_cons, WL_1, List.length_nil, W_4, List.getElem?_cons_succ, List.getElem?_cons_zero]
      refine ⟨by decide, fun r hr => ?_⟩
      have s2 : Sub ρ₂ (upd (join τ₂ ρ₂) r (.tuple [.ref B, .ref P, .ref Cc])) := sub_upd (join_sub hd₂) hr
      refine hq r B P Cc bdA bd pd cr _ (sub_trans L₂.keep s2) (upd_self ..) (s2 _ _ L₂.hB) (s2 _ _ L₂.hP) (s2 _ _ L₂.hC) fun k h0 h1 => ⟨s2 _ _ (L₂.bend k (hall k h0 h1)).1, ?_, L₂.up k (hall k h0 h1)⟩
      have e1 := L₂.len k (hall k h0 h1)
      have e2 := pow_small (k := k) t.n8 h0
      rw [← L₂.neg k (hall k h0 h1), List.length_map]; omega
end Mine
end
section
namespace Mine

theorem bcall_range3 {σ : Store} {a b : Int} {Q : AV → Store → Prop} (ha : a.natAbs ≤ lim) (hb : b.natAbs ≤ lim) (hq : ∀ r, σ r = none → Q (.ref r) (upd σ r (.range a (a - b).toNat (-1)))) : Bcall .range [.int a, .int b, .int (-1)] Q σ := .range3 ha hb hq
theorem bcall_range2 {σ : Store} {a b : Int} {Q : AV → Store → Prop} (ha : a.natAbs ≤ lim) (hb : b.natAbs ≤ lim) (hq : ∀ r, σ r = none → Q (.ref r) (upd σ r (.range a (b - a).toNat 1))) : Bcall .range [.int a, .int b] Q σ := .range2 ha hb hq
theorem bcall_abs {σ : Store} {a : Int} {Q : AV → Store → Prop} (hq : Q (.int a.natAbs) σ) : Bcall .abs [.int a] Q σ := .abs hq
theorem bcall_min {σ : Store} {a : Adr} {x : Int} {xs : List Int} {Q : AV → Store → Prop} (h : at? σ a = some (.list (ofInts (x :: xs)))) (hq : Q (.int (xs.foldl Min.min x)) σ) : Bcall .min [.ref a] Q σ := .min1 x xs h hq
theorem bin_cat {σ : Store} {a b : Adr} {xs ys : List AV} {Q : AV → Store → Prop} (h1 : at? σ a = some (.list xs)) (h2 : at? σ b = some (.list ys)) (hl : xs.length + ys.length ≤ lim) (hq : ∀ c, σ c = none → Q (.ref c) (upd σ c (.list (xs ++ ys)))) : Bin .add (.ref a) (.ref b) Q σ := ⟨xs, ys, h1, h2, hl, hq⟩

noncomputable def mT (bl hh ww lv : Adr) (m4 : Option AV) (tb : Adr) (m6 m7 : Option AV) : Mem := [some (.ref bl), some (.ref hh), some (.ref ww), some (.ref lv), m4, some (.ref tb), m6, m7]

noncomputable def pCell : PS := .seq (.assign 7 (.bin .add (.bin .mul (.sub (.var 2) (.var 4)) (.call (.glob (.blt .abs)) (.cons (.bin .sub (.sub (.var 3) (.var 6)) (.sub (.var 1) (.var 4))) .nil)))
    (.call (.glob (.blt .sum)) (.cons (.lcomp (.sub (.sub (.var 5) (.var 8)) (.var 6)) (.sub (.var 0) (.var 4)) .tt) .nil))))
  (.seq (.expr (.mcall (.sub (.var 5) (.var 4)) .append (.cons (.call (.glob (.blt .min)) (.cons (.bin .add (.sliceFrom (.sub (.var 5) (.var 4)) (.neg (.int 1))) (.list (.cons (.var 7) .nil))) .nil)) .nil))) .skip)

theorem fromAt_last {α : Nat} {f : Int → AV} : fromAt (tab (α + 1) f) (-1) = [f α] := by
  unfold fromAt
  rw [if_neg (by omega), tab_len, tab_snoc]
  simp [tab_len]
theorem fromAt_nil {f : Int → AV} : fromAt (tab 0 f) (-1) = [] := by unfold fromAt tab; simp

section
variable {C : Ctr} {bl hh ww lv tb : Adr} {n m : Nat} {bA tA : Int → Adr} {bel : Int → List Int} {h w lev : Int → Int} {tg : Int → Int → Int} {k j : Int} {σ : Store} {Q : Flw → Mem → Store → Prop} {m7 : Option AV}

theorem pc_cell (t : Tree n bel w) (I : Ins n bl hh ww bA bel h w σ) (hlv : at? σ lv = some (.list (tab m fun j => .int (lev j)))) (hml : m < lim) (h0 : 0 ≤ k) (h1 : k < n) (j0 : 0 ≤ j) (j1 : j < m)
    (htb : σ tb = some (.list (tab n fun k => .ref (tA k)))) (hkid : ∀ c ∈ bel k, σ (tA c) = some (.list (tab m fun j => .int (tg c j)))) (hk : σ (tA k) = some (.list (tab j.toNat fun j => .int (tg k j))))
    (htg : tg k j = (if j = 0 then w k * ((lev j - h k).natAbs : Int) + ((bel k).map fun c => tg c j).sum else min (tg k (j - 1)) (w k * ((lev j - h k).natAbs : Int) + ((bel k).map fun c => tg c j).sum)))
    (hq : ∀ m7 σ', Gb (upd σ (tA k) (.list (tab (j.toNat + 1) fun j => .int (tg k j)))) σ' → Q .next (mT bl hh ww lv (some (.int k)) tb (some (.int j)) m7) σ') :
    WS C pCell Q (mT bl hh ww lv (some (.int k)) tb (some (.int j)) m7) σ := by
  have hlim : (1000 : Nat) ≤ lim := by decide
  have hn8 := t.n8
  have hl : n ≤ lim := by omega
  have hw := t.wt k h0 h1
  have hkl := tree_kids t h0 h1
  unfold pCell
  refine ws_seq ?_
  simp only [mT, WS_6, put, Sq_n, W_6, W_14, WL_2, WL_1, W_5, call_blt, W_18, W_4, List.getElem?_cons_succ, List.getElem?_cons_zero]
  refine getItem_tab I.hww hl h0 h1 (getItem_tab hlv (by omega) j0 j1 (getItem_tab I.hhh hl h0 h1 ?_))
  simp only [bin_sub]
  refine bcall_abs ?_
  simp only [bin_mul]
  refine ⟨?_, ?_⟩
  · have : (w k).natAbs ≤ 3 := by omega
    exact Nat.lt_of_le_of_lt this (by decide)
  refine w_lcomp ?_
  simp only [W_18, W_4, List.getElem?_cons_zero, List.getElem?_cons_succ]
  refine getItem_tab I.hbl hl h0 h1 ?_
  refine lc_pure (fun i => ofInts (((bel k).take i).map fun c => tg c j)) (items_list (I.hbk k h0 h1)) (by rw [ofInts_len]; omega) rfl ?_ ?_
  · intro i y hy
    have hi : i < (bel k).length := by
      have := (List.getElem?_eq_some_iff.mp hy).1
      rwa [ofInts_len] at this
    rw [ofInts_get hi] at hy; cases hy
    have hc := getD_mem hi
    have hcr := t.rng k h0 h1 _ hc
    have hct := hkid _ hc
    have htk := take_snoc hi
    generalize (bel k).getD i 0 = c at *
    simp only [List.cons_append, List.nil_append, WT_1, LcT_t, W_18, W_4, List.getElem?_cons_succ, List.getElem?_cons_zero]
    refine getItem_tab (f := fun k => .ref (tA k)) (by rw [at_lock]; exact at_own htb rfl) hl (by omega) (by omega) ?_
    refine getItem_tab (f := fun j => .int (tg c j)) (by rw [at_lock]; exact at_own hct rfl) (by omega) j0 j1 (lc_end (sub_refl _) ?_)
    rw [htk]; unfold ofInts; simp
  · intro r hr
    rw [ofInts_len, List.take_length]
    have g1 := (Gb.refl σ).new (o := .list (ofInts ((bel k).map fun c => tg c j))) hr rfl
    refine bcall_sum (at_upd_self _ _ rfl) ?_
    generalize upd σ r (.list (ofInts ((bel k).map fun c => tg c j))) = σ₁ at g1 ⊢
    simp only [List.length_cons, List.length_nil, List.set_cons_succ, List.set_cons_zero, bin_add]
    refine ⟨by decide, ?_⟩
    generalize hcost : w k * ((lev j - h k).natAbs : Int) + ((bel k).map fun c => tg c j).sum = cost at *
    refine ws_seq ?_
    simp only [WS_5, Sq_n, W_15, WL_2, WL_1, W_14, W_6, W_12, List.length_cons, List.length_nil, W_4, W_20, W_7, W_1, W_18, W_5, call_blt, List.getElem?_cons_succ, List.getElem?_cons_zero]
    refine getItem_tab (f := fun k => .ref (tA k)) (at_own (g1.1 _ _ htb) rfl) hl h0 h1 ?_
    have hk1 := g1.1 _ _ hk
    refine ⟨by rw [mk_list hk1]; rfl, ?_⟩
    refine getItem_tab (f := fun k => .ref (tA k)) (at_own (g1.1 _ _ htb) rfl) hl h0 h1 ?_
    refine sliceFrom_list (at_own hk1 rfl) (by rw [tab_len]; omega) (by decide) fun r1 hr1 => ⟨by decide, fun r2 hr2 => ?_⟩
    have g2 := g1.new (o := .list (fromAt (tab j.toNat fun j => .int (tg k j)) (-1))) hr1 rfl
    have e1 := upd_self σ₁ r1 (.list (fromAt (tab j.toNat fun j => .int (tg k j)) (-1)))
    generalize upd σ₁ r1 (.list (fromAt (tab j.toNat fun j => .int (tg k j)) (-1))) = σ₂ at g2 e1 hr2 ⊢
    have g3 := g2.new (o := .list [.int cost]) hr2 rfl
    have e2 := upd_self σ₂ r2 (.list [.int cost])
    have e1' : upd σ₂ r2 (.list [.int cost]) r1 = some (.list (fromAt (tab j.toNat fun j => .int (tg k j)) (-1))) := by rw [upd_ne (ne_of_none e1 hr2)]; exact e1
    generalize upd σ₂ r2 (.list [.int cost]) = σ₃ at g3 e1' e2 ⊢
    have hfl : (fromAt (tab j.toNat fun j => .int (tg k j)) (-1)).length + [AV.int cost].length ≤ lim := by
      cases e : j.toNat with
      | zero => rw [fromAt_nil]; simp; omega
      | succ i => rw [fromAt_last]; simp; omega
    refine bin_cat (at_own e1' rfl) (at_own e2 rfl) hfl fun r3 hr3 => ?_
    have g4 := g3.new (o := .list (fromAt (tab j.toNat fun j => .int (tg k j)) (-1) ++ [.int cost])) hr3 rfl
    have e3 := upd_self σ₃ r3 (.list (fromAt (tab j.toNat fun j => .int (tg k j)) (-1) ++ [.int cost]))
    generalize upd σ₃ r3 (.list (fromAt (tab j.toNat fun j => .int (tg k j)) (-1) ++ [.int cost])) = σ₄ at g4 e3 ⊢
    have hk4 := g4.1 _ _ hk
    have fin : ∀ v, v = tg k j → Mk σ₄ (.ref (tA k)) = Mk σ₁ (.ref (tA k)) ∧ Mcall C .append (.ref (tA k)) [.int v] (fun _ σ => WS C .skip Q [some (.ref bl), some (.ref hh), some (.ref ww), some (.ref lv), some (.int k), some (.ref tb), some (.int j), some (.int cost)] σ) σ₄ := by
      rintro v rfl
      refine ⟨by rw [mk_list hk4, mk_list hk1], mcall_append hk4 (by rw [tab_len]; omega) ?_⟩
      simp only [Sq_n, WS_1]
      refine hq _ _ ?_
      rw [tab_snoc, show ((j.toNat : Nat) : Int) = j by omega]
      exact g4.upd
    cases e : j.toNat with
    | zero =>
      rw [e, fromAt_nil] at e3
      refine bcall_min (x := cost) (xs := []) (at_own e3 rfl) (fin _ ?_)
      rw [htg, if_pos (by omega)]; rfl
    | succ i =>
      rw [e, fromAt_last] at e3
      refine bcall_min (x := tg k i) (xs := [cost]) (at_own e3 rfl) (fin _ ?_)
      rw [htg, if_neg (by omega), show j - 1 = (i : Int) by omega]; rfl
end
end Mine
end
section
namespace Mine

noncomputable def TgOk (n m : Nat) (bel : Int → List Int) (h w lev : Int → Int) (tg : Int → Int → Int) : Prop := ∀ k j : Int, 0 ≤ k → k < n → 0 ≤ j → j < m →
  tg k j = (if j = 0 then w k * ((lev j - h k).natAbs : Int) + ((bel k).map fun c => tg c j).sum else min (tg k (j - 1)) (w k * ((lev j - h k).natAbs : Int) + ((bel k).map fun c => tg c j).sum))

noncomputable def S191 (args : List AV) (Q : AV → Store → Prop) (σ : Store) : Prop := Ex12 fun (n m : Nat) (bl hh ww lv : Adr) (bA : Int → Adr) (bel : Int → List Int) (h w lev : Int → Int) (tg : Int → Int → Int) => An7 (args = [.ref bl, .ref hh, .ref ww, .ref lv]) (Ins n bl hh ww bA bel h w σ) (Tree n bel w) (at? σ lv = some (.list (tab m fun j => .int (lev j)))) (m < lim) (TgOk n m bel h w lev tg) (∀ (r : Adr) (tA : Int → Adr) σ', Sub σ σ' → σ' r = some (.list (tab n fun k => .ref (tA k))) → (∀ k : Int, 0 ≤ k → k < n → σ' (tA k) = some (.list (tab m fun j => .int (tg k j)))) → Q (.ref r) σ')

theorem v191 {C : Ctr} {n m : Nat} {bl hh ww lv : Adr} {bA : Int → Adr} {bel : Int → List Int} {h w lev : Int → Int} {tg : Int → Int → Int} {σ : Store} {Q : AV → Store → Prop} (I : Ins n bl hh ww bA bel h w σ) (t : Tree n bel w) (hlv : at? σ lv = some (.list (tab m fun j => .int (lev j)))) (hml : m < lim) (htg : TgOk n m bel h w lev tg)
    (hq : ∀ (r : Adr) (tA : Int → Adr) σ', Sub σ σ' → σ' r = some (.list (tab n fun k => .ref (tA k))) → (∀ k : Int, 0 ≤ k → k < n → σ' (tA k) = some (.list (tab m fun j => .int (tg k j)))) → Q (.ref r) σ') :
    WS C p191 (fin Q) [some (.ref bl), some (.ref hh), some (.ref ww), some (.ref lv), none, none, none, none] σ := by
  have hlim : (1000 : Nat) ≤ lim := by decide
  have hn8 := t.n8
  have hl : n ≤ lim := by omega
  unfold p191
  refine ws_seq ?_
  rw [WS_6]
  refine w_lists (n := n) rfl I.hhh (tab_len ..) hl fun tA σ₁ tb g₁ hf hinj htb => ⟨by simp, ?_⟩
  simp only [put, List.set_cons_zero, List.set_cons_succ]
  have g₂ := g₁.new (o := .list (tab n fun k => .ref (tA k))) htb rfl
  have etb := upd_self σ₁ tb (.list (tab n fun k => .ref (tA k)))
  have hf₂ : ∀ k : Int, 0 ≤ k → k < n → σ (tA k) = none ∧ upd σ₁ tb (.list (tab n fun k => .ref (tA k))) (tA k) = some (.list []) ∧ tA k ≠ tb := fun k h0 h1 => by
    have := hf k h0 h1
    have ne := ne_of_none this.2 htb
    exact ⟨this.1, by rw [upd_ne ne]; exact this.2, ne⟩
  have hσtb : σ tb = none := by
    cases e : σ tb with
    | none => rfl
    | some o => rw [g₁.1 _ _ e] at htb; cases htb
  generalize upd σ₁ tb (.list (tab n fun k => .ref (tA k))) = σ₂ at g₂ etb hf₂ ⊢
  refine ws_seq (ws_each ?_)
  simp only [W_14, WL_2, WL_1, W_7, W_1, W_6, W_4, W_5, call_blt, List.getElem?_cons_succ, List.getElem?_cons_zero]
  refine bcall_len (sub_at g₂.1 I.hhh) (by rw [tab_len]; omega) ?_
  simp only [bin_sub]
  refine bcall_range3 (by rw [tab_len]; omega) (by decide) fun r hr => ?_
  rw [tab_len, show ((n : Int) - 1 - -1).toNat = n by omega]
  have g₃ := g₂.new (o := .range ((n : Int) - 1) n (-1)) hr rfl
  have s₃ := sub_upd (o := .range ((n : Int) - 1) n (-1)) (sub_refl σ₂) hr
  have er := at_upd_self σ₂ r (o := .range ((n : Int) - 1) n (-1)) rfl
  generalize upd σ₂ r (.range ((n : Int) - 1) n (-1)) = σ₃ at g₃ s₃ er ⊢
  refine ⟨_, _, items_range er, by simp; omega, ltb rfl, fun i m' σ' => Ex3 fun m4 m6 m7 => An4 (m' = mT bl hh ww lv m4 tb m6 m7) (Sub σ σ') (σ' tb = some (.list (tab n fun k => .ref (tA k)))) (∀ k : Int, 0 ≤ k → k < n → σ' (tA k) = some (.list (tab (if (n : Int) - i ≤ k then m else 0) fun j => .int (tg k j)))), ?_, ?_, ?_, ?_⟩
  · refine ⟨none, none, none, rfl, g₃.1, s₃ _ _ etb, fun k h0 h1 => ?_⟩
    rw [if_neg (by omega)]; exact s₃ _ _ (hf₂ k h0 h1).2.1
  · rintro i m' σ' ⟨m4, m6, m7, rfl, _⟩; exact ⟨rfl, trivial⟩
  · rintro i y m' σ' K hy ⟨m4, m6, m7, rfl, hs, hb, hc⟩ hK
    have hi : i < n := by
      have := (List.getElem?_eq_some_iff.mp hy).1
      simpa using this
    have hy' : y = .int ((n : Int) - 1 - i) := by
      rw [List.getElem?_map, List.getElem?_range hi] at hy
      simp only [Option.map_some, Option.some.injEq] at hy
      rw [← hy]; congr 1; omega
    subst hy'
    have k0 : 0 ≤ (n : Int) - 1 - i := by omega
    have k1 : (n : Int) - 1 - i < n := by omega
    have hlt : ∀ k : Int, (n : Int) - i ≤ k ↔ (n : Int) - 1 - i < k := fun k => by omega
    simp only [hlt] at hc
    have hnext : ∀ k : Int, (n : Int) - (i + 1 : Nat) ≤ k ↔ (n : Int) - 1 - i ≤ k := fun k => by omega
    generalize (n : Int) - 1 - i = k at *
    refine ws_seq (ws_each ?_)
    simp only [put, mT, List.set_cons_succ, List.set_cons_zero, W_14, WL_2, WL_1, W_4, W_5, call_blt, List.getElem?_cons_succ, List.getElem?_cons_zero]
    refine bcall_len (sub_at hs hlv) (by rw [tab_len]; omega) (bcall_range (by rw [tab_len]; omega) fun r hr => ?_)
    rw [tab_len, Int.toNat_natCast]
    have s4 := sub_upd (o := .range 0 m 1) (sub_refl σ') hr
    have er := at_upd_self σ' r (o := .range 0 m 1) rfl
    generalize upd σ' r (.range 0 m 1) = σ₄ at s4 er ⊢
    refine ⟨_, _, items_range er, by simp; omega, ltb rfl, fun j m' σ' => Ex2 fun m6 m7 => An4 (m' = mT bl hh ww lv (some (.int k)) tb m6 m7) (Sub σ σ') (σ' tb = some (.list (tab n fun k => .ref (tA k)))) (∀ q : Int, 0 ≤ q → q < n → σ' (tA q) = some (.list (tab (if k < q then m else if q = k then j else 0) fun j => .int (tg q j)))), ?_, ?_, ?_, ?_⟩
    · refine ⟨_, _, rfl, sub_trans hs s4, s4 _ _ hb, fun q q0 q1 => ?_⟩
      have := s4 _ _ (hc q q0 q1)
      rw [show lock σ₄ none = σ₄ from rfl, this]
      by_cases h : k < q
      · rw [if_pos h, if_pos h]
      · rw [if_neg h, if_neg h, ite_self]
    · rintro j m' σ' ⟨m6, m7, rfl, _⟩; exact ⟨rfl, trivial⟩
    · rintro j y m' σ' K₂ hy ⟨m6, m7, rfl, hs', hb', hc'⟩ hK₂
      have hj : j < m := by
        have := (List.getElem?_eq_some_iff.mp hy).1
        simpa using this
      have hy' : y = .int j := by
        rw [List.getElem?_map, List.getElem?_range hj] at hy
        simp only [Option.map_some, Option.some.injEq] at hy
        rw [← hy]; congr 1; omega
      subst hy'
      have hck := hc' k k0 k1
      rw [if_neg (by omega), if_pos rfl] at hck
      refine pc_cell t (I.mono hs') (sub_at hs' hlv) hml k0 k1 (j := j) (by omega) (by omega) hb' (tg := tg) (fun c hcm => ?_) (by rw [Int.toNat_natCast]; exact hck) (htg k j k0 k1 (by omega) (by omega)) fun m7 σ'' g => ?_
      · have := t.rng k k0 k1 c hcm
        have e := hc' c (by omega) (by omega)
        rw [if_pos (by omega)] at e; exact e
      · rw [Int.toNat_natCast] at g
        have hfk := hf₂ k k0 k1
        refine hK₂.1 _ _ ⟨_, g.1, _, _, rfl, fun b o e => ?_, by rw [upd_ne (Ne.symm hfk.2.2)]; exact hb', fun q q0 q1 => ?_⟩
        · rw [upd_ne (ne_of_none e hfk.1)]; exact hs' b o e
        · by_cases hqk : q = k
          · subst hqk; rw [upd_self, if_neg (by omega), if_pos rfl]
          · rw [upd_ne (fun e => hqk (hinj q k q0 q1 k0 k1 e)), hc' q q0 q1, if_neg hqk, if_neg hqk]
    · rintro m' σ' ⟨m6, m7, rfl, hs', hb', hc'⟩
      simp only [Sq_n, WS_1]
      rw [List.length_map, List.length_range] at hc'
      refine hK.1 _ _ (fg_self ⟨_, _, _, rfl, hs', hb', fun q q0 q1 => ?_⟩)
      simp only [hnext]
      rw [show unlock σ₄ σ' none = σ' from rfl, hc' q q0 q1]
      by_cases hq : k < q
      · rw [if_pos hq, if_pos (by omega)]
      · rw [if_neg hq]
        by_cases hqk : q = k
        · rw [if_pos hqk, if_pos (by omega)]
        · rw [if_neg hqk, if_neg (by omega)]
  · rintro m' σ' ⟨m4, m6, m7, rfl, hs, hb, hc⟩
    refine ws_seq ?_
    simp only [mT, WS_14, Sq_r, W_4, List.getElem?_cons_succ, List.getElem?_cons_zero]
    refine hq tb tA _ hs hb fun k h0 h1 => ?_
    have := hc k h0 h1
    rw [List.length_map, List.length_range, if_pos (by omega)] at this
    exact this
end Mine
end
section
namespace Mine

noncomputable def mD (ab cc x : Adr) (m3 m4 : Option AV) : Mem := [some (.ref ab), some (.ref cc), some (.ref x), m3, m4]
noncomputable def pFr : PS := .seq (.ite (.tv (.cmp .gt (.var 3) (.int 0))) (.seq (.setItem (.var 4) (.var 3) (.call (.glob (.blt .min)) (.cons (.sub (.var 1) (.var 3)) (.cons (.sub (.var 4) (.sub (.var 0) (.var 3))) .nil)))) .skip) .skip)
  (.seq (.expr (.mcall (.var 2) .done (.cons (.var 3) .nil))) .skip)
noncomputable def pDown : PS := .loop (.tv (.mcall (.var 2) .isactive .nil)) (.seq (.each 3 (.mcall (.var 2) .getready .nil) pFr) .skip) .skip

structure Frs (cr abv : Int → Int) (D : List Int) (f : Int → Int) : Prop where
  z : f 0 = cr 0
  st : ∀ k ∈ D, 0 < k → f k = min (cr k) (f (abv k)) ∧ abv k ∈ D

theorem bcall_min2 {σ : Store} {a b : Int} {Q : AV → Store → Prop} (hq : Q (.int (Min.min a b)) σ) : Bcall .min [.int a, .int b] Q σ := .min2 hq

theorem srt_sts {x : Adr} {ks : List Int} {sc : Int → List Int} {D O Rl : List Int} {τ : Store} (s : Srt x ks sc D O Rl τ) : ∃ np, Sts ks sc D O Rl np := by
  obtain ⟨d, nn, r, ad, sl, np, R, ow, hr, hne, st⟩ := s; exact ⟨np, st⟩

theorem pc_down {C : Ctr} (h134 : ∀ args Q σ, ClS S134 args Q σ → C 134 args Q σ) (h127 : ∀ args Q σ, ClS S127 args Q σ → C 127 args Q σ) (h148 : ∀ args Q σ, ClS S148 args Q σ → C 148 args Q σ)
    {n : Nat} {ab cc x F : Adr} {abv cr f : Int → Int} {κ ρ τ : Store} {Q : Flw → Mem → Store → Prop} {m3 : Option AV} (hab : at? κ ab = some (.list (tab n fun k => .int (abv k)))) (hcc : at? κ cc = some (.list (tab n fun k => .int (cr k)))) (n8 : n ≤ 8) (habr : ∀ k : Int, 0 < k → k < n → 0 ≤ abv k ∧ abv k < k)
    (hk : Sub κ ρ) (hF : ρ F = some (.list (tab n fun k => .int (f k)))) (hκF : κ F = none) (fs : Frs cr abv [] f) (hd : Dj τ ρ) (hn : Nf ρ) {ks : List Int} {sc : Int → List Int} {Rl : List Int} {rk : Int → Nat} (s : Srt x ks sc [] [] Rl τ)
    (hks : ∀ k : Int, k ∈ ks ↔ 0 ≤ k ∧ k < n) (hsc : ∀ k : Int, 0 < k → k < n → k ∈ sc (abv k)) (hrk : ∀ p ∈ ks, ∀ j ∈ sc p, rk p < rk j)
    (hq : ∀ f τ ρ m3, Frs cr abv (tab n fun k => k) f → Sub κ ρ → ρ F = some (.list (tab n fun k => .int (f k))) → Dj τ ρ → Q .next (mD ab cc x m3 (some (.ref F))) (join τ ρ)) :
    WS C pDown Q (mD ab cc x m3 (some (.ref F))) (join τ ρ) := by
  have hlim : (1000 : Nat) ≤ lim := by decide
  have hl : n ≤ lim := by omega
  unfold pDown
  refine ws_loop (fun k m σ => Ex6 fun D Rl f τ ρ m3 => An9 (m = mD ab cc x m3 (some (.ref F))) (σ = join τ ρ) (Dj τ ρ) (Nf ρ) (Srt x ks sc D [] Rl τ) (Frs cr abv D f) (Sub κ ρ) (ρ F = some (.list (tab n fun k => .int (f k)))) (k + D.length = ks.length))
    (n := ks.length) ⟨[], Rl, f, τ, ρ, m3, rfl, rfl, hd, hn, s, fs, hk, hF, by simp⟩ ?_
  rintro N m σ K₀ ⟨D, Rl, f, τ, ρ, m3, rfl, rfl, hd, hn, s, fs, hk, hF, hN⟩ hK₀
  simp only [mD, WT_2, W_15, WL_1, W_4, List.getElem?_cons_succ, List.getElem?_cons_zero]
  refine ⟨by obtain ⟨d, l, e1, e2⟩ := s.inst; rw [mk_inst (join_l e1) (join_l e2)]; rfl, by trivial, (mcall_srt s.inst rfl (call134 h134 s hd hn ?_)).2⟩
  rw [tru_bool]
  cases Rl with
  | nil =>
    show WS C .skip Q _ _
    simp only [Sq_n, WS_1]
    obtain ⟨np, st⟩ := srt_sts s
    have hall := st.all hrk
    refine hq f τ ρ _ ⟨fs.z, fun k hk k0 => ?_⟩ hk hF hd
    obtain ⟨q, q0, q1, rfl⟩ := mem_tab.mp hk
    have h1 := fs.st q (hall q ((hks q).mpr ⟨q0, q1⟩)) k0
    have := habr q k0 q1
    exact ⟨h1.1, mem_tab.mpr ⟨abv q, by omega, by omega, rfl⟩⟩
  | cons r0 Rl0 =>
    show WS C (.seq _ _) _ _ _
    have hRl0 : 0 < (r0 :: Rl0).length := by simp
    generalize r0 :: Rl0 = Rl at *
    obtain ⟨np, st⟩ := srt_sts s
    have hrl := st.rlen
    have hkl := st.kl
    refine ws_seq (ws_each ?_)
    simp only [W_15, WL_1, W_4, List.getElem?_cons_succ, List.getElem?_cons_zero]
    refine ⟨by obtain ⟨d, l, e1, e2⟩ := s.inst; rw [mk_inst (join_l e1) (join_l e2)]; rfl, by trivial, (mcall_srt s.inst rfl (call127 h127 s hd hn fun τ₁ tt s₁ hd₁ ht1 ht2 => ?_)).2⟩
    have htup : join τ₁ (upd ρ tt (.tuple (ofInts Rl))) tt = some (.tuple (ofInts Rl)) := by rw [join_r ht1, upd_self]
    have hFt : F ≠ tt := ne_of_none hF ht2
    refine ⟨_, _, items_tuple (at_own htup rfl), by rw [ofInts_len]; omega, ltb rfl, fun i m' σ' => Ex5 fun f τ₂ ρ₂ Rl₂ m3 => An9 (m' = mD ab cc x m3 (some (.ref F))) (σ' = join τ₂ ρ₂) (Dj τ₂ ρ₂) (Nf ρ₂) (Srt x ks sc (D ++ Rl.take i) (Rl.drop i) Rl₂ τ₂) (Frs cr abv (D ++ Rl.take i) f) (Sub κ ρ₂) (ρ₂ F = some (.list (tab n fun k => .int (f k)))) (ρ₂ tt = some (.ro (.tuple (ofInts Rl)))), ?_, ?_, ?_, ?_⟩
    · refine ⟨f, τ₁, upd ρ tt (.ro (.tuple (ofInts Rl))), [], m3, rfl, lock_tup ht1, hd₁.upd ht1, hn.upd rfl, by simpa using s₁, by simpa using fs, sub_upd hk ht2, by rw [upd_ne hFt]; exact hF, upd_self ..⟩
    · rintro i m' σ' ⟨f, τ₂, ρ₂, Rl₂, m3, rfl, rfl, hd₂, hn₂, s₂, fs₂, hk₂, hF₂, ht₂⟩
      exact ⟨rfl, by rw [Locked, lock_self htup]; exact join_rd hd₂ ht₂⟩
    · rintro i y m' σ' K hy ⟨f, τ₂, ρ₂, Rl₂, m3, rfl, rfl, hd₂, hn₂, s₂, fs₂, hk₂, hF₂, ht₂⟩ hK
      have hi : i < Rl.length := by
        have := (List.getElem?_eq_some_iff.mp hy).1
        rwa [ofInts_len] at this
      rw [ofInts_get hi] at hy; cases hy
      have hdr : Rl.drop i = Rl.getD i 0 :: Rl.drop (i + 1) := by
        rw [List.drop_eq_getElem_cons hi, List.getD_eq_getElem?_getD, List.getElem?_eq_getElem hi]; rfl
      have htk := take_snoc hi
      rw [hdr] at s₂
      generalize Rl.getD i 0 = k at *
      obtain ⟨np₂, st₂⟩ := srt_sts s₂
      obtain ⟨h0, h1⟩ := (hks k).mp (st₂.ok k (by simp))
      have hkD : k ∉ D ++ Rl.take i := fun hm => st₂.dis k hm (by simp)
      have done : ∀ (Q' : Flw → Mem → Store → Prop) f' ρ', Frs cr abv (D ++ Rl.take i ++ [k]) f' → Dj τ₂ ρ' → Nf ρ' → Sub κ ρ' → ρ' F = some (.list (tab n fun k => .int (f' k))) → ρ' tt = some (.ro (.tuple (ofInts Rl))) →
          (∀ m σ'', K .next m σ'' → Q' .next m σ'') →
          WS C (.seq (.expr (.mcall (.var 2) .done (.cons (.var 3) .nil))) .skip) Q' (mD ab cc x (some (.int k)) (some (.ref F))) (join τ₂ ρ') := by
        intro Q' f' ρ' fs' hd' hn' hk' hF' ht' hQ'
        refine ws_seq ?_
        simp only [mD, WS_5, Sq_n, W_15, WL_2, WL_1, W_4, List.getElem?_cons_succ, List.getElem?_cons_zero]
        refine ⟨by obtain ⟨d, l, e1, e2⟩ := s₂.inst; rw [mk_inst (join_l e1) (join_l e2)]; rfl, by trivial, (mcall_srt s₂.inst rfl (call148 h148 s₂ hd' hn' fun τ₃ Rl₃ s₃ hd₃ => ?_)).2⟩
        simp only [Sq_n, WS_1]
        exact hQ' _ _ (hK.1 _ _ (fg_self ⟨f', τ₃, ρ', Rl₃, some (.int k), rfl, rfl, hd₃, hn', by rw [htk, ← List.append_assoc]; exact s₃, by rw [htk, ← List.append_assoc]; exact fs', hk', hF', ht'⟩))
      refine ws_seq ?_
      simp only [put, mD, List.set_cons_succ, List.set_cons_zero, WS_15, WT_2, W_8, tru_bool, W_1, W_4, List.getElem?_cons_succ, List.getElem?_cons_zero, cmp_gt]
      by_cases hk0 : 0 < k
      · rw [decide_eq_true (by omega), Br_t]
        have hp : abv k ∈ D ++ Rl.take i := st₂.cl k (.inr (by simp)) (abv k) ((hks _).mpr (by have := habr k hk0 h1; omega)) (hsc k hk0 h1)
        have hpr := habr k hk0 h1
        refine ws_seq ?_
        simp only [WS_8, Sq_n, W_4, W_14, WL_2, WL_1, W_18, W_5, List.getElem?_cons_succ, List.getElem?_cons_zero, call_blt]
        have sj := sub_trans hk₂ (join_sub hd₂)
        refine getItem_tab (sub_at sj hcc) hl h0 h1 (getItem_tab (sub_at sj hab) hl h0 h1 (getItem_tab (f := fun k => .int (f k)) (at_own (join_rd hd₂ hF₂) rfl) hl (by omega) (by omega) (bcall_min2 ?_)))
        refine setItem_tab (f := fun k => .int (f k)) (join_rd hd₂ hF₂) hl h0 h1 ?_
        simp only [Sq_n, WS_1]
        rw [fset_int, join_upd (hd₂ _ _ hF₂)]
        refine done _ (fset f k (min (cr k) (f (abv k)))) _ ⟨by rw [fset_ne (by omega)]; exact fs₂.z, fun q hq q0 => ?_⟩ (hd₂.upd (hd₂ _ _ hF₂)) (hn₂.upd rfl) (fun b o e => by rw [upd_ne (ne_of_none e hκF)]; exact hk₂ b o e) (upd_self ..) (by rw [upd_ne (Ne.symm hFt)]; exact ht₂) fun m σ'' e => e
        rcases List.mem_append.mp hq with hq' | hq'
        · have := fs₂.st q hq' q0
          have hqk : q ≠ k := fun e => hkD (e ▸ hq')
          have hqa : abv q ≠ k := fun e => hkD (e ▸ this.2)
          rw [fset_ne hqk, fset_ne hqa]
          exact ⟨this.1, List.mem_append_left _ this.2⟩
        · rw [List.mem_singleton.mp hq', fset_self, fset_ne (by omega)]
          exact ⟨rfl, List.mem_append_left _ hp⟩
      · rw [decide_eq_false (by omega), Br_f]
        show WS C .skip _ _ _
        simp only [Sq_n, WS_1]
        refine done _ f _ ⟨fs₂.z, fun q hq q0 => ?_⟩ hd₂ hn₂ hk₂ hF₂ ht₂ fun m σ'' e => e
        rcases List.mem_append.mp hq with hq' | hq'
        · have := fs₂.st q hq' q0
          exact ⟨this.1, List.mem_append_left _ this.2⟩
        · rw [List.mem_singleton.mp hq'] at q0; exact absurd q0 hk0
    · rintro m' σ' ⟨f, τ₂, ρ₂, Rl₂, m3, rfl, rfl, hd₂, hn₂, s₂, fs₂, hk₂, hF₂, ht₂⟩
      rw [ofInts_len, List.take_length, List.drop_length] at s₂
      rw [ofInts_len, List.take_length] at fs₂
      show WS C .skip _ _ _
      simp only [Sq_n, WS_1]
      have hκt : κ tt = none := by
        cases e : κ tt with
        | none => rfl
        | some o => rw [hk _ _ e] at ht2; cases ht2
      have hoff : ∀ b o, off ρ₂ (fun a => a = tt) b = some o → b ≠ tt ∧ ρ₂ b = some o := fun b o e => by
        by_cases hb : b = tt
        · rw [off_in (D := fun a => a = tt) hb] at e; cases e
        · rw [off_out (D := fun a => a = tt) hb] at e; exact ⟨hb, e⟩
      obtain ⟨np₂, st₂⟩ := srt_sts s₂
      have hdl : (D ++ Rl).length ≤ ks.length := st₂.dn.length_le_of_subset st₂.dk
      rw [List.length_append] at hdl
      refine hK₀.1 (ks.length - (D ++ Rl).length) _ _ (by rw [List.length_append]; omega) ⟨join τ₂ (off ρ₂ fun a => a = tt), fun a o e => ?_, D ++ Rl, Rl₂, f, τ₂, off ρ₂ fun a => a = tt, m3, rfl, rfl, fun a o e => hd₂ a o (hoff a o e).2, fun a o e => hn₂ a o (hoff a o e).2, s₂, fs₂, fun b o e => ?_, ?_, by rw [List.length_append]; omega⟩
      · cases e' : τ₂ a with
        | some q =>
          rw [join_l e'] at e
          have hat : a ≠ tt := by rintro rfl; rw [hd₂ _ _ ht₂] at e'; cases e'
          rw [unlock_ne hat, join_l e']; exact e
        | none =>
          rw [join_r e'] at e
          obtain ⟨e1, e2⟩ := hoff a o e
          rw [unlock_ne e1, join_r e']; exact e2
      · have hb : b ≠ tt := by rintro rfl; rw [hκt] at e; cases e
        rw [off_out (D := fun a => a = tt) hb]; exact hk₂ b o e
      · rw [off_out (D := fun a => a = tt) hFt]; exact hF₂
end Mine
end
section
namespace Mine

noncomputable def S186 (args : List AV) (Q : AV → Store → Prop) (σ : Store) : Prop := Ex5 fun (n : Nat) (ab cc : Adr) (abv cr : Int → Int) => An8 (args = [.ref ab, .ref cc]) (Nf σ) (at? σ ab = some (.list (tab n fun k => .int (abv k)))) (at? σ cc = some (.list (tab n fun k => .int (cr k)))) (n ≤ 8) (2 ≤ n) (∀ k : Int, 0 < k → k < n → 0 ≤ abv k ∧ abv k < k) (∀ (r : Adr) (f : Int → Int) σ', Sub σ σ' → σ' r = some (.list (tab n fun k => .int (f k))) → f 0 = cr 0 → (∀ k : Int, 0 < k → k < n → f k = min (cr k) (f (abv k))) → Q (.ref r) σ')

noncomputable def dadds (n : Nat) (abv : Int → Int) (i : Nat) : List (Int × List Int) := (List.range i).map fun (i : Nat) => ((n : Int) - 1 - i, [abv ((n : Int) - 1 - i)])
theorem dadds_snoc (n : Nat) (abv : Int → Int) (i : Nat) : dadds n abv (i + 1) = dadds n abv i ++ [((n : Int) - 1 - i, [abv ((n : Int) - 1 - i)])] := by unfold dadds; rw [List.range_succ]; simp
theorem dadds_tot (n : Nat) (abv : Int → Int) (i : Nat) : tot (dadds n abv i) = 2 * i := by
  induction i with
  | zero => rfl
  | succ i ih => rw [dadds_snoc, tot_snoc, ih]; simp; omega
theorem mem_dadds {n : Nat} {abv : Int → Int} {a : Int × List Int} (hn : 2 ≤ n) : a ∈ dadds n abv (n - 1) ↔ 0 < a.1 ∧ a.1 < n ∧ a.2 = [abv a.1] := by
  unfold dadds
  rw [List.mem_map]
  constructor
  · rintro ⟨i, hi, rfl⟩
    have := List.mem_range.mp hi
    exact ⟨by simp only; omega, by simp only; omega, rfl⟩
  · rintro ⟨h0, h1, h2⟩
    obtain ⟨k, l⟩ := a
    simp only at h0 h1 h2
    refine ⟨(n - 1 - k).toNat, List.mem_range.mpr (by omega), ?_⟩
    rw [show (n : Int) - 1 - (((n : Int) - 1 - k).toNat : Int) = k by omega, h2]

theorem bcall_list {σ : Store} {a : Adr} {xs : List AV} {Q : AV → Store → Prop} (h : at? σ a = some (.list xs)) (hl : xs.length ≤ lim) (hq : ∀ r, σ r = none → Q (.ref r) (upd σ r (.list xs))) : Bcall .list [.ref a] Q σ := .list xs h hl hq

theorem v186 {C : Ctr} (h134 : ∀ args Q σ, ClS S134 args Q σ → C 134 args Q σ) (h127 : ∀ args Q σ, ClS S127 args Q σ → C 127 args Q σ) (h148 : ∀ args Q σ, ClS S148 args Q σ → C 148 args Q σ) (h120 : ∀ args Q σ, ClS S120 args Q σ → C 120 args Q σ) (h115 : ∀ args Q σ, ClS S115g args Q σ → C 115 args Q σ) (h165 : ∀ args Q σ, S165 args Q σ → C 165 args Q σ)
    {n : Nat} {ab cc : Adr} {abv cr : Int → Int} {σ : Store} {Q : AV → Store → Prop} (hn : Nf σ) (hab : at? σ ab = some (.list (tab n fun k => .int (abv k)))) (hcc : at? σ cc = some (.list (tab n fun k => .int (cr k)))) (n8 : n ≤ 8) (n2 : 2 ≤ n) (habr : ∀ k : Int, 0 < k → k < n → 0 ≤ abv k ∧ abv k < k)
    (hq : ∀ (r : Adr) (f : Int → Int) σ', Sub σ σ' → σ' r = some (.list (tab n fun k => .int (f k))) → f 0 = cr 0 → (∀ k : Int, 0 < k → k < n → f k = min (cr k) (f (abv k))) → Q (.ref r) σ') :
    WS C p186 (fin Q) [some (.ref ab), some (.ref cc), none, none, none] σ := by
  have hlim : (1000 : Nat) ≤ lim := by decide
  have hl : n ≤ lim := by omega
  unfold p186
  refine ws_seq ?_
  simp only [WS_6, W_14, W_5, WL_1, call_ref]
  refine h165 _ _ _ ⟨hn, .inl ⟨rfl, fun x τ G hd => ⟨by simp, ?_⟩⟩⟩
  simp only [put, List.set_cons_zero, List.set_cons_succ]
  refine ws_seq (ws_each ?_)
  simp only [W_14, WL_2, WL_1, W_7, W_1, W_6, W_4, W_5, call_blt, List.getElem?_cons_succ, List.getElem?_cons_zero]
  refine bcall_len (sub_at (join_sub hd) hcc) (by rw [tab_len]; omega) ?_
  simp only [bin_sub]
  refine bcall_range3 (by rw [tab_len]; omega) (by decide) fun r hr => ?_
  rw [tab_len, show ((n : Int) - 1 - 0).toNat = n - 1 by omega]
  obtain ⟨hr1, hr2⟩ := join_none hr
  rw [join_upd hr1]
  have er : at? (join τ (upd σ r (.range ((n : Int) - 1) (n - 1) (-1)))) r = some (.range ((n : Int) - 1) (n - 1) (-1)) := by
    unfold at?; rw [join_r hr1, upd_self]; rfl
  have sρ := sub_upd (o := .range ((n : Int) - 1) (n - 1) (-1)) (sub_refl σ) hr2
  have nρ : Nf (upd σ r (.range ((n : Int) - 1) (n - 1) (-1))) := hn.upd rfl
  have dρ := hd.upd (o := .range ((n : Int) - 1) (n - 1) (-1)) hr1
  generalize upd σ r (.range ((n : Int) - 1) (n - 1) (-1)) = ρ at er sρ nρ dρ ⊢
  refine ⟨_, _, items_range er, by simp; omega, ltb rfl, fun i m' σ' => Ex2 fun τ m3 => An4 (m' = mD ab cc x m3 none) (σ' = join τ ρ) (Dj τ ρ) (Gr x (dadds n abv i) τ), ?_, ?_, ?_, ?_⟩
  · exact ⟨τ, none, rfl, rfl, dρ, G⟩
  · rintro i m' σ' ⟨τ, m3, rfl, _⟩; exact ⟨rfl, trivial⟩
  · rintro i y m' σ' K hy ⟨τ, m3, rfl, rfl, dρ, G⟩ hK
    have hi : i < n - 1 := by
      have := (List.getElem?_eq_some_iff.mp hy).1
      simpa using this
    have hy' : y = .int ((n : Int) - 1 - i) := by
      rw [List.getElem?_map, List.getElem?_range hi] at hy
      simp only [Option.map_some, Option.some.injEq] at hy
      rw [← hy]; congr 1; omega
    subst hy'
    have htot := dadds_tot n abv i
    have hsn := dadds_snoc n abv i
    have k0 : 0 < (n : Int) - 1 - i := by omega
    have k1 : (n : Int) - 1 - i < n := by omega
    generalize (n : Int) - 1 - i = k at *
    refine ws_seq ?_
    simp only [put, mD, List.set_cons_succ, List.set_cons_zero, WS_5, Sq_n, W_15, WL_2, WL_1, W_18, W_4, List.getElem?_cons_succ, List.getElem?_cons_zero]
    refine ⟨by obtain ⟨d, l, e1, e2⟩ := G.inst; rw [mk_inst (join_l e1) (join_l e2)]; rfl, ?_⟩
    refine getItem_tab (sub_at (sub_trans sρ (join_sub dρ)) hab) hl (by omega) k1 ⟨by trivial, (mcall_srt G.inst rfl (call115 (preds := [abv k]) h115 G dρ nρ (by simp; omega) fun τ' G' dρ' => ?_)).2⟩
    simp only [Sq_n, WS_1]
    refine hK.1 _ _ (fg_self ⟨τ', _, rfl, rfl, dρ', ?_⟩)
    rw [hsn]; exact G'
  · rintro m' σ' ⟨τ, m3, rfl, rfl, dρ, G⟩
    rw [List.length_map, List.length_range] at G
    rw [show ∀ σ' : Store, unlock σ' (join τ ρ) none = join τ ρ from fun _ => rfl]
    have hgks : ∀ k : Int, k ∈ gks (dadds n abv (n - 1)) ↔ 0 ≤ k ∧ k < n := fun k => by
      rw [mem_gks]
      constructor
      · rintro ⟨a, ha, hk⟩
        obtain ⟨h0, h1, h2⟩ := (mem_dadds n2).mp ha
        rcases hk with rfl | hk
        · omega
        · rw [h2] at hk
          rw [List.mem_singleton.mp hk]
          have := habr a.1 h0 h1; omega
      · rintro ⟨h0, h1⟩
        by_cases hz : k = 0
        · refine ⟨(1, [abv 1]), (mem_dadds n2).mpr ⟨by simp, by simp only; omega, rfl⟩, .inr ?_⟩
          have := habr 1 (by omega) (by omega)
          simp; omega
        · exact ⟨(k, [abv k]), (mem_dadds n2).mpr ⟨by simp only; omega, h1, rfl⟩, .inl rfl⟩
    have hgsc : ∀ p j, j ∈ gsc (dadds n abv (n - 1)) p ↔ 0 < j ∧ j < n ∧ p = abv j := fun p j => by
      rw [mem_gsc]
      constructor
      · rintro ⟨a, ha, rfl, hp⟩
        obtain ⟨h0, h1, h2⟩ := (mem_dadds n2).mp ha
        rw [h2] at hp
        exact ⟨h0, h1, List.mem_singleton.mp hp⟩
      · rintro ⟨h0, h1, hp⟩
        exact ⟨(j, [abv j]), (mem_dadds n2).mpr ⟨h0, h1, rfl⟩, rfl, by simp [hp]⟩
    have hrk : ∀ p ∈ gks (dadds n abv (n - 1)), ∀ j ∈ gsc (dadds n abv (n - 1)) p, j ∈ gks (dadds n abv (n - 1)) ∧ p.toNat < j.toNat := fun p hp j hj => by
      obtain ⟨h0, h1, rfl⟩ := (hgsc p j).mp hj
      have := habr j h0 h1
      exact ⟨(hgks j).mpr (by omega), by omega⟩
    have htot := dadds_tot n abv (n - 1)
    refine ws_seq ?_
    simp only [mD, WS_5, Sq_n, W_15, WL_1, W_4, List.getElem?_cons_succ, List.getElem?_cons_zero]
    refine ⟨by obtain ⟨d, l, e1, e2⟩ := G.inst; show methOk (Mk (join τ ρ) _) _ = true; rw [mk_inst (join_l e1) (join_l e2)]; rfl, by trivial, (mcall_srt G.inst rfl (call120 h120 (rk := fun p => p.toNat) G dρ nρ hrk ?_ (by omega) fun Rl τ₁ s hd₁ => ?_)).2⟩
    · have := gks_len (dadds n abv (n - 1)); omega
    refine ws_seq ?_
    simp only [WS_6, put, Sq_n, W_14, WL_2, WL_1, W_4, W_5, List.getElem?_cons_succ, List.getElem?_cons_zero, List.length_cons, List.length_nil, List.set_cons_succ, List.set_cons_zero, call_blt]
    have sj : Sub σ (join τ₁ ρ) := sub_trans sρ (join_sub hd₁)
    refine bcall_list (sub_at sj hcc) (by rw [tab_len]; omega) fun F hF => ⟨by simp, ?_⟩
    obtain ⟨hF1, hF2⟩ := join_none hF
    have hσF : σ F = none := by
      cases e : σ F with
      | none => rfl
      | some o => rw [sρ _ _ e] at hF2; cases hF2
    rw [join_upd hF1]
    refine ws_seq (pc_down (rk := fun p => p.toNat) (κ := σ) (f := cr) h134 h127 h148 hab hcc n8 habr (sub_upd sρ hF2) (upd_self ..) hσF ⟨rfl, by simp⟩ (hd₁.upd hF1) (nρ.upd rfl) s hgks (fun k h0 h1 => (hgsc _ k).mpr ⟨h0, h1, rfl⟩) (fun p hp j hj => (hrk p hp j hj).2) ?_)
    intro f τ₂ ρ₂ m3 fs hk₂ hF₂ hd₂
    refine ws_seq ?_
    simp only [mD, WS_14, Sq_r, W_4, List.getElem?_cons_succ, List.getElem?_cons_zero]
    exact hq F f _ (sub_trans hk₂ (join_sub hd₂)) (join_rd hd₂ hF₂) fs.z fun k h0 h1 => (fs.st k (mem_tab.mpr ⟨k, by omega, h1, rfl⟩) h0).1

noncomputable def S174 (args : List AV) (Q : AV → Store → Prop) (σ : Store) : Prop := Ex4 fun (a b : Adr) (bs ns : List Int) => An7 (args = [.ref a, .ref b]) (at? σ a = some (.list (ofInts bs))) (at? σ b = some (.list (ofInts ns))) (1 ≤ bs.length) (bs.length ≤ lim) (ns.length ≤ lim) (∀ (r : Adr) (ys : List Int) σ', ys.length = bs.length → Sub σ σ' → σ' r = some (.list (ofInts ys)) → σ r = none → Gb σ σ' → Q (.ref r) σ')

theorem stepped_ints (ns : List Int) (lo st : Nat) (h : 1 ≤ st) : ∃ ys : List Int, stepped (ofInts ns) lo st = ofInts ys := by
  refine ⟨(List.range (stepCount (ofInts ns).length lo st)).map fun j => ns.getD (lo + j * st) 0, ?_⟩
  unfold stepped ofInts
  rw [List.map_map]
  refine List.map_congr_left fun j hj => ?_
  have hj' := List.mem_range.mp hj
  have hlt : lo + j * st < ns.length := by
    unfold stepCount at hj'
    simp only [List.length_map] at hj'
    split at hj'
    · rename_i hlo
      have h1 : (ns.length - lo + st - 1) / st * st ≤ ns.length - lo + st - 1 := Nat.div_mul_le_self ..
      have h2 : (j + 1) * st ≤ (ns.length - lo + st - 1) / st * st := Nat.mul_le_mul_right _ hj'
      rw [Nat.add_mul] at h2
      omega
    · omega
  simp [hlt]

theorem v174 {C : Ctr} {a b : Adr} {bs ns : List Int} {σ : Store} {Q : AV → Store → Prop} (ha : at? σ a = some (.list (ofInts bs))) (hb : at? σ b = some (.list (ofInts ns))) (h1 : 1 ≤ bs.length) (h2 : bs.length ≤ lim) (h3 : ns.length ≤ lim)
    (hq : ∀ (r : Adr) (ys : List Int) σ', ys.length = bs.length → Sub σ σ' → σ' r = some (.list (ofInts ys)) → σ r = none → Gb σ σ' → Q (.ref r) σ') :
    WS C p174 (fin Q) [some (.ref a), some (.ref b)] σ := by
  unfold p174
  refine ws_seq ?_
  rw [WS_14]
  refine w_lcomp ?_
  simp only [Sq_r, W_14, WL_2, WL_1, W_4, W_5, call_blt, List.getElem?_cons_zero]
  refine bcall_len ha (by rw [ofInts_len]; exact h2) (bcall_range (by rw [ofInts_len]; omega) fun r hr => ?_)
  rw [ofInts_len, Int.toNat_natCast]
  have g1 := (Gb.refl σ).new (o := .range 0 bs.length 1) hr rfl
  have er := at_upd_self σ r (o := .range 0 bs.length 1) rfl
  generalize upd σ r (.range 0 bs.length 1) = σ₁ at g1 er ⊢
  obtain ⟨val, hval⟩ : ∃ val : Nat → Int, ∀ i, i < bs.length → ∃ ys : List Int, stepped (ofInts ns) i bs.length = ofInts ys ∧ val i = bs.getD i 0 + ys.sum := by
    refine ⟨fun i => bs.getD i 0 + ((stepped (ofInts ns) i bs.length).map toInt).sum, fun i hi => ?_⟩
    obtain ⟨ys, e⟩ := stepped_ints ns i bs.length h1
    refine ⟨ys, e, ?_⟩
    simp only [e]
    unfold ofInts; rw [List.map_map]
    congr 2
    exact (List.map_id'' (fun _ => rfl) ys)
  refine lc_pure (fun i => (List.range i).map fun i => .int (val i)) (items_range er) (by simp; exact h2) rfl (fun i y hy => ?_) fun q hq' => ?_
  · have hi : i < bs.length := by
      have := (List.getElem?_eq_some_iff.mp hy).1
      simpa using this
    have hy' : y = .int i := by
      rw [List.getElem?_map, List.getElem?_range hi] at hy
      simp only [Option.map_some, Option.some.injEq] at hy
      rw [← hy]; congr 1; omega
    subst hy'
    obtain ⟨ys, e1, e2⟩ := hval i hi
    simp only [List.cons_append, List.nil_append, WT_1, LcT_t, W_6, W_14, WL_2, WL_1, W_21, W_4, W_5, call_blt, W_18, List.getElem?_cons_zero, List.getElem?_cons_succ]
    have aL : at? (lock σ₁ none) a = some (.list (ofInts bs)) := by rw [at_lock]; exact sub_at g1.1 ha
    have bL : at? (lock σ₁ none) b = some (.list (ofInts ns)) := by rw [at_lock]; exact sub_at g1.1 hb
    refine getItem_list aL h2 hi (bcall_len aL (by rw [ofInts_len]; exact h2) ?_)
    refine ⟨_, bL, by rw [ofInts_len]; exact h3, by omega, by omega, by rw [ofInts_len]; omega, by rw [ofInts_len]; omega, fun q hq => ?_⟩
    rw [ofInts_len, Int.toNat_natCast, Int.toNat_natCast, e1]
    refine bcall_sum (at_upd_self _ _ rfl) ?_
    simp only [bin_add]
    refine lc_end (sub_upd (sub_refl _) hq) ?_
    rw [List.range_succ, List.map_append, ← e2]; rfl
  · rw [List.length_map, List.length_range]
    have g2 := g1.new (o := .list ((List.range bs.length).map fun i => .int (val i))) hq' rfl
    refine hq q ((List.range bs.length).map val) _ (by simp) g2.1 (by rw [upd_self]; unfold ofInts; rw [List.map_map]; rfl) ?_ g2
    cases e : σ q with
    | none => rfl
    | some o => rw [g1.1 _ _ e] at hq'; cases hq'
end Mine
end
section
namespace Mine

noncomputable def rng1 (n : Nat) : List Int := (List.range (n - 1)).map fun (i : Nat) => 1 + (i : Int)
theorem mem_rng1 {n : Nat} {j : Int} : j ∈ rng1 n ↔ 0 < j ∧ j < n := by
  unfold rng1
  rw [List.mem_map]
  constructor
  · rintro ⟨i, hi, rfl⟩; have := List.mem_range.mp hi; omega
  · rintro ⟨h0, h1⟩; exact ⟨(j - 1).toNat, List.mem_range.mpr (by omega), by omega⟩
theorem rng1_nodup (n : Nat) : (rng1 n).Nodup := by
  unfold rng1
  rw [List.nodup_iff_pairwise_ne, List.pairwise_map]
  have := List.nodup_range (n := n - 1)
  rw [List.nodup_iff_pairwise_ne] at this
  exact this.imp fun h e => h (by omega)
theorem rng1_snoc (n : Nat) (h : 1 ≤ n) : rng1 (n + 1) = rng1 n ++ [(n : Int)] := by
  unfold rng1
  obtain ⟨m, rfl⟩ : ∃ m, n = m + 1 := ⟨n - 1, by omega⟩
  rw [show m + 1 + 1 - 1 = m + 1 by omega, show m + 1 - 1 = m by omega, List.range_succ]
  simp; omega

noncomputable def kids (n : Nat) (abv : Int → Int) (k : Int) : List Int := (rng1 n).filter fun j => decide (abv j = k)
theorem mem_kids {n : Nat} {abv : Int → Int} {k j : Int} : j ∈ kids n abv k ↔ 0 < j ∧ j < n ∧ abv j = k := by
  unfold kids; rw [List.mem_filter, mem_rng1]; simp [and_assoc]
theorem kids_tree {n : Nat} {abv w : Int → Int} (n8 : n ≤ 8) (habr : ∀ k : Int, 0 < k → k < n → 0 ≤ abv k ∧ abv k < k) (hw : ∀ k : Int, 0 ≤ k → k < n → 1 ≤ w k ∧ w k ≤ 3) : Tree n (kids n abv) w := by
  refine ⟨n8, fun k h0 h1 j hj => ?_, fun k h0 h1 => (rng1_nodup n).filter _, fun k q j _ _ _ _ h1 h2 => ?_, hw⟩
  · obtain ⟨a, b, rfl⟩ := mem_kids.mp hj
    exact ⟨(habr j a b).2, b⟩
  · exact (mem_kids.mp h1).2.2.symm.trans (mem_kids.mp h2).2.2

theorem sum_tab_add (n : Nat) (f g : Int → Int) : (tab n fun k => f k + g k).sum = (tab n f).sum + (tab n g).sum := by
  induction n with
  | zero => rfl
  | succ n ih => simp only [tab_snoc, List.sum_append, List.sum_cons, List.sum_nil, ih]; omega
theorem sum_tab_zero (n : Nat) : (tab n fun _ => (0 : Int)).sum = 0 := by
  induction n with
  | zero => rfl
  | succ n ih => simp only [tab_snoc, List.sum_append, List.sum_cons, List.sum_nil, ih]; rfl
theorem sum_tab_one {n : Nat} {p : Int} {v : Int} (h0 : 0 ≤ p) (h1 : p < n) : (tab n fun k => if p = k then v else 0).sum = v := by
  induction n with
  | zero => omega
  | succ n ih =>
    simp only [tab_snoc, List.sum_append, List.sum_cons, List.sum_nil]
    by_cases h : p = n
    · rw [if_pos h]
      have : (tab n fun k => if p = k then v else 0) = tab n fun _ => 0 := tab_congr fun k k0 k1 => if_neg (by omega)
      rw [this, sum_tab_zero]; omega
    · rw [if_neg h, ih (by omega)]; omega

theorem sum_kids {n : Nat} {abv g : Int → Int} (habr : ∀ k : Int, 0 < k → k < n → 0 ≤ abv k ∧ abv k < k) (hn : 1 ≤ n) : (tab n fun k => ((kids n abv k).map g).sum).sum = ((rng1 n).map g).sum := by
  have : ∀ m : Nat, 1 ≤ m → m ≤ n → (tab n fun k => (((rng1 m).filter fun j => decide (abv j = k)).map g).sum).sum = ((rng1 m).map g).sum := by
    intro m
    induction m with
    | zero => intro h; omega
    | succ m ih =>
      intro _ hm
      by_cases h1 : m = 0
      · subst h1
        have : rng1 (0 + 1) = [] := rfl
        rw [this]
        simp only [List.filter_nil, List.map_nil, List.sum_nil]
        exact sum_tab_zero n
      · have hi := ih (by omega) (by omega)
        rw [rng1_snoc m (by omega), List.map_append, List.sum_append, ← hi]
        have hr := habr m (by omega) (by omega)
        have e : (tab n fun k => (((rng1 m ++ [(m : Int)]).filter fun j => decide (abv j = k)).map g).sum) = tab n fun k => (((rng1 m).filter fun j => decide (abv j = k)).map g).sum + (if abv m = k then g m else 0) := tab_congr fun k _ _ => by
          rw [List.filter_append, List.map_append, List.sum_append]
          by_cases h : abv m = k
          · simp [h]
          · simp [h]
        rw [e, sum_tab_add, sum_tab_one (by omega) (by omega)]
        simp
  exact this n hn (Nat.le_refl n)

theorem sum_rng1 {n : Nat} {g : Int → Int} (hn : 1 ≤ n) : (tab n g).sum = g 0 + ((rng1 n).map g).sum := by
  have : ∀ m : Nat, 1 ≤ m → (tab m g).sum = g 0 + ((rng1 m).map g).sum := by
    intro m
    induction m with
    | zero => intro h; omega
    | succ m ih =>
      intro _
      by_cases h1 : m = 0
      · subst h1; simp [tab, rng1]
      · rw [tab_snoc, rng1_snoc m (by omega), List.sum_append, List.map_append, List.sum_append, ih (by omega)]
        simp; omega
  exact this n hn

section
variable {n : Nat} {bel bd : Int → List Int} {h w pd cr abv f lev : Int → Int} {m : Nat}

theorem max0 {a b : Int} (h : a ≤ b) : max 0 a ≤ max 0 b := by omega
theorem gk_anti {k x y : Int} (hxy : x ≤ y) : gk pd bd k y ≤ gk pd bd k x := by
  unfold gk
  have : ∀ l : List Int, (l.map fun b => max 0 (b - y)).sum ≤ (l.map fun b => max 0 (b - x)).sum := by
    intro l
    induction l with
    | nil => simp
    | cons b l ih => simp only [List.map_cons, List.sum_cons]; exact Int.add_le_add (max0 (Int.sub_le_sub_left hxy b)) ih
  exact Int.add_le_add_left (this (bd k)) _

theorem tg_ok (up : ∀ k : Int, 0 ≤ k → k < n → UpK n bel h w pd bd cr k) (hs : ∀ i j : Int, 0 ≤ i → i ≤ j → j < m → lev i ≤ lev j) (hh : ∀ q : Int, 0 ≤ q → q < n → ∃ i : Int, 0 ≤ i ∧ i < m ∧ lev i = h q) : TgOk n m bel h w lev fun k j => gk pd bd k (lev j) := by
  intro k j k0 k1 j0 j1
  have u := up k k0 k1
  obtain ⟨q, q0, q1, hq⟩ := u.chts
  obtain ⟨i, i0, i1, hi⟩ := hh q q0 q1
  have hc : lev i = cr k := by rw [hi, hq]
  simp only
  by_cases hz : j = 0
  · rw [if_pos hz]
    refine u.eq _ ?_
    rw [← hc]; exact hs j i j0 (by omega) i1
  · rw [if_neg hz]
    have hle := u.le (lev j)
    by_cases hlt : lev j ≤ cr k
    · have e := u.eq _ hlt
      have := gk_anti (pd := pd) (bd := bd) (k := k) (hs (j - 1) j (by omega) (by omega) j1)
      omega
    · have hij : i ≤ j - 1 := by
        refine Classical.byContradiction fun hn => hlt ?_
        rw [← hc]; exact hs j i j0 (by omega) i1
      have e1 := u.top (lev j) (by omega)
      have e2 := u.top (lev (j - 1)) (by rw [← hc]; exact hs i (j - 1) i0 hij (by omega))
      omega

theorem fresh_sum (up : ∀ k : Int, 0 ≤ k → k < n → UpK n (kids n abv) h w pd bd cr k) (hn : 1 ≤ n) (habr : ∀ k : Int, 0 < k → k < n → 0 ≤ abv k ∧ abv k < k) (f0 : f 0 = cr 0) (fs : ∀ k : Int, 0 < k → k < n → f k = min (cr k) (f (abv k))) :
    (tab n fun k => w k * ((f k - h k).natAbs : Int)).sum = pd 0 := by
  have hfc : ∀ k : Int, 0 ≤ k → k < n → f k ≤ cr k := fun k k0 k1 => by
    by_cases hz : k = 0
    · subst hz; omega
    · have := fs k (by omega) k1; omega
  have hk : ∀ k : Int, 0 ≤ k → k < n → gk pd bd k (f k) = w k * ((f k - h k).natAbs : Int) + ((kids n abv k).map fun j => gk pd bd j (f j)).sum := fun k k0 k1 => by
    rw [(up k k0 k1).eq _ (hfc k k0 k1)]
    congr 2
    refine List.map_congr_left fun j hj => ?_
    obtain ⟨j0, j1, rfl⟩ := mem_kids.mp hj
    have e := fs j j0 j1
    have u := up j (by omega) j1
    by_cases hle : f (abv j) ≤ cr j
    · rw [show f j = f (abv j) by omega]
    · rw [show f j = cr j by omega, u.top _ (by omega), u.top _ (Int.le_refl _)]
  have e1 : (tab n fun k => gk pd bd k (f k)).sum = (tab n fun k => w k * ((f k - h k).natAbs : Int)).sum + (tab n fun k => ((kids n abv k).map fun j => gk pd bd j (f j)).sum).sum := by
    rw [← sum_tab_add]
    congr 1
    exact tab_congr hk
  rw [sum_kids habr hn, sum_rng1 hn] at e1
  have e2 : gk pd bd 0 (f 0) = pd 0 := by rw [f0]; exact (up 0 (by omega) (by omega)).top _ (Int.le_refl _)
  omega
end
end Mine
end
section
namespace Mine

noncomputable def tl : PS → PS
  | .seq _ b => b
  | p => p

noncomputable def mL (m0 m1 : Option AV) (n : Nat) (hh : Adr) (m4 m5 : Option AV) (ab ww : Adr) (m8 m9 : Option AV) (P Cc : Adr) (m12 m13 m14 m15 : Option AV) : Mem :=
  [m0, m1, some (.int n), some (.ref hh), m4, m5, some (.ref ab), some (.ref ww), m8, m9, some (.ref P), some (.ref Cc), m12, m13, m14, m15]

section
variable {C : Ctr} {n m : Nat} {hh ab ww P Cc bl B lv tb : Adr} {abv h w pd cr lev : Int → Int} {bd : Int → List Int} {bdA tA : Int → Adr} {σ : Store} {Q : AV → Store → Prop} {m0 m1 m4 m5 m8 m9 m12 m13 m14 m15 : Option AV}

theorem items_rng {σ : Store} {r : Adr} {n : Nat} {i : Nat} {y : AV} (hy : ((List.range n).map (fun (i : Nat) => AV.int (0 + (i : Int) * 1)))[i]? = some y) : i < n ∧ y = .int i := by
  have hi : i < n := by
    have := (List.getElem?_eq_some_iff.mp hy).1
    simpa using this
  refine ⟨hi, ?_⟩
  rw [List.getElem?_map, List.getElem?_range hi] at hy
  simp only [Option.map_some, Option.some.injEq] at hy
  rw [← hy]; congr 1; omega
theorem items_rng1 {n : Nat} {i : Nat} {y : AV} (hy : ((List.range n).map (fun (i : Nat) => AV.int (1 + (i : Int) * 1)))[i]? = some y) : i < n ∧ y = .int (1 + i) := by
  have hi : i < n := by
    have := (List.getElem?_eq_some_iff.mp hy).1
    simpa using this
  refine ⟨hi, ?_⟩
  rw [List.getElem?_map, List.getElem?_range hi] at hy
  simp only [Option.map_some, Option.some.injEq] at hy
  rw [← hy]; congr 1; omega

noncomputable def pS4 : PS := tl (tl (tl (tl (tl (tl (tl (tl (tl (tl (tl (tl p196)))))))))))

theorem st4 (h186 : ∀ args Q σ, S186 args Q σ → C 186 args Q σ) (hn : Nf σ) (n5 : 5 ≤ n) (n8 : n ≤ 8) (habr : ∀ k : Int, 0 < k → k < n → 0 ≤ abv k ∧ abv k < k) (hw : ∀ k : Int, 0 ≤ k → k < n → 1 ≤ w k ∧ w k ≤ 3)
    (hhh : at? σ hh = some (.list (tab n fun k => .int (h k)))) (hab : at? σ ab = some (.list (tab n fun k => .int (abv k)))) (hww : at? σ ww = some (.list (tab n fun k => .int (w k)))) (hP : at? σ P = some (.list (tab n fun k => .int (pd k)))) (hC : at? σ Cc = some (.list (tab n fun k => .int (cr k))))
    (up : ∀ k : Int, 0 ≤ k → k < n → UpK n (kids n abv) h w pd bd cr k) (hq : ∀ σ', Q (.bool true) σ') :
    WS C pS4 (fin Q) (mL m0 m1 n hh m4 m5 ab ww m8 m9 P Cc m12 m13 m14 m15) σ := by
  have hlim : (1000 : Nat) ≤ lim := by decide
  have hl : n ≤ lim := by omega
  simp only [pS4, tl, p196]
  refine ws_seq ?_
  simp only [mL, WS_6, put, Sq_n, W_14, WL_2, WL_1, W_4, W_5, List.getElem?_cons_succ, List.getElem?_cons_zero, List.length_cons, List.length_nil, List.set_cons_succ, List.set_cons_zero, call_ref]
  refine h186 _ _ _ ⟨n, ab, Cc, abv, cr, rfl, hn, hab, hC, n8, by omega, habr, fun F f σ₁ s₁ hF f0 fs => ⟨by simp, ?_⟩⟩
  refine ws_seq ?_
  simp only [WS_15, WT_2, W_8]
  refine w_lcomp ?_
  simp only [tru_bool, W_12, WL_1, List.length_nil, W_14, WL_2, W_4, W_1, W_5, List.getElem?_cons_succ, List.getElem?_cons_zero, call_blt]
  refine bcall_range2 (by decide) (by omega) fun r hr => ?_
  rw [show ((n : Int) - 1).toNat = n - 1 by omega]
  have s₂ := sub_upd (o := .range 1 (n - 1) 1) (sub_refl σ₁) hr
  have er := at_upd_self σ₁ r (o := .range 1 (n - 1) 1) rfl
  generalize upd σ₁ r (.range 1 (n - 1) 1) = σ₂ at s₂ er ⊢
  have t₂ := sub_trans s₁ s₂
  refine lc_pure (fun _ => []) (items_range er) (by simp; omega) rfl (fun i y hy => ?_) fun q hq' => ?_
  · obtain ⟨hi, rfl⟩ := items_rng1 hy
    simp only [List.cons_append, List.nil_append, WT_2, W_8, tru_bool, W_18, W_4, List.getElem?_cons_succ, List.getElem?_cons_zero]
    have hab' : at? (lock σ₂ none) ab = some (.list (tab n fun k => .int (abv k))) := by rw [at_lock]; exact sub_at t₂ hab
    have hF' : at? (lock σ₂ none) F = some (.list (tab n fun k => .int (f k))) := by rw [at_lock]; exact at_own (s₂ _ _ hF) rfl
    have hr' := habr (1 + i) (by omega) (by omega)
    have hf := fs (1 + i) (by omega) (by omega)
    refine getItem_tab hF' hl (by omega) (by omega) (getItem_tab hab' hl (by omega) (by omega) (getItem_tab hF' hl (by omega) (by omega) ?_))
    simp only [cmp_gt]
    rw [decide_eq_false (by omega)]
    simp only [LcT_f]
    exact lc_end (sub_refl _) rfl
  · refine ⟨by decide, fun q2 hq2 => ?_⟩
    have s₃ := sub_upd (o := .list []) (sub_refl σ₂) hq'
    have e3 := upd_self σ₂ q (.list [])
    generalize upd σ₂ q (.list []) = σ₃ at s₃ e3 hq2 ⊢
    have s₄ := sub_upd (o := .list []) (sub_refl σ₃) hq2
    have e4 := upd_self σ₃ q2 (.list [])
    generalize upd σ₃ q2 (.list []) = σ₄ at s₄ e4 ⊢
    refine cmp_ne_ref (xs := []) (ys := []) (at_own (s₄ _ _ e3) rfl) (at_own e4 rfl) ?_
    rw [decide_eq_false (by simp)]
    simp only [Br_t, Br_f]
    show WS C .skip _ _ _
    simp only [Sq_n, WS_1]
    have t₄ := sub_trans t₂ (sub_trans s₃ s₄)
    have hF₄ := sub_trans s₂ (sub_trans s₃ s₄) _ _ hF
    refine ws_seq ?_
    simp only [WS_14, W_8, W_14, W_5, WL_1, WL_2, call_blt]
    refine w_lcomp ?_
    simp only [Sq_r, W_18, W_1, W_4, W_14, WL_2, WL_1, W_5, List.getElem?_cons_succ, List.getElem?_cons_zero, call_blt]
    refine bcall_range (by omega) fun r hr => ?_
    rw [Int.toNat_natCast]
    have s₅ := sub_upd (o := .range 0 n 1) (sub_refl σ₄) hr
    have er := at_upd_self σ₄ r (o := .range 0 n 1) rfl
    generalize upd σ₄ r (.range 0 n 1) = σ₅ at s₅ er ⊢
    have t₅ := sub_trans t₄ s₅
    refine lc_pure (fun i => ofInts (tab i fun k => w k * ((f k - h k).natAbs : Int))) (items_range er) (by simp; omega) rfl (fun i y hy => ?_) fun q hq' => ?_
    · obtain ⟨hi, rfl⟩ := items_rng (σ := σ₅) (r := r) hy
      simp only [List.cons_append, List.nil_append, WT_1, LcT_t, W_6, W_14, WL_2, WL_1, W_18, W_4, W_5, call_blt, List.getElem?_cons_succ, List.getElem?_cons_zero]
      have atL : ∀ a o, at? σ₅ a = some o → at? (lock σ₅ none) a = some o := fun a o e => by rw [at_lock]; exact e
      refine getItem_tab (atL _ _ (sub_at t₅ hww)) hl (by omega) (by omega) (getItem_tab (atL _ _ (at_own (s₅ _ _ hF₄) rfl)) hl (by omega) (by omega) (getItem_tab (atL _ _ (sub_at t₅ hhh)) hl (by omega) (by omega) ?_))
      simp only [bin_sub]
      refine bcall_abs ?_
      simp only [bin_mul]
      have hwi := hw i (by omega) (by omega)
      refine ⟨Nat.lt_of_le_of_lt (show (w i).natAbs ≤ 3 by omega) (by decide), lc_end (sub_refl _) ?_⟩
      rw [tab_snoc]; unfold ofInts; simp
    · rw [List.length_map, List.length_range]
      refine bcall_sum (at_upd_self _ _ rfl) ?_
      have s₆ := sub_upd (o := .list (ofInts (tab n fun k => w k * ((f k - h k).natAbs : Int)))) t₅ hq'
      simp only [List.getElem?_cons_succ, List.getElem?_cons_zero]
      refine getItem_tab (sub_at s₆ hP) hl (by omega) (by omega) ?_
      simp only [cmp_eq]
      rw [fresh_sum up (by omega) habr f0 fs, decide_eq_true rfl]
      exact hq _
end
end Mine
end
section
namespace Mine

noncomputable def clean (σ : Store) : Store := off σ fun a => ∃ o, σ a = some o ∧ isNode o = true
theorem clean_sub (σ : Store) : Sub (clean σ) σ := fun a o e => by
  unfold clean at e
  by_cases h : ∃ o, σ a = some o ∧ isNode o = true
  · rw [off_in (D := fun a => ∃ o, σ a = some o ∧ isNode o = true) h] at e; cases e
  · rw [off_out (D := fun a => ∃ o, σ a = some o ∧ isNode o = true) h] at e; exact e
theorem clean_some {σ : Store} {a : Adr} {o : AO} (h : σ a = some o) (hn : isNode o = false) : clean σ a = some o := by
  unfold clean
  rw [off_out (D := fun a => ∃ o, σ a = some o ∧ isNode o = true)]
  · exact h
  · rintro ⟨o', e, no⟩; rw [h] at e; cases e; rw [hn] at no; cases no
theorem clean_nf (σ : Store) : Nf (clean σ) := fun a o e => by
  have h := clean_sub σ a o e
  cases hn : isNode o with
  | false => rfl
  | true =>
    unfold clean at e
    rw [off_in (D := fun a => ∃ o, σ a = some o ∧ isNode o = true) ⟨o, h, hn⟩] at e; cases e
theorem join_empty (σ : Store) : join σ (fun _ => none) = σ := by
  funext a
  cases e : σ a with
  | some o => rw [join_l e]
  | none => rw [join_r e]

section
variable {C : Ctr} {n m : Nat} {hh ab ww P Cc bl B lv tb : Adr} {abv h w pd cr lev : Int → Int} {bel bd : Int → List Int} {bA bdA tA : Int → Adr} {σ : Store} {m0 m1 m4 m5 m8 m9 m10 m11 m12 m13 m14 m15 : Option AV}

theorem call179 (h179 : ∀ args Q σ, ClS S179 args Q σ → C 179 args Q σ) {Q : AV → Store → Prop} (hn : Nf σ) (I : Ins n bl hh ww bA bel h w σ) (t : Tree n bel w)
    (hq : ∀ (r B P Cc : Adr) (bdA : Int → Adr) (bd : Int → List Int) (pd cr : Int → Int) σ', Sub σ σ' → Nf σ' → σ' r = some (.tuple [.ref B, .ref P, .ref Cc]) → σ' B = some (.list (tab n fun k => .ref (bdA k))) → σ' P = some (.list (tab n fun k => .int (pd k))) → σ' Cc = some (.list (tab n fun k => .int (cr k))) →
      (∀ k : Int, 0 ≤ k → k < n → σ' (bdA k) = some (.list (ofInts (bd k))) ∧ (bd k).length ≤ 384 ∧ UpK n bel h w pd bd cr k) → Q (.ref r) σ') : C 179 [.ref bl, .ref hh, .ref ww] Q σ := by
  refine h179 _ _ _ ⟨σ, fun _ => none, (join_empty σ).symm, fun a o e => (by cases e), n, bl, hh, ww, bA, bel, h, w, rfl, hn, I, t, fun r B P Cc bdA bd pd cr σ' hs e1 e2 e3 e4 e5 _ => ⟨clean σ', clean_sub σ', ?_⟩⟩
  show Q (.ref r) (join (clean σ') fun _ => none)
  rw [join_empty]
  exact hq r B P Cc bdA bd pd cr _ (fun a o e => clean_some (hs a o e) (hn a o e)) (clean_nf σ') (clean_some e1 rfl) (clean_some e2 rfl) (clean_some e3 rfl) (clean_some e4 rfl) fun k h0 h1 => ⟨clean_some (e5 k h0 h1).1 rfl, (e5 k h0 h1).2⟩

theorem call191 (h191 : ∀ args Q σ, ClS S191 args Q σ → C 191 args Q σ) {Q : AV → Store → Prop} {tg : Int → Int → Int} (hn : Nf σ) (I : Ins n bl hh ww bA bel h w σ) (t : Tree n bel w) (hlv : at? σ lv = some (.list (tab m fun j => .int (lev j)))) (hml : m < lim) (htg : TgOk n m bel h w lev tg)
    (hq : ∀ (r : Adr) (tA : Int → Adr) σ', Sub σ σ' → Nf σ' → σ' r = some (.list (tab n fun k => .ref (tA k))) → (∀ k : Int, 0 ≤ k → k < n → σ' (tA k) = some (.list (tab m fun j => .int (tg k j)))) → Q (.ref r) σ') : C 191 [.ref bl, .ref hh, .ref ww, .ref lv] Q σ := by
  refine h191 _ _ _ ⟨σ, fun _ => none, (join_empty σ).symm, fun a o e => (by cases e), n, m, bl, hh, ww, lv, bA, bel, h, w, lev, tg, rfl, I, t, hlv, hml, htg, fun r tA σ' hs e1 e2 _ => ⟨clean σ', clean_sub σ', ?_⟩⟩
  show Q (.ref r) (join (clean σ') fun _ => none)
  rw [join_empty]
  exact hq r tA _ (fun a o e => clean_some (hs a o e) (hn a o e)) (clean_nf σ') (clean_some e1 rfl) fun k h0 h1 => clean_some (e2 k h0 h1) rfl

theorem bcall_max2 {σ : Store} {a b : Int} {Q : AV → Store → Prop} (hq : Q (.int (Max.max a b)) σ) : Bcall .max [.int a, .int b] Q σ := .max2 hq

noncomputable def pS3 : PS := tl (tl (tl (tl (tl (tl (tl (tl (tl (tl (tl p196))))))))))

theorem st3 {Q : AV → Store → Prop} (h186 : ∀ args Q σ, S186 args Q σ → C 186 args Q σ) (hn : Nf σ) (n5 : 5 ≤ n) (n8 : n ≤ 8) (habr : ∀ k : Int, 0 < k → k < n → 0 ≤ abv k ∧ abv k < k) (hw : ∀ k : Int, 0 ≤ k → k < n → 1 ≤ w k ∧ w k ≤ 3)
    (hhh : at? σ hh = some (.list (tab n fun k => .int (h k)))) (hab : at? σ ab = some (.list (tab n fun k => .int (abv k)))) (hww : at? σ ww = some (.list (tab n fun k => .int (w k)))) (hP : at? σ P = some (.list (tab n fun k => .int (pd k)))) (hC : at? σ Cc = some (.list (tab n fun k => .int (cr k))))
    (hB : at? σ B = some (.list (tab n fun k => .ref (bdA k)))) (hlv : at? σ lv = some (.list (tab m fun j => .int (lev j)))) (hml : m < lim) (htb : at? σ tb = some (.list (tab n fun k => .ref (tA k)))) (htA : ∀ k : Int, 0 ≤ k → k < n → at? σ (tA k) = some (.list (tab m fun j => .int (gk pd bd k (lev j)))))
    (hbd : ∀ k : Int, 0 ≤ k → k < n → at? σ (bdA k) = some (.list (ofInts (bd k))) ∧ (bd k).length ≤ 384)
    (up : ∀ k : Int, 0 ≤ k → k < n → UpK n (kids n abv) h w pd bd cr k) (hq : ∀ σ', Q (.bool true) σ') :
    WS C pS3 (fin Q) (mL m0 m1 n hh m4 m5 ab ww m8 (some (.ref B)) P Cc (some (.ref lv)) (some (.ref tb)) m14 m15) σ := by
  have hlim : (1000 : Nat) ≤ lim := by decide
  have hl : n ≤ lim := by omega
  simp only [pS3, tl, p196]
  refine ws_seq (ws_each ?_)
  simp only [mL, W_14, WL_2, WL_1, W_4, W_5, List.getElem?_cons_succ, List.getElem?_cons_zero, call_blt]
  refine bcall_range (by omega) fun r hr => ?_
  rw [Int.toNat_natCast]
  have s₁ := sub_upd (o := .range 0 n 1) (sub_refl σ) hr
  have n₁ : Nf (upd σ r (.range 0 n 1)) := hn.upd rfl
  have er := at_upd_self σ r (o := .range 0 n 1) rfl
  generalize upd σ r (.range 0 n 1) = σ₁ at s₁ n₁ er ⊢
  refine ⟨_, _, items_range er, by simp; omega, ltb rfl, fun i m' σ' => Ex2 fun m5 m14 => m' = mL m0 m1 n hh m4 m5 ab ww m8 (some (.ref B)) P Cc (some (.ref lv)) (some (.ref tb)) m14 m15 ∧ σ₁ = σ', ?_, ?_, ?_, ?_⟩
  · exact ⟨_, _, rfl, rfl⟩
  · rintro i m' σ' ⟨m5, m14, rfl, rfl⟩; exact ⟨rfl, trivial⟩
  · rintro i y m' σ' K hy ⟨m5, m14, rfl, rfl⟩ hK
    obtain ⟨hi, rfl⟩ := items_rng (σ := σ) (r := r) hy
    have k0 : (0 : Int) ≤ i := by omega
    have k1 : (i : Int) < n := by omega
    generalize (i : Int) = k at *
    refine ws_seq ?_
    rw [WS_6]
    refine w_lcomp ?_
    simp only [put, Sq_n, mL, List.set_cons_succ, List.set_cons_zero, W_4, List.getElem?_cons_succ, List.getElem?_cons_zero]
    refine lc_pure (fun j => ofInts (tab j fun j => gk pd bd k (lev j))) (items_list (sub_at s₁ hlv)) (by rw [tab_len]; omega) rfl (fun j y hy => ?_) fun q hq' => ?_
    · have hj : j < m := by
        have := (List.getElem?_eq_some_iff.mp hy).1
        rwa [tab_len] at this
      rw [tab_get hj] at hy; cases hy
      have atL : ∀ a o, at? σ a = some o → at? (lock σ₁ (some lv)) a = some o := fun a o e => by rw [at_lock]; exact sub_at s₁ e
      simp only [List.cons_append, List.nil_append, WT_1, LcT_t, W_6, W_14, WL_2, WL_1, W_5, call_blt, W_18, W_4, List.getElem?_cons_succ, List.getElem?_cons_zero]
      refine getItem_tab (atL _ _ hP) hl k0 k1 ?_
      refine w_lcomp ?_
      simp only [W_18, W_4, List.getElem?_cons_succ, List.getElem?_cons_zero]
      refine getItem_tab (atL _ _ hB) hl k0 k1 ?_
      obtain ⟨hb1, hb2⟩ := hbd k k0 k1
      refine lc_pure (fun i => ofInts (((bd k).take i).map fun b => max 0 (b - lev j))) (items_list (atL _ _ hb1)) (by rw [ofInts_len]; omega) rfl (fun i y hy => ?_) fun q hq => ?_
      · have hi : i < (bd k).length := by
          have := (List.getElem?_eq_some_iff.mp hy).1
          rwa [ofInts_len] at this
        rw [ofInts_get hi] at hy; cases hy
        simp only [List.cons_append, List.nil_append, WT_1, LcT_t, W_14, WL_2, WL_1, W_6, W_4, W_1, W_5, List.getElem?_cons_succ, List.getElem?_cons_zero, call_blt, bin_sub]
        refine bcall_max2 (lc_end (sub_refl _) ?_)
        rw [take_snoc hi]; unfold ofInts; simp
      · rw [ofInts_len, List.take_length]
        refine bcall_sum (at_upd_self _ _ rfl) ?_
        simp only [bin_add]
        refine lc_end (sub_upd (sub_refl _) hq) ?_
        rw [tab_snoc]; unfold ofInts gk; simp
    · rw [tab_len]
      refine ⟨by simp, ?_⟩
      have s₂ := sub_upd (o := .list (ofInts (tab m fun j => gk pd bd k (lev j)))) (sub_refl σ₁) hq'
      have e₂ := upd_self σ₁ q (.list (ofInts (tab m fun j => gk pd bd k (lev j))))
      generalize upd σ₁ q (.list (ofInts (tab m fun j => gk pd bd k (lev j)))) = σ₂ at s₂ e₂ ⊢
      refine ws_seq ?_
      simp only [List.set_cons_succ, List.set_cons_zero, WS_15, WT_2, W_8, tru_bool, W_18, W_4, List.getElem?_cons_succ, List.getElem?_cons_zero]
      have t₂ := sub_trans s₁ s₂
      refine getItem_tab (sub_at t₂ htb) hl k0 k1 ?_
      refine cmp_ne_ref (ys := tab m fun j => gk pd bd k (lev j)) (at_own e₂ rfl) (by rw [ofInts_tab]; exact sub_at t₂ (htA k k0 k1)) ?_
      rw [decide_eq_false (by simp)]
      simp only [Br_t, Br_f]
      show WS C .skip _ _ _
      simp only [Sq_n, WS_1]
      show WS C .skip _ _ _
      simp only [Sq_n, WS_1]
      exact hK.1 _ _ ⟨σ₁, s₂, _, _, rfl, rfl⟩
  · rintro m' σ' ⟨m5, m14, rfl, rfl⟩
    exact st4 h186 n₁ n5 n8 habr hw (sub_at s₁ hhh) (sub_at s₁ hab) (sub_at s₁ hww) (sub_at s₁ hP) (sub_at s₁ hC) up hq

noncomputable def pS2 : PS := tl (tl (tl (tl (tl (tl (tl (tl p196)))))))

theorem st2 {Q : AV → Store → Prop} (h179 : ∀ args Q σ, ClS S179 args Q σ → C 179 args Q σ) (h191 : ∀ args Q σ, ClS S191 args Q σ → C 191 args Q σ) (h186 : ∀ args Q σ, S186 args Q σ → C 186 args Q σ) (hn : Nf σ) (n5 : 5 ≤ n) (n8 : n ≤ 8) (habr : ∀ k : Int, 0 < k → k < n → 0 ≤ abv k ∧ abv k < k) (hw : ∀ k : Int, 0 ≤ k → k < n → 1 ≤ w k ∧ w k ≤ 3)
    (I : Ins n bl hh ww bA (kids n abv) h w σ) (hab : at? σ ab = some (.list (tab n fun k => .int (abv k)))) (hq : ∀ σ', Q (.bool true) σ') :
    WS C pS2 (fin Q) [m0, m1, some (.int n), some (.ref hh), m4, m5, some (.ref ab), some (.ref ww), some (.ref bl), m9, m10, m11, m12, m13, m14, m15] σ := by
  have hlim : (1000 : Nat) ≤ lim := by decide
  have hl : n ≤ lim := by omega
  have t := kids_tree n8 habr hw
  simp only [pS2, tl, p196]
  refine ws_seq ?_
  simp only [WS_7, put, Sq_n, W_14, WL_2, WL_1, W_4, W_5, List.getElem?_cons_succ, List.getElem?_cons_zero, List.length_cons, List.length_nil, List.set_cons_succ, List.set_cons_zero, call_ref]
  refine call179 h179 hn I t fun r B P Cc bdA bd pd cr σ₁ s₁ n₁ e1 e2 e3 e4 e5 => ⟨_, _, _, _, rfl, at_own e1 rfl, by simp, by simp, by simp, ?_⟩
  have up : ∀ k : Int, 0 ≤ k → k < n → UpK n (kids n abv) h w pd bd cr k := fun k h0 h1 => (e5 k h0 h1).2.2
  refine ws_seq ?_
  simp only [WS_6, put, Sq_n, W_14, WL_2, WL_1, W_4, W_5, List.getElem?_cons_succ, List.getElem?_cons_zero, List.length_cons, List.length_nil, List.set_cons_succ, List.set_cons_zero, call_blt]
  have hhh1 := sub_at s₁ I.hhh
  rw [← ofInts_tab] at hhh1
  refine .sorted _ hhh1 (by rw [tab_len]; omega) fun lv hlv ys hperm hsort => ⟨by simp, ?_⟩
  have hyl : ys.length = n := by rw [hperm.length_eq, tab_len]
  have hyt := tab_of hyl
  have s₂ := sub_upd (o := .list (ofInts ys)) (sub_refl σ₁) hlv
  have n₂ : Nf (upd σ₁ lv (.list (ofInts ys))) := n₁.upd rfl
  have el := upd_self σ₁ lv (.list (ofInts ys))
  generalize upd σ₁ lv (.list (ofInts ys)) = σ₂ at s₂ n₂ el ⊢
  have el' : σ₂ lv = some (.list (tab n fun k => .int (ys.getD k.toNat 0))) := by rw [el, ← ofInts_tab, ← hyt]
  have htg : TgOk n n (kids n abv) h w (fun k => ys.getD k.toNat 0) fun k j => gk pd bd k (ys.getD j.toNat 0) := by
    refine tg_ok up (fun i j i0 hij j1 => ?_) fun q q0 q1 => ?_
    · have h1 : i.toNat < ys.length := by omega
      have h2 : j.toNat < ys.length := by omega
      simp only [List.getD_eq_getElem?_getD, List.getElem?_eq_getElem h1, List.getElem?_eq_getElem h2, Option.getD_some]
      by_cases e : i = j
      · subst e; exact Int.le_refl _
      · exact List.pairwise_iff_getElem.mp hsort _ _ h1 h2 (by omega)
    · have hm : h q ∈ ys := hperm.mem_iff.mpr (mem_tab.mpr ⟨q, q0, q1, rfl⟩)
      rw [hyt] at hm
      obtain ⟨i, i0, i1, hi⟩ := mem_tab.mp hm
      exact ⟨i, i0, i1, hi⟩
  refine ws_seq ?_
  simp only [WS_6, put, Sq_n, W_14, WL_2, WL_1, W_4, W_5, List.getElem?_cons_succ, List.getElem?_cons_zero, List.length_cons, List.length_nil, List.set_cons_succ, List.set_cons_zero, call_ref]
  have s12 := sub_trans s₁ s₂
  refine call191 h191 n₂ (I.mono s12) t (at_own el' rfl) (by omega) htg fun tb tA σ₃ s₃ n₃ f1 f2 => ⟨by simp, ?_⟩
  have s13 := sub_trans s12 s₃
  have s23 := sub_trans s₂ s₃
  exact st3 h186 n₃ n5 n8 habr hw (sub_at s13 I.hhh) (sub_at s13 hab) (sub_at s13 I.hww) (at_own (s23 _ _ e3) rfl) (at_own (s23 _ _ e4) rfl) (at_own (s23 _ _ e2) rfl) (at_own (s₃ _ _ el') rfl) (by omega) (at_own f1 rfl) (fun k h0 h1 => at_own (f2 k h0 h1) rfl)
    (fun k h0 h1 => ⟨at_own (s23 _ _ (e5 k h0 h1).1) rfl, (e5 k h0 h1).2.1⟩) up hq
end
end Mine
end
section
namespace Mine

theorem Gb.nf {σ σ' : Store} (g : Gb σ σ') (h : Nf σ) : Nf σ' := fun a o e => by
  cases hn : isNode o with
  | false => rfl
  | true => rw [h a o (g.2 a o e hn)] at hn; cases hn
theorem tab_cons {α : Type} {n : Nat} {f : Int → α} (hn : 1 ≤ n) : tab n f = f 0 :: (rng1 n).map f := by
  have : ∀ m : Nat, 1 ≤ m → tab m f = f 0 :: (rng1 m).map f := by
    intro m
    induction m with
    | zero => intro h; omega
    | succ m ih =>
      intro _
      by_cases h1 : m = 0
      · subst h1; simp [tab, rng1]
      · rw [tab_snoc, rng1_snoc m (by omega), ih (by omega)]; simp
  exact this n hn
theorem sliceTo_list {σ : Store} {a : Adr} {vs : List AV} {k : Int} {Q : AV → Store → Prop} (h : at? σ a = some (.list vs)) (hl : vs.length ≤ lim) (h0 : 0 ≤ k) (hk : k ≤ lim) (hq : ∀ r, σ r = none → Q (.ref r) (upd σ r (.list (vs.take k.toNat)))) : SliceTo (.ref a) (.int k) Q σ := ⟨vs, h, hl, h0, hk, hq⟩
theorem ofInts_take (xs : List Int) (k : Nat) : (ofInts xs).take k = ofInts (xs.take k) := by unfold ofInts; rw [List.map_take]

noncomputable def LnI (cnt : Nat → List AV) (σ : Store) (i : Nat) (acc : List AV) (σ' : Store) : Prop := ∃ (f : Int → Adr), An3 (acc = tab i (fun k => .ref (f k))) (Gb σ σ') (∀ k : Nat, k < i → σ' (f k) = some (.list (cnt k)))
theorem ln_end {cnt : Nat → List AV} {σ σ' σ₂ : Store} {i : Nat} {acc : List AV} {r : Adr} (h : LnI cnt σ i acc σ') (g : Gb σ' σ₂) (hr : σ₂ r = none) : Fg (upd σ₂ r (.list (cnt i))) (LnI cnt σ (i + 1) (acc ++ [.ref r])) := by
  obtain ⟨f, rfl, g', hf⟩ := h
  refine fg_self ⟨fset f i r, ?_, (g'.trans g).new hr rfl, fun k hk => ?_⟩
  · rw [tab_snoc, fset_self]
    congr 1
    exact tab_congr fun k h0 h1 => by rw [fset_ne (by omega)]
  · by_cases e : k = i
    · subst e; rw [fset_self, upd_self]
    · rw [fset_ne (by omega)]
      have := g.1 _ _ (hf k (by omega))
      rw [upd_ne (ne_of_none this hr)]; exact this
theorem lc_new {C : Ctr} {elt : PE} {Q : AV → Mem → Store → Prop} {m : Mem} {σ : Store} {x : AV} {vs : List AV} (cnt : Nat → List AV) (h1 : itemsOf σ x = some (vs, none)) (h2 : vs.length ≤ lim)
    (h4 : ∀ i y acc σ', vs[i]? = some y → LnI cnt σ i acc σ' → W C elt (fun z _ σ₂ => Fg σ₂ (LnI cnt σ (i + 1) (acc ++ [z]))) (m ++ [some y]) σ')
    (h5 : ∀ (f : Int → Adr) σ' r, Gb σ σ' → (∀ k : Nat, k < vs.length → σ' (f k) = some (.list (cnt k))) → σ' r = none → Q (.ref r) m (upd σ' r (.list (tab vs.length fun k => .ref (f k))))) : Lc C elt .tt Q x m σ := by
  refine ⟨vs, none, h1, h2, LnI cnt σ, ⟨fun _ => 0, rfl, Gb.refl σ, fun k hk => by omega⟩, fun _ _ _ _ => trivial, fun i y acc σ' hy hI _ => ?_, ?_⟩
  · rw [WT_1]; exact h4 i y acc σ' hy hI
  · rintro acc σ' ⟨f, rfl, g, hf⟩ _ r hr
    exact h5 f σ' r g hf hr

section
variable {C : Ctr} {σ : Store} {Q : AV → Store → Prop}

noncomputable def S196 (args : List AV) (Q : AV → Store → Prop) (σ : Store) : Prop := Ex2 fun (s : Adr) (xs : List Int) => An5 (args = [.ref s]) (at? σ s = some (.list (ofInts xs))) (xs.length ≤ lim) (Nf σ) (∀ σ', Q (.bool true) σ')

noncomputable def pS1 : PS := tl (tl (tl (tl (tl p196))))

theorem st1c (h179 : ∀ args Q σ, ClS S179 args Q σ → C 179 args Q σ) (h191 : ∀ args Q σ, ClS S191 args Q σ → C 191 args Q σ) (h186 : ∀ args Q σ, S186 args Q σ → C 186 args Q σ)
    {n : Nat} {hh dd : Adr} {hs ds : List Int} {m0 m1 : Option AV} (hn : Nf σ) (n5 : 5 ≤ n) (n8 : n ≤ 8) (hhs : hs.length = n) (hds : ds.length = n) (hhh : at? σ hh = some (.list (ofInts hs))) (hdd : at? σ dd = some (.list (ofInts ds))) (hq : ∀ σ', Q (.bool true) σ') :
    WS C pS1 (fin Q) [m0, m1, some (.int n), some (.ref hh), some (.ref dd), none, none, none, none, none, none, none, none, none, none, none] σ := by
  have hlim : (1000 : Nat) ≤ lim := by decide
  have hl : n ≤ lim := by omega
  rw [tab_of hhs, ofInts_tab] at hhh
  rw [tab_of hds, ofInts_tab] at hdd
  generalize (fun k : Int => hs.getD k.toNat 0) = h at hhh
  simp only [pS1, tl, p196]
  obtain ⟨dr, hdr⟩ : ∃ dr : Int → Int, dr = fun k => ds.getD k.toNat 0 := ⟨_, rfl⟩
  obtain ⟨abv, habv⟩ : ∃ abv : Int → Int, abv = fun k => if k = 0 then 0 else (dr k).fmod k := ⟨_, rfl⟩
  have habr : ∀ k : Int, 0 < k → k < n → 0 ≤ abv k ∧ abv k < k := fun k k0 k1 => by
    rw [habv]; simp only; rw [if_neg (by omega)]
    exact ⟨Int.fmod_nonneg_of_pos _ k0, Int.fmod_lt_of_pos _ k0⟩
  obtain ⟨w, hwd⟩ : ∃ w : Int → Int, w = fun k => 1 + ((dr k).fdiv 8).fmod 3 := ⟨_, rfl⟩
  have hw : ∀ k : Int, 0 ≤ k → k < n → 1 ≤ w k ∧ w k ≤ 3 := fun k _ _ => by
    rw [hwd]; simp only
    have h1 := Int.fmod_nonneg_of_pos ((dr k).fdiv 8) (show (0 : Int) < 3 by omega)
    have h2 := Int.fmod_lt_of_pos ((dr k).fdiv 8) (show (0 : Int) < 3 by omega)
    omega
  have hdd : at? σ dd = some (.list (tab n fun k => .int (dr k))) := by rw [hdr]; exact hdd
  refine ws_seq ?_
  simp only [WS_6, W_6, W_12, WL_1, WL_2, W_1]
  refine ⟨by decide, fun r1 hr1 => ?_⟩
  have g1 := (Gb.refl σ).new (o := .list [.int 0]) hr1 rfl
  have e1 := upd_self σ r1 (.list [.int 0])
  generalize upd σ r1 (.list [.int 0]) = σ₁ at g1 e1 ⊢
  refine w_lcomp ?_
  simp only [put, Sq_n, W_14, WL_2, WL_1, W_4, W_1, W_5, List.getElem?_cons_succ, List.getElem?_cons_zero, call_blt]
  refine bcall_range2 (by decide) (by omega) fun r2 hr2 => ?_
  rw [show ((n : Int) - 1).toNat = n - 1 by omega]
  have g2 := g1.new (o := .range 1 (n - 1) 1) hr2 rfl
  have e12 := sub_upd (o := .range 1 (n - 1) 1) (sub_refl σ₁) hr2 _ _ e1
  have er := at_upd_self σ₁ r2 (o := .range 1 (n - 1) 1) rfl
  generalize upd σ₁ r2 (.range 1 (n - 1) 1) = σ₂ at g2 er e12 ⊢
  refine lc_pure (fun i => (List.range i).map fun (i : Nat) => .int (abv (1 + i))) (items_range er) (by simp; omega) rfl (fun i y hy => ?_) fun r3 hr3 => ?_
  · obtain ⟨hi, rfl⟩ := items_rng1 hy
    simp only [List.cons_append, List.nil_append, WT_1, LcT_t, W_6, W_4, W_18, List.getElem?_cons_succ, List.getElem?_cons_zero]
    refine getItem_tab (f := fun k => .int (dr k)) (by rw [at_lock]; exact sub_at g2.1 hdd) hl (by omega) (by omega) ?_
    simp only [bin_mod]
    refine ⟨by omega, lc_end (sub_refl _) ?_⟩
    rw [List.range_succ, List.map_append, habv]
    simp only [List.map_cons, List.map_nil]
    rw [if_neg (by omega)]
  · rw [List.length_map, List.length_range]
    have g3 := g2.new (o := .list ((List.range (n - 1)).map fun (i : Nat) => .int (abv (1 + i)))) hr3 rfl
    have e13 := sub_upd (o := .list ((List.range (n - 1)).map fun (i : Nat) => .int (abv (1 + i)))) (sub_refl σ₂) hr3 _ _ e12
    have e3 := upd_self σ₂ r3 (.list ((List.range (n - 1)).map fun (i : Nat) => .int (abv (1 + i))))
    generalize upd σ₂ r3 (.list ((List.range (n - 1)).map fun (i : Nat) => .int (abv (1 + i)))) = σ₃ at g3 e13 e3 ⊢
    refine bin_cat (at_own e13 rfl) (at_own e3 rfl) (by simp; omega) fun ab hab => ⟨by simp, ?_⟩
    have hcat : [AV.int 0] ++ ((List.range (n - 1)).map fun (i : Nat) => .int (abv (1 + i))) = tab n fun k => .int (abv k) := by
      rw [tab_cons (by omega)]
      unfold rng1
      rw [List.map_map]
      rw [show abv 0 = 0 by rw [habv]; rfl]; rfl
    rw [hcat]
    have g4 := g3.new (o := .list (tab n fun k => .int (abv k))) hab rfl
    have e4 := upd_self σ₃ ab (.list (tab n fun k => .int (abv k)))
    generalize upd σ₃ ab (.list (tab n fun k => .int (abv k))) = σ₄ at g4 e4 ⊢
    refine ws_seq ?_
    rw [WS_6]
    refine w_lcomp ?_
    simp only [put, Sq_n, List.set_cons_succ, List.set_cons_zero, W_4, List.getElem?_cons_succ, List.getElem?_cons_zero]
    refine lc_pure (fun i => tab i fun k => .int (w k)) (items_list (sub_at g4.1 hdd)) (by rw [tab_len]; omega) rfl (fun i y hy => ?_) fun ww hww => ?_
    · have hi : i < n := by
        have := (List.getElem?_eq_some_iff.mp hy).1
        rwa [tab_len] at this
      rw [tab_get hi] at hy; cases hy
      simp only [List.cons_append, List.nil_append, WT_1, LcT_t, W_6, W_1, W_4, List.getElem?_cons_succ, List.getElem?_cons_zero, bin_fdiv, bin_mod, bin_add]
      refine ⟨by omega, by decide, by omega, lc_end (sub_refl _) ?_⟩
      rw [tab_snoc, hwd]
    · rw [tab_len]
      refine ⟨by simp, ?_⟩
      have g5 := g4.new (o := .list (tab n fun k => .int (w k))) hww rfl
      have e45 := sub_upd (o := .list (tab n fun k => .int (w k))) (sub_refl σ₄) hww _ _ e4
      have e5 := upd_self σ₄ ww (.list (tab n fun k => .int (w k)))
      generalize upd σ₄ ww (.list (tab n fun k => .int (w k))) = σ₅ at g5 e45 e5 ⊢
      refine ws_seq ?_
      rw [WS_6]
      refine w_lcomp ?_
      simp only [put, Sq_n, List.set_cons_succ, List.set_cons_zero, W_14, WL_2, WL_1, W_4, W_5, List.getElem?_cons_succ, List.getElem?_cons_zero, call_blt]
      refine bcall_range (by omega) fun r6 hr6 => ?_
      rw [Int.toNat_natCast]
      have g6 := g5.new (o := .range 0 n 1) hr6 rfl
      have s6 := sub_upd (o := .range 0 n 1) (sub_refl σ₅) hr6
      have er6 := at_upd_self σ₅ r6 (o := .range 0 n 1) rfl
      generalize upd σ₅ r6 (.range 0 n 1) = σ₆ at g6 er6 s6 ⊢
      refine lc_new (fun i => ofInts (kids n abv i)) (items_range er6) (by simp; omega) (fun i y acc σ' hy hI => ?_) fun bA σ₇ bl g7 hb hbl => ?_
      · obtain ⟨hi, rfl⟩ := items_rng (σ := σ) (r := r6) hy
        have gI : Gb σ₆ σ' := by obtain ⟨f, _, g, _⟩ := hI; exact g
        refine w_lcomp ?_
        simp only [List.cons_append, List.nil_append, W_14, WL_2, WL_1, W_4, W_1, W_5, List.getElem?_cons_succ, List.getElem?_cons_zero, call_blt]
        refine bcall_range2 (by decide) (by omega) fun r8 hr8 => ?_
        rw [show ((n : Int) - 1).toNat = n - 1 by omega]
        have g8 := (Gb.refl σ').new (o := .range 1 (n - 1) 1) hr8 rfl
        have er8 := at_upd_self σ' r8 (o := .range 1 (n - 1) 1) rfl
        generalize upd σ' r8 (.range 1 (n - 1) 1) = σ₈ at g8 er8 ⊢
        refine lc_pure (fun j => ofInts (((List.range j).map fun (i : Nat) => 1 + (i : Int)).filter fun j => decide (abv j = i))) (items_range er8) (by simp; omega) rfl (fun j y hy => ?_) fun r9 hr9 => ?_
        · obtain ⟨hj, rfl⟩ := items_rng1 hy
          simp only [List.cons_append, List.nil_append, WT_2, W_8, tru_bool, W_4, W_18, List.getElem?_cons_succ, List.getElem?_cons_zero]
          refine getItem_tab (f := fun k => .int (abv k)) (by rw [at_lock]; exact sub_at g8.1 (sub_at gI.1 (sub_at s6 (at_own e45 rfl)))) hl (by omega) (by omega) ?_
          simp only [cmp_eq]
          by_cases hc : abv (1 + j) = i
          · rw [decide_eq_true hc]
            simp only [LcT_t, W_4, List.getElem?_cons_succ, List.getElem?_cons_zero]
            refine lc_end (sub_refl _) ?_
            rw [List.range_succ, List.map_append, List.filter_append]
            unfold ofInts; simp [hc]
          · rw [decide_eq_false hc]
            simp only [LcT_f]
            refine lc_end (sub_refl _) ?_
            rw [List.range_succ, List.map_append, List.filter_append]
            simp [hc]
        · rw [List.length_map, List.length_range]
          exact ln_end (cnt := fun i => ofInts (kids n abv i)) hI g8 hr9
      · rw [List.length_map, List.length_range] at hb ⊢
        refine ⟨by simp, ?_⟩
        have g7' := (g6.trans g7).new (o := .list (tab n fun k => .ref (bA k))) hbl rfl
        have e7 := upd_self σ₇ bl (.list (tab n fun k => .ref (bA k)))
        have s7 := sub_upd (o := .list (tab n fun k => .ref (bA k))) (sub_refl σ₇) hbl
        generalize upd σ₇ bl (.list (tab n fun k => .ref (bA k))) = σ₉ at g7' e7 s7 ⊢
        have s59 := sub_trans s6 (sub_trans g7.1 s7)
        refine st2 h179 h191 h186 (g7'.nf hn) n5 n8 habr hw ⟨at_own e7 rfl, fun k h0 h1 => ?_, sub_at g7'.1 hhh, at_own (s59 _ _ e5) rfl⟩ (at_own (s59 _ _ e45) rfl) hq
        have := hb k.toNat (by omega)
        rw [show ((k.toNat : Nat) : Int) = k by omega] at this
        exact at_own (s7 _ _ this) rfl
end
end Mine
end
section
namespace Mine
section
variable {C : Ctr} {σ : Store} {Q : AV → Store → Prop}

noncomputable def pS0 : PS := tl (tl (tl (tl p196)))

theorem st1b (h174 : ∀ args Q σ, S174 args Q σ → C 174 args Q σ) (h179 : ∀ args Q σ, ClS S179 args Q σ → C 179 args Q σ) (h191 : ∀ args Q σ, ClS S191 args Q σ → C 191 args Q σ) (h186 : ∀ args Q σ, S186 args Q σ → C 186 args Q σ)
    {n : Nat} {hh nu : Adr} {hs ns : List Int} {m0 : Option AV} (hn : Nf σ) (n5 : 5 ≤ n) (n8 : n ≤ 8) (hhs : hs.length = n) (hns : ns.length ≤ lim) (hhh : at? σ hh = some (.list (ofInts hs))) (hnu : at? σ nu = some (.list (ofInts ns))) (hq : ∀ σ', Q (.bool true) σ') :
    WS C pS0 (fin Q) [m0, some (.ref nu), some (.int n), some (.ref hh), none, none, none, none, none, none, none, none, none, none, none, none] σ := by
  have hlim : (1000 : Nat) ≤ lim := by decide
  have hl : n ≤ lim := by omega
  simp only [pS0, tl, p196]
  refine ws_seq ?_
  simp only [WS_6, W_1, W_4, W_5, W_12, W_14, W_18, W_19, WL_1, WL_2, call_ref, List.getElem?_cons_zero, List.getElem?_cons_succ]
  refine ⟨by decide, fun r1 hr1 => ?_⟩
  have g1 := (Gb.refl σ).new (o := .list [.int 0, .int 0, .int 3, .int 1, .int 8, .int 5, .int 2, .int 9]) hr1 rfl
  have e1 := upd_self σ r1 (.list [.int 0, .int 0, .int 3, .int 1, .int 8, .int 5, .int 2, .int 9])
  generalize upd σ r1 (.list [.int 0, .int 0, .int 3, .int 1, .int 8, .int 5, .int 2, .int 9]) = σ₁ at g1 e1 ⊢
  refine sliceTo_list (at_own e1 rfl) (by decide) (by omega) (by omega) fun r2 hr2 => ?_
  rw [show [AV.int 0, .int 0, .int 3, .int 1, .int 8, .int 5, .int 2, .int 9] = ofInts [0, 0, 3, 1, 8, 5, 2, 9] from rfl, Int.toNat_natCast, ofInts_take]
  have hbl : (([0, 0, 3, 1, 8, 5, 2, 9] : List Int).take n).length = n := by rw [List.length_take]; simp only [List.length_cons, List.length_nil]; omega
  generalize ([0, 0, 3, 1, 8, 5, 2, 9] : List Int).take n = bs at hbl ⊢
  have g2 := g1.new (o := .list (ofInts bs)) hr2 rfl
  have e2 := upd_self σ₁ r2 (.list (ofInts bs))
  generalize upd σ₁ r2 (.list (ofInts bs)) = σ₂ at g2 e2 ⊢
  refine w_lcomp ?_
  simp only [put, Sq_n, W_4, List.getElem?_cons_succ, List.getElem?_cons_zero]
  refine lc_pure (fun i => ofInts ((ns.take i).map fun x => x.fdiv 8)) (items_list (sub_at g2.1 hnu)) (by rw [ofInts_len]; exact hns) rfl (fun i y hy => ?_) fun r3 hr3 => ?_
  · have hi : i < ns.length := by
      have := (List.getElem?_eq_some_iff.mp hy).1
      rwa [ofInts_len] at this
    rw [ofInts_get hi] at hy; cases hy
    simp only [List.cons_append, List.nil_append, WT_1, LcT_t, W_6, W_1, W_4, List.getElem?_cons_succ, List.getElem?_cons_zero, bin_fdiv]
    refine ⟨by omega, by decide, lc_end (sub_refl _) ?_⟩
    rw [take_snoc hi]; unfold ofInts; simp
  · rw [ofInts_len, List.take_length]
    have g3 := g2.new (o := .list (ofInts (ns.map fun x => x.fdiv 8))) hr3 rfl
    have e3 := upd_self σ₂ r3 (.list (ofInts (ns.map fun x => x.fdiv 8)))
    have e23 := sub_upd (o := .list (ofInts (ns.map fun x => x.fdiv 8))) (sub_refl σ₂) hr3 _ _ e2
    generalize upd σ₂ r3 (.list (ofInts (ns.map fun x => x.fdiv 8))) = σ₃ at g3 e3 e23 ⊢
    refine h174 _ _ _ ⟨r2, r3, bs, ns.map fun x => x.fdiv 8, rfl, at_own e23 rfl, at_own e3 rfl, by omega, by omega, by simpa using hns, fun dd ds σ₄ hdl hs₄ hdd _ g4 => ⟨by simp, ?_⟩⟩
    exact st1c h179 h191 h186 ((g3.trans g4).nf hn) n5 n8 hhs (by omega) (sub_at (g3.trans g4).1 hhh) (at_own hdd rfl) hq

theorem v196 (h174 : ∀ args Q σ, S174 args Q σ → C 174 args Q σ) (h179 : ∀ args Q σ, ClS S179 args Q σ → C 179 args Q σ) (h191 : ∀ args Q σ, ClS S191 args Q σ → C 191 args Q σ) (h186 : ∀ args Q σ, S186 args Q σ → C 186 args Q σ)
    {s : Adr} {xs : List Int} (hs : at? σ s = some (.list (ofInts xs))) (hxl : xs.length ≤ lim) (hn : Nf σ) (hq : ∀ σ', Q (.bool true) σ') :
    WS C p196 (fin Q) [some (.ref s), none, none, none, none, none, none, none, none, none, none, none, none, none, none, none] σ := by
  have hlim : (1000 : Nat) ≤ lim := by decide
  unfold p196
  refine ws_seq ?_
  simp only [WS_6, put, Sq_n, W_19, W_1, W_4, List.getElem?_cons_zero, List.length_cons, List.length_nil, List.set_cons_succ, List.set_cons_zero]
  refine sliceTo_list hs (by rw [ofInts_len]; exact hxl) (by omega) (by decide) fun nu hnu => ⟨by simp, ?_⟩
  rw [ofInts_take]
  have hnl : (xs.take (24 : Int).toNat).length ≤ lim := by rw [List.length_take]; omega
  generalize xs.take (24 : Int).toNat = ns at hnl ⊢
  have g1 := (Gb.refl σ).new (o := .list (ofInts ns)) hnu rfl
  have e1 := upd_self σ nu (.list (ofInts ns))
  generalize upd σ nu (.list (ofInts ns)) = σ₁ at g1 e1 ⊢
  refine ws_seq ?_
  simp only [WS_6, put, Sq_n, W_6, W_1, W_14, WL_2, WL_1, W_4, W_5, call_blt, List.getElem?_cons_succ, List.getElem?_cons_zero, List.length_cons, List.length_nil, List.set_cons_succ, List.set_cons_zero]
  refine bcall_sum (at_own e1 rfl) ?_
  simp only [bin_mod, bin_add]
  refine ⟨by omega, by decide, ?_⟩
  have h1 := Int.fmod_nonneg_of_pos ns.sum (show (0 : Int) < 4 by omega)
  have h2 := Int.fmod_lt_of_pos ns.sum (show (0 : Int) < 4 by omega)
  obtain ⟨n, hnn⟩ : ∃ n : Nat, 5 + ns.sum.fmod 4 = (n : Int) := ⟨(5 + ns.sum.fmod 4).toNat, by omega⟩
  rw [hnn]
  have n5 : 5 ≤ n := by omega
  have n8 : n ≤ 8 := by omega
  refine ws_seq ?_
  simp only [WS_6, put, Sq_n, W_14, WL_2, WL_1, W_4, W_19, W_12, List.length_cons, List.length_nil, W_1, W_5, List.getElem?_cons_succ, List.getElem?_cons_zero, List.set_cons_succ, List.set_cons_zero, call_ref]
  refine ⟨by decide, fun r1 hr1 => ?_⟩
  have g2 := g1.new (o := .list [.int 5, .int 2, .int 7, .int 4, .int 9, .int 1, .int 8, .int 3]) hr1 rfl
  have e12 := sub_upd (o := .list [.int 5, .int 2, .int 7, .int 4, .int 9, .int 1, .int 8, .int 3]) (sub_refl σ₁) hr1 _ _ e1
  have e2 := upd_self σ₁ r1 (.list [.int 5, .int 2, .int 7, .int 4, .int 9, .int 1, .int 8, .int 3])
  generalize upd σ₁ r1 (.list [.int 5, .int 2, .int 7, .int 4, .int 9, .int 1, .int 8, .int 3]) = σ₂ at g2 e2 e12 ⊢
  refine sliceTo_list (at_own e2 rfl) (by decide) (by omega) (by omega) fun r2 hr2 => ?_
  rw [show [AV.int 5, .int 2, .int 7, .int 4, .int 9, .int 1, .int 8, .int 3] = ofInts [5, 2, 7, 4, 9, 1, 8, 3] from rfl, Int.toNat_natCast, ofInts_take]
  have hbl : (([5, 2, 7, 4, 9, 1, 8, 3] : List Int).take n).length = n := by rw [List.length_take]; simp only [List.length_cons, List.length_nil]; omega
  generalize ([5, 2, 7, 4, 9, 1, 8, 3] : List Int).take n = bs at hbl ⊢
  have g3 := g2.new (o := .list (ofInts bs)) hr2 rfl
  have e13 := sub_upd (o := .list (ofInts bs)) (sub_refl σ₂) hr2 _ _ e12
  have e3 := upd_self σ₂ r2 (.list (ofInts bs))
  generalize upd σ₂ r2 (.list (ofInts bs)) = σ₃ at g3 e13 e3 ⊢
  refine h174 _ _ _ ⟨r2, nu, bs, ns, rfl, at_own e3 rfl, at_own e13 rfl, by omega, by omega, hnl, fun hh hs σ₄ hhl hs₄ hhh _ g4 => ⟨by simp, ?_⟩⟩
  have g4' := g3.trans g4
  have e14 := g4.1 _ _ e13
  refine ws_seq ?_
  simp only [WS_15, WT_2, W_8, tru_bool, W_1, W_6, W_14, WL_2, WL_1, W_4, W_5, List.getElem?_cons_succ, List.getElem?_cons_zero, call_blt]
  refine bcall_sum (at_own e14 rfl) ?_
  simp only [bin_mod, cmp_eq]
  refine ⟨by omega, ?_⟩
  by_cases hodd : ns.sum.fmod 2 = 1
  · rw [decide_eq_true hodd]
    simp only [Br_t, Br_f]
    refine ws_seq ?_
    rw [WS_6]
    refine w_lcomp ?_
    simp only [put, Sq_n, W_4, List.getElem?_cons_succ, List.getElem?_cons_zero]
    refine lc_pure (fun i => ofInts ((hs.take i).map fun x => x.fmod 5)) (items_list (at_own hhh rfl)) (by rw [ofInts_len]; omega) rfl (fun i y hy => ?_) fun r3 hr3 => ?_
    · have hi : i < hs.length := by
        have := (List.getElem?_eq_some_iff.mp hy).1
        rwa [ofInts_len] at this
      rw [ofInts_get hi] at hy; cases hy
      simp only [List.cons_append, List.nil_append, WT_1, LcT_t, W_6, W_1, W_4, List.getElem?_cons_succ, List.getElem?_cons_zero, bin_mod]
      refine ⟨by omega, lc_end (sub_refl _) ?_⟩
      rw [take_snoc hi]; unfold ofInts; simp
    · rw [ofInts_len, List.take_length]
      refine ⟨by simp, ?_⟩
      have g5 := g4'.new (o := .list (ofInts (hs.map fun x => x.fmod 5))) hr3 rfl
      have e15 := sub_upd (o := .list (ofInts (hs.map fun x => x.fmod 5))) (sub_refl σ₄) hr3 _ _ e14
      have e5 := upd_self σ₄ r3 (.list (ofInts (hs.map fun x => x.fmod 5)))
      generalize upd σ₄ r3 (.list (ofInts (hs.map fun x => x.fmod 5))) = σ₅ at g5 e15 e5 ⊢
      show WS C .skip _ _ _
      simp only [Sq_n, WS_1]
      exact st1b h174 h179 h191 h186 (g5.nf hn) n5 n8 (by rw [List.length_map]; omega) hnl (at_own e5 rfl) (at_own e15 rfl) hq
  · rw [decide_eq_false hodd]
    simp only [Br_t, Br_f]
    show WS C .skip _ _ _
    simp only [Sq_n, WS_1]
    exact st1b h174 h179 h191 h186 (g4'.nf hn) n5 n8 (by omega) hnl (at_own hhh rfl) (at_own e14 rfl) hq
end
end Mine
end
section
namespace Mine
open PySem PySem.W PyProof.Rows PySem.Calls
set_option maxRecDepth 100000

noncomputable def adC (C : Ctr) (a : Addr) (S : List AV → (AV → Store → Prop) → Store → Prop) : Ctr := fun f args Q σ => C.add a S f args Q σ ∨ Cl (C.add a S) f args Q σ
section
variable {w : World} {base : Heap} {s₀ : Shared} {mg mb : Str → Option Value} {r : Nat} {C : Ctr} {a f : Addr} {S : List AV → (AV → Store → Prop) → Store → Prop} {args : List AV} {Q : AV → Store → Prop} {σ : Store}
theorem SoundC.or (h : SoundC w base s₀ r (C.add a S)) : SoundC w base s₀ r (adC C a S) := fun f args Q σ hc => hc.elim (h f args Q σ) (h.cl f args Q σ)
theorem ad_old (h : C f args Q σ) : adC C a S f args Q σ := .inl (.inl h)
theorem ad_new (h : S args Q σ) : adC C a S a args Q σ := .inl (.inr ⟨rfl, h⟩)
theorem ad_cl (h : ClS S args Q σ) : adC C a S a args Q σ := by
  obtain ⟨τ, ρ, e, hd, hs⟩ := h
  exact .inr ⟨τ, ρ, e, hd, .inr ⟨rfl, hs⟩⟩
end

section
variable (w : World)
theorem mem42 (a b c : AV) : memOf (TC.of (fdOf w 42).scope.names) ((parsOf (fdOf w 42)).zip [a, b, c]) (List.replicate (TC.of (fdOf w 42).scope.names).nx none) = [some a, some b, some c, none, none, none] := by kernel_rfl
theorem mem49 (a b : AV) : memOf (TC.of (fdOf w 49).scope.names) ((parsOf (fdOf w 49)).zip [a, b]) (List.replicate (TC.of (fdOf w 49).scope.names).nx none) = [some a, some b, none, none, none, none, none] := by kernel_rfl
theorem mem28 (a b : AV) : memOf (TC.of (fdOf w 28).scope.names) ((parsOf (fdOf w 28)).zip [a, b]) (List.replicate (TC.of (fdOf w 28).scope.names).nx none) = [some a, some b] := by kernel_rfl
theorem mem35 (a b : AV) : memOf (TC.of (fdOf w 35).scope.names) ((parsOf (fdOf w 35)).zip [a, b]) (List.replicate (TC.of (fdOf w 35).scope.names).nx none) = [some a, some b, none] := by kernel_rfl
theorem mem64 (a b : AV) : memOf (TC.of (fdOf w 64).scope.names) ((parsOf (fdOf w 64)).zip [a, b]) (List.replicate (TC.of (fdOf w 64).scope.names).nx none) = [some a, some b] := by kernel_rfl
theorem mem108 (a b : AV) : memOf (TC.of (fdOf w 108).scope.names) ((parsOf (fdOf w 108)).zip [a, b]) (List.replicate (TC.of (fdOf w 108).scope.names).nx none) = [some a, some b, none] := by kernel_rfl
noncomputable def va (a : Addr) : Arg := ((fdOf w a).params.vararg).getD default
theorem va115 : BindsV (fdOf w 115) (va w 115).arg 2 := bindsV2 (x := (parsOf (fdOf w 115)).getD 0 default) (y := (parsOf (fdOf w 115)).getD 1 default) (by kernel_rfl) (fun _ _ => by kernel_rfl) fun _ _ _ _ => by kernel_rfl
theorem va148 : BindsV (fdOf w 148) (va w 148).arg 1 := bindsV1 (x := (parsOf (fdOf w 148)).getD 0 default) (by kernel_rfl) (fun _ => by kernel_rfl) fun _ _ _ => by kernel_rfl
theorem mem115 (a b : AV) (l : List AV) (t : Adr) : memOf (TC.of (fdOf w 115).scope.names) ((parsOf (fdOf w 115)).zip (a :: b :: l) ++ [((va w 115).arg, .ref t)]) (List.replicate (TC.of (fdOf w 115).scope.names).nx none) = [some a, some b, some (.ref t), none, none, none] := by kernel_rfl
theorem mem148 (a : AV) (l : List AV) (t : Adr) : memOf (TC.of (fdOf w 148).scope.names) ((parsOf (fdOf w 148)).zip (a :: l) ++ [((va w 148).arg, .ref t)]) (List.replicate (TC.of (fdOf w 148).scope.names).nx none) = [some a, some (.ref t), none, none, none, none, none, none] := by kernel_rfl
theorem mem155 (a : AV) : memOf (TC.of (fdOf w 155).scope.names) ((parsOf (fdOf w 155)).zip [a]) (List.replicate (TC.of (fdOf w 155).scope.names).nx none) = [some a, none, none, none, none, none, none] := by kernel_rfl
theorem mem120 (a : AV) : memOf (TC.of (fdOf w 120).scope.names) ((parsOf (fdOf w 120)).zip [a]) (List.replicate (TC.of (fdOf w 120).scope.names).nx none) = [some a, none] := by kernel_rfl
theorem mem134 (a : AV) : memOf (TC.of (fdOf w 134).scope.names) ((parsOf (fdOf w 134)).zip [a]) (List.replicate (TC.of (fdOf w 134).scope.names).nx none) = [some a] := by kernel_rfl
theorem mem127 (a : AV) : memOf (TC.of (fdOf w 127).scope.names) ((parsOf (fdOf w 127)).zip [a]) (List.replicate (TC.of (fdOf w 127).scope.names).nx none) = [some a, none, none, none] := by kernel_rfl
noncomputable def y101 : Str := (parsOf (fdOf w 101)).getD 0 default
noncomputable def z101 : Str := (parsOf (fdOf w 101)).getD 1 default
theorem d101 {s : Shared} (X : (KK w).In s.heap) : (∀ u v, BindsTo s (fdOf w 101) ⟨[u, v], []⟩ [(y101 w, u), (z101 w, v)]) ∧ ∀ u, BindsTo s (fdOf w 101) ⟨[u], []⟩ [(y101 w, u), (z101 w, .none)] := ⟨fun _ _ => kp_binds X fun _ => by kernel_rfl, fun _ => kp_binds X fun _ => by kernel_rfl⟩
theorem pars101 : parsOf (fdOf w 101) = [y101 w, z101 w] := by kernel_rfl
theorem mem101 (a b : AV) : memOf (TC.of (fdOf w 101).scope.names) [(y101 w, a), (z101 w, b)] (List.replicate (TC.of (fdOf w 101).scope.names).nx none) = [some a, some b, none, none] := by kernel_rfl
theorem mem174 (a b : AV) : memOf (TC.of (fdOf w 174).scope.names) ((parsOf (fdOf w 174)).zip [a, b]) (List.replicate (TC.of (fdOf w 174).scope.names).nx none) = [some a, some b] := by kernel_rfl
theorem mem179 (a b c : AV) : memOf (TC.of (fdOf w 179).scope.names) ((parsOf (fdOf w 179)).zip [a, b, c]) (List.replicate (TC.of (fdOf w 179).scope.names).nx none) = [some a, some b, some c, none, none, none, none, none, none, none, none, none, none] := by kernel_rfl
theorem mem186 (a b : AV) : memOf (TC.of (fdOf w 186).scope.names) ((parsOf (fdOf w 186)).zip [a, b]) (List.replicate (TC.of (fdOf w 186).scope.names).nx none) = [some a, some b, none, none, none] := by kernel_rfl
theorem mem191 (a b c d : AV) : memOf (TC.of (fdOf w 191).scope.names) ((parsOf (fdOf w 191)).zip [a, b, c, d]) (List.replicate (TC.of (fdOf w 191).scope.names).nx none) = [some a, some b, some c, some d, none, none, none, none] := by kernel_rfl
theorem mem196 (a : AV) : memOf (TC.of (fdOf w 196).scope.names) ((parsOf (fdOf w 196)).zip [a]) (List.replicate (TC.of (fdOf w 196).scope.names).nx none) = [some a, none, none, none, none, none, none, none, none, none, none, none, none, none, none, none] := by kernel_rfl
end
end Mine
end
section
namespace Mine
open PySem PySem.W PyProof.Rows PySem.Calls
set_option maxRecDepth 100000

section
variable {w : World} {base : Heap} {mg mb : Str → Option Value} (s₀ : Shared)

noncomputable abbrev Has (C : Ctr) (a : Addr) (S : List AV → (AV → Store → Prop) → Store → Prop) : Prop := ∀ args Q σ, S args Q σ → C a args Q σ

theorem chain1 (B : Bs w base mg mb) : ∃ C, SoundC w base s₀ 4 C ∧ Has C 28 S28 ∧ Has C 35 S35 := by
  have d1 := ((soundC_none (w := w) (base := base) (s₀ := s₀)).def_ B (fn42 w) (binds3 fun _ _ _ => by kernel_rfl) (pr42 w) (S := S42) (by
    rintro args Q σ ⟨h, xs, p, rfl, h1, h2, h3, h4, h5⟩
    exact ⟨rfl, by rw [mem42]; exact v42 h1 h2 h3 h4 h5⟩)).or
  have d2 := (d1.def_ B (fn49 w) (binds2 fun _ _ => by kernel_rfl) (pr49 w) (S := S49) (by
    rintro args Q σ ⟨h, xs, rfl, h1, h2, h3, h4, h5⟩
    exact ⟨rfl, by rw [mem49]; exact v49 (fun _ _ _ => ad_new) h1 h2 h3 h4 h5⟩)).or
  have d3 := (d2.def_ B (fn28 w) (binds2 fun _ _ => by kernel_rfl) (pr28 w) (S := S28) (by
    rintro args Q σ ⟨h, xs, x, rfl, h1, h2, h3, h4⟩
    exact ⟨rfl, by rw [mem28]; exact v28 (fun _ _ _ h => ad_old (ad_new h)) h1 h2 h3 h4⟩)).or
  have d4 := (d3.def_ B (fn35 w) (binds2 fun _ _ => by kernel_rfl) (pr35 w) (S := S35) (by
    rintro args Q σ ⟨h, xs, x, rfl, h1, h2, h3, h4, h5⟩
    exact ⟨rfl, by rw [mem35]; exact v35 (fun _ _ _ h => ad_old (ad_new h)) h1 h2 h3 h4 h5⟩)).or
  exact ⟨_, d4, fun _ _ _ h => ad_old (ad_new h), fun _ _ _ h => ad_new h⟩

theorem chain2 (B : Bs w base mg mb) : ∃ C, SoundC w base s₀ 8 C ∧ Has C 28 S28 ∧ Has C 35 S35 ∧ Has C 115 (ClS S115g) := by
  obtain ⟨C, hC, h28, h35⟩ := chain1 s₀ B
  have d1 := (hC.def_ B (fn64 w) (binds2 fun _ _ => by kernel_rfl) (pr64 w) (S := S64) (by
    rintro args Q σ ⟨a, k, p, q, r, rfl, h1, h2⟩
    exact ⟨rfl, by rw [mem64]; exact v64 h1 h2⟩)).or
  have d2 := (d1.make68 B).or
  have d3 := (d2.def_ B (fn108 w) (binds2 fun _ _ => by kernel_rfl) (pr108 w) (S := S108) (by
    rintro args Q σ ⟨x, d, n, rd, ps, fs, ks, ad, sl, np, sc, k, rfl, h1, h2, h3, h4⟩
    refine ⟨rfl, ?_⟩
    rw [mem108]
    refine v108 (fun k Q σ hq => ad_new fun a ha => ad_new ⟨a, k, none, none, none, rfl, upd_self .., fun s hs => ⟨rfl, ?_⟩⟩) h1 h2 h3 h4
    have hsa : s ≠ a := by rintro rfl; rw [upd_self] at hs; cases hs
    rw [upd_ne hsa] at hs
    have := hq a s ha hs (Ne.symm hsa)
    rw [upd_comm (Ne.symm hsa), upd_upd]
    exact this)).or
  have d4 := (d3.defV B (fn115 w) (va115 w) ⟨2, by kernel_rfl⟩ (pr115 w) (S := S115g) (by
    rintro args Q σ hS
    obtain ⟨x, d, n, ps, fs, ks, ad, sl, np, sc, k, preds, rfl, R, ow, h3, h4, h5⟩ := hS.to
    refine ⟨by simp, by simp only [List.length_cons, ofInts_len]; omega, fun t ht => ?_⟩
    rw [mem115]
    have s := sub_upd (o := .tuple (ofInts preds)) (sub_refl σ) ht
    exact v115 (fun _ _ _ h => ad_cl h) (R.mono s) ⟨s _ _ ow.dict, fun j hj => s _ _ (ow.list j hj)⟩ h3 h4 (upd_self ..) h5)).or
  exact ⟨_, d4, fun _ _ _ h => ad_old (ad_old (ad_old (ad_old (h28 _ _ _ h)))), fun _ _ _ h => ad_old (ad_old (ad_old (ad_old (h35 _ _ _ h)))), fun _ _ _ h => ad_cl h⟩

theorem chain3 (B : Bs w base mg mb) : ∃ C, SoundC w base s₀ 13 C ∧ Has C 28 S28 ∧ Has C 35 S35 ∧ Has C 115 (ClS S115g) ∧ Has C 120 (ClS S120) ∧ Has C 134 (ClS S134) ∧ Has C 127 (ClS S127) ∧ Has C 148 (ClS S148) := by
  obtain ⟨C, hC, h28, h35, h115⟩ := chain2 s₀ B
  have d1 := (hC.def_ B (fn155 w) (binds1 fun _ => by kernel_rfl) (pr155 w) (S := S155) (by
    rintro args Q σ ⟨x, d, n, rd, ps, fs, ks, ad, sl, np, sc, rk, rfl, h1, h2, h3, h4, h5, h6⟩
    exact ⟨rfl, by rw [mem155]; exact v155 h1 h2 h3 h4 h5 h6⟩)).or
  have d2 := (d1.def_ B (fn120 w) (binds1 fun _ => by kernel_rfl) (pr120 w) (S := S120) (by
    rintro args Q σ ⟨x, adds, rk, rfl, h1, h2, h3, h4, h5⟩
    exact ⟨rfl, by rw [mem120]; exact v120 (fun _ _ _ h => ad_new h) h1 h2 h3 h4 h5⟩)).or
  have d3 := (d2.def_ B (fn134 w) (binds1 fun _ => by kernel_rfl) (pr134 w) (S := S134) (by
    rintro args Q σ ⟨x, ks, sc, D, Rl, rfl, h1, h2⟩
    exact ⟨rfl, by rw [mem134]; exact v134 h1 h2⟩)).or
  have d4 := (d3.def_ B (fn127 w) (binds1 fun _ => by kernel_rfl) (pr127 w) (S := S127) (by
    rintro args Q σ ⟨x, ks, sc, D, Rl, rfl, h1, h2⟩
    exact ⟨rfl, by rw [mem127]; exact v127 h1 h2⟩)).or
  have d5 := (d4.defV B (fn148 w) (va148 w) ⟨1, by kernel_rfl⟩ (pr148 w) (S := S148) (by
    rintro args Q σ ⟨x, ks, sc, D, O, Rl, k, rfl, h1, h2⟩
    refine ⟨by simp, by simp [lim], fun t ht => ?_⟩
    rw [mem148]
    exact v148 (h1.mono (sub_upd (sub_refl σ) ht)) (upd_self ..) h2)).or
  exact ⟨_, d5, fun _ _ _ h => ad_old (ad_old (ad_old (ad_old (ad_old (h28 _ _ _ h))))), fun _ _ _ h => ad_old (ad_old (ad_old (ad_old (ad_old (h35 _ _ _ h))))), fun _ _ _ h => ad_old (ad_old (ad_old (ad_old (ad_old (h115 _ _ _ h))))),
    fun _ _ _ h => ad_old (ad_old (ad_old (ad_cl h))), fun _ _ _ h => ad_old (ad_old (ad_cl h)), fun _ _ _ h => ad_old (ad_cl h), fun _ _ _ h => ad_cl h⟩

theorem has165 {C : Ctr} (h101 : Has C 101 S101) : Has (adC C 165 fun args Q σ => ∀ d x, σ d = none → σ x = none → d ≠ x → C 101 (.ref x :: args) (fun v σ' => v = .none ∧ Q (.ref x) σ') (upd (upd σ d (.sdict [])) x (.inst d))) 165 S165 := by
  rintro args Q σ ⟨hn, hS⟩
  refine .inr ⟨σ, fun _ => none, (join_empty σ).symm, fun a o e => (by cases e), .inr ⟨rfl, fun d x hd hx hdx => ?_⟩⟩
  have hoff : off (upd (upd σ d (.sdict [])) x (.inst d)) (xd x d) = σ := by
    funext a
    by_cases h : xd x d a
    · rw [off_in h]
      rcases h with rfl | rfl
      · exact hx.symm
      · exact hd.symm
    · rw [off_out h, upd_ne (fun e => h (.inl e)), upd_ne (fun e => h (.inr e))]
  have hnn : ∀ a o, upd (upd σ d (.sdict [])) x (.inst d) a = some o → isNode o = false := (Nf.upd (Nf.upd hn rfl) rfl : Nf _)
  have s : Sub σ (upd (upd σ d (.sdict [])) x (.inst d)) := sub_upd (sub_upd (sub_refl σ) hd) (by rw [upd_ne (Ne.symm hdx)]; exact hx)
  refine h101 _ _ _ ⟨x, d, upd_self .., by rw [upd_ne hdx, upd_self], hnn, ?_⟩
  rcases hS with ⟨rfl, hq⟩ | ⟨g, adds, lf, rfl, h1, h2, h3, hq⟩
  · refine .inl ⟨rfl, fun τ G hdis => ⟨rfl, fun _ => fg_self ?_⟩⟩
    rw [hoff] at hdis ⊢
    rw [join_empty]
    exact hq x τ G hdis
  · refine .inr ⟨g, adds, lf, rfl, s _ _ h1, fun a ha => sub_at s (h2 a ha), h3, fun τ σ' G hdis hsub => ⟨rfl, fun _ => ⟨join τ σ, ?_, ?_⟩⟩⟩
    · rw [hoff] at hsub; exact hsub
    · rw [hoff] at hdis
      show Q (.ref x) (join (join τ σ) fun _ => none)
      rw [join_empty]
      exact hq x τ G hdis

theorem chain4 (B : Bs w base mg mb) : ∃ C, SoundC w base s₀ 20 C ∧ Has C 196 S196 := by
  obtain ⟨C, hC, h28, h35, h115, h120, h134, h127, h148⟩ := chain3 s₀ B
  have d1 := (hC.defD B (fn101 w) (pars101 w) (d101 w) (pr101 w) (S := S101) (by
    intro args Q σ hS
    obtain ⟨u, v, h1, h2⟩ := v101 h115 hS
    exact ⟨u, v, h1, by rw [mem101]; exact h2⟩)).or
  have d2 := (d1.make165 B).or
  have h165 := has165 (C := adC C 101 S101) fun _ _ _ h => ad_new h
  have up : ∀ {a S}, Has C a S → Has (adC (adC C 101 S101) 165 fun args Q σ => ∀ d x, σ d = none → σ x = none → d ≠ x → (adC C 101 S101) 101 (.ref x :: args) (fun v σ' => v = .none ∧ Q (.ref x) σ') (upd (upd σ d (.sdict [])) x (.inst d))) a S := fun h _ _ _ e => ad_old (ad_old (h _ _ _ e))
  replace h28 := up h28
  replace h35 := up h35
  replace h115 := up h115
  replace h120 := up h120
  replace h134 := up h134
  replace h127 := up h127
  replace h148 := up h148
  clear up
  generalize (adC (adC C 101 S101) 165 fun args Q σ => ∀ d x, σ d = none → σ x = none → d ≠ x → (adC C 101 S101) 101 (.ref x :: args) (fun v σ' => v = .none ∧ Q (.ref x) σ') (upd (upd σ d (.sdict [])) x (.inst d))) = C₂ at *
  have d3 := (d2.def_ B (fn174 w) (binds2 fun _ _ => by kernel_rfl) (pr174 w) (S := S174) (by
    rintro args Q σ ⟨a, b, bs, ns, rfl, h1, h2, h3, h4, h5, h6⟩
    exact ⟨rfl, by rw [mem174]; exact v174 h1 h2 h3 h4 h5 h6⟩)).or
  have d4 := (d3.def_ B (fn179 w) (binds3 fun _ _ _ => by kernel_rfl) (pr179 w) (S := S179) (by
    rintro args Q σ ⟨n, bl, hh, ww, bA, bel, h, wt, rfl, h1, h2, h3, h4⟩
    exact ⟨rfl, by rw [mem179]; exact v179 (fun _ _ _ e => ad_old (h28 _ _ _ e)) (fun _ _ _ e => ad_old (h35 _ _ _ e)) (fun _ _ _ e => ad_old (h134 _ _ _ e)) (fun _ _ _ e => ad_old (h127 _ _ _ e)) (fun _ _ _ e => ad_old (h148 _ _ _ e)) (fun _ _ _ e => ad_old (h120 _ _ _ e)) (fun _ _ _ e => ad_old (h165 _ _ _ e)) h1 h2 h3 h4⟩)).or
  have d5 := (d4.def_ B (fn186 w) (binds2 fun _ _ => by kernel_rfl) (pr186 w) (S := S186) (by
    rintro args Q σ ⟨n, ab, cc, abv, cr, rfl, h1, h2, h3, h4, h5, h6, h7⟩
    exact ⟨rfl, by rw [mem186]; exact v186 (fun _ _ _ e => ad_old (ad_old (h134 _ _ _ e))) (fun _ _ _ e => ad_old (ad_old (h127 _ _ _ e))) (fun _ _ _ e => ad_old (ad_old (h148 _ _ _ e))) (fun _ _ _ e => ad_old (ad_old (h120 _ _ _ e))) (fun _ _ _ e => ad_old (ad_old (h115 _ _ _ e))) (fun _ _ _ e => ad_old (ad_old (h165 _ _ _ e))) h1 h2 h3 h4 h5 h6 h7⟩)).or
  have d6 := (d5.def_ B (fn191 w) (binds4 fun _ _ _ _ => by kernel_rfl) (pr191 w) (S := S191) (by
    rintro args Q σ ⟨n, m, bl, hh, ww, lv, bA, bel, h, wt, lev, tg, rfl, h1, h2, h3, h4, h5, h6⟩
    exact ⟨rfl, by rw [mem191]; exact v191 h1 h2 h3 h4 h5 h6⟩)).or
  have d7 := (d6.def_ B (fn196 w) (binds1 fun _ => by kernel_rfl) (pr196 w) (S := S196) (by
    rintro args Q σ ⟨s, xs, rfl, h1, h2, h3, h4⟩
    exact ⟨rfl, by rw [mem196]; exact v196 (fun _ _ _ e => ad_old (ad_old (ad_old (ad_new e)))) (fun _ _ _ e => ad_old (ad_old (ad_cl e))) (fun _ _ _ e => ad_cl e) (fun _ _ _ e => ad_old (ad_new e)) h1 h2 h3 h4⟩)).or
  exact ⟨_, d7, fun _ _ _ h => ad_new h⟩
end
end Mine
end
section
namespace Mine
open PySem PySem.W PyProof.Rows PySem.Calls PySem.Spec PyProof.V
set_option maxRecDepth 100000

theorem law_at (w : World) : nsIn (hd.heap_39 w.params) mainGlobals (Str.ofString "law") = some (some (.ref 196)) := by kernel_rfl

theorem well_ints {P : Params} {h : Heap} {a : Addr} {xs : List Int} (x : Well P h (.ref a) (ofPy (.list (xs.map PyData.int)))) : ∃ vs : List Value, h.get? a = some { cls := .type "list", data := .seq vs.toArray } ∧ AllR (ofInts xs) vs := by
  have key : ∀ (xs : List Int) (vs : List Value), WellAll P h vs (xs.map fun i => WData.int i) → AllR (ofInts xs) vs := by
    intro xs
    induction xs with
    | nil => intro vs hv; cases hv; exact .nil
    | cons i xs ih =>
      intro vs hv
      cases hv with
      | cons h1 h2 => cases h1; exact .cons ⟨_, rfl⟩ (ih _ h2)
  have e : ofPy (.list (xs.map PyData.int)) = .list (xs.map fun i => WData.int i) := by
    show WData.list (ofPys _) = _
    rw [ofPys_eq, List.map_map]; rfl
  rw [e] at x
  cases x with
  | list hg ha => exact ⟨_, hg, key xs _ ha⟩

theorem law_end {w : World} {s1 : Shared} {mg mb : Str → Option Value} (B : Bs w s1.heap mg mb) {a fa : Addr} {xs : List Int} (hw : Well w.params s1.heap (.ref a) (ofPy (.list (xs.map PyData.int)))) (hlen : xs.length ≤ 63) (hfa : mg (Str.ofString "law") = some (.ref fa)) {Post : Result → Shared → Prop}
    (hpost : ∀ h tk, (∀ b o, s1.heap.get? b = some o → h.get? b = some o) → Post (.ok (.ret (.bool true))) { s1 with heap := h, toks := tk }) : codeAny (model thePr w) callerA (.call (.ref fa) ⟨[.ref a], []⟩) Post s1 := by
  have e := mg_of B.k B.g (law_at w)
  rw [hfa] at e
  cases e
  obtain ⟨C, hC, h196⟩ := chain4 s1 B
  obtain ⟨vs, hob, hall⟩ := well_ints hw
  have hlim : (1000 : Nat) ≤ lim := by decide
  have hnf : Nf (fun b => if b = a then some (.ro (.list (ofInts xs))) else none) := by
    intro b o e
    simp only at e
    split at e
    · cases e; rfl
    · cases e
  have hat : at? (fun b => if b = a then some (.ro (.list (ofInts xs))) else none) a = some (.list (ofInts xs)) := by
    unfold at?
    show Option.map AO.rd (if a = a then _ else _) = _
    rw [if_pos rfl]; rfl
  have hS := h196 [.ref a] (fun v _ => v = .bool true) (fun b => if b = a then some (.ro (.list (ofInts xs))) else none) ⟨a, xs, rfl, hat, by omega, hnf, fun _ => rfl⟩
  have ex : Ext w s1.heap s1 (fun b => s1.heap.get? b) (fun _ => False) (fun b => if b = a then some (.ro (.list (ofInts xs))) else none) s1 := by
    refine ⟨⟨s1.heap, s1.toks, rfl⟩, fun b o e => Kp.of e, fun b o e hr => ?_, fun b o e => ?_, fun b o e => e, fun b h => h.elim, ?_, fun b o e hr => ?_, fun b o e hn => ?_⟩
    · split at e
      · cases e; cases hr
      · cases e
    · split at e
      · rename_i h; subst h; cases e
        exact ⟨_, hob, vs.toArray, _, rfl, by simpa using hall⟩
      · cases e
    · obtain ⟨oc, od, sl, hK⟩ := (fn196 w).at_
      exact ⟨_, B.k _ _ hK⟩
    · split at e
      · cases e; cases hr
      · cases e
    · split at e
      · cases e; cases hn
      · cases e
  refine codeAny_mono ((hC _ _ _ _ hS).2 (fun b => s1.heap.get? b) (fun _ => False) callerA s1 [.ref a] ⟨by decide, by decide, [], rfl, by simp⟩ rfl ex (.cons rfl .nil)) fun res s' h => ?_
  obtain ⟨v, av, σ', rfl, hv, ex', rfl⟩ := h
  cases (show v = .bool true from hv)
  obtain ⟨hh, tk, rfl⟩ := ex'.rest
  exact hpost hh tk fun b o e => ex'.inBase e
end Mine
end
section
namespace Mine
open PySem PySem.W PyProof.Rows
set_option maxRecDepth 100000
set_option maxHeartbeats 8000000
@[reducible] noncomputable def Hk : Hook := kHook hd.heap_39 [2, 3, 15, 17, 18, 20, 21, 22, 24, 25, 27, 28, 29, 31, 32, 34, 35, 36, 38, 39, 41, 42, 43, 45, 46, 48, 49, 57, 58, 60, 61, 63, 64, 65, 67, 68, 69, 70, 71, 74, 81, 82, 83, 84, 94, 95, 97, 98, 100, 101, 102, 104, 105, 107, 108, 109, 111, 112, 114, 115, 116, 119, 120, 121, 123, 124, 126, 127, 128, 130, 131, 133, 134, 135, 137, 138, 140, 141, 142, 144, 145, 147, 148, 149, 151, 152, 154, 155, 156, 158, 159, 161, 162, 163, 164, 165, 166, 167, 170, 173, 174, 175, 178, 179, 180, 182, 183, 185, 186, 187, 190, 191, 192, 195, 196] (fun _ => by kernel_rfl)
noncomputable abbrev rowW := PySem.Challenge.rw_mj0233_01.row.toRowW
theorem left_ : LeftO rowW.prog hd.view_39 [Str.ofString "_NodeInfo"] (fun s => xlAt hd.view_39 [] s && recOk (RowW.records rowW) s) (Hook.obs Hk) (Hook.val Hk) 2780 := fun w => by kernel_rfl
theorem said_ : PySem.Challenge.rw_mj0233_01.wellSaid = true := by kernel_rfl
end Mine
end
open PySem PySem.W PyProof.Rows PySem.Calls PySem.Spec PyProof.V
set_option maxRecDepth 100000
set_option maxHeartbeats 8000000
theorem PySem.Challenge.cw_mj0233_01_holds : PySem.Challenge.rw_mj0233_01.Holds := by
  w_on
  refine holds_law Mine.said_ fun said => ?_
  refine holds_open (q := Mine.hd.view_39) (loose := [Str.ofString "_NodeInfo"]) (Xt := fun s => xlAt Mine.hd.view_39 [] s && recOk (RowW.records Mine.rowW) s) (XP := XL Mine.hd.view_39 []) (Yf := Hook.obs Mine.Hk) (Ya := Hook.val Mine.Hk) (YP := Hook.says Mine.Hk) (N := 2780) Mine.left_ (Hook.of Mine.Hk) (Hook.keeps Mine.Hk) (fun s e => xl_of s (Bool.and_eq_true_iff.mp e).1) XL.keeps (by rfl) (by rfl) (by rfl) (fun s e => recFacts_of (Bool.and_eq_true_iff.mp e).2) (by rfl) (by first | assumption | decide +kernel) (by decide +kernel) ⟨rfl, rfl, rfl, rfl, rfl, by decide +kernel⟩ ?hw ?hc
  case hw => w_witness2
  case hc =>
    intro w s0 s1 mg mb G Y fa o pm cd doc dV kV ho hd hcd hD hmg hg args vals as hpre hlay hrd hwl hlo
    have KX := kIn_of Y
    refine Ground.open G ?_
    intro T B D TE TW
    try (refine guard_noD D (by decide +kernel) ?_; clear D)
    wrow_args hpre hlay hrd hwl hlo
    refine enter_call ?_
    w_top on
    try refine codeAny_mono ?_ (fun _ _ g => GoodW.toG g)
    refine Mine.law_end (mg := mg) (mb := mb) ⟨KX, T.g, T.b, T.nolimit, T.builtins⟩ (by assumption) ?_ hmg fun h tk hk => ?_
    · rename_i c1 c2
      omega
    · refine ⟨.inl ⟨.bool true, .bool true, [], rfl, raisesW_false ?_, .bool true, ?_, unshared_nil⟩, hk, rfl, hg⟩
      · wrow_none_raised
      · wrow_post
