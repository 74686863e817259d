import PyProof.Rows.All
import Wide.All
import OpenK.AllK
import Wide.FinOn
import KE.KDictSum
import PySem.Challenge.RW_oh0068_01
open PySem PySem.W PyProof.Rows
set_option Elab.async false
set_option linter.unusedVariables false
set_option linter.unusedSimpArgs false
namespace Mine

noncomputable def nth : List Stmt → Nat → Stmt
  | [], _ => .Pass ⟨0, 0, 0, 0⟩
  | s :: _, 0 => s
  | _ :: r, n + 1 => nth r n
noncomputable def topSt (i : Nat) : Stmt := nth PySem.Challenge.pw_oh0068_01.main.body i
noncomputable def clsSt (i j : Nat) : Stmt := match topSt i with
  | .ClassDef _ _ _ b .. => nth b j
  | s => s
noncomputable def fnObj (s : Stmt) (q : Str) (dv pm cd : Value) : Obj := match s with
  | .FunctionDef n ps b _ _ _ sc .. => ⟨.type "function", none, .func ⟨n, q, ps, .stmts b, sc, 3, [], dv, .none, .none, pm, none, cd, .none, 0⟩, #[]⟩
  | _ => ⟨.none, none, .plain, #[]⟩
noncomputable def codeObj (vs : List Value) : Obj := ⟨.type "code", none, .fields vs.toArray, #[]⟩
noncomputable def nsObj (P : Params) (es : List (Str × Nat × Value)) (n : Nat) : Obj := ⟨.type "dict", none, .dict (es.map fun e => ⟨PyData.keyHash P e.1, .str e.1 e.2.1, e.2.2⟩).toArray n, #[]⟩
noncomputable def kk (P : Params) : Frag := [
  (2, { cls := .none, data := .dict #[] }),
  (3, nsObj P [("__name__", 165, .str "law_oh0068_01" 488), ("__doc__", 166, .none), ("__package__", 167, .none), ("__loader__", 168, .builtin "__main__.__loader__#opaque"), ("__spec__", 169, .none), ("__annotations__", 170, .ref 6), ("__builtins__", 171, .ref 4), ("__file__", 173, .str "/claim/cut.py" 172), ("__cached__", 174, .none), ("_wall", 193, .ref 21), ("Entry", 252, .ref 59), ("merge_entries", 261, .ref 70), ("_NODE_OUT", 266, .int (-1) 265), ("_NODE_DONE", 269, .int (-2) 268), ("_NodeInfo", 306, .ref 89), ("CycleError", 324, .ref 104), ("TopologicalSorter", 443, .ref 186), ("heappush", 453, .ref 197), ("heappop", 462, .ref 204), ("_siftdown", 474, .ref 211), ("_siftup", 487, .ref 218), ("_law_numbers", 498, .ref 225), ("_law_ahead", 504, .ref 230), ("_law_delay", 512, .ref 237), ("_law_name", 519, .ref 244), ("_law_lines", 529, .ref 251), ("_law_web", 541, .ref 258), ("_law_merged", 547, .ref 263), ("_law_ends", 553, .ref 268), ("_law_ways", 566, .ref 275), ("_law_told", 572, .ref 280), ("law", 578, .ref 285)] 32),
  (20, codeObj [.str "_wall" 187, .str "_wall" 188, .str "/claim/cut.py" 189, .int 1 0, .int 1 0, .int 0 0, .int 0 0, .int 3 0, .ref 15, .bool true, .int 181 0, .ref 16, .none, .ref 17, .ref 18, .ref 19, .int 191 0, .int 1 0, .str "/claim/cut.py" 192]),
  (21, fnObj (topSt 0) "_wall" (.none) (.str "__main__" 164) (.ref 20)),
  (34, codeObj [.str "__init__" 208, .str "Entry.__init__" 209, .str "/claim/cut.py" 210, .int 7 0, .int 1 0, .int 0 0, .int 0 0, .int 3 0, .ref 29, .bool true, .int 181 0, .ref 30, .none, .ref 31, .ref 32, .ref 33, .int 212 0, .int 7 0, .str "/claim/cut.py" 213]),
  (35, fnObj (clsSt 2 0) "Entry.__init__" (.none) (.str "cpy313.urllib.robotparser" 194) (.ref 34)),
  (41, codeObj [.str "__str__" 215, .str "Entry.__str__" 216, .str "/claim/cut.py" 217, .int 13 0, .int 1 0, .int 0 0, .int 0 0, .int 3 0, .ref 36, .bool true, .int 181 0, .ref 37, .none, .ref 38, .ref 39, .ref 40, .int 222 0, .int 13 0, .str "/claim/cut.py" 223]),
  (42, fnObj (clsSt 2 1) "Entry.__str__" (.none) (.str "cpy313.urllib.robotparser" 194) (.ref 41)),
  (48, codeObj [.str "applies_to" 225, .str "Entry.applies_to" 226, .str "/claim/cut.py" 227, .int 30 0, .int 2 0, .int 0 0, .int 0 0, .int 3 0, .ref 43, .bool true, .int 181 0, .ref 44, .none, .ref 45, .ref 46, .ref 47, .int 230 0, .int 30 0, .str "/claim/cut.py" 231]),
  (49, fnObj (clsSt 2 2) "Entry.applies_to" (.none) (.str "cpy313.urllib.robotparser" 194) (.ref 48)),
  (55, codeObj [.str "allowance" 233, .str "Entry.allowance" 234, .str "/claim/cut.py" 235, .int 33 0, .int 2 0, .int 0 0, .int 0 0, .int 3 0, .ref 50, .bool true, .int 181 0, .ref 51, .none, .ref 52, .ref 53, .ref 54, .int 238 0, .int 33 0, .str "/claim/cut.py" 239]),
  (56, fnObj (clsSt 2 3) "Entry.allowance" (.none) (.str "cpy313.urllib.robotparser" 194) (.ref 55)),
  (58, nsObj P [("__module__", 203, .str "cpy313.urllib.robotparser" 194), ("__firstlineno__", 207, .int 5 206), ("__init__", 214, .ref 35), ("__str__", 224, .ref 42), ("applies_to", 232, .ref 49), ("allowance", 240, .ref 56), ("__static_attributes__", 245, .ref 57), ("__dict__", 247, .ref 60), ("__weakref__", 249, .ref 61), ("__doc__", 250, .none)] 4),
  (59, { cls := .type "type", data := .cls { name := "Entry", bases := [.type "object"], mro := [.ref 59, .type "object"], ns := 58, qualname := "Entry" }, slots := #[none, none, some (.str "Entry" 196), some (.str "Entry" 204), some (.builtin "object.__new__"), some (.bool true)] }),
  (60, { cls := .type "getset_descriptor", data := .fields #[.str "__dict__" 246, .ref 59, .builtin "function.__dict__", .builtin "function.__dict__#set"] }),
  (61, { cls := .type "getset_descriptor", data := .fields #[.str "__weakref__" 248, .ref 59, .builtin "ExceptionGroup.__weakref__", .none] }),
  (69, codeObj [.str "merge_entries" 253, .str "merge_entries" 254, .str "/claim/cut.py" 255, .int 35 0, .int 2 0, .int 0 0, .int 0 0, .int 3 0, .ref 64, .bool true, .int 181 0, .ref 65, .none, .ref 66, .ref 67, .ref 68, .int 259 0, .int 35 0, .str "/claim/cut.py" 260]),
  (70, fnObj (topSt 3) "merge_entries" (.none) (.str "cpy313.urllib.robotparser" 194) (.ref 69)),
  (84, codeObj [.str "__init__" 286, .str "_NodeInfo.__init__" 287, .str "/claim/cut.py" 288, .int 48 0, .int 2 0, .int 0 0, .int 0 0, .int 3 0, .ref 79, .bool true, .int 181 0, .ref 80, .none, .ref 81, .ref 82, .ref 83, .int 291 0, .int 48 0, .str "/claim/cut.py" 292]),
  (85, fnObj (clsSt 7 1) "_NodeInfo.__init__" (.none) (.str "cpy313.graphlib" 262) (.ref 84)),
  (88, nsObj P [("__module__", 277, .str "cpy313.graphlib" 262), ("__firstlineno__", 281, .int 45 280), ("__slots__", 285, .ref 78), ("__init__", 293, .ref 85), ("__static_attributes__", 297, .ref 86), ("node", 299, .ref 90), ("npredecessors", 301, .ref 91), ("successors", 303, .ref 92), ("__doc__", 304, .none)] 5),
  (89, { cls := .type "type", data := .cls { name := "_NodeInfo", bases := [.type "object"], mro := [.ref 89, .type "object"], ns := 88, qualname := "_NodeInfo", hasDict := false, slotNames := ["node", "npredecessors", "successors"] }, slots := #[none, none, some (.str "_NodeInfo" 270), some (.str "_NodeInfo" 278), some (.builtin "object.__new__"), some (.bool false)] }),
  (90, { cls := .type "member_descriptor", data := .fields #[.str "node" 298, .ref 89, .builtin "proto.slot", .builtin "proto.slot#set", .int 2 0] }),
  (91, { cls := .type "member_descriptor", data := .fields #[.str "npredecessors" 300, .ref 89, .builtin "proto.slot", .builtin "proto.slot#set", .int 1 0] }),
  (92, { cls := .type "member_descriptor", data := .fields #[.str "successors" 302, .ref 89, .builtin "proto.slot", .builtin "proto.slot#set", .int 0 0] }),
  (103, nsObj P [("__module__", 314, .str "cpy313.graphlib" 262), ("__firstlineno__", 318, .int 52 317), ("__static_attributes__", 319, .ref 102), ("__weakref__", 321, .ref 105), ("__doc__", 322, .none)] 3),
  (104, { cls := .type "type", data := .cls { name := "CycleError", bases := [.type "ValueError"], mro := [.ref 104, .type "ValueError", .type "Exception", .type "BaseException", .type "object"], ns := 103, qualname := "CycleError" }, slots := #[some (.ref 95), none, some (.str "CycleError" 307), some (.str "CycleError" 315), some (.builtin "ValueError.__new__"), some (.bool true)] }),
  (105, { cls := .type "getset_descriptor", data := .fields #[.str "__weakref__" 320, .ref 104, .builtin "ExceptionGroup.__weakref__", .none] }),
  (115, { cls := .type "tuple", data := .seq #[.none] }),
  (121, codeObj [.str "__init__" 337, .str "TopologicalSorter.__init__" 338, .str "/claim/cut.py" 339, .int 56 0, .int 2 0, .int 0 0, .int 0 0, .int 3 0, .ref 116, .bool true, .int 181 0, .ref 117, .none, .ref 118, .ref 119, .ref 120, .int 344 0, .int 56 0, .str "/claim/cut.py" 345]),
  (122, fnObj (clsSt 9 0) "TopologicalSorter.__init__" (.ref 115) (.str "cpy313.graphlib" 262) (.ref 121)),
  (128, codeObj [.str "_get_nodeinfo" 347, .str "TopologicalSorter._get_nodeinfo" 348, .str "/claim/cut.py" 349, .int 65 0, .int 2 0, .int 0 0, .int 0 0, .int 3 0, .ref 123, .bool true, .int 181 0, .ref 124, .none, .ref 125, .ref 126, .ref 127, .int 353 0, .int 65 0, .str "/claim/cut.py" 354]),
  (129, fnObj (clsSt 9 1) "TopologicalSorter._get_nodeinfo" (.none) (.str "cpy313.graphlib" 262) (.ref 128)),
  (135, codeObj [.str "add" 356, .str "TopologicalSorter.add" 357, .str "/claim/cut.py" 358, .int 70 0, .int 2 0, .int 0 0, .int 0 0, .int 7 0, .ref 130, .bool true, .int 181 0, .ref 131, .none, .ref 132, .ref 133, .ref 134, .int 365 0, .int 70 0, .str "/claim/cut.py" 366]),
  (136, fnObj (clsSt 9 2) "TopologicalSorter.add" (.none) (.str "cpy313.graphlib" 262) (.ref 135)),
  (140, codeObj [.str "prepare" 368, .str "TopologicalSorter.prepare" 369, .str "/claim/cut.py" 370, .int 79 0, .int 1 0, .int 0 0, .int 0 0, .int 3 0, .ref 137, .bool true, .int 181 0, .ref 138, .none, .none, .none, .ref 139, .int 371 0, .int 79 0, .str "/claim/cut.py" 372]),
  (141, fnObj (clsSt 9 3) "TopologicalSorter.prepare" (.none) (.str "cpy313.graphlib" 262) (.ref 140)),
  (147, codeObj [.str "get_ready" 374, .str "TopologicalSorter.get_ready" 375, .str "/claim/cut.py" 376, .int 87 0, .int 1 0, .int 0 0, .int 0 0, .int 3 0, .ref 142, .bool true, .int 181 0, .ref 143, .none, .ref 144, .ref 145, .ref 146, .int 381 0, .int 87 0, .str "/claim/cut.py" 382]),
  (148, fnObj (clsSt 9 4) "TopologicalSorter.get_ready" (.none) (.str "cpy313.graphlib" 262) (.ref 147)),
  (154, codeObj [.str "is_active" 384, .str "TopologicalSorter.is_active" 385, .str "/claim/cut.py" 386, .int 98 0, .int 1 0, .int 0 0, .int 0 0, .int 3 0, .ref 149, .bool true, .int 181 0, .ref 150, .none, .ref 151, .ref 152, .ref 153, .int 388 0, .int 98 0, .str "/claim/cut.py" 389]),
  (155, fnObj (clsSt 9 5) "TopologicalSorter.is_active" (.none) (.str "cpy313.graphlib" 262) (.ref 154)),
  (161, codeObj [.str "__bool__" 391, .str "TopologicalSorter.__bool__" 392, .str "/claim/cut.py" 393, .int 103 0, .int 1 0, .int 0 0, .int 0 0, .int 3 0, .ref 156, .bool true, .int 181 0, .ref 157, .none, .ref 158, .ref 159, .ref 160, .int 395 0, .int 103 0, .str "/claim/cut.py" 396]),
  (162, fnObj (clsSt 9 6) "TopologicalSorter.__bool__" (.none) (.str "cpy313.graphlib" 262) (.ref 161)),
  (168, codeObj [.str "done" 398, .str "TopologicalSorter.done" 399, .str "/claim/cut.py" 400, .int 106 0, .int 1 0, .int 0 0, .int 0 0, .int 7 0, .ref 163, .bool true, .int 181 0, .ref 164, .none, .ref 165, .ref 166, .ref 167, .int 409 0, .int 106 0, .str "/claim/cut.py" 410]),
  (169, fnObj (clsSt 9 7) "TopologicalSorter.done" (.none) (.str "cpy313.graphlib" 262) (.ref 168)),
  (175, codeObj [.str "_find_cycle" 412, .str "TopologicalSorter._find_cycle" 413, .str "/claim/cut.py" 414, .int 129 0, .int 1 0, .int 0 0, .int 0 0, .int 3 0, .ref 170, .bool true, .int 181 0, .ref 171, .none, .ref 172, .ref 173, .ref 174, .int 422 0, .int 129 0, .str "/claim/cut.py" 423]),
  (176, fnObj (clsSt 9 8) "TopologicalSorter._find_cycle" (.none) (.str "cpy313.graphlib" 262) (.ref 175)),
  (182, codeObj [.str "static_order" 425, .str "TopologicalSorter.static_order" 426, .str "/claim/cut.py" 427, .int 158 0, .int 1 0, .int 0 0, .int 0 0, .int 3 0, .ref 177, .bool true, .int 181 0, .ref 178, .none, .ref 179, .ref 180, .ref 181, .int 429 0, .int 158 0, .str "/claim/cut.py" 430]),
  (183, fnObj (clsSt 9 9) "TopologicalSorter.static_order" (.none) (.str "cpy313.graphlib" 262) (.ref 182)),
  (185, nsObj P [("__module__", 332, .str "cpy313.graphlib" 262), ("__firstlineno__", 336, .int 54 335), ("__init__", 346, .ref 122), ("_get_nodeinfo", 355, .ref 129), ("add", 367, .ref 136), ("prepare", 373, .ref 141), ("get_ready", 383, .ref 148), ("is_active", 390, .ref 155), ("__bool__", 397, .ref 162), ("done", 411, .ref 169), ("_find_cycle", 424, .ref 176), ("static_order", 431, .ref 183), ("__static_attributes__", 436, .ref 184), ("__dict__", 438, .ref 187), ("__weakref__", 440, .ref 188), ("__doc__", 441, .none)] 4),
  (186, { cls := .type "type", data := .cls { name := "TopologicalSorter", bases := [.type "object"], mro := [.ref 186, .type "object"], ns := 185, qualname := "TopologicalSorter" }, slots := #[none, none, some (.str "TopologicalSorter" 325), some (.str "TopologicalSorter" 333), some (.builtin "object.__new__"), some (.bool true)] }),
  (187, { cls := .type "getset_descriptor", data := .fields #[.str "__dict__" 437, .ref 186, .builtin "function.__dict__", .builtin "function.__dict__#set"] }),
  (188, { cls := .type "getset_descriptor", data := .fields #[.str "__weakref__" 439, .ref 186, .builtin "ExceptionGroup.__weakref__", .none] }),
  (196, codeObj [.str "heappush" 446, .str "heappush" 447, .str "/claim/cut.py" 448, .int 161 0, .int 2 0, .int 0 0, .int 0 0, .int 3 0, .ref 191, .bool true, .int 181 0, .ref 192, .none, .ref 193, .ref 194, .ref 195, .int 451 0, .int 161 0, .str "/claim/cut.py" 452]),
  (197, fnObj (topSt 11) "heappush" (.none) (.str "cpy313.heapq" 444) (.ref 196)),
  (203, codeObj [.str "heappop" 454, .str "heappop" 455, .str "/claim/cut.py" 456, .int 164 0, .int 1 0, .int 0 0, .int 0 0, .int 3 0, .ref 198, .bool true, .int 181 0, .ref 199, .none, .ref 200, .ref 201, .ref 202, .int 460 0, .int 164 0, .str "/claim/cut.py" 461]),
  (204, fnObj (topSt 12) "heappop" (.none) (.str "cpy313.heapq" 444) (.ref 203)),
  (210, codeObj [.str "_siftdown" 463, .str "_siftdown" 464, .str "/claim/cut.py" 465, .int 172 0, .int 3 0, .int 0 0, .int 0 0, .int 3 0, .ref 205, .bool true, .int 181 0, .ref 206, .none, .ref 207, .ref 208, .ref 209, .int 472 0, .int 172 0, .str "/claim/cut.py" 473]),
  (211, fnObj (topSt 13) "_siftdown" (.none) (.str "cpy313.heapq" 444) (.ref 210)),
  (217, codeObj [.str "_siftup" 475, .str "_siftup" 476, .str "/claim/cut.py" 477, .int 183 0, .int 2 0, .int 0 0, .int 0 0, .int 3 0, .ref 212, .bool true, .int 181 0, .ref 213, .none, .ref 214, .ref 215, .ref 216, .int 485 0, .int 183 0, .str "/claim/cut.py" 486]),
  (218, fnObj (topSt 14) "_siftup" (.none) (.str "cpy313.heapq" 444) (.ref 217)),
  (224, codeObj [.str "_law_numbers" 490, .str "_law_numbers" 491, .str "/claim/cut.py" 492, .int 198 0, .int 1 0, .int 0 0, .int 0 0, .int 3 0, .ref 219, .bool true, .int 181 0, .ref 220, .none, .ref 221, .ref 222, .ref 223, .int 496 0, .int 198 0, .str "/claim/cut.py" 497]),
  (225, fnObj (topSt 16) "_law_numbers" (.none) (.str "law_oh0068_01" 488) (.ref 224)),
  (229, codeObj [.str "_law_ahead" 499, .str "_law_ahead" 500, .str "/claim/cut.py" 501, .int 203 0, .int 2 0, .int 0 0, .int 0 0, .int 3 0, .ref 226, .bool true, .int 181 0, .ref 227, .none, .none, .none, .ref 228, .int 502 0, .int 203 0, .str "/claim/cut.py" 503]),
  (230, fnObj (topSt 17) "_law_ahead" (.none) (.str "law_oh0068_01" 488) (.ref 229)),
  (236, codeObj [.str "_law_delay" 505, .str "_law_delay" 506, .str "/claim/cut.py" 507, .int 209 0, .int 1 0, .int 0 0, .int 0 0, .int 3 0, .ref 231, .bool true, .int 181 0, .ref 232, .none, .ref 233, .ref 234, .ref 235, .int 510 0, .int 209 0, .str "/claim/cut.py" 511]),
  (237, fnObj (topSt 18) "_law_delay" (.none) (.str "law_oh0068_01" 488) (.ref 236)),
  (243, codeObj [.str "_law_name" 513, .str "_law_name" 514, .str "/claim/cut.py" 515, .int 214 0, .int 1 0, .int 0 0, .int 0 0, .int 3 0, .ref 238, .bool true, .int 181 0, .ref 239, .none, .ref 240, .ref 241, .ref 242, .int 517 0, .int 214 0, .str "/claim/cut.py" 518]),
  (244, fnObj (topSt 19) "_law_name" (.none) (.str "law_oh0068_01" 488) (.ref 243)),
  (250, codeObj [.str "_law_lines" 520, .str "_law_lines" 521, .str "/claim/cut.py" 522, .int 216 0, .int 3 0, .int 0 0, .int 0 0, .int 3 0, .ref 245, .bool true, .int 181 0, .ref 246, .none, .ref 247, .ref 248, .ref 249, .int 527 0, .int 216 0, .str "/claim/cut.py" 528]),
  (251, fnObj (topSt 20) "_law_lines" (.none) (.str "law_oh0068_01" 488) (.ref 250)),
  (257, codeObj [.str "_law_web" 530, .str "_law_web" 531, .str "/claim/cut.py" 532, .int 223 0, .int 2 0, .int 0 0, .int 0 0, .int 3 0, .ref 252, .bool true, .int 181 0, .ref 253, .none, .ref 254, .ref 255, .ref 256, .int 539 0, .int 223 0, .str "/claim/cut.py" 540]),
  (258, fnObj (topSt 21) "_law_web" (.none) (.str "law_oh0068_01" 488) (.ref 257)),
  (262, codeObj [.str "_law_merged" 542, .str "_law_merged" 543, .str "/claim/cut.py" 544, .int 234 0, .int 3 0, .int 0 0, .int 0 0, .int 3 0, .ref 259, .bool true, .int 181 0, .ref 260, .none, .none, .none, .ref 261, .int 545 0, .int 234 0, .str "/claim/cut.py" 546]),
  (263, fnObj (topSt 22) "_law_merged" (.none) (.str "law_oh0068_01" 488) (.ref 262)),
  (267, codeObj [.str "_law_ends" 548, .str "_law_ends" 549, .str "/claim/cut.py" 550, .int 257 0, .int 2 0, .int 0 0, .int 0 0, .int 3 0, .ref 264, .bool true, .int 181 0, .ref 265, .none, .none, .none, .ref 266, .int 551 0, .int 257 0, .str "/claim/cut.py" 552]),
  (268, fnObj (topSt 23) "_law_ends" (.none) (.str "law_oh0068_01" 488) (.ref 267)),
  (274, codeObj [.str "_law_ways" 554, .str "_law_ways" 555, .str "/claim/cut.py" 556, .int 262 0, .int 2 0, .int 0 0, .int 0 0, .int 3 0, .ref 269, .bool true, .int 181 0, .ref 270, .none, .ref 271, .ref 272, .ref 273, .int 564 0, .int 262 0, .str "/claim/cut.py" 565]),
  (275, fnObj (topSt 24) "_law_ways" (.none) (.str "law_oh0068_01" 488) (.ref 274)),
  (279, codeObj [.str "_law_told" 567, .str "_law_told" 568, .str "/claim/cut.py" 569, .int 274 0, .int 4 0, .int 0 0, .int 0 0, .int 3 0, .ref 276, .bool true, .int 181 0, .ref 277, .none, .none, .none, .ref 278, .int 570 0, .int 274 0, .str "/claim/cut.py" 571]),
  (280, fnObj (topSt 25) "_law_told" (.none) (.str "law_oh0068_01" 488) (.ref 279)),
  (284, codeObj [.str "law" 573, .str "law" 574, .str "/claim/cut.py" 575, .int 285 0, .int 1 0, .int 0 0, .int 0 0, .int 3 0, .ref 281, .bool true, .int 181 0, .ref 282, .none, .none, .none, .ref 283, .int 576 0, .int 285 0, .str "/claim/cut.py" 577]),
  (285, fnObj (topSt 26) "law" (.none) (.str "law_oh0068_01" 488) (.ref 284))]
noncomputable def vw : Program := { PySem.Challenge.pw_oh0068_01 with main := { PySem.Challenge.pw_oh0068_01.main with body := [0, 2, 3, 5, 6, 7, 8, 9, 11, 12, 13, 14, 16, 17, 18, 19, 20, 21, 22, 23, 24, 25, 26].map topSt } }
noncomputable def kas : List Nat := [2, 3, 20, 21, 34, 35, 41, 42, 48, 49, 55, 56, 58, 59, 60, 61, 69, 70, 84, 85, 88, 89, 90, 91, 92, 103, 104, 105, 115, 121, 122, 128, 129, 135, 136, 140, 141, 147, 148, 154, 155, 161, 162, 168, 169, 175, 176, 182, 183, 185, 186, 187, 188, 196, 197, 203, 204, 210, 211, 217, 218, 224, 225, 229, 230, 236, 237, 243, 244, 250, 251, 257, 258, 262, 263, 267, 268, 274, 275, 279, 280, 284, 285]

noncomputable abbrev PR : Program := PySem.Challenge.rw_oh0068_01.row.prog
noncomputable abbrev KK (P : Params) : Frag := kk P
noncomputable abbrev VW : Program := vw
noncomputable abbrev LS : List Str := looseW VW [Str.ofString "_NodeInfo"]

inductive MV where
  | undef
  | none
  | bool (b : Bool)
  | int (i : Int)
  | str (x : Str)
  | ref (a : Addr)
  | con (v : Value)

noncomputable def VR : MV → Value → Prop
  | .undef, _ => False
  | .none, v => v = .none
  | .bool b, v => v = .bool b
  | .int i, v => ∃ t, v = .int i t
  | .str x, v => ∃ t, v = .str x t
  | .ref a, v => v = .ref a
  | .con u, v => v = u

noncomputable def LR (x : MV) (o : Option Value) : Prop := x = .undef ∨ ∃ v, o = some v ∧ VR x v

noncomputable def VRs : List MV → List Value → Prop
  | [], [] => True
  | x :: xs, v :: vs => VR x v ∧ VRs xs vs
  | _, _ => False

theorem VRs.length : ∀ {xs : List MV} {vs : List Value}, VRs xs vs → vs.length = xs.length
  | [], [], _ => rfl
  | _ :: _, _ :: _, h => congrArg (· + 1) (VRs.length h.2)
  | [], _ :: _, h => h.elim
  | _ :: _, [], h => h.elim
theorem VRs.get : ∀ {xs : List MV} {vs : List Value}, VRs xs vs → ∀ {i : Nat} {x : MV}, xs[i]? = some x → ∃ v, vs[i]? = some v ∧ VR x v
  | x :: xs, v :: vs, h, 0, y, e => by
    simp at e; subst e; exact ⟨v, rfl, h.1⟩
  | x :: xs, v :: vs, h, i + 1, y, e => by
    simp at e; obtain ⟨u, hu, hr⟩ := VRs.get h.2 e; exact ⟨u, by simpa using hu, hr⟩
  | [], [], _, i, _, e => by simp at e
  | [], _ :: _, h, _, _, _ => h.elim
  | _ :: _, [], h, _, _, _ => h.elim
theorem VRs.append : ∀ {xs : List MV} {vs : List Value}, VRs xs vs → ∀ {ys : List MV} {us : List Value}, VRs ys us → VRs (xs ++ ys) (vs ++ us)
  | [], [], _, _, _, h' => h'
  | _ :: _, _ :: _, h, _, _, h' => ⟨h.1, VRs.append h.2 h'⟩
  | [], _ :: _, h, _, _, _ => h.elim
  | _ :: _, [], h, _, _, _ => h.elim
theorem VRs.set : ∀ {xs : List MV} {vs : List Value}, VRs xs vs → ∀ (i : Nat) {y : MV} {u : Value}, VR y u → VRs (xs.set i y) (vs.set i u)
  | [], [], _, _, _, _, _ => trivial
  | _ :: _, _ :: _, h, 0, _, _, h' => ⟨h', h.2⟩
  | _ :: _, _ :: _, h, i + 1, _, _, h' => ⟨h.1, VRs.set h.2 i h'⟩
  | [], _ :: _, h, _, _, _, _ => h.elim
  | _ :: _, [], h, _, _, _, _ => h.elim
theorem VRs.dropLast : ∀ {xs : List MV} {vs : List Value}, VRs xs vs → VRs xs.dropLast vs.dropLast
  | [], [], _ => trivial
  | [_], [_], _ => trivial
  | _ :: _ :: _, _ :: _ :: _, h => ⟨h.1, VRs.dropLast h.2⟩
  | [_], _ :: _ :: _, h => h.2.elim
  | _ :: _ :: _, [_], h => h.2.elim
  | [], _ :: _, h => h.elim
  | _ :: _, [], h => h.elim

inductive MO where
  | list (xs : List MV)
  | tuple (xs : List MV)
  | cell (x : MV)
  | obj (C d : Addr) (sl : List MV)
  | attrs (fs : List (Str × MV))
  | idict (ep : Nat) (es : List (Int × MV))
  | iset (S : Int → Bool) (n : Nat)
  | liter (l : Addr) (i : Nat)
  | raw (o : Obj)
  | slots (o : Obj)

noncomputable def ARs : List (Str × MV) → List DictEntry → Prop
  | [], [] => True
  | p :: ps, e :: es => (∃ t, e.key = .str p.1 t) ∧ VR p.2 e.val ∧ ARs ps es
  | _, _ => False

noncomputable def PRs : List (Int × MV) → List (Int × Value) → Prop
  | [], [] => True
  | p :: ps, q :: qs => p.1 = q.1 ∧ VR p.2 q.2 ∧ PRs ps qs
  | _, _ => False

noncomputable def SRs : List MV → List (Option Value) → Prop
  | [], [] => True
  | x :: xs, o :: os => LR x o ∧ SRs xs os
  | _, _ => False

noncomputable def OA (w : World) : MO → Obj → Prop
  | .list xs, o => ∃ vs n, o = { cls := .type "list", data := .seq (List.toArray vs) n } ∧ VRs xs vs
  | .tuple xs, o => ∃ vs n, o = { cls := .type "tuple", data := .seq (List.toArray vs) n } ∧ VRs xs vs
  | .cell x, o => ∃ ov, o.data = .cell ov ∧ LR x ov
  | .obj C d sl, o => ∃ ss : List (Option Value), o = ⟨.ref C, some d, .plain, ss.toArray⟩ ∧ SRs sl ss
  | .attrs fs, o => ∃ es n, o = dictOf es n ∧ ARs fs es
  | .idict ep es, o => ∃ kvs en, o.ExactDict ∧ o.data = .dict en ep ∧ KeysOf (intKind PR w) en ∧ Pairs (intKind PR w) en.toList kvs ∧ (kvs.map (·.1)).Nodup ∧ PRs es kvs
  | .iset S n, o => ∃ es ep t, o.ExactSet ∧ o.data = .set es ep t ∧ ElemsOf (intKind PR w) es.toList ∧ (∀ k, S k = true ↔ ∃ e ∈ es.toList, (intKind PR w).is k e.2 = true)
      ∧ es.size < scanBound ∧ t.fits es.size = true ∧ es.size = n
  | .liter l i, o => o.cls = .type "list_iterator" ∧ o.data = .fields #[.ref l, .int i 0]
  | .raw o', o => o = o'
  | .slots o', o => ∃ sl, o = { o' with slots := sl }

abbrev Rho := List (Str × MV)
abbrev Mu := List (Addr × MO)

structure Gl (w : World) where
  hb : Heap
  mg : Str → Option Value
  mb : Str → Option Value
  mean : ExcName → Option Value
  k : (KK w.params).In hb
  t : Top VW LS mean mg mb hb

inductive Has (w : World) (h : Heap) (a : Addr) (o : MO) : Prop
  | mk (x : Obj) (get : h.get? a = some x) (oa : OA w o x)
structure Ob (w : World) (B : Addr → Option Obj) (L : Addr) (h : Heap) (p : Addr × MO) : Prop where
  b : B p.1 = none
  l : p.1 ≠ L
  ex : Has w h p.1 p.2
inductive Nm (h : Heap) (L : Addr) (ρ : Rho) : Prop
  | mk (m : Str → Option Value) (hn : h.Ns L m) (hm : ∀ p ∈ ρ, LR p.2 (m p.1))
structure St {w : World} (G : Gl w) (s₀ : Shared) (B : Addr → Option Obj) (L : Addr) (ρ : Rho) (μ : Mu) (s : Shared) : Prop where
  same : ∃ h tk, s = { s₀ with heap := h, toks := tk }
  low : ∀ b o, G.hb.get? b = some o → B b = some o
  above : G.hb.objs.size ≤ L
  keep : ∀ b o, B b = some o → s.heap.get? b = some o
  bl : B L = none
  ns : Nm s.heap L ρ
  nr : (ρ.map (·.1)).Nodup
  nm : (μ.map (·.1)).Nodup
  hi : ∀ a ∈ μ.map (·.1), G.hb.objs.size ≤ a
  ob : ∀ p ∈ μ, Ob w B L s.heap p

section
variable {w : World} {G : Gl w} {s₀ : Shared} {B : Addr → Option Obj} {L : Addr} {ρ : Rho} {μ : Mu} {s : Shared}

theorem St.base (h : St G s₀ B L ρ μ s) : ∀ b o, G.hb.get? b = some o → s.heap.get? b = some o := fun b o e => h.keep b o (h.low b o e)
theorem St.K (h : St G s₀ B L ρ μ s) : (KK w.params).In s.heap := G.k.keeps h.base
theorem St.T (h : St G s₀ B L ρ μ s) : Top VW LS G.mean G.mg G.mb s.heap := G.t.keeps h.base
theorem St.get (h : St G s₀ B L ρ μ s) {a : Addr} {o : MO} (hm : (a, o) ∈ μ) : Has w s.heap a o := (h.ob _ hm).ex
theorem St.toks (h : St G s₀ B L ρ μ s) (tk : Nat) : St G s₀ B L ρ μ { s with toks := tk } :=
  { h with same := let ⟨h', _, e⟩ := h.same; ⟨h', tk, by rw [e]⟩ }
theorem St.sub {μ' : Mu} (h : St G s₀ B L ρ μ s) (hs : μ'.Sublist μ) : St G s₀ B L ρ μ' s :=
  { h with nm := (hs.map _).nodup h.nm, hi := fun a ha => h.hi a ((hs.map _).subset ha), ob := fun p hp => h.ob p (hs.subset hp) }

inductive SetAt (a : Addr) (o : MO) : Mu → Mu → Prop
  | head {o₀ r} : SetAt a o ((a, o₀) :: r) ((a, o) :: r)
  | tail {p r r'} : SetAt a o r r' → SetAt a o (p :: r) (p :: r')
theorem SetAt.keys {a : Addr} {o : MO} : ∀ {μ μ' : Mu}, SetAt a o μ μ' → μ'.map (·.1) = μ.map (·.1)
  | _, _, .head => rfl
  | _, _, .tail h => by simp [h.keys]
theorem SetAt.has {a : Addr} {o : MO} : ∀ {μ μ' : Mu}, SetAt a o μ μ' → a ∈ μ.map (·.1)
  | _, _, .head => .head _
  | _, _, .tail h => .tail _ h.has
theorem SetAt.mem {a : Addr} {o : MO} : ∀ {μ μ' : Mu}, SetAt a o μ μ' → (μ.map (·.1)).Nodup → ∀ p ∈ μ', p = (a, o) ∨ (p ∈ μ ∧ p.1 ≠ a)
  | _, _, .head (o₀ := o₀) (r := r), hn, p, hp => by
    rcases List.mem_cons.mp hp with rfl | hp
    · exact .inl rfl
    · refine .inr ⟨.tail _ hp, fun e => ?_⟩
      have := (List.nodup_cons.mp hn).1
      exact this (by have h1 := List.mem_map_of_mem (f := Prod.fst) hp; rw [e] at h1; exact h1)
  | _, _, .tail (p := q) h, hn, p, hp => by
    rcases List.mem_cons.mp hp with rfl | hp
    · refine .inr ⟨.head _, fun e => ?_⟩
      have h1 := (List.nodup_cons.mp hn).1
      have h2 := h.has
      rw [← e] at h2
      exact h1 h2
    · rcases h.mem (List.nodup_cons.mp hn).2 p hp with h1 | ⟨h1, h2⟩
      · exact .inl h1
      · exact .inr ⟨.tail _ h1, h2⟩

theorem St.fresh (h : St G s₀ B L ρ μ s) {a : Addr} (ha : s.heap.get? a = none) : B a = none ∧ a ≠ L ∧ a ∉ μ.map (·.1) := by
  refine ⟨?_, ?_, ?_⟩
  · cases e : B a with
    | none => rfl
    | some o => rw [h.keep a o e] at ha; cases ha
  · rintro rfl
    obtain ⟨m, ⟨o, _, _, ho, _⟩, _⟩ := h.ns
    rw [ho] at ha; cases ha
  · intro hm
    obtain ⟨p, hp, rfl⟩ := List.mem_map.mp hm
    obtain ⟨_, _, o, ho, _⟩ := h.ob p hp
    rw [ho] at ha; cases ha

theorem St.size (h : St G s₀ B L ρ μ s) : G.hb.objs.size ≤ s.heap.objs.size := by
  obtain ⟨m, hn, _⟩ := h.ns
  exact Nat.le_trans h.above (Nat.le_of_lt hn.lt)
theorem St.set {μ' : Mu} {a : Addr} {o : MO} {h' : Heap} {tk : Nat} (h : St G s₀ B L ρ μ s) (hu : SetAt a o μ μ') (hs : Heap.SameBut a s.heap h')
    (ho : Has w h' a o) : St G s₀ B L ρ μ' { s with heap := h', toks := tk } := by
  have ha : a ∈ μ.map (·.1) := hu.has
  obtain ⟨p, hp, rfl⟩ := List.mem_map.mp ha
  obtain ⟨hb, hl, _⟩ := h.ob p hp
  refine ⟨let ⟨_, _, e⟩ := h.same; ⟨h', tk, by rw [e]⟩, h.low, h.above, fun b o e => ?_, h.bl, ?_, h.nr, by rw [hu.keys]; exact h.nm, by rw [hu.keys]; exact h.hi, fun q hq => ?_⟩
  · have : b ≠ p.1 := by rintro rfl; rw [hb] at e; cases e
    exact (hs.2 b this).trans (h.keep b o e)
  · obtain ⟨m, hn, hm⟩ := h.ns
    exact ⟨m, hn.sameBut hs (Ne.symm hl), hm⟩
  · rcases hu.mem h.nm q hq with rfl | ⟨h1, h2⟩
    · exact ⟨hb, hl, ho⟩
    · obtain ⟨a1, a2, x, a3, a4⟩ := h.ob q h1
      exact ⟨a1, a2, x, (hs.2 _ h2).trans a3, a4⟩

theorem St.new {a : Addr} {o : MO} {h' : Heap} {tk : Nat} (h : St G s₀ B L ρ μ s) (ha : s.heap.get? a = none) (hge : s.heap.objs.size ≤ a) (hk : ∀ b x, s.heap.get? b = some x → h'.get? b = some x)
    (ho : Has w h' a o) : St G s₀ B L ρ ((a, o) :: μ) { s with heap := h', toks := tk } := by
  obtain ⟨f1, f2, f3⟩ := h.fresh ha
  refine ⟨let ⟨_, _, e⟩ := h.same; ⟨h', tk, by rw [e]⟩, h.low, h.above, fun b o e => hk b o (h.keep b o e), h.bl, ?_, h.nr, List.nodup_cons.mpr ⟨f3, h.nm⟩, fun b hb => (by
    rcases List.mem_cons.mp hb with rfl | hb
    · exact Nat.le_trans h.size hge
    · exact h.hi b hb), fun q hq => ?_⟩
  · obtain ⟨m, hn, hm⟩ := h.ns
    exact ⟨m, hn.keeps hk, hm⟩
  · rcases List.mem_cons.mp hq with rfl | hq
    · exact ⟨f1, f2, ho⟩
    · obtain ⟨a1, a2, x, a3, a4⟩ := h.ob q hq
      exact ⟨a1, a2, x, hk _ _ a3, a4⟩
theorem St.grow {h' : Heap} {tk : Nat} (h : St G s₀ B L ρ μ s) (hk : ∀ b x, s.heap.get? b = some x → h'.get? b = some x) : St G s₀ B L ρ μ { s with heap := h', toks := tk } :=
  ⟨let ⟨_, _, e⟩ := h.same; ⟨h', tk, by rw [e]⟩, h.low, h.above, fun b o e => hk b o (h.keep b o e), h.bl, let ⟨m, hn, hm⟩ := h.ns; ⟨m, hn.keeps hk, hm⟩, h.nr, h.nm, h.hi,
    fun q hq => let ⟨a1, a2, x, a3, a4⟩ := h.ob q hq; ⟨a1, a2, x, hk _ _ a3, a4⟩⟩
theorem get?_size (h : Heap) : h.get? h.objs.size = none := by
  cases e : h.get? h.objs.size with
  | none => rfl
  | some o => exact absurd (Heap.lt_size e) (Nat.lt_irrefl _)
theorem St.push {o : MO} {x : Obj} {tk : Nat} (h : St G s₀ B L ρ μ s) (ho : OA w o x) (hf : x.isFreed = false) :
    St G s₀ B L ρ ((s.heap.objs.size, o) :: μ) { s with heap := s.heap.push x, toks := tk } :=
  h.new (get?_size _) (Nat.le_refl _) (fun _ _ e => Heap.get?_push_of_some _ e) ⟨x, Heap.get?_push_size _ hf, ho⟩

inductive PutAt (x : Str) (v : MV) : Rho → Rho → Prop
  | head {u r} : PutAt x v ((x, u) :: r) ((x, v) :: r)
  | tail {p r r'} : PutAt x v r r' → PutAt x v (p :: r) (p :: r')
theorem PutAt.keys {x : Str} {v : MV} : ∀ {ρ ρ' : Rho}, PutAt x v ρ ρ' → ρ'.map (·.1) = ρ.map (·.1)
  | _, _, .head => rfl
  | _, _, .tail h => by simp [h.keys]
theorem PutAt.has {x : Str} {v : MV} : ∀ {ρ ρ' : Rho}, PutAt x v ρ ρ' → x ∈ ρ.map (·.1)
  | _, _, .head => .head _
  | _, _, .tail h => .tail _ h.has
theorem PutAt.mem {x : Str} {v : MV} : ∀ {ρ ρ' : Rho}, PutAt x v ρ ρ' → (ρ.map (·.1)).Nodup → ∀ p ∈ ρ', p = (x, v) ∨ (p ∈ ρ ∧ p.1 ≠ x)
  | _, _, .head, hn, p, hp => by
    rcases List.mem_cons.mp hp with rfl | hp
    · exact .inl rfl
    · refine .inr ⟨.tail _ hp, fun e => ?_⟩
      have := (List.nodup_cons.mp hn).1
      exact this (by have h1 := List.mem_map_of_mem (f := Prod.fst) hp; rw [e] at h1; exact h1)
  | _, _, .tail (p := q) h, hn, p, hp => by
    rcases List.mem_cons.mp hp with rfl | hp
    · refine .inr ⟨.head _, fun e => ?_⟩
      have h1 := (List.nodup_cons.mp hn).1
      have h2 := h.has
      rw [← e] at h2
      exact h1 h2
    · rcases h.mem (List.nodup_cons.mp hn).2 p hp with h1 | ⟨h1, h2⟩
      · exact .inl h1
      · exact .inr ⟨.tail _ h1, h2⟩

theorem VR.defd {x : MV} {v : Value} (h : VR x v) : x ≠ .undef := by rintro rfl; exact h
theorem LR.some {x : MV} {v : Value} (h : VR x v) : LR x (some v) := .inr ⟨v, rfl, h⟩

theorem St.put {ρ' : Rho} {x : Str} {mv : MV} {v : Value} {h' : Heap} {tk : Nat} {m : Str → Option Value} (h : St G s₀ B L ρ μ s) (hp : PutAt x mv ρ ρ') (hv : VR mv v)
    (hm : ∀ p ∈ ρ, LR p.2 (m p.1)) (hn : h'.Ns L (fun y => if y = x then some v else m y)) (hs : Heap.SameBut L s.heap h') : St G s₀ B L ρ' μ { s with heap := h', toks := tk } := by
  refine ⟨let ⟨_, _, e⟩ := h.same; ⟨h', tk, by rw [e]⟩, h.low, h.above, fun b o e => ?_, h.bl, ⟨_, hn, fun p hq => ?_⟩, by rw [hp.keys]; exact h.nr, h.nm, h.hi, fun q hq => ?_⟩
  · have : b ≠ L := by rintro rfl; rw [h.bl] at e; cases e
    exact (hs.2 b this).trans (h.keep b o e)
  · rcases hp.mem h.nr p hq with rfl | ⟨h1, h2⟩
    · simp only [if_true]; exact .some hv
    · simp only [h2, if_false]; exact hm p h1
  · obtain ⟨a1, a2, x, a3, a4⟩ := h.ob q hq
    exact ⟨a1, a2, x, (hs.2 _ a2).trans a3, a4⟩
end

inductive MF where
  | next | brk | cont
  | ret (x : MV)
noncomputable def FR : MF → Flow → Prop
  | .next, f => f = .next
  | .brk, f => f = .brk
  | .cont, f => f = .cont
  | .ret x, f => ∃ v, f = .ret v ∧ VR x v
noncomputable def UR (_ _ : Unit) : Prop := True

inductive Post {w : World} (G : Gl w) {α β : Type} (s₀ : Shared) (B : Addr → Option Obj) (L : Addr) (R : β → α → Prop) (P : β → Rho → Mu → Prop) (v : α) (s' : Shared) : Prop
  | mk (x : β) (ρ' : Rho) (μ' : Mu) (hr : R x v) (hs : St G s₀ B L ρ' μ' s') (hp : P x ρ' μ')
inductive PostC {w : World} (G : Gl w) (s₀ : Shared) (B : Addr → Option Obj) (L : Addr) (ρ : Rho) (P : MV → Mu → Prop) (v : Value) (s' : Shared) : Prop
  | mk (x : MV) (μ' : Mu) (hr : VR x v) (hs : St G s₀ B L ρ μ' s') (hp : P x μ')
inductive PostU {w : World} (G : Gl w) (s₀ : Shared) (B : Addr → Option Obj) (L : Addr) (ρ : Rho) (P : Mu → Prop) (v : Unit) (s' : Shared) : Prop
  | mk (μ' : Mu) (hs : St G s₀ B L ρ μ' s') (hp : P μ')
noncomputable def NoE (_ : Value) (_ : Shared) : Prop := False
inductive AsB (P : Bool → Rho → Mu → Prop) (z : MV) (ρ : Rho) (μ : Mu) : Prop
  | mk (c : Bool) (e : z = .bool c) (h : P c ρ μ)
theorem asb {P : Bool → Rho → Mu → Prop} {c : Bool} {ρ : Rho} {μ : Mu} (h : P c ρ μ) : AsB P (.bool c) ρ μ := ⟨c, rfl, h⟩
noncomputable def Tg {w : World} (G : Gl w) {α β : Type} (R : β → α → Prop) (A : Around) (L : Addr) (t : Sem α) (P : β → Rho → Mu → Prop) (ρ : Rho) (μ : Mu) : Prop :=
  ∀ s₀ B s, St G s₀ B L ρ μ s → wpAny (model PR w) A t (Post G s₀ B L R P) NoE s
abbrev T {w : World} (G : Gl w) (A : Around) (L : Addr) := Tg G (α := Value) VR A L
abbrev Tb {w : World} (G : Gl w) (A : Around) (L : Addr) := Tg G (α := Bool) Eq A L
abbrev Tu {w : World} (G : Gl w) (A : Around) (L : Addr) := Tg G (α := Unit) UR A L
abbrev X {w : World} (G : Gl w) (A : Around) (L : Addr) := Tg G (α := Flow) FR A L

section
variable {w : World} {G : Gl w} {A : Around} {L : Addr} {env : Env} {ρ ρ' : Rho} {μ μ' : Mu}

theorem Tg.use {α β : Type} {R : β → α → Prop} {t : Sem α} {P : β → Rho → Mu → Prop} {s₀ : Shared} {B : Addr → Option Obj} {s : Shared} {Q : α → Shared → Prop} {E : Value → Shared → Prop}
    (h : Tg G R A L t P ρ μ) (hs : St G s₀ B L ρ μ s) (k : ∀ x v ρ' μ' s', R x v → St G s₀ B L ρ' μ' s' → P x ρ' μ' → Q v s') : wpAny (model PR w) A t Q E s :=
  wpAny_mono (h s₀ B s hs) (fun _ _ q => by cases q with | mk x ρ' μ' hr hs' hp => exact k _ _ _ _ _ hr hs' hp) fun _ _ f => f.elim
theorem Tg.mono {α β : Type} {R : β → α → Prop} {t : Sem α} {P P' : β → Rho → Mu → Prop} (h : Tg G R A L t P ρ μ) (k : ∀ x ρ μ, P x ρ μ → P' x ρ μ) : Tg G R A L t P' ρ μ :=
  fun _ _ _ hs => h.use hs fun x _ ρ' μ' _ hr hs' hp => ⟨x, ρ', μ', hr, hs', k _ _ _ hp⟩
theorem Tg.less {α β : Type} {R : β → α → Prop} {t : Sem α} {P : β → Rho → Mu → Prop} (hs : List.Sublist μ' μ) (h : Tg G R A L t P ρ μ') : Tg G R A L t P ρ μ :=
  fun s₀ B s hst => h s₀ B s (hst.sub hs)

theorem vi {i : Int} {t : Tok} : VR (.int i) (.int i t) := ⟨t, rfl⟩
theorem vs {x : Str} {t : Tok} : VR (.str x) (.str x t) := ⟨t, rfl⟩
theorem vn : VR .none .none := rfl
theorem vb {b : Bool} : VR (.bool b) (.bool b) := rfl
theorem vr {a : Addr} : VR (.ref a) (.ref a) := rfl
theorem vc {v : Value} : VR (.con v) v := rfl
theorem e_int {i : Int} {k : Nat} {pos : Pos} {P : MV → Rho → Mu → Prop} (h : P (.int i) ρ μ) : T G A L (eval (.Constant (.int i) k pos) env) P ρ μ :=
  fun _ _ s hs => wpAny_Constant_int ⟨_, _, _, vi, hs.toks _, h⟩
theorem e_none {k : Nat} {pos : Pos} {P : MV → Rho → Mu → Prop} (h : P .none ρ μ) : T G A L (eval (.Constant .none k pos) env) P ρ μ :=
  fun _ _ s hs => Constant_none ⟨_, _, _, vn, hs, h⟩
theorem e_bool {b : Bool} {k : Nat} {pos : Pos} {P : MV → Rho → Mu → Prop} (h : P (.bool b) ρ μ) : T G A L (eval (.Constant (.bool b) k pos) env) P ρ μ :=
  fun _ _ s hs => Constant_bool ⟨_, _, _, vb, hs, h⟩

noncomputable def funOk (env : Env) : Bool := decide (env.scope.kind = .function)
noncomputable def kindOk (env : Env) (x : Str) (k : NameKind) : Bool := decide (env.scope.kind = .function) && (decide (env.kindOf x = some k) && !(x == ("__debug__" : Str)))
noncomputable def globOk (env : Env) (x : Str) : Bool := kindOk env x .globalImplicit && (decide (env.globals = mainGlobals) && decide (env.builtins = builtinsNs))
abbrev KindOk (env : Env) (x : Str) (k : NameKind) : Prop := kindOk env x k = true
abbrev GlobOk (env : Env) (x : Str) : Prop := globOk env x = true
theorem KindOk.k {env : Env} {x : Str} {k : NameKind} (h : KindOk env x k) : env.scope.kind = .function := of_decide_eq_true (Bool.and_eq_true_iff.mp h).1
theorem KindOk.l {env : Env} {x : Str} {k : NameKind} (h : KindOk env x k) : env.kindOf x = some k := of_decide_eq_true (Bool.and_eq_true_iff.mp (Bool.and_eq_true_iff.mp h).2).1
theorem KindOk.d {env : Env} {x : Str} {k : NameKind} (h : KindOk env x k) : (x == ("__debug__" : Str)) = false := Bool.not_eq_true' _ |>.mp (Bool.and_eq_true_iff.mp (Bool.and_eq_true_iff.mp h).2).2
theorem GlobOk.k {env : Env} {x : Str} (h : GlobOk env x) : KindOk env x .globalImplicit := (Bool.and_eq_true_iff.mp h).1
theorem GlobOk.g {env : Env} {x : Str} (h : GlobOk env x) : env.globals = mainGlobals := of_decide_eq_true (Bool.and_eq_true_iff.mp (Bool.and_eq_true_iff.mp h).2).1
theorem GlobOk.b {env : Env} {x : Str} (h : GlobOk env x) : env.builtins = builtinsNs := of_decide_eq_true (Bool.and_eq_true_iff.mp (Bool.and_eq_true_iff.mp h).2).2
theorem e_name {x : Str} {pos : Pos} {v : MV} {P : MV → Rho → Mu → Prop} (hm : (x, v) ∈ ρ) (h : P v ρ μ) (hv : v ≠ .undef := by exact nofun) (hk : KindOk env x .local := by kernel_rfl) : T G A env.locals (eval (.Name x pos) env) P ρ μ := fun _ _ s hs => by
  cases hs.ns with | mk m hn hr =>
  rcases hr _ hm with e | ⟨v', e, hv'⟩
  · exact absurd e hv
  · exact wpAny_Name (wpAny_loadName_local hk.k hk.l hn e ⟨_, _, _, hv', hs, h⟩) hk.d
theorem e_cell {x : Str} {pos : Pos} {c : Addr} {v : MV} {P : MV → Rho → Mu → Prop} (hc : env.cells.lookup x = some c) (hm : (c, MO.cell v) ∈ μ) (h : P v ρ μ) (hv : v ≠ .undef := by exact nofun) (hk : KindOk env x .cell := by kernel_rfl) : T G A L (eval (.Name x pos) env) P ρ μ := fun _ _ s hs => by
  obtain ⟨o, ho, ov, hov, hlr⟩ := hs.get hm
  rcases hlr with e | ⟨v', e, hv'⟩
  · exact absurd e hv
  · exact wpAny_Name (wpAny_loadName_cell hk.k hk.l hc ⟨o, ho, by rw [hov, e]⟩ ⟨_, _, _, hv', hs, h⟩) hk.d
theorem e_glob {x : Str} {pos : Pos} {v : Value} {mv : MV} {P : MV → Rho → Mu → Prop} (e : nsIn (KK w.params) mainGlobals x = some (some v)) (hv : VR mv v) (h : P mv ρ μ) (hk : GlobOk env x := by kernel_rfl) : T G A L (eval (.Name x pos) env) P ρ μ := fun _ _ s hs =>
  Calls.Name_function_global hk.k.k hk.k.l (Calls.loadGlobal_global (env := env) (by rw [hk.g]; exact G.t.g.keeps hs.base) (mg_of G.k G.t.g e) ⟨_, _, _, hv, hs, h⟩) hk.k.d
theorem e_builtin {x : Str} {pos : Pos} {v : Value} {mv : MV} {P : MV → Rho → Mu → Prop} (e : nsIn (KK w.params) mainGlobals x = some none) (hb : bootBuiltins x = some v) (hn : x ≠ "__name__") (hv : VR mv v) (h : P mv ρ μ)
    (hk : GlobOk env x := by kernel_rfl) : T G A L (eval (.Name x pos) env) P ρ μ := fun _ _ s hs =>
  Calls.Name_function_global hk.k.k hk.k.l (Calls.loadGlobal_builtin (env := env) (by rw [hk.g]; exact G.t.g.keeps hs.base) (mg_none_of G.k G.t.g e) (by rw [hk.b]; exact G.t.b.keeps hs.base) ((G.t.builtins x hn).trans hb) ⟨_, _, _, hv, hs, h⟩) hk.k.d

theorem e_binop {l r : Expr} {op : Operator} {pos : Pos} {P : MV → Rho → Mu → Prop}
    (h : T G A L (eval l env) (fun x ρ μ => T G A L (eval r env) (fun y ρ μ => ∀ a b, VR x a → VR y b → T G A L (binaryOp op a b) P ρ μ) ρ μ) ρ μ) : T G A L (eval (.BinOp l op r pos) env) P ρ μ := fun s₀ B s hs =>
  wpAny_BinOp (h.use hs fun _ a _ _ _ hx hs₁ h₁ => h₁.use hs₁ fun _ b _ _ s₂ hy hs₂ h₂ => h₂ a b hx hy s₀ B s₂ hs₂)
theorem e_unop {x : Expr} {op : UnaryOp} {pos : Pos} {P : MV → Rho → Mu → Prop}
    (h : T G A L (eval x env) (fun x ρ μ => ∀ a, VR x a → T G A L (unaryOp op a) P ρ μ) ρ μ) : T G A L (eval (.UnaryOp op x pos) env) P ρ μ := fun s₀ B s hs =>
  wpAny_UnaryOp (h.use hs fun _ a _ _ s₁ hx hs₁ h₁ => h₁ a hx s₀ B s₁ hs₁)
theorem e_cmp {l r : Expr} {op : CmpOp} {pos : Pos} {P : MV → Rho → Mu → Prop}
    (h : T G A L (eval l env) (fun x ρ μ => T G A L (eval r env) (fun y ρ μ => ∀ a b, VR x a → VR y b → T G A L (compareOp op a b) P ρ μ) ρ μ) ρ μ)
    (hm : behindInMarks op r = false := by with_unfolding_all rfl) : T G A L (eval (.Compare l [op] [r] pos) env) P ρ μ := fun s₀ B s hs =>
  wpAny_Compare1 (h.use hs fun _ a _ _ _ hx hs₁ h₁ => h₁.use hs₁ fun _ b _ _ s₂ hy hs₂ h₂ => h₂ a b hx hy s₀ B s₂ hs₂) hm
theorem b_cmp {l r : Expr} {op : CmpOp} {pos : Pos} {whole : Sem Value} {P : Bool → Rho → Mu → Prop}
    (h : T G A L (eval l env) (fun x ρ μ => T G A L (eval r env) (fun y ρ μ => ∀ a b, VR x a → VR y b → T G A L (compareOp op a b) (AsB P) ρ μ) ρ μ) ρ μ)
    (hm : behindInMarks op r = false := by with_unfolding_all rfl) : Tb G A L (isTrue (.Compare l [op] [r] pos) env whole) P ρ μ := fun s₀ B s hs =>
  wpAny_isTrue_Compare1 (h.use hs fun _ a _ _ _ hx hs₁ h₁ => h₁.use hs₁ fun _ b _ _ s₂ hy hs₂ h₂ => (h₂ a b hx hy).use hs₂ fun z c _ _ s₃ hz hs₃ ⟨d, e, hp⟩ => by
    subst e; cases hz; exact wpAny_truthy_bool ⟨_, _, _, rfl, hs₃, hp⟩) hm
theorem b_not {x : Expr} {pos : Pos} {whole : Sem Value} {P : Bool → Rho → Mu → Prop} (h : Tb G A L (isTrue x env (eval x env)) (fun b ρ μ => P (!b) ρ μ) ρ μ) : Tb G A L (isTrue (.UnaryOp .Not x pos) env whole) P ρ μ := fun s₀ B s hs =>
  wpAny_isTrue_Not (h.use hs fun _ _ _ _ _ hx hs₁ h₁ => by cases hx; exact ⟨_, _, _, rfl, hs₁, h₁⟩)
theorem b_value {e : Expr} {whole : Sem Value} {P : Bool → Rho → Mu → Prop} (h : T G A L whole (fun x ρ μ => ∀ a, VR x a → Tb G A L (truthy a) P ρ μ) ρ μ)
    (he : isTrue e env whole = (do let v ← whole; standAt e.pos; holding [v] (truthy v)) := by k_dflt rfl) : Tb G A L (isTrue e env whole) P ρ μ := fun s₀ B s hs =>
  wpAny_isTrue_value (h.use hs fun _ a _ _ s₁ hx hs₁ h₁ => h₁ a hx s₀ B s₁ hs₁) he
theorem b_name {x : Str} {p : Pos} {whole : Sem Value} {P : Bool → Rho → Mu → Prop} (h : T G A L whole (fun x ρ μ => ∀ a, VR x a → Tb G A L (truthy a) P ρ μ) ρ μ) : Tb G A L (isTrue (.Name x p) env whole) P ρ μ := b_value h
theorem b_attr {o : Expr} {x : Str} {p : Pos} {whole : Sem Value} {P : Bool → Rho → Mu → Prop} (h : T G A L whole (fun x ρ μ => ∀ a, VR x a → Tb G A L (truthy a) P ρ μ) ρ μ) : Tb G A L (isTrue (.Attribute o x p) env whole) P ρ μ := b_value h
theorem b_and {x y : Expr} {pos : Pos} {whole : Sem Value} {P : Bool → Rho → Mu → Prop}
    (h : Tb G A L (isTrue x env (eval x env)) (fun b ρ μ => if b then Tb G A L (isTrue y env (eval y env)) P ρ μ else P false ρ μ) ρ μ) : Tb G A L (isTrue (.BoolOp .And [x, y] pos) env whole) P ρ μ := fun s₀ B s hs =>
  wpAny_isTrue_BoolOp (wpAny_allTrue_And_cons (h.use hs fun b c _ _ s₁ hx hs₁ h₁ => by
    cases hx
    cases b with
    | false => exact ⟨_, _, _, rfl, hs₁, h₁⟩
    | true => exact wpAny_allTrue_And_cons (Tg.use h₁ hs₁ fun b c _ _ s₁ hx hs₁ h₁ => by
        cases hx
        cases b with
        | false => exact ⟨_, _, _, rfl, hs₁, h₁⟩
        | true => exact wpAny_allTrue_And_nil ⟨_, _, _, rfl, hs₁, h₁⟩)))
theorem b_or {x y : Expr} {pos : Pos} {whole : Sem Value} {P : Bool → Rho → Mu → Prop}
    (h : Tb G A L (isTrue x env (eval x env)) (fun b ρ μ => if b then P true ρ μ else Tb G A L (isTrue y env (eval y env)) P ρ μ) ρ μ) : Tb G A L (isTrue (.BoolOp .Or [x, y] pos) env whole) P ρ μ := fun s₀ B s hs =>
  wpAny_isTrue_BoolOp (wpAny_allTrue_Or_cons (h.use hs fun b c _ _ s₁ hx hs₁ h₁ => by
    cases hx
    cases b with
    | true => exact ⟨_, _, _, rfl, hs₁, h₁⟩
    | false => exact wpAny_allTrue_Or_cons (Tg.use h₁ hs₁ fun b c _ _ s₁ hx hs₁ h₁ => by
        cases hx
        cases b with
        | true => exact ⟨_, _, _, rfl, hs₁, h₁⟩
        | false => exact wpAny_allTrue_Or_nil ⟨_, _, _, rfl, hs₁, h₁⟩)))
theorem e_ifexp {t b o : Expr} {pos : Pos} {P : MV → Rho → Mu → Prop}
    (h : Tb G A L (isTrue t env (eval t env)) (fun c ρ μ => if c then T G A L (eval b env) P ρ μ else T G A L (eval o env) P ρ μ) ρ μ) : T G A L (eval (.IfExp t b o pos) env) P ρ μ := fun s₀ B s hs =>
  wpAny_IfExp (h.use hs fun b c _ _ s₁ hx hs₁ h₁ => by
    cases hx
    cases b with
    | true => exact h₁ s₀ B s₁ hs₁
    | false => exact h₁ s₀ B s₁ hs₁)
theorem o_add {i j : Int} {P : MV → Rho → Mu → Prop} (h : P (.int (i + j)) ρ μ) : ∀ a b, VR (.int i) a → VR (.int j) b → T G A L (binaryOp .Add a b) P ρ μ := fun a b ha hb _ _ s hs => by
  obtain ⟨_, rfl⟩ := ha; obtain ⟨_, rfl⟩ := hb; exact add_int ⟨_, _, _, vi, hs.toks _, h⟩
theorem o_iadd {i j : Int} {P : MV → Rho → Mu → Prop} (h : P (.int (i + j)) ρ μ) : ∀ a b, VR (.int i) a → VR (.int j) b → T G A L (inplaceOp .Add a b) P ρ μ := fun a b ha hb _ _ s hs => by
  obtain ⟨_, rfl⟩ := ha; obtain ⟨_, rfl⟩ := hb; exact iadd_int ⟨_, _, _, vi, hs.toks _, h⟩
theorem o_isub {i j : Int} {P : MV → Rho → Mu → Prop} (h : P (.int (i - j)) ρ μ) : ∀ a b, VR (.int i) a → VR (.int j) b → T G A L (inplaceOp .Sub a b) P ρ μ := fun a b ha hb _ _ s hs => by
  obtain ⟨_, rfl⟩ := ha; obtain ⟨_, rfl⟩ := hb; exact isub_int ⟨_, _, _, vi, hs.toks _, h⟩
theorem o_sub {i j : Int} {P : MV → Rho → Mu → Prop} (h : P (.int (i - j)) ρ μ) : ∀ a b, VR (.int i) a → VR (.int j) b → T G A L (binaryOp .Sub a b) P ρ μ := fun a b ha hb _ _ s hs => by
  obtain ⟨_, rfl⟩ := ha; obtain ⟨_, rfl⟩ := hb; exact sub_int ⟨_, _, _, vi, hs.toks _, h⟩
theorem o_mod {i j : Int} {P : MV → Rho → Mu → Prop} (hj : j ≠ 0) (h : P (.int (i.fmod j)) ρ μ) : ∀ a b, VR (.int i) a → VR (.int j) b → T G A L (binaryOp .Mod a b) P ρ μ := fun a b ha hb _ _ s hs => by
  obtain ⟨_, rfl⟩ := ha; obtain ⟨_, rfl⟩ := hb; exact mod_int hj ⟨_, _, _, vi, hs.toks _, h⟩
theorem o_div {i j : Int} {P : MV → Rho → Mu → Prop} (hj : j ≠ 0) (hn : Builtin.divisionGoesByPylong i j = false) (h : P (.int (i.fdiv j)) ρ μ) : ∀ a b, VR (.int i) a → VR (.int j) b → T G A L (binaryOp .FloorDiv a b) P ρ μ := fun a b ha hb _ _ s hs => by
  obtain ⟨_, rfl⟩ := ha; obtain ⟨_, rfl⟩ := hb; exact floordiv_int hj ⟨_, _, _, vi, hs.toks _, h⟩ (.inl hn)
theorem o_pow {i j : Int} {P : MV → Rho → Mu → Prop} (hj : 0 ≤ j) (hs : (Builtin.Int.intBits i : Int) * j ≤ 2 ^ 27) (h : P (.int (i ^ j.toNat)) ρ μ) : ∀ a b, VR (.int i) a → VR (.int j) b → T G A L (binaryOp .Pow a b) P ρ μ := fun a b ha hb _ _ s hst => by
  obtain ⟨_, rfl⟩ := ha; obtain ⟨_, rfl⟩ := hb; exact pow_int hj hs ⟨_, _, _, vi, hst.toks _, h⟩
theorem o_shr {i j : Int} {P : MV → Rho → Mu → Prop} (hj : 0 ≤ j) (h : P (.int (i.fdiv (2 ^ j.toNat))) ρ μ) : ∀ a b, VR (.int i) a → VR (.int j) b → T G A L (binaryOp .RShift a b) P ρ μ := fun a b ha hb _ _ s hst => by
  obtain ⟨_, rfl⟩ := ha; obtain ⟨_, rfl⟩ := hb; exact rshift_int hj ⟨_, _, _, vi, hst.toks _, h⟩
theorem o_neg {i : Int} {P : MV → Rho → Mu → Prop} (h : P (.int (-i)) ρ μ) : ∀ a, VR (.int i) a → T G A L (unaryOp .USub a) P ρ μ := fun a ha _ _ s hst => by
  obtain ⟨_, rfl⟩ := ha; exact PySem.P.neg_int ⟨_, _, _, vi, hst.toks _, h⟩
theorem o_lt {i j : Int} {P : MV → Rho → Mu → Prop} (h : P (.bool (decide (i < j))) ρ μ) : ∀ a b, VR (.int i) a → VR (.int j) b → T G A L (compareOp .Lt a b) P ρ μ := fun a b ha hb _ _ s hs => by
  obtain ⟨_, rfl⟩ := ha; obtain ⟨_, rfl⟩ := hb; exact lt_int ⟨_, _, _, vb, hs, h⟩
theorem o_gt {i j : Int} {P : MV → Rho → Mu → Prop} (h : P (.bool (decide (j < i))) ρ μ) : ∀ a b, VR (.int i) a → VR (.int j) b → T G A L (compareOp .Gt a b) P ρ μ := fun a b ha hb _ _ s hs => by
  obtain ⟨_, rfl⟩ := ha; obtain ⟨_, rfl⟩ := hb; exact gt_int ⟨_, _, _, vb, hs, h⟩
theorem o_eq {i j : Int} {P : MV → Rho → Mu → Prop} (h : P (.bool (i == j)) ρ μ) : ∀ a b, VR (.int i) a → VR (.int j) b → T G A L (compareOp .Eq a b) P ρ μ := fun a b ha hb _ _ s hs => by
  obtain ⟨_, rfl⟩ := ha; obtain ⟨_, rfl⟩ := hb; exact eq_int ⟨_, _, _, vb, hs, h⟩
theorem o_ne {i j : Int} {P : MV → Rho → Mu → Prop} (h : P (.bool (i != j)) ρ μ) : ∀ a b, VR (.int i) a → VR (.int j) b → T G A L (compareOp .NotEq a b) P ρ μ := fun a b ha hb _ _ s hs => by
  obtain ⟨_, rfl⟩ := ha; obtain ⟨_, rfl⟩ := hb; exact ne_int ⟨_, _, _, vb, hs, h⟩
end

noncomputable def Bset (B : Addr → Option Obj) (a : Addr) (o : Obj) : Addr → Option Obj := fun b => if b = a then some o else B b

inductive SeqAtM (T : String) (h : Heap) (a : Addr) (xs : List MV) : Prop
  | mk (vs : List Value) (n : Nat) (ho : h.get? a = some { cls := .type T, data := .seq (List.toArray vs) n }) (hv : VRs xs vs)
section
variable {w : World} {G : Gl w} {A : Around} {L : Addr} {env : Env} {ρ ρ' : Rho} {μ μ' : Mu} {s₀ : Shared} {B : Addr → Option Obj} {s : Shared}

theorem St.hide {a : Addr} {o : Obj} {h' : Heap} {tk : Nat} (h : St G s₀ B L ρ μ s) (ha : s.heap.get? a = none) (hk : ∀ b x, s.heap.get? b = some x → h'.get? b = some x) (ho : h'.get? a = some o) :
    St G s₀ (Bset B a o) L ρ μ { s with heap := h', toks := tk } := by
  obtain ⟨f1, f2, f3⟩ := h.fresh ha
  have h' := h.grow (tk := tk) hk
  refine ⟨h'.same, fun b x e => ?_, h'.above, fun b x e => ?_, ?_, h'.ns, h'.nr, h'.nm, h'.hi, fun p hp => ?_⟩
  · have := h'.low b x e
    by_cases hb : b = a
    · subst hb; rw [f1] at this; cases this
    · simpa only [Bset, hb, if_false] using this
  · unfold Bset at e
    split at e
    · rename_i q; subst q; cases e; exact ho
    · exact h'.keep b x e
  · simp only [Bset, Ne.symm f2, if_false]; exact h'.bl
  · obtain ⟨a1, a2, a3⟩ := h'.ob p hp
    refine ⟨?_, a2, a3⟩
    have : p.1 ≠ a := fun e => f3 (by have h1 := List.mem_map_of_mem (f := Prod.fst) hp; rw [e] at h1; exact h1)
    simp only [Bset, this, if_false]; exact a1
theorem St.unhide {a : Addr} {o : Obj} {h' : Heap} {tk : Nat} (h : St G s₀ (Bset B a o) L ρ μ s) (hlow : ∀ b x, G.hb.get? b = some x → B b = some x) (hb : B a = none) (hk : Heap.ExtBut a s.heap h') : St G s₀ B L ρ μ { s with heap := h', toks := tk } := by
  have hB : ∀ b x, B b = some x → b ≠ a ∧ Bset B a o b = some x := fun b x e => by
    have : b ≠ a := by rintro rfl; rw [hb] at e; cases e
    exact ⟨this, by simp only [Bset, this, if_false]; exact e⟩
  have hL : L ≠ a := by
    rintro rfl
    have := h.bl
    simp [Bset] at this
  refine ⟨let ⟨_, _, e⟩ := h.same; ⟨h', tk, by rw [e]⟩, hlow, h.above, fun b x e => hk b x (hB b x e).1 (h.keep b x (hB b x e).2), ?_, ?_, h.nr, h.nm, h.hi, fun p hp => ?_⟩
  · have := h.bl
    simp only [Bset, hL, if_false] at this; exact this
  · obtain ⟨m, hn, hm⟩ := h.ns
    exact ⟨m, hn.extBut hk hL, hm⟩
  · obtain ⟨a1, a2, x, a3, a4⟩ := h.ob p hp
    have hpa : p.1 ≠ a := by rintro e; rw [e] at a1; simp [Bset] at a1
    simp only [Bset, hpa, if_false] at a1
    exact ⟨a1, a2, x, hk _ _ hpa a3, a4⟩
theorem St.rehide {a : Addr} {o o' : Obj} {h' : Heap} {tk : Nat} (h : St G s₀ (Bset B a o) L ρ μ s) (hlow : ∀ b x, G.hb.get? b = some x → B b = some x) (hb : B a = none) (hk : Heap.SameBut a s.heap h') (ho : h'.get? a = some o') :
    St G s₀ (Bset B a o') L ρ μ { s with heap := h', toks := tk } := by
  have h1 := h.unhide (tk := tk) hlow hb hk.extBut
  refine ⟨h1.same, fun b x e => ?_, h1.above, fun b x e => ?_, ?_, h1.ns, h1.nr, h1.nm, h1.hi, fun p hp => ?_⟩
  · have := hlow b x e
    have hba : b ≠ a := by rintro rfl; rw [hb] at this; cases this
    simp only [Bset, hba, if_false]; exact this
  · unfold Bset at e
    split at e
    · rename_i q; subst q; cases e; exact ho
    · exact h1.keep b x e
  · have := h.bl
    unfold Bset at this ⊢
    split at this
    · cases this
    · rename_i q; rw [if_neg q]; exact this
  · obtain ⟨a1, a2, a3⟩ := h1.ob p hp
    obtain ⟨b1, _⟩ := h.ob p hp
    refine ⟨?_, a2, a3⟩
    unfold Bset at b1 ⊢
    split at b1
    · cases b1
    · rename_i q; rw [if_neg q]; exact b1

structure It (G : Gl w) (A : Around) (it : Addr) (n : Nat) (V : Nat → MV) (N : Nat → Obj → Prop) (C : Mu → Prop) : Prop where
  item : ∀ i s₀ B L ρ μ s o (Q : Option Value → Shared → Prop) (E : Value → Shared → Prop), i < n → C μ → St G s₀ (Bset B it o) L ρ μ s → N i o →
    (∀ v h' tk o', VR (V i) v → h'.get? it = some o' → N (i + 1) o' → Heap.SameBut it s.heap h' → Q (some v) { s with heap := h', toks := tk }) → wpAny (model PR w) A (pyNext (.ref it)) Q E s
  done : ∀ s₀ B L ρ μ s o (Q : Option Value → Shared → Prop) (E : Value → Shared → Prop), C μ → St G s₀ (Bset B it o) L ρ μ s → N n o →
    (∀ h' tk, Heap.ExtBut it s.heap h' → Q none { s with heap := h', toks := tk }) → wpAny (model PR w) A (pyNext (.ref it)) Q E s
  self : ∀ i s₀ B L ρ μ s o (Q : Value → Shared → Prop) (E : Value → Shared → Prop), St G s₀ (Bset B it o) L ρ μ s → N i o → Q (.ref it) s → wpAny (model PR w) A (pyIter (.ref it)) Q E s
noncomputable def ItOf (G : Gl w) (A : Around) (v : MV) (n : Nat) (V : Nat → MV) (C : Mu → Prop) (μ : Mu) : Prop :=
  ∀ a, VR v a → ∀ s₀ B L ρ s, St G s₀ B L ρ μ s → ∀ (Q : Value → Shared → Prop) (E : Value → Shared → Prop),
    (∀ it h' tk o N, s.heap.get? it = none → s.heap.objs.size ≤ it → (∀ b x, s.heap.get? b = some x → h'.get? b = some x) → h'.get? it = some o → N 0 o → It G A it n V N C → Q (.ref it) { s with heap := h', toks := tk }) →
    wpAny (model PR w) A (pyIter a) Q E s

theorem St.hidden {a : Addr} {o : Obj} (h : St G s₀ (Bset B a o) L ρ μ s) : s.heap.get? a = some o := h.keep a o (by simp [Bset])
theorem St.list {a : Addr} {xs : List MV} (h : St G s₀ B L ρ μ s) (hm : (a, MO.list xs) ∈ μ) : SeqAtM "list" s.heap a xs := by
  obtain ⟨_, ho, vs, n, rfl, hv⟩ := h.get hm
  exact ⟨vs, n, ho, hv⟩
theorem St.tuple {a : Addr} {xs : List MV} (h : St G s₀ B L ρ μ s) (hm : (a, MO.tuple xs) ∈ μ) : SeqAtM "tuple" s.heap a xs := by
  obtain ⟨_, ho, vs, n, rfl, hv⟩ := h.get hm
  exact ⟨vs, n, ho, hv⟩
theorem isList_of {h : Heap} {a : Addr} {vs : List Value} {n : Nat} (e : h.get? a = some { cls := .type "list", data := .seq (List.toArray vs) n }) : h.IsList a vs.toArray := ⟨_, e, rfl, n, rfl⟩
theorem isTuple_of {h : Heap} {a : Addr} {vs : List Value} {n : Nat} (e : h.get? a = some { cls := .type "tuple", data := .seq (List.toArray vs) n }) : h.IsTuple a vs.toArray := ⟨_, e, rfl, n, rfl⟩

noncomputable def listV (xs : List MV) (i : Nat) : MV := xs.getD i .undef
theorem listV_get {xs : List MV} {i : Nat} (h : i < xs.length) : xs[i]? = some (listV xs i) := by simp [listV, h]

theorem itOf_list {a : Addr} {xs : List MV} (hh : A.handled = none) (hm : (a, MO.list xs) ∈ μ) : ItOf G A (.ref a) xs.length (listV xs) (fun μ => (a, MO.list xs) ∈ μ) μ := by
  rintro _ rfl s₀ B L ρ s hs Q E k
  obtain ⟨vs, n, ho, hv⟩ := hs.list hm
  refine wpAny_pyIter_list (isList_of ho) (k _ _ s.toks _ (fun i o => o.cls = .type "list_iterator" ∧ o.data = .fields #[.ref a, .int i 0]) (get?_size _) (Nat.le_refl _) (fun _ _ e => Heap.get?_push_of_some _ e) (Heap.get?_push_size _ rfl) ⟨rfl, rfl⟩ ⟨?_, ?_, ?_⟩)
  · intro i s₁ B₁ L₁ ρ₁ μ₁ s o Q E hi hm hs hN k
    obtain ⟨vs, n, ho, hv⟩ := hs.list hm
    obtain ⟨x, hx, hr⟩ := hv.get (listV_get hi)
    refine wpAny_pyNext_list_item ⟨o, hs.hidden, hN.1, hN.2⟩ (isList_of ho) (x := x) (by simpa using hx) fun h' hit hsb => ?_
    obtain ⟨o', ho', hc', hd'⟩ := hit
    exact k x h' s.toks o' hr ho' ⟨hc', hd'⟩ hsb
  · intro s₁ B₁ L₁ ρ₁ μ₁ s o Q E hm hs hN k
    obtain ⟨vs, n, ho, hv⟩ := hs.list hm
    exact wpAny_pyNext_list_end hh ⟨o, hs.hidden, hN.1, hN.2⟩ (isList_of ho) (by simp [hv.length]) fun h' he => k h' s.toks he
  · intro i s₁ B₁ L₁ ρ₁ μ₁ s o Q E hs hN k
    exact wpAny_pyIter_listiter ⟨o, hs.hidden, hN.1, hN.2⟩ k
theorem itOf_tuple {a : Addr} {xs : List MV} (hh : A.handled = none) (hm : (a, MO.tuple xs) ∈ μ) : ItOf G A (.ref a) xs.length (listV xs) (fun μ => (a, MO.tuple xs) ∈ μ) μ := by
  rintro _ rfl s₀ B L ρ s hs Q E k
  obtain ⟨vs, n, ho, hv⟩ := hs.tuple hm
  refine wpAny_pyIter_tuple (isTuple_of ho) (k _ _ s.toks _ (fun i o => o.cls = .type "tuple_iterator" ∧ o.data = .fields #[.ref a, .int i 0]) (get?_size _) (Nat.le_refl _) (fun _ _ e => Heap.get?_push_of_some _ e) (Heap.get?_push_size _ rfl) ⟨rfl, rfl⟩ ⟨?_, ?_, ?_⟩)
  · intro i s₁ B₁ L₁ ρ₁ μ₁ s o Q E hi hm hs hN k
    obtain ⟨vs, n, ho, hv⟩ := hs.tuple hm
    obtain ⟨x, hx, hr⟩ := hv.get (listV_get hi)
    refine wpAny_pyNext_tuple_item ⟨o, hs.hidden, hN.1, hN.2⟩ (isTuple_of ho) (x := x) (by simpa using hx) fun h' hit hsb => ?_
    obtain ⟨o', ho', hc', hd'⟩ := hit
    exact k x h' s.toks o' hr ho' ⟨hc', hd'⟩ hsb
  · intro s₁ B₁ L₁ ρ₁ μ₁ s o Q E hm hs hN k
    obtain ⟨vs, n, ho, hv⟩ := hs.tuple hm
    exact wpAny_pyNext_tuple_end hh ⟨o, hs.hidden, hN.1, hN.2⟩ (isTuple_of ho) (by simp [hv.length]) fun h' he => k h' s.toks he
  · intro i s₁ B₁ L₁ ρ₁ μ₁ s o Q E hs hN k
    exact wpAny_pyIter_tupleiter ⟨o, hs.hidden, hN.1, hN.2⟩ k

noncomputable def rangeObj (n : Int) (t u v : Tok) : Obj := { cls := .type "range", data := .fields #[.int 0 t, .int n u, .int 1 v] }
theorem itOf_range {r : Addr} {n : Nat} {t u v : Tok} (hh : A.handled = none) (hn : n < 2 ^ 62) (hm : (r, MO.raw (rangeObj n t u v)) ∈ μ) : ItOf G A (.ref r) n (fun i => .int i) (fun _ => True) μ := by
  rintro _ rfl s₀ B L ρ s hs Q E k
  obtain ⟨_, ho, rfl⟩ := hs.get hm
  have hsz : Builtin.Range.rangeSize 0 (n : Int) 1 = (n : Int) := by rw [rangeSize_one]; split <;> omega
  refine wpAny_pyIter_range (a := 0) (b := n) (c := 1) (t := t) (u := u) (v := v) ho (small_one (by decide) (by decide) (by omega) (by omega)) ?_
  refine k _ _ s.toks _ (fun i o => o = { cls := .type "range_iterator", dict := none, data := .fields #[rawInt i, rawInt ((n : Int) - i), rawInt 1], slots := #[] }) (get?_size _) (Nat.le_refl _) (fun _ _ e => Heap.get?_push_of_some _ e) (Heap.get?_push_size _ rfl) (by rw [hsz]; simp) ⟨?_, ?_, ?_⟩
  · intro i s₁ B₁ L₁ ρ₁ μ₁ s o Q E hi hm hs hN k
    have h1 := hs.hidden
    rw [hN] at h1
    refine wpAny_pyNext_range_item (x := i) (left := (n : Int) - i) (step := 1) h1 (by omega) fun h' hit hsb => ?_
    exact k _ h' _ _ vi hit (by rw [show ((n : Int) - i - 1) = (n : Int) - ((i + 1 : Nat) : Int) by omega]; rfl) hsb
  · intro s₁ B₁ L₁ ρ₁ μ₁ s o Q E hm hs hN k
    have h1 := hs.hidden
    rw [hN] at h1
    exact wpAny_pyNext_range_end (x := n) (left := (n : Int) - n) (step := 1) hh h1 (by omega) fun h' he => k h' s.toks he
  · intro i s₁ B₁ L₁ ρ₁ μ₁ s o Q E hs hN k
    have h1 := hs.hidden
    rw [hN] at h1
    exact wpAny_pyIter_rangeiter h1 k
noncomputable def seqP (G : Gl w) (A : Around) (L : Addr) (env : Env) (rest : List Stmt) (P : MF → Rho → Mu → Prop) : MF → Rho → Mu → Prop
  | .next, ρ, μ => X G A L (execs rest env) P ρ μ
  | f, ρ, μ => P f ρ μ
theorem seq_next {rest : List Stmt} {P : MF → Rho → Mu → Prop} (h : X G A L (execs rest env) P ρ μ) : seqP G A L env rest P .next ρ μ := h
theorem seq_ret {rest : List Stmt} {P : MF → Rho → Mu → Prop} {v : MV} (h : P (.ret v) ρ μ) : seqP G A L env rest P (.ret v) ρ μ := h
theorem seq_brk {rest : List Stmt} {P : MF → Rho → Mu → Prop} (h : P .brk ρ μ) : seqP G A L env rest P .brk ρ μ := h
theorem seq_cont {rest : List Stmt} {P : MF → Rho → Mu → Prop} (h : P .cont ρ μ) : seqP G A L env rest P .cont ρ μ := h

theorem s_nil {P : MF → Rho → Mu → Prop} (h : P .next ρ μ) : X G A L (execs [] env) P ρ μ := fun _ _ _ hs => wpAny_execs_nil ⟨.next, _, _, rfl, hs, h⟩
theorem s_cons {st : Stmt} {rest : List Stmt} {P : MF → Rho → Mu → Prop} (h : X G A L (exec st env) (seqP G A L env rest P) ρ μ) : X G A L (execs (st :: rest) env) P ρ μ := fun s₀ B s hs =>
  wpAny_execs_cons (h.use hs fun f g ρ' μ' s' hr hs' hp => by
    cases f with
    | next => cases hr; exact hp s₀ B s' hs'
    | brk => cases hr; exact ⟨.brk, _, _, rfl, hs', hp⟩
    | cont => cases hr; exact ⟨.cont, _, _, rfl, hs', hp⟩
    | ret v => obtain ⟨u, rfl, hv⟩ := hr; exact ⟨.ret v, _, _, ⟨u, rfl, hv⟩, hs', hp⟩)
theorem s_weak {st : List Stmt} {P : MF → Rho → Mu → Prop} (hsub : List.Sublist μ' μ) (h : X G A L (execs st env) P ρ μ') : X G A L (execs st env) P ρ μ := Tg.less hsub h

theorem st_local {x : Str} {mv : MV} {v : Value} {P : Unit → Rho → Mu → Prop} (hv : VR mv v) (hp : PutAt x mv ρ ρ') (h : P () ρ' μ) (hk : env.scope.kind = .function) (hl : env.kindOf x = some .local) :
    Tu G A env.locals (storeName env x v) P ρ μ := fun s₀ B s hs => by
  obtain ⟨m, hn, hm⟩ := hs.ns
  exact wpAny_storeName_local hl hn (fun h' hn' hsb => ⟨(), _, _, trivial, hs.put hp hv hm hn' hsb, h⟩) (by rw [hk]; rfl)
theorem st_cell {x : Str} {c : Addr} {mv : MV} {v : Value} {P : Unit → Rho → Mu → Prop} (hv : VR mv v) (hl : env.kindOf x = some .cell) (hc : env.cells.lookup x = some c) {v₀ : MV} (hm : (c, MO.cell v₀) ∈ μ) (hp : SetAt c (.cell mv) μ μ') (h : P () ρ μ')
    (hk : env.scope.kind = .function) : Tu G A L (storeName env x v) P ρ μ := fun s₀ B s hs => by
  obtain ⟨o, ho, ov, hov, _⟩ := hs.get hm
  exact wpAny_storeName_cell hk hl hc ⟨o, ho, hov⟩ fun h' ⟨o', ho', hd'⟩ hsb => ⟨(), _, _, trivial, hs.set hp hsb ⟨o', ho', _, hd', .some hv⟩, h⟩

inductive StoreP (x : Str) (v : MV) (K : Rho → Prop) (ρ : Rho) : Prop
  | mk (ρ' : Rho) (hp : PutAt x v ρ ρ') (h : K ρ')
theorem stp {x : Str} {v : MV} {K : Rho → Prop} {ρ ρ' : Rho} (hp : PutAt x v ρ ρ') (h : K ρ') : StoreP x v K ρ := ⟨ρ', hp, h⟩
inductive StoreC (c : Addr) (v : MV) (K : Mu → Prop) (μ : Mu) : Prop
  | mk (v₀ : MV) (μ' : Mu) (hm : (c, MO.cell v₀) ∈ μ) (hp : SetAt c (.cell v) μ μ') (h : K μ')
theorem s_assign {x : Str} {px pos : Pos} {value : Expr} {rest : List Stmt} {P : MF → Rho → Mu → Prop}
    (h : T G A env.locals (eval value env) (fun v ρ μ => StoreP x v (fun ρ' => X G A env.locals (execs rest env) P ρ' μ) ρ) ρ μ) (hk : KindOk env x .local := by kernel_rfl)
    (hs : swapsWith value (some (.Name x px)) pos.line env = pure false := by k_dflt rfl) : X G A env.locals (execs (.Assign [.Name x px] value pos :: rest) env) P ρ μ :=
  s_cons fun s₀ B s hst => wpAny_Assign_Name (h.use hst fun v a ρ₁ μ₁ s₁ hv hs₁ q => by
    cases q with | mk ρ₂ hp hx => exact Tg.use (st_local (P := fun _ ρ μ => X G A env.locals (execs rest env) P ρ μ) hv hp hx hk.k hk.l) hs₁ fun _ _ _ _ s₂ _ hs₂ hx => ⟨.next, _, _, rfl, hs₂, hx⟩) hs
theorem s_assignc {x : Str} {c : Addr} {px pos : Pos} {value : Expr} {rest : List Stmt} {P : MF → Rho → Mu → Prop} (hc : env.cells.lookup x = some c)
    (h : T G A L (eval value env) (fun v ρ μ => StoreC c v (fun μ' => X G A L (execs rest env) P ρ μ') μ) ρ μ) (hk : KindOk env x .cell := by kernel_rfl)
    (hs : swapsWith value (some (.Name x px)) pos.line env = pure false := by k_dflt rfl) : X G A L (execs (.Assign [.Name x px] value pos :: rest) env) P ρ μ :=
  s_cons fun s₀ B s hst => wpAny_Assign_Name (h.use hst fun v a ρ₁ μ₁ s₁ hv hs₁ q => by
    cases q with | mk v₀ μ₂ hm hp hx => exact Tg.use (st_cell (P := fun _ ρ μ => X G A L (execs rest env) P ρ μ) hv hk.l hc hm hp hx hk.k) hs₁ fun _ _ _ _ s₂ _ hs₂ hx => ⟨.next, _, _, rfl, hs₂, hx⟩) hs
theorem s_if {test : Expr} {body orelse : List Stmt} {pos : Pos} {rest : List Stmt} {P : MF → Rho → Mu → Prop}
    (h : Tb G A L (isTrue test env (eval test env)) (fun b ρ μ => if b = true then X G A L (execs body env) (seqP G A L env rest P) ρ μ else X G A L (execs orelse env) (seqP G A L env rest P) ρ μ) ρ μ) :
    X G A L (execs (.If test body orelse pos :: rest) env) P ρ μ :=
  s_cons fun s₀ B s hst => wpAny_If (h.use hst fun b c ρ₁ μ₁ s₁ hb hs₁ hp => by
    cases hb
    cases b with
    | true => exact hp s₀ B s₁ hs₁
    | false => exact hp s₀ B s₁ hs₁)
theorem s_ret {e : Expr} {pos : Pos} {rest : List Stmt} {P : MF → Rho → Mu → Prop} (h : T G A L (eval e env) (fun v ρ μ => P (.ret v) ρ μ) ρ μ) : X G A L (execs (.Return (some e) pos :: rest) env) P ρ μ :=
  s_cons fun s₀ B s hst => wpAny_Return_some (h.use hst fun v a _ _ _ hv hs₁ hp => ⟨.ret v, _, _, ⟨a, rfl, hv⟩, hs₁, hp⟩)
theorem s_break {pos : Pos} {rest : List Stmt} {P : MF → Rho → Mu → Prop} (h : P .brk ρ μ) : X G A L (execs (.Break pos :: rest) env) P ρ μ := s_cons fun s₀ B s hst => wpAny_Break ⟨.brk, _, _, rfl, hst, h⟩
theorem s_continue {pos : Pos} {rest : List Stmt} {P : MF → Rho → Mu → Prop} (h : P .cont ρ μ) : X G A L (execs (.Continue pos :: rest) env) P ρ μ := s_cons fun s₀ B s hst => wpAny_Continue ⟨.cont, _, _, rfl, hst, h⟩

inductive TurnJ (J : Rho → Mu → Prop) (ρ : Rho) (μ : Mu) : Prop
  | mk (μ' : Mu) (hs : List.Sublist μ' μ) (j : J ρ μ')
inductive Less (J : Nat → Rho → Mu → Prop) (n : Nat) (ρ : Rho) (μ : Mu) : Prop
  | mk (m : Nat) (hm : m < n) (j : J m ρ μ)
inductive WhileI {w : World} (G : Gl w) (s₀ : Shared) (B : Addr → Option Obj) (L : Addr) (J : Nat → Rho → Mu → Prop) (n : Nat) (s : Shared) : Prop
  | mk (ρ : Rho) (μ : Mu) (hs : St G s₀ B L ρ μ s) (j : J n ρ μ)
noncomputable def turnP (G : Gl w) (A : Around) (L : Addr) (env : Env) (rest : List Stmt) (P : MF → Rho → Mu → Prop) (J : Rho → Mu → Prop) : MF → Rho → Mu → Prop
  | .next, ρ, μ => TurnJ J ρ μ
  | .cont, ρ, μ => TurnJ J ρ μ
  | .brk, ρ, μ => X G A L (execs rest env) P ρ μ
  | .ret v, ρ, μ => P (.ret v) ρ μ
theorem turn_next {rest : List Stmt} {P : MF → Rho → Mu → Prop} {J : Rho → Mu → Prop} (h : TurnJ J ρ μ) : turnP G A L env rest P J .next ρ μ := h
theorem turn_cont {rest : List Stmt} {P : MF → Rho → Mu → Prop} {J : Rho → Mu → Prop} (h : TurnJ J ρ μ) : turnP G A L env rest P J .cont ρ μ := h
theorem turn_brk {rest : List Stmt} {P : MF → Rho → Mu → Prop} {J : Rho → Mu → Prop} (h : X G A L (execs rest env) P ρ μ) : turnP G A L env rest P J .brk ρ μ := h
theorem turn_ret {rest : List Stmt} {P : MF → Rho → Mu → Prop} {J : Rho → Mu → Prop} {v : MV} (h : P (.ret v) ρ μ) : turnP G A L env rest P J (.ret v) ρ μ := h

theorem notedBy_false {M : Model} {R : Value → Shared → Prop} {t : Sem Flow} {Q : Flow → Shared → Prop} {E : Value → Shared → Prop} {s : Shared} (h : wpAny M A t Q (fun _ _ => False) s) : wpAny M A t Q E s := wpAny_mono h (fun _ _ q => q) fun _ _ f => f.elim

theorem less_ex {J : Nat → Rho → Mu → Prop} {n : Nat} (hs : St G s₀ B L ρ μ s) (h : TurnJ (Less J n) ρ μ) : ∃ m, m < n ∧ WhileI G s₀ B L J m s := by
  cases h with | mk μ' hsub j => cases j with | mk m hm j => exact ⟨m, hm, ρ, μ', hs.sub hsub, j⟩
theorem while_core {test : Expr} {body orelse rest : List Stmt} {P : MF → Rho → Mu → Prop} {R : Result → Shared → Prop} (J : Nat → Rho → Mu → Prop) (n : Nat) (hst : St G s₀ B L ρ μ s) (h0 : J n ρ μ)
    (turn : ∀ n ρ μ, J n ρ μ → Tb G A L (isTrue test env (eval test env)) (fun b ρ μ => if b = true then X G A L (execs body env) (turnP G A L env rest P (Less J n)) ρ μ
      else X G A L (execs orelse env) (seqP G A L env rest P) ρ μ) ρ μ) (hR : ∀ f s', Post G s₀ B L FR (seqP G A L env rest P) f s' → R (.ok f) s') : codeAny (model PR w) A (.whileLoop test body orelse env) R s := by
  refine codeAny_whileLoop (WhileI G s₀ B L J) ?_ n ⟨ρ, μ, hst, h0⟩
  intro n s q
  cases q with | mk ρ μ hs hj =>
  refine (turn n ρ μ hj).use hs fun b c ρ₁ μ₁ s₁ hb hs₁ hp => ?_
  cases hb
  cases b with
  | true =>
    refine Tg.use hp hs₁ fun f g ρ₂ μ₂ s₂ hf hs₂ hp => ?_
    cases f with
    | next => cases hf; exact less_ex hs₂ hp
    | cont => cases hf; exact less_ex hs₂ hp
    | brk => cases hf; exact hR _ _ ⟨.next, _, _, rfl, hs₂, hp⟩
    | ret v => obtain ⟨a, rfl, hv⟩ := hf; exact hR _ _ ⟨.ret v, _, _, ⟨a, rfl, hv⟩, hs₂, hp⟩
  | false => exact Tg.use hp hs₁ fun f g ρ₂ μ₂ s₂ hf hs₂ hp => hR _ _ ⟨f, _, _, hf, hs₂, hp⟩
theorem s_while {test : Expr} {body orelse : List Stmt} {pos : Pos} {rest : List Stmt} {P : MF → Rho → Mu → Prop} (J : Nat → Rho → Mu → Prop) (n : Nat) (h0 : J n ρ μ)
    (turn : ∀ n ρ μ, J n ρ μ → Tb G A L (isTrue test env (eval test env)) (fun b ρ μ => if b = true then X G A L (execs body env) (turnP G A L env rest P (Less J n)) ρ μ
      else X G A L (execs orelse env) (seqP G A L env rest P) ρ μ) ρ μ) : X G A L (execs (.While test body orelse pos :: rest) env) P ρ μ :=
  s_cons fun s₀ B s hst => wpAny_While (while_core J n hst h0 turn fun _ _ h => h)

inductive ForP {w : World} (G : Gl w) (A : Around) (L : Addr) (env : Env) (t : Str) (body rest : List Stmt) (P : MF → Rho → Mu → Prop) (v : MV) (ρ : Rho) (μ : Mu) : Prop
  | mk (n : Nat) (V : Nat → MV) (C : Mu → Prop) (J : Nat → Rho → Mu → Prop) (hit : ItOf G A v n V C μ) (hC : ∀ i ρ μ, J i ρ μ → C μ) (h0 : J 0 ρ μ)
      (step : ∀ i ρ μ, i < n → J i ρ μ → StoreP t (V i) (fun ρ' => X G A L (execs body env) (turnP G A L env rest P (J (i + 1))) ρ' μ) ρ)
      (fin : ∀ ρ μ, J n ρ μ → X G A L (execs rest env) P ρ μ)
inductive ForI {w : World} (G : Gl w) (s₀ : Shared) (B : Addr → Option Obj) (L : Addr) (it : Addr) (n : Nat) (N : Nat → Obj → Prop) (J : Nat → Rho → Mu → Prop) (k : Nat) (s : Shared) : Prop
  | mk (i : Nat) (ρ : Rho) (μ : Mu) (o : Obj) (hi : i ≤ n) (hk : k = n - i) (hs : St G s₀ (Bset B it o) L ρ μ s) (hN : N i o) (hj : J i ρ μ)
theorem for_next {it : Addr} {n i : Nat} {N : Nat → Obj → Prop} {J : Nat → Rho → Mu → Prop} {o : Obj} (hlt : i < n) (hs : St G s₀ (Bset B it o) L ρ μ s) (hN : N (i + 1) o) (h : TurnJ (J (i + 1)) ρ μ) : ∃ m, m < n - i ∧ ForI G s₀ B L it n N J m s := by
  cases h with | mk μ' hsub j => exact ⟨n - (i + 1), by omega, i + 1, _, _, o, hlt, rfl, hs.sub hsub, hN, j⟩
theorem St.unhide0 {a : Addr} {o : Obj} (h : St G s₀ (Bset B a o) L ρ μ s) (hlow : ∀ b x, G.hb.get? b = some x → B b = some x) (hb : B a = none) : St G s₀ B L ρ μ s := h.unhide (tk := s.toks) hlow hb (Heap.ExtBut.refl a s.heap)
theorem for_core {t : Str} {pt : Pos} {it : Addr} {body rest : List Stmt} {P : MF → Rho → Mu → Prop} {R : Result → Shared → Prop} {n : Nat} {V : Nat → MV} {N : Nat → Obj → Prop} {C : Mu → Prop} {J : Nat → Rho → Mu → Prop} {o : Obj}
    (hlow : ∀ b x, G.hb.get? b = some x → B b = some x) (hb : B it = none) (I : It G A it n V N C) (hJC : ∀ i ρ μ, J i ρ μ → C μ) (hs : St G s₀ (Bset B it o) env.locals ρ μ s) (hN0 : N 0 o) (h0 : J 0 ρ μ)
    (step : ∀ i ρ μ, i < n → J i ρ μ → StoreP t (V i) (fun ρ' => X G A env.locals (execs body env) (turnP G A env.locals env rest P (J (i + 1))) ρ' μ) ρ)
    (fin : ∀ ρ μ, J n ρ μ → X G A env.locals (execs rest env) P ρ μ) (hk : env.scope.kind = .function) (hl : env.kindOf t = some .local)
    (hR : ∀ f s', Post G s₀ B env.locals FR (seqP G A env.locals env rest P) f s' → R (.ok f) s') : codeAny (model PR w) A (.forLoop (.Name t pt) (.ref it) body [] env) R s := by
  refine codeAny_forLoop (ForI G s₀ B env.locals it n N J) ?_ n ⟨0, ρ, μ, o, Nat.zero_le _, rfl, hs, hN0, h0⟩
  intro k s q
  cases q with | mk i ρ μ o hi hki hs hN hj =>
  cases hki
  by_cases hlt : i < n
  · refine I.item i s₀ B _ ρ μ s o _ _ hlt (hJC _ _ _ hj) hs hN fun v h' tk o' hv ho' hN' hsb => ?_
    cases step i ρ μ hlt hj with | mk ρ' hp hx =>
    refine wpAny_assign_Name (Tg.use (st_local (P := fun _ ρ μ => X G A env.locals (execs body env) (turnP G A env.locals env rest P (J (i + 1))) ρ μ) hv hp hx hk hl) (hs.rehide (tk := tk) hlow hb hsb ho') fun _ _ ρ₂ μ₂ s₂ _ hs₂ hx => ?_)
    refine Tg.use hx hs₂ fun f g ρ₃ μ₃ s₃ hf hs₃ hp => ?_
    cases f with
    | next => cases hf; exact for_next hlt hs₃ hN' hp
    | cont => cases hf; exact for_next hlt hs₃ hN' hp
    | brk => cases hf; exact hR _ _ ⟨.next, _, _, rfl, hs₃.unhide0 hlow hb, hp⟩
    | ret v => obtain ⟨a, rfl, hv⟩ := hf; exact hR _ _ ⟨.ret v, _, _, ⟨a, rfl, hv⟩, hs₃.unhide0 hlow hb, hp⟩
  · cases (show i = n by omega)
    exact I.done s₀ B _ ρ μ s o _ _ (hJC _ _ _ hj) hs hN fun h' tk he => wpAny_execs_nil (hR _ _ ⟨.next, _, _, rfl, hs.unhide hlow hb he, fin _ _ hj⟩)
theorem s_for {t : Str} {pt : Pos} {iter : Expr} {body : List Stmt} {pos : Pos} {rest : List Stmt} {P : MF → Rho → Mu → Prop}
    (h : T G A env.locals (eval iter env) (ForP G A env.locals env t body rest P) ρ μ)
    (hk : KindOk env t .local := by kernel_rfl) (hs : ∀ x, foldedSetIterable iter env x = pure x := by intro _; k_dflt rfl) :
    X G A env.locals (execs (.For (.Name t pt) iter body [] pos :: rest) env) P ρ μ :=
  s_cons fun s₀ B s hst => wpAny_For (h.use hst fun v a ρ₁ μ₁ s₁ hv hs₁ q => by
    cases q with | mk n V C J hit hC h0 step fin =>
    exact hit a hv s₀ B _ ρ₁ s₁ hs₁ _ _ fun it h' tk o N hn hge hk' ho hN0 I => for_core hst.low (hs₁.fresh hn).1 I hC (hs₁.hide hn hk' ho) hN0 h0 step fin hk.k hk.l fun _ _ h => h) hs
end

abbrev Ts {w : World} (G : Gl w) (A : Around) (L : Addr) := Tg G (α := List Value) VRs A L
noncomputable def CJ {w : World} (G : Gl w) (A : Around) (f : Value) (args : List MV) (P : MV → Mu → Prop) (μ : Mu) : Prop :=
  ∀ s₀ B L ρ s vs, St G s₀ B L ρ μ s → VRs args vs → wpAny (model PR w) A (call f vs) (PostC G s₀ B L ρ P) NoE s
@[reducible] noncomputable def PostR {w : World} (G : Gl w) (s₀ : Shared) (B : Addr → Option Obj) (L : Addr) (ρ : Rho) (P : MV → Mu → Prop) : Result → Shared → Prop
  | .ok (.ret v), s' => PostC G s₀ B L ρ P v s'
  | _, _ => False

noncomputable def CC {w : World} (G : Gl w) (A : Around) (f : Value) (args : List MV) (P : MV → Mu → Prop) (μ : Mu) : Prop :=
  ∀ s₀ B L ρ s vs, St G s₀ B L ρ μ s → VRs args vs → codeAny (model PR w) A (.call f ⟨vs, []⟩) (PostR G s₀ B L ρ P) s

noncomputable def Bcall (μ : Mu) (h : Heap) : Addr → Option Obj := fun b => if b ∈ μ.map (·.1) then none else h.get? b
noncomputable def retOf : MF → MV
  | .ret v => v
  | _ => .none
theorem vr_ret {fl : MF} {g : Flow} (h : FR fl g) : VR (retOf fl) (match (generalizing := false) g with | .ret v => v | _ => .none) := by
  cases fl with
  | next => cases h; rfl
  | brk => cases h; rfl
  | cont => cases h; rfl
  | ret v => obtain ⟨a, rfl, hv⟩ := h; exact hv

section
variable {w : World} {G : Gl w} {A : Around} {L : Addr} {env : Env} {ρ ρ' : Rho} {μ μ' : Mu} {s₀ : Shared} {B : Addr → Option Obj} {s : Shared}

theorem PostC.use {P : MV → Mu → Prop} {v : Value} {Q : Prop} (h : PostC G s₀ B L ρ P v s) (k : ∀ x μ', VR x v → St G s₀ B L ρ μ' s → P x μ' → Q) : Q := by
  cases h with | mk x μ' hr hs hp => exact k x μ' hr hs hp
theorem PostR.use {P : MV → Mu → Prop} {r : Result} {Q : Result → Prop} (h : PostR G s₀ B L ρ P r s) (k : ∀ v, PostC G s₀ B L ρ P v s → Q (.ok (.ret v))) : Q r := by
  rcases r with e | (_ | _ | _ | v)
  · exact h.elim
  · exact h.elim
  · exact h.elim
  · exact h.elim
  · exact k v h
theorem PostU.use {P : Mu → Prop} {u : Unit} {Q : Prop} (h : PostU G s₀ B L ρ P u s) (k : ∀ μ', St G s₀ B L ρ μ' s → P μ' → Q) : Q := by
  cases h with | mk μ' hs hp => exact k μ' hs hp
theorem CJ.use {f : Value} {args : List MV} {P : MV → Mu → Prop} {vs : List Value} {Q : Value → Shared → Prop} {E : Value → Shared → Prop} (h : CJ G A f args P μ) (hs : St G s₀ B L ρ μ s) (hv : VRs args vs)
    (k : ∀ x v μ' s', VR x v → St G s₀ B L ρ μ' s' → P x μ' → Q v s') : wpAny (model PR w) A (call f vs) Q E s :=
  wpAny_mono (h s₀ B L ρ s vs hs hv) (fun _ _ q => q.use fun x μ' => k x _ μ' _) fun _ _ f => f.elim
theorem CJ.mono {f : Value} {args : List MV} {P P' : MV → Mu → Prop} (h : CJ G A f args P μ) (k : ∀ x μ, P x μ → P' x μ) : CJ G A f args P' μ :=
  fun _ _ _ _ _ _ hs hv => h.use hs hv fun x _ μ' _ hr hs' hp => ⟨x, μ', hr, hs', k _ _ hp⟩
theorem CJ.less {f : Value} {args : List MV} {P : MV → Mu → Prop} (hs : List.Sublist μ' μ) (h : CJ G A f args P μ') : CJ G A f args P μ :=
  fun s₀ B L ρ s vs hst hv => h s₀ B L ρ s vs (hst.sub hs) hv

theorem CC.cj {f : Value} {args : List MV} {P : MV → Mu → Prop} (h : CC G A f args P μ) : CJ G A f args P μ := fun s₀ B L ρ s vs hs hv =>
  wpAny_call (codeAny_mono (h s₀ B L ρ s vs hs hv) fun r s' q => by rcases r with e | (_ | _ | _ | v) <;> exact q)
theorem CC.map {f : Value} {args : List MV} {P P' : MV → Mu → Prop} (h : CC G A f args P μ) (k : ∀ s₀ B L ρ v s, PostC G s₀ B L ρ P v s → PostC G s₀ B L ρ P' v s) : CC G A f args P' μ :=
  fun s₀ B L ρ s vs hs hv => codeAny_mono (h s₀ B L ρ s vs hs hv) fun r s' q => by
    rcases r with e | (_ | _ | _ | v)
    · exact q
    · exact q
    · exact q
    · exact q
    · exact k _ _ _ _ v _ q
theorem CC.mono {f : Value} {args : List MV} {P P' : MV → Mu → Prop} (h : CC G A f args P μ) (k : ∀ x μ, P x μ → P' x μ) : CC G A f args P' μ :=
  h.map fun _ _ _ _ _ _ q => q.use fun x μ' hr hs' hp => ⟨x, μ', hr, hs', k _ _ hp⟩
inductive SublP (P : MV → Mu → Prop) (x : MV) (μ : Mu) : Prop
  | mk (μ' : Mu) (hs : List.Sublist μ' μ) (h : P x μ')
theorem CC.sub {f : Value} {args : List MV} {P : MV → Mu → Prop} (h : CC G A f args (SublP P) μ) : CC G A f args P μ :=
  h.map fun _ _ _ _ _ _ q => q.use fun x μ' hx hs' hp => by
    cases hp with | mk μ'' hs hp => exact ⟨x, μ'', hx, hs'.sub hs, hp⟩
theorem CC.less {f : Value} {args : List MV} {P : MV → Mu → Prop} (hs : List.Sublist μ' μ) (h : CC G A f args P μ') : CC G A f args P μ :=
  fun s₀ B L ρ s vs hst hv => h s₀ B L ρ s vs (hst.sub hs) hv

theorem a_nil {pos : Pos} {P : List MV → Rho → Mu → Prop} (h : P [] ρ μ) : Ts G A L (spliced (backTo pos (starEach [] env))) P ρ μ := fun _ _ _ hs => wpAny_pure ⟨[], _, _, trivial, hs, h⟩
theorem a_cons {e : Expr} {rest : List Expr} {pos : Pos} {P : List MV → Rho → Mu → Prop} (h : T G A L (eval e env) (fun v ρ μ => Ts G A L (spliced (backTo pos (starEach rest env))) (fun vs ρ μ => P (v :: vs) ρ μ) ρ μ) ρ μ)
    (he : starEach (e :: rest) env = (false, eval e env) :: starEach rest env := by k_dflt rfl) : Ts G A L (spliced (backTo pos (starEach (e :: rest) env))) P ρ μ := fun s₀ B s hs => by
  rw [he]
  show wpAny _ _ (spliced ((false, eval e env) :: backTo pos (starEach rest env))) _ _ s
  rw [spliced]
  refine wpAny_bind (h.use hs fun x v ρ₁ μ₁ s₁ hx hs₁ h₁ => ?_)
  show wpAny _ _ (pure [v] >>= fun here => _) _ _ s₁
  refine wpAny_bind (wpAny_pure (wpAny_bind (wpAny_holding (h₁.use hs₁ fun xs vs ρ₂ μ₂ s₂ hxs hs₂ h₂ => wpAny_pure ⟨x :: xs, _, _, ⟨hx, hxs⟩, hs₂, h₂⟩))))

theorem evalArgs_any {M : Model} {E : Value → Shared → Prop} {s : Shared} {f : Value} {l : List (Bool × Sem Value)} {Q : Args → Shared → Prop} (hpl : l.any (·.1) = false) (h : wpAny M A (spliced l) (fun vs s₁ => Q ⟨vs, []⟩ s₁) E s) :
    wpAny M A (evalArgs f true l []) Q E s := by
  have fin : ∀ (vs : List Value) (s₁ : Shared), Q ⟨vs, []⟩ s₁ → wpAny M A (holding (vs ++ (none : Option Value).toList) (do
      let kw := (([] : List (Option Str × Sem Value)).filterMap (·.1)).zip (← evalAll (([] : List (Option Str × Sem Value)).map (·.2)))
      return (⟨← (pure vs : Sem (List Value)), kw⟩ : Args))) Q E s₁ := fun vs s₁ hq => by
    refine wpAny_holding ?_
    exact wpAny_bind (wpAny_pure (wpAny_bind (wpAny_pure (wpAny_pure hq))))
  unfold evalArgs
  match l, hpl with
  | [], _ =>
    show wpAny M A (spliced [] >>= _) Q E s
    exact wpAny_bind (wpAny_mono h (fun vs s₁ h₁ => wpAny_bind (wpAny_pure (fin vs s₁ h₁))) fun _ _ x => x)
  | (false, x) :: rest, _ =>
    show wpAny M A (spliced ((false, x) :: rest) >>= _) Q E s
    exact wpAny_bind (wpAny_mono h (fun vs s₁ h₁ => wpAny_bind (wpAny_pure (fin vs s₁ h₁))) fun _ _ x => x)
theorem glob_go {x : Str} {pos : Pos} {v : Value} {Q : Value → Shared → Prop} {E : Value → Shared → Prop} (e : nsIn (KK w.params) mainGlobals x = some (some v)) (hk : GlobOk env x) (hs : St G s₀ B L ρ μ s) (h : Q v s) : wpAny (model PR w) A (eval (.Name x pos) env) Q E s :=
  Calls.Name_function_global hk.k.k hk.k.l (Calls.loadGlobal_global (env := env) (by rw [hk.g]; exact G.t.g.keeps hs.base) (mg_of G.k G.t.g e) h) hk.k.d
theorem builtin_go {x : Str} {pos : Pos} {v : Value} {Q : Value → Shared → Prop} {E : Value → Shared → Prop} (e : nsIn (KK w.params) mainGlobals x = some none) (hb : bootBuiltins x = some v) (hn : x ≠ "__name__") (hk : GlobOk env x) (hs : St G s₀ B L ρ μ s) (h : Q v s) : wpAny (model PR w) A (eval (.Name x pos) env) Q E s :=
  Calls.Name_function_global hk.k.k hk.k.l (Calls.loadGlobal_builtin (env := env) (by rw [hk.g]; exact G.t.g.keeps hs.base) (mg_none_of G.k G.t.g e) (by rw [hk.b]; exact G.t.b.keeps hs.base) ((G.t.builtins x hn).trans hb) h) hk.k.d
theorem e_callfn {x : Str} {f : Addr} {p pos : Pos} {args : List Expr} {P : MV → Rho → Mu → Prop} (e : nsIn (KK w.params) mainGlobals x = some (some (.ref f))) (hkp : keepIn (KK w.params) (.ref f) = true)
    (h : Ts G A L (spliced (backTo pos (starEach args env))) (fun vs ρ μ => CC G A (.ref f) vs (fun v μ' => P v ρ μ') μ) ρ μ)
    (hpl : (backTo pos (starEach args env)).any (·.1) = false := by kernel_rfl) (hk : GlobOk env x := by kernel_rfl) :
    T G A L (eval (.Call (.Name x p) args [] pos) env) P ρ μ := fun s₀ B s hs => by
  refine wpAny_Call_NameR (glob_go e hk hs ?_)
  refine callWith_of (P := fun h => (KK w.params).In h) (by rw [hpl]; rfl) (keeps_K hkp) (evalArgs_any hpl ?_)
  exact h.use hs fun xs vs ρ₂ μ₂ s₂ hxs hs₂ h₂ => ⟨hs₂.K, h₂.cj.use hs₂ hxs fun x v μ' s' hx hs' hp => ⟨x, _, _, hx, hs', hp⟩⟩

theorem St.callee (h : St G s₀ B L ρ μ s) {ρ₀ : Rho} {h₁ : Heap} {m : Str → Option Value} {tk : Nat} (hn : h₁.Ns s.heap.objs.size m) (hk : ∀ b o, s.heap.get? b = some o → h₁.get? b = some o) (hρ : ∀ p ∈ ρ₀, LR p.2 (m p.1)) (hnd : (ρ₀.map (·.1)).Nodup) :
    St G s₀ (Bcall μ s.heap) s.heap.objs.size ρ₀ μ { s with heap := h₁, toks := tk } := by
  have hBnk : ∀ b o, B b = some o → b ∉ μ.map (·.1) := fun b o e hb => by
    obtain ⟨p, hp, rfl⟩ := List.mem_map.mp hb
    rw [(h.ob p hp).1] at e; cases e
  refine ⟨let ⟨_, _, e⟩ := h.same; ⟨h₁, tk, by rw [e]⟩, fun b o e => ?_, ?_, fun b o e => ?_, ?_, ⟨m, hn, hρ⟩, hnd, h.nm, h.hi, fun p hp => ?_⟩
  · have := h.low b o e
    simp only [Bcall, hBnk b o this, if_false]
    exact h.keep b o this
  · obtain ⟨m', hn', _⟩ := h.ns
    exact Nat.le_trans h.above (Nat.le_of_lt hn'.lt)
  · unfold Bcall at e
    split at e
    · cases e
    · exact hk b o e
  · unfold Bcall; split
    · rfl
    · exact get?_size _
  · obtain ⟨a1, a2, x, a3, a4⟩ := h.ob p hp
    exact ⟨by simp only [Bcall, List.mem_map_of_mem (f := Prod.fst) hp, if_true], Nat.ne_of_lt (Heap.lt_size a3), x, hk _ _ a3, a4⟩
theorem St.caller (h : St G s₀ B L ρ μ s) {L' : Addr} {ρ' : Rho} {s' : Shared} (h' : St G s₀ (Bcall μ s.heap) L' ρ' μ' s') : St G s₀ B L ρ μ' s' := by
  have hBnk : ∀ b o, B b = some o → Bcall μ s.heap b = some o := fun b o e => by
    have : b ∉ μ.map (·.1) := fun hb => by
      obtain ⟨p, hp, rfl⟩ := List.mem_map.mp hb
      rw [(h.ob p hp).1] at e; cases e
    simp only [Bcall, this, if_false]; exact h.keep b o e
  obtain ⟨m, hn, hm⟩ := h.ns
  have hL : ∀ o, s.heap.get? L = some o → Bcall μ s.heap L = some o := fun o e => by
    have : L ∉ μ.map (·.1) := fun hb => by
      obtain ⟨p, hp, e⟩ := List.mem_map.mp hb
      exact (h.ob p hp).l e
    simp only [Bcall, this, if_false]; exact e
  refine ⟨h'.same, h.low, h.above, fun b o e => h'.keep b o (hBnk b o e), h.bl, ⟨m, ?_, hm⟩, h.nr, h'.nm, h'.hi, fun p hp => ?_⟩
  · obtain ⟨o, es, ep, ho, r⟩ := hn
    exact ⟨o, es, ep, h'.keep L o (hL o ho), r⟩
  · obtain ⟨a1, a2, a3⟩ := h'.ob p hp
    refine ⟨?_, ?_, a3⟩
    · cases e : B p.1 with
      | none => rfl
      | some o => rw [hBnk _ _ e] at a1; cases a1
    · rintro e
      obtain ⟨o, _, _, ho, _⟩ := hn
      rw [e, hL o ho] at a1; cases a1

theorem c_enter {f : Addr} {fd : FuncData} {body : List Stmt} {oc : Value} {od : Option Addr} {osl : Array (Option Value)} {args : List MV} {P : MV → Mu → Prop} {ρ₀ : Rho} (ho : (KK w.params).lookup f = some ⟨oc, od, .func fd, osl⟩) (hbody : fd.body = .stmts body)
    (hcd : codeIn (KK w.params) fd.code fd.qualname = true) (hroom : A.depth < recursionLimit) (hcell : (fd.scope.names.all fun x => !(x.2 == .cell)) = true) (hco : fd.scope.isCoroutine = false) (hgen : fd.scope.isGenerator = false) (hk : fd.scope.kind = .function)
    (hn : (ρ₀.map (·.1)).Nodup) (hb : ∀ s vs, VRs args vs → ∃ binds, BindsTo s fd ⟨vs, []⟩ binds ∧ (∀ x ∈ binds, fd.scope.names.lookup x.1 = some .local) ∧ ∀ p ∈ ρ₀, LR p.2 (binds.reverse.lookup p.1))
    (h : ∀ L', X G (A.deeper (callEnv fd L' f)) (callEnv fd L' f).locals (execs body (callEnv fd L' f)) (fun fl ρ μ' => P (retOf fl) μ') ρ₀ μ) : CC G A (.ref f) args P μ := fun s₀ B L ρ s vs hs hv => by
  obtain ⟨binds, hbt, hloc, hρ⟩ := hb s vs hv
  have hcell' : ∀ x ∈ fd.scope.names, x.2 ≠ .cell := fun x hx e => by
    have := List.all_eq_true.mp hcell x hx
    rw [e] at this; cases this
  refine codeAny_call_def hroom (hs.K _ _ ho) rfl hs.T.nolimit (codeRec_of hs.K hcd) hbody hbt hcell' hloc (fun h₁ hns hk₁ => ?_) hco hgen hk
  refine Tg.use (h s.heap.objs.size) (hs.callee hns hk₁ hρ hn) fun fl g ρ₁ μ₁ s₁ hf hs₁ hp => ?_
  exact ⟨retOf fl, μ₁, vr_ret hf, hs.caller hs₁, hp⟩
end

noncomputable def MV.isUndef : MV → Bool
  | .undef => true
  | _ => false
theorem MV.isUndef_eq {v : MV} (h : v.isUndef = true) : v = .undef := by cases v <;> first | rfl | cases h

theorem lookup_append_none {x : Str} : ∀ {a b : List (Str × Value)}, a.lookup x = none → (a ++ b).lookup x = b.lookup x
  | [], _, _ => rfl
  | (y, v) :: r, b, h => by
    rw [List.cons_append, List.lookup_cons]
    rw [List.lookup_cons] at h
    cases q : (x == y) with
    | true => rw [q] at h; cases h
    | false => rw [q] at h; exact lookup_append_none h
theorem lookup_append_some {x : Str} {v : Value} : ∀ {a b : List (Str × Value)}, a.lookup x = some v → (a ++ b).lookup x = some v
  | [], _, h => by cases h
  | (y, u) :: r, b, h => by
    rw [List.cons_append, List.lookup_cons]
    rw [List.lookup_cons] at h
    cases q : (x == y) with
    | true => rw [q] at h; exact h
    | false => rw [q] at h; exact lookup_append_some h
theorem lookup_none_of {x : Str} : ∀ {l : List (Str × Value)}, x ∉ l.map (·.1) → l.lookup x = none
  | [], _ => rfl
  | (y, v) :: r, h => by
    have h1 : (x == y) = false := by
      rw [beq_eq_false_iff_ne]; rintro rfl; exact h (.head _)
    simp only [List.lookup_cons, h1]
    exact lookup_none_of fun hm => h (.tail _ hm)
theorem zip_rev_lookup : ∀ {xs : List Str} {as : List MV} {vs : List Value}, xs.Nodup → xs.length = as.length → VRs as vs → ∀ p ∈ xs.zip as, LR p.2 ((xs.zip vs).reverse.lookup p.1)
  | x :: xs, a :: as, v :: vs, hn, hl, hv, p, hp => by
    have hx := (List.nodup_cons.mp hn).1
    have hxs : x ∉ ((xs.zip vs).reverse).map (·.1) := by
      intro hm
      rw [List.map_reverse, List.mem_reverse] at hm
      obtain ⟨q, hq, rfl⟩ := List.mem_map.mp hm
      exact hx (List.of_mem_zip hq).1
    rw [List.zip_cons_cons, List.reverse_cons]
    rw [List.zip_cons_cons] at hp
    rcases List.mem_cons.mp hp with rfl | hp
    · rw [lookup_append_none (lookup_none_of hxs)]
      simp only [List.lookup_cons, beq_self_eq_true]
      exact .some hv.1
    · have ih := zip_rev_lookup (List.nodup_cons.mp hn).2 (Nat.succ.inj hl) hv.2 p hp
      rcases ih with e | ⟨u, hu, hr⟩
      · exact .inl e
      · exact .inr ⟨u, lookup_append_some hu, hr⟩
  | [], _, _, _, _, _, p, hp => by simp at hp
  | _ :: _, [], _, _, hl, _, _, _ => by simp at hl
  | _ :: _, _ :: _, [], _, _, hv, _, _ => hv.elim
theorem binds_of {fd : FuncData} {xs : List Str} {as : List MV} {r : Rho} (hn : xs.Nodup) (hl : xs.length = as.length) (hx : (xs.all fun x => fd.scope.names.lookup x == some .local) = true) (hr : (r.all fun p => p.2.isUndef) = true)
    (hb : ∀ vs, VRs as vs → bindArgs fd ⟨vs, []⟩ = pure (xs.zip vs)) : ∀ s vs, VRs as vs → ∃ binds, BindsTo s fd ⟨vs, []⟩ binds ∧ (∀ y ∈ binds, fd.scope.names.lookup y.1 = some .local) ∧ ∀ p ∈ xs.zip as ++ r, LR p.2 (binds.reverse.lookup p.1) :=
  fun s vs hv => ⟨_, BindsTo.of_eq (hb vs hv), fun y hy => by
    have := List.all_eq_true.mp hx y.1 (List.of_mem_zip hy).1
    simpa using this, fun p hp => (List.mem_append.mp hp).elim (zip_rev_lookup hn hl hv p) fun hp => .inl (MV.isUndef_eq (List.all_eq_true.mp hr p hp))⟩
section
variable {vs : List Value} {Q : List Value → Prop} {a b c d : MV} {xs : List MV}
@[elab_as_elim] theorem vr0 (hv : VRs [] vs) (h : Q []) : Q vs := by
  cases vs with
  | nil => exact h
  | cons v vs => exact hv.elim
@[elab_as_elim] theorem vrc (hv : VRs (a :: xs) vs) (h : ∀ v us, VR a v → VRs xs us → Q (v :: us)) : Q vs := by
  cases vs with
  | nil => exact hv.elim
  | cons v vs => exact h v vs hv.1 hv.2
@[elab_as_elim] theorem va1 (hv : VRs [a] vs) (h : ∀ v, VR a v → Q [v]) : Q vs := vrc hv fun v _ h1 h2 => vr0 (Q := fun l => Q (v :: l)) h2 (h v h1)
@[elab_as_elim] theorem va2 (hv : VRs [a, b] vs) (h : ∀ v u, VR a v → VR b u → Q [v, u]) : Q vs := vrc hv fun v _ h1 h2 => va1 (Q := fun l => Q (v :: l)) h2 fun u => h v u h1
@[elab_as_elim] theorem va3 (hv : VRs [a, b, c] vs) (h : ∀ v u t, VR a v → VR b u → VR c t → Q [v, u, t]) : Q vs := vrc hv fun v _ h1 h2 => va2 (Q := fun l => Q (v :: l)) h2 fun u t => h v u t h1
@[elab_as_elim] theorem va4 (hv : VRs [a, b, c, d] vs) (h : ∀ v u t s, VR a v → VR b u → VR c t → VR d s → Q [v, u, t, s]) : Q vs := vrc hv fun v _ h1 h2 => va3 (Q := fun l => Q (v :: l)) h2 fun u t s => h v u t s h1
theorem vr1 (h : ∀ v, Q [v]) (hv : VRs [a] vs) : Q vs := va1 hv fun v _ => h v
theorem vr2 (h : ∀ v u, Q [v, u]) (hv : VRs [a, b] vs) : Q vs := va2 hv fun v u _ _ => h v u
theorem vr3 (h : ∀ v u t, Q [v, u, t]) (hv : VRs [a, b, c] vs) : Q vs := va3 hv fun v u t _ _ _ => h v u t
theorem vr4 (h : ∀ v u t s, Q [v, u, t, s]) (hv : VRs [a, b, c, d] vs) : Q vs := va4 hv fun v u t s _ _ _ _ => h v u t s
@[elab_as_elim] theorem va_r {p : Addr} (hv : VRs [.ref p] vs) (h : Q [.ref p]) : Q vs := va1 hv fun v e => by cases e; exact h
@[elab_as_elim] theorem va_i {i : Int} (hv : VRs [.int i] vs) (h : ∀ t, Q [.int i t]) : Q vs := va1 hv fun v ⟨t, e⟩ => by subst e; exact h t
@[elab_as_elim] theorem va_rv {p : Addr} (hv : VRs [.ref p, a] vs) (h : ∀ u, VR a u → Q [.ref p, u]) : Q vs := va2 hv fun v u e h1 => by cases e; exact h u h1
@[elab_as_elim] theorem va_rr {p q : Addr} (hv : VRs [.ref p, .ref q] vs) (h : Q [.ref p, .ref q]) : Q vs := va_rv hv fun u e => by cases e; exact h
@[elab_as_elim] theorem va_ri {p : Addr} {i : Int} (hv : VRs [.ref p, .int i] vs) (h : ∀ t, Q [.ref p, .int i t]) : Q vs := va_rv hv fun u ⟨t, e⟩ => by subst e; exact h t
end
theorem list5 {α : Type} {l : List α} (h : l.length = 5) : ∃ a b c d e, l = [a, b, c, d, e] := by
  rcases l with _ | ⟨a, _ | ⟨b, _ | ⟨c, _ | ⟨d, _ | ⟨e, _ | ⟨f, l⟩⟩⟩⟩⟩⟩
  · cases h
  · cases h
  · cases h
  · cases h
  · cases h
  · exact ⟨a, b, c, d, e, rfl⟩
  · exact absurd h (by simp)
@[elab_as_elim] theorem five_nat {P : Nat → Prop} {i : Nat} (hi : i < 5) (h0 : P 0) (h1 : P 1) (h2 : P 2) (h3 : P 3) (h4 : P 4) : P i := by
  rcases i with _ | _ | _ | _ | _ | i
  · exact h0
  · exact h1
  · exact h2
  · exact h3
  · exact h4
  · exact absurd hi (Nat.not_lt.mpr (Nat.le_add_left 5 i))
noncomputable def envS (nm : List (Str × NameKind)) (mr : List (Str × Const)) (cl : List (Str × Addr)) (L : Addr) (q : Str) (f : Addr) (cd : Value) : Env :=
  { scope := { kind := .function, names := nm, isGenerator := false, isCoroutine := false, more := mr }, locals := L, globals := mainGlobals, cells := cl, qual := q, func := some f, code := cd, frame := some L, builtins := builtinsNs }
section
variable {w : World} {G : Gl w} {A : Around} {L : Addr} {env : Env} {ρ ρ' : Rho} {μ μ' : Mu}
theorem c_fn {f : Addr} {fd : FuncData} {body : List Stmt} {oc : Value} {od : Option Addr} {osl : Array (Option Value)} {as : List MV} {P : MV → Mu → Prop} {nm : List (Str × NameKind)} {mr : List (Str × Const)} (xs : List Str) (r : Rho) (ho : (KK w.params).lookup f = some ⟨oc, od, .func fd, osl⟩) (hroom : A.depth < recursionLimit) (hbody : fd.body = .stmts body)
    (hcd : codeIn (KK w.params) fd.code fd.qualname = true) (hcell : (fd.scope.names.all fun x => !(x.2 == .cell)) = true) (hco : fd.scope.isCoroutine = false) (hgen : fd.scope.isGenerator = false) (hk : fd.scope.kind = .function)
    (hsc : fd.scope = { kind := .function, names := nm, isGenerator := false, isCoroutine := false, more := mr }) (hg : fd.globals = mainGlobals) (hcl : fd.closure = []) (hbi : fd.builtins = builtinsNs)
    (hn : (xs ++ r.map (·.1)).Nodup) (hl : xs.length = as.length) (hx : (xs.all fun x => fd.scope.names.lookup x == some .local) = true) (hr : (r.all fun p => p.2.isUndef) = true)
    (hb : ∀ vs, VRs as vs → bindArgs fd ⟨vs, []⟩ = pure (xs.zip vs))
    (h : ∀ L' q cd, X G (A.deeper (envS nm mr [] L' q f cd)) (envS nm mr [] L' q f cd).locals (execs body (envS nm mr [] L' q f cd)) (fun fl ρ μ' => P (retOf fl) μ') (xs.zip as ++ r) μ) : CC G A (.ref f) as P μ :=
  c_enter ho hbody hcd hroom hcell hco hgen hk (by
    rw [List.map_append, List.map_fst_zip (Nat.le_of_eq hl)]; exact hn) (binds_of (List.nodup_append.mp hn).1 hl hx hr hb) (fun L' => by
      have e : callEnv fd L' f = envS nm mr [] L' (fd.qualname ++ ".<locals>.") f fd.code := by
        unfold callEnv newEnv envS
        rw [hsc, hg, hcl, hbi]
      rw [e]
      exact h _ _ _)
end

noncomputable def big : Nat := 1000000
theorem big_le {n : Nat} (h : n ≤ big) : n + n ≤ sizeLine := by rw [sizeLine_eq]; unfold big at h; omega

theorem VRs.single {x : MV} {v : Value} (h : VR x v) : VRs [x] [v] := ⟨h, trivial⟩

section
variable {w : World} {G : Gl w} {A : Around} {L : Addr} {env : Env} {ρ ρ' : Rho} {μ μ' : Mu} {s₀ : Shared} {B : Addr → Option Obj} {s : Shared}

inductive SetP (d : Addr) (o : MO) (K : Mu → Prop) (μ : Mu) : Prop
  | mk (μ' : Mu) (hu : SetAt d o μ μ') (h : K μ')
inductive MkP (n : Nat) (K : Addr → Prop) : Prop
  | mk (h : n ≤ big) (k : ∀ a, K a)
theorem e_list {elts : List Expr} {pos : Pos} {P : MV → Rho → Mu → Prop} (h : Ts G A L (spliced (backTo pos (starEach elts env))) (fun vs ρ μ => MkP vs.length fun a => P (.ref a) ρ ((a, .list vs) :: μ)) ρ μ) : T G A L (eval (.List elts pos) env) P ρ μ :=
  fun s₀ B s hs => List_ (h.use hs fun xs vs ρ₁ μ₁ s₁ hv hs₁ q => by
    cases q with | mk hl hp =>
    exact wpAny_newList ⟨.ref _, _, _, rfl, by have := hs₁.push (o := .list xs) (x := { cls := .type "list", data := .seq vs.toArray }) (tk := s₁.toks) ⟨vs, 0, rfl, hv⟩ rfl; exact this, hp _⟩ (by have := big_le hl; rw [hv.length]; omega))
theorem e_tuple {elts : List Expr} {k : Nat} {pos : Pos} {P : MV → Rho → Mu → Prop} (h : Ts G A L (spliced (backTo pos (starEach elts env))) (fun vs ρ μ => MkP vs.length fun a => P (.ref a) ρ ((a, .tuple vs) :: μ)) ρ μ) : T G A L (eval (.Tuple elts k pos) env) P ρ μ :=
  fun s₀ B s hs => Tuple_ (h.use hs fun xs vs ρ₁ μ₁ s₁ hv hs₁ q => by
    cases q with | mk hl hp =>
    exact wpAny_newObj_type (T := "tuple") (data := .seq vs.toArray) ⟨.ref _, _, _, rfl, by have := hs₁.push (o := .tuple xs) (x := { cls := .type "tuple", data := .seq vs.toArray }) (tk := s₁.toks) ⟨vs, 0, rfl, hv⟩ rfl; exact this, hp _⟩
      (by show vs.toArray.size ≤ sizeLine; have := big_le hl; rw [List.size_toArray, hv.length]; omega))

inductive GetP {w : World} (G : Gl w) (A : Around) (s₀ : Shared) (B : Addr → Option Obj) (L : Addr) (ρ : Rho) (P : MV → Mu → Prop) (s : Shared) (a b : Value) : Prop
  | mk (T id : String) (h1 : typeLookup (.type T) "__getitem__" = pure (some (.builtin id))) (h2 : s.TypeIs a T) (h3 : wpAny (model PR w) A (getItem a b) (PostC G s₀ B L ρ P) NoE s)
noncomputable def GJ {w : World} (G : Gl w) (A : Around) (o i : MV) (P : MV → Mu → Prop) (μ : Mu) : Prop :=
  ∀ s₀ B L ρ s a b, St G s₀ B L ρ μ s → VR o a → VR i b → GetP G A s₀ B L ρ P s a b
theorem e_sub {value slice : Expr} {pos : Pos} {P : MV → Rho → Mu → Prop} (h : T G A L (eval value env) (fun o ρ μ => T G A L (eval slice env) (fun i ρ μ => GJ G A o i (fun v μ' => P v ρ μ') μ) ρ μ) ρ μ)
    (hs : ∀ o i, subscripted slice false o i = operate [o, i] (getItem o i) := by intro _ _; k_dflt rfl) : T G A L (eval (.Subscript value slice pos) env) P ρ μ :=
  fun s₀ B s hst => Subscript_ (h.use hst fun o a ρ₁ μ₁ s₁ ho hs₁ h₁ => h₁.use hs₁ fun i b ρ₂ μ₂ s₂ hi hs₂ h₂ => by
    obtain ⟨T, id, h1, h2, h3⟩ := h₂ s₀ B L ρ₂ s₂ a b hs₂ ho hi
    exact tail_any h2 h1 (wpAny_mono h3 (fun v s' q => q.use fun x μ' hx hs' hp => ⟨x, _, μ', hx, hs', hp⟩) fun _ _ f => f) (hs a b))
theorem g_list {a : Addr} {xs : List MV} {k : Int} {x : MV} {P : MV → Mu → Prop} (hm : (a, MO.list xs) ∈ μ) (h0 : 0 ≤ k) (hx : xs[k.toNat]? = some x) (h : P x μ) (hb : k < 2 ^ 63 := by omega) : GJ G A (.ref a) (.int k) P μ := by
  rintro s₀ B L ρ s _ b hs rfl ⟨t, rfl⟩
  obtain ⟨vs, n, ho, hv⟩ := hs.list hm
  obtain ⟨v, hv', hr⟩ := hv.get hx
  exact ⟨"list", _, slot_list_getitem.lookup, ⟨_, ho, rfl⟩, wpAny_getItem_list (isList_of ho) h0 hb (by simpa using hv') ⟨x, μ, hr, hs, h⟩⟩
theorem g_last {a : Addr} {xs : List MV} {x : MV} {P : MV → Mu → Prop} (hm : (a, MO.list xs) ∈ μ) (hx : xs[xs.length - 1]? = some x) (h : P x μ) : GJ G A (.ref a) (.int (-1)) P μ := by
  rintro s₀ B L ρ s _ b hs rfl ⟨t, rfl⟩
  obtain ⟨vs, n, ho, hv⟩ := hs.list hm
  obtain ⟨v, hv', hr⟩ := hv.get hx
  have hl := hv.length
  have hpos : 0 < xs.length := by
    cases xs with
    | nil => simp at hx
    | cons _ _ => simp
  refine ⟨"list", _, slot_list_getitem.lookup, ⟨_, ho, rfl⟩, wpAny_getItem_list_neg (isList_of ho) (by omega) (by simp; omega) (by omega) (x := v) ?_ ⟨x, μ, hr, hs, h⟩⟩
  have e : (-1 + (vs.toArray.size : Int)).toNat = xs.length - 1 := by simp; omega
  rw [e]; simpa using hv'

noncomputable def SJ {w : World} (G : Gl w) (A : Around) (o i v : MV) (P : Mu → Prop) (μ : Mu) : Prop :=
  ∀ s₀ B L ρ s a b c, St G s₀ B L ρ μ s → VR o a → VR i b → VR v c → wpAny (model PR w) A (setItem a b c) (PostU G s₀ B L ρ P) NoE s
theorem setSeq_obj {vs : List Value} {n i : Nat} {v : Value} : Obj.mapSeq (·.setIfInBounds i v) { cls := .type "list", data := .seq (List.toArray vs) n } = { cls := .type "list", data := .seq (List.toArray (vs.set i v)) n } := by
  simp [Obj.mapSeq]
theorem wpAny_setItem_plain {prog : Program} {E : Value → Shared → Prop} {l : Addr} {vs : List Value} {n : Nat} {k : Int} {t : Tok} {v : Value} {Q : Unit → Shared → Prop} (ho : s.heap.get? l = some { cls := .type "list", data := .seq (List.toArray vs) n })
    (h0 : 0 ≤ k) (hfit : k < 2 ^ 63) (hn : k < vs.length)
    (hQ : ∀ h', h'.get? l = some { cls := .type "list", data := .seq (List.toArray (vs.set k.toNat v)) n } → Heap.SameBut l s.heap h' → Q () { s with heap := h' }) : wpAny (model prog w) A (setItem (.ref l) (.int k t) v) Q E s := by
  have hl := isList_of ho
  unfold setItem
  try with_reducible refine wpAny_holding ?_
  first | refine wpAny_bind (wpAny_pure ?_) | skip
  refine wpAny_bind (wpAny_sequenceKey hl.typeIs (by decide) ?_)
  refine wpAny_bind (wpAny_callSpecial?_slot (name := Str.ofString "__setitem__") hl.typeIs slot_list_setitem
    (wpAny_call_entry slot_list_setitem hl.typeIs entry_list_setitem ?_ (args_list_setitem _ _ _)))
  show wpAny _ _ (Builtin.List.listSubscript? (.int k t) >>= _) _ _ s
  refine wpAny_bind (wpAny_listSubscript_int (fitsIndex_of h0 hfit) ?_)
  clear hfit
  obtain ⟨j, rfl⟩ := Int.eq_ofNat_of_zero_le h0
  have hj : j < vs.toArray.size := by simp; omega
  have hx' : vs.toArray[j]? = some vs.toArray[j] := Array.getElem?_eq_getElem hj
  show wpAny _ _ ((seqItemAt l j >>= fun r => pure (r.map (j, ·))) >>= _) _ _ s
  refine wpAny_bind (wpAny_bind (wpAny_seqItemAt ho rfl (wpAny_pure ?_)))
  rw [hx']
  show wpAny _ _ (setSeqItemAt l j v >>= _) _ _ s
  have hfin : (s.heap.update l (Obj.mapSeq (·.setIfInBounds j v))).get? l = some { cls := .type "list", data := .seq (List.toArray (vs.set j v)) n } := by
    rw [Heap.get?_update_self _ ho (by rw [setSeq_obj]; rfl), setSeq_obj]
  refine wpAny_bind (wpAny_setSeqItemAt ho rfl ?_)
  first
    | exact wpAny_bind (wpAny_pure (wpAny_pure ⟨.none, rfl, wpAny_pure (hQ _ hfin (Heap.SameBut.update ..))⟩))
    | exact wpAny_pure ⟨.none, rfl, wpAny_pure (hQ _ hfin (Heap.SameBut.update ..))⟩
theorem sj_list {a : Addr} {xs : List MV} {k : Int} {v : MV} {P : Mu → Prop} (hm : (a, MO.list xs) ∈ μ) (h0 : 0 ≤ k) (hk : k < xs.length) (hu : SetAt a (.list (xs.set k.toNat v)) μ μ') (h : P μ') (hb : k < 2 ^ 63 := by omega) : SJ G A (.ref a) (.int k) v P μ := by
  rintro s₀ B L ρ s _ b c hs rfl ⟨t, rfl⟩ hc
  obtain ⟨vs, n, ho, hv⟩ := hs.list hm
  exact wpAny_setItem_plain ho h0 hb (by rw [hv.length]; exact hk) fun h' ho' hsb => ⟨μ', hs.set hu hsb ⟨_, ho', _, _, rfl, hv.set _ hc⟩, h⟩
theorem s_setitem {o i value : Expr} {pp pos : Pos} {rest : List Stmt} {P : MF → Rho → Mu → Prop}
    (h : T G A L (eval value env) (fun v ρ μ => T G A L (eval o env) (fun ov ρ μ => T G A L (eval i env) (fun iv ρ μ => SJ G A ov iv v (fun μ' => X G A L (execs rest env) P ρ μ') μ) ρ μ) ρ μ) ρ μ)
    (hs : swapsWith value (some (.Subscript o i pp)) pos.line env = pure false := by k_dflt rfl) : X G A L (execs (.Assign [.Subscript o i pp] value pos :: rest) env) P ρ μ :=
  s_cons fun s₀ B s hst => wpAny_Assign_Subscript (h.use hst fun v a ρ₁ μ₁ s₁ hv hs₁ h₁ => h₁.use hs₁ fun ov b ρ₂ μ₂ s₂ ho hs₂ h₂ => h₂.use hs₂ fun iv c ρ₃ μ₃ s₃ hi hs₃ h₃ =>
    wpAny_mono (h₃ s₀ B L ρ₃ s₃ b c a hs₃ ho hi hv) (fun _ s' q => q.use fun μ' hs' hp => ⟨.next, _, _, rfl, hs', hp⟩) fun _ _ f => f) hs
theorem s_augitem {o i value : Expr} {pp pos : Pos} {op : Operator} {rest : List Stmt} {P : MF → Rho → Mu → Prop}
    (h : T G A L (eval o env) (fun ov ρ μ => T G A L (eval i env) (fun iv ρ μ => GJ G A ov iv (fun old μ => T G A L (eval value env) (fun v ρ μ => ∀ a b, VR old a → VR v b → T G A L (inplaceOp op a b) (fun new ρ μ =>
      SJ G A ov iv new (fun μ' => X G A L (execs rest env) P ρ μ') μ) ρ μ) ρ μ) μ) ρ μ) ρ μ)
    (hi : ∀ ov iv new, augStore i ov iv new = (do holding [new, ov, iv] (setItem ov iv new); release [new, ov, iv] []; pure .next) := by intros; k_dflt rfl) : X G A L (execs (.AugAssign (.Subscript o i pp) op value pos :: rest) env) P ρ μ :=
  s_cons fun s₀ B s hst => wpAny_AugAssign_SubscriptAny (h.use hst fun ov a ρ₁ μ₁ s₁ ho hs₁ h₁ => h₁.use hs₁ fun iv b ρ₂ μ₂ s₂ hi hs₂ h₂ => by
    obtain ⟨_, _, _, _, h3⟩ := h₂ s₀ B L ρ₂ s₂ a b hs₂ ho hi
    exact wpAny_mono h3 (fun old s₃ q => q.use fun x μ₃ hx hs₃ hp => hp.use hs₃ fun v c ρ₄ μ₄ s₄ hv hs₄ h₄ => (h₄ old c hx hv).use hs₄ fun new d ρ₅ μ₅ s₅ hd hs₅ h₅ =>
      wpAny_mono (h₅ s₀ B L ρ₅ s₅ a b d hs₅ ho hi hd) (fun _ s' q => q.use fun μ' hs' hp => ⟨.next, _, _, rfl, hs', hp⟩) fun _ _ f => f) fun _ _ f => f.elim) hi

noncomputable def IsT (G : Gl w) (T : String) (ov : MV) (μ : Mu) : Prop := ∀ s₀ B L ρ s v, St G s₀ B L ρ μ s → VR ov v → s.TypeIs v T ∧ ∀ a, v = .ref a → ∃ ob, s.heap.get? a = some ob ∧ ob.dict = none
inductive MethB {w : World} (G : Gl w) (A : Around) (L : Addr) (T id : String) (targs : Sem (List Value)) (P : MV → Rho → Mu → Prop) (ov : MV) (ρ : Rho) (μ : Mu) : Prop
  | mk (ht : IsT G T ov μ) (h : Ts G A L targs (fun vs ρ μ => CJ G A (.builtin id) (ov :: vs) (fun v μ' => P v ρ μ') μ) ρ μ)
theorem isT_list {a : Addr} {xs : List MV} (hm : (a, MO.list xs) ∈ μ) : IsT G "list" (.ref a) μ := by
  rintro s₀ B L ρ s _ hs rfl
  obtain ⟨vs, n, ho, hv⟩ := hs.list hm
  exact ⟨⟨_, ho, rfl⟩, fun a e => by cases e; exact ⟨_, ho, rfl⟩⟩
theorem e_meth {o : Expr} {name : Str} {apos pos : Pos} {args : List Expr} {T id : String} {P : MV → Rho → Mu → Prop} (pa : PlainAttrs T) (slot : Slot T name id) (hty : typeOf (.builtin id) = pure (.type "method_descriptor"))
    (h : Mine.T G A L (eval o env) (MethB G A L T id (spliced (backTo pos (starEach args env))) P) ρ μ)
    (hpl : (backTo pos (starEach args env)).any (·.1) = false := by kernel_rfl)
    (hbase : attributeBase o name env (eval o env) = eval o env := by k_dflt rfl)
    (hfew : ((backTo pos (starEach args env)).all (fun x => !x.1) && (backToKw pos (keywordEach [] env)).all (fun x => x.1.isSome)
      && decide (args.length + ([] : List Keyword).length + (if ([] : List Keyword).isEmpty then 0 else 1) < 30)) = true := by kernel_rfl)
    (hline : (apos.endLine == pos.line) = true := by kernel_rfl) : Mine.T G A L (eval (.Call (.Attribute o name apos) args [] pos) env) P ρ μ := fun s₀ B s hs =>
  wpAny_Call_method_late hbase hfew hline rfl (h.use hs fun ov v ρ₁ μ₁ s₁ hv hs₁ q => by
    cases q with | mk hT h₁ =>
    obtain ⟨h1, h2⟩ := hT s₀ B L ρ₁ s₁ v hs₁ hv
    exact ⟨T, id, pa, slot, hty, h1, h2, Calls.callWith_builtin hpl (evalArgs_any hpl (h₁.use hs₁ fun xs vs ρ₂ μ₂ s₂ hxs hs₂ h₂ => CJ.use (vs := v :: vs) h₂ hs₂ ⟨hv, hxs⟩ fun x u μ' s' hx hs' hp => ⟨x, _, _, hx, hs', hp⟩))⟩)
theorem c_append {a : Addr} {xs : List MV} {v : MV} {P : MV → Mu → Prop} (hm : (a, MO.list xs) ∈ μ) (hl : xs.length ≤ big) (hu : SetAt a (.list (xs ++ [v])) μ μ') (h : P .none μ') : CJ G A (.builtin "list.append") [.ref a, v] P μ := by
  intro s₀ B L ρ s vs hs hv
  refine va_rv hv fun u hu' => ?_
  · obtain ⟨vs, n, ho, hv⟩ := hs.list hm
    refine wpAny_list_append_plain (items := vs.toArray) ⟨n, ho⟩ (fun h' ⟨n', ho'⟩ hsb => ⟨.none, μ', rfl, hs.set hu hsb ⟨_, ho', vs ++ [u], n', by simp, hv.append (.single hu')⟩, h⟩) (by have := big_le hl; rw [List.size_toArray, hv.length]; omega)
theorem getLast_idx {xs : List MV} {x : MV} : xs[xs.length - 1]? = some x → 0 < xs.length := by cases xs <;> simp
theorem mapSeq_ne {xs ys : Array Value} {n : Nat} {f : Array Value → Array Value} (e : f xs = ys) (h : ys.size ≠ xs.size) : Obj.mapSeq f { cls := .type "list", data := .seq xs n } = { cls := .type "list", data := .seq ys (n + 1) } := by
  subst e
  simp [Obj.mapSeq, h]
theorem mapSeq_pop {vs : List Value} {n : Nat} (h : 0 < vs.length) : Obj.mapSeq (fun xs => xs.eraseIdxIfInBounds (vs.toArray.size - 1)) { cls := .type "list", data := .seq (List.toArray vs) n } = { cls := .type "list", data := .seq (List.toArray vs.dropLast) (n + 1) } := by
  have e : (List.toArray vs).eraseIdxIfInBounds (vs.toArray.size - 1) = vs.dropLast.toArray := by
    rw [List.eraseIdxIfInBounds_toArray]
    congr 1
    rw [List.size_toArray, List.eraseIdx_length_sub_one]
  have e2 : (List.toArray vs.dropLast).size ≠ (List.toArray vs).size := by simp; omega
  exact mapSeq_ne e e2
theorem c_pop {a : Addr} {xs : List MV} {x : MV} {P : MV → Mu → Prop} (hm : (a, MO.list xs) ∈ μ) (hl : xs.length ≤ big) (hx : xs[xs.length - 1]? = some x) (hu : SetAt a (.list xs.dropLast) μ μ') (h : P x μ') : CJ G A (.builtin "list.pop") [.ref a] P μ := by
  intro s₀ B L ρ s vs hs hv
  refine va_r hv ?_
  · obtain ⟨vs, n, ho, hv⟩ := hs.list hm
    obtain ⟨v, hv', hr⟩ := hv.get hx
    have hlen := hv.length
    have hpos := getLast_idx hx
    refine call_meets F.slot_list_pop ⟨_, ho, rfl⟩ F.entry_list_pop (F.args_list_pop_1 _) (MeetsSeq.list_pop_last a vs.toArray n v (by rw [List.size_toArray, hlen]; simpa using hv') (by have := big_le hl; rw [List.size_toArray, hlen]; omega)) ⟨ho, ?_⟩
    refine ⟨x, μ', hr, hs.set (tk := s.toks) hu (Heap.SameBut.update ..) ⟨_, Heap.get?_update_self _ ho (by rw [mapSeq_pop (by omega)]; rfl), vs.dropLast, n + 1, mapSeq_pop (by omega), hv.dropLast⟩, h⟩
theorem c_clear {a : Addr} {xs : List MV} {P : MV → Mu → Prop} (hm : (a, MO.list xs) ∈ μ) (hl : xs.length ≤ big) (hu : SetAt a (.list []) μ μ') (h : P .none μ') : CJ G A (.builtin "list.clear") [.ref a] P μ := by
  intro s₀ B L ρ s vs hs hv
  refine va_r hv ?_
  · obtain ⟨vs, n, ho, hv⟩ := hs.list hm
    refine call_meets F.slot_list_clear ⟨_, ho, rfl⟩ F.entry_list_clear (F.args_list_clear_1 _) (AutoSeq1.list_clear_list_0 a vs.toArray n (by have := big_le hl; rw [List.size_toArray, hv.length]; omega)) ⟨ho, ?_⟩
    exact ⟨.none, μ', rfl, hs.set (tk := s.toks) hu (Heap.SameBut.update ..) ⟨_, Heap.get?_update_self _ ho rfl, [], _, rfl, trivial⟩, h⟩
theorem c_extend {a b : Addr} {xs ys : List MV} {P : MV → Mu → Prop} (hm : (a, MO.list xs) ∈ μ) (hm' : (b, MO.list ys) ∈ μ) (hl : xs.length ≤ big) (hl' : ys.length ≤ big) (hu : SetAt a (.list (xs ++ ys)) μ μ') (h : P .none μ') : CJ G A (.builtin "list.extend") [.ref a, .ref b] P μ := by
  intro s₀ B L ρ s vs hs hv
  refine va_rr hv ?_
  · obtain ⟨vs, n, ho, hv⟩ := hs.list hm
    obtain ⟨us, k, ho', hv'⟩ := hs.list hm'
    have h1 := hv.length
    have h2 := hv'.length
    refine call_meets F.slot_list_extend ⟨_, ho, rfl⟩ F.entry_list_extend (F.args_list_extend_2 _ _) (AutoSeq1.list_extend_list_list_0 a vs.toArray n b us.toArray k ?_ ?_ ?_) ⟨ho, ho', ?_⟩
    · intro q
      have := (Bool.and_eq_true_iff.mp q).2
      unfold Builtin.List.listTooLong at this
      have h3 : vs.toArray.size + us.toArray.size ≤ 2000000 := by unfold big at hl hl'; simp; omega
      generalize vs.toArray.size + us.toArray.size = z at this h3
      rw [sizeLine_eq] at this
      simp at this
      omega
    · rw [sizeLine_eq]; unfold big at hl; simp; omega
    · rw [sizeLine_eq]; unfold big at hl hl'; simp; omega
    · refine ⟨.none, μ', rfl, hs.set (tk := s.toks) hu (Heap.SameBut.update ..) ⟨_, Heap.get?_update_self _ ho rfl, vs ++ us, (if ((List.toArray (vs ++ us)).size == (List.toArray vs).size) = true then n else n + 1), ?_, hv.append hv'⟩, h⟩
      rw [← List.append_toArray]
      rfl
end

section
open PySem.SeqAt

noncomputable def mints (ns : List Int) : List MV := ns.map .int
noncomputable def mstrs (xs : List Str) : List MV := xs.map .str
theorem ints_are : ∀ {ns : List Int} {vs : List Value}, VRs (mints ns) vs → IntsAre vs ns
  | [], [], _ => .nil
  | n :: ns, v :: vs, ⟨⟨t, e⟩, h⟩ => by subst e; exact .cons n t (ints_are h)
  | [], _ :: _, h => h.elim
  | _ :: _, [], h => h.elim
theorem of_ints : ∀ {ns : List Int} {vs : List Value}, IntsAre vs ns → VRs (mints ns) vs
  | _, _, .nil => trivial
  | _, _, .cons n t h => ⟨⟨t, rfl⟩, of_ints h⟩

section
variable {w : World} {G : Gl w} {A : Around} {L : Addr} {env : Env} {ρ ρ' : Rho} {μ μ' : Mu} {s₀ : Shared} {B : Addr → Option Obj} {s : Shared}

theorem e_callb {x : Str} {id : String} {p pos : Pos} {args : List Expr} {P : MV → Rho → Mu → Prop} (e : nsIn (KK w.params) mainGlobals x = some none) (hb : bootBuiltins x = some (.builtin id)) (hn : x ≠ "__name__")
    (h : Ts G A L (spliced (backTo pos (starEach args env))) (fun vs ρ μ => CJ G A (.builtin id) vs (fun v μ' => P v ρ μ') μ) ρ μ)
    (hpl : (backTo pos (starEach args env)).any (·.1) = false := by kernel_rfl)
    (hk : GlobOk env x := by kernel_rfl) :
    T G A L (eval (.Call (.Name x p) args [] pos) env) P ρ μ := fun s₀ B s hs => by
  refine wpAny_Call_NameR (builtin_go e hb hn hk hs (Calls.callWith_builtin hpl (evalArgs_any hpl ?_)))
  exact h.use hs fun xs vs ρ₂ μ₂ s₂ hxs hs₂ h₂ => h₂.use hs₂ hxs fun x v μ' s' hx hs' hp => ⟨x, _, _, hx, hs', hp⟩
theorem e_callt {x : Str} {T : String} {p pos : Pos} {args : List Expr} {P : MV → Rho → Mu → Prop} (e : nsIn (KK w.params) mainGlobals x = some none) (hb : bootBuiltins x = some (.type T)) (hn : x ≠ "__name__")
    (h : Ts G A L (spliced (backTo pos (starEach args env))) (fun vs ρ μ => CJ G A (.type T) vs (fun v μ' => P v ρ μ') μ) ρ μ)
    (hpl : (backTo pos (starEach args env)).any (·.1) = false := by kernel_rfl)
    (hk : GlobOk env x := by kernel_rfl) :
    Mine.T G A L (eval (.Call (.Name x p) args [] pos) env) P ρ μ := fun s₀ B s hs => by
  refine wpAny_Call_NameR (builtin_go e hb hn hk hs (PySem.callWith_type hpl (evalArgs_any hpl ?_)))
  exact h.use hs fun xs vs ρ₂ μ₂ s₂ hxs hs₂ h₂ => h₂.use hs₂ hxs fun x v μ' s' hx hs' hp => ⟨x, _, _, hx, hs', hp⟩

theorem c_len {a : Addr} {xs : List MV} {P : MV → Mu → Prop} (hm : (a, MO.list xs) ∈ μ) (hl : xs.length ≤ big) (h : P (.int xs.length) μ) : CJ G A (.builtin "len") [.ref a] P μ := by
  intro s₀ B L ρ s vs hs hv
  refine va_r hv ?_
  · obtain ⟨vs, n, ho, hv⟩ := hs.list hm
    have h1 := hv.length
    unfold big at hl
    exact len_list (isList_of ho) (by simp; omega) ⟨_, μ, by rw [List.size_toArray, h1]; exact vi, hs.toks _, h⟩
theorem c_lenT {a : Addr} {xs : List MV} {P : MV → Mu → Prop} (hm : (a, MO.tuple xs) ∈ μ) (hl : xs.length ≤ big) (h : P (.int xs.length) μ) : CJ G A (.builtin "len") [.ref a] P μ := by
  intro s₀ B L ρ s vs hs hv
  refine va_r hv ?_
  · obtain ⟨vs, n, ho, hv⟩ := hs.tuple hm
    have h1 := hv.length
    unfold big at hl
    refine call_len_slot (n := xs.length) ⟨_, ho, rfl⟩ F.slot_tuple_len (fun Q' hq => call_meets F.slot_tuple_len ⟨_, ho, rfl⟩ F.entry_tuple_len (F.args_tuple_len_1 _) (AutoSeq1.tuple___len___tuple_0 a vs.toArray n) ⟨ho, by rw [List.size_toArray, h1]; exact hq⟩) (by omega) (by omega) ⟨_, μ, vi, hs.toks _, h⟩
theorem c_range {n : Int} {P : MV → Mu → Prop} (h : ∀ r t u v, P (.ref r) ((r, .raw (rangeObj n t u v)) :: μ)) : CJ G A (.type "range") [.int n] P μ := by
  intro s₀ B L ρ s vs hs hv
  refine va_i hv fun t => ?_
  · exact call_range_1 ⟨_, _, vr, by have := hs.push (o := .raw (rangeObj n s.toks t (s.toks + 1))) (tk := s.toks + 1 + 1) rfl rfl; exact this, h _ _ _ _⟩

theorem t_list {a : Addr} {xs : List MV} {P : Bool → Rho → Mu → Prop} (hm : (a, MO.list xs) ∈ μ) (hl : xs.length ≤ big) (h : P (!xs.isEmpty) ρ μ) : ∀ v, VR (.ref a) v → Tb G A L (truthy v) P ρ μ := by
  rintro _ rfl s₀ B s hs
  obtain ⟨vs, n, ho, hv⟩ := hs.list hm
  have h1 := hv.length
  unfold big at hl
  refine wpAny_truthy_list (isList_of ho) (by simp; omega) ⟨_, ρ, μ, rfl, hs.toks _, ?_⟩
  have : (vs.toArray.isEmpty) = xs.isEmpty := by cases vs <;> cases xs <;> simp_all
  rw [this]; exact h
theorem t_bool {b : Bool} {P : Bool → Rho → Mu → Prop} (h : P b ρ μ) : ∀ v, VR (.bool b) v → Tb G A L (truthy v) P ρ μ := by
  rintro _ rfl s₀ B s hs
  exact wpAny_truthy_bool ⟨_, _, _, rfl, hs, h⟩
theorem t_none {P : Bool → Rho → Mu → Prop} (h : P false ρ μ) : ∀ v, VR .none v → Tb G A L (truthy v) P ρ μ := by
  rintro _ rfl s₀ B s hs
  exact truthy_none ⟨_, _, _, rfl, hs, h⟩
theorem o_is_none {x : MV} {P : MV → Rho → Mu → Prop} (h : P (.bool (match x with | .none => true | _ => false)) ρ μ) (hx : x ≠ .undef := by exact nofun) (hc : ∀ v, x ≠ .con v := by intro _; exact nofun) : ∀ a b, VR x a → VR .none b → T G A L (compareOp .Is a b) P ρ μ := by
  rintro a _ ha rfl s₀ B s hs
  refine wpAny_is_plain ?_ ⟨_, _, _, vb, hs, ?_⟩
  · cases x with
    | undef => exact absurd rfl hx
    | con v => exact absurd rfl (hc v)
    | none => cases ha; rfl
    | bool b => cases ha; rfl
    | int i => obtain ⟨t, rfl⟩ := ha; rfl
    | str i => obtain ⟨t, rfl⟩ := ha; rfl
    | ref i => cases ha; rfl
  · cases x with
    | undef => exact absurd rfl hx
    | con v => exact absurd rfl (hc v)
    | none => cases ha; exact h
    | bool b => cases ha; exact h
    | int i => obtain ⟨t, rfl⟩ := ha; exact h
    | str i => obtain ⟨t, rfl⟩ := ha; exact h
    | ref i => cases ha; exact h
theorem o_isnot_none {x : MV} {P : MV → Rho → Mu → Prop} (h : P (.bool (match x with | .none => false | _ => true)) ρ μ) (hx : x ≠ .undef := by exact nofun) (hc : ∀ v, x ≠ .con v := by intro _; exact nofun) : ∀ a b, VR x a → VR .none b → T G A L (compareOp .IsNot a b) P ρ μ := by
  rintro a _ ha rfl s₀ B s hs
  refine wpAny_isNot_plain ?_ ⟨_, _, _, vb, hs, ?_⟩
  · cases x with
    | undef => exact absurd rfl hx
    | con v => exact absurd rfl (hc v)
    | none => cases ha; rfl
    | bool b => cases ha; rfl
    | int i => obtain ⟨t, rfl⟩ := ha; rfl
    | str i => obtain ⟨t, rfl⟩ := ha; rfl
    | ref i => cases ha; rfl
  · cases x with
    | undef => exact absurd rfl hx
    | con v => exact absurd rfl (hc v)
    | none => cases ha; exact h
    | bool b => cases ha; exact h
    | int i => obtain ⟨t, rfl⟩ := ha; exact h
    | str i => obtain ⟨t, rfl⟩ := ha; exact h
    | ref i => cases ha; exact h
theorem o_isnot_bool {b c : Bool} {P : MV → Rho → Mu → Prop} (h : P (.bool (b != c)) ρ μ) : ∀ x y, VR (.bool b) x → VR (.bool c) y → T G A L (compareOp .IsNot x y) P ρ μ := by
  rintro _ _ rfl rfl s₀ B s hs
  refine wpAny_isNot_plain (by cases b <;> cases c <;> rfl) ⟨_, _, _, vb, hs, ?_⟩
  have : (!(Value.bool b == Value.bool c)) = (b != c) := by cases b <;> cases c <;> rfl
  rw [this]; exact h
theorem o_eq_nil {a b : Addr} {xs : List MV} {P : MV → Rho → Mu → Prop} (hm : (a, MO.list xs) ∈ μ) (hm' : (b, MO.list []) ∈ μ) (hu : A.units < cLine) (h : P (.bool xs.isEmpty) ρ μ) : ∀ x y, VR (.ref a) x → VR (.ref b) y → T G A L (compareOp .Eq x y) P ρ μ := by
  rintro _ _ rfl rfl s₀ B s hs
  obtain ⟨vs, n, ho, hv⟩ := hs.list hm
  obtain ⟨us, n', ho', hv'⟩ := hs.list hm'
  have h1 := hv.length
  have h2 := hv'.length
  cases xs with
  | nil =>
    obtain rfl : vs = [] := List.eq_nil_of_length_eq_zero h1
    obtain rfl : us = [] := List.eq_nil_of_length_eq_zero h2
    exact eq_listAt (e := fun _ => true) (isList_of ho) (isList_of ho') rfl hu (fun j h1 => by simp at h1) ⟨_, _, _, vb, hs, h⟩
  | cons x xs => exact eq_list_lengthsAt (isList_of ho) (isList_of ho') (by simp [h1, h2]) hu ⟨_, _, _, vb, hs, h⟩
theorem o_ne_nil {a b : Addr} {xs : List MV} {P : MV → Rho → Mu → Prop} (hm : (a, MO.list xs) ∈ μ) (hm' : (b, MO.list []) ∈ μ) (hu : A.units < cLine) (h : P (.bool (!xs.isEmpty)) ρ μ) : ∀ x y, VR (.ref a) x → VR (.ref b) y → T G A L (compareOp .NotEq x y) P ρ μ := by
  rintro _ _ rfl rfl s₀ B s hs
  obtain ⟨vs, n, ho, hv⟩ := hs.list hm
  obtain ⟨us, n', ho', hv'⟩ := hs.list hm'
  have h1 := hv.length
  have h2 := hv'.length
  cases xs with
  | nil =>
    obtain rfl : vs = [] := List.eq_nil_of_length_eq_zero h1
    obtain rfl : us = [] := List.eq_nil_of_length_eq_zero h2
    exact RcNeAt.lists (e := fun _ => true) (isList_of ho) (isList_of ho') rfl hu (fun j h1 => by simp at h1) _ _ _ _ ⟨_, _, _, vb, hs, h⟩
  | cons x xs => exact RcNeAt.lists_lengths (isList_of ho) (isList_of ho') (by simp [h1, h2]) hu _ _ _ _ ⟨_, _, _, vb, hs, h⟩
noncomputable def EqM {w : World} (G : Gl w) (A : Around) (μ : Mu) (x y : MV) : Prop := ∀ s₀ B L ρ s v u, St G s₀ B L ρ μ s → VR x v → VR y u → EqAt A s v u true
theorem eqM_int {i : Int} : EqM G A μ (.int i) (.int i) := by
  rintro s₀ B L ρ s _ _ hs ⟨t, rfl⟩ ⟨u, rfl⟩
  have := EqAt.int_int (A := A) (s := s) i t i u
  rwa [beq_self_eq_true] at this
theorem eqM_str {i : Str} : EqM G A μ (.str i) (.str i) := by
  rintro s₀ B L ρ s _ _ hs ⟨t, rfl⟩ ⟨u, rfl⟩
  have := EqAt.str_str (A := A) (s := s) i t i u
  rwa [beq_self_eq_true] at this
theorem eqM_none : EqM G A μ .none .none := by
  rintro s₀ B L ρ s _ _ hs rfl rfl
  exact EqAt.same _
theorem items_eq {xs ys : List MV} {vs us : List Value} (hs : St G s₀ B L ρ μ s) (hv : VRs xs vs) (hu : VRs ys us) (hl : xs.length = ys.length) (h : ∀ (i : Nat) x y, xs[i]? = some x → ys[i]? = some y → EqM G A μ x y) :
    ∀ j (h1 : j < vs.toArray.size) (h2 : j < us.toArray.size), EqAt A s vs.toArray[j] us.toArray[j] true := fun j h1 h2 => by
  have l1 := hv.length
  have l2 := hu.length
  simp only [List.size_toArray] at h1 h2
  obtain ⟨v, hv1, hv2⟩ := hv.get (List.getElem?_eq_getElem (l := xs) (by omega : j < xs.length))
  obtain ⟨u, hu1, hu2⟩ := hu.get (List.getElem?_eq_getElem (l := ys) (by omega : j < ys.length))
  have e1 : vs.toArray[j] = v := by simp; exact (List.getElem_eq_iff _).mpr hv1
  have e2 : us.toArray[j] = u := by simp; exact (List.getElem_eq_iff _).mpr hu1
  rw [e1, e2]
  exact h j _ _ (List.getElem?_eq_getElem (by omega)) (List.getElem?_eq_getElem (by omega)) _ _ _ _ _ _ _ hs hv2 hu2
theorem eqM_list {a b : Addr} {xs ys : List MV} (hm : (a, MO.list xs) ∈ μ) (hm' : (b, MO.list ys) ∈ μ) (hu : A.units < cLine) (hl : xs.length = ys.length) (h : ∀ (i : Nat) x y, xs[i]? = some x → ys[i]? = some y → EqM G A.in1 μ x y) : EqM G A μ (.ref a) (.ref b) := by
  rintro s₀ B L ρ s _ _ hs rfl rfl
  by_cases hab : a = b
  · subst hab; exact EqAt.same _
  obtain ⟨vs, n, ho, hv⟩ := hs.list hm
  obtain ⟨us, n', ho', hv'⟩ := hs.list hm'
  have := RcAt.lists (e := fun _ => true) (isList_of ho) (isList_of ho') (by simp [hv.length, hv'.length, hl]) hu (items_eq hs hv hv' hl h)
  refine EqAt.of_refs hab ?_
  have e : ((List.range vs.toArray.size).all fun _ => true) = true := by simp
  rwa [e] at this
theorem o_ne_same {a b : Addr} {xs ys : List MV} {P : MV → Rho → Mu → Prop} (hm : (a, MO.list xs) ∈ μ) (hm' : (b, MO.list ys) ∈ μ) (hu : A.units < cLine) (hl : xs.length = ys.length) (he : ∀ (i : Nat) x y, xs[i]? = some x → ys[i]? = some y → EqM G A.in1 μ x y)
    (h : P (.bool false) ρ μ) : ∀ x y, VR (.ref a) x → VR (.ref b) y → T G A L (compareOp .NotEq x y) P ρ μ := by
  rintro _ _ rfl rfl s₀ B s hs
  obtain ⟨vs, n, ho, hv⟩ := hs.list hm
  obtain ⟨us, n', ho', hv'⟩ := hs.list hm'
  refine RcNeAt.lists (e := fun _ => true) (isList_of ho) (isList_of ho') (by simp [hv.length, hv'.length, hl]) hu (items_eq hs hv hv' hl he) _ _ _ _ ⟨.bool false, ρ, μ, ?_, hs, h⟩
  simp [VR]
theorem any_ints {ns : List Int} {vs : List Value} {k : Int} (e : Value → Bool) (he : ∀ n t, e (.int n t) = (n == k)) (h : VRs (mints ns) vs) : vs.toArray.any e = ns.contains k := by
  rw [List.any_toArray]
  induction ns generalizing vs with
  | nil => cases vs with
    | nil => rfl
    | cons _ _ => exact h.elim
  | cons n ns ih => cases vs with
    | nil => exact h.elim
    | cons v vs =>
      obtain ⟨⟨t, rfl⟩, h⟩ := h
      simp only [List.any_cons, List.contains_cons, ih h, he]
      rw [Bool.beq_comm]
noncomputable def isI (k : Int) : Value → Bool
  | .int n _ => n == k
  | _ => false
theorem o_in_ints {a : Addr} {ns : List Int} {k : Int} {P : MV → Rho → Mu → Prop} (hm : (a, MO.list (mints ns)) ∈ μ) (h : P (.bool (ns.contains k)) ρ μ) : ∀ x y, VR (.int k) x → VR (.ref a) y → T G A L (compareOp .In x y) P ρ μ := by
  rintro _ _ ⟨t, rfl⟩ rfl s₀ B s hs
  obtain ⟨vs, n, ho, hv⟩ := hs.list hm
  refine in_listAt (isI k) (isList_of ho) (fun y hy => ?_) ⟨_, _, _, vb, hs, by rw [any_ints _ (fun _ _ => rfl) hv]; exact h⟩
  obtain ⟨i, hi, rfl⟩ := List.getElem_of_mem (List.mem_toArray.mp hy)
  have hl := hv.length
  obtain ⟨v, hv1, hv2⟩ := hv.get (List.getElem?_eq_getElem (l := mints ns) (by omega : i < (mints ns).length))
  have e1 : vs[i] = v := (List.getElem_eq_iff _).mpr hv1
  rw [e1]
  simp only [mints, List.getElem_map] at hv2
  obtain ⟨u, rfl⟩ := hv2
  exact EqAt.int_int _ _ _ _
theorem o_notin_ints {a : Addr} {ns : List Int} {k : Int} {P : MV → Rho → Mu → Prop} (hm : (a, MO.list (mints ns)) ∈ μ) (h : P (.bool (!ns.contains k)) ρ μ) : ∀ x y, VR (.int k) x → VR (.ref a) y → T G A L (compareOp .NotIn x y) P ρ μ := by
  rintro _ _ ⟨t, rfl⟩ rfl s₀ B s hs
  obtain ⟨vs, n, ho, hv⟩ := hs.list hm
  refine notIn_listAt (isI k) (isList_of ho) (fun y hy => ?_) ⟨_, _, _, vb, hs, by rw [any_ints _ (fun _ _ => rfl) hv]; exact h⟩
  obtain ⟨i, hi, rfl⟩ := List.getElem_of_mem (List.mem_toArray.mp hy)
  have hl := hv.length
  obtain ⟨v, hv1, hv2⟩ := hv.get (List.getElem?_eq_getElem (l := mints ns) (by omega : i < (mints ns).length))
  have e1 : vs[i] = v := (List.getElem_eq_iff _).mpr hv1
  rw [e1]
  simp only [mints, List.getElem_map] at hv2
  obtain ⟨u, rfl⟩ := hv2
  exact EqAt.int_int _ _ _ _
theorem c_sorted {a : Addr} {ns : List Int} {P : MV → Mu → Prop} (hm : (a, MO.list (mints ns)) ∈ μ) (hl : ns.length < 64) (h : ∀ b ns', ns'.Perm ns → ns'.Pairwise (· ≤ ·) → P (.ref b) ((b, .list (mints ns')) :: μ)) : CJ G A (.builtin "sorted") [.ref a] P μ := by
  intro s₀ B L ρ s vs hs hv
  refine va_r hv ?_
  · obtain ⟨vs, n, ho, hv⟩ := hs.list hm
    have h1 := hv.length
    refine sorted_ints (isList_of ho) (ints_are hv) (by rw [h1]; simpa [mints] using hl) fun out ns' a1 a2 a3 => ?_
    obtain ⟨e, he⟩ := sortedAll_at s.heap vs out
    have hn : s.heap.get? (s.heap.objs.size + 1) = none := by
      cases q : s.heap.get? (s.heap.objs.size + 1) with
      | none => rfl
      | some o => exact absurd (Heap.lt_size q) (Nat.not_lt.mpr (Nat.le_succ _))
    exact ⟨_, _, vr, hs.new (o := .list (mints ns')) (tk := s.toks) hn (Nat.le_succ _) (fun _ _ => sortedAll_old) ⟨_, he, out.toList, e, by simp [seqObj], of_ints a1⟩, h _ ns' a2 a3⟩
theorem o_addlist {a b : Addr} {xs ys : List MV} {P : MV → Rho → Mu → Prop} (hm : (a, MO.list xs) ∈ μ) (hm' : (b, MO.list ys) ∈ μ) (hl : xs.length ≤ big) (hl' : ys.length ≤ big) (h : ∀ c, P (.ref c) ρ ((c, .list (xs ++ ys)) :: μ)) :
    ∀ x y, VR (.ref a) x → VR (.ref b) y → T G A L (binaryOp .Add x y) P ρ μ := by
  rintro _ _ rfl rfl s₀ B s hs
  obtain ⟨vs, n, ho, hv⟩ := hs.list hm
  obtain ⟨us, n', ho', hv'⟩ := hs.list hm'
  have h1 := hv.length
  have h2 := hv'.length
  refine binaryOp_concat ⟨_, ho, rfl⟩ ⟨_, ho', rfl⟩ noFill_list_add seq_list_add (call_meets F.slot_list_add ⟨_, ho, rfl⟩ F.entry_list_add (F.args_list_add_2 _ _) (AutoSeq1.list___add___list_list_0 a vs.toArray n b us.toArray n' ?_) ⟨ho, ho', ?_⟩)
  · rw [sizeLine_eq]; unfold big at hl hl'; simp; omega
  · refine ⟨_, _, _, vr, ?_, h _⟩
    have := hs.push (o := .list (xs ++ ys)) (x := { cls := .type "list", data := .seq (vs.toArray ++ us.toArray) }) (tk := s.toks) ⟨vs ++ us, 0, by simp, hv.append hv'⟩ rfl
    exact this
theorem o_addstr {x y : Str} {P : MV → Rho → Mu → Prop} (hl : x.length + y.length ≤ sizeLine) (h : P (.str (x ++ y)) ρ μ) : ∀ a b, VR (.str x) a → VR (.str y) b → T G A L (binaryOp .Add a b) P ρ μ := by
  rintro _ _ ⟨t, rfl⟩ ⟨u, rfl⟩ s₀ B s hs
  exact add_str (fun t' tk => ⟨_, _, _, vs, hs.toks _, h⟩) hl
end
end

section
open PySem.SeqAt PySem.MeetsSeq3
open PySem.AutoSeq1 (wpAny_loadPart')

noncomputable def lexLt : List Int → List Int → Bool
  | [], [] => false
  | [], _ :: _ => true
  | _ :: _, [] => false
  | x :: xs, y :: ys => if x == y then lexLt xs ys else decide (x < y)

theorem ints_at {ns : List Int} {vs : List Value} (h : IntsAre vs ns) {i : Nat} (hi : i < ns.length) : ∃ t, vs.toArray[i]? = some (.int ns[i] t) := by
  have := of_ints h
  obtain ⟨v, hv, t, rfl⟩ := VRs.get this (i := i) (x := .int ns[i]) (by simp [mints, hi])
  exact ⟨t, by simpa using hv⟩

theorem lt_loop (l b : Addr) (vs us : List Value) (ns ms : List Int) (n n2 : Nat) (hv : IntsAre vs ns) (hu : IntsAre us ms) (k : Nat) :
    ∀ i : Nat, ns.length - i = k → i ≤ ns.length → i ≤ ms.length → Meets (Builtin.«list.__eq__.loop» ⟨[.ref l, .ref b, rawInt i, rawInt 0], []⟩)
      (fun A R s => s.heap.get? l = some { cls := .type "list", dict := none, data := .seq vs.toArray n, slots := #[] } ∧ s.heap.get? b = some { cls := .type "list", dict := none, data := .seq us.toArray n2, slots := #[] } ∧
        R (.ok (.ret (.bool (lexLt (ns.drop i) (ms.drop i))))) s) := by
  have l1 : vs.length = ns.length := hv.length
  have l2 : us.length = ms.length := hu.length
  induction k with
  | zero =>
    intro i hk h1 h2 prog w A R s h
    obtain ⟨hp, g, d, tk, os⟩ := s; obtain ⟨hl, hb, h⟩ := h
    obtain rfl : i = ns.length := by omega
    wp_walk using wpAny_loadPart' hl, wpAny_loadPart' hb
    have hi1 : vs.toArray[((ns.length : Nat) : Int).toNat]? = none := by simp; omega
    rw [List.drop_length] at h
    rw [hi1]
    wp_walk using wpAny_loadPart' hl, wpAny_loadPart' hb
    show R (.ok (.ret (.bool (decide (vs.toArray.size < us.toArray.size))))) _
    have e : decide (vs.toArray.size < us.toArray.size) = lexLt [] (ms.drop ns.length) := by
      cases hd : ms.drop ns.length with
      | nil =>
        have := List.drop_eq_nil_iff.mp hd
        simp [lexLt]; omega
      | cons x xs =>
        have : ns.length < ms.length := by
          rcases Nat.lt_or_ge ns.length ms.length with q | q
          · exact q
          · rw [List.drop_eq_nil_iff.mpr q] at hd; cases hd
        simp [lexLt]; omega
    rw [e]; exact h
  | succ k ih =>
    intro i hk h1 h2 prog w A R s h
    obtain ⟨hp, g, d, tk, os⟩ := s; obtain ⟨hl, hb, h⟩ := h
    have hlt : i < ns.length := by omega
    obtain ⟨t, ht⟩ := ints_at hv hlt
    have hi1 : vs.toArray[((i : Nat) : Int).toNat]? = some (.int ns[i] t) := ht
    have d1 : ns.drop i = ns[i] :: ns.drop (i + 1) := List.drop_eq_getElem_cons hlt
    wp_walk using wpAny_loadPart' hl, wpAny_loadPart' hb
    by_cases hlt2 : i < ms.length
    · obtain ⟨u, hu'⟩ := ints_at hu hlt2
      have hi2 : us.toArray[((i : Nat) : Int).toNat]? = some (.int ms[i] u) := hu'
      have d2 : ms.drop i = ms[i] :: ms.drop (i + 1) := List.drop_eq_getElem_cons hlt2
      have hc : ((i : Int) + 1) = ((i + 1 : Nat) : Int) := by push_cast; rfl
      rw [d1, d2] at h
      rw [hi1, hi2]
      refine wpAny_bind (EqAt.int_int _ _ _ _ prog w _ _ ?_)
      cases hb' : (ns[i] == ms[i]) with
      | true =>
        simp only [lexLt, hb'] at h
        wp_walk
        rw [hc]
        exact ⟨plainId_quiet plain_eq_loop _, codeAny_builtin entry_eq_loop (by
          rw [Around.under_plainId plain_eq_loop _]
          exact ih (i + 1) (by omega) (by omega) (by omega) prog w A R _ ⟨hl, hb, by simpa using h⟩)⟩
      | false =>
        simp only [lexLt, hb'] at h
        wp_walk using wpAny_loadPart' hl, wpAny_loadPart' hb
        rw [hi1, hi2]
        show wpAny _ _ (richCompare .Lt (.int ns[i] t) (.int ms[i] u) >>= fun r => ret r) _ _ _
        refine wpAny_bind (lt_int ?_)
        exact wpAny_pure (by simpa using h)
    · have hi2 : us.toArray[((i : Nat) : Int).toNat]? = none := by simp; omega
      have d2 : ms.drop i = [] := List.drop_eq_nil_iff.mpr (by omega)
      rw [d1, d2] at h
      rw [hi1, hi2]
      wp_walk using wpAny_loadPart' hl, wpAny_loadPart' hb
      show R (.ok (.ret (.bool (decide (vs.toArray.size < us.toArray.size))))) _
      have e : decide (vs.toArray.size < us.toArray.size) = false := by simp; omega
      rw [e]; exact h
theorem list_lt (l b : Addr) (vs us : List Value) (ns ms : List Int) (n n2 : Nat) (hv : IntsAre vs ns) (hu : IntsAre us ms) : Meets (Builtin.«list.__lt__» ⟨[.ref l, .ref b], []⟩)
      (fun A R s => s.heap.get? l = some { cls := .type "list", dict := none, data := .seq vs.toArray n, slots := #[] } ∧ s.heap.get? b = some { cls := .type "list", dict := none, data := .seq us.toArray n2, slots := #[] } ∧
        R (.ok (.ret (.bool (lexLt ns ms)))) s) := by
  intro prog w A R s h
  obtain ⟨hp, g, d, tk, os⟩ := s; obtain ⟨hl, hb, h⟩ := h
  have f3 := AutoSeq1.sub_list_list
  wp_walk using wpAny_loadPart' hl, wpAny_loadPart' hb
  exact ⟨plainId_quiet plain_eq_loop _, codeAny_builtin entry_eq_loop (by
    rw [Around.under_plainId plain_eq_loop _]
    exact lt_loop l b vs us ns ms n n2 hv hu _ 0 rfl (Nat.zero_le _) (Nat.zero_le _) prog w A R _ ⟨hl, hb, by simpa using h⟩)⟩

section
variable {w : World} {G : Gl w} {A : Around} {L : Addr} {env : Env} {ρ ρ' : Rho} {μ μ' : Mu} {s₀ : Shared} {B : Addr → Option Obj} {s : Shared}
theorem o_lt_list {a b : Addr} {ns ms : List Int} {P : MV → Rho → Mu → Prop} (hm : (a, MO.list (mints ns)) ∈ μ) (hm' : (b, MO.list (mints ms)) ∈ μ) (hu : A.units < cLine) (h : P (.bool (lexLt ns ms)) ρ μ) :
    ∀ x y, VR (.ref a) x → VR (.ref b) y → T G A L (compareOp .Lt x y) P ρ μ := by
  rintro _ _ rfl rfl s₀ B s hs
  obtain ⟨vs, n, ho, hv⟩ := hs.list hm
  obtain ⟨us, n', ho', hv'⟩ := hs.list hm'
  exact richCompare_meets_room (op := .Lt) ⟨_, ho, rfl⟩ ⟨_, ho', rfl⟩ F.slot_list_lt F.entry_list_lt (F.args_list_lt_2 _ _) (list_lt a b vs us ns ms n n' (ints_are hv) (ints_are hv'))
    ⟨ho, ho', show Value.bool (lexLt ns ms) ≠ Value.notImplemented ∧ _ from ⟨(fun x => nomatch x), ⟨_, _, _, vb, hs, h⟩⟩⟩ hu
end
end

noncomputable def setL (μ : Mu) (a : Addr) (o : MO) : Mu := μ.map fun p => if p.1 = a then (a, o) else p
theorem setL_none {a : Addr} {o : MO} : ∀ {μ : Mu}, a ∉ μ.map (·.1) → setL μ a o = μ
  | [], _ => rfl
  | p :: r, h => by
    have h1 : p.1 ≠ a := fun e => h (by rw [← e]; exact .head _)
    have h2 : a ∉ r.map (·.1) := fun e => h (.tail _ e)
    have := setL_none (o := o) h2
    unfold setL at this ⊢
    simp only [List.map_cons, h1, if_false, this]
theorem SetAt.eq {a : Addr} {o : MO} : ∀ {μ μ' : Mu}, SetAt a o μ μ' → (μ.map (·.1)).Nodup → μ' = setL μ a o
  | _, _, .head (o₀ := o₀) (r := r), hn => by
    have := setL_none (o := o) (List.nodup_cons.mp hn).1
    unfold setL at this ⊢
    simp only [List.map_cons, if_true, this]
  | _, _, .tail (p := p) h, hn => by
    have h1 : p.1 ≠ a := fun e => (List.nodup_cons.mp hn).1 (by show p.1 ∈ _; rw [e]; exact h.has)
    have := h.eq (List.nodup_cons.mp hn).2
    unfold setL at this ⊢
    simp only [List.map_cons, h1, if_false, this]
theorem setAt_setL {a : Addr} {o o₀ : MO} : ∀ {μ : Mu}, (μ.map (·.1)).Nodup → (a, o₀) ∈ μ → SetAt a o μ (setL μ a o)
  | p :: r, hn, hm => by
    rcases List.mem_cons.mp hm with rfl | hm
    · have := setL_none (o := o) (List.nodup_cons.mp hn).1
      unfold setL at this ⊢
      simp only [List.map_cons, if_true, this]
      exact .head
    · have h1 : p.1 ≠ a := fun e => (List.nodup_cons.mp hn).1 (by show p.1 ∈ _; rw [e]; exact List.mem_map_of_mem (f := Prod.fst) hm)
      have := setAt_setL (o := o) (List.nodup_cons.mp hn).2 hm
      unfold setL at this ⊢
      simp only [List.map_cons, h1, if_false]
      exact .tail this
theorem setL_setL {μ : Mu} {a : Addr} {o o' : MO} : setL (setL μ a o) a o' = setL μ a o' := by
  unfold setL
  rw [List.map_map]
  apply List.map_congr_left
  intro p _
  by_cases h : p.1 = a <;> simp [h]
theorem setL_keys {μ : Mu} {a : Addr} {o : MO} : (setL μ a o).map (·.1) = μ.map (·.1) := by
  unfold setL
  rw [List.map_map]
  apply List.map_congr_left
  intro p _
  by_cases h : p.1 = a <;> simp [h]
theorem mem_setL {μ : Mu} {a b : Addr} {o x : MO} (h : (b, x) ∈ μ) (hb : b ≠ a) : (b, x) ∈ setL μ a o := by
  unfold setL
  exact List.mem_map.mpr ⟨(b, x), h, by simp [hb]⟩
theorem mem_setL_self {μ : Mu} {a : Addr} {o o₀ : MO} (h : (a, o₀) ∈ μ) : (a, o) ∈ setL μ a o := by
  unfold setL
  exact List.mem_map.mpr ⟨(a, o₀), h, by simp⟩
theorem key_unique {μ : Mu} {a : Addr} {o o' : MO} : (μ.map (·.1)).Nodup → (a, o) ∈ μ → (a, o') ∈ μ → o = o' := by
  intro hn h1 h2
  induction μ with
  | nil => cases h1
  | cons p r ih =>
    rw [List.map_cons, List.nodup_cons] at hn
    rcases List.mem_cons.mp h1 with e1 | h1' <;> rcases List.mem_cons.mp h2 with e2 | h2'
    · rw [← e1] at e2; cases e2; rfl
    · subst e1; exact absurd (List.mem_map_of_mem (f := Prod.fst) h2') hn.1
    · subst e2; exact absurd (List.mem_map_of_mem (f := Prod.fst) h1') hn.1
    · exact ih hn.2 h1' h2'
theorem CJ.nodup {w : World} {G : Gl w} {A : Around} {f : Value} {args : List MV} {P : MV → Mu → Prop} {μ : Mu} (h : (μ.map (·.1)).Nodup → CJ G A f args P μ) : CJ G A f args P μ := fun s₀ B L ρ s vs hs hv => h hs.nm s₀ B L ρ s vs hs hv
theorem CC.nodup {w : World} {G : Gl w} {A : Around} {f : Value} {args : List MV} {P : MV → Mu → Prop} {μ : Mu} (h : (μ.map (·.1)).Nodup → CC G A f args P μ) : CC G A f args P μ := fun s₀ B L ρ s vs hs hv => h hs.nm s₀ B L ρ s vs hs hv
theorem Tg.nodup {w : World} {G : Gl w} {A : Around} {L : Addr} {α β : Type} {R : β → α → Prop} {t : Sem α} {P : β → Rho → Mu → Prop} {ρ : Rho} {μ : Mu} (h : (μ.map (·.1)).Nodup → Tg G R A L t P ρ μ) : Tg G R A L t P ρ μ := fun s₀ B s hs => h hs.nm s₀ B s hs

theorem setL_self {μ : Mu} {a : Addr} {o : MO} (hn : (μ.map (·.1)).Nodup) (h : (a, o) ∈ μ) : setL μ a o = μ := by
  unfold setL
  conv => rhs; rw [← List.map_id μ]
  apply List.map_congr_left
  rintro ⟨b, x⟩ hp
  by_cases hb : b = a
  · subst hb; simp [key_unique hn hp h]
  · simp [hb]
noncomputable def refs (hs : List Addr) : List MV := hs.map .ref
theorem refs_get {hs : List Addr} {i : Nat} {p : Addr} (h : hs[i]? = some p) : (refs hs)[i]? = some (.ref p) := by simp [refs, h]
theorem refs_set {hs : List Addr} {i : Nat} {p : Addr} : (refs hs).set i (.ref p) = refs (hs.set i p) := by simp [refs, List.map_set]
theorem refs_len {hs : List Addr} : (refs hs).length = hs.length := by simp [refs]

noncomputable def sdS (lt : Addr → Addr → Bool) (x : Addr) (p : List Addr × Nat) (ih : (y : List Addr × Nat) → y.2 < p.2 → List Addr) : List Addr :=
  if h : 0 < p.2 then
    match p.1[(p.2 - 1) / 2]? with
    | some q => if lt x q then ih (p.1.set p.2 q, (p.2 - 1) / 2) (Nat.lt_of_le_of_lt (Nat.div_le_self _ _) (Nat.sub_lt h Nat.one_pos)) else p.1.set p.2 x
    | none => p.1.set p.2 x
  else p.1.set p.2 x
noncomputable def sdF (lt : Addr → Addr → Bool) (x : Addr) (hs : List Addr) (pos : Nat) : List Addr :=
  (measure (fun p : List Addr × Nat => p.2)).wf.fix (sdS lt x) (hs, pos)
theorem sdF_eq (lt : Addr → Addr → Bool) (x : Addr) (hs : List Addr) (pos : Nat) : sdF lt x hs pos = if h : 0 < pos then
    match hs[(pos - 1) / 2]? with
    | some q => if lt x q then sdF lt x (hs.set pos q) ((pos - 1) / 2) else hs.set pos x
    | none => hs.set pos x
  else hs.set pos x := WellFounded.fix_eq _ _ _

section
variable {w : World} {G : Gl w} {A : Around} {L : Addr} {env : Env} {ρ ρ' : Rho} {μ μ' : Mu}
theorem mem_set_of {hs : List Addr} {i : Nat} {q : Addr} (hq : q ∈ hs) : ∀ p ∈ hs.set i q, p ∈ hs := fun p hp => by
  rcases List.mem_or_eq_of_mem_set hp with h | rfl
  · exact h
  · exact hq
end

noncomputable def allNews (h : Heap) (L : Addr) : List (Addr × Obj) := (List.range h.objs.size).filterMap fun b => if b = L then none else (h.get? b).map fun o => (b, o)
theorem mem_allNews {h : Heap} {L b : Addr} {o : Obj} : (b, o) ∈ allNews h L ↔ b ≠ L ∧ h.get? b = some o := by
  unfold allNews
  rw [List.mem_filterMap]
  constructor
  · rintro ⟨c, hc, e⟩
    split at e
    · cases e
    · rename_i hcL
      obtain ⟨x, hx, e⟩ := Option.map_eq_some_iff.mp e
      cases e
      exact ⟨hcL, hx⟩
  · rintro ⟨hb, ho⟩
    exact ⟨b, List.mem_range.mpr (Heap.lt_size ho), by simp [hb, ho]⟩
theorem nodup_filterMap_keys {f : Nat → Option (Addr × Obj)} (hf : ∀ b p, f b = some p → p.1 = b) : ∀ {l : List Nat}, l.Nodup → ((l.filterMap f).map (·.1)).Nodup
  | [], _ => List.nodup_nil
  | b :: r, hn => by
    have hr := List.nodup_cons.mp hn
    have ih := nodup_filterMap_keys hf hr.2
    cases e : f b with
    | none => simp only [List.filterMap_cons, e]; exact ih
    | some p =>
      simp only [List.filterMap_cons, e, List.map_cons]
      refine List.nodup_cons.mpr ⟨fun hm => ?_, ih⟩
      obtain ⟨q, hq, e1⟩ := List.mem_map.mp hm
      obtain ⟨c, hc, e2⟩ := List.mem_filterMap.mp hq
      have h1 := hf b p e
      have h2 := hf c q e2
      rw [← h1, ← e1, h2] at hr
      exact hr.1 hc
theorem nodup_allNews (h : Heap) (L : Addr) : ((allNews h L).map (·.1)).Nodup := by
  refine nodup_filterMap_keys (fun b p e => ?_) List.nodup_range
  split at e
  · cases e
  · obtain ⟨x, hx, e⟩ := Option.map_eq_some_iff.mp e
    cases e; rfl
theorem split_nodup {l : List (Addr × Obj)} {a : Addr} {o : Obj} (hn : (l.map (·.1)).Nodup) (hm : (a, o) ∈ l) : ∃ pre post, l = pre ++ (a, o) :: post ∧ (∀ p ∈ pre, p.1 ≠ a) ∧ ∀ p ∈ post, p.1 ≠ a := by
  obtain ⟨pre, post, rfl⟩ := List.append_of_mem hm
  refine ⟨pre, post, rfl, fun p hp e => ?_, fun p hp e => ?_⟩
  · rw [List.map_append, List.nodup_append] at hn
    exact hn.2.2 p.1 (List.mem_map_of_mem hp) a (.head _) e
  · rw [List.map_append, List.nodup_append, List.map_cons, List.nodup_cons] at hn
    exact hn.2.1.1 (by have h1 := List.mem_map_of_mem (f := Prod.fst) hp; rw [e] at h1; exact h1)
theorem upd_of_split {a : Addr} {o o' : Obj} : ∀ {pre post : List (Addr × Obj)}, (∀ p ∈ pre, p.1 ≠ a) → (∀ p ∈ post, p.1 ≠ a) → Upd a o o' (pre ++ (a, o) :: post) (pre ++ (a, o') :: post)
  | [], _, _, h2 => .head h2
  | p :: pre, _, h1, h2 => .tail (h1 p (.head _)) (upd_of_split (fun q hq => h1 q (.tail _ hq)) h2)

section
variable {w : World} {G : Gl w} {A : Around} {L : Addr} {env : Env} {ρ ρ' : Rho} {μ μ' : Mu} {s₀ : Shared} {B : Addr → Option Obj} {s : Shared}

theorem St.fr (h : St G s₀ B L ρ μ s) {m : Str → Option Value} (hn : s.heap.Ns L m) : Fr {} L s.heap m := ⟨hn, fun b o e => by simp [Heap.get?] at e, Nat.zero_le _⟩
theorem news_all (h : Heap) (L : Addr) : News {} L h (allNews h L) := fun p hp => by
  obtain ⟨h1, h2⟩ := mem_allNews.mp hp
  exact ⟨h2, h1, by simp [Heap.get?]⟩
theorem St.ofK {a : Addr} {o : MO} {x x' : Obj} {pre post : List (Addr × Obj)} {h' : Heap} {tk : Nat} {m : Str → Option Value} (h : St G s₀ B L ρ μ s) (hm : ∀ p ∈ ρ, LR p.2 (m p.1)) (hu : SetAt a o μ μ') (hl : allNews s.heap L = pre ++ (a, x) :: post)
    (F : Fr {} L h' m) (N : News {} L h' (pre ++ (a, x') :: post)) (ho : OA w o x') : St G s₀ B L ρ μ' { s with heap := h', toks := tk } := by
  obtain ⟨p, hp, rfl⟩ := List.mem_map.mp hu.has
  obtain ⟨hb, hL, _⟩ := h.ob p hp
  have keep : ∀ b y, b ≠ p.1 → b ≠ L → s.heap.get? b = some y → h'.get? b = some y := fun b y h1 h2 e => by
    have hmem : (b, y) ∈ allNews s.heap L := mem_allNews.mpr ⟨h2, e⟩
    rw [hl] at hmem
    have : (b, y) ∈ pre ++ (p.1, x') :: post := by
      rcases List.mem_append.mp hmem with q | q
      · exact List.mem_append_left _ q
      · rcases List.mem_cons.mp q with q | q
        · cases q; exact absurd rfl h1
        · exact List.mem_append_right _ (.tail _ q)
    exact (N _ this).1
  refine ⟨let ⟨_, _, e⟩ := h.same; ⟨h', tk, by rw [e]⟩, h.low, h.above, fun b y e => ?_, h.bl, ⟨m, F.ns, hm⟩, h.nr, by rw [hu.keys]; exact h.nm, by rw [hu.keys]; exact h.hi, fun q hq => ?_⟩
  · have h1 : b ≠ p.1 := by rintro rfl; rw [hb] at e; cases e
    have h2 : b ≠ L := by rintro rfl; rw [h.bl] at e; cases e
    exact keep b y h1 h2 (h.keep b y e)
  · rcases hu.mem h.nm q hq with rfl | ⟨h1, h2⟩
    · exact ⟨hb, hL, x', (N _ (List.mem_append_right _ (.head _))).1, ho⟩
    · obtain ⟨a1, a2, y, a3, a4⟩ := h.ob q h1
      exact ⟨a1, a2, y, keep _ _ h2 a2 a3, a4⟩

theorem VR.handed {x : MV} {v : Value} (h : VR x v) (hc : ∀ u, x ≠ .con u) : handedIn v = true := by
  cases x with
  | undef => exact h.elim
  | con u => exact absurd rfl (hc u)
  | none => cases h; rfl
  | bool b => cases h; rfl
  | int i => obtain ⟨t, rfl⟩ := h; rfl
  | str i => obtain ⟨t, rfl⟩ := h; rfl
  | ref i => cases h; rfl

theorem c_make {C fI : Addr} {args : List MV} {P : MV → Mu → Prop} (hm : makesIn (KK w.params) C = true) (hi : findIn (KK w.params) (.ref C) "__init__" = some (some (.ref fI))) (hf : typeIn (KK w.params) (.ref fI) = some (.type "function"))
    (h : ∀ A' x d, A'.depth = A.depth + 1 → A'.units = A.units + 1 → A'.handled = A.handled → CC G A' (.ref fI) (.ref x :: args) (fun v μ' => v = .none ∧ P (.ref x) μ') ((x, .obj C d []) :: (d, .attrs []) :: μ)) : CC G A (.ref C) args P μ := by
  rintro s₀ B L ρ s vs hs hv
  obtain ⟨hh, g, d, t, os⟩ := s
  refine make_core (makes_of hs.K hm) (looks_findIn hs.K hi) (fun self => bind_fn hs.K self hf) (.inl rfl) ?_
  have h1 := hs.push (o := .attrs []) (x := emptyDict) (tk := t) ⟨[], 0, rfl, trivial⟩ rfl
  have h2 := h1.push (o := .obj C hh.objs.size []) (x := instObj C hh.objs.size) (tk := t) ⟨[], rfl, trivial⟩ rfl
  simp only [Heap.size_push] at h2
  have h3 := h (A.under (.builtin "type.__call__" ⟨.ref C :: vs, []⟩)) (hh.objs.size + 1) hh.objs.size rfl rfl rfl s₀ B L ρ _ (.ref (hh.objs.size + 1) :: vs) h2 ⟨rfl, hv⟩
  refine codeAny_mono h3 fun r s' q => ?_
  rcases r with e | (_ | _ | _ | v)
  · exact q.elim
  · exact q.elim
  · exact q.elim
  · exact q.elim
  · obtain ⟨x, μ', hx, hs', rfl, hp⟩ := q
    cases hx
    exact ⟨rfl, .ref _, μ', rfl, hs', hp⟩
end

noncomputable def lookA (n : Str) : List (Str × MV) → Option MV
  | [] => none
  | (m, v) :: r => if m = n then some v else lookA n r
inductive PutA (n : Str) (v : MV) : List (Str × MV) → List (Str × MV) → Prop
  | nil : PutA n v [] [(n, v)]
  | head {u r} : PutA n v ((n, u) :: r) ((n, v) :: r)
  | tail {m u r r'} : m ≠ n → PutA n v r r' → PutA n v ((m, u) :: r) ((m, u) :: r')
theorem isStr_str {x y : Str} {t : Tok} : Value.isStr (.str x t) y = decide (x = y) := by
  show (x == y) = _
  by_cases h : x = y
  · subst h; simp
  · simp [h]
theorem getL_of : ∀ {fs : List (Str × MV)} {es : List DictEntry} {n : Str} {v : MV}, ARs fs es → lookA n fs = some v → ∃ u, getL n es = some (some u) ∧ VR v u
  | (m, x) :: fs, e :: es, n, v, ⟨⟨t, hk⟩, hv, hr⟩, hl => by
    simp only at hk hv
    unfold lookA at hl
    split at hl
    · rename_i q
      subst q
      cases hl
      refine ⟨e.val, ?_, hv⟩
      unfold getL
      rw [List.find?_cons, hk, isStr_str]
      simp
    · rename_i q
      obtain ⟨u, hu, hr'⟩ := getL_of hr hl
      refine ⟨u, ?_, hr'⟩
      unfold getL at hu ⊢
      have h1 : e.key.isStr n = false := by rw [hk, isStr_str]; simp [q]
      have h2 : e.refKey = false := by unfold DictEntry.refKey; rw [hk]
      rw [List.find?_cons, h1, List.any_cons, h2, Bool.false_or]
      exact hu
  | [], [], _, _, _, hl => by cases hl
  | [], _ :: _, _, _, h, _ => h.elim
  | _ :: _, [], _, _, h, _ => h.elim
theorem getL_none : ∀ {fs : List (Str × MV)} {es : List DictEntry} {n : Str}, ARs fs es → lookA n fs = none → getL n es = some none
  | [], [], _, _, _ => rfl
  | (m, x) :: fs, e :: es, n, ⟨⟨t, hk⟩, hv, hr⟩, hl => by
    simp only at hk
    unfold lookA at hl
    split at hl
    · cases hl
    · rename_i q
      have ih := getL_none hr hl
      unfold getL at ih ⊢
      have h1 : e.key.isStr n = false := by rw [hk, isStr_str]; simp [q]
      have h2 : e.refKey = false := by unfold DictEntry.refKey; rw [hk]
      rw [List.find?_cons, h1, List.any_cons, h2, Bool.false_or]
      exact ih
  | [], _ :: _, _, h, _ => h.elim
  | _ :: _, [], _, h, _ => h.elim
theorem getL_some {fs : List (Str × MV)} {es : List DictEntry} {n : Str} (h : ARs fs es) : (getL n es).isSome = true := by
  cases e : lookA n fs with
  | none => rw [getL_none h e]; rfl
  | some v => obtain ⟨u, hu, _⟩ := getL_of h e; rw [hu]; rfl
theorem putL_of {n : Str} {v : MV} {u : Value} {hsh : Int} {t : Tok} (hv : VR v u) : ∀ {fs fs' : List (Str × MV)} {es : List DictEntry}, ARs fs es → PutA n v fs fs' → ARs fs' (putL n hsh (.str n t) u es)
  | [], _, [], _, .nil => ⟨⟨t, rfl⟩, hv, trivial⟩
  | (_, _) :: _, _, e :: es, ⟨⟨t', hk⟩, hv', hr⟩, .head => by
    simp only at hk
    have h1 : e.key.isStr n = true := by rw [hk, isStr_str]; simp
    unfold putL
    rw [if_pos h1]
    exact ⟨⟨t', hk⟩, hv, hr⟩
  | (_, _) :: _, _, e :: es, ⟨⟨t', hk⟩, hv', hr⟩, .tail hne hp => by
    simp only at hk
    have h1 : ¬ e.key.isStr n = true := by rw [hk, isStr_str]; simp [hne]
    unfold putL
    rw [if_neg h1]
    exact ⟨⟨t', hk⟩, hv', putL_of hv hr hp⟩
  | [], _, _ :: _, h, _ => h.elim
  | _ :: _, _, [], h, _ => h.elim
theorem ARs.length : ∀ {fs : List (Str × MV)} {es : List DictEntry}, ARs fs es → es.length = fs.length
  | [], [], _ => rfl
  | _ :: _, _ :: _, h => congrArg (· + 1) (ARs.length h.2.2)
  | [], _ :: _, h => h.elim
  | _ :: _, [], h => h.elim
theorem SRs.get : ∀ {sl : List MV} {ss : List (Option Value)}, SRs sl ss → ∀ {i : Nat} {x : MV}, sl[i]? = some x → x ≠ .undef → ∃ v, (ss.toArray[i]?).join = some v ∧ VR x v
  | x :: xs, v :: vs, h, 0, y, e, hy => by
    simp at e; subst e
    rcases h.1 with q | ⟨u, q, hu⟩
    · exact absurd q hy
    · exact ⟨u, by simp [q], hu⟩
  | x :: xs, v :: vs, h, i + 1, y, e, hy => by
    simp at e
    obtain ⟨u, hu, hr⟩ := SRs.get h.2 e hy
    exact ⟨u, by simpa using hu, hr⟩
  | [], [], _, i, _, e, _ => by simp at e
  | [], _ :: _, h, _, _, _, _ => h.elim
  | _ :: _, [], h, _, _, _, _ => h.elim
theorem SRs.length : ∀ {sl : List MV} {ss : List (Option Value)}, SRs sl ss → ss.length = sl.length
  | [], [], _ => rfl
  | _ :: _, _ :: _, h => congrArg (· + 1) (SRs.length h.2)
  | [], _ :: _, h => h.elim
  | _ :: _, [], h => h.elim
theorem SRs.set : ∀ {xs : List MV} {vs : List (Option Value)}, SRs xs vs → ∀ (i : Nat) {y : MV} {u : Option Value}, LR y u → SRs (xs.set i y) (vs.set i u)
  | [], [], _, _, _, _, _ => trivial
  | _ :: _, _ :: _, h, 0, _, _, h' => ⟨h', h.2⟩
  | _ :: _, _ :: _, h, i + 1, _, _, h' => ⟨h.1, SRs.set h.2 i h'⟩
  | [], _ :: _, h, _, _, _, _ => h.elim
  | _ :: _, [], h, _, _, _, _ => h.elim
theorem SRs.append : ∀ {xs : List MV} {vs : List (Option Value)}, SRs xs vs → ∀ {ys : List MV} {us : List (Option Value)}, SRs ys us → SRs (xs ++ ys) (vs ++ us)
  | [], [], _, _, _, h' => h'
  | _ :: _, _ :: _, h, _, _, h' => ⟨h.1, SRs.append h.2 h'⟩
  | [], _ :: _, h, _, _, _ => h.elim
  | _ :: _, [], h, _, _, _ => h.elim
theorem SRs.undefs : ∀ (k : Nat), SRs (List.replicate k .undef) (List.replicate k none)
  | 0 => trivial
  | k + 1 => ⟨.inl rfl, SRs.undefs k⟩
noncomputable def setSlot (sl : List MV) (i : Nat) (v : MV) : List MV := (sl ++ List.replicate (i + 1 - sl.length) MV.undef).set i v

noncomputable def AJ {w : World} (G : Gl w) (A : Around) (o : MV) (name : Str) (P : MV → Mu → Prop) (μ : Mu) : Prop :=
  ∀ s₀ B L ρ s a, St G s₀ B L ρ μ s → VR o a → wpAny (model PR w) A (getAttr a name true) (PostC G s₀ B L ρ P) NoE s
noncomputable def UJ {w : World} (G : Gl w) (A : Around) (o : MV) (name : Str) (v : MV) (P : Mu → Prop) (μ : Mu) : Prop :=
  ∀ s₀ B L ρ s a c, St G s₀ B L ρ μ s → VR o a → VR v c → wpAny (model PR w) A (setAttr a name c) (PostU G s₀ B L ρ P) NoE s

inductive InstM (h : Heap) (x C d : Addr) (sl : List MV) (fs : List (Str × MV)) : Prop
  | mk (ss : List (Option Value)) (es : List DictEntry) (n : Nat) (hss : SRs sl ss) (hes : ARs fs es) (hx : h.get? x = some ⟨.ref C, some d, .plain, List.toArray ss⟩) (hd : h.get? d = some (dictOf es n)) (I : InstAt h x ⟨.ref C, some d, .plain, List.toArray ss⟩ C (some (dictOf es n)))
section
variable {w : World} {G : Gl w} {A : Around} {L : Addr} {env : Env} {ρ ρ' : Rho} {μ μ' : Mu} {s₀ : Shared} {B : Addr → Option Obj} {s : Shared}

theorem e_attr {value : Expr} {attr : Str} {pos : Pos} {P : MV → Rho → Mu → Prop} (h : T G A L (eval value env) (fun o ρ μ => AJ G A o attr (fun v μ' => P v ρ μ') μ) ρ μ)
    (he : eval (.Attribute value attr pos) env = (do
      let o ← eval value env
      standAt pos.atName
      let r ← holding [o] (getAttr o attr true)
      letTemporaryGo value o r
      pure r) := by with_unfolding_all rfl) : T G A L (eval (.Attribute value attr pos) env) P ρ μ := fun s₀ B s hs =>
  Attribute_any_ (h.use hs fun o a ρ₁ μ₁ s₁ ho hs₁ h₁ => wpAny_mono (h₁ s₀ B L ρ₁ s₁ a hs₁ ho) (fun v s' q => q.use fun x μ' hx hs' hp => ⟨x, _, μ', hx, hs', hp⟩) fun _ _ f => f) he
theorem s_setattr {o value : Expr} {attr : Str} {pp pos : Pos} {rest : List Stmt} {P : MF → Rho → Mu → Prop}
    (h : T G A L (eval value env) (fun v ρ μ => T G A L (eval o env) (fun ov ρ μ => UJ G A ov attr v (fun μ' => X G A L (execs rest env) P ρ μ') μ) ρ μ) ρ μ)
    (hs : swapsWith value (some (.Attribute o attr pp)) pos.line env = pure false := by rfl) : X G A L (execs (.Assign [.Attribute o attr pp] value pos :: rest) env) P ρ μ :=
  s_cons fun s₀ B s hst => plainObj_wpAny_Assign_Attribute (h.use hst fun v a ρ₁ μ₁ s₁ hv hs₁ h₁ => h₁.use hs₁ fun ov b ρ₂ μ₂ s₂ ho hs₂ h₂ =>
    wpAny_mono (h₂ s₀ B L ρ₂ s₂ b a hs₂ ho hv) (fun _ s' q => q.use fun μ' hs' hp => ⟨.next, _, _, rfl, hs', hp⟩) fun _ _ f => f) hs
theorem s_augattr {o value : Expr} {attr : Str} {tp pos : Pos} {op : Operator} {rest : List Stmt} {P : MF → Rho → Mu → Prop}
    (h : T G A L (eval o env) (fun ov ρ μ => AJ G A ov attr (fun old μ => T G A L (eval value env) (fun v ρ μ => ∀ a b, VR old a → VR v b → T G A L (inplaceOp op a b) (fun new ρ μ =>
      UJ G A ov attr new (fun μ' => X G A L (execs rest env) P ρ μ') μ) ρ μ) ρ μ) μ) ρ μ) : X G A L (execs (.AugAssign (.Attribute o attr tp) op value pos :: rest) env) P ρ μ :=
  s_cons fun s₀ B s hst => wpAny_AugAssign_AttributeAny (h.use hst fun ov a ρ₁ μ₁ s₁ ho hs₁ h₁ =>
    wpAny_mono (h₁ s₀ B L ρ₁ s₁ a hs₁ ho) (fun old s₃ q => q.use fun x μ₃ hx hs₃ hp => hp.use hs₃ fun v c ρ₄ μ₄ s₄ hv hs₄ h₄ => (h₄ old c hx hv).use hs₄ fun new d ρ₅ μ₅ s₅ hd hs₅ h₅ =>
      wpAny_mono (h₅ s₀ B L ρ₅ s₅ a d hs₅ ho hd) (fun _ s' q => q.use fun μ' hs' hp => ⟨.next, _, _, rfl, hs', hp⟩) fun _ _ f => f) fun _ _ f => f.elim)

theorem St.inst {x C d : Addr} {sl : List MV} {fs : List (Str × MV)} (h : St G s₀ B L ρ μ s) (h1 : (x, MO.obj C d sl) ∈ μ) (h2 : (d, MO.attrs fs) ∈ μ) :
    InstM s.heap x C d sl fs := by
  obtain ⟨_, ho, ss, rfl, hss⟩ := h.get h1
  obtain ⟨_, hd, es, n, rfl, hes⟩ := h.get h2
  exact ⟨ss, es, n, hss, hes, ho, hd, ⟨ho, rfl, rfl, hd⟩⟩
theorem a_attr {x C d : Addr} {sl : List MV} {fs : List (Str × MV)} {name : Str} {v : MV} {P : MV → Mu → Prop} (h1 : (x, MO.obj C d sl) ∈ μ) (h2 : (d, MO.attrs fs) ∈ μ) (hl : lookA name fs = some v) (h : P v μ) (hv : ∀ u, v ≠ .con u := by intro _; exact nofun)
    (hg : plainGet (KK w.params) C name = true := by kernel_rfl) (hh : hasDictIn (KK w.params) C = true := by kernel_rfl) (ha : findIn (KK w.params) (.ref C) name = some none := by kernel_rfl) : AJ G A (.ref x) name P μ := by
  rintro s₀ B L ρ s _ hs rfl
  obtain ⟨ss, es, n, hss, hes, hx, hd, I⟩ := hs.inst h1 h2
  obtain ⟨u, hu, hr⟩ := getL_of hes hl
  exact get_value hs.K I (plainGet_of hg).1 (findObj_own hh ha rfl hu) (hr.handed hv) ⟨v, μ, hr, hs.toks _, h⟩
theorem a_slot {x C d p i : Addr} {sl : List MV} {fs : List (Str × MV)} {name : Str} {v : MV} {P : MV → Mu → Prop} (h1 : (x, MO.obj C d sl) ∈ μ) (h2 : (d, MO.attrs fs) ∈ μ) (ha : findIn (KK w.params) (.ref C) name = some (some (.ref p))) (hp : slotIn (KK w.params) p C = some i)
    (hl : sl[i]? = some v) (h : P v μ) (hv : ∀ u, v ≠ .con u := by intro _; exact nofun) (hud : v ≠ .undef := by exact nofun)
    (hg : plainGet (KK w.params) C name = true := by kernel_rfl) (hc : isClsIn (KK w.params) C = true := by kernel_rfl) (hn : specialIn (KK w.params) (.ref p) "__get__" = some (some (.builtin "member_descriptor.__get__")) := by kernel_rfl) (ht : takesIn (KK w.params) (.ref p) = some true := by kernel_rfl) : AJ G A (.ref x) name P μ := by
  rintro s₀ B L ρ s _ hs rfl
  obtain ⟨ss, es, n, hss, hes, hx, hd, I⟩ := hs.inst h1 h2
  obtain ⟨u, hu, hr⟩ := hss.get hl hud
  exact get_bind hs.K I (plainGet_of hg).1 (findObj_data hc ha hn ht) (plainGet_of hg).2 (wpAny_call (slot_get (s := { s with toks := s.toks + 1 }) hs.K I hp hu (handed_on (hr.handed hv) ⟨v, μ, hr, hs.toks _, h⟩)))
theorem u_attr {x C d : Addr} {sl : List MV} {fs fs' : List (Str × MV)} {name : Str} {v : MV} {P : Mu → Prop} (h1 : (x, MO.obj C d sl) ∈ μ) (h2 : (d, MO.attrs fs) ∈ μ) (hp : PutA name v fs fs') (hu : SetAt d (.attrs fs') μ μ') (hz : fs'.length ≤ 1000) (h : P μ')
    (hs : findIn (KK w.params) (.ref C) "__setattr__" = some (some (.builtin "object.__setattr__")) := by kernel_rfl) (hpo : plainOver (KK w.params) C = true := by kernel_rfl) (ht : takerIn (KK w.params) C name = some none := by kernel_rfl) (hh : hasDictIn (KK w.params) C = true := by kernel_rfl) : UJ G A (.ref x) name v P μ := by
  rintro s₀ B L ρ s _ c hst rfl hc
  obtain ⟨ss, es, n, hss, hes, hx, hd, I⟩ := hst.inst h1 h2
  obtain ⟨m, hn, hm⟩ := hst.ns
  have hdL : d ≠ L := (hst.ob _ h2).l
  obtain ⟨pre, post, hl, q1, q2⟩ := split_nodup (nodup_allNews s.heap L) (mem_allNews.mpr ⟨hdL, hd⟩)
  have N := news_all s.heap L
  rw [hl] at N
  have hes' := putL_of (hsh := PyData.keyHash w.params name) (t := s.toks + 1) hc hes hp
  refine set_plain hst.K I hs (osa_dict (s := { s with toks := s.toks + 1 }) (es := putL name (PyData.keyHash w.params name) (.str name (s.toks + 1)) c es) (n := putN name es n) (hst.fr hn) N hst.K I rfl hpo ht hh (by rw [lookIn_dict]; exact getL_some hes) q1 q2 (putName_dict ..) rfl (by rw [hes'.length]; exact hz) fun h' F' N' => ?_)
  exact ⟨μ', hst.ofK hm hu hl F' N' ⟨_, _, rfl, hes'⟩, h⟩
theorem u_slot {x C d p i : Addr} {sl : List MV} {fs : List (Str × MV)} {name : Str} {v : MV} {P : Mu → Prop} (h1 : (x, MO.obj C d sl) ∈ μ) (h2 : (d, MO.attrs fs) ∈ μ) (ht : takerIn (KK w.params) C name = some (some (.ref p))) (hi : slotIn (KK w.params) p C = some i) (hz : i < 1000)
    (hu : SetAt x (.obj C d (setSlot sl i v)) μ μ') (h : P μ') (hT : typeIn (KK w.params) (.ref p) = some (.type "member_descriptor") := by kernel_rfl)
    (hs : findIn (KK w.params) (.ref C) "__setattr__" = some (some (.builtin "object.__setattr__")) := by kernel_rfl) (hpo : plainOver (KK w.params) C = true := by kernel_rfl) : UJ G A (.ref x) name v P μ := by
  rintro s₀ B L ρ s _ c hst rfl hc
  obtain ⟨ss, es, n, hss, hes, hx, hd, I⟩ := hst.inst h1 h2
  obtain ⟨m, hn, hm⟩ := hst.ns
  have hxL : x ≠ L := (hst.ob _ h1).l
  obtain ⟨pre, post, hl, q1, q2⟩ := split_nodup (nodup_allNews s.heap L) (mem_allNews.mpr ⟨hxL, hx⟩)
  have N := news_all s.heap L
  rw [hl] at N
  refine set_plain hst.K I hs (osa_descr (s := { s with toks := s.toks + 1 }) KF.slot_mset hst.K I hpo ht hT (slot_set (s := { s with toks := s.toks + 1 }) (hst.fr hn) N hst.K I hi hz q1 q2 rfl rfl fun h' F' N' => ?_))
  refine ⟨μ', hst.ofK hm hu hl F' N' ⟨(ss ++ List.replicate (i + 1 - ss.length) none).set i (some c), ?_, ?_⟩, h⟩
  · congr 1
    apply Array.ext'
    simp
  · have := (hss.append (SRs.undefs (i + 1 - sl.length))).set i (LR.some hc)
    rw [hss.length]; exact this
inductive MethO {w : World} (G : Gl w) (A : Around) (L : Addr) (name : Str) (targs : Sem (List Value)) (P : MV → Rho → Mu → Prop) (ov : MV) (ρ : Rho) (μ : Mu) : Prop
  | mk (x C d : Addr) (sl : List MV) (fs : List (Str × MV)) (f : Addr) (e : ov = .ref x) (h1 : (x, MO.obj C d sl) ∈ μ) (h2 : (d, MO.attrs fs) ∈ μ) (hg : plainGet (KK w.params) C name = true) (hf : findIn (KK w.params) (.ref C) name = some (some (.ref f))) (hfn : isFn (KK w.params) (.ref f) = true) (hkp : keepIn (KK w.params) (.ref f) = true) (hl : lookA name fs = none)
      (h : Ts G A L targs (fun vs ρ μ => CC G A (.ref f) (.ref x :: vs) (fun v μ' => P v ρ μ') μ) ρ μ)
theorem e_methi {o : Expr} {name : Str} {apos pos : Pos} {args : List Expr} {P : MV → Rho → Mu → Prop}
    (h : T G A L (eval o env) (MethO G A L name (spliced (backTo pos (starEach args env))) P) ρ μ)
    (hpl : (backTo pos (starEach args env)).any (·.1) = false := by kernel_rfl)
    (hbase : attributeBase o name env (eval o env) = eval o env := by rfl)
    (hform : methodCallForm (args.length + ([] : List Keyword).length) (backTo pos (starEach args env)) (backToKw pos (keywordEach [] env)) = true := by rfl)
    (hline : (apos.endLine == pos.line) = true := by rfl) : T G A L (eval (.Call (.Attribute o name apos) args [] pos) env) P ρ μ := fun s₀ B s hs => by
  rw [arm_eval_Call, hbase]
  refine wpAny_bind (h.use hs fun ov v ρ₁ μ₁ s₁ hv hs₁ q => ?_)
  cases q with | mk x C d sl fs f e1 h1 h2 hg hf hfn hkp hl h₁ =>
  subst e1
  cases hv
  refine wpAny_bind (wpAny_standAt ?_)
  unfold methodCall
  rw [hform]
  obtain ⟨ss, es, n, hss, hes, hx, hd, I⟩ := hs₁.inst h1 h2
  have hpos : methodCallPos true o env apos pos = pure pos := by unfold methodCallPos; simp [hline]
  refine wpAny_bind (wpAny_holding ?_)
  show wpAny _ _ (getMethod (.ref x) name _) _ _ s₁
  refine method_fn hs₁.K I (plainGet_of hg).1 (plainGet_of hg).2 hf (beq_iff_eq.mp hfn) (by show (lookIn name (dictOf es n)).map _ = _; rw [lookIn_dict, getL_none hes hl]; rfl) ?_
  show wpAny _ _ (methodCallPos true o env apos pos >>= _) _ _ s₁
  rw [hpos]
  refine wpAny_bind (wpAny_pure ?_)
  refine callWith_of (P := fun h => (KK w.params).In h) (by rw [hpl]; rfl) (keeps_K hkp) (evalArgs_any hpl ?_)
  exact h₁.use hs₁ fun xs vs ρ₂ μ₂ s₂ hxs hs₂ h₂ => ⟨hs₂.K, CJ.use (vs := .ref x :: vs) h₂.cj hs₂ ⟨rfl, hxs⟩ fun x v μ' s' hx hs' hp => ⟨x, _, _, hx, hs', hp⟩⟩
end

noncomputable def lookD (k : Int) : List (Int × MV) → Option MV
  | [] => none
  | (m, v) :: r => if m = k then some v else lookD k r
noncomputable def storedD (es : List (Int × MV)) (k : Int) (v : MV) : List (Int × MV) := if (es.any fun p => p.1 = k) then es.map (fun p => if p.1 = k then (p.1, v) else p) else es ++ [(k, v)]
noncomputable def withoutD (es : List (Int × MV)) (k : Int) : List (Int × MV) := es.filter fun p => decide (p.1 ≠ k)
theorem PRs.length : ∀ {es : List (Int × MV)} {kvs : List (Int × Value)}, PRs es kvs → kvs.length = es.length
  | [], [], _ => rfl
  | _ :: _, _ :: _, h => congrArg (· + 1) (PRs.length h.2.2)
  | [], _ :: _, h => h.elim
  | _ :: _, [], h => h.elim
theorem PRs.look {k : Int} : ∀ {es : List (Int × MV)} {kvs : List (Int × Value)}, PRs es kvs → (lookD k es = none ∧ valueAt kvs k = none) ∨ ∃ v u, lookD k es = some v ∧ valueAt kvs k = some u ∧ VR v u
  | [], [], _ => .inl ⟨rfl, rfl⟩
  | (a, x) :: es, (b, y) :: kvs, ⟨h1, h2, h3⟩ => by
    simp only at h1 h2
    subst h1
    by_cases h : a = k
    · exact .inr ⟨x, y, by simp [lookD, h], by simp [valueAt, h], h2⟩
    · have e1 : lookD k ((a, x) :: es) = lookD k es := by simp [lookD, h]
      have e2 : valueAt ((a, y) :: kvs) k = valueAt kvs k := by simp [valueAt, h]
      rw [e1, e2]
      exact PRs.look h3
  | [], _ :: _, h => h.elim
  | _ :: _, [], h => h.elim
theorem PRs.any {k : Int} : ∀ {es : List (Int × MV)} {kvs : List (Int × Value)}, PRs es kvs → (es.any fun p => p.1 = k) = (kvs.any fun p => p.1 = k)
  | [], [], _ => rfl
  | (a, x) :: es, (b, y) :: kvs, ⟨h1, h2, h3⟩ => by
    simp only at h1
    subst h1
    simp only [List.any_cons, PRs.any h3]
  | [], _ :: _, h => h.elim
  | _ :: _, [], h => h.elim
theorem PRs.append {v : MV} {u : Value} {k : Int} (hv : VR v u) : ∀ {es : List (Int × MV)} {kvs : List (Int × Value)}, PRs es kvs → PRs (es ++ [(k, v)]) (kvs ++ [(k, u)])
  | [], [], _ => ⟨rfl, hv, trivial⟩
  | _ :: _, _ :: _, ⟨h1, h2, h3⟩ => ⟨h1, h2, PRs.append hv h3⟩
  | [], _ :: _, h => h.elim
  | _ :: _, [], h => h.elim
theorem PRs.map {v : MV} {u : Value} {k : Int} (hv : VR v u) : ∀ {es : List (Int × MV)} {kvs : List (Int × Value)}, PRs es kvs → PRs (es.map fun p => if p.1 = k then (p.1, v) else p) (kvs.map fun p => if p.1 = k then (p.1, u) else p)
  | [], [], _ => trivial
  | (a, x) :: es, (b, y) :: kvs, ⟨h1, h2, h3⟩ => by
    simp only at h1 h2
    subst h1
    refine ⟨?_, ?_, PRs.map hv h3⟩
    · by_cases h : a = k <;> simp [h]
    · by_cases h : a = k <;> simp [h, hv, h2]
  | [], _ :: _, h => h.elim
  | _ :: _, [], h => h.elim
theorem PRs.stored {v : MV} {u : Value} {k : Int} {es : List (Int × MV)} {kvs : List (Int × Value)} (hv : VR v u) (h : PRs es kvs) : PRs (storedD es k v) (stored kvs k u) := by
  unfold storedD PySem.stored
  rw [h.any]
  split
  · exact h.map hv
  · exact h.append hv
theorem PRs.without {k : Int} : ∀ {es : List (Int × MV)} {kvs : List (Int × Value)}, PRs es kvs → PRs (withoutD es k) (without kvs k)
  | [], [], _ => trivial
  | (a, x) :: es, (b, y) :: kvs, ⟨h1, h2, h3⟩ => by
    simp only at h1 h2
    subst h1
    unfold withoutD PySem.without
    by_cases h : a = k
    · simp only [List.filter_cons, h, ne_eq, not_true_eq_false, decide_false, Bool.false_eq_true, if_false]; exact PRs.without h3
    · simp only [List.filter_cons, h, ne_eq, not_false_eq_true, decide_true, if_true]; exact ⟨rfl, h2, PRs.without h3⟩
  | [], _ :: _, h => h.elim
  | _ :: _, [], h => h.elim
theorem PRs.get : ∀ {es : List (Int × MV)} {kvs : List (Int × Value)}, PRs es kvs → ∀ {i : Nat} {p : Int × MV}, es[i]? = some p → ∃ u, kvs[i]? = some (p.1, u) ∧ VR p.2 u
  | x :: xs, (b, y) :: vs, h, 0, p, e => by
    simp at e; subst e; exact ⟨y, by simp [h.1], h.2.1⟩
  | x :: xs, v :: vs, h, i + 1, y, e => by
    simp at e; obtain ⟨u, hu, hr⟩ := PRs.get h.2.2 e; exact ⟨u, by simpa using hu, hr⟩
  | [], [], _, i, _, e => by simp at e
  | [], _ :: _, h, _, _, _ => h.elim
  | _ :: _, [], h, _, _, _ => h.elim
theorem isInt_is {w : World} {k : Int} {t : Tok} : (intKind PR w).is k (.int k t) = true := by
  show Value.isInt k (.int k t) = true
  simp [Value.isInt]
theorem is_shape {w : World} {k : Int} {v : Value} (h : (intKind PR w).is k v = true) : ∃ t, v = .int k t := Value.isInt_shape h

section
variable {w : World} {G : Gl w} {A : Around} {L : Addr} {env : Env} {ρ ρ' : Rho} {μ μ' : Mu} {s₀ : Shared} {B : Addr → Option Obj} {s : Shared}

inductive DictM (w : World) (h : Heap) (d : Addr) (ep : Nat) (es : List (Int × MV)) : Prop
  | mk (kvs : List (Int × Value)) (hd : h.DictAt (intKind PR w) d kvs ep) (hp : PRs es kvs) (hn : (d == sysModules) = false)
theorem St.dict {d : Addr} {ep : Nat} {es : List (Int × MV)} (h : St G s₀ B L ρ μ s) (hm : (d, MO.idict ep es) ∈ μ) : DictM w s.heap d ep es := by
  obtain ⟨o, ho, kvs, en, h1, h2, h3, h4, h5, h6⟩ := h.get hm
  refine ⟨kvs, ⟨o, en, ho, h1, h2, h3, h4, h5⟩, h6, ?_⟩
  have q := h.hi d (List.mem_map_of_mem (f := Prod.fst) hm)
  have q2 := G.t.g.lt
  rw [beq_eq_false_iff_ne]
  intro e
  rw [e] at q
  exact absurd (Nat.lt_of_lt_of_le q2 q) (by decide)
theorem OA_of_dict {d : Addr} {h' : Heap} {es : List (Int × MV)} {kvs : List (Int × Value)} (hd : h'.DictOf (intKind PR w) d kvs) (hp : PRs es kvs) : ∃ ep, Has w h' d (.idict ep es) := by
  obtain ⟨o, en, ep, ho, h1, h2, h3, h4, h5⟩ := hd
  exact ⟨ep, o, ho, kvs, en, h1, h2, h3, h4, h5, hp⟩

theorem e_dict0 {pos : Pos} {P : MV → Rho → Mu → Prop} (h : ∀ a, P (.ref a) ρ ((a, .idict 0 []) :: μ)) : T G A L (eval (.Dict [] [] pos) env) P ρ μ := fun s₀ B s hs =>
  wpAny_Dict_empty ⟨_, _, _, vr, by
    have := hs.push (o := .idict 0 []) (x := { cls := .type "dict", data := .dict #[] }) (tk := s.toks) ⟨[], #[], ⟨rfl, rfl, rfl⟩, rfl, (by intro e he; simp at he), .nil, List.nodup_nil, trivial⟩ rfl
    exact this, h _⟩
theorem g_dict {d : Addr} {ep : Nat} {es : List (Int × MV)} {k : Int} {v : MV} {P : MV → Mu → Prop} (hm : (d, MO.idict ep es) ∈ μ) (hl : lookD k es = some v) (h : P v μ) : GJ G A (.ref d) (.int k) P μ := by
  rintro s₀ B L ρ s _ b hs rfl ⟨t, rfl⟩
  obtain ⟨kvs, hd, hp, hn⟩ := hs.dict hm
  refine ⟨"dict", _, F.slot_dict_getitem.lookup, hd.dictOf.typeIs, ?_⟩
  rcases hp.look (k := k) with ⟨e, _⟩ | ⟨v', u, e1, e2, hr⟩
  · rw [hl] at e; cases e
  · rw [hl] at e1; cases e1
    exact wpAny_getItem_of (knd := intKind PR w) isInt_is hd.dictOf.mapOf e2 ⟨v, μ, hr, hs.toks _, h⟩
theorem sj_dict {d : Addr} {ep : Nat} {es : List (Int × MV)} {k : Int} {v : MV} {P : Mu → Prop} (hm : (d, MO.idict ep es) ∈ μ) (hl : es.length ≤ big) (h : ∀ ep', SetP d (.idict ep' (storedD es k v)) P μ) : SJ G A (.ref d) (.int k) v P μ := by
  rintro s₀ B L ρ s _ b c hs rfl ⟨t, rfl⟩ hc
  obtain ⟨kvs, hd, hp, hn⟩ := hs.dict hm
  refine wpAny_setItem_pairs (knd := intKind PR w) isInt_is hd.dictOf (fun h' hd' hsb => ?_) (by have := big_le hl; rw [hp.length]; omega)
  obtain ⟨ep', hx⟩ := OA_of_dict hd' (hp.stored hc)
  obtain ⟨μ', hu, hq⟩ := h ep'
  exact ⟨μ', hs.set hu hsb hx, hq⟩
theorem o_in_dict {d : Addr} {ep : Nat} {es : List (Int × MV)} {k : Int} {P : MV → Rho → Mu → Prop} (hm : (d, MO.idict ep es) ∈ μ) (h : P (.bool (lookD k es).isSome) ρ μ) : ∀ x y, VR (.int k) x → VR (.ref d) y → T G A L (compareOp .In x y) P ρ μ := by
  rintro _ _ ⟨t, rfl⟩ rfl s₀ B s hs
  obtain ⟨kvs, hd, hp, hn⟩ := hs.dict hm
  refine wpAny_in_of (knd := intKind PR w) isInt_is hn hd.dictOf.mapOf ⟨_, ρ, μ, vb, hs.toks _, ?_⟩
  rcases hp.look (k := k) with ⟨e, e'⟩ | ⟨v', u, e1, e2, hr⟩
  · rw [e'] ; rw [e] at h; exact h
  · rw [e2]; rw [e1] at h; exact h
theorem isT_dict {d : Addr} {ep : Nat} {es : List (Int × MV)} (hm : (d, MO.idict ep es) ∈ μ) : IsT G "dict" (.ref d) μ := by
  rintro s₀ B L ρ s _ hs rfl
  obtain ⟨kvs, ⟨o, en, ho, h1, h2⟩, hp, hn⟩ := hs.dict hm
  exact ⟨⟨o, ho, h1.1⟩, fun a e => by cases e; exact ⟨o, ho, h1.2.1⟩⟩
theorem c_dictget {d : Addr} {ep : Nat} {es : List (Int × MV)} {k : Int} {P : MV → Mu → Prop} (hm : (d, MO.idict ep es) ∈ μ) (h : P ((lookD k es).getD .none) μ) : CJ G A (.builtin "dict.get") [.ref d, .int k] P μ := by
  intro s₀ B L ρ s vs hs hv
  refine va_ri hv fun t => ?_
  · obtain ⟨kvs, hd, hp, hn⟩ := hs.dict hm
    refine call_meetsIn F.slot_dict_get hd.dictOf.typeIs F.entry_dict_get (F.args_dict_get_2 _ _) (meets_dict_get (intKind PR w) d isInt_is hn) ⟨_, hd.dictOf.mapOf, ?_⟩
    rcases hp.look (k := k) with ⟨e, e'⟩ | ⟨v', u, e1, e2, hr⟩
    · rw [e']; rw [e] at h; exact ⟨.none, μ, rfl, hs.toks _, h⟩
    · rw [e2]; rw [e1] at h; exact ⟨v', μ, hr, hs.toks _, h⟩
noncomputable def valsObj (d : Addr) : Obj := { cls := .type "dict_values", data := .fields #[.ref d] }
inductive DelP (K : Mu → Prop) (ov iv : MV) (μ : Mu) : Prop
  | mk (d : Addr) (ep : Nat) (es : List (Int × MV)) (k : Int) (e1 : ov = .ref d) (e2 : iv = .int k) (hm : (d, MO.idict ep es) ∈ μ) (hl : (lookD k es).isSome = true) (hz : es.length ≤ big) (h : ∀ ep', SetP d (.idict ep' (withoutD es k)) K μ)
theorem s_delitem {o i : Expr} {pp pos : Pos} {rest : List Stmt} {P : MF → Rho → Mu → Prop}
    (h : T G A L (eval o env) (fun ov ρ μ => T G A L (eval i env) (fun iv ρ μ => DelP (fun μ' => X G A L (execs rest env) P ρ μ') ov iv μ) ρ μ) ρ μ) : X G A L (execs (.Delete [.Subscript o i pp] pos :: rest) env) P ρ μ :=
  s_cons fun s₀ B s hst => wpAny_Delete (wpAny_deleteEach_cons (wpAny_delete_Subscript (h.use hst fun ov a ρ₁ μ₁ s₁ ho hs₁ h₁ => h₁.use hs₁ fun iv b ρ₂ μ₂ s₂ hi hs₂ q => by
    cases q with | mk d ep es k e1 e2 hm hl hz h₂ =>
    subst e1 e2
    cases ho
    obtain ⟨t, rfl⟩ := hi
    obtain ⟨kvs, hd, hp, hn⟩ := hs₂.dict hm
    have hv : (valueAt kvs k).isSome = true := by
      rcases hp.look (k := k) with ⟨e, e'⟩ | ⟨v', u, e1, e2, hr⟩
      · rw [e] at hl; cases hl
      · rw [e2]; rfl
    refine wpAny_delItem_slot hd.dictOf.typeIs (by decide) F.slot_dict_delitem (call_meetsIn F.slot_dict_delitem hd.dictOf.typeIs F.entry_dict_delitem (F.args_dict_delitem_2 _ _) (meets_dict_delitem_pairs (intKind PR w) d isInt_is) ⟨kvs, hd.dictOf, by have := big_le hz; rw [hp.length]; omega, hv, fun h' hd' hsb => ?_⟩)
    obtain ⟨ep', hx⟩ := OA_of_dict hd' hp.without
    obtain ⟨μ', hu, hq⟩ := h₂ ep'
    exact wpAny_deleteEach_nil ⟨.next, _, μ', rfl, hs₂.set hu hsb hx, hq⟩)))
noncomputable def keyV (es : List (Int × MV)) (i : Nat) : MV := .int ((es.getD i (0, .undef)).1)
noncomputable def valV (es : List (Int × MV)) (i : Nat) : MV := (es.getD i (0, .undef)).2
theorem getD_get {es : List (Int × MV)} {i : Nat} (h : i < es.length) : es[i]? = some (es.getD i (0, .undef)) := by simp [h]
theorem itOf_dict {d : Addr} {ep : Nat} {es : List (Int × MV)} (hh : A.handled = none) (hm : (d, MO.idict ep es) ∈ μ) : ItOf G A (.ref d) es.length (keyV es) (fun μ => (d, MO.idict ep es) ∈ μ) μ := by
  rintro _ rfl s₀ B L ρ s hs Q E k
  obtain ⟨kvs, hd, hp, hn⟩ := hs.dict hm
  refine wpAny_pyIter_dict (knd := intKind PR w) hn hd (k _ _ s.toks _ (fun i o => o.cls = .type "dict_keyiterator" ∧ o.data = .fields #[.ref d, .int i 0, .int es.length 0, .int ep 0]) (get?_size _) (Nat.le_refl _) (fun _ _ e => Heap.get?_push_of_some _ e) (Heap.get?_push_size _ rfl) ⟨rfl, by rw [hp.length]; rfl⟩ ⟨?_, ?_, ?_⟩)
  · intro i s₁ B₁ L₁ ρ₁ μ₁ s o Q E hi hm hs hN k
    obtain ⟨kvs, hd, hp, hn⟩ := hs.dict hm
    obtain ⟨u, hx, hr⟩ := hp.get (getD_get hi)
    refine wpAny_pyNext_dict_item (knd := intKind PR w) ⟨o, hs.hidden, hN.1, by rw [hp.length]; exact hN.2⟩ hd hx fun key h' hkey hit hsb => ?_
    obtain ⟨o', ho', hc', hd'⟩ := hit
    obtain ⟨t, rfl⟩ := is_shape hkey
    exact k _ h' s.toks o' vi ho' ⟨hc', by rw [hd', hp.length]⟩ hsb
  · intro s₁ B₁ L₁ ρ₁ μ₁ s o Q E hm hs hN k
    obtain ⟨kvs, hd, hp, hn⟩ := hs.dict hm
    exact wpAny_pyNext_dict_end (knd := intKind PR w) hh ⟨o, hs.hidden, hN.1, by rw [hp.length]; exact hN.2⟩ hd (by simp [hp.length]) fun h' he => k h' s.toks he
  · intro i s₁ B₁ L₁ ρ₁ μ₁ s o Q E hs hN k
    exact wpAny_pyIter_keyiter ⟨o, hs.hidden, hN.1, hN.2⟩ k
theorem c_values {d : Addr} {ep : Nat} {es : List (Int × MV)} {P : MV → Mu → Prop} (hm : (d, MO.idict ep es) ∈ μ) (h : ∀ v, P (.ref v) ((v, .raw (valsObj d)) :: μ)) : CJ G A (.builtin "dict.values") [.ref d] P μ := by
  intro s₀ B L ρ s vs hs hv
  refine va_r hv ?_
  · obtain ⟨kvs, hd, hp, hn⟩ := hs.dict hm
    refine call_meetsIn F.slot_dict_values hd.dictOf.typeIs F.entry_dict_values (F.args_dict_values_1 _) (meets_dict_values (intKind PR w) d hn) ?_
    refine ⟨⟨_, hd.dictOf⟩, ?_⟩
    refine ⟨_, _, vr, ?_, h _⟩
    have := hs.push (o := .raw (valsObj d)) (x := valsObj d) (tk := s.toks) rfl rfl
    exact this
theorem itOf_values {v d : Addr} {ep : Nat} {es : List (Int × MV)} (hh : A.handled = none) (hm : (d, MO.idict ep es) ∈ μ) (hv : (v, MO.raw (valsObj d)) ∈ μ) : ItOf G A (.ref v) es.length (valV es) (fun μ => (d, MO.idict ep es) ∈ μ) μ := by
  rintro _ rfl s₀ B L ρ s hs Q E k
  obtain ⟨kvs, hd, hp, hn⟩ := hs.dict hm
  obtain ⟨_, hov, rfl⟩ := hs.get hv
  refine wpAny_pyIter_values (knd := intKind PR w) ⟨_, hov, rfl, rfl⟩ hd (k _ _ s.toks _ (fun i o => o.cls = .type "dict_valueiterator" ∧ o.data = .fields #[.ref d, .int i 0, .int es.length 0, .int ep 0]) (get?_size _) (Nat.le_refl _) (fun _ _ e => Heap.get?_push_of_some _ e) (Heap.get?_push_size _ rfl) ⟨rfl, by rw [hp.length]; rfl⟩ ⟨?_, ?_, ?_⟩)
  · intro i s₁ B₁ L₁ ρ₁ μ₁ s o Q E hi hm hs hN k
    obtain ⟨kvs, hd, hp, hn⟩ := hs.dict hm
    obtain ⟨u, hx, hr⟩ := hp.get (getD_get hi)
    refine wpAny_pyNext_values_item (knd := intKind PR w) ⟨o, hs.hidden, hN.1, by rw [hp.length]; exact hN.2⟩ hd hx fun h' hit hsb => ?_
    obtain ⟨o', ho', hc', hd'⟩ := hit
    exact k _ h' s.toks o' hr ho' ⟨hc', by rw [hd', hp.length]⟩ hsb
  · intro s₁ B₁ L₁ ρ₁ μ₁ s o Q E hm hs hN k
    obtain ⟨kvs, hd, hp, hn⟩ := hs.dict hm
    exact wpAny_pyNext_values_end (knd := intKind PR w) hh ⟨o, hs.hidden, hN.1, by rw [hp.length]; exact hN.2⟩ hd (by simp [hp.length]) fun h' he => k h' s.toks he
  · intro i s₁ B₁ L₁ ρ₁ μ₁ s o Q E hs hN k
    exact wpAny_pyIter_valiter ⟨o, hs.hidden, hN.1, hN.2⟩ k
end

noncomputable def TestsJ {w : World} (G : Gl w) (A : Around) (C : Addr) (cenv : Env) : List Expr → (Bool → Rho → Mu → Prop) → Rho → Mu → Prop
  | [], P, ρ, μ => P true ρ μ
  | [c], P, ρ, μ => Tb G A C (isTrue c cenv (eval c cenv)) P ρ μ
  | _, _, _, _ => False

theorem Bset_comm {B : Addr → Option Obj} {a b : Addr} {x y : Obj} (h : a ≠ b) : Bset (Bset B a x) b y = Bset (Bset B b y) a x := by
  funext c
  unfold Bset
  by_cases h1 : c = b <;> by_cases h2 : c = a
  · exact absurd (h2.symm.trans h1) h
  · simp [h1, Ne.symm h]
  · simp [h2, h]
  · simp [h1, h2]

inductive CompE (vs : Rho) (vm : Mu → Mu) (J : Mu → Prop) (ρ : Rho) (μ : Mu) : Prop
  | mk (μ₃ : Mu) (e : ρ = vs) (hs : List.Sublist (vm μ₃) μ) (j : J μ₃)
inductive CompI {w : World} (G : Gl w) (s₀ : Shared) (B : Addr → Option Obj) (it D C : Addr) (n : Nat) (N : Nat → Obj → Prop) (J : Nat → List MV → Mu → Prop) (vs : MV → Rho) (vm : MV → Mu → Mu) (k : Nat) (s : Shared) : Prop
  | mk (i : Nat) (acc : List MV) (μ : Mu) (u : MV) (o oD : Obj) (hi : i ≤ n) (hk : k = n - i) (hacc : acc.length ≤ i) (hN : N i o) (hD : OA w (.list acc) oD) (hj : J i acc μ) (hs : St G s₀ (Bset (Bset B it o) D oD) C (vs u) (vm u μ) s)
section
variable {w : World} {G : Gl w} {A : Around} {L : Addr} {env : Env} {ρ ρ' : Rho} {μ μ' : Mu} {s₀ : Shared} {B : Addr → Option Obj} {s : Shared}

theorem comp_loop {elt iter target : Expr} {ifs : List Expr} {scope : Scope} {pos : Pos} {it D C : Addr} {cenv : Env} {n : Nat} {V : Nat → MV} {N : Nat → Obj → Prop} {Cc : Mu → Prop} {R : Result → Shared → Prop}
    (I : It G A it n V N Cc) (hn : n ≤ big) (vs : MV → Rho) (vm : MV → Mu → Mu) (J : Nat → List MV → Mu → Prop) {o oD : Obj} {u : MV}
    (hlow : ∀ b x, G.hb.get? b = some x → B b = some x) (hbi : B it = none) (hbD : B D = none) (hiD : it ≠ D)
    (hs : St G s₀ (Bset (Bset B it o) D oD) C (vs u) (vm u μ) s) (hN : N 0 o) (hD : OA w (.list []) oD) (hJ : J 0 [] μ) (hC : ∀ i acc μ v, J i acc μ → Cc (vm v μ))
    (hasg : ∀ u v μ raw, VR v raw → Tu G A C (assign target cenv raw) (fun _ ρ' μ' => ρ' = vs v ∧ μ' = vm v μ) (vs u) (vm u μ))
    (turn : ∀ i acc μ, i < n → J i acc μ → TestsJ G A C cenv ifs (fun ok ρ₁ μ₁ => if ok = true then T G A C (eval elt cenv) (fun y ρ₂ μ₂ => CompE (vs (V i)) (vm (V i)) (J (i + 1) (acc ++ [y])) ρ₂ μ₂) ρ₁ μ₁
      else CompE (vs (V i)) (vm (V i)) (J (i + 1) acc) ρ₁ μ₁) (vs (V i)) (vm (V i) μ))
    (fin : ∀ v acc μ oD' s', J n acc μ → OA w (.list acc) oD' → St G s₀ (Bset B D oD') C (vs v) (vm v μ) s' → R (.ok .next) s')
    (ht : ∀ v, letOwnedTupleGo target (.ref it) v = pure () := by intro _; k_dflt rfl) :
    codeAny (model PR w) A (.compStart (.ListComp elt [⟨target, iter, ifs, 0⟩] scope pos) 0 (.ref it) (.ref D) cenv) R s := by
  have hlow1 : ∀ (oD : Obj) b x, G.hb.get? b = some x → Bset B D oD b = some x := fun oD b x e => by
    have := hlow b x e
    have hb : b ≠ D := by rintro rfl; rw [hbD] at this; cases this
    simp only [Bset, hb, if_false]; exact this
  have hlow2 : ∀ (o' : Obj) b x, G.hb.get? b = some x → Bset B it o' b = some x := fun o' b x e => by
    have := hlow b x e
    have hb : b ≠ it := by rintro rfl; rw [hbi] at this; cases this
    simp only [Bset, hb, if_false]; exact this
  have hb1 : ∀ oD, Bset B D oD it = none := fun oD => by simp only [Bset, hiD, if_false]; exact hbi
  have hb2 : ∀ o', Bset B it o' D = none := fun o' => by simp only [Bset, Ne.symm hiD, if_false]; exact hbD
  have loop : codeAny (model PR w) A (.compLoop (.ListComp elt [⟨target, iter, ifs, 0⟩] scope pos) 0 (.ref it) (.ref D) cenv) R s := by
    refine codeAny_compLoop_tests (CompI G s₀ B it D C n N J vs vm) ?_ n ⟨0, [], μ, u, o, oD, Nat.zero_le _, rfl, Nat.le_refl _, hN, hD, hJ, hs⟩ ht
    intro k s q
    cases q with | mk i acc μ u o oD hi hk hacc hN hD hj hs =>
    subst hk
    have hs1 : St G s₀ (Bset (Bset B D oD) it o) C (vs u) (vm u μ) s := by rw [← Bset_comm hiD]; exact hs
    by_cases hlt : i < n
    · refine I.item i s₀ (Bset B D oD) C (vs u) (vm u μ) s o _ _ hlt (hC _ _ _ _ hj) hs1 hN fun v h' tk o' hv ho' hN' hsb => ?_
      have hs2 := hs1.rehide (tk := tk) (hlow1 _) (hb1 _) hsb ho'
      refine Tg.use (hasg u (V i) μ v hv) hs2 fun _ _ ρ₂ μ₂ s₂ _ hs₂ e => ?_
      have hs3 : St G s₀ (Bset (Bset B it o') D oD) C (vs (V i)) (vm (V i) μ) s₂ := by rw [Bset_comm hiD, ← e.1, ← e.2]; exact hs₂
      have tn := turn i acc μ hlt hj
      have hi' : n - (i + 1) < n - i := by omega
      clear hs1 hs2 hs₂ e hs hN hj ho' hsb
      have stepF : ∀ {ρ₁ : Rho} {μ₁ : Mu} {s₃ : Shared}, St G s₀ (Bset (Bset B it o') D oD) C ρ₁ μ₁ s₃ → CompE (vs (V i)) (vm (V i)) (J (i + 1) acc) ρ₁ μ₁ → ∃ m, m < n - i ∧ CompI G s₀ B it D C n N J vs vm m s₃ := fun hs₃ q => by
        cases q with | mk μ₃ e hsub hj' => subst e; exact ⟨n - (i + 1), hi', i + 1, acc, μ₃, V i, o', oD, hlt, rfl, Nat.le_succ_of_le hacc, hN', hD, hj', hs₃.sub hsub⟩
      have stepT : ∀ {ρ₁ : Rho} {μ₁ : Mu} {s₃ : Shared} {E : Value → Shared → Prop}, St G s₀ (Bset (Bset B it o') D oD) C ρ₁ μ₁ s₃ → T G A C (eval elt cenv) (fun y ρ₂ μ₂ => CompE (vs (V i)) (vm (V i)) (J (i + 1) (acc ++ [y])) ρ₂ μ₂) ρ₁ μ₁ →
          wpAny (model PR w) A (eval elt cenv) (fun x s₄ => wpAny (model PR w) A (call (.builtin "list.append") [.ref D, x]) (fun _ s₅ => ∃ m, m < n - i ∧ CompI G s₀ B it D C n N J vs vm m s₅) E s₄) E s₃ := fun hs₃ hq => by
        refine Tg.use hq hs₃ fun y yv ρ₄ μ₄ s₄ hy hs₄ q => ?_
        cases q with | mk μ₃ e hsub hj' =>
        subst e
        obtain ⟨us, nn, rfl, hus⟩ := hD
        refine wpAny_list_append_plain (items := us.toArray) ⟨nn, hs₄.hidden⟩ (fun h5 ⟨n5, ho5⟩ hsb5 => ?_) (by have := big_le hn; rw [List.size_toArray, hus.length]; omega)
        exact ⟨n - (i + 1), hi', i + 1, acc ++ [y], μ₃, V i, o', _, hlt, rfl, by rw [List.length_append]; exact Nat.succ_le_succ hacc, hN', ⟨us ++ [yv], n5, by simp, hus.append (.single hy)⟩, hj', (hs₄.rehide (tk := s₄.toks) (hlow2 o') (hb2 o') hsb5 ho5).sub hsub⟩
      cases ifs with
      | nil => exact wpAny_tests_nil (stepT hs3 tn)
      | cons c r =>
        cases r with
        | nil =>
          refine wpAny_tests_one (Tg.use tn hs3 fun b b' ρ₁ μ₁ s₃ e hs₃ hq => ?_)
          cases e
          cases b with
          | true => exact stepT hs₃ hq
          | false => exact stepF hs₃ hq
        | cons c' r => exact tn.elim
    · cases (show i = n by omega)
      refine I.done s₀ (Bset B D oD) C (vs u) (vm u μ) s o _ _ (hC _ _ _ _ hj) hs1 hN fun h' tk he => ?_
      exact fin u acc μ oD _ hj hD (hs1.unhide (hlow1 _) (hb1 _) he)
  refine codeAny_compStart_list loop ?_
  have hs1 : St G s₀ (Bset (Bset B D oD) it o) C (vs u) (vm u μ) s := by rw [← Bset_comm hiD]; exact hs
  exact I.self 0 s₀ (Bset B D oD) C (vs u) (vm u μ) s o _ _ hs1 hN loop
end

section
variable {w : World} {G : Gl w} {A : Around} {L : Addr} {env : Env} {ρ ρ' : Rho} {μ μ' : Mu} {s₀ : Shared} {B : Addr → Option Obj} {s : Shared}

theorem St.freeze {a : Addr} {o : MO} {x : Obj} (h : St G s₀ B L ρ ((a, o) :: μ) s) (hx : s.heap.get? a = some x) : St G s₀ (Bset B a x) L ρ μ s := by
  obtain ⟨hb, hL, _⟩ := h.ob _ (.head _)
  simp only at hb hL
  refine ⟨h.same, fun b y e => ?_, h.above, fun b y e => ?_, ?_, h.ns, h.nr, (List.nodup_cons.mp h.nm).2, fun b hb => h.hi b (.tail _ hb), fun p hp => ?_⟩
  · have := h.low b y e
    have hba : b ≠ a := by rintro rfl; rw [hb] at this; cases this
    simp only [Bset, hba, if_false]; exact this
  · unfold Bset at e
    split at e
    · rename_i q; subst q; cases e; exact hx
    · exact h.keep b y e
  · simp only [Bset, Ne.symm hL, if_false]; exact h.bl
  · obtain ⟨a1, a2, a3⟩ := h.ob p (.tail _ hp)
    have hpa : p.1 ≠ a := fun e => (List.nodup_cons.mp h.nm).1 (by have h1 := List.mem_map_of_mem (f := Prod.fst) hp; rw [e] at h1; exact h1)
    exact ⟨by simp only [Bset, hpa, if_false]; exact a1, a2, a3⟩
theorem St.thaw {a : Addr} {o : MO} {x : Obj} (h : St G s₀ (Bset B a x) L ρ μ s) (hlow : ∀ b x, G.hb.get? b = some x → B b = some x) (hb : B a = none) (ho : OA w o x) (hge : G.hb.objs.size ≤ a) : St G s₀ B L ρ ((a, o) :: μ) s := by
  have h1 := h.unhide (tk := s.toks) hlow hb (Heap.ExtBut.refl a s.heap)
  have hL : L ≠ a := by
    rintro rfl
    have := h.bl
    simp [Bset] at this
  refine ⟨h1.same, h1.low, h1.above, h1.keep, h1.bl, h1.ns, h1.nr, List.nodup_cons.mpr ⟨fun hm => ?_, h1.nm⟩, fun b hb => ?_, fun p hp => ?_⟩
  · obtain ⟨p, hp, e⟩ := List.mem_map.mp hm
    have := (h.ob p hp).1
    rw [e] at this
    simp [Bset] at this
  · rcases List.mem_cons.mp hb with rfl | hb
    · exact hge
    · exact h1.hi b hb
  · rcases List.mem_cons.mp hp with rfl | hp
    · exact ⟨hb, Ne.symm hL, x, h.hidden, ho⟩
    · exact h1.ob p hp
theorem St.other {c : Addr} {h' : Heap} {tk : Nat} (h : St G s₀ B L ρ μ s) (hb : B c = none) (hL : c ≠ L) (hm : c ∉ μ.map (·.1)) (hs : Heap.SameBut c s.heap h') : St G s₀ B L ρ μ { s with heap := h', toks := tk } := by
  refine ⟨let ⟨_, _, e⟩ := h.same; ⟨h', tk, by rw [e]⟩, h.low, h.above, fun b o e => ?_, h.bl, ?_, h.nr, h.nm, h.hi, fun p hp => ?_⟩
  · have : b ≠ c := by rintro rfl; rw [hb] at e; cases e
    exact (hs.2 b this).trans (h.keep b o e)
  · obtain ⟨m, hn, hm⟩ := h.ns
    exact ⟨m, hn.sameBut hs (Ne.symm hL), hm⟩
  · obtain ⟨a1, a2, x, a3, a4⟩ := h.ob p hp
    have : p.1 ≠ c := fun e => hm (by have h1 := List.mem_map_of_mem (f := Prod.fst) hp; rw [e] at h1; exact h1)
    exact ⟨a1, a2, x, (hs.2 _ this).trans a3, a4⟩

noncomputable def CompJ (G : Gl w) (A : Around) (x : Str) (ifs : List Expr) (elt : Expr) (cenv : Addr → Env) (n : Nat) (V : Nat → MV) (J : Nat → List MV → Mu → Prop) : Prop :=
  ∀ C i acc μ, i < n → J i acc μ → TestsJ G A C (cenv C) ifs (fun ok ρ₁ μ₁ => if ok = true then T G A C (eval elt (cenv C)) (fun y ρ₂ μ₂ => CompE [(x, V i)] (fun μ => μ) (J (i + 1) (acc ++ [y])) ρ₂ μ₂) ρ₁ μ₁
      else CompE [(x, V i)] (fun μ => μ) (J (i + 1) acc) ρ₁ μ₁) [(x, V i)] μ

theorem comp_block {elt iter : Expr} {x : Str} {px : Pos} {ifs : List Expr} {scope : Scope} {cl : List (Str × Addr)} {pos : Pos} {it : Addr} {o : Obj} {n : Nat} {V : Nat → MV} {N : Nat → Obj → Prop} {Cc : Mu → Prop} {E : Value → Shared → Prop} {RR : Value → Addr → Result → Shared → Prop}
    (I : It G A it n V N Cc) (hn : n ≤ big) (J : Nat → List MV → Mu → Prop) (hcell : (scope.names.all fun x => !(x.2 == .cell)) = true) (hkind : scope.kind = .function) (hx : scope.names.lookup x = some .local)
    (hs : St G s₀ B L ρ ((it, .raw o) :: μ) s) (hN : N 0 o) (hJ : J 0 [] μ) (hC : ∀ i acc μ, J i acc μ → Cc μ) (turn : CompJ G A x ifs elt (fun C => compEnvC scope cl C env) n V J)
    (fin : ∀ D C acc μ' s', J n acc μ' → B C = none → C ≠ L → C ∉ ((D, MO.list acc) :: μ').map (·.1) → (∃ m, s'.heap.Ns C m) → St G s₀ B L ρ ((D, .list acc) :: μ') s' → RR (.ref D) C (.ok .next) s') :
    wpAny (model PR w) A (newList []) (fun acc s₃ => wpAny (model PR w) A (newFunctionEnv scope env.globals cl [] env.qual none .none (some env)) (fun cenv s₄ =>
      codeAny (model PR w) A (.compStart (.ListComp elt [⟨.Name x px, iter, ifs, 0⟩] scope pos) 0 (.ref it) acc { cenv with scope := relabel scope env }) (RR acc cenv.locals) s₄) E s₃) E s := by
  have hcell' : ∀ x ∈ scope.names, x.2 ≠ .cell := fun x hx e => by
    have := List.all_eq_true.mp hcell x hx
    rw [e] at this; cases this
  refine wpAny_newList ?_ (Nat.zero_le _)
  have hs1 := hs.push (o := .list []) (x := { cls := .type "list", data := .seq (List.toArray []) }) (tk := s.toks) ⟨[], 0, rfl, trivial⟩ rfl
  generalize hD : s.heap.objs.size = D at hs1 ⊢
  generalize hS : ({ s with heap := s.heap.push { cls := .type "list", data := .seq (List.toArray []) } } : Shared) = S at hs1 ⊢
  have hs1' : St G s₀ B L ρ ((D, .list []) :: (it, .raw o) :: μ) S := hs1
  refine wpAny_newFunctionEnv hcell' (by intro y hy; simp at hy) (fun h₁ hns hsb => ?_) hkind
  have hk₁ : ∀ b o, S.heap.get? b = some o → h₁.get? b = some o := fun b o e => hsb.extBut b o (Nat.ne_of_lt (Heap.lt_size e)) (Heap.get?_push_of_some _ e)
  have hs2 := hs1'.callee (ρ₀ := [(x, .undef)]) (tk := S.toks + ([] : List (Str × Value)).length) hns hk₁ (by intro p hp; rw [List.mem_singleton.mp hp]; exact .inl rfl) (by simp)
  obtain ⟨oD, hoD, hOD⟩ := hs2.get (List.Mem.head _)
  have hs3 := hs2.freeze hoD
  obtain ⟨oi, hoi, hOi⟩ := hs3.get (List.Mem.head _)
  have hs4 := hs3.freeze hoi
  cases hOi
  have hne : it ≠ D := by
    have := hs1'.nm
    simp only [List.map_cons, List.nodup_cons, List.mem_cons, not_or] at this
    exact fun e => this.1.1 e.symm
  have hb1 : Bcall ((D, .list []) :: (it, .raw o) :: μ) S.heap D = none := by simp [Bcall]
  have hb2 : Bcall ((D, .list []) :: (it, .raw o) :: μ) S.heap it = none := by simp [Bcall]
  have hs5 : St G s₀ (Bset (Bset (Bcall ((D, .list []) :: (it, .raw o) :: μ) S.heap) it o) D oD) S.heap.objs.size [(x, .undef)] μ { S with heap := h₁, toks := S.toks + ([] : List (Str × Value)).length } := by
    rw [Bset_comm hne]; exact hs4
  refine comp_loop (cenv := compEnvC scope cl S.heap.objs.size env) I hn (fun v => [(x, v)]) (fun _ μ => μ) J (u := .undef) hs2.low hb2 hb1 hne hs5 hN hOD hJ (fun i acc μ _ h => hC i acc μ h) ?_ (turn S.heap.objs.size) ?_
  · intro u v μ raw hv s₀ B s hs
    exact wpAny_assign_Name (Tg.use (st_local (env := compEnvC scope cl S.heap.objs.size env) (P := fun _ ρ' μ' => ρ' = [(x, v)] ∧ μ' = μ) (x := x) hv .head ⟨rfl, rfl⟩ (by simp [compEnvC, relabel, hkind]) (lookup_relabel_local hx)) hs fun _ _ ρ₂ μ₂ s₂ hr hs₂ hq => ⟨(), _, _, trivial, hs₂, hq⟩)
  · intro v acc μ' oD' s' hj hO hs'
    have hs6 := hs'.thaw hs2.low hb1 hO (hs1'.hi D (.head _))
    refine fin D S.heap.objs.size acc μ' s' hj (hs1'.fresh (get?_size _)).1 (hs1'.fresh (get?_size _)).2.1 (fun hm => ?_) (by cases hs6.ns with | mk m hm _ => exact ⟨m, hm⟩) (hs1'.caller hs6)
    obtain ⟨p, hp, e⟩ := List.mem_map.mp hm
    exact (hs6.ob p hp).l e

inductive CompP {w : World} (G : Gl w) (A : Around) (x : Str) (ifs : List Expr) (elt : Expr) (cenv : Addr → Env) (K : Addr → Mu → Prop) (v : MV) (μ : Mu) : Prop
  | mk (n : Nat) (V : Nat → MV) (Cc : Mu → Prop) (J : Nat → List MV → Mu → Prop) (hit : ItOf G A v n V Cc μ) (hn : n ≤ big) (h0 : J 0 [] μ) (hC : ∀ i acc μ, J i acc μ → Cc μ) (turn : CompJ G A x ifs elt cenv n V J) (hP : ∀ D acc μ', J n acc μ' → K D ((D, .list acc) :: μ'))
theorem names_loc {scope : Scope} (hnames : (scope.names.all fun y => !(y.2 == .local) || scope.names.lookup y.1 == some .local) = true) : ∀ y ∈ scope.names, y.2 = .local → scope.names.lookup y.1 = some .local := fun y hy e => by
  have := List.all_eq_true.mp hnames y hy
  rw [e] at this
  simpa using this
theorem e_comp {elt iter : Expr} {x : Str} {px : Pos} {ifs : List Expr} {scope : Scope} {cl : List (Str × Addr)} {pos : Pos} {P : MV → Rho → Mu → Prop}
    (hclos : closureFor scope env = pure cl) (hcell : (scope.names.all fun x => !(x.2 == .cell)) = true) (hkind : scope.kind = .function) (hnames : (scope.names.all fun y => !(y.2 == .local) || scope.names.lookup y.1 == some .local) = true) (hx : scope.names.lookup x = some .local)
    (h : T G A L (eval iter env) (fun v ρ μ => CompP G A x ifs elt (fun C => compEnvC scope cl C env) (fun D μ' => P (.ref D) ρ μ') v μ) ρ μ) (hs : ∀ x, foldedSetIterable iter env x = pure x := by intro _; rfl) : T G A L (eval (.ListComp elt [⟨.Name x px, iter, ifs, 0⟩] scope pos) env) P ρ μ := fun s₀ B s hst => by
  rw [eval_ListComp]
  refine wpAny_comprehension_free (use := none) rfl hs hclos hkind (names_loc hnames) (h.use hst fun v a ρ₁ μ₁ s₁ hv hs₁ q => ?_)
  cases q with | mk n V Cc J hit hn hJ hC turn hP =>
  refine hit a hv s₀ B L ρ₁ s₁ hs₁ _ _ fun it h' tk o N hni hge hk ho hN I => ?_
  have hs2 := hs₁.new (o := .raw o) (tk := tk) hni hge hk ⟨o, ho, rfl⟩
  refine comp_block (RR := fun acc C => compPost (model PR w) A NoE none _ acc C) I hn J hcell hkind hx hs2 hN hJ hC turn ?_
  intro D C acc μ' s' hj hb hL hm ⟨m, hns⟩ hs'
  exact ⟨m, hns, fun h'' hsb => ⟨.ref D, _, _, rfl, hs'.other (tk := s'.toks) hb hL hm hsb, hP D acc μ' hj⟩⟩
theorem s_assign_comp {elt iter : Expr} {x y : Str} {px py : Pos} {ifs : List Expr} {scope : Scope} {cl : List (Str × Addr)} {pos spos : Pos} {rest : List Stmt} {P : MF → Rho → Mu → Prop}
    (hsw : swapsWith (.ListComp elt [⟨.Name x px, iter, ifs, 0⟩] scope pos) (some (.Name y py)) spos.line env = pure true)
    (hclos : closureFor scope env = pure cl) (hcell : (scope.names.all fun x => !(x.2 == .cell)) = true) (hkind : scope.kind = .function) (hnames : (scope.names.all fun y => !(y.2 == .local) || scope.names.lookup y.1 == some .local) = true) (hx : scope.names.lookup x = some .local)
    (h : T G A env.locals (eval iter env) (fun v ρ μ => CompP G A x ifs elt (fun C => compEnvC scope cl C env) (fun D μ' => StoreP y (.ref D) (fun ρ' => X G A env.locals (execs rest env) P ρ' μ') ρ) v μ) ρ μ) (hk : KindOk env y .local := by kernel_rfl)
    (hs : ∀ x, foldedSetIterable iter env x = pure x := by intro _; rfl) : X G A env.locals (execs (.Assign [.Name y py] (.ListComp elt [⟨.Name x px, iter, ifs, 0⟩] scope pos) spos :: rest) env) P ρ μ :=
  s_cons fun s₀ B s hst => by
    rw [exec_Assign_Name_used _ _ _ _ hsw]
    refine wpAny_bind (wpAny_standAt (wpAny_bind ?_))
    show wpAny _ A (do let _ ← comprehension (.ListComp elt [⟨.Name x px, iter, ifs, 0⟩] scope pos) scope env _ (newList []) false (eval iter env) (some (assign (.Name y py) env))) _ _ s
    refine wpAny_bind (wpAny_mono (wpAny_comprehension_free (use := some (assign (.Name y py) env)) (E := NoE) (Q := fun _ s' => Post G s₀ B env.locals FR (seqP G A env.locals env rest P) .next s') rfl hs hclos hkind (names_loc hnames)
      (h.use hst fun v a ρ₁ μ₁ s₁ hv hs₁ q => ?_)) (fun _ s' hq => wpAny_pure (wpAny_pure hq)) fun _ _ e => e)
    cases q with | mk n V Cc J hit hn hJ hC turn hP =>
    refine hit a hv s₀ B _ ρ₁ s₁ hs₁ _ _ fun it h' tk o N hni hge hk' ho hN I => ?_
    have hs2 := hs₁.new (o := .raw o) (tk := tk) hni hge hk' ⟨o, ho, rfl⟩
    refine comp_block (RR := fun acc C => compPost (model PR w) A NoE (some (assign (.Name y py) env)) _ acc C) I hn J hcell hkind hx hs2 hN hJ hC turn ?_
    intro D C acc μ' s' hj hb hL hm ⟨m, hns⟩ hs'
    cases hP D acc μ' hj with | mk ρ' hp hX =>
    show wpAny _ A (assign (.Name y py) env (.ref D)) _ _ s'
    obtain ⟨m0, hn0, hm0⟩ := hs'.ns
    refine wpAny_assign_Name (wpAny_storeName_local hk.l hn0 (fun h₂ hn₂ hs₂ => ?_) (by rw [hk.k]; rfl))
    have hs3 := hs'.put (tk := s'.toks + 1) hp (vr (a := D)) hm0 hn₂ hs₂
    refine ⟨m, hns.sameBut hs₂ hL, fun h3 hsb3 => ⟨.next, _, _, rfl, hs3.other (tk := s'.toks + 1) hb hL hm hsb3, hX⟩⟩
end

theorem bindL_other {kd : Str → Option NameKind} {x : Str} : ∀ {r : List (Str × Value)} {m : Str → Option Value}, x ∉ r.map (·.1) → bindL kd r m x = m x
  | [], _, _ => rfl
  | (y, v) :: r, m, h => by
    have h1 : x ≠ y := by rintro rfl; exact h (.head _)
    have h2 : x ∉ r.map (·.1) := fun hm => h (.tail _ hm)
    unfold bindL
    rw [bindL_other h2]
    split
    · simp [h1]
    · rfl
theorem bindC_other {kd : Str → Option NameKind} {x : Str} : ∀ {r : List (Str × Value)} {m : Str → Option Value}, x ∉ r.map (·.1) → bindC kd r m x = m x
  | [], _, _ => rfl
  | (y, v) :: r, m, h => by
    have h1 : x ≠ y := by rintro rfl; exact h (.head _)
    have h2 : x ∉ r.map (·.1) := fun hm => h (.tail _ hm)
    unfold bindC
    rw [bindC_other h2]
    split
    · rfl
    · simp [h1]
theorem not_in_zip {x : Str} {xs : List Str} {vs : List Value} (h : x ∉ xs) : x ∉ (xs.zip vs).map (·.1) := fun hm => by
  obtain ⟨p, hp, rfl⟩ := List.mem_map.mp hm
  exact h (List.of_mem_zip hp).1
theorem bindL_of {kd : Str → Option NameKind} : ∀ {xs : List Str} {as : List MV} {vs : List Value} {m : Str → Option Value}, xs.Nodup → VRs as vs → ∀ p ∈ xs.zip as, kd p.1 = some .local → LR p.2 (bindL kd (xs.zip vs) m p.1)
  | x :: xs, a :: as, v :: vs, m, hn, hv, p, hp, hk => by
    rw [List.zip_cons_cons] at hp
    rw [List.zip_cons_cons]
    unfold bindL
    rcases List.mem_cons.mp hp with rfl | hp
    · rw [bindL_other (not_in_zip (List.nodup_cons.mp hn).1), if_pos hk]
      simp only [if_true]
      exact .some hv.1
    · exact bindL_of (List.nodup_cons.mp hn).2 hv.2 p hp hk
  | [], _, _, _, _, _, p, hp, _ => by simp at hp
  | _ :: _, [], _, _, _, _, p, hp, _ => by simp at hp
  | _ :: _, _ :: _, [], _, _, hv, _, _, _ => hv.elim
theorem bindC_of {kd : Str → Option NameKind} : ∀ {xs : List Str} {as : List MV} {vs : List Value} {m : Str → Option Value}, xs.Nodup → VRs as vs → ∀ p ∈ xs.zip as, kd p.1 = some .cell → LR p.2 (bindC kd (xs.zip vs) m p.1)
  | x :: xs, a :: as, v :: vs, m, hn, hv, p, hp, hk => by
    rw [List.zip_cons_cons] at hp
    rw [List.zip_cons_cons]
    unfold bindC
    rcases List.mem_cons.mp hp with rfl | hp
    · rw [bindC_other (not_in_zip (List.nodup_cons.mp hn).1), if_neg (by rw [hk]; exact nofun)]
      simp only [if_true]
      exact .some hv.1
    · exact bindC_of (List.nodup_cons.mp hn).2 hv.2 p hp hk
  | [], _, _, _, _, _, p, hp, _ => by simp at hp
  | _ :: _, [], _, _, _, _, p, hp, _ => by simp at hp
  | _ :: _, _ :: _, [], _, _, hv, _, _, _ => hv.elim
theorem lookup_of_mem {cs : List (Str × Addr)} (hn : (cs.map (·.1)).Nodup) : ∀ p ∈ cs, cs.lookup p.1 = some p.2 := fun p hp => by
  induction cs with
  | nil => cases hp
  | cons q r ih =>
    obtain ⟨k, v⟩ := q
    rw [List.map_cons, List.nodup_cons] at hn
    rw [List.lookup_cons]
    rcases List.mem_cons.mp hp with rfl | hp
    · simp
    · have : (p.1 == k) = false := by
        rw [beq_eq_false_iff_ne]; intro e; exact hn.1 (by have h1 := List.mem_map_of_mem (f := Prod.fst) hp; rw [e] at h1; exact h1)
      rw [this]; exact ih hn.2 hp

section
variable {w : World} {G : Gl w} {A : Around} {L : Addr} {env : Env} {ρ ρ' : Rho} {μ μ' : Mu} {s₀ : Shared} {B : Addr → Option Obj} {s : Shared}

theorem St.cells {L : Addr} {cm : Str → Option Value} {cv : Str → MV} : ∀ {cs : List (Str × Addr)}, (h : St G s₀ B L ρ μ s) → (cs.map (·.2)).Nodup → (∀ p ∈ cs, B p.2 = none ∧ p.2 ≠ L ∧ p.2 ∉ μ.map (·.1) ∧ G.hb.objs.size ≤ p.2) → (∀ p ∈ cs, s.heap.IsCell p.2 (cm p.1)) → (∀ p ∈ cs, LR (cv p.1) (cm p.1)) →
    St G s₀ B L ρ (cs.map (fun p => (p.2, MO.cell (cv p.1))) ++ μ) s
  | [], h, _, _, _, _ => h
  | (n, c) :: r, h, hn, hf, hc, hl => by
    have ih := St.cells h (List.nodup_cons.mp hn).2 (fun p hp => hf p (.tail _ hp)) (fun p hp => hc p (.tail _ hp)) (fun p hp => hl p (.tail _ hp))
    obtain ⟨f1, f2, f3, f4⟩ := hf (n, c) (.head _)
    have hnm : c ∉ (r.map (fun p => (p.2, MO.cell (cv p.1))) ++ μ).map (·.1) := by
      rw [List.map_append, List.map_map]
      intro hm
      rcases List.mem_append.mp hm with q | q
      · exact (List.nodup_cons.mp hn).1 q
      · exact f3 q
    refine ⟨ih.same, ih.low, ih.above, ih.keep, ih.bl, ih.ns, ih.nr, List.nodup_cons.mpr ⟨hnm, ih.nm⟩, fun a ha => ?_, fun p hp => ?_⟩
    · rcases List.mem_cons.mp ha with rfl | ha
      · exact f4
      · exact ih.hi a ha
    · rcases List.mem_cons.mp hp with rfl | hp
      · obtain ⟨o, ho, hd⟩ := hc (n, c) (.head _)
        exact ⟨f1, f2, o, ho, _, hd, hl (n, c) (.head _)⟩
      · exact ih.ob p hp

theorem c_fnc {f : Addr} {fd : FuncData} {body : List Stmt} {oc : Value} {od : Option Addr} {osl : Array (Option Value)} {as : List MV} {P : MV → Mu → Prop} {nm : List (Str × NameKind)} {mr : List (Str × Const)} (xs : List Str) (ρ₀ : Rho) (cs : Addr → List (Str × Addr)) (cv : Str → MV)
    (ho : (KK w.params).lookup f = some ⟨oc, od, .func fd, osl⟩) (hroom : A.depth < recursionLimit) (hbody : fd.body = .stmts body)
    (hcd : codeIn (KK w.params) fd.code fd.qualname = true) (hco : fd.scope.isCoroutine = false) (hgen : fd.scope.isGenerator = false) (hk : fd.scope.kind = .function)
    (hsc : fd.scope = { kind := .function, names := nm, isGenerator := false, isCoroutine := false, more := mr }) (hg : fd.globals = mainGlobals) (hcl : fd.closure = []) (hbi : fd.builtins = builtinsNs)
    (hcs : ∀ L, cellsFrom (L + 1) nm [] = cs L) (hcn : ∀ L, ((cs L).map (·.1)).Nodup)
    (hn : xs.Nodup) (hρn : (ρ₀.map (·.1)).Nodup) (hx : (xs.all fun x => fd.scope.names.lookup x == some .local || fd.scope.names.lookup x == some .cell) = true)
    (hρ : ∀ p ∈ ρ₀, p.2 = .undef ∨ (p ∈ xs.zip as ∧ nm.lookup p.1 = some .local)) (hcv : ∀ L, ∀ p ∈ cs L, cv p.1 = .undef ∨ ((p.1, cv p.1) ∈ xs.zip as ∧ nm.lookup p.1 = some .cell))
    (hb : ∀ vs, VRs as vs → bindArgs fd ⟨vs, []⟩ = pure (xs.zip vs))
    (h : ∀ L' q cd, X G (A.deeper (envS nm mr (cs L') L' q f cd)) (envS nm mr (cs L') L' q f cd).locals (execs body (envS nm mr (cs L') L' q f cd)) (fun fl ρ μ' => P (retOf fl) μ') ρ₀ ((cs L').map (fun p => (p.2, MO.cell (cv p.1))) ++ μ)) : CC G A (.ref f) as P μ := fun s₀ B L ρ s vs hs hv => by
  have e : ∀ L', callEnvC fd L' f = envS nm mr (cs L') L' (fd.qualname ++ ".<locals>.") f fd.code := fun L' => by
    unfold callEnvC newEnv envS
    rw [hsc, hg, hbi, hcs]
  have hnames : fd.scope.names = nm := by rw [hsc]
  refine codeAny_call_cells hroom (hs.K _ _ ho) rfl hs.T.nolimit (codeRec_of hs.K hcd) hbody (hb vs hv) hcl (fun x hx' => ?_) (fun s₁ hC => ?_) hco hgen hk
  · have := List.all_eq_true.mp hx x.1 (List.of_mem_zip hx').1
    rcases Bool.or_eq_true_iff.mp this with q | q
    · exact .inl (by simpa using q)
    · have q' : fd.scope.names.lookup x.1 = some .cell := by simpa using q
      exact .inr ⟨q', cellsFrom_some _ _ _ (.inl q')⟩
  · rw [e] at hC ⊢
    obtain ⟨⟨⟨h₁, tk, rfl⟩, hns, hkeep, _⟩, hcell, hap, hab⟩ := hC
    have kd : ∀ x, (envS nm mr (cs s.heap.objs.size) s.heap.objs.size (fd.qualname ++ ".<locals>.") f fd.code).kindOf x = nm.lookup x := fun _ => rfl
    have hs1 := hs.callee (ρ₀ := ρ₀) (tk := tk) hns hkeep (fun p hp => (hρ p hp).elim (fun q => .inl q) fun ⟨q1, q2⟩ => bindL_of hn hv p q1 q2) hρn
    have hcm : ∀ p ∈ cs s.heap.objs.size, Heap.IsCell h₁ p.2 (bindC (fun x => nm.lookup x) (xs.zip vs) (fun _ => none) p.1) := fun p hp => hcell p.1 p.2 (lookup_of_mem (hcn _) p hp)
    have hs2 := hs1.cells (cs := cs s.heap.objs.size) (cm := bindC (fun x => nm.lookup x) (xs.zip vs) (fun _ => none)) (cv := cv) (by
        have : ((cs s.heap.objs.size).map (·.2)).Pairwise (· ≠ ·) := List.pairwise_map.mpr hap
        exact this) (fun p hp => by
        have hlt : s.heap.objs.size < p.2 := hab p.1 p.2 hp
        have hnone : s.heap.get? p.2 = none := by
          cases q : s.heap.get? p.2 with
          | none => rfl
          | some o => exact absurd (Heap.lt_size q) (Nat.not_lt.mpr (Nat.le_of_lt hlt))
        refine ⟨?_, Nat.ne_of_gt hlt, (hs.fresh hnone).2.2, Nat.le_trans hs.size (Nat.le_of_lt hlt)⟩
        unfold Bcall; split
        · rfl
        · exact hnone) hcm (fun p hp => (hcv _ p hp).elim (fun q => .inl q) fun ⟨q1, q2⟩ => bindC_of hn hv _ q1 q2)
    refine Tg.use (h s.heap.objs.size _ _) hs2 fun fl g ρ₁ μ₁ s₁ hf hs₁ hp => ?_
    exact ⟨retOf fl, μ₁, vr_ret hf, hs.caller hs₁, hp⟩
end

section
variable {w : World} {G : Gl w} {A : Around} {L : Addr} {env : Env} {ρ ρ' : Rho} {μ μ' : Mu} {s₀ : Shared} {B : Addr → Option Obj} {s : Shared}

theorem wpAny_newEnvCell {M : Model} {E : Value → Shared → Prop} {scope : Scope} {globals : Addr} {cl : List (Str × Addr)} {qual : Str} {x : Str} {Q : Env → Shared → Prop}
    (hcf : ∀ n, cellsFrom n scope.names cl = (x, n) :: cl) (hpc : ∀ h, pushCells h scope.names = h.push { cls := .type "cell", data := .cell none })
    (h : Q (newEnv scope s.heap.objs.size globals ((x, s.heap.objs.size + 1) :: cl) qual none .none (some env) 0) { s with heap := (s.heap.push { cls := .type "dict", data := .dict #[] }).push { cls := .type "cell", data := .cell none } }) :
    wpAny M A (newFunctionEnv scope globals cl [] qual none .none (some env)) Q E s := by
  simp only [newFunctionEnv, Option.isSome_some, if_true]
  refine wpAny_bind (wpAny_alloc ?_)
  refine wpAny_bind (wpAny_layCells _ (fun name kind cells => by cases hkc : kind == NameKind.cell <;> simp [hkc]) _ _ _ _ ?_)
  rw [hcf, hpc]
  rw [show ({ s with heap := s.heap.push { cls := .type "dict", data := .dict #[] } } : Shared).heap.objs.size = s.heap.objs.size + 1 from Heap.size_push ..]
  exact wpAny_bind (wpAny_pure (wpAny_pure h))

noncomputable def CompJc (G : Gl w) (A : Around) (ifs : List Expr) (elt : Expr) (cenv : Addr → Env) (n : Nat) (V : Nat → MV) (J : Nat → List MV → Mu → Prop) : Prop :=
  ∀ C i acc μ, i < n → J i acc μ → TestsJ G A C (cenv C) ifs (fun ok ρ₁ μ₁ => if ok = true then T G A C (eval elt (cenv C)) (fun y ρ₂ μ₂ => CompE [] (fun μ => (C + 1, .cell (V i)) :: μ) (J (i + 1) (acc ++ [y])) ρ₂ μ₂) ρ₁ μ₁
      else CompE [] (fun μ => (C + 1, .cell (V i)) :: μ) (J (i + 1) acc) ρ₁ μ₁) [] ((C + 1, .cell (V i)) :: μ)

theorem comp_blockc {elt iter : Expr} {x : Str} {px : Pos} {ifs : List Expr} {scope : Scope} {cl : List (Str × Addr)} {pos : Pos} {it : Addr} {o : Obj} {n : Nat} {V : Nat → MV} {N : Nat → Obj → Prop} {Cc : Mu → Prop} {E : Value → Shared → Prop} {RR : Value → Addr → Result → Shared → Prop}
    (I : It G A it n V N Cc) (hn : n ≤ big) (J : Nat → List MV → Mu → Prop) (hcf : ∀ n, cellsFrom n scope.names cl = (x, n) :: cl) (hpc : ∀ h, pushCells h scope.names = h.push { cls := .type "cell", data := .cell none }) (hkind : scope.kind = .function) (hx : (relabel scope env).names.lookup x = some .cell)
    (hs : St G s₀ B L ρ ((it, .raw o) :: μ) s) (hN : N 0 o) (hJ : J 0 [] μ) (hC : ∀ i acc μ c, J i acc μ → Cc (c :: μ)) (turn : CompJc G A ifs elt (fun C => compEnvC scope ((x, C + 1) :: cl) C env) n V J)
    (fin : ∀ D C acc μ' s', J n acc μ' → B C = none → C ≠ L → C ∉ ((D, MO.list acc) :: μ').map (·.1) → (∃ m, s'.heap.Ns C m) → St G s₀ B L ρ ((D, .list acc) :: μ') s' → RR (.ref D) C (.ok .next) s') :
    wpAny (model PR w) A (newList []) (fun acc s₃ => wpAny (model PR w) A (newFunctionEnv scope env.globals cl [] env.qual none .none (some env)) (fun cenv s₄ =>
      codeAny (model PR w) A (.compStart (.ListComp elt [⟨.Name x px, iter, ifs, 0⟩] scope pos) 0 (.ref it) acc { cenv with scope := relabel scope env }) (RR acc cenv.locals) s₄) E s₃) E s := by
  refine wpAny_newList ?_ (Nat.zero_le _)
  have hs1 := hs.push (o := .list []) (x := { cls := .type "list", data := .seq (List.toArray []) }) (tk := s.toks) ⟨[], 0, rfl, trivial⟩ rfl
  generalize hD : s.heap.objs.size = D at hs1 ⊢
  generalize hS : ({ s with heap := s.heap.push { cls := .type "list", data := .seq (List.toArray []) } } : Shared) = S at hs1 ⊢
  have hs1' : St G s₀ B L ρ ((D, .list []) :: (it, .raw o) :: μ) S := hs1
  refine wpAny_newEnvCell (env := env) hcf hpc ?_
  have hk₁ : ∀ b o, S.heap.get? b = some o → ((S.heap.push { cls := .type "dict", data := .dict #[] })).get? b = some o := fun b o e => Heap.get?_push_of_some _ e
  have hs2a := hs1'.callee (ρ₀ := []) (tk := S.toks) (Heap.Ns.new S.heap (.type "dict")) hk₁ (by intro p hp; cases hp) List.nodup_nil
  have hs2b := hs2a.push (o := .cell .undef) (x := { cls := .type "cell", data := .cell none }) (tk := S.toks) ⟨none, rfl, .inl rfl⟩ rfl
  simp only [Heap.size_push] at hs2b
  have hs2 : St G s₀ (Bcall ((D, .list []) :: (it, .raw o) :: μ) S.heap) S.heap.objs.size [] ((D, .list []) :: (it, .raw o) :: (S.heap.objs.size + 1, .cell .undef) :: μ) { S with heap := (S.heap.push { cls := .type "dict", data := .dict #[] }).push { cls := .type "cell", data := .cell none } } := by
    refine ⟨hs2b.same, hs2b.low, hs2b.above, hs2b.keep, hs2b.bl, hs2b.ns, hs2b.nr, ?_, fun a ha => hs2b.hi a ?_, fun p hp => hs2b.ob p ?_⟩
    · have := hs2b.nm
      simp only [List.map_cons, List.nodup_cons, List.mem_cons, not_or] at this ⊢
      refine ⟨⟨this.2.1.1, fun e => this.1.1 e.symm, this.2.1.2⟩, ⟨fun e => this.1.2.1 e.symm, this.2.2.1⟩, this.1.2.2, this.2.2.2⟩
    · simp only [List.map_cons, List.mem_cons] at ha ⊢
      rcases ha with h | h | h | h
      · exact .inr (.inl h)
      · exact .inr (.inr (.inl h))
      · exact .inl h
      · exact .inr (.inr (.inr h))
    · simp only [List.mem_cons] at hp ⊢
      rcases hp with h | h | h | h
      · exact .inr (.inl h)
      · exact .inr (.inr (.inl h))
      · exact .inl h
      · exact .inr (.inr (.inr h))
  obtain ⟨oD, hoD, hOD⟩ := hs2.get (List.Mem.head _)
  have hs3 := hs2.freeze hoD
  obtain ⟨oi, hoi, hOi⟩ := hs3.get (List.Mem.head _)
  have hs4 := hs3.freeze hoi
  cases hOi
  have hne : it ≠ D := by
    have := hs1'.nm
    simp only [List.map_cons, List.nodup_cons, List.mem_cons, not_or] at this
    exact fun e => this.1.1 e.symm
  have hb1 : Bcall ((D, .list []) :: (it, .raw o) :: μ) S.heap D = none := by simp [Bcall]
  have hb2 : Bcall ((D, .list []) :: (it, .raw o) :: μ) S.heap it = none := by simp [Bcall]
  rw [Bset_comm (Ne.symm hne)] at hs4
  refine comp_loop (cenv := compEnvC scope ((x, S.heap.objs.size + 1) :: cl) S.heap.objs.size env) I hn (fun v => []) (fun v μ => (S.heap.objs.size + 1, .cell v) :: μ) J (u := .undef) hs2.low hb2 hb1 hne hs4 hN hOD hJ (fun i acc μ _ h => hC i acc μ _ h) ?_ (turn S.heap.objs.size) ?_
  · intro u v μ raw hv s₀ B s hs
    exact wpAny_assign_Name (Tg.use (st_cell (env := compEnvC scope ((x, S.heap.objs.size + 1) :: cl) S.heap.objs.size env) (P := fun _ ρ' μ' => ρ' = [] ∧ μ' = (S.heap.objs.size + 1, MO.cell v) :: μ) (x := x) (c := S.heap.objs.size + 1) hv hx (by simp [compEnvC]) (List.Mem.head _) .head ⟨rfl, rfl⟩ (by simp [compEnvC, relabel, hkind])) hs fun _ _ ρ₂ μ₂ s₂ hr hs₂ hq => ⟨(), _, _, trivial, hs₂, hq⟩)
  · intro v acc μ' oD' s' hj hO hs'
    have hs6 := (hs'.sub (List.sublist_cons_self _ _)).thaw hs2.low hb1 hO (hs1'.hi D (.head _))
    refine fin D S.heap.objs.size acc μ' s' hj (hs1'.fresh (get?_size _)).1 (hs1'.fresh (get?_size _)).2.1 (fun hm => ?_) (by cases hs6.ns with | mk m hm _ => exact ⟨m, hm⟩) (hs1'.caller hs6)
    obtain ⟨p, hp, e⟩ := List.mem_map.mp hm
    exact (hs6.ob p hp).l e

inductive CompPc {w : World} (G : Gl w) (A : Around) (ifs : List Expr) (elt : Expr) (cenv : Addr → Env) (K : Addr → Mu → Prop) (v : MV) (μ : Mu) : Prop
  | mk (n : Nat) (V : Nat → MV) (Cc : Mu → Prop) (J : Nat → List MV → Mu → Prop) (hit : ItOf G A v n V Cc μ) (hn : n ≤ big) (h0 : J 0 [] μ) (hC : ∀ i acc μ c, J i acc μ → Cc (c :: μ)) (turn : CompJc G A ifs elt cenv n V J) (hP : ∀ D acc μ', J n acc μ' → K D ((D, .list acc) :: μ'))
theorem e_compc {elt iter : Expr} {x : Str} {px : Pos} {ifs : List Expr} {scope : Scope} {cl : List (Str × Addr)} {pos : Pos} {P : MV → Rho → Mu → Prop}
    (hclos : closureFor scope env = pure cl) (hcf : ∀ n, cellsFrom n scope.names cl = (x, n) :: cl) (hpc : ∀ h, pushCells h scope.names = h.push { cls := .type "cell", data := .cell none }) (hkind : scope.kind = .function) (hnames : (scope.names.all fun y => !(y.2 == .local) || scope.names.lookup y.1 == some .local) = true) (hx : (relabel scope env).names.lookup x = some .cell)
    (h : T G A L (eval iter env) (fun v ρ μ => CompPc G A ifs elt (fun C => compEnvC scope ((x, C + 1) :: cl) C env) (fun D μ' => P (.ref D) ρ μ') v μ) ρ μ) (hs : ∀ x, foldedSetIterable iter env x = pure x := by intro _; rfl) : T G A L (eval (.ListComp elt [⟨.Name x px, iter, ifs, 0⟩] scope pos) env) P ρ μ := fun s₀ B s hst => by
  rw [eval_ListComp]
  refine wpAny_comprehension_free (use := none) rfl hs hclos hkind (names_loc hnames) (h.use hst fun v a ρ₁ μ₁ s₁ hv hs₁ q => ?_)
  cases q with | mk n V Cc J hit hn hJ hC turn hP =>
  refine hit a hv s₀ B L ρ₁ s₁ hs₁ _ _ fun it h' tk o N hni hge hk ho hN I => ?_
  have hs2 := hs₁.new (o := .raw o) (tk := tk) hni hge hk ⟨o, ho, rfl⟩
  refine comp_blockc (RR := fun acc C => compPost (model PR w) A NoE none _ acc C) I hn J hcf hpc hkind hx hs2 hN hJ hC turn ?_
  intro D C acc μ' s' hj hb hL hm ⟨m, hns⟩ hs'
  exact ⟨m, hns, fun h'' hsb => ⟨.ref D, _, _, rfl, hs'.other (tk := s'.toks) hb hL hm hsb, hP D acc μ' hj⟩⟩
theorem s_assign_compc {elt iter : Expr} {x y : Str} {px py : Pos} {ifs : List Expr} {scope : Scope} {cl : List (Str × Addr)} {pos spos : Pos} {rest : List Stmt} {P : MF → Rho → Mu → Prop}
    (hsw : swapsWith (.ListComp elt [⟨.Name x px, iter, ifs, 0⟩] scope pos) (some (.Name y py)) spos.line env = pure true)
    (hclos : closureFor scope env = pure cl) (hcf : ∀ n, cellsFrom n scope.names cl = (x, n) :: cl) (hpc : ∀ h, pushCells h scope.names = h.push { cls := .type "cell", data := .cell none }) (hkind : scope.kind = .function) (hnames : (scope.names.all fun y => !(y.2 == .local) || scope.names.lookup y.1 == some .local) = true) (hx : (relabel scope env).names.lookup x = some .cell)
    (h : T G A env.locals (eval iter env) (fun v ρ μ => CompPc G A ifs elt (fun C => compEnvC scope ((x, C + 1) :: cl) C env) (fun D μ' => StoreP y (.ref D) (fun ρ' => X G A env.locals (execs rest env) P ρ' μ') ρ) v μ) ρ μ) (hk : KindOk env y .local := by kernel_rfl)
    (hs : ∀ x, foldedSetIterable iter env x = pure x := by intro _; rfl) : X G A env.locals (execs (.Assign [.Name y py] (.ListComp elt [⟨.Name x px, iter, ifs, 0⟩] scope pos) spos :: rest) env) P ρ μ :=
  s_cons fun s₀ B s hst => by
    rw [exec_Assign_Name_used _ _ _ _ hsw]
    refine wpAny_bind (wpAny_standAt (wpAny_bind ?_))
    show wpAny _ A (do let _ ← comprehension (.ListComp elt [⟨.Name x px, iter, ifs, 0⟩] scope pos) scope env _ (newList []) false (eval iter env) (some (assign (.Name y py) env))) _ _ s
    refine wpAny_bind (wpAny_mono (wpAny_comprehension_free (use := some (assign (.Name y py) env)) (E := NoE) (Q := fun _ s' => Post G s₀ B env.locals FR (seqP G A env.locals env rest P) .next s') rfl hs hclos hkind (names_loc hnames)
      (h.use hst fun v a ρ₁ μ₁ s₁ hv hs₁ q => ?_)) (fun _ s' hq => wpAny_pure (wpAny_pure hq)) fun _ _ e => e)
    cases q with | mk n V Cc J hit hn hJ hC turn hP =>
    refine hit a hv s₀ B _ ρ₁ s₁ hs₁ _ _ fun it h' tk o N hni hge hk' ho hN I => ?_
    have hs2 := hs₁.new (o := .raw o) (tk := tk) hni hge hk' ⟨o, ho, rfl⟩
    refine comp_blockc (RR := fun acc C => compPost (model PR w) A NoE (some (assign (.Name y py) env)) _ acc C) I hn J hcf hpc hkind hx hs2 hN hJ hC turn ?_
    intro D C acc μ' s' hj hb hL hm ⟨m, hns⟩ hs'
    cases hP D acc μ' hj with | mk ρ' hp hX =>
    show wpAny _ A (assign (.Name y py) env (.ref D)) _ _ s'
    obtain ⟨m0, hn0, hm0⟩ := hs'.ns
    refine wpAny_assign_Name (wpAny_storeName_local hk.l hn0 (fun h₂ hn₂ hs₂ => ?_) (by rw [hk.k]; rfl))
    have hs3 := hs'.put (tk := s'.toks + 1) hp (vr (a := D)) hm0 hn₂ hs₂
    refine ⟨m, hns.sameBut hs₂ hL, fun h3 hsb3 => ⟨.next, _, _, rfl, hs3.other (tk := s'.toks + 1) hb hL hm hsb3, hX⟩⟩
end

section
variable {w : World} {G : Gl w} {A : Around} {L : Addr} {env : Env} {ρ ρ' : Rho} {μ μ' : Mu} {s₀ : Shared} {B : Addr → Option Obj} {s : Shared}
theorem St.re (h : St G s₀ B L ρ μ s) (hs : ∀ p ∈ μ', p ∈ μ) (hn : (μ.map (·.1)).Nodup → (μ'.map (·.1)).Nodup) : St G s₀ B L ρ μ' s :=
  { h with nm := hn h.nm, hi := fun a ha => by obtain ⟨p, hp, rfl⟩ := List.mem_map.mp ha; exact h.hi _ (List.mem_map_of_mem (hs p hp)), ob := fun p hp => h.ob p (hs p hp) }
theorem Tg.re {α β : Type} {R : β → α → Prop} {t : Sem α} {P : β → Rho → Mu → Prop} (μ' : Mu) (hs : ∀ p ∈ μ', p ∈ μ) (hn : (μ.map (·.1)).Nodup → (μ'.map (·.1)).Nodup) (h : Tg G R A L t P ρ μ') : Tg G R A L t P ρ μ :=
  fun s₀ B s hst => h s₀ B s (hst.re hs hn)
theorem CC.re {f : Value} {args : List MV} {P : MV → Mu → Prop} (μ' : Mu) (hs : ∀ p ∈ μ', p ∈ μ) (hn : (μ.map (·.1)).Nodup → (μ'.map (·.1)).Nodup) (h : CC G A f args P μ') : CC G A f args P μ :=
  fun s₀ B L ρ s vs hst => h s₀ B L ρ s vs (hst.re hs hn)
theorem CJ.re {f : Value} {args : List MV} {P : MV → Mu → Prop} (μ' : Mu) (hs : ∀ p ∈ μ', p ∈ μ) (hn : (μ.map (·.1)).Nodup → (μ'.map (·.1)).Nodup) (h : CJ G A f args P μ') : CJ G A f args P μ :=
  fun s₀ B L ρ s vs hst => h s₀ B L ρ s vs (hst.re hs hn)
inductive SubP (P : MV → Mu → Prop) (x : MV) (μ : Mu) : Prop
  | mk (μ' : Mu) (h1 : ∀ p ∈ μ', p ∈ μ) (h2 : (μ.map (·.1)).Nodup → (μ'.map (·.1)).Nodup) (h : P x μ')
theorem CC.subp {f : Value} {args : List MV} {P : MV → Mu → Prop} (h : CC G A f args (SubP P) μ) : CC G A f args P μ :=
  h.map fun _ _ _ _ _ _ q => q.use fun x μ' hx hs' hp => by
    cases hp with | mk μ'' h1 h2 hp => exact ⟨x, μ'', hx, hs'.re h1 h2, hp⟩
theorem Tg.perm {α β : Type} {R : β → α → Prop} {t : Sem α} {P : β → Rho → Mu → Prop} (μ' : Mu) (hp : μ'.Perm μ) (h : Tg G R A L t P ρ μ') : Tg G R A L t P ρ μ :=
  h.re μ' (fun p => hp.subset (a := p)) (fun hn => (hp.map _).nodup_iff.mpr hn)
inductive Pick (p : Addr × MO) : Mu → Mu → Prop
  | head {r : Mu} : Pick p (p :: r) r
  | tail {q : Addr × MO} {r r' : Mu} : Pick p r r' → Pick p (q :: r) (q :: r')
  | app {t r r' : Mu} : Pick p r r' → Pick p (t ++ r) (t ++ r')
inductive PickL (b : Mu) : Mu → Mu → Prop
  | head {r : Mu} : PickL b (b ++ r) r
  | tail {q : Addr × MO} {r r' : Mu} : PickL b r r' → PickL b (q :: r) (q :: r')
  | app {t r r' : Mu} : PickL b r r' → PickL b (t ++ r) (t ++ r')
  | last : PickL b b []
inductive Sel : Mu → Mu → Prop
  | all {m : Mu} : Sel m m
  | cons {p : Addr × MO} {r m m' : Mu} : Pick p m m' → Sel r m' → Sel (p :: r) m
  | app {b r m m' : Mu} : PickL b m m' → Sel r m' → Sel (b ++ r) m
  | drop {q : Addr × MO} {r m : Mu} : Sel r m → Sel r (q :: m)
  | dropL {t r m : Mu} : Sel r m → Sel r (t ++ m)
  | nil {m : Mu} : Sel [] m
theorem Pick.perm {p : Addr × MO} {m m' : Mu} (h : Pick p m m') : m.Perm (p :: m') := by
  induction h with
  | head => exact .refl _
  | tail _ ih => exact (ih.cons _).trans (.swap _ _ _)
  | app _ ih => exact (ih.append_left _).trans List.perm_middle
theorem PickL.perm {b m m' : Mu} (h : PickL b m m') : m.Perm (b ++ m') := by
  induction h with
  | head => exact .refl _
  | tail _ ih => exact (ih.cons _).trans List.perm_middle.symm
  | app _ ih => exact (ih.append_left _).trans (by rw [← List.append_assoc, ← List.append_assoc]; exact List.perm_append_comm.append_right _)
  | last => rw [List.append_nil]
theorem Sel.sub {r m : Mu} (h : Sel r m) : ∃ l : Mu, List.Sublist r l ∧ m.Perm l := by
  induction h with
  | all => exact ⟨_, .refl _, .refl _⟩
  | cons hp _ ih => obtain ⟨l, h1, h2⟩ := ih; exact ⟨_, h1.cons_cons _, hp.perm.trans (h2.cons _)⟩
  | app hp _ ih => obtain ⟨l, h1, h2⟩ := ih; exact ⟨_, h1.append_left _, hp.perm.trans (h2.append_left _)⟩
  | drop _ ih => obtain ⟨l, h1, h2⟩ := ih; exact ⟨_, h1.cons _, h2.cons _⟩
  | dropL _ ih => obtain ⟨l, h1, h2⟩ := ih; exact ⟨_, h1.trans (List.sublist_append_right _ _), h2.append_left _⟩
  | nil => exact ⟨_, List.nil_sublist _, .refl _⟩
theorem Sel.mem {r m : Mu} (h : Sel r m) : ∀ p ∈ r, p ∈ m := by
  obtain ⟨l, h1, h2⟩ := h.sub
  exact fun p hp => h2.symm.subset (h1.subset hp)
theorem Sel.nd {r m : Mu} (h : Sel r m) (hn : (m.map (·.1)).Nodup) : (r.map (·.1)).Nodup := by
  obtain ⟨l, h1, h2⟩ := h.sub
  exact (h1.map _).nodup ((h2.map _).nodup_iff.mp hn)
theorem Tg.sel {α β : Type} {R : β → α → Prop} {t : Sem α} {P : β → Rho → Mu → Prop} (μ' : Mu) (hs : Sel μ' μ) (h : Tg G R A L t P ρ μ') : Tg G R A L t P ρ μ := h.re μ' hs.mem hs.nd
theorem CC.sel {f : Value} {args : List MV} {P : MV → Mu → Prop} (μ' : Mu) (hs : Sel μ' μ) (h : CC G A f args P μ') : CC G A f args P μ := h.re μ' hs.mem hs.nd
theorem CJ.sel {f : Value} {args : List MV} {P : MV → Mu → Prop} (μ' : Mu) (hs : Sel μ' μ) (h : CJ G A f args P μ') : CJ G A f args P μ := h.re μ' hs.mem hs.nd
theorem SubP.sel {P : MV → Mu → Prop} {x : MV} (hs : Sel μ' μ) (h : P x μ') : SubP P x μ := ⟨μ', hs.mem, hs.nd, h⟩
theorem o_mul {i j : Int} {P : MV → Rho → Mu → Prop} (hm : IntMulOk i j) (h : P (.int (i * j)) ρ μ) : ∀ a b, VR (.int i) a → VR (.int j) b → T G A L (binaryOp .Mult a b) P ρ μ := fun a b ha hb _ _ s hs => by
  obtain ⟨_, rfl⟩ := ha; obtain ⟨_, rfl⟩ := hb; exact mul_int ⟨_, _, _, vi, hs.toks _, h⟩ hm
theorem e_nameL {x : Str} {pos : Pos} {v : MV} {P : MV → Rho → Mu → Prop} (hm : (x, v) ∈ ρ) (h : P v ρ μ) (hv : v ≠ .undef := by exact nofun)
    (hL : env.locals = L := by kernel_rfl) (hk : KindOk env x .local := by kernel_rfl) : T G A L (eval (.Name x pos) env) P ρ μ := by
  subst hL; exact e_name hm h hv hk
theorem e_str {x : Str} {k : Nat} {pos : Pos} {P : MV → Rho → Mu → Prop} (h : P (.str x) ρ μ) : T G A L (eval (.Constant (.str x) k pos) env) P ρ μ := fun s₀ B s hs => wpAny_Constant_str ⟨_, _, _, vs, hs.toks _, h⟩
theorem s_expr {e : Expr} {pos : Pos} {rest : List Stmt} {P : MF → Rho → Mu → Prop} (h : T G A L (eval e env) (fun _ ρ μ => X G A L (execs rest env) P ρ μ) ρ μ)
    (hi : interactive env = false := by rfl) (hs : swapsWith e none pos.line env = pure false := by rfl) : X G A L (execs (.Expr e pos :: rest) env) P ρ μ :=
  s_cons fun s₀ B s hst => wpAny_Expr_any (h.use hst fun v a ρ₁ μ₁ s₁ hv hs₁ h₁ => ⟨.next, _, _, rfl, hs₁, h₁⟩) hi hs
theorem e_walrus {x : Str} {px pos : Pos} {value : Expr} {P : MV → Rho → Mu → Prop} (h : T G A env.locals (eval value env) (fun v ρ μ => StoreP x v (fun ρ' => P v ρ' μ) ρ) ρ μ)
    (hk : KindOk env x .local := by kernel_rfl) : T G A env.locals (eval (.NamedExpr (.Name x px) value pos) env) P ρ μ :=
  fun s₀ B s hst => wpAny_NamedExpr (h.use hst fun v a ρ₁ μ₁ s₁ hv hs₁ q => by
    cases q with | mk ρ' hp h₁ =>
    exact wpAny_assign_Name (Tg.use (st_local (P := fun _ ρ μ => P v ρ μ) hv hp h₁ hk.k hk.l) hs₁ fun _ _ ρ₂ μ₂ s₂ _ hs₂ h₁ => ⟨v, _, _, hv, hs₂, h₁⟩))
theorem as_item {o i : Expr} {pp : Pos} {mv : MV} {v : Value} {P : Unit → Rho → Mu → Prop} (hv : VR mv v)
    (h : T G A L (eval o env) (fun ov ρ μ => T G A L (eval i env) (fun iv ρ μ => SJ G A ov iv mv (fun μ' => P () ρ μ') μ) ρ μ) ρ μ) : Tu G A L (assign (.Subscript o i pp) env v) P ρ μ := fun s₀ B s hst Γ p hΓ => by
  have h1 : wpAny (model PR w) A (eval o env) (fun ov s₂ => wpAny (model PR w) A (eval i env) (fun iv s₃ => wpAny (model PR w) A (setItem ov iv v) (fun _ s' => Post G s₀ B L UR P () s') NoE s₃) NoE s₂) NoE s :=
    h.use hst fun ov b ρ₂ μ₂ s₂ ho hs₂ h₂ => h₂.use hs₂ fun iv c ρ₃ μ₃ s₃ hi hs₃ h₃ =>
      wpAny_mono (h₃ s₀ B L ρ₃ s₃ b c v hs₃ ho hi hv) (fun _ s' q => q.use fun μ' hs' hp => ⟨(), _, _, trivial, hs', hp⟩) fun _ _ f => f
  simp only [assign_Subscript, Sem.wp_bind', Sem.wp_holding, Sem.wp_cmd_standAt, Sem.wp_release]
  exact Sem.wp_mono _ Γ _ (fun ov p₂ s₂ h₂ => Sem.wp_mono _ Γ _ (fun iv _ s₃ h₃ => h₃ Γ _ hΓ)
    (fun _ _ _ h' => h') _ _ (h₂ Γ p₂ hΓ)) (fun _ _ _ h' => h') _ _ (h1 Γ p hΓ)
theorem s_assign2 {o i value : Expr} {x : Str} {pp px pos : Pos} {rest : List Stmt} {P : MF → Rho → Mu → Prop}
    (h : T G A env.locals (eval value env) (fun v ρ μ => T G A env.locals (eval o env) (fun ov ρ μ => T G A env.locals (eval i env) (fun iv ρ μ => SJ G A ov iv v (fun μ' => StoreP x v (fun ρ' => X G A env.locals (execs rest env) P ρ' μ') ρ) μ) ρ μ) ρ μ) ρ μ)
    (he : (assignEach [.Subscript o i pp, .Name x px] env).map (·.2) = [assign (.Subscript o i pp) env, assign (.Name x px) env] := by k_dflt rfl)
    (hw : swappedStores [.Subscript o i pp, .Name x px] value env = pure none := by rfl)
    (hk : KindOk env x .local := by kernel_rfl) : X G A env.locals (execs (.Assign [.Subscript o i pp, .Name x px] value pos :: rest) env) P ρ μ :=
  s_cons fun s₀ B s hst => wpAny_Assign_two (h.use hst fun v a ρ₁ μ₁ s₁ hv hs₁ h₁ => Tg.use (as_item (P := fun _ ρ₂ μ' => StoreP x v (fun ρ' => X G A env.locals (execs rest env) P ρ' μ') ρ₂) hv h₁) hs₁ fun _ _ ρ₂ μ₂ s₂ _ hs₂ q => by
    cases q with | mk ρ' hp h₂ =>
    exact wpAny_assign_Name (Tg.use (st_local (P := fun _ ρ μ => X G A env.locals (execs rest env) P ρ μ) hv hp h₂ hk.k hk.l) hs₂ fun _ _ ρ₃ μ₃ s₃ _ hs₃ h₂ => ⟨.next, _, _, rfl, hs₃, h₂⟩)) he hw
inductive UnpackP (x y : Str) (K : Rho → Prop) (v : MV) (ρ : Rho) (μ : Mu) : Prop
  | mk (t : Addr) (a b : MV) (ρ₁ ρ₂ : Rho) (e : v = .ref t) (hm : (t, MO.tuple [a, b]) ∈ μ) (hp : PutAt x a ρ ρ₁) (hp' : PutAt y b ρ₁ ρ₂) (h : K ρ₂)
theorem s_unpack2 {value : Expr} {x y : Str} {px py pt pos : Pos} {k : Nat} {rest : List Stmt} {P : MF → Rho → Mu → Prop} (hh : A.handled = none)
    (h : T G A env.locals (eval value env) (fun v ρ μ => UnpackP x y (fun ρ' => X G A env.locals (execs rest env) P ρ' μ) v ρ μ) ρ μ)
    (hs : swapsWithSole [.Tuple [.Name x px, .Name y py] k pt] value pos.line env = pure false := by k_dflt rfl)
    (hw : swappedStores [.Tuple [.Name x px, .Name y py] k pt] value env = pure none := by k_dflt rfl)
    (hk : KindOk env x .local := by kernel_rfl) (hk' : KindOk env y .local := by kernel_rfl) : X G A env.locals (execs (.Assign [.Tuple [.Name x px, .Name y py] k pt] value pos :: rest) env) P ρ μ :=
  s_cons fun s₀ B s hst => Assign_Tuple (h.use hst fun v a ρ₁ μ₁ s₁ hv hs₁ q => by
    cases q with | mk t ma mb ρ₂ ρ₃ e hm hp hp' h₁ =>
    subst e; cases hv
    obtain ⟨vs, n, ho, hvs⟩ := hs₁.tuple hm
    revert ho
    refine va2 hvs fun va vb ha hb => ?_
    intro ho
    refine wpAny_assign_Tuple hh (isTuple_of ho) rfl rfl fun h' hext => ?_
    have hs₂ : St G s₀ B env.locals ρ₁ μ₁ { s₁ with heap := h' } := hs₁.grow (tk := s₁.toks) fun b x e => hext b x (Nat.ne_of_lt (Heap.lt_size e)) e
    refine wpAny_assignInOrder_more (wpAny_assign_Name (Tg.use (st_local (P := fun _ ρ μ => PutAt y mb ρ ρ₃ ∧ X G A env.locals (execs rest env) P ρ₃ μ) ha hp ⟨hp', h₁⟩ hk.k hk.l) hs₂ fun _ _ ρ₄ μ₄ s₄ _ hs₄ e => ?_))
    exact wpAny_assignInOrder_more (wpAny_assign_Name (Tg.use (st_local (P := fun _ ρ μ => X G A env.locals (execs rest env) P ρ μ) hb e.1 e.2 hk'.k hk'.l) hs₄ fun _ _ ρ₅ μ₅ s₅ _ hs₅ h₁ => wpAny_assignInOrder_none ⟨.next, _, _, rfl, hs₅, h₁⟩))) hs hw
inductive NextP (K : Rho → Mu → Prop) (fl : MF) (ρ : Rho) (μ : Mu) : Prop
  | mk (e : fl = .next) (h : K ρ μ)
theorem s_ifj {test : Expr} {body orelse : List Stmt} {pos : Pos} {rest : List Stmt} {P : MF → Rho → Mu → Prop} (K : Rho → Mu → Prop) (hK : ∀ ρ μ, K ρ μ → X G A L (execs rest env) P ρ μ)
    (h : Tb G A L (isTrue test env (eval test env)) (fun b ρ μ => if b = true then X G A L (execs body env) (NextP K) ρ μ else X G A L (execs orelse env) (NextP K) ρ μ) ρ μ) :
    X G A L (execs (.If test body orelse pos :: rest) env) P ρ μ :=
  have key : ∀ fl ρ μ, NextP K fl ρ μ → seqP G A L env rest P fl ρ μ := fun fl ρ μ q => by
    cases q with | mk e k => subst e; exact seq_next (hK ρ μ k)
  s_if (h.mono fun b ρ μ h => by
    cases b with
    | true => exact Tg.mono h key
    | false => exact Tg.mono h key)
theorem St.iset {a : Addr} {S : Int → Bool} {n : Nat} (h : St G s₀ B L ρ μ s) (hm : (a, MO.iset S n) ∈ μ) : s.heap.SetOf (intKind PR w) a S n := by
  obtain ⟨o, ho, es, ep, t, h1, h2, h3, h4, h5, h6, h7⟩ := h.get hm
  exact ⟨o, es, ep, t, ho, h1, h2, h3, h4, h5, h6, h7⟩
theorem OA_of_set {a : Addr} {h' : Heap} {S : Int → Bool} {n : Nat} (hd : h'.SetOf (intKind PR w) a S n) : Has w h' a (.iset S n) := by
  obtain ⟨o, es, ep, t, ho, h1, h2, h3, h4, h5, h6, h7⟩ := hd
  exact ⟨o, ho, es, ep, t, h1, h2, h3, h4, h5, h6, h7⟩
theorem c_set0 {P : MV → Mu → Prop} (h : ∀ a, P (.ref a) ((a, .iset (fun _ => false) 0) :: μ)) : CJ G A (.type "set") [] P μ := fun s₀ B L ρ s vs hs hv => by
  refine vr0 hv ?_
  · refine call_set_0 fun led => ⟨_, _, vr, hs.push (tk := s.toks) ?_ rfl, h _⟩
    refine ⟨#[], 0, _, ?_, rfl, ?_, ?_, by decide, ?_, rfl⟩
    · exact ⟨rfl, rfl, rfl⟩
    · intro e h; cases h
    · intro k; simp
    · rfl
theorem o_in_set {a : Addr} {S : Int → Bool} {n : Nat} {k : Int} {P : MV → Rho → Mu → Prop} (hm : (a, MO.iset S n) ∈ μ) (h : P (.bool (S k)) ρ μ) : ∀ x y, VR (.int k) x → VR (.ref a) y → T G A L (compareOp .In x y) P ρ μ := by
  rintro x y ⟨t, rfl⟩ rfl s₀ B s hs
  exact wpAny_inSet_of (isInt_is (k := k)) rfl (hs.iset hm) ⟨_, _, _, vb, hs.toks _, h⟩
theorem isT_set {a : Addr} {S : Int → Bool} {n : Nat} (hm : (a, MO.iset S n) ∈ μ) : IsT G "set" (.ref a) μ := by
  rintro s₀ B L ρ s v hs rfl
  exact ⟨(hs.iset hm).typeIs, (hs.iset hm).noDict⟩
theorem c_setadd {a : Addr} {S : Int → Bool} {n : Nat} {k : Int} {P : MV → Mu → Prop} (hm : (a, MO.iset S n) ∈ μ) (hb : n < 1000) (hu : SetAt a (.iset (fun k' => S k' || decide (k' = k)) (if S k then n else n + 1)) μ μ') (h : P .none μ') : CJ G A (.builtin "set.add") [.ref a, .int k] P μ := by
  intro s₀ B L ρ s vs hs hv
  refine va_ri hv fun t => ?_
  · exact call_set_add (isInt_is (k := k)) rfl (hs.iset hm) (by show n + 1 < 4096; omega) fun h' hsb hS => ⟨_, _, vn, hs.set hu hsb (OA_of_set hS), h⟩
abbrev E1 (e : Expr) {P : MV → Rho → Mu → Prop} : Prop := T G A L (eval e env) P ρ μ
abbrev B1 (e : Expr) {whole : Sem Value} {P : Bool → Rho → Mu → Prop} : Prop := Tb G A L (isTrue e env whole) P ρ μ
abbrev X1 (s : Stmt) {rest : List Stmt} {P : MF → Rho → Mu → Prop} : Prop := X G A L (execs (s :: rest) env) P ρ μ
abbrev A1 (l : List Expr) {pos : Pos} {P : List MV → Rho → Mu → Prop} : Prop := Ts G A L (spliced (backTo pos (starEach l env))) P ρ μ
abbrev O2 (m : Value → Value → Sem Value) (x y : MV) {P : MV → Rho → Mu → Prop} : Prop := ∀ a b, VR x a → VR y b → T G A L (m a b) P ρ μ
abbrev S1 (f : MF) {rest : List Stmt} {P : MF → Rho → Mu → Prop} : Prop := seqP G A L env rest P f ρ μ
abbrev P1 (x : Str) (v : MV) {K : Rho → Prop} : Prop := StoreP x v K ρ
end

local macro_rules | `(tactic| walk_at "mem") => `(tactic| with_reducible first | exact List.mem_cons_self | (refine List.mem_cons_of_mem _ ?_; walk_at "mem") | assumption)
local macro_rules | `(tactic| walk_at "set") => `(tactic| with_reducible first | exact SetAt.head | (apply SetAt.tail; walk_at "set"))
local macro_rules | `(tactic| walk_at "pt") => `(tactic| with_reducible first | exact PutAt.head | (apply PutAt.tail; walk_at "pt"))
local macro_rules | `(tactic| walk_at "sel") => `(tactic| with_reducible repeat' first | exact Sel.all | exact Pick.head | apply Pick.tail | apply Pick.app | exact PickL.head | apply PickL.tail | apply PickL.app | exact PickL.last | exact Sel.nil | apply Sel.cons | apply Sel.app | apply Sel.drop | apply Sel.dropL)
local macro_rules | `(tactic| k_qdec) => `(tactic| decide +kernel)

noncomputable def txt (i : Int) : Str := Str.ofString (toString i)
theorem strs_are : ∀ {ns : List Str} {vs : List Value}, VRs (mstrs ns) vs → StrsAre vs ns
  | [], [], _ => .nil
  | n :: ns, v :: vs, ⟨⟨t, e⟩, h⟩ => by subst e; exact .cons n t (strs_are h)
  | [], _ :: _, h => h.elim
  | _ :: _, [], h => h.elim
noncomputable def FmtTo : MV → Str → Prop
  | .str x, y => y = x ∧ x.length ≤ 1000
  | .int i, y => y = txt i ∧ i.natAbs.log2 < 1920 ∧ y.length ≤ 1000
  | _, _ => False
section
variable {w : World} {G : Gl w} {A : Around} {L : Addr} {env : Env} {ρ ρ' : Rho} {μ μ' : Mu} {s₀ : Shared} {B : Addr → Option Obj} {s : Shared}
theorem c_strint {i : Int} {P : MV → Mu → Prop} (hd : i.natAbs.log2 < 1920) (h : P (.str (txt i)) μ) : CJ G A (.type "str") [.int i] P μ := by
  intro s₀ B L ρ s us hs hv
  refine va_i hv fun t => ?_
  · exact PySem.P.str_of_int hd ⟨_, μ, vs, hs.toks _, h⟩
theorem isT_str {x : Str} : IsT G "str" (.str x) μ := by
  rintro s₀ B L ρ s _ hs ⟨t, rfl⟩
  exact ⟨typeIs_str _ _ _, fun a e => by cases e⟩
theorem c_join {a : Addr} {x : Str} {ys : List Str} {P : MV → Mu → Prop} (hm : (a, MO.list (mstrs ys)) ∈ μ) (hx : x.length ≤ 16) (hw : (ys.map (·.length)).sum + ys.length ≤ 1048576) (h : P (.str (Str.join x ys)) μ) : CJ G A (.builtin "str.join") [.str x, .ref a] P μ := by
  intro s₀ B L ρ s us hs hv
  refine va2 hv fun _ _ h1 h2 => ?_
  · obtain ⟨t, rfl⟩ := h1
    cases h2
    obtain ⟨vs, n, ho, hv⟩ := hs.list hm
    refine join_listW (isList_of ho) (by simpa using strs_are hv) hx hw fun t' k => ?_
    rw [show Txt.join x ys = Str.join x ys from StrLaws.glued_eq_join x ys]
    exact ⟨_, μ, Mine.vs, hs.toks _, h⟩
inductive FmtP (x : Str) (P : MV → Rho → Mu → Prop) (v : MV) (ρ : Rho) (μ : Mu) : Prop
  | mk (y : Str) (hf : FmtTo v y) (h : P (.str (x ++ y)) ρ μ)
inductive StrP (P : MV → Mu → Prop) (v : MV) (μ : Mu) : Prop
  | mk (y : Str) (e : v = .str y) (h : P v μ)
theorem e_fstr {x : Str} {k : Nat} {p1 p2 pos : Pos} {value : Expr} {P : MV → Rho → Mu → Prop} (hx : x.length ≤ 1000)
    (h : T G A L (eval value env) (FmtP x P) ρ μ) : T G A L (eval (.JoinedStr [.Constant (.str x) k p1, .FormattedValue value (-1) none p2] pos) env) P ρ μ := by
  intro s₀ B s hs
  refine wpAny_JoinedStr ?_
  show Joins (model PR w) A _ [eval (.Constant (.str x) k p1) env, eval (.FormattedValue value (-1) none p2) env] Str.empty _ s
  refine wpAny_Constant_str ⟨x, _, rfl, ?_, ?_⟩
  · rw [Str.empty_append]; exact Nat.le_trans hx (by decide)
  rw [Str.empty_append]
  refine wpAny_FormattedValue_plain (h.use (hs.toks _) fun v a ρ₁ μ₁ s₁ hv hs₁ q => ?_)
  cases q with | mk y hf hp =>
  have hl : ∀ z : Str, z.length ≤ 1000 → (x ++ z).length ≤ sizeLine := fun z hz => by rw [Str.length_append]; show _ ≤ 16777216; omega
  cases v with
  | str z =>
    obtain ⟨t, rfl⟩ := hv
    obtain ⟨rfl, hz⟩ := hf
    refine wpAny_formatField_str ⟨y, _, rfl, hl _ hz, hl _ hz, _, _, _, vs, hs₁.toks _, hp⟩ ⟨y, _, rfl, hl _ hz, hl _ hz, _, _, _, vs, hs₁.toks _, hp⟩ (Nat.le_trans hz (by decide))
  | int i =>
    obtain ⟨t, rfl⟩ := hv
    obtain ⟨rfl, hz, hz'⟩ := hf
    refine wpAny_formatField_int hz ⟨txt i, _, rfl, hl _ hz', hl _ hz', _, _, _, vs, hs₁.toks _, hp⟩
  | _ => exact hf.elim
theorem c_strobj {x C d f : Addr} {sl : List MV} {fs : List (Str × MV)} {P : MV → Mu → Prop} (h1 : (x, MO.obj C d sl) ∈ μ) (h2 : (d, MO.attrs fs) ∈ μ) (hu : A.units + 10 < cLine)
    (hs : findIn (KK w.params) (.ref C) "__str__" = some (some (.ref f))) (hf : isFn (KK w.params) (.ref f) = true) (h : ∀ A' : Around, A'.depth = A.depth → A'.units = A.units + 2 → A'.handled = A.handled → CC G A' (.ref f) [.ref x] (StrP P) μ) : CJ G A (.type "str") [.ref x] P μ := by
  intro s₀ B L ρ s us hst hv
  refine va_r hv ?_
  · obtain ⟨ss, es, n, hss, hes, g1, g2, I⟩ := hst.inst h1 h2
    refine kso_call (by show A.units + 2 < cLine; omega) hst.K I hs hf ((h A.in1.in1 rfl rfl rfl).cj.use (vs := [.ref x]) hst ⟨rfl, trivial⟩ fun y v μ' s' hy hs' hp => ?_)
    obtain ⟨z, rfl, hp⟩ := hp
    obtain ⟨t, rfl⟩ := hy
    exact ⟨_, _, vs, hs', hp⟩
end

section
set_option maxRecDepth 100000
theorem mro_filter : mroOf (.type "filter") = pure [.type "filter", .type "object"] := by rw [mroOf_type]; kernel_rfl
theorem lookup_filter_new : typeLookup (.type "filter") "__new__" = pure (some (.builtin "filter.__new__")) := by rw [typeLookup_type, builtinLookup_eq_fast]; kernel_rfl
theorem slot_filter_init : Slot "filter" "__init__" "object.__init__" :=
  .of (owner := "object") (n := "__init__") (by rw [typeLookup_type, builtinLookup_eq_fast]; kernel_rfl) (by decide +kernel) (by decide +kernel) (by decide +kernel)
    (by first | exact .inl (by decide +kernel) | exact .inr (by decide +kernel)) (by rw [isSubtype_type]; kernel_rfl)
theorem called_filter : TypeCalled "filter" "filter.__new__" "object.__init__" :=
  ⟨by decide +kernel, by decide +kernel, ⟨_, _, mro_filter⟩, madeBy_type mro_filter lookup_filter_new (by decide +kernel), by decide +kernel, by rw [isSubtype_type]; kernel_rfl, slot_filter_init⟩
theorem typeCall_filter_2 (a b : Value) : checkTypeCall "filter" ⟨[a, b], []⟩ = pure () := by kernel_rfl
theorem newCall_filter_2 (a b : Value) : checkBuiltinCall "filter.__new__" ⟨[.type "filter", a, b], []⟩ = pure () := by kernel_rfl
theorem entry_filter_new : entryFor table "filter.__new__" = some Builtin.«filter.__new__» := entryFor_of_tree (by kernel_rfl)
theorem slot_filter_next : Slot "filter" "__next__" "filter.__next__" :=
  .of (owner := "filter") (n := "__next__") (by rw [typeLookup_type, builtinLookup_eq_fast]; kernel_rfl) (by decide +kernel) (by decide +kernel) (by decide +kernel)
    (by first | exact .inl (by decide +kernel) | exact .inr (by decide +kernel)) (by rw [isSubtype_type]; kernel_rfl)
theorem entry_filter_next : entryFor table "filter.__next__" = some Builtin.«filter.__next__» := entryFor_of_tree (by kernel_rfl)
theorem args_filter_next (a : Value) : argsOk "filter.__next__" ⟨[a], []⟩ := by unfold argsOk; kernel_rfl
theorem slot_filter_iter : Slot "filter" "__iter__" "filter.__iter__" :=
  .of (owner := "filter") (n := "__iter__") (by rw [typeLookup_type, builtinLookup_eq_fast]; kernel_rfl) (by decide +kernel) (by decide +kernel) (by decide +kernel)
    (by first | exact .inl (by decide +kernel) | exact .inr (by decide +kernel)) (by rw [isSubtype_type]; kernel_rfl)
theorem entry_filter_iter : entryFor table "filter.__iter__" = some Builtin.«dict_keyiterator.__iter__» :=
  entryFor_alias (id' := "dict_keyiterator.__iter__") (by kernel_rfl) (by first | rfl | decide +kernel | (unfold String.splitOn; simp +decide [String.splitOnAux])) (by decide +kernel) (by kernel_rfl)
theorem args_filter_iter (a : Value) : argsOk "filter.__iter__" ⟨[a], []⟩ := by unfold argsOk; kernel_rfl
theorem sub_filter : isSubtype (.type "filter") (.type "filter") = pure true := by rw [isSubtype_type]; kernel_rfl
theorem nolen_filter : typeLookup (.type "filter") "__len__" = pure none := by rw [typeLookup_type, builtinLookup_eq_fast]; kernel_rfl
theorem nohint_filter : typeLookup (.type "filter") "__length_hint__" = pure none := by rw [typeLookup_type, builtinLookup_eq_fast]; kernel_rfl
theorem mro_map : mroOf (.type "map") = pure [.type "map", .type "object"] := by rw [mroOf_type]; kernel_rfl
theorem lookup_map_new : typeLookup (.type "map") "__new__" = pure (some (.builtin "map.__new__")) := by rw [typeLookup_type, builtinLookup_eq_fast]; kernel_rfl
theorem slot_map_init : Slot "map" "__init__" "object.__init__" :=
  .of (owner := "object") (n := "__init__") (by rw [typeLookup_type, builtinLookup_eq_fast]; kernel_rfl) (by decide +kernel) (by decide +kernel) (by decide +kernel)
    (by first | exact .inl (by decide +kernel) | exact .inr (by decide +kernel)) (by rw [isSubtype_type]; kernel_rfl)
theorem called_map : TypeCalled "map" "map.__new__" "object.__init__" :=
  ⟨by decide +kernel, by decide +kernel, ⟨_, _, mro_map⟩, madeBy_type mro_map lookup_map_new (by decide +kernel), by decide +kernel, by rw [isSubtype_type]; kernel_rfl, slot_map_init⟩
theorem typeCall_map_2 (a b : Value) : checkTypeCall "map" ⟨[a, b], []⟩ = pure () := by kernel_rfl
theorem newCall_map_2 (a b : Value) : checkBuiltinCall "map.__new__" ⟨[.type "map", a, b], []⟩ = pure () := by kernel_rfl
theorem entry_map_new : entryFor table "map.__new__" = some Builtin.«map.__new__» := entryFor_of_tree (by kernel_rfl)
theorem slot_map_next : Slot "map" "__next__" "map.__next__" :=
  .of (owner := "map") (n := "__next__") (by rw [typeLookup_type, builtinLookup_eq_fast]; kernel_rfl) (by decide +kernel) (by decide +kernel) (by decide +kernel)
    (by first | exact .inl (by decide +kernel) | exact .inr (by decide +kernel)) (by rw [isSubtype_type]; kernel_rfl)
theorem entry_map_next : entryFor table "map.__next__" = some Builtin.«map.__next__» := entryFor_of_tree (by kernel_rfl)
theorem args_map_next (a : Value) : argsOk "map.__next__" ⟨[a], []⟩ := by unfold argsOk; kernel_rfl
theorem slot_map_iter : Slot "map" "__iter__" "map.__iter__" :=
  .of (owner := "map") (n := "__iter__") (by rw [typeLookup_type, builtinLookup_eq_fast]; kernel_rfl) (by decide +kernel) (by decide +kernel) (by decide +kernel)
    (by first | exact .inl (by decide +kernel) | exact .inr (by decide +kernel)) (by rw [isSubtype_type]; kernel_rfl)
theorem entry_map_iter : entryFor table "map.__iter__" = some Builtin.«dict_keyiterator.__iter__» :=
  entryFor_alias (id' := "dict_keyiterator.__iter__") (by kernel_rfl) (by first | rfl | decide +kernel | (unfold String.splitOn; simp +decide [String.splitOnAux])) (by decide +kernel) (by kernel_rfl)
theorem args_map_iter (a : Value) : argsOk "map.__iter__" ⟨[a], []⟩ := by unfold argsOk; kernel_rfl
theorem sub_map : isSubtype (.type "map") (.type "map") = pure true := by rw [isSubtype_type]; kernel_rfl
theorem nolen_map : typeLookup (.type "map") "__len__" = pure none := by rw [typeLookup_type, builtinLookup_eq_fast]; kernel_rfl
theorem nohint_map : typeLookup (.type "map") "__length_hint__" = pure none := by rw [typeLookup_type, builtinLookup_eq_fast]; kernel_rfl
end

theorem lk_contains : typeLookup (.type "set") (Str.ofString "__contains__") = pure (some (.builtin "set.__contains__")) := F.slot_set_contains.lookup
theorem set_getattr_none : typeLookup (.type "set") "__getattr__" = pure none := by rw [typeLookup_type, builtinLookup_eq_fast]; kernel_rfl
theorem entry_set_getattribute : entryFor table "set.__getattribute__" = some Builtin.«object.__getattribute__» :=
  entryFor_alias (id' := "object.__getattribute__") (by kernel_rfl) (by decide +kernel) (by decide +kernel) (by kernel_rfl)
theorem md_get : typeLookup (.type "method_descriptor") (Str.ofString "__get__") = pure (some (.builtin "method_descriptor.__get__")) := by rw [typeLookup_type, builtinLookup_eq_fast]; kernel_rfl
theorem md_set : typeLookup (.type "method_descriptor") (Str.ofString "__set__") = pure none := by rw [typeLookup_type, builtinLookup_eq_fast]; kernel_rfl
theorem md_delete : typeLookup (.type "method_descriptor") (Str.ofString "__delete__") = pure none := by rw [typeLookup_type, builtinLookup_eq_fast]; kernel_rfl
section
variable {prog : Program} {w : World} {A : Around} {E : Value → Shared → Prop} {s : Shared}
theorem slot_mdget : Slot "method_descriptor" "__get__" "method_descriptor.__get__" :=
  .of (owner := "method_descriptor") (n := "__get__") (by rw [typeLookup_type, builtinLookup_eq_fast]; kernel_rfl) (by decide +kernel) (by decide +kernel) (by decide +kernel)
    (by first | exact .inl (by decide +kernel) | exact .inr (by decide +kernel)) (by rw [isSubtype_type]; kernel_rfl)
theorem entry_mdget : entryFor table "method_descriptor.__get__" = some Builtin.«method_descriptor.__get__» := entryFor_of_tree (by kernel_rfl)
theorem args_mdget (a b c : Value) : argsOk "method_descriptor.__get__" ⟨[a, b, c], []⟩ := by unfold argsOk; kernel_rfl
theorem owner_sc : (kfb_private% "ownerAndName") "set.__contains__" = ("set", "__contains__") := by first | decide +kernel | kernel_rfl
theorem told_sc : Manifest.toldItsClass.contains "set.__contains__" = false := by decide +kernel
theorem run_mdget {a : Addr} {P : Fin → Shared → Prop} (hT : s.TypeIs (.ref a) "set") (h : P (.done (.ret (.ref s.heap.objs.size))) { s with heap := s.heap.push { cls := .type "builtin_function_or_method", data := .fields #[.builtin "set.__contains__", .ref a] } }) :
    wpAny (model prog w) A (Builtin.«method_descriptor.__get__» ⟨[.builtin "set.__contains__", .ref a, .type "set"], []⟩) P E s := by
  unfold Builtin.«method_descriptor.__get__»
  refine wpAny_bind (wpAny_of_eq (a := (.builtin "set.__contains__", some (.ref a), some (.type "set"))) (by rfl) ?_)
  dsimp only
  rw [if_neg (by rw [told_sc]; decide)]
  show wpAny _ _ ((kfb_private% "checkInstance") (.builtin "set.__contains__") (.ref a) >>= fun _ => newFields "builtin_function_or_method" [.builtin "set.__contains__", .ref a] >>= fun v => ret v) P E s
  refine wpAny_bind ?_
  show wpAny _ _ (isInstance (.ref a) (.type ((kfb_private% "ownerAndName") "set.__contains__").1) >>= fun b => if (!b) = true then _ else pure ()) _ _ _
  rw [owner_sc]
  refine wpAny_bind (wpAny_isInstance hT sub_set_self ?_)
  refine wpAny_pure ?_
  exact wpAny_bind (wpAny_newObj_type (wpAny_pure h))
set_option maxRecDepth 100000 in
theorem gattr_contains {a : Addr} {es : Array (Int × Value)} {ep : Nat} {tb : SetTable} {u : Tok} {Q : Value → Shared → Prop} (hx : s.heap.get? a = some { cls := .type "set", dict := none, data := .set es ep tb, slots := #[] })
    (h : Q (.ref s.heap.objs.size) { s with heap := s.heap.push { cls := .type "builtin_function_or_method", data := .fields #[.builtin "set.__contains__", .ref a] } }) :
    wpAny (model prog w) A (Builtin.«object.__getattribute__» ⟨[.ref a, .str (Str.ofString "__contains__") u], []⟩) (fun fin s' => ∃ v, fin = .done (.ret v) ∧ Q v s') E s := by
  have hT : s.TypeIs (.ref a) "set" := ⟨_, hx, rfl⟩
  have hMD : ∀ s' : Shared, s'.TypeIs (.builtin "set.__contains__") "method_descriptor" := fun s' => F.type_set_contains
  unfold Builtin.«object.__getattribute__»
  refine wpAny_bind (wpAny_pure ?_)
  refine wpAny_bind (wpAny_pure ?_)
  refine wpAny_bind (wpAny_typeOf hT ?_)
  refine wpAny_bind ?_
  unfold Builtin.ObjectAttr.find
  refine wpAny_bind (wpAny_of_eq lk_contains ?_)
  refine wpAny_bind (m := Builtin.ObjectAttr.getOf _) (wpAny_specialOf (hMD _) md_get ?_)
  refine wpAny_bind ?_
  unfold Builtin.ObjectAttr.dataDescriptor? Builtin.ObjectAttr.takesStores
  refine wpAny_bind (wpAny_bind (wpAny_specialOf (hMD _) md_set ?_))
  refine wpAny_bind (wpAny_specialOf (hMD _) md_delete (wpAny_pure (wpAny_pure ?_)))
  unfold Builtin.ObjectAttr.ownThenClass Builtin.ObjectAttr.inOwnDict Builtin.ObjectAttr.ownDict
  refine wpAny_bind (wpAny_bind (wpAny_bind (PySem.AutoSeq1.wpAny_loadPart' hx ?_)))
  unfold instanceDict
  refine wpAny_bind (PySem.AutoSeq1.wpAny_loadPart' hx ?_)
  refine wpAny_pure ?_
  refine wpAny_pure ?_
  unfold Builtin.ObjectAttr.copiedAttributeGuard
  refine wpAny_bind ?_
  rw [if_neg (by decide)]
  refine wpAny_pure ?_
  refine wpAny_bind (wpAny_rule (wpAny_pure ?_))
  show wpAny _ _ (holding [.builtin "set.__contains__"] (call (.builtin "method_descriptor.__get__") [.builtin "set.__contains__", .ref a, .type "set"]) >>= fun v => ret v) _ _ _
  exact wpAny_bind (wpAny_holding (wpAny_call_entry slot_mdget (hMD _) entry_mdget (run_mdget hT ⟨_, rfl, wpAny_pure ⟨_, rfl, h⟩⟩) (args_mdget _ _ _)))
theorem getAttr_contains {a : Addr} {es : Array (Int × Value)} {ep : Nat} {tb : SetTable} {Q : Value → Shared → Prop} (hx : s.heap.get? a = some { cls := .type "set", dict := none, data := .set es ep tb, slots := #[] })
    (h : ∀ tk, Q (.ref s.heap.objs.size) { s with heap := s.heap.push { cls := .type "builtin_function_or_method", data := .fields #[.builtin "set.__contains__", .ref a] }, toks := tk }) :
    wpAny (model prog w) A (getAttr (.ref a) (Str.ofString "__contains__") true) Q E s := by
  obtain ⟨hp, g, d, tk, os⟩ := s
  have hT : ∀ tk', (⟨hp, g, d, tk', os⟩ : Shared).TypeIs (.ref a) "set" := fun _ => ⟨_, hx, rfl⟩
  have f3 := F.slot_set_getattribute.lookup
  have f4 := F.slot_set_getattribute.bind (.ref a)
  have f5 := set_getattr_none
  unfold getAttr getAttrBy
  repeat (any_goals (first | assumption | exact hT _ | ((with_reducible show wpAny _ _ (call (Value.builtin "set.__getattribute__") _ _) _ _ _); refine wpAny_call_entry F.slot_set_getattribute (hT _) entry_set_getattribute (gattr_contains hx ?_) (F.args_set_getattribute_2 _ _)) | wp_step))
  exact h _
end

noncomputable def boundObj (a : Addr) : Obj := { cls := .type "builtin_function_or_method", data := .fields #[.builtin "set.__contains__", .ref a] }
noncomputable def filterObj (b it : Addr) : Obj := { cls := .type "filter", data := .fields #[.ref b, .ref it] }
noncomputable def iterObj (l : Addr) (i : Nat) : Obj := { cls := .type "list_iterator", data := .fields #[.ref l, .int i 0] }
theorem plain_filter_next : plainId "filter.__next__" = true := by decide +kernel
theorem plain_contains : plainId "set.__contains__" = true := by decide +kernel
theorem sig_sc : Manifest.signature? "set.__contains__" = some ⟨.oneArg, "set.__contains__", "__contains__", .self, [⟨"object", .posOnly, true⟩]⟩ := by
  rw [signature?_of (id := "set.__contains__") (n := "__contains__".toList.reverse) (o := ['t', 'e', 's']) (by kernel_rfl) F.owner_set]; kernel_rfl
theorem kind_sc : builtinKind "set.__contains__" = some .method := by first | decide +kernel | kernel_rfl
theorem sub_set_module : isSubtype (.type "set") (.type "module") = pure false := by rw [isSubtype_type]; kernel_rfl
theorem sub_set_type : isSubtype (.type "set") (.type "type") = pure false := by rw [isSubtype_type]; kernel_rfl
theorem args_sc {a : Addr} {x : Str} {t : Tok} : Bind.checkArgs "set.__contains__" ⟨.oneArg, s!"{Bind.lastOf "set"}.{Bind.lastOf "set.__contains__"}", "__contains__", .self, [⟨"object", .posOnly, true⟩]⟩ ⟨[.ref a, .str x t], []⟩ = pure () := by kernel_rfl
theorem varargs_sc : Manifest.varargsMethods.contains "set.__contains__" = false := by decide +kernel
theorem check_contains {M : Model} {A : Around} {E : Value → Shared → Prop} {s : Shared} {a : Addr} {x : Str} {t : Tok} {Q : Unit → Shared → Prop} {o : Obj} {es : Array (Int × Value)} {ep : Nat} {tb : SetTable} (ho : s.heap.get? a = some o) (hc : o.cls = .type "set") (hd : o.data = .set es ep tb) (hQ : Q () s) : wpAny M A (checkBoundCall "set.__contains__" ⟨[.ref a, .str x t], []⟩) Q E s := by
  have hT : s.TypeIs (.ref a) "set" := ⟨o, ho, hc⟩
  unfold checkBoundCall
  rw [sig_sc, kind_sc]
  dsimp only
  rw [if_neg (by decide)]
  refine wpAny_bind (wpAny_isInstance hT sub_set_module ?_)
  rw [varargs_sc, if_neg (by decide)]
  refine wpAny_bind (m := isType (.ref a)) (wpAny_bind (PySem.AutoSeq1.wpAny_loadPart' ho (wpAny_pure ?_)))
  rw [hd, if_neg (show ¬ (false = true) by decide)]
  refine wpAny_bind (wpAny_typeOf hT ?_)
  exact wpAny_of_eq (a := ()) args_sc hQ
section
variable {prog : Program} {w : World} {A : Around} {E : Value → Shared → Prop} {s : Shared}
theorem cs_item {it l : Addr} {i : Nat} {items} {x : Value} {Q : Option Value → Shared → Prop} (hit : s.heap.get? it = some (iterObj l i)) (hl : s.heap.IsList l items) (hx : items[i]? = some x)
    (hQ : ∀ h', h'.get? it = some (iterObj l (i + 1)) → Heap.SameBut it s.heap h' → Q (some x) { s with heap := h' }) : wpAny (model prog w) A (callSpecial? (.ref it) (Str.ofString "__next__")) Q E s := by
  obtain ⟨ol, hol, _, nl, hdl⟩ := hl
  have hT : s.TypeIs (.ref it) "list_iterator" := ⟨_, hit, rfl⟩
  refine wpAny_callSpecial?_slot (name := Str.ofString "__next__") hT slot_listiter_next (wpAny_call_entry slot_listiter_next hT entry_listiter_next ?_ (args_listiter_next _))
  show wpAny _ _ (field (.ref it) 0 >>= _) _ _ s
  refine wpAny_bind (wpAny_field hit rfl (x := .ref l) rfl ?_)
  show wpAny _ _ (if (Value.ref l == Value.none) = true then _ else _) _ _ s
  rw [if_neg (show ¬ ((Value.ref l == Value.none) = true) from Bool.false_ne_true)]
  show wpAny _ _ (field (.ref it) 1 >>= _) _ _ s
  refine wpAny_bind (wpAny_field hit rfl (x := .int i 0) rfl ?_)
  show wpAny _ _ (seqItems? (.ref l) >>= _) _ _ s
  refine wpAny_bind (wpAny_seqItems hol hdl ?_)
  simp only [Int.toNat_natCast, hx]
  refine wpAny_bind (wpAny_setField_rec hit (by simp) fun h' h1 h2 => wpAny_pure ⟨x, rfl, hQ h' ?_ h2⟩)
  rw [h1]; simp [iterObj, rawInt]
theorem cs_end {it l : Addr} {i : Nat} {items} {Q : Option Value → Shared → Prop} (hh : A.handled = none) (hit : s.heap.get? it = some (iterObj l i)) (hl : s.heap.IsList l items) (hx : items[i]? = none)
    (hE : ∀ h' e, Heap.ExtBut it s.heap h' → (∃ o, h'.get? e = some o ∧ o.cls = .type "StopIteration") → E (.ref e) { s with heap := h' }) : wpAny (model prog w) A (callSpecial? (.ref it) (Str.ofString "__next__")) Q E s := by
  obtain ⟨ol, hol, _, nl, hdl⟩ := hl
  have hT : s.TypeIs (.ref it) "list_iterator" := ⟨_, hit, rfl⟩
  refine wpAny_callSpecial?_slot (name := Str.ofString "__next__") hT slot_listiter_next (wpAny_call_entry slot_listiter_next hT entry_listiter_next ?_ (args_listiter_next _))
  show wpAny _ _ (field (.ref it) 0 >>= _) _ _ s
  refine wpAny_bind (wpAny_field hit rfl (x := .ref l) rfl ?_)
  show wpAny _ _ (if (Value.ref l == Value.none) = true then _ else _) _ _ s
  rw [if_neg (show ¬ ((Value.ref l == Value.none) = true) from Bool.false_ne_true)]
  show wpAny _ _ (field (.ref it) 1 >>= _) _ _ s
  refine wpAny_bind (wpAny_field hit rfl (x := .int i 0) rfl ?_)
  show wpAny _ _ (seqItems? (.ref l) >>= _) _ _ s
  refine wpAny_bind (wpAny_seqItems hol hdl ?_)
  simp only [Int.toNat_natCast, hx]
  refine wpAny_bind (wpAny_rule (wpAny_bind (wpAny_setField_rec hit (by simp) fun h₁ _ hs₁ => ?_)))
  show wpAny _ _ (newExc (.type "StopIteration") [] >>= _) _ _ _
  refine wpAny_bind ?_
  simp only [newExc, newTuple]
  refine wpAny_bind (wpAny_newObj_type ?_ (by size_fits))
  refine wpAny_bind (m := firstArgMember _ _) (wpAny_of_eq (a := Value.none) (by first | rfl | (simp only [firstArgMember]; rfl)) ?_)
  refine wpAny_newObj_type ?_ (by size_fits)
  simp only [raiseNew]
  refine wpAny_bind (wpAny_handled ?_)
  rw [show A.in1.handled = none from hh]
  refine wpAny_bind (wpAny_pure (wpAny_throw ?_))
  exact hE _ _ ((hs₁.extBut.push _).push _) ⟨_, Heap.get?_push_size _ rfl, rfl⟩
theorem call_bound {b a : Addr} {S : Str → Bool} {n : Nat} {x : Str} {t : Tok} {Q : Value → Shared → Prop} (hb : s.heap.get? b = some (boundObj a)) (hS : s.heap.SetOf (strKind prog w) a S n)
    (h : Q (.bool (S x)) { s with toks := s.toks + 1 }) : wpAny (model prog w) A (call (.ref b) [.str x t]) Q E s := by
  refine wpAny_call (codeAny_of_tree ?_)
  show wpAny _ A.in1 (callAny (.ref b) ⟨[.str x t], []⟩) _ _ s
  simp only [callAny]
  refine wpAny_bind (wpAny_load hb ?_)
  simp only [boundObj, show (Value.type "builtin_function_or_method" == Value.type "method" || Value.type "builtin_function_or_method" == Value.type "builtin_function_or_method" || Value.type "builtin_function_or_method" == Value.type "method-wrapper") = true by decide, if_true]
  show wpAny _ _ (if (Value.type "builtin_function_or_method" != Value.type "method") = true then (do checkBoundCall "set.__contains__" ⟨[.ref a, .str x t], []⟩; again (.builtin "set.__contains__" ⟨[.ref a, .str x t], []⟩)) else _) _ _ _
  rw [if_pos (by decide)]
  obtain ⟨o, es, ep, tb, ho, hex, hdat, hrest⟩ := id hS
  refine wpAny_bind (check_contains ho hex.1 hdat ?_)
  refine wpAny_pure ⟨plainId_quiet plain_contains _, codeAny_builtin entry_set_contains ?_⟩
  rw [Around.under_plainId plain_contains _]
  unfold Builtin.«frozenset.__contains__» Builtin.Frozenset.oneOther
  simp only [List.isEmpty_nil, bind_assoc]
  unfold Builtin.Frozenset.addrOf Builtin.Frozenset.withSetAsKey setContains
  refine wpAny_bind (wpAny_pure ?_)
  try dsimp only
  refine wpAny_bind (wpAny_pure ?_)
  try dsimp only
  refine wpAny_bind (wpAny_tryCatch ?_)
  refine wpAny_holding ?_
  refine wpAny_bind ((strKind prog w).pyHash (k := x) (strKind_is _ _ _ _) ?_)
  refine wpAny_bind (wpAny_setFind_of (knd := strKind prog w) (k := x) (s := { s with toks := s.toks + 1 }) (strKind_is _ _ _ _) rfl hS fun r hr => ?_)
  refine wpAny_pure ?_
  show wpAny _ _ (ret (Value.bool r.isSome)) _ _ _
  rw [hr]
  exact wpAny_pure h
theorem str_at {items : Array Value} {xs : List Str} (h : StrsAre items.toList xs) {i : Nat} (hi : i < xs.length) : ∃ t, items[i]? = some (.str xs[i] t) := by
  have : ∀ {vs : List Value} {ns : List Str}, StrsAre vs ns → ∀ (i : Nat) (hi : i < ns.length), ∃ t, vs[i]? = some (.str ns[i] t) := by
    intro vs ns h
    induction h with
    | nil => intro i hi; simp at hi
    | cons n t h ih =>
      intro i hi
      cases i with
      | zero => exact ⟨t, rfl⟩
      | succ i => simpa using ih i (by simpa using hi)
  obtain ⟨t, ht⟩ := this h i hi
  exact ⟨t, by rw [← Array.getElem?_toList]; exact ht⟩
theorem strs_size {items : Array Value} {xs : List Str} (h : StrsAre items.toList xs) : items.size = xs.length := by
  have : ∀ {vs : List Value} {ns : List Str}, StrsAre vs ns → vs.length = ns.length := by
    intro vs ns h
    induction h with
    | nil => rfl
    | cons n t h ih => simp [ih]
  rw [← this h, Array.length_toList]
theorem filter_code {f b a it l : Addr} {S : Str → Bool} {n : Nat} {items : Array Value} {xs : List Str} {R : Result → Shared → Prop} (hh : A.handled = none) (hi : StrsAre items.toList xs) (hfi : f ≠ it) (hbi : b ≠ it) (hai : a ≠ it) (hli : l ≠ it) :
    ∀ (k i : Nat) (s : Shared), xs.length - i = k → s.heap.get? f = some (filterObj b it) → s.heap.get? b = some (boundObj a) → s.heap.SetOf (strKind prog w) a S n → s.heap.get? it = some (iterObj l i) → s.heap.IsList l items →
      (∀ j h' tk t, i ≤ j → (hj : j < xs.length) → (xs.drop i).filter S = xs[j] :: (xs.drop (j + 1)).filter S → h'.get? it = some (iterObj l (j + 1)) → Heap.SameBut it s.heap h' → R (.ok (.ret (.str xs[j] t))) { s with heap := h', toks := tk }) →
      ((xs.drop i).filter S = [] → ∀ h' tk e, Heap.ExtBut it s.heap h' → (∃ o, h'.get? e = some o ∧ o.cls = .type "StopIteration") → R (.error (.ref e)) { s with heap := h', toks := tk }) →
      codeAny (model prog w) A (.builtin "filter.__next__" ⟨[.ref f], []⟩) R s := by
  intro k
  induction k with
  | zero =>
    intro i s hk hf hb hS hit hl hR hE
    refine codeAny_builtin entry_filter_next ?_
    rw [Around.under_plainId plain_filter_next _]
    show wpAny _ _ (field (.ref f) 0 >>= _) _ _ s
    refine wpAny_bind (wpAny_field hf rfl (x := .ref b) rfl ?_)
    show wpAny _ _ (field (.ref f) 1 >>= _) _ _ s
    refine wpAny_bind (wpAny_field hf rfl (x := .ref it) rfl ?_)
    refine wpAny_bind (cs_end (by simpa using hh) hit hl (by rw [Array.getElem?_eq_none]; rw [strs_size hi]; omega) fun h' e hx he => ?_)
    exact hE (by rw [List.drop_eq_nil_of_le (by omega)]; rfl) h' s.toks e hx he
  | succ k ih =>
    intro i s hk hf hb hS hit hl hR hE
    have hlt : i < xs.length := by omega
    obtain ⟨t, ht⟩ := str_at hi hlt
    refine codeAny_builtin entry_filter_next ?_
    rw [Around.under_plainId plain_filter_next _]
    show wpAny _ _ (field (.ref f) 0 >>= _) _ _ s
    refine wpAny_bind (wpAny_field hf rfl (x := .ref b) rfl ?_)
    show wpAny _ _ (field (.ref f) 1 >>= _) _ _ s
    refine wpAny_bind (wpAny_field hf rfl (x := .ref it) rfl ?_)
    refine wpAny_bind (cs_item hit hl ht fun h' hit' hs' => ?_)
    have hf' := (hs'.2 f hfi).trans hf
    have hb' := (hs'.2 b hbi).trans hb
    have hS' : h'.SetOf (strKind prog w) a S n := by obtain ⟨o, es, ep, tb, ho, r⟩ := hS; exact ⟨o, es, ep, tb, (hs'.2 a hai).trans ho, r⟩
    have hl' : h'.IsList l items := by obtain ⟨o, ho, r⟩ := hl; exact ⟨o, (hs'.2 l hli).trans ho, r⟩
    have hdrop : xs.drop i = xs[i] :: xs.drop (i + 1) := List.drop_eq_getElem_cons hlt
    refine wpAny_bind (wpAny_holding ?_)
    show wpAny _ _ (if ((Value.ref b == .none || Value.ref b == .type "bool") = true) then _ else _) _ _ _
    rw [if_neg (by show ¬ ((false || false) = true); decide)]
    refine wpAny_bind (call_bound (s := { s with heap := h' }) hb' hS' ?_)
    refine wpAny_holding (wpAny_truthy_bool ?_)
    by_cases hc : S xs[i] = true
    · rw [if_pos hc]
      refine wpAny_pure ?_
      exact hR i h' _ t (Nat.le_refl _) hlt (by rw [hdrop, List.filter_cons_of_pos hc]) hit' hs'
    · rw [if_neg hc]
      have hfil : (xs.drop i).filter S = (xs.drop (i + 1)).filter S := by rw [hdrop, List.filter_cons_of_neg hc]
      refine wpAny_pure ⟨plainId_quiet plain_filter_next _, ih (i + 1) { s with heap := h', toks := s.toks + 1 } (by omega) hf' hb' hS' hit' hl' (fun j h'' tk t hj1 hj2 hj3 hit'' hs'' => ?_) fun hnil h'' tk e hx he => ?_⟩
      · exact hR j h'' tk t (by omega) hj2 (hfil.trans hj3) hit'' ⟨hs''.1.trans hs'.1, fun c hc => (hs''.2 c hc).trans (hs'.2 c hc)⟩
      · exact hE (hfil.trans hnil) h'' tk e (fun c o hc ho => hx c o hc ((hs'.2 c hc).trans ho)) he
end

section
variable {w : World} {G : Gl w} {A : Around} {L : Addr} {env : Env} {ρ ρ' : Rho} {μ μ' : Mu} {s₀ : Shared} {B : Addr → Option Obj} {s : Shared}
theorem St.jump {h' : Heap} {tk : Nat} {W : List Addr} (h : St G s₀ B L ρ μ s) (hW : ∀ a ∈ W, B a = none ∧ a ≠ L ∧ a ∉ μ.map (·.1)) (hk : ∀ b o, b ∉ W → s.heap.get? b = some o → h'.get? b = some o) :
    St G s₀ B L ρ μ { s with heap := h', toks := tk } := by
  have nw : ∀ b, b ∈ W → False ∨ (B b = none ∧ b ≠ L ∧ b ∉ μ.map (·.1)) := fun b hb => .inr (hW b hb)
  refine ⟨let ⟨_, _, e⟩ := h.same; ⟨h', tk, by rw [e]⟩, h.low, h.above, fun b o e => hk b o (fun hb => by rw [(hW b hb).1] at e; cases e) (h.keep b o e), h.bl, ?_, h.nr, h.nm, h.hi, fun p hp => ?_⟩
  · obtain ⟨m, hn, hm⟩ := h.ns
    exact ⟨m, hn.at' fun o e => hk L o (fun hb => (hW L hb).2.1 rfl) e, hm⟩
  · obtain ⟨a1, a2, x, a3, a4⟩ := h.ob p hp
    exact ⟨a1, a2, x, hk _ _ (fun hb => (hW _ hb).2.2 (List.mem_map_of_mem hp)) a3, a4⟩
theorem St.add {a : Addr} {o : MO} {x : Obj} (h : St G s₀ B L ρ μ s) (ha : B a = none ∧ a ≠ L ∧ a ∉ μ.map (·.1)) (hge : G.hb.objs.size ≤ a) (hx : s.heap.get? a = some x) (ho : OA w o x) : St G s₀ B L ρ ((a, o) :: μ) s := by
  refine ⟨h.same, h.low, h.above, h.keep, h.bl, h.ns, h.nr, List.nodup_cons.mpr ⟨ha.2.2, h.nm⟩, fun b hb => ?_, fun p hp => ?_⟩
  · rcases List.mem_cons.mp hb with rfl | hb
    · exact hge
    · exact h.hi b hb
  · rcases List.mem_cons.mp hp with rfl | hp
    · exact ⟨ha.1, ha.2.1, x, hx, ho⟩
    · exact h.ob p hp
end
section
variable {prog : Program} {w : World} {A : Around} {E : Value → Shared → Prop} {s : Shared}
structure Itr (prog : Program) (w : World) (A : Around) (I : Addr) (T : String) (n : Nat) (P : Nat → Value → Prop) (Sx : Nat → Shared → Prop) (Fx : Shared → Prop) (D : Addr) : Prop where
  ty : ∀ i s, Sx i s → s.TypeIs (.ref I) T
  upd : ∀ i s h', Sx i s → Heap.SameBut D s.heap h' → Sx i { s with heap := h' }
  self : ∀ i s (Q : Value → Shared → Prop) (E : Value → Shared → Prop), Sx i s → Q (.ref I) s → wpAny (model prog w) A (pyIter (.ref I)) Q E s
  item : ∀ i s (Q : Option Value → Shared → Prop) (E : Value → Shared → Prop) o, i < n → Sx i s → s.heap.get? D = some o → (∀ v s', P i v → Sx (i + 1) s' → s'.heap.get? D = some o → Q (some v) s') → wpAny (model prog w) A (pyNext (.ref I)) Q E s
  done : ∀ s (Q : Option Value → Shared → Prop) (E : Value → Shared → Prop) o, Sx n s → s.heap.get? D = some o → (∀ s', Fx s' → s'.heap.get? D = some o → Q none s') → wpAny (model prog w) A (pyNext (.ref I)) Q E s
variable {I D : Addr} {T : String} {n : Nat} {P : Nat → Value → Prop} {Sx : Nat → Shared → Prop} {Fx : Shared → Prop} {R : Result → Shared → Prop}
theorem ext_loop (W : Itr prog w A.in1 I T n P Sx Fx D) (res : Value) (pre : Array Value) (hn : pre.size + n ≤ 1000000) : ∀ (k i : Nat) (s : Shared) (acc : Array Value) (c : Nat), n - i = k → i ≤ n → Sx i s → s.heap.get? D = some { cls := .type "list", dict := none, data := .seq (pre ++ acc) c, slots := #[] } → ItemsOf P acc i →
    (∀ s' acc' c', Fx s' → s'.heap.get? D = some { cls := .type "list", dict := none, data := .seq (pre ++ acc') c', slots := #[] } → ItemsOf P acc' n → R (.ok (.ret res)) s') →
    codeAny (model prog w) A (.builtin "list.extend.loop" ⟨[.ref D, .ref I, res], []⟩) R s := by
  intro k
  induction k with
  | zero =>
    intro i s acc c hk hi hst hS hacc hR
    have hin : i = n := by omega
    subst hin
    refine codeAny_builtin PySem.F.entry_extend_loop ?_
    rw [Around.under_plainId PySem.F.plain_extend_loop _]
    show wpAny _ A.in1 (pyNext (.ref I) >>= _) _ _ s
    exact wpAny_bind (W.done s _ _ _ hst hS fun s' hf hS' => wpAny_pure (hR s' acc c hf hS' hacc))
  | succ k ih =>
    intro i s acc c hk hi hst hS hacc hR
    have hlt : i < n := by omega
    refine codeAny_builtin PySem.F.entry_extend_loop ?_
    rw [Around.under_plainId PySem.F.plain_extend_loop _]
    show wpAny _ A.in1 (pyNext (.ref I) >>= _) _ _ s
    refine wpAny_bind (W.item i s _ _ _ hlt hst hS fun v s' hP hst' hS' => ?_)
    show wpAny _ A.in1 (updateSeq D (·.push v) >>= _) _ _ _
    refine wpAny_bind (wpAny_updateSeq hS' rfl (wpAny_pure ⟨plainId_quiet PySem.F.plain_extend_loop _, ih (i + 1) _ (acc.push v) (c + 1) (by omega) hlt (W.upd _ s' _ hst' (Heap.SameBut.update ..)) ((Heap.get?_update_self _ hS' rfl).trans (congrArg some (mapSeq_ne (by simp) (by simp)))) (hacc.push hP) hR⟩)
      (by rw [Array.size_append, hacc.1]; show _ ≤ 16777216; omega) (by show ((pre ++ acc).push v).size ≤ 16777216 + 1; rw [Array.size_push, Array.size_append, hacc.1]; omega))
theorem ext_with (W : Itr prog w A.in1 I T n P Sx Fx D) (hDI : D ≠ I) (h1 : (Value.type T == Value.type "list") = false) (h2 : (Value.type T == Value.type "tuple") = false) (hl : typeLookup (.type T) "__len__" = pure none) (hhint : typeLookup (.type T) "__length_hint__" = pure none)
    (res : Value) (pre : Array Value) (c₀ : Nat) (hn : pre.size + n ≤ 1000000) (hst : Sx 0 s) (hS : s.heap.get? D = some { cls := .type "list", data := .seq pre c₀ })
    (hR : ∀ s' acc' c', Fx s' → s'.heap.get? D = some { cls := .type "list", dict := none, data := .seq (pre ++ acc') c', slots := #[] } → ItemsOf P acc' n → R (.ok (.ret res)) s') :
    wpAny (model prog w) A.in1 (Builtin.List.listExtendWith (.ref D) (.ref I) res)
      (fun fin s' => match fin with | .done f => R (.ok f) s' | .again c' => c'.quiet = true ∧ codeAny (model prog w) A c' R s') (fun e s' => R (.error e) s') s := by
  unfold Builtin.List.listExtendWith
  refine wpAny_bind (wpAny_typeOf (W.ty 0 _ hst) ?_)
  have h0 : Builtin.List.listSameRef (.ref D) (.ref I) = false := by simp [Builtin.List.listSameRef, hDI]
  simp only [h0, h1, h2, Bool.or_false, Bool.false_eq_true, if_false]
  refine wpAny_bind (W.self 0 _ _ _ hst ?_)
  refine wpAny_bind (wpAny_holding ?_)
  unfold Builtin.List.listLengthHint
  refine wpAny_bind (wpAny_specialOf (W.ty 0 _ hst) hl ?_)
  show wpAny _ A.in1 (specialOf (Value.ref I) (Str.ofString "__length_hint__") >>= _) _ _ _
  refine wpAny_bind (wpAny_specialOf (W.ty 0 _ hst) hhint ?_)
  refine wpAny_pure ?_
  show wpAny _ A.in1 (rule "list.extend.makes-room" >>= fun _ => Builtin.List.listTouch (.ref D) >>= fun _ =>
    again (.builtin "list.extend.loop" ⟨[.ref D, .ref I, res], []⟩)) _ _ _
  refine wpAny_bind (wpAny_rule ?_)
  refine wpAny_bind ?_
  show wpAny _ A.in1 (updateSeq D (·.push .none) >>= fun _ => updateSeq D (·.pop)) _ _ _
  refine wpAny_bind (wpAny_updateSeq hS rfl ?_ (by show _ ≤ 16777216; omega) (by show (pre.push _).size ≤ 16777216 + 1; rw [Array.size_push]; omega))
  have hS₂ := (Heap.get?_update_self (Obj.mapSeq (·.push Value.none)) hS rfl).trans (congrArg some (mapSeq_ne (ys := pre.push .none) rfl (by simp)))
  refine wpAny_updateSeq hS₂ rfl ?_ (by show (pre.push _).size ≤ 16777216; rw [Array.size_push]; omega) (by show (pre.push _).pop.size ≤ 16777216 + 1; simp; omega)
  have hS₃ := (Heap.get?_update_self (Obj.mapSeq (·.pop)) hS₂ rfl).trans (congrArg some (mapSeq_ne (ys := pre ++ #[]) (by simp) (by simp)))
  refine wpAny_pure ⟨plainId_quiet PySem.F.plain_extend_loop _, ext_loop W res pre hn n 0 _ #[] _ rfl (Nat.zero_le _) (W.upd 0 _ _ (W.upd 0 _ _ hst (Heap.SameBut.update ..)) (Heap.SameBut.update ..)) hS₃ (ItemsOf.nil P) hR⟩
theorem list_of {Q : Value → Shared → Prop} (W : Itr prog w A.in1.in1 I T n P Sx Fx s.heap.objs.size) (hDI : s.heap.objs.size ≠ I) (h1 : (Value.type T == Value.type "list") = false) (h2 : (Value.type T == Value.type "tuple") = false) (hl : typeLookup (.type T) "__len__" = pure none) (hhint : typeLookup (.type T) "__length_hint__" = pure none)
    (hn : n ≤ 1000000) (hst : Sx 0 { s with heap := s.heap.push { cls := .type "list", data := .seq #[] } })
    (hQ : ∀ s' acc' c', Fx s' → s'.heap.get? s.heap.objs.size = some { cls := .type "list", dict := none, data := .seq acc' c', slots := #[] } → ItemsOf P acc' n → Q (.ref s.heap.objs.size) s') :
    wpAny (model prog w) A (call (.type "list") [.ref I]) Q E s := by
  refine callType_codes (Q₁ := fun obj s₁ => obj = .ref s.heap.objs.size ∧ s₁ = { s with heap := s.heap.push { cls := .type "list", data := .seq #[] } }) PySem.F.called_list (PySem.F.typeCall_list_1 _) PySem.F.entry_list_init
    (code_list_new _ ⟨rfl, rfl⟩) fun obj s₁ h₁ => ?_
  obtain ⟨rfl, rfl⟩ := h₁
  have hS : (s.heap.push { cls := .type "list", data := .seq #[] }).get? s.heap.objs.size = some { cls := .type "list", data := .seq #[] } := Heap.get?_push_size _ rfl
  refine ⟨⟨_, hS, rfl⟩, PySem.F.args_list_init_2 _ _, ?_⟩
  show wpAny _ _ (do let old ← Builtin.List.listItems (.ref s.heap.objs.size); Builtin.List.listUpdate (.ref s.heap.objs.size) (fun _ => #[]); letGo old.toList.reverse; Builtin.List.listExtendWith (.ref s.heap.objs.size) (.ref I) .none) _ _ _
  refine wpAny_bind ?_
  unfold Builtin.List.listItems
  refine wpAny_bind (wpAny_seqItems hS rfl (wpAny_pure ?_))
  show wpAny _ _ (updateSeq s.heap.objs.size (fun _ => #[]) >>= fun _ => letGo (#[] : Array Value).toList.reverse >>= fun _ => Builtin.List.listExtendWith (.ref s.heap.objs.size) (.ref I) .none) _ _ _
  refine wpAny_bind (wpAny_updateSeq hS rfl ?_)
  have hS₂ := Heap.get?_update_self (Obj.mapSeq (fun _ => (#[] : Array Value))) hS rfl
  refine wpAny_bind (wpAny_letGo ?_)
  refine ext_with W hDI h1 h2 hl hhint .none #[] _ (by simpa using hn) (W.upd 0 _ _ hst (Heap.SameBut.update ..)) hS₂ fun s' acc' c' hf hS' hacc => ?_
  exact ⟨rfl, hQ s' acc' c' hf (by simpa using hS') hacc⟩
end

section
variable {prog : Program} {w : World} {A : Around} {E : Value → Shared → Prop} {s : Shared}
theorem pyNext_filter {f b a it l : Addr} {S : Str → Bool} {n i : Nat} {items : Array Value} {xs : List Str} {Q : Option Value → Shared → Prop} (hh : A.handled = none) (hi : StrsAre items.toList xs) (hfi : f ≠ it) (hbi : b ≠ it) (hai : a ≠ it) (hli : l ≠ it)
    (hf : s.heap.get? f = some (filterObj b it)) (hb : s.heap.get? b = some (boundObj a)) (hS : s.heap.SetOf (strKind prog w) a S n) (hit : s.heap.get? it = some (iterObj l i)) (hl : s.heap.IsList l items)
    (hR : ∀ j h' tk t, i ≤ j → (hj : j < xs.length) → (xs.drop i).filter S = xs[j] :: (xs.drop (j + 1)).filter S → h'.get? it = some (iterObj l (j + 1)) → Heap.SameBut it s.heap h' → Q (some (.str xs[j] t)) { s with heap := h', toks := tk })
    (hE : (xs.drop i).filter S = [] → ∀ h' tk, Heap.ExtBut it s.heap h' → Q none { s with heap := h', toks := tk }) : wpAny (model prog w) A (pyNext (.ref f)) Q E s := by
  have hT : s.TypeIs (.ref f) "filter" := ⟨_, hf, rfl⟩
  unfold pyNext
  refine wpAny_bind (wpAny_attempt (wpAny_callSpecial?_slot (name := Str.ofString "__next__") hT slot_filter_next (wpAny_call (codeAny_of_tree ?_))))
  show wpAny _ A.in1 (do checkBuiltinCall "filter.__next__" ⟨[.ref f], []⟩; again (.builtin "filter.__next__" ⟨[.ref f], []⟩)) _ _ s
  refine wpAny_bind (slot_filter_next.check _ _ _ _ _ _ _ _ hT (args_filter_next _) (wpAny_pure ⟨plainId_quiet plain_filter_next _, ?_⟩))
  refine filter_code hh hi hfi hbi hai hli (xs.length - i) i s rfl hf hb hS hit hl (fun j h' tk t h1 h2 h3 h4 h5 => ?_) fun hnil h' tk e hx he => ?_
  · exact wpAny_pure (hR j h' tk t h1 h2 h3 h4 h5)
  · obtain ⟨o, ho, hc⟩ := he
    refine wpAny_bind (wpAny_isInstance (T := "StopIteration") (b := true) ⟨o, ho, hc⟩ isSubtype_stop ?_)
    exact wpAny_pure (hE hnil h' tk hx)
inductive fSx (prog : Program) (w : World) (s₁ : Shared) (f b a it l D : Addr) (S : Str → Bool) (n : Nat) (items : Array Value) (xs : List Str) (j : Nat) (s : Shared) : Prop
  | mk (i : Nat) (h : Heap) (tk : Nat) (e : s = { s₁ with heap := h, toks := tk }) (h1 : h.get? f = some (filterObj b it)) (h2 : h.get? b = some (boundObj a)) (h3 : h.SetOf (strKind prog w) a S n) (h4 : h.get? it = some (iterObj l i)) (h5 : h.IsList l items) (h6 : (xs.drop i).filter S = (xs.filter S).drop j)
    (h7 : ∀ c o, c ≠ it → c ≠ D → s₁.heap.get? c = some o → h.get? c = some o)
inductive fFx (s₁ : Shared) (it D : Addr) (s : Shared) : Prop
  | mk (h : Heap) (tk : Nat) (e : s = { s₁ with heap := h, toks := tk }) (hk : ∀ c o, c ≠ it → c ≠ D → s₁.heap.get? c = some o → h.get? c = some o)
theorem SetOf.at' {h h' : Heap} {a : Addr} {S : Str → Bool} {n : Nat} (hS : h.SetOf (strKind prog w) a S n) (k : ∀ o, h.get? a = some o → h'.get? a = some o) : h'.SetOf (strKind prog w) a S n := by
  obtain ⟨o, es, ep, tb, ho, r⟩ := hS; exact ⟨o, es, ep, tb, k o ho, r⟩
theorem IsList.at' {h h' : Heap} {l : Addr} {items : Array Value} (hl : h.IsList l items) (k : ∀ o, h.get? l = some o → h'.get? l = some o) : h'.IsList l items := by
  obtain ⟨o, ho, r⟩ := hl; exact ⟨o, k o ho, r⟩
theorem filter_itr {s₁ : Shared} {f b a it l D : Addr} {S : Str → Bool} {n : Nat} {items : Array Value} {xs : List Str} (hh : A.handled = none) (hi : StrsAre items.toList xs) (hfi : f ≠ it) (hbi : b ≠ it) (hai : a ≠ it) (hli : l ≠ it)
    (hD : D ≠ f ∧ D ≠ b ∧ D ≠ a ∧ D ≠ it ∧ D ≠ l) : Itr prog w A f "filter" (xs.filter S).length (fun j v => ∃ t, v = .str ((xs.filter S).getD j Str.empty) t) (fSx prog w s₁ f b a it l D S n items xs) (fFx s₁ it D) D where
  ty := fun j s q => by cases q with | mk i h tk e h1 => subst e; exact ⟨_, h1, rfl⟩
  upd := fun j s h' q hs => by
    cases q with | mk i h tk e h1 h2 h3 h4 h5 h6 h7 =>
    subst e
    exact ⟨i, h', tk, rfl, (hs.2 _ (Ne.symm hD.1)).trans h1, (hs.2 _ (Ne.symm hD.2.1)).trans h2, SetOf.at' h3 fun _ => (hs.2 a (Ne.symm hD.2.2.1)).trans, (hs.2 _ (Ne.symm hD.2.2.2.1)).trans h4, IsList.at' h5 fun _ => (hs.2 l (Ne.symm hD.2.2.2.2)).trans, h6, fun c o c1 c2 e => (hs.2 c c2).trans (h7 c o c1 c2 e)⟩
  self := fun j s Q E q hq => by
    cases q with | mk i h tk e h1 =>
    subst e
    have hT : ({ s₁ with heap := h, toks := tk } : Shared).TypeIs (.ref f) "filter" := ⟨_, h1, rfl⟩
    refine wpAny_pyIter_slot hT slot_filter_iter (wpAny_call_entry slot_filter_iter hT entry_filter_iter ?_ (args_filter_iter _))
    show wpAny _ _ (ret (.ref f)) _ _ _
    exact wpAny_pure ⟨_, rfl, "filter", _, hT, slot_filter_next.lookup, hq⟩
  item := fun j s Q E o hj q hDo hq => by
    cases q with | mk i h tk e h1 h2 h3 h4 h5 h6 h7 =>
    subst e
    refine pyNext_filter hh hi hfi hbi hai hli h1 h2 h3 h4 h5 (fun m h' tk' t hm1 hm2 hm3 hm4 hm5 => ?_) fun hnil => ?_
    · have e3 := (h6.symm.trans hm3).symm.trans (List.drop_eq_getElem_cons hj)
      injection e3 with e4 e5
      refine hq _ _ ⟨t, ?_⟩ ⟨m + 1, h', tk', rfl, (hm5.2 f hfi).trans h1, (hm5.2 b hbi).trans h2, SetOf.at' h3 fun _ => (hm5.2 a hai).trans, hm4, IsList.at' h5 fun _ => (hm5.2 l hli).trans, e5, fun c o c1 c2 e => (hm5.2 c c1).trans (h7 c o c1 c2 e)⟩ ((hm5.2 D hD.2.2.2.1).trans hDo)
      rw [e4, List.getD_eq_getElem?_getD, List.getElem?_eq_getElem hj]; rfl
    · rw [h6] at hnil
      exact absurd (List.drop_eq_nil_iff.mp hnil) (Nat.not_le.mpr hj)
  done := fun s Q E o q hDo hq => by
    cases q with | mk i h tk e h1 h2 h3 h4 h5 h6 h7 =>
    subst e
    refine pyNext_filter hh hi hfi hbi hai hli h1 h2 h3 h4 h5 (fun m h' tk' t hm1 hm2 hm3 hm4 hm5 => ?_) fun hnil h' tk' hx => ?_
    · rw [h6, List.drop_length] at hm3; cases hm3
    · exact hq _ ⟨h', tk', rfl, fun c o c1 c2 e => hx c o c1 (h7 c o c1 c2 e)⟩ (hx D o hD.2.2.2.1 hDo)
end
section
variable {w : World} {G : Gl w} {A : Around} {L : Addr} {env : Env} {ρ ρ' : Rho} {μ μ' : Mu} {s₀ : Shared} {B : Addr → Option Obj} {s : Shared}
theorem of_strs : ∀ {xs : List Str} {vs : List Value}, vs.length = xs.length → (∀ (j : Nat) v, vs[j]? = some v → ∃ t, v = .str (xs.getD j Str.empty) t) → VRs (mstrs xs) vs
  | [], [], _, _ => trivial
  | x :: xs, v :: vs, hl, h => ⟨by obtain ⟨t, e⟩ := h 0 v rfl; exact ⟨t, e⟩, of_strs (by simpa using hl) fun j u hu => h (j + 1) u hu⟩
  | [], _ :: _, hl, _ => by simp at hl
  | _ :: _, [], hl, _ => by simp at hl
theorem c_listfilter {f b a it l : Addr} {S : Str → Bool} {n : Nat} {oa : Obj} {xs : List Str} {P : MV → Mu → Prop} (hh : A.handled = none) (hb : (b, MO.raw (boundObj a)) ∈ μ) (ha : (a, MO.raw oa) ∈ μ) (hS : oa.SetObjOf (strKind PR w) S n) (hn : n < 4096) (hl : (l, MO.list (mstrs xs)) ∈ μ) (hx : xs.length ≤ big)
    (h : ∀ r, P (.ref r) ((r, .list (mstrs (xs.filter S))) :: μ)) : CJ G A (.type "list") [.ref f] P ((f, .raw (filterObj b it)) :: (it, .raw (iterObj l 0)) :: μ) := by
  intro s₀ B L ρ s vs hs hv
  refine va_r hv ?_
  · have hnm := hs.nm
    simp only [List.map_cons, List.nodup_cons, List.mem_cons, not_or] at hnm
    have hkb := List.mem_map_of_mem (f := Prod.fst) hb
    have hka := List.mem_map_of_mem (f := Prod.fst) ha
    have hkl := List.mem_map_of_mem (f := Prod.fst) hl
    have hfi : f ≠ it := hnm.1.1
    have hbi : b ≠ it := fun e => hnm.2.1 (e ▸ hkb)
    have hai : a ≠ it := fun e => hnm.2.1 (e ▸ hka)
    have hli : l ≠ it := fun e => hnm.2.1 (e ▸ hkl)
    obtain ⟨_, g1, rfl⟩ := hs.get (a := f) (.head _)
    obtain ⟨_, g2, rfl⟩ := hs.get (a := it) (.tail _ (.head _))
    obtain ⟨_, g3, rfl⟩ := hs.get (.tail _ (.tail _ hb))
    obtain ⟨_, g4, rfl⟩ := hs.get (.tail _ (.tail _ ha))
    obtain ⟨us, c, g5, hus⟩ := hs.list (.tail _ (.tail _ hl))
    have lt : ∀ {c : Addr} {o : Obj}, s.heap.get? c = some o → s.heap.objs.size ≠ c := fun e => Nat.ne_of_gt (Heap.lt_size e)
    have pu : ∀ {c : Addr} {o : Obj} (x : Obj), s.heap.get? c = some o → (s.heap.push x).get? c = some o := fun x e => Heap.get?_push_of_some _ e
    have hbig : xs.length ≤ 1000000 := hx
    have hfl := List.length_filter_le S xs
    refine list_of (prog := PR) (w := w) (I := f) (T := "filter") (n := (xs.filter S).length) (P := fun j v => ∃ t, v = .str ((xs.filter S).getD j Str.empty) t) (Sx := fSx PR w s f b a it l s.heap.objs.size S n us.toArray xs) (Fx := fFx s it s.heap.objs.size)
      (filter_itr (by simpa using hh) (by simpa using strs_are hus) hfi hbi hai hli ⟨lt g1, lt g3, lt g4, lt g2, lt g5⟩) (lt g1) (by decide) (by decide) nolen_filter nohint_filter (by omega)
      ⟨0, _, s.toks, rfl, pu _ g1, pu _ g3, hS.setOf (pu _ g4) hn, pu _ g2, isList_of (pu _ g5), by simp, fun c o _ _ e => pu _ e⟩ fun s' acc' c' hf hS' hacc => ?_
    obtain ⟨h', tk, rfl, hk⟩ := hf
    have hsm : St G s₀ B L ρ μ s := hs.sub ((List.sublist_cons_self _ _).trans (List.sublist_cons_self _ _))
    have hB := hs.ob (it, .raw (iterObj l 0)) (.tail _ (.head _))
    have hDf := hs.fresh (get?_size s.heap)
    have hs1 : St G s₀ B L ρ μ { s with heap := h', toks := tk } := hsm.jump (W := [it, s.heap.objs.size]) (fun c hc => by
        rcases List.mem_cons.mp hc with rfl | hc
        · exact ⟨hB.1, hB.l, hnm.2.1⟩
        · rw [List.mem_singleton.mp hc]
          exact ⟨hDf.1, hDf.2.1, fun hm => hDf.2.2 (by simp [hm])⟩) fun c o hc e => hk c o (fun e => hc (by simp [e])) (fun e => hc (by simp [e])) e
    refine ⟨_, _, vr, hs1.add (o := .list (mstrs (xs.filter S))) ⟨hDf.1, hDf.2.1, fun hm => hDf.2.2 (by simp [hm])⟩ (Nat.le_trans hs.size (Nat.le_refl _)) hS' ⟨acc'.toList, c', by simp, of_strs (by rw [Array.length_toList, hacc.1]) fun j v hv => hacc.2 j v (by rwa [← Array.getElem?_toList])⟩, h _⟩
end

section
set_option maxRecDepth 100000
noncomputable def iterH (h : Heap) (l : Addr) : Heap := h.push { cls := .type "list_iterator", data := .fields #[.ref l, .int 0 0] }
theorem meets_filter_new (b l : Addr) (xs : Array Value) :
    Meets (Builtin.«filter.__new__» ⟨[.type "filter", .ref b, .ref l], []⟩) (fun _ R s => s.heap.IsList l xs ∧
      R (.ok (.ret (.ref (iterH s.heap l).objs.size))) { s with heap := (iterH s.heap l).push { cls := .type "filter", data := .fields #[.ref b, .ref s.heap.objs.size] } }) :=
  .of_wp fun prog w A R s h => by
    obtain ⟨hp, g, d, tk, os⟩ := s; obtain ⟨hl1, h⟩ := h
    have hsub := sub_filter
    have hL1 : Heap.IsList (Shared.heap ⟨hp, g, d, tk, os⟩) l xs := hl1
    wp_walk using wpAny_pyIter_list hL1
    exact ⟨_, rfl, h⟩
section
variable {prog : Program} {w : World} {A : Around} {E : Value → Shared → Prop} {s : Shared} {R : Result → Shared → Prop}
theorem set_loop {it l D : Addr} {items : Array Value} {xs : List Str} (hh : A.in1.handled = none) (hi : StrsAre items.toList xs) (hx : xs.length < 4000) (hli : l ≠ it) (hDi : D ≠ it) (hDl : D ≠ l) : ∀ (k i : Nat) (s : Shared), xs.length - i = k → i ≤ xs.length → s.heap.IsListIter it l i → s.heap.IsList l items →
    (∃ n, n ≤ i ∧ s.heap.SetOf (strKind prog w) D (fun x => (xs.take i).contains x) n) →
    (∀ h' tk n, n ≤ xs.length → h'.SetOf (strKind prog w) D (fun x => xs.contains x) n → (∀ b o, b ≠ it → b ≠ D → s.heap.get? b = some o → h'.get? b = some o) → R (.ok (.ret .none)) { s with heap := h', toks := tk }) →
    codeAny (model prog w) A (.builtin "set.update.loop" ⟨[.ref D, .ref it], []⟩) R s := by
  intro k
  induction k with
  | zero =>
    intro i s hk hi' hit hl hS hR
    obtain rfl : i = xs.length := by omega
    obtain ⟨n, hn, hS⟩ := hS
    refine codeAny_builtin PyProof.Rows.F.entry_set_update_loop ?_
    rw [Around.under_plainId PyProof.Rows.F.plain_set_update_loop _]
    show wpAny _ A.in1 (pyNext (.ref it) >>= _) _ _ s
    refine wpAny_bind (wpAny_pyNext_list_end hh hit hl (by rw [Array.getElem?_eq_none]; rw [strs_size hi]; exact Nat.le_refl _) fun h' hx => ?_)
    show wpAny _ A.in1 (ret Value.none) _ _ _
    refine wpAny_pure (hR h' _ n hn ?_ fun b o b1 _ e => hx b o b1 e)
    obtain ⟨o, es, ep, t, ho, r⟩ := hS
    rw [List.take_length] at r
    exact ⟨o, es, ep, t, hx D o hDi ho, r⟩
  | succ k ih =>
    intro i s hk hi' hit hl hS hR
    have hlt : i < xs.length := by omega
    obtain ⟨n, hn, hS⟩ := hS
    obtain ⟨t, ht⟩ := str_at hi hlt
    refine codeAny_builtin PyProof.Rows.F.entry_set_update_loop ?_
    rw [Around.under_plainId PyProof.Rows.F.plain_set_update_loop _]
    show wpAny _ A.in1 (pyNext (.ref it) >>= _) _ _ s
    refine wpAny_bind (wpAny_pyNext_list_item hit hl ht fun h' hit' hs' => ?_)
    have hS' : h'.SetOf (strKind prog w) D (fun x => (xs.take i).contains x) n := by obtain ⟨o, es, ep, tb, ho, r⟩ := hS; exact ⟨o, es, ep, tb, (hs'.2 D hDi).trans ho, r⟩
    show wpAny _ A.in1 (holding [Value.str xs[i] t] (setAdd D (.str xs[i] t)) >>= _) _ _ _
    refine wpAny_bind (wpAny_holding ?_)
    unfold setAdd
    refine wpAny_holding ?_
    refine wpAny_bind ((strKind prog w).pyHash (k := xs[i]) (strKind_is _ _ _ _) ?_)
    refine wpAny_setAddHashed_of (knd := strKind prog w) (s := { s with heap := h', toks := s.toks + 1 }) (strKind_is _ _ _ _) rfl hS' (by show n + 1 < 4096; omega) fun h2 hsb hS2 => ?_
    refine wpAny_pure ⟨plainId_quiet PyProof.Rows.F.plain_set_update_loop _, ih (i + 1) _ (by omega) hlt ?_ ?_ ⟨_, ?_, SetOf_congr hS2 (fun x => ?_) rfl⟩ fun h3 tk m hm hS3 hk3 => ?_⟩
    · obtain ⟨o, ho, r⟩ := hit'; exact ⟨o, (hsb.2 it (Ne.symm hDi)).trans ho, r⟩
    · obtain ⟨o, ho, r⟩ := hl; exact ⟨o, (hsb.2 l (Ne.symm hDl)).trans ((hs'.2 l hli).trans ho), r⟩
    · split <;> omega
    · rw [List.take_succ_eq_append_getElem hlt, Bool.eq_iff_iff, Bool.or_eq_true, List.contains_iff_mem, List.contains_iff_mem, List.mem_append, List.mem_singleton, decide_eq_true_eq]
    · exact hR h3 tk m hm hS3 fun b o b1 b2 e => hk3 b o b1 b2 ((hsb.2 b b2).trans ((hs'.2 b b1).trans e))
set_option maxHeartbeats 3200000 in
theorem call_set_strs {l : Addr} {items : Array Value} {xs : List Str} {Q : Value → Shared → Prop} (hh : A.handled = none) (hl : s.heap.IsList l items) (hi : StrsAre items.toList xs) (hx : xs.length < 4000)
    (h : ∀ (h' : Heap) (tk n : Nat), n ≤ xs.length → h'.SetOf (strKind prog w) s.heap.objs.size (fun x => xs.contains x) n → (∀ b o, s.heap.get? b = some o → h'.get? b = some o) → Q (.ref s.heap.objs.size) { s with heap := h', toks := tk }) :
    wpAny (model prog w) A (call (.type "set") [.ref l]) Q E s := by
  obtain ⟨c, tl, hmro⟩ := PySem.F.called_set.mro
  have hmade := PySem.F.called_set.made
  have hsub := PySem.F.called_set.sub
  refine wpAny_call (codeAny_of_tree ?_)
  show wpAny _ _ (callAny (.type "set") _) _ _ _
  refine wpAny_pure ⟨Code.quiet_builtin _ (by decide +kernel), codeAny_builtin PySem.F.entry_type_call ?_⟩
  rw [Around.under_plain (weight_type_call_type "set" [.ref l] []) rfl]
  have h1 := PySem.F.called_set.notType
  have h2 := PySem.F.called_set.canCreate
  have hct := PySem.F.typeCall_set_1 (.ref l)
  repeat (any_goals (first | assumption | wp_step))
  refine codeAny_mono (code_set_new_1 (.ref l) (E := E) (Q₁ := fun obj s₁ => ∃ led : Bool, obj = .ref s.heap.objs.size ∧ s₁ = { s with heap := s.heap.push { cls := .type "set", dict := none, data := .set #[] 0 (.fresh 0 0 led) } }) fun led => ⟨led, rfl, rfl⟩) fun r s₁ hr => ?_
  cases r with
  | error e => exact hr
  | ok fl =>
    cases fl with
    | ret obj =>
      obtain ⟨led, rfl, rfl⟩ := hr
      have hS : (s.heap.push { cls := .type "set", dict := none, data := .set #[] 0 (.fresh 0 0 led) }).get? s.heap.objs.size = some { cls := .type "set", dict := none, data := .set #[] 0 (.fresh 0 0 led) } := Heap.get?_push_size _ rfl
      have hT : Shared.TypeIs { s with heap := s.heap.push { cls := .type "set", dict := none, data := .set #[] 0 (.fresh 0 0 led) } } (.ref s.heap.objs.size) "set" := ⟨_, hS, rfl⟩
      have hli := PySem.F.called_set.init.lookup
      have hbi := PySem.F.called_set.init.bind (.ref s.heap.objs.size)
      repeat (any_goals (first | assumption | wp_step))
      refine codeAny_mono (codeAny_call_builtin (R := wants (fun r s₂ => r = .none ∧ Q (.ref s.heap.objs.size) s₂) E) PySem.F.called_set.init.plain PySem.F.entry_set_init (check_set_init_1 hT ?_)) fun r₂ s₂ hr₂ => ?_
      · obtain ⟨ol, hol, hcl, nl, hdl⟩ := hl
        obtain ⟨ocls, odict, odata, oslots⟩ := ol
        simp only at hcl hdl
        subst hcl; subst hdl
        have hol' : (s.heap.push { cls := .type "set", dict := none, data := .set #[] 0 (.fresh 0 0 led) }).get? l = some { cls := .type "list", dict := odict, data := .seq items nl, slots := oslots } := Heap.get?_push_of_some _ hol
        have hsls := PySem.F.sub_list_set
        have hslf := PySem.F.sub_list_frozenset
        have hne : (Value.type "list" == Value.type "dict") = false := by decide
        have hl1 : (s.heap.push { cls := .type "set", dict := none, data := .set #[] 0 (.fresh 0 0 led) }).IsList l items := ⟨_, hol', rfl, nl, rfl⟩
        unfold Builtin.«set.__init__» noKeywords Builtin.Frozenset.updateFrom
        generalize hPI : pyIter = PI
        wp_walk
        subst hPI
        refine wpAny_pyIter_list hl1 ?_
        refine wpAny_bind (wpAny_runValue ?_)
        have hlS : l < s.heap.objs.size := Heap.lt_size hol
        have hz : (s.heap.push { cls := .type "set", dict := none, data := .set #[] 0 (.fresh 0 0 led) }).objs.size = s.heap.objs.size + 1 := Heap.size_push ..
        refine set_loop (xs := xs) (l := l) (items := items) (by simpa using hh) hi hx (by rw [hz]; exact Nat.ne_of_lt (Nat.lt_succ_of_lt hlS)) (by rw [hz]; exact Nat.ne_of_lt (Nat.lt_succ_self _)) (Nat.ne_of_gt hlS) (xs.length - 0) 0 _ (by omega) (Nat.zero_le _) ⟨_, Heap.get?_push_size _ rfl, rfl, rfl⟩ (hl1.push _) ⟨0, Nat.le_refl _, ?_⟩ fun h' tk n hn hS' hk => ?_
        · have hget : ((s.heap.push { cls := .type "set", dict := none, data := .set #[] 0 (.fresh 0 0 led) }).push { cls := .type "list_iterator", data := .fields #[.ref l, .int 0 0] }).get? s.heap.objs.size
              = some { cls := .type "set", dict := none, data := .set #[] 0 (.fresh 0 0 led) } := Heap.get?_push_of_some _ hS
          exact SetOf_congr ((setObjOf_fresh (knd := strKind prog w) led).setOf hget (by decide)) (fun _ => rfl) rfl
        · show wpAny _ _ _ _ _ _
          refine wpAny_pure ?_
          show wpAny _ _ (ret Value.none) _ _ _
          refine wpAny_pure ⟨rfl, h h' tk n hn hS' fun b o e => ?_⟩
          have hb := Heap.lt_size e
          exact hk b o (by rw [hz]; exact Nat.ne_of_lt (Nat.lt_succ_of_lt hb)) (Nat.ne_of_lt hb) (Heap.get?_push_of_some _ (Heap.get?_push_of_some _ e))
      · cases r₂ with
        | error e => exact hr₂
        | ok fl₂ =>
          cases fl₂ with
          | ret r =>
            obtain ⟨rfl, hq⟩ := hr₂
            repeat (any_goals (first | assumption | wp_step))
          | _ => exact hr₂.elim
    | _ => exact hr.elim
end
section
variable {w : World} {G : Gl w} {A : Around} {L : Addr} {env : Env} {ρ ρ' : Rho} {μ μ' : Mu} {s₀ : Shared} {B : Addr → Option Obj} {s : Shared}
theorem c_filter {b l : Addr} {xs : List MV} {P : MV → Mu → Prop} (hl : (l, MO.list xs) ∈ μ) (h : ∀ f it, P (.ref f) ((f, .raw (filterObj b it)) :: (it, .raw (iterObj l 0)) :: μ)) : CJ G A (.type "filter") [.ref b, .ref l] P μ := by
  intro s₀ B L ρ s vs hs hv
  refine va_rr hv ?_
  · obtain ⟨us, c, g5, hus⟩ := hs.list hl
    refine callType_new called_filter (by decide) (typeCall_filter_2 _ _) (newCall_filter_2 _ _) (fun obj => PySem.F.args_object_init_3 obj _ _) entry_filter_new
      (meets_filter_new b l us.toArray) ⟨isList_of g5, ?_⟩
    have hs1 := hs.push (o := .raw (iterObj l 0)) (x := iterObj l 0) (tk := s.toks) rfl rfl
    have hs2 := hs1.push (o := .raw (filterObj b s.heap.objs.size)) (x := filterObj b s.heap.objs.size) (tk := s.toks) rfl rfl
    refine ⟨⟨_, Heap.get?_push_size _ rfl, rfl⟩, _, _, vr, hs2, h _ _⟩
theorem a_contains {a : Addr} {oa : Obj} {S : Str → Bool} {n : Nat} {P : MV → Mu → Prop} (ha : (a, MO.raw oa) ∈ μ) (hS : oa.SetObjOf (strKind PR w) S n) (h : ∀ b, P (.ref b) ((b, .raw (boundObj a)) :: μ)) : AJ G A (.ref a) (Str.ofString "__contains__") P μ := by
  intro s₀ B L ρ s v hs hv
  cases hv
  obtain ⟨x, g, e⟩ := hs.get ha
  change x = oa at e
  subst e
  obtain ⟨⟨h1, h2, h3⟩, es, ep, t, h4, _⟩ := hS
  obtain ⟨cls, dict, data, slots⟩ := x
  simp only at h1 h2 h3 h4
  subst h1; subst h2; subst h3; subst h4
  exact getAttr_contains g fun tk => ⟨_, _, vr, hs.push (o := .raw (boundObj a)) (x := boundObj a) rfl rfl, h _⟩
theorem c_setstrs {l : Addr} {xs : List Str} {P : MV → Mu → Prop} (hh : A.handled = none) (hl : (l, MO.list (mstrs xs)) ∈ μ) (hx : xs.length < 4000)
    (h : ∀ a oa n, n < 4096 → oa.SetObjOf (strKind PR w) (fun x => xs.contains x) n → P (.ref a) ((a, .raw oa) :: μ)) : CJ G A (.type "set") [.ref l] P μ := by
  intro s₀ B L ρ s vs hs hv
  refine va_r hv ?_
  · obtain ⟨us, c, g5, hus⟩ := hs.list hl
    refine call_set_strs hh (isList_of g5) (by simpa using strs_are hus) hx fun h' tk n hn hS hk => ?_
    obtain ⟨oa, ho, hso⟩ := hS.objOf
    exact ⟨_, _, vr, hs.new (o := .raw oa) (get?_size _) (Nat.le_refl _) hk ⟨oa, ho, rfl⟩, h _ oa n (by omega) hso⟩
end
end

section
variable {w : World} {G : Gl w} {A : Around} {L : Addr} {env : Env} {ρ ρ' : Rho} {μ μ' : Mu}
inductive SiftD (a x : Addr) (hs : List Addr) (key : Addr → List Int) (pos : Nat) (μ : Mu) (q : Nat) (ρ : Rho) (μ₁ : Mu) : Prop
  | mk (cur : List Addr) (v1 v2 : MV) (z1 : ρ = [(Str.ofString "heap", .ref a), (Str.ofString "startpos", .int 0), (Str.ofString "pos", .int (q : Nat)), (Str.ofString "newitem", .ref x), (Str.ofString "parentpos", v1), (Str.ofString "parent", v2)]) (z2 : μ₁ = setL μ a (.list (refs cur))) (z3 : cur.length = hs.length) (z4 : q < hs.length) (z5 : sdF (fun p q => lexLt (key p) (key q)) x cur q = sdF (fun p q => lexLt (key p) (key q)) x hs pos) (z6 : ∀ p ∈ cur, p ∈ hs)
set_option maxRecDepth 100000 in
theorem c_siftdown {P : MV → Mu → Prop} {a : Addr} {hs : List Addr} {key : Addr → List Int} {pos : Nat} (hroom : A.depth < recursionLimit) (hu : A.units + 10 < cLine) (hm : (a, MO.list (refs hs)) ∈ μ) (hk : ∀ p ∈ hs, p ≠ a ∧ (p, MO.list (mints (key p))) ∈ μ)
    (hp : pos < hs.length) (hb : hs.length ≤ big) {x : Addr} (hx : hs[pos]? = some x) (hs' : SetAt a (.list (refs (sdF (fun p q => lexLt (key p) (key q)) x hs pos))) μ μ') (h : P .none μ') : CC G A (.ref 211) [.ref a, .int 0, .int pos] P μ := by
  refine CC.nodup fun hn => ?_
  unfold big at hb
  have hxm : x ∈ hs := List.mem_of_getElem? hx
  refine c_fn [Str.ofString "heap", Str.ofString "startpos", Str.ofString "pos"] [(Str.ofString "newitem", .undef), (Str.ofString "parentpos", .undef), (Str.ofString "parent", .undef)] rfl hroom rfl rfl rfl rfl rfl rfl rfl rfl rfl rfl (by decide) rfl rfl rfl (fun vs hv => va3 hv fun _ _ _ _ _ _ => rfl) ?_
  intro L' qn cd
  show X G _ _ (execs _ _) _ [(Str.ofString "heap", .ref a), (Str.ofString "startpos", .int 0), (Str.ofString "pos", .int pos), (Str.ofString "newitem", .undef), (Str.ofString "parentpos", .undef), (Str.ofString "parent", .undef)] μ
  refine s_assign ?_; refine e_sub ?_; refine e_name (by walk_at "mem") ?_; refine e_name (by walk_at "mem") ?_
  refine g_list hm (by omega) (x := .ref x) (by simpa using refs_get hx) ?_
  refine stp (by walk_at "pt") ?_
  refine s_while (SiftD a x hs key pos μ) pos
    ⟨hs, .undef, .undef, rfl, (setL_self hn hm).symm, rfl, hp, rfl, fun _ h => h⟩ ?_
  rintro q ρ μ₁ ⟨cur, v1, v2, rfl, rfl, hl, hq, he, hc⟩
  have hma : (a, MO.list (refs cur)) ∈ setL μ a (.list (refs cur)) := mem_setL_self hm
  refine b_cmp ?_; refine e_name (by walk_at "mem") ?_; refine e_name (by walk_at "mem") ?_; refine o_gt (asb ?_)
  rcases Nat.eq_zero_or_pos q with rfl | hq0
  · simp only [Int.ofNat_zero, Int.lt_irrefl, decide_false, Bool.false_eq_true, if_false]
    refine s_nil ?_; refine seq_next ?_; refine s_setitem ?_; refine e_name (by walk_at "mem") ?_; refine e_name (by walk_at "mem") ?_; refine e_name (by walk_at "mem") ?_
    refine sj_list hma (by omega) (by rw [refs_len]; omega) (setAt_setL (by rw [setL_keys]; exact hn) hma) ?_
    refine s_nil ?_
    rw [setL_setL, show ((0 : Int).toNat) = 0 from rfl, refs_set]
    rw [sdF_eq] at he
    simp only [Nat.lt_irrefl, dif_neg, not_false_eq_true] at he
    rw [he, ← hs'.eq hn]; exact h
  · have hd : decide ((0 : Int) < (q : Nat)) = true := by simp; omega
    simp only [hd, if_true]
    refine s_assign ?_; refine e_binop ?_; refine e_binop ?_; refine e_name (by walk_at "mem") ?_; refine e_int ?_; refine o_sub ?_; refine e_int ?_
    refine o_shr (by decide) ?_
    have e1 : ((q : Int) - 1).fdiv (2 ^ (1 : Int).toNat) = (((q - 1) / 2 : Nat) : Int) := by
      rw [Int.fdiv_eq_ediv_of_nonneg _ (by decide)]
      show ((q : Int) - 1) / 2 = _
      omega
    rw [e1]
    generalize hpp : (q - 1) / 2 = pp
    have hpq : pp < q := by omega
    refine stp (by walk_at "pt") ?_; refine s_assign ?_; refine e_sub ?_; refine e_name (by walk_at "mem") ?_; refine e_name (by walk_at "mem") ?_
    obtain ⟨y, hy⟩ : ∃ y, cur[pp]? = some y := ⟨cur[pp]'(by omega), List.getElem?_eq_getElem _⟩
    have hym : y ∈ cur := List.mem_of_getElem? hy
    refine g_list hma (by omega) (x := .ref y) (by simpa using refs_get hy) ?_
    refine stp (by walk_at "pt") ?_
    refine s_if ?_
    refine b_cmp ?_; refine e_name (by walk_at "mem") ?_; refine e_name (by walk_at "mem") ?_
    have kx := hk x hxm
    have ky := hk y (hc y hym)
    refine o_lt_list (mem_setL kx.2 kx.1) (mem_setL ky.2 ky.1) (by show A.units + 3 < cLine; omega) ?_
    refine asb ?_
    rw [sdF_eq] at he
    simp only [hq0, dif_pos, hpp, hy] at he
    split
    · rename_i hlt
      simp only [hlt, if_true] at he
      refine s_setitem ?_; refine e_name (by walk_at "mem") ?_; refine e_name (by walk_at "mem") ?_; refine e_name (by walk_at "mem") ?_
      refine sj_list hma (by omega) (by rw [refs_len]; omega) (setAt_setL (by rw [setL_keys]; exact hn) hma) ?_
      refine s_assign ?_; refine e_name (by walk_at "mem") ?_; refine stp (by walk_at "pt") ?_; refine s_continue ?_; refine seq_cont ?_
      refine turn_cont ⟨_, List.Sublist.refl _, pp, hpq, cur.set q y, _, _, rfl, ?_, by simpa using hl, by omega, he, fun p hp => hc p (mem_set_of hym p hp)⟩
      rw [setL_setL, show ((q : Int).toNat) = q from rfl, refs_set]
    · rename_i hlt
      simp only [hlt, Bool.false_eq_true, if_false] at he
      refine s_nil ?_; refine seq_next ?_; refine s_break ?_
      refine turn_brk ?_
      refine s_setitem ?_; refine e_name (by walk_at "mem") ?_; refine e_name (by walk_at "mem") ?_; refine e_name (by walk_at "mem") ?_
      refine sj_list hma (by omega) (by rw [refs_len]; omega) (setAt_setL (by rw [setL_keys]; exact hn) hma) ?_
      refine s_nil ?_
      rw [setL_setL, show ((q : Int).toNat) = q from rfl, refs_set, he, ← hs'.eq hn]; exact h
set_option maxRecDepth 100000 in
theorem c_heappush {P : MV → Mu → Prop} {a x : Addr} {hs : List Addr} {key : Addr → List Int} (hroom : A.depth + 1 < recursionLimit) (hu : A.units + 20 < cLine) (hm : (a, MO.list (refs hs)) ∈ μ) (hk : ∀ p ∈ hs, p ≠ a ∧ (p, MO.list (mints (key p))) ∈ μ)
    (hx : x ≠ a ∧ (x, MO.list (mints (key x))) ∈ μ) (hb : hs.length < big) (hs' : SetAt a (.list (refs (sdF (fun p q => lexLt (key p) (key q)) x (hs ++ [x]) hs.length))) μ μ') (h : P .none μ') : CC G A (.ref 197) [.ref a, .ref x] P μ := by
  refine CC.nodup fun hn => ?_
  refine c_fn [Str.ofString "heap", Str.ofString "item"] [] rfl (by omega) rfl rfl rfl rfl rfl rfl rfl rfl rfl rfl (by decide) rfl rfl rfl (fun vs hv => va2 hv fun _ _ _ _ => rfl) ?_
  intro L' qn cd
  show X G _ _ (execs _ _) _ [(Str.ofString "heap", .ref a), (Str.ofString "item", .ref x)] μ
  refine s_expr ?_; refine e_meth F.plainAttrs_list F.slot_list_append F.type_list_append ?_; refine e_name (by walk_at "mem") ?_
  refine ⟨isT_list hm, ?_⟩
  refine a_cons ?_; refine e_name (by walk_at "mem") ?_; refine a_nil ?_
  have e1 : refs hs ++ [MV.ref x] = refs (hs ++ [x]) := by simp [refs]
  refine c_append hm (by rw [refs_len]; omega) (setAt_setL hn hm) ?_
  rw [e1]
  have hma : (a, MO.list (refs (hs ++ [x]))) ∈ setL μ a (.list (refs (hs ++ [x]))) := mem_setL_self hm
  refine s_expr ?_; refine e_callfn rfl rfl ?_; refine a_cons ?_; refine e_name (by walk_at "mem") ?_; refine a_cons ?_; refine e_int ?_; refine a_cons ?_; refine e_binop ?_; refine e_callb rfl rfl (by decide) ?_; refine a_cons ?_; refine e_name (by walk_at "mem") ?_; refine a_nil ?_
  refine c_len hma (by rw [refs_len]; simp; omega) ?_
  refine e_int ?_; refine o_sub ?_; refine a_nil ?_
  have e2 : ((refs (hs ++ [x])).length : Int) - 1 = (hs.length : Nat) := by rw [refs_len]; simp
  rw [e2]
  refine c_siftdown (key := key) (hs := hs ++ [x]) (x := x) hroom (by show A.units + 3 + 10 < cLine; omega) hma ?_ (by simp) (by simp; omega) (by simp) (μ' := μ') ?_ ?_
  · intro p hp
    rcases List.mem_append.mp hp with hp | hp
    · exact ⟨(hk p hp).1, mem_setL (hk p hp).2 (hk p hp).1⟩
    · obtain rfl := List.mem_singleton.mp hp
      exact ⟨hx.1, mem_setL hx.2 hx.1⟩
  · rw [hs'.eq hn]
    have := setAt_setL (o := .list (refs (sdF (fun p q => lexLt (key p) (key q)) x (hs ++ [x]) hs.length))) (by rw [setL_keys]; exact hn) hma
    rw [setL_setL] at this; exact this
  · refine s_nil ?_
    exact h
noncomputable def childOf (lt : Addr → Addr → Bool) (hs : List Addr) (pos : Nat) : Nat :=
  if 2 * pos + 2 < hs.length ∧ lt (hs.getD (2 * pos + 1) 0) (hs.getD (2 * pos + 2) 0) = false then 2 * pos + 2 else 2 * pos + 1
theorem childOf_lt {lt : Addr → Addr → Bool} {hs : List Addr} {pos : Nat} (h : 2 * pos + 1 < hs.length) : childOf lt hs pos < hs.length ∧ pos < childOf lt hs pos := by
  unfold childOf; split <;> omega
noncomputable def suS (lt : Addr → Addr → Bool) (x : Addr) (p : List Addr × Nat) (ih : (y : List Addr × Nat) → y.1.length - y.2 < p.1.length - p.2 → List Addr) : List Addr :=
  if h : 2 * p.2 + 1 < p.1.length then ih (p.1.set p.2 (p.1.getD (childOf lt p.1 p.2) 0), childOf lt p.1 p.2) (show (p.1.set p.2 (p.1.getD (childOf lt p.1 p.2) 0)).length - childOf lt p.1 p.2 < p.1.length - p.2 from by have := childOf_lt (lt := lt) h; rw [List.length_set]; omega) else sdF lt x (p.1.set p.2 x) p.2
noncomputable def suF (lt : Addr → Addr → Bool) (x : Addr) (hs : List Addr) (pos : Nat) : List Addr :=
  (measure (fun p : List Addr × Nat => p.1.length - p.2)).wf.fix (suS lt x) (hs, pos)
theorem suF_eq (lt : Addr → Addr → Bool) (x : Addr) (hs : List Addr) (pos : Nat) : suF lt x hs pos = if h : 2 * pos + 1 < hs.length then suF lt x (hs.set pos (hs.getD (childOf lt hs pos) 0)) (childOf lt hs pos) else sdF lt x (hs.set pos x) pos := WellFounded.fix_eq _ _ _
theorem getD_get' {hs : List Addr} {i : Nat} (h : i < hs.length) : hs[i]? = some (hs.getD i 0) := by
  simp [List.getD, List.getElem?_eq_getElem h]
theorem getD_mem {hs : List Addr} {i : Nat} (h : i < hs.length) : hs.getD i 0 ∈ hs := List.mem_of_getElem? (getD_get' h)
inductive SiftU (a x : Addr) (hs : List Addr) (key : Addr → List Int) (μ : Mu) (q : Nat) (ρ : Rho) (μ₁ : Mu) : Prop
  | mk (cur : List Addr) (v1 : MV) (pos : Nat) (z1 : q = hs.length - pos) (z2 : ρ = [(Str.ofString "heap", .ref a), (Str.ofString "pos", .int (pos : Nat)), (Str.ofString "endpos", .int hs.length), (Str.ofString "startpos", .int 0), (Str.ofString "newitem", .ref x), (Str.ofString "childpos", .int ((2 * pos + 1 : Nat) : Int)), (Str.ofString "rightpos", v1)]) (z3 : μ₁ = setL μ a (.list (refs cur))) (z4 : cur.length = hs.length) (z5 : pos < hs.length) (z6 : suF (fun p q => lexLt (key p) (key q)) x cur pos = suF (fun p q => lexLt (key p) (key q)) x hs 0) (z7 : ∀ p ∈ cur, p ∈ hs)
set_option maxRecDepth 100000 in
theorem c_siftup {P : MV → Mu → Prop} {a : Addr} {hs : List Addr} {key : Addr → List Int} (hroom : A.depth + 1 < recursionLimit) (hu : A.units + 20 < cLine) (hm : (a, MO.list (refs hs)) ∈ μ) (hk : ∀ p ∈ hs, p ≠ a ∧ (p, MO.list (mints (key p))) ∈ μ)
    {x : Addr} (hx : hs[0]? = some x) (hb : hs.length ≤ big) (hs' : SetAt a (.list (refs (suF (fun p q => lexLt (key p) (key q)) x hs 0))) μ μ') (h : P .none μ') : CC G A (.ref 218) [.ref a, .int 0] P μ := by
  refine CC.nodup fun hn => ?_
  have hbig : hs.length ≤ 1000000 := hb
  have hxm : x ∈ hs := List.mem_of_getElem? hx
  have h0 : 0 < hs.length := by rcases hs with _ | _ <;> simp at hx ⊢
  refine c_fn [Str.ofString "heap", Str.ofString "pos"] [(Str.ofString "endpos", .undef), (Str.ofString "startpos", .undef), (Str.ofString "newitem", .undef), (Str.ofString "childpos", .undef), (Str.ofString "rightpos", .undef)] rfl (by omega) rfl rfl rfl rfl rfl rfl rfl rfl rfl rfl (by decide) rfl rfl rfl (fun vs hv => va2 hv fun _ _ _ _ => rfl) ?_
  intro L' qn cd
  show X G _ _ (execs _ _) _ [(Str.ofString "heap", .ref a), (Str.ofString "pos", .int 0), (Str.ofString "endpos", .undef), (Str.ofString "startpos", .undef), (Str.ofString "newitem", .undef), (Str.ofString "childpos", .undef), (Str.ofString "rightpos", .undef)] μ
  refine s_assign ?_; refine e_callb rfl rfl (by decide) ?_; refine a_cons ?_; refine e_name (by walk_at "mem") ?_; refine a_nil ?_
  refine c_len hm (by rw [refs_len]; omega) ?_
  rw [refs_len]
  refine stp (by walk_at "pt") ?_; refine s_assign ?_; refine e_name (by walk_at "mem") ?_; refine stp (by walk_at "pt") ?_; refine s_assign ?_; refine e_sub ?_; refine e_name (by walk_at "mem") ?_; refine e_name (by walk_at "mem") ?_
  refine g_list hm (by omega) (x := .ref x) (by simpa using refs_get hx) ?_
  refine stp (by walk_at "pt") ?_; refine s_assign ?_; refine e_binop ?_; refine e_binop ?_; refine e_int ?_; refine e_name (by walk_at "mem") ?_
  refine o_mul (.of_left (by decide)) ?_
  refine e_int ?_; refine o_add ?_; refine stp (by walk_at "pt") ?_
  refine s_while (SiftU a x hs key μ) (hs.length - 0)
    ⟨hs, .undef, 0, rfl, rfl, (setL_self hn hm).symm, rfl, h0, rfl, fun _ h => h⟩ ?_
  rintro q ρ μ₁ ⟨cur, v1, pos, rfl, rfl, rfl, hl, hq, he, hc⟩
  have hma : (a, MO.list (refs cur)) ∈ setL μ a (.list (refs cur)) := mem_setL_self hm
  have hkc : ∀ p ∈ cur, p ≠ a ∧ (p, MO.list (mints (key p))) ∈ setL μ a (.list (refs cur)) := fun p hp => ⟨(hk p (hc p hp)).1, mem_setL (hk p (hc p hp)).2 (hk p (hc p hp)).1⟩
  refine b_cmp ?_; refine e_name (by walk_at "mem") ?_; refine e_name (by walk_at "mem") ?_; refine o_lt (asb ?_)
  by_cases hlt : 2 * pos + 1 < hs.length
  · have hd : decide (((2 * pos + 1 : Nat) : Int) < (hs.length : Nat)) = true := by simp; omega
    rw [hd]; simp only [if_true]
    rw [suF_eq, dif_pos (by omega)] at he
    have hcl := childOf_lt (lt := fun p q => lexLt (key p) (key q)) (hs := cur) (pos := pos) (by omega)
    refine s_assign ?_; refine e_binop ?_; refine e_name (by walk_at "mem") ?_; refine e_int ?_; refine o_add ?_; refine stp (by walk_at "pt") ?_
    refine s_ifj (fun ρ μ₁ => ∃ r, ρ = [(Str.ofString "heap", .ref a), (Str.ofString "pos", .int (pos : Nat)), (Str.ofString "endpos", .int hs.length), (Str.ofString "startpos", .int 0), (Str.ofString "newitem", .ref x), (Str.ofString "childpos", .int ((childOf (fun p q => lexLt (key p) (key q)) cur pos : Nat) : Int)), (Str.ofString "rightpos", r)] ∧ μ₁ = setL μ a (.list (refs cur))) ?_ ?_
    · rintro _ _ ⟨r, rfl, rfl⟩
      generalize hcc : childOf (fun p q => lexLt (key p) (key q)) cur pos = c at *
      refine s_setitem ?_; refine e_sub ?_; refine e_name (by walk_at "mem") ?_; refine e_name (by walk_at "mem") ?_
      refine g_list hma (by omega) (x := .ref (cur.getD c 0)) (by simpa using refs_get (getD_get' hcl.1)) ?_
      refine e_name (by walk_at "mem") ?_; refine e_name (by walk_at "mem") ?_
      refine sj_list hma (by omega) (by rw [refs_len]; omega) (setAt_setL (by rw [setL_keys]; exact hn) hma) ?_
      refine s_assign ?_; refine e_name (by walk_at "mem") ?_; refine stp (by walk_at "pt") ?_; refine s_assign ?_; refine e_binop ?_; refine e_binop ?_; refine e_int ?_; refine e_name (by walk_at "mem") ?_
      refine o_mul (.of_left (by decide)) ?_
      refine e_int ?_; refine o_add ?_; refine stp (by walk_at "pt") ?_; refine s_nil ?_
      refine turn_next ⟨_, List.Sublist.refl _, hs.length - c, by omega, cur.set pos (cur.getD c 0), r, c, rfl, by simp, ?_, by simpa using hl, by omega, he, fun p hp => hc p (mem_set_of (getD_mem hcl.1) p hp)⟩
      rw [setL_setL, show ((pos : Int).toNat) = pos from rfl, refs_set]
    · have e1 : ((2 * pos + 1 : Nat) : Int) + 1 = ((2 * pos + 2 : Nat) : Int) := by omega
      rw [e1]
      refine b_and ?_; refine b_cmp ?_; refine e_name (by walk_at "mem") ?_; refine e_name (by walk_at "mem") ?_; refine o_lt (asb ?_)
      by_cases hr : 2 * pos + 2 < hs.length
      · have hd : decide (((2 * pos + 2 : Nat) : Int) < (hs.length : Nat)) = true := by simp; omega
        rw [hd]; simp only [if_true]
        refine b_not ?_; refine b_cmp ?_; refine e_sub ?_; refine e_name (by walk_at "mem") ?_; refine e_name (by walk_at "mem") ?_
        refine g_list hma (by omega) (x := .ref (cur.getD (2 * pos + 1) 0)) (by rw [Int.toNat_natCast]; exact refs_get (getD_get' (by omega))) ?_
        refine e_sub ?_; refine e_name (by walk_at "mem") ?_; refine e_name (by walk_at "mem") ?_
        refine g_list hma (by omega) (x := .ref (cur.getD (2 * pos + 2) 0)) (by rw [Int.toNat_natCast]; exact refs_get (getD_get' (by omega))) ?_
        refine o_lt_list (hkc _ (getD_mem (by omega))).2 (hkc _ (getD_mem (by omega))).2 (by show A.units + 3 < cLine; omega) ?_
        refine asb ?_
        cases hlx : lexLt (key (cur.getD (2 * pos + 1) 0)) (key (cur.getD (2 * pos + 2) 0)) with
        | true =>
          simp only [Bool.not_true, Bool.false_eq_true, if_false]
          refine s_nil ?_
          refine ⟨rfl, .int ((2 * pos + 2 : Nat) : Int), ?_, rfl⟩
          simp only [childOf, hlx, Bool.true_eq_false, and_false, if_false]
        | false =>
          simp only [Bool.not_false, if_true]
          refine s_assign ?_; refine e_name (by walk_at "mem") ?_; refine stp (by walk_at "pt") ?_; refine s_nil ?_
          refine ⟨rfl, .int ((2 * pos + 2 : Nat) : Int), ?_, rfl⟩
          simp only [childOf, hlx, hl, hr, and_self, if_true]
      · have hd : decide (((2 * pos + 2 : Nat) : Int) < (hs.length : Nat)) = false := by simp; omega
        rw [hd]; simp only [Bool.false_eq_true, if_false]
        refine s_nil ?_
        refine ⟨rfl, .int ((2 * pos + 2 : Nat) : Int), ?_, rfl⟩
        simp only [childOf, hl, hr, false_and, if_false]
  · have hd : decide (((2 * pos + 1 : Nat) : Int) < (hs.length : Nat)) = false := by simp; omega
    rw [hd]; simp only [Bool.false_eq_true, if_false]
    rw [suF_eq, dif_neg (by omega)] at he
    refine s_nil ?_; refine seq_next ?_; refine s_setitem ?_; refine e_name (by walk_at "mem") ?_; refine e_name (by walk_at "mem") ?_; refine e_name (by walk_at "mem") ?_
    refine sj_list hma (by omega) (by rw [refs_len]; omega) (setAt_setL (by rw [setL_keys]; exact hn) hma) ?_
    rw [setL_setL, show ((pos : Int).toNat) = pos from rfl, refs_set]
    have hma' : (a, MO.list (refs (cur.set pos x))) ∈ setL μ a (.list (refs (cur.set pos x))) := mem_setL_self hm
    refine s_expr ?_; refine e_callfn rfl rfl ?_; refine a_cons ?_; refine e_name (by walk_at "mem") ?_; refine a_cons ?_; refine e_name (by walk_at "mem") ?_; refine a_cons ?_; refine e_name (by walk_at "mem") ?_; refine a_nil ?_
    refine c_siftdown (key := key) (hs := cur.set pos x) (x := x) hroom (by show A.units + 3 + 10 < cLine; omega) hma' ?_ (by simp; omega) (by simp; omega) (by rw [List.getElem?_set_self (by omega)]) (μ' := μ') ?_ ?_
    · intro p hp
      have : p ∈ hs := by
        rcases List.mem_or_eq_of_mem_set hp with hp | rfl
        · exact hc p hp
        · exact hxm
      exact ⟨(hk p this).1, mem_setL (hk p this).2 (hk p this).1⟩
    · rw [hs'.eq hn, he]
      have := setAt_setL (o := .list (refs (suF (fun p q => lexLt (key p) (key q)) x hs 0))) (by rw [setL_keys]; exact hn) hma'
      rw [setL_setL] at this; exact this
    · refine s_nil ?_
      exact h
noncomputable def popF (lt : Addr → Addr → Bool) (hs : List Addr) : Addr × List Addr :=
  match hs.dropLast with
  | [] => (hs.getD (hs.length - 1) 0, [])
  | y :: r => (y, suF lt (hs.getD (hs.length - 1) 0) ((y :: r).set 0 (hs.getD (hs.length - 1) 0)) 0)
theorem refs_dropLast {hs : List Addr} : (refs hs).dropLast = refs hs.dropLast := by simp [refs, List.map_dropLast]
set_option maxRecDepth 100000 in
theorem c_heappop {P : MV → Mu → Prop} {a : Addr} {hs : List Addr} {key : Addr → List Int} (hroom : A.depth + 2 < recursionLimit) (hu : A.units + 30 < cLine) (hm : (a, MO.list (refs hs)) ∈ μ) (hk : ∀ p ∈ hs, p ≠ a ∧ (p, MO.list (mints (key p))) ∈ μ)
    (h0 : hs ≠ []) (hb : hs.length ≤ big) (hs' : SetAt a (.list (refs (popF (fun p q => lexLt (key p) (key q)) hs).2)) μ μ') (h : P (.ref (popF (fun p q => lexLt (key p) (key q)) hs).1) μ') : CC G A (.ref 204) [.ref a] P μ := by
  refine CC.nodup fun hn => ?_
  have hl0 : 0 < hs.length := List.length_pos_iff.mpr h0
  have hlast : hs.getD (hs.length - 1) 0 ∈ hs := getD_mem (by omega)
  refine c_fn [Str.ofString "heap"] [(Str.ofString "lastelt", .undef), (Str.ofString "returnitem", .undef)] rfl (by omega) rfl rfl rfl rfl rfl rfl rfl rfl rfl rfl (by decide) rfl rfl rfl (fun vs hv => va1 hv fun _ _ => rfl) ?_
  intro L' qn cd
  show X G _ _ (execs _ _) _ [(Str.ofString "heap", .ref a), (Str.ofString "lastelt", .undef), (Str.ofString "returnitem", .undef)] μ
  refine s_assign ?_; refine e_meth F.plainAttrs_list F.slot_list_pop F.type_list_pop ?_; refine e_name (by walk_at "mem") ?_
  refine ⟨isT_list hm, ?_⟩
  refine a_nil ?_
  refine c_pop hm (by rw [refs_len]; omega) (x := .ref (hs.getD (hs.length - 1) 0)) (by rw [refs_len]; exact refs_get (getD_get' (by omega))) (setAt_setL hn hm) ?_
  rw [refs_dropLast]
  have hma : (a, MO.list (refs hs.dropLast)) ∈ setL μ a (.list (refs hs.dropLast)) := mem_setL_self hm
  refine stp (by walk_at "pt") ?_
  refine s_if ?_
  refine b_name ?_; refine e_name (by walk_at "mem") ?_
  refine t_list hma (by rw [refs_len]; simp; omega) ?_
  have hsub : ∀ p ∈ hs.dropLast, p ∈ hs := fun p hp => List.dropLast_subset _ hp
  have hlen : hs.dropLast.length = hs.length - 1 := List.length_dropLast
  unfold popF at hs' h
  generalize hd : hs.dropLast = ys at *
  match ys with
  | [] =>
    simp only [refs, List.map_nil, List.isEmpty_nil, Bool.not_true, Bool.false_eq_true, if_false]
    refine s_nil ?_; refine seq_next ?_; refine s_ret ?_; refine e_name (by walk_at "mem") ?_
    have := hs'.eq hn
    simp only [refs, List.map_nil] at this
    rw [this] at h; exact h
  | y :: r =>
    rw [show (!(refs (y :: r)).isEmpty) = true from rfl]
    simp only [if_true]
    generalize hz : hs.getD (hs.length - 1) 0 = z at *
    refine s_assign ?_; refine e_sub ?_; refine e_name (by walk_at "mem") ?_; refine e_int ?_
    refine g_list hma (by omega) (x := .ref y) rfl ?_
    refine stp (by walk_at "pt") ?_; refine s_setitem ?_; refine e_name (by walk_at "mem") ?_; refine e_name (by walk_at "mem") ?_; refine e_int ?_
    refine sj_list hma (by omega) (by rw [refs_len]; simp) (setAt_setL (by rw [setL_keys]; exact hn) hma) ?_
    rw [setL_setL, show ((0 : Int).toNat) = 0 from rfl, refs_set]
    have hma' : (a, MO.list (refs ((y :: r).set 0 z))) ∈ setL μ a (.list (refs ((y :: r).set 0 z))) := mem_setL_self hm
    refine s_expr ?_; refine e_callfn rfl rfl ?_; refine a_cons ?_; refine e_name (by walk_at "mem") ?_; refine a_cons ?_; refine e_int ?_; refine a_nil ?_
    refine c_siftup (key := key) (hs := (y :: r).set 0 z) (x := z) (by show A.depth + 1 + 1 < _; omega) (by show A.units + 3 + 20 < cLine; omega) hma' ?_ rfl (by simp at hlen ⊢; omega) (μ' := μ') ?_ ?_
    · intro p hp
      have : p ∈ hs := by
        rcases List.mem_or_eq_of_mem_set hp with hp | rfl
        · exact hsub p hp
        · exact hlast
      exact ⟨(hk p this).1, mem_setL (hk p this).2 (hk p this).1⟩
    · rw [hs'.eq hn]
      have := setAt_setL (o := .list (refs (suF (fun p q => lexLt (key p) (key q)) z ((y :: r).set 0 z) 0))) (by rw [setL_keys]; exact hn) hma'
      rw [setL_setL] at this; exact this
    · refine s_ret ?_; refine e_name (by walk_at "mem") ?_; refine seq_ret ?_
      exact h
end

theorem mints_len {ns : List Int} : (mints ns).length = ns.length := by simp [mints]
theorem mints_get {ns : List Int} {i : Nat} {k : Int} (h : ns[i]? = some k) : (mints ns)[i]? = some (.int k) := by simp [mints, h]
theorem mints_set {ns : List Int} {i : Nat} {k : Int} : (mints ns).set i (.int k) = mints (ns.set i k) := by simp [mints, List.map_set]
theorem mints_app {ns ms : List Int} : mints ns ++ mints ms = mints (ns ++ ms) := by simp [mints]
noncomputable def delayOf (n : Int) : MV := if ((n.fdiv 640).fmod 2 == 0) = true then .none else .int (((n.fdiv 640).fdiv 2).fmod 100)
noncomputable def Delay (v : MV) : Prop := v = .none ∨ ∃ i : Int, v = .int i ∧ 0 ≤ i ∧ i < 100
theorem delayOf_ok (n : Int) : Delay (delayOf n) := by
  unfold delayOf
  split
  · exact .inl rfl
  · exact .inr ⟨_, rfl, Int.fmod_nonneg_of_pos _ (by decide), Int.fmod_lt_of_pos _ (by decide)⟩
noncomputable def names5 : List Str := [Str.ofString "fig", Str.ofString "Fig", Str.ofString "plum", Str.ofString "*", Str.ofString "Plum"]
noncomputable def nameOf (i : Nat) : Str := names5.getD i Str.empty
section
variable {w : World} {G : Gl w} {A : Around} {L : Addr} {env : Env} {ρ ρ' : Rho} {μ μ' : Mu}
set_option maxRecDepth 100000 in
theorem c_delay {P : MV → Mu → Prop} (hroom : A.depth < recursionLimit) {n : Int} (h : P (delayOf n) μ) : CC G A (.ref 237) [.int n] P μ := by
  refine c_fn [Str.ofString "number"] [(Str.ofString "rest", .undef)] rfl hroom rfl rfl rfl rfl rfl rfl rfl rfl rfl rfl (by decide) rfl rfl rfl (fun vs hv => va1 hv fun _ _ => rfl) ?_
  intro L' qn cd
  show X G _ _ (execs _ _) _ [(Str.ofString "number", .int n), (Str.ofString "rest", .undef)] μ
  refine s_assign ?_; refine e_binop ?_; refine e_name (by walk_at "mem") ?_; refine e_int ?_
  refine o_div (by decide) (PyProof.noPylong_small (by decide)) ?_
  refine stp (by walk_at "pt") ?_
  refine s_if ?_
  refine b_cmp ?_; refine e_binop ?_; refine e_name (by walk_at "mem") ?_; refine e_int ?_
  refine o_mod (by decide) ?_
  refine e_int ?_
  refine o_eq (asb ?_)
  unfold delayOf at h
  split
  · rename_i q
    rw [if_pos q] at h
    refine s_ret ?_; refine e_none ?_; refine seq_ret ?_
    exact h
  · rename_i q
    rw [if_neg q] at h
    refine s_nil ?_; refine seq_next ?_; refine s_ret ?_; refine e_binop ?_; refine e_binop ?_; refine e_name (by walk_at "mem") ?_; refine e_int ?_
    refine o_div (by decide) (PyProof.noPylong_small (by decide)) ?_
    refine e_int ?_
    refine o_mod (by decide) ?_
    exact h
set_option maxRecDepth 100000 in
theorem c_name {P : MV → Mu → Prop} (hroom : A.depth < recursionLimit) {n : Nat} (hn : n < 5) (h : P (.str (nameOf n)) μ) : CC G A (.ref 244) [.int n] P μ := by
  refine CC.sub ?_
  refine c_fn [Str.ofString "place"] [] rfl hroom rfl rfl rfl rfl rfl rfl rfl rfl rfl rfl (by decide) rfl rfl rfl (fun vs hv => va1 hv fun _ _ => rfl) ?_
  intro L' qn cd
  show X G _ _ (execs _ _) _ [(Str.ofString "place", .int n)] μ
  refine s_ret ?_; refine e_sub ?_; refine e_list ?_; refine a_cons ?_; refine e_str ?_; refine a_cons ?_; refine e_str ?_; refine a_cons ?_; refine e_str ?_; refine a_cons ?_; refine e_str ?_; refine a_cons ?_; refine e_str ?_; refine a_nil ?_
  refine ⟨by decide, fun a => ?_⟩
  refine e_name (by walk_at "mem") ?_
  refine g_list (.head _) (by omega) (x := .str (nameOf n)) ?_ ?_
  · exact five_nat hn rfl rfl rfl rfl rfl
  · exact ⟨μ, List.sublist_cons_self _ _, h⟩
theorem nodup_sub_len {α : Type} [DecidableEq α] : ∀ {ns l : List α}, ns.Nodup → (∀ x ∈ ns, x ∈ l) → ns.length ≤ l.length
  | [], _, _, _ => Nat.zero_le _
  | x :: r, l, hn, hs => by
    have h1 : r.length ≤ (l.erase x).length := nodup_sub_len (List.nodup_cons.mp hn).2 fun y hy => by
      have hne : y ≠ x := by rintro rfl; exact (List.nodup_cons.mp hn).1 hy
      exact (List.mem_erase_of_ne hne).mpr (hs y (.tail _ hy))
    have h2 := List.length_erase_of_mem (hs x (.head _))
    have h3 : 0 < l.length := List.length_pos_of_mem (hs x (.head _))
    simp only [List.length_cons]; omega
noncomputable def Ahead (ns : List Int) : Prop := ns.Pairwise (· < ·) ∧ ∀ x ∈ ns, 0 ≤ x ∧ x < 5
theorem Ahead.len {ns : List Int} (h : Ahead ns) : ns.length ≤ 5 := by
  have hsub : ∀ x ∈ ns, x ∈ ([0, 1, 2, 3, 4] : List Int) := fun x hx => by
    have := h.2 x hx
    have : x = 0 ∨ x = 1 ∨ x = 2 ∨ x = 3 ∨ x = 4 := by omega
    simpa using this
  have hnd : ns.Nodup := h.1.imp fun hab => Int.ne_of_lt hab
  exact nodup_sub_len hnd hsub
inductive AheadJ (p n : Int) (L' r : Addr) (t u v : Tok) (μ : Mu) (i : Nat) (acc : List MV) (μ₁ : Mu) : Prop
  | mk (ns : List Int) (z1 : acc = mints ns) (z2 : ns.Pairwise (· < ·)) (z3 : (∀ x ∈ ns, 0 ≤ x ∧ x < i)) (z4 : μ₁ = (r, .raw (rangeObj p t u v)) :: (L' + 1, .cell (.int n)) :: μ)
set_option maxRecDepth 100000 in
theorem c_ahead {P : MV → Mu → Prop} (hroom : A.depth < recursionLimit) (hh : A.handled = none) {n : Int} {p : Nat} (hp : p < 5) (h : ∀ b ns, Ahead ns → P (.ref b) ((b, .list (mints ns)) :: μ)) : CC G A (.ref 230) [.int n, .int p] P μ := by
  refine CC.sub ?_
  refine c_fnc [Str.ofString "number", Str.ofString "place"] [(Str.ofString "place", .int p), (Str.ofString "ahead", .undef), (Str.ofString "other", .undef)] (fun L => [(Str.ofString "number", L + 1)]) (fun _ => .int n) rfl hroom rfl rfl rfl rfl rfl rfl rfl rfl rfl (fun L => rfl) (fun L => by simp only [List.map_cons, List.map_nil]; decide) (by decide) (by simp only [List.map_cons, List.map_nil]; decide) rfl ?_ ?_ (fun vs hv => va2 hv fun _ _ _ _ => rfl) ?_
  · intro q hq
    simp only [List.mem_cons, List.not_mem_nil, or_false] at hq
    rcases hq with rfl | rfl | rfl
    · exact .inr ⟨.tail _ (.head _), rfl⟩
    · exact .inl rfl
    · exact .inl rfl
  · intro L q hq
    simp only [List.mem_cons, List.not_mem_nil, or_false] at hq
    subst hq
    exact .inr ⟨.head _, rfl⟩
  intro L' qn cd
  show X G _ _ (execs _ _) _ [(Str.ofString "place", .int p), (Str.ofString "ahead", .undef), (Str.ofString "other", .undef)] ((L' + 1, .cell (.int n)) :: μ)
  refine s_assign_comp rfl rfl rfl rfl rfl rfl ?_
  refine e_callt rfl rfl (by decide) ?_; refine a_cons ?_; refine e_name (by walk_at "mem") ?_; refine a_nil ?_
  refine c_range fun r t u v => ?_
  refine ⟨p, fun i => .int i, fun _ => True, AheadJ p n L' r t u v μ,
    itOf_range hh (by omega) (.head _), by show _ ≤ 1000000; omega, ⟨[], rfl, .nil, nofun, rfl⟩, fun _ _ _ _ => trivial, ?_, ?_⟩
  · rintro C i acc _ hi ⟨ns, rfl, hs, hb, rfl⟩
    show Tb G _ C (isTrue _ _ _) _ [(Str.ofString "one", .int i)] _
    refine b_cmp ?_; refine e_binop ?_; refine e_binop ?_; refine e_cell (hk := rfl) rfl (by walk_at "mem") ?_; refine e_binop ?_; refine e_int ?_; refine e_nameL (by walk_at "mem") ?_
    refine o_pow (i := 2) (j := (i : Int)) (by omega) ?_ ?_
    · rw [show Builtin.Int.intBits 2 = 2 from by decide]; omega
    have hpow : ∃ k : Nat, (2 : Int) ^ ((i : Int).toNat) = k ∧ 0 < k ∧ k ≤ 16 := by
      rw [Int.toNat_natCast]
      refine ⟨2 ^ i, by norm_cast, Nat.two_pow_pos _, ?_⟩
      exact Nat.le_trans (Nat.pow_le_pow_right (by decide) (show i ≤ 4 by omega)) (by decide)
    obtain ⟨k, hk, hk0, hk16⟩ := hpow
    rw [hk]
    refine o_div (by omega) (PyProof.noPylong_small ?_) ?_
    · show k < _; omega
    refine e_int ?_
    refine o_mod (by decide) ?_
    refine e_int ?_
    refine o_eq (asb ?_)
    split
    · refine e_nameL (by walk_at "mem") ?_
      refine ⟨_, rfl, List.Sublist.refl _, ns ++ [(i : Int)], by simp [mints], ?_, ?_, rfl⟩
      · rw [List.pairwise_append]
        exact ⟨hs, List.pairwise_singleton _ _, fun a ha b hb' => by rw [List.mem_singleton.mp hb']; exact (hb a ha).2⟩
      · intro x hx
        rcases List.mem_append.mp hx with hx | hx
        · have := hb x hx; omega
        · rw [List.mem_singleton.mp hx]; omega
    · refine ⟨_, rfl, List.Sublist.refl _, ns, rfl, hs, fun x hx => ?_, rfl⟩
      have := hb x hx; omega
  · rintro D acc _ ⟨ns, rfl, hs, hb, rfl⟩
    refine stp (by walk_at "pt") ?_
    refine s_assign ?_; refine e_binop ?_; refine e_binop ?_; refine e_cell (hk := rfl) rfl (by walk_at "mem") ?_; refine e_int ?_
    refine o_div (by decide) (PyProof.noPylong_small (by decide)) ?_
    refine e_int ?_
    refine o_mod (by decide) ?_
    refine stp (by walk_at "pt") ?_
    have ho1 : 0 ≤ (n.fdiv 128).fmod 5 := Int.fmod_nonneg_of_pos _ (by decide)
    have ho2 : (n.fdiv 128).fmod 5 < 5 := Int.fmod_lt_of_pos _ (by decide)
    generalize (n.fdiv 128).fmod 5 = o at *
    have hnl : ns.length ≤ 5 := Ahead.len ⟨hs, fun x hx => by have := hb x hx; omega⟩
    have hmD : (D, MO.list (mints ns)) ∈ (D, MO.list (mints ns)) :: (r, .raw (rangeObj p t u v)) :: (L' + 1, .cell (.int n)) :: μ := .head _
    refine s_ifj (fun ρ μ₁ => ρ = [(Str.ofString "place", .int p), (Str.ofString "ahead", .ref D), (Str.ofString "other", .int o)] ∧ ∃ ms, μ₁ = (D, .list (mints ms)) :: (r, .raw (rangeObj p t u v)) :: (L' + 1, .cell (.int n)) :: μ ∧ ms.Nodup ∧ ∀ x ∈ ms, 0 ≤ x ∧ x < 5) ?_ ?_
    · rintro _ _ ⟨rfl, ms, rfl, hnd, hms⟩
      have hml : ms.length ≤ 5 := nodup_sub_len (l := ([0, 1, 2, 3, 4] : List Int)) hnd fun x hx => by
        have := hms x hx
        have : x = 0 ∨ x = 1 ∨ x = 2 ∨ x = 3 ∨ x = 4 := by omega
        simpa using this
      refine s_ret ?_; refine e_callb rfl rfl (by decide) ?_; refine a_cons ?_; refine e_name (by walk_at "mem") ?_; refine a_nil ?_
      refine c_sorted (.head _) (by omega) fun b ms' hperm hsort => ?_
      refine ⟨_, (((List.sublist_cons_self _ _).trans ((List.sublist_cons_self _ _).trans (List.sublist_cons_self _ _))).cons_cons _), h b ms' ⟨?_, fun x hx => hms x (hperm.subset hx)⟩⟩
      have hnd' := hperm.nodup_iff.mpr hnd
      have h2 := hsort.and hnd'
      exact h2.imp fun ⟨h1, h2⟩ => by omega
    · have base : ns.Nodup ∧ ∀ x ∈ ns, 0 ≤ x ∧ x < 5 := ⟨hs.imp fun hab => Int.ne_of_lt hab, fun x hx => by have := hb x hx; omega⟩
      refine b_and ?_; refine b_cmp ?_; refine e_binop ?_; refine e_binop ?_; refine e_cell (hk := rfl) rfl (by walk_at "mem") ?_; refine e_int ?_
      refine o_div (by decide) (PyProof.noPylong_small (by decide)) ?_
      refine e_int ?_
      refine o_mod (by decide) ?_
      refine e_int ?_
      refine o_eq (asb ?_)
      split
      · refine b_cmp ?_; refine e_name (by walk_at "mem") ?_; refine e_name (by walk_at "mem") ?_
        refine o_notin_ints hmD (asb ?_)
        split
        · rename_i hc
          refine s_expr ?_; refine e_meth F.plainAttrs_list F.slot_list_append F.type_list_append ?_; refine e_name (by walk_at "mem") ?_
          refine ⟨isT_list hmD, ?_⟩
          refine a_cons ?_; refine e_name (by walk_at "mem") ?_; refine a_nil ?_
          refine c_append hmD (by rw [mints_len]; show _ ≤ 1000000; omega) .head ?_
          refine s_nil ?_
          refine ⟨rfl, rfl, ns ++ [o], by simp [mints], ?_, ?_⟩
          · rw [List.nodup_append]
            refine ⟨base.1, by simp, fun a ha b hb' => ?_⟩
            rw [List.mem_singleton.mp hb']
            rintro rfl
            simp [ha] at hc
          · intro x hx
            rcases List.mem_append.mp hx with hx | hx
            · exact base.2 x hx
            · rw [List.mem_singleton.mp hx]; exact ⟨ho1, ho2⟩
        · refine s_nil ?_
          exact ⟨rfl, rfl, ns, rfl, base⟩
      · simp only [Bool.false_eq_true, if_false]
        refine s_nil ?_
        exact ⟨rfl, rfl, ns, rfl, base⟩
end

theorem mstrs_app {ns ms : List Str} : mstrs ns ++ mstrs ms = mstrs (ns ++ ms) := by simp [mstrs]
theorem mstrs_len {ns : List Str} : (mstrs ns).length = ns.length := by simp [mstrs]
theorem txt_len : ∀ i : Int, 0 ≤ i → i < 100 → (txt i).length ≤ 2 := by
  intro i h0 h1
  have : ∀ k : Fin 100, (txt ((k : Nat) : Int)).length ≤ 2 := by decide +kernel
  have e := this ⟨i.toNat, by omega⟩
  rwa [show (((⟨i.toNat, by omega⟩ : Fin 100) : Nat) : Int) = i by simp; omega] at e
noncomputable def delayLine : MV → List Str
  | .int i => [Str.ofString "Crawl-delay: " ++ txt i]
  | _ => []
noncomputable def linesOf (p : Nat) (d : MV) (ns : List Int) : List Str :=
  (Str.ofString "User-agent: " ++ nameOf p) :: (delayLine d ++ if ns = [] then [Str.ofString "Allow:"] else [])
theorem linesOf_len {p : Nat} {d : MV} {ns : List Int} : (linesOf p d ns).length ≤ 3 := by
  unfold linesOf
  have : (delayLine d).length ≤ 1 := by cases d <;> simp [delayLine]
  simp only [List.length_cons, List.length_append]
  split <;> simp <;> omega
theorem nameOf_len (n : Nat) : (nameOf n).length ≤ 4 := by
  match n with
  | 0 => decide
  | 1 => decide
  | 2 => decide
  | 3 => decide
  | 4 => decide
  | n + 5 => exact Nat.zero_le _
theorem linesOf_short {p : Nat} {d : MV} {ns : List Int} (hd : Delay d) : ∀ y ∈ linesOf p d ns, y.length ≤ 100 := by
  intro y hy
  unfold linesOf at hy
  rcases List.mem_cons.mp hy with rfl | hy
  · rw [Str.length_append]
    have := nameOf_len p
    have : (Str.ofString "User-agent: ").length = 12 := by decide
    omega
  rcases List.mem_append.mp hy with hy | hy
  · rcases hd with rfl | ⟨i, rfl, h0, h1⟩
    · cases hy
    · rw [List.mem_singleton.mp hy, Str.length_append]
      have := txt_len i h0 h1
      have : (Str.ofString "Crawl-delay: ").length = 13 := by decide
      omega
  · split at hy
    · rw [List.mem_singleton.mp hy]; decide
    · cases hy
theorem log2_small {i : Int} (h0 : 0 ≤ i) (h1 : i < 100) : i.natAbs.log2 < 1920 := by
  have : i.natAbs < 2 ^ 7 := by omega
  by_cases hz : i.natAbs = 0
  · rw [hz]; decide
  · exact Nat.lt_trans ((Nat.log2_lt hz).mpr this) (by decide)
section
variable {w : World} {G : Gl w} {A : Around} {L : Addr} {env : Env} {ρ ρ' : Rho} {μ μ' : Mu}
set_option maxRecDepth 100000 in
theorem c_lines {P : MV → Mu → Prop} (hroom : A.depth + 1 < recursionLimit) (hu : A.units + 10 < cLine) {p : Nat} (hp : p < 5) {d : MV} (hd : Delay d) {a : Addr} {ns : List Int} (hm : (a, MO.list (mints ns)) ∈ μ)
    (h : ∀ b, P (.ref b) ((b, .list (mstrs (linesOf p d ns))) :: μ)) : CC G A (.ref 251) [.int p, d, .ref a] P μ := by
  refine CC.sub ?_
  refine c_fn [Str.ofString "place", Str.ofString "delay", Str.ofString "ahead"] [(Str.ofString "lines", .undef)] rfl (by omega) rfl rfl rfl rfl rfl rfl rfl rfl rfl rfl (by decide) rfl rfl rfl (fun vs hv => va3 hv fun _ _ _ _ _ _ => rfl) ?_
  intro L' qn cd
  show X G _ _ (execs _ _) _ [(Str.ofString "place", .int p), (Str.ofString "delay", d), (Str.ofString "ahead", .ref a), (Str.ofString "lines", .undef)] μ
  have hdc : ∀ v, d ≠ .con v := by rcases hd with rfl | ⟨i, rfl, _⟩ <;> exact nofun
  have hdu : d ≠ .undef := by rcases hd with rfl | ⟨i, rfl, _⟩ <;> exact nofun
  refine s_assign ?_; refine e_list ?_; refine a_cons ?_; refine e_binop ?_; refine e_str ?_; refine e_callfn rfl rfl ?_; refine a_cons ?_; refine e_name (by walk_at "mem") ?_; refine a_nil ?_
  refine c_name (by show A.depth + 1 < _; omega) hp ?_
  have hnl := nameOf_len p
  refine o_addstr (by have : (Str.ofString "User-agent: ").length = 12 := (by decide); show _ ≤ 16777216; omega) ?_
  refine a_nil ?_
  refine ⟨by show 1 ≤ 1000000; decide, fun b => ?_⟩
  refine stp (by walk_at "pt") ?_
  refine s_ifj (fun ρ μ₁ => ρ = [(Str.ofString "place", .int p), (Str.ofString "delay", d), (Str.ofString "ahead", .ref a), (Str.ofString "lines", .ref b)] ∧ μ₁ = (b, .list (mstrs ((Str.ofString "User-agent: " ++ nameOf p) :: delayLine d))) :: μ) ?_ ?_
  · rintro _ _ ⟨rfl, rfl⟩
    refine s_ifj (fun ρ μ₁ => ρ = [(Str.ofString "place", .int p), (Str.ofString "delay", d), (Str.ofString "ahead", .ref a), (Str.ofString "lines", .ref b)] ∧ ∃ c, μ₁ = (c, .list []) :: (b, .list (mstrs (linesOf p d ns))) :: μ) ?_ ?_
    · rintro _ _ ⟨rfl, c, rfl⟩
      refine s_ret ?_; refine e_name (by walk_at "mem") ?_
      exact ⟨_, List.sublist_cons_self _ _, h b⟩
    · refine b_cmp ?_; refine e_name (by walk_at "mem") ?_; refine e_list ?_; refine a_nil ?_
      refine ⟨by decide, fun c => ?_⟩
      refine o_eq_nil (.tail _ (.tail _ hm)) (.head _) (by show A.units + 3 < _; omega) ?_
      refine asb ?_
      have hle : ((Str.ofString "User-agent: " ++ nameOf p) :: delayLine d).length ≤ 2 := by cases d <;> simp [delayLine]
      cases ns with
      | nil =>
        simp only [mints, List.map_nil, List.isEmpty_nil, if_true]
        refine s_expr ?_; refine e_meth F.plainAttrs_list F.slot_list_append F.type_list_append ?_; refine e_name (by walk_at "mem") ?_
        refine ⟨isT_list (.tail _ (.head _)), ?_⟩
        refine a_cons ?_; refine e_str ?_; refine a_nil ?_
        refine c_append (.tail _ (.head _)) (by rw [mstrs_len]; show _ ≤ 1000000; omega) (.tail .head) ?_
        refine s_nil ?_
        refine ⟨rfl, rfl, c, ?_⟩
        simp [mstrs, linesOf]
      | cons x r =>
        simp only [mints, List.map_cons, List.isEmpty_cons, Bool.false_eq_true, if_false]
        refine s_nil ?_
        refine ⟨rfl, rfl, c, ?_⟩
        simp [mstrs, linesOf]
  · refine b_cmp ?_
    refine e_name (.tail _ (.head _)) ?_ hdu
    refine e_none ?_
    refine o_isnot_none (x := d) (asb ?_) hdu hdc
    rcases hd with rfl | ⟨i, rfl, h0, h1⟩
    · simp only [Bool.false_eq_true, if_false]
      refine s_nil ?_
      exact ⟨rfl, rfl, rfl⟩
    · simp only [if_true]
      refine s_expr ?_; refine e_meth F.plainAttrs_list F.slot_list_append F.type_list_append ?_; refine e_name (by walk_at "mem") ?_
      refine ⟨isT_list (.head _), ?_⟩
      refine a_cons ?_; refine e_binop ?_; refine e_str ?_; refine e_callt rfl rfl (by decide) ?_; refine a_cons ?_; refine e_name (by walk_at "mem") ?_; refine a_nil ?_
      refine c_strint (log2_small h0 h1) ?_
      have := txt_len i h0 h1
      refine o_addstr (by have : (Str.ofString "Crawl-delay: ").length = 13 := (by decide); show _ ≤ 16777216; omega) ?_
      refine a_nil ?_
      refine c_append (.head _) (by show 1 ≤ 1000000; decide) .head ?_
      refine s_nil ?_
      exact ⟨rfl, rfl, rfl⟩
end
theorem lex_irrefl : ∀ a, lexLt a a = false
  | [] => rfl
  | x :: xs => by simp [lexLt, lex_irrefl xs]
theorem lex_asymm : ∀ a b, lexLt a b = true → lexLt b a = false
  | [], [], h => by cases h
  | [], _ :: _, _ => rfl
  | _ :: _, [], h => by cases h
  | x :: xs, y :: ys, h => by
    unfold lexLt at h ⊢
    by_cases e : x = y
    · subst e; simp at h ⊢; exact lex_asymm xs ys h
    · have e' : ¬ y = x := fun h => e h.symm
      simp [e] at h; simp [e']; omega
theorem lex_le_trans : ∀ a b c, lexLt b a = false → lexLt c b = false → lexLt c a = false
  | [], _, [], _, _ => rfl
  | [], [], _ :: _, _, _ => rfl
  | [], _ :: _, _ :: _, _, _ => rfl
  | _ :: _, [], _, h, _ => by cases h
  | _ :: _, _ :: _, [], _, h => by cases h
  | x :: xs, y :: ys, z :: zs, h1, h2 => by
    unfold lexLt at h1 h2 ⊢
    by_cases e1 : y = x
    · subst e1
      by_cases e2 : z = y
      · subst e2; simp at h1 h2 ⊢; exact lex_le_trans xs ys zs h1 h2
      · simp [e2] at h2 ⊢; exact h2
    · simp [e1] at h1
      by_cases e2 : z = y
      · subst e2; simp [e1]; exact h1
      · simp [e2] at h2
        have : ¬ z = x := by omega
        simp [this]; omega
theorem lex_antisymm : ∀ a b, lexLt a b = false → lexLt b a = false → a = b
  | [], [], _, _ => rfl
  | [], _ :: _, h, _ => by cases h
  | _ :: _, [], _, h => by cases h
  | x :: xs, y :: ys, h1, h2 => by
    unfold lexLt at h1 h2
    by_cases e : x = y
    · subst e; simp at h1 h2; rw [lex_antisymm xs ys h1 h2]
    · have e' : ¬ y = x := fun h => e h.symm
      simp [e] at h1; simp [e'] at h2; omega

theorem getD_set {hs : List Addr} {p i : Nat} {v : Addr} (hp : p < hs.length) : (hs.set p v).getD i 0 = if i = p then v else hs.getD i 0 := by
  simp only [List.getD, List.getElem?_set]
  by_cases h : p = i
  · subst h; simp [hp]
  · have : ¬ i = p := fun e => h e.symm
    simp [h, this]
theorem set_perm {hs : List Addr} {p c : Nat} {x : Addr} (hp : p < hs.length) (hc : c < hs.length) (hne : p ≠ c) : ((hs.set p (hs.getD c 0)).set c x).Perm (hs.set p x) := by
  rw [List.perm_iff_count]
  intro a
  have e1 : hs.getD c 0 = hs[c] := by simp [List.getD, List.getElem?_eq_getElem hc]
  have hc' : c < (hs.set p (hs.getD c 0)).length := by simpa using hc
  rw [List.count_set hc', List.count_set hp, List.count_set hp]
  have e2 : (hs.set p (hs.getD c 0))[c] = hs[c] := by rw [List.getElem_set_ne hne]
  rw [e2, e1]
  have hpos : (hs[p] == a) = true → 0 < hs.count a := fun h => List.count_pos_iff.mpr (by rw [← eq_of_beq h]; exact List.getElem_mem hp)
  have hpos2 : (hs[c] == a) = true → 0 < hs.count a := fun h => List.count_pos_iff.mpr (by rw [← eq_of_beq h]; exact List.getElem_mem hc)
  split <;> split <;> split <;> simp_all <;> omega
section
variable {lt : Addr → Addr → Bool}
noncomputable def HP (lt : Addr → Addr → Bool) (hs : List Addr) : Prop := ∀ i, 0 < i → i < hs.length → lt (hs.getD i 0) (hs.getD ((i - 1) / 2) 0) = false
theorem sdF_spec (h1 : ∀ a b, lt a b = true → lt b a = false) (h2 : ∀ a b c, lt b a = false → lt c b = false → lt c a = false) (x : Addr) : ∀ (pos : Nat) (hs : List Addr), pos < hs.length →
    (∀ i, 0 < i → i < hs.length → i ≠ pos → (i - 1) / 2 ≠ pos → lt (hs.getD i 0) (hs.getD ((i - 1) / 2) 0) = false) →
    (∀ i, 0 < i → i < hs.length → (i - 1) / 2 = pos → lt (hs.getD i 0) x = false) →
    (0 < pos → ∀ i, 0 < i → i < hs.length → (i - 1) / 2 = pos → lt (hs.getD i 0) (hs.getD ((pos - 1) / 2) 0) = false) →
    HP lt (sdF lt x hs pos) ∧ (sdF lt x hs pos).Perm (hs.set pos x) := by
  intro pos
  induction pos using Nat.strongRecOn with
  | ind pos ih =>
    intro hs hl ha hb hc
    have fin : (0 < pos → lt x (hs.getD ((pos - 1) / 2) 0) = false) → HP lt (hs.set pos x) := by
      intro hx i h0 hi
      rw [List.length_set] at hi
      rw [getD_set hl, getD_set hl]
      by_cases e : i = pos
      · subst e
        have : ¬ (i - 1) / 2 = i := by omega
        simp only [if_true, this, if_false]; exact hx h0
      · simp only [e, if_false]
        by_cases e2 : (i - 1) / 2 = pos
        · simp only [e2, if_true]; exact hb i h0 hi e2
        · simp only [e2, if_false]; exact ha i h0 hi e e2
    rw [sdF_eq]
    by_cases hp : 0 < pos
    · have hpar : (pos - 1) / 2 < hs.length := by omega
      rw [dif_pos hp, getD_get' hpar]
      generalize hq : (pos - 1) / 2 = par at *
      have hpl : par < pos := by omega
      dsimp only
      by_cases hlt : lt x (hs.getD par 0) = true
      · rw [if_pos hlt]
        have hxq := h1 _ _ hlt
        obtain ⟨r1, r2⟩ := ih par hpl (hs.set pos (hs.getD par 0)) (by simpa using hpar) (by
            intro i h0 hi e1 e2
            rw [List.length_set] at hi
            rw [getD_set hl, getD_set hl]
            have e3 : i ≠ pos := by rintro rfl; exact e2 hq
            simp only [e3, if_false]
            by_cases e4 : (i - 1) / 2 = pos
            · simp only [e4, if_true]; exact hc hp i h0 hi e4
            · simp only [e4, if_false]; exact ha i h0 hi e3 e4) (by
            intro i h0 hi e1
            rw [List.length_set] at hi
            rw [getD_set hl]
            by_cases e3 : i = pos
            · simp only [e3, if_true]; exact hxq
            · simp only [e3, if_false]
              have := ha i h0 hi e3 (by omega)
              rw [e1] at this
              exact h2 _ _ _ hxq this) (by
            intro hp0 i h0 hi e1
            rw [List.length_set] at hi
            rw [getD_set hl, getD_set hl]
            have e5 : ¬ (par - 1) / 2 = pos := by omega
            simp only [e5, if_false]
            have h3 := ha par hp0 (by omega) (by omega) e5
            by_cases e3 : i = pos
            · simp only [e3, if_true]; exact h3
            · simp only [e3, if_false]
              have := ha i h0 hi e3 (by omega)
              rw [e1] at this
              exact h2 _ _ _ h3 this)
        exact ⟨r1, r2.trans (set_perm hl hpar (by omega))⟩
      · rw [if_neg hlt]
        exact ⟨fin fun _ => by simpa using hlt, .refl _⟩
    · rw [dif_neg hp]
      exact ⟨fin fun h => absurd h hp, .refl _⟩
theorem suF_spec (h1 : ∀ a b, lt a b = true → lt b a = false) (h2 : ∀ a b c, lt b a = false → lt c b = false → lt c a = false) (x : Addr) : ∀ (k : Nat) (pos : Nat) (hs : List Addr), hs.length - pos = k → pos < hs.length →
    (∀ i, 0 < i → i < hs.length → i ≠ pos → (i - 1) / 2 ≠ pos → lt (hs.getD i 0) (hs.getD ((i - 1) / 2) 0) = false) →
    (0 < pos → ∀ i, 0 < i → i < hs.length → (i - 1) / 2 = pos → lt (hs.getD i 0) (hs.getD ((pos - 1) / 2) 0) = false) →
    HP lt (suF lt x hs pos) ∧ (suF lt x hs pos).Perm (hs.set pos x) := by
  intro k
  induction k using Nat.strongRecOn with
  | ind k ih =>
    intro pos hs hk hl ha hc
    rw [suF_eq]
    by_cases hch : 2 * pos + 1 < hs.length
    · rw [dif_pos hch]
      obtain ⟨c1, c2⟩ := childOf_lt (lt := lt) hch
      have c3 : childOf lt hs pos = 2 * pos + 1 ∨ childOf lt hs pos = 2 * pos + 2 := by unfold childOf; split <;> simp
      have c4 : ∀ i, 0 < i → i < hs.length → (i - 1) / 2 = pos → i ≠ childOf lt hs pos → lt (hs.getD i 0) (hs.getD (childOf lt hs pos) 0) = false := by
        intro i h0 hi e1 e2
        have : i = 2 * pos + 1 ∨ i = 2 * pos + 2 := by omega
        unfold childOf at e2 ⊢
        split at e2
        · rename_i hh
          rw [if_pos hh]
          obtain rfl : i = 2 * pos + 1 := by omega
          exact hh.2
        · rename_i hh
          rw [if_neg hh]
          obtain rfl : i = 2 * pos + 2 := by omega
          have : lt (hs.getD (2 * pos + 1) 0) (hs.getD (2 * pos + 2) 0) = true := by
            cases e : lt (hs.getD (2 * pos + 1) 0) (hs.getD (2 * pos + 2) 0) with
            | true => rfl
            | false => exact absurd ⟨hi, e⟩ hh
          exact h1 _ _ this
      generalize childOf lt hs pos = c at *
      have hpc : (c - 1) / 2 = pos := by omega
      obtain ⟨r1, r2⟩ := ih (hs.length - c) (by omega) c (hs.set pos (hs.getD c 0)) (by simp) (by simpa using c1) (by
          intro i h0 hi e1 e2
          rw [List.length_set] at hi
          rw [getD_set hl, getD_set hl]
          by_cases e3 : i = pos
          · subst e3
            have : ¬ (i - 1) / 2 = i := by omega
            simp only [if_true, this, if_false]
            exact hc h0 c (by omega) c1 hpc
          · simp only [e3, if_false]
            by_cases e4 : (i - 1) / 2 = pos
            · simp only [e4, if_true]; exact c4 i h0 hi e4 e1
            · simp only [e4, if_false]; exact ha i h0 hi e3 e4) (by
          intro h0c i h0 hi e1
          rw [List.length_set] at hi
          rw [getD_set hl, getD_set hl, hpc]
          have : ¬ i = pos := by omega
          simp only [this, if_false, if_true]
          have := ha i h0 hi this (by omega)
          rwa [e1] at this)
      exact ⟨r1, r2.trans (set_perm hl c1 (by omega))⟩
    · rw [dif_neg hch]
      have hl' : pos < (hs.set pos x).length := by simpa using hl
      obtain ⟨r1, r2⟩ := sdF_spec h1 h2 x pos (hs.set pos x) hl' (by
          intro i h0 hi e1 e2
          rw [List.length_set] at hi
          rw [getD_set hl, getD_set hl, if_neg e1, if_neg e2]
          exact ha i h0 hi e1 e2) (by
          intro i h0 hi e1
          rw [List.length_set] at hi
          omega) (by
          intro _ i h0 hi e1
          rw [List.length_set] at hi
          omega)
      exact ⟨r1, by simpa using r2⟩
theorem HP.root {hs : List Addr} (h2 : ∀ a b c, lt b a = false → lt c b = false → lt c a = false) (h0 : ∀ a, lt a a = false) (h : HP lt hs) : ∀ i, i < hs.length → lt (hs.getD i 0) (hs.getD 0 0) = false := by
  intro i
  induction i using Nat.strongRecOn with
  | ind i ih =>
    intro hi
    by_cases e : i = 0
    · subst e; exact h0 _
    · exact h2 _ _ _ (ih ((i - 1) / 2) (by omega) (by omega)) (h i (by omega) hi)
theorem push_spec (h1 : ∀ a b, lt a b = true → lt b a = false) (h2 : ∀ a b c, lt b a = false → lt c b = false → lt c a = false) {hs : List Addr} {x : Addr} (h : HP lt hs) : HP lt (sdF lt x (hs ++ [x]) hs.length) ∧ (sdF lt x (hs ++ [x]) hs.length).Perm (x :: hs) := by
  have e : ∀ i, i < hs.length → (hs ++ [x]).getD i 0 = hs.getD i 0 := fun i hi => by simp [List.getD, List.getElem?_append_left hi]
  obtain ⟨r1, r2⟩ := sdF_spec h1 h2 x hs.length (hs ++ [x]) (by simp) (by
      intro i h0 hi e1 e2
      simp at hi
      rw [e i (by omega), e _ (by omega)]
      exact h i h0 (by omega)) (by intro i h0 hi e1; simp at hi; omega) (by intro _ i h0 hi e1; simp at hi; omega)
  refine ⟨r1, r2.trans ?_⟩
  have : (hs ++ [x]).set hs.length x = hs ++ [x] := by simp
  rw [this]
  exact List.perm_append_singleton x hs
theorem pop_spec (h0 : ∀ a, lt a a = false) (h1 : ∀ a b, lt a b = true → lt b a = false) (h2 : ∀ a b c, lt b a = false → lt c b = false → lt c a = false) {hs : List Addr} (hne : hs ≠ []) (h : HP lt hs) :
    HP lt (popF lt hs).2 ∧ ((popF lt hs).1 :: (popF lt hs).2).Perm hs ∧ ∀ z ∈ (popF lt hs).2, lt z (popF lt hs).1 = false := by
  have hl : 0 < hs.length := List.length_pos_iff.mpr hne
  have hsplit : hs = hs.dropLast ++ [hs.getD (hs.length - 1) 0] := by
    have h3 : hs.getD (hs.length - 1) 0 = hs.getLast hne := by
      rw [List.getLast_eq_getElem, List.getD_eq_getElem?_getD, List.getElem?_eq_getElem (by omega)]; rfl
    rw [h3]; exact (List.dropLast_concat_getLast hne).symm
  have hmem : ∀ z ∈ hs, lt z (hs.getD 0 0) = false := by
    intro z hz
    obtain ⟨i, hi, rfl⟩ := List.mem_iff_getElem.mp hz
    have := h.root h2 h0 i hi
    simpa [List.getD, List.getElem?_eq_getElem hi] using this
  unfold popF
  generalize hs.getD (hs.length - 1) 0 = z at *
  generalize hd : hs.dropLast = ys at *
  match ys with
  | [] =>
    simp only
    refine ⟨fun i _ hi => by simp at hi, by rw [hsplit]; simp, by simp⟩
  | y :: r =>
    dsimp only
    have hlen : hs.length = r.length + 2 := by rw [hsplit]; simp
    have hget : ∀ i, i < r.length + 1 → (y :: r).getD i 0 = hs.getD i 0 := by
      intro i hi
      rw [hsplit]
      simp only [List.getD]
      rw [List.getElem?_append_left (by simpa using hi)]
    have hy : hs.getD 0 0 = y := by rw [← hget 0 (by omega)]; rfl
    obtain ⟨r1, r2⟩ := suF_spec h1 h2 z _ 0 ((y :: r).set 0 z) rfl (by simp) (by
        intro i hi0 hi e1 e2
        simp at hi
        rw [getD_set (by simp), getD_set (by simp), if_neg e1, if_neg e2, hget i (by omega), hget _ (by omega)]
        exact h i hi0 (by omega)) (by omega)
    have r3 : (suF lt z ((y :: r).set 0 z) 0).Perm (z :: r) := by simpa using r2
    have r4 : (y :: suF lt z ((y :: r).set 0 z) 0).Perm hs := by
      rw [hsplit]
      refine ((r3.cons y).trans ?_)
      exact ((List.perm_append_singleton z r).symm.cons y)
    refine ⟨r1, r4, fun v hv => ?_⟩
    rw [← hy]
    exact hmem v (r4.subset (.tail _ hv))
end
theorem sorted_unique : ∀ {l₁ l₂ : List (List Int)}, l₁.Perm l₂ → l₁.Pairwise (fun a b => lexLt b a = false) → l₂.Pairwise (fun a b => lexLt b a = false) → l₁ = l₂
  | [], l₂, hp, _, _ => hp.nil_eq
  | a :: l₁, [], hp, _, _ => by have := hp.length_eq; simp at this
  | a :: l₁, b :: l₂, hp, h1, h2 => by
    rw [List.pairwise_cons] at h1 h2
    have e : a = b := by
      have ha : a ∈ b :: l₂ := hp.subset (.head _)
      have hb : b ∈ a :: l₁ := hp.symm.subset (.head _)
      rcases List.mem_cons.mp ha with rfl | ha
      · rfl
      rcases List.mem_cons.mp hb with rfl | hb
      · rfl
      exact lex_antisymm _ _ (h2.1 _ ha) (h1.1 _ hb)
    subst e
    rw [sorted_unique (hp.cons_inv) h1.2 h2.2]

noncomputable def ends (g : Int → List Int) : Nat → Int → Bool
  | 0, _ => false
  | n + 1, p => (g p).all (ends g n)
noncomputable def wk (g : Int → List Int) : Nat → Int → List (List Int)
  | 0, _ => []
  | n + 1, p => [p] :: (g p).flatMap fun q => (wk g n q).map (p :: ·)
noncomputable def W (g : Int → List Int) (p : Int) : List (List Int) := wk g 5 p
noncomputable def lastI (way : List Int) : Int := way.getLastD 0
section
variable {g : Int → List Int}
theorem ends_mono : ∀ {n p}, ends g n p = true → ends g (n + 1) p = true
  | 0, _, h => by cases h
  | n + 1, p, h => by
    unfold ends at h ⊢
    rw [List.all_eq_true] at h ⊢
    exact fun q hq => ends_mono (h q hq)
theorem ends_step {n : Nat} {p : Int} (h : ends g n p = true) : ∀ q ∈ g p, ends g n q = true := by
  match n, h with
  | n + 1, h =>
    unfold ends at h
    rw [List.all_eq_true] at h
    exact fun q hq => ends_mono (h q hq)
theorem ends_lower {n : Nat} {p : Int} (h : ends g (n + 1) p = true) : ∀ q ∈ g p, ends g n q = true := by
  unfold ends at h
  exact List.all_eq_true.mp h
theorem ends_le {n m : Nat} {p : Int} (hnm : n ≤ m) (h : ends g n p = true) : ends g m p = true := by
  induction hnm with
  | refl => exact h
  | step _ ih => exact ends_mono ih
theorem wk_stable : ∀ {n p}, ends g n p = true → wk g (n + 1) p = wk g n p
  | 0, _, h => by cases h
  | n + 1, p, h => by
    have h' := ends_lower h
    show [p] :: _ = [p] :: _
    congr 1
    rw [List.flatMap_def, List.flatMap_def]
    congr 1
    exact List.map_congr_left fun q hq => by rw [wk_stable (h' q hq)]
theorem W_eq {p : Int} (h : ends g 5 p = true) : W g p = [p] :: (g p).flatMap fun q => (W g q).map (p :: ·) := by
  have h' := ends_lower h
  show [p] :: _ = [p] :: _
  congr 1
  rw [List.flatMap_def, List.flatMap_def]
  congr 1
  exact List.map_congr_left fun q hq => by rw [W, ← wk_stable (h' q hq)]
theorem wk_head : ∀ {n p}, ∀ way ∈ wk g n p, ∃ t, way = p :: t
  | 0, _, _, h => by cases h
  | n + 1, p, way, h => by
    unfold wk at h
    rcases List.mem_cons.mp h with rfl | h
    · exact ⟨[], rfl⟩
    · obtain ⟨q, hq, hw⟩ := List.mem_flatMap.mp h
      obtain ⟨t, _, rfl⟩ := List.mem_map.mp hw
      exact ⟨t, rfl⟩
theorem lex_cons {p : Int} {a b : List Int} : lexLt (p :: a) (p :: b) = lexLt a b := by simp [lexLt]
theorem wk_sorted (hg : ∀ p, (g p).Pairwise (· < ·)) : ∀ {n p}, (wk g n p).Pairwise (fun a b => lexLt a b = true)
  | 0, _ => .nil
  | n + 1, p => by
    unfold wk
    rw [List.pairwise_cons]
    constructor
    · intro way hw
      obtain ⟨q, hq, hw⟩ := List.mem_flatMap.mp hw
      obtain ⟨t, ht, rfl⟩ := List.mem_map.mp hw
      obtain ⟨u, rfl⟩ := wk_head t ht
      rw [lex_cons]; rfl
    · rw [List.flatMap_def, List.pairwise_flatten]
      constructor
      · intro l hl
        obtain ⟨q, hq, rfl⟩ := List.mem_map.mp hl
        rw [List.pairwise_map]
        exact (wk_sorted hg).imp fun h => by rw [lex_cons]; exact h
      · rw [List.pairwise_map]
        refine (hg p).imp fun {q r} hqr a ha b hb => ?_
        obtain ⟨t, ht, rfl⟩ := List.mem_map.mp ha
        obtain ⟨t', ht', rfl⟩ := List.mem_map.mp hb
        obtain ⟨u, rfl⟩ := wk_head t ht
        obtain ⟨u', rfl⟩ := wk_head t' ht'
        rw [lex_cons]
        have : ¬ q = r := Int.ne_of_lt hqr
        simp [lexLt, this, hqr]
theorem W_sorted (hg : ∀ p, (g p).Pairwise (· < ·)) {p : Int} : (W g p).Pairwise (fun a b => lexLt b a = false) := (wk_sorted hg).imp fun h => lex_asymm _ _ h
theorem flatMap_len {α β : Type} {l : List α} {f : α → List β} {k : Nat} (h : ∀ a ∈ l, (f a).length ≤ k) : (l.flatMap f).length ≤ l.length * k := by
  induction l with
  | nil => simp
  | cons a l ih =>
    have h1 := h a (.head _)
    have h2 := ih fun b hb => h b (.tail _ hb)
    simp only [List.flatMap_cons, List.length_append, List.length_cons, Nat.add_mul]
    omega
noncomputable def wkN : Nat → Nat
  | 0 => 0
  | n + 1 => 1 + 5 * wkN n
theorem wk_len (hg : ∀ p, (g p).length ≤ 5) : ∀ {n p}, (wk g n p).length ≤ wkN n
  | 0, _ => Nat.le_refl _
  | n + 1, p => by
    unfold wk
    have h1 := flatMap_len (l := g p) (f := fun q => (wk g n q).map (p :: ·)) (k := wkN n) fun q _ => by rw [List.length_map]; exact wk_len hg
    have h2 := Nat.mul_le_mul_right (wkN n) (hg p)
    simp only [List.length_cons, wkN]
    omega
theorem W_len (hg : ∀ p, (g p).length ≤ 5) {p : Int} : (W g p).length ≤ 781 := wk_len hg (n := 5)
theorem wk_in (hg : ∀ p, ∀ x ∈ g p, 0 ≤ x ∧ x < 5) : ∀ {n p}, (0 ≤ p ∧ p < 5) → ∀ way ∈ wk g n p, ∀ x ∈ way, 0 ≤ x ∧ x < 5
  | 0, _, _, _, h, _, _ => by cases h
  | n + 1, p, hp, way, h, x, hx => by
    unfold wk at h
    rcases List.mem_cons.mp h with rfl | h
    · rw [List.mem_singleton.mp hx]; exact hp
    · obtain ⟨q, hq, hw⟩ := List.mem_flatMap.mp h
      obtain ⟨t, ht, rfl⟩ := List.mem_map.mp hw
      rcases List.mem_cons.mp hx with rfl | hx
      · exact hp
      · exact wk_in hg (hg p q hq) t ht x hx
theorem lastI_cons {p : Int} {t : List Int} (h : t ≠ []) : lastI (p :: t) = lastI t := by
  cases t with
  | nil => exact absurd rfl h
  | cons a r => simp [lastI]
theorem lastI_app {a : List Int} {x : Int} : lastI (a ++ [x]) = x := by simp [lastI]
theorem wk_ne {n : Nat} {p : Int} {way : List Int} (h : way ∈ wk g n p) : way ≠ [] := by obtain ⟨t, rfl⟩ := wk_head way h; simp
noncomputable def ext (g : Int → List Int) (way : List Int) : List (List Int) := (W g (lastI way)).map (way.dropLast ++ ·)
theorem ext_eq {way : List Int} (hne : way ≠ []) (h : ends g 5 (lastI way) = true) : ext g way = way :: (g (lastI way)).flatMap fun r => ext g (way ++ [r]) := by
  have hw : way = way.dropLast ++ [lastI way] := by
    have h3 : lastI way = way.getLast hne := by rw [lastI, List.getLastD_eq_getLast?, List.getLast?_eq_some_getLast hne]; rfl
    rw [h3]; exact (List.dropLast_concat_getLast hne).symm
  unfold ext
  rw [W_eq h, List.map_cons, List.map_flatMap]
  congr 1
  · exact hw.symm
  · rw [List.flatMap_def, List.flatMap_def]
    congr 1
    refine List.map_congr_left fun q hq => ?_
    rw [lastI_app, List.map_map, List.dropLast_concat]
    refine List.map_congr_left fun t _ => ?_
    show way.dropLast ++ (lastI way :: t) = way ++ t
    conv => rhs; rw [hw]
    simp
theorem wk_wlen : ∀ {n p}, ∀ way ∈ wk g n p, way.length ≤ n
  | 0, _, _, h => by cases h
  | n + 1, p, way, h => by
    unfold wk at h
    rcases List.mem_cons.mp h with rfl | h
    · simp
    · obtain ⟨q, hq, hw⟩ := List.mem_flatMap.mp h
      obtain ⟨t, ht, rfl⟩ := List.mem_map.mp hw
      have := wk_wlen t ht
      simp only [List.length_cons]; omega
theorem W_nodup (hg : ∀ p, (g p).Pairwise (· < ·)) {p : Int} : (W g p).Nodup := (wk_sorted hg).imp fun {a b} h => by rintro rfl; rw [lex_irrefl] at h; cases h
theorem ext_one {p : Int} : ext g [p] = W g p := by
  simp [ext, lastI]
end

noncomputable def Ways (K : Addr → List Int) (ws : List Addr) : Mu := ws.map fun p => (p, MO.list (mints (K p)))
theorem ways_mem {K : Addr → List Int} {ws : List Addr} {p : Addr} (h : p ∈ ws) : (p, MO.list (mints (K p))) ∈ Ways K ws := List.mem_map.mpr ⟨p, h, rfl⟩
theorem ways_keys {K : Addr → List Int} {ws : List Addr} : (Ways K ws).map (·.1) = ws := by simp [Ways, List.map_map, Function.comp_def]
noncomputable def AheadsAt (g : Int → List Int) (aa : Addr) (as : Int → Addr) (μ : Mu) : Prop := (aa, MO.list (refs [as 0, as 1, as 2, as 3, as 4])) ∈ μ ∧ ∀ i : Int, 0 ≤ i → i < 5 → (as i, MO.list (mints (g i))) ∈ μ
theorem five {P : Int → Prop} (h0 : P 0) (h1 : P 1) (h2 : P 2) (h3 : P 3) (h4 : P 4) : ∀ i : Int, 0 ≤ i → i < 5 → P i := fun i a b => by
  have : i = 0 ∨ i = 1 ∨ i = 2 ∨ i = 3 ∨ i = 4 := by omega
  rcases this with rfl | rfl | rfl | rfl | rfl <;> assumption
theorem five_get {as : Int → Addr} : ∀ i : Int, 0 ≤ i → i < 5 → (refs [as 0, as 1, as 2, as 3, as 4])[i.toNat]? = some (.ref (as i)) := five rfl rfl rfl rfl rfl
section
variable {w : World} {G : Gl w} {A : Around} {L : Addr} {env : Env} {ρ ρ' : Rho} {μ μ' : Mu}
theorem lastI_get {way : List Int} (h : way ≠ []) : (mints way)[(mints way).length - 1]? = some (.int (lastI way)) := by
  rw [mints_len]
  refine mints_get ?_
  rw [← List.getLast?_eq_getElem?, lastI, List.getLastD_eq_getLast?, List.getLast?_eq_some_getLast h]; rfl
noncomputable def ltK (K : Addr → List Int) : Addr → Addr → Bool := fun p q => lexLt (K p) (K q)
theorem lt_asymm {K : Addr → List Int} : ∀ a b, ltK K a b = true → ltK K b a = false := fun a b => lex_asymm _ _
theorem lt_le_trans {K : Addr → List Int} : ∀ a b c, ltK K b a = false → ltK K c b = false → ltK K c a = false := fun a b c => lex_le_trans _ _ _
theorem map_agree {K K' : Addr → List Int} {l : List Addr} (h : ∀ p ∈ l, K' p = K p) : l.map K' = l.map K := List.map_congr_left h
theorem HP_agree {K K' : Addr → List Int} {l : List Addr} (h : ∀ p ∈ l, K' p = K p) (hp : HP (ltK K) l) : HP (ltK K') l := fun i h0 hi => by
  have h1 := hp i h0 hi
  unfold ltK at *
  rw [h _ (getD_mem hi), h _ (getD_mem (by omega))]; exact h1
inductive WaysJ (g : Int → List Int) (p : Int) (aa hp' gg : Addr) (μ : Mu) (m : Nat) (ρ : Rho) (μ₁ : Mu) : Prop
  | mk (hs gs ws : List Addr) (K : Addr → List Int) (v1 v2 : MV) (e1 : ρ = [(Str.ofString "aheads", .ref aa), (Str.ofString "place", .int p), (Str.ofString "heap", .ref hp'), (Str.ofString "going", .ref gg), (Str.ofString "way", v1), (Str.ofString "one", v2), (Str.ofString "ways", .undef)])
      (e2 : μ₁ = (hp', .list (refs hs)) :: (gg, .list (refs gs)) :: (Ways K ws ++ μ)) (hhs : ∀ x ∈ hs, x ∈ ws) (hgs : ∀ x ∈ gs, x ∈ ws) (hHP : HP (ltK K) hs) (hperm : (hs.map K ++ gs.flatMap fun x => ext g (K x)).Perm (W g p))
      (hgo : ∀ x ∈ gs, K x ≠ [] ∧ ends g 5 (lastI (K x)) = true ∧ 0 ≤ lastI (K x) ∧ lastI (K x) < 5) (hm : m = (gs.flatMap fun x => ext g (K x)).length)
inductive WaysK (g : Int → List Int) (p : Int) (aa hp' gg wa : Addr) (v1 v2 : MV) (K : Addr → List Int) (ws : List Addr) (μ : Mu) (m : Nat) (ρ : Rho) (μ₁ : Mu) : Prop
  | mk (out hs : List Addr) (e1 : ρ = [(Str.ofString "aheads", .ref aa), (Str.ofString "place", .int p), (Str.ofString "heap", .ref hp'), (Str.ofString "going", .ref gg), (Str.ofString "way", v1), (Str.ofString "one", v2), (Str.ofString "ways", .ref wa)])
      (e2 : μ₁ = (hp', .list (refs hs)) :: (wa, .list (refs out)) :: (Ways K ws ++ μ)) (hout : ∀ x ∈ out, x ∈ ws) (hhs : ∀ x ∈ hs, x ∈ ws) (hHP : HP (ltK K) hs) (hperm : (out.map K ++ hs.map K).Perm (W g p)) (hsort : (out.map K).Pairwise (fun a b => lexLt b a = false)) (hle : ∀ a ∈ out, ∀ b ∈ hs, lexLt (K b) (K a) = false) (hm : m = hs.length)
inductive WaysI (g : Int → List Int) (p q : Int) (aa hp' gg c0 x : Addr) (hs1 gs' ws : List Addr) (K : Addr → List Int) (μ : Mu) (i : Nat) (ρ₁ : Rho) (μ₁ : Mu) : Prop
  | mk (news ws' : List Addr) (K' : Addr → List Int) (v : MV) (e1 : ρ₁ = [(Str.ofString "aheads", .ref aa), (Str.ofString "place", .int p), (Str.ofString "heap", .ref hp'), (Str.ofString "going", .ref gg), (Str.ofString "way", .ref x), (Str.ofString "one", v), (Str.ofString "ways", .undef)])
      (e2 : μ₁ = (c0, .list []) :: (hp', .list (refs hs1)) :: (gg, .list (refs (gs' ++ news))) :: (Ways K' ws' ++ μ)) (hK : ∀ y ∈ ws, y ∈ ws' ∧ K' y = K y) (hnw : ∀ y ∈ news, y ∈ ws') (hnews : news.map K' = ((g q).take i).map fun r => K x ++ [r])
set_option maxRecDepth 100000 in
theorem c_ways {P : MV → Mu → Prop} (hroom : A.depth + 4 < recursionLimit) (hu : A.units + 50 < cLine) (hh : A.handled = none) {g : Int → List Int} (hg : ∀ p, Ahead (g p)) {aa : Addr} {as : Int → Addr} (ha : AheadsAt g aa as μ)
    {p : Int} (hp : 0 ≤ p ∧ p < 5) (he : ends g 5 p = true) (h : ∀ r ws K, ws.map K = W g p → P (.ref r) ((r, .list (refs ws)) :: (Ways K ws ++ μ))) : CC G A (.ref 275) [.ref aa, .int p] P μ := by
  refine c_fn [Str.ofString "aheads", Str.ofString "place"] [(Str.ofString "heap", .undef), (Str.ofString "going", .undef), (Str.ofString "way", .undef), (Str.ofString "one", .undef), (Str.ofString "ways", .undef)] rfl (by omega) rfl rfl rfl rfl rfl rfl rfl rfl rfl rfl (by decide) rfl rfl rfl (fun vs hv => va2 hv fun _ _ _ _ => rfl) ?_
  intro L' qn cd
  show X G _ _ (execs _ _) _ [(Str.ofString "aheads", .ref aa), (Str.ofString "place", .int p), (Str.ofString "heap", .undef), (Str.ofString "going", .undef), (Str.ofString "way", .undef), (Str.ofString "one", .undef), (Str.ofString "ways", .undef)] μ
  have hgl : ∀ p, (g p).length ≤ 5 := fun p => (hg p).len
  have hWl := W_len hgl (p := p)
  refine s_assign ?_; refine e_list ?_; refine a_nil ?_
  refine ⟨by decide, fun hp' => ?_⟩
  refine stp (by walk_at "pt") ?_; refine s_assign ?_; refine e_list ?_; refine a_cons ?_; refine e_list ?_; refine a_cons ?_; refine e_name (by walk_at "mem") ?_; refine a_nil ?_
  refine ⟨by show 1 ≤ 1000000; decide, fun c => ?_⟩
  refine a_nil ?_
  refine ⟨by show 1 ≤ 1000000; decide, fun gg => ?_⟩
  refine stp (by walk_at "pt") ?_
  refine Tg.sel ((hp', .list []) :: (gg, .list [.ref c]) :: (c, .list [.int p]) :: μ) (by walk_at "sel") ?_
  refine s_while (WaysJ g p aa hp' gg μ) _
    ⟨[], [c], [c], fun _ => [p], .undef, .undef, rfl, rfl, nofun, fun x hx => hx, fun i _ hi => by simp at hi, ?_, ?_, rfl⟩ ?_
  · simp [ext_one]
  · intro x hx; exact ⟨by simp, he, hp⟩
  rintro m _ _ ⟨hs, gs, ws, K, v1, v2, rfl, rfl, hhs, hgs, hHP, hperm, hgo, rfl⟩
  have hlen := hperm.length_eq
  rw [List.length_append, List.length_map] at hlen
  refine Tg.nodup fun hn => ?_
  simp only [List.map_cons, List.map_append, ways_keys, List.nodup_cons, List.mem_cons, List.mem_append, not_or, List.nodup_append] at hn
  refine b_cmp ?_; refine e_name (by walk_at "mem") ?_; refine e_list ?_; refine a_nil ?_
  refine ⟨by decide, fun c0 => ?_⟩
  have hgsl : gs.length ≤ 781 := by
    have : gs.length ≤ (gs.flatMap fun x => ext g (K x)).length := by
      clear hperm hlen hn
      induction gs with
      | nil => simp
      | cons x r ih =>
        have h1 := hgo x (.head _)
        have h2 := ih (fun y hy => hgs y (.tail _ hy)) fun y hy => hgo y (.tail _ hy)
        rw [List.flatMap_cons, List.length_append, ext_eq h1.1 h1.2.1]
        simp only [List.length_cons]; omega
    omega
  refine o_ne_nil (.tail _ (.tail _ (.head _))) (.head _) (by show A.units + 3 < _; omega) ?_
  refine asb ?_
  rcases List.eq_nil_or_concat gs with rfl | ⟨gs', x, rfl⟩
  · -- nothing left to go on with
    rw [show (!(refs ([] : List Addr)).isEmpty) = false from rfl]
    simp only [Bool.false_eq_true, if_false]
    rw [List.flatMap_nil, List.append_nil] at hperm
    refine s_nil ?_; refine seq_next ?_; refine s_assign ?_; refine e_list ?_; refine a_nil ?_
    refine ⟨by decide, fun wa => ?_⟩
    refine stp (by walk_at "pt") ?_
    refine Tg.sel ((hp', .list (refs hs)) :: (wa, .list (refs [])) :: (Ways K ws ++ μ)) (by show Sel ((hp', .list (refs hs)) :: (wa, .list []) :: (Ways K ws ++ μ)) _; walk_at "sel") ?_
    refine s_while (WaysK g p aa hp' gg wa v1 v2 K ws μ) _
      ⟨[], hs, rfl, rfl, nofun, hhs, hHP, hperm, .nil, nofun, rfl⟩ ?_
    clear hperm hlen hHP hhs
    rintro m _ _ ⟨out, hs, rfl, rfl, hout, hhs, hHP, hperm, hsort, hle, rfl⟩
    have hlen := hperm.length_eq
    rw [List.length_append, List.length_map, List.length_map] at hlen
    refine Tg.nodup fun hn => ?_
    simp only [List.map_cons, List.map_append, ways_keys, List.nodup_cons, List.mem_cons, List.mem_append, not_or, List.nodup_append] at hn
    refine b_cmp ?_; refine e_name (by walk_at "mem") ?_; refine e_list ?_; refine a_nil ?_
    refine ⟨by decide, fun c1 => ?_⟩
    refine o_ne_nil (.tail _ (.head _)) (.head _) (by show A.units + 3 < _; omega) ?_
    refine asb ?_
    by_cases hne : hs = []
    · subst hne
      rw [show (!(refs ([] : List Addr)).isEmpty) = false from rfl]
      simp only [Bool.false_eq_true, if_false]
      repeat (first | (with_reducible show seqP _ _ _ _ _ _ _ _ _; refine seq_next ?_) | (with_reducible show Tg _ _ _ _ (execs [] _) _ _ _; refine s_nil ?_))
      rw [List.map_nil, List.append_nil] at hperm
      have hW : out.map K = W g p := sorted_unique hperm hsort (W_sorted fun p => (hg p).1)
      have hond : out.Nodup := by
        have : (out.map K).Nodup := by rw [hW]; exact W_nodup fun p => (hg p).1
        exact List.Pairwise.imp (fun {a b} (h : K a ≠ K b) => by rintro rfl; exact h rfl) (List.pairwise_map.mp this)
      refine Tg.re ((wa, .list (refs out)) :: (Ways K out ++ μ)) ?_ ?_ ?_
      · intro z hz
        rcases List.mem_cons.mp hz with rfl | hz
        · exact .tail _ (.tail _ (.head _))
        refine .tail _ (.tail _ (.tail _ ?_))
        rcases List.mem_append.mp hz with hz | hz
        · obtain ⟨y, hy, rfl⟩ := List.mem_map.mp hz
          exact List.mem_append_left _ (ways_mem (hout y hy))
        · exact List.mem_append_right _ hz
      · intro _
        simp only [List.map_cons, List.map_append, ways_keys, List.nodup_cons, List.mem_cons, List.mem_append, not_or, List.nodup_append]
        refine ⟨⟨fun hm => hn.2.1.1 (hout _ hm), hn.2.1.2⟩, hond, hn.2.2.2.1, fun a ha' b hb => hn.2.2.2.2 a (hout a ha') b hb⟩
      · refine s_ret ?_; refine e_name (by walk_at "mem") ?_
        exact h wa out K hW
    · obtain ⟨s1, s2, s3⟩ := pop_spec (lt := ltK K) (fun a => lex_irrefl _) lt_asymm lt_le_trans hne hHP
      rw [show (!(refs hs).isEmpty) = true by cases hs with | nil => exact absurd rfl hne | cons _ _ => rfl]
      simp only [if_true]
      refine s_expr ?_; refine e_meth F.plainAttrs_list F.slot_list_append F.type_list_append ?_; refine e_name (by walk_at "mem") ?_
      refine ⟨isT_list (.tail _ (.tail _ (.head _))), ?_⟩
      refine a_cons ?_; refine e_callfn rfl rfl ?_; refine a_cons ?_; refine e_name (by walk_at "mem") ?_; refine a_nil ?_
      refine c_heappop (hs := hs) (key := K) (by show A.depth + 1 + 2 < _; omega) (by show A.units + 3 + 30 < _; omega) (.tail _ (.head _)) (fun q hq => ⟨fun e => hn.1.2.1 (e ▸ hhs q hq), .tail _ (.tail _ (.tail _ (List.mem_append_left _ (ways_mem (hhs q hq)))))⟩) hne (by show _ ≤ 1000000; omega) (.tail .head) ?_
      change HP (ltK K) (popF (fun p q => lexLt (K p) (K q)) hs).2 at s1
      change ((popF (fun p q => lexLt (K p) (K q)) hs).1 :: (popF (fun p q => lexLt (K p) (K q)) hs).2).Perm hs at s2
      change ∀ z ∈ (popF (fun p q => lexLt (K p) (K q)) hs).2, lexLt (K z) (K (popF (fun p q => lexLt (K p) (K q)) hs).1) = false at s3
      generalize popF (fun p q => lexLt (K p) (K q)) hs = yr at *
      obtain ⟨y, r⟩ := yr
      dsimp only at *
      have hys : y ∈ hs := s2.subset (.head _)
      have hrs : ∀ z ∈ r, z ∈ hs := fun z hz => s2.subset (.tail _ hz)
      have hrl := s2.length_eq
      simp only [List.length_cons] at hrl
      refine a_nil ?_
      refine c_append (.tail _ (.tail _ (.head _))) (by rw [refs_len]; show _ ≤ 1000000; omega) (.tail (.tail .head)) ?_
      refine s_nil (turn_next ⟨_, List.sublist_cons_self _ _, r.length, by omega, out ++ [y], r, rfl, by simp [refs], ?_, fun z hz => hhs z (hrs z hz), s1, ?_, ?_, ?_, rfl⟩)
      · intro z hz
        rcases List.mem_append.mp hz with hz | hz
        · exact hout z hz
        · rw [List.mem_singleton.mp hz]; exact hhs y hys
      · refine List.Perm.trans ?_ hperm
        rw [List.map_append, List.append_assoc]
        exact ((s2.map K)).append_left _
      · rw [List.map_append, List.pairwise_append]
        refine ⟨hsort, List.pairwise_singleton _ _, fun a ha' b hb => ?_⟩
        obtain ⟨a', ha'', rfl⟩ := List.mem_map.mp ha'
        rw [List.map_cons, List.map_nil, List.mem_singleton] at hb
        subst hb
        exact hle a' ha'' y hys
      · intro a ha' b hb
        rcases List.mem_append.mp ha' with ha' | ha'
        · exact hle a ha' b (hrs b hb)
        · rw [List.mem_singleton.mp ha']; exact s3 b hb
  · rw [List.concat_eq_append] at *
    have hx := hgo x (by simp)
    have hxw : x ∈ ws := hgs x (by simp)
    rw [show (!(refs (gs' ++ [x])).isEmpty) = true by simp [refs]]
    simp only [if_true]
    refine s_assign ?_; refine e_meth F.plainAttrs_list F.slot_list_pop F.type_list_pop ?_; refine e_name (by walk_at "mem") ?_
    refine ⟨isT_list (.tail _ (.tail _ (.head _))), ?_⟩
    refine a_nil ?_
    refine c_pop (.tail _ (.tail _ (.head _))) (by rw [refs_len]; show _ ≤ 1000000; omega) (x := .ref x) (by simp [refs]) (.tail (.tail .head)) ?_
    rw [show (refs (gs' ++ [x])).dropLast = refs gs' by simp [refs, List.map_append]]
    refine stp (by walk_at "pt") ?_; refine s_expr ?_; refine e_callfn rfl rfl ?_; refine a_cons ?_; refine e_name (by walk_at "mem") ?_; refine a_cons ?_; refine e_name (by walk_at "mem") ?_; refine a_nil ?_
    have hk : ∀ q ∈ ws, q ≠ hp' ∧ (q, MO.list (mints (K q))) ∈ (c0, MO.list []) :: (hp', .list (refs hs)) :: (gg, .list (refs gs')) :: (Ways K ws ++ μ) := fun q hq => ⟨fun e => hn.1.2.1 (e ▸ hq), .tail _ (.tail _ (.tail _ (List.mem_append_left _ (ways_mem hq))))⟩
    refine c_heappush (hs := hs) (key := K) (by show A.depth + 1 + 1 < _; omega) (by show A.units + 3 + 20 < _; omega) (.tail _ (.head _)) (fun q hq => hk q (hhs q hq)) (hk x hxw) (by show _ < 1000000; omega) (.tail .head) ?_
    obtain ⟨hHP', hperm'⟩ := push_spec (lt := ltK K) lt_asymm lt_le_trans (x := x) hHP
    change HP (ltK K) (sdF (fun p q => lexLt (K p) (K q)) x (hs ++ [x]) hs.length) at hHP'
    change (sdF (fun p q => lexLt (K p) (K q)) x (hs ++ [x]) hs.length).Perm (x :: hs) at hperm'
    generalize sdF (fun p q => lexLt (K p) (K q)) x (hs ++ [x]) hs.length = hs1 at *
    refine s_for ?_
    refine e_sub ?_; refine e_name (by walk_at "mem") ?_; refine e_sub ?_; refine e_name (by walk_at "mem") ?_; refine e_unop ?_; refine e_int ?_; refine o_neg ?_
    refine g_last (.tail _ (.tail _ (.tail _ (List.mem_append_left _ (ways_mem hxw))))) (lastI_get hx.1) ?_
    obtain ⟨hx0, hxe, hq⟩ := hx
    generalize hqq : lastI (K x) = q at *
    refine g_list (.tail _ (.tail _ (.tail _ (List.mem_append_right _ ha.1)))) hq.1 (five_get q hq.1 hq.2) ?_
    have hgq := hgl q
    have hKx : (K x).length ≤ 5 := by
      refine wk_wlen (g := g) (n := 5) (p := p) (K x) (hperm.subset ?_)
      simp only [List.flatMap_append, List.mem_append]
      refine .inr (.inr ?_)
      rw [List.flatMap_cons, List.flatMap_nil, List.append_nil, ext_eq hx0 (by rw [hqq]; exact hxe)]
      exact .head _
    refine ⟨(mints (g q)).length, listV (mints (g q)), fun μ => (as q, MO.list (mints (g q))) ∈ μ, WaysI g p q aa hp' gg c0 x hs1 gs' ws K μ, ?_, ?_, ?_, ?_, ?_⟩
    · exact itOf_list hh (.tail _ (.tail _ (.tail _ (List.mem_append_right _ (ha.2 q hq.1 hq.2)))))
    · rintro i _ _ ⟨news, ws', K', v, rfl, rfl, _⟩
      exact .tail _ (.tail _ (.tail _ (List.mem_append_right _ (ha.2 q hq.1 hq.2))))
    · exact ⟨[], ws, K, v2, rfl, by simp, fun y hy => ⟨hy, rfl⟩, nofun, rfl⟩
    · rintro i _ _ hi ⟨news, ws', K', v, rfl, rfl, hK, hnw, hnews⟩
      rw [mints_len] at hi
      have hnl := congrArg List.length hnews
      simp only [List.length_map, List.length_take] at hnl
      have hv : listV (mints (g q)) i = .int ((g q).getD i 0) := by
        have h1 := listV_get (xs := mints (g q)) (i := i) (by rw [mints_len]; exact hi)
        rw [mints_get (k := (g q).getD i 0) (by simp [List.getD, List.getElem?_eq_getElem hi])] at h1
        exact (Option.some.inj h1).symm
      rw [hv]
      refine stp (by walk_at "pt") ?_
      have hxm : (x, MO.list (mints (K x))) ∈ Ways K' ws' := by rw [← (hK x hxw).2]; exact ways_mem (hK x hxw).1
      refine s_expr ?_; refine e_meth F.plainAttrs_list F.slot_list_append F.type_list_append ?_; refine e_name (by walk_at "mem") ?_
      refine ⟨isT_list (.tail _ (.tail _ (.head _))), ?_⟩
      refine a_cons ?_; refine e_binop ?_; refine e_name (by walk_at "mem") ?_; refine e_list ?_; refine a_cons ?_; refine e_name (by walk_at "mem") ?_; refine a_nil ?_
      refine ⟨by show 1 ≤ 1000000; decide, fun t1 => ?_⟩
      refine o_addlist (.tail _ (.tail _ (.tail _ (.tail _ (List.mem_append_left _ hxm))))) (.head _) (by rw [mints_len]; show _ ≤ 1000000; omega) (by show 1 ≤ 1000000; decide) fun c => ?_
      refine a_nil ?_
      refine c_append (.tail _ (.tail _ (.tail _ (.tail _ (.head _))))) (by rw [refs_len]; show _ ≤ 1000000; simp at hgsl ⊢; omega) (.tail (.tail (.tail (.tail .head)))) ?_
      refine Tg.nodup fun hn' => ?_
      simp only [List.map_cons, List.map_append, ways_keys, List.nodup_cons, List.mem_cons, List.mem_append, not_or, List.nodup_append] at hn'
      have hcw : c ∉ ws' := hn'.1.2.2.2.2.1
      have hag : ∀ y ∈ ws', (fun y => if y = c then K x ++ [(g q).getD i 0] else K' y) y = K' y := fun y hy => by
        have : y ≠ c := fun e => hcw (e ▸ hy)
        simp [this]
      refine Tg.sel ((c0, .list []) :: (hp', .list (refs hs1)) :: (gg, .list (refs (gs' ++ (news ++ [c])))) :: (Ways (fun y => if y = c then K x ++ [(g q).getD i 0] else K' y) (c :: ws') ++ μ)) ?_ (s_nil (turn_next ⟨_, List.Sublist.refl _, news ++ [c], c :: ws', fun y => if y = c then K x ++ [(g q).getD i 0] else K' y, _, rfl, rfl, ?_, ?_, ?_⟩))
      · have e1 : Ways (fun y => if y = c then K x ++ [(g q).getD i 0] else K' y) (c :: ws') = (c, .list (mints (K x) ++ [.int ((g q).getD i 0)])) :: Ways K' ws' := by
          show (c, _) :: Ways _ ws' = _
          congr 1
          · simp [mints]
          · exact List.map_congr_left fun y hy => by rw [hag y hy]
        rw [e1, show refs (gs' ++ (news ++ [c])) = refs (gs' ++ news) ++ [.ref c] by simp [refs]]
        rw [List.cons_append]; walk_at "sel"
      · exact fun y hy => ⟨.tail _ (hK y hy).1, (hag y (hK y hy).1).trans (hK y hy).2⟩
      · intro y hy
        rcases List.mem_append.mp hy with hy | hy
        · exact .tail _ (hnw y hy)
        · rw [List.mem_singleton.mp hy]; exact .head _
      · rw [List.map_append, map_agree fun y hy => hag y (hnw y hy), hnews, List.take_succ_eq_append_getElem hi, List.map_append]
        simp [List.getD, List.getElem?_eq_getElem hi]
    · rintro _ _ ⟨news, ws', K', v, rfl, rfl, hK, hnw, hnews⟩
      rw [mints_len, List.take_length] at hnews
      have hs1w : ∀ y ∈ hs1, y ∈ ws := fun y hy => by
        rcases List.mem_cons.mp (hperm'.subset hy) with rfl | hy
        · exact hxw
        · exact hhs y hy
      have hgs'w : ∀ y ∈ gs', y ∈ ws := fun y hy => hgs y (List.mem_append_left _ hy)
      have eZ : (news.flatMap fun y => ext g (K' y)) = (g q).flatMap fun r => ext g (K x ++ [r]) := by
        have : (news.flatMap fun y => ext g (K' y)) = (news.map K').flatMap (ext g) := by rw [List.flatMap_map]
        rw [this, hnews, List.flatMap_map]
      have eG : (gs'.flatMap fun y => ext g (K' y)) = gs'.flatMap fun y => ext g (K y) := by
        rw [List.flatMap_def, List.flatMap_def, List.map_congr_left fun y hy => by rw [(hK y (hgs'w y hy)).2]]
      have eX : ext g (K x) = K x :: (g q).flatMap fun r => ext g (K x ++ [r]) := by rw [ext_eq hx0 (by rw [hqq]; exact hxe), hqq]
      refine s_nil (turn_next ⟨_, List.sublist_cons_self _ _, _, ?_, hs1, gs' ++ news, ws', K', .ref x, v, rfl, rfl, fun y hy => (hK y (hs1w y hy)).1, ?_, HP_agree (fun y hy => (hK y (hs1w y hy)).2) hHP', ?_, ?_, rfl⟩)
      · rw [List.flatMap_append, List.flatMap_append, eZ, eG, List.flatMap_cons, List.flatMap_nil, List.append_nil, eX]
        simp only [List.length_append, List.length_cons]; omega
      · intro y hy
        rcases List.mem_append.mp hy with hy | hy
        · exact (hK y (hgs'w y hy)).1
        · exact hnw y hy
      · refine List.Perm.trans ?_ hperm
        rw [map_agree fun y hy => (hK y (hs1w y hy)).2, List.flatMap_append, List.flatMap_append, eZ, eG, List.flatMap_cons, List.flatMap_nil, List.append_nil, eX]
        refine ((hperm'.map K).append_right _).trans ?_
        rw [List.map_cons, List.cons_append, ← List.append_assoc, ← List.append_assoc]
        exact (List.perm_middle).symm
      · intro y hy
        rcases List.mem_append.mp hy with hy | hy
        · rw [(hK y (hgs'w y hy)).2]; exact hgo y (List.mem_append_left _ hy)
        · have : K' y ∈ (g q).map fun r => K x ++ [r] := by rw [← hnews]; exact List.mem_map_of_mem hy
          obtain ⟨r, hr, e⟩ := List.mem_map.mp this
          rw [← e, lastI_app]
          exact ⟨by simp, ends_step hxe r hr, (hg q).2 r hr⟩
end

theorem filter_snoc_pos {α : Type} {f : α → Bool} {l : List α} {x : α} (h : f x = true) : (l ++ [x]).filter f = l.filter f ++ [x] := by simp [List.filter_append, h]
theorem filter_snoc_neg {α : Type} {f : α → Bool} {l : List α} {x : α} (h : ¬ f x = true) : (l ++ [x]).filter f = l.filter f := by simp [List.filter_append, h]
noncomputable def five5 : List Int := [0, 1, 2, 3, 4]
noncomputable def stepS (g : Int → List Int) (S : List Int) : List Int := five5.filter fun o => S.any fun t => (g t).contains o
noncomputable def stepN (g : Int → List Int) : Nat → List Int → List Int
  | 0, S => S
  | n + 1, S => stepS g (stepN g n S)
theorem stepS_all {g : Int → List Int} (hg : ∀ p, Ahead (g p)) {S : List Int} {m : Nat} : (stepS g S).all (ends g m) = S.all (ends g (m + 1)) := by
  rw [Bool.eq_iff_iff, List.all_eq_true, List.all_eq_true]
  constructor
  · intro h t ht
    show (g t).all _ = true
    rw [List.all_eq_true]
    intro o ho
    refine h o ?_
    unfold stepS
    rw [List.mem_filter]
    refine ⟨?_, List.any_eq_true.mpr ⟨t, ht, by simpa using ho⟩⟩
    have := (hg t).2 o ho
    have : o = 0 ∨ o = 1 ∨ o = 2 ∨ o = 3 ∨ o = 4 := by omega
    simpa [five5] using this
  · intro h o ho
    unfold stepS at ho
    rw [List.mem_filter] at ho
    obtain ⟨t, ht, ho'⟩ := List.any_eq_true.mp ho.2
    have := h t ht
    unfold ends at this
    exact List.all_eq_true.mp this o (by simpa using ho')
theorem stepN_all {g : Int → List Int} (hg : ∀ p, Ahead (g p)) {S : List Int} : ∀ {n m : Nat}, (stepN g n S).all (ends g m) = S.all (ends g (n + m))
  | 0, m => by simp [stepN]
  | n + 1, m => by
    show (stepS g (stepN g n S)).all _ = _
    rw [stepS_all hg, stepN_all hg, show n + (m + 1) = n + 1 + m by omega]
theorem stepN_ends {g : Int → List Int} (hg : ∀ p, Ahead (g p)) {p : Int} : (stepN g 5 [p]).isEmpty = ends g 5 p := by
  have h := stepN_all hg (S := [p]) (n := 5) (m := 0)
  simp only [List.all_cons, List.all_nil, Bool.and_true] at h
  rw [show ends g (5 + 0) p = ends g 5 p from rfl] at h
  rw [← h]
  cases stepN g 5 [p] with
  | nil => rfl
  | cons a r => simp [ends]
theorem stepN_in {g : Int → List Int} {p : Int} (hp : 0 ≤ p ∧ p < 5) : ∀ {n : Nat}, (∀ x ∈ stepN g n [p], 0 ≤ x ∧ x < 5) ∧ (stepN g n [p]).length ≤ 5
  | 0 => ⟨fun x hx => by rw [List.mem_singleton.mp hx]; exact hp, by show 1 ≤ 5; decide⟩
  | n + 1 => by
    constructor
    · intro x hx
      have := (List.mem_filter.mp (show x ∈ stepS g (stepN g n [p]) from hx)).1
      simp [five5] at this; omega
    · exact List.length_filter_le _ _
section
variable {w : World} {G : Gl w} {A : Around} {L : Addr} {env : Env} {ρ ρ' : Rho} {μ μ' : Mu}
inductive EndsJ (g : Int → List Int) (p : Int) (L' aa r : Addr) (t u v : Tok) (μ : Mu) (i : Nat) (ρ₁ : Rho) (μ₁ : Mu) : Prop
  | mk (sa : Addr) (k : MV) (z1 : ρ₁ = [(Str.ofString "place", .int p), (Str.ofString "turn", k)]) (z2 : μ₁ = (r, .raw (rangeObj 5 t u v)) :: (sa, .list (mints (stepN g i [p]))) :: (L' + 2, .cell (.ref sa)) :: (L' + 1, .cell (.ref aa)) :: μ)
set_option maxRecDepth 100000 in
theorem c_ends {P : MV → Mu → Prop} (hroom : A.depth < recursionLimit) (hu : A.units + 10 < cLine) (hh : A.handled = none) {g : Int → List Int} (hg : ∀ p, Ahead (g p)) {aa : Addr} {as : Int → Addr} (ha : AheadsAt g aa as μ)
    {p : Int} (hp : 0 ≤ p ∧ p < 5) (h : P (.bool (ends g 5 p)) μ) : CC G A (.ref 268) [.ref aa, .int p] P μ := by
  refine CC.sub ?_
  refine c_fnc [Str.ofString "aheads", Str.ofString "place"] [(Str.ofString "place", .int p), (Str.ofString "turn", .undef)] (fun L => [(Str.ofString "some", L + 2), (Str.ofString "aheads", L + 1)]) (fun x => if x = Str.ofString "aheads" then .ref aa else .undef) rfl hroom rfl rfl rfl rfl rfl rfl rfl rfl rfl (fun L => rfl) (fun L => by simp only [List.map_cons, List.map_nil]; decide) (by decide) (by simp only [List.map_cons, List.map_nil]; decide) rfl ?_ ?_ (fun vs hv => va2 hv fun _ _ _ _ => rfl) ?_
  · intro q hq
    simp only [List.mem_cons, List.not_mem_nil, or_false] at hq
    rcases hq with rfl | rfl
    · exact .inr ⟨.tail _ (.head _), rfl⟩
    · exact .inl rfl
  · intro L q hq
    simp only [List.mem_cons, List.not_mem_nil, or_false] at hq
    rcases hq with rfl | rfl
    · exact .inl (by show (if Str.ofString "some" = Str.ofString "aheads" then _ else _) = _; rw [if_neg (by decide)])
    · exact .inr ⟨by rw [if_pos rfl]; exact .head _, rfl⟩
  intro L' qn cd
  show X G _ _ (execs _ _) _ [(Str.ofString "place", .int p), (Str.ofString "turn", .undef)] ((L' + 2, .cell .undef) :: (L' + 1, .cell (.ref aa)) :: μ)
  refine s_assignc rfl ?_
  refine e_list ?_; refine a_cons ?_; refine e_name (by walk_at "mem") ?_; refine a_nil ?_
  refine ⟨by show 1 ≤ 1000000; decide, fun sa => ?_⟩
  refine ⟨_, _, .tail _ (.head _), .tail .head, ?_⟩
  refine s_for ?_
  refine e_callt rfl rfl (by decide) ?_; refine a_cons ?_; refine e_int ?_; refine a_nil ?_
  refine c_range fun r t u v => ?_
  refine ⟨5, fun i => .int i, fun _ => True, EndsJ g p L' aa r t u v μ,
    itOf_range hh (by omega) (.head _), fun _ _ _ _ => trivial, ⟨sa, .undef, rfl, rfl⟩, ?_, ?_⟩
  · rintro i _ _ hi ⟨sa, k, rfl, rfl⟩
    refine stp (by walk_at "pt") ?_
    refine s_assignc rfl ?_
    obtain ⟨hSi, hSl⟩ := stepN_in (g := g) hp (n := i)
    show T G _ L' _ _ _ _
    generalize hS : stepN g i [p] = S at *
    refine e_compc rfl (fun _ => rfl) (fun _ => rfl) rfl rfl rfl ?_
    refine e_callt rfl rfl (by decide) ?_; refine a_cons ?_; refine e_int ?_; refine a_nil ?_
    refine c_range fun r2 t2 u2 v2 => ?_
    refine ⟨5, fun i => .int i, fun _ => True, fun j acc μ₁ => acc = mints ((five5.take j).filter fun o => S.any fun t => (g t).contains o) ∧ μ₁ = (r2, .raw (rangeObj 5 t2 u2 v2)) :: (r, .raw (rangeObj 5 t u v)) :: (sa, .list (mints S)) :: (L' + 2, .cell (.ref sa)) :: (L' + 1, .cell (.ref aa)) :: μ,
      itOf_range hh (by omega) (.head _), by show 5 ≤ 1000000; decide, ⟨rfl, rfl⟩, fun _ _ _ _ _ => trivial, ?_, ?_⟩
    · rintro C j acc _ hj ⟨rfl, rfl⟩
      show Tb G _ C (isTrue _ _ _) _ [] ((C + 1, .cell (.int j)) :: _)
      refine b_cmp ?_
      refine e_comp rfl rfl rfl rfl rfl ?_
      refine e_cell (hk := rfl) rfl (by walk_at "mem") ?_
      refine ⟨(mints S).length, listV (mints S), fun μ => (sa, MO.list (mints S)) ∈ μ, fun k acc2 μ₂ => acc2 = mints ((S.take k).filter fun t => (g t).contains (j : Int)) ∧ μ₂ = (C + 1, .cell (.int j)) :: (r2, .raw (rangeObj 5 t2 u2 v2)) :: (r, .raw (rangeObj 5 t u v)) :: (sa, .list (mints S)) :: (L' + 2, .cell (.ref sa)) :: (L' + 1, .cell (.ref aa)) :: μ,
        itOf_list hh (.tail _ (.tail _ (.tail _ (.head _)))), by rw [mints_len]; show _ ≤ 1000000; omega, ⟨rfl, rfl⟩, ?_, ?_, ?_⟩
      · rintro k acc2 _ ⟨rfl, rfl⟩; exact .tail _ (.tail _ (.tail _ (.head _)))
      · rintro C2 k acc2 _ hk ⟨rfl, rfl⟩
        rw [mints_len] at hk
        have hv : listV (mints S) k = .int (S.getD k 0) := by
          have h1 := listV_get (xs := mints S) (i := k) (by rw [mints_len]; exact hk)
          rw [mints_get (k := S.getD k 0) (by simp [List.getD, List.getElem?_eq_getElem hk])] at h1
          exact (Option.some.inj h1).symm
        have hm : S.getD k 0 ∈ S := by simp [List.getD, List.getElem?_eq_getElem hk]
        have hr := hSi _ hm
        rw [hv]
        have etake : S.take (k + 1) = S.take k ++ [S.getD k 0] := by rw [List.take_succ_eq_append_getElem hk]; simp [List.getD, List.getElem?_eq_getElem hk]
        generalize S.getD k 0 = tw at *
        show Tb G _ C2 (isTrue _ _ _) _ [(Str.ofString "two", .int tw)] _
        refine b_cmp ?_; refine e_cell (hk := rfl) rfl (by walk_at "mem") ?_; refine e_sub ?_; refine e_cell (hk := rfl) rfl (by walk_at "mem") ?_; refine e_nameL (by walk_at "mem") ?_
        refine g_list (.tail _ (.tail _ (.tail _ (.tail _ (.tail _ (.tail _ ha.1)))))) hr.1 (five_get tw hr.1 hr.2) ?_
        refine o_in_ints (.tail _ (.tail _ (.tail _ (.tail _ (.tail _ (.tail _ (ha.2 tw hr.1 hr.2))))))) (asb ?_)
        by_cases hc : (g tw).contains (j : Int) = true
        · rw [if_pos hc]
          refine e_nameL (by walk_at "mem") ?_
          refine ⟨_, rfl, List.Sublist.refl _, ?_, rfl⟩
          rw [etake, filter_snoc_pos (by exact hc)]; simp [mints]
        · rw [if_neg hc]
          refine ⟨_, rfl, List.Sublist.refl _, ?_, rfl⟩
          rw [etake, filter_snoc_neg (by exact hc)]
      · rintro D acc2 _ ⟨rfl, rfl⟩
        refine e_list ?_; refine a_nil ?_
        refine ⟨by decide, fun c => ?_⟩
        refine o_ne_nil (.tail _ (.head _)) (.head _) (by show A.units + 3 < _; omega) ?_
        refine asb ?_
        rw [mints_len, List.take_length]
        have e1 : (!(mints (S.filter fun t => (g t).contains (j : Int))).isEmpty) = S.any fun t => (g t).contains (j : Int) := by
          rw [Bool.eq_iff_iff]
          simp [mints, List.isEmpty_iff]
        rw [e1]
        have e2 : five5.take (j + 1) = five5.take j ++ [(j : Int)] := by
          exact five_nat hj rfl rfl rfl rfl rfl
        by_cases hc : (S.any fun t => (g t).contains (j : Int)) = true
        · rw [if_pos hc]
          refine e_cell (hk := rfl) rfl (by walk_at "mem") ?_
          refine ⟨_, rfl, (List.sublist_cons_self _ _).trans (List.sublist_cons_self _ _), ?_, rfl⟩
          rw [e2, filter_snoc_pos (by exact hc)]; simp [mints]
        · rw [if_neg hc]
          refine ⟨_, rfl, (List.sublist_cons_self _ _).trans (List.sublist_cons_self _ _), ?_, rfl⟩
          rw [e2, filter_snoc_neg (by exact hc)]
    · rintro D acc _ ⟨rfl, rfl⟩
      refine ⟨.ref sa, _, .tail _ (.tail _ (.tail _ (.tail _ (.head _)))), .tail (.tail (.tail (.tail .head))), ?_⟩
      refine Tg.sel ((r, .raw (rangeObj 5 t u v)) :: (D, .list (mints (stepN g (i + 1) [p]))) :: (L' + 2, .cell (.ref D)) :: (L' + 1, .cell (.ref aa)) :: μ) ?_ (s_nil (turn_next ⟨_, List.Sublist.refl _, D, .int i, rfl, rfl⟩))
      · rw [show stepN g (i + 1) [p] = stepS g (stepN g i [p]) from rfl, hS]
        show Sel ((r, .raw (rangeObj 5 t u v)) :: (D, .list (mints ((five5.take 5).filter fun o => S.any fun t => (g t).contains o))) :: (L' + 2, .cell (.ref D)) :: (L' + 1, .cell (.ref aa)) :: μ) _
        walk_at "sel"
  · rintro _ _ ⟨sa, k, rfl, rfl⟩
    refine s_ret ?_
    refine e_cmp ?_
    refine e_cell (hk := rfl) rfl (by walk_at "mem") ?_; refine e_list ?_; refine a_nil ?_
    refine ⟨by decide, fun c => ?_⟩
    refine o_eq_nil (.tail _ (.tail _ (.head _))) (.head _) (by show A.units + 3 < _; omega) ?_
    refine ⟨μ, ?_, ?_⟩
    · exact ((((List.sublist_cons_self _ _).trans (List.sublist_cons_self _ _)).trans (List.sublist_cons_self _ _)).trans (List.sublist_cons_self _ _)).trans (List.sublist_cons_self _ _)
    · show P (.bool _) μ
      rw [show (mints (stepN g 5 [p])).isEmpty = (stepN g 5 [p]).isEmpty by cases stepN g 5 [p] <;> rfl, stepN_ends hg]
      exact h
end

noncomputable def comb (a b : MV) : MV := match b with
  | .none => a
  | _ => b
theorem comb_assoc (a b c : MV) : comb (comb a b) c = comb a (comb b c) := by cases b <;> cases c <;> rfl
theorem comb_none (b : MV) : comb .none b = b := by cases b <;> rfl
theorem foldl_comb (l : List MV) (a : MV) : l.foldl comb a = comb a (l.foldl comb .none) := by
  induction l generalizing a with
  | nil => rfl
  | cons x r ih => rw [List.foldl_cons, List.foldl_cons, ih, ih (comb .none x), comb_none, comb_assoc]
section
variable (g : Int → List Int) (lns : Int → List Str) (dl : Int → MV)
noncomputable def Rspec (p : Int) : List Str := (W g p).flatMap fun way => lns (lastI way)
noncomputable def Dspec (p : Int) : MV := ((W g p).map fun way => dl (lastI way)).foldl comb .none
noncomputable def fullW (p : Int) : List (List Int) := (W g p).filter fun way => (g (lastI way)).isEmpty
noncomputable def cov (p o : Int) : Bool := (fullW g p).all fun way => way.contains o
noncomputable def Uset (p : Int) : List Int := five5.filter fun o => o != p && cov g p o
noncomputable def nameI (o : Int) : Str := nameOf o.toNat
noncomputable def Uspec (p : Int) : List Str := (Uset g p).map nameI ++ [nameI p]
variable {g lns dl}
theorem flatMap_lastI {p : Int} {α : Type} (f : Int → List α) (h : ends g 5 p = true) : ((W g p).flatMap fun way => f (lastI way)) = f p ++ (g p).flatMap fun q => (W g q).flatMap fun way => f (lastI way) := by
  rw [W_eq h, List.flatMap_cons, List.flatMap_assoc]
  congr 1
  rw [List.flatMap_def, List.flatMap_def]
  congr 1
  refine List.map_congr_left fun q hq => ?_
  rw [List.flatMap_map, List.flatMap_def, List.flatMap_def]
  congr 1
  refine List.map_congr_left fun way hw => ?_
  rw [lastI_cons (wk_ne hw)]
theorem Rspec_eq {p : Int} (h : ends g 5 p = true) : Rspec g lns p = lns p ++ (g p).flatMap (Rspec g lns) := flatMap_lastI lns h
theorem map_eq_flatMap {α β : Type} (f : α → β) (l : List α) : l.map f = l.flatMap fun a => [f a] := by induction l <;> simp_all
theorem foldl_flat {α : Type} (l : List α) (f : α → List MV) (a : MV) : (l.flatMap f).foldl comb a = l.foldl (fun acc q => comb acc ((f q).foldl comb .none)) a := by
  induction l generalizing a with
  | nil => rfl
  | cons x r ih => rw [List.flatMap_cons, List.foldl_append, List.foldl_cons, ih, foldl_comb (f x) a]
theorem Dspec_eq {p : Int} (h : ends g 5 p = true) : Dspec g dl p = (g p).foldl (fun acc q => comb acc (Dspec g dl q)) (dl p) := by
  unfold Dspec
  rw [map_eq_flatMap, flatMap_lastI (fun i => [dl i]) h, List.foldl_append, foldl_flat]
  simp only [List.foldl_cons, List.foldl_nil, comb_none, map_eq_flatMap]
theorem reach : ∀ {n q}, ∀ way ∈ wk g n q, ∀ p ∈ way, ∀ m, ends g m q = true → ends g m p = true
  | 0, _, _, h, _, _, _, _ => by cases h
  | n + 1, q, way, h, p, hp, m, he => by
    unfold wk at h
    rcases List.mem_cons.mp h with rfl | h
    · rw [List.mem_singleton.mp hp]; exact he
    · obtain ⟨r, hr, hw⟩ := List.mem_flatMap.mp h
      obtain ⟨t, ht, rfl⟩ := List.mem_map.mp hw
      rcases List.mem_cons.mp hp with rfl | hp
      · exact he
      · exact reach t ht p hp m (ends_step he r hr)
theorem no_return {p q : Int} (hq : q ∈ g p) {way : List Int} (hw : way ∈ W g q) (hp : p ∈ way) : ∀ m, ends g m p = false
  | 0 => rfl
  | m + 1 => by
    cases e : ends g (m + 1) p with
    | false => rfl
    | true =>
      have h1 := ends_lower e q hq
      have h2 := reach way hw p hp m h1
      rw [no_return hq hw hp m] at h2
      exact h2.symm
theorem fullW_eq {p : Int} (h : ends g 5 p = true) : fullW g p = (if g p = [] then [[p]] else []) ++ (g p).flatMap fun q => (fullW g q).map (p :: ·) := by
  unfold fullW
  rw [W_eq h, List.filter_cons]
  have e : ((g p).flatMap fun q => (W g q).map (p :: ·)).filter (fun way => (g (lastI way)).isEmpty) = (g p).flatMap fun q => ((W g q).filter fun way => (g (lastI way)).isEmpty).map (p :: ·) := by
    rw [List.filter_flatMap, List.flatMap_def, List.flatMap_def]
    congr 1
    refine List.map_congr_left fun q hq => ?_
    rw [List.filter_map]
    congr 1
    refine List.filter_congr fun way hw => ?_
    show (g (lastI (p :: way))).isEmpty = _
    rw [lastI_cons (wk_ne hw)]
  rw [e]
  have e2 : lastI [p] = p := rfl
  rw [e2]
  by_cases hg : g p = []
  · simp [hg]
  · have : (g p).isEmpty = false := by cases h : g p with | nil => exact absurd h hg | cons _ _ => rfl
    simp [hg, this]
theorem fullW_ne : ∀ {n : Nat} {p : Int}, ends g n p = true → ends g 5 p = true → fullW g p ≠ []
  | 0, _, h, _ => by cases h
  | n + 1, p, h, h5 => by
    rw [fullW_eq h5]
    by_cases hg : g p = []
    · simp [hg]
    · cases e : g p with
      | nil => exact absurd e hg
      | cons q r =>
        have hq : q ∈ g p := by rw [e]; exact .head _
        have := fullW_ne (ends_lower h q hq) (ends_step h5 q hq)
        cases e2 : fullW g q with
        | nil => exact absurd e2 this
        | cons a l => simp [e2]
theorem cov_eq {p o : Int} (h : ends g 5 p = true) : cov g p o = (o == p || (!(g p).isEmpty && (g p).all fun q => cov g q o)) := by
  unfold cov
  rw [fullW_eq h, List.all_append, List.all_flatMap]
  by_cases hg : g p = []
  · simp [hg]
    rw [Bool.eq_iff_iff, beq_iff_eq, decide_eq_true_eq]
  · have e : (g p).isEmpty = false := by cases h : g p with | nil => exact absurd h hg | cons _ _ => rfl
    rw [if_neg hg, e]
    simp only [List.all_nil, Bool.true_and, Bool.not_false]
    rw [Bool.eq_iff_iff]
    simp only [Bool.or_eq_true, beq_iff_eq, List.all_eq_true, List.all_map, Function.comp_apply, List.contains_cons]
    constructor
    · intro hall
      by_cases ho : o = p
      · exact .inl ho
      · refine .inr fun q hq way hw => ?_
        have := hall q hq way hw
        simpa [ho] using this
    · intro hall q hq way hw
      rcases hall with rfl | hall
      · simp
      · have := hall q hq way hw; rw [List.contains_iff_mem] at this; simp [this]
theorem cov_back {p q : Int} (h : ends g 5 p = true) (hq : q ∈ g p) : cov g q p = false := by
  cases e : cov g q p with
  | false => rfl
  | true =>
    unfold cov at e
    rw [List.all_eq_true] at e
    have hne := fullW_ne (ends_step h q hq) (ends_step h q hq)
    cases e2 : fullW g q with
    | nil => exact absurd e2 hne
    | cons way r =>
      have hm : way ∈ fullW g q := by rw [e2]; exact .head _
      have h1 := e way hm
      have h2 := no_return hq (List.mem_filter.mp hm).1 (by simpa using h1) 5
      rw [h] at h2; cases h2
theorem nameI_inj : ∀ a b : Int, 0 ≤ a → a < 5 → 0 ≤ b → b < 5 → nameI a = nameI b → a = b := by
  intro a b a0 a5 b0 b5 e
  have key : ∀ i j : Fin 5, nameOf i = nameOf j → i = j := by decide +kernel
  have := key ⟨a.toNat, by omega⟩ ⟨b.toNat, by omega⟩ e
  have : a.toNat = b.toNat := congrArg Fin.val this
  omega
theorem mem_five {o : Int} : o ∈ five5 ↔ 0 ≤ o ∧ o < 5 := by
  constructor
  · intro h; simp [five5] at h; omega
  · intro h
    have : o = 0 ∨ o = 1 ∨ o = 2 ∨ o = 3 ∨ o = 4 := by omega
    simpa [five5] using this
theorem mem_Uspec {q o : Int} (hq : 0 ≤ q ∧ q < 5) (ho : 0 ≤ o ∧ o < 5) (h : ends g 5 q = true) : nameI o ∈ Uspec g q ↔ cov g q o = true := by
  unfold Uspec
  rw [List.mem_append, List.mem_map, List.mem_singleton]
  constructor
  · rintro (⟨x, hx, e⟩ | e)
    · have hx' := List.mem_filter.mp hx
      have h5 := mem_five.mp hx'.1
      have := nameI_inj x o h5.1 h5.2 ho.1 ho.2 e
      subst this
      have := hx'.2
      simp at this
      exact this.2
    · have := nameI_inj o q ho.1 ho.2 hq.1 hq.2 e
      subst this
      rw [cov_eq h]; simp
  · intro hc
    by_cases e : o = q
    · exact .inr (by rw [e])
    · refine .inl ⟨o, List.mem_filter.mpr ⟨mem_five.mpr ho, ?_⟩, rfl⟩
      simp [e, hc]
theorem Uspec_step {p : Int} (hp : 0 ≤ p ∧ p < 5) (hg : ∀ p, Ahead (g p)) (h : ends g 5 p = true) :
    Uspec g p = (if g p = [] then [] else (five5.map nameI).filter fun x => (g p).all fun q => (Uspec g q).contains x) ++ [nameI p] := by
  conv => lhs; unfold Uspec
  congr 1
  unfold Uset
  by_cases hgp : g p = []
  · rw [if_pos hgp]
    have : (five5.filter fun o => o != p && cov g p o) = [] := by
      rw [List.filter_eq_nil_iff]
      intro o ho
      rw [cov_eq h]
      simp [hgp]
    rw [this]; rfl
  · rw [if_neg hgp, List.filter_map]
    congr 1
    refine List.filter_congr fun o ho => ?_
    have ho' := mem_five.mp ho
    have e1 : (g p).isEmpty = false := by cases h : g p with | nil => exact absurd h hgp | cons _ _ => rfl
    rw [cov_eq h, e1]
    rw [Bool.eq_iff_iff]
    simp only [Bool.and_eq_true, bne_iff_ne, ne_eq, Bool.or_eq_true, beq_iff_eq, Bool.not_false, Bool.true_and, List.all_eq_true, Function.comp_apply, List.contains_iff_mem]
    constructor
    · rintro ⟨h1, h2⟩ q hq
      rcases h2 with h2 | h2
      · exact absurd h2 h1
      · exact (mem_Uspec ((hg p).2 q hq) ho' (ends_step h q hq)).mpr (h2 q hq)
    · intro hall
      have h2 : ∀ q ∈ g p, cov g q o = true := fun q hq => (mem_Uspec ((hg p).2 q hq) ho' (ends_step h q hq)).mp (hall q hq)
      refine ⟨?_, .inr h2⟩
      rintro rfl
      cases e : g o with
      | nil => exact hgp e
      | cons q r =>
        have hq : q ∈ g o := by rw [e]; exact .head _
        have := h2 q hq
        rw [cov_back h hq] at this
        cases this
end

noncomputable def DelaysAt (dl : Int → MV) (da : Addr) (μ : Mu) : Prop := (da, MO.list [dl 0, dl 1, dl 2, dl 3, dl 4]) ∈ μ
noncomputable def LinesAt (lns : Int → List Str) (la : Addr) (ls : Int → Addr) (μ : Mu) : Prop := (la, MO.list (refs [ls 0, ls 1, ls 2, ls 3, ls 4])) ∈ μ ∧ ∀ i : Int, 0 ≤ i → i < 5 → (ls i, MO.list (mstrs (lns i))) ∈ μ
theorem five_dl {dl : Int → MV} : ∀ i : Int, 0 ≤ i → i < 5 → [dl 0, dl 1, dl 2, dl 3, dl 4][i.toNat]? = some (dl i) := five rfl rfl rfl rfl rfl
theorem Delay.nu {d : MV} (hd : Delay d) : d ≠ .undef := by rcases hd with rfl | ⟨i, rfl, _⟩ <;> exact nofun
theorem Delay.nc {d : MV} (hd : Delay d) : ∀ v, d ≠ .con v := by rcases hd with rfl | ⟨i, rfl, _⟩ <;> exact nofun
theorem Delay.comb {a b : MV} (ha : Delay a) (hb : Delay b) : Delay (comb a b) := by rcases hb with rfl | ⟨i, rfl, h⟩; exact ha; exact .inr ⟨i, rfl, h⟩
theorem foldl_delay {l : List MV} (h : ∀ x ∈ l, Delay x) : ∀ a, Delay a → Delay (l.foldl comb a) := by
  induction l with
  | nil => exact fun a ha => ha
  | cons x r ih => exact fun a ha => ih (fun y hy => h y (.tail _ hy)) _ (ha.comb (h x (.head _)))
theorem refs_listV {ws : List Addr} {i : Nat} (hi : i < ws.length) : listV (refs ws) i = .ref (ws.getD i 0) := by
  have h1 := listV_get (xs := refs ws) (i := i) (by rw [refs_len]; exact hi)
  rw [refs_get (getD_get' hi)] at h1
  exact (Option.some.inj h1).symm
theorem take_getD {ws : List Addr} {i : Nat} (hi : i < ws.length) : ws.take (i + 1) = ws.take i ++ [ws.getD i 0] := by
  rw [List.take_succ_eq_append_getElem hi]; simp [List.getD, List.getElem?_eq_getElem hi]
theorem m5 {z a b c d e : Addr × MO} {W μ : Mu} (h : z ∈ μ) : z ∈ a :: b :: c :: d :: e :: (W ++ μ) := .tail _ (.tail _ (.tail _ (.tail _ (.tail _ (List.mem_append_right _ h)))))
theorem w5 {z a b c d e : Addr × MO} {W μ : Mu} (h : z ∈ W) : z ∈ a :: b :: c :: d :: e :: (W ++ μ) := .tail _ (.tail _ (.tail _ (.tail _ (.tail _ (List.mem_append_left _ h)))))
theorem m6 {z a b c d e f : Addr × MO} {W μ : Mu} (h : z ∈ μ) : z ∈ a :: b :: c :: d :: e :: f :: (W ++ μ) := .tail _ (m5 h)
theorem w6 {z a b c d e f : Addr × MO} {W μ : Mu} (h : z ∈ W) : z ∈ a :: b :: c :: d :: e :: f :: (W ++ μ) := .tail _ (w5 h)
section
variable {w : World} {G : Gl w} {A : Around} {L : Addr} {env : Env} {ρ ρ' : Rho} {μ μ' : Mu}
inductive ToldJ (K : Addr → List Int) (ws : List Addr) (dl : Int → MV) (lns : Int → List Str) (p : Int) (L' aa da la wr : Addr) (μ : Mu) (i : Nat) (ρ₁ : Rho) (μ₁ : Mu) : Prop
  | mk (wh : Addr) (v : MV) (z1 : ρ₁ = [(Str.ofString "delays", .ref da), (Str.ofString "lines", .ref la), (Str.ofString "ways", .ref wr), (Str.ofString "whole", .ref wh), (Str.ofString "delay", ((ws.take i).map fun x => dl (lastI (K x))).foldl comb .none), (Str.ofString "way", v), (Str.ofString "names", .undef)]) (z2 : μ₁ = (L' + 3, .cell .undef) :: (L' + 2, .cell (.int p)) :: (L' + 1, .cell (.ref aa)) :: (wh, .list (mstrs ((ws.take i).flatMap fun x => lns (lastI (K x))))) :: (wr, .list (refs ws)) :: (Ways K ws ++ μ))
set_option maxRecDepth 100000 in
set_option maxHeartbeats 1000000 in
theorem c_told {P : MV → Mu → Prop} (hroom : A.depth + 5 < recursionLimit) (hu : A.units + 60 < cLine) (hh : A.handled = none) {g : Int → List Int} (hg : ∀ p, Ahead (g p)) {aa da la : Addr} {as ls : Int → Addr} {dl : Int → MV} {lns : Int → List Str}
    (ha : AheadsAt g aa as μ) (hd : DelaysAt dl da μ) (hdl : ∀ i, Delay (dl i)) (hl : LinesAt lns la ls μ) (hll : ∀ i, (lns i).length ≤ 3)
    {p : Int} (hp : 0 ≤ p ∧ p < 5) (he : ends g 5 p = true) (h : ∀ r n wh, P (.ref r) ((r, .list [.ref n, .ref wh, Dspec g dl p]) :: (n, .list (mstrs (Uspec g p))) :: (wh, .list (mstrs (Rspec g lns p))) :: μ)) : CC G A (.ref 280) [.ref aa, .ref da, .ref la, .int p] P μ := by
  refine CC.subp ?_
  refine c_fnc [Str.ofString "aheads", Str.ofString "delays", Str.ofString "lines", Str.ofString "place"] [(Str.ofString "delays", .ref da), (Str.ofString "lines", .ref la), (Str.ofString "ways", .undef), (Str.ofString "whole", .undef), (Str.ofString "delay", .undef), (Str.ofString "way", .undef), (Str.ofString "names", .undef)] (fun L => [(Str.ofString "full", L + 3), (Str.ofString "place", L + 2), (Str.ofString "aheads", L + 1)]) (fun x => if x = Str.ofString "aheads" then .ref aa else if x = Str.ofString "place" then .int p else .undef) rfl (by omega) rfl rfl rfl rfl rfl rfl rfl rfl rfl (fun L => rfl) (fun L => by simp only [List.map_cons, List.map_nil]; decide) (by decide) (by simp only [List.map_cons, List.map_nil]; decide) rfl ?_ ?_ (fun vs hv => va4 hv fun _ _ _ _ _ _ _ _ => rfl) ?_
  · intro q hq
    simp only [List.mem_cons, List.not_mem_nil, or_false] at hq
    rcases hq with rfl | rfl | rfl | rfl | rfl | rfl | rfl
    · exact .inr ⟨.tail _ (.head _), rfl⟩
    · exact .inr ⟨.tail _ (.tail _ (.head _)), rfl⟩
    all_goals exact .inl rfl
  · intro L q hq
    simp only [List.mem_cons, List.not_mem_nil, or_false] at hq
    rcases hq with rfl | rfl | rfl
    · exact .inl (by show (if Str.ofString "full" = Str.ofString "aheads" then _ else if Str.ofString "full" = Str.ofString "place" then _ else _) = _; rw [if_neg (by decide), if_neg (by decide)])
    · exact .inr ⟨by show (_, if Str.ofString "place" = Str.ofString "aheads" then _ else if Str.ofString "place" = Str.ofString "place" then _ else _) ∈ _; rw [if_neg (by decide), if_pos rfl]; exact .tail _ (.tail _ (.tail _ (.head _))), rfl⟩
    · exact .inr ⟨by rw [if_pos rfl]; exact .head _, rfl⟩
  intro L' qn cd
  show X G _ _ (execs _ _) _ [(Str.ofString "delays", .ref da), (Str.ofString "lines", .ref la), (Str.ofString "ways", .undef), (Str.ofString "whole", .undef), (Str.ofString "delay", .undef), (Str.ofString "way", .undef), (Str.ofString "names", .undef)] ((L' + 3, .cell .undef) :: (L' + 2, .cell (.int p)) :: (L' + 1, .cell (.ref aa)) :: μ)
  have hgl : ∀ p, (g p).length ≤ 5 := fun p => (hg p).len
  have hWl := W_len hgl (p := p)
  refine s_assign ?_; refine e_callfn rfl rfl ?_; refine a_cons ?_; refine e_cell (hk := rfl) rfl (by walk_at "mem") ?_; refine a_cons ?_; refine e_cell (hk := rfl) rfl (by walk_at "mem") ?_; refine a_nil ?_
  refine c_ways (g := g) (as := as) (by show A.depth + 1 + 4 < _; omega) (by show A.units + 3 + 50 < _; omega) (by exact hh) hg ⟨.tail _ (.tail _ (.tail _ ha.1)), fun i h0 h5 => .tail _ (.tail _ (.tail _ (ha.2 i h0 h5)))⟩ hp he fun wr ws K hW => ?_
  have hwl : ws.length ≤ 781 := by rw [← hW, List.length_map] at hWl; exact hWl
  have hK : ∀ x ∈ ws, K x ≠ [] ∧ 0 ≤ lastI (K x) ∧ lastI (K x) < 5 := fun x hx => by
    have hm : K x ∈ W g p := by rw [← hW]; exact List.mem_map_of_mem hx
    have hne := wk_ne hm
    refine ⟨hne, wk_in (fun p => (hg p).2) hp _ hm _ ?_⟩
    rw [lastI, List.getLastD_eq_getLast?, List.getLast?_eq_some_getLast hne]
    exact List.getLast_mem hne
  refine stp (by walk_at "pt") ?_; refine s_assign ?_; refine e_list ?_; refine a_nil ?_
  refine ⟨by decide, fun wh0 => ?_⟩
  refine stp (by walk_at "pt") ?_; refine s_assign ?_; refine e_none ?_; refine stp (by walk_at "pt") ?_
  refine Tg.sel ((L' + 3, .cell .undef) :: (L' + 2, .cell (.int p)) :: (L' + 1, .cell (.ref aa)) :: (wh0, .list []) :: (wr, .list (refs ws)) :: (Ways K ws ++ μ)) (by walk_at "sel") ?_
  refine s_for ?_
  refine e_name (by walk_at "mem") ?_
  refine ⟨(refs ws).length, listV (refs ws), fun μ => (wr, MO.list (refs ws)) ∈ μ, ToldJ K ws dl lns p L' aa da la wr μ,
    itOf_list hh (.tail _ (.tail _ (.tail _ (.tail _ (.head _))))), ?_, ⟨wh0, .undef, rfl, rfl⟩, ?_, ?_⟩
  · rintro i _ _ ⟨wh, v, rfl, rfl⟩; exact .tail _ (.tail _ (.tail _ (.tail _ (.head _))))
  · rintro i _ _ hi ⟨wh, v, rfl, rfl⟩
    rw [refs_len] at hi
    rw [refs_listV hi]
    have hx := getD_mem hi
    have hKx := hK _ hx
    have ht := take_getD hi
    generalize ws.getD i 0 = x at *
    refine stp (by walk_at "pt") ?_
    refine s_assign ?_; refine e_binop ?_; refine e_name (by walk_at "mem") ?_; refine e_sub ?_; refine e_name (by walk_at "mem") ?_; refine e_sub ?_; refine e_name (by walk_at "mem") ?_; refine e_unop ?_; refine e_int ?_; refine o_neg ?_
    refine g_last (w5 (ways_mem hx)) (lastI_get hKx.1) ?_
    generalize hq : lastI (K x) = q at *
    refine g_list (m5 hl.1) hKx.2.1 (five_get q hKx.2.1 hKx.2.2) ?_
    have hfl : ((ws.take i).flatMap fun x => lns (lastI (K x))).length ≤ 781 * 3 := by
      have := flatMap_len (l := ws.take i) (f := fun x => lns (lastI (K x))) (k := 3) fun x _ => hll _
      have h2 : (ws.take i).length ≤ 781 := by rw [List.length_take]; omega
      omega
    have hql := hll q
    refine o_addlist (.tail _ (.tail _ (.tail _ (.head _)))) (m5 (hl.2 q hKx.2.1 hKx.2.2)) (by rw [mstrs_len]; show _ ≤ 1000000; omega) (by rw [mstrs_len]; show _ ≤ 1000000; omega) fun wh2 => ?_
    refine stp (by walk_at "pt") ?_
    have hdq := hdl q
    generalize hD : ((ws.take i).map fun x => dl (lastI (K x))).foldl comb .none = D at *
    have hD' : Delay D := by rw [← hD]; exact foldl_delay (fun x hx => by obtain ⟨y, _, rfl⟩ := List.mem_map.mp hx; exact hdl _) _ (.inl rfl)
    refine Tg.sel ((L' + 3, .cell .undef) :: (L' + 2, .cell (.int p)) :: (L' + 1, .cell (.ref aa)) :: (wh2, .list (mstrs ((ws.take i).flatMap fun x => lns (lastI (K x))) ++ mstrs (lns q))) :: (wr, .list (refs ws)) :: (Ways K ws ++ μ)) (by walk_at "sel") ?_
    refine s_ifj (fun ρ₁ μ₁ => ρ₁ = [(Str.ofString "delays", .ref da), (Str.ofString "lines", .ref la), (Str.ofString "ways", .ref wr), (Str.ofString "whole", .ref wh2), (Str.ofString "delay", comb D (dl q)), (Str.ofString "way", .ref x), (Str.ofString "names", .undef)] ∧
      μ₁ = (L' + 3, .cell .undef) :: (L' + 2, .cell (.int p)) :: (L' + 1, .cell (.ref aa)) :: (wh2, .list (mstrs ((ws.take i).flatMap fun x => lns (lastI (K x))) ++ mstrs (lns q))) :: (wr, .list (refs ws)) :: (Ways K ws ++ μ)) ?_ ?_
    · rintro _ _ ⟨rfl, rfl⟩
      refine s_nil (turn_next ⟨_, List.Sublist.refl _, wh2, .ref x, ?_, ?_⟩)
      · rw [ht, List.map_append, List.foldl_append, hD]; simp [hq]
      · rw [ht, List.flatMap_append, mstrs_app]; simp [hq]
    · refine b_cmp ?_; refine e_sub ?_; refine e_name (by walk_at "mem") ?_; refine e_sub ?_; refine e_name (by walk_at "mem") ?_; refine e_unop ?_; refine e_int ?_; refine o_neg ?_
      refine g_last (w5 (ways_mem hx)) (lastI_get hKx.1) ?_
      rw [hq]
      refine g_list (m5 hd) hKx.2.1 (five_dl q hKx.2.1 hKx.2.2) ?_
      refine e_none ?_
      refine o_isnot_none (x := dl q) (asb ?_) hdq.nu hdq.nc
      rcases hdq with e | ⟨k, e, _⟩
      · simp only [e, Bool.false_eq_true, if_false]
        refine s_nil ?_
        exact ⟨rfl, rfl, rfl⟩
      · simp only [e, if_true]
        refine s_assign ?_; refine e_sub ?_; refine e_name (by walk_at "mem") ?_; refine e_sub ?_; refine e_name (by walk_at "mem") ?_; refine e_unop ?_; refine e_int ?_; refine o_neg ?_
        refine g_last (w5 (ways_mem hx)) (lastI_get hKx.1) ?_
        rw [hq]
        refine g_list (m5 hd) hKx.2.1 (five_dl q hKx.2.1 hKx.2.2) ?_
        rw [e]
        refine stp (by walk_at "pt") ?_; refine s_nil ?_
        exact ⟨rfl, rfl, rfl⟩
  · rintro _ _ ⟨wh, v, rfl, rfl⟩
    have eD : ((ws.take (refs ws).length).map fun x => dl (lastI (K x))).foldl comb .none = Dspec g dl p := by
      rw [refs_len, List.take_length]; unfold Dspec; rw [← hW, List.map_map]; rfl
    have eR : ((ws.take (refs ws).length).flatMap fun x => lns (lastI (K x))) = Rspec g lns p := by
      rw [refs_len, List.take_length]; unfold Rspec; rw [← hW, List.flatMap_map]
    rw [eD, eR]
    have hDn : Delay (Dspec g dl p) := foldl_delay (fun x hx => by obtain ⟨y, _, rfl⟩ := List.mem_map.mp hx; exact hdl _) _ (.inl rfl)
    refine s_assignc rfl ?_
    refine e_comp rfl rfl rfl rfl rfl ?_
    refine e_name (by walk_at "mem") ?_
    refine ⟨(refs ws).length, listV (refs ws), fun μ => (wr, MO.list (refs ws)) ∈ μ, fun i acc μ₁ => acc = refs ((ws.take i).filter fun x => (g (lastI (K x))).isEmpty) ∧ μ₁ = (L' + 3, .cell .undef) :: (L' + 2, .cell (.int p)) :: (L' + 1, .cell (.ref aa)) :: (wh, .list (mstrs (Rspec g lns p))) :: (wr, .list (refs ws)) :: (Ways K ws ++ μ),
      itOf_list hh (.tail _ (.tail _ (.tail _ (.tail _ (.head _))))), by rw [refs_len]; show _ ≤ 1000000; omega, ⟨rfl, rfl⟩, ?_, ?_, ?_⟩
    · rintro i acc _ ⟨rfl, rfl⟩; exact .tail _ (.tail _ (.tail _ (.tail _ (.head _))))
    · rintro C i acc _ hi ⟨rfl, rfl⟩
      rw [refs_len] at hi
      rw [refs_listV hi]
      have hx := getD_mem hi
      have hKx := hK _ hx
      have ht := take_getD hi
      generalize ws.getD i 0 = x at *
      show Tb G _ C (isTrue _ _ _) _ [(Str.ofString "way", .ref x)] _
      refine b_cmp ?_; refine e_sub ?_; refine e_cell (hk := rfl) rfl (by walk_at "mem") ?_; refine e_sub ?_; refine e_nameL (by walk_at "mem") ?_; refine e_unop ?_; refine e_int ?_; refine o_neg ?_
      refine g_last (w5 (ways_mem hx)) (lastI_get hKx.1) ?_
      generalize hq : lastI (K x) = q at *
      refine g_list (m5 ha.1) hKx.2.1 (five_get q hKx.2.1 hKx.2.2) ?_
      refine e_list ?_; refine a_nil ?_
      refine ⟨by decide, fun c => ?_⟩
      refine o_eq_nil (m6 (ha.2 q hKx.2.1 hKx.2.2)) (.head _) (by show A.units + 3 < _; omega) ?_
      refine asb ?_
      rw [show (mints (g q)).isEmpty = (g q).isEmpty by cases g q <;> rfl]
      by_cases hc : (g q).isEmpty = true
      · rw [if_pos hc]
        refine e_nameL (by walk_at "mem") ?_
        refine ⟨_, rfl, List.sublist_cons_self _ _, ?_, rfl⟩
        rw [ht, filter_snoc_pos (by rw [hq]; exact hc)]; simp [refs]
      · rw [if_neg hc]
        refine ⟨_, rfl, List.sublist_cons_self _ _, ?_, rfl⟩
        rw [ht, filter_snoc_neg (by rw [hq]; exact hc)]
    · rintro fu acc _ ⟨rfl, rfl⟩
      rw [refs_len, List.take_length]
      generalize hfl : (ws.filter fun x => (g (lastI (K x))).isEmpty) = fl
      have hflw : ∀ x ∈ fl, x ∈ ws := fun x hx => by rw [← hfl] at hx; exact (List.mem_filter.mp hx).1
      have hfll : fl.length ≤ 781 := by rw [← hfl]; exact Nat.le_trans (List.length_filter_le _ _) hwl
      have hfW : fl.map K = fullW g p := by
        unfold fullW; rw [← hW, List.filter_map, ← hfl]; rfl
      refine ⟨.undef, _, .tail _ (.head _), .tail .head, ?_⟩
      refine Tg.sel ((L' + 3, .cell (.ref fu)) :: (L' + 2, .cell (.int p)) :: (fu, .list (refs fl)) :: (wh, .list (mstrs (Rspec g lns p))) :: (wr, .list (refs ws)) :: (Ways K ws ++ μ)) (by walk_at "sel") ?_
      refine s_assign_compc rfl rfl (fun _ => rfl) (fun _ => rfl) rfl rfl rfl ?_
      refine e_callt rfl rfl (by decide) ?_; refine a_cons ?_; refine e_int ?_; refine a_nil ?_
      refine c_range fun r2 t2 u2 v2 => ?_
      refine ⟨5, fun i => .int i, fun _ => True, fun j acc μ₁ => acc = mstrs (((five5.take j).filter fun o => o != p && cov g p o).map nameI) ∧ μ₁ = (r2, .raw (rangeObj 5 t2 u2 v2)) :: (L' + 3, .cell (.ref fu)) :: (L' + 2, .cell (.int p)) :: (fu, .list (refs fl)) :: (wh, .list (mstrs (Rspec g lns p))) :: (wr, .list (refs ws)) :: (Ways K ws ++ μ),
        itOf_range hh (by omega) (.head _), by show 5 ≤ 1000000; decide, ⟨rfl, rfl⟩, fun _ _ _ _ _ => trivial, ?_, ?_⟩
      · rintro C j acc _ hj ⟨rfl, rfl⟩
        have e2 : five5.take (j + 1) = five5.take j ++ [(j : Int)] := by
          exact five_nat hj rfl rfl rfl rfl rfl
        show Tb G _ C (isTrue _ _ _) _ [] ((C + 1, .cell (.int j)) :: _)
        refine b_and ?_; refine b_cmp ?_; refine e_cell (hk := rfl) rfl (by walk_at "mem") ?_; refine e_cell (hk := rfl) rfl (by walk_at "mem") ?_
        refine o_ne (asb ?_)
        by_cases hjp : ((j : Int) != p) = true
        · rw [if_pos hjp]
          refine b_cmp ?_
          refine e_comp rfl rfl rfl rfl rfl ?_
          refine e_cell (hk := rfl) rfl (by walk_at "mem") ?_
          refine ⟨(refs fl).length, listV (refs fl), fun μ => (fu, MO.list (refs fl)) ∈ μ, fun k acc2 μ₂ => acc2 = refs ((fl.take k).filter fun x => !(K x).contains (j : Int)) ∧ μ₂ = (C + 1, .cell (.int j)) :: (r2, .raw (rangeObj 5 t2 u2 v2)) :: (L' + 3, .cell (.ref fu)) :: (L' + 2, .cell (.int p)) :: (fu, .list (refs fl)) :: (wh, .list (mstrs (Rspec g lns p))) :: (wr, .list (refs ws)) :: (Ways K ws ++ μ),
            itOf_list hh (.tail _ (.tail _ (.tail _ (.tail _ (.head _))))), by rw [refs_len]; show _ ≤ 1000000; omega, ⟨rfl, rfl⟩, ?_, ?_, ?_⟩
          · rintro k acc2 _ ⟨rfl, rfl⟩; exact .tail _ (.tail _ (.tail _ (.tail _ (.head _))))
          · rintro C2 k acc2 _ hk ⟨rfl, rfl⟩
            rw [refs_len] at hk
            rw [refs_listV hk]
            have hx := hflw _ (getD_mem hk)
            have ht := take_getD hk
            generalize fl.getD k 0 = x at *
            show Tb G _ C2 (isTrue _ _ _) _ [(Str.ofString "way", .ref x)] _
            refine b_cmp ?_; refine e_cell (hk := rfl) rfl (by walk_at "mem") ?_; refine e_nameL (by walk_at "mem") ?_
            refine o_notin_ints (.tail _ (.tail _ (w5 (ways_mem hx)))) (asb ?_)
            by_cases hc : (!(K x).contains (j : Int)) = true
            · rw [if_pos hc]
              refine e_nameL (by walk_at "mem") ?_
              refine ⟨_, rfl, List.Sublist.refl _, ?_, rfl⟩
              rw [ht, filter_snoc_pos (by exact hc)]; simp [refs]
            · rw [if_neg hc]
              refine ⟨_, rfl, List.Sublist.refl _, ?_, rfl⟩
              rw [ht, filter_snoc_neg (by exact hc)]
          · rintro D2 acc2 _ ⟨rfl, rfl⟩
            rw [refs_len, List.take_length]
            refine e_list ?_; refine a_nil ?_
            refine ⟨by decide, fun c => ?_⟩
            refine o_eq_nil (.tail _ (.head _)) (.head _) (by show A.units + 3 < _; omega) ?_
            refine asb ?_
            have e3 : (refs (fl.filter fun x => !(K x).contains (j : Int))).isEmpty = cov g p j := by
              unfold cov
              rw [← hfW, List.all_map, Bool.eq_iff_iff, List.isEmpty_iff, List.all_eq_true]
              simp only [refs, List.map_eq_nil_iff, List.filter_eq_nil_iff, Function.comp_apply]
              constructor
              · intro hh x hx; have := hh x hx; simpa using this
              · intro hh x hx; have := hh x hx; simpa using this
            rw [e3]
            by_cases hc : cov g p j = true
            · rw [if_pos hc]
              refine e_callfn rfl rfl ?_; refine a_cons ?_; refine e_cell (hk := rfl) rfl (by walk_at "mem") ?_; refine a_nil ?_
              refine c_name (by show A.depth + 1 < _; omega) hj ?_
              refine ⟨_, rfl, (List.sublist_cons_self _ _).trans (List.sublist_cons_self _ _), ?_, rfl⟩
              rw [e2, filter_snoc_pos (by rw [hjp, hc]; rfl)]; simp [mstrs, nameI]
            · rw [if_neg hc]
              refine ⟨_, rfl, (List.sublist_cons_self _ _).trans (List.sublist_cons_self _ _), ?_, rfl⟩
              rw [e2, filter_snoc_neg (by simp [hc])]
        · rw [if_neg hjp, if_neg Bool.false_ne_true]
          refine ⟨_, rfl, List.Sublist.refl _, ?_, rfl⟩
          rw [e2, filter_snoc_neg (by simp only [Bool.and_eq_true]; exact fun h => hjp h.1)]
      · rintro na acc _ ⟨rfl, rfl⟩
        refine stp (by walk_at "pt") ?_
        have hDu := hDn.nu
        have hUl : ((five5.take 5).filter fun o => o != p && cov g p o).length ≤ 5 := List.length_filter_le _ _
        obtain ⟨pn, rfl⟩ : ∃ pn : Nat, p = pn := ⟨p.toNat, by omega⟩
        refine s_ret ?_; refine e_list ?_; refine a_cons ?_; refine e_binop ?_; refine e_name (by walk_at "mem") ?_; refine e_list ?_; refine a_cons ?_; refine e_callfn rfl rfl ?_; refine a_cons ?_; refine e_cell (hk := rfl) rfl (by walk_at "mem") ?_; refine a_nil ?_
        refine c_name (by show A.depth + 1 < _; omega) (n := pn) (by omega) ?_
        refine a_nil ?_
        refine ⟨by show 1 ≤ 1000000; decide, fun c => ?_⟩
        refine o_addlist (.tail _ (.head _)) (.head _) (by rw [mstrs_len, List.length_map]; show _ ≤ 1000000; omega) (by show 1 ≤ 1000000; decide) fun n => ?_
        refine a_cons (e_name (v := .ref wh) (by walk_at "mem") ?_)
        refine a_cons (e_name (v := Dspec g dl pn) (by walk_at "mem") ?_ hDu)
        refine a_nil ?_
        refine ⟨by show 3 ≤ 1000000; decide, fun r => ?_⟩
        refine SubP.sel ?_ (h r n wh)
        · have e : Uspec g pn = (((five5.take 5).filter fun o => o != (pn : Int) && cov g pn o).map nameI) ++ [nameOf pn] := by
            unfold Uspec Uset nameI; rfl
          rw [e, ← mstrs_app, show mstrs [nameOf pn] = [MV.str (nameOf pn)] from rfl]
          walk_at "sel"
end

noncomputable def entA (u r : Addr) (d : MV) : List (Str × MV) := [(Str.ofString "useragents", .ref u), (Str.ofString "rulelines", .ref r), (Str.ofString "delay", d), (Str.ofString "req_rate", .none)]
section
variable {w : World} {G : Gl w} {A : Around} {L : Addr} {env : Env} {ρ ρ' : Rho} {μ μ' : Mu}
set_option maxRecDepth 100000 in
theorem c_entry_init {P : MV → Mu → Prop} (hroom : A.depth < recursionLimit) {x d : Addr} (h : ∀ u r, P .none ((r, .list []) :: (u, .list []) :: (x, .obj 59 d []) :: (d, .attrs (entA u r .none)) :: μ)) : CC G A (.ref 35) [.ref x] P ((x, .obj 59 d []) :: (d, .attrs []) :: μ) := by
  refine c_fn [Str.ofString "self"] [] rfl (by omega) rfl rfl rfl rfl rfl rfl rfl rfl rfl rfl (by decide) rfl rfl rfl (fun vs hv => va1 hv fun _ _ => rfl) ?_
  intro L' qn cd
  show X G _ _ (execs _ _) _ [(Str.ofString "self", .ref x)] _
  refine s_setattr ?_; refine e_list ?_; refine a_nil ?_
  refine ⟨by decide, fun u => ?_⟩
  refine e_name (by walk_at "mem") ?_
  refine u_attr (.tail _ (.head _)) (.tail _ (.tail _ (.head _))) .nil (.tail (.tail .head)) (by simp) ?_
  refine s_setattr ?_; refine e_list ?_; refine a_nil ?_
  refine ⟨by decide, fun r => ?_⟩
  refine e_name (by walk_at "mem") ?_
  refine u_attr (.tail _ (.tail _ (.head _))) (.tail _ (.tail _ (.tail _ (.head _)))) (.tail (by decide) .nil) (.tail (.tail (.tail .head))) (by simp) ?_
  refine s_setattr ?_; refine e_none ?_; refine e_name (by walk_at "mem") ?_
  refine u_attr (.tail _ (.tail _ (.head _))) (.tail _ (.tail _ (.tail _ (.head _)))) (.tail (by decide) (.tail (by decide) .nil)) (.tail (.tail (.tail .head))) (by simp) ?_
  refine s_setattr ?_; refine e_none ?_; refine e_name (by walk_at "mem") ?_
  refine u_attr (.tail _ (.tail _ (.head _))) (.tail _ (.tail _ (.tail _ (.head _)))) (.tail (by decide) (.tail (by decide) (.tail (by decide) .nil))) (.tail (.tail (.tail .head))) (by simp) ?_
  refine s_nil ?_
  exact h u r
theorem c_entry {P : MV → Mu → Prop} (hroom : A.depth + 1 < recursionLimit) (h : ∀ x d u r, P (.ref x) ((r, .list []) :: (u, .list []) :: (x, .obj 59 d []) :: (d, .attrs (entA u r .none)) :: μ)) : CC G A (.ref 59) [] P μ := by
  refine c_make rfl rfl rfl fun A' x d h1 h2 h3 => ?_
  exact c_entry_init (by omega) fun u r => ⟨rfl, h x d u r⟩
theorem Tg.cut {α β : Type} {R : β → α → Prop} {t : Sem α} {P : β → Rho → Mu → Prop} (v : β) (h : Tg G R A L t (fun x ρ' μ' => x = v ∧ ρ' = ρ ∧ μ' = μ) ρ μ) (k : P v ρ μ) : Tg G R A L t P ρ μ :=
  h.mono fun x ρ' μ' ⟨e1, e2, e3⟩ => by subst e1; subst e2; subst e3; exact k
theorem look_u {u r : Addr} {d : MV} : lookA (Str.ofString "useragents") (entA u r d) = some (.ref u) := rfl
theorem look_r {u r : Addr} {d : MV} : lookA (Str.ofString "rulelines") (entA u r d) = some (.ref r) := rfl
theorem look_d {u r : Addr} {d : MV} : lookA (Str.ofString "delay") (entA u r d) = some d := rfl
theorem look_q {u r : Addr} {d : MV} : lookA (Str.ofString "req_rate") (entA u r d) = some .none := rfl
theorem put_u {u u' r : Addr} {d : MV} : PutA (Str.ofString "useragents") (.ref u') (entA u r d) (entA u' r d) := .head
theorem put_r {u r r' : Addr} {d : MV} : PutA (Str.ofString "rulelines") (.ref r') (entA u r d) (entA u r' d) := .tail (by decide) .head
theorem put_d {u r : Addr} {d d' : MV} : PutA (Str.ofString "delay") d' (entA u r d) (entA u r d') := .tail (by decide) (.tail (by decide) .head)
theorem put_q {u r : Addr} {d : MV} : PutA (Str.ofString "req_rate") .none (entA u r d) (entA u r d) := .tail (by decide) (.tail (by decide) (.tail (by decide) .head))
noncomputable def EntAt (x d u r : Addr) (U R : List Str) (D : MV) (μ : Mu) : Prop := (x, MO.obj 59 d []) ∈ μ ∧ (d, MO.attrs (entA u r D)) ∈ μ ∧ (u, MO.list (mstrs U)) ∈ μ ∧ (r, MO.list (mstrs R)) ∈ μ
set_option maxRecDepth 100000 in
theorem c_merge {P : MV → Mu → Prop} (hroom : A.depth + 2 < recursionLimit) (hh : A.handled = none) {x1 d1 u1 r1 x2 d2 u2 r2 : Addr} {U1 R1 U2 R2 : List Str} {D1 D2 : MV} (h1 : EntAt x1 d1 u1 r1 U1 R1 D1 μ) (h2 : EntAt x2 d2 u2 r2 U2 R2 D2 μ) (hD1 : Delay D1) (hD2 : Delay D2)
    (hU1 : U1.length ≤ 1000) (hU2 : U2.length ≤ 1000) (hR1 : R1.length ≤ 100000) (hR2 : R2.length ≤ 100000)
    (h : ∀ x d u r, P (.ref x) ((x, .obj 59 d []) :: (d, .attrs (entA u r (comb D1 D2))) :: (u, .list (mstrs (U1.filter fun s => U2.contains s))) :: (r, .list (mstrs (R1 ++ R2))) :: μ)) : CC G A (.ref 70) [.ref x1, .ref x2] P μ := by
  obtain ⟨a1, a2, a3, a4⟩ := h1
  obtain ⟨b1, b2, b3, b4⟩ := h2
  refine CC.subp ?_
  refine c_fn [Str.ofString "e1", Str.ofString "e2"] [(Str.ofString "entry", .undef)] rfl (by omega) rfl rfl rfl rfl rfl rfl rfl rfl rfl rfl (by decide) rfl rfl rfl (fun vs hv => va2 hv fun _ _ _ _ => rfl) ?_
  intro L' qn cd
  show X G _ _ (execs _ _) _ [(Str.ofString "e1", .ref x1), (Str.ofString "e2", .ref x2), (Str.ofString "entry", .undef)] _
  refine s_assign ?_; refine e_callfn rfl rfl ?_; refine a_nil ?_
  refine c_entry (by show A.depth + 1 + 1 < _; omega) fun x d u r => ?_
  refine stp (by walk_at "pt") ?_; refine s_setattr ?_; refine e_callt rfl rfl (by decide) ?_; refine a_cons ?_; refine e_callt rfl rfl (by decide) ?_; refine a_cons ?_; refine e_attr ?_; refine e_callt rfl rfl (by decide) ?_; refine a_cons ?_; refine e_attr ?_; refine e_name (by walk_at "mem") ?_
  refine a_attr (.tail _ (.tail _ (.tail _ (.tail _ b1)))) (.tail _ (.tail _ (.tail _ (.tail _ b2)))) look_u ?_
  refine a_nil ?_
  refine c_setstrs hh (.tail _ (.tail _ (.tail _ (.tail _ b3)))) (by omega) fun sa oa n hn hso => ?_
  refine a_contains (.head _) hso fun bm => ?_
  refine a_cons ?_; refine e_attr ?_; refine e_name (by walk_at "mem") ?_
  refine a_attr (.tail _ (.tail _ (.tail _ (.tail _ (.tail _ (.tail _ a1)))))) (.tail _ (.tail _ (.tail _ (.tail _ (.tail _ (.tail _ a2)))))) look_u ?_
  refine a_nil ?_
  refine c_filter (.tail _ (.tail _ (.tail _ (.tail _ (.tail _ (.tail _ a3)))))) fun f it => ?_
  refine a_nil ?_
  refine c_listfilter hh (.head _) (.tail _ (.head _)) hso hn (.tail _ (.tail _ (.tail _ (.tail _ (.tail _ (.tail _ a3)))))) (by show _ ≤ 1000000; omega) fun nu => ?_
  refine e_name (by walk_at "mem") ?_
  refine u_attr (.tail _ (.tail _ (.tail _ (.tail _ (.tail _ (.head _)))))) (.tail _ (.tail _ (.tail _ (.tail _ (.tail _ (.tail _ (.head _))))))) put_u (.tail (.tail (.tail (.tail (.tail (.tail .head)))))) (by simp [entA]) ?_
  refine Tg.sel ((x, .obj 59 d []) :: (d, .attrs (entA nu r .none)) :: (nu, .list (mstrs (U1.filter fun s => U2.contains s))) :: μ) (by walk_at "sel") ?_
  refine s_setattr ?_; refine e_binop ?_; refine e_attr ?_; refine e_name (by walk_at "mem") ?_
  refine a_attr (.tail _ (.tail _ (.tail _ a1))) (.tail _ (.tail _ (.tail _ a2))) look_r ?_
  refine e_attr ?_; refine e_name (by walk_at "mem") ?_
  refine a_attr (.tail _ (.tail _ (.tail _ b1))) (.tail _ (.tail _ (.tail _ b2))) look_r ?_
  refine o_addlist (.tail _ (.tail _ (.tail _ a4))) (.tail _ (.tail _ (.tail _ b4))) (by rw [mstrs_len]; show _ ≤ 1000000; omega) (by rw [mstrs_len]; show _ ≤ 1000000; omega) fun nr => ?_
  rw [mstrs_app]
  refine e_name (by walk_at "mem") ?_
  refine u_attr (.tail _ (.head _)) (.tail _ (.tail _ (.head _))) put_r (.tail (.tail .head)) (by simp [entA]) ?_
  refine s_setattr (Tg.cut (comb D1 D2) ?_ ?_)
  · refine e_ifexp ?_
    refine b_cmp ?_; refine e_attr ?_; refine e_name (by walk_at "mem") ?_
    refine a_attr (.tail _ (.tail _ (.tail _ (.tail _ b1)))) (.tail _ (.tail _ (.tail _ (.tail _ b2)))) look_d ?_ hD2.nc
    refine e_none ?_
    refine o_is_none (x := D2) (asb ?_) hD2.nu hD2.nc
    rcases hD2 with rfl | ⟨k, rfl, _⟩
    · rw [if_pos rfl]
      refine e_attr ?_; refine e_name (by walk_at "mem") ?_
      refine a_attr (.tail _ (.tail _ (.tail _ (.tail _ a1)))) (.tail _ (.tail _ (.tail _ (.tail _ a2)))) look_d ⟨rfl, rfl, rfl⟩ hD1.nc
    · rw [if_neg (show ¬ (false = true) by decide)]
      refine e_attr ?_; refine e_name (by walk_at "mem") ?_
      refine a_attr (.tail _ (.tail _ (.tail _ (.tail _ b1)))) (.tail _ (.tail _ (.tail _ (.tail _ b2)))) look_d ⟨rfl, rfl, rfl⟩
  refine e_name (by walk_at "mem") ?_
  refine u_attr (.tail _ (.head _)) (.tail _ (.tail _ (.head _))) put_d (.tail (.tail .head)) (by simp [entA]) ?_
  refine s_setattr (Tg.cut .none ?_ ?_)
  · refine e_ifexp ?_
    refine b_cmp ?_; refine e_attr ?_; refine e_name (by walk_at "mem") ?_
    refine a_attr (.tail _ (.tail _ (.tail _ (.tail _ b1)))) (.tail _ (.tail _ (.tail _ (.tail _ b2)))) look_q ?_
    refine e_none ?_
    refine o_is_none (x := .none) (asb ?_)
    rw [if_pos rfl]
    refine e_attr ?_; refine e_name (by walk_at "mem") ?_
    refine a_attr (.tail _ (.tail _ (.tail _ (.tail _ a1)))) (.tail _ (.tail _ (.tail _ (.tail _ a2)))) look_q ⟨rfl, rfl, rfl⟩
  refine e_name (by walk_at "mem") ?_
  refine u_attr (.tail _ (.head _)) (.tail _ (.tail _ (.head _))) put_q (.tail (.tail .head)) (by simp [entA]) ?_
  refine s_ret ?_; refine e_name (by walk_at "mem") ?_
  exact SubP.sel (by walk_at "sel") (h x d nu nr)
end

inductive BindV (w : World) (fd : FuncData) (rs : List MV) (ρ₀ : Addr → Rho) (s : Shared) (vs : List Value) : Prop
  | mk (binds : List (Str × Value)) (us : List Value) (hb : ∀ (M : Model) (A : Around) (E : Value → Shared → Prop) (Q : List (Str × Value) → Shared → Prop), Q binds { s with heap := s.heap.push { cls := .type "tuple", data := .seq (List.toArray us) } } → wpAny M A (bindArgs fd ⟨vs, []⟩) Q E s) (hus : VRs rs us)
      (hloc : ∀ x ∈ binds, fd.scope.names.lookup x.1 = some .local) (hρ : ∀ p ∈ ρ₀ s.heap.objs.size, LR p.2 (binds.reverse.lookup p.1))
section
variable {w : World} {G : Gl w} {A : Around} {L : Addr} {env : Env} {ρ ρ' : Rho} {μ μ' : Mu} {s₀ : Shared} {B : Addr → Option Obj} {s : Shared}
theorem c_enterv {f : Addr} {fd : FuncData} {body : List Stmt} {oc : Value} {od : Option Addr} {osl : Array (Option Value)} {args : List MV} {P : MV → Mu → Prop} {ρ₀ : Addr → Rho} {rs : List MV} (ho : (KK w.params).lookup f = some ⟨oc, od, .func fd, osl⟩) (hbody : fd.body = .stmts body)
    (hcd : codeIn (KK w.params) fd.code fd.qualname = true) (hroom : A.depth < recursionLimit) (hcell : (fd.scope.names.all fun x => !(x.2 == .cell)) = true) (hco : fd.scope.isCoroutine = false) (hgen : fd.scope.isGenerator = false) (hk : fd.scope.kind = .function)
    (hn : ∀ t, ((ρ₀ t).map (·.1)).Nodup) (hb : ∀ s vs, VRs args vs → BindV w fd rs ρ₀ s vs)
    (h : ∀ L' t, X G (A.deeper (callEnv fd L' f)) (callEnv fd L' f).locals (execs body (callEnv fd L' f)) (fun fl ρ μ' => P (retOf fl) μ') (ρ₀ t) ((t, .tuple rs) :: μ)) : CC G A (.ref f) args P μ := fun s₀ B L ρ s vs hs hv => by
  obtain ⟨binds, us, hbt, hus, hloc, hρ⟩ := hb s vs hv
  have hcell' : ∀ x ∈ fd.scope.names, x.2 ≠ .cell := fun x hx e => by
    have := List.all_eq_true.mp hcell x hx
    rw [e] at this; cases this
  have hs1 := hs.push (o := .tuple rs) (x := { cls := .type "tuple", data := .seq (List.toArray us) }) (tk := s.toks) ⟨us, _, rfl, hus⟩ rfl
  refine codeAny_call_function hroom (hs.K _ _ ho) rfl hco hgen hbody (codeRec_of hs.K hcd) (hbt _ _ _ _ ?_)
  refine wpAny_newFunctionEnv hcell' hloc (fun h₀ hns₀ hsb₀ => ⟨hs1.T.nolimit.fresh _ hsb₀, codeAny_func ?_⟩) hk
  refine Tg.use (h _ s.heap.objs.size) (hs1.callee hns₀ (fun b o e => hsb₀.extBut b o (Nat.ne_of_lt (Heap.lt_size e)) (Heap.get?_push_of_some _ e)) hρ (hn _)) fun fl g ρ₁ μ₁ s₁ hf hs₁ hp => ?_
  exact ⟨retOf fl, μ₁, vr_ret hf, hs1.caller hs₁, hp⟩
theorem c_enterd {f : Addr} {fd : FuncData} {body : List Stmt} {oc : Value} {od : Option Addr} {osl : Array (Option Value)} {args : List MV} {P : MV → Mu → Prop} {ρ₀ : Rho} (ho : (KK w.params).lookup f = some ⟨oc, od, .func fd, osl⟩) (hbody : fd.body = .stmts body)
    (hcd : codeIn (KK w.params) fd.code fd.qualname = true) (hroom : A.depth < recursionLimit) (hcell : (fd.scope.names.all fun x => !(x.2 == .cell)) = true) (hco : fd.scope.isCoroutine = false) (hgen : fd.scope.isGenerator = false) (hk : fd.scope.kind = .function)
    (hn : (ρ₀.map (·.1)).Nodup) (hb : ∀ s vs, (KK w.params).In s.heap → VRs args vs → ∃ binds, BindsTo s fd ⟨vs, []⟩ binds ∧ (∀ x ∈ binds, fd.scope.names.lookup x.1 = some .local) ∧ ∀ p ∈ ρ₀, LR p.2 (binds.reverse.lookup p.1))
    (h : ∀ L', X G (A.deeper (callEnv fd L' f)) (callEnv fd L' f).locals (execs body (callEnv fd L' f)) (fun fl ρ μ' => P (retOf fl) μ') ρ₀ μ) : CC G A (.ref f) args P μ := fun s₀ B L ρ s vs hs hv => by
  obtain ⟨binds, hbt, hloc, hρ⟩ := hb s vs hs.K hv
  have hcell' : ∀ x ∈ fd.scope.names, x.2 ≠ .cell := fun x hx e => by
    have := List.all_eq_true.mp hcell x hx
    rw [e] at this; cases this
  refine codeAny_call_def hroom (hs.K _ _ ho) rfl hs.T.nolimit (codeRec_of hs.K hcd) hbody hbt hcell' hloc (fun h₁ hns hk₁ => ?_) hco hgen hk
  refine Tg.use (h s.heap.objs.size) (hs.callee hns hk₁ hρ hn) fun fl g ρ₁ μ₁ s₁ hf hs₁ hp => ?_
  exact ⟨retOf fl, μ₁, vr_ret hf, hs.caller hs₁, hp⟩
theorem c_fnd {f : Addr} {fd : FuncData} {body : List Stmt} {oc : Value} {od : Option Addr} {osl : Array (Option Value)} {args : List MV} {P : MV → Mu → Prop} {nm : List (Str × NameKind)} {mr : List (Str × Const)} (ρ₀ : Rho) (ho : (KK w.params).lookup f = some ⟨oc, od, .func fd, osl⟩) (hroom : A.depth < recursionLimit) (hbody : fd.body = .stmts body)
    (hcd : codeIn (KK w.params) fd.code fd.qualname = true) (hcell : (fd.scope.names.all fun x => !(x.2 == .cell)) = true) (hco : fd.scope.isCoroutine = false) (hgen : fd.scope.isGenerator = false) (hk : fd.scope.kind = .function)
    (hsc : fd.scope = { kind := .function, names := nm, isGenerator := false, isCoroutine := false, more := mr }) (hg : fd.globals = mainGlobals) (hcl : fd.closure = []) (hbi : fd.builtins = builtinsNs)
    (hn : (ρ₀.map (·.1)).Nodup) (hb : ∀ s vs, (KK w.params).In s.heap → VRs args vs → ∃ binds, BindsTo s fd ⟨vs, []⟩ binds ∧ (∀ x ∈ binds, fd.scope.names.lookup x.1 = some .local) ∧ ∀ p ∈ ρ₀, LR p.2 (binds.reverse.lookup p.1))
    (h : ∀ L' q cd, X G (A.deeper (envS nm mr [] L' q f cd)) (envS nm mr [] L' q f cd).locals (execs body (envS nm mr [] L' q f cd)) (fun fl ρ μ' => P (retOf fl) μ') ρ₀ μ) : CC G A (.ref f) args P μ :=
  c_enterd ho hbody hcd hroom hcell hco hgen hk hn hb (fun L' => by
      have e : callEnv fd L' f = envS nm mr [] L' (fd.qualname ++ ".<locals>.") f fd.code := by
        unfold callEnv newEnv envS
        rw [hsc, hg, hcl, hbi]
      rw [e]
      exact h _ _ _)
theorem c_fnv {f : Addr} {fd : FuncData} {body : List Stmt} {oc : Value} {od : Option Addr} {osl : Array (Option Value)} {args rs : List MV} {P : MV → Mu → Prop} {nm : List (Str × NameKind)} {mr : List (Str × Const)} (ρ₀ : Addr → Rho) (ho : (KK w.params).lookup f = some ⟨oc, od, .func fd, osl⟩) (hroom : A.depth < recursionLimit) (hbody : fd.body = .stmts body)
    (hcd : codeIn (KK w.params) fd.code fd.qualname = true) (hcell : (fd.scope.names.all fun x => !(x.2 == .cell)) = true) (hco : fd.scope.isCoroutine = false) (hgen : fd.scope.isGenerator = false) (hk : fd.scope.kind = .function)
    (hsc : fd.scope = { kind := .function, names := nm, isGenerator := false, isCoroutine := false, more := mr }) (hg : fd.globals = mainGlobals) (hcl : fd.closure = []) (hbi : fd.builtins = builtinsNs)
    (hn : ∀ t, ((ρ₀ t).map (·.1)).Nodup) (hb : ∀ s vs, VRs args vs → BindV w fd rs ρ₀ s vs)
    (h : ∀ L' q cd t, X G (A.deeper (envS nm mr [] L' q f cd)) (envS nm mr [] L' q f cd).locals (execs body (envS nm mr [] L' q f cd)) (fun fl ρ μ' => P (retOf fl) μ') (ρ₀ t) ((t, .tuple rs) :: μ)) : CC G A (.ref f) args P μ :=
  c_enterv ho hbody hcd hroom hcell hco hgen hk hn hb (fun L' t => by
      have e : callEnv fd L' f = envS nm mr [] L' (fd.qualname ++ ".<locals>.") f fd.code := by
        unfold callEnv newEnv envS
        rw [hsc, hg, hcl, hbi]
      rw [e]
      exact h _ _ _ _)
end

noncomputable def tsA (n : Addr) (rd : MV) (np nf : Int) : List (Str × MV) := [(Str.ofString "_node2info", .ref n), (Str.ofString "_ready_nodes", rd), (Str.ofString "_npassedout", .int np), (Str.ofString "_nfinished", .int nf)]
section
variable {w : World} {G : Gl w} {A : Around} {L : Addr} {env : Env} {ρ ρ' : Rho} {μ μ' : Mu}
set_option maxRecDepth 100000 in
theorem c_ts_init {P : MV → Mu → Prop} (hroom : A.depth < recursionLimit) {x d : Addr} (h : ∀ n, P .none ((n, .idict 0 []) :: (x, .obj 186 d []) :: (d, .attrs (tsA n .none 0 0)) :: μ)) : CC G A (.ref 122) [.ref x] P ((x, .obj 186 d []) :: (d, .attrs []) :: μ) := by
  refine c_fnd [(Str.ofString "self", .ref x), (Str.ofString "graph", .none), (Str.ofString "node", .undef), (Str.ofString "predecessors", .undef)] rfl hroom rfl rfl rfl rfl rfl rfl rfl rfl rfl rfl (by simp only [List.map_cons, List.map_nil]; decide) ?_ ?_
  · intro s vs hK hv
    refine va1 hv fun v hv => ?_
    · refine ⟨[(Str.ofString "self", v), (Str.ofString "graph", .none)], BindsTo.of_defaults rfl (hK _ _ rfl) rfl rfl rfl, ?_, ?_⟩
      · intro y hy
        simp only [List.mem_cons, List.not_mem_nil, or_false] at hy
        rcases hy with rfl | rfl <;> rfl
      · intro q hq
        simp only [List.mem_cons, List.not_mem_nil, or_false] at hq
        rcases hq with rfl | rfl | rfl | rfl
        · exact .inr ⟨v, rfl, hv⟩
        · exact .inr ⟨.none, rfl, rfl⟩
        · exact .inl rfl
        · exact .inl rfl
  intro L' qn cd
  refine s_setattr (e_dict0 fun n => ?_)
  refine e_name (by walk_at "mem") ?_
  refine u_attr (.tail _ (.head _)) (.tail _ (.tail _ (.head _))) .nil (.tail (.tail .head)) (by simp) ?_
  refine s_setattr ?_; refine e_none ?_; refine e_name (by walk_at "mem") ?_
  refine u_attr (.tail _ (.head _)) (.tail _ (.tail _ (.head _))) (.tail (by decide) .nil) (.tail (.tail .head)) (by simp) ?_
  refine s_setattr ?_; refine e_int ?_; refine e_name (by walk_at "mem") ?_
  refine u_attr (.tail _ (.head _)) (.tail _ (.tail _ (.head _))) (.tail (by decide) (.tail (by decide) .nil)) (.tail (.tail .head)) (by simp) ?_
  refine s_setattr ?_; refine e_int ?_; refine e_name (by walk_at "mem") ?_
  refine u_attr (.tail _ (.head _)) (.tail _ (.tail _ (.head _))) (.tail (by decide) (.tail (by decide) (.tail (by decide) .nil))) (.tail (.tail .head)) (by simp) ?_
  refine s_if ?_
  refine b_cmp ?_; refine e_name (by walk_at "mem") ?_; refine e_none ?_
  refine o_isnot_none (x := .none) (asb ?_)
  rw [if_neg (show ¬ (false = true) by decide)]
  refine s_nil ?_; refine seq_next ?_; refine s_nil ?_
  exact h n
theorem c_ts {P : MV → Mu → Prop} (hroom : A.depth + 1 < recursionLimit) (h : ∀ x d n, P (.ref x) ((n, .idict 0 []) :: (x, .obj 186 d []) :: (d, .attrs (tsA n .none 0 0)) :: μ)) : CC G A (.ref 186) [] P μ := by
  refine c_make rfl rfl rfl fun A' x d h1 h2 h3 => ?_
  exact c_ts_init (by omega) fun n => ⟨rfl, h x d n⟩
set_option maxRecDepth 100000 in
theorem c_ni_init {P : MV → Mu → Prop} (hroom : A.depth < recursionLimit) {x d : Addr} {k : Int} (h : ∀ sc, P .none ((sc, .list []) :: (x, .obj 89 d [.int k, .int 0, .ref sc]) :: (d, .attrs []) :: μ)) : CC G A (.ref 85) [.ref x, .int k] P ((x, .obj 89 d []) :: (d, .attrs []) :: μ) := by
  refine c_fn [Str.ofString "self", Str.ofString "node"] [] rfl (by omega) rfl rfl rfl rfl rfl rfl rfl rfl rfl rfl (by decide) rfl rfl rfl (fun vs hv => va2 hv fun _ _ _ _ => rfl) ?_
  intro L' qn cd
  show X G _ _ (execs _ _) _ [(Str.ofString "self", .ref x), (Str.ofString "node", .int k)] _
  refine s_setattr ?_; refine e_name (by walk_at "mem") ?_; refine e_name (by walk_at "mem") ?_
  refine u_slot (p := 90) (i := 0) (.head _) (.tail _ (.head _)) rfl rfl (by decide) .head ?_
  refine s_setattr ?_; refine e_int ?_; refine e_name (by walk_at "mem") ?_
  refine u_slot (p := 91) (i := 1) (.head _) (.tail _ (.head _)) rfl rfl (by decide) .head ?_
  refine s_setattr ?_; refine e_list ?_; refine a_nil ?_
  refine ⟨by decide, fun sc => ?_⟩
  refine e_name (by walk_at "mem") ?_
  refine u_slot (p := 92) (i := 2) (.tail _ (.head _)) (.tail _ (.tail _ (.head _))) rfl rfl (by decide) (.tail .head) ?_
  refine s_nil ?_
  exact h sc
theorem c_ni {P : MV → Mu → Prop} (hroom : A.depth + 1 < recursionLimit) {k : Int} (h : ∀ x d sc, P (.ref x) ((sc, .list []) :: (x, .obj 89 d [.int k, .int 0, .ref sc]) :: (d, .attrs []) :: μ)) : CC G A (.ref 89) [.int k] P μ := by
  refine c_make rfl rfl rfl fun A' x d h1 h2 h3 => ?_
  exact c_ni_init (by omega) fun sc => ⟨rfl, h x d sc⟩
end

structure TSt where
  ks : List Int
  ni : Int → Addr
  dn : Int → Addr
  sc : Int → Addr
  np : Int → Int
  su : Int → List Int
  ts : Addr
  d : Addr
  n : Addr
  ep : Nat
  rd : MV
  a : Int
  b : Int
noncomputable def TSt.niO (t : TSt) (k : Int) : MO := .obj 89 (t.dn k) [.int k, .int (t.np k), .ref (t.sc k)]
structure Sorter (t : TSt) (S : Mu) : Prop where
  o : (t.ts, MO.obj 186 t.d []) ∈ S
  at_ : (t.d, MO.attrs (tsA t.n t.rd t.a t.b)) ∈ S
  di : (t.n, MO.idict t.ep (t.ks.map fun k => (k, MV.ref (t.ni k)))) ∈ S
  nd : ∀ k ∈ t.ks, (t.ni k, t.niO k) ∈ S ∧ (t.dn k, MO.attrs []) ∈ S ∧ (t.sc k, MO.list (mints (t.su k))) ∈ S
  inj : ∀ k ∈ t.ks, ∀ k' ∈ t.ks, t.sc k = t.sc k' → k = k'
  nodup : t.ks.Nodup
theorem lookD_map {f : Int → MV} : ∀ {ks : List Int} {k : Int}, lookD k (ks.map fun k => (k, f k)) = if k ∈ ks then some (f k) else none
  | [], k => by simp [lookD]
  | j :: ks, k => by
    simp only [List.map_cons, lookD]
    by_cases h : j = k
    · subst h; simp
    · have h' : ¬ k = j := fun e => h e.symm
      rw [if_neg h, lookD_map]; simp [h']
theorem storedD_new {f : Int → MV} {ks : List Int} {k : Int} {v : MV} (h : k ∉ ks) : storedD (ks.map fun k => (k, f k)) k v = (ks.map fun k => (k, f k)) ++ [(k, v)] := by
  unfold storedD
  rw [if_neg]
  simp only [List.any_eq_true, List.mem_map, decide_eq_true_eq, not_exists, not_and]
  rintro ⟨a, b⟩ ⟨j, hj, e⟩ rfl
  cases e; exact h hj
theorem setL_app {S Z : Mu} {a : Addr} {o : MO} (h : a ∉ Z.map (·.1)) : setL (S ++ Z) a o = setL S a o ++ Z := by
  unfold setL
  rw [List.map_append]
  congr 1
  exact setL_none h
theorem nodup_left {S Z : Mu} (h : ((S ++ Z).map (·.1)).Nodup) : (S.map (·.1)).Nodup := by
  rw [List.map_append] at h; exact (List.nodup_append.mp h).1
theorem nodup_sep {S Z : Mu} (h : ((S ++ Z).map (·.1)).Nodup) {a : Addr} {o : MO} (ha : (a, o) ∈ S) : a ∉ Z.map (·.1) := by
  rw [List.map_append] at h
  intro hm
  exact (List.nodup_append.mp h).2.2 a (List.mem_map_of_mem (f := Prod.fst) ha) a hm rfl
theorem set_in {S Z : Mu} {a : Addr} {o o₀ : MO} (h : ((S ++ Z).map (·.1)).Nodup) (ha : (a, o₀) ∈ S) : SetAt a o (S ++ Z) (setL S a o ++ Z) := by
  rw [← setL_app (nodup_sep h ha)]
  exact setAt_setL h (List.mem_append_left _ ha)
theorem ne_of_obj {S : Mu} {a b : Addr} {o o' : MO} (h : (S.map (·.1)).Nodup) (ha : (a, o) ∈ S) (hb : (b, o') ∈ S) (hne : o ≠ o') : a ≠ b := by
  rintro rfl; exact hne (key_unique h ha hb)
section
variable {w : World} {G : Gl w} {A : Around} {L : Addr} {env : Env} {ρ ρ' : Rho} {μ μ' : Mu}
set_option maxRecDepth 100000 in
theorem c_getni {P : MV → Mu → Prop} {S Z : Mu} {t : TSt} (hroom : A.depth + 2 < recursionLimit) (hS : Sorter t S) (hl : t.ks.length ≤ 1000) {k : Int}
    (h1 : k ∈ t.ks → P (.ref (t.ni k)) (S ++ Z))
    (h2 : k ∉ t.ks → ∀ x d s ep S', Sorter { t with ks := t.ks ++ [k], ni := fun j => if j = k then x else t.ni j, dn := fun j => if j = k then d else t.dn j, sc := fun j => if j = k then s else t.sc j, np := fun j => if j = k then 0 else t.np j, su := fun j => if j = k then [] else t.su j, ep := ep } S' → (∀ q ∈ S, q.1 ≠ t.n → q ∈ S') → P (.ref x) (S' ++ Z)) : CC G A (.ref 129) [.ref t.ts, .int k] P (S ++ Z) := by
  refine CC.nodup fun hn => ?_
  have hnS := nodup_left hn
  refine c_fn [Str.ofString "self", Str.ofString "node"] [(Str.ofString "result", .undef)] rfl (by omega) rfl rfl rfl rfl rfl rfl rfl rfl rfl rfl (by decide) rfl rfl rfl (fun vs hv => va2 hv fun _ _ _ _ => rfl) ?_
  intro L' qn cd
  show X G _ _ (execs _ _) _ [(Str.ofString "self", .ref t.ts), (Str.ofString "node", .int k), (Str.ofString "result", .undef)] _
  refine s_if (b_cmp (e_walrus ?_))
  refine e_meth F.plainAttrs_dict F.slot_dict_get F.type_dict_get ?_
  refine e_attr ?_; refine e_name (by walk_at "mem") ?_
  refine a_attr (List.mem_append_left _ hS.o) (List.mem_append_left _ hS.at_) (v := .ref t.n) rfl ?_
  refine ⟨isT_dict (List.mem_append_left _ hS.di), ?_⟩
  refine a_cons ?_; refine e_name (by walk_at "mem") ?_; refine a_nil ?_
  refine c_dictget (List.mem_append_left _ hS.di) ?_
  rw [lookD_map]
  by_cases hk : k ∈ t.ks
  · rw [if_pos hk]
    refine stp (by walk_at "pt") ?_
    refine e_none ?_
    refine o_is_none (x := .ref (t.ni k)) (asb ?_)
    rw [if_neg (show ¬ (false = true) by decide)]
    refine s_nil ?_; refine seq_next ?_; refine s_ret ?_; refine e_name (by walk_at "mem") ?_
    exact h1 hk
  · rw [if_neg hk]
    refine stp (by walk_at "pt") ?_
    refine e_none ?_
    refine o_is_none (x := .none) (asb ?_)
    rw [if_pos rfl]
    refine s_assign2 ?_
    refine e_callfn rfl rfl ?_; refine a_cons ?_; refine e_name (by walk_at "mem") ?_; refine a_nil ?_
    refine c_ni (by show A.depth + 1 + 1 < _; omega) fun x d s => ?_
    refine e_attr ?_; refine e_name (by walk_at "mem") ?_
    refine a_attr (.tail _ (.tail _ (.tail _ (List.mem_append_left _ hS.o)))) (.tail _ (.tail _ (.tail _ (List.mem_append_left _ hS.at_)))) (v := .ref t.n) rfl ?_
    refine e_name (by walk_at "mem") ?_
    refine sj_dict (.tail _ (.tail _ (.tail _ (List.mem_append_left _ hS.di)))) (by rw [List.length_map]; show _ ≤ 1000000; omega) fun ep => ?_
    rw [storedD_new hk]
    refine ⟨_, .tail (.tail (.tail (set_in hn hS.di))), ?_⟩
    refine stp (by walk_at "pt") ?_
    refine Tg.nodup fun hn2 => ?_
    refine s_nil ?_; refine seq_next ?_; refine s_ret ?_; refine e_name (by walk_at "mem") ?_
    refine h2 hk x d s ep ((s, .list []) :: (x, .obj 89 d [.int k, .int 0, .ref s]) :: (d, .attrs []) :: setL S t.n (.idict ep ((t.ks.map fun k => (k, MV.ref (t.ni k))) ++ [(k, .ref x)]))) ?_ ?_
    · simp only [List.map_cons, List.nodup_cons, List.mem_cons, List.map_append, List.mem_append, setL_keys, not_or] at hn2
      have hsS : s ∉ S.map (·.1) := hn2.1.2.2.1
      have kn : ∀ {c : Addr} {o : MO}, (c, o) ∈ S → c ≠ t.n → (c, o) ∈ (s, MO.list []) :: (x, .obj 89 d [.int k, .int 0, .ref s]) :: (d, .attrs []) :: setL S t.n (.idict ep ((t.ks.map fun k => (k, MV.ref (t.ni k))) ++ [(k, .ref x)])) := fun hm hne => .tail _ (.tail _ (.tail _ (mem_setL hm hne)))
      have nk : ∀ j ∈ t.ks, j ≠ k := fun j hj e => hk (e ▸ hj)
      refine ⟨kn hS.o (ne_of_obj hnS hS.o hS.di (by exact nofun)), kn hS.at_ (ne_of_obj hnS hS.at_ hS.di (by exact nofun)), ?_, ?_, ?_, ?_⟩
      · have e : ((t.ks ++ [k]).map fun j => (j, MV.ref (if j = k then x else t.ni j))) = (t.ks.map fun k => (k, MV.ref (t.ni k))) ++ [(k, .ref x)] := by
          rw [List.map_append]
          congr 1
          · exact List.map_congr_left fun j hj => by rw [if_neg (nk j hj)]
          · simp
        show (t.n, MO.idict ep ((t.ks ++ [k]).map fun j => (j, MV.ref (if j = k then x else t.ni j)))) ∈ _
        rw [e]
        exact .tail _ (.tail _ (.tail _ (mem_setL_self hS.di)))
      · intro j hj
        rcases List.mem_append.mp hj with hj | hj
        · have hne := nk j hj
          obtain ⟨n1, n2, n3⟩ := hS.nd j hj
          simp only [TSt.niO, hne, if_false]
          exact ⟨kn n1 (ne_of_obj hnS n1 hS.di (by exact nofun)), kn n2 (ne_of_obj hnS n2 hS.di (by exact nofun)), kn n3 (ne_of_obj hnS n3 hS.di (by exact nofun))⟩
        · rw [List.mem_singleton] at hj
          subst hj
          simp only [TSt.niO, if_true]
          exact ⟨.tail _ (.head _), .tail _ (.tail _ (.head _)), .head _⟩
      · intro j hj j' hj' e
        have key : ∀ i ∈ t.ks, t.sc i ≠ s := fun i hi e => hsS (e ▸ List.mem_map_of_mem (f := Prod.fst) (hS.nd i hi).2.2)
        dsimp only at e
        rcases List.mem_append.mp hj with hj | hj <;> rcases List.mem_append.mp hj' with hj' | hj'
        · rw [if_neg (nk j hj), if_neg (nk j' hj')] at e
          exact hS.inj j hj j' hj' e
        · rw [if_neg (nk j hj), if_pos (List.mem_singleton.mp hj')] at e
          exact absurd e (key j hj)
        · rw [if_pos (List.mem_singleton.mp hj), if_neg (nk j' hj')] at e
          exact absurd e.symm (key j' hj')
        · rw [List.mem_singleton.mp hj, List.mem_singleton.mp hj']
      · rw [List.nodup_append]
        exact ⟨hS.nodup, by simp, fun a ha b hb => by rw [List.mem_singleton.mp hb]; exact nk a ha⟩
    · intro q hq hne
      exact .tail _ (.tail _ (.tail _ (mem_setL hq hne)))
end

noncomputable def TSt.Blank (t : TSt) : Prop := ∀ k, k ∉ t.ks → t.np k = 0 ∧ t.su k = []
structure Grown (t t' : TSt) : Prop where
  np : t'.np = t.np
  su : t'.su = t.su
  ts : t'.ts = t.ts
  rd : t'.rd = t.rd
  a : t'.a = t.a
  b : t'.b = t.b
theorem Sorter.setNp {t : TSt} {S : Mu} {k v : Int} (h : Sorter t S) (hn : (S.map (·.1)).Nodup) (hk : k ∈ t.ks) : Sorter { t with np := fun j => if j = k then v else t.np j } (setL S (t.ni k) (.obj 89 (t.dn k) [.int k, .int v, .ref (t.sc k)])) := by
  have hni := (h.nd k hk).1
  have kn : ∀ {c : Addr} {o : MO}, (c, o) ∈ S → o ≠ t.niO k → (c, o) ∈ setL S (t.ni k) (.obj 89 (t.dn k) [.int k, .int v, .ref (t.sc k)]) := fun hm hne => mem_setL hm (ne_of_obj hn hm hni hne)
  refine ⟨kn h.o (by unfold TSt.niO; intro e; injection e with e1 e2 e3; cases e1), kn h.at_ (by exact nofun), kn h.di (by exact nofun), fun j hj => ?_, h.inj, h.nodup⟩
  obtain ⟨n1, n2, n3⟩ := h.nd j hj
  refine ⟨?_, kn n2 (by exact nofun), kn n3 (by exact nofun)⟩
  by_cases e : j = k
  · subst e
    simp only [TSt.niO, if_true]
    exact mem_setL_self hni
  · have := kn n1 (by unfold TSt.niO; intro e'; injection e' with e1 e2 e3; injection e3 with e4 _; injection e4 with e5; exact e e5)
    simpa only [TSt.niO, e, if_false] using this
theorem Sorter.setSu {t : TSt} {S : Mu} {k : Int} {l : List Int} (h : Sorter t S) (hn : (S.map (·.1)).Nodup) (hk : k ∈ t.ks) : Sorter { t with su := fun j => if j = k then l else t.su j } (setL S (t.sc k) (.list (mints l))) := by
  have hsc := (h.nd k hk).2.2
  have kn : ∀ {c : Addr} {o : MO}, (c, o) ∈ S → c ≠ t.sc k → (c, o) ∈ setL S (t.sc k) (.list (mints l)) := fun hm hne => mem_setL hm hne
  refine ⟨kn h.o (ne_of_obj hn h.o hsc (by exact nofun)), kn h.at_ (ne_of_obj hn h.at_ hsc (by exact nofun)), kn h.di (ne_of_obj hn h.di hsc (by exact nofun)), fun j hj => ?_, h.inj, h.nodup⟩
  obtain ⟨n1, n2, n3⟩ := h.nd j hj
  refine ⟨kn n1 (ne_of_obj hn n1 hsc (by exact nofun)), kn n2 (ne_of_obj hn n2 hsc (by exact nofun)), ?_⟩
  by_cases e : j = k
  · subst e
    simp only [if_true]
    exact mem_setL_self hsc
  · simp only [e, if_false]
    exact kn n3 fun e' => e (h.inj j hj k hk e')
section
variable {w : World} {G : Gl w} {A : Around} {L : Addr} {env : Env} {ρ ρ' : Rho} {μ μ' : Mu}
theorem c_getni' {P : MV → Mu → Prop} {S Z : Mu} {t : TSt} (hroom : A.depth + 2 < recursionLimit) (hS : Sorter t S) (hb : t.Blank) (hl : t.ks.length ≤ 1000) {k : Int}
    (h : ∀ t' S', Sorter t' S' → t'.Blank → Grown t t' → t'.ks = (if k ∈ t.ks then t.ks else t.ks ++ [k]) → P (.ref (t'.ni k)) (S' ++ Z)) : CC G A (.ref 129) [.ref t.ts, .int k] P (S ++ Z) := by
  refine c_getni hroom hS hl (fun hk => h t S hS hb ⟨rfl, rfl, rfl, rfl, rfl, rfl⟩ (by rw [if_pos hk])) fun hk x d s ep S' hS' _ => ?_
  have e1 : (fun j => if j = k then 0 else t.np j) = t.np := funext fun j => by
    by_cases e : j = k
    · subst e; rw [if_pos rfl, (hb j hk).1]
    · rw [if_neg e]
  have e2 : (fun j => if j = k then [] else t.su j) = t.su := funext fun j => by
    by_cases e : j = k
    · subst e; rw [if_pos rfl, (hb j hk).2]
    · rw [if_neg e]
  have := h _ S' hS' ?_ ⟨e1, e2, rfl, rfl, rfl, rfl⟩ (by rw [if_neg hk])
  · simpa using this
  · intro j hj
    have hj' : j ∉ t.ks := fun hm => hj (List.mem_append_left _ hm)
    have hne : j ≠ k := fun e => hj (List.mem_append_right _ (by simp [e]))
    simp only [hne, if_false]
    exact hb j hj'
noncomputable def addNp (np : Int → Int) (k : Int) (n : Nat) : Int → Int := fun j => if j = k then np j + n else np j
noncomputable def addSu (su : Int → List Int) (k : Int) (ps : List Int) : Int → List Int := fun j => if j ∈ ps then su j ++ [k] else su j
inductive AddJ (t t1 : TSt) (k : Int) (ps : List Int) (tp : Addr) (Z : Mu) (i : Nat) (ρ₁ : Rho) (μ₁ : Mu) : Prop
  | mk (t3 : TSt) (S3 : Mu) (v1 v2 : MV) (z1 : ρ₁ = [(Str.ofString "self", .ref t.ts), (Str.ofString "node", .int k), (Str.ofString "predecessors", .ref tp), (Str.ofString "nodeinfo", .ref (t1.ni k)), (Str.ofString "pred", v1), (Str.ofString "pred_info", v2)]) (z2 : μ₁ = S3 ++ ((tp, .tuple (mints ps)) :: Z)) (z3 : Sorter t3 S3) (z4 : t3.Blank) (z5 : t3.np = addNp t.np k ps.length) (z6 : t3.su = addSu t.su k (ps.take i)) (z7 : t3.ts = t.ts) (z8 : t3.rd = t.rd) (z9 : t3.a = t.a) (z10 : t3.b = t.b) (z11 : (∀ j, j ∈ t3.ks ↔ j ∈ t.ks ∨ j = k ∨ j ∈ ps.take i)) (z12 : t3.ks.length ≤ t.ks.length + 1 + i)
set_option maxRecDepth 100000 in
theorem c_add {P : MV → Mu → Prop} {S Z : Mu} {t : TSt} (hroom : A.depth + 3 < recursionLimit) (hh : A.handled = none) (hS : Sorter t S) (hb : t.Blank) (hr : t.rd = .none) (hl : t.ks.length + 10 ≤ 1000) {k : Int} {ps : List Int} (hps : ps.Nodup) (hpl : ps.length ≤ 5) (hsu : ∀ j, (t.su j).length ≤ 1000)
    (h : ∀ t' S', Sorter t' S' → t'.Blank → t'.np = addNp t.np k ps.length → t'.su = addSu t.su k ps → t'.ts = t.ts → t'.rd = t.rd → t'.a = t.a → t'.b = t.b → (∀ j, j ∈ t'.ks ↔ j ∈ t.ks ∨ j = k ∨ j ∈ ps) → t'.ks.length ≤ t.ks.length + 6 → P .none (S' ++ Z)) :
    CC G A (.ref 136) (.ref t.ts :: .int k :: mints ps) P (S ++ Z) := by
  refine c_fnv (rs := mints ps) (fun tp => [(Str.ofString "self", .ref t.ts), (Str.ofString "node", .int k), (Str.ofString "predecessors", .ref tp), (Str.ofString "nodeinfo", .undef), (Str.ofString "pred", .undef), (Str.ofString "pred_info", .undef)]) rfl (by omega) rfl rfl rfl rfl rfl rfl rfl rfl rfl rfl (fun tp => by simp only [List.map_cons, List.map_nil]; decide) ?_ ?_
  · intro s vs hv
    refine vrc hv fun v1 _ hv1 hv' => ?_
    refine vrc hv' fun v2 us hv2 hus => ?_
    · refine ⟨[(Str.ofString "self", v1), (Str.ofString "node", v2), (Str.ofString "predecessors", .ref s.heap.objs.size)], us, ?_, hus, ?_, ?_⟩
      · intro M A E Q hQ
        have hlen : us.length ≤ 5 := by rw [hus.length, mints_len]; exact hpl
        suffices hg : wpAny M A (newTuple us >>= fun z => pure [(Str.ofString "self", v1), (Str.ofString "node", v2), (Str.ofString "predecessors", z)]) Q E s by
          cases us with
          | nil => exact hg
          | cons u r => exact hg
        exact wpAny_bind (wpAny_newTuple (wpAny_pure hQ) (by show us.length ≤ 16777216; omega))
      · intro y hy
        simp only [List.mem_cons, List.not_mem_nil, or_false] at hy
        rcases hy with rfl | rfl | rfl <;> rfl
      · intro q hq
        simp only [List.mem_cons, List.not_mem_nil, or_false] at hq
        rcases hq with rfl | rfl | rfl | rfl | rfl | rfl
        · exact .inr ⟨v1, rfl, hv1⟩
        · exact .inr ⟨v2, rfl, hv2⟩
        · exact .inr ⟨_, rfl, rfl⟩
        all_goals exact .inl rfl
  intro L' qn cd tp
  refine Tg.sel (S ++ ((tp, .tuple (mints ps)) :: Z)) (by walk_at "sel") ?_
  refine s_if ?_
  refine b_cmp ?_; refine e_attr ?_; refine e_name (by walk_at "mem") ?_
  refine a_attr (List.mem_append_left _ hS.o) (List.mem_append_left _ hS.at_) (v := .none) (by rw [hr]; rfl) ?_
  refine e_none ?_
  refine o_isnot_none (x := .none) (asb ?_)
  rw [if_neg (show ¬ (false = true) by decide)]
  refine s_nil ?_; refine seq_next ?_; refine s_assign ?_
  refine e_methi ?_
  refine e_name (by walk_at "mem") ?_
  refine ⟨t.ts, 186, t.d, [], tsA t.n t.rd t.a t.b, 129, rfl, List.mem_append_left _ hS.o, List.mem_append_left _ hS.at_, rfl, rfl, rfl, rfl, rfl, ?_⟩
  refine a_cons ?_; refine e_name (by walk_at "mem") ?_; refine a_nil ?_
  refine c_getni' (by show A.depth + 1 + 2 < _; omega) hS hb (by omega) fun t1 S1 hS1 hb1 hg1 hk1 => ?_
  have hkin : k ∈ t1.ks := by rw [hk1]; split <;> simp_all
  refine stp (by walk_at "pt") ?_
  refine Tg.nodup fun hn1 => ?_
  have hn1S := nodup_left hn1
  refine s_augattr ?_; refine e_name (by walk_at "mem") ?_
  refine a_slot (p := 91) (i := 1) (List.mem_append_left _ (hS1.nd k hkin).1) (List.mem_append_left _ (hS1.nd k hkin).2.1) rfl rfl (v := .int (t1.np k)) rfl ?_
  refine e_callb rfl rfl (by decide) ?_; refine a_cons ?_; refine e_name (by walk_at "mem") ?_; refine a_nil ?_
  refine c_lenT (xs := mints ps) (List.mem_append_right _ (.head _)) (by rw [mints_len]; show _ ≤ 1000000; omega) ?_
  rw [mints_len]
  refine o_iadd ?_
  refine u_slot (p := 91) (i := 1) (List.mem_append_left _ (hS1.nd k hkin).1) (List.mem_append_left _ (hS1.nd k hkin).2.1) rfl rfl (by decide) (set_in hn1 (hS1.nd k hkin).1) ?_
  have hS2 := hS1.setNp (v := t1.np k + ps.length) hn1S hkin
  have eset : MO.obj 89 (t1.dn k) (setSlot [.int k, .int (t1.np k), .ref (t1.sc k)] 1 (.int (t1.np k + ps.length))) = .obj 89 (t1.dn k) [.int k, .int (t1.np k + ps.length), .ref (t1.sc k)] := rfl
  rw [eset]
  generalize hS2e : setL S1 (t1.ni k) (.obj 89 (t1.dn k) [.int k, .int (t1.np k + ps.length), .ref (t1.sc k)]) = S2 at *
  refine s_for ?_
  refine e_name (by walk_at "mem") ?_
  refine ⟨(mints ps).length, listV (mints ps), fun μ => (tp, MO.tuple (mints ps)) ∈ μ, AddJ t t1 k ps tp Z,
    itOf_tuple hh (List.mem_append_right _ (.head _)), ?_, ?_, ?_, ?_⟩
  · rintro i _ _ ⟨t3, S3, v1, v2, rfl, rfl, _⟩; exact List.mem_append_right _ (.head _)
  · refine ⟨_, S2, .undef, .undef, rfl, rfl, hS2, ?_, ?_, ?_, hg1.ts, hg1.rd, hg1.a, hg1.b, ?_, ?_⟩
    · intro j hj
      have hne : j ≠ k := fun e => hj (by rw [e]; exact hkin)
      simp only [hne, if_false]
      exact hb1 j hj
    · funext j
      by_cases e : j = k
      · subst e; simp [addNp, hg1.np]
      · simp [addNp, e, hg1.np]
    · funext j; simp [addSu, hg1.su]
    · intro j
      show j ∈ t1.ks ↔ _
      rw [hk1]
      by_cases e : k ∈ t.ks
      · rw [if_pos e]; simp; intro e'; rw [e']; exact e
      · rw [if_neg e]; simp
    · show t1.ks.length ≤ _
      rw [hk1]; split <;> simp
  · rintro i _ _ hi ⟨t3, S3, v1, v2, rfl, rfl, hS3, hb3, hnp3, hsu3, hts3, hrd3, ha3, hb3', hks3, hkl3⟩
    rw [mints_len] at hi
    have hv : listV (mints ps) i = .int (ps.getD i 0) := by
      have h1 := listV_get (xs := mints ps) (i := i) (by rw [mints_len]; exact hi)
      rw [mints_get (k := ps.getD i 0) (by simp [List.getD, List.getElem?_eq_getElem hi])] at h1
      exact (Option.some.inj h1).symm
    have htk : ps.take (i + 1) = ps.take i ++ [ps.getD i 0] := by rw [List.take_succ_eq_append_getElem hi]; simp [List.getD, List.getElem?_eq_getElem hi]
    have hnot : ps.getD i 0 ∉ ps.take i := by
      have h1 : (ps.take (i + 1)).Nodup := (List.take_sublist _ _).nodup hps
      rw [htk, List.nodup_append] at h1
      exact fun hm => h1.2.2 _ hm _ (by simp) rfl
    rw [hv]
    generalize ps.getD i 0 = pr at *
    refine stp (by walk_at "pt") ?_
    refine s_assign ?_
    refine e_methi ?_
    refine e_name (by walk_at "mem") ?_
    rw [← hts3]
    refine ⟨t3.ts, 186, t3.d, [], tsA t3.n t3.rd t3.a t3.b, 129, rfl, List.mem_append_left _ hS3.o, List.mem_append_left _ hS3.at_, rfl, rfl, rfl, rfl, rfl, ?_⟩
    refine a_cons ?_; refine e_name (by walk_at "mem") ?_; refine a_nil ?_
    refine c_getni' (by show A.depth + 1 + 2 < _; omega) hS3 hb3 (by omega) fun t4 S4 hS4 hb4 hg4 hk4 => ?_
    have hpin : pr ∈ t4.ks := by rw [hk4]; split <;> simp_all
    refine stp (by walk_at "pt") ?_
    refine Tg.nodup fun hn4 => ?_
    have hn4S := nodup_left hn4
    have hsl : (t4.su pr).length ≤ 1000 := by rw [hg4.su, hsu3, addSu, if_neg hnot]; exact hsu pr
    refine s_expr ?_; refine e_meth F.plainAttrs_list F.slot_list_append F.type_list_append ?_; refine e_attr ?_; refine e_name (by walk_at "mem") ?_
    refine a_slot (p := 92) (i := 2) (List.mem_append_left _ (hS4.nd pr hpin).1) (List.mem_append_left _ (hS4.nd pr hpin).2.1) rfl rfl (v := .ref (t4.sc pr)) rfl ?_
    refine ⟨isT_list (List.mem_append_left _ (hS4.nd pr hpin).2.2), ?_⟩
    refine a_cons ?_; refine e_name (by walk_at "mem") ?_; refine a_nil ?_
    refine c_append (List.mem_append_left _ (hS4.nd pr hpin).2.2) (by rw [mints_len]; show _ ≤ 1000000; omega) (set_in hn4 (hS4.nd pr hpin).2.2) ?_
    rw [show mints (t4.su pr) ++ [MV.int k] = mints (t4.su pr ++ [k]) by simp [mints]]
    have hS5 := hS4.setSu (l := t4.su pr ++ [k]) hn4S hpin
    refine s_nil (turn_next ⟨_, List.Sublist.refl _, _, _, .int pr, .ref (t4.ni pr), by rw [hts3], rfl, hS5, ?_, hg4.np.trans hnp3, ?_, hg4.ts.trans hts3, hg4.rd.trans hrd3, hg4.a.trans ha3, hg4.b.trans hb3', ?_, ?_⟩)
    · intro j hj
      have hne : j ≠ pr := fun e => hj (by rw [e]; exact hpin)
      simp only [hne, if_false]
      exact hb4 j hj
    · funext j
      rw [htk]
      by_cases e : j = pr
      · subst e
        simp only [if_true, hg4.su, hsu3, addSu, if_neg hnot]
        simp
      · simp only [e, if_false, hg4.su, hsu3, addSu]
        simp [e]
    · intro j
      show j ∈ t4.ks ↔ _
      rw [hk4, htk]
      by_cases e : pr ∈ t3.ks
      · rw [if_pos e, hks3]
        simp only [List.mem_append, List.mem_singleton]
        constructor
        · rintro (h | h | h)
          · exact .inl h
          · exact .inr (.inl h)
          · exact .inr (.inr (.inl h))
        · rintro (h | h | h | h)
          · exact .inl h
          · exact .inr (.inl h)
          · exact .inr (.inr h)
          · subst h; exact (hks3 j).mp e
      · rw [if_neg e]
        simp only [List.mem_append, List.mem_singleton, hks3, or_assoc]
    · show t4.ks.length ≤ _
      rw [hk4]; split
      · omega
      · simp only [List.length_append, List.length_singleton]; omega
  · rintro _ _ ⟨t3, S3, v1, v2, rfl, rfl, hS3, hb3, hnp3, hsu3, hts3, hrd3, ha3, hb3', hks3, hkl3⟩
    rw [mints_len, List.take_length] at *
    refine Tg.sel (S3 ++ Z) (by walk_at "sel") ?_
    refine s_nil ?_
    exact h t3 S3 hS3 hb3 hnp3 hsu3 hts3 hrd3 ha3 hb3' hks3 (by omega)
end

section
variable {w : World} {G : Gl w} {A : Around} {L : Addr} {env : Env} {ρ ρ' : Rho} {μ μ' : Mu} {s₀ : Shared} {B : Addr → Option Obj} {s : Shared}
theorem a_meth {x C d f : Addr} {sl : List MV} {fs : List (Str × MV)} {name : Str} {P : MV → Mu → Prop} (h1 : (x, MO.obj C d sl) ∈ μ) (h2 : (d, MO.attrs fs) ∈ μ) (hl : lookA name fs = none) (ha : findIn (KK w.params) (.ref C) name = some (some (.ref f)))
    (h : ∀ q, P (.ref q) ((q, .raw (methodObj (.ref f) (.ref x))) :: μ)) (hg : plainGet (KK w.params) C name = true := by kernel_rfl) (hh : hasDictIn (KK w.params) C = true := by kernel_rfl) (hf : isFn (KK w.params) (.ref f) = true := by kernel_rfl)
    (hgf : specialIn (KK w.params) (.ref f) "__get__" = some (some (.builtin "function.__get__")) := by kernel_rfl) (ht : takesIn (KK w.params) (.ref f) = some false := by kernel_rfl) (hc : copiedNames.contains name = false := by kernel_rfl) : AJ G A (.ref x) name P μ := by
  rintro s₀ B L ρ s _ hs rfl
  obtain ⟨ss, es, n, hss, hes, hx, hd, I⟩ := hs.inst h1 h2
  exact get_bind hs.K I (plainGet_of hg).1 (findObj_fn hh ha hgf ht hc (by show lookIn name (dictOf es n) = _; rw [lookIn_dict, getL_none hes hl])) (plainGet_of hg).2
    (wpAny_call (fn_get (s := { s with toks := s.toks + 1 }) hs.K (beq_iff_eq.mp hf) (handed_on rfl ⟨_, _, vr, hs.push (o := .raw (methodObj (.ref f) (.ref x))) (x := methodObj (.ref f) (.ref x)) rfl rfl, h _⟩)))
inductive StarP {w : World} (G : Gl w) (A : Around) (L : Addr) (targs : Sem (List Value)) (P : List MV → Rho → Mu → Prop) (v : MV) (ρ : Rho) (μ : Mu) : Prop
  | mk (a : Addr) (xs : List MV) (e : v = .ref a) (hm : (a, MO.list xs) ∈ μ) (hl : xs.length ≤ big) (h : Ts G A L targs (fun vs ρ μ => P (xs ++ vs) ρ μ) ρ μ)
inductive MethV {w : World} (G : Gl w) (A : Around) (L : Addr) (targs : Sem (List Value)) (P : MV → Rho → Mu → Prop) (ρ : Rho) (mv : MV) (μ : Mu) : Prop
  | mk (q f x : Addr) (e : mv = .ref q) (hq : (q, MO.raw (methodObj (.ref f) (.ref x))) ∈ μ) (hf : fnIn (KK w.params) f = true) (h : Ts G A L targs (fun vs ρ μ => (q, MO.raw (methodObj (.ref f) (.ref x))) ∈ μ ∧ CC G A (.ref f) (.ref x :: vs) (fun v μ' => P v ρ μ') μ) ρ μ)
theorem a_star {e : Expr} {p pos : Pos} {rest : List Expr} {P : List MV → Rho → Mu → Prop} (h : T G A L (eval e env) (StarP G A L (spliced (backTo pos (starEach rest env))) P) ρ μ)
    (he : starEach (.Starred e p :: rest) env = (true, eval e env) :: starEach rest env := by rfl) : Ts G A L (spliced (backTo pos (starEach (.Starred e p :: rest) env))) P ρ μ := fun s₀ B s hs =>
  items_star (h.use hs fun v u ρ₁ μ₁ s₁ hv hs₁ q => by
    cases q with | mk a xs e hm hl h₁ =>
    subst e; cases hv
    obtain ⟨us, n, ho, hus⟩ := hs₁.list hm
    have hz : us.toArray.size ≤ sizeLine := by rw [List.size_toArray, hus.length]; exact Nat.le_trans hl (by decide)
    have hT' : s₁.TypeIs (.ref a) "list" := ⟨_, ho, rfl⟩
    unfold StarOf notIterableAtAll
    refine wpAny_bind (wpAny_specialOf hT' PySem.F.slot_list_iter.lookup (wpAny_pure ⟨rfl, ?_⟩))
    refine wpAny_collect_seq a (T := "list") (.inl rfl) ho rfl rfl (fun h' hk => ?_) hz
    refine h₁.use (hs₁.grow (tk := s₁.toks) hk) fun vs us' ρ₂ μ₂ s₂ hvs hs₂ h₂ => ⟨xs ++ vs, _, _, ?_, hs₂, h₂⟩
    simpa using hus.append hvs) he
theorem e_methstar {o e : Expr} {name : Str} {apos pos : Pos} {rest : List Expr} {P : MV → Rho → Mu → Prop}
    (h : T G A L (eval o env) (fun ov ρ μ => AJ G A ov name (MethV G A L (spliced (backTo pos (starEach (e :: rest) env))) P ρ) μ) ρ μ)
    (he : starEach (e :: rest) env = (false, eval e env) :: starEach rest env := by rfl) (hst : (backTo pos (starEach rest env)).any (·.1) = true := by rfl)
    (hbase : attributeBase o name env (eval o env) = eval o env := by rfl)
    (hform : methodCallForm ((e :: rest).length + ([] : List Keyword).length) (backTo pos (starEach (e :: rest) env)) (backToKw pos (keywordEach [] env)) = false := by rfl) : T G A L (eval (.Call (.Attribute o name apos) (e :: rest) [] pos) env) P ρ μ := fun s₀ B s hs => by
  rw [arm_eval_Call, hbase]
  refine wpAny_bind (h.use hs fun ov v ρ₁ μ₁ s₁ hv hs₁ h₁ => wpAny_bind (wpAny_standAt ?_))
  unfold methodCall calleeOf methodCallPos
  rw [hform]
  refine wpAny_bind (wpAny_holding ?_)
  refine wpAny_bind (wpAny_mono (h₁ s₀ B L ρ₁ s₁ v hs₁ hv) (fun u s₂ qq => ?_) fun _ _ z => z.elim)
  cases qq with | mk mv μ₂ hu hs₂ qq =>
  cases qq with | mk q f x e hq hf h₂ =>
  subst e; cases hu
  refine wpAny_pure ?_
  refine wpAny_bind (wpAny_pure ?_)
  rw [he] at h₂ ⊢
  refine ks_call (P := MethP (KK w.params) q f (.ref x)) (by show (false || (backTo pos (starEach rest env)).any (·.1)) = true; rw [hst]; rfl) (keeps_M hf) (Calls.evalArgs_plain ?_)
  refine h₂.use hs₂ fun xs vs ρ₃ μ₃ s₃ hxs hs₃ qq => ?_
  have h₃ := qq.2
  obtain ⟨_, g, e⟩ := hs₃.get qq.1
  cases e
  refine ⟨⟨g, hs₃.K⟩, wpAny_call (ks_codeAny_call_bound g (codeAny_mono (h₃ s₀ B L ρ₃ s₃ (.ref x :: vs) hs₃ ⟨rfl, hxs⟩) fun r s' hr => ?_))⟩
  rcases r with e | (_ | _ | _ | v)
  · exact hr.elim
  · exact hr.elim
  · exact hr.elim
  · exact hr.elim
  · exact PostC.use hr fun y μ' hy hs' hp => ⟨y, _, _, hy, hs', hp⟩
end

section
set_option maxRecDepth 100000
section
variable {w : World} {G : Gl w} {A : Around} {L : Addr} {env : Env} {ρ ρ' : Rho} {μ μ' : Mu} {s₀ : Shared} {B : Addr → Option Obj} {s : Shared}
inductive OrP (K1 K2 : Prop) (v : MV) : Prop
  | mk (b : Bool) (e : v = .bool b) (h : if b = true then K1 else K2)
theorem e_or {x y : Expr} {pos : Pos} {P : MV → Rho → Mu → Prop} (h : T G A L (eval x env) (fun v ρ μ => OrP (P (.bool true) ρ μ) (T G A L (eval y env) P ρ μ) v) ρ μ) : T G A L (eval (.BoolOp .Or [x, y] pos) env) P ρ μ := fun s₀ B s hs => by
  rw [arm_eval_BoolOp]
  show wpAny _ _ (eval x env >>= fun v => standAt pos >>= fun _ => holding [v] (truthy v) >>= fun t => match BoolOp.Or, t with | .And, false | .Or, true => pure v | _, _ => eval y env) _ _ s
  refine wpAny_bind (h.use hs fun v a ρ₁ μ₁ s₁ hv hs₁ q => wpAny_bind (wpAny_standAt (wpAny_bind (wpAny_holding ?_))))
  cases q with | mk b e h₁ =>
  subst e; cases hv
  refine wpAny_truthy_bool ?_
  cases b with
  | true => exact wpAny_pure ⟨_, _, _, vb, hs₁, by simpa using h₁⟩
  | false => exact (show T G A L (eval y env) P ρ₁ μ₁ by simpa using h₁) s₀ B s₁ hs₁
theorem c_tuple {a : Addr} {xs : List MV} {P : MV → Mu → Prop} (hm : (a, MO.list xs) ∈ μ) (hl : xs.length ≤ big) (h : ∀ t, P (.ref t) ((t, .tuple xs) :: μ)) : CJ G A (.type "tuple") [.ref a] P μ := by
  intro s₀ B L ρ s vs hs hv
  refine va_r hv ?_
  · obtain ⟨us, n, ho, hus⟩ := hs.list hm
    refine call_tuple_list (isList_of ho) (fun h' hk => ?_) (by rw [List.size_toArray, hus.length]; exact Nat.le_trans hl (by decide))
    exact ⟨_, _, vr, (hs.grow (tk := s.toks) hk).push (o := .tuple xs) (x := { cls := .type "tuple", data := .seq (List.toArray us) }) ⟨us, _, rfl, hus⟩ rfl, h _⟩
theorem meets_bool_new_list (l : Addr) (items : Array Value) : Meets (Builtin.«bool.__new__» ⟨[.type "bool", .ref l], []⟩) (fun A R s => s.heap.IsList l items ∧ items.size ≤ 1000000 ∧ ∀ tk, R (.ok (.ret (.bool (!items.isEmpty)))) { s with toks := tk }) :=
  Meets.of_wp fun prog w A R s hs => by
    obtain ⟨hp, g, d, tk, os⟩ := s
    obtain ⟨h1, h2, h3⟩ := hs
    have f1 := PySem.F.conv_sub_bool
    repeat (any_goals (first | assumption | (with_reducible refine wpAny_truthy_list h1 ?_ ?_) | wp_step))
    · omega
    · exact ⟨_, rfl, h3 _⟩
theorem c_boollist {a : Addr} {xs : List MV} {P : MV → Mu → Prop} (hm : (a, MO.list xs) ∈ μ) (hl : xs.length ≤ big) (h : P (.bool (!xs.isEmpty)) μ) : CJ G A (.type "bool") [.ref a] P μ := by
  intro s₀ B L ρ s vs hs hv
  refine va_r hv ?_
  · obtain ⟨us, n, ho, hus⟩ := hs.list hm
    have h1 := hus.length
    have hl' : xs.length ≤ 1000000 := hl
    refine call_bool_1 (meets_bool_new_list a us.toArray) ⟨isList_of ho, by rw [List.size_toArray]; omega, fun tk => ⟨rfl, _, _, vb, hs.toks _, ?_⟩⟩
    have : (us.toArray.isEmpty) = xs.isEmpty := by cases us <;> cases xs <;> simp_all
    rw [this]; exact h
end
end

structure SortR (t : TSt) (rl : Addr) (rdy : List Int) (S : Mu) : Prop where
  s : Sorter t S
  rd : t.rd = .ref rl
  l : (rl, MO.list (mints rdy)) ∈ S
  ne : ∀ k ∈ t.ks, t.sc k ≠ rl
theorem SortR.setNp {t : TSt} {rl : Addr} {rdy : List Int} {S : Mu} {k v : Int} (h : SortR t rl rdy S) (hn : (S.map (·.1)).Nodup) (hk : k ∈ t.ks) : SortR { t with np := fun j => if j = k then v else t.np j } rl rdy (setL S (t.ni k) (.obj 89 (t.dn k) [.int k, .int v, .ref (t.sc k)])) :=
  ⟨h.s.setNp hn hk, h.rd, mem_setL h.l (ne_of_obj hn h.l (h.s.nd k hk).1 (by exact nofun)), h.ne⟩
theorem SortR.setRl {t : TSt} {rl : Addr} {rdy rdy' : List Int} {S : Mu} (h : SortR t rl rdy S) (hn : (S.map (·.1)).Nodup) : SortR t rl rdy' (setL S rl (.list (mints rdy'))) := by
  have kn : ∀ {c : Addr} {o : MO}, (c, o) ∈ S → c ≠ rl → (c, o) ∈ setL S rl (.list (mints rdy')) := fun hm hne => mem_setL hm hne
  refine ⟨⟨kn h.s.o (ne_of_obj hn h.s.o h.l (by exact nofun)), kn h.s.at_ (ne_of_obj hn h.s.at_ h.l (by exact nofun)), kn h.s.di (ne_of_obj hn h.s.di h.l (by exact nofun)), fun j hj => ?_, h.s.inj, h.s.nodup⟩, h.rd, mem_setL_self h.l, h.ne⟩
  obtain ⟨n1, n2, n3⟩ := h.s.nd j hj
  exact ⟨kn n1 (ne_of_obj hn n1 h.l (by exact nofun)), kn n2 (ne_of_obj hn n2 h.l (by exact nofun)), kn n3 (h.ne j hj)⟩
theorem SortR.setAB {t : TSt} {rl : Addr} {rdy : List Int} {S : Mu} {a b : Int} (h : SortR t rl rdy S) (hn : (S.map (·.1)).Nodup) (hd : ∀ k ∈ t.ks, t.dn k ≠ t.d) : SortR { t with a := a, b := b } rl rdy (setL S t.d (.attrs (tsA t.n t.rd a b))) := by
  have kn : ∀ {c : Addr} {o : MO}, (c, o) ∈ S → c ≠ t.d → (c, o) ∈ setL S t.d (.attrs (tsA t.n t.rd a b)) := fun hm hne => mem_setL hm hne
  refine ⟨⟨kn h.s.o (ne_of_obj hn h.s.o h.s.at_ (by exact nofun)), mem_setL_self h.s.at_, kn h.s.di (ne_of_obj hn h.s.di h.s.at_ (by exact nofun)), fun j hj => ?_, h.s.inj, h.s.nodup⟩, h.rd, kn h.l (ne_of_obj hn h.l h.s.at_ (by exact nofun)), h.ne⟩
  obtain ⟨n1, n2, n3⟩ := h.s.nd j hj
  exact ⟨kn n1 (ne_of_obj hn n1 h.s.at_ (by exact nofun)), kn n2 (hd j hj), kn n3 (ne_of_obj hn n3 h.s.at_ (by exact nofun))⟩
theorem Sorter.dne {t : TSt} {S : Mu} (h : Sorter t S) (hn : (S.map (·.1)).Nodup) : ∀ k ∈ t.ks, t.dn k ≠ t.d := fun k hk => ne_of_obj hn (h.nd k hk).2.1 h.at_ (by intro e; injection e with e; cases e)
section
variable {w : World} {G : Gl w} {A : Around} {L : Addr} {env : Env} {ρ ρ' : Rho} {μ μ' : Mu}
set_option maxRecDepth 100000 in
theorem c_active {P : MV → Mu → Prop} {S Z : Mu} {t : TSt} {rl : Addr} {rdy : List Int} (hroom : A.depth < recursionLimit) (hS : SortR t rl rdy S) (hl : rdy.length ≤ 1000) (h : P (.bool (decide (t.b < t.a) || !rdy.isEmpty)) (S ++ Z)) : CC G A (.ref 155) [.ref t.ts] P (S ++ Z) := by
  refine c_fn [Str.ofString "self"] [] rfl (by omega) rfl rfl rfl rfl rfl rfl rfl rfl rfl rfl (by decide) rfl rfl rfl (fun vs hv => va1 hv fun _ _ => rfl) ?_
  intro L' qn cd
  show X G _ _ (execs _ _) _ [(Str.ofString "self", .ref t.ts)] _
  have ho := List.mem_append_left Z hS.s.o
  have hat := List.mem_append_left Z hS.s.at_
  refine s_if ?_
  refine b_cmp ?_; refine e_attr ?_; refine e_name (by walk_at "mem") ?_
  refine a_attr ho hat (v := .ref rl) (by rw [hS.rd]; rfl) ?_
  refine e_none ?_
  refine o_is_none (x := .ref rl) (asb ?_)
  rw [if_neg (show ¬ (false = true) by decide)]
  refine s_nil ?_; refine seq_next ?_; refine s_ret ?_
  refine e_or ?_
  refine e_cmp ?_; refine e_attr ?_; refine e_name (by walk_at "mem") ?_
  refine a_attr ho hat (v := .int t.b) rfl ?_
  refine e_attr ?_; refine e_name (by walk_at "mem") ?_
  refine a_attr ho hat (v := .int t.a) rfl ?_
  refine o_lt ⟨_, rfl, ?_⟩
  by_cases hc : t.b < t.a
  · rw [if_pos (by simpa using hc)]
    simpa [hc, retOf] using h
  · rw [if_neg (by simpa using hc)]
    refine e_callt rfl rfl (by decide) ?_; refine a_cons ?_; refine e_attr ?_; refine e_name (by walk_at "mem") ?_
    refine a_attr ho hat (v := .ref rl) (by rw [hS.rd]; rfl) ?_
    refine a_nil ?_
    refine c_boollist (List.mem_append_left _ hS.l) (by rw [mints_len]; show _ ≤ 1000000; omega) ?_
    rw [show (mints rdy).isEmpty = rdy.isEmpty by cases rdy <;> rfl]
    simpa [hc, retOf] using h
noncomputable def outNp (np : Int → Int) (l : List Int) : Int → Int := fun j => if j ∈ l then -1 else np j
inductive ReadyJ (t : TSt) (rl tp : Addr) (rdy : List Int) (Z : Mu) (i : Nat) (ρ₁ : Rho) (μ₁ : Mu) : Prop
  | mk (t3 : TSt) (S3 : Mu) (v1 : MV) (z1 : ρ₁ = [(Str.ofString "self", .ref t.ts), (Str.ofString "result", .ref tp), (Str.ofString "n2i", .ref t.n), (Str.ofString "node", v1)]) (z2 : μ₁ = S3 ++ ((tp, .tuple (mints rdy)) :: Z)) (z3 : SortR t3 rl rdy S3) (z4 : t3.np = outNp t.np (rdy.take i)) (z5 : t3.su = t.su) (z6 : t3.ks = t.ks) (z7 : t3.ts = t.ts) (z8 : t3.n = t.n) (z9 : t3.a = t.a) (z10 : t3.b = t.b)
set_option maxRecDepth 100000 in
theorem c_getready {P : MV → Mu → Prop} {S Z : Mu} {t : TSt} {rl : Addr} {rdy : List Int} (hroom : A.depth < recursionLimit) (hh : A.handled = none) (hS : SortR t rl rdy S) (hl : rdy.length ≤ 1000) (hsub : ∀ k ∈ rdy, k ∈ t.ks)
    (h : ∀ tp t' S', SortR t' rl [] S' → t'.np = outNp t.np rdy → t'.su = t.su → t'.ks = t.ks → t'.ts = t.ts → t'.a = t.a + rdy.length → t'.b = t.b → P (.ref tp) (S' ++ ((tp, .tuple (mints rdy)) :: Z))) : CC G A (.ref 148) [.ref t.ts] P (S ++ Z) := by
  refine c_fn [Str.ofString "self"] [(Str.ofString "result", .undef), (Str.ofString "n2i", .undef), (Str.ofString "node", .undef)] rfl (by omega) rfl rfl rfl rfl rfl rfl rfl rfl rfl rfl (by decide) rfl rfl rfl (fun vs hv => va1 hv fun _ _ => rfl) ?_
  intro L' qn cd
  show X G _ _ (execs _ _) _ [(Str.ofString "self", .ref t.ts), (Str.ofString "result", .undef), (Str.ofString "n2i", .undef), (Str.ofString "node", .undef)] _
  have ho := List.mem_append_left Z hS.s.o
  have hat := List.mem_append_left Z hS.s.at_
  refine s_if ?_
  refine b_cmp ?_; refine e_attr ?_; refine e_name (by walk_at "mem") ?_
  refine a_attr ho hat (v := .ref rl) (by rw [hS.rd]; rfl) ?_
  refine e_none ?_
  refine o_is_none (x := .ref rl) (asb ?_)
  rw [if_neg (show ¬ (false = true) by decide)]
  refine s_nil ?_; refine seq_next ?_; refine s_assign ?_; refine e_callt rfl rfl (by decide) ?_; refine a_cons ?_; refine e_attr ?_; refine e_name (by walk_at "mem") ?_
  refine a_attr ho hat (v := .ref rl) (by rw [hS.rd]; rfl) ?_
  refine a_nil ?_
  refine c_tuple (List.mem_append_left _ hS.l) (by rw [mints_len]; show _ ≤ 1000000; omega) fun tp => ?_
  refine stp (by walk_at "pt") ?_; refine s_assign ?_; refine e_attr ?_; refine e_name (by walk_at "mem") ?_
  refine a_attr (.tail _ ho) (.tail _ hat) (v := .ref t.n) rfl ?_
  refine stp (by walk_at "pt") ?_
  refine Tg.sel (S ++ ((tp, .tuple (mints rdy)) :: Z)) (by walk_at "sel") ?_
  refine s_for ?_
  refine e_name (by walk_at "mem") ?_
  refine ⟨(mints rdy).length, listV (mints rdy), fun μ => (tp, MO.tuple (mints rdy)) ∈ μ, ReadyJ t rl tp rdy Z,
    itOf_tuple hh (List.mem_append_right _ (.head _)), ?_, ?_, ?_, ?_⟩
  · rintro i _ _ ⟨t3, S3, v1, rfl, rfl, _⟩; exact List.mem_append_right _ (.head _)
  · exact ⟨t, S, .undef, rfl, rfl, hS, by funext j; simp [outNp], rfl, rfl, rfl, rfl, rfl, rfl⟩
  · rintro i _ _ hi ⟨t3, S3, v1, rfl, rfl, hS3, hnp3, hsu3, hks3, hts3, hn3, ha3, hb3⟩
    rw [mints_len] at hi
    have hv : listV (mints rdy) i = .int (rdy.getD i 0) := by
      have h1 := listV_get (xs := mints rdy) (i := i) (by rw [mints_len]; exact hi)
      rw [mints_get (k := rdy.getD i 0) (by simp [List.getD, List.getElem?_eq_getElem hi])] at h1
      exact (Option.some.inj h1).symm
    have htk : rdy.take (i + 1) = rdy.take i ++ [rdy.getD i 0] := by rw [List.take_succ_eq_append_getElem hi]; simp [List.getD, List.getElem?_eq_getElem hi]
    have hkin : rdy.getD i 0 ∈ t3.ks := by rw [hks3]; exact hsub _ (by simp [List.getD, List.getElem?_eq_getElem hi])
    rw [hv]
    generalize rdy.getD i 0 = k at *
    refine stp (by walk_at "pt") ?_
    refine Tg.nodup fun hn => ?_
    have hnS := nodup_left hn
    refine s_setattr (e_glob (mv := .int (-1)) rfl ⟨_, rfl⟩ ?_)
    refine e_sub ?_; refine e_name (by walk_at "mem") ?_; refine e_name (by walk_at "mem") ?_
    rw [← hn3]
    refine g_dict (List.mem_append_left _ hS3.s.di) (by rw [lookD_map, if_pos hkin]) ?_
    refine u_slot (p := 91) (i := 1) (List.mem_append_left _ (hS3.s.nd k hkin).1) (List.mem_append_left _ (hS3.s.nd k hkin).2.1) rfl rfl (by decide) (set_in hn (hS3.s.nd k hkin).1) ?_
    have hS4 := hS3.setNp (v := -1) hnS hkin
    refine s_nil (turn_next ⟨_, List.Sublist.refl _, _, _, .int k, by rw [hn3], rfl, hS4, ?_, hsu3, hks3, hts3, hn3, ha3, hb3⟩)
    funext j
    rw [htk, hnp3]
    by_cases e : j = k
    · subst e; simp [outNp]
    · simp [outNp, e]
  · rintro _ _ ⟨t3, S3, v1, rfl, rfl, hS3, hnp3, hsu3, hks3, hts3, hn3, ha3, hb3⟩
    rw [mints_len, List.take_length] at hnp3
    refine Tg.nodup fun hn => ?_
    have hnS := nodup_left hn
    rw [← hts3]
    refine s_expr ?_; refine e_meth F.plainAttrs_list F.slot_list_clear F.type_list_clear ?_; refine e_attr ?_; refine e_name (by walk_at "mem") ?_
    refine a_attr (List.mem_append_left _ hS3.s.o) (List.mem_append_left _ hS3.s.at_) (v := .ref rl) (by rw [hS3.rd]; rfl) ?_
    refine ⟨isT_list (List.mem_append_left _ hS3.l), ?_⟩
    refine a_nil ?_
    refine c_clear (List.mem_append_left _ hS3.l) (by rw [mints_len]; show _ ≤ 1000000; omega) (set_in hn hS3.l) ?_
    have hS4 := hS3.setRl (rdy' := []) hnS
    have e0 : (MO.list [] : MO) = .list (mints []) := rfl
    rw [e0]
    have hn4 : ((setL S3 rl (.list (mints [])) ++ ((tp, .tuple (mints rdy)) :: Z)).map (·.1)).Nodup := by
      rw [List.map_append, setL_keys, ← List.map_append]; exact hn
    generalize setL S3 rl (.list (mints [])) = S4 at *
    have hnS4 := nodup_left hn4
    refine s_augattr ?_; refine e_name (by walk_at "mem") ?_
    refine a_attr (List.mem_append_left _ hS4.s.o) (List.mem_append_left _ hS4.s.at_) (v := .int t3.a) rfl ?_
    refine e_callb rfl rfl (by decide) ?_; refine a_cons ?_; refine e_name (by walk_at "mem") ?_; refine a_nil ?_
    refine c_lenT (xs := mints rdy) (List.mem_append_right _ (.head _)) (by rw [mints_len]; show _ ≤ 1000000; omega) ?_
    rw [mints_len]
    refine o_iadd ?_
    refine u_attr (List.mem_append_left _ hS4.s.o) (List.mem_append_left _ hS4.s.at_) (fs' := tsA t3.n t3.rd (t3.a + rdy.length) t3.b) (.tail (by decide) (.tail (by decide) .head)) (set_in hn4 hS4.s.at_) (by simp [tsA]) ?_
    have hS5 := hS4.setAB (a := t3.a + rdy.length) (b := t3.b) hnS4 (hS4.s.dne hnS4)
    refine s_ret ?_; refine e_name (by walk_at "mem") ?_
    exact h tp _ _ hS5 hnp3 hsu3 hks3 hts3 (by show t3.a + _ = _; rw [ha3]) hb3
end

noncomputable def decF (st : (Int → Int) × List Int) (s : Int) : (Int → Int) × List Int :=
  (fun j => if j = s then st.1 j - 1 else st.1 j, if st.1 s - 1 = 0 then st.2 ++ [s] else st.2)
theorem decF_len (l : List Int) : ∀ st, (l.foldl decF st).2.length ≤ st.2.length + l.length := by
  induction l with
  | nil => intro st; simp
  | cons x r ih =>
    intro st
    rw [List.foldl_cons]
    have := ih (decF st x)
    have h2 : (decF st x).2.length ≤ st.2.length + 1 := by unfold decF; dsimp only; split <;> simp
    simp only [List.length_cons]; omega
section
variable {w : World} {G : Gl w} {A : Around} {L : Addr} {env : Env} {ρ ρ' : Rho} {μ μ' : Mu}
inductive DoneJ (t : TSt) (rl tp : Addr) (rdy : List Int) (k : Int) (Z : Mu) (i : Nat) (ρ₁ : Rho) (μ₁ : Mu) : Prop
  | mk (t3 : TSt) (rdy3 : List Int) (S3 : Mu) (v1 v2 : MV) (z1 : ρ₁ = [(Str.ofString "self", .ref t.ts), (Str.ofString "nodes", .ref tp), (Str.ofString "n2i", .ref t.n), (Str.ofString "node", .int k), (Str.ofString "nodeinfo", .ref (t.ni k)), (Str.ofString "stat", .int (-1)), (Str.ofString "successor", v1), (Str.ofString "successor_info", v2)]) (z2 : μ₁ = S3 ++ ((tp, .tuple [.int k]) :: Z)) (z3 : SortR t3 rl rdy3 S3) (z4 : (t3.np, rdy3) = ((t.su k).take i).foldl decF (fun j => if j = k then -2 else t.np j, rdy)) (z5 : t3.su = t.su) (z6 : t3.ks = t.ks) (z7 : t3.ts = t.ts) (z8 : t3.n = t.n) (z9 : t3.sc k = t.sc k) (z10 : t3.a = t.a) (z11 : t3.b = t.b)
set_option maxRecDepth 100000 in
theorem c_done {P : MV → Mu → Prop} {S Z : Mu} {t : TSt} {rl : Addr} {rdy : List Int} {k : Int} (hroom : A.depth < recursionLimit) (hh : A.handled = none) (hS : SortR t rl rdy S) (hl : rdy.length ≤ 1000) (hk : k ∈ t.ks) (hnp : t.np k = -1) (hsub : ∀ j ∈ t.su k, j ∈ t.ks) (hsl : (t.su k).length ≤ 1000)
    (h : ∀ t' rdy' S', SortR t' rl rdy' S' → (t'.np, rdy') = (t.su k).foldl decF (fun j => if j = k then -2 else t.np j, rdy) → t'.su = t.su → t'.ks = t.ks → t'.ts = t.ts → t'.a = t.a → t'.b = t.b + 1 → P .none (S' ++ Z)) : CC G A (.ref 169) [.ref t.ts, .int k] P (S ++ Z) := by
  refine c_fnv (rs := [.int k]) (fun tp => [(Str.ofString "self", .ref t.ts), (Str.ofString "nodes", .ref tp), (Str.ofString "n2i", .undef), (Str.ofString "node", .undef), (Str.ofString "nodeinfo", .undef), (Str.ofString "stat", .undef), (Str.ofString "successor", .undef), (Str.ofString "successor_info", .undef)]) rfl (by omega) rfl rfl rfl rfl rfl rfl rfl rfl rfl rfl (fun tp => by simp only [List.map_cons, List.map_nil]; decide) ?_ ?_
  · intro s vs hv
    refine va2 hv fun v1 v2 hv1 hv2 => ?_
    · refine ⟨[(Str.ofString "self", v1), (Str.ofString "nodes", .ref s.heap.objs.size)], [v2], ?_, ⟨hv2, trivial⟩, ?_, ?_⟩
      · intro M A E Q hQ
        suffices hg : wpAny M A (newTuple [v2] >>= fun z => pure [(Str.ofString "self", v1), (Str.ofString "nodes", z)]) Q E s by exact hg
        exact wpAny_bind (wpAny_newTuple (wpAny_pure hQ) (by show 1 ≤ 16777216; decide))
      · intro y hy
        simp only [List.mem_cons, List.not_mem_nil, or_false] at hy
        rcases hy with rfl | rfl <;> rfl
      · intro q hq
        simp only [List.mem_cons, List.not_mem_nil, or_false] at hq
        rcases hq with rfl | rfl | rfl | rfl | rfl | rfl | rfl | rfl
        · exact .inr ⟨v1, rfl, hv1⟩
        · exact .inr ⟨_, rfl, rfl⟩
        all_goals exact .inl rfl
  intro L' qn cd tp
  refine Tg.sel (S ++ ((tp, .tuple [.int k]) :: Z)) (by walk_at "sel") ?_
  have ho := List.mem_append_left ((tp, MO.tuple [.int k]) :: Z) hS.s.o
  have hat := List.mem_append_left ((tp, MO.tuple [.int k]) :: Z) hS.s.at_
  refine s_if ?_
  refine b_cmp ?_; refine e_attr ?_; refine e_name (by walk_at "mem") ?_
  refine a_attr ho hat (v := .ref rl) (by rw [hS.rd]; rfl) ?_
  refine e_none ?_
  refine o_is_none (x := .ref rl) (asb ?_)
  rw [if_neg (show ¬ (false = true) by decide)]
  refine s_nil ?_; refine seq_next ?_; refine s_assign ?_; refine e_attr ?_; refine e_name (by walk_at "mem") ?_
  refine a_attr ho hat (v := .ref t.n) rfl ?_
  refine stp (by walk_at "pt") ?_
  refine s_for ?_
  refine e_name (by walk_at "mem") ?_
  refine ⟨1, listV [.int k], fun μ => (tp, MO.tuple [.int k]) ∈ μ, fun i ρ₁ μ₁ => (i = 0 ∧ ρ₁ = [(Str.ofString "self", .ref t.ts), (Str.ofString "nodes", .ref tp), (Str.ofString "n2i", .ref t.n), (Str.ofString "node", .undef), (Str.ofString "nodeinfo", .undef), (Str.ofString "stat", .undef), (Str.ofString "successor", .undef), (Str.ofString "successor_info", .undef)] ∧ μ₁ = S ++ ((tp, .tuple [.int k]) :: Z)) ∨
      (i = 1 ∧ ∃ t' rdy' S', μ₁ = S' ++ ((tp, .tuple [.int k]) :: Z) ∧ SortR t' rl rdy' S' ∧ (t'.np, rdy') = (t.su k).foldl decF (fun j => if j = k then -2 else t.np j, rdy) ∧ t'.su = t.su ∧ t'.ks = t.ks ∧ t'.ts = t.ts ∧ t'.a = t.a ∧ t'.b = t.b + 1),
    itOf_tuple (xs := [.int k]) (by exact hh) (List.mem_append_right _ (.head _)), ?_, .inl ⟨rfl, rfl, rfl⟩, ?_, ?_⟩
  · rintro i _ _ (⟨_, rfl, rfl⟩ | ⟨_, t', rdy', S', rfl, _⟩) <;> exact List.mem_append_right _ (.head _)
  · rintro i _ _ hi (⟨rfl, rfl, rfl⟩ | ⟨rfl, _⟩)
    · show StoreP (Str.ofString "node") (.int k) _ _
      refine stp (by walk_at "pt") ?_
      refine Tg.nodup fun hn => ?_
      have hnS := nodup_left hn
      refine s_if (b_cmp (e_walrus ?_))
      refine e_meth F.plainAttrs_dict F.slot_dict_get F.type_dict_get ?_
      refine e_name (by walk_at "mem") ?_
      refine ⟨isT_dict (List.mem_append_left _ hS.s.di), ?_⟩
      refine a_cons ?_; refine e_name (by walk_at "mem") ?_; refine a_nil ?_
      refine c_dictget (List.mem_append_left _ hS.s.di) ?_
      rw [lookD_map, if_pos hk]
      refine stp (by walk_at "pt") ?_
      refine e_none ?_
      refine o_is_none (x := .ref (t.ni k)) (asb ?_)
      rw [if_neg (show ¬ (false = true) by decide)]
      refine s_nil ?_; refine seq_next ?_; refine s_assign ?_; refine e_attr ?_; refine e_name (by walk_at "mem") ?_
      refine a_slot (p := 91) (i := 1) (List.mem_append_left _ (hS.s.nd k hk).1) (List.mem_append_left _ (hS.s.nd k hk).2.1) rfl rfl (v := .int (t.np k)) rfl ?_
      rw [hnp]
      refine stp (by walk_at "pt") ?_
      refine s_if ?_
      refine b_cmp ?_; refine e_name (by walk_at "mem") ?_
      refine e_glob (mv := .int (-1)) rfl ⟨_, rfl⟩ ?_
      refine o_ne (asb ?_)
      rw [if_neg (by decide)]
      refine s_nil ?_; refine seq_next ?_; refine s_setattr ?_
      refine e_glob (mv := .int (-2)) rfl ⟨_, rfl⟩ ?_
      refine e_name (by walk_at "mem") ?_
      refine u_slot (p := 91) (i := 1) (List.mem_append_left _ (hS.s.nd k hk).1) (List.mem_append_left _ (hS.s.nd k hk).2.1) rfl rfl (by decide) (set_in hn (hS.s.nd k hk).1) ?_
      have hS1 := hS.setNp (v := -2) hnS hk
      rw [show MO.obj 89 (t.dn k) (setSlot [.int k, .int (t.np k), .ref (t.sc k)] 1 (.int (-2))) = .obj 89 (t.dn k) [.int k, .int (-2), .ref (t.sc k)] from rfl]
      generalize setL S (t.ni k) (.obj 89 (t.dn k) [.int k, .int (-2), .ref (t.sc k)]) = S1 at *
      refine s_for ?_
      refine e_attr ?_; refine e_name (by walk_at "mem") ?_
      refine a_slot (p := 92) (i := 2) (List.mem_append_left _ (hS1.s.nd k hk).1) (List.mem_append_left _ (hS1.s.nd k hk).2.1) rfl rfl (v := .ref (t.sc k)) rfl ?_
      refine ⟨(mints (t.su k)).length, listV (mints (t.su k)), fun μ => (t.sc k, MO.list (mints (t.su k))) ∈ μ, DoneJ t rl tp rdy k Z,
        itOf_list (by exact hh) (List.mem_append_left _ (hS1.s.nd k hk).2.2), ?_, ?_, ?_, ?_⟩
      · rintro i _ _ ⟨t3, rdy3, S3, v1, v2, rfl, rfl, hS3, hf3, hsu3, hks3, hts3, hn3, hsc3, ha3, hb3⟩
        have := (hS3.s.nd k (by rw [hks3]; exact hk)).2.2
        rw [hsc3, hsu3] at this
        exact List.mem_append_left _ this
      · exact ⟨_, rdy, S1, .undef, .undef, rfl, rfl, hS1, rfl, rfl, rfl, rfl, rfl, rfl, rfl, rfl⟩
      · rintro i _ _ hi ⟨t3, rdy3, S3, v1, v2, rfl, rfl, hS3, hf3, hsu3, hks3, hts3, hn3, hsc3, ha3, hb3⟩
        rw [mints_len] at hi
        have hv : listV (mints (t.su k)) i = .int ((t.su k).getD i 0) := by
          have h1 := listV_get (xs := mints (t.su k)) (i := i) (by rw [mints_len]; exact hi)
          rw [mints_get (k := (t.su k).getD i 0) (by simp [List.getD, List.getElem?_eq_getElem hi])] at h1
          exact (Option.some.inj h1).symm
        have htk : (t.su k).take (i + 1) = (t.su k).take i ++ [(t.su k).getD i 0] := by rw [List.take_succ_eq_append_getElem hi]; simp [List.getD, List.getElem?_eq_getElem hi]
        have hjin : (t.su k).getD i 0 ∈ t3.ks := by rw [hks3]; exact hsub _ (by simp [List.getD, List.getElem?_eq_getElem hi])
        have hr3 : rdy3.length ≤ 2000 := by
          have h1 := decF_len ((t.su k).take i) (fun j => if j = k then -2 else t.np j, rdy)
          rw [← hf3] at h1
          have h2 : ((t.su k).take i).length ≤ 1000 := by rw [List.length_take]; omega
          dsimp only at h1; omega
        rw [hv]
        generalize (t.su k).getD i 0 = j at *
        refine stp (by walk_at "pt") ?_
        refine Tg.nodup fun hn3' => ?_
        have hnS3 := nodup_left hn3'
        refine s_assign ?_; refine e_sub ?_; refine e_name (by walk_at "mem") ?_; refine e_name (by walk_at "mem") ?_
        rw [← hn3]
        refine g_dict (List.mem_append_left _ hS3.s.di) (by rw [lookD_map, if_pos hjin]) ?_
        refine stp (by walk_at "pt") ?_; refine s_augattr ?_; refine e_name (by walk_at "mem") ?_
        refine a_slot (p := 91) (i := 1) (List.mem_append_left _ (hS3.s.nd j hjin).1) (List.mem_append_left _ (hS3.s.nd j hjin).2.1) rfl rfl (v := .int (t3.np j)) rfl ?_
        refine e_int ?_
        refine o_isub ?_
        refine u_slot (p := 91) (i := 1) (List.mem_append_left _ (hS3.s.nd j hjin).1) (List.mem_append_left _ (hS3.s.nd j hjin).2.1) rfl rfl (by decide) (set_in hn3' (hS3.s.nd j hjin).1) ?_
        have hS4 := hS3.setNp (v := t3.np j - 1) hnS3 hjin
        rw [show MO.obj 89 (t3.dn j) (setSlot [.int j, .int (t3.np j), .ref (t3.sc j)] 1 (.int (t3.np j - 1))) = .obj 89 (t3.dn j) [.int j, .int (t3.np j - 1), .ref (t3.sc j)] from rfl]
        have hn4 : ((setL S3 (t3.ni j) (.obj 89 (t3.dn j) [.int j, .int (t3.np j - 1), .ref (t3.sc j)]) ++ ((tp, .tuple [.int k]) :: Z)).map (·.1)).Nodup := by
          rw [List.map_append, setL_keys, ← List.map_append]; exact hn3'
        generalize setL S3 (t3.ni j) (.obj 89 (t3.dn j) [.int j, .int (t3.np j - 1), .ref (t3.sc j)]) = S4 at *
        have hnS4 := nodup_left hn4
        have e1 : t3.np = (((t.su k).take i).foldl decF (fun j => if j = k then -2 else t.np j, rdy)).1 := by rw [← hf3]
        have e2 : rdy3 = (((t.su k).take i).foldl decF (fun j => if j = k then -2 else t.np j, rdy)).2 := by rw [← hf3]
        have hf4 : ((fun m => if m = j then t3.np m - 1 else t3.np m), if t3.np j - 1 = 0 then rdy3 ++ [j] else rdy3) = ((t.su k).take (i + 1)).foldl decF (fun j => if j = k then -2 else t.np j, rdy) := by
          rw [htk, List.foldl_append, ← hf3]; rfl
        have e5 : (fun m => if m = j then t3.np j - 1 else t3.np m) = (fun m => if m = j then t3.np m - 1 else t3.np m) := by
          funext m
          by_cases e : m = j
          · subst e; rfl
          · simp [e]
        refine s_if ?_
        refine b_cmp ?_; refine e_attr ?_; refine e_name (by walk_at "mem") ?_
        refine a_slot (p := 91) (i := 1) (List.mem_append_left _ (hS4.s.nd j hjin).1) (List.mem_append_left _ (hS4.s.nd j hjin).2.1) rfl rfl (v := .int (t3.np j - 1)) (by simp) ?_
        refine e_int ?_
        refine o_eq (asb ?_)
        by_cases hz : t3.np j - 1 = 0
        · rw [if_pos (by simpa using hz)]
          refine s_expr ?_; refine e_meth F.plainAttrs_list F.slot_list_append F.type_list_append ?_; refine e_attr ?_; refine e_name (by walk_at "mem") ?_
          rw [← hts3]
          refine a_attr (List.mem_append_left _ hS4.s.o) (List.mem_append_left _ hS4.s.at_) (v := .ref rl) (by have := hS4.rd; dsimp only at this ⊢; rw [this]; rfl) ?_
          refine ⟨isT_list (List.mem_append_left _ hS4.l), ?_⟩
          refine a_cons ?_; refine e_name (by walk_at "mem") ?_; refine a_nil ?_
          refine c_append (List.mem_append_left _ hS4.l) (by rw [mints_len]; show _ ≤ 1000000; omega) (set_in hn4 hS4.l) ?_
          rw [show mints rdy3 ++ [MV.int j] = mints (rdy3 ++ [j]) by simp [mints]]
          have hS5 := hS4.setRl (rdy' := rdy3 ++ [j]) hnS4
          rw [if_pos hz] at hf4
          refine s_nil (seq_next (s_nil (turn_next ⟨_, List.Sublist.refl _, _, _, _, .int j, .ref (t3.ni j), by rw [hts3, hn3], rfl, hS5, by dsimp only; rw [e5]; exact hf4, hsu3, hks3, hts3, hn3, hsc3, ha3, hb3⟩)))
        · rw [if_neg (by simpa using hz)]
          rw [if_neg hz] at hf4
          refine s_nil (seq_next (s_nil (turn_next ⟨_, List.Sublist.refl _, _, _, _, .int j, .ref (t3.ni j), by rw [hn3], rfl, hS4, by dsimp only; rw [e5]; exact hf4, hsu3, hks3, hts3, hn3, hsc3, ha3, hb3⟩)))
      · rintro _ _ ⟨t3, rdy3, S3, v1, v2, rfl, rfl, hS3, hf3, hsu3, hks3, hts3, hn3, hsc3, ha3, hb3⟩
        rw [mints_len, List.take_length] at hf3
        refine Tg.nodup fun hn3' => ?_
        have hnS3 := nodup_left hn3'
        rw [← hts3]
        refine s_augattr ?_; refine e_name (by walk_at "mem") ?_
        refine a_attr (List.mem_append_left _ hS3.s.o) (List.mem_append_left _ hS3.s.at_) (v := .int t3.b) rfl ?_
        refine e_int ?_
        refine o_iadd ?_
        refine u_attr (List.mem_append_left _ hS3.s.o) (List.mem_append_left _ hS3.s.at_) (fs' := tsA t3.n t3.rd t3.a (t3.b + 1)) (.tail (by decide) (.tail (by decide) (.tail (by decide) .head))) (set_in hn3' hS3.s.at_) (by simp [tsA]) ?_
        have hS5 := hS3.setAB (a := t3.a) (b := t3.b + 1) hnS3 (hS3.s.dne hnS3)
        exact s_nil (turn_next ⟨_, List.Sublist.refl _, .inr ⟨rfl, _, _, _, rfl, hS5, hf3, hsu3, hks3, rfl, ha3, by show t3.b + 1 = _; rw [hb3]⟩⟩)
    · omega
  · rintro _ _ (⟨e, _⟩ | ⟨_, t', rdy', S', rfl, h1, h2, h3, h4, h5, h6, h7⟩)
    · cases e
    · refine Tg.sel (S' ++ Z) (by walk_at "sel") ?_
      refine s_nil ?_
      exact h t' rdy' S' h1 h2 h3 h4 h5 h6 h7
end

structure Rec where
  x : Addr
  d : Addr
  u : Addr
  r : Addr
noncomputable def Rec.mu (c : Rec) (nm : Str) (D : MV) (rs : List Addr) : Mu := [(c.r, .list (refs rs)), (c.u, .list (mstrs [nm])), (c.x, .obj 59 c.d []), (c.d, .attrs (entA c.u c.r D))]
structure WebS (rc : Int → Rec) (dl : Int → MV) (ra : Addr) (RS : Int → List Addr) (S : Mu) : Prop where
  l : (ra, MO.list (refs [(rc 0).x, (rc 1).x, (rc 2).x, (rc 3).x, (rc 4).x])) ∈ S
  at_ : ∀ i : Int, 0 ≤ i → i < 5 → ∀ q ∈ (rc i).mu (nameI i) (dl i) (RS i), q ∈ S
  inj : ∀ i j : Int, 0 ≤ i → i < 5 → 0 ≤ j → j < 5 → (rc i).r = (rc j).r → i = j
  ne : ∀ i : Int, 0 ≤ i → i < 5 → (rc i).r ≠ ra
theorem WebS.set {rc : Int → Rec} {dl : Int → MV} {ra : Addr} {RS : Int → List Addr} {S : Mu} (h : WebS rc dl ra RS S) (hn : (S.map (·.1)).Nodup) {i : Int} (h0 : 0 ≤ i) (h5 : i < 5) {l : List Addr} : WebS rc dl ra (fun j => if j = i then l else RS j) (setL S (rc i).r (.list (refs l))) := by
  have hr := h.at_ i h0 h5 _ (.head _)
  refine ⟨mem_setL h.l (Ne.symm (h.ne i h0 h5)), fun j j0 j5 q hq => ?_, h.inj, h.ne⟩
  have hj := h.at_ j j0 j5
  simp only [Rec.mu, List.mem_cons, List.not_mem_nil, or_false] at hq
  have a2 := hj _ (.tail _ (.head _))
  have a3 := hj _ (.tail _ (.tail _ (.head _)))
  have a4 := hj _ (.tail _ (.tail _ (.tail _ (.head _))))
  rcases hq with rfl | rfl | rfl | rfl
  · by_cases e : j = i
    · subst e; simp only [if_true]; exact mem_setL_self hr
    · simp only [e, if_false]
      exact mem_setL (hj _ (.head _)) fun e' => e (h.inj j i j0 j5 h0 h5 e')
  · refine mem_setL a2 (ne_of_obj hn a2 hr ?_)
    intro e
    injection e with e
    cases hR : RS i with
    | nil => rw [hR] at e; simp [mstrs, refs] at e
    | cons y ys => rw [hR] at e; simp [mstrs, refs] at e
  · exact mem_setL a3 (ne_of_obj hn a3 hr (by exact nofun))
  · exact mem_setL a4 (ne_of_obj hn a4 hr (by exact nofun))
theorem WebS.more {rc : Int → Rec} {dl : Int → MV} {ra : Addr} {RS : Int → List Addr} {S S' : Mu} (h : WebS rc dl ra RS S) (hs : ∀ q ∈ S, q ∈ S') : WebS rc dl ra RS S' := ⟨hs _ h.l, fun i h0 h5 q hq => hs _ (h.at_ i h0 h5 q hq), h.inj, h.ne⟩
section
variable {w : World} {G : Gl w} {A : Around} {L : Addr} {env : Env} {ρ ρ' : Rho} {μ μ' : Mu}
inductive WebI (dl : Int → MV) (aa da ra rg : Addr) (t u v : Tok) (μ : Mu) (i : Nat) (ρ₁ : Rho) (μ₁ : Mu) : Prop
  | mk (rcs : List Rec) (k rec : MV) (z1 : rcs.length = i) (z2 : ρ₁ = [(Str.ofString "aheads", .ref aa), (Str.ofString "delays", .ref da), (Str.ofString "records", .ref ra), (Str.ofString "place", k), (Str.ofString "record", rec), (Str.ofString "one", .undef)]) (z3 : μ₁ = (rg, .raw (rangeObj 5 t u v)) :: (ra, .list (refs (rcs.map (·.x)))) :: ((rcs.zipIdx.flatMap fun p => p.1.mu (nameOf p.2) (dl p.2) []) ++ μ))
inductive WebJ (g : Int → List Int) (dl : Int → MV) (rc : Int → Rec) (rec : MV) (aa da ra : Addr) (μ : Mu) (i : Nat) (ρ₁ : Rho) (μ₁ : Mu) : Prop
  | mk (S : Mu) (RS : Int → List Addr) (k2 one2 : MV) (z1 : ρ₁ = [(Str.ofString "aheads", .ref aa), (Str.ofString "delays", .ref da), (Str.ofString "records", .ref ra), (Str.ofString "place", k2), (Str.ofString "record", rec), (Str.ofString "one", one2)]) (z2 : μ₁ = S ++ μ) (z3 : WebS rc dl ra RS S) (z4 : ∀ j : Int, 0 ≤ j → j < 5 → RS j = if j < i then (g j).map (fun m => (rc m).x) else [])
inductive WebK (g : Int → List Int) (dl : Int → MV) (rc : Int → Rec) (rec : MV) (aa da ra : Addr) (i : Nat) (μ : Mu) (m : Nat) (ρ₁ : Rho) (μ₁ : Mu) : Prop
  | mk (S : Mu) (RS : Int → List Addr) (one2 : MV) (z1 : ρ₁ = [(Str.ofString "aheads", .ref aa), (Str.ofString "delays", .ref da), (Str.ofString "records", .ref ra), (Str.ofString "place", .int i), (Str.ofString "record", rec), (Str.ofString "one", one2)]) (z2 : μ₁ = S ++ μ) (z3 : WebS rc dl ra RS S) (z4 : ∀ j : Int, 0 ≤ j → j < 5 → RS j = if j < i then (g j).map (fun m => (rc m).x) else if j = i then ((g i).take m).map (fun m => (rc m).x) else [])
set_option maxRecDepth 100000 in
set_option maxHeartbeats 2000000 in
theorem c_web {P : MV → Mu → Prop} (hroom : A.depth + 3 < recursionLimit) (hh : A.handled = none) {g : Int → List Int} (hg : ∀ p, Ahead (g p)) {aa da : Addr} {as : Int → Addr} {dl : Int → MV} (ha : AheadsAt g aa as μ) (hd : DelaysAt dl da μ) (hdl : ∀ i, Delay (dl i))
    (h : ∀ (ra : Addr) (rc : Int → Rec) (μ' : Mu), (ra, MO.list (refs [(rc 0).x, (rc 1).x, (rc 2).x, (rc 3).x, (rc 4).x])) ∈ μ' → (∀ i : Int, 0 ≤ i → i < 5 → ∀ q ∈ (rc i).mu (nameI i) (dl i) ((g i).map fun j => (rc j).x), q ∈ μ') → (∀ q ∈ μ, q ∈ μ') → P (.ref ra) μ') : CC G A (.ref 258) [.ref aa, .ref da] P μ := by
  refine c_fn [Str.ofString "aheads", Str.ofString "delays"] [(Str.ofString "records", .undef), (Str.ofString "place", .undef), (Str.ofString "record", .undef), (Str.ofString "one", .undef)] rfl (by omega) rfl rfl rfl rfl rfl rfl rfl rfl rfl rfl (by decide) rfl rfl rfl (fun vs hv => va2 hv fun _ _ _ _ => rfl) ?_
  intro L' qn cd
  show X G _ _ (execs _ _) _ [(Str.ofString "aheads", .ref aa), (Str.ofString "delays", .ref da), (Str.ofString "records", .undef), (Str.ofString "place", .undef), (Str.ofString "record", .undef), (Str.ofString "one", .undef)] _
  refine s_assign ?_; refine e_list ?_; refine a_nil ?_
  refine ⟨by decide, fun ra => ?_⟩
  refine stp (by walk_at "pt") ?_
  refine s_for ?_
  refine e_callt rfl rfl (by decide) ?_; refine a_cons ?_; refine e_int ?_; refine a_nil ?_
  refine c_range fun rg t u v => ?_
  refine ⟨5, fun i => .int i, fun _ => True, WebI dl aa da ra rg t u v μ,
    itOf_range hh (by omega) (.head _), fun _ _ _ _ => trivial, ?_, ?_, ?_⟩
  · exact ⟨[], .undef, .undef, rfl, rfl, rfl⟩
  · rintro i _ _ hi ⟨rcs, k, rec, hrl, rfl, rfl⟩
    refine stp (by walk_at "pt") ?_
    have hdi := hdl i
    refine s_assign ?_; refine e_callfn rfl rfl ?_; refine a_nil ?_
    refine c_entry (by show A.depth + 1 + 1 < _; omega) fun x d us rl => ?_
    refine stp (by walk_at "pt") ?_; refine s_expr ?_; refine e_meth F.plainAttrs_list F.slot_list_append F.type_list_append ?_; refine e_attr ?_; refine e_name (by walk_at "mem") ?_
    refine a_attr (.tail _ (.tail _ (.head _))) (.tail _ (.tail _ (.tail _ (.head _)))) look_u ?_
    refine ⟨isT_list (.tail _ (.head _)), ?_⟩
    refine a_cons ?_; refine e_callfn rfl rfl ?_; refine a_cons ?_; refine e_name (by walk_at "mem") ?_; refine a_nil ?_
    refine c_name (by show A.depth + 1 < _; omega) (n := i) hi ?_
    refine a_nil ?_
    refine c_append (.tail _ (.head _)) (by decide) (.tail .head) ?_
    refine s_setattr ?_; refine e_sub ?_; refine e_name (by walk_at "mem") ?_; refine e_name (by walk_at "mem") ?_
    refine g_list (.tail _ (.tail _ (.tail _ (.tail _ (.tail _ (.tail _ (List.mem_append_right _ hd))))))) (by omega) (five_dl (i : Int) (by omega) (by omega)) ?_
    refine e_name (by walk_at "mem") ?_
    refine u_attr (.tail _ (.tail _ (.head _))) (.tail _ (.tail _ (.tail _ (.head _)))) put_d (.tail (.tail (.tail .head))) (by simp [entA]) ?_
    refine s_expr ?_; refine e_meth F.plainAttrs_list F.slot_list_append F.type_list_append ?_; refine e_name (by walk_at "mem") ?_
    refine ⟨isT_list (.tail _ (.tail _ (.tail _ (.tail _ (.tail _ (.head _)))))), ?_⟩
    refine a_cons ?_; refine e_name (by walk_at "mem") ?_; refine a_nil ?_
    refine c_append (.tail _ (.tail _ (.tail _ (.tail _ (.tail _ (.head _)))))) (by rw [refs_len, List.length_map]; show _ ≤ 1000000; omega) (.tail (.tail (.tail (.tail (.tail .head))))) ?_
    have e1 : ((rcs ++ [(⟨x, d, us, rl⟩ : Rec)]).zipIdx.flatMap fun p => p.1.mu (nameOf p.2) (dl p.2) []) = (rcs.zipIdx.flatMap fun p => p.1.mu (nameOf p.2) (dl p.2) []) ++ (⟨x, d, us, rl⟩ : Rec).mu (nameOf i) (dl i) [] := by
      rw [List.zipIdx_append, List.flatMap_append]; simp [hrl]
    have e2 : refs ((rcs ++ [(⟨x, d, us, rl⟩ : Rec)]).map (·.x)) = refs (rcs.map (·.x)) ++ [.ref x] := by simp [refs]
    refine Tg.sel _ ?_ (s_nil (turn_next ⟨_, List.Sublist.refl _, rcs ++ [⟨x, d, us, rl⟩], .int i, .ref x, by simp [hrl], rfl, rfl⟩))
    · rw [e1, e2]
      generalize (rcs.zipIdx.flatMap fun p => p.1.mu (nameOf p.2) (dl p.2) []) = O
      simp only [Rec.mu, List.append_assoc, List.cons_append, List.nil_append]
      rw [show refs ([] : List Addr) = [] from rfl, show mstrs [nameOf i] = [MV.str (nameOf i)] from rfl]
      walk_at "sel"
  · rintro _ _ ⟨rcs, k, rec, hrl, rfl, rfl⟩
    obtain ⟨c0, c1, c2, c3, c4, rfl⟩ := list5 hrl
    · obtain ⟨rc, r0, r1, r2, r3, r4⟩ : ∃ rc : Int → Rec, rc 0 = c0 ∧ rc 1 = c1 ∧ rc 2 = c2 ∧ rc 3 = c3 ∧ rc 4 = c4 := ⟨fun i => [c0, c1, c2, c3, c4].getD i.toNat c0, rfl, rfl, rfl, rfl, rfl⟩
      refine Tg.nodup fun hn => ?_
      have hweb : WebS rc dl ra (fun _ => []) ((rg, .raw (rangeObj 5 t u v)) :: (ra, .list (refs ([c0, c1, c2, c3, c4].map (·.x)))) :: ([c0, c1, c2, c3, c4].zipIdx.flatMap fun p => p.1.mu (nameOf p.2) (dl p.2) [])) := by
        have hn' : (((rg, MO.raw (rangeObj 5 t u v)) :: (ra, .list (refs ([c0, c1, c2, c3, c4].map (·.x)))) :: ([c0, c1, c2, c3, c4].zipIdx.flatMap fun p => p.1.mu (nameOf p.2) (dl p.2) []) : Mu).map (·.1)).Nodup := nodup_left (Z := μ) hn
        have hp : (ra :: [c0.r, c1.r, c2.r, c3.r, c4.r]).Nodup := by
          refine List.Sublist.nodup ?_ hn'
          simp only [List.zipIdx_cons, List.zipIdx_nil, List.flatMap_cons, List.flatMap_nil, Rec.mu, List.map_cons, List.map_nil, List.cons_append, List.nil_append, List.append_nil]
          refine .cons _ (.cons_cons _ (.cons_cons _ (.cons _ (.cons _ (.cons _ (.cons_cons _ (.cons _ (.cons _ (.cons _ (.cons_cons _ (.cons _ (.cons _ (.cons _ (.cons_cons _ (.cons _ (.cons _ (.cons _ (.cons_cons _ (.cons _ (.cons _ (.cons _ .slnil)))))))))))))))))))))
        simp only [List.nodup_cons, List.mem_cons, List.not_mem_nil, or_false, not_or, not_false_eq_true, List.nodup_nil, and_true] at hp
        refine ⟨?_, ?_, ?_, ?_⟩
        · rw [r0, r1, r2, r3, r4]; exact .tail _ (.head _)
        · refine five ?_ ?_ ?_ ?_ ?_
          · intro q hq; rw [r0] at hq; exact .tail _ (.tail _ (List.mem_append_left _ hq))
          · intro q hq; rw [r1] at hq; exact .tail _ (.tail _ (List.mem_append_right _ (List.mem_append_left _ hq)))
          · intro q hq; rw [r2] at hq; exact .tail _ (.tail _ (List.mem_append_right _ (List.mem_append_right _ (List.mem_append_left _ hq))))
          · intro q hq; rw [r3] at hq; exact .tail _ (.tail _ (List.mem_append_right _ (List.mem_append_right _ (List.mem_append_right _ (List.mem_append_left _ hq)))))
          · intro q hq; rw [r4] at hq; exact .tail _ (.tail _ (List.mem_append_right _ (List.mem_append_right _ (List.mem_append_right _ (List.mem_append_right _ (List.mem_append_left _ hq))))))
        · obtain ⟨_, ⟨a1, a2, a3, a4⟩, ⟨b1, b2, b3⟩, ⟨d1, d2⟩, e1⟩ := hp
          intro i j i0 i5 j0 j5
          have hi : i = 0 ∨ i = 1 ∨ i = 2 ∨ i = 3 ∨ i = 4 := by omega
          have hj : j = 0 ∨ j = 1 ∨ j = 2 ∨ j = 3 ∨ j = 4 := by omega
          rcases hi with rfl | rfl | rfl | rfl | rfl <;> rcases hj with rfl | rfl | rfl | rfl | rfl <;> simp only [r0, r1, r2, r3, r4] <;> intro e <;> first | rfl | trivial | contradiction | (have e' := e.symm; contradiction)
        · obtain ⟨⟨a0, a1, a2, a3, a4⟩, _⟩ := hp
          refine five ?_ ?_ ?_ ?_ ?_ <;> simp only [r0, r1, r2, r3, r4] <;> (intro e; have e' := e.symm; contradiction)
      refine Tg.re (((rg, .raw (rangeObj 5 t u v)) :: (ra, .list (refs ([c0, c1, c2, c3, c4].map (·.x)))) :: ([c0, c1, c2, c3, c4].zipIdx.flatMap fun p => p.1.mu (nameOf p.2) (dl p.2) [])) ++ μ) (fun q hq => hq) (fun h => h) ?_
      generalize ((rg, MO.raw (rangeObj 5 t u v)) :: (ra, .list (refs ([c0, c1, c2, c3, c4].map (·.x)))) :: ([c0, c1, c2, c3, c4].zipIdx.flatMap fun p => p.1.mu (nameOf p.2) (dl p.2) []) : Mu) = S0 at hweb ⊢
      refine s_for ?_
      refine e_callt rfl rfl (by decide) ?_; refine a_cons ?_; refine e_int ?_; refine a_nil ?_
      refine c_range fun rg2 t2 u2 v2 => ?_
      refine ⟨5, fun i => .int i, fun _ => True, WebJ g dl rc rec aa da ra μ,
        itOf_range hh (by omega) (.head _), fun _ _ _ _ => trivial, ⟨(rg2, .raw (rangeObj 5 t2 u2 v2)) :: S0, _, k, .undef, rfl, rfl, hweb.more fun q hq => .tail _ hq, fun j h0 _ => by rw [if_neg (by omega)]⟩, ?_, ?_⟩
      · rintro i _ _ hi ⟨S, RS, k2, one2, rfl, rfl, hS, hRS⟩
        refine stp (by walk_at "pt") ?_
        refine s_for ?_
        refine e_sub ?_; refine e_name (by walk_at "mem") ?_; refine e_name (by walk_at "mem") ?_
        refine g_list (List.mem_append_right _ ha.1) (by omega) (five_get (i : Int) (by omega) (by omega)) ?_
        refine ⟨(mints (g i)).length, listV (mints (g i)), fun μ => (as i, MO.list (mints (g i))) ∈ μ, WebK g dl rc rec aa da ra i μ,
          itOf_list (by exact hh) (List.mem_append_right _ (ha.2 i (by omega) (by omega))), ?_, ⟨S, RS, one2, rfl, rfl, hS, fun j h0 h5 => by rw [hRS j h0 h5]; simp⟩, ?_, ?_⟩
        · rintro m _ _ ⟨S, RS, one2, rfl, rfl, _⟩; exact List.mem_append_right _ (ha.2 i (by omega) (by omega))
        · rintro m _ _ hm ⟨S, RS, one2, rfl, rfl, hS, hRS⟩
          rw [mints_len] at hm
          have hv : listV (mints (g i)) m = .int ((g i).getD m 0) := by
            have h1 := listV_get (xs := mints (g i)) (i := m) (by rw [mints_len]; exact hm)
            rw [mints_get (k := (g i).getD m 0) (by simp [List.getD, List.getElem?_eq_getElem hm])] at h1
            exact (Option.some.inj h1).symm
          have htk : (g i).take (m + 1) = (g i).take m ++ [(g i).getD m 0] := by rw [List.take_succ_eq_append_getElem hm]; simp [List.getD, List.getElem?_eq_getElem hm]
          have hon := (hg i).2 ((g i).getD m 0) (by simp [List.getD, List.getElem?_eq_getElem hm])
          have hgl := (hg i).len
          rw [hv]
          generalize (g i).getD m 0 = o at *
          refine stp (by walk_at "pt") ?_
          refine Tg.nodup fun hn2 => ?_
          have hi0 : (0 : Int) ≤ i := by omega
          have hi5 : (i : Int) < 5 := by omega
          refine s_expr ?_; refine e_meth F.plainAttrs_list F.slot_list_append F.type_list_append ?_; refine e_attr ?_; refine e_sub ?_; refine e_name (by walk_at "mem") ?_; refine e_name (by walk_at "mem") ?_
          refine g_list (List.mem_append_left _ hS.l) hi0 (five_get (as := fun i => (rc i).x) (i : Int) hi0 hi5) ?_
          refine a_attr (List.mem_append_left _ (hS.at_ i hi0 hi5 _ (.tail _ (.tail _ (.head _))))) (List.mem_append_left _ (hS.at_ i hi0 hi5 _ (.tail _ (.tail _ (.tail _ (.head _)))))) look_r ?_
          have hrl := hS.at_ i hi0 hi5 _ (.head _)
          refine ⟨isT_list (List.mem_append_left _ hrl), ?_⟩
          refine a_cons ?_; refine e_sub ?_; refine e_name (by walk_at "mem") ?_; refine e_name (by walk_at "mem") ?_
          refine g_list (List.mem_append_left _ hS.l) hon.1 (five_get (as := fun i => (rc i).x) o hon.1 hon.2) ?_
          refine a_nil ?_
          have hRl : (RS i).length ≤ 1000 := by
            rw [hRS i hi0 hi5, if_neg (by omega), if_pos rfl, List.length_map, List.length_take]; omega
          refine c_append (List.mem_append_left _ hrl) (by rw [refs_len]; show _ ≤ 1000000; omega) (set_in hn2 hrl) ?_
          rw [show refs (RS i) ++ [MV.ref (rc o).x] = refs (RS i ++ [(rc o).x]) by simp [refs]]
          refine s_nil (turn_next ⟨_, List.Sublist.refl _, _, _, .int o, rfl, rfl, hS.set (nodup_left hn2) hi0 hi5, fun j h0 h5 => ?_⟩)
          by_cases e : j = i
          · subst e
            rw [if_pos rfl, hRS _ h0 h5, if_neg (by omega), if_pos rfl, if_neg (by omega), if_pos rfl, htk, List.map_append]; rfl
          · rw [if_neg e, hRS j h0 h5, if_neg e, if_neg e]
        · rintro _ _ ⟨S, RS, one2, rfl, rfl, hS, hRS⟩
          rw [mints_len, List.take_length] at hRS
          refine s_nil (turn_next ⟨_, List.Sublist.refl _, S, RS, .int i, one2, rfl, rfl, hS, fun j h0 h5 => ?_⟩)
          rw [hRS j h0 h5]
          by_cases e : j = i
          · subst e; rw [if_neg (by omega), if_pos rfl, if_pos (by omega)]
          · by_cases e2 : j < i
            · rw [if_pos e2, if_pos (by omega)]
            · rw [if_neg e2, if_neg e, if_neg (by omega)]
      · rintro _ _ ⟨S, RS, k2, one2, rfl, rfl, hS, hRS⟩
        refine s_ret ?_; refine e_name (by walk_at "mem") ?_
        refine h ra rc _ (List.mem_append_left _ hS.l) (fun i h0 h5 q hq => List.mem_append_left _ (hS.at_ i h0 h5 q ?_)) fun q hq => List.mem_append_right _ hq
        rw [hRS i h0 h5, if_pos (by omega)]; exact hq
end

section
set_option maxRecDepth 100000
noncomputable def tupH (h : Heap) (l : Addr) : Heap := (iterH h l).push { cls := .type "tuple", data := .seq #[.ref h.objs.size] }
noncomputable def mapObj (tp : Addr) : Obj := { cls := .type "map", data := .fields #[.ref tp, .type "str"] }
theorem meets_map_new (l : Addr) (xs : Array Value) :
    Meets (Builtin.«map.__new__» ⟨[.type "map", .type "str", .ref l], []⟩) (fun _ R s => s.heap.IsList l xs ∧
      R (.ok (.ret (.ref (tupH s.heap l).objs.size))) { s with heap := (tupH s.heap l).push { cls := .type "map", data := .fields #[.ref (iterH s.heap l).objs.size, .type "str"] } }) :=
  .of_wp fun prog w A R s h => by
    obtain ⟨hp, g, d, tk, os⟩ := s; obtain ⟨hl1, h⟩ := h
    have hsub := sub_map
    have hL1 : Heap.IsList (Shared.heap ⟨hp, g, d, tk, os⟩) l xs := hl1
    wp_walk using wpAny_pyIter_list hL1
    exact ⟨_, rfl, h⟩
section
variable {w : World} {G : Gl w} {A : Around} {L : Addr} {env : Env} {ρ ρ' : Rho} {μ μ' : Mu} {s₀ : Shared} {B : Addr → Option Obj} {s : Shared}
theorem c_map {l : Addr} {xs : List MV} {P : MV → Mu → Prop} (hl : (l, MO.list xs) ∈ μ) (h : ∀ f tp it, P (.ref f) ((f, .raw (mapObj tp)) :: (tp, .raw { cls := .type "tuple", data := .seq #[.ref it] }) :: (it, .raw (iterObj l 0)) :: μ)) : CJ G A (.type "map") [.con (.type "str"), .ref l] P μ := by
  intro s₀ B L ρ s vs hs hv
  refine va2 hv fun _ _ h1 h2 => ?_
  · cases h1; cases h2
    obtain ⟨us, c, g5, hus⟩ := hs.list hl
    refine callType_new called_map (by decide) (typeCall_map_2 _ _) (newCall_map_2 _ _) (fun obj => PySem.F.args_object_init_3 obj _ _) entry_map_new
      (meets_map_new l us.toArray) ⟨isList_of g5, ?_⟩
    have hs1 := hs.push (o := .raw (iterObj l 0)) (x := iterObj l 0) (tk := s.toks) rfl rfl
    have hs2 := hs1.push (o := .raw { cls := .type "tuple", data := .seq #[.ref s.heap.objs.size] }) (x := { cls := .type "tuple", data := .seq #[.ref s.heap.objs.size] }) (tk := s.toks) rfl rfl
    have hs3 := hs2.push (o := .raw (mapObj (iterH s.heap l).objs.size)) (x := mapObj (iterH s.heap l).objs.size) (tk := s.toks) rfl rfl
    refine ⟨⟨_, Heap.get?_push_size _ rfl, rfl⟩, _, _, vr, hs3, h _ _ _⟩
end
end

section
set_option maxRecDepth 100000
section
variable {prog : Program} {w : World} {A : Around} {E : Value → Shared → Prop} {s : Shared}
theorem map_next_item {f tp it l : Addr} {i : Nat} {items : Array Value} {x : Value} {Q : Option Value → Shared → Prop} (hf : s.heap.get? f = some (mapObj tp)) (htp : s.heap.get? tp = some { cls := .type "tuple", data := .seq #[.ref it] }) (hit : s.heap.get? it = some (iterObj l i)) (hl : s.heap.IsList l items) (hx : items[i]? = some x) (hfi : f ≠ it)
    (h : ∀ h', h'.get? it = some (iterObj l (i + 1)) → Heap.SameBut it s.heap h' → wpAny (model prog w) A.in1 (call (.type "str") [x]) (fun v s' => Q (some v) s') (fun _ _ => False) { s with heap := h' }) : wpAny (model prog w) A (pyNext (.ref f)) Q E s := by
  have hT : s.TypeIs (.ref f) "map" := ⟨_, hf, rfl⟩
  unfold pyNext
  refine wpAny_bind (wpAny_attempt (wpAny_callSpecial?_slot (name := Str.ofString "__next__") hT slot_map_next (wpAny_call_entry slot_map_next hT entry_map_next ?_ (args_map_next _))))
  show wpAny _ _ (field (.ref f) 0 >>= _) _ _ s
  refine wpAny_bind (wpAny_field hf rfl (x := .ref tp) rfl ?_)
  refine wpAny_bind (wpAny_seqItems htp rfl ?_)
  dsimp only
  rw [← Array.forIn_toList]
  simp only [List.forIn_cons, List.forIn_nil]
  refine wpAny_bind (wpAny_bind (wpAny_bind (wpAny_holding ?_)))
  unfold Builtin.SmallTypes.nextOf
  refine wpAny_bind (cs_item hit hl hx fun h' hit2 hs' => ?_)
  refine wpAny_pure (wpAny_pure (wpAny_pure ?_))
  have hf' : h'.get? f = some (mapObj tp) := (hs'.2 f hfi).trans hf
  refine wpAny_bind (wpAny_field hf' rfl (x := .type "str") rfl ?_)
  refine wpAny_bind (wpAny_holding (wpAny_mono (h h' hit2 hs') (fun v s' hq => ?_) fun _ _ z => z.elim))
  exact wpAny_bind (wpAny_letGo (wpAny_pure ⟨v, rfl, wpAny_pure hq⟩))
theorem map_next_end {f tp it l : Addr} {i : Nat} {items : Array Value} {Q : Option Value → Shared → Prop} (hh : A.handled = none) (hf : s.heap.get? f = some (mapObj tp)) (htp : s.heap.get? tp = some { cls := .type "tuple", data := .seq #[.ref it] }) (hit : s.heap.get? it = some (iterObj l i)) (hl : s.heap.IsList l items) (hx : items[i]? = none)
    (h : ∀ h', Heap.ExtBut it s.heap h' → Q none { s with heap := h' }) : wpAny (model prog w) A (pyNext (.ref f)) Q E s := by
  have hT : s.TypeIs (.ref f) "map" := ⟨_, hf, rfl⟩
  unfold pyNext
  refine wpAny_bind (wpAny_attempt (wpAny_callSpecial?_slot (name := Str.ofString "__next__") hT slot_map_next (wpAny_call_entry slot_map_next hT entry_map_next ?_ (args_map_next _))))
  show wpAny _ _ (field (.ref f) 0 >>= _) _ _ s
  refine wpAny_bind (wpAny_field hf rfl (x := .ref tp) rfl ?_)
  refine wpAny_bind (wpAny_seqItems htp rfl ?_)
  dsimp only
  rw [← Array.forIn_toList]
  simp only [List.forIn_cons, List.forIn_nil]
  refine wpAny_bind (wpAny_bind (wpAny_bind (wpAny_holding ?_)))
  unfold Builtin.SmallTypes.nextOf
  refine wpAny_bind (cs_end (by simpa using hh) hit hl hx fun h' e hx he => ?_)
  obtain ⟨o, ho, hc⟩ := he
  refine wpAny_bind (wpAny_isInstance (T := "StopIteration") (b := true) ⟨o, ho, hc⟩ isSubtype_stop ?_)
  exact wpAny_pure (h h' hx)
end
end

section
set_option maxRecDepth 100000
section
variable {w : World} {G : Gl w} {A : Around} {L : Addr} {env : Env} {ρ ρ' : Rho} {μ μ' : Mu} {s₀ : Shared} {B : Addr → Option Obj} {s : Shared}
noncomputable def mL (f tp it l : Addr) (i : Nat) (μ : Mu) : Mu := (it, .raw (iterObj l i)) :: (f, .raw (mapObj tp)) :: (tp, .raw { cls := .type "tuple", data := .seq #[.ref it] }) :: μ
inductive mSx {w : World} (G : Gl w) (s₀ : Shared) (B : Addr → Option Obj) (L : Addr) (ρ : Rho) (D : Addr) (M : Mu) (s : Shared) : Prop
  | mk (h₀ : Heap) (oD : Obj) (h : Heap.SameBut D h₀ s.heap) (hs : St G s₀ (Bset B D oD) L ρ M { s with heap := h₀ })
theorem mSx.st {D : Addr} {M : Mu} {o : Obj} (h : mSx G s₀ B L ρ D M s) (hlow : ∀ b x, G.hb.get? b = some x → B b = some x) (hB : B D = none) (hD : s.heap.get? D = some o) : St G s₀ (Bset B D o) L ρ M s := by
  obtain ⟨h₀, oD, hsb, hs⟩ := h
  exact hs.rehide (tk := s.toks) hlow hB hsb hD
theorem mSx.of {D : Addr} {M : Mu} {o : Obj} (h : St G s₀ (Bset B D o) L ρ M s) : mSx G s₀ B L ρ D M s := ⟨s.heap, o, ⟨rfl, fun _ _ => rfl⟩, h⟩
theorem mSx.ty {f tp it l D : Addr} {i : Nat} (h : mSx G s₀ B L ρ D (mL f tp it l i μ) s) : s.heap.get? f = some (mapObj tp) := by
  obtain ⟨h₀, oD, hsb, hs⟩ := h
  obtain ⟨hb, _, _, g, e⟩ := hs.ob (f, .raw (mapObj tp)) (.tail _ (.head _)); cases e
  have : f ≠ D := by rintro rfl; simp [Bset] at hb
  exact (hsb.2 f this).trans g
theorem map_itr {f tp it l D : Addr} {xs : List MV} {ys : List Str} (hh : A.handled = none) (hlow : ∀ b x, G.hb.get? b = some x → B b = some x) (hB : B D = none) (hl : (l, MO.list xs) ∈ μ) (hlen : ys.length = xs.length)
    (h : ∀ (i : Nat) x y, xs[i]? = some x → ys[i]? = some y → ∀ μ', (∀ q ∈ μ, q ∈ μ') → CJ G A.in1 (.type "str") [x] (fun v μ'' => v = .str y ∧ μ'' = μ') μ') :
    Itr PR w A f "map" xs.length (fun j v => ∃ t, v = .str (ys.getD j Str.empty) t) (fun i => mSx G s₀ B L ρ D (mL f tp it l i μ)) (mSx G s₀ B L ρ D μ) D where
  ty := fun i s h => ⟨_, h.ty, rfl⟩
  upd := fun i s h' q hsb => by
    cases q with | mk h₀ oD h1 hs =>
    exact ⟨h₀, oD, ⟨hsb.1.trans h1.1, fun b hb => (hsb.2 b hb).trans (h1.2 b hb)⟩, hs⟩
  self := fun i s Q E h hq => by
    have hT : s.TypeIs (.ref f) "map" := ⟨_, h.ty, rfl⟩
    refine wpAny_pyIter_slot hT slot_map_iter (wpAny_call_entry slot_map_iter hT entry_map_iter ?_ (args_map_iter _))
    show wpAny _ _ (ret (.ref f)) _ _ _
    exact wpAny_pure ⟨_, rfl, "map", _, hT, slot_map_next.lookup, hq⟩
  item := fun i s Q E o hi h0 hDo hq => by
    have hs := h0.st hlow hB hDo
    obtain ⟨_, g1, e⟩ := hs.get (a := it) (.head _); cases e
    obtain ⟨_, g2, e⟩ := hs.get (a := f) (.tail _ (.head _)); cases e
    obtain ⟨_, g3, e⟩ := hs.get (a := tp) (.tail _ (.tail _ (.head _))); cases e
    obtain ⟨us, n, g4, hus⟩ := hs.list (a := l) (.tail _ (.tail _ (.tail _ hl)))
    have hx : xs[i]? = some xs[i] := List.getElem?_eq_getElem hi
    have hy : ys[i]? = some (ys[i]'(by omega)) := List.getElem?_eq_getElem (by omega)
    obtain ⟨v, hv1, hv2⟩ := hus.get hx
    have hfi : f ≠ it := by
      have := hs.nm
      simp only [mL, List.map_cons, List.nodup_cons, List.mem_cons, not_or] at this
      exact fun e => this.1.1 e.symm
    refine map_next_item g2 g3 g1 (isList_of g4) (by simpa using hv1) hfi fun h' hit hsb => ?_
    have hs2 := hs.set (tk := s.toks) (o := .raw (iterObj l (i + 1))) SetAt.head hsb ⟨_, hit, rfl⟩
    refine (h i _ _ hx hy ((it, .raw (iterObj l (i + 1))) :: (f, .raw (mapObj tp)) :: (tp, .raw { cls := .type "tuple", data := .seq #[.ref it] }) :: μ) (fun q hq => .tail _ (.tail _ (.tail _ hq)))).use (vs := [v]) hs2 ⟨hv2, trivial⟩ fun x u μ' s' hxu hs' e => ?_
    cases e.1; cases e.2
    obtain ⟨t, rfl⟩ := hxu
    refine hq _ s' ⟨t, ?_⟩ (mSx.of hs') hs'.hidden
    congr 1
    simp [List.getD, hy]
  done := fun s Q E o h0 hDo hq => by
    have hs := h0.st hlow hB hDo
    obtain ⟨_, g1, e⟩ := hs.get (a := it) (.head _); cases e
    obtain ⟨_, g2, e⟩ := hs.get (a := f) (.tail _ (.head _)); cases e
    obtain ⟨_, g3, e⟩ := hs.get (a := tp) (.tail _ (.tail _ (.head _))); cases e
    obtain ⟨us, n, g4, hus⟩ := hs.list (a := l) (.tail _ (.tail _ (.tail _ hl)))
    have hl2 := hus.length
    refine map_next_end hh g2 g3 g1 (isList_of g4) (by simp; omega) fun h' he => ?_
    have hb := hs.ob _ (List.Mem.head _)
    have hs3 := (hs.sub (μ' := μ) (List.Sublist.cons _ (List.Sublist.cons _ (List.Sublist.cons _ (List.Sublist.refl _))))).jump (h' := h') (tk := s.toks) (W := [it]) (by
      intro a ha
      rw [List.mem_singleton.mp ha]
      refine ⟨hb.b, hb.l, ?_⟩
      have := hs.nm
      simp only [mL, List.map_cons, List.nodup_cons, List.mem_cons, not_or] at this
      exact this.1.2.2) (fun b o hb ho => he b o (by simpa using hb) ho)
    exact hq _ (mSx.of hs3) hs3.hidden
theorem vrs_of {ys : List Str} {n : Nat} {acc : Array Value} (hlen : ys.length = n) (h : ItemsOf (fun j v => ∃ t, v = .str (ys.getD j Str.empty) t) acc n) : VRs (mstrs ys) acc.toList := by
  exact of_strs (by rw [Array.length_toList, h.1, hlen]) fun j v hv => h.2 j v (by rwa [← Array.getElem?_toList])
theorem c_extmap {f tp it l D : Addr} {ys : List Str} {xs : List MV} {zs : List MV} {P : MV → Mu → Prop} (hh : A.handled = none) (hl : (l, MO.list xs) ∈ μ) (hlen : ys.length = xs.length) (hz : zs.length + xs.length ≤ 1000000)
    (h : ∀ (i : Nat) x y, xs[i]? = some x → ys[i]? = some y → ∀ μ', (∀ q ∈ μ, q ∈ μ') → CJ G A.in1.in1 (.type "str") [x] (fun v μ'' => v = .str y ∧ μ'' = μ') μ')
    (hP : P .none ((D, .list (zs ++ mstrs ys)) :: μ)) : CJ G A (.builtin "list.extend") [.ref D, .ref f] P ((D, .list zs) :: mL f tp it l 0 μ) := by
  intro s₀ B L ρ s vs hs hv
  refine va_rr hv ?_
  · obtain ⟨us, n, ho, hv⟩ := hs.list (.head _)
    obtain ⟨hb, hL, _⟩ := hs.ob _ (.head _)
    have hge := hs.hi D (.head _)
    have hT : s.TypeIs (.ref D) "list" := ⟨_, ho, rfl⟩
    have W := map_itr (A := A.in1) (tp := tp) (f := f) (it := it) (ρ := ρ) (L := L) (s₀ := s₀) (B := B) (D := D) (by simpa using hh) hs.low hb hl hlen h
    have hDf : D ≠ f := by
      have := hs.nm
      simp only [mL, List.map_cons, List.nodup_cons, List.mem_cons, not_or] at this
      exact this.1.2.1
    have hs1 := hs.freeze ho
    have hl2 := hv.length
    refine wpAny_call (codeAny_call_builtin F.slot_list_extend.plain F.entry_list_extend (F.slot_list_extend.check _ _ _ _ _ _ _ _ hT (F.args_list_extend_2 _ _) ?_))
    show wpAny _ A.in1 (Builtin.List.listExtendWith (.ref D) (.ref f) .none) _ _ s
    refine ext_with (R := fun r s' => match r with | .ok (.ret v) => PostC G s₀ B L ρ P v s' | .ok _ => False | .error e => NoE e s') W hDf (by decide) (by decide) nolen_map nohint_map .none us.toArray n (by simp; omega) (mSx.of hs1) ho fun s' acc' c' hf hS' hacc => ?_
    have hs2 := hf.st hs.low hb hS'
    have hs3 := hs2.thaw hs.low hb (o := .list (zs ++ mstrs ys)) ⟨us ++ acc'.toList, c', by simp, hv.append (vrs_of hlen hacc)⟩ hge
    exact ⟨.none, _, rfl, hs3, hP⟩
end
end
theorem join_cc (s x y : Str) (r : List Str) : Str.join s (x :: y :: r) = x ++ s ++ Str.join s (y :: r) := rfl
theorem join_app (s : Str) : ∀ {a b : List Str}, a ≠ [] → b ≠ [] → Str.join s (a ++ b) = Str.join s a ++ s ++ Str.join s b
  | [], _, h, _ => absurd rfl h
  | [x], y :: r, _, _ => rfl
  | _ :: _, [], _, h => absurd rfl h
  | x :: x' :: a, y :: r, _, _ => by
    have ih := join_app s (a := x' :: a) (b := y :: r) (by simp) (by simp)
    show x ++ s ++ Str.join s ((x' :: a) ++ (y :: r)) = x ++ s ++ Str.join s (x' :: a) ++ s ++ Str.join s (y :: r)
    rw [ih]; simp only [Str.append_assoc]
theorem join_fold (s : Str) {a b : List Str} (R : List Str) (hb : b ≠ []) : Str.join s (a ++ b ++ R) = Str.join s (a ++ [Str.join s b] ++ R) := by
  have h1 : Str.join s (a ++ b) = Str.join s (a ++ [Str.join s b]) := by
    by_cases ha : a = []
    · subst ha; rfl
    · rw [join_app s ha hb, join_app s ha (by simp)]; rfl
  by_cases hR : R = []
  · subst hR; simpa using h1
  · rw [join_app s (by simp [hb]) hR, join_app s (by simp) hR, h1]
theorem join_flat (s : Str) {α : Type} (f : α → List Str) : ∀ (l : List α) (a : List Str), (∀ x ∈ l, f x ≠ []) → Str.join s (a ++ l.flatMap f) = Str.join s (a ++ l.map fun x => Str.join s (f x))
  | [], a, _ => by simp
  | x :: r, a, h => by
    have ih := join_flat s f r (a ++ f x) (fun y hy => h y (.tail _ hy))
    rw [List.flatMap_cons, ← List.append_assoc, ih, join_fold s _ (h x (.head _))]
    simp
noncomputable def wt (l : List Str) : Nat := (l.map (·.length)).sum + l.length
theorem wt_app (a b : List Str) : wt (a ++ b) = wt a + wt b := by simp [wt]; omega
theorem wt_cons (a : Str) (b : List Str) : wt (a :: b) = a.length + 1 + wt b := by simp [wt]; omega
theorem join_wt (s : Str) (hs : s.length = 1) : ∀ {l : List Str}, l ≠ [] → (Str.join s l).length + 1 ≤ wt l
  | [], h => absurd rfl h
  | [x], _ => by simp [Str.join, wt]
  | x :: y :: r, _ => by
    have ih := join_wt s hs (l := y :: r) (by simp)
    rw [join_cc, Str.length_append, Str.length_append, wt_cons]; omega
theorem wt_flat (s : Str) (hs : s.length = 1) {α : Type} (f : α → List Str) : ∀ (l : List α), (∀ x ∈ l, f x ≠ []) → wt (l.map fun x => Str.join s (f x)) ≤ wt (l.flatMap f)
  | [], _ => by simp
  | x :: r, h => by
    have ih := wt_flat s hs f r (fun y hy => h y (.tail _ hy))
    have h1 := join_wt s hs (h x (.head _))
    rw [List.map_cons, wt_cons, List.flatMap_cons, wt_app]; omega
theorem wt_short {l : List Str} (h : ∀ y ∈ l, y.length ≤ 100) : wt l ≤ 101 * l.length := by
  induction l with
  | nil => simp [wt]
  | cons x r ih =>
    have := h x (.head _)
    have := ih fun y hy => h y (.tail _ hy)
    rw [wt_cons, List.length_cons]; omega
section
variable {g : Int → List Int} {lns : Int → List Str}
theorem Rspec_len (hg : ∀ p, (g p).length ≤ 5) (hl : ∀ i, (lns i).length ≤ 3) {p : Int} : (Rspec g lns p).length ≤ 2343 := by
  have h1 := flatMap_len (l := W g p) (f := fun way => lns (lastI way)) (k := 3) fun way _ => hl _
  have h2 := W_len hg (p := p)
  unfold Rspec; omega
theorem Rspec_wt (hg : ∀ p, (g p).length ≤ 5) (hl : ∀ i, (lns i).length ≤ 3) (hs : ∀ i, ∀ y ∈ lns i, y.length ≤ 100) {p : Int} : wt (Rspec g lns p) ≤ 236643 := by
  have h1 := Rspec_len hg hl (p := p)
  have h2 := wt_short (l := Rspec g lns p) fun y hy => by
    obtain ⟨way, _, hy⟩ := List.mem_flatMap.mp hy
    exact hs _ y hy
  omega
theorem Rspec_ne (hl : ∀ i, lns i ≠ []) {p : Int} : Rspec g lns p ≠ [] := by
  unfold Rspec W wk
  rw [List.flatMap_cons]
  simp [hl]
end

noncomputable def lnsOf (g : Int → List Int) (dl : Int → MV) (i : Int) : List Str := linesOf i.toNat (dl i) (g i)
noncomputable def nlS : Str := Str.ofString "\n"
noncomputable def textOf (g : Int → List Int) (dl : Int → MV) (p : Int) : Str := Str.join nlS (Rspec g (lnsOf g dl) p)
theorem lnsOf_len {g : Int → List Int} {dl : Int → MV} (i : Int) : (lnsOf g dl i).length ≤ 3 := linesOf_len
theorem lnsOf_ne {g : Int → List Int} {dl : Int → MV} (i : Int) : lnsOf g dl i ≠ [] := by simp [lnsOf, linesOf]
theorem lnsOf_short {g : Int → List Int} {dl : Int → MV} (hdl : ∀ i, Delay (dl i)) (i : Int) : ∀ y ∈ lnsOf g dl i, y.length ≤ 100 := linesOf_short (hdl i)
noncomputable def retOfE (g : Int → List Int) (dl : Int → MV) (p : Int) : List Str := (Str.ofString "User-agent: " ++ nameI p) :: (delayLine (dl p) ++ if g p = [] then [Str.ofString "Allow:"] else (g p).map (textOf g dl))
theorem retOfE_join {g : Int → List Int} {dl : Int → MV} {p : Int} (h : ends g 5 p = true) : Str.join nlS (retOfE g dl p) = textOf g dl p := by
  unfold textOf
  rw [Rspec_eq h, join_flat nlS (Rspec g (lnsOf g dl)) (g p) _ fun x _ => Rspec_ne lnsOf_ne]
  unfold retOfE lnsOf linesOf nameI
  by_cases hg : g p = []
  · simp [hg]
  · simp [hg]; rfl
theorem retOfE_wt {g : Int → List Int} {dl : Int → MV} (hg : ∀ p, (g p).length ≤ 5) (hdl : ∀ i, Delay (dl i)) {p : Int} (h : ends g 5 p = true) : wt (retOfE g dl p) ≤ 236643 := by
  have h1 := Rspec_wt hg (lnsOf_len (g := g) (dl := dl)) (lnsOf_short hdl) (p := p)
  rw [Rspec_eq h, wt_app] at h1
  have h2 := wt_flat nlS (by decide) (Rspec g (lnsOf g dl)) (g p) fun x _ => Rspec_ne lnsOf_ne
  have h3 : ∀ M, (g p).map (textOf g dl) = M → (M = [] ↔ g p = []) → wt (retOfE g dl p) = wt (lnsOf g dl p) + wt M := by
    intro M e e2
    unfold retOfE lnsOf linesOf nameI
    rw [e]
    by_cases hg : g p = []
    · rw [e2.mpr hg]; simp [hg, wt]
    · simp only [hg, if_false, List.append_nil]
      rw [wt_cons, wt_app, wt_cons]; omega
  have h4 := h3 _ rfl (by simp)
  have h5 : (g p).map (textOf g dl) = (g p).map fun x => Str.join nlS (Rspec g (lnsOf g dl) x) := rfl
  rw [h5] at h4
  omega
section
variable {w : World} {G : Gl w} {A : Around} {L : Addr} {env : Env} {ρ ρ' : Rho} {μ μ' : Mu}
noncomputable def WebAt (g : Int → List Int) (dl : Int → MV) (rc : Int → Rec) (μ : Mu) : Prop := ∀ i : Int, 0 ≤ i → i < 5 → ∀ q ∈ (rc i).mu (nameI i) (dl i) ((g i).map fun j => (rc j).x), q ∈ μ
theorem WebAt.o {g : Int → List Int} {dl : Int → MV} {rc : Int → Rec} (h : WebAt g dl rc μ) {i : Int} (h0 : 0 ≤ i) (h5 : i < 5) : ((rc i).x, MO.obj 59 (rc i).d []) ∈ μ := h i h0 h5 _ (.tail _ (.tail _ (.head _)))
theorem WebAt.a {g : Int → List Int} {dl : Int → MV} {rc : Int → Rec} (h : WebAt g dl rc μ) {i : Int} (h0 : 0 ≤ i) (h5 : i < 5) : ((rc i).d, MO.attrs (entA (rc i).u (rc i).r (dl i))) ∈ μ := h i h0 h5 _ (.tail _ (.tail _ (.tail _ (.head _))))
theorem WebAt.u {g : Int → List Int} {dl : Int → MV} {rc : Int → Rec} (h : WebAt g dl rc μ) {i : Int} (h0 : 0 ≤ i) (h5 : i < 5) : ((rc i).u, MO.list (mstrs [nameI i])) ∈ μ := h i h0 h5 _ (.tail _ (.head _))
theorem WebAt.r {g : Int → List Int} {dl : Int → MV} {rc : Int → Rec} (h : WebAt g dl rc μ) {i : Int} (h0 : 0 ≤ i) (h5 : i < 5) : ((rc i).r, MO.list (refs ((g i).map fun j => (rc j).x))) ∈ μ := h i h0 h5 _ (.head _)
theorem WebAt.more {g : Int → List Int} {dl : Int → MV} {rc : Int → Rec} (h : WebAt g dl rc μ) (hs : ∀ q ∈ μ, q ∈ μ') : WebAt g dl rc μ' := fun i h0 h5 q hq => hs q (h i h0 h5 q hq)
set_option maxHeartbeats 4000000 in
set_option maxRecDepth 100000 in
theorem c_str {g : Int → List Int} {dl : Int → MV} {rc : Int → Rec} (hg : ∀ p, Ahead (g p)) (hdl : ∀ i, Delay (dl i)) : ∀ (n : Nat) {A : Around} {μ : Mu} {p : Int}, A.depth + n < recursionLimit → A.units + 20 * n + 20 < cLine → A.handled = none → 0 ≤ p → p < 5 → ends g n p = true → ends g 5 p = true → WebAt g dl rc μ →
    CC G A (.ref 42) [.ref (rc p).x] (fun v μ' => v = .str (textOf g dl p) ∧ μ' = μ) μ
  | 0, _, _, _, _, _, _, _, _, he, _, _ => by cases he
  | n + 1, A, μ, p, hroom, hu, hh, h0, h5, he, he5, hw => by
    have hro := hw.o h0 h5
    have hra := hw.a h0 h5
    have hru := hw.u h0 h5
    have hrr := hw.r h0 h5
    have hd := hdl p
    refine CC.sub ?_
    refine c_fn [Str.ofString "self"] [(Str.ofString "ret", .undef), (Str.ofString "agent", .undef), (Str.ofString "rate", .undef)] rfl (by omega) rfl rfl rfl rfl rfl rfl rfl rfl rfl rfl (by decide) rfl rfl rfl (fun vs hv => va1 hv fun _ _ => rfl) ?_
    intro L' qn cd
    show X G _ _ (execs _ _) _ [(Str.ofString "self", .ref (rc p).x), (Str.ofString "ret", .undef), (Str.ofString "agent", .undef), (Str.ofString "rate", .undef)] μ
    refine s_if ?_
    refine b_not ?_; refine b_attr ?_; refine e_attr ?_; refine e_name (by walk_at "mem") ?_
    refine a_attr hro hra look_u ?_
    refine t_list hru (by show 1 ≤ 1000000; decide) ?_
    rw [if_neg (by simp [mstrs])]
    refine s_nil ?_; refine seq_next ?_; refine s_assign ?_; refine e_list ?_; refine a_nil ?_
    refine ⟨by decide, fun rt => ?_⟩
    refine stp (by walk_at "pt") ?_
    refine s_for ?_
    refine e_attr ?_; refine e_name (by walk_at "mem") ?_
    refine a_attr (.tail _ hro) (.tail _ hra) look_u ?_
    refine ⟨1, listV (mstrs [nameI p]), fun μ => ((rc p).u, MO.list (mstrs [nameI p])) ∈ μ, fun i ρ₁ μ₁ => (i = 0 ∧ ρ₁ = [(Str.ofString "self", .ref (rc p).x), (Str.ofString "ret", .ref rt), (Str.ofString "agent", .undef), (Str.ofString "rate", .undef)] ∧ μ₁ = (rt, .list []) :: μ) ∨
      (i = 1 ∧ ρ₁ = [(Str.ofString "self", .ref (rc p).x), (Str.ofString "ret", .ref rt), (Str.ofString "agent", .str (nameI p)), (Str.ofString "rate", .undef)] ∧ μ₁ = (rt, .list (mstrs [Str.ofString "User-agent: " ++ nameI p])) :: μ),
      itOf_list (xs := mstrs [nameI p]) (by exact hh) (.tail _ hru), ?_, .inl ⟨rfl, rfl, rfl⟩, ?_, ?_⟩
    · rintro i _ _ (⟨_, rfl, rfl⟩ | ⟨_, rfl, rfl⟩) <;> exact .tail _ hru
    · rintro i _ _ hi (⟨rfl, rfl, rfl⟩ | ⟨rfl, _⟩)
      · show StoreP (Str.ofString "agent") (.str (nameI p)) _ _
        refine stp (by walk_at "pt") ?_
        refine s_expr ?_; refine e_meth F.plainAttrs_list F.slot_list_append F.type_list_append ?_; refine e_name (by walk_at "mem") ?_
        refine ⟨isT_list (.head _), ?_⟩
        refine a_cons ?_
        refine e_fstr (by decide) ?_
        refine e_name (by walk_at "mem") ?_
        refine ⟨_, ⟨rfl, by have := nameOf_len p.toNat; show (nameOf p.toNat).length ≤ 1000; omega⟩, ?_⟩
        refine a_nil ?_
        refine c_append (.head _) (by show 0 ≤ 1000000; decide) .head ?_
        refine s_nil (turn_next ⟨_, List.Sublist.refl _, .inr ⟨rfl, rfl, rfl⟩⟩)
      · omega
    · rintro _ _ (⟨e, _⟩ | ⟨_, rfl, rfl⟩)
      · cases e
      refine s_ifj (fun ρ μ₁ => ρ = [(Str.ofString "self", .ref (rc p).x), (Str.ofString "ret", .ref rt), (Str.ofString "agent", .str (nameI p)), (Str.ofString "rate", .undef)] ∧ μ₁ = (rt, .list (mstrs ((Str.ofString "User-agent: " ++ nameI p) :: delayLine (dl p)))) :: μ) ?_ ?_
      · rintro _ _ ⟨rfl, rfl⟩
        refine s_if ?_
        refine b_cmp ?_; refine e_attr ?_; refine e_name (by walk_at "mem") ?_
        refine a_attr (.tail _ hro) (.tail _ hra) look_q ?_
        refine e_none ?_
        refine o_isnot_none (x := .none) (asb ?_)
        rw [if_neg (by decide)]
        refine s_nil ?_; refine seq_next ?_
        have hdlen : (delayLine (dl p)).length ≤ 1 := by rcases hd with e | ⟨i, e, _⟩ <;> simp [e, delayLine]
        refine s_ifj (fun ρ μ₁ => ρ = [(Str.ofString "self", .ref (rc p).x), (Str.ofString "ret", .ref rt), (Str.ofString "agent", .str (nameI p)), (Str.ofString "rate", .undef)] ∧ μ₁ = (rt, .list (mstrs (retOfE g dl p))) :: μ) ?_ ?_
        · rintro _ _ ⟨rfl, rfl⟩
          refine s_ret (e_meth F.plainAttrs_str F.slot_str_join F.type_str_join ?_)
          refine e_str ?_
          refine ⟨isT_str, ?_⟩
          refine a_cons ?_; refine e_name (by walk_at "mem") ?_; refine a_nil ?_
          refine c_join (.head _) (by decide) (by have := retOfE_wt (fun p => (hg p).len) hdl he5; unfold wt at this; omega) ?_
          refine ⟨_, List.sublist_cons_self _ _, ?_, rfl⟩
          show MV.str (Str.join nlS (retOfE g dl p)) = _
          rw [retOfE_join he5]
        · refine b_attr ?_; refine e_attr ?_; refine e_name (by walk_at "mem") ?_
          refine a_attr (.tail _ hro) (.tail _ hra) look_r ?_
          have hgl := (hg p).len
          refine t_list (.tail _ hrr) (by simp [refs]; show _ ≤ 1000000; omega) ?_
          by_cases hgp : g p = []
          · rw [if_neg (by simp [hgp, refs])]
            refine s_expr ?_; refine e_meth F.plainAttrs_list F.slot_list_append F.type_list_append ?_; refine e_name (by walk_at "mem") ?_
            refine ⟨isT_list (.head _), ?_⟩
            refine a_cons ?_; refine e_str ?_; refine a_nil ?_
            refine c_append (.head _) (by simp [mstrs]; show _ ≤ 1000000; omega) .head ?_
            refine s_nil ⟨rfl, rfl, ?_⟩
            simp [mstrs, retOfE, hgp]
          · rw [if_pos (by simp [hgp, refs])]
            refine s_expr ?_; refine e_meth F.plainAttrs_list F.slot_list_extend F.type_list_extend ?_; refine e_name (by walk_at "mem") ?_
            refine ⟨isT_list (.head _), ?_⟩
            refine a_cons ?_; refine e_callt rfl rfl (by decide) ?_; refine a_cons ?_
            refine e_builtin (mv := .con (.type "str")) rfl rfl (by decide) vc ?_
            refine a_cons ?_; refine e_attr ?_; refine e_name (by walk_at "mem") ?_
            refine a_attr (.tail _ hro) (.tail _ hra) look_r ?_
            refine a_nil ?_
            refine c_map (.tail _ hrr) fun f tp it => ?_
            refine a_nil ?_
            refine CJ.sel ((rt, .list (mstrs ((Str.ofString "User-agent: " ++ nameI p) :: delayLine (dl p)))) :: mL f tp it (rc p).r 0 μ) (by show Sel ((rt, .list (mstrs ((Str.ofString "User-agent: " ++ nameI p) :: delayLine (dl p)))) :: (it, .raw (iterObj (rc p).r 0)) :: (f, .raw (mapObj tp)) :: (tp, .raw { cls := .type "tuple", data := .seq #[.ref it] }) :: μ) _; walk_at "sel") ?_
            refine c_extmap (ys := (g p).map (textOf g dl)) (by exact hh) hrr (by simp [refs]) (by simp [refs, mstrs]; omega) ?_ ?_
            · intro i x y hx hy μ' hs
              simp only [refs, List.getElem?_map, Option.map_eq_some_iff] at hx hy
              obtain ⟨_, ⟨q, hq, rfl⟩, rfl⟩ := hx
              obtain ⟨q', hq', rfl⟩ := hy
              rw [hq] at hq'; cases hq'
              have hqm := List.mem_of_getElem? hq
              have hq5 := (hg p).2 q hqm
              have hw' := hw.more hs
              refine c_strobj (hw'.o hq5.1 hq5.2) (hw'.a hq5.1 hq5.2) (by show A.units + 3 + 1 + 1 + 10 < cLine; omega) rfl rfl fun A' e1 e2 e3 => ?_
              refine (c_str hg hdl n (A := A') (μ := μ') (p := q) (by rw [e1]; show A.depth + 1 + n < _; omega) (by rw [e2]; show A.units + 3 + 1 + 1 + 2 + _ + _ < _; omega) (by rw [e3]; exact hh) hq5.1 hq5.2 (ends_lower he q hqm) (ends_step he5 q hqm) hw').mono ?_
              rintro _ _ ⟨rfl, rfl⟩
              exact ⟨_, rfl, rfl, rfl⟩
            · refine s_nil ⟨rfl, rfl, ?_⟩
              simp [mstrs, retOfE, hgp]
      · refine b_cmp ?_; refine e_attr ?_; refine e_name (by walk_at "mem") ?_
        refine a_attr (.tail _ hro) (.tail _ hra) look_d ?_ hd.nc
        refine e_none ?_
        refine o_isnot_none (x := dl p) (asb ?_) hd.nu hd.nc
        rcases hd with e | ⟨i, e, hi0, hi1⟩
        · rw [e]
          simp only [Bool.false_eq_true, if_false]
          refine s_nil ?_
          exact ⟨rfl, rfl, rfl⟩
        · rw [e]
          simp only [if_true]
          refine s_expr ?_; refine e_meth F.plainAttrs_list F.slot_list_append F.type_list_append ?_; refine e_name (by walk_at "mem") ?_
          refine ⟨isT_list (.head _), ?_⟩
          refine a_cons ?_
          refine e_fstr (by decide) ?_
          refine e_attr ?_; refine e_name (by walk_at "mem") ?_
          rw [e] at hra
          refine a_attr (.tail _ hro) (.tail _ hra) look_d ?_
          have := txt_len i hi0 hi1
          refine ⟨_, ⟨rfl, log2_small hi0 hi1, by omega⟩, ?_⟩
          refine a_nil ?_
          refine c_append (.head _) (by show 1 ≤ 1000000; decide) .head ?_
          refine s_nil ?_
          exact ⟨rfl, rfl, rfl⟩
end

section
set_option maxRecDepth 100000
theorem slot_li_getattribute : Slot "list_iterator" "__getattribute__" "object.__getattribute__" :=
  .of (owner := "object") (n := "__getattribute__") (by rw [typeLookup_type, builtinLookup_eq_fast]; kernel_rfl) (by decide +kernel) (by decide +kernel) (by decide +kernel)
    (by first | exact .inl (by decide +kernel) | exact .inr (by decide +kernel)) (by rw [isSubtype_type]; kernel_rfl)
theorem entry_li_getattribute : entryFor table "object.__getattribute__" = some Builtin.«object.__getattribute__» := entryFor_of_tree (by kernel_rfl)
theorem args_li_getattribute (a b : Value) : argsOk "object.__getattribute__" ⟨[a, b], []⟩ := by unfold argsOk; kernel_rfl
theorem li_getattr_none : typeLookup (.type "list_iterator") "__getattr__" = pure none := by rw [typeLookup_type, builtinLookup_eq_fast]; kernel_rfl
theorem lk_li_next : typeLookup (.type "list_iterator") (Str.ofString "__next__") = pure (some (.builtin "list_iterator.__next__")) := slot_listiter_next.lookup
theorem wd_get : typeLookup (.type "wrapper_descriptor") (Str.ofString "__get__") = pure (some (.builtin "wrapper_descriptor.__get__")) := by rw [typeLookup_type, builtinLookup_eq_fast]; kernel_rfl
theorem wd_set : typeLookup (.type "wrapper_descriptor") (Str.ofString "__set__") = pure none := by rw [typeLookup_type, builtinLookup_eq_fast]; kernel_rfl
theorem wd_delete : typeLookup (.type "wrapper_descriptor") (Str.ofString "__delete__") = pure none := by rw [typeLookup_type, builtinLookup_eq_fast]; kernel_rfl
theorem type_li_next : typeOf (.builtin "list_iterator.__next__") = pure (.type "wrapper_descriptor") := by show builtinType _ = _; rw [builtinType_eq_fast]; kernel_rfl
theorem slot_wdget : Slot "wrapper_descriptor" "__get__" "wrapper_descriptor.__get__" :=
  .of (owner := "wrapper_descriptor") (n := "__get__") (by rw [typeLookup_type, builtinLookup_eq_fast]; kernel_rfl) (by decide +kernel) (by decide +kernel) (by decide +kernel)
    (by first | exact .inl (by decide +kernel) | exact .inr (by decide +kernel)) (by rw [isSubtype_type]; kernel_rfl)
theorem entry_wdget : entryFor table "wrapper_descriptor.__get__" = some Builtin.«wrapper_descriptor.__get__» := entryFor_of_tree (by kernel_rfl)
theorem args_wdget (a b c : Value) : argsOk "wrapper_descriptor.__get__" ⟨[a, b, c], []⟩ := by unfold argsOk; kernel_rfl
theorem owner_lin : (kfb_private% "ownerAndName") "list_iterator.__next__" = ("list_iterator", "__next__") := by first | decide +kernel | kernel_rfl
theorem sub_li : isSubtype (.type "list_iterator") (.type "list_iterator") = pure true := by rw [isSubtype_type]; kernel_rfl
noncomputable def mwObj (it : Addr) : Obj := { cls := .type "method-wrapper", data := .fields #[.builtin "list_iterator.__next__", .ref it] }
section
variable {prog : Program} {w : World} {A : Around} {E : Value → Shared → Prop} {s : Shared}
theorem typeIs_lin (s : Shared) : s.TypeIs (.builtin "list_iterator.__next__") "wrapper_descriptor" := type_li_next
theorem run_wdget {a : Addr} {P : Fin → Shared → Prop} (hT : s.TypeIs (.ref a) "list_iterator") (h : P (.done (.ret (.ref s.heap.objs.size))) { s with heap := s.heap.push (mwObj a) }) :
    wpAny (model prog w) A (Builtin.«wrapper_descriptor.__get__» ⟨[.builtin "list_iterator.__next__", .ref a, .type "list_iterator"], []⟩) P E s := by
  unfold Builtin.«wrapper_descriptor.__get__»
  refine wpAny_bind (wpAny_of_eq (a := (.builtin "list_iterator.__next__", some (.ref a), some (.type "list_iterator"))) (by rfl) ?_)
  dsimp only
  show wpAny _ _ ((kfb_private% "checkInstance") (.builtin "list_iterator.__next__") (.ref a) >>= fun _ => newFields "method-wrapper" [.builtin "list_iterator.__next__", .ref a] >>= fun v => ret v) P E s
  refine wpAny_bind ?_
  show wpAny _ _ (isInstance (.ref a) (.type ((kfb_private% "ownerAndName") "list_iterator.__next__").1) >>= fun b => if (!b) = true then _ else pure ()) _ _ _
  rw [owner_lin]
  refine wpAny_bind (wpAny_isInstance hT sub_li ?_)
  refine wpAny_pure ?_
  exact wpAny_bind (wpAny_newObj_type (wpAny_pure h))
theorem gattr_next {a : Addr} {vs : Array Value} {u : Tok} {Q : Value → Shared → Prop} (hx : s.heap.get? a = some { cls := .type "list_iterator", dict := none, data := .fields vs, slots := #[] })
    (h : Q (.ref s.heap.objs.size) { s with heap := s.heap.push (mwObj a) }) :
    wpAny (model prog w) A (Builtin.«object.__getattribute__» ⟨[.ref a, .str (Str.ofString "__next__") u], []⟩) (fun fin s' => ∃ v, fin = .done (.ret v) ∧ Q v s') E s := by
  have hT : s.TypeIs (.ref a) "list_iterator" := ⟨_, hx, rfl⟩
  have hMD : ∀ s' : Shared, s'.TypeIs (.builtin "list_iterator.__next__") "wrapper_descriptor" := fun s' => typeIs_lin s'
  unfold Builtin.«object.__getattribute__»
  refine wpAny_bind (wpAny_pure ?_)
  refine wpAny_bind (wpAny_pure ?_)
  refine wpAny_bind (wpAny_typeOf hT ?_)
  refine wpAny_bind ?_
  unfold Builtin.ObjectAttr.find
  refine wpAny_bind (wpAny_of_eq lk_li_next ?_)
  refine wpAny_bind (m := Builtin.ObjectAttr.getOf _) (wpAny_specialOf (hMD _) wd_get ?_)
  refine wpAny_bind ?_
  unfold Builtin.ObjectAttr.dataDescriptor? Builtin.ObjectAttr.takesStores
  refine wpAny_bind (wpAny_bind (wpAny_specialOf (hMD _) wd_set ?_))
  refine wpAny_bind (wpAny_specialOf (hMD _) wd_delete (wpAny_pure (wpAny_pure ?_)))
  unfold Builtin.ObjectAttr.ownThenClass Builtin.ObjectAttr.inOwnDict Builtin.ObjectAttr.ownDict
  refine wpAny_bind (wpAny_bind (wpAny_bind (PySem.AutoSeq1.wpAny_loadPart' hx ?_)))
  unfold instanceDict
  refine wpAny_bind (PySem.AutoSeq1.wpAny_loadPart' hx ?_)
  refine wpAny_pure ?_
  refine wpAny_pure ?_
  unfold Builtin.ObjectAttr.copiedAttributeGuard
  refine wpAny_bind ?_
  rw [if_neg (by decide)]
  refine wpAny_pure ?_
  refine wpAny_bind (wpAny_rule (wpAny_pure ?_))
  show wpAny _ _ (holding [.builtin "list_iterator.__next__"] (call (.builtin "wrapper_descriptor.__get__") [.builtin "list_iterator.__next__", .ref a, .type "list_iterator"]) >>= fun v => ret v) _ _ _
  exact wpAny_bind (wpAny_holding (wpAny_call_entry slot_wdget (hMD _) entry_wdget (run_wdget hT ⟨_, rfl, wpAny_pure ⟨_, rfl, h⟩⟩) (args_wdget _ _ _)))
theorem getAttr_next {a : Addr} {vs : Array Value} {Q : Value → Shared → Prop} (hx : s.heap.get? a = some { cls := .type "list_iterator", dict := none, data := .fields vs, slots := #[] })
    (h : ∀ tk, Q (.ref s.heap.objs.size) { s with heap := s.heap.push (mwObj a), toks := tk }) :
    wpAny (model prog w) A (getAttr (.ref a) (Str.ofString "__next__") true) Q E s := by
  obtain ⟨hp, g, d, tk, os⟩ := s
  have hT : ∀ tk', (⟨hp, g, d, tk', os⟩ : Shared).TypeIs (.ref a) "list_iterator" := fun _ => ⟨_, hx, rfl⟩
  have f3 := slot_li_getattribute.lookup
  have f4 := slot_li_getattribute.bind (.ref a)
  have f5 := li_getattr_none
  unfold getAttr getAttrBy
  repeat (any_goals (first | assumption | exact hT _ | ((with_reducible show wpAny _ _ (call (Value.builtin "object.__getattribute__") _ _) _ _ _); refine wpAny_call_entry slot_li_getattribute (hT _) entry_li_getattribute (gattr_next hx ?_) (args_li_getattribute _ _)) | wp_step))
  exact h _
theorem sig_lin : Manifest.signature? "list_iterator.__next__" = some ⟨.exact, "wrapper __next__", "", .self, []⟩ := by
  rw [signature?_of (id := "list_iterator.__next__") (n := "__next__".toList.reverse) (o := "list_iterator".toList.reverse) (rows := Manifest.sig_list_iterator) (by kernel_rfl) (by kernel_rfl)]; kernel_rfl
theorem kind_lin : builtinKind "list_iterator.__next__" = some .slot := by first | decide +kernel | kernel_rfl
theorem args_lin {a : Addr} : Bind.checkArgs "list_iterator.__next__" ⟨.exact, "wrapper __next__", "", .self, []⟩ ⟨[.ref a], []⟩ = pure () := by kernel_rfl
theorem plain_lin : plainId "list_iterator.__next__" = true := by decide +kernel
theorem check_lin {M : Model} {a : Addr} {Q : Unit → Shared → Prop} (hQ : Q () s) : wpAny M A (checkBoundCall "list_iterator.__next__" ⟨[.ref a], []⟩) Q E s := by
  unfold checkBoundCall
  rw [sig_lin, kind_lin]
  dsimp only
  rw [if_pos (by decide)]
  exact wpAny_of_eq (a := ()) args_lin hQ
noncomputable def itO (l : Addr) (i : Nat) : Obj := { cls := .type "list_iterator", data := .fields #[.ref l, .int i 0] }
noncomputable def stopO (t : Addr) : Obj := { cls := .type "StopIteration", data := .fields #[.ref t, .none, .none, .none, .bool false, .none] }
theorem call_mw_go {mw it : Addr} {Q : Value → Shared → Prop} (hm : s.heap.get? mw = some (mwObj it))
    (h : wpAny (model prog w) A.in1 (Builtin.«list_iterator.__next__» ⟨[.ref it], []⟩) (fun fin s' => ∃ v, fin = .done (.ret v) ∧ Q v s') E s) : wpAny (model prog w) A (call (.ref mw) []) Q E s := by
  refine wpAny_call (codeAny_of_tree ?_)
  show wpAny _ A.in1 (callAny (.ref mw) ⟨[], []⟩) _ _ s
  simp only [callAny]
  refine wpAny_bind (wpAny_load hm ?_)
  simp only [mwObj, show (Value.type "method-wrapper" == Value.type "method" || Value.type "method-wrapper" == Value.type "builtin_function_or_method" || Value.type "method-wrapper" == Value.type "method-wrapper") = true by decide, if_true]
  show wpAny _ _ (if (Value.type "method-wrapper" != Value.type "method") = true then (do checkBoundCall "list_iterator.__next__" ⟨[.ref it], []⟩; again (.builtin "list_iterator.__next__" ⟨[.ref it], []⟩)) else _) _ _ _
  rw [if_pos (by decide)]
  refine wpAny_bind (check_lin ?_)
  refine wpAny_pure ⟨plainId_quiet plain_lin _, codeAny_builtin entry_listiter_next ?_⟩
  rw [Around.under_plainId plain_lin _]
  refine wpAny_mono h (fun fin s' ⟨v, e, hq⟩ => ?_) fun e s' x => x
  subst e
  exact hq
theorem call_mw_item {mw it l : Addr} {i : Nat} {items : Array Value} {x : Value} {Q : Value → Shared → Prop} (hm : s.heap.get? mw = some (mwObj it)) (hit : s.heap.get? it = some (itO l i)) (hl : s.heap.IsList l items) (hx : items[i]? = some x)
    (hQ : ∀ h', h'.get? it = some (itO l (i + 1)) → Heap.SameBut it s.heap h' → Q x { s with heap := h' }) : wpAny (model prog w) A (call (.ref mw) []) Q E s := by
  obtain ⟨ol, hol, _, nl, hdl⟩ := hl
  refine call_mw_go hm ?_
  show wpAny _ _ (field (.ref it) 0 >>= _) _ _ s
  refine wpAny_bind (wpAny_field hit rfl (x := .ref l) rfl ?_)
  show wpAny _ _ (if (Value.ref l == Value.none) = true then _ else _) _ _ s
  rw [if_neg (show ¬ ((Value.ref l == Value.none) = true) from Bool.false_ne_true)]
  show wpAny _ _ (field (.ref it) 1 >>= _) _ _ s
  refine wpAny_bind (wpAny_field hit rfl (x := .int i 0) rfl ?_)
  show wpAny _ _ (seqItems? (.ref l) >>= _) _ _ s
  refine wpAny_bind (wpAny_seqItems hol hdl ?_)
  simp only [Int.toNat_natCast, hx]
  refine wpAny_bind (wpAny_setField_rec hit (by simp) fun h' h1 h2 => wpAny_pure ⟨x, rfl, hQ h' ?_ h2⟩)
  rw [h1]; simp [itO, rawInt]
theorem call_mw_end {mw it l : Addr} {i : Nat} {items : Array Value} {Q : Value → Shared → Prop} (hh : A.handled = none) (hm : s.heap.get? mw = some (mwObj it)) (hit : s.heap.get? it = some (itO l i)) (hl : s.heap.IsList l items) (hx : items[i]? = none)
    (hE : ∀ h' e t, Heap.ExtBut it s.heap h' → s.heap.get? e = none → h'.get? e = some (stopO t) → E (.ref e) { s with heap := h' }) : wpAny (model prog w) A (call (.ref mw) []) Q E s := by
  obtain ⟨ol, hol, _, nl, hdl⟩ := hl
  refine call_mw_go hm ?_
  show wpAny _ _ (field (.ref it) 0 >>= _) _ _ s
  refine wpAny_bind (wpAny_field hit rfl (x := .ref l) rfl ?_)
  show wpAny _ _ (if (Value.ref l == Value.none) = true then _ else _) _ _ s
  rw [if_neg (show ¬ ((Value.ref l == Value.none) = true) from Bool.false_ne_true)]
  show wpAny _ _ (field (.ref it) 1 >>= _) _ _ s
  refine wpAny_bind (wpAny_field hit rfl (x := .int i 0) rfl ?_)
  show wpAny _ _ (seqItems? (.ref l) >>= _) _ _ s
  refine wpAny_bind (wpAny_seqItems hol hdl ?_)
  simp only [Int.toNat_natCast, hx]
  refine wpAny_bind (wpAny_rule (wpAny_bind (wpAny_setField_rec hit (by simp) fun h₁ _ hs₁ => ?_)))
  show wpAny _ _ (newExc (.type "StopIteration") [] >>= _) _ _ _
  refine wpAny_bind ?_
  simp only [newExc, newTuple]
  refine wpAny_bind (wpAny_newObj_type ?_ (by size_fits))
  refine wpAny_bind (m := firstArgMember _ _) (wpAny_of_eq (a := Value.none) (by first | rfl | (simp only [firstArgMember]; rfl)) ?_)
  refine wpAny_newObj_type ?_ (by size_fits)
  simp only [raiseNew]
  refine wpAny_bind (wpAny_handled ?_)
  rw [show A.in1.handled = none from hh]
  refine wpAny_bind (wpAny_pure (wpAny_throw ?_))
  refine hE _ _ h₁.objs.size ((hs₁.extBut.push _).push _) ?_ ?_
  · refine Heap.get?_none_of_le ?_
    rw [Heap.size_push, hs₁.1]; exact Nat.le_succ _
  · exact Heap.get?_push_size _ rfl
theorem entry_iterf : entryFor table "iter" = some Builtin.«iter» := entryFor_of_fast (by kernel_rfl)
theorem args_iterf (a : Value) : argsOk "iter" ⟨[a], []⟩ := by unfold argsOk; kernel_rfl
theorem call_iter {l : Addr} {items : Array Value} {Q : Value → Shared → Prop} (hl : s.heap.IsList l items)
    (h : Q (.ref s.heap.objs.size) { s with heap := s.heap.push (itO l 0) }) : wpAny (model prog w) A (call (.builtin "iter") [.ref l]) Q E s := by
  refine Calls.call_function_entry (by decide +kernel) (by decide +kernel) entry_iterf (args_iterf _) ?_
  unfold Builtin.«iter»
  refine wpAny_bind (m := someArgs "iter" 1 2 _) (wpAny_of_eq (a := [Value.ref l]) (by first | rfl | kernel_rfl) ?_)
  show wpAny _ _ (pyIter (.ref l) >>= _) _ _ _
  refine wpAny_bind (wpAny_pyIter_list hl ?_)
  exact wpAny_pure ⟨_, rfl, h⟩
end
end

section
set_option maxRecDepth 100000
structure FrIn (A : Around) (env : Env) (outer : List Env) (L : Addr) (μ : Mu) : Prop where
  fr : A.frames = some (env :: outer)
  loc : env.frame = some L
  kind : env.scope.kind ≠ .module
  outs : ∀ e ∈ outer, e.scope.kind ≠ .module ∧ ∃ a o, e.frame = some a ∧ (a, MO.slots o) ∈ μ ∧ ∀ vs, o.data ≠ .fields vs
noncomputable def Free (B : Addr → Option Obj) (L : Addr) (μ : Mu) (a : Addr) : Prop := B a = none ∧ a ≠ L ∧ a ∉ μ.map (·.1)
inductive ExcAt (B : Addr → Option Obj) (L : Addr) (μ : Mu) (h : Heap) (e : Addr) (cls fl : Value) : Prop
  | mk (oe : Obj) (vs : Array Value) (T : Addr) (oT : Obj) (ts : Array Value) (a0 : Value) (he : h.get? e = some oe) (hc : oe.cls = cls) (hd : oe.data = .fields vs) (h0 : vs[0]? = some a0) (h1 : vs[1]? = some (.ref T)) (hTe : T ≠ e) (hT : h.get? T = some oT) (hdT : oT.data = .fields ts) (h3 : ts[3]? = some fl) (hfe : Free B L μ e) (hfT : Free B L μ T)
theorem ExcAt.map {B B' : Addr → Option Obj} {L L' : Addr} {μ μ' : Mu} {h : Heap} {e : Addr} {cls fl : Value} (x : ExcAt B L μ h e cls fl) (k : ∀ a, Free B L μ a → Free B' L' μ' a) : ExcAt B' L' μ' h e cls fl := by
  cases x with | mk oe vs T oT ts a0 he hc hd h0 h1 hTe hT hdT h3 hfe hfT => exact ⟨oe, vs, T, oT, ts, a0, he, hc, hd, h0, h1, hTe, hT, hdT, h3, k _ hfe, k _ hfT⟩
theorem key_eq {p : Addr × MO} {o : MO} : ∀ {l : Mu}, (l.map (·.1)).Nodup → p ∈ l → (p.1, o) ∈ l → p.2 = o := by
  intro l
  induction l with
  | nil => intro _ h; cases h
  | cons q r ih =>
    intro hn h1 h2
    rw [List.map_cons, List.nodup_cons] at hn
    rcases List.mem_cons.mp h1 with e1 | h1
    · rcases List.mem_cons.mp h2 with e2 | h2
      · rw [e1, ← e2]
      · exact absurd (by have z : p.1 ∈ r.map (·.1) := List.mem_map.mpr ⟨_, h2, rfl⟩; rw [e1] at z; exact z) hn.1
    · rcases List.mem_cons.mp h2 with e2 | h2
      · exact absurd (by have z : p.1 ∈ r.map (·.1) := List.mem_map_of_mem (f := Prod.fst) h1; rw [← e2]; exact z) hn.1
      · exact ih hn.2 h1 h2
section
variable {w : World} {G : Gl w} {A : Around} {L : Addr} {env : Env} {outer : List Env} {ρ ρ' : Rho} {μ μ' : Mu} {s₀ : Shared} {B : Addr → Option Obj} {s : Shared} {E : Value → Shared → Prop}
theorem FrIn.re (h : FrIn A env outer L μ) (hs : ∀ a o, (a, MO.slots o) ∈ μ → (a, MO.slots o) ∈ μ') : FrIn A env outer L μ' :=
  ⟨h.fr, h.loc, h.kind, fun e he => let ⟨h1, a, o, h2, h3, h4⟩ := h.outs e he; ⟨h1, a, o, h2, hs a o h3, h4⟩⟩
theorem St.slots {h' : Heap} {tk : Nat} (h : St G s₀ B L ρ μ s) (F W : List Addr) (hF : ∀ a ∈ F, a = L ∨ ∃ o, (a, MO.slots o) ∈ μ) (hW : ∀ a ∈ W, Free B L μ a)
    (h1 : ∀ b o, b ∉ F → b ∉ W → s.heap.get? b = some o → h'.get? b = some o) (h2 : ∀ b o, b ∈ F → s.heap.get? b = some o → ∃ sl, h'.get? b = some { o with slots := sl }) : St G s₀ B L ρ μ { s with heap := h', toks := tk } := by
  have nF : ∀ b o, B b = some o → b ∉ F := fun b o e hb => by
    rcases hF b hb with rfl | ⟨o', ho'⟩
    · rw [h.bl] at e; cases e
    · rw [(h.ob _ ho').1] at e; cases e
  have nW : ∀ b o, B b = some o → b ∉ W := fun b o e hb => by rw [(hW b hb).1] at e; cases e
  refine ⟨let ⟨_, _, e⟩ := h.same; ⟨h', tk, by rw [e]⟩, h.low, h.above, fun b o e => h1 b o (nF b o e) (nW b o e) (h.keep b o e), h.bl, ?_, h.nr, h.nm, h.hi, fun p hp => ?_⟩
  · obtain ⟨m, ⟨o, es, ep, ho, hd, r⟩, hm⟩ := h.ns
    have hLW : L ∉ W := fun hb => (hW L hb).2.1 rfl
    by_cases hL : L ∈ F
    · obtain ⟨sl, hsl⟩ := h2 L o hL ho
      exact ⟨m, ⟨_, es, ep, hsl, hd, r⟩, hm⟩
    · exact ⟨m, ⟨o, es, ep, h1 L o hL hLW ho, hd, r⟩, hm⟩
  · obtain ⟨a1, a2, x, a3, a4⟩ := h.ob p hp
    have hpW : p.1 ∉ W := fun hb => (hW p.1 hb).2.2 (List.mem_map_of_mem hp)
    by_cases hpF : p.1 ∈ F
    · rcases hF p.1 hpF with e | ⟨o, ho⟩
      · exact absurd e a2
      · obtain ⟨sl, hsl⟩ := h2 p.1 x hpF a3
        refine ⟨a1, a2, _, hsl, ?_⟩
        rw [key_eq h.nm hp ho] at a4 ⊢
        obtain ⟨sl', e⟩ := a4
        exact ⟨sl, by rw [e]⟩
    · exact ⟨a1, a2, x, h1 p.1 x hpF hpW a3, a4⟩
theorem FrIn.mem (h : FrIn A env outer L μ) : ∀ a ∈ (env :: outer).filterMap (·.frame), a = L ∨ ∃ o, (a, MO.slots o) ∈ μ := fun a ha => by
  obtain ⟨e, he, hf⟩ := List.mem_filterMap.mp ha
  rcases List.mem_cons.mp he with rfl | he
  · rw [h.loc] at hf; exact .inl (Option.some.inj hf).symm
  · obtain ⟨_, a', o, h2, h3, _⟩ := h.outs e he
    rw [h2] at hf
    cases hf
    exact .inr ⟨o, h3⟩
theorem FrIn.funs (h : FrIn A env outer L μ) (hs : St G s₀ B L ρ μ s) {base : Heap} (hb : ∀ a ∈ (env :: outer).filterMap (·.frame), base.get? a = none) : s.heap.FunFrames base (env :: outer) := by
  have rest : ∀ l : List Env, (∀ e ∈ l, e ∈ outer) → s.heap.FunFrames base l := by
    intro l
    induction l with
    | nil => intro _; trivial
    | cons e r ih =>
      intro hin
      obtain ⟨h1, a, o, h2, h3, h4⟩ := h.outs e (hin e (.head _))
      obtain ⟨x, hx, sl, e1⟩ := hs.get h3
      refine ⟨h1, ⟨a, x, h2, hb a (List.mem_filterMap.mpr ⟨e, .tail _ (hin e (.head _)), h2⟩), hx, ?_⟩, ih fun e' he' => hin e' (.tail _ he')⟩
      rw [e1]; exact h4
  obtain ⟨m, ⟨o, es, ep, ho, hd, r⟩, hm⟩ := hs.ns
  exact ⟨h.kind, ⟨L, o, h.loc, hb L (List.mem_filterMap.mpr ⟨env, .head _, h.loc⟩), ho, fun vs q => by rw [hd] at q; cases q⟩, rest outer fun _ he => he⟩
theorem frame_data (h : FrIn A env outer L μ) (hs : St G s₀ B L ρ μ s) : ∀ a ∈ (env :: outer).filterMap (·.frame), ∃ o, s.heap.get? a = some o ∧ ∀ vs, o.data ≠ .fields vs := fun a ha => by
  have := (h.funs hs (base := {}) (fun _ _ => by simp [Heap.get?])).mem ha
  exact this.2
theorem St.noted {h' : Heap} {W : List Addr} (hf : FrIn A env outer L μ) (hs : St G s₀ B L ρ μ s) (hW : ∀ a ∈ W, Free B L μ a)
    (h1 : (hideAll s.heap (W ++ (env :: outer).filterMap (·.frame))).StaysIn h') (h2 : ∀ b o, s.heap.get? b = some o → (∀ vs, o.data ≠ .fields vs) → ∃ sl, h'.get? b = some { o with slots := sl }) : St G s₀ B L ρ μ { s with heap := h' } :=
  hs.slots (tk := s.toks) ((env :: outer).filterMap (·.frame)) W hf.mem hW (fun b o hb1 hb2 hb => h1 b o (hideAll_get _ hb fun hm => (List.mem_append.mp hm).elim hb2 hb1))
    fun b o hb1 hb => h2 b o hb (by obtain ⟨o', ho', hd⟩ := frame_data hf hs b hb1; rw [hb] at ho'; cases ho'; exact hd)
theorem excAt_of {h' : Heap} {W : List Addr} {e : Addr} {cls a0 fl : Value} (hf : FrIn A env outer L μ) (hs : St G s₀ B L ρ μ s) (hW : ∀ a ∈ W, Free B L μ a) (heW : e ∈ W)
    (h2 : ∀ b o, s.heap.get? b = some o → (∀ vs, o.data ≠ .fields vs) → ∃ sl, h'.get? b = some { o with slots := sl })
    (ht : h'.TracedAtW (hideAll s.heap (W ++ (env :: outer).filterMap (·.frame))) e cls a0 fl) : ExcAt B L μ h' e cls fl := by
  obtain ⟨oe, vs, T, oT, ts, he, hcls, hd, hv1, hnT, hTe, hT, hdT, h3⟩ := ht
  refine ⟨oe, vs, T, oT, ts, a0, he, hcls.1, hd, hcls.2, hv1, hTe, hT, hdT, h3, hW e heW, ?_⟩
  by_cases hTW : T ∈ W
  · exact hW T hTW
  · by_cases hTF : T ∈ (env :: outer).filterMap (·.frame)
    · obtain ⟨o, ho, hd'⟩ := frame_data hf hs T hTF
      obtain ⟨sl, hsl⟩ := h2 T o ho hd'
      rw [hT] at hsl
      cases hsl
      exact absurd hdT (hd' ts)
    · have : s.heap.get? T = none := by
        cases q : s.heap.get? T with
        | none => rfl
        | some o => rw [hideAll_get _ q fun hm => (List.mem_append.mp hm).elim hTW hTF] at hnT; cases hnT
      exact hs.fresh this
theorem note_first {M : Model} {e : Addr} {oe : Obj} {vs : Array Value} {a0 : Value} {Q : Unit → Shared → Prop} (hf : FrIn A env outer L μ) (hs : St G s₀ B L ρ μ s) (he : s.heap.get? e = some oe) (hd : oe.data = .fields vs) (h0 : vs[0]? = some a0) (h1 : vs[1]? = some .none)
    (hfe : Free B L μ e) (hQ : ∀ h', St G s₀ B L ρ μ { s with heap := h' } → ExcAt B L μ h' e oe.cls (rawInt L) → Q () { s with heap := h' }) : wpAny M A (noteFrame (.ref e) env) Q E s := by
  have hW : ∀ a ∈ [e], Free B L μ a := fun a ha => by rw [List.mem_singleton.mp ha]; exact hfe
  unfold noteFrame
  simp only [hf.loc]
  refine wpAny_bind (wpAny_field he hd h1 ?_)
  rw [if_neg (by decide)]
  have hb : ∀ a ∈ (env :: outer).filterMap (·.frame), (hideAll s.heap ([e] ++ (env :: outer).filterMap (·.frame))).get? a = none := fun a ha => hideAll_none _ (List.mem_append_right _ ha)
  refine wpAny_entryW (base := hideAll s.heap ([e] ++ (env :: outer).filterMap (·.frame))) hf.fr (hf.funs hs hb) hf.loc he (fun b o q => of_hideAll _ q) (hideAll_none _ (.head _)) hd (Array.getElem?_eq_some_iff.mp h1).1 h0 fun h' ⟨x1, x2, x3, x4⟩ => ?_
  exact hQ h' (hs.noted hf hW x1 x4) (excAt_of hf hs hW (.head _) x4 x3)
theorem note_on {M : Model} {e : Addr} {cls : Value} {Q : Unit → Shared → Prop} (hf : FrIn A env outer L μ) (hs : St G s₀ B L ρ μ s) (hx : ExcAt B L μ s.heap e cls .none)
    (hQ : ∀ h', St G s₀ B L ρ μ { s with heap := h' } → ExcAt B L μ h' e cls (rawInt L) → Q () { s with heap := h' }) : wpAny M A (noteFrame (.ref e) env) Q E s := by
  obtain ⟨oe, vs, T, oT, ts, a0, he, hc, hd, h0, h1, hTe, hT, hdT, h3, hfe, hfT⟩ := hx
  have hW : ∀ a ∈ [e, T], Free B L μ a := fun a ha => by
    rcases List.mem_cons.mp ha with rfl | ha
    · exact hfe
    · rw [List.mem_singleton.mp ha]; exact hfT
  have hb : ∀ a ∈ (env :: outer).filterMap (·.frame), (hideAll s.heap ([e, T] ++ (env :: outer).filterMap (·.frame))).get? a = none := fun a ha => hideAll_none _ (List.mem_append_right _ ha)
  refine wpAny_noteFrame_onW (base := hideAll s.heap ([e, T] ++ (env :: outer).filterMap (·.frame))) (cls := cls) (a0 := a0) hf.fr (hf.funs hs hb) hf.loc ⟨oe, vs, T, oT, ts, he, ⟨hc, h0⟩, hd, h1, hideAll_none _ (.tail _ (.head _)), hTe, hT, hdT, h3⟩ (fun b o q => of_hideAll _ q) (hideAll_none _ (.head _)) fun h' ⟨x1, x2, x3, x4⟩ => ?_
  exact hQ h' (hs.noted hf hW x1 x4) (excAt_of hf hs hW (.head _) x4 x3)
theorem flight_off {M : Model} {e : Addr} {cls fl : Value} {Q : Unit → Shared → Prop} (hs : St G s₀ B L ρ μ s) (hx : ExcAt B L μ s.heap e cls fl)
    (hQ : ∀ h', St G s₀ B L ρ μ { s with heap := h' } → ExcAt B L μ h' e cls .none → Q () { s with heap := h' }) : wpAny M A (setFlight (.ref e) none) Q E s := by
  obtain ⟨oe, vs, T, oT, ts, a0, he, hc, hd, h0, h1, hTe, hT, hdT, h3, hfe, hfT⟩ := hx
  have hsz := (Array.getElem?_eq_some_iff.mp h3).1
  refine wpAny_setFlight_none he hd h1 hT hdT hsz (hQ _ (hs.other (tk := s.toks) hfT.1 hfT.2.1 hfT.2.2 (Heap.SameBut.update ..)) ?_)
  exact ⟨oe, vs, T, _, _, a0, (Heap.get?_update_other _ _ hTe).trans he, hc, hd, h0, h1, hTe, Heap.get?_update_self _ hT (Obj.isFreed_of_fields (Obj.data_mapFields hdT _)), Obj.data_mapFields hdT _, by simp [hsz], hfe, hfT⟩
theorem leaving_first {M : Model} {e : Addr} {oe : Obj} {vs : Array Value} {a0 : Value} {Q : Unit → Shared → Prop} (hf : FrIn A env outer L μ) (hs : St G s₀ B L ρ μ s) (he : s.heap.get? e = some oe) (hd : oe.data = .fields vs) (h0 : vs[0]? = some a0) (h1 : vs[1]? = some .none)
    (hfe : Free B L μ e) (hQ : ∀ h', St G s₀ B L ρ μ { s with heap := h' } → ExcAt B L μ h' e oe.cls .none → Q () { s with heap := h' }) : wpAny M A (leaving env (.ref e)) Q E s := by
  unfold leaving
  refine wpAny_bind (note_first hf hs he hd h0 h1 hfe fun h₁ hs₁ hx₁ => ?_)
  exact flight_off hs₁ hx₁ fun h₂ hs₂ hx₂ => hQ h₂ hs₂ hx₂
end
end

section
set_option maxRecDepth 100000
inductive PostE {w : World} (G : Gl w) (s₀ : Shared) (B : Addr → Option Obj) (L : Addr) (ρ : Rho) (C : Addr) (PE : Mu → Prop) (v : Value) (s' : Shared) : Prop
  | mk (e : Addr) (μ' : Mu) (hv : v = .ref e) (hs : St G s₀ B L ρ μ' s') (hx : ExcAt B L μ' s'.heap e (.ref C) .none) (hp : PE μ')
noncomputable def PostF {w : World} (G : Gl w) (s₀ : Shared) (B : Addr → Option Obj) (L : Addr) (ρ : Rho) (C : Addr) (P : MV → Mu → Prop) (PE : Mu → Prop) : Result → Shared → Prop
  | .ok (.ret v), s' => PostC G s₀ B L ρ P v s'
  | .ok _, _ => False
  | .error v, s' => PostE G s₀ B L ρ C PE v s'
noncomputable def CFE {w : World} (G : Gl w) (A : Around) (f : Value) (args : List MV) (C : Addr) (P : MV → Mu → Prop) (PE : Mu → Prop) (μ : Mu) : Prop :=
  ∀ env outer s₀ B L ρ s vs, FrIn A env outer L μ → St G s₀ B L ρ μ s → VRs args vs → codeAny (model PR w) A (.call f ⟨vs, []⟩) (PostF G s₀ B L ρ C P PE) s
inductive PostX {w : World} (G : Gl w) (s₀ : Shared) (B : Addr → Option Obj) (L : Addr) (C : Addr) (PE : Mu → Prop) (v : Value) (s' : Shared) : Prop
  | mk (e : Addr) (ρ' : Rho) (μ' : Mu) (oe : Obj) (vs : Array Value) (a0 : Value) (hv : v = .ref e) (hs : St G s₀ B L ρ' μ' s') (he : s'.heap.get? e = some oe) (hc : oe.cls = .ref C) (hd : oe.data = .fields vs) (h0 : vs[0]? = some a0) (h1 : vs[1]? = some .none) (hf : Free B L μ' e) (hp : PE μ')
noncomputable def XE {w : World} (G : Gl w) (A : Around) (L : Addr) (t : Sem Flow) (C : Addr) (P : MF → Rho → Mu → Prop) (PE : Mu → Prop) (ρ : Rho) (μ : Mu) : Prop :=
  ∀ s₀ B s, St G s₀ B L ρ μ s → wpAny (model PR w) A t (Post G s₀ B L FR P) (PostX G s₀ B L C PE) s
inductive LeftP (P : MV → Mu → Prop) (L₀ : Addr) (oL : Obj) (fl : MF) (ρ : Rho) (μ' : Mu) : Prop
  | mk (μ'' : Mu) (h1 : ∀ p ∈ (L₀, MO.slots oL) :: μ'', p ∈ μ') (h2 : (μ'.map (·.1)).Nodup → (((L₀, MO.slots oL) :: μ'').map (·.1)).Nodup) (h : P (retOf fl) μ'')
inductive LeftE (PE : Mu → Prop) (L₀ : Addr) (oL : Obj) (μ μ' : Mu) : Prop
  | mk (μ'' : Mu) (h1 : ∀ p ∈ (L₀, MO.slots oL) :: μ'', p ∈ μ') (hs : ∀ a o, (a, MO.slots o) ∈ (L₀, MO.slots oL) :: μ → (a, MO.slots o) ∈ μ') (h2 : (μ'.map (·.1)).Nodup → (((L₀, MO.slots oL) :: μ'').map (·.1)).Nodup) (h : PE μ'')
theorem LeftP.sel {P : MV → Mu → Prop} {L₀ : Addr} {oL : Obj} {fl : MF} {ρ : Rho} {μ' μ'' : Mu} (hs : Sel ((L₀, .slots oL) :: μ'') μ') (h : P (retOf fl) μ'') : LeftP P L₀ oL fl ρ μ' := ⟨μ'', hs.mem, hs.nd, h⟩
section
variable {w : World} {G : Gl w} {A : Around} {L : Addr} {env : Env} {outer : List Env} {ρ ρ' : Rho} {μ μ' : Mu} {s₀ : Shared} {B : Addr → Option Obj} {s : Shared} {C : Addr}
theorem XE.of {t : Sem Flow} {P : MF → Rho → Mu → Prop} {PE : Mu → Prop} (h : X G A L t P ρ μ) : XE G A L t C P PE ρ μ := fun s₀ B s hs => h.use hs fun x v ρ' μ' s' hx hs' hp => ⟨x, ρ', μ', hx, hs', hp⟩
theorem wpAny_execs_app {M : Model} {E : Value → Shared → Prop} {as bs : List Stmt} {Q : Flow → Shared → Prop}
    (h : wpAny M A (execs as env) (fun f s' => match f with | .next => wpAny M A (execs bs env) Q E s' | f => Q f s') E s) : wpAny M A (execs (as ++ bs) env) Q E s := fun Γ p hΓ => by
  have key : ∀ (as : List Stmt) p s, Sem.wp M Γ (execs as env) (fun f _ s' => match f with | .next => wpAny M A (execs bs env) Q E s' | f => Q f s') (fun e _ s' => E e s') p s →
      Sem.wp M Γ (execs (as ++ bs) env) (fun f _ s' => Q f s') (fun e _ s' => E e s') p s := by
    intro as
    induction as with
    | nil => intro p s h; exact (show wpAny M A (execs bs env) Q E s from h) Γ p hΓ
    | cons a r ih =>
      intro p s h
      rw [execs_cons, Sem.wp_bind'] at h
      rw [List.cons_append, execs_cons, Sem.wp_bind']
      refine Sem.wp_mono M Γ _ (fun f p' s' h' => ?_) (fun _ _ _ h' => h') _ _ h
      cases f with
      | next => exact ih p' s' h'
      | _ => exact h'
  exact key as p s (h Γ p hΓ)
theorem xe_app {as bs : List Stmt} {P : MF → Rho → Mu → Prop} {PE : Mu → Prop} (h : X G A L (execs as env) (fun fl ρ μ => match fl with | .next => XE G A L (execs bs env) C P PE ρ μ | fl => P fl ρ μ) ρ μ) : XE G A L (execs (as ++ bs) env) C P PE ρ μ := fun s₀ B s hs =>
  wpAny_execs_app (h.use hs fun x v ρ' μ' s' hx hs' hp => by
    cases x with
    | next => cases hx; exact hp s₀ B s' hs'
    | brk => cases hx; exact ⟨.brk, _, _, rfl, hs', hp⟩
    | cont => cases hx; exact ⟨.cont, _, _, rfl, hs', hp⟩
    | ret u => obtain ⟨a, rfl, hv⟩ := hx; exact ⟨.ret u, _, _, ⟨a, rfl, hv⟩, hs', hp⟩)
theorem St.calleeF (h : St G s₀ B L ρ μ s) {oL : Obj} (hoL : s.heap.get? L = some oL) {ρ₀ : Rho} {h₁ : Heap} {m : Str → Option Value} {tk : Nat} (hn : h₁.Ns s.heap.objs.size m) (hk : ∀ b o, s.heap.get? b = some o → h₁.get? b = some o) (hρ : ∀ p ∈ ρ₀, LR p.2 (m p.1)) (hnd : (ρ₀.map (·.1)).Nodup) :
    St G s₀ (Bcall ((L, .slots oL) :: μ) s.heap) s.heap.objs.size ρ₀ ((L, .slots oL) :: μ) { s with heap := h₁, toks := tk } := by
  have hLm : L ∉ μ.map (·.1) := fun hm => by
    obtain ⟨p, hp, e⟩ := List.mem_map.mp hm
    exact (h.ob p hp).l e
  have hBnk : ∀ b o, B b = some o → b ∉ ((L, MO.slots oL) :: μ).map (·.1) := fun b o e hb => by
    rcases List.mem_cons.mp hb with rfl | hb
    · rw [h.bl] at e; cases e
    · obtain ⟨p, hp, rfl⟩ := List.mem_map.mp hb
      rw [(h.ob p hp).1] at e; cases e
  refine ⟨let ⟨_, _, e⟩ := h.same; ⟨h₁, tk, by rw [e]⟩, fun b o e => ?_, ?_, fun b o e => ?_, ?_, ⟨m, hn, hρ⟩, hnd, List.nodup_cons.mpr ⟨hLm, h.nm⟩, ?_, fun p hp => ?_⟩
  · have := h.low b o e
    unfold Bcall
    rw [if_neg (hBnk b o this)]
    exact h.keep b o this
  · obtain ⟨m', hn', _⟩ := h.ns
    exact Nat.le_trans h.above (Nat.le_of_lt hn'.lt)
  · unfold Bcall at e
    split at e
    · cases e
    · exact hk b o e
  · unfold Bcall; split
    · rfl
    · exact get?_size _
  · intro a ha
    rcases List.mem_cons.mp ha with rfl | ha
    · exact h.above
    · exact h.hi a ha
  · have hb : Bcall ((L, MO.slots oL) :: μ) s.heap p.1 = none := by
      unfold Bcall; rw [if_pos (List.mem_map_of_mem (f := Prod.fst) hp)]
    rcases List.mem_cons.mp hp with rfl | hp
    · exact ⟨hb, Nat.ne_of_lt (Heap.lt_size hoL), oL, hk _ _ hoL, oL.slots, rfl⟩
    · obtain ⟨a1, a2, x, a3, a4⟩ := h.ob p hp
      exact ⟨hb, Nat.ne_of_lt (Heap.lt_size a3), x, hk _ _ a3, a4⟩
theorem St.callerF (h : St G s₀ B L ρ μ s) {oL : Obj} (hoL : s.heap.get? L = some oL) {L' : Addr} {ρ' : Rho} {s' : Shared} (h' : St G s₀ (Bcall ((L, .slots oL) :: μ) s.heap) L' ρ' ((L, .slots oL) :: μ') s') : St G s₀ B L ρ μ' s' := by
  have hBnk : ∀ b o, B b = some o → Bcall ((L, MO.slots oL) :: μ) s.heap b = some o := fun b o e => by
    have : b ∉ ((L, MO.slots oL) :: μ).map (·.1) := fun hb => by
      rcases List.mem_cons.mp hb with rfl | hb
      · rw [h.bl] at e; cases e
      · obtain ⟨p, hp, rfl⟩ := List.mem_map.mp hb
        rw [(h.ob p hp).1] at e; cases e
    unfold Bcall; rw [if_neg this]; exact h.keep b o e
  obtain ⟨m, ⟨o, es, ep, ho, hd, r⟩, hm⟩ := h.ns
  rw [hoL] at ho; cases ho
  obtain ⟨x, hx, sl, rfl⟩ := h'.get (.head _)
  refine ⟨h'.same, h.low, h.above, fun b o e => h'.keep b o (hBnk b o e), h.bl, ⟨m, ⟨_, es, ep, hx, hd, r⟩, hm⟩, h.nr, (List.nodup_cons.mp h'.nm).2, fun a ha => h'.hi a (.tail _ ha), fun p hp => ?_⟩
  obtain ⟨a1, a2, a3⟩ := h'.ob p (.tail _ hp)
  refine ⟨?_, fun e => (List.nodup_cons.mp h'.nm).1 (List.mem_map.mpr ⟨p, hp, e⟩), a3⟩
  cases e : B p.1 with
  | none => rfl
  | some o => rw [hBnk _ _ e] at a1; cases a1
theorem free_caller (h : St G s₀ B L ρ μ s) {oL : Obj} {L' e : Addr} (h' : Free (Bcall ((L, .slots oL) :: μ) s.heap) L' ((L, .slots oL) :: μ') e) : Free B L μ' e := by
  obtain ⟨h1, h2, h3⟩ := h'
  simp only [List.map_cons, List.mem_cons, not_or] at h3
  refine ⟨?_, h3.1, h3.2⟩
  cases q : B e with
  | none => rfl
  | some o =>
    have : e ∉ ((L, MO.slots oL) :: μ).map (·.1) := fun hb => by
      rcases List.mem_cons.mp hb with rfl | hb
      · rw [h.bl] at q; cases q
      · obtain ⟨p, hp, rfl⟩ := List.mem_map.mp hb
        rw [(h.ob p hp).1] at q; cases q
    unfold Bcall at h1
    rw [if_neg this, h.keep e o q] at h1; cases h1
theorem ExcAt.caller (h : St G s₀ B L ρ μ s) {oL : Obj} {L' e : Addr} {hp : Heap} {cls fl : Value} (h' : ExcAt (Bcall ((L, .slots oL) :: μ) s.heap) L' ((L, .slots oL) :: μ') hp e cls fl) : ExcAt B L μ' hp e cls fl := by
  exact h'.map fun _ => free_caller h
theorem Free.re {e : Addr} (h : Free B L μ e) (hs : ∀ p ∈ μ', p ∈ μ) : Free B L μ' e := ⟨h.1, h.2.1, fun hm => by
  obtain ⟨p, hp, q⟩ := List.mem_map.mp hm
  exact h.2.2 (by rw [← q]; exact List.mem_map_of_mem (hs p hp))⟩
theorem c_fnF {f : Addr} {fd : FuncData} {body : List Stmt} {oc : Value} {od : Option Addr} {osl : Array (Option Value)} {as : List MV} {P : MV → Mu → Prop} {PE : Mu → Prop} {nm : List (Str × NameKind)} {mr : List (Str × Const)} (xs : List Str) (r : Rho) (ho : (KK w.params).lookup f = some ⟨oc, od, .func fd, osl⟩) (hroom : A.depth < recursionLimit) (hbody : fd.body = .stmts body)
    (hcd : codeIn (KK w.params) fd.code fd.qualname = true) (hcell : (fd.scope.names.all fun x => !(x.2 == .cell)) = true) (hco : fd.scope.isCoroutine = false) (hgen : fd.scope.isGenerator = false) (hk : fd.scope.kind = .function)
    (hsc : fd.scope = { kind := .function, names := nm, isGenerator := false, isCoroutine := false, more := mr }) (hg : fd.globals = mainGlobals) (hcl : fd.closure = []) (hbi : fd.builtins = builtinsNs)
    (hn : (xs ++ r.map (·.1)).Nodup) (hl : xs.length = as.length) (hx : (xs.all fun x => fd.scope.names.lookup x == some .local) = true) (hr : (r.all fun p => p.2.isUndef) = true)
    (hb : ∀ vs, VRs as vs → bindArgs fd ⟨vs, []⟩ = pure (xs.zip vs))
    (h : ∀ outer L₀ oL L' q cd, (∀ vs, oL.data ≠ .fields vs) → FrIn (A.deeper (envS nm mr [] L' q f cd)) (envS nm mr [] L' q f cd) outer L' ((L₀, .slots oL) :: μ) →
      XE G (A.deeper (envS nm mr [] L' q f cd)) (envS nm mr [] L' q f cd).locals (execs body (envS nm mr [] L' q f cd)) C
        (LeftP P L₀ oL) (LeftE PE L₀ oL μ)
        (xs.zip as ++ r) ((L₀, .slots oL) :: μ)) : CFE G A (.ref f) as C P PE μ := fun env outer s₀ B L ρ s vs hF hs hv => by
  obtain ⟨binds, hbt, hloc, hρ⟩ := binds_of (List.nodup_append.mp hn).1 hl hx hr hb s vs hv
  have hcell' : ∀ x ∈ fd.scope.names, x.2 ≠ .cell := fun x hx e => by
    have := List.all_eq_true.mp hcell x hx
    rw [e] at this; cases this
  obtain ⟨m, ⟨oL, es, ep, hoL, hdL, rr⟩, hm⟩ := hs.ns
  have hnd : ∀ vs, oL.data ≠ .fields vs := fun vs q => by rw [hdL] at q; cases q
  refine codeAny_call_def hroom (hs.K _ _ ho) rfl hs.T.nolimit (codeRec_of hs.K hcd) hbody hbt hcell' hloc (fun h₁ hns hk₁ => ?_) hco hgen hk
  have e : callEnv fd s.heap.objs.size f = envS nm mr [] s.heap.objs.size (fd.qualname ++ ".<locals>.") f fd.code := by
    unfold callEnv newEnv envS
    rw [hsc, hg, hcl, hbi]
  rw [e]
  have hF' : FrIn (A.deeper (envS nm mr [] s.heap.objs.size (fd.qualname ++ ".<locals>.") f fd.code)) (envS nm mr [] s.heap.objs.size (fd.qualname ++ ".<locals>.") f fd.code) (env :: outer) s.heap.objs.size ((L, .slots oL) :: μ) :=
    ⟨by show A.frames.map _ = _; rw [hF.fr]; rfl, rfl, by show ScopeKind.function ≠ .module; decide, fun e he => by
      rcases List.mem_cons.mp he with rfl | he
      · exact ⟨hF.kind, L, oL, hF.loc, .head _, hnd⟩
      · obtain ⟨h1, a, o, h2, h3, h4⟩ := hF.outs e he; exact ⟨h1, a, o, h2, .tail _ h3, h4⟩⟩
  have hst := hs.calleeF (ρ₀ := xs.zip as ++ r) (tk := s.toks + binds.length) hoL hns hk₁ hρ (by rw [List.map_append, List.map_fst_zip (Nat.le_of_eq hl)]; exact hn)
  refine wpAny_mono (h (env :: outer) L oL s.heap.objs.size (fd.qualname ++ ".<locals>.") fd.code hnd hF' s₀ _ _ hst) (fun g s₁ q => ?_) (fun v s₁ q => ?_)
  · cases q with | mk fl ρ₁ μ₁ hf hs₁ q =>
    cases q with | mk μ₂ h1 h2 hp =>
    exact ⟨retOf fl, μ₂, vr_ret hf, hs.callerF hoL (hs₁.re h1 h2), hp⟩
  · cases q with | mk e ρ₁ μ₁ oe us a0 hv hs₁ he hc hd h0 h1 hfe q =>
    cases q with | mk μ₂ h2 h2' h3 hp =>
    subst hv
    refine leaving_first (hF'.re h2') hs₁ he hd h0 h1 hfe fun h' hs' hx' => ?_
    rw [hc] at hx'
    exact ⟨e, μ₂, rfl, hs.callerF hoL (hs'.re h2 h3), (hx'.map fun _ q => q.re h2).caller hs, hp⟩
end
end

section
set_option maxRecDepth 100000
theorem stop_base : isSubtype (.type "StopIteration") (.type "BaseException") = pure true := by rw [isSubtype_type]; kernel_rfl
theorem stop_notup : isSubtype (.type ((Manifest.find? "StopIteration").elim "type" fun x => x.metatype)) (.type "tuple") = pure false := by
  rw [isSubtype_type]; kernel_rfl
section
variable {w : World} {G : Gl w} {A : Around} {L : Addr} {env : Env} {outer : List Env} {ρ ρ' : Rho} {μ μ' : Mu} {s₀ : Shared} {B : Addr → Option Obj} {s : Shared} {C : Addr}
theorem vrs_con : ∀ l : List Value, VRs (l.map .con) l
  | [] => trivial
  | _ :: r => ⟨rfl, vrs_con r⟩
theorem a_next {it l : Addr} {i : Nat} {P : MV → Mu → Prop} (hm : (it, MO.raw (itO l i)) ∈ μ) (h : ∀ q, P (.ref q) ((q, .raw (mwObj it)) :: μ)) : AJ G A (.ref it) (Str.ofString "__next__") P μ := by
  intro s₀ B L ρ s v hs hv
  cases hv
  obtain ⟨x, g, e⟩ := hs.get hm
  cases e
  exact getAttr_next g fun tk => ⟨_, _, vr, hs.push (o := .raw (mwObj it)) (x := mwObj it) rfl rfl, h _⟩
theorem c_iter {l : Addr} {xs : List MV} {P : MV → Mu → Prop} (hm : (l, MO.list xs) ∈ μ) (h : ∀ it, P (.ref it) ((it, .raw (itO l 0)) :: μ)) : CJ G A (.builtin "iter") [.ref l] P μ := by
  intro s₀ B L ρ s vs hs hv
  refine va_r hv ?_
  · obtain ⟨us, n, g, hus⟩ := hs.list hm
    exact call_iter (isList_of g) ⟨_, _, vr, hs.push (o := .raw (itO l 0)) (x := itO l 0) (tk := s.toks) rfl rfl, h _⟩
theorem e_true {k : Nat} {pos : Pos} {whole : Sem Value} {P : Bool → Rho → Mu → Prop} (h : P true ρ μ) (hw : whole = eval (.Constant (.bool true) k pos) env) : Tb G A L (isTrue (.Constant (.bool true) k pos) env whole) P ρ μ := by
  subst hw
  refine b_value (e_bool ?_)
  exact t_bool h
inductive SliceP (K : Addr → Mu → Prop) (o i : MV) (μ : Mu) : Prop
  | mk (l : Addr) (xs : List MV) (k : Int) (e1 : o = .ref l) (e2 : i = .int k) (hm : (l, MO.list xs) ∈ μ) (hl : xs.length ≤ big) (h : ∀ a ys, ys.length ≤ xs.length → K a ((a, .list ys) :: μ))
theorem e_slice {value lo : Expr} {p pos : Pos} {P : MV → Rho → Mu → Prop}
    (h : T G A L (eval value env) (fun o ρ μ => T G A L (eval lo env) (fun i ρ μ => SliceP (fun a μ' => P (.ref a) ρ μ') o i μ) ρ μ) ρ μ)
    (ht : ∀ o r, letTemporaryGo value o r = pure () := by intro _ _; k_dflt rfl) : T G A L (eval (.Subscript value (.Slice (some lo) none none p) pos) env) P ρ μ := fun s₀ B s hst => by
  refine wpAny_Subscript_Slice (T := "list") slot_list_getitem.lookup (h.use hst fun o a ρ₁ μ₁ s₁ ho hs₁ h₁ => ?_) ht
  refine wpAny_Slice ?_
  rw [evalPart_some]
  refine h₁.use hs₁ fun i b ρ₂ μ₂ s₂ hi hs₂ q => ?_
  cases q with | mk l xs k e1 e2 hm hl hp =>
  subst e1 e2
  cases ho
  obtain ⟨t, rfl⟩ := hi
  rw [evalPart_none]
  refine wpAny_pure (wpAny_pure ?_)
  have hs₃ := hs₂.push (o := .raw { cls := .type "slice", data := .fields #[.int k t, .none, .none] }) (x := { cls := .type "slice", data := .fields #[.int k t, .none, .none] }) (tk := s₂.toks) rfl rfl
  obtain ⟨us, n, g, hus⟩ := hs₃.list (.tail _ hm)
  refine ⟨⟨_, g, rfl⟩, wpAny_getItem_list_slice (lo := some k) (hi := none) (st := none) (isList_of g) (Heap.IsSliceOf.new ..) (by first | exact .int _ _ | exact .inr ⟨_, _, rfl, rfl⟩ | constructor) (by first | exact .none | constructor) (by first | exact .none | constructor) (by simp) ?_ (by have := hus.length; have := big_le hl; rw [List.size_toArray]; omega)⟩
  have hs₄ := hs₃.sub (List.sublist_cons_self _ _)
  have hsz := slicePick_size_le us.toArray (some k) none none
  have hlen := hus.length
  refine ⟨.ref _, _, _, rfl, hs₄.push (o := .list ((slicePick us.toArray (some k) none none).toList.map .con)) (tk := s₂.toks) ⟨(slicePick us.toArray (some k) none none).toList, 0, by simp, vrs_con _⟩ rfl, hp _ _ (by rw [List.length_map, Array.length_toList]; have e : us.toArray.size = us.length := List.size_toArray ..; omega)⟩
theorem call_any {f : Expr} {pos : Pos} {M : Model} {E : Value → Shared → Prop} {Q : Value → Shared → Prop} (hf : eval (.Call f [] [] pos) env = (do callWith pos (← eval f env) [] (backTo pos (starEach [] env)) (backToKw pos (keywordEach [] env))))
    (h : wpAny M A (eval f env) (fun v s₁ => wpAny M A (callWith pos v [] [] []) Q E s₁) E s) : wpAny M A (eval (.Call f [] [] pos) env) Q E s := by
  rw [hf]; exact wpAny_bind h
theorem keeps_mw {M : Model} {mw it : Addr} (h : Heap) (X : h.get? mw = some (mwObj it)) : ∃ k, (k = Keeper.frame ∨ k = Keeper.machine ∨ k = Keeper.boundFrame) ∧ Looks M h (keeperOf (.ref mw)) k :=
  ⟨.machine, .inr (.inl rfl), (Looks.ld (part := none) X).andThen .now⟩
inductive TryN {w : World} (G : Gl w) (A : Around) (L : Addr) (env : Env) (x : Str) (K : Rho → Mu → Prop) (KE : Around → Rho → Mu → Prop) (v : MV) (ρ : Rho) (μ₁ : Mu) : Prop
  | mk (mw it l : Addr) (i : Nat) (xs : List MV) (μ₂ : Mu) (outer : List Env) (e1 : v = .ref mw) (e2 : μ₁ = (it, .raw (itO l i)) :: μ₂) (hmw : (mw, MO.raw (mwObj it)) ∈ μ₂) (hll : (l, MO.list xs) ∈ μ₂) (hfr : FrIn A env outer L μ₂)
      (hit : ∀ v, xs[i]? = some v → StoreP x v (fun ρ' => K ρ' ((it, .raw (itO l (i + 1))) :: μ₂)) ρ) (hend : xs[i]? = none → ∀ A' : Around, A'.depth = A.depth → A'.units = A.units → KE A' ρ μ₂)
theorem s_trynext {x : Str} {px ap cp bp np hp pos : Pos} {f : Expr} {b₀ : Stmt} {suite rest : List Stmt} {P : MF → Rho → Mu → Prop} (hh : A.handled = none)
    (h : T G A env.locals (eval f env) (TryN G A env.locals env x (P .brk) fun A' ρ μ₂ => X G A' env.locals (execs (b₀ :: suite) env) (seqP G A env.locals env rest P) ρ μ₂) ρ μ)
    (hf : eval (.Call f [] [] cp) env = (do callWith cp (← eval f env) [] (backTo cp (starEach [] env)) (backToKw cp (keywordEach [] env))) := by k_dflt rfl)
    (hsw : swapsWith (.Call f [] [] cp) (some (.Name x px)) ap.line env = pure false := by rfl)
    (hk : KindOk env x .local := by kernel_rfl) (hg : GlobOk env (Str.ofString "StopIteration") := by kernel_rfl) (en : nsIn (KK w.params) mainGlobals (Str.ofString "StopIteration") = some none := by kernel_rfl) :
    X G A env.locals (execs (.Try [.Assign [.Name x px] (.Call f [] [] cp) ap, .Break bp] [.ExceptHandler (some (.Name (Str.ofString "StopIteration") np)) none (b₀ :: suite) hp] [] [] pos :: rest) env) P ρ μ :=
  s_cons fun s₀ B s hst => by
    refine wpAny_Try_except (wpAny_execs_cons (wpAny_Assign_Name (call_any hf (h.use hst fun v a ρ₁ μ₁ s₁ hv hs₁ q => ?_)) hsw))
    cases q with | mk mw it l i xs μ₂ outer e1 e2 hmw hll hfr hit hend =>
    subst e1 e2
    cases hv
    have hs₂ := hs₁.sub (μ' := μ₂) (List.sublist_cons_self _ _)
    obtain ⟨_, g1, e⟩ := hs₁.get (.head _); cases e
    obtain ⟨_, g2, e⟩ := hs₂.get hmw; cases e
    obtain ⟨us, n, g3, hus⟩ := hs₂.list hll
    refine callWith_of (P := fun h => h.get? mw = some (mwObj it)) rfl keeps_mw (evalArgs_any rfl (wpAny_pure ⟨g2, ?_⟩))
    show wpAny _ _ (call (.ref mw) []) _ _ s₁
    cases q : xs[i]? with
    | some v =>
      obtain ⟨u, hu1, hu2⟩ := hus.get q
      refine call_mw_item g2 g1 (isList_of g3) (by simpa using hu1) fun h' hit' hsb => ?_
      cases hit v q with | mk ρ' hp' hP =>
      have hs₃ := hs₁.set (tk := s₁.toks) (o := .raw (itO l (i + 1))) SetAt.head hsb ⟨_, hit', rfl⟩
      refine Tg.use (st_local (P := fun _ ρ μ => P .brk ρ μ) hu2 hp' hP hk.k hk.l) hs₃ fun _ _ ρ₂ μ₃ s₃ _ hs₃ hP => ?_
      exact wpAny_execs_cons (wpAny_Break ⟨.brk, _, _, rfl, hs₃, hP⟩)
    | none =>
      have hlen := hus.length
      refine call_mw_end hh g2 g1 (isList_of g3) (by have := List.getElem?_eq_none_iff.mp q; simp; omega) fun h' e t hext hne he => ?_
      have hb := hs₁.ob _ (List.Mem.head _)
      have hnm := hs₁.nm
      simp only [List.map_cons, List.nodup_cons] at hnm
      have hs₃ := hs₂.jump (h' := h') (tk := s₁.toks) (W := [it]) (fun a ha => by rw [List.mem_singleton.mp ha]; exact ⟨hb.b, hb.l, hnm.1⟩) (fun b o hbo ho => hext b o (by simpa using hbo) ho)
      have hfe := hs₂.fresh hne
      refine note_first hfr hs₃ he (vs := #[.ref t, .none, .none, .none, .bool false, .none]) rfl rfl rfl hfe fun h₁ hs₄ hx₄ => ?_
      refine flight_off hs₄ hx₄ fun h₂ hs₅ hx₅ => ?_
      refine wpAny_handleBy_builtin (X := "StopIteration") (T := "StopIteration") (b := true) stop_base stop_notup isSubtype_stop ?_
      refine builtin_go en rfl (by decide) hg hs₅ ⟨rfl, ?_, ?_⟩
      · obtain ⟨oe, _, _, _, _, _, q1, q2, _⟩ := hx₅
        exact ⟨oe, q1, q2⟩
      · rw [if_pos rfl]
        refine flight_off hs₅ hx₅ fun h₃ hs₆ hx₆ => ?_
        exact Tg.use (hend q (A.mark (some (.ref e))) rfl rfl) hs₆ fun fl g ρ₂ μ₃ s₇ hf hs₇ hP => ⟨fl, _, _, hf, hs₇, hP⟩
end
end

section
set_option maxRecDepth 100000
noncomputable def valErr : List Value := [.type "ValueError", .type "Exception", .type "BaseException", .type "object"]
section
variable {w : World} {G : Gl w} {A : Around} {L : Addr} {env : Env} {outer : List Env} {ρ ρ' : Rho} {μ μ' : Mu} {s₀ : Shared} {B : Addr → Option Obj} {s : Shared} {C : Addr}
theorem CFE.go {f : Value} {args : List MV} {P : MV → Mu → Prop} {PE : Mu → Prop} {vs : List Value} {Q : Value → Shared → Prop} {E : Value → Shared → Prop} (h : CFE G A f args C P PE μ) (hf : FrIn A env outer L μ) (hs : St G s₀ B L ρ μ s) (hv : VRs args vs)
    (kQ : ∀ x v μ' s', VR x v → St G s₀ B L ρ μ' s' → P x μ' → Q v s') (kE : ∀ e μ' s', St G s₀ B L ρ μ' s' → ExcAt B L μ' s'.heap e (.ref C) .none → PE μ' → E (.ref e) s') : wpAny (model PR w) A (call f vs) Q E s :=
  wpAny_call (codeAny_mono (h env outer s₀ B L ρ s vs hf hs hv) fun r s' q => by
    rcases r with e | (_ | _ | _ | v)
    · cases q with | mk e μ' hv hs' hx hp => subst hv; exact kE e μ' s' hs' hx hp
    · exact q
    · exact q
    · exact q
    · exact PostC.use q fun x μ' hx hs' hp => kQ x v μ' s' hx hs' hp)
inductive OutP {w : World} (G : Gl w) (A : Around) (env : Env) (L : Addr) (f : Value) (vs : List MV) (C : Addr) (P : MV → Mu → Prop) (PE : Mu → Prop) (μ : Mu) : Prop
  | mk (outer : List Env) (hf : FrIn A env outer L μ) (h : CFE G A f vs C P PE μ)
inductive MethF {w : World} (G : Gl w) (A : Around) (env : Env) (L : Addr) (name : Str) (targs : Sem (List Value)) (C : Addr) (P : MV → Rho → Mu → Prop) (PE : Rho → Mu → Prop) (ov : MV) (ρ : Rho) (μ : Mu) : Prop
  | mk (x D d : Addr) (sl : List MV) (fs : List (Str × MV)) (f : Addr) (e : ov = .ref x) (h1 : (x, MO.obj D d sl) ∈ μ) (h2 : (d, MO.attrs fs) ∈ μ) (hg : plainGet (KK w.params) D name = true) (hf : findIn (KK w.params) (.ref D) name = some (some (.ref f))) (hfn : isFn (KK w.params) (.ref f) = true) (hkp : keepIn (KK w.params) (.ref f) = true) (hl : lookA name fs = none)
      (h : Ts G A L targs (fun vs ρ μ => OutP G A env L (.ref f) (.ref x :: vs) C (fun v μ' => P v ρ μ') (PE ρ) μ) ρ μ)
theorem methF {o : Expr} {name : Str} {apos pos : Pos} {args : List Expr} {P : MV → Rho → Mu → Prop} {PE : Rho → Mu → Prop} {Q : Value → Shared → Prop} {E : Value → Shared → Prop}
    (h : T G A L (eval o env) (MethF G A env L name (spliced (backTo pos (starEach args env))) C P PE) ρ μ) (hs : St G s₀ B L ρ μ s)
    (kQ : ∀ x v ρ' μ' s', VR x v → St G s₀ B L ρ' μ' s' → P x ρ' μ' → Q v s') (kE : ∀ e ρ' μ' s', St G s₀ B L ρ' μ' s' → ExcAt B L μ' s'.heap e (.ref C) .none → PE ρ' μ' → E (.ref e) s')
    (hpl : (backTo pos (starEach args env)).any (·.1) = false)
    (hbase : attributeBase o name env (eval o env) = eval o env)
    (hform : methodCallForm (args.length + ([] : List Keyword).length) (backTo pos (starEach args env)) (backToKw pos (keywordEach [] env)) = true)
    (hline : (apos.endLine == pos.line) = true) : wpAny (model PR w) A (eval (.Call (.Attribute o name apos) args [] pos) env) Q E s := by
  rw [arm_eval_Call, hbase]
  refine wpAny_bind (h.use hs fun ov v ρ₁ μ₁ s₁ hv hs₁ q => ?_)
  cases q with | mk x C d sl fs f e1 h1 h2 hg hf hfn hkp hl h₁ =>
  subst e1
  cases hv
  refine wpAny_bind (wpAny_standAt ?_)
  unfold methodCall
  rw [hform]
  obtain ⟨ss, es, n, hss, hes, hx, hd, I⟩ := hs₁.inst h1 h2
  have hpos : methodCallPos true o env apos pos = pure pos := by unfold methodCallPos; simp [hline]
  refine wpAny_bind (wpAny_holding ?_)
  show wpAny _ _ (getMethod (.ref x) name _) _ _ s₁
  refine method_fn hs₁.K I (plainGet_of hg).1 (plainGet_of hg).2 hf (beq_iff_eq.mp hfn) (by show (lookIn name (dictOf es n)).map _ = _; rw [lookIn_dict, getL_none hes hl]; rfl) ?_
  show wpAny _ _ (methodCallPos true o env apos pos >>= _) _ _ s₁
  rw [hpos]
  refine wpAny_bind (wpAny_pure ?_)
  refine callWith_of (P := fun h => (KK w.params).In h) (by rw [hpl]; rfl) (keeps_K hkp) (evalArgs_any hpl ?_)
  exact h₁.use hs₁ fun xs vs ρ₂ μ₂ s₂ hxs hs₂ q => by
    cases q with | mk outer hfr h₂ =>
    exact ⟨hs₂.K, CFE.go (vs := .ref x :: vs) h₂ hfr hs₂ ⟨rfl, hxs⟩ (fun x v μ' s' hx hs' hp => kQ x v _ μ' s' hx hs' hp) fun e μ' s' hs' hx hp => kE e _ μ' s' hs' hx hp⟩
theorem e_methiF {o : Expr} {name : Str} {apos pos : Pos} {args : List Expr} {P : MV → Rho → Mu → Prop}
    (h : T G A L (eval o env) (MethF G A env L name (spliced (backTo pos (starEach args env))) 0 P (fun _ _ => False)) ρ μ)
    (hpl : (backTo pos (starEach args env)).any (·.1) = false := by kernel_rfl)
    (hbase : attributeBase o name env (eval o env) = eval o env := by rfl)
    (hform : methodCallForm (args.length + ([] : List Keyword).length) (backTo pos (starEach args env)) (backToKw pos (keywordEach [] env)) = true := by rfl)
    (hline : (apos.endLine == pos.line) = true := by rfl) : T G A L (eval (.Call (.Attribute o name apos) args [] pos) env) P ρ μ := fun s₀ B s hs =>
  methF h hs (fun x v ρ' μ' s' hx hs' hp => ⟨x, ρ', μ', hx, hs', hp⟩) (fun _ _ _ _ _ _ f => f.elim) hpl hbase hform hline
theorem e_callfnF {x : Str} {f : Addr} {p pos : Pos} {args : List Expr} {P : MV → Rho → Mu → Prop} (e : nsIn (KK w.params) mainGlobals x = some (some (.ref f))) (hkp : keepIn (KK w.params) (.ref f) = true)
    (h : Ts G A L (spliced (backTo pos (starEach args env))) (fun vs ρ μ => OutP G A env L (.ref f) vs 0 (fun v μ' => P v ρ μ') (fun _ => False) μ) ρ μ)
    (hpl : (backTo pos (starEach args env)).any (·.1) = false := by kernel_rfl)
    (hk : GlobOk env x := by kernel_rfl) :
    T G A L (eval (.Call (.Name x p) args [] pos) env) P ρ μ := fun s₀ B s hs => by
  refine wpAny_Call_NameR (glob_go e hk hs ?_)
  refine callWith_of (P := fun h => (KK w.params).In h) (by rw [hpl]; rfl) (keeps_K hkp) (evalArgs_any hpl ?_)
  exact h.use hs fun xs vs ρ₂ μ₂ s₂ hxs hs₂ q => by
    cases q with | mk outer hfr h₂ => exact ⟨hs₂.K, h₂.go hfr hs₂ hxs (fun x v μ' s' hx hs' hp => ⟨x, _, _, hx, hs', hp⟩) fun _ _ _ _ _ f => f.elim⟩
theorem own_exc {cx : Str} {C : Addr} {newId : String} (hs : St G s₀ B L ρ μ s) (ex : nsIn (KK w.params) mainGlobals cx = some (some (.ref C))) (q : excIn (KK w.params) C valErr newId = true) : OwnCls cx C valErr newId G.mg s.heap :=
  (own_of_in G.k (topRead_of G.t) ex q).keeps hs.base
theorem xe_raise {cx : Str} {newId initId : String} {np cpos pos : Pos} {args : List Expr} {rest : List Stmt} {P : MF → Rho → Mu → Prop} {PE : Mu → Prop} (hh : A.handled = none) (FB : ExcBaseFacts "ValueError" newId initId valErr)
    (ex : nsIn (KK w.params) mainGlobals cx = some (some (.ref C))) (q : excIn (KK w.params) C valErr newId = true)
    (h : Ts G A L (spliced (backTo cpos (starEach args env))) (fun vs ρ μ => vs.length ≤ big ∧ PE μ) ρ μ)
    (hpl : (backTo cpos (starEach args env)).any (·.1) = false := by rfl)
    (hk : GlobOk env cx := by kernel_rfl) :
    XE G A L (execs (.Raise (some (.Call (.Name cx np) args [] cpos)) none pos :: rest) env) C P PE ρ μ := fun s₀ B s hs => by
  have O := own_exc hs ex q
  obtain ⟨tl, N, nm, qn, bs, hdct, sn, sub, ab, col, dd, k0, k1, k2, k3, k5, mN, hC, hN, hni, T⟩ := (own_of_in G.k (topRead_of G.t) ex q).obj
  refine wpAny_execs_cons (wpAny_Raise_call_subT (C := C) (nm := nm) (q := qn) (N := N) (bs := bs) (bm := tl) (hdct := hdct) (sn := sn) (sub := sub) (ab := ab) (col := col) (dd := dd) (k0 := k0) (k1 := k1) (k2 := k2) (k3 := k3) (k5 := k5)
    FB (mN := mN) (T.hasType FB.hasBase) hh hpl hni ?_)
  refine glob_go ex hk hs ⟨rfl, ?_⟩
  refine evalArgs_any hpl (h.use hs fun xs vs ρ₂ μ₂ s₂ hxs hs₂ q => ⟨rfl, ?_, hs₂.base _ _ hC, hN.keeps hs₂.base, T.keeps hs₂.base, fun h' e hm => ?_⟩)
  · show vs.length ≤ sizeLine; rw [hxs.length]; have := big_le q.1; omega
  · obtain ⟨t, he, _⟩ := hm.there
    exact ⟨e, ρ₂, μ₂, _, _, _, rfl, hs₂.grow (tk := s₂.toks) hm.keeps, he, rfl, rfl, rfl, rfl, hs₂.fresh hm.new, q.2⟩
inductive TryE (A : Around) (env : Env) (L : Addr) (K : Around → Rho → Mu → Prop) (ρ : Rho) (μ : Mu) : Prop
  | mk (outer : List Env) (hf : FrIn A env outer L μ) (h : ∀ A' : Around, A'.depth = A.depth → A'.units = A.units → K A' ρ μ)
theorem s_trymeth {cx : Str} {newId : String} {o : Expr} {name : Str} {apos cpos epos np hp pos : Pos} {b₀ : Stmt} {suite rest : List Stmt} {P : MF → Rho → Mu → Prop}
    (ex : nsIn (KK w.params) mainGlobals cx = some (some (.ref C))) (q : excIn (KK w.params) C valErr newId = true)
    (h : T G A env.locals (eval o env) (MethF G A env env.locals name (spliced (backTo cpos (starEach [] env))) C (fun _ ρ μ => X G A env.locals (execs rest env) P ρ μ)
      (TryE A env env.locals fun A' ρ μ => X G A' env.locals (execs (b₀ :: suite) env) (seqP G A env.locals env rest P) ρ μ)) ρ μ)
    (hpl : (backTo cpos (starEach [] env)).any (·.1) = false := by rfl)
    (hbase : attributeBase o name env (eval o env) = eval o env := by rfl)
    (hform : methodCallForm (([] : List Expr).length + ([] : List Keyword).length) (backTo cpos (starEach [] env)) (backToKw cpos (keywordEach [] env)) = true := by rfl)
    (hline : (apos.endLine == cpos.line) = true := by rfl) (hi : interactive env = false := by rfl) (hsw : swapsWith (.Call (.Attribute o name apos) [] [] cpos) none epos.line env = pure false := by rfl)
    (hk : GlobOk env cx := by kernel_rfl) :
    X G A env.locals (execs (.Try [.Expr (.Call (.Attribute o name apos) [] [] cpos) epos] [.ExceptHandler (some (.Name cx np)) none (b₀ :: suite) hp] [] [] pos :: rest) env) P ρ μ :=
  s_cons fun s₀ B s hst => by
    refine wpAny_Try_except (wpAny_execs_cons (wpAny_Expr_any (methF h hst (fun x v ρ' μ' s' hx hs' hp => ?_) (fun e ρ' μ' s' hs' hxc q => ?_) hpl hbase hform hline) hi hsw))
    · exact wpAny_execs_nil (wpAny_execs_nil ⟨.next, _, _, rfl, hs', hp⟩)
    · cases q with | mk outer hfr hend =>
      refine note_on hfr hs' hxc fun h₁ hs₄ hx₄ => ?_
      refine flight_off hs₄ hx₄ fun h₂ hs₅ hx₅ => ?_
      refine wpAny_handleBy_cons (codeAny_handlers_test ?_) (by intro q; cases q)
      refine glob_go ex hk hs₅ ?_
      obtain ⟨bm, N, nm, qn, bs, hdct, sn, sub, ab, col, dd, k0, k1, k2, k3, k5, mN, hC, hN, hni, TL⟩ := (own_exc hs₅ ex q).obj
      obtain ⟨ob, _, _, _, _, _, hob, hobc, _⟩ := id hx₅
      refine wpAny_excMatches_sub_self hC hob hobc (TL.hasType (by decide)) (codeAny_handlers_suite ?_)
      refine flight_off hs₅ hx₅ fun h₃ hs₆ hx₆ => ?_
      exact Tg.use (hend (A.mark (some (.ref e))) rfl rfl) hs₆ fun fl g ρ₂ μ₃ s₇ hf hs₇ hP => ⟨fl, _, _, hf, hs₇, hP⟩
end
end

structure Ent where
  k : Int
  it : Nat
  mw : Nat
  c : Nat
section
variable (su : Int → List Int)
noncomputable def Stk (fin : List Int) : Int → List Ent → Prop
  | _, [] => True
  | x, e :: r => 0 < e.c ∧ (su e.k)[e.c - 1]? = some x ∧ (∀ y ∈ (su e.k).take (e.c - 1), y ∈ fin) ∧ Stk fin e.k r
noncomputable def TopS (fin : List Int) : List Ent → Prop
  | [] => True
  | e :: r => (∀ y ∈ (su e.k).take e.c, y ∈ fin) ∧ Stk su fin e.k r
noncomputable def FinOK : List Int → Prop
  | [] => True
  | k :: r => (∀ y ∈ su k, y ∈ r) ∧ FinOK r
noncomputable def nodes (es : List Ent) : List Int := es.map (·.k)
noncomputable def cnt (es : List Ent) (fin : List Int) : Nat := (es.map (·.c)).sum + (fin.map fun k => (su k).length).sum
structure DInv (ks fin : List Int) (es : List Ent) : Prop where
  nd : (nodes es ++ fin).Nodup
  sub : ∀ x ∈ nodes es ++ fin, x ∈ ks
  fok : FinOK su fin
  le : ∀ e ∈ es, e.c ≤ (su e.k).length
variable {su}
theorem Stk.mono {fin fin' : List Int} (h : ∀ y ∈ fin, y ∈ fin') : ∀ {es : List Ent} {x : Int}, Stk su fin x es → Stk su fin' x es
  | [], _, _ => trivial
  | e :: r, x, ⟨h1, h2, h3, h4⟩ => ⟨h1, h2, fun y hy => h y (h3 y hy), Stk.mono h h4⟩
theorem top_push {fin : List Int} {es : List Ent} {x : Int} {i m : Nat} (h : Stk su fin x es) : TopS su fin (⟨x, i, m, 0⟩ :: es) := ⟨fun y hy => by simp at hy, h⟩
theorem take_last {l : List Int} {c : Nat} {x : Int} (h0 : 0 < c) (h : l[c - 1]? = some x) : l.take c = l.take (c - 1) ++ [x] := by
  have e : c = c - 1 + 1 := by omega
  conv => lhs; rw [e]
  rw [List.take_add_one, h]; rfl
theorem top_seen {fin : List Int} {es : List Ent} {x : Int} (hx : x ∈ fin) (h : Stk su fin x es) : TopS su fin es := by
  cases es with
  | nil => trivial
  | cons e r =>
    obtain ⟨h1, h2, h3, h4⟩ := h
    refine ⟨fun y hy => ?_, h4⟩
    rw [take_last h1 h2] at hy
    rcases List.mem_append.mp hy with hy | hy
    · exact h3 y hy
    · rw [List.mem_singleton.mp hy]; exact hx
theorem top_next {fin : List Int} {e : Ent} {r : List Ent} {x : Int} (h : TopS su fin (e :: r)) (hx : (su e.k)[e.c]? = some x) : Stk su fin x (⟨e.k, e.it, e.mw, e.c + 1⟩ :: r) :=
  ⟨Nat.succ_pos _, hx, h.1, h.2⟩
theorem top_pop {fin : List Int} {e : Ent} {r : List Ent} (h : TopS su fin (e :: r)) (hx : (su e.k)[e.c]? = none) : (∀ y ∈ su e.k, y ∈ fin) ∧ TopS su (e.k :: fin) r := by
  have hle := List.getElem?_eq_none_iff.mp hx
  refine ⟨fun y hy => h.1 y (by rw [List.take_of_length_le hle]; exact hy), ?_⟩
  cases r with
  | nil => trivial
  | cons e2 r2 => exact top_seen (x := e.k) (.head _) (Stk.mono (fun y hy => .tail _ hy) h.2)
theorem DInv.push {ks fin : List Int} {es : List Ent} {x : Int} {i m : Nat} (h : DInv su ks fin es) (hx : x ∈ ks) (hn : x ∉ nodes es) (hf : x ∉ fin) : DInv su ks fin (⟨x, i, m, 0⟩ :: es) := by
  refine ⟨?_, ?_, h.fok, ?_⟩
  · show (x :: (nodes es ++ fin)).Nodup
    exact List.nodup_cons.mpr ⟨fun hm => (List.mem_append.mp hm).elim hn hf, h.nd⟩
  · intro y hy
    rcases List.mem_cons.mp (show y ∈ x :: (nodes es ++ fin) from hy) with rfl | hy
    · exact hx
    · exact h.sub y hy
  · intro e he
    rcases List.mem_cons.mp he with rfl | he
    · exact Nat.zero_le _
    · exact h.le e he
theorem DInv.next {ks fin : List Int} {e : Ent} {r : List Ent} {x : Int} (h : DInv su ks fin (e :: r)) (hx : (su e.k)[e.c]? = some x) : DInv su ks fin (⟨e.k, e.it, e.mw, e.c + 1⟩ :: r) :=
  ⟨h.nd, h.sub, h.fok, fun e' he => by
    rcases List.mem_cons.mp he with rfl | he
    · exact (List.getElem?_eq_some_iff.mp hx).1
    · exact h.le e' (.tail _ he)⟩
theorem DInv.pop {ks fin : List Int} {e : Ent} {r : List Ent} (h : DInv su ks fin (e :: r)) (hs : ∀ y ∈ su e.k, y ∈ fin) : DInv su ks (e.k :: fin) r := by
  have hnd : (e.k :: (nodes r ++ fin)).Nodup := h.nd
  refine ⟨?_, fun y hy => h.sub y ?_, ⟨hs, h.fok⟩, fun e' he => h.le e' (.tail _ he)⟩
  · rw [List.nodup_append]
    have h1 := List.nodup_cons.mp hnd
    have h2 := List.nodup_append.mp h1.2
    refine ⟨h2.1, List.nodup_cons.mpr ⟨fun hm => h1.1 (List.mem_append_right _ hm), h2.2.1⟩, ?_⟩
    intro a ha b hb
    rcases List.mem_cons.mp hb with rfl | hb
    · rintro rfl; exact h1.1 (List.mem_append_left _ ha)
    · exact h2.2.2 a ha b hb
  · show y ∈ e.k :: (nodes r ++ fin)
    rcases List.mem_append.mp hy with hy | hy
    · exact .tail _ (List.mem_append_left _ hy)
    · rcases List.mem_cons.mp hy with rfl | hy
      · exact .head _
      · exact .tail _ (List.mem_append_right _ hy)
theorem sum_sub {f : Int → Nat} : ∀ {l ks : List Int}, l.Nodup → (∀ x ∈ l, x ∈ ks) → (l.map f).sum ≤ (ks.map f).sum
  | [], _, _, _ => by simp
  | x :: r, ks, hn, hs => by
    have hx := hs x (.head _)
    have h1 : (r.map f).sum ≤ ((ks.erase x).map f).sum := sum_sub (List.nodup_cons.mp hn).2 fun y hy => by
      have : y ≠ x := by rintro rfl; exact (List.nodup_cons.mp hn).1 hy
      exact (List.mem_erase_of_ne this).mpr (hs y (.tail _ hy))
    have h2 : (ks.map f).sum = f x + ((ks.erase x).map f).sum := by
      have := ((List.perm_cons_erase hx).map f).sum_nat
      simpa using this
    simp only [List.map_cons, List.sum_cons]; omega
theorem cnt_le {ks fin : List Int} {es : List Ent} (h : DInv su ks fin es) : cnt su es fin ≤ (ks.map fun k => (su k).length).sum := by
  have h1 := sum_sub (f := fun k => (su k).length) h.nd h.sub
  have h2 : ∀ {es : List Ent}, (∀ e ∈ es, e.c ≤ (su e.k).length) → (es.map (·.c)).sum ≤ ((nodes es).map fun k => (su k).length).sum := by
    intro es
    induction es with
    | nil => intro _; simp [nodes]
    | cons e r ih =>
      intro hle
      have := ih fun e' he => hle e' (.tail _ he)
      have := hle e (.head _)
      simp only [nodes, List.map_cons, List.sum_cons] at *; omega
  have h3 := h2 h.le
  rw [List.map_append, List.sum_append] at h1
  unfold cnt; omega
theorem DInv.len {ks fin : List Int} {es : List Ent} (h : DInv su ks fin es) : es.length + fin.length ≤ ks.length := by
  have := nodup_sub_len h.nd h.sub
  simpa [nodes] using this
variable {g : Int → List Int}
theorem no_end {S : Int → Prop} (h : ∀ x, S x → ∃ y ∈ g x, S y) : ∀ (m : Nat) x, S x → ends g m x = false
  | 0, _, _ => rfl
  | m + 1, x, hx => by
    obtain ⟨y, hy, hS⟩ := h x hx
    cases e : ends g (m + 1) x with
    | false => rfl
    | true => have := ends_lower e y hy; rw [no_end h m y hS] at this; exact this.symm
theorem stk_path (hg : ∀ k j, j ∈ su k → k ∈ g j) {fin : List Int} {t : Int} : ∀ {l1 : List Ent} {e : Ent} {l2 : List Ent} {x : Int}, e.k = t → Stk su fin x (l1 ++ e :: l2) → ∀ y ∈ x :: nodes l1, ∃ z ∈ g y, z ∈ nodes l1 ++ [t]
  | [], e, l2, x, ht, ⟨h1, h2, _, _⟩, y, hy => by
    rw [List.mem_singleton.mp hy]
    exact ⟨t, hg t x (by rw [← ht]; exact List.mem_of_getElem? h2), by simp⟩
  | e' :: l1, e, l2, x, ht, ⟨h1, h2, _, h4⟩, y, hy => by
    rcases List.mem_cons.mp hy with rfl | hy
    · exact ⟨e'.k, hg _ _ (List.mem_of_getElem? h2), .head _⟩
    · obtain ⟨z, hz1, hz2⟩ := stk_path hg ht h4 y hy
      exact ⟨z, hz1, .tail _ hz2⟩
theorem stk_cycle (hg : ∀ k j, j ∈ su k → k ∈ g j) {fin : List Int} {x : Int} {es : List Ent} (h : Stk su fin x es) (hx : x ∈ nodes es) (m : Nat) : ends g m x = false := by
  obtain ⟨e, he, hk⟩ := List.mem_map.mp hx
  obtain ⟨l1, l2, rfl⟩ := List.append_of_mem he
  refine no_end (S := fun y => y ∈ x :: nodes l1) (fun y hy => ?_) m x (.head _)
  obtain ⟨z, hz1, hz2⟩ := stk_path hg hk h y hy
  refine ⟨z, hz1, ?_⟩
  rcases List.mem_append.mp hz2 with hz | hz
  · exact .tail _ hz
  · rw [List.mem_singleton.mp hz]; exact .head _
theorem finOK_split : ∀ {a : List Int} {k : Int} {b : List Int}, FinOK su (a ++ k :: b) → ∀ y ∈ su k, y ∈ b
  | [], _, _, h => h.1
  | _ :: a, _, _, h => finOK_split (a := a) h.2
theorem fin_ends {fin : List Int} (hg : ∀ j ∈ fin, ∀ k ∈ g j, j ∈ su k) (hn : fin.Nodup) (hf : FinOK su fin) (hall : ∀ j, j ∈ fin → ∀ k ∈ g j, k ∈ fin) : ∀ (n : Nat) {pre : List Int} {j : Int} {post : List Int}, pre.length = n → fin = pre ++ j :: post → ends g (n + 1) j = true := by
  intro n
  induction n using Nat.strongRecOn with
  | _ n ih =>
    intro pre j post hl he
    unfold ends
    rw [List.all_eq_true]
    intro q hq
    have hqf := hall j (by rw [he]; simp) q hq
    have hjq := hg j (by rw [he]; simp) q hq
    rw [he] at hqf
    have hnd := hn
    rw [he] at hnd hf
    have hn2 := List.nodup_append.mp hnd
    rcases List.mem_append.mp hqf with hq1 | hq1
    · obtain ⟨p1, p2, rfl⟩ := List.append_of_mem hq1
      have := ih p1.length (by rw [← hl]; simp) (pre := p1) (j := q) (post := p2 ++ j :: post) rfl (by rw [he]; simp)
      exact ends_le (by rw [← hl]; simp) this
    · rcases List.mem_cons.mp hq1 with rfl | hq1
      · exact absurd (finOK_split hf q hjq) (List.nodup_cons.mp hn2.2.1).1
      · obtain ⟨p1, p2, rfl⟩ := List.append_of_mem hq1
        have : FinOK su ((pre ++ j :: p1) ++ q :: p2) := by simpa using hf
        have h3 := finOK_split this j hjq
        exact absurd (List.mem_append_right p1 (List.mem_cons_of_mem q h3)) (List.nodup_cons.mp hn2.2.1).1
end

noncomputable def posD : List Ent → List (Int × MV)
  | [] => []
  | e :: r => posD r ++ [(e.k, .int r.length)]
noncomputable def entL (sc : Int → Addr) (es : List Ent) : Mu := es.flatMap fun e => [(e.it, MO.raw (itO (sc e.k) e.c)), (e.mw, MO.raw (mwObj e.it))]
noncomputable def Led (sc : Int → Addr) (nd se it st : Addr) (ep : Nat) (sF : Int → Bool) (n : Nat) (es : List Ent) (Bs : Mu) : Mu :=
  (nd, .idict ep (posD es)) :: (se, .iset sF n) :: (it, .list (refs (es.map (·.mw)).reverse)) :: (st, .list (mints (nodes es).reverse)) :: (entL sc es ++ Bs)
theorem posD_look {x : Int} : ∀ {es : List Ent}, (lookD x (posD es)).isSome = decide (x ∈ nodes es)
  | [] => by simp [posD, lookD, nodes]
  | e :: r => by
    have ih := posD_look (x := x) (es := r)
    have key : ∀ {l : List (Int × MV)} {k : Int} {v : MV}, (lookD x (l ++ [(k, v)])).isSome = ((lookD x l).isSome || decide (k = x)) := by
      intro l
      induction l with
      | nil => intro k v; by_cases h : k = x <;> simp [lookD, h]
      | cons p l ih2 =>
        intro k v
        obtain ⟨m, u⟩ := p
        by_cases h : m = x
        · simp [lookD, h]
        · simp only [List.cons_append, lookD, h, if_false]; exact ih2
    unfold posD
    rw [key, ih, show nodes (e :: r) = e.k :: nodes r from rfl, Bool.eq_iff_iff]
    simp only [Bool.or_eq_true, decide_eq_true_eq, List.mem_cons]
    grind
theorem posD_any {x : Int} {es : List Ent} : ((posD es).any fun p => decide (p.1 = x)) = decide (x ∈ nodes es) := by
  induction es with
  | nil => simp [posD, nodes]
  | cons e r ih =>
    unfold posD
    rw [List.any_append, ih, show nodes (e :: r) = e.k :: nodes r from rfl, Bool.eq_iff_iff]
    simp only [List.any_cons, List.any_nil, Bool.or_false, Bool.or_eq_true, decide_eq_true_eq, List.mem_cons]
    grind
theorem posD_push {x : Int} {es : List Ent} {i m : Nat} (h : x ∉ nodes es) : storedD (posD es) x (.int es.length) = posD (⟨x, i, m, 0⟩ :: es) := by
  unfold storedD
  rw [if_neg (by rw [posD_any]; simpa using h)]; rfl
theorem posD_keys {es : List Ent} : ∀ p ∈ posD es, p.1 ∈ nodes es := by
  induction es with
  | nil => intro p hp; cases hp
  | cons e r ih =>
    intro p hp
    rcases List.mem_append.mp (show p ∈ posD r ++ [(e.k, MV.int r.length)] from hp) with hp | hp
    · exact .tail _ (ih p hp)
    · rw [List.mem_singleton.mp hp]; exact .head _
theorem posD_pop {e : Ent} {r : List Ent} (h : e.k ∉ nodes r) : withoutD (posD (e :: r)) e.k = posD r := by
  unfold withoutD
  rw [show posD (e :: r) = posD r ++ [(e.k, .int r.length)] from rfl, List.filter_append]
  have h1 : (posD r).filter (fun p => decide (p.1 ≠ e.k)) = posD r := List.filter_eq_self.mpr fun p hp => by
    have := posD_keys p hp
    have : p.1 ≠ e.k := by rintro q; rw [q] at this; exact h this
    simpa using this
  rw [h1]; simp
theorem posD_int {x : Int} {v : MV} : ∀ {es : List Ent}, lookD x (posD es) = some v → ∃ j : Int, v = .int j := by
  intro es h
  have key : ∀ {l : List (Int × MV)}, (∀ p ∈ l, ∃ j : Int, p.2 = .int j) → lookD x l = some v → ∃ j : Int, v = .int j := by
    intro l
    induction l with
    | nil => intro _ h; cases h
    | cons p l ih =>
      intro hp h
      obtain ⟨m, u⟩ := p
      by_cases e : m = x
      · simp only [lookD, e, if_true, Option.some.injEq] at h
        obtain ⟨j, hj⟩ := hp _ (.head _)
        exact ⟨j, by rw [← h]; exact hj⟩
      · simp only [lookD, e, if_false] at h
        exact ih (fun q hq => hp q (.tail _ hq)) h
  refine key ?_ h
  clear h
  induction es with
  | nil => intro p hp; cases hp
  | cons e r ih =>
    intro p hp
    rcases List.mem_append.mp (show p ∈ posD r ++ [(e.k, MV.int r.length)] from hp) with hp | hp
    · exact ih p hp
    · rw [List.mem_singleton.mp hp]; exact ⟨_, rfl⟩
theorem entL_cons {sc : Int → Addr} {e : Ent} {r : List Ent} : entL sc (e :: r) = (e.it, MO.raw (itO (sc e.k) e.c)) :: (e.mw, MO.raw (mwObj e.it)) :: entL sc r := by simp [entL]
theorem posD_len {es : List Ent} : (posD es).length = es.length := by
  induction es with
  | nil => rfl
  | cons e r ih => simp [posD, ih]
section
variable {w : World} {G : Gl w} {A : Around} {L : Addr} {env : Env} {ρ ρ' : Rho} {μ μ' : Mu}
theorem seqRefs_last {e : Ent} {r : List Ent} : (refs ((e :: r).map (·.mw)).reverse)[(refs ((e :: r).map (·.mw)).reverse).length - 1]? = some (.ref e.mw) := by simp [refs]
theorem seqRefs_drop {e : Ent} {r : List Ent} : (refs ((e :: r).map (·.mw)).reverse).dropLast = refs (r.map (·.mw)).reverse := by simp [refs]
theorem seqInts_last {e : Ent} {r : List Ent} : (mints (nodes (e :: r)).reverse)[(mints (nodes (e :: r)).reverse).length - 1]? = some (.int e.k) := by simp [mints, nodes]
theorem seqInts_drop {e : Ent} {r : List Ent} : (mints (nodes (e :: r)).reverse).dropLast = mints (nodes r).reverse := by simp [mints, nodes]
noncomputable def orP (K : Rho → Mu → Prop) (P : MF → Rho → Mu → Prop) : MF → Rho → Mu → Prop
  | .next, ρ, μ => K ρ μ
  | fl, ρ, μ => P fl ρ μ
theorem or_next {K : Rho → Mu → Prop} {P : MF → Rho → Mu → Prop} (h : K ρ μ) : orP K P .next ρ μ := h
theorem or_ret {K : Rho → Mu → Prop} {P : MF → Rho → Mu → Prop} {v : MV} (h : P (.ret v) ρ μ) : orP K P (.ret v) ρ μ := h
theorem s_ifk {test : Expr} {body orelse : List Stmt} {pos : Pos} {rest : List Stmt} {P : MF → Rho → Mu → Prop} (K : Rho → Mu → Prop) (hK : ∀ ρ μ, K ρ μ → X G A L (execs rest env) P ρ μ)
    (h : Tb G A L (isTrue test env (eval test env)) (fun b ρ μ => if b = true then X G A L (execs body env) (orP K P) ρ μ else X G A L (execs orelse env) (orP K P) ρ μ) ρ μ) :
    X G A L (execs (.If test body orelse pos :: rest) env) P ρ μ := by
  have conv : ∀ fl ρ μ, orP K P fl ρ μ → seqP G A L env rest P fl ρ μ := fun fl ρ μ h => by
    cases fl with
    | next => exact hK ρ μ h
    | _ => exact h
  exact s_if (h.mono fun b ρ μ h => by
    cases b with
    | true => exact Tg.mono h conv
    | false => exact Tg.mono h conv)
abbrev fcR (ts n st it se nd : Addr) (v : MV) : Rho := [(Str.ofString "self", .ref ts), (Str.ofString "n2i", .ref n), (Str.ofString "stack", .ref st), (Str.ofString "itstack", .ref it), (Str.ofString "seen", .ref se), (Str.ofString "node2stacki", .ref nd), (Str.ofString "node", v)]
inductive FcI (t : TSt) (nd se it st : Addr) (Bs : Mu) (i : Nat) (ρ₁ : Rho) (μ₁ : Mu) : Prop
  | mk (fin : List Int) (ep : Nat) (sF : Int → Bool) (n : Nat) (v : MV) (z1 : ρ₁ = fcR t.ts t.n st it se nd v) (z2 : μ₁ = Led t.sc nd se it st ep sF n [] Bs) (z3 : DInv t.su t.ks fin []) (z4 : ∀ k, sF k = true ↔ k ∈ fin) (z5 : n ≤ fin.length) (z6 : ∀ k ∈ t.ks.take i, k ∈ fin)
inductive FcJ (t : TSt) (nd se it st : Addr) (Bs : Mu) (x₀ : Int) (i : Nat) (nn : Nat) (ρ₁ : Rho) (μ₁ : Mu) : Prop
  | mk (x : Int) (fin : List Int) (es : List Ent) (ep : Nat) (sF : Int → Bool) (m : Nat) (z1 : ρ₁ = fcR t.ts t.n st it se nd (.int x)) (z2 : μ₁ = Led t.sc nd se it st ep sF m es Bs) (z3 : DInv t.su t.ks fin es) (z4 : ∀ k, sF k = true ↔ k ∈ nodes es ∨ k ∈ fin) (z5 : m ≤ es.length + fin.length) (z6 : Stk t.su fin x es) (z7 : x ∈ t.ks)
      (z8 : es = [] → x ∉ fin ∧ x = x₀) (z9 : es ≠ [] → x₀ ∈ nodes es ∨ x₀ ∈ fin) (z10 : ∀ k ∈ t.ks.take i, k ∈ fin) (z11 : nn = (t.ks.map fun k => (t.su k).length).sum - cnt t.su es fin)
inductive FcK (t : TSt) (nd se it st : Addr) (Bs : Mu) (x₀ : Int) (i nn : Nat) (N : Nat → Prop) (ρ₁ : Rho) (μ₁ : Mu) : Prop
  | mk (x : Int) (fin : List Int) (es : List Ent) (ep : Nat) (sF : Int → Bool) (m : Nat) (z1 : ρ₁ = fcR t.ts t.n st it se nd (.int x)) (z2 : μ₁ = Led t.sc nd se it st ep sF m es Bs) (z3 : DInv t.su t.ks fin es) (z4 : ∀ k, sF k = true ↔ k ∈ nodes es ∨ k ∈ fin) (z5 : m ≤ es.length + fin.length) (z6 : TopS t.su fin es)
      (z7 : x₀ ∈ nodes es ∨ x₀ ∈ fin) (z8 : ∀ k ∈ t.ks.take i, k ∈ fin) (z9 : nn = (t.ks.map fun k => (t.su k).length).sum - cnt t.su es fin) (z10 : N es.length)
set_option maxHeartbeats 8000000 in
set_option maxRecDepth 100000 in
theorem c_findcycle {P : MV → Mu → Prop} {S Z : Mu} {t : TSt} (hroom : A.depth < recursionLimit) (hh : A.handled = none) (hS : Sorter t S) (hl : t.ks.length ≤ 500) (hsub : ∀ k ∈ t.ks, ∀ j ∈ t.su k, j ∈ t.ks)
    (hN : ∀ fin, fin.Nodup → (∀ k ∈ t.ks, k ∈ fin) → (∀ k ∈ fin, k ∈ t.ks) → FinOK t.su fin → P .none (S ++ Z))
    (hC : ∀ fin x es, x ∈ nodes es → Stk t.su fin x es → x ∈ t.ks → ∀ r ys, ys ≠ [] → ys.length ≤ 1000000 → P (.ref r) ((r, .list ys) :: (S ++ Z))) : CFE G A (.ref 176) [.ref t.ts] 0 P (fun _ => False) (S ++ Z) := by
  refine c_fnF [Str.ofString "self"] [(Str.ofString "n2i", .undef), (Str.ofString "stack", .undef), (Str.ofString "itstack", .undef), (Str.ofString "seen", .undef), (Str.ofString "node2stacki", .undef), (Str.ofString "node", .undef)] rfl (by omega) rfl rfl rfl rfl rfl rfl rfl rfl rfl rfl (by decide) rfl rfl rfl (fun vs hv => va1 hv fun _ _ => rfl) ?_
  intro outer L₀ oL L' qn cd hnd hFr
  refine XE.of ?_
  show X G _ _ (execs _ _) _ [(Str.ofString "self", .ref t.ts), (Str.ofString "n2i", .undef), (Str.ofString "stack", .undef), (Str.ofString "itstack", .undef), (Str.ofString "seen", .undef), (Str.ofString "node2stacki", .undef), (Str.ofString "node", .undef)] _
  generalize hBs : (L₀, MO.slots oL) :: (S ++ Z) = Bs at hFr ⊢
  have hmS : ∀ q ∈ S, q ∈ Bs := fun q hq => by rw [← hBs]; exact .tail _ (List.mem_append_left _ hq)
  refine s_assign ?_; refine e_attr ?_; refine e_name (by walk_at "mem") ?_
  refine a_attr (hmS _ hS.o) (hmS _ hS.at_) (v := .ref t.n) rfl ?_
  refine stp (by walk_at "pt") ?_; refine s_assign ?_; refine e_list ?_; refine a_nil ?_
  refine ⟨by decide, fun st => ?_⟩
  refine stp (by walk_at "pt") ?_; refine s_assign ?_; refine e_list ?_; refine a_nil ?_
  refine ⟨by decide, fun it => ?_⟩
  refine stp (by walk_at "pt") ?_; refine s_assign ?_; refine e_callt rfl rfl (by decide) ?_; refine a_nil ?_
  refine c_set0 fun se => ?_
  refine stp (by walk_at "pt") ?_; refine s_assign ?_
  refine e_dict0 fun nd => ?_
  refine stp (by walk_at "pt") ?_
  have hdi := hmS _ hS.di
  refine s_for ?_
  refine e_name (by walk_at "mem") ?_
  refine ⟨_, _, _, FcI t nd se it st Bs,
    itOf_dict (by exact hh) (.tail _ (.tail _ (.tail _ (.tail _ hdi)))), ?_, ?_, ?_, ?_⟩
  · rintro i _ _ ⟨fin, ep, sF, n, v, rfl, rfl, _⟩
    exact .tail _ (.tail _ (.tail _ (.tail _ hdi)))
  · exact ⟨[], 0, fun _ => false, 0, .undef, rfl, rfl, ⟨List.nodup_nil, nofun, trivial, nofun⟩, by simp, Nat.le_refl _, by simp⟩
  · rintro i _ _ hi ⟨fin, ep, sF, n, v, rfl, rfl, hD, hsF, hn, hprev⟩
    rw [List.length_map] at hi
    have hkey : keyV (t.ks.map fun k => (k, MV.ref (t.ni k))) i = .int (t.ks[i]) := by simp [keyV, hi]
    rw [hkey]
    generalize hx0 : t.ks[i] = x₀
    have hx0k : x₀ ∈ t.ks := by rw [← hx0]; exact List.getElem_mem _
    have htk : ∀ k ∈ t.ks.take (i + 1), k ∈ t.ks.take i ∨ k = x₀ := fun k hk => by
      rw [List.take_succ_eq_append_getElem hi, hx0] at hk
      rcases List.mem_append.mp hk with hk | hk
      · exact .inl hk
      · exact .inr (List.mem_singleton.mp hk)
    refine ⟨fcR t.ts t.n st it se nd (.int x₀), (PutAt.tail (PutAt.tail (PutAt.tail (PutAt.tail (PutAt.tail (PutAt.tail PutAt.head)))))), ?_⟩
    refine s_if ?_
    refine b_cmp ?_; refine e_name (by walk_at "mem") ?_; refine e_name (by walk_at "mem") ?_
    refine o_in_set (.tail _ (.head _)) (asb ?_)
    by_cases hseen : sF x₀ = true
    · rw [if_pos hseen]
      refine s_continue (seq_cont (turn_cont ⟨_, List.Sublist.refl _, fin, ep, sF, n, .int x₀, rfl, rfl, hD, hsF, hn, fun k hk => ?_⟩))
      rcases htk k hk with hk | rfl
      · exact hprev k hk
      · exact (hsF _).mp hseen
    rw [if_neg hseen]
    refine s_nil (seq_next ?_)
    have hx0f : x₀ ∉ fin := fun h => hseen ((hsF x₀).mpr h)
    refine s_while (FcJ t nd se it st Bs x₀ i) _
      ⟨x₀, fin, [], ep, sF, n, rfl, rfl, hD, by simpa [nodes] using hsF, by simpa using hn, trivial, hx0k, fun _ => ⟨hx0f, rfl⟩, fun h => absurd rfl h, hprev, rfl⟩ ?_
    clear hD hsF hn hprev hseen hx0f
    rintro nn _ _ ⟨x, fin, es, ep, sF, m, rfl, rfl, hD, hsF, hm, hstk, hxk, he0, he1, hprev, hnn⟩
    refine e_true ?_ rfl
    rw [if_pos rfl]
    have hlen := hD.len
    refine s_ifk (FcK t nd se it st Bs x₀ i nn fun _ => True) ?_ ?_
    · clear hD hsF hm hstk hxk he0 he1 hprev hnn hlen
      rintro _ _ ⟨x, fin, es, ep, sF, m, rfl, rfl, hD, hsF, hm, htop, hx0, hprev, hnn, _⟩
      refine s_while (fun n2 => FcK t nd se it st Bs x₀ i nn fun l => n2 = l) _ ⟨x, fin, es, ep, sF, m, rfl, rfl, hD, hsF, hm, htop, hx0, hprev, hnn, rfl⟩ ?_
      clear hD hsF hm htop hx0 hprev hnn
      rintro n2 _ _ ⟨x, fin, es, ep, sF, m, rfl, rfl, hD, hsF, hm, htop, hx0, hprev, hnn, hn2⟩
      have hlen := hD.len
      refine b_name ?_; refine e_name (by walk_at "mem") ?_
      refine t_list (.tail _ (.tail _ (.tail _ (.head _)))) (by simp [mints, nodes]; show _ ≤ 1000000; omega) ?_
      cases es with
      | nil =>
        rw [if_neg (by simp [mints, nodes])]
        refine s_break (seq_brk (turn_brk ?_))
        refine s_nil (turn_next ⟨_, List.Sublist.refl _, fin, ep, sF, m, .int x, rfl, rfl, hD, by simpa [nodes] using hsF, by simpa using hm, fun k hk => ?_⟩)
        rcases htk k hk with hk | rfl
        · exact hprev k hk
        · rcases hx0 with h | h
          · cases h
          · exact h
      | cons e r =>
        rw [if_pos (by simp [mints, nodes])]
        have hek : e.k ∈ t.ks := hD.sub _ (by simp [nodes])
        have hndn : e.k ∉ nodes r := fun hm => (List.nodup_cons.mp (show (e.k :: (nodes r ++ fin)).Nodup from hD.nd)).1 (List.mem_append_left _ hm)
        refine Tg.perm ([(e.it, .raw (itO (t.sc e.k) e.c)), (e.mw, .raw (mwObj e.it))] ++ ([(nd, .idict ep (posD (e :: r))), (se, .iset sF m), (it, .list (refs ((e :: r).map (·.mw)).reverse)), (st, .list (mints (nodes (e :: r)).reverse))] ++ (entL t.sc r ++ Bs)))
          (by rw [Led, entL_cons]; exact List.perm_append_comm_assoc _ _ _) ?_
        refine s_trynext (by exact hh) ?_
        refine e_sub ?_; refine e_name (by walk_at "mem") ?_; refine e_unop ?_; refine e_int ?_; refine o_neg ?_
        refine g_last (.tail _ (.tail _ (.tail _ (.tail _ (.head _))))) seqRefs_last ?_
        refine ⟨e.mw, e.it, t.sc e.k, e.c, mints (t.su e.k), _, outer, rfl, rfl, .head _, .tail _ (.tail _ (.tail _ (.tail _ (.tail _ (List.mem_append_right (entL t.sc r) (hmS _ (hS.nd e.k hek).2.2)))))), hFr.re (fun a o h => .tail _ (.tail _ (.tail _ (.tail _ (.tail _ (List.mem_append_right (entL t.sc r) h)))))), ?_, ?_⟩
        · intro v hv
          simp only [mints, List.getElem?_map, Option.map_eq_some_iff] at hv
          obtain ⟨y, hy, rfl⟩ := hv
          have hD' := hD.next hy
          have hcl := cnt_le hD'
          have hcc : cnt t.su (⟨e.k, e.it, e.mw, e.c + 1⟩ :: r) fin = cnt t.su (e :: r) fin + 1 := by simp [cnt]; omega
          refine ⟨fcR t.ts t.n st it se nd (.int y), (PutAt.tail (PutAt.tail (PutAt.tail (PutAt.tail (PutAt.tail (PutAt.tail PutAt.head)))))), turn_brk ?_⟩
          refine Tg.perm (Led t.sc nd se it st ep sF m (⟨e.k, e.it, e.mw, e.c + 1⟩ :: r) Bs) (by
            rw [Led, entL_cons]
            exact (List.perm_append_comm_assoc [(nd, MO.idict ep (posD (e :: r))), (se, .iset sF m), (it, .list (refs ((e :: r).map (·.mw)).reverse)), (st, .list (mints (nodes (e :: r)).reverse))] [(e.it, .raw (itO (t.sc e.k) (e.c + 1))), (e.mw, .raw (mwObj e.it))] (entL t.sc r ++ Bs))) ?_
          refine s_nil (turn_next ⟨_, List.Sublist.refl _, _, ?_, y, fin, ⟨e.k, e.it, e.mw, e.c + 1⟩ :: r, ep, sF, m, rfl, rfl, hD', hsF, hm, top_next htop hy, hsub e.k hek y (List.mem_of_getElem? hy), nofun, fun _ => hx0, hprev, rfl⟩)
          omega
        · intro hq A' ha1 ha2
          have hq2 : (t.su e.k)[e.c]? = none := by
            simp only [mints, List.getElem?_map, Option.map_eq_none_iff] at hq; exact hq
          obtain ⟨hall, htop'⟩ := top_pop htop hq2
          have hD' := hD.pop hall
          have hle := hD.le e (.head _)
          have hge := List.getElem?_eq_none_iff.mp hq2
          refine s_delitem ?_
          refine e_name (by walk_at "mem") ?_; refine e_meth F.plainAttrs_list F.slot_list_pop F.type_list_pop ?_; refine e_name (by walk_at "mem") ?_
          refine ⟨isT_list (.tail _ (.tail _ (.tail _ (.tail _ (.head _))))), ?_⟩
          refine a_nil ?_
          refine c_pop (.tail _ (.tail _ (.tail _ (.tail _ (.head _))))) (by simp [mints, nodes]; simp at hlen; show _ ≤ 1000000; omega) seqInts_last (.tail (.tail (.tail (.tail .head)))) ?_
          rw [seqInts_drop]
          refine ⟨nd, ep, posD (e :: r), e.k, rfl, rfl, .tail _ (.head _), by rw [posD_look]; simp [nodes], by rw [posD_len]; simp at hlen; show _ ≤ 1000000; simp; omega, fun ep' => ⟨_, .tail .head, ?_⟩⟩
          rw [posD_pop hndn]
          refine s_expr ?_; refine e_meth F.plainAttrs_list F.slot_list_pop F.type_list_pop ?_; refine e_name (by walk_at "mem") ?_
          refine ⟨isT_list (.tail _ (.tail _ (.tail _ (.head _)))), ?_⟩
          refine a_nil ?_
          refine c_pop (.tail _ (.tail _ (.tail _ (.head _)))) (by simp [refs]; simp at hlen; show _ ≤ 1000000; omega) seqRefs_last (.tail (.tail (.tail .head))) ?_
          rw [seqRefs_drop]
          refine s_nil (seq_next (s_nil (turn_next ⟨_, List.sublist_cons_self _ _, r.length, by rw [hn2]; simp, x, e.k :: fin, r, ep', sF, m, rfl, rfl, hD', fun k => ?_, by simp at hm ⊢; omega, htop', ?_, fun k hk => .tail _ (hprev k hk), ?_, rfl⟩)))
          · rw [hsF]
            show k ∈ e.k :: nodes r ∨ k ∈ fin ↔ k ∈ nodes r ∨ k ∈ e.k :: fin
            simp only [List.mem_cons]; grind
          · rcases hx0 with h | h
            · rcases List.mem_cons.mp (show x₀ ∈ e.k :: nodes r from h) with rfl | h
              · exact .inr (.head _)
              · exact .inl h
            · exact .inr (.tail _ h)
          · have : e.c = (t.su e.k).length := by omega
            have hcc : cnt t.su r (e.k :: fin) = cnt t.su (e :: r) fin := by simp [cnt]; omega
            rw [hcc]; exact hnn
    · refine b_cmp ?_; refine e_name (by walk_at "mem") ?_; refine e_name (by walk_at "mem") ?_
      refine o_in_set (.tail _ (.head _)) (asb ?_)
      have hxn : es = [] → sF x = false := fun h => by
        cases q : sF x with
        | false => rfl
        | true =>
          rcases (hsF x).mp q with h2 | h2
          · rw [h] at h2; cases h2
          · exact absurd h2 (he0 h).1
      by_cases hseen : sF x = true
      · rw [if_pos hseen]
        have hes : es ≠ [] := fun h => by rw [hxn h] at hseen; cases hseen
        refine s_if ?_
        refine b_cmp ?_; refine e_name (by walk_at "mem") ?_; refine e_name (by walk_at "mem") ?_
        refine o_in_dict (.head _) (asb ?_)
        by_cases hin : x ∈ nodes es
        · rw [if_pos (by rw [posD_look]; simpa using hin)]
          have hlk := posD_look (x := x) (es := es)
          simp only [hin, decide_true] at hlk
          obtain ⟨v, hv⟩ := Option.isSome_iff_exists.mp hlk
          obtain ⟨j, rfl⟩ := posD_int hv
          refine s_ret (e_binop (e_slice ?_))
          refine e_name (by walk_at "mem") ?_; refine e_sub ?_; refine e_name (by walk_at "mem") ?_; refine e_name (by walk_at "mem") ?_
          refine g_dict (.head _) hv ?_
          refine ⟨st, _, j, rfl, rfl, .tail _ (.tail _ (.tail _ (.head _))), by simp [mints, nodes]; show _ ≤ 1000000; omega, fun a ys hys => ?_⟩
          have hyl : ys.length ≤ 500 := by simp [mints, nodes] at hys; omega
          refine e_list ?_; refine a_cons ?_; refine e_name (by walk_at "mem") ?_; refine a_nil ?_
          refine ⟨by show 1 ≤ 1000000; decide, fun b => ?_⟩
          refine o_addlist (.tail _ (.head _)) (.head _) (by show _ ≤ 1000000; omega) (by show 1 ≤ 1000000; decide) fun c => ?_
          refine seq_ret (or_ret (turn_ret (turn_ret ?_)))
          refine LeftP.sel (μ'' := (c, .list (ys ++ [.int x])) :: (S ++ Z)) ?_ (hC fin x es hin hstk hxk c _ (by simp) (by simp; omega))
          rw [← hBs, Led]
          walk_at "sel"
        · rw [if_neg (by rw [posD_look]; simpa using hin)]
          have hxf : x ∈ fin := ((hsF x).mp hseen).elim (fun h => absurd h hin) id
          refine s_nil (seq_next (s_nil (or_next ⟨x, fin, es, ep, sF, m, rfl, rfl, hD, hsF, hm, top_seen hxf hstk, he1 hes, hprev, hnn, trivial⟩)))
      · rw [if_neg hseen]
        have hxs : ¬ (x ∈ nodes es ∨ x ∈ fin) := fun h => hseen ((hsF x).mpr h)
        have hxne : x ∉ nodes es := fun h => hxs (.inl h)
        have hxnf : x ∉ fin := fun h => hxs (.inr h)
        have hseen' : sF x = false := by cases q : sF x with | false => rfl | true => exact absurd q hseen
        refine s_expr (e_meth F.plainAttrs_set F.slot_set_add F.type_set_add ?_)
        refine e_name (by walk_at "mem") ?_
        refine ⟨isT_set (.tail _ (.head _)), ?_⟩
        refine a_cons ?_; refine e_name (by walk_at "mem") ?_; refine a_nil ?_
        refine c_setadd (.tail _ (.head _)) (by omega) (.tail .head) ?_
        rw [hseen']
        rw [if_neg (show ¬ (false = true) by decide)]
        refine s_expr ?_; refine e_meth F.plainAttrs_list F.slot_list_append F.type_list_append ?_; refine e_name (by walk_at "mem") ?_
        refine ⟨isT_list (.tail _ (.tail _ (.head _))), ?_⟩
        refine a_cons ?_; refine e_attr ?_; refine e_callb rfl rfl (by decide) ?_; refine a_cons ?_; refine e_attr ?_; refine e_sub ?_; refine e_name (by walk_at "mem") ?_; refine e_name (by walk_at "mem") ?_
        refine g_dict (.tail _ (.tail _ (.tail _ (.tail _ (List.mem_append_right _ hdi))))) (by rw [lookD_map, if_pos hxk]) ?_
        refine a_slot (p := 92) (i := 2) (.tail _ (.tail _ (.tail _ (.tail _ (List.mem_append_right _ (hmS _ (hS.nd x hxk).1)))))) (.tail _ (.tail _ (.tail _ (.tail _ (List.mem_append_right _ (hmS _ (hS.nd x hxk).2.1)))))) rfl rfl (v := .ref (t.sc x)) rfl ?_
        refine a_nil ?_
        refine c_iter (.tail _ (.tail _ (.tail _ (.tail _ (List.mem_append_right _ (hmS _ (hS.nd x hxk).2.2)))))) fun it' => ?_
        refine a_next (.head _) fun mw' => ?_
        refine a_nil ?_
        refine c_append (.tail _ (.tail _ (.tail _ (.tail _ (.head _))))) (by simp [refs]; show _ ≤ 1000000; omega) (.tail (.tail (.tail (.tail .head)))) ?_
        refine s_setitem ?_; refine e_callb rfl rfl (by decide) ?_; refine a_cons ?_; refine e_name (by walk_at "mem") ?_; refine a_nil ?_
        refine c_len (.tail _ (.tail _ (.tail _ (.tail _ (.tail _ (.head _)))))) (by simp [mints, nodes]; show _ ≤ 1000000; omega) ?_
        refine e_name (by walk_at "mem") ?_; refine e_name (by walk_at "mem") ?_
        refine sj_dict (.tail _ (.tail _ (.head _))) (by rw [posD_len]; show _ ≤ 1000000; omega) fun ep' => ⟨_, .tail (.tail .head), ?_⟩
        rw [show ((mints (nodes es).reverse).length : Int) = (es.length : Int) by simp [mints, nodes], posD_push (i := it') (m := mw') hxne]
        refine s_expr ?_; refine e_meth F.plainAttrs_list F.slot_list_append F.type_list_append ?_; refine e_name (by walk_at "mem") ?_
        refine ⟨isT_list (.tail _ (.tail _ (.tail _ (.tail _ (.tail _ (.head _)))))), ?_⟩
        refine a_cons ?_; refine e_name (by walk_at "mem") ?_; refine a_nil ?_
        refine c_append (.tail _ (.tail _ (.tail _ (.tail _ (.tail _ (.head _)))))) (by simp [mints, nodes]; show _ ≤ 1000000; omega) (.tail (.tail (.tail (.tail (.tail .head))))) ?_
        refine Tg.sel (Led t.sc nd se it st ep' (fun k' => sF k' || decide (k' = x)) (m + 1) (⟨x, it', mw', 0⟩ :: es) Bs) ?_ ?_
        · rw [Led, entL_cons]
          have e1 : refs ((⟨x, it', mw', 0⟩ :: es : List Ent).map (·.mw)).reverse = refs (es.map (·.mw)).reverse ++ [MV.ref mw'] := by simp [refs]
          have e2 : mints (nodes (⟨x, it', mw', 0⟩ :: es)).reverse = mints (nodes es).reverse ++ [MV.int x] := by simp [mints, nodes]
          rw [e1, e2]
          simp only [List.cons_append, List.nil_append]
          walk_at "sel"
        refine s_nil (or_next ⟨x, fin, ⟨x, it', mw', 0⟩ :: es, ep', _, m + 1, rfl, rfl, hD.push hxk hxne hxnf, fun k => ?_, by simp; omega, top_push hstk, ?_, hprev, ?_, trivial⟩)
        · show (sF k || decide (k = x)) = true ↔ k ∈ x :: nodes es ∨ k ∈ fin
          rw [Bool.or_eq_true, hsF, decide_eq_true_eq, List.mem_cons]; grind
        · by_cases he : es = []
          · exact .inl (by rw [(he0 he).2]; exact .head _)
          · rcases he1 he with h | h
            · exact .inl (.tail _ h)
            · exact .inr h
        · have hcc : cnt t.su (⟨x, it', mw', 0⟩ :: es) fin = cnt t.su es fin := by simp [cnt]
          rw [hcc]; exact hnn
  · rintro _ _ ⟨fin, ep, sF, n, v, rfl, rfl, hD, hsF, hn, hprev⟩
    rw [List.length_map, List.take_length] at hprev
    refine s_ret ?_; refine e_none ?_
    have hnd2 := hD.nd
    refine ⟨S ++ Z, ?_, ?_, hN fin (by simpa [nodes] using hnd2) hprev (fun k hk => hD.sub k (List.mem_append_right _ hk)) hD.fok⟩
    · intro p hp
      rw [hBs] at hp
      exact .tail _ (.tail _ (.tail _ (.tail _ hp)))
    · rw [hBs]
      intro hn
      exact ((List.nodup_cons.mp (List.nodup_cons.mp (List.nodup_cons.mp (List.nodup_cons.mp hn).2).2).2).2)
end

theorem Sorter.setRd {t : TSt} {S : Mu} {r : MV} (h : Sorter t S) (hn : (S.map (·.1)).Nodup) : Sorter { t with rd := r } (setL S t.d (.attrs (tsA t.n r t.a t.b))) := by
  have kn : ∀ {c : Addr} {o : MO}, (c, o) ∈ S → c ≠ t.d → (c, o) ∈ setL S t.d (.attrs (tsA t.n r t.a t.b)) := fun hm hne => mem_setL hm hne
  refine ⟨kn h.o (ne_of_obj hn h.o h.at_ (by exact nofun)), mem_setL_self h.at_, kn h.di (ne_of_obj hn h.di h.at_ (by exact nofun)), fun j hj => ?_, h.inj, h.nodup⟩
  obtain ⟨n1, n2, n3⟩ := h.nd j hj
  exact ⟨kn n1 (ne_of_obj hn n1 h.at_ (by exact nofun)), kn n2 (h.dne hn j hj), kn n3 (ne_of_obj hn n3 h.at_ (by exact nofun))⟩
theorem Sorter.more {t : TSt} {S S' : Mu} (h : Sorter t S) (hs : ∀ q ∈ S, q ∈ S') : Sorter t S' :=
  ⟨hs _ h.o, hs _ h.at_, hs _ h.di, fun k hk => ⟨hs _ (h.nd k hk).1, hs _ (h.nd k hk).2.1, hs _ (h.nd k hk).2.2⟩, h.inj, h.nodup⟩
section
variable {w : World} {G : Gl w} {A : Around} {L : Addr} {env : Env} {ρ ρ' : Rho} {μ μ' : Mu} {C : Addr}
theorem e_fstr1 {x : Str} {k : Nat} {p1 pos : Pos} {P : MV → Rho → Mu → Prop} (hx : x.length ≤ 1000) (h : P (.str x) ρ μ) : T G A L (eval (.JoinedStr [.Constant (.str x) k p1] pos) env) P ρ μ := by
  intro s₀ B s hs
  exact wpAny_JoinedStr_one (wpAny_Constant_str ⟨_, _, _, vs, hs.toks _, h⟩)
theorem xe_if {test : Expr} {body orelse : List Stmt} {pos : Pos} {P : MF → Rho → Mu → Prop} {PE : Mu → Prop}
    (h : Tb G A L (isTrue test env (eval test env)) (fun b ρ μ => if b = true then XE G A L (execs body env) C P PE ρ μ else XE G A L (execs orelse env) C P PE ρ μ) ρ μ) :
    XE G A L (execs [.If test body orelse pos] env) C P PE ρ μ := fun s₀ B s hs => by
  refine wpAny_execs_cons (wpAny_If (h.use hs fun b c ρ₁ μ₁ s₁ hb hs₁ hp => ?_))
  have conv : ∀ (f : Flow) s', Post G s₀ B L FR P f s' → (match f with
      | .next => wpAny (model PR w) A (execs [] env) (Post G s₀ B L FR P) (PostX G s₀ B L C PE) s'
      | f => Post G s₀ B L FR P f s') := fun f s' q => by
    cases f with
    | next => exact wpAny_execs_nil q
    | _ => exact q
  cases hb
  cases b with
  | true => exact wpAny_mono (hp s₀ B s₁ hs₁) conv fun _ _ e => e
  | false => exact wpAny_mono (hp s₀ B s₁ hs₁) conv fun _ _ e => e
set_option maxHeartbeats 8000000 in
set_option maxRecDepth 100000 in
theorem c_prepare {P : MV → Mu → Prop} {PE : Mu → Prop} {S Z : Mu} {t : TSt} {newId initId : String} (hroom : A.depth + 1 < recursionLimit) (hh : A.handled = none) (hS : Sorter t S) (hr : t.rd = .none) (hl : t.ks.length ≤ 500) (hsub : ∀ k ∈ t.ks, ∀ j ∈ t.su k, j ∈ t.ks)
    (FB : ExcBaseFacts "ValueError" newId initId valErr) (ex : nsIn (KK w.params) mainGlobals (Str.ofString "CycleError") = some (some (.ref C))) (q : excIn (KK w.params) C valErr newId = true)
    (hN : ∀ fin, fin.Nodup → (∀ k ∈ t.ks, k ∈ fin) → (∀ k ∈ fin, k ∈ t.ks) → FinOK t.su fin → ∀ rl S', SortR { t with rd := .ref rl } rl (t.ks.filter fun k => t.np k == 0) S' → P .none (S' ++ Z))
    (hC : ∀ fin x es, x ∈ nodes es → Stk t.su fin x es → x ∈ t.ks → ∀ rl S', SortR { t with rd := .ref rl } rl (t.ks.filter fun k => t.np k == 0) S' → PE (S' ++ Z)) : CFE G A (.ref 141) [.ref t.ts] C P PE (S ++ Z) := by
  refine c_fnF [Str.ofString "self"] [(Str.ofString "cycle", .undef)] rfl (by omega) rfl rfl rfl rfl rfl rfl rfl rfl rfl rfl (by decide) rfl rfl rfl (fun vs hv => va1 hv fun _ _ => rfl) ?_
  intro outer L₀ oL L' qn cd hnd hFr
  show XE G _ _ (execs _ _) _ _ _ [(Str.ofString "self", .ref t.ts), (Str.ofString "cycle", .undef)] _
  refine xe_app (as := [_, _, _]) (bs := [_]) ?_
  have ho : ∀ q ∈ S, q ∈ (L₀, MO.slots oL) :: (S ++ Z) := fun q hq => .tail _ (List.mem_append_left _ hq)
  refine s_if ?_
  refine b_cmp ?_; refine e_attr ?_; refine e_name (by walk_at "mem") ?_
  refine a_attr (ho _ hS.o) (ho _ hS.at_) (v := .none) (by rw [hr]; rfl) ?_
  refine e_none ?_
  refine o_isnot_none (x := .none) (asb ?_)
  rw [if_neg (show ¬ (false = true) by decide)]
  refine s_nil (seq_next ?_)
  refine s_setattr ?_
  refine e_comp rfl rfl rfl rfl rfl ?_
  refine e_meth F.plainAttrs_dict F.slot_dict_values F.type_dict_values ?_
  refine e_attr ?_; refine e_name (by walk_at "mem") ?_
  refine a_attr (ho _ hS.o) (ho _ hS.at_) (v := .ref t.n) rfl ?_
  refine ⟨isT_dict (ho _ hS.di), ?_⟩
  refine a_nil ?_
  refine c_values (ho _ hS.di) fun vv => ?_
  refine ⟨_, _, _, fun j acc μ₁ => acc = mints ((t.ks.take j).filter fun k => t.np k == 0) ∧ μ₁ = (vv, .raw (valsObj t.n)) :: (L₀, .slots oL) :: (S ++ Z), itOf_values (by exact hh) (.tail _ (ho _ hS.di)) (.head _), by rw [List.length_map]; show _ ≤ 1000000; omega, ⟨rfl, rfl⟩, ?_, ?_, ?_⟩
  · rintro j acc _ ⟨rfl, rfl⟩; exact .tail _ (ho _ hS.di)
  · rintro C2 j acc _ hj ⟨rfl, rfl⟩
    rw [List.length_map] at hj
    have hval : valV (t.ks.map fun k => (k, MV.ref (t.ni k))) j = .ref (t.ni (t.ks[j])) := by simp [valV, hj]
    rw [hval]
    have htk : t.ks.take (j + 1) = t.ks.take j ++ [t.ks[j]] := List.take_succ_eq_append_getElem hj
    have hkk : t.ks[j] ∈ t.ks := List.getElem_mem _
    generalize t.ks[j] = k at *
    show Tb G _ C2 (isTrue _ _ _) _ [(Str.ofString "i", .ref (t.ni k))] _
    refine b_cmp ?_; refine e_attr ?_; refine e_nameL (by walk_at "mem") ?_
    refine a_slot (p := 91) (i := 1) (.tail _ (ho _ (hS.nd k hkk).1)) (.tail _ (ho _ (hS.nd k hkk).2.1)) rfl rfl (v := .int (t.np k)) rfl ?_
    refine e_int ?_
    refine o_eq (asb ?_)
    by_cases hz : (t.np k == 0) = true
    · rw [if_pos hz]
      refine e_attr ?_; refine e_nameL (by walk_at "mem") ?_
      refine a_slot (p := 90) (i := 0) (.tail _ (ho _ (hS.nd k hkk).1)) (.tail _ (ho _ (hS.nd k hkk).2.1)) rfl rfl (v := .int k) rfl ?_
      refine ⟨_, rfl, List.Sublist.refl _, ?_, rfl⟩
      rw [htk, filter_snoc_pos (f := fun k => t.np k == 0) hz]
      simp [mints]
    · rw [if_neg hz]
      refine ⟨_, rfl, List.Sublist.refl _, ?_, rfl⟩
      rw [htk, filter_snoc_neg (f := fun k => t.np k == 0) hz]
  rintro rl acc _ ⟨rfl, rfl⟩
  rw [List.length_map, List.take_length]
  generalize hrdy : t.ks.filter (fun k => t.np k == 0) = rdy at *
  refine Tg.nodup fun hn4 => ?_
  have hn0 : ((S ++ Z).map (·.1)).Nodup := (List.nodup_cons.mp (List.nodup_cons.mp (List.nodup_cons.mp hn4).2).2).2
  have hnS := nodup_left hn0
  refine e_name (by walk_at "mem") ?_
  refine u_attr (.tail _ (.tail _ (ho _ hS.o))) (.tail _ (.tail _ (ho _ hS.at_))) (fs' := tsA t.n (.ref rl) t.a t.b) (.tail (by decide) .head) (.tail (.tail (.tail (set_in hn0 hS.at_)))) (by simp [tsA]) ?_
  have hS1 := hS.setRd (r := .ref rl) hnS
  have hslots : ∀ a o, (a, MO.slots o) ∈ S → (a, MO.slots o) ∈ setL S t.d (.attrs (tsA t.n (.ref rl) t.a t.b)) := fun a o h => mem_setL h (ne_of_obj hnS h hS.at_ (by exact nofun))
  have hne : ∀ k ∈ t.ks, t.sc k ≠ rl := fun k hk e => (List.nodup_cons.mp hn4).1 (by
    have z : t.sc k ∈ (S ++ Z).map (·.1) := List.mem_map.mpr ⟨_, List.mem_append_left _ (hS.nd k hk).2.2, rfl⟩
    rw [e] at z
    exact .tail _ (.tail _ z))
  generalize setL S t.d (.attrs (tsA t.n (.ref rl) t.a t.b)) = S1 at *
  have hSR : SortR { t with rd := .ref rl } rl rdy ((rl, .list (mints rdy)) :: S1) := ⟨hS1.more fun q hq => .tail _ hq, rfl, .head _, hne⟩
  refine Tg.sel ((L₀, .slots oL) :: (((rl, .list (mints rdy)) :: S1) ++ Z)) (by show Sel ((L₀, .slots oL) :: (rl, .list (mints rdy)) :: (S1 ++ Z)) _; walk_at "sel") ?_
  have hslots2 : ∀ a o, (a, MO.slots o) ∈ (L₀, MO.slots oL) :: (S ++ Z) → (a, MO.slots o) ∈ (L₀, MO.slots oL) :: (((rl, .list (mints rdy)) :: S1) ++ Z) := fun a o h => by
    rcases List.mem_cons.mp h with h | h
    · rw [h]; exact .head _
    · rcases List.mem_append.mp h with h | h
      · exact .tail _ (List.mem_append_left _ (.tail _ (hslots a o h)))
      · exact .tail _ (List.mem_append_right _ h)
  generalize (rl, MO.list (mints rdy)) :: S1 = S2 at *
  refine s_assign (e_methiF ?_)
  refine e_name (by walk_at "mem") ?_
  refine ⟨t.ts, 186, t.d, [], _, 176, rfl, .tail _ (List.mem_append_left _ hSR.s.o), .tail _ (List.mem_append_left _ hSR.s.at_), rfl, rfl, rfl, rfl, rfl, a_nil ⟨outer, hFr.re hslots2, ?_⟩⟩
  show CFE G _ (.ref 176) [.ref t.ts] 0 _ _ (((L₀, MO.slots oL) :: S2) ++ Z)
  refine c_findcycle (t := { t with rd := .ref rl }) (by show A.depth + 1 < _; omega) (by exact hh) (hSR.s.more fun q hq => .tail _ hq) hl hsub ?_ ?_
  · intro fin h1 h2 h3 h4
    refine stp (by walk_at "pt") ?_
    refine s_nil ?_
    show XE G _ _ _ C _ _ _ _
    refine xe_if ?_
    refine b_name ?_; refine e_name (by walk_at "mem") ?_
    refine t_none ?_
    rw [if_neg (show ¬ (false = true) by decide)]
    refine XE.of (s_nil ⟨S2 ++ Z, fun p hp => hp, fun h => h, hN fin h1 h2 h3 h4 rl S2 hSR⟩)
  · intro fin x es h1 h2 h3 r ys hys hyl
    refine stp (by walk_at "pt") ?_
    refine s_nil ?_
    show XE G _ _ _ C _ _ _ _
    refine xe_if ?_
    refine b_name ?_; refine e_name (by walk_at "mem") ?_
    refine t_list (.head _) hyl ?_
    rw [if_pos (by cases ys with | nil => exact absurd rfl hys | cons _ _ => rfl)]
    refine xe_raise (by exact hh) FB ex q ?_
    refine a_cons (e_fstr1 (by decide) ?_)
    refine a_cons ?_; refine e_name (by walk_at "mem") ?_; refine a_nil ?_
    refine ⟨by show 2 ≤ 1000000; decide, S2 ++ Z, fun p hp => .tail _ hp, fun a o h => .tail _ (hslots2 a o h), fun h => (List.nodup_cons.mp h).2, hC fin x es h1 h2 h3 rl S2 hSR⟩
end

noncomputable def l5 : List Int := [4, 3, 2, 1, 0]
theorem mem_l5 {o : Int} : o ∈ l5 ↔ 0 ≤ o ∧ o < 5 := by
  constructor
  · intro h; simp [l5] at h; omega
  · intro h
    have : o = 0 ∨ o = 1 ∨ o = 2 ∨ o = 3 ∨ o = 4 := by omega
    rcases this with rfl | rfl | rfl | rfl | rfl <;> decide
theorem l5_nodup : l5.Nodup := by decide
section
variable (g : Int → List Int)
noncomputable def cntU (pr : List Int) (j : Int) : Nat := ((g j).filter fun q => !pr.contains q).length
noncomputable def suI (l : List Int) (k : Int) : List Int := l.filter fun j => (g j).contains k
noncomputable def npI (l : List Int) (j : Int) : Int := if j ∈ l then ((g j).length : Int) else 0
structure KInv (K pr rem rdy : List Int) (np : Int → Int) : Prop where
  hnp : ∀ j ∈ K, np j = if j ∈ pr then -2 else if j ∈ rem then -1 else (cntU g pr j : Int)
  hrdy : ∀ j, j ∈ rdy ↔ j ∈ K ∧ j ∉ pr ∧ j ∉ rem ∧ cntU g pr j = 0
  rnd : rdy.Nodup
  mnd : rem.Nodup
  hrem : ∀ j ∈ rem, j ∈ K ∧ j ∉ pr ∧ cntU g pr j = 0
  fok : FinOK g pr
  pnd : pr.Nodup
  pin : ∀ p ∈ pr, p ∈ K
variable {g}
theorem cntU_zero {pr : List Int} {j : Int} : cntU g pr j = 0 ↔ ∀ q ∈ g j, q ∈ pr := by
  unfold cntU
  rw [List.length_eq_zero_iff, List.filter_eq_nil_iff]
  simp
theorem cntU_nil {j : Int} : cntU g [] j = (g j).length := by simp [cntU]
theorem cntU_cons_not {pr : List Int} {j k : Int} (h : k ∉ g j) : cntU g (k :: pr) j = cntU g pr j := by
  unfold cntU
  congr 1
  refine List.filter_congr fun q hq => ?_
  have : q ≠ k := by rintro rfl; exact h hq
  simp [this]
theorem filter_one {l : List Int} {k : Int} {f : Int → Bool} (hn : l.Nodup) (hk : k ∈ l) (hf : f k = true) : (l.filter f).length = (l.filter fun q => f q && (q != k)).length + 1 := by
  induction l with
  | nil => cases hk
  | cons a r ih =>
    have hn' := List.nodup_cons.mp hn
    by_cases e : a = k
    · subst e
      have h1 : r.filter (fun q => f q && (q != a)) = r.filter f := List.filter_congr fun q hq => by
        have : q ≠ a := by rintro rfl; exact hn'.1 hq
        simp [this]
      simp [hf, h1]
    · have hk' : k ∈ r := by rcases List.mem_cons.mp hk with h | h; exact absurd h.symm e; exact h
      have := ih hn'.2 hk'
      by_cases hfa : f a = true
      · simp [hfa, e]; omega
      · simp [hfa]; omega
theorem cntU_cons {pr : List Int} {j k : Int} (hn : (g j).Nodup) (h : k ∈ g j) (hp : k ∉ pr) : cntU g pr j = cntU g (k :: pr) j + 1 := by
  unfold cntU
  rw [filter_one hn h (f := fun q => !pr.contains q) (by simpa using hp)]
  congr 2
  refine List.filter_congr fun q hq => ?_
  by_cases e : q = k <;> simp [e]
theorem decF_fold : ∀ {l : List Int} {np : Int → Int} {rdy : List Int}, l.Nodup → l.foldl decF (np, rdy) = (fun j => if j ∈ l then np j - 1 else np j, rdy ++ l.filter fun j => np j - 1 == 0)
  | [], np, rdy, _ => by simp
  | s :: r, np, rdy, hn => by
    have hn' := List.nodup_cons.mp hn
    rw [List.foldl_cons]
    show r.foldl decF (fun j => if j = s then np j - 1 else np j, if np s - 1 = 0 then rdy ++ [s] else rdy) = _
    rw [decF_fold hn'.2]
    refine Prod.ext ?_ ?_
    · funext j
      show (if j ∈ r then (if j = s then np j - 1 else np j) - 1 else if j = s then np j - 1 else np j) = if j ∈ s :: r then np j - 1 else np j
      by_cases e : j = s
      · subst e; simp [hn'.1]
      · by_cases hj : j ∈ r <;> simp [e, hj]
    · show (if np s - 1 = 0 then rdy ++ [s] else rdy) ++ r.filter (fun j => (if j = s then np j - 1 else np j) - 1 == 0) = rdy ++ (s :: r).filter fun j => np j - 1 == 0
      have e : r.filter (fun j => (if j = s then np j - 1 else np j) - 1 == 0) = r.filter fun j => np j - 1 == 0 := List.filter_congr fun j hj => by
        have : j ≠ s := by rintro rfl; exact hn'.1 hj
        simp [this]
      rw [e]
      by_cases h0 : np s - 1 = 0
      · simp [h0]
      · simp [h0]
theorem KInv.start {K : List Int} {np : Int → Int} (hK : K.Nodup) (h : ∀ j ∈ K, np j = ((g j).length : Int)) : KInv g K [] [] (K.filter fun k => np k == 0) np := by
  refine ⟨fun j hj => by rw [h j hj]; simp [cntU_nil], fun j => ?_, hK.sublist List.filter_sublist, List.nodup_nil, nofun, trivial, List.nodup_nil, nofun⟩
  rw [List.mem_filter, cntU_nil]
  constructor
  · rintro ⟨h1, h2⟩
    rw [h j h1] at h2
    refine ⟨h1, nofun, nofun, ?_⟩
    simpa using h2
  · rintro ⟨h1, _, _, h4⟩
    refine ⟨h1, ?_⟩
    rw [h j h1, h4]; rfl
theorem KInv.ready {K pr rdy : List Int} {np : Int → Int} (h : KInv g K pr [] rdy np) : KInv g K pr rdy [] (outNp np rdy) := by
  refine ⟨fun j hj => ?_, fun j => ?_, List.nodup_nil, h.rnd, fun j hj => ?_, h.fok, h.pnd, h.pin⟩
  · unfold outNp
    by_cases hr : j ∈ rdy
    · have := (h.hrdy j).mp hr
      simp [hr, this.2.1]
    · rw [if_neg hr, h.hnp j hj]
      simp [hr]
  · constructor
    · intro h; cases h
    · rintro ⟨h1, h2, h3, h4⟩
      exact absurd ((h.hrdy j).mpr ⟨h1, h2, nofun, h4⟩) h3
  · have := (h.hrdy j).mp hj
    exact ⟨this.1, this.2.1, this.2.2.2⟩
theorem fok_closed : ∀ {pr : List Int} {j : Int}, FinOK g pr → j ∈ pr → ∀ q ∈ g j, q ∈ pr
  | k :: r, j, ⟨h1, h2⟩, hj, q, hq => by
    rcases List.mem_cons.mp hj with rfl | hj
    · exact .tail _ (h1 q hq)
    · exact .tail _ (fok_closed h2 hj q hq)
theorem KInv.step {K pr rem rdy : List Int} {np : Int → Int} {k : Int} {np' : Int → Int} {rdy' : List Int} (hg : ∀ j, (g j).Nodup) (h : KInv g K pr (k :: rem) rdy np) (hK : ∀ j ∈ l5, j ∈ K) (hK' : ∀ j ∈ K, j ∈ l5)
    (e : (np', rdy') = (suI g l5 k).foldl decF (fun j => if j = k then -2 else np j, rdy)) : KInv g K (k :: pr) rem rdy' np' := by
  obtain ⟨hkK, hkp, hk0⟩ := h.hrem k (.head _)
  have hkall := cntU_zero.mp hk0
  have hmn := List.nodup_cons.mp h.mnd
  have hsn : (suI g l5 k).Nodup := l5_nodup.sublist List.filter_sublist
  have hsm : ∀ j, j ∈ suI g l5 k ↔ j ∈ l5 ∧ k ∈ g j := fun j => by unfold suI; rw [List.mem_filter]; simp
  have hks : k ∉ suI g l5 k := fun hm => hkp (hkall k ((hsm k).mp hm).2)
  have hw : ∀ j, j ∈ suI g l5 k → j ∈ K ∧ j ∉ pr ∧ j ∉ rem ∧ j ≠ k ∧ cntU g pr j = cntU g (k :: pr) j + 1 := fun j hj => by
    have hj' := (hsm j).mp hj
    refine ⟨hK j hj'.1, fun hp => hkp (fok_closed h.fok hp k hj'.2), fun hr => hkp (cntU_zero.mp (h.hrem j (.tail _ hr)).2.2 k hj'.2), fun e => hks (e ▸ hj), cntU_cons (hg j) hj'.2 hkp⟩
  have hnw : ∀ j, j ∈ K → j ∉ suI g l5 k → cntU g (k :: pr) j = cntU g pr j := fun j hj hns => cntU_cons_not fun hk => hns ((hsm j).mpr ⟨hK' j hj, hk⟩)
  rw [decF_fold hsn] at e
  have e1 : np' = fun j => if j ∈ suI g l5 k then (if j = k then -2 else np j) - 1 else if j = k then -2 else np j := congrArg Prod.fst e
  have e2 : rdy' = rdy ++ (suI g l5 k).filter fun j => (if j = k then -2 else np j) - 1 == 0 := congrArg Prod.snd e
  subst e1 e2
  refine ⟨fun j hj => ?_, fun j => ?_, ?_, hmn.2, fun j hj => ?_, ⟨hkall, h.fok⟩, List.nodup_cons.mpr ⟨hkp, h.pnd⟩, fun p hp => ?_⟩
  · by_cases hs : j ∈ suI g l5 k
    · obtain ⟨a1, a2, a3, a4, a5⟩ := hw j hs
      rw [if_pos hs, if_neg a4, h.hnp j hj]
      simp only [a2, a3, a4, List.mem_cons, if_false, false_or, or_self]
      rw [a5]; omega
    · rw [if_neg hs]
      by_cases ek : j = k
      · subst ek; simp
      · rw [if_neg ek, h.hnp j hj, hnw j hj hs]
        simp only [List.mem_cons, ek, false_or]
  · rw [List.mem_append, List.mem_filter]
    constructor
    · rintro (hr | ⟨hs, hz⟩)
      · obtain ⟨b1, b2, b3, b4⟩ := (h.hrdy j).mp hr
        have ek : j ≠ k := fun e => b3 (e ▸ .head _)
        have hns : j ∉ suI g l5 k := fun hs => by have := (hw j hs).2.2.2.2; omega
        exact ⟨b1, fun hm => (List.mem_cons.mp hm).elim ek b2, fun hm => b3 (.tail _ hm), by rw [hnw j b1 hns]; exact b4⟩
      · obtain ⟨a1, a2, a3, a4, a5⟩ := hw j hs
        rw [if_neg a4, h.hnp j a1] at hz
        simp only [a2, a3, a4, List.mem_cons, if_false, false_or, or_self] at hz
        refine ⟨a1, fun hm => (List.mem_cons.mp hm).elim a4 a2, a3, ?_⟩
        have : (cntU g pr j : Int) - 1 = 0 := by simpa using hz
        omega
    · rintro ⟨b1, b2, b3, b4⟩
      have ek : j ≠ k := fun e => b2 (e ▸ .head _)
      have bp : j ∉ pr := fun hm => b2 (.tail _ hm)
      by_cases hs : j ∈ suI g l5 k
      · obtain ⟨a1, a2, a3, a4, a5⟩ := hw j hs
        refine .inr ⟨hs, ?_⟩
        rw [if_neg a4, h.hnp j a1]
        simp only [a2, a3, a4, List.mem_cons, if_false, false_or, or_self]
        rw [a5, b4]; rfl
      · exact .inl ((h.hrdy j).mpr ⟨b1, bp, fun hm => (List.mem_cons.mp hm).elim ek b3, by rw [← hnw j b1 hs]; exact b4⟩)
  · rw [List.nodup_append]
    refine ⟨h.rnd, hsn.sublist List.filter_sublist, fun a ha b hb => ?_⟩
    rintro rfl
    have h1 := (h.hrdy a).mp ha
    have h2 := hw a (List.mem_filter.mp hb).1
    omega
  · obtain ⟨b1, b2, b3⟩ := h.hrem j (.tail _ hj)
    have ek : j ≠ k := fun e => hmn.1 (e ▸ hj)
    have hns : j ∉ suI g l5 k := fun hs => (hw j hs).2.2.1 hj
    exact ⟨b1, fun hm => (List.mem_cons.mp hm).elim ek b2, by rw [hnw j b1 hns]; exact b3⟩
  · rcases List.mem_cons.mp hp with rfl | hp
    · exact hkK
    · exact h.pin p hp
theorem fok_ends : ∀ {pr : List Int} {j : Int}, FinOK g pr → j ∈ pr → ends g pr.length j = true
  | k :: r, j, ⟨h1, h2⟩, hj => by
    rcases List.mem_cons.mp hj with rfl | hj
    · show (g j).all (ends g r.length) = true
      rw [List.all_eq_true]
      exact fun q hq => fok_ends h2 (h1 q hq)
    · exact ends_mono (fok_ends h2 hj)
theorem pr_len {pr : List Int} (hn : pr.Nodup) (hin : ∀ p ∈ pr, 0 ≤ p ∧ p < 5) : pr.length ≤ 5 := by
  have := nodup_sub_len (l := l5) hn fun p hp => mem_l5.mpr (hin p hp)
  exact this
theorem fok_ends5 {pr : List Int} {j : Int} (hf : FinOK g pr) (hn : pr.Nodup) (hin : ∀ p ∈ pr, 0 ≤ p ∧ p < 5) (hj : j ∈ pr) : ends g 5 j = true := ends_le (pr_len hn hin) (fok_ends hf hj)
theorem KInv.done {K pr : List Int} {np : Int → Int} (h : KInv g K pr [] [] np) (hg : ∀ j, ∀ q ∈ g j, q ∈ K) (hin : ∀ p ∈ K, 0 ≤ p ∧ p < 5) {j : Int} (hj : j ∈ K) : j ∈ pr ↔ ends g 5 j = true := by
  constructor
  · intro hp
    exact fok_ends5 h.fok h.pnd (fun p hp => hin p (h.pin p hp)) hp
  · intro he
    by_cases hp : j ∈ pr
    · exact hp
    · have := no_end (g := g) (S := fun x => x ∈ K ∧ x ∉ pr) (fun x ⟨hx1, hx2⟩ => by
        have h0 : cntU g pr x ≠ 0 := fun h0 => by have := (h.hrdy x).mpr ⟨hx1, hx2, nofun, h0⟩; cases this
        have : ¬ ∀ q ∈ g x, q ∈ pr := fun h1 => h0 (cntU_zero.mpr h1)
        have ⟨q, hq⟩ := Classical.not_forall.mp this
        have ⟨hq1, hq2⟩ := Classical.not_imp.mp hq
        exact ⟨q, hq1, hg x q hq1, hq2⟩) 5 j ⟨hj, hp⟩
      rw [he] at this; cases this
end

noncomputable def recM (c : Rec) (U R : List Str) (D : MV) : Mu := [(c.x, .obj 59 c.d []), (c.d, .attrs (entA c.u c.r D)), (c.u, .list (mstrs U)), (c.r, .list (mstrs R))]
noncomputable def recL (g : Int → List Int) (dl : Int → MV) (rs : List (Int × Rec)) : Mu := rs.flatMap fun q => recM q.2 (Uspec g q.1) (Rspec g (lnsOf g dl) q.1) (Dspec g dl q.1)
noncomputable def keysD (rs : List (Int × Rec)) : List (Int × MV) := rs.reverse.map fun q => (q.1, .ref q.2.x)
theorem npI_snoc {g : Int → List Int} {l : List Int} {k : Int} (hk : k ∉ l) : addNp (npI g l) k (g k).length = npI g (l ++ [k]) := by
  funext j
  unfold addNp npI
  by_cases e : j = k
  · subst e; simp [hk]
  · simp [e]
theorem suI_snoc {g : Int → List Int} {l : List Int} {k : Int} : addSu (suI g l) k (g k) = suI g (l ++ [k]) := by
  funext j
  unfold addSu suI
  by_cases e : j ∈ g k
  · simp [e, List.filter_append]
  · simp [e, List.filter_append]
theorem lookD_mem {k : Int} {v : MV} : ∀ {l : List (Int × MV)}, (l.map (·.1)).Nodup → (k, v) ∈ l → lookD k l = some v
  | [], _, h => by cases h
  | (m, u) :: r, hn, h => by
    rw [List.map_cons, List.nodup_cons] at hn
    rcases List.mem_cons.mp h with e | h
    · cases e; simp [lookD]
    · have : m ≠ k := by rintro rfl; exact hn.1 (List.mem_map.mpr ⟨_, h, rfl⟩)
      simp only [lookD, this, if_false]
      exact lookD_mem hn.2 h
theorem keysD_keys {rs : List (Int × Rec)} : (keysD rs).map (·.1) = (rs.map (·.1)).reverse := by simp [keysD, List.map_map, Function.comp_def]
theorem keysD_look {rs : List (Int × Rec)} {q : Int} {c : Rec} (hn : (rs.map (·.1)).Nodup) (h : (q, c) ∈ rs) : lookD q (keysD rs) = some (.ref c.x) :=
  lookD_mem (by rw [keysD_keys]; exact ((List.reverse_perm _).nodup_iff).mpr hn) (List.mem_map.mpr ⟨(q, c), List.mem_reverse.mpr h, rfl⟩)
theorem keysD_push {rs : List (Int × Rec)} {k : Int} {c : Rec} (h : k ∉ rs.map (·.1)) : storedD (keysD rs) k (.ref c.x) = keysD ((k, c) :: rs) := by
  unfold storedD
  rw [if_neg]
  · simp [keysD]
  · intro hany
    obtain ⟨p, hp, e⟩ := List.any_eq_true.mp hany
    have : p.1 ∈ (keysD rs).map (·.1) := List.mem_map.mpr ⟨p, hp, rfl⟩
    rw [keysD_keys, List.mem_reverse] at this
    rw [of_decide_eq_true e] at this
    exact h this
theorem keysD_len {rs : List (Int × Rec)} : (keysD rs).length = rs.length := by simp [keysD]
theorem setAt_right {a : Addr} {o : MO} {Z Z' : Mu} (h : SetAt a o Z Z') : ∀ S : Mu, SetAt a o (S ++ Z) (S ++ Z')
  | [] => h
  | _ :: S => .tail (setAt_right h S)
theorem Uspec_len {g : Int → List Int} {q : Int} : (Uspec g q).length ≤ 6 := by
  unfold Uspec Uset
  have := List.length_filter_le (fun o => o != q && cov g q o) five5
  simp only [List.length_append, List.length_map, List.length_cons, List.length_nil]
  have h5 : five5.length = 5 := rfl
  omega
theorem Dspec_delay {g : Int → List Int} {dl : Int → MV} (hdl : ∀ i, Delay (dl i)) (q : Int) : Delay (Dspec g dl q) := by
  unfold Dspec
  refine foldl_delay (fun x hx => ?_) _ (.inl rfl)
  obtain ⟨way, _, rfl⟩ := List.mem_map.mp hx
  exact hdl _
theorem foldD_delay {g : Int → List Int} {dl : Int → MV} (hdl : ∀ i, Delay (dl i)) : ∀ (l : List Int) (a : MV), Delay a → Delay (l.foldl (fun acc q => comb acc (Dspec g dl q)) a)
  | [], a, h => h
  | q :: r, a, h => foldD_delay hdl r _ (Delay.comb h (Dspec_delay hdl q))
section
variable {w : World} {G : Gl w} {A : Around} {L : Addr} {env : Env} {ρ ρ' : Rho} {μ μ' : Mu} {C : Addr}
theorem CC.args {f : Value} {args args' : List MV} {P : MV → Mu → Prop} (e : args = args') (h : CC G A f args' P μ) : CC G A f args P μ := by subst e; exact h
theorem s_trymethK {cx : Str} {newId : String} {o : Expr} {name : Str} {apos cpos epos np hp pos : Pos} {b₀ : Stmt} {suite rest : List Stmt} {P : MF → Rho → Mu → Prop} (K : Rho → Mu → Prop) (hK : ∀ ρ μ, K ρ μ → X G A env.locals (execs rest env) P ρ μ)
    (ex : nsIn (KK w.params) mainGlobals cx = some (some (.ref C))) (q : excIn (KK w.params) C valErr newId = true)
    (h : T G A env.locals (eval o env) (MethF G A env env.locals name (spliced (backTo cpos (starEach [] env))) C (fun _ ρ μ => K ρ μ)
      (TryE A env env.locals fun A' ρ μ => X G A' env.locals (execs (b₀ :: suite) env) (NextP K) ρ μ)) ρ μ)
    (hpl : (backTo cpos (starEach [] env)).any (·.1) = false := by k_dflt rfl)
    (hbase : attributeBase o name env (eval o env) = eval o env := by k_dflt rfl)
    (hform : methodCallForm (([] : List Expr).length + ([] : List Keyword).length) (backTo cpos (starEach [] env)) (backToKw cpos (keywordEach [] env)) = true := by k_dflt rfl)
    (hline : (apos.endLine == cpos.line) = true := by k_dflt rfl) (hi : interactive env = false := by k_dflt rfl) (hsw : swapsWith (.Call (.Attribute o name apos) [] [] cpos) none epos.line env = pure false := by k_dflt rfl)
    (hk : GlobOk env cx := by kernel_rfl) :
    X G A env.locals (execs (.Try [.Expr (.Call (.Attribute o name apos) [] [] cpos) epos] [.ExceptHandler (some (.Name cx np)) none (b₀ :: suite) hp] [] [] pos :: rest) env) P ρ μ := by
  refine s_trymeth ex q (h.mono ?_) hpl hbase hform hline hi hsw hk
  intro ov ρ₁ μ₁ q1
  cases q1 with | mk x D d sl fs f e1 h1 h2 h3 h4 h5 h6 h7 h8 =>
  refine ⟨x, D, d, sl, fs, f, e1, h1, h2, h3, h4, h5, h6, h7, h8.mono ?_⟩
  intro vs ρ₂ μ₂ q2
  cases q2 with | mk outer hfr hc =>
  refine ⟨outer, hfr, fun env' outer' s₀ B L ρ s us hF hs hv => codeAny_mono (hc env' outer' s₀ B L ρ s us hF hs hv) fun r s' qq => ?_⟩
  rcases r with e | (_ | _ | _ | v)
  · cases qq with | mk e μ' hv hs' hx qq =>
    cases qq with | mk outer3 hfr3 hp =>
    exact ⟨e, μ', hv, hs', hx, outer3, hfr3, fun A' a1 a2 => (hp A' a1 a2).mono fun fl ρ₃ μ₃ q => by
      cases q with | mk e hk => subst e; exact seq_next (hK _ _ hk)⟩
  · exact qq
  · exact qq
  · exact qq
  · exact PostC.use qq fun y μ' hy hs' hp => ⟨y, μ', hy, hs', hK _ _ hp⟩
abbrev mgR0 (aa da la x : Addr) (v : MV) : Rho := [(Str.ofString "aheads", .ref aa), (Str.ofString "delays", .ref da), (Str.ofString "lines", .ref la), (Str.ofString "sorter", .ref x), (Str.ofString "place", v), (Str.ofString "refused", .undef), (Str.ofString "merged", .undef), (Str.ofString "record", .undef), (Str.ofString "one", .undef)]
abbrev mgR2 (aa da la x md : Addr) (b : Bool) (v1 v2 v3 : MV) : Rho := [(Str.ofString "aheads", .ref aa), (Str.ofString "delays", .ref da), (Str.ofString "lines", .ref la), (Str.ofString "sorter", .ref x), (Str.ofString "place", v1), (Str.ofString "refused", .bool b), (Str.ofString "merged", .ref md), (Str.ofString "record", v2), (Str.ofString "one", v3)]
abbrev mgR1 (aa da la x : Addr) (b : Bool) (v : MV) : Rho := [(Str.ofString "aheads", .ref aa), (Str.ofString "delays", .ref da), (Str.ofString "lines", .ref la), (Str.ofString "sorter", .ref x), (Str.ofString "place", v), (Str.ofString "refused", .bool b), (Str.ofString "merged", .undef), (Str.ofString "record", .undef), (Str.ofString "one", .undef)]
inductive MergT (g : Int → List Int) (aa da la x : Addr) (v : MV) (Bs : Mu) (ρ₁ : Rho) (μ₁ : Mu) : Prop
  | mk (b : Bool) (t' : TSt) (rl : Addr) (rdy : List Int) (S' : Mu) (z1 : ρ₁ = mgR1 aa da la x b v) (z2 : μ₁ = S' ++ Bs) (z3 : SortR t' rl rdy S') (z4 : KInv g t'.ks [] [] rdy t'.np) (z5 : t'.su = suI g l5) (z6 : t'.ts = x) (z7 : t'.a = 0) (z8 : t'.b = 0) (z9 : ∀ j, j ∈ t'.ks ↔ 0 ≤ j ∧ j < 5) (z10 : b = !(five5.all (ends g 5)))
inductive MergI (g : Int → List Int) (ρ0 : MV → Rho) (x l4 L₀ : Addr) (oL : Obj) (μ : Mu) (i : Nat) (ρ₁ : Rho) (μ₁ : Mu) : Prop
  | mk (t : TSt) (S : Mu) (v : MV) (z1 : ρ₁ = ρ0 v) (z2 : μ₁ = (l4, .list (mints l5)) :: (S ++ ((L₀, .slots oL) :: μ))) (z3 : Sorter t S) (z4 : t.Blank) (z5 : t.np = npI g (l5.take i)) (z6 : t.su = suI g (l5.take i)) (z7 : t.ts = x) (z8 : t.rd = .none) (z9 : t.a = 0) (z10 : t.b = 0) (z11 : (∀ j ∈ t.ks, 0 ≤ j ∧ j < 5)) (z12 : (∀ j ∈ l5.take i, j ∈ t.ks)) (z13 : t.ks.length ≤ 6 * i)
inductive MergJ (g : Int → List Int) (dl : Int → MV) (ρ2 : MV → MV → MV → Rho) (x md rl : Addr) (Bs : Mu) (nn : Nat) (ρ₁ : Rho) (μ₁ : Mu) : Prop
  | mk (t : TSt) (rdy : List Int) (S : Mu) (ep : Nat) (rs : List (Int × Rec)) (v1 v2 v3 : MV) (z1 : ρ₁ = ρ2 v1 v2 v3) (z2 : μ₁ = S ++ ((md, .idict ep (keysD rs)) :: (recL g dl rs ++ Bs))) (z3 : SortR t rl rdy S) (z4 : KInv g t.ks (rs.map (·.1)) [] rdy t.np) (z5 : t.su = suI g l5) (z6 : t.ts = x) (z7 : t.a = t.b) (z8 : (∀ j, j ∈ t.ks ↔ 0 ≤ j ∧ j < 5)) (z9 : nn = 5 - rs.length)
inductive MergK (g : Int → List Int) (dl : Int → MV) (ρ2 : MV → MV → MV → Rho) (x md rl tp : Addr) (rdy : List Int) (rs : List (Int × Rec)) (Bs : Mu) (i : Nat) (ρ₁ : Rho) (μ₁ : Mu) : Prop
  | mk (t : TSt) (rd2 : List Int) (S : Mu) (ep : Nat) (rs2 : List (Int × Rec)) (v1 v2 v3 : MV) (z1 : ρ₁ = ρ2 v1 v2 v3) (z2 : μ₁ = S ++ ((tp, .tuple (mints rdy)) :: (md, .idict ep (keysD rs2)) :: (recL g dl rs2 ++ Bs))) (z3 : SortR t rl rd2 S) (z4 : KInv g t.ks (rs2.map (·.1)) (rdy.drop i) rd2 t.np) (z5 : t.su = suI g l5) (z6 : t.ts = x) (z7 : t.a = t.b + ((rdy.length - i : Nat) : Int)) (z8 : (∀ j, j ∈ t.ks ↔ 0 ≤ j ∧ j < 5)) (z9 : rs2.length = rs.length + i)
inductive MergC (g : Int → List Int) (dl : Int → MV) (ρ2 : MV → MV → MV → Rho) (U0 : List Str) (k : Int) (Y : Mu) (j : Nat) (ρ₁ : Rho) (μ₁ : Mu) : Prop
  | mk (c : Rec) (v3 : MV) (z1 : ρ₁ = ρ2 (.int k) (.ref c.x) v3) (z2 : μ₁ = recM c (U0.filter fun s => ((g k).take j).all fun q => (Uspec g q).contains s) (lnsOf g dl k ++ ((g k).take j).flatMap (Rspec g (lnsOf g dl))) (((g k).take j).foldl (fun acc q => comb acc (Dspec g dl q)) (dl k)) ++ Y)
set_option maxHeartbeats 16000000 in
set_option maxRecDepth 100000 in
theorem c_merged {P : MV → Mu → Prop} (hroom : A.depth + 6 < recursionLimit) (hu : A.units + 40 < cLine) (hh : A.handled = none) {g : Int → List Int} (hg : ∀ p, Ahead (g p)) {aa da la : Addr} {as ls : Int → Addr} {dl : Int → MV} (ha : AheadsAt g aa as μ) (hd : DelaysAt dl da μ) (hdl : ∀ i, Delay (dl i)) (hlns : LinesAt (lnsOf g dl) la ls μ)
    (h : ∀ tp md ep rs, (rs.map (·.1)).Nodup → (∀ p : Int, 0 ≤ p → p < 5 → (p ∈ rs.map (·.1) ↔ ends g 5 p = true)) → (∀ p ∈ rs.map (·.1), 0 ≤ p ∧ p < 5) → P (.ref tp) ((tp, .tuple [.ref md, .bool (!(five5.all (ends g 5)))]) :: (md, .idict ep (keysD rs)) :: (recL g dl rs ++ μ))) :
    CFE G A (.ref 263) [.ref aa, .ref da, .ref la] 0 P (fun _ => False) μ := by
  refine c_fnF [Str.ofString "aheads", Str.ofString "delays", Str.ofString "lines"] [(Str.ofString "sorter", .undef), (Str.ofString "place", .undef), (Str.ofString "refused", .undef), (Str.ofString "merged", .undef), (Str.ofString "record", .undef), (Str.ofString "one", .undef)] rfl (by omega) rfl rfl rfl rfl rfl rfl rfl rfl rfl rfl (by decide) rfl rfl rfl (fun vs hv => va3 hv fun _ _ _ _ _ _ => rfl) ?_
  intro outer L₀ oL L' qn cd hnd hFr
  refine XE.of ?_
  show X G _ _ (execs _ _) _ [(Str.ofString "aheads", .ref aa), (Str.ofString "delays", .ref da), (Str.ofString "lines", .ref la), (Str.ofString "sorter", .undef), (Str.ofString "place", .undef), (Str.ofString "refused", .undef), (Str.ofString "merged", .undef), (Str.ofString "record", .undef), (Str.ofString "one", .undef)] _
  refine s_assign ?_; refine e_callfn rfl rfl ?_; refine a_nil ?_
  refine c_ts (by show A.depth + 1 + 1 < _; omega) fun x d n => ?_
  refine stp (by walk_at "pt") ?_
  refine s_for ?_
  refine e_list ?_; refine a_cons ?_; refine e_int ?_; refine a_cons ?_; refine e_int ?_; refine a_cons ?_; refine e_int ?_; refine a_cons ?_; refine e_int ?_; refine a_cons ?_; refine e_int ?_; refine a_nil ?_
  refine ⟨by show 5 ≤ 1000000; decide, fun l4 => ?_⟩
  have hgn : ∀ j, (g j).Nodup := fun j => (hg j).1.imp fun h => Int.ne_of_lt h
  refine ⟨5, listV (mints l5), fun μ => (l4, MO.list (mints l5)) ∈ μ, MergI g (mgR0 aa da la x) x l4 L₀ oL μ, itOf_list (xs := mints l5) (by exact hh) (.head _), ?_, ?_, ?_, ?_⟩
  · rintro i _ _ ⟨t, S, v, rfl, rfl, _⟩
    exact .head _
  · refine ⟨⟨[], fun _ => 0, fun _ => 0, fun _ => 0, fun _ => 0, fun _ => [], x, d, n, 0, .none, 0, 0⟩, [(n, .idict 0 []), (x, .obj 186 d []), (d, .attrs (tsA n .none 0 0))], .undef, rfl, rfl, ⟨.tail _ (.head _), .tail _ (.tail _ (.head _)), .head _, nofun, nofun, List.nodup_nil⟩, fun _ _ => ⟨rfl, rfl⟩, ?_, ?_, rfl, rfl, rfl, rfl, nofun, nofun, Nat.le_refl _⟩
    · funext j; simp [npI]
    · funext j; simp [suI]
  · rintro i _ _ hi ⟨t, S, v, rfl, rfl, hS, hbl, hnp, hsu, hts, hrd, hta, htb, hks, hks2, hkl⟩
    have hv : listV (mints l5) i = .int (l5.getD i 0) := by
      exact five_nat hi rfl rfl rfl rfl rfl
    have htk : l5.take (i + 1) = l5.take i ++ [l5.getD i 0] := by
      exact five_nat hi rfl rfl rfl rfl rfl
    have hk5 : 0 ≤ l5.getD i 0 ∧ l5.getD i 0 < 5 := by
      exact five_nat hi (by decide) (by decide) (by decide) (by decide) (by decide)
    have hkn : l5.getD i 0 ∉ l5.take i := by
      exact five_nat hi (by decide) (by decide) (by decide) (by decide) (by decide)
    rw [hv]
    generalize l5.getD i 0 = k at *
    refine stp (by walk_at "pt") ?_
    refine s_expr (e_methstar ?_)
    refine e_name (by walk_at "mem") ?_
    rw [← hts]
    refine a_meth (.tail _ (List.mem_append_left _ hS.o)) (.tail _ (List.mem_append_left _ hS.at_)) rfl rfl fun q => ?_
    refine ⟨q, 136, t.ts, rfl, .head _, rfl, ?_⟩
    refine a_cons ?_; refine e_name (by walk_at "mem") ?_
    refine a_star ?_
    refine e_sub ?_; refine e_name (by walk_at "mem") ?_; refine e_name (by walk_at "mem") ?_
    refine g_list (.tail _ (.tail _ (List.mem_append_right _ (.tail _ ha.1)))) hk5.1 (five_get k hk5.1 hk5.2) ?_
    have hgl := (hg k).len
    refine ⟨as k, mints (g k), rfl, .tail _ (.tail _ (List.mem_append_right _ (.tail _ (ha.2 k hk5.1 hk5.2)))), by rw [mints_len]; show _ ≤ 1000000; omega, ?_⟩
    refine a_nil ⟨.head _, ?_⟩
    rw [List.append_nil]
    refine CC.sel (S ++ ((q, .raw (methodObj (.ref 136) (.ref t.ts))) :: ((l4, .list (mints l5)) :: (L₀, .slots oL) :: μ))) (by walk_at "sel") ?_
    refine c_add (by show A.depth + 1 + 3 < _; omega) (by exact hh) hS hbl hrd (by omega) (hgn k) hgl (fun j => by rw [hsu]; exact Nat.le_trans (List.length_filter_le _ _) (by rw [List.length_take]; show min i 5 ≤ 1000; omega)) ?_
    intro t' S' b1 b2 b3 b4 b5 b6 b7 b8 b9 b10
    refine Tg.sel ((l4, .list (mints l5)) :: (S' ++ ((L₀, .slots oL) :: μ))) (by walk_at "sel") ?_
    refine s_nil (turn_next ⟨_, List.Sublist.refl _, t', S', .int k, by rw [hts], rfl, b1, b2, ?_, ?_, b5, b6.trans hrd, b7.trans hta, b8.trans htb, ?_, ?_, by omega⟩)
    · rw [b3, hnp, htk, npI_snoc hkn]
    · rw [b4, hsu, htk, suI_snoc]
    · intro j hj
      rcases (b9 j).mp hj with hj | rfl | hj
      · exact hks j hj
      · exact hk5
      · exact (hg k).2 j hj
    · intro j hj
      rw [htk] at hj
      rcases List.mem_append.mp hj with hj | hj
      · exact (b9 j).mpr (.inl (hks2 j hj))
      · exact (b9 j).mpr (.inr (.inl (List.mem_singleton.mp hj)))
  rintro _ _ ⟨t, S, v, rfl, rfl, hS, hbl, hnp, hsu, hts, hrd, hta, htb, hks, hks2, hkl⟩
  rw [show l5.take 5 = l5 from rfl] at hnp hsu hks2
  refine s_assign ?_; refine e_bool ?_; refine stp (by walk_at "pt") ?_
  generalize hBs : (L₀, MO.slots oL) :: μ = Bs at *
  have hks5 : ∀ j, j ∈ t.ks ↔ 0 ≤ j ∧ j < 5 := fun j => ⟨hks j, fun h => hks2 j (mem_l5.mpr h)⟩
  have hsuin : ∀ k ∈ t.ks, ∀ j ∈ t.su k, j ∈ t.ks := fun k _ j hj => by rw [hsu] at hj; exact hks2 j (List.mem_filter.mp hj).1
  have hsg : ∀ k j, j ∈ t.su k → k ∈ g j := fun k j hj => by rw [hsu] at hj; have := (List.mem_filter.mp hj).2; simpa using this
  have hexn : nsIn (KK w.params) mainGlobals (Str.ofString "CycleError") = some (some (.ref 104)) := rfl
  have hexi : excIn (KK w.params) 104 valErr "ValueError.__new__" = true := by kernel_rfl
  have hl5 : ∀ fin : List Int, fin.Nodup → (∀ k ∈ fin, k ∈ t.ks) → fin.length ≤ 5 := fun fin h1 h2 => pr_len h1 fun p hp => hks p (h2 p hp)
  have hstart : ∀ rl S', SortR { t with rd := .ref rl } rl (t.ks.filter fun k => t.np k == 0) S' → KInv g t.ks [] [] (t.ks.filter fun k => t.np k == 0) t.np := fun rl S' _ => KInv.start hS.nodup fun j hj => by
    rw [hnp]; unfold npI; rw [if_pos (mem_l5.mpr (hks j hj))]
  refine Tg.sel (S ++ Bs) (by walk_at "sel") ?_
  refine s_trymethK (MergT g aa da la x v Bs) ?_ hexn hexi ?_
  · clear hstart hl5 hexi hexn hsg hsuin hks5 hS hbl hnp hsu hts hrd hta htb hks hks2 hkl
    rintro _ _ ⟨b, t1, rl, rdy, S1, rfl, rfl, hSR, hKI, hsu1, hts1, hta1, htb1, hks1, hb⟩
    refine s_assign ?_
    refine e_dict0 fun md => ?_
    refine stp (by walk_at "pt") ?_
    refine Tg.sel (S1 ++ ((md, .idict 0 []) :: Bs)) (by walk_at "sel") ?_
    refine s_while (MergJ g dl (mgR2 aa da la x md b) x md rl Bs) _ ⟨t1, rdy, S1, 0, [], v, .undef, .undef, rfl, rfl, hSR, hKI, hsu1, hts1, by rw [hta1, htb1], hks1, rfl⟩ ?_
    clear hSR hKI hsu1 hts1 hta1 htb1 hks1 t1 rdy S1
    rintro nn _ _ ⟨t, rdy, S, ep, rs, v1, v2, v3, rfl, rfl, hSR, hKI, hsu, hts, hab, hks, hnn⟩
    have hrdl : rdy.length ≤ 5 := pr_len hKI.rnd fun p hp => (hks p).mp ((hKI.hrdy p).mp hp).1
    have hxo : (x, MO.obj 186 t.d []) ∈ S := by rw [← hts]; exact hSR.s.o
    refine b_value (e_methi ?_)
    refine e_name (by walk_at "mem") ?_
    refine ⟨x, 186, t.d, [], tsA t.n t.rd t.a t.b, 155, rfl, List.mem_append_left _ hxo, List.mem_append_left _ hSR.s.at_, rfl, rfl, rfl, rfl, rfl, a_nil (CC.args (args' := [.ref t.ts]) (by rw [hts]) (c_active (by show A.depth + 1 < _; omega) hSR (by omega) ?_))⟩
    refine t_bool ?_
    rw [hab, show decide (t.b < t.b) = false by simp, Bool.false_or]
    by_cases hrn : rdy = []
    · subst hrn
      rw [if_neg (by decide)]
      refine s_nil (seq_next (s_ret (e_tuple ?_)))
      refine a_cons ?_; refine e_name (by walk_at "mem") ?_; refine a_cons ?_; refine e_name (by walk_at "mem") ?_; refine a_nil ?_
      refine ⟨by show 2 ≤ 1000000; decide, fun tp => ?_⟩
      rw [hb]
      refine LeftP.sel (by rw [← hBs]; walk_at "sel") (h tp md ep rs hKI.pnd (fun p h0 h5 => hKI.done (fun j q hq => (hks q).mpr ((hg j).2 q hq)) (fun p hp => (hks p).mp hp) ((hks p).mpr ⟨h0, h5⟩)) fun p hp => (hks p).mp (hKI.pin p hp))
    rw [if_pos (by cases rdy with | nil => exact absurd rfl hrn | cons _ _ => rfl)]
    refine s_for (e_methi ?_)
    refine e_name (by walk_at "mem") ?_
    refine ⟨x, 186, t.d, [], tsA t.n t.rd t.a t.b, 148, rfl, List.mem_append_left _ hxo, List.mem_append_left _ hSR.s.at_, rfl, rfl, rfl, rfl, rfl, a_nil (CC.args (args' := [.ref t.ts]) (by rw [hts]) (c_getready (by show A.depth + 1 < _; omega) (by exact hh) hSR (by omega) (fun k hk => ((hKI.hrdy k).mp hk).1) ?_))⟩
    intro tp t2 S2 c1 c2 c3 c4 c5 c6 c7
    have hKI2 := hKI.ready
    rw [← c2, ← c4] at hKI2
    refine ⟨(mints rdy).length, listV (mints rdy), fun μ => (tp, MO.tuple (mints rdy)) ∈ μ, MergK g dl (mgR2 aa da la x md b) x md rl tp rdy rs Bs, itOf_tuple (by exact hh) (List.mem_append_right _ (.head _)), ?_, ?_, ?_, ?_⟩
    · rintro i _ _ ⟨t, rd2, S, ep, rs2, v1, v2, v3, rfl, rfl, _⟩
      exact List.mem_append_right _ (.head _)
    · exact ⟨t2, [], S2, ep, rs, v1, v2, v3, rfl, rfl, c1, hKI2, c3.trans hsu, c5.trans hts, by rw [c6, c7, hab]; rfl, by rw [c4]; exact hks, rfl⟩
    · clear hSR hKI hKI2 c1 c2 c3 c4 c5 c6 c7 hsu hts hab hks hxo t2 S2 S t
      rintro i _ _ hi ⟨t, rd2, S, ep, rs2, v1, v2, v3, rfl, rfl, d1, d2, d3, d4, d5, d6, d7⟩
      rw [mints_len] at hi
      have hv : listV (mints rdy) i = .int rdy[i] := by simp [listV, mints, hi]
      have hdr : rdy.drop i = rdy[i] :: rdy.drop (i + 1) := List.drop_eq_getElem_cons hi
      rw [hv]
      rw [hdr] at d2
      generalize rdy[i] = k at *
      obtain ⟨hkK, hkp, hk0⟩ := d2.hrem k (.head _)
      have hkall := cntU_zero.mp hk0
      have hk5 := (d6 k).mp hkK
      have hpin : ∀ p ∈ rs2.map (·.1), 0 ≤ p ∧ p < 5 := fun p hp => (d6 p).mp (d2.pin p hp)
      have hpl := pr_len d2.pnd hpin
      rw [List.length_map] at hpl
      have hend : ends g 5 k = true := fok_ends5 (pr := k :: rs2.map (·.1)) ⟨hkall, d2.fok⟩ (List.nodup_cons.mpr ⟨hkp, d2.pnd⟩) (fun p hp => by
        rcases List.mem_cons.mp hp with rfl | hp
        · exact hk5
        · exact hpin p hp) (.head _)
      have hrdl2 : rd2.length ≤ 5 := pr_len d2.rnd fun p hp => (d6 p).mp ((d2.hrdy p).mp hp).1
      refine stp (by walk_at "pt") ?_
      have hmB : ∀ q ∈ μ, q ∈ S ++ ((tp, MO.tuple (mints rdy)) :: (md, .idict ep (keysD rs2)) :: (recL g dl rs2 ++ Bs)) := fun q hq => List.mem_append_right _ (.tail _ (.tail _ (List.mem_append_right _ (by rw [← hBs]; exact .tail _ hq))))
      have hYm : (md, MO.idict ep (keysD rs2)) ∈ S ++ ((tp, MO.tuple (mints rdy)) :: (md, .idict ep (keysD rs2)) :: (recL g dl rs2 ++ Bs)) := List.mem_append_right _ (.tail _ (.head _))
      have hYr : ∀ q ∈ recL g dl rs2, q ∈ S ++ ((tp, MO.tuple (mints rdy)) :: (md, .idict ep (keysD rs2)) :: (recL g dl rs2 ++ Bs)) := fun q hq => List.mem_append_right _ (.tail _ (.tail _ (List.mem_append_left _ hq)))
      have hYa : AheadsAt g aa as (S ++ ((tp, MO.tuple (mints rdy)) :: (md, .idict ep (keysD rs2)) :: (recL g dl rs2 ++ Bs))) := ⟨hmB _ ha.1, fun i h0 h5 => hmB _ (ha.2 i h0 h5)⟩
      generalize hY : S ++ ((tp, MO.tuple (mints rdy)) :: (md, .idict ep (keysD rs2)) :: (recL g dl rs2 ++ Bs)) = Y at hmB hYm hYr hYa ⊢
      have hgl := (hg k).len
      refine s_assign ?_; refine e_callfn rfl rfl ?_; refine a_nil ?_
      refine c_entry (by show A.depth + 1 + 1 < _; omega) fun ex ed eu er => ?_
      refine stp (by walk_at "pt") ?_
      refine s_ifj (fun ρ₁ μ₁ => ρ₁ = mgR2 aa da la x md b (.int k) (.ref ex) v3 ∧ μ₁ = (er, .list []) :: (eu, .list (mstrs (if g k = [] then [] else five5.map nameI))) :: (ex, .obj 59 ed []) :: (ed, .attrs (entA eu er .none)) :: Y) ?_ ?_
      · rintro _ _ ⟨rfl, rfl⟩
        have hll := lnsOf_len (g := g) (dl := dl) k
        refine s_expr ?_; refine e_meth F.plainAttrs_list F.slot_list_extend F.type_list_extend ?_; refine e_attr ?_; refine e_name (by walk_at "mem") ?_
        refine a_attr (.tail _ (.tail _ (.head _))) (.tail _ (.tail _ (.tail _ (.head _)))) look_r ?_
        refine ⟨isT_list (.head _), ?_⟩
        refine a_cons ?_; refine e_sub ?_; refine e_name (by walk_at "mem") ?_; refine e_name (by walk_at "mem") ?_
        refine g_list (.tail _ (.tail _ (.tail _ (.tail _ (hmB _ hlns.1))))) hk5.1 (five_get k hk5.1 hk5.2) ?_
        refine a_nil ?_
        refine c_extend (.head _) (.tail _ (.tail _ (.tail _ (.tail _ (hmB _ (hlns.2 k hk5.1 hk5.2)))))) (by show 0 ≤ 1000000; decide) (by rw [mstrs_len]; show _ ≤ 1000000; omega) .head ?_
        rw [List.nil_append]
        refine s_setattr ?_; refine e_sub ?_; refine e_name (by walk_at "mem") ?_; refine e_name (by walk_at "mem") ?_
        refine g_list (.tail _ (.tail _ (.tail _ (.tail _ (hmB _ hd))))) hk5.1 (five_dl k hk5.1 hk5.2) ?_
        refine e_name (by walk_at "mem") ?_
        refine u_attr (.tail _ (.tail _ (.head _))) (.tail _ (.tail _ (.tail _ (.head _)))) put_d (.tail (.tail (.tail .head))) (by simp [entA]) ?_
        generalize hU0 : (if g k = [] then [] else five5.map nameI) = U0
        have hU0l : U0.length ≤ 5 := by rw [← hU0]; split <;> simp [five5]
        refine Tg.sel (recM ⟨ex, ed, eu, er⟩ U0 (lnsOf g dl k) (dl k) ++ Y) (by show Sel ((ex, .obj 59 ed []) :: (ed, .attrs (entA eu er (dl k))) :: (eu, .list (mstrs U0)) :: (er, .list (mstrs (lnsOf g dl k))) :: Y) _; walk_at "sel") ?_
        refine s_for ?_
        refine e_sub ?_; refine e_name (by walk_at "mem") ?_; refine e_name (by walk_at "mem") ?_
        refine g_list (List.mem_append_right _ hYa.1) hk5.1 (five_get k hk5.1 hk5.2) ?_
        refine ⟨(mints (g k)).length, listV (mints (g k)), fun μ => (as k, MO.list (mints (g k))) ∈ μ, MergC g dl (mgR2 aa da la x md b) U0 k Y,
          itOf_list (by exact hh) (List.mem_append_right _ (hYa.2 k hk5.1 hk5.2)), ?_, ?_, ?_, ?_⟩
        · rintro j _ _ ⟨c, v3, rfl, rfl⟩
          exact List.mem_append_right _ (hYa.2 k hk5.1 hk5.2)
        · refine ⟨⟨ex, ed, eu, er⟩, v3, rfl, ?_⟩
          have f0 : (U0.filter fun s => ([] : List Int).all fun q => (Uspec g q).contains s) = U0 := List.filter_eq_self.mpr (fun _ _ => rfl)
          rw [List.take_zero, List.flatMap_nil, List.append_nil, List.foldl_nil, f0]
        · rintro j _ _ hj ⟨c, v3, rfl, rfl⟩
          rw [mints_len] at hj
          have hv : listV (mints (g k)) j = .int (g k)[j] := by simp [listV, mints, hj]
          have htk : (g k).take (j + 1) = (g k).take j ++ [(g k)[j]] := List.take_succ_eq_append_getElem hj
          have hqg : (g k)[j] ∈ g k := List.getElem_mem _
          have htl : ((g k).take j).length ≤ 5 := by rw [List.length_take]; omega
          rw [hv]
          generalize (g k)[j] = q at *
          obtain ⟨qc, hqc, hq1⟩ := List.mem_map.mp (hkall q hqg)
          obtain ⟨q', c2⟩ := qc
          cases hq1
          have hc2 : ∀ z ∈ recM c2 (Uspec g q') (Rspec g (lnsOf g dl) q') (Dspec g dl q'), z ∈ Y := fun z hz => hYr z (List.mem_flatMap.mpr ⟨(q', c2), hqc, hz⟩)
          generalize hlj : (g k).take j = lj at *
          have hU1 : (U0.filter fun s => lj.all fun q => (Uspec g q).contains s).length ≤ 5 := Nat.le_trans (List.length_filter_le _ _) hU0l
          have hRl := flatMap_len (l := lj) (f := Rspec g (lnsOf g dl)) (k := 2343) fun a _ => Rspec_len (fun p => (hg p).len) (fun i => lnsOf_len i)
          have hRq : (Rspec g (lnsOf g dl) q').length ≤ 2343 := Rspec_len (fun p => (hg p).len) (fun i => lnsOf_len i)
          have hUq := Uspec_len (g := g) (q := q')
          refine stp (by walk_at "pt") ?_
          refine s_assign ?_; refine e_callfn rfl rfl ?_; refine a_cons ?_; refine e_name (by walk_at "mem") ?_; refine a_cons ?_; refine e_sub ?_; refine e_name (by walk_at "mem") ?_; refine e_name (by walk_at "mem") ?_
          refine g_dict (List.mem_append_right _ hYm) (keysD_look d2.pnd hqc) ?_
          refine a_nil ?_
          refine c_merge (by show A.depth + 1 + 2 < _; omega) (by exact hh) (x1 := c.x) (d1 := c.d) (u1 := c.u) (r1 := c.r) (x2 := c2.x) (d2 := c2.d) (u2 := c2.u) (r2 := c2.r) ⟨.head _, .tail _ (.head _), .tail _ (.tail _ (.head _)), .tail _ (.tail _ (.tail _ (.head _)))⟩
            ⟨List.mem_append_right _ (hc2 _ (.head _)), List.mem_append_right _ (hc2 _ (.tail _ (.head _))), List.mem_append_right _ (hc2 _ (.tail _ (.tail _ (.head _)))), List.mem_append_right _ (hc2 _ (.tail _ (.tail _ (.tail _ (.head _)))))⟩
            (foldD_delay hdl lj _ (hdl k)) (Dspec_delay hdl q') (by omega) (by omega) (by rw [List.length_append]; omega) (by omega) fun x' d' u' r' => ?_
          refine stp (by walk_at "pt") ?_
          refine Tg.less (List.Sublist.cons_cons _ (List.Sublist.cons_cons _ (List.Sublist.cons_cons _ (List.Sublist.cons_cons _ (.cons _ (.cons _ (.cons _ (.cons _ (List.Sublist.refl _))))))))) ?_
          refine s_nil (turn_next ⟨_, List.Sublist.refl _, ⟨x', d', u', r'⟩, .int q', rfl, ?_⟩)
          have f1 : (U0.filter fun s => (lj ++ [q']).all fun q => (Uspec g q).contains s) = (U0.filter fun s => lj.all fun q => (Uspec g q).contains s).filter fun s => (Uspec g q').contains s := by
            rw [List.filter_filter]
            refine List.filter_congr fun s _ => ?_
            rw [List.all_append]
            simp [Bool.and_comm]
          have f2 : (lj ++ [q']).flatMap (Rspec g (lnsOf g dl)) = lj.flatMap (Rspec g (lnsOf g dl)) ++ Rspec g (lnsOf g dl) q' := by simp
          have f3 : (lj ++ [q']).foldl (fun acc q => comb acc (Dspec g dl q)) (dl k) = comb (lj.foldl (fun acc q => comb acc (Dspec g dl q)) (dl k)) (Dspec g dl q') := by simp
          rw [htk, f1, f2, f3, ← List.append_assoc]
          rfl
        · rintro _ _ ⟨c, v4, rfl, rfl⟩
          rw [mints_len, List.take_length, ← Rspec_eq hend, ← Dspec_eq hend]
          have hUk : (U0.filter fun s => (g k).all fun q => (Uspec g q).contains s) ++ [nameI k] = Uspec g k := by
            rw [Uspec_step hk5 hg hend, ← hU0]
            by_cases hgk : g k = []
            · simp [hgk]
            · simp only [hgk, if_false]
          have hUl : (U0.filter fun s => (g k).all fun q => (Uspec g q).contains s).length ≤ 5 := Nat.le_trans (List.length_filter_le _ _) hU0l
          generalize (U0.filter fun s => (g k).all fun q => (Uspec g q).contains s) = Uk at *
          refine s_expr ?_; refine e_meth F.plainAttrs_list F.slot_list_append F.type_list_append ?_; refine e_attr ?_; refine e_name (by walk_at "mem") ?_
          refine a_attr (.head _) (.tail _ (.head _)) look_u ?_
          refine ⟨isT_list (.tail _ (.tail _ (.head _))), ?_⟩
          refine a_cons ?_; refine e_callfn rfl rfl ?_; refine a_cons ?_; refine e_name (by walk_at "mem") ?_; refine a_nil ?_
          have hkn : MV.int k = .int (k.toNat : Int) := by rw [Int.toNat_of_nonneg hk5.1]
          rw [hkn]
          refine c_name (by show A.depth + 1 < _; omega) (n := k.toNat) (by omega) ?_
          rw [← hkn]
          refine a_nil ?_
          refine c_append (.tail _ (.tail _ (.head _))) (by rw [mstrs_len]; show _ ≤ 1000000; omega) (.tail (.tail .head)) ?_
          rw [show mstrs Uk ++ [MV.str (nameOf k.toNat)] = mstrs (Uspec g k) by rw [← hUk]; simp [mstrs, nameI]]
          rw [← hY]
          refine s_setitem ?_; refine e_name (by walk_at "mem") ?_; refine e_name (by walk_at "mem") ?_; refine e_name (by walk_at "mem") ?_
          refine sj_dict (ep := ep) (es := keysD rs2) (.tail _ (.tail _ (.tail _ (.tail _ (List.mem_append_right S (.tail _ (.head _))))))) (by rw [keysD_len]; show _ ≤ 1000000; omega) fun ep' => ⟨_, .tail (.tail (.tail (.tail (setAt_right (.tail .head) S)))), ?_⟩
          rw [keysD_push hkp]
          refine s_expr (e_methi ?_)
          refine e_name (by walk_at "mem") ?_
          have hxo : (x, MO.obj 186 t.d []) ∈ S := by rw [← d4]; exact d1.s.o
          have hnpk : t.np k = -1 := by rw [d2.hnp k hkK, if_neg hkp, if_pos (.head _)]
          refine ⟨x, 186, t.d, [], tsA t.n t.rd t.a t.b, 169, rfl, .tail _ (.tail _ (.tail _ (.tail _ (List.mem_append_left _ hxo)))), .tail _ (.tail _ (.tail _ (.tail _ (List.mem_append_left _ d1.s.at_)))), rfl, rfl, rfl, rfl, rfl, ?_⟩
          refine a_cons ?_; refine e_name (by walk_at "mem") ?_; refine a_nil ?_
          refine CC.args (args' := [.ref t.ts, .int k]) (by rw [d4]) ?_
          refine CC.sel (S ++ ((tp, .tuple (mints rdy)) :: (md, .idict ep' (keysD ((k, c) :: rs2))) :: (recL g dl ((k, c) :: rs2) ++ Bs))) ?_ ?_
          · rw [show recL g dl ((k, c) :: rs2) = recM c (Uspec g k) (Rspec g (lnsOf g dl) k) (Dspec g dl k) ++ recL g dl rs2 by simp [recL]]
            simp only [recM, List.append_assoc, List.cons_append, List.nil_append]
            walk_at "sel"
          have hsul : (t.su k).length ≤ 5 := by rw [d3]; exact List.length_filter_le _ _
          refine c_done (by show A.depth + 1 < _; omega) (by exact hh) d1 (by omega) hkK hnpk (fun j hj => by rw [d3] at hj; exact (d6 j).mpr (mem_l5.mp (List.mem_filter.mp hj).1)) (by omega) ?_
          intro t' rdy' S' e1 e2 e3 e4 e5 e6 e7
          rw [d3] at e2
          refine s_nil (turn_next ⟨_, List.Sublist.refl _, t', rdy', S', ep', (k, c) :: rs2, .int k, .ref c.x, v4, rfl, rfl, e1, ?_, e3.trans d3, e5.trans d4, ?_, by rw [e4]; exact d6, by simp; omega⟩)
          · rw [e4]
            exact d2.step hgn (fun j hj => (d6 j).mpr (mem_l5.mp hj)) (fun j hj => mem_l5.mpr ((d6 j).mp hj)) e2
          · rw [e6, e7, d5]; omega
      · refine b_cmp ?_; refine e_sub ?_; refine e_name (by walk_at "mem") ?_; refine e_name (by walk_at "mem") ?_
        refine g_list (.tail _ (.tail _ (.tail _ (.tail _ hYa.1)))) hk5.1 (five_get k hk5.1 hk5.2) ?_
        refine e_list ?_; refine a_nil ?_
        refine ⟨by decide, fun c => ?_⟩
        refine o_ne_nil (.tail _ (.tail _ (.tail _ (.tail _ (.tail _ (hYa.2 k hk5.1 hk5.2)))))) (.head _) (by show A.units + 3 < _; omega) ?_
        refine asb ?_
        by_cases hgk : g k = []
        · rw [if_neg (by simp [hgk, mints]), if_pos hgk]
          exact Tg.less (List.sublist_cons_self _ _) (s_nil ⟨rfl, rfl, rfl⟩)
        · rw [if_pos (by simp [hgk, mints]), if_neg hgk]
          refine s_expr ?_; refine e_meth F.plainAttrs_list F.slot_list_extend F.type_list_extend ?_; refine e_attr ?_; refine e_name (by walk_at "mem") ?_
          refine a_attr (.tail _ (.tail _ (.tail _ (.head _)))) (.tail _ (.tail _ (.tail _ (.tail _ (.head _))))) look_u ?_
          refine ⟨isT_list (.tail _ (.tail _ (.head _))), ?_⟩
          refine a_cons (e_comp rfl rfl rfl rfl rfl ?_)
          refine e_callt rfl rfl (by decide) ?_; refine a_cons ?_; refine e_int ?_; refine a_nil ?_
          refine c_range fun r1 t1 u1 w1 => ?_
          refine ⟨5, fun i => .int i, fun _ => True, fun j acc μ₁ => acc = mstrs ((five5.take j).map nameI) ∧ μ₁ = (r1, .raw (rangeObj 5 t1 u1 w1)) :: (c, .list []) :: (er, .list []) :: (eu, .list []) :: (ex, .obj 59 ed []) :: (ed, .attrs (entA eu er .none)) :: Y,
            itOf_range (by exact hh) (by omega) (.head _), by show 5 ≤ 1000000; decide, ⟨rfl, rfl⟩, fun _ _ _ _ => trivial, ?_, ?_⟩
          · rintro C2 j acc _ hj ⟨rfl, rfl⟩
            have hft : five5.take (j + 1) = five5.take j ++ [(j : Int)] := by
              exact five_nat hj rfl rfl rfl rfl rfl
            simp only [TestsJ, if_true]
            refine e_callfn rfl rfl ?_; refine a_cons ?_; refine e_nameL (by walk_at "mem") ?_; refine a_nil ?_
            refine c_name (by show A.depth + 1 < _; omega) (n := j) hj ?_
            refine ⟨_, rfl, List.Sublist.refl _, ?_, rfl⟩
            rw [hft]; simp [mstrs, nameI]
          · rintro D acc _ ⟨rfl, rfl⟩
            refine a_nil ?_
            refine c_extend (.tail _ (.tail _ (.tail _ (.tail _ (.head _))))) (.head _) (by show 0 ≤ 1000000; decide) (by simp [mstrs, five5]; show _ ≤ 1000000; decide) (.tail (.tail (.tail (.tail .head)))) ?_
            refine Tg.less (.cons _ (.cons _ (.cons _ (List.Sublist.refl _)))) (s_nil ⟨rfl, rfl, rfl⟩)
    · rintro _ _ ⟨t, rd2, S, ep, rs2, v1, v2, v3, rfl, rfl, d1, d2, d3, d4, d5, d6, d7⟩
      rw [mints_len] at d2 d5 d7
      rw [List.drop_length] at d2
      have hpos : 0 < rdy.length := List.length_pos_iff.mpr hrn
      have hle := pr_len d2.pnd fun p hp => (d6 p).mp (d2.pin p hp)
      rw [List.length_map] at hle
      refine s_nil (turn_next ⟨S ++ ((md, .idict ep (keysD rs2)) :: (recL g dl rs2 ++ Bs)), List.Sublist.append (List.Sublist.refl _) (List.sublist_cons_self _ _), 5 - rs2.length, by omega, t, rd2, S, ep, rs2, v1, v2, v3, rfl, rfl, d1, d2, d3, d4, by rw [d5]; simp, d6, rfl⟩)
  · refine e_name (by walk_at "mem") ?_
    rw [← hts]
    refine ⟨t.ts, 186, t.d, [], _, 141, rfl, List.mem_append_left _ hS.o, List.mem_append_left _ hS.at_, rfl, rfl, rfl, rfl, rfl, a_nil ⟨outer, hFr.re (fun a o h => List.mem_append_right _ h), ?_⟩⟩
    refine c_prepare (by show A.depth + 1 + 1 < _; omega) (by exact hh) hS hrd (by omega) hsuin PySem.F.excBase_ValueError hexn hexi ?_ ?_
    · intro fin h1 h2 h3 h4 rl S' hSR
      refine ⟨false, _, rl, _, S', by rw [hts], rfl, hSR, hstart rl S' hSR, hsu, rfl, hta, htb, hks5, ?_⟩
      have : five5.all (ends g 5) = true := by
        rw [List.all_eq_true]
        intro j hj
        have hjf := h2 j ((hks5 j).mpr (mem_five.mp hj))
        obtain ⟨pre, post, hsp⟩ := List.append_of_mem hjf
        have h5 := fin_ends (g := g) (su := t.su) (fin := fin) (fun j hj k hk => by
          rw [hsu]
          refine List.mem_filter.mpr ⟨mem_l5.mpr (hks j (h3 j hj)), ?_⟩
          simpa using hk) h1 h4 (fun j _ k hk => h2 k ((hks5 k).mpr ((hg j).2 k hk))) pre.length rfl hsp
        have hl := hl5 fin h1 h3
        rw [hsp] at hl
        simp at hl
        exact ends_le (by omega) h5
      rw [this]; rfl
    · intro fin x' es h1 h2 h3 rl S' hSR
      refine ⟨outer, hFr.re (fun a o h => List.mem_append_right _ h), fun A' a1 a2 => ?_⟩
      refine s_assign ?_; refine e_bool ?_; refine stp (by walk_at "pt") ?_; refine s_nil ?_
      refine ⟨rfl, true, _, rl, _, S', by rw [hts], rfl, hSR, hstart rl S' hSR, hsu, rfl, hta, htb, hks5, ?_⟩
      have he := stk_cycle hsg h2 h1 5
      have : five5.all (ends g 5) = false := by
        cases q : five5.all (ends g 5) with
        | false => rfl
        | true =>
          rw [List.all_eq_true] at q
          have := q x' (mem_five.mpr (hks x' h3))
          rw [he] at this; cases this
      rw [this]; rfl
end

theorem ints_of_keys {w : World} : ∀ {kvs : List (Int × Value)} {vs : List Value}, vs.length = kvs.length → (∀ (j : Nat) v, vs[j]? = some v → ∃ k x, kvs[j]? = some (k, x) ∧ (intKind PR w).is k v = true) → IntsAre vs (kvs.map (·.1))
  | [], [], _, _ => .nil
  | p :: kvs, v :: vs, hl, h => by
    obtain ⟨k, x, e, hk⟩ := h 0 v rfl
    obtain ⟨t, rfl⟩ := is_shape hk
    simp at e
    rw [List.map_cons, e]
    exact .cons k t (ints_of_keys (by simpa using hl) fun j u hu => h (j + 1) u hu)
  | [], _ :: _, hl, _ => by simp at hl
  | _ :: _, [], hl, _ => by simp at hl
theorem PRs.keys : ∀ {es : List (Int × MV)} {kvs : List (Int × Value)}, PRs es kvs → kvs.map (·.1) = es.map (·.1)
  | [], [], _ => rfl
  | p :: es, q :: kvs, ⟨h1, h2, h3⟩ => by rw [List.map_cons, List.map_cons, h1, PRs.keys h3]
  | [], _ :: _, h => h.elim
  | _ :: _, [], h => h.elim
section
variable {w : World} {G : Gl w} {A : Around} {L : Addr} {env : Env} {ρ ρ' : Rho} {μ μ' : Mu}
theorem c_sortedD {d : Addr} {ep : Nat} {es : List (Int × MV)} {P : MV → Mu → Prop} (hh : A.handled = none) (hm : (d, MO.idict ep es) ∈ μ) (hl : es.length < 64)
    (h : ∀ b ns', ns'.Perm (es.map (·.1)) → ns'.Pairwise (· ≤ ·) → P (.ref b) ((b, .list (mints ns')) :: μ)) : CJ G A (.builtin "sorted") [.ref d] P μ := by
  intro s₀ B L ρ s vs hs hv
  refine va_r hv ?_
  · obtain ⟨kvs, hat, hp, lo⟩ := hs.dict hm
    have hkl := hp.length
    refine Calls.call_function_entry kind_sorted plain_sorted entry_sorted (args_sorted1 _) ?_
    unfold Builtin.«sorted»
    refine wpAny_bind (m := checkCount "sorted" 1 1 _) (wpAny_pure ?_)
    refine wpAny_bind (kdu_collect (A := A.in1) (kdl_dict (knd := intKind PR w) (kvs := kvs) (ep := ep) lo) (by simpa using hh) hat (by rw [hkl]; show _ ≤ 16777216; omega) fun h' tk acc hk hacc => ?_)
    have hI : IntsAre acc.toList (kvs.map (·.1)) := ints_of_keys (by rw [Array.length_toList]; exact hacc.1) fun j v hv => hacc.2 j v (by rw [← Array.getElem?_toList]; exact hv)
    have hal : acc.toList.length < 64 := by rw [Array.length_toList, hacc.1, hkl]; exact hl
    refine wpAny_bind (wpAny_newList ?_ (by show _ ≤ 16777216; omega))
    have hoL : (h'.push (seqObj "list" acc.toList.toArray 0)).get? h'.objs.size = some (seqObj "list" acc.toList.toArray 0) := Heap.get?_push_size _ rfl
    refine wpAny_bind (wpAny_holding (wpAny_call_entry slot_list_sort ⟨_, hoL, rfl⟩ entry_list_sort (list_sort_tree hoL hI hal fun out ns' a1 a2 a3 => ⟨_, rfl, ?_⟩) (args_list_sort _)))
    refine wpAny_pure ⟨_, rfl, ?_⟩
    obtain ⟨e, he⟩ := sortedHeap_at (out := out) hoL
    have hs1 : St G s₀ B L ρ μ { s with heap := h', toks := tk } := hs.grow hk
    refine ⟨_, _, vr, hs1.new (a := h'.objs.size) (o := .list (mints ns')) (h' := sortedHeap (h'.push (seqObj "list" acc.toList.toArray 0)) h'.objs.size acc.toList out) (tk := tk) (get?_size _) (Nat.le_refl _) (fun b x hb => ?_) ⟨_, he, out.toList, e, by simp [seqObj], of_ints a1⟩, h _ ns' (by rw [← hp.keys]; exact a2) a3⟩
    have hb' := Heap.lt_size hb
    rw [sortedHeap_old (Nat.ne_of_lt hb') (by rw [Heap.size_push]; exact Nat.lt_succ_of_lt hb')]
    exact Heap.get?_push_of_some _ hb
end

section
variable {w : World} {G : Gl w} {A : Around} {L : Addr} {env : Env} {ρ ρ' : Rho} {μ μ' : Mu}
theorem St.lowList {s₀ : Shared} {B : Addr → Option Obj} {s : Shared} {a : Addr} {items : Array Value} (hs : St G s₀ B L ρ μ s) (h : G.hb.IsList a items) : s.heap.IsList a items := let ⟨o, ho, r⟩ := h; ⟨o, hs.base _ _ ho, r⟩
theorem g_lowI {a : Addr} {vs : List Value} {xs : List MV} {k : Int} {x : MV} {P : MV → Mu → Prop} (hlow : G.hb.IsList a vs.toArray) (hv : VRs xs vs) (h0 : 0 ≤ k) (hx : xs[k.toNat]? = some x) (h : P x μ) (hb : k < 2 ^ 63 := by omega) : GJ G A (.ref a) (.int k) P μ := by
  rintro s₀ B L ρ s _ b hs rfl ⟨t, rfl⟩
  have ho := hs.lowList hlow
  obtain ⟨v, hv', hr⟩ := hv.get hx
  exact ⟨"list", _, slot_list_getitem.lookup, ho.typeIs, wpAny_getItem_list ho h0 hb (by simpa using hv') ⟨x, μ, hr, hs, h⟩⟩
theorem c_lenlowI {a : Addr} {vs : List Value} {P : MV → Mu → Prop} (hlow : G.hb.IsList a vs.toArray) (hl : vs.length ≤ big) (h : P (.int vs.length) μ) : CJ G A (.builtin "len") [.ref a] P μ := by
  intro s₀ B L ρ s us hs hv
  refine va_r hv ?_
  · unfold big at hl
    exact len_list (hs.lowList hlow) (by simp; omega) ⟨_, μ, by rw [List.size_toArray]; exact vi, hs.toks _, h⟩
set_option maxRecDepth 100000 in
theorem c_numbersI {P : MV → Mu → Prop} (hroom : A.depth < recursionLimit) (hh : A.handled = none) {a : Addr} {vs : List Value} {ns : List Int} (hlow : G.hb.IsList a vs.toArray) (hv : VRs (mints ns) vs) (hl : ns.length ≤ 63)
    (h : ∀ b ms, ms.length = 5 → P (.ref b) ((b, .list (mints ms)) :: μ)) : CC G A (.ref 225) [.ref a] P μ := by
  refine CC.sub ?_
  refine c_fn [Str.ofString "script"] [(Str.ofString "numbers", .undef), (Str.ofString "k", .undef)] rfl hroom rfl rfl rfl rfl rfl rfl rfl rfl rfl rfl (by decide) rfl rfl rfl (fun vs hv => va1 hv fun _ _ => rfl) ?_
  intro L' qn cd
  show X G _ _ (execs _ _) _ [(Str.ofString "script", .ref a), (Str.ofString "numbers", .undef), (Str.ofString "k", .undef)] μ
  have hvl : vs.length = ns.length := by rw [hv.length, mints_len]
  refine s_assign ?_; refine e_list ?_; refine a_cons ?_; refine e_int ?_; refine a_cons ?_; refine e_int ?_; refine a_cons ?_; refine e_int ?_; refine a_cons ?_; refine e_int ?_; refine a_cons ?_; refine e_int ?_; refine a_nil ?_
  refine ⟨by decide, fun b => ?_⟩
  refine stp (by walk_at "pt") ?_
  refine s_for ?_
  refine e_callt rfl rfl (by decide) ?_; refine a_cons ?_; refine e_callb rfl rfl (by decide) ?_; refine a_cons ?_; refine e_name (by walk_at "mem") ?_; refine a_nil ?_
  refine c_lenlowI hlow (by rw [hvl]; show _ ≤ 1000000; omega) ?_
  refine a_nil ?_
  refine c_range fun r t u v => ?_
  refine ⟨vs.length, fun i => .int i, fun _ => True, fun i ρ₁ μ₁ => ∃ ms k, ms.length = 5 ∧ ρ₁ = [(Str.ofString "script", .ref a), (Str.ofString "numbers", .ref b), (Str.ofString "k", k)] ∧ μ₁ = (r, .raw (rangeObj vs.length t u v)) :: (b, .list (mints ms)) :: μ,
    itOf_range hh (by omega) (.head _), fun _ _ _ _ => trivial, ⟨[111, 3201, 9601, 6, 9], .undef, rfl, rfl, rfl⟩, ?_, ?_⟩
  · rintro i _ _ hi ⟨ms, k, hms, rfl, rfl⟩
    refine stp (by walk_at "pt") ?_
    refine s_augitem ?_; refine e_name (by walk_at "mem") ?_; refine e_binop ?_; refine e_name (by walk_at "mem") ?_; refine e_int ?_
    refine o_mod (by decide) ?_
    have e1 : ((i : Int).fmod 5) = ((i % 5 : Nat) : Int) := by rw [Int.fmod_eq_emod_of_nonneg _ (by decide)]; omega
    rw [e1]
    generalize hj : i % 5 = j
    have hj5 : j < 5 := by omega
    refine g_list (.tail _ (.head _)) (by omega) (x := .int (ms.getD j 0)) (by rw [Int.toNat_natCast]; exact mints_get (by simp [List.getD, List.getElem?_eq_getElem (show j < ms.length by omega)])) ?_
    refine e_sub ?_; refine e_name (by walk_at "mem") ?_; refine e_name (by walk_at "mem") ?_
    refine g_lowI hlow hv (by omega) (x := .int (ns.getD i 0)) (by rw [Int.toNat_natCast]; exact mints_get (by simp [List.getD, List.getElem?_eq_getElem (show i < ns.length by omega)])) ?_
    refine o_iadd ?_
    refine sj_list (.tail _ (.head _)) (by omega) (by rw [mints_len]; omega) (.tail .head) ?_
    refine s_nil ?_
    refine turn_next ⟨_, List.Sublist.refl _, ms.set j (ms.getD j 0 + ns.getD i 0), .int i, by simpa using hms, rfl, ?_⟩
    rw [Int.toNat_natCast, mints_set]
  · rintro _ _ ⟨ms, k, hms, rfl, rfl⟩
    refine s_ret ?_; refine e_name (by walk_at "mem") ?_
    exact ⟨_, List.sublist_cons_self _ _, h b ms hms⟩
noncomputable def ρL (a : Addr) : Rho := [(Str.ofString "script", .ref a), (Str.ofString "lines", .undef), (Str.ofString "due", .undef), (Str.ofString "merged", .undef), (Str.ofString "refused", .undef), (Str.ofString "records", .undef), (Str.ofString "place", .undef), (Str.ofString "told", .undef), (Str.ofString "record", .undef)]
noncomputable def μL (L : Addr) : Mu := [(L + 3, .cell .undef), (L + 2, .cell .undef), (L + 1, .cell .undef)]
theorem law_start {s₁ : Shared} {mg mb : Str → Option Value} {mean : ExcName → Option Value} {h₁ : Heap} {tk : Nat} {m : Str → Option Value} {a : Addr} {o1 o2 o3 : Obj} {c1 c2 c3 : Option Value} (KX : (KK w.params).In s₁.heap) (T : Top VW LS mean mg mb s₁.heap) (F : Fr s₁.heap s₁.heap.objs.size h₁ m)
    (N0 : News s₁.heap s₁.heap.objs.size h₁ [(s₁.heap.objs.size + 1 + 1 + 1, o3), (s₁.heap.objs.size + 1 + 1, o2), (s₁.heap.objs.size + 1, o1)]) (e3 : o3.data = .cell c3) (e2 : o2.data = .cell c2) (e1 : o1.data = .cell c1) (hsc : m (Str.ofString "script") = some (.ref a)) :
    St (⟨s₁.heap, mg, mb, mean, KX, T⟩ : Gl w) { s₁ with heap := h₁, toks := tk } (fun b => s₁.heap.get? b) s₁.heap.objs.size (ρL a) (μL s₁.heap.objs.size) { s₁ with heap := h₁, toks := tk } := by
  refine ⟨⟨h₁, tk, rfl⟩, fun b o e => e, Nat.le_refl _, F.keep, get?_size _, ⟨m, F.ns, fun p hp => ?_⟩, by simp only [ρL, List.map_cons, List.map_nil]; decide, ?_, ?_, ?_⟩
  · simp only [ρL, List.mem_cons, List.not_mem_nil, or_false] at hp
    rcases hp with rfl | rfl | rfl | rfl | rfl | rfl | rfl | rfl | rfl
    · exact .inr ⟨_, hsc, rfl⟩
    all_goals exact .inl rfl
  · simp only [μL, List.map_cons, List.map_nil]
    simp
  · intro x hx
    simp only [μL, List.map_cons, List.map_nil, List.mem_cons, List.not_mem_nil, or_false] at hx
    show s₁.heap.objs.size ≤ x
    omega
  · intro p hp
    have key : ∀ (b : Addr) (o : Obj) (c : Option Value), (b, o) ∈ [(s₁.heap.objs.size + 1 + 1 + 1, o3), (s₁.heap.objs.size + 1 + 1, o2), (s₁.heap.objs.size + 1, o1)] → o.data = .cell c →
        Ob w (fun b => s₁.heap.get? b) s₁.heap.objs.size h₁ (b, .cell .undef) := fun b o c hm e => by
      obtain ⟨g1, g2, g3⟩ := N0 _ hm
      exact ⟨g3, g2, o, g1, c, e, .inl rfl⟩
    simp only [μL, List.mem_cons, List.not_mem_nil, or_false] at hp
    rcases hp with rfl | rfl | rfl
    · exact key _ o3 c3 (.head _) e3
    · exact key _ o2 c2 (.tail _ (.head _)) e2
    · exact key _ o1 c1 (.tail _ (.tail _ (.head _))) e1
end

theorem eqM_three {w : World} {G : Gl w} {A : Around} {μ : Mu} {a b c a' b' c' : MV} (h0 : EqM G A μ a a') (h1 : EqM G A μ b b') (h2 : EqM G A μ c c') (i : Nat) (x y : MV) (hx : [a, b, c][i]? = some x) (hy : [a', b', c'][i]? = some y) : EqM G A μ x y := by
  rcases i with _ | _ | _ | i
  · cases hx; cases hy; exact h0
  · cases hx; cases hy; exact h1
  · cases hx; cases hy; exact h2
  · cases hx
theorem five_pack {b0 b1 b2 b3 b4 : Addr × List Int} (hbs : ∀ q ∈ [b0, b1, b2, b3, b4], Ahead q.2) : ∃ (g : Int → List Int) (as : Int → Addr), (∀ p, Ahead (g p)) ∧ [b0, b1, b2, b3, b4].map (·.1) = [as 0, as 1, as 2, as 3, as 4] ∧
    ∀ i : Int, 0 ≤ i → i < 5 → (as i, MO.list (mints (g i))) ∈ [b0, b1, b2, b3, b4].map fun q => (q.1, MO.list (mints q.2)) := by
  refine ⟨fun i => [b0.2, b1.2, b2.2, b3.2, b4.2].getD i.toNat [], fun i => [b0.1, b1.1, b2.1, b3.1, b4.1].getD i.toNat 0, fun p => ?_, rfl, five (.head _) (.tail _ (.head _)) (.tail _ (.tail _ (.head _))) (.tail _ (.tail _ (.tail _ (.head _)))) (.tail _ (.tail _ (.tail _ (.tail _ (.head _)))))⟩
  have : [b0.2, b1.2, b2.2, b3.2, b4.2].getD p.toNat [] ∈ [b0.2, b1.2, b2.2, b3.2, b4.2] ∨ [b0.2, b1.2, b2.2, b3.2, b4.2].getD p.toNat [] = [] := by
    by_cases hlt : p.toNat < 5
    · left; rw [List.getD_eq_getElem?_getD, List.getElem?_eq_getElem (by exact hlt)]; exact List.getElem_mem _
    · right; rw [List.getD_eq_getElem?_getD, List.getElem?_eq_none (show 5 ≤ p.toNat by omega)]; rfl
  show Ahead ([b0.2, b1.2, b2.2, b3.2, b4.2].getD p.toNat [])
  rcases this with h | h
  · simp only [List.mem_cons, List.not_mem_nil, or_false] at h
    rcases h with h | h | h | h | h <;> rw [h] <;> exact hbs _ (by simp)
  · rw [h]; exact ⟨.nil, nofun⟩
theorem delay_pack (m0 m1 m2 m3 m4 : Int) : ∃ dl : Int → MV, (∀ i, Delay (dl i)) ∧ [m0, m1, m2, m3, m4].map delayOf = [dl 0, dl 1, dl 2, dl 3, dl 4] := by
  refine ⟨fun i => ([m0, m1, m2, m3, m4].map delayOf).getD i.toNat .none, fun p => ?_, rfl⟩
  by_cases hlt : p.toNat < 5
  · have hm : ([m0, m1, m2, m3, m4].map delayOf).getD p.toNat .none ∈ [m0, m1, m2, m3, m4].map delayOf := by
      rw [List.getD_eq_getElem?_getD, List.getElem?_eq_getElem (by exact hlt)]; exact List.getElem_mem _
    obtain ⟨n, _, e⟩ := List.mem_map.mp hm
    show Delay (([m0, m1, m2, m3, m4].map delayOf).getD p.toNat .none)
    rw [← e]; exact delayOf_ok n
  · show Delay (([m0, m1, m2, m3, m4].map delayOf).getD p.toNat .none)
    rw [List.getD_eq_getElem?_getD, List.getElem?_eq_none (show 5 ≤ p.toNat by omega)]; exact .inl rfl
theorem AheadsAt.more {g : Int → List Int} {aa : Addr} {as : Int → Addr} {μ μ' : Mu} (h : AheadsAt g aa as μ) (hs : ∀ q ∈ μ, q ∈ μ') : AheadsAt g aa as μ' := ⟨hs _ h.1, fun i h0 h5 => hs _ (h.2 i h0 h5)⟩
theorem LinesAt.more {f : Int → List Str} {la : Addr} {ls : Int → Addr} {μ μ' : Mu} (h : LinesAt f la ls μ) (hs : ∀ q ∈ μ, q ∈ μ') : LinesAt f la ls μ' := ⟨hs _ h.1, fun i h0 h5 => hs _ (h.2 i h0 h5)⟩
theorem sorted_eq : ∀ {a b : List Int}, a.Pairwise (· < ·) → b.Pairwise (· < ·) → (∀ x, x ∈ a ↔ x ∈ b) → a = b
  | [], [], _, _, _ => rfl
  | [], y :: b, _, _, h => by have := (h y).mpr (.head _); cases this
  | x :: a, [], _, _, h => by have := (h x).mp (.head _); cases this
  | x :: a, y :: b, ha, hb, h => by
    have ha' := List.pairwise_cons.mp ha
    have hb' := List.pairwise_cons.mp hb
    have e : x = y := by
      rcases List.mem_cons.mp ((h x).mp (.head _)) with e | hx
      · exact e
      · rcases List.mem_cons.mp ((h y).mpr (.head _)) with e | hy
        · exact e.symm
        · have := ha'.1 y hy; have := hb'.1 x hx; omega
    subst e
    rw [sorted_eq ha'.2 hb'.2 fun z => ⟨fun hz => ?_, fun hz => ?_⟩]
    · rcases List.mem_cons.mp ((h z).mp (.tail _ hz)) with e | hz'
      · subst e; have := ha'.1 z hz; omega
      · exact hz'
    · rcases List.mem_cons.mp ((h z).mpr (.tail _ hz)) with e | hz'
      · subst e; have := hb'.1 z hz; omega
      · exact hz'
theorem five5_lt : five5.Pairwise (· < ·) := by decide
theorem due_eq {ks ns : List Int} {f : Int → Bool} (hp : ns.Perm ks) (hs : ns.Pairwise (· ≤ ·)) (hn : ks.Nodup) (h : ∀ p : Int, 0 ≤ p → p < 5 → (p ∈ ks ↔ f p = true)) (hin : ∀ p ∈ ks, 0 ≤ p ∧ p < 5) : ns = five5.filter f := by
  have hnn : ns.Nodup := hp.nodup_iff.mpr hn
  refine sorted_eq ((hs.and hnn).imp fun {a b} ⟨h1, h2⟩ => by omega) (five5_lt.sublist List.filter_sublist) fun x => ?_
  rw [hp.mem_iff, List.mem_filter, mem_five]
  constructor
  · intro hx; exact ⟨hin x hx, (h x (hin x hx).1 (hin x hx).2).mp hx⟩
  · rintro ⟨h1, h2⟩; exact (h x h1.1 h1.2).mpr h2
theorem due_len {f : Int → Bool} : decide (((mints (five5.filter f)).length : Int) < 5) = !(five5.all f) := by
  rw [mints_len]
  have hle := List.length_filter_le f five5
  have h5 : five5.length = 5 := rfl
  cases hq : five5.all f with
  | true =>
    rw [List.all_eq_true] at hq
    rw [List.filter_eq_self.mpr hq]; decide
  | false =>
    simp only [Bool.not_false, decide_eq_true_eq]
    have : (five5.filter f).length ≠ 5 := fun e => by
      have := List.length_filter_eq_length_iff.mp (e.trans h5.symm)
      rw [List.all_eq_false] at hq
      obtain ⟨x, hx, hf⟩ := hq
      exact hf (this x hx)
    omega
theorem lines_pack (c0 c1 c2 c3 c4 : Addr) (f : Int → List Str) : ∃ ls : Int → Addr, [c0, c1, c2, c3, c4] = [ls 0, ls 1, ls 2, ls 3, ls 4] ∧
    ∀ i : Int, 0 ≤ i → i < 5 → (ls i, MO.list (mstrs (f i))) ∈ [c0, c1, c2, c3, c4].zipIdx.map fun q => (q.1, MO.list (mstrs (f q.2))) :=
  ⟨fun i => [c0, c1, c2, c3, c4].getD i.toNat 0, rfl, five (.head _) (.tail _ (.head _)) (.tail _ (.tail _ (.head _))) (.tail _ (.tail _ (.tail _ (.head _)))) (.tail _ (.tail _ (.tail _ (.tail _ (.head _)))))⟩
section
variable {w : World} {G : Gl w}
theorem o_ne_str {A : Around} {L : Addr} {ρ : Rho} {μ : Mu} {x y : Str} {P : MV → Rho → Mu → Prop} (h : P (.bool (x != y)) ρ μ) : ∀ a b, VR (.str x) a → VR (.str y) b → T G A L (compareOp .NotEq a b) P ρ μ := by
  rintro _ _ ⟨t, rfl⟩ ⟨u, rfl⟩ s₀ B s hs
  exact PyProof.Rows.ne_str ⟨_, _, _, vb, hs, h⟩
theorem eqM_delay {A : Around} {μ : Mu} {d : MV} (hd : Delay d) : EqM G A μ d d := by
  rcases hd with rfl | ⟨i, rfl, _⟩
  · exact eqM_none
  · exact eqM_int
theorem eqM_strs {A : Around} {μ : Mu} {a b : Addr} {xs : List Str} (hm : (a, MO.list (mstrs xs)) ∈ μ) (hm' : (b, MO.list (mstrs xs)) ∈ μ) (hu : A.units < cLine) : EqM G A μ (.ref a) (.ref b) :=
  eqM_list hm hm' hu rfl fun i x y hx hy => by
    rw [hx] at hy; cases hy
    simp only [mstrs, List.getElem?_map, Option.map_eq_some_iff] at hx
    obtain ⟨s, _, rfl⟩ := hx
    exact eqM_str
set_option maxRecDepth 100000 in
set_option maxHeartbeats 40000000 in
theorem law_walk {L fa a : Addr} {q : Str} {cd : Value} {vs : List Value} {ns : List Int} (hlow : G.hb.IsList a vs.toArray) (hv : VRs (mints ns) vs) (hl : ns.length ≤ 63) :
    ∃ oc od fd osl body nmm mr, (KK w.params).lookup 285 = some ⟨oc, od, .func fd, osl⟩ ∧ fd.body = .stmts body ∧ fd.scope = { kind := .function, names := nmm, isGenerator := false, isCoroutine := false, more := mr } ∧
      X G (callerA.deeper (envS nmm mr (cellsFrom (L + 1) nmm []) L q fa cd)) (envS nmm mr (cellsFrom (L + 1) nmm []) L q fa cd).locals (execs body (envS nmm mr (cellsFrom (L + 1) nmm []) L q fa cd)) (fun fl _ _ => fl = .ret (.bool true)) (ρL a) (μL L) := by
  refine ⟨_, _, _, _, _, _, _, rfl, rfl, rfl, ?_⟩
  show X G _ _ (execs _ _) _ [(Str.ofString "script", .ref _), (Str.ofString "lines", .undef), (Str.ofString "due", .undef), (Str.ofString "merged", .undef), (Str.ofString "refused", .undef), (Str.ofString "records", .undef), (Str.ofString "place", .undef), (Str.ofString "told", .undef), (Str.ofString "record", .undef)] [(L + 3, .cell .undef), (L + 2, .cell .undef), (L + 1, .cell .undef)]
  refine s_assignc rfl ?_
  refine e_callfn rfl rfl ?_; refine a_cons ?_; refine e_name (by walk_at "mem") ?_; refine a_nil ?_
  refine c_numbersI (by show 1 + claimMargin + 1 < 1000; decide) rfl hlow hv hl fun nb ms hms => ?_
  refine ⟨_, _, .tail _ (.tail _ (.tail _ (.head _))), .tail (.tail (.tail .head)), ?_⟩
  obtain ⟨m0, m1, m2, m3, m4, rfl⟩  := list5 hms
  refine s_assignc rfl ?_
  refine e_comp rfl rfl rfl rfl rfl ?_
  refine e_callt rfl rfl (by decide) ?_; refine a_cons ?_; refine e_int ?_; refine a_nil ?_
  refine c_range fun r1 t1 u1 w1 => ?_
  refine ⟨5, fun i => .int i, fun _ => True, fun j acc μ₁ => ∃ bs : List (Addr × List Int), bs.length = j ∧ acc = refs (bs.map (·.1)) ∧ (∀ q ∈ bs, Ahead q.2) ∧
      μ₁ = (r1, .raw (rangeObj 5 t1 u1 w1)) :: (nb, .list (mints [m0, m1, m2, m3, m4])) :: (L + 3, .cell .undef) :: (L + 2, .cell .undef) :: (L + 1, .cell (.ref nb)) :: (bs.map fun q => (q.1, MO.list (mints q.2))),
    itOf_range rfl (by omega) (.head _), by show 5 ≤ 1000000; decide, ⟨[], rfl, rfl, nofun, rfl⟩, fun _ _ _ _ => trivial, ?_, ?_⟩
  · rintro C2 j acc _ hj ⟨bs, hbl, rfl, hbs, rfl⟩
    simp only [TestsJ, if_true]
    refine e_callfn rfl rfl ?_; refine a_cons ?_; refine e_sub ?_; refine e_cell (hk := rfl) rfl (by walk_at "mem") ?_; refine e_nameL (by walk_at "mem") ?_
    refine g_list (.tail _ (.head _)) (by omega) (x := .int ([m0, m1, m2, m3, m4].getD j 0)) (by
      rw [Int.toNat_natCast]
      exact five_nat hj rfl rfl rfl rfl rfl) ?_
    refine a_cons ?_; refine e_nameL (by walk_at "mem") ?_; refine a_nil ?_
    refine CC.subp (c_ahead (by show 1 + claimMargin + 1 < 1000; decide) rfl hj fun b ns' hns => ?_)
    refine SubP.sel (μ' := (r1, .raw (rangeObj 5 t1 u1 w1)) :: (nb, .list (mints [m0, m1, m2, m3, m4])) :: (L + 3, .cell .undef) :: (L + 2, .cell .undef) :: (L + 1, .cell (.ref nb)) :: ((bs ++ [(b, ns')]).map fun q => (q.1, MO.list (mints q.2)))) ?_ ⟨_, rfl, List.Sublist.refl _, bs ++ [(b, ns')], by simp [hbl], by simp [refs], ?_, rfl⟩
    · simp only [List.map_append, List.map_cons, List.map_nil]
      walk_at "sel"
    · intro q hq
      rcases List.mem_append.mp hq with hq | hq
      · exact hbs q hq
      · rw [List.mem_singleton.mp hq]; exact hns
  rintro aa acc _ ⟨bs, hbl, rfl, hbs, rfl⟩
  obtain ⟨b0, b1, b2, b3, b4, rfl⟩  := list5 hbl
  refine ⟨_, _, .tail _ (.tail _ (.tail _ (.tail _ (.head _)))), .tail (.tail (.tail (.tail .head))), ?_⟩
  obtain ⟨g, as, hg, hbe, h5⟩ := five_pack hbs
  rw [hbe]
  generalize ([b0, b1, b2, b3, b4].map fun q => (q.1, MO.list (mints q.2))) = μ5 at h5 ⊢
  clear hbe hbs hms hbl
  refine Tg.sel ((aa, .list (refs [as 0, as 1, as 2, as 3, as 4])) :: (nb, .list (mints [m0, m1, m2, m3, m4])) :: (L + 3, .cell .undef) :: (L + 2, .cell (.ref aa)) :: (L + 1, .cell (.ref nb)) :: μ5) (by walk_at "sel") ?_
  refine s_assignc rfl ?_
  refine e_comp rfl rfl rfl rfl rfl ?_
  refine e_cell (hk := rfl) rfl (by walk_at "mem") ?_
  refine ⟨5, listV (mints [m0, m1, m2, m3, m4]), fun μ => (nb, MO.list (mints [m0, m1, m2, m3, m4])) ∈ μ, fun j acc μ₁ => acc = ([m0, m1, m2, m3, m4].take j).map delayOf ∧ μ₁ = (aa, .list (refs [as 0, as 1, as 2, as 3, as 4])) :: (nb, .list (mints [m0, m1, m2, m3, m4])) :: (L + 3, .cell .undef) :: (L + 2, .cell (.ref aa)) :: (L + 1, .cell (.ref nb)) :: μ5,
    itOf_list (xs := mints [m0, m1, m2, m3, m4]) rfl (.tail _ (.head _)), by show 5 ≤ 1000000; decide, ⟨rfl, rfl⟩, ?_, ?_, ?_⟩
  · rintro j acc _ ⟨rfl, rfl⟩; exact .tail _ (.head _)
  · rintro C2 j acc _ hj ⟨rfl, rfl⟩
    simp only [TestsJ, if_true]
    have hv2 : ∃ n, listV (mints [m0, m1, m2, m3, m4]) j = .int n ∧ [m0, m1, m2, m3, m4].take (j + 1) = [m0, m1, m2, m3, m4].take j ++ [n] := by
      exact five_nat hj (⟨_, rfl, rfl⟩) (⟨_, rfl, rfl⟩) (⟨_, rfl, rfl⟩) (⟨_, rfl, rfl⟩) (⟨_, rfl, rfl⟩)
    obtain ⟨n, e1, e2⟩ := hv2
    rw [e1]
    refine e_callfn rfl rfl ?_; refine a_cons ?_; refine e_nameL (by walk_at "mem") ?_; refine a_nil ?_
    refine c_delay (by show 1 + claimMargin + 1 < 1000; decide) ?_
    refine ⟨_, rfl, List.Sublist.refl _, ?_, rfl⟩
    rw [e2]; simp
  rintro da acc _ ⟨rfl, rfl⟩
  rw [show [m0, m1, m2, m3, m4].take 5 = [m0, m1, m2, m3, m4] from rfl]
  obtain ⟨dl, hdl, hde⟩ := delay_pack m0 m1 m2 m3 m4
  rw [hde]
  refine ⟨_, _, .tail _ (.tail _ (.tail _ (.head _))), .tail (.tail (.tail .head)), ?_⟩
  refine Tg.sel ((aa, .list (refs [as 0, as 1, as 2, as 3, as 4])) :: (da, .list [dl 0, dl 1, dl 2, dl 3, dl 4]) :: (L + 3, .cell (.ref da)) :: (L + 2, .cell (.ref aa)) :: μ5) (by walk_at "sel") ?_
  clear hde
  refine s_assign_comp rfl rfl rfl rfl rfl rfl ?_
  refine e_callt rfl rfl (by decide) ?_; refine a_cons ?_; refine e_int ?_; refine a_nil ?_
  refine c_range fun r2 t2 u2 w2 => ?_
  refine ⟨5, fun i => .int i, fun _ => True, fun j acc μ₁ => ∃ cs : List Addr, cs.length = j ∧ acc = refs cs ∧
      μ₁ = (r2, .raw (rangeObj 5 t2 u2 w2)) :: (aa, .list (refs [as 0, as 1, as 2, as 3, as 4])) :: (da, .list [dl 0, dl 1, dl 2, dl 3, dl 4]) :: (L + 3, .cell (.ref da)) :: (L + 2, .cell (.ref aa)) :: (μ5 ++ cs.zipIdx.map fun q => (q.1, MO.list (mstrs (lnsOf g dl q.2)))),
    itOf_range rfl (by omega) (.head _), by show 5 ≤ 1000000; decide, ⟨[], rfl, rfl, by simp⟩, fun _ _ _ _ => trivial, ?_, ?_⟩
  · rintro C2 j acc _ hj ⟨cs, hcl, rfl, rfl⟩
    simp only [TestsJ, if_true]
    refine e_callfn rfl rfl ?_; refine a_cons ?_; refine e_nameL (by walk_at "mem") ?_; refine a_cons ?_; refine e_sub ?_; refine e_cell (hk := rfl) rfl (by walk_at "mem") ?_; refine e_nameL (by walk_at "mem") ?_
    refine g_list (.tail _ (.tail _ (.head _))) (by omega) (five_dl (j : Int) (by omega) (by omega)) ?_
    refine a_cons ?_; refine e_sub ?_; refine e_cell (hk := rfl) rfl (by walk_at "mem") ?_; refine e_nameL (by walk_at "mem") ?_
    refine g_list (.tail _ (.head _)) (by omega) (five_get (j : Int) (by omega) (by omega)) ?_
    refine a_nil ?_
    refine CC.subp (c_lines (by show 1 + claimMargin + 1 + 1 < 1000; decide) (by show 4 + 3 + 10 < 9900; decide) hj (hdl _) (.tail _ (.tail _ (.tail _ (.tail _ (.tail _ (List.mem_append_left _ (h5 (j : Int) (by omega) (by omega)))))))) fun b => ?_)
    refine SubP.sel (μ' := (r2, .raw (rangeObj 5 t2 u2 w2)) :: (aa, .list (refs [as 0, as 1, as 2, as 3, as 4])) :: (da, .list [dl 0, dl 1, dl 2, dl 3, dl 4]) :: (L + 3, .cell (.ref da)) :: (L + 2, .cell (.ref aa)) :: (μ5 ++ (cs ++ [b]).zipIdx.map fun q => (q.1, MO.list (mstrs (lnsOf g dl q.2))))) ?_ ⟨_, rfl, List.Sublist.refl _, cs ++ [b], by simp [hcl], by simp [refs], rfl⟩
    · have ez : ((cs ++ [b]).zipIdx.map fun q => (q.1, MO.list (mstrs (lnsOf g dl q.2)))) = (cs.zipIdx.map fun q => (q.1, MO.list (mstrs (lnsOf g dl q.2)))) ++ [(b, MO.list (mstrs (lnsOf g dl (j : Int))))] := by rw [List.zipIdx_append]; simp [hcl]
      rw [ez, show lnsOf g dl (j : Int) = linesOf j (dl j) (g j) by simp [lnsOf]]
      walk_at "sel"
  rintro la acc _ ⟨cs, hcl, rfl, rfl⟩
  obtain ⟨c0, c1, c2, c3, c4, rfl⟩  := list5 hcl
  refine stp (by walk_at "pt") ?_
  obtain ⟨ls, hce, h6⟩ := lines_pack c0 c1 c2 c3 c4 (lnsOf g dl)
  generalize ([c0, c1, c2, c3, c4].zipIdx.map fun q => (q.1, MO.list (mstrs (lnsOf g dl q.2)))) = μ6 at h6 ⊢
  rw [hce]
  clear hce hcl
  refine Tg.sel ((L + 3, .cell (.ref da)) :: (L + 2, .cell (.ref aa)) :: ((aa, .list (refs [as 0, as 1, as 2, as 3, as 4])) :: (da, .list [dl 0, dl 1, dl 2, dl 3, dl 4]) :: (la, .list (refs [ls 0, ls 1, ls 2, ls 3, ls 4])) :: (μ5 ++ μ6))) (by walk_at "sel") ?_
  have ha : AheadsAt g aa as ((aa, .list (refs [as 0, as 1, as 2, as 3, as 4])) :: (da, .list [dl 0, dl 1, dl 2, dl 3, dl 4]) :: (la, .list (refs [ls 0, ls 1, ls 2, ls 3, ls 4])) :: (μ5 ++ μ6)) := ⟨.head _, fun i h0 h5' => .tail _ (.tail _ (.tail _ (List.mem_append_left _ (h5 i h0 h5'))))⟩
  have hd : DelaysAt dl da ((aa, .list (refs [as 0, as 1, as 2, as 3, as 4])) :: (da, .list [dl 0, dl 1, dl 2, dl 3, dl 4]) :: (la, .list (refs [ls 0, ls 1, ls 2, ls 3, ls 4])) :: (μ5 ++ μ6)) := .tail _ (.head _)
  have hlns : LinesAt (lnsOf g dl) la ls ((aa, .list (refs [as 0, as 1, as 2, as 3, as 4])) :: (da, .list [dl 0, dl 1, dl 2, dl 3, dl 4]) :: (la, .list (refs [ls 0, ls 1, ls 2, ls 3, ls 4])) :: (μ5 ++ μ6)) := ⟨.tail _ (.tail _ (.head _)), fun i h0 h5' => .tail _ (.tail _ (.tail _ (List.mem_append_right _ (h6 i h0 h5'))))⟩
  generalize (aa, MO.list (refs [as 0, as 1, as 2, as 3, as 4])) :: (da, .list [dl 0, dl 1, dl 2, dl 3, dl 4]) :: (la, .list (refs [ls 0, ls 1, ls 2, ls 3, ls 4])) :: (μ5 ++ μ6) = μB at ha hd hlns ⊢
  clear h5 h6
  refine s_assign_comp rfl rfl rfl rfl rfl rfl ?_
  refine e_callt rfl rfl (by decide) ?_; refine a_cons ?_; refine e_int ?_; refine a_nil ?_
  refine c_range fun r3 t3 u3 w3 => ?_
  refine ⟨5, fun i => .int i, fun _ => True, fun j acc μ₁ => acc = mints ((five5.take j).filter (ends g 5)) ∧ μ₁ = (r3, .raw (rangeObj 5 t3 u3 w3)) :: (L + 3, .cell (.ref da)) :: (L + 2, .cell (.ref aa)) :: μB,
    itOf_range rfl (by omega) (.head _), by show 5 ≤ 1000000; decide, ⟨rfl, rfl⟩, fun _ _ _ _ => trivial, ?_, ?_⟩
  · rintro C2 j acc _ hj ⟨rfl, rfl⟩
    have hft : five5.take (j + 1) = five5.take j ++ [(j : Int)] := by
      exact five_nat hj rfl rfl rfl rfl rfl
    show Tb G _ C2 (isTrue _ _ _) _ [(Str.ofString "place", .int j)] _
    refine b_value ?_
    refine e_callfn rfl rfl ?_; refine a_cons ?_; refine e_cell (hk := rfl) rfl (by walk_at "mem") ?_; refine a_cons ?_; refine e_nameL (by walk_at "mem") ?_; refine a_nil ?_
    refine c_ends (by show 1 + claimMargin + 1 < 1000; decide) (by show 4 + 3 + 10 < 9900; decide) rfl hg (ha.more fun q hq => .tail _ (.tail _ (.tail _ hq))) ⟨by omega, by omega⟩ ?_
    refine t_bool ?_
    by_cases he : ends g 5 (j : Int) = true
    · rw [if_pos he]
      refine e_nameL (by walk_at "mem") ?_
      refine ⟨_, rfl, List.Sublist.refl _, ?_, rfl⟩
      rw [hft, filter_snoc_pos he]; simp [mints]
    · rw [if_neg he]
      refine ⟨_, rfl, List.Sublist.refl _, ?_, rfl⟩
      rw [hft, filter_snoc_neg he]
  rintro du acc _ ⟨rfl, rfl⟩
  rw [show five5.take 5 = five5 from rfl]
  refine stp (by walk_at "pt") ?_
  refine s_unpack2 rfl (e_callfnF (f := 263) rfl rfl ?_)
  refine a_cons ?_; refine e_cell (hk := rfl) rfl (by walk_at "mem") ?_; refine a_cons ?_; refine e_cell (hk := rfl) rfl (by walk_at "mem") ?_; refine a_cons ?_; refine e_name (by walk_at "mem") ?_; refine a_nil ?_
  refine ⟨[], ⟨rfl, rfl, by show ScopeKind.function ≠ .module; decide, fun _ he => absurd he List.not_mem_nil⟩, ?_⟩
  refine c_merged (by show 1 + claimMargin + 1 + 6 < 1000; decide) (by show 4 + 3 + 40 < 9900; decide) rfl hg (ha.more fun q hq => .tail _ (.tail _ (.tail _ (.tail _ hq)))) (.tail _ (.tail _ (.tail _ (.tail _ hd)))) hdl (hlns.more fun q hq => .tail _ (.tail _ (.tail _ (.tail _ hq)))) ?_
  intro tp md ep rs hrn hre hrin
  refine ⟨tp, _, _, _, _, rfl, .head _, (PutAt.tail (PutAt.tail (PutAt.tail PutAt.head))), (PutAt.tail (PutAt.tail (PutAt.tail (PutAt.tail PutAt.head)))), ?_⟩
  refine Tg.sel ((md, .idict ep (keysD rs)) :: (du, .list (mints (five5.filter (ends g 5)))) :: (L + 3, .cell (.ref da)) :: (L + 2, .cell (.ref aa)) :: (recL g dl rs ++ μB)) (by walk_at "sel") ?_
  have hsB : ∀ q ∈ μB, q ∈ (md, MO.idict ep (keysD rs)) :: (du, .list (mints (five5.filter (ends g 5)))) :: (L + 3, .cell (.ref da)) :: (L + 2, .cell (.ref aa)) :: (recL g dl rs ++ μB) := fun q hq => .tail _ (.tail _ (.tail _ (.tail _ (List.mem_append_right _ hq))))
  replace ha := ha.more hsB
  replace hd : DelaysAt dl da _ := hsB _ hd
  replace hlns := hlns.more hsB
  have hmd : (md, MO.idict ep (keysD rs)) ∈ (md, MO.idict ep (keysD rs)) :: (du, .list (mints (five5.filter (ends g 5)))) :: (L + 3, .cell (.ref da)) :: (L + 2, .cell (.ref aa)) :: (recL g dl rs ++ μB) := .head _
  have hdu : (du, MO.list (mints (five5.filter (ends g 5)))) ∈ (md, MO.idict ep (keysD rs)) :: (du, .list (mints (five5.filter (ends g 5)))) :: (L + 3, .cell (.ref da)) :: (L + 2, .cell (.ref aa)) :: (recL g dl rs ++ μB) := .tail _ (.head _)
  have hc3 : (L + 3, MO.cell (.ref da)) ∈ (md, MO.idict ep (keysD rs)) :: (du, .list (mints (five5.filter (ends g 5)))) :: (L + 3, .cell (.ref da)) :: (L + 2, .cell (.ref aa)) :: (recL g dl rs ++ μB) := .tail _ (.tail _ (.head _))
  have hc2 : (L + 2, MO.cell (.ref aa)) ∈ (md, MO.idict ep (keysD rs)) :: (du, .list (mints (five5.filter (ends g 5)))) :: (L + 3, .cell (.ref da)) :: (L + 2, .cell (.ref aa)) :: (recL g dl rs ++ μB) := .tail _ (.tail _ (.tail _ (.head _)))
  have hrec : ∀ q ∈ recL g dl rs, q ∈ (md, MO.idict ep (keysD rs)) :: (du, .list (mints (five5.filter (ends g 5)))) :: (L + 3, .cell (.ref da)) :: (L + 2, .cell (.ref aa)) :: (recL g dl rs ++ μB) := fun q hq => .tail _ (.tail _ (.tail _ (.tail _ (List.mem_append_left _ hq))))
  generalize (md, MO.idict ep (keysD rs)) :: (du, .list (mints (five5.filter (ends g 5)))) :: (L + 3, .cell (.ref da)) :: (L + 2, .cell (.ref aa)) :: (recL g dl rs ++ μB) = μC at ha hd hlns hmd hdu hc3 hc2 hrec ⊢
  clear hsB
  have hrl : rs.length ≤ 5 := by have := pr_len hrn hrin; rwa [List.length_map] at this
  refine s_if ?_
  refine b_or ?_; refine b_cmp ?_; refine e_callb rfl rfl (by decide) ?_; refine a_cons ?_; refine e_name (by walk_at "mem") ?_; refine a_nil ?_
  refine c_sortedD rfl hmd (by rw [keysD_len]; omega) fun sb ns' hp hs' => ?_
  have hkp : (keysD rs).map (·.1) = (rs.map (·.1)).reverse := keysD_keys
  have hns : ns' = five5.filter (ends g 5) := due_eq (hp.trans (by rw [hkp]; exact List.reverse_perm _)) hs' hrn hre hrin
  subst hns
  refine e_name (by walk_at "mem") ?_
  refine o_ne_same (.head _) (.tail _ hdu) (by show 4 + 3 < 9900; decide) rfl (fun i x y hx hy => by
    rw [hx] at hy; cases hy
    simp only [mints, List.getElem?_map, Option.map_eq_some_iff] at hx
    obtain ⟨s, _, rfl⟩ := hx
    exact eqM_int) (asb ?_)
  rw [if_neg (by decide)]
  refine b_cmp ?_; refine e_name (by walk_at "mem") ?_; refine e_cmp ?_; refine e_callb rfl rfl (by decide) ?_; refine a_cons ?_; refine e_name (by walk_at "mem") ?_; refine a_nil ?_
  refine c_len (.tail _ hdu) (by rw [mints_len]; exact Nat.le_trans (List.length_filter_le _ _) (by show 5 ≤ 1000000; decide)) ?_
  refine e_int ?_
  refine o_lt ?_
  rw [due_len]
  refine o_isnot_bool (asb ?_)
  rw [if_neg (by cases five5.all (ends g 5) <;> decide)]
  refine s_nil (seq_next ?_)
  refine Tg.less (List.sublist_cons_self _ _) ?_
  refine s_assign ?_; refine e_callfn rfl rfl ?_; refine a_cons ?_; refine e_cell (hk := rfl) rfl (by walk_at "mem") ?_; refine a_cons ?_; refine e_cell (hk := rfl) rfl (by walk_at "mem") ?_; refine a_nil ?_
  refine c_web (by show 1 + claimMargin + 1 + 3 < 1000; decide) rfl hg ha hd hdl fun ra rc μD hra hweb hsD => ?_
  refine stp (by walk_at "pt") ?_
  replace ha := ha.more hsD
  replace hd : DelaysAt dl da _ := hsD _ hd
  replace hlns := hlns.more hsD
  replace hmd := hsD _ hmd
  replace hdu := hsD _ hdu
  replace hc3 := hsD _ hc3
  replace hc2 := hsD _ hc2
  replace hrec : ∀ q ∈ recL g dl rs, q ∈ μD := fun q hq => hsD _ (hrec q hq)
  clear hsD
  refine s_for ?_
  refine e_name (by walk_at "mem") ?_
  refine ⟨(mints (five5.filter (ends g 5))).length, listV (mints (five5.filter (ends g 5))), fun μ => (du, MO.list (mints (five5.filter (ends g 5)))) ∈ μ, fun i ρ₁ μ₁ => ∃ v1 v2 v3, ρ₁ = [(Str.ofString "script", .ref a), (Str.ofString "lines", .ref la), (Str.ofString "due", .ref du), (Str.ofString "merged", .ref md), (Str.ofString "refused", .bool (!(five5.all (ends g 5)))), (Str.ofString "records", .ref ra), (Str.ofString "place", v1), (Str.ofString "told", v2), (Str.ofString "record", v3)] ∧ μ₁ = μD,
    itOf_list rfl hdu, ?_, ⟨_, _, _, rfl, rfl⟩, ?_, ?_⟩
  · rintro i _ _ ⟨v1, v2, v3, rfl, rfl⟩; exact hdu
  · rintro i _ μE hi ⟨v1, v2, v3, rfl, rfl⟩
    rw [mints_len] at hi
    have hv2 : listV (mints (five5.filter (ends g 5))) i = .int (five5.filter (ends g 5))[i] := by simp [listV, mints, hi]
    rw [hv2]
    have hkm : (five5.filter (ends g 5))[i] ∈ five5.filter (ends g 5) := List.getElem_mem _
    generalize (five5.filter (ends g 5))[i] = k at *
    have hk5 := mem_five.mp (List.mem_filter.mp hkm).1
    have hend : ends g 5 k = true := (List.mem_filter.mp hkm).2
    obtain ⟨qc, hqc, hq1⟩ := List.mem_map.mp ((hre k hk5.1 hk5.2).mpr hend)
    obtain ⟨k', c⟩ := qc
    cases hq1
    have hc : ∀ z ∈ recM c (Uspec g k') (Rspec g (lnsOf g dl) k') (Dspec g dl k'), z ∈ μE := fun z hz => hrec z (List.mem_flatMap.mpr ⟨(k', c), hqc, hz⟩)
    refine stp (by walk_at "pt") ?_
    refine s_assign ?_; refine e_callfn rfl rfl ?_; refine a_cons ?_; refine e_cell (hk := rfl) rfl (by walk_at "mem") ?_; refine a_cons ?_; refine e_cell (hk := rfl) rfl (by walk_at "mem") ?_; refine a_cons ?_; refine e_name (by walk_at "mem") ?_; refine a_cons ?_; refine e_name (by walk_at "mem") ?_; refine a_nil ?_
    refine c_told (by show 1 + claimMargin + 1 + 5 < 1000; decide) (by show 4 + 3 + 60 < 9900; decide) rfl hg ha hd hdl hlns (fun i => lnsOf_len i) hk5 hend fun r n wh => ?_
    refine stp (by walk_at "pt") ?_; refine s_assign ?_; refine e_sub ?_; refine e_name (by walk_at "mem") ?_; refine e_name (by walk_at "mem") ?_
    refine g_dict (.tail _ (.tail _ (.tail _ hmd))) (keysD_look hrn hqc) ?_
    refine stp (by walk_at "pt") ?_
    have hu5 : ∀ z ∈ μE, ∀ q1 q2 q3 : Addr × MO, z ∈ q1 :: q2 :: q3 :: μE := fun z hz _ _ _ => .tail _ (.tail _ (.tail _ hz))
    have hDk := Dspec_delay (g := g) hdl k'
    refine s_if ?_
    refine b_cmp ?_; refine e_list ?_; refine a_cons ?_; refine e_attr ?_; refine e_name (by walk_at "mem") ?_
    refine a_attr (hu5 _ (hc _ (.head _)) _ _ _) (hu5 _ (hc _ (.tail _ (.head _))) _ _ _) look_u ?_
    refine a_cons ?_; refine e_attr ?_; refine e_name (by walk_at "mem") ?_
    refine a_attr (hu5 _ (hc _ (.head _)) _ _ _) (hu5 _ (hc _ (.tail _ (.head _))) _ _ _) look_r ?_
    refine a_cons ?_; refine e_attr ?_; refine e_name (by walk_at "mem") ?_
    refine a_attr (hu5 _ (hc _ (.head _)) _ _ _) (hu5 _ (hc _ (.tail _ (.head _))) _ _ _) look_d ?_ hDk.nc
    refine a_nil ?_
    refine ⟨by show 3 ≤ 1000000; decide, fun lq => ?_⟩
    refine e_name (by walk_at "mem") ?_
    refine o_ne_same (.head _) (.tail _ (.head _)) (by show 4 + 3 < 9900; decide) rfl (eqM_three (eqM_strs (xs := Uspec g k') (.tail _ (hu5 _ (hc _ (.tail _ (.tail _ (.head _)))) _ _ _)) (.tail _ (.tail _ (.head _))) (by show 4 + 3 + 1 < 9900; decide))
      (eqM_strs (xs := Rspec g (lnsOf g dl) k') (.tail _ (hu5 _ (hc _ (.tail _ (.tail _ (.tail _ (.head _))))) _ _ _)) (.tail _ (.tail _ (.tail _ (.head _)))) (by show 4 + 3 + 1 < 9900; decide)) (eqM_delay hDk)) ?_
    refine asb ?_
    rw [if_neg (by decide)]
    refine s_nil (seq_next ?_)
    refine Tg.less (List.sublist_cons_self _ _) ?_
    refine s_if ?_
    refine b_cmp ?_; refine e_callt rfl rfl (by decide) ?_; refine a_cons ?_; refine e_sub ?_; refine e_name (by walk_at "mem") ?_; refine e_name (by walk_at "mem") ?_
    refine g_list (hu5 _ hra _ _ _) hk5.1 (five_get (as := fun i => (rc i).x) k' hk5.1 hk5.2) ?_
    refine a_nil ?_
    have hw : WebAt g dl rc ((r, MO.list [.ref n, .ref wh, Dspec g dl k']) :: (n, .list (mstrs (Uspec g k'))) :: (wh, .list (mstrs (Rspec g (lnsOf g dl) k'))) :: μE) := WebAt.more (μ := μE) hweb fun q hq => hu5 q hq _ _ _
    refine c_strobj (hw.o hk5.1 hk5.2) (hw.a hk5.1 hk5.2) (by show 4 + 3 + 10 < 9900; decide) rfl rfl fun A' e1 e2 e3 => ?_
    refine (c_str hg hdl 5 (A := A') (p := k') (by rw [e1]; show 1 + claimMargin + 1 + 5 < 1000; decide) (by rw [e2]; show 4 + 3 + 2 + 20 * 5 + 20 < 9900; decide) (by rw [e3]; rfl) hk5.1 hk5.2 hend hend hw).mono ?_
    rintro _ _ ⟨rfl, rfl⟩
    refine ⟨_, rfl, ?_⟩
    refine e_meth F.plainAttrs_str F.slot_str_join F.type_str_join ?_
    refine e_str ?_
    refine ⟨isT_str, ?_⟩
    refine a_cons ?_; refine e_sub ?_; refine e_name (by walk_at "mem") ?_; refine e_int ?_
    refine g_list (.head _) (by decide) (x := .ref wh) rfl ?_
    refine a_nil ?_
    refine c_join (.tail _ (.tail _ (.head _))) (by decide) (by have := Rspec_wt (g := g) (fun p => (hg p).len) (lnsOf_len (g := g) (dl := dl)) (lnsOf_short hdl) (p := k'); unfold wt at this; omega) ?_
    refine o_ne_str (asb ?_)
    rw [if_neg (by simp [textOf, nlS])]
    refine s_nil (seq_next (s_nil (turn_next ⟨μE, .cons _ (.cons _ (.cons _ (List.Sublist.refl _))), _, _, _, rfl, rfl⟩)))
  · rintro _ _ ⟨v1, v2, v3, rfl, rfl⟩
    refine s_ret ?_; refine e_bool ?_
    rfl
end

noncomputable def topRunT (tb : String → Option Builtin) (p : Program) (w : World) (n₀ : Nat) (ann : Option Value) : Nat → SharedT → Thread → Option SharedT
  | 0, _, _ => none
  | n + 1, s, t => match through t with
    | true => some s
    | false => match stepOk n₀ ann t with
      | false => none
      | true => match stepT (denote tb) p w s t with
        | some (s', t') => topRunT tb p w n₀ ann n s' t'
        | none => none
theorem topRun_of {tb : String → Option Builtin} {p : Program} {w : World} {n₀ : Nat} {ann : Option Value} : ∀ {n : Nat} {s s' : SharedT} {t : Thread}, topRunT tb p w n₀ ann n s t = some s' → topRun tb p w n₀ ann n s.abs t = some s'.abs
  | 0, _, _, _, h => by cases h
  | n + 1, s, s', t, h => by
    unfold topRunT at h
    unfold topRun
    cases ht : through t with
    | true => rw [ht] at h; cases h; rfl
    | false =>
      rw [ht] at h
      cases hk : stepOk n₀ ann t with
      | false => rw [hk] at h; cases h
      | true =>
        rw [hk] at h
        cases hs : stepT (denote tb) p w s t with
        | none => rw [hs] at h; cases h
        | some r => obtain ⟨s₂, t₂⟩ := r; rw [hs] at h; rw [stepT_spec hs]; exact topRun_of h
noncomputable def treeOf : List Obj → BT → Nat → Option BT
  | [], t, _ => some t
  | o :: r, t, n => match ((t.ins n o).get n).isSome with
    | true => treeOf r (t.ins n o) (n + 1)
    | false => none
theorem treeOf_abs {life : Life} : ∀ {l : List Obj} {t t' : BT} {n : Nat}, treeOf l t n = some t' → (absHeap t' (n + l.length) life).objs = (absHeap t n life).objs ++ l.toArray
  | [], t, t', n, h => by cases h; simp
  | o :: r, t, t', n, h => by
    unfold treeOf at h
    cases g : ((t.ins n o).get n).isSome with
    | false => rw [g] at h; cases h
    | true =>
      rw [g] at h
      have e := treeOf_abs (life := life) h
      rw [absHeap_ins g] at e
      rw [List.length_cons, show n + (r.length + 1) = n + 1 + r.length by omega, e]
      show (absHeap t n life).objs.push o ++ r.toArray = _
      simp
theorem tree_heap {h : Heap} {T : BT} (e : treeOf h.objs.toList .nil 0 = some T) : absHeap T h.objs.size h.life = h := by
  have e1 := treeOf_abs (life := h.life) e
  obtain ⟨objs, life⟩ := h
  have e2 : (absHeap BT.nil 0 life).objs = #[] := rfl
  rw [e2, Nat.zero_add] at e1
  have e3 : (absHeap T objs.size life).objs = objs := by simpa using e1
  show (⟨(absHeap T objs.size life).objs, life⟩ : Heap) = _
  rw [e3]
theorem left_tree {p q : Program} {loose : List Str} {Xt : Shared → Bool} {α : Type} {Yf : Shared → α} {Ya : World → α} {N : Nat}
    (h : ∀ w : World, (fencedOpening treeTable p w N).map (fun s₀ => (treeOf s₀.heap.objs.toList .nil 0).map fun T => (s₀.heap.isNs mainGlobals && s₀.gens.size == 0,
      (topRunT treeTable p w s₀.heap.objs.size (s₀.heap.nsMap mainGlobals "__annotations__") N ⟨T, s₀.heap.objs.size, s₀.heap.life, s₀.gens, s₀.drawn, s₀.toks, s₀.os⟩ (topStub p)).map fun s₁ =>
        (staticsOk (importedModules p.main.body) s₀.heap s₁.abs.heap && namesBound p s₁.abs.heap && gensDone s₁.abs && laidKept s₀.heap s₁.abs.heap, openSeen q loose (importedModules p.main.body) Xt true s₁.abs, Yf s₁.abs))) =
      some (some (true, some (true, openGood q loose, Ya w)))) : LeftO p q loose Xt Yf Ya N := fun w => by
  obtain ⟨s₀, a, b⟩ := Option.map_eq_some_iff.mp (h w)
  obtain ⟨T, c, d⟩ := Option.map_eq_some_iff.mp b
  obtain ⟨d1, d2⟩ := Prod.mk.inj d
  obtain ⟨s₁, e, f⟩ := Option.map_eq_some_iff.mp d2
  obtain ⟨f1, f2⟩ := Prod.mk.inj f
  obtain ⟨f2, f3⟩ := Prod.mk.inj f2
  have r := topRun_of e
  have hs : SharedT.abs ⟨T, s₀.heap.objs.size, s₀.heap.life, s₀.gens, s₀.drawn, s₀.toks, s₀.os⟩ = s₀ := by
    show (⟨absHeap T s₀.heap.objs.size s₀.heap.life, s₀.gens, s₀.drawn, s₀.toks, s₀.os⟩ : Shared) = s₀
    rw [tree_heap c]
  rw [hs] at r
  have t : topFrom treeTable p w N s₀ = some s₁.abs := by
    unfold topFrom
    rw [d1, r]
    show (match staticsOk (importedModules p.main.body) s₀.heap s₁.abs.heap && namesBound p s₁.abs.heap && gensDone s₁.abs && laidKept s₀.heap s₁.abs.heap with | true => _ | false => _) = _
    rw [f1]
  unfold openEnds
  rw [a]
  show (topFrom treeTable p w N s₀).map _ = _
  rw [t]
  exact congrArg some (Prod.ext f2 f3)

noncomputable def bareFn (s : Stmt) (q : Str) : Obj := match s with
  | .FunctionDef n ps b _ _ _ sc .. => ⟨.none, none, .func ⟨n, q, ps, .stmts b, sc, 0, [], .none, .none, .none, .none, none, .none, .none, 0⟩, #[]⟩
  | _ => ⟨.none, none, .plain, #[]⟩
noncomputable def tupObj (vs : List Value) : Obj := ⟨.type "tuple", none, .seq vs.toArray 0, #[]⟩
noncomputable def fldObj (vs : List Value) : Obj := ⟨.none, none, .fields vs.toArray, #[]⟩
noncomputable def kx (P : Params) : Frag := [
  (11, tupObj []),
  (12, fldObj [.int 1 0, .int 0 0, .ref 20, .int 5 0, .int 0 0, .ref 27, .int 35 0, .int 0 0, .ref 69, .int 45 0, .int 0 0, .ref 76, .int 52 0, .int 0 0, .ref 100, .int 54 0, .int 0 0, .ref 113, .int 161 0, .int 0 0, .ref 196, .int 164 0, .int 0 0, .ref 203, .int 172 0, .int 0 0, .ref 210, .int 183 0, .int 0 0, .ref 217, .int 198 0, .int 0 0, .ref 224, .int 203 0, .int 0 0, .ref 229, .int 209 0, .int 0 0, .ref 236, .int 214 0, .int 0 0, .ref 243, .int 216 0, .int 0 0, .ref 250, .int 223 0, .int 0 0, .ref 257, .int 234 0, .int 0 0, .ref 262, .int 257 0, .int 0 0, .ref 267, .int 262 0, .int 0 0, .ref 274, .int 274 0, .int 0 0, .ref 279, .int 285 0, .int 0 0, .ref 284]),
  (13, codeObj [.str "<module>" 182, .str "<module>" 183, .str "/claim/cut.py" 184, .int 1 0, .int 0 0, .int 0 0, .int 0 0, .int 0 0, .ref 11, .bool false, .int 181 0, .ref 12, .none, .none, .none, .none, .int 185 0, .int 1 0, .str "/claim/cut.py" 186]),
  (14, { cls := .type "frame", slots := #[some (.ref 13), some (.ref 3), some (.ref 3), none, some (.str "__main__" 164), none, some (.ref 0)] }),
  (15, tupObj []),
  (16, fldObj []),
  (17, tupObj [.str "k" 190]),
  (18, tupObj []),
  (19, bareFn (topSt 0) "_wall"),
  (22, tupObj []),
  (23, { cls := .type "builtin_function_or_method", data := .fields #[.builtin "type.__prepare__", .type "type"] }),
  (24, nsObj P [("__module__", 203, .str "cpy313.urllib.robotparser" 194), ("__qualname__", 205, .str "Entry" 204), ("__firstlineno__", 207, .int 5 206), ("__init__", 214, .ref 35), ("__str__", 224, .ref 42), ("applies_to", 232, .ref 49), ("allowance", 240, .ref 56), ("__static_attributes__", 245, .ref 57)] 8),
  (25, tupObj []),
  (26, fldObj [.int 7 0, .int 4 0, .ref 34, .int 13 0, .int 4 0, .ref 41, .int 30 0, .int 4 0, .ref 48, .int 33 0, .int 4 0, .ref 55]),
  (27, codeObj [.str "Entry" 198, .str "Entry" 199, .str "/claim/cut.py" 200, .int 5 0, .int 0 0, .int 0 0, .int 0 0, .int 0 0, .ref 25, .bool false, .int 181 0, .ref 26, .none, .none, .none, .none, .int 201 0, .int 5 0, .str "/claim/cut.py" 202]),
  (28, { cls := .type "frame", slots := #[some (.ref 27), some (.ref 3), some (.ref 24), none, some (.str "cpy313.urllib.robotparser" 194), none, some (.ref 0)] }),
  (29, tupObj []),
  (30, fldObj []),
  (31, tupObj [.str "self" 211]),
  (32, tupObj []),
  (33, bareFn (clsSt 2 0) "Entry.__init__"),
  (36, tupObj []),
  (37, fldObj []),
  (38, tupObj [.str "self" 218, .str "ret" 219, .str "agent" 220, .str "rate" 221]),
  (39, tupObj []),
  (40, bareFn (clsSt 2 1) "Entry.__str__"),
  (43, tupObj []),
  (44, fldObj []),
  (45, tupObj [.str "self" 228, .str "useragent" 229]),
  (46, tupObj []),
  (47, bareFn (clsSt 2 2) "Entry.applies_to"),
  (50, tupObj []),
  (51, fldObj []),
  (52, tupObj [.str "self" 236, .str "filename" 237]),
  (53, tupObj []),
  (54, bareFn (clsSt 2 3) "Entry.allowance"),
  (57, tupObj [.str "delay" 241, .str "req_rate" 242, .str "rulelines" 243, .str "useragents" 244]),
  (62, { cls := .type "super", data := .fields #[.ref 59, .ref 59, .ref 59] }),
  (63, { cls := .type "builtin_function_or_method", data := .fields #[.builtin "object.__init_subclass__", .ref 59] }),
  (64, tupObj []),
  (65, fldObj []),
  (66, tupObj [.str "e1" 256, .str "e2" 257, .str "entry" 258]),
  (67, tupObj []),
  (68, bareFn (topSt 3) "merge_entries"),
  (71, tupObj []),
  (72, { cls := .type "builtin_function_or_method", data := .fields #[.builtin "type.__prepare__", .type "type"] }),
  (73, nsObj P [("__module__", 277, .str "cpy313.graphlib" 262), ("__qualname__", 279, .str "_NodeInfo" 278), ("__firstlineno__", 281, .int 45 280), ("__slots__", 285, .ref 78), ("__init__", 293, .ref 85), ("__static_attributes__", 297, .ref 86)] 6),
  (74, tupObj []),
  (75, fldObj [.int 48 0, .int 4 0, .ref 84]),
  (76, codeObj [.str "_NodeInfo" 272, .str "_NodeInfo" 273, .str "/claim/cut.py" 274, .int 45 0, .int 0 0, .int 0 0, .int 0 0, .int 0 0, .ref 74, .bool false, .int 181 0, .ref 75, .none, .none, .none, .none, .int 275 0, .int 45 0, .str "/claim/cut.py" 276]),
  (77, { cls := .type "frame", slots := #[some (.ref 76), some (.ref 3), some (.ref 73), none, some (.str "cpy313.graphlib" 262), none, some (.ref 0)] }),
  (78, tupObj [.str "node" 282, .str "npredecessors" 283, .str "successors" 284]),
  (79, tupObj []),
  (80, fldObj []),
  (81, tupObj [.str "self" 289, .str "node" 290]),
  (82, tupObj []),
  (83, bareFn (clsSt 7 1) "_NodeInfo.__init__"),
  (86, tupObj [.str "node" 294, .str "npredecessors" 295, .str "successors" 296]),
  (87, { cls := .type "list", data := .seq #[.str "node" 282, .str "npredecessors" 283, .str "successors" 284] 1 }),
  (93, { cls := .type "super", data := .fields #[.ref 89, .ref 89, .ref 89] }),
  (94, { cls := .type "builtin_function_or_method", data := .fields #[.builtin "object.__init_subclass__", .ref 89] }),
  (95, tupObj [.type "ValueError"]),
  (96, { cls := .type "builtin_function_or_method", data := .fields #[.builtin "type.__prepare__", .type "type"] }),
  (97, nsObj P [("__module__", 314, .str "cpy313.graphlib" 262), ("__qualname__", 316, .str "CycleError" 315), ("__firstlineno__", 318, .int 52 317), ("__static_attributes__", 319, .ref 102)] 4),
  (98, tupObj []),
  (99, fldObj []),
  (100, codeObj [.str "CycleError" 309, .str "CycleError" 310, .str "/claim/cut.py" 311, .int 52 0, .int 0 0, .int 0 0, .int 0 0, .int 0 0, .ref 98, .bool false, .int 181 0, .ref 99, .none, .none, .none, .none, .int 312 0, .int 52 0, .str "/claim/cut.py" 313]),
  (101, { cls := .type "frame", slots := #[some (.ref 100), some (.ref 3), some (.ref 97), none, some (.str "cpy313.graphlib" 262), none, some (.ref 0)] }),
  (102, tupObj []),
  (106, { cls := .type "super", data := .fields #[.ref 104, .ref 104, .ref 104] }),
  (107, { cls := .type "builtin_function_or_method", data := .fields #[.builtin "object.__init_subclass__", .ref 104] }),
  (108, tupObj []),
  (109, { cls := .type "builtin_function_or_method", data := .fields #[.builtin "type.__prepare__", .type "type"] }),
  (110, nsObj P [("__module__", 332, .str "cpy313.graphlib" 262), ("__qualname__", 334, .str "TopologicalSorter" 333), ("__firstlineno__", 336, .int 54 335), ("__init__", 346, .ref 122), ("_get_nodeinfo", 355, .ref 129), ("add", 367, .ref 136), ("prepare", 373, .ref 141), ("get_ready", 383, .ref 148), ("is_active", 390, .ref 155), ("__bool__", 397, .ref 162), ("done", 411, .ref 169), ("_find_cycle", 424, .ref 176), ("static_order", 431, .ref 183), ("__static_attributes__", 436, .ref 184)] 14),
  (111, tupObj []),
  (112, fldObj [.int 56 0, .int 4 0, .ref 121, .int 65 0, .int 4 0, .ref 128, .int 70 0, .int 4 0, .ref 135, .int 79 0, .int 4 0, .ref 140, .int 87 0, .int 4 0, .ref 147, .int 98 0, .int 4 0, .ref 154, .int 103 0, .int 4 0, .ref 161, .int 106 0, .int 4 0, .ref 168, .int 129 0, .int 4 0, .ref 175, .int 158 0, .int 4 0, .ref 182]),
  (113, codeObj [.str "TopologicalSorter" 327, .str "TopologicalSorter" 328, .str "/claim/cut.py" 329, .int 54 0, .int 0 0, .int 0 0, .int 0 0, .int 0 0, .ref 111, .bool false, .int 181 0, .ref 112, .none, .none, .none, .none, .int 330 0, .int 54 0, .str "/claim/cut.py" 331]),
  (114, { cls := .type "frame", slots := #[some (.ref 113), some (.ref 3), some (.ref 110), none, some (.str "cpy313.graphlib" 262), none, some (.ref 0)] }),
  (116, tupObj []),
  (117, fldObj []),
  (118, tupObj [.str "self" 340, .str "graph" 341, .str "node" 342, .str "predecessors" 343]),
  (119, tupObj []),
  (120, bareFn (clsSt 9 0) "TopologicalSorter.__init__"),
  (123, tupObj []),
  (124, fldObj []),
  (125, tupObj [.str "self" 350, .str "node" 351, .str "result" 352]),
  (126, tupObj []),
  (127, bareFn (clsSt 9 1) "TopologicalSorter._get_nodeinfo"),
  (130, tupObj []),
  (131, fldObj []),
  (132, tupObj [.str "self" 359, .str "node" 360, .str "predecessors" 361, .str "nodeinfo" 362, .str "pred" 363, .str "pred_info" 364]),
  (133, tupObj []),
  (134, bareFn (clsSt 9 2) "TopologicalSorter.add"),
  (137, tupObj []),
  (138, fldObj []),
  (139, bareFn (clsSt 9 3) "TopologicalSorter.prepare"),
  (142, tupObj []),
  (143, fldObj []),
  (144, tupObj [.str "self" 377, .str "result" 378, .str "n2i" 379, .str "node" 380]),
  (145, tupObj []),
  (146, bareFn (clsSt 9 4) "TopologicalSorter.get_ready"),
  (149, tupObj []),
  (150, fldObj []),
  (151, tupObj [.str "self" 387]),
  (152, tupObj []),
  (153, bareFn (clsSt 9 5) "TopologicalSorter.is_active"),
  (156, tupObj []),
  (157, fldObj []),
  (158, tupObj [.str "self" 394]),
  (159, tupObj []),
  (160, bareFn (clsSt 9 6) "TopologicalSorter.__bool__"),
  (163, tupObj []),
  (164, fldObj []),
  (165, tupObj [.str "self" 401, .str "nodes" 402, .str "n2i" 403, .str "node" 404, .str "nodeinfo" 405, .str "stat" 406, .str "successor" 407, .str "successor_info" 408]),
  (166, tupObj []),
  (167, bareFn (clsSt 9 7) "TopologicalSorter.done"),
  (170, tupObj []),
  (171, fldObj []),
  (172, tupObj [.str "self" 415, .str "n2i" 416, .str "stack" 417, .str "itstack" 418, .str "seen" 419, .str "node2stacki" 420, .str "node" 421]),
  (173, tupObj []),
  (174, bareFn (clsSt 9 8) "TopologicalSorter._find_cycle"),
  (177, tupObj []),
  (178, fldObj []),
  (179, tupObj [.str "self" 428]),
  (180, tupObj []),
  (181, bareFn (clsSt 9 9) "TopologicalSorter.static_order"),
  (184, tupObj [.str "_nfinished" 432, .str "_node2info" 433, .str "_npassedout" 434, .str "_ready_nodes" 435]),
  (189, { cls := .type "super", data := .fields #[.ref 186, .ref 186, .ref 186] }),
  (190, { cls := .type "builtin_function_or_method", data := .fields #[.builtin "object.__init_subclass__", .ref 186] }),
  (191, tupObj []),
  (192, fldObj []),
  (193, tupObj [.str "heap" 449, .str "item" 450]),
  (194, tupObj []),
  (195, bareFn (topSt 11) "heappush"),
  (198, tupObj []),
  (199, fldObj []),
  (200, tupObj [.str "heap" 457, .str "lastelt" 458, .str "returnitem" 459]),
  (201, tupObj []),
  (202, bareFn (topSt 12) "heappop"),
  (205, tupObj []),
  (206, fldObj []),
  (207, tupObj [.str "heap" 466, .str "startpos" 467, .str "pos" 468, .str "newitem" 469, .str "parentpos" 470, .str "parent" 471]),
  (208, tupObj []),
  (209, bareFn (topSt 13) "_siftdown"),
  (212, tupObj []),
  (213, fldObj []),
  (214, tupObj [.str "heap" 478, .str "pos" 479, .str "endpos" 480, .str "startpos" 481, .str "newitem" 482, .str "childpos" 483, .str "rightpos" 484]),
  (215, tupObj []),
  (216, bareFn (topSt 14) "_siftup"),
  (219, tupObj []),
  (220, fldObj []),
  (221, tupObj [.str "script" 493, .str "numbers" 494, .str "k" 495]),
  (222, tupObj []),
  (223, bareFn (topSt 16) "_law_numbers"),
  (226, tupObj []),
  (227, fldObj []),
  (228, bareFn (topSt 17) "_law_ahead"),
  (231, tupObj []),
  (232, fldObj []),
  (233, tupObj [.str "number" 508, .str "rest" 509]),
  (234, tupObj []),
  (235, bareFn (topSt 18) "_law_delay"),
  (238, tupObj []),
  (239, fldObj []),
  (240, tupObj [.str "place" 516]),
  (241, tupObj []),
  (242, bareFn (topSt 19) "_law_name"),
  (245, tupObj []),
  (246, fldObj []),
  (247, tupObj [.str "place" 523, .str "delay" 524, .str "ahead" 525, .str "lines" 526]),
  (248, tupObj []),
  (249, bareFn (topSt 20) "_law_lines"),
  (252, tupObj []),
  (253, fldObj []),
  (254, tupObj [.str "aheads" 533, .str "delays" 534, .str "records" 535, .str "place" 536, .str "record" 537, .str "one" 538]),
  (255, tupObj []),
  (256, bareFn (topSt 21) "_law_web"),
  (259, tupObj []),
  (260, fldObj []),
  (261, bareFn (topSt 22) "_law_merged"),
  (264, tupObj []),
  (265, fldObj []),
  (266, bareFn (topSt 23) "_law_ends"),
  (269, tupObj []),
  (270, fldObj []),
  (271, tupObj [.str "aheads" 557, .str "place" 558, .str "heap" 559, .str "going" 560, .str "way" 561, .str "one" 562, .str "ways" 563]),
  (272, tupObj []),
  (273, bareFn (topSt 24) "_law_ways"),
  (276, tupObj []),
  (277, fldObj []),
  (278, bareFn (topSt 25) "_law_told"),
  (281, tupObj []),
  (282, fldObj []),
  (283, bareFn (topSt 26) "law")]
noncomputable def oo (P : Params) (i : Nat) : Obj := match (kk P).lookup i with
  | some o => o
  | none => match (kx P).lookup i with
    | some o => o
    | none => default
noncomputable def ov12_sb (P : Params) : Obj := fldObj []
noncomputable def trsb (P : Params) : BT := .node (boot_o_0 P) (.node (boot_o_1 P) (.node (boot_o_3 P) (.node (boot_o_7 P) .nil .nil) (.node (oo P 11) .nil .nil)) (.node (boot_o_5 P) (.node (boot_o_9 P) .nil .nil) (.node (oo P 13) .nil .nil))) (.node (boot_o_2 P) (.node (boot_o_4 P) (.node (boot_o_8 P) .nil .nil) (.node (ov12_sb P) .nil .nil)) (.node (boot_o_6 P) (.node (boot_o_10 P) .nil .nil) (.node (oo P 14) .nil .nil)))
noncomputable def ov3_s6 (P : Params) : Obj := nsObj P [("__name__", 165, .str "cpy313.graphlib" 262), ("__doc__", 166, .none), ("__package__", 167, .none), ("__loader__", 168, .builtin "__main__.__loader__#opaque"), ("__spec__", 169, .none), ("__annotations__", 170, .ref 6), ("__builtins__", 171, .ref 4), ("__file__", 173, .str "/claim/cut.py" 172), ("__cached__", 174, .none), ("_wall", 193, .ref 21), ("Entry", 252, .ref 59), ("merge_entries", 261, .ref 70), ("_NODE_OUT", 266, .int (-1) 265), ("_NODE_DONE", 269, .int (-2) 268)] 14
noncomputable def ov12_s6 (P : Params) : Obj := fldObj [.int 1 0, .int 0 0, .ref 20, .int 5 0, .int 0 0, .ref 27, .int 35 0, .int 0 0, .ref 69]
noncomputable def trs6 (P : Params) : BT := .node (boot_o_0 P) (.node (boot_o_1 P) (.node (ov3_s6 P) (.node (boot_o_7 P) (.node (oo P 15) (.node (oo P 31) (.node (oo P 63) .nil .nil) .nil) (.node (oo P 47) .nil .nil)) (.node (oo P 23) (.node (oo P 39) .nil .nil) (.node (oo P 55) .nil .nil))) (.node (oo P 11) (.node (oo P 19) (.node (oo P 35) (.node (oo P 67) .nil .nil) .nil) (.node (oo P 51) .nil .nil)) (.node (oo P 27) (.node (oo P 43) .nil .nil) (.node (oo P 59) .nil .nil)))) (.node (boot_o_5 P) (.node (boot_o_9 P) (.node (oo P 17) (.node (oo P 33) (.node (oo P 65) .nil .nil) .nil) (.node (oo P 49) .nil .nil)) (.node (oo P 25) (.node (oo P 41) .nil .nil) (.node (oo P 57) .nil .nil))) (.node (oo P 13) (.node (oo P 21) (.node (oo P 37) (.node (oo P 69) .nil .nil) .nil) (.node (oo P 53) .nil .nil)) (.node (oo P 29) (.node (oo P 45) .nil .nil) (.node (oo P 61) .nil .nil))))) (.node (boot_o_2 P) (.node (boot_o_4 P) (.node (boot_o_8 P) (.node (oo P 16) (.node (oo P 32) (.node (oo P 64) .nil .nil) .nil) (.node (oo P 48) .nil .nil)) (.node (oo P 24) (.node (oo P 40) .nil .nil) (.node (oo P 56) .nil .nil))) (.node (ov12_s6 P) (.node (oo P 20) (.node (oo P 36) (.node (oo P 68) .nil .nil) .nil) (.node (oo P 52) .nil .nil)) (.node (oo P 28) (.node (oo P 44) .nil .nil) (.node (oo P 60) .nil .nil)))) (.node (boot_o_6 P) (.node (boot_o_10 P) (.node (oo P 18) (.node (oo P 34) (.node (oo P 66) .nil .nil) .nil) (.node (oo P 50) .nil .nil)) (.node (oo P 26) (.node (oo P 42) .nil .nil) (.node (oo P 58) .nil .nil))) (.node (oo P 14) (.node (oo P 22) (.node (oo P 38) (.node (oo P 70) .nil .nil) .nil) (.node (oo P 54) .nil .nil)) (.node (oo P 30) (.node (oo P 46) .nil .nil) (.node (oo P 62) .nil .nil)))))
noncomputable def ov3_s8 (P : Params) : Obj := nsObj P [("__name__", 165, .str "cpy313.graphlib" 262), ("__doc__", 166, .none), ("__package__", 167, .none), ("__loader__", 168, .builtin "__main__.__loader__#opaque"), ("__spec__", 169, .none), ("__annotations__", 170, .ref 6), ("__builtins__", 171, .ref 4), ("__file__", 173, .str "/claim/cut.py" 172), ("__cached__", 174, .none), ("_wall", 193, .ref 21), ("Entry", 252, .ref 59), ("merge_entries", 261, .ref 70), ("_NODE_OUT", 266, .int (-1) 265), ("_NODE_DONE", 269, .int (-2) 268), ("_NodeInfo", 306, .ref 89), ("CycleError", 324, .ref 104)] 16
noncomputable def ov12_s8 (P : Params) : Obj := fldObj [.int 1 0, .int 0 0, .ref 20, .int 5 0, .int 0 0, .ref 27, .int 35 0, .int 0 0, .ref 69, .int 45 0, .int 0 0, .ref 76, .int 52 0, .int 0 0, .ref 100]
noncomputable def trs8 (P : Params) : BT := .node (boot_o_0 P) (.node (boot_o_1 P) (.node (ov3_s8 P) (.node (boot_o_7 P) (.node (oo P 15) (.node (oo P 31) (.node (oo P 63) .nil .nil) (.node (oo P 95) .nil .nil)) (.node (oo P 47) (.node (oo P 79) .nil .nil) .nil)) (.node (oo P 23) (.node (oo P 39) (.node (oo P 71) .nil .nil) (.node (oo P 103) .nil .nil)) (.node (oo P 55) (.node (oo P 87) .nil .nil) .nil))) (.node (oo P 11) (.node (oo P 19) (.node (oo P 35) (.node (oo P 67) .nil .nil) (.node (oo P 99) .nil .nil)) (.node (oo P 51) (.node (oo P 83) .nil .nil) .nil)) (.node (oo P 27) (.node (oo P 43) (.node (oo P 75) .nil .nil) (.node (oo P 107) .nil .nil)) (.node (oo P 59) (.node (oo P 91) .nil .nil) .nil)))) (.node (boot_o_5 P) (.node (boot_o_9 P) (.node (oo P 17) (.node (oo P 33) (.node (oo P 65) .nil .nil) (.node (oo P 97) .nil .nil)) (.node (oo P 49) (.node (oo P 81) .nil .nil) .nil)) (.node (oo P 25) (.node (oo P 41) (.node (oo P 73) .nil .nil) (.node (oo P 105) .nil .nil)) (.node (oo P 57) (.node (oo P 89) .nil .nil) .nil))) (.node (oo P 13) (.node (oo P 21) (.node (oo P 37) (.node (oo P 69) .nil .nil) (.node (oo P 101) .nil .nil)) (.node (oo P 53) (.node (oo P 85) .nil .nil) .nil)) (.node (oo P 29) (.node (oo P 45) (.node (oo P 77) .nil .nil) .nil) (.node (oo P 61) (.node (oo P 93) .nil .nil) .nil))))) (.node (boot_o_2 P) (.node (boot_o_4 P) (.node (boot_o_8 P) (.node (oo P 16) (.node (oo P 32) (.node (oo P 64) .nil .nil) (.node (oo P 96) .nil .nil)) (.node (oo P 48) (.node (oo P 80) .nil .nil) .nil)) (.node (oo P 24) (.node (oo P 40) (.node (oo P 72) .nil .nil) (.node (oo P 104) .nil .nil)) (.node (oo P 56) (.node (oo P 88) .nil .nil) .nil))) (.node (ov12_s8 P) (.node (oo P 20) (.node (oo P 36) (.node (oo P 68) .nil .nil) (.node (oo P 100) .nil .nil)) (.node (oo P 52) (.node (oo P 84) .nil .nil) .nil)) (.node (oo P 28) (.node (oo P 44) (.node (oo P 76) .nil .nil) .nil) (.node (oo P 60) (.node (oo P 92) .nil .nil) .nil)))) (.node (boot_o_6 P) (.node (boot_o_10 P) (.node (oo P 18) (.node (oo P 34) (.node (oo P 66) .nil .nil) (.node (oo P 98) .nil .nil)) (.node (oo P 50) (.node (oo P 82) .nil .nil) .nil)) (.node (oo P 26) (.node (oo P 42) (.node (oo P 74) .nil .nil) (.node (oo P 106) .nil .nil)) (.node (oo P 58) (.node (oo P 90) .nil .nil) .nil))) (.node (oo P 14) (.node (oo P 22) (.node (oo P 38) (.node (oo P 70) .nil .nil) (.node (oo P 102) .nil .nil)) (.node (oo P 54) (.node (oo P 86) .nil .nil) .nil)) (.node (oo P 30) (.node (oo P 46) (.node (oo P 78) .nil .nil) .nil) (.node (oo P 62) (.node (oo P 94) .nil .nil) .nil)))))
noncomputable def ov3_s9 (P : Params) : Obj := nsObj P [("__name__", 165, .str "cpy313.graphlib" 262), ("__doc__", 166, .none), ("__package__", 167, .none), ("__loader__", 168, .builtin "__main__.__loader__#opaque"), ("__spec__", 169, .none), ("__annotations__", 170, .ref 6), ("__builtins__", 171, .ref 4), ("__file__", 173, .str "/claim/cut.py" 172), ("__cached__", 174, .none), ("_wall", 193, .ref 21), ("Entry", 252, .ref 59), ("merge_entries", 261, .ref 70), ("_NODE_OUT", 266, .int (-1) 265), ("_NODE_DONE", 269, .int (-2) 268), ("_NodeInfo", 306, .ref 89), ("CycleError", 324, .ref 104), ("TopologicalSorter", 443, .ref 186)] 17
noncomputable def ov12_s9 (P : Params) : Obj := fldObj [.int 1 0, .int 0 0, .ref 20, .int 5 0, .int 0 0, .ref 27, .int 35 0, .int 0 0, .ref 69, .int 45 0, .int 0 0, .ref 76, .int 52 0, .int 0 0, .ref 100, .int 54 0, .int 0 0, .ref 113]
noncomputable def trs9 (P : Params) : BT := .node (boot_o_0 P) (.node (boot_o_1 P) (.node (ov3_s9 P) (.node (boot_o_7 P) (.node (oo P 15) (.node (oo P 31) (.node (oo P 63) (.node (oo P 127) .nil .nil) .nil) (.node (oo P 95) (.node (oo P 159) .nil .nil) .nil)) (.node (oo P 47) (.node (oo P 79) (.node (oo P 143) .nil .nil) .nil) (.node (oo P 111) (.node (oo P 175) .nil .nil) .nil))) (.node (oo P 23) (.node (oo P 39) (.node (oo P 71) (.node (oo P 135) .nil .nil) .nil) (.node (oo P 103) (.node (oo P 167) .nil .nil) .nil)) (.node (oo P 55) (.node (oo P 87) (.node (oo P 151) .nil .nil) .nil) (.node (oo P 119) (.node (oo P 183) .nil .nil) .nil)))) (.node (oo P 11) (.node (oo P 19) (.node (oo P 35) (.node (oo P 67) (.node (oo P 131) .nil .nil) .nil) (.node (oo P 99) (.node (oo P 163) .nil .nil) .nil)) (.node (oo P 51) (.node (oo P 83) (.node (oo P 147) .nil .nil) .nil) (.node (oo P 115) (.node (oo P 179) .nil .nil) .nil))) (.node (oo P 27) (.node (oo P 43) (.node (oo P 75) (.node (oo P 139) .nil .nil) .nil) (.node (oo P 107) (.node (oo P 171) .nil .nil) .nil)) (.node (oo P 59) (.node (oo P 91) (.node (oo P 155) .nil .nil) .nil) (.node (oo P 123) (.node (oo P 187) .nil .nil) .nil))))) (.node (boot_o_5 P) (.node (boot_o_9 P) (.node (oo P 17) (.node (oo P 33) (.node (oo P 65) (.node (oo P 129) .nil .nil) .nil) (.node (oo P 97) (.node (oo P 161) .nil .nil) .nil)) (.node (oo P 49) (.node (oo P 81) (.node (oo P 145) .nil .nil) .nil) (.node (oo P 113) (.node (oo P 177) .nil .nil) .nil))) (.node (oo P 25) (.node (oo P 41) (.node (oo P 73) (.node (oo P 137) .nil .nil) .nil) (.node (oo P 105) (.node (oo P 169) .nil .nil) .nil)) (.node (oo P 57) (.node (oo P 89) (.node (oo P 153) .nil .nil) .nil) (.node (oo P 121) (.node (oo P 185) .nil .nil) .nil)))) (.node (oo P 13) (.node (oo P 21) (.node (oo P 37) (.node (oo P 69) (.node (oo P 133) .nil .nil) .nil) (.node (oo P 101) (.node (oo P 165) .nil .nil) .nil)) (.node (oo P 53) (.node (oo P 85) (.node (oo P 149) .nil .nil) .nil) (.node (oo P 117) (.node (oo P 181) .nil .nil) .nil))) (.node (oo P 29) (.node (oo P 45) (.node (oo P 77) (.node (oo P 141) .nil .nil) .nil) (.node (oo P 109) (.node (oo P 173) .nil .nil) .nil)) (.node (oo P 61) (.node (oo P 93) (.node (oo P 157) .nil .nil) .nil) (.node (oo P 125) (.node (oo P 189) .nil .nil) .nil)))))) (.node (boot_o_2 P) (.node (boot_o_4 P) (.node (boot_o_8 P) (.node (oo P 16) (.node (oo P 32) (.node (oo P 64) (.node (oo P 128) .nil .nil) .nil) (.node (oo P 96) (.node (oo P 160) .nil .nil) .nil)) (.node (oo P 48) (.node (oo P 80) (.node (oo P 144) .nil .nil) .nil) (.node (oo P 112) (.node (oo P 176) .nil .nil) .nil))) (.node (oo P 24) (.node (oo P 40) (.node (oo P 72) (.node (oo P 136) .nil .nil) .nil) (.node (oo P 104) (.node (oo P 168) .nil .nil) .nil)) (.node (oo P 56) (.node (oo P 88) (.node (oo P 152) .nil .nil) .nil) (.node (oo P 120) (.node (oo P 184) .nil .nil) .nil)))) (.node (ov12_s9 P) (.node (oo P 20) (.node (oo P 36) (.node (oo P 68) (.node (oo P 132) .nil .nil) .nil) (.node (oo P 100) (.node (oo P 164) .nil .nil) .nil)) (.node (oo P 52) (.node (oo P 84) (.node (oo P 148) .nil .nil) .nil) (.node (oo P 116) (.node (oo P 180) .nil .nil) .nil))) (.node (oo P 28) (.node (oo P 44) (.node (oo P 76) (.node (oo P 140) .nil .nil) .nil) (.node (oo P 108) (.node (oo P 172) .nil .nil) .nil)) (.node (oo P 60) (.node (oo P 92) (.node (oo P 156) .nil .nil) .nil) (.node (oo P 124) (.node (oo P 188) .nil .nil) .nil))))) (.node (boot_o_6 P) (.node (boot_o_10 P) (.node (oo P 18) (.node (oo P 34) (.node (oo P 66) (.node (oo P 130) .nil .nil) .nil) (.node (oo P 98) (.node (oo P 162) .nil .nil) .nil)) (.node (oo P 50) (.node (oo P 82) (.node (oo P 146) .nil .nil) .nil) (.node (oo P 114) (.node (oo P 178) .nil .nil) .nil))) (.node (oo P 26) (.node (oo P 42) (.node (oo P 74) (.node (oo P 138) .nil .nil) .nil) (.node (oo P 106) (.node (oo P 170) .nil .nil) .nil)) (.node (oo P 58) (.node (oo P 90) (.node (oo P 154) .nil .nil) .nil) (.node (oo P 122) (.node (oo P 186) .nil .nil) .nil)))) (.node (oo P 14) (.node (oo P 22) (.node (oo P 38) (.node (oo P 70) (.node (oo P 134) .nil .nil) .nil) (.node (oo P 102) (.node (oo P 166) .nil .nil) .nil)) (.node (oo P 54) (.node (oo P 86) (.node (oo P 150) .nil .nil) .nil) (.node (oo P 118) (.node (oo P 182) .nil .nil) .nil))) (.node (oo P 30) (.node (oo P 46) (.node (oo P 78) (.node (oo P 142) .nil .nil) .nil) (.node (oo P 110) (.node (oo P 174) .nil .nil) .nil)) (.node (oo P 62) (.node (oo P 94) (.node (oo P 158) .nil .nil) .nil) (.node (oo P 126) (.node (oo P 190) .nil .nil) .nil))))))
noncomputable def trsf (P : Params) : BT := .node (boot_o_0 P) (.node (boot_o_1 P) (.node (oo P 3) (.node (boot_o_7 P) (.node (oo P 15) (.node (oo P 31) (.node (oo P 63) (.node (oo P 127) (.node (oo P 255) .nil .nil) .nil) (.node (oo P 191) .nil .nil)) (.node (oo P 95) (.node (oo P 159) .nil .nil) (.node (oo P 223) .nil .nil))) (.node (oo P 47) (.node (oo P 79) (.node (oo P 143) (.node (oo P 271) .nil .nil) .nil) (.node (oo P 207) .nil .nil)) (.node (oo P 111) (.node (oo P 175) .nil .nil) (.node (oo P 239) .nil .nil)))) (.node (oo P 23) (.node (oo P 39) (.node (oo P 71) (.node (oo P 135) (.node (oo P 263) .nil .nil) .nil) (.node (oo P 199) .nil .nil)) (.node (oo P 103) (.node (oo P 167) .nil .nil) (.node (oo P 231) .nil .nil))) (.node (oo P 55) (.node (oo P 87) (.node (oo P 151) (.node (oo P 279) .nil .nil) .nil) (.node (oo P 215) .nil .nil)) (.node (oo P 119) (.node (oo P 183) .nil .nil) (.node (oo P 247) .nil .nil))))) (.node (oo P 11) (.node (oo P 19) (.node (oo P 35) (.node (oo P 67) (.node (oo P 131) (.node (oo P 259) .nil .nil) .nil) (.node (oo P 195) .nil .nil)) (.node (oo P 99) (.node (oo P 163) .nil .nil) (.node (oo P 227) .nil .nil))) (.node (oo P 51) (.node (oo P 83) (.node (oo P 147) (.node (oo P 275) .nil .nil) .nil) (.node (oo P 211) .nil .nil)) (.node (oo P 115) (.node (oo P 179) .nil .nil) (.node (oo P 243) .nil .nil)))) (.node (oo P 27) (.node (oo P 43) (.node (oo P 75) (.node (oo P 139) (.node (oo P 267) .nil .nil) .nil) (.node (oo P 203) .nil .nil)) (.node (oo P 107) (.node (oo P 171) .nil .nil) (.node (oo P 235) .nil .nil))) (.node (oo P 59) (.node (oo P 91) (.node (oo P 155) (.node (oo P 283) .nil .nil) .nil) (.node (oo P 219) .nil .nil)) (.node (oo P 123) (.node (oo P 187) .nil .nil) (.node (oo P 251) .nil .nil)))))) (.node (boot_o_5 P) (.node (boot_o_9 P) (.node (oo P 17) (.node (oo P 33) (.node (oo P 65) (.node (oo P 129) (.node (oo P 257) .nil .nil) .nil) (.node (oo P 193) .nil .nil)) (.node (oo P 97) (.node (oo P 161) .nil .nil) (.node (oo P 225) .nil .nil))) (.node (oo P 49) (.node (oo P 81) (.node (oo P 145) (.node (oo P 273) .nil .nil) .nil) (.node (oo P 209) .nil .nil)) (.node (oo P 113) (.node (oo P 177) .nil .nil) (.node (oo P 241) .nil .nil)))) (.node (oo P 25) (.node (oo P 41) (.node (oo P 73) (.node (oo P 137) (.node (oo P 265) .nil .nil) .nil) (.node (oo P 201) .nil .nil)) (.node (oo P 105) (.node (oo P 169) .nil .nil) (.node (oo P 233) .nil .nil))) (.node (oo P 57) (.node (oo P 89) (.node (oo P 153) (.node (oo P 281) .nil .nil) .nil) (.node (oo P 217) .nil .nil)) (.node (oo P 121) (.node (oo P 185) .nil .nil) (.node (oo P 249) .nil .nil))))) (.node (oo P 13) (.node (oo P 21) (.node (oo P 37) (.node (oo P 69) (.node (oo P 133) (.node (oo P 261) .nil .nil) .nil) (.node (oo P 197) .nil .nil)) (.node (oo P 101) (.node (oo P 165) .nil .nil) (.node (oo P 229) .nil .nil))) (.node (oo P 53) (.node (oo P 85) (.node (oo P 149) (.node (oo P 277) .nil .nil) .nil) (.node (oo P 213) .nil .nil)) (.node (oo P 117) (.node (oo P 181) .nil .nil) (.node (oo P 245) .nil .nil)))) (.node (oo P 29) (.node (oo P 45) (.node (oo P 77) (.node (oo P 141) (.node (oo P 269) .nil .nil) .nil) (.node (oo P 205) .nil .nil)) (.node (oo P 109) (.node (oo P 173) .nil .nil) (.node (oo P 237) .nil .nil))) (.node (oo P 61) (.node (oo P 93) (.node (oo P 157) (.node (oo P 285) .nil .nil) .nil) (.node (oo P 221) .nil .nil)) (.node (oo P 125) (.node (oo P 189) .nil .nil) (.node (oo P 253) .nil .nil))))))) (.node (boot_o_2 P) (.node (boot_o_4 P) (.node (boot_o_8 P) (.node (oo P 16) (.node (oo P 32) (.node (oo P 64) (.node (oo P 128) (.node (oo P 256) .nil .nil) .nil) (.node (oo P 192) .nil .nil)) (.node (oo P 96) (.node (oo P 160) .nil .nil) (.node (oo P 224) .nil .nil))) (.node (oo P 48) (.node (oo P 80) (.node (oo P 144) (.node (oo P 272) .nil .nil) .nil) (.node (oo P 208) .nil .nil)) (.node (oo P 112) (.node (oo P 176) .nil .nil) (.node (oo P 240) .nil .nil)))) (.node (oo P 24) (.node (oo P 40) (.node (oo P 72) (.node (oo P 136) (.node (oo P 264) .nil .nil) .nil) (.node (oo P 200) .nil .nil)) (.node (oo P 104) (.node (oo P 168) .nil .nil) (.node (oo P 232) .nil .nil))) (.node (oo P 56) (.node (oo P 88) (.node (oo P 152) (.node (oo P 280) .nil .nil) .nil) (.node (oo P 216) .nil .nil)) (.node (oo P 120) (.node (oo P 184) .nil .nil) (.node (oo P 248) .nil .nil))))) (.node (oo P 12) (.node (oo P 20) (.node (oo P 36) (.node (oo P 68) (.node (oo P 132) (.node (oo P 260) .nil .nil) .nil) (.node (oo P 196) .nil .nil)) (.node (oo P 100) (.node (oo P 164) .nil .nil) (.node (oo P 228) .nil .nil))) (.node (oo P 52) (.node (oo P 84) (.node (oo P 148) (.node (oo P 276) .nil .nil) .nil) (.node (oo P 212) .nil .nil)) (.node (oo P 116) (.node (oo P 180) .nil .nil) (.node (oo P 244) .nil .nil)))) (.node (oo P 28) (.node (oo P 44) (.node (oo P 76) (.node (oo P 140) (.node (oo P 268) .nil .nil) .nil) (.node (oo P 204) .nil .nil)) (.node (oo P 108) (.node (oo P 172) .nil .nil) (.node (oo P 236) .nil .nil))) (.node (oo P 60) (.node (oo P 92) (.node (oo P 156) (.node (oo P 284) .nil .nil) .nil) (.node (oo P 220) .nil .nil)) (.node (oo P 124) (.node (oo P 188) .nil .nil) (.node (oo P 252) .nil .nil)))))) (.node (boot_o_6 P) (.node (boot_o_10 P) (.node (oo P 18) (.node (oo P 34) (.node (oo P 66) (.node (oo P 130) (.node (oo P 258) .nil .nil) .nil) (.node (oo P 194) .nil .nil)) (.node (oo P 98) (.node (oo P 162) .nil .nil) (.node (oo P 226) .nil .nil))) (.node (oo P 50) (.node (oo P 82) (.node (oo P 146) (.node (oo P 274) .nil .nil) .nil) (.node (oo P 210) .nil .nil)) (.node (oo P 114) (.node (oo P 178) .nil .nil) (.node (oo P 242) .nil .nil)))) (.node (oo P 26) (.node (oo P 42) (.node (oo P 74) (.node (oo P 138) (.node (oo P 266) .nil .nil) .nil) (.node (oo P 202) .nil .nil)) (.node (oo P 106) (.node (oo P 170) .nil .nil) (.node (oo P 234) .nil .nil))) (.node (oo P 58) (.node (oo P 90) (.node (oo P 154) (.node (oo P 282) .nil .nil) .nil) (.node (oo P 218) .nil .nil)) (.node (oo P 122) (.node (oo P 186) .nil .nil) (.node (oo P 250) .nil .nil))))) (.node (oo P 14) (.node (oo P 22) (.node (oo P 38) (.node (oo P 70) (.node (oo P 134) (.node (oo P 262) .nil .nil) .nil) (.node (oo P 198) .nil .nil)) (.node (oo P 102) (.node (oo P 166) .nil .nil) (.node (oo P 230) .nil .nil))) (.node (oo P 54) (.node (oo P 86) (.node (oo P 150) (.node (oo P 278) .nil .nil) .nil) (.node (oo P 214) .nil .nil)) (.node (oo P 118) (.node (oo P 182) .nil .nil) (.node (oo P 246) .nil .nil)))) (.node (oo P 30) (.node (oo P 46) (.node (oo P 78) (.node (oo P 142) (.node (oo P 270) .nil .nil) .nil) (.node (oo P 206) .nil .nil)) (.node (oo P 110) (.node (oo P 174) .nil .nil) (.node (oo P 238) .nil .nil))) (.node (oo P 62) (.node (oo P 94) (.node (oo P 158) .nil .nil) (.node (oo P 222) .nil .nil)) (.node (oo P 126) (.node (oo P 190) .nil .nil) (.node (oo P 254) .nil .nil)))))))

section
set_option maxRecDepth 100000
noncomputable abbrev pg : Program := PySem.Challenge.rw_oh0068_01.prog
noncomputable abbrev bb : List Stmt := behindTheImports pg
noncomputable abbrev ev : Env := { scope := pg.main.scope, locals := mainNs, globals := mainNs, cells := [], code := .ref 13, frame := some 14 }
noncomputable abbrev cE : Code := .body bb ev
abbrev q0 : Pos := ⟨0, 0, 0, 0⟩
noncomputable abbrev sT (t : Params → BT) (n k : Nat) (w : World) (os : OsState) : SharedT := ⟨t w.params, n, {}, Array.mk [], {}, k, os⟩
abbrev an : Option Value := some (.ref 6)
noncomputable abbrev hF (w : World) : Heap := absHeap (trsf w.params) 286 {}
noncomputable abbrev sF (w : World) (os : OsState) : Shared := ⟨hF w, Array.mk [], {}, 579, os⟩
theorem quick_seg {p : Program} {w : World} {n₀ b n : Nat} {an : Option Value} {s : SharedT} {l : List Stmt} {env : Env} {c : Code} {q : Pos} {B : List Frame} {f : Flow} {s' : SharedT} {c' : Code} {q' : Pos}
    (h : Fast.tw10110043849684766642 Fast.tw14364793385576792824 p w n₀ an b n s ⟨(Fast.tw12563942051412417395 l env).wrap doneF deadEnd id id, c, q, B⟩ = some (f, s', c', q')) : segRun treeTable p w n₀ an b n s.abs (piecesOf l env c q B) = some (f, s'.abs, c', q') := by
  refine segRun_of ?_
  unfold piecesOf
  rw [Fast.te10110043849684766642, Fast.te14364793385576792824, Fast.te12563942051412417395]
  exact h
section
set_option maxHeartbeats 8000000
theorem top_open : ∀ w : World, (fencedOpening treeTable pg w 3872).map (fun s => (s.heap, s.gens, s.drawn, s.toks)) = some (boot_heap w.params, Array.mk [], boot_drawn, boot_toks) :=
  boot_open (by kernel_rfl) (by kernel_rfl) (fun s => by kernel_rfl)
theorem top_size (w : World) : ((boot_heap w.params).isNs mainGlobals && (Array.mk [] : Array GenState).size == 0, (boot_heap w.params).objs.size, (boot_heap w.params).nsMap mainGlobals "__annotations__") = (true, 11, an) := by kernel_rfl
theorem top_pre (w : World) (os : OsState) : topGo treeTable pg w 11 an 12 ⟨boot_heap w.params, Array.mk [], boot_drawn, boot_toks, os⟩ (topStub pg) = some ((sT trsb 15 187 w os).abs, ⟨denote treeTable cE, cE, q0, [topFrame q0]⟩) := by kernel_rfl
theorem top_block (w : World) (os : OsState) : segRun treeTable pg w 11 an 1 1 (sT trsb 15 187 w os).abs (blockOf bb ev cE q0 [topFrame q0]) = some (.next, (sT trsb 15 187 w os).abs, cE, q0) := by kernel_rfl
theorem top_c1 (w : World) (os : OsState) : segRun treeTable pg w 11 an 1 429 (sT trsb 15 187 w os).abs (piecesOf (bb.take 7) ev cE q0 [topFrame q0]) = some (.next, (sT trs6 71 270 w os).abs, cE, ⟨44, 0, 44, 10⟩) := quick_seg (by kernel_rfl)
theorem top_c2 (w : World) (os : OsState) : segRun treeTable pg w 11 an 1 450 (sT trs6 71 270 w os).abs (piecesOf ((bb.drop 7).take 2) ev cE ⟨44, 0, 44, 10⟩ [topFrame q0]) = some (.next, (sT trs8 108 325 w os).abs, cE, ⟨52, 0, 53, 8⟩) := quick_seg (by kernel_rfl)
theorem top_c3 (w : World) (os : OsState) : segRun treeTable pg w 11 an 1 528 (sT trs8 108 325 w os).abs (piecesOf (((bb.drop 7).drop 2).take 1) ev cE ⟨52, 0, 53, 8⟩ [topFrame q0]) = some (.next, (sT trs9 191 444 w os).abs, cE, ⟨54, 0, 159, 16⟩) := quick_seg (by kernel_rfl)
theorem top_c4 (w : World) (os : OsState) : segRun treeTable pg w 11 an 1 470 (sT trs9 191 444 w os).abs (piecesOf (((bb.drop 7).drop 2).drop 1) ev cE ⟨54, 0, 159, 16⟩ [topFrame q0]) = some (.next, sF w os, cE, ⟨285, 0, 302, 15⟩) := quick_seg (s' := sT trsf 286 579 w os) (by kernel_rfl)
theorem top_fin (w : World) (os : OsState) : topRun treeTable pg w 11 an 2 (sF w os) (restOf [] ev cE ⟨285, 0, 302, 15⟩ [topFrame q0]) = some (sF w os) := by kernel_rfl
end
theorem top_run (w : World) (os : OsState) : topRun treeTable pg w 11 an (12 + (1 + (429 + (450 + (528 + (470 + 2)))))) ⟨boot_heap w.params, Array.mk [], boot_drawn, boot_toks, os⟩ (topStub pg) = some (sF w os) := by
  refine go_top (top_pre w os) (piece_block (top_block w os) ?_)
  have e1 : bb = bb.take 7 ++ bb.drop 7 := (List.take_append_drop 7 bb).symm
  have e2 : bb.drop 7 = (bb.drop 7).take 2 ++ (bb.drop 7).drop 2 := (List.take_append_drop 2 _).symm
  have e3 : (bb.drop 7).drop 2 = ((bb.drop 7).drop 2).take 1 ++ ((bb.drop 7).drop 2).drop 1 := (List.take_append_drop 1 _).symm
  have e4 : ((bb.drop 7).drop 2).drop 1 = ((bb.drop 7).drop 2).drop 1 ++ [] := (List.append_nil _).symm
  have k4 := piece_app (rest := []) (top_c4 w os) (top_fin w os)
  rw [← e4] at k4
  have k3 := piece_app (top_c3 w os) k4
  rw [← e3] at k3
  have k2 := piece_app (top_c2 w os) k3
  rw [← e2] at k2
  have k1 := piece_app (top_c1 w os) k2
  rw [← e1] at k1
  exact k1
end

section
set_option maxRecDepth 100000
noncomputable abbrev HH : Hook := kHook kk kas (fun _ => by kernel_rfl)
noncomputable abbrev XT : Shared → Bool := fun s => xlAt vw [] s && recOk (RowW.records PySem.Challenge.rw_oh0068_01.row.toRowW) s
abbrev ll : List Str := [Str.ofString "_NodeInfo"]
section
set_option maxHeartbeats 8000000
theorem top_la (w : World) (os : OsState) : (staticsOk (importedModules pg.main.body) (boot_heap w.params) (hF w) && namesBound pg (hF w) && gensDone (sF w os) && laidKept (boot_heap w.params) (hF w)) = true := by kernel_rfl
theorem top_lb (w : World) (os : OsState) : seen ((recsOf vw).map (·.name)) (ownsOf vw) [] { sF w os with gens := #[] } = expectedOf vw := by kernel_rfl
theorem top_lc (w : World) : (hF w).bltView = bltViewBooted := by kernel_rfl
theorem top_ld (w : World) (os : OsState) : ((hF w).keysOk (looseW vw ll) ((recsOf vw).map (·.name)) ((litsOf vw).map (·.1)) ((clssOf vw (looseW vw ll)).map (·.name)) && (hF w).accountedOkI (importedModules pg.main.body) && (hF w).isNs mainGlobals && (hF w).isNs builtinsNs && tablesOk vw (hF w) && XT (sF w os) && (if true then (sF w os).gens.size == 0 else !leftWithCleanup (sF w os).gens)) = true := by kernel_rfl
theorem top_le (w : World) (os : OsState) : tabsOk vw (sF w os) = true := by kernel_rfl
theorem top_lf (w : World) (os : OsState) : pinSeenD vw (drecsOf vw) (sF w os) = pinGoodD (drecsOf vw) := by kernel_rfl
theorem top_lg (w : World) (os : OsState) : plainSeenE vw (looseW vw ll) (sF w os) = plainGoodE vw (looseW vw ll) := by kernel_rfl
theorem top_lh (w : World) (os : OsState) : plainSeenD vw ll (sF w os) = plainGoodD vw ll := by kernel_rfl
theorem top_li (w : World) (os : OsState) : wideSeen vw (sF w os) = wideGood vw := by kernel_rfl
theorem top_lj (w : World) (os : OsState) : clsSeenW vw ll (sF w os) = clsGoodW vw ll := by kernel_rfl
theorem top_lk (w : World) (os : OsState) : Hook.obs HH (sF w os) = Hook.val HH w := by kernel_rfl
theorem top_looks (w : World) (os : OsState) : openSeen vw ll (importedModules pg.main.body) XT true (sF w os) = openGood vw ll := by
  delta openSeen openGood
  with_reducible exact looks_pair (top_lb w os) (looks_pair (top_lc w) (looks_pair (top_ld w os) (looks_pair (top_le w os) (looks_pair (top_lf w os) (looks_pair (top_lg w os) (looks_pair (top_lh w os) (looks_pair (top_li w os) (top_lj w os))))))))
end
theorem top_left : LeftO pg vw ll XT (Hook.obs HH) (Hook.val HH) 3872 :=
  LeftO.of_pieces (H₀ := boot_heap) (H₁ := fun P => absHeap (trsf P) 286 {}) (gs₀ := Array.mk []) (gs₁ := Array.mk []) (d₀ := boot_drawn) (d₁ := {}) (k₀ := boot_toks) (k₁ := 579) (m₀ := 11) (ann := an) (M := 12 + (1 + (429 + (450 + (528 + (470 + 2)))))) top_open top_size top_run rfl
    fun w => funext fun os => looks_pair (top_la w os) (looks_pair (top_looks w os) (top_lk w os))
end

section
section
set_option maxRecDepth 100000
theorem law_end {w : World} {s₁ : Shared} {mg mb : Str → Option Value} {mean : ExcName → Option Value} {h₁ : Heap} {tk : Nat} {m : Str → Option Value} {a : Addr} {o1 o2 o3 : Obj} {c1 c2 c3 : Option Value} {nm : Str} {nmm : List (Str × NameKind)} {mr : List (Str × Const)} {fa : Addr} {cd : Value} {body : List Stmt} {Q : Flow → Shared → Prop} {E : Value → Shared → Prop} {vs : List Value} {ns : List Int} (KX : (KK w.params).In s₁.heap) (T : Top VW LS mean mg mb s₁.heap) (F : Fr s₁.heap s₁.heap.objs.size h₁ m)
    (N0 : News s₁.heap s₁.heap.objs.size h₁ [(s₁.heap.objs.size + 1 + 1 + 1, o3), (s₁.heap.objs.size + 1 + 1, o2), (s₁.heap.objs.size + 1, o1)]) (e3 : o3.data = .cell c3) (e2 : o2.data = .cell c2) (e1 : o1.data = .cell c1) (hL : s₁.heap.IsList a vs.toArray) (hI : IntsAre vs ns) (hl : ¬ ((63 : Int) < (ns.length : Int)))
    (hsc : m (Str.ofString "script") = some (.ref a))
    (hQ : ∀ s' m', Fr s₁.heap s₁.heap.objs.size s'.heap m' → s'.gens = s₁.gens → s'.os = s₁.os → Q (.ret (.bool true)) s')
    (hX : ∀ (G : Gl w) (L : Addr), G.hb.IsList a vs.toArray → VRs (mints ns) vs → ns.length ≤ 63 → X G (callerA.deeper (envS nmm mr (cellsFrom (L + 1) nmm []) L (nm ++ ".<locals>.") fa cd)) (envS nmm mr (cellsFrom (L + 1) nmm []) L (nm ++ ".<locals>.") fa cd).locals (execs body (envS nmm mr (cellsFrom (L + 1) nmm []) L (nm ++ ".<locals>.") fa cd)) (fun fl _ _ => fl = .ret (.bool true)) (ρL a) (μL L)) :
    wpAny (model PR w) (callerA.deeper (envOfC nm { kind := .function, names := nmm, isGenerator := false, isCoroutine := false, more := mr } s₁.heap.objs.size fa cd)) (execs body (envOfC nm { kind := .function, names := nmm, isGenerator := false, isCoroutine := false, more := mr } s₁.heap.objs.size fa cd)) Q E { heap := h₁, gens := s₁.gens, drawn := s₁.drawn, toks := tk, os := s₁.os } := by
  have hs := law_start (tk := tk) KX T F N0 e3 e2 e1 hsc
  refine Tg.use (hX ⟨s₁.heap, mg, mb, mean, KX, T⟩ s₁.heap.objs.size hL (of_ints hI) (by omega)) hs fun fl v ρ' μ' s' hf hs' hp => ?_
  subst hp
  obtain ⟨u, rfl, hu⟩ := hf
  cases hu
  cases hs'.ns with | mk m' hn' _ =>
  obtain ⟨h', tk', e⟩ := hs'.same
  exact hQ s' m' ⟨hn', hs'.keep, Nat.le_refl _⟩ (by rw [e]) (by rw [e])
section
set_option maxHeartbeats 8000000
open PySem.Challenge
theorem said_a : sreFenced rw_oh0068_01.row.prog.main = true := by kernel_rfl
theorem said_b : ((moduleNames rw_oh0068_01.row.prog.main.body).isEmpty || lookedIntoSs (moduleNames rw_oh0068_01.row.prog.main.body) rw_oh0068_01.row.prog.main.body) = true := by kernel_rfl
theorem said_c : namesResolve rw_oh0068_01.row.prog = true := by
  rw [Fast.te8377067652309620493]
  kernel_rfl
theorem said_d : (rw_oh0068_01.row.prog.boundNames.all fun n => !worldNames.contains n) = true := by kernel_rfl
theorem road_app {k : Look} : ∀ {l r : List Stmt}, noRoadLSs k l = true → noRoadLSs k r = true → noRoadLSs k (l ++ r) = true
  | [], r, _, h => h
  | s :: l, r, a, h => by
    rw [List.cons_append, noRoadLSs.eq_2]
    rw [noRoadLSs.eq_2] at a
    have ⟨a1, a2⟩ := Bool.and_eq_true_iff.mp a
    rw [a1, road_app a2 h]
    rfl
theorem said_ea : readsOut rw_oh0068_01.row.prog rw_oh0068_01.row.prog.main.body ("vars" : Str) = false := by kernel_rfl
theorem said_eb : readsOut rw_oh0068_01.row.prog rw_oh0068_01.row.prog.main.body ("dir" : Str) = false := by kernel_rfl
theorem said_ec : readsOut rw_oh0068_01.row.prog rw_oh0068_01.row.prog.main.body ("locals" : Str) = false := by kernel_rfl
theorem said_ed : (!(importedModules rw_oh0068_01.row.prog.main.body).all cThrough.contains) = false := by kernel_rfl
abbrev lkE : Look := { strict := false, foot := none, bare := [] }
theorem said_ee : noRoadLSs lkE (rw_oh0068_01.row.prog.main.body.take 9) = true := by kernel_rfl
theorem said_ef : noRoadLSs lkE (rw_oh0068_01.row.prog.main.body.drop 9) = true := by kernel_rfl
theorem said_e : noRoadLSs { strict := !(importedModules rw_oh0068_01.row.prog.main.body).all cThrough.contains, foot := none, bare := (["vars", "dir", "locals"] : List Str).filter (readsOut rw_oh0068_01.row.prog rw_oh0068_01.row.prog.main.body) } rw_oh0068_01.row.prog.main.body = true := by
  rw [said_ed, List.filter_cons_of_neg (by rw [said_ea]; exact Bool.false_ne_true), List.filter_cons_of_neg (by rw [said_eb]; exact Bool.false_ne_true), List.filter_cons_of_neg (by rw [said_ec]; exact Bool.false_ne_true), List.filter_nil]
  have h := road_app said_ee said_ef
  rw [List.take_append_drop] at h
  exact h
theorem said_f : (namesMeet rw_oh0068_01.row.prog rw_oh0068_01.row.prog.main.body fun _ n => attrL n) = true := by kernel_rfl
theorem said_g : rw_oh0068_01.row.solid = true := by kernel_rfl
theorem said_h : rw_oh0068_01.row.prog.boundNames.contains rw_oh0068_01.row.name = true := by kernel_rfl
theorem said_i : decide (rw_oh0068_01.foot ≤ (behindTheImports rw_oh0068_01.prog).length) = true := by kernel_rfl
theorem said_j : rw_oh0068_01.footing.all footLine = true := by kernel_rfl
theorem said_k : noClassBlock rw_oh0068_01.prog rw_oh0068_01.footing = true := by kernel_rfl
theorem said_l : noRoadLSs { strict := true, foot := some rw_oh0068_01.bound', writes := rw_oh0068_01.writes, may := rw_oh0068_01.may } rw_oh0068_01.footing = true := by kernel_rfl
theorem said_m : defStands rw_oh0068_01.about rw_oh0068_01.above = true := by kernel_rfl
theorem said_n : rw_oh0068_01.namesIt = true := by kernel_rfl
theorem said_o : (rw_oh0068_01.bound'.all fun n => !builtinNamed n || rw_oh0068_01.about == [n] || !rw_oh0068_01.reads n) = true := by kernel_rfl
theorem said_p : (!rw_oh0068_01.writes || (rw_oh0068_01.prog.main.body.flatMap importedNames).all fun n => !rw_oh0068_01.reads n) = true := by kernel_rfl
theorem said_q : ((rw_oh0068_01.prog.main.body.flatMap importedNames).all fun n => !rw_oh0068_01.reads n || (drawsOf n rw_oh0068_01.prog.main.body).all fun mn => mn.2 != ("attrgetter" : Str) && mn.2 != ("methodcaller" : Str)) = true := by kernel_rfl
theorem said_r : (namesMeet rw_oh0068_01.prog rw_oh0068_01.footing fun sc n => (!(["type", "isinstance", "issubclass", "getattr", "hasattr"] : List Str).contains n || sc.names.lookup n == some .globalImplicit) && (rw_oh0068_01.may != some n || sc.kind == .module || sc.names.lookup n == some .globalImplicit)) = true := by kernel_rfl
theorem said_s : (namesMeet rw_oh0068_01.prog rw_oh0068_01.above fun _ n => !rw_oh0068_01.own.contains n) = true := by kernel_rfl
theorem said_t : (namesMeet rw_oh0068_01.prog rw_oh0068_01.footing fun sc n => sc.kind == .module || sc.names.lookup n != some .globalExplicit) = true := by kernel_rfl
theorem look_said : looksOpen rw_oh0068_01.row.prog = true := look_both (look_both (look_both (look_both (look_both said_a said_b) said_c) said_d) said_e) said_f
theorem part_said : rw_oh0068_01.row.partSaid = true := by
  delta OpenRow.partSaid
  repeat' (with_reducible refine look_both ?_ ?_)
  all_goals with_reducible first | exact look_said | exact said_g | kernel_rfl
theorem row_said' : rw_oh0068_01.row.wellSaid = true := by
  delta OpenRow.wellSaid
  repeat' (with_reducible refine look_both ?_ ?_)
  all_goals with_reducible first | exact part_said | exact said_h | kernel_rfl
theorem law_said : rw_oh0068_01.wellSaid = true := by
  delta OpenLaw.wellSaid
  repeat' (with_reducible refine look_both ?_ ?_)
  all_goals with_reducible first | exact row_said' | exact said_i | exact said_j | exact said_k | exact said_l | exact said_m | exact said_n | exact said_o | exact said_p | exact said_q | exact said_r | exact said_s | exact said_t | kernel_rfl
end
set_option maxRecDepth 100000 in
set_option maxHeartbeats 8000000 in
theorem law_holds : PySem.Challenge.rw_oh0068_01.Holds := by
  refine holds_law law_said fun said => ?_
  refine holds_open (q := vw) (loose := ll) (Xt := XT) (XP := XL vw []) (Yf := Hook.obs HH) (Ya := Hook.val HH) (YP := Hook.says HH) (N := 3872) ?hl (Hook.of HH) (Hook.keeps HH) (fun s e => xl_of s (Bool.and_eq_true_iff.mp e).1) XL.keeps (by rfl) (by rfl) (by rfl) (fun s e => recFacts_of (Bool.and_eq_true_iff.mp e).2) (by rfl) said (by decide +kernel) ⟨rfl, rfl, rfl, rfl, rfl, by decide +kernel⟩ ?hw ?hc
  case hl => exact top_left
  case hw => w_witness2
  case hc =>
    clear said
    k_go0
    refine law_end (by assumption) (by assumption) (by assumption) (by assumption) (by assumption) (by assumption) (by assumption) (by assumption) (by assumption) (by assumption) rfl ?_ ?_
    · intro s' m' F' hg' ho'
      refine goodW_bool F' (hg'.trans (by assumption)) (fun cls => ?_) ?_ ho'
      · rfl
      · refine' postW_of ?psh ?pva ?peq
        case psh => o_shape
        case pva => wtm_val
        case peq => rfl
    · intro G L hlow hv hl
      obtain ⟨oc, od, fd, osl, body, nmm, mr, e1, e2, e3, hX⟩ := law_walk (G := G) (L := L) hlow hv hl
      have e4 := e1.symm.trans (rfl : (KK _).lookup 285 = some ⟨_, _, .func _, _⟩)
      cases e4
      cases e2
      cases e3
      exact hX
end
end

end Mine
theorem PySem.Challenge.cw_oh0068_01_holds : PySem.Challenge.rw_oh0068_01.Holds :=
  Mine.law_holds
