import PyProof.Rows.All
import Wide.All
import OpenK.AllK
import Wide.FinOn
import PySem.Challenge.RW_om0125_01

set_option Elab.async false
set_option maxRecDepth 100000
set_option linter.unusedVariables false
set_option linter.unusedSimpArgs false

-- part N0
namespace Mine
inductive Ex1 {A0 : Type} (P : A0 → Prop) : Prop where
  | mk (x0 : A0) (h : P x0) : Ex1 P
inductive Ex2 {A0 A1 : Type} (P : A0 → A1 → Prop) : Prop where
  | mk (x0 : A0) (x1 : A1) (h : P x0 x1) : Ex2 P
inductive Ex3 {A0 A1 A2 : Type} (P : A0 → A1 → A2 → Prop) : Prop where
  | mk (x0 : A0) (x1 : A1) (x2 : A2) (h : P x0 x1 x2) : Ex3 P
inductive Ex4 {A0 A1 A2 A3 : Type} (P : A0 → A1 → A2 → A3 → Prop) : Prop where
  | mk (x0 : A0) (x1 : A1) (x2 : A2) (x3 : A3) (h : P x0 x1 x2 x3) : Ex4 P
inductive Ex5 {A0 A1 A2 A3 A4 : Type} (P : A0 → A1 → A2 → A3 → A4 → Prop) : Prop where
  | mk (x0 : A0) (x1 : A1) (x2 : A2) (x3 : A3) (x4 : A4) (h : P x0 x1 x2 x3 x4) : Ex5 P
inductive Ex6 {A0 A1 A2 A3 A4 A5 : Type} (P : A0 → A1 → A2 → A3 → A4 → A5 → Prop) : Prop where
  | mk (x0 : A0) (x1 : A1) (x2 : A2) (x3 : A3) (x4 : A4) (x5 : A5) (h : P x0 x1 x2 x3 x4 x5) : Ex6 P
inductive Ex7 {A0 A1 A2 A3 A4 A5 A6 : Type} (P : A0 → A1 → A2 → A3 → A4 → A5 → A6 → Prop) : Prop where
  | mk (x0 : A0) (x1 : A1) (x2 : A2) (x3 : A3) (x4 : A4) (x5 : A5) (x6 : A6) (h : P x0 x1 x2 x3 x4 x5 x6) : Ex7 P
inductive Ex10 {A0 A1 A2 A3 A4 A5 A6 A7 A8 A9 : Type} (P : A0 → A1 → A2 → A3 → A4 → A5 → A6 → A7 → A8 → A9 → Prop) : Prop where
  | mk (x0 : A0) (x1 : A1) (x2 : A2) (x3 : A3) (x4 : A4) (x5 : A5) (x6 : A6) (x7 : A7) (x8 : A8) (x9 : A9) (h : P x0 x1 x2 x3 x4 x5 x6 x7 x8 x9) : Ex10 P
inductive Ex15 {A0 A1 A2 A3 A4 A5 A6 A7 A8 A9 A10 A11 A12 A13 A14 : Type} (P : A0 → A1 → A2 → A3 → A4 → A5 → A6 → A7 → A8 → A9 → A10 → A11 → A12 → A13 → A14 → Prop) : Prop where
  | mk (x0 : A0) (x1 : A1) (x2 : A2) (x3 : A3) (x4 : A4) (x5 : A5) (x6 : A6) (x7 : A7) (x8 : A8) (x9 : A9) (x10 : A10) (x11 : A11) (x12 : A12) (x13 : A13) (x14 : A14) (h : P x0 x1 x2 x3 x4 x5 x6 x7 x8 x9 x10 x11 x12 x13 x14) : Ex15 P
inductive An2 (a0 a1 : Prop) : Prop where
  | mk (h0 : a0) (h1 : a1) : An2 a0 a1
inductive An3 (a0 a1 a2 : Prop) : Prop where
  | mk (h0 : a0) (h1 : a1) (h2 : a2) : An3 a0 a1 a2
inductive An4 (a0 a1 a2 a3 : Prop) : Prop where
  | mk (h0 : a0) (h1 : a1) (h2 : a2) (h3 : a3) : An4 a0 a1 a2 a3
inductive An5 (a0 a1 a2 a3 a4 : Prop) : Prop where
  | mk (h0 : a0) (h1 : a1) (h2 : a2) (h3 : a3) (h4 : a4) : An5 a0 a1 a2 a3 a4
inductive An6 (a0 a1 a2 a3 a4 a5 : Prop) : Prop where
  | mk (h0 : a0) (h1 : a1) (h2 : a2) (h3 : a3) (h4 : a4) (h5 : a5) : An6 a0 a1 a2 a3 a4 a5
inductive An7 (a0 a1 a2 a3 a4 a5 a6 : Prop) : Prop where
  | mk (h0 : a0) (h1 : a1) (h2 : a2) (h3 : a3) (h4 : a4) (h5 : a5) (h6 : a6) : An7 a0 a1 a2 a3 a4 a5 a6
inductive An8 (a0 a1 a2 a3 a4 a5 a6 a7 : Prop) : Prop where
  | mk (h0 : a0) (h1 : a1) (h2 : a2) (h3 : a3) (h4 : a4) (h5 : a5) (h6 : a6) (h7 : a7) : An8 a0 a1 a2 a3 a4 a5 a6 a7
inductive An9 (a0 a1 a2 a3 a4 a5 a6 a7 a8 : Prop) : Prop where
  | mk (h0 : a0) (h1 : a1) (h2 : a2) (h3 : a3) (h4 : a4) (h5 : a5) (h6 : a6) (h7 : a7) (h8 : a8) : An9 a0 a1 a2 a3 a4 a5 a6 a7 a8
inductive An12 (a0 a1 a2 a3 a4 a5 a6 a7 a8 a9 a10 a11 : Prop) : Prop where
  | mk (h0 : a0) (h1 : a1) (h2 : a2) (h3 : a3) (h4 : a4) (h5 : a5) (h6 : a6) (h7 : a7) (h8 : a8) (h9 : a9) (h10 : a10) (h11 : a11) : An12 a0 a1 a2 a3 a4 a5 a6 a7 a8 a9 a10 a11
theorem hide {G : Prop} (h : ∀ P : Prop, (G → P) → P) : G := h G id
theorem keepAll {α : Sort _} {P : α → Prop} (h : ∀ x, P x) : ∀ x, P x := h
end Mine

-- part H0
namespace Mine
open PySem PySem.Calls PySem.W PyProof.Rows

noncomputable abbrev Pr : Program := PySem.Challenge.rw_om0125_01.row.prog
noncomputable def nth (i : Nat) (l : List Stmt) : Stmt := match l.drop i with
  | s :: _ => s
  | [] => .Pass ⟨0, 0, 0, 0⟩
noncomputable def stn (i : Nat) : Stmt := nth i Pr.main.body
noncomputable def mth (i j : Nat) : Stmt := match stn i with
  | .ClassDef _ _ _ b _ _ _ _ _ _ _ => nth j b
  | x => x
noncomputable def fnO (s : Stmt) (q m : Str) (mt : Tok) (df : Value) (cd : Addr) : Obj := match s with
  | .FunctionDef n a b _ _ _ sc _ _ _ => ⟨.type "function", none, .func { name := n, qualname := q, params := a, body := .stmts b, scope := sc, globals := 3, closure := [], defaults := df, kwdefaults := .none, pyModule := .str m mt, code := .ref cd }, #[]⟩
  | _ => ⟨.none, none, .plain, #[]⟩
noncomputable def cdO (vs : List Value) : Obj := ⟨.type "code", none, .fields vs.toArray, #[]⟩
noncomputable def dcO (P : Params) (es : List (Str × Tok × Value)) (n : Nat) : Obj := ⟨.type "dict", none, .dict (es.map fun e => ⟨PyData.keyHash P e.1, .str e.1 e.2.1, e.2.2⟩).toArray n, #[]⟩
noncomputable abbrev vS (x : Str) (t : Tok) : Value := .str x t
noncomputable abbrev vR (a : Addr) : Value := .ref a
noncomputable def heapK (P : Params) : Frag := [
  (3, dcO P [("__name__", 165, vS "law_om0125_01" 507), ("__doc__", 166, .none), ("__package__", 167, .none), ("__loader__", 168, .builtin "__main__.__loader__#opaque"), ("__spec__", 169, .none), ("__annotations__", 170, vR 6), ("__builtins__", 171, vR 4), ("__file__", 173, vS "/claim/cut.py" 172), ("__cached__", 174, .none), ("_wall", 193, vR 21), ("_NODE_OUT", 198, .int (-1) 197), ("_NODE_DONE", 201, .int (-2) 200), ("_NodeInfo", 238, vR 40), ("CycleError", 256, vR 55), ("TopologicalSorter", 375, vR 137), ("Error", 397, vR 151), ("error_reply", 413, vR 164), ("error_proto", 429, vR 176), ("parse229", 442, vR 185), ("parse257", 453, vR 192), ("heappush", 463, vR 199), ("heappop", 472, vR 206), ("heapify", 481, vR 213), ("_siftdown", 493, vR 220), ("_siftup", 506, vR 227), ("_law_content", 520, vR 234), ("_law_tails", 526, vR 239), ("_law_parcels", 540, vR 246), ("_law_run", 546, vR 251), ("_law_least", 552, vR 256), ("_law_arrivals", 558, vR 261), ("law", 564, vR 266)] 32),
  (35, cdO [vS "__init__" 218, vS "_NodeInfo.__init__" 219, vS "/claim/cut.py" 220, .int 10 0, .int 2 0, .int 0 0, .int 0 0, .int 3 0, vR 30, .bool true, .int 181 0, vR 31, .none, vR 32, vR 33, vR 34, .int 223 0, .int 10 0, vS "/claim/cut.py" 224]),
  (36, fnO (mth 4 1) "_NodeInfo.__init__" "cpy313.graphlib" 194 (.none) 35),
  (39, dcO P [("__module__", 209, vS "cpy313.graphlib" 194), ("__firstlineno__", 213, .int 7 212), ("__slots__", 217, vR 29), ("__init__", 225, vR 36), ("__static_attributes__", 229, vR 37), ("node", 231, vR 41), ("npredecessors", 233, vR 42), ("successors", 235, vR 43), ("__doc__", 236, .none)] 5),
  (40, ⟨.type "type", none, .cls { name := "_NodeInfo", bases := [.type "object"], mro := [vR 40, .type "object"], ns := 39, qualname := "_NodeInfo", hasDict := false, slotNames := ["node", "npredecessors", "successors"] }, #[none, none, some (vS "_NodeInfo" 202), some (vS "_NodeInfo" 210), some (.builtin "object.__new__"), some (.bool false)]⟩),
  (41, ⟨.type "member_descriptor", none, .fields #[vS "node" 230, vR 40, .builtin "proto.slot", .builtin "proto.slot#set", .int 2 0], #[]⟩),
  (42, ⟨.type "member_descriptor", none, .fields #[vS "npredecessors" 232, vR 40, .builtin "proto.slot", .builtin "proto.slot#set", .int 1 0], #[]⟩),
  (43, ⟨.type "member_descriptor", none, .fields #[vS "successors" 234, vR 40, .builtin "proto.slot", .builtin "proto.slot#set", .int 0 0], #[]⟩),
  (66, ⟨.type "tuple", none, .seq #[.none] 0, #[]⟩),
  (72, cdO [vS "__init__" 269, vS "TopologicalSorter.__init__" 270, vS "/claim/cut.py" 271, .int 18 0, .int 2 0, .int 0 0, .int 0 0, .int 3 0, vR 67, .bool true, .int 181 0, vR 68, .none, vR 69, vR 70, vR 71, .int 276 0, .int 18 0, vS "/claim/cut.py" 277]),
  (73, fnO (mth 6 0) "TopologicalSorter.__init__" "cpy313.graphlib" 194 (vR 66) 72),
  (79, cdO [vS "_get_nodeinfo" 279, vS "TopologicalSorter._get_nodeinfo" 280, vS "/claim/cut.py" 281, .int 27 0, .int 2 0, .int 0 0, .int 0 0, .int 3 0, vR 74, .bool true, .int 181 0, vR 75, .none, vR 76, vR 77, vR 78, .int 285 0, .int 27 0, vS "/claim/cut.py" 286]),
  (80, fnO (mth 6 1) "TopologicalSorter._get_nodeinfo" "cpy313.graphlib" 194 (.none) 79),
  (86, cdO [vS "add" 288, vS "TopologicalSorter.add" 289, vS "/claim/cut.py" 290, .int 32 0, .int 2 0, .int 0 0, .int 0 0, .int 7 0, vR 81, .bool true, .int 181 0, vR 82, .none, vR 83, vR 84, vR 85, .int 297 0, .int 32 0, vS "/claim/cut.py" 298]),
  (87, fnO (mth 6 2) "TopologicalSorter.add" "cpy313.graphlib" 194 (.none) 86),
  (91, cdO [vS "prepare" 300, vS "TopologicalSorter.prepare" 301, vS "/claim/cut.py" 302, .int 41 0, .int 1 0, .int 0 0, .int 0 0, .int 3 0, vR 88, .bool true, .int 181 0, vR 89, .none, .none, .none, vR 90, .int 303 0, .int 41 0, vS "/claim/cut.py" 304]),
  (92, fnO (mth 6 3) "TopologicalSorter.prepare" "cpy313.graphlib" 194 (.none) 91),
  (98, cdO [vS "get_ready" 306, vS "TopologicalSorter.get_ready" 307, vS "/claim/cut.py" 308, .int 49 0, .int 1 0, .int 0 0, .int 0 0, .int 3 0, vR 93, .bool true, .int 181 0, vR 94, .none, vR 95, vR 96, vR 97, .int 313 0, .int 49 0, vS "/claim/cut.py" 314]),
  (99, fnO (mth 6 4) "TopologicalSorter.get_ready" "cpy313.graphlib" 194 (.none) 98),
  (105, cdO [vS "is_active" 316, vS "TopologicalSorter.is_active" 317, vS "/claim/cut.py" 318, .int 60 0, .int 1 0, .int 0 0, .int 0 0, .int 3 0, vR 100, .bool true, .int 181 0, vR 101, .none, vR 102, vR 103, vR 104, .int 320 0, .int 60 0, vS "/claim/cut.py" 321]),
  (106, fnO (mth 6 5) "TopologicalSorter.is_active" "cpy313.graphlib" 194 (.none) 105),
  (119, cdO [vS "done" 330, vS "TopologicalSorter.done" 331, vS "/claim/cut.py" 332, .int 68 0, .int 1 0, .int 0 0, .int 0 0, .int 7 0, vR 114, .bool true, .int 181 0, vR 115, .none, vR 116, vR 117, vR 118, .int 341 0, .int 68 0, vS "/claim/cut.py" 342]),
  (120, fnO (mth 6 7) "TopologicalSorter.done" "cpy313.graphlib" 194 (.none) 119),
  (126, cdO [vS "_find_cycle" 344, vS "TopologicalSorter._find_cycle" 345, vS "/claim/cut.py" 346, .int 91 0, .int 1 0, .int 0 0, .int 0 0, .int 3 0, vR 121, .bool true, .int 181 0, vR 122, .none, vR 123, vR 124, vR 125, .int 354 0, .int 91 0, vS "/claim/cut.py" 355]),
  (127, fnO (mth 6 8) "TopologicalSorter._find_cycle" "cpy313.graphlib" 194 (.none) 126),
  (136, dcO P [("__module__", 264, vS "cpy313.graphlib" 194), ("__firstlineno__", 268, .int 16 267), ("__init__", 278, vR 73), ("_get_nodeinfo", 287, vR 80), ("add", 299, vR 87), ("prepare", 305, vR 92), ("get_ready", 315, vR 99), ("is_active", 322, vR 106), ("__bool__", 329, vR 113), ("done", 343, vR 120), ("_find_cycle", 356, vR 127), ("static_order", 363, vR 134), ("__static_attributes__", 368, vR 135), ("__dict__", 370, vR 138), ("__weakref__", 372, vR 139), ("__doc__", 373, .none)] 4),
  (137, ⟨.type "type", none, .cls { name := "TopologicalSorter", bases := [.type "object"], mro := [vR 137, .type "object"], ns := 136, qualname := "TopologicalSorter" }, #[none, none, some (vS "TopologicalSorter" 257), some (vS "TopologicalSorter" 265), some (.builtin "object.__new__"), some (.bool true)]⟩),
  (138, ⟨.type "getset_descriptor", none, .fields #[vS "__dict__" 369, vR 137, .builtin "function.__dict__", .builtin "function.__dict__#set"], #[]⟩),
  (184, cdO [vS "parse229" 430, vS "parse229" 431, vS "/claim/cut.py" 432, .int 129 0, .int 2 0, .int 0 0, .int 0 0, .int 3 0, vR 179, .bool true, .int 181 0, vR 180, .none, vR 181, vR 182, vR 183, .int 440 0, .int 129 0, vS "/claim/cut.py" 441]),
  (185, fnO (stn 11) "parse229" "cpy313.ftplib" 376 (.none) 184),
  (191, cdO [vS "parse257" 443, vS "parse257" 444, vS "/claim/cut.py" 445, .int 146 0, .int 1 0, .int 0 0, .int 0 0, .int 3 0, vR 186, .bool true, .int 181 0, vR 187, .none, vR 188, vR 189, vR 190, .int 451 0, .int 146 0, vS "/claim/cut.py" 452]),
  (192, fnO (stn 12) "parse257" "cpy313.ftplib" 376 (.none) 191),
  (198, cdO [vS "heappush" 456, vS "heappush" 457, vS "/claim/cut.py" 458, .int 164 0, .int 2 0, .int 0 0, .int 0 0, .int 3 0, vR 193, .bool true, .int 181 0, vR 194, .none, vR 195, vR 196, vR 197, .int 461 0, .int 164 0, vS "/claim/cut.py" 462]),
  (199, fnO (stn 14) "heappush" "cpy313.heapq" 454 (.none) 198),
  (205, cdO [vS "heappop" 464, vS "heappop" 465, vS "/claim/cut.py" 466, .int 167 0, .int 1 0, .int 0 0, .int 0 0, .int 3 0, vR 200, .bool true, .int 181 0, vR 201, .none, vR 202, vR 203, vR 204, .int 470 0, .int 167 0, vS "/claim/cut.py" 471]),
  (206, fnO (stn 15) "heappop" "cpy313.heapq" 454 (.none) 205),
  (212, cdO [vS "heapify" 473, vS "heapify" 474, vS "/claim/cut.py" 475, .int 175 0, .int 1 0, .int 0 0, .int 0 0, .int 3 0, vR 207, .bool true, .int 181 0, vR 208, .none, vR 209, vR 210, vR 211, .int 479 0, .int 175 0, vS "/claim/cut.py" 480]),
  (213, fnO (stn 16) "heapify" "cpy313.heapq" 454 (.none) 212),
  (219, cdO [vS "_siftdown" 482, vS "_siftdown" 483, vS "/claim/cut.py" 484, .int 179 0, .int 3 0, .int 0 0, .int 0 0, .int 3 0, vR 214, .bool true, .int 181 0, vR 215, .none, vR 216, vR 217, vR 218, .int 491 0, .int 179 0, vS "/claim/cut.py" 492]),
  (220, fnO (stn 17) "_siftdown" "cpy313.heapq" 454 (.none) 219),
  (226, cdO [vS "_siftup" 494, vS "_siftup" 495, vS "/claim/cut.py" 496, .int 190 0, .int 2 0, .int 0 0, .int 0 0, .int 3 0, vR 221, .bool true, .int 181 0, vR 222, .none, vR 223, vR 224, vR 225, .int 504 0, .int 190 0, vS "/claim/cut.py" 505]),
  (227, fnO (stn 18) "_siftup" "cpy313.heapq" 454 (.none) 226),
  (233, cdO [vS "_law_content" 509, vS "_law_content" 510, vS "/claim/cut.py" 511, .int 205 0, .int 3 0, .int 0 0, .int 0 0, .int 3 0, vR 228, .bool true, .int 181 0, vR 229, .none, vR 230, vR 231, vR 232, .int 518 0, .int 205 0, vS "/claim/cut.py" 519]),
  (234, fnO (stn 20) "_law_content" "law_om0125_01" 507 (.none) 233),
  (238, cdO [vS "_law_tails" 521, vS "_law_tails" 522, vS "/claim/cut.py" 523, .int 211 0, .int 2 0, .int 0 0, .int 0 0, .int 3 0, vR 235, .bool true, .int 181 0, vR 236, .none, .none, .none, vR 237, .int 524 0, .int 211 0, vS "/claim/cut.py" 525]),
  (239, fnO (stn 21) "_law_tails" "law_om0125_01" 507 (.none) 238),
  (245, cdO [vS "_law_parcels" 527, vS "_law_parcels" 528, vS "/claim/cut.py" 529, .int 228 0, .int 3 0, .int 0 0, .int 0 0, .int 3 0, vR 240, .bool true, .int 181 0, vR 241, .none, vR 242, vR 243, vR 244, .int 538 0, .int 228 0, vS "/claim/cut.py" 539]),
  (246, fnO (stn 22) "_law_parcels" "law_om0125_01" 507 (.none) 245),
  (250, cdO [vS "_law_run" 541, vS "_law_run" 542, vS "/claim/cut.py" 543, .int 236 0, .int 3 0, .int 0 0, .int 0 0, .int 3 0, vR 247, .bool true, .int 181 0, vR 248, .none, .none, .none, vR 249, .int 544 0, .int 236 0, vS "/claim/cut.py" 545]),
  (251, fnO (stn 23) "_law_run" "law_om0125_01" 507 (.none) 250),
  (255, cdO [vS "_law_least" 547, vS "_law_least" 548, vS "/claim/cut.py" 549, .int 255 0, .int 2 0, .int 0 0, .int 0 0, .int 3 0, vR 252, .bool true, .int 181 0, vR 253, .none, .none, .none, vR 254, .int 550 0, .int 255 0, vS "/claim/cut.py" 551]),
  (256, fnO (stn 24) "_law_least" "law_om0125_01" 507 (.none) 255),
  (260, cdO [vS "_law_arrivals" 553, vS "_law_arrivals" 554, vS "/claim/cut.py" 555, .int 266 0, .int 3 0, .int 0 0, .int 0 0, .int 3 0, vR 257, .bool true, .int 181 0, vR 258, .none, .none, .none, vR 259, .int 556 0, .int 266 0, vS "/claim/cut.py" 557]),
  (261, fnO (stn 25) "_law_arrivals" "law_om0125_01" 507 (.none) 260),
  (265, cdO [vS "law" 559, vS "law" 560, vS "/claim/cut.py" 561, .int 274 0, .int 1 0, .int 0 0, .int 0 0, .int 3 0, vR 262, .bool true, .int 181 0, vR 263, .none, .none, .none, vR 264, .int 562 0, .int 274 0, vS "/claim/cut.py" 563]),
  (266, fnO (stn 26) "law" "law_om0125_01" 507 (.none) 265)]
noncomputable def addK : List Addr := [3, 35, 36, 39, 40, 41, 42, 43, 66, 72, 73, 79, 80, 86, 87, 91, 92, 98, 99, 105, 106, 119, 120, 126, 127, 136, 137, 138, 184, 185, 191, 192, 198, 199, 205, 206, 212, 213, 219, 220, 226, 227, 233, 234, 238, 239, 245, 246, 250, 251, 255, 256, 260, 261, 265, 266]
end Mine

-- part M0
namespace Mine
open PySem PySem.Calls PySem.W PyProof.Rows

noncomputable abbrev Md (w : World) : Model := model Pr w

/-- values without their tokens -/
inductive AV where
  | none | bool (b : Bool) | int (i : Int) | str (x : Str) | ref (a : Addr) | typ (n : String) | blt (n : String)

noncomputable def VR : AV → Value → Prop
  | .none, v => v = .none
  | .bool b, v => v = .bool b
  | .int i, v => ∃ t, v = .int i t
  | .str x, v => ∃ t, v = .str x t
  | .ref a, v => v = .ref a
  | .typ n, v => v = .type n
  | .blt n, v => v = .builtin n

inductive VRs : List AV → List Value → Prop
  | nil : VRs [] []
  | cons {a v as vs} : VR a v → VRs as vs → VRs (a :: as) (v :: vs)

inductive OVR : Option AV → Option Value → Prop
  | none : OVR none none
  | some {a v} : VR a v → OVR (some a) (some v)

inductive KVR : List (Str × AV) → List (Str × Value) → Prop
  | nil : KVR [] []
  | cons {x a v es ds} : VR a v → KVR es ds → KVR ((x, a) :: es) ((x, v) :: ds)

inductive OVRs : List (Option AV) → List (Option Value) → Prop
  | nil : OVRs [] []
  | cons {a v as vs} : OVR a v → OVRs as vs → OVRs (a :: as) (v :: vs)

inductive AO where
  | list (xs : List AV)
  | tup (xs : List AV)
  | dict (es : List (Str × AV)) (ep : Option Nat)
  | inst (C d : Addr)
  | slots (C d : Addr) (vs : List (Option AV))
  | set (xs : List Str)
  | raw (o : Obj)
  | pred (P : Obj → Prop)

noncomputable def SetOk (w : World) (xs : List Str) (es : Array (Int × Value)) (t : SetTable) : Prop :=
  t.fits es.size = true ∧ (∀ e ∈ es, ∃ x tk, e.2 = .str x tk ∧ e.1 = PyData.keyHash w.params x) ∧ (∀ x, x ∈ xs ↔ ∃ e ∈ es, e.2.isStr x = true) ∧ es.size ≤ xs.length

noncomputable def OR (w : World) : AO → Obj → Prop
  | .list xs, o => ∃ vs n, VRs xs vs ∧ o = ⟨.type "list", none, .seq vs.toArray n, #[]⟩
  | .tup xs, o => ∃ vs n, VRs xs vs ∧ o = ⟨.type "tuple", none, .seq vs.toArray n, #[]⟩
  | .dict es e, o => ∃ kvs, KVR es kvs ∧ o.IsDictOf (strKind Pr w) kvs ∧ ∀ n, e = some n → ∃ es', o.data = .dict es' n
  | .inst C d, o => o = ⟨.ref C, some d, .plain, #[]⟩
  | .slots C d vs, o => ∃ sl, OVRs vs sl ∧ o = ⟨.ref C, some d, .plain, sl.toArray⟩
  | .set xs, o => ∃ es n t, SetOk w xs es t ∧ o = ⟨.type "set", none, .set es n t, #[]⟩
  | .raw o', o => o = o'
  | .pred P, o => P o

noncomputable abbrev Ledger := List (Addr × AO)
noncomputable abbrev Vals := List (Option AV)

structure Cx where
  w : World
  B : Addr → Option Obj
  outs : List (Addr × Data)
  r : Shared
  A : Around
  env : Env
  names : List Str
  wr : List Str

/-- the variable x holds v -/
noncomputable def VarAt (env : Env) (h : Heap) (x : Str) (v : Option AV) : Prop :=
  (env.kindOf x = some .local ∧ ∃ mm, h.Ns env.locals mm ∧ OVR v (mm x)) ∨
  ((env.kindOf x = some .cell ∨ env.kindOf x = some .free) ∧ ∃ c u, env.cells.lookup x = some c ∧ h.IsCell c u ∧ OVR v u)

/-- the addresses that the frame may write -/
noncomputable def Cx.frameAddrs (C : Cx) : List Addr := C.env.locals :: C.wr.filterMap fun x => C.env.cells.lookup x

structure St (C : Cx) (vals : Vals) (led : Ledger) (s : Shared) : Prop where
  same : ∃ h tk, s = { C.r with heap := h, toks := tk }
  keep : ∀ b o, C.B b = some o → s.heap.get? b = some o
  outs : ∀ p ∈ C.outs, ∃ o, s.heap.get? p.1 = some o ∧ o.data = p.2
  outsB : ∀ p ∈ C.outs, C.B p.1 = none
  frameB : ∀ a ∈ C.frameAddrs, C.B a = none ∧ (∀ p ∈ led, p.1 ≠ a) ∧ ∀ p ∈ C.outs, p.1 ≠ a
  frameN : C.frameAddrs.Nodup
  locs : ∃ mm, s.heap.Ns C.env.locals mm
  cellsO : ∀ x c, C.env.cells.lookup x = some c → (x ∈ C.wr ∧ ∃ u, s.heap.IsCell c u) ∨ ∃ o u, C.B c = some o ∧ o.data = .cell u
  len : vals.length = C.names.length
  vars : ∀ (i : Nat) (x : Str) (v : Option AV), C.names[i]? = some x → vals[i]? = some v → VarAt C.env s.heap x v
  ledg : ∀ p ∈ led, (∃ o, s.heap.get? p.1 = some o ∧ OR C.w p.2 o) ∧ C.B p.1 = none ∧ ∀ q ∈ C.outs, q.1 ≠ p.1
  nd : (led.map (·.1)).Nodup

theorem St.tok {C : Cx} {vals led s} (H : St C vals led s) (t : Nat) : St C vals led { s with toks := t } := by
  obtain ⟨⟨h, tk, rfl⟩, a, b, c, d, e, f, g, i, j, k, l⟩ := H
  exact ⟨⟨h, t, rfl⟩, a, b, c, d, e, f, g, i, j, k, l⟩

inductive Upd (a : Addr) (n : AO) : Ledger → Ledger → Prop
  | here {o r} : Upd a n ((a, o) :: r) ((a, n) :: r)
  | there {p r r'} : Upd a n r r' → Upd a n (p :: r) (p :: r')

theorem Upd.addrs {a n} {l l' : Ledger} (h : Upd a n l l') : l'.map (·.1) = l.map (·.1) := by
  induction h with
  | here => rfl
  | there _ ih => simp only [List.map_cons, ih]
theorem Upd.had {a n} {l l' : Ledger} (h : Upd a n l l') : ∃ o, (a, o) ∈ l := by
  induction h with
  | here => exact ⟨_, .head _⟩
  | there _ ih => exact ih.imp fun _ ho => .tail _ ho
theorem Upd.mem {a n} {l l' : Ledger} (h : Upd a n l l') (hn : (l.map (·.1)).Nodup) : ∀ p ∈ l', p = (a, n) ∨ (p ∈ l ∧ p.1 ≠ a) := by
  induction h with
  | here =>
    intro p hp
    rcases List.mem_cons.mp hp with rfl | hp
    · exact .inl rfl
    · exact .inr ⟨.tail _ hp, fun e => (List.nodup_cons.mp hn).1 (e ▸ List.mem_map_of_mem (f := (·.1)) hp)⟩
  | there h ih =>
    intro p hp
    rcases List.mem_cons.mp hp with rfl | hp
    · refine .inr ⟨.head _, fun e => (List.nodup_cons.mp hn).1 ?_⟩
      obtain ⟨o, ho⟩ := h.had
      rw [show (fun x : Addr × AO => x.1) p = a from e]
      exact List.mem_map_of_mem (f := (·.1)) ho
    · rcases ih (List.nodup_cons.mp hn).2 p hp with e | e
      · exact .inl e
      · exact .inr ⟨.tail _ e.1, e.2⟩

theorem VarAt.keeps {env : Env} {h h' : Heap} {x v} (H : VarAt env h x v) (k1 : ∀ o, h.get? env.locals = some o → ∃ o', h'.get? env.locals = some o' ∧ o'.data = o.data)
    (k2 : ∀ y c o, env.cells.lookup y = some c → h.get? c = some o → ∃ o', h'.get? c = some o' ∧ o'.data = o.data) : VarAt env h' x v := by
  rcases H with ⟨hk, mm, ⟨o, es, ep, ho, hd, r⟩, hv⟩ | ⟨hk, c, u, hc, ⟨o, ho, hd⟩, hv⟩
  · obtain ⟨o', ho', hd'⟩ := k1 o ho
    exact .inl ⟨hk, mm, ⟨o', es, ep, ho', hd'.trans hd, r⟩, hv⟩
  · obtain ⟨o', ho', hd'⟩ := k2 x c o hc ho
    exact .inr ⟨hk, c, u, hc, ⟨o', ho', hd'.trans hd⟩, hv⟩

/-- the general change: one object of the ledger (or none) is new, all else stands up to the slots of frames -/
theorem St.change {C : Cx} {vals led led' s} (H : St C vals led s) {h' : Heap} {tk : Nat}
    (kB : ∀ b o, C.B b = some o → h'.get? b = some o)
    (kF : ∀ a o, (a ∈ C.frameAddrs ∨ ∃ p ∈ C.outs, p.1 = a) → s.heap.get? a = some o → ∃ o', h'.get? a = some o' ∧ o'.data = o.data)
    (kL : ∀ p ∈ led', (∃ o, h'.get? p.1 = some o ∧ OR C.w p.2 o) ∧ C.B p.1 = none ∧ (∀ q ∈ C.outs, q.1 ≠ p.1) ∧ ∀ a ∈ C.frameAddrs, p.1 ≠ a)
    (nd : (led'.map (·.1)).Nodup) : St C vals led' { s with heap := h', toks := tk } := by
  obtain ⟨⟨h, tk₀, rfl⟩, a, b, c, d, e, f, g, i, j, k, l⟩ := H
  have cellK : ∀ y cc o, C.env.cells.lookup y = some cc → h.get? cc = some o → ∃ o', h'.get? cc = some o' ∧ o'.data = o.data := by
    intro y cc o hy ho
    rcases g y cc hy with ⟨hw, _⟩ | ⟨o1, u, hB, hd⟩
    · exact kF cc o (.inl (List.mem_cons_of_mem _ (List.mem_filterMap.mpr ⟨y, hw, hy⟩))) ho
    · have := a _ _ hB
      rw [ho] at this; cases this
      exact ⟨o, kB _ _ hB, rfl⟩
  refine ⟨⟨h', tk, rfl⟩, kB, fun p hp => ?_, c, fun x hx => ⟨(d x hx).1, fun p hp => (kL p hp).2.2.2 x hx, (d x hx).2.2⟩, e, ?_, fun x cc hx => ?_, i, fun n x v h1 h2 => (j n x v h1 h2).keeps (fun o ho => kF _ _ (.inl (.head _)) ho) cellK, fun p hp => ⟨(kL p hp).1, (kL p hp).2.1, (kL p hp).2.2.1⟩, nd⟩
  · obtain ⟨o, ho, hd⟩ := b p hp
    obtain ⟨o', ho', hd'⟩ := kF _ _ (.inr ⟨p, hp, rfl⟩) ho
    exact ⟨o', ho', hd'.trans hd⟩
  · obtain ⟨mm, o, es, ep, ho, hd, r⟩ := f
    obtain ⟨o', ho', hd'⟩ := kF _ _ (.inl (.head _)) ho
    exact ⟨mm, o', es, ep, ho', hd'.trans hd, r⟩
  · rcases g x cc hx with ⟨hw, u, o, ho, hd⟩ | h2
    · obtain ⟨o', ho', hd'⟩ := cellK x cc o hx ho
      exact .inl ⟨hw, u, o', ho', hd'.trans hd⟩
    · exact .inr h2

theorem St.ext {C : Cx} {vals led s} (H : St C vals led s) {h' : Heap} {tk : Nat} (k : ∀ b o, s.heap.get? b = some o → h'.get? b = some o) : St C vals led { s with heap := h', toks := tk } :=
  H.change (fun b o e => k b o (H.keep b o e)) (fun a o _ e => ⟨o, k _ _ e, rfl⟩)
    (fun p hp => let ⟨⟨o, ho, hr⟩, hb, hq⟩ := H.ledg p hp; ⟨⟨o, k _ _ ho, hr⟩, hb, hq, fun a ha => (H.frameB a ha).2.1 p hp⟩) H.nd

theorem St.fresh_not {C : Cx} {vals led s} (H : St C vals led s) {a : Addr} (ha : s.heap.get? a = none) :
    C.B a = none ∧ (∀ p ∈ led, p.1 ≠ a) ∧ (∀ q ∈ C.outs, q.1 ≠ a) ∧ ∀ x ∈ C.frameAddrs, x ≠ a := by
  refine ⟨?_, fun p hp e => ?_, fun q hq e => ?_, fun x hx e => ?_⟩
  · cases q : C.B a with
    | none => rfl
    | some o => rw [H.keep a o q] at ha; cases ha
  · obtain ⟨⟨o, ho, _⟩, _⟩ := H.ledg p hp
    rw [e, ha] at ho; cases ho
  · obtain ⟨o, ho, _⟩ := H.outs q hq
    rw [e, ha] at ho; cases ho
  · subst e
    unfold Cx.frameAddrs at hx
    rcases List.mem_cons.mp hx with rfl | hx
    · obtain ⟨mm, o, _, _, ho, _⟩ := H.locs
      rw [ha] at ho; cases ho
    · obtain ⟨y, hy, hl⟩ := List.mem_filterMap.mp hx
      rcases H.cellsO y x hl with ⟨_, u, o, ho, _⟩ | ⟨o, u, hB, _⟩
      · rw [ha] at ho; cases ho
      · rw [H.keep _ _ hB] at ha; cases ha

/-- a new object onto the ledger -/
theorem St.new {C : Cx} {vals led s} (H : St C vals led s) {h' : Heap} {tk : Nat} {a : Addr} {o : Obj} {ao : AO} (k : ∀ b o, s.heap.get? b = some o → h'.get? b = some o)
    (ha : s.heap.get? a = none) (ho : h'.get? a = some o) (hr : OR C.w ao o) : St C vals ((a, ao) :: led) { s with heap := h', toks := tk } := by
  obtain ⟨n1, n2, n3, n4⟩ := H.fresh_not ha
  refine H.change (fun b o e => k b o (H.keep b o e)) (fun a o _ e => ⟨o, k _ _ e, rfl⟩) (fun p hp => ?_) ?_
  · rcases List.mem_cons.mp hp with rfl | hp
    · exact ⟨⟨o, ho, hr⟩, n1, n3, fun x hx => Ne.symm (n4 x hx)⟩
    · obtain ⟨⟨o, ho, hr⟩, hb, hq⟩ := H.ledg p hp
      exact ⟨⟨o, k _ _ ho, hr⟩, hb, hq, fun a ha => (H.frameB a ha).2.1 p hp⟩
  · simp only [List.map_cons, List.nodup_cons]
    refine ⟨fun hm => ?_, H.nd⟩
    obtain ⟨p, hp, e⟩ := List.mem_map.mp hm
    exact n2 p hp e

theorem St.push {C : Cx} {vals led s} (H : St C vals led s) {tk : Nat} {o : Obj} {ao : AO} (hf : o.isFreed = false) (hr : OR C.w ao o) :
    St C vals ((s.heap.objs.size, ao) :: led) { s with heap := s.heap.push o, toks := tk } :=
  H.new (fun _ _ e => Heap.get?_push_of_some _ e) (Heap.get?_none_of_le (Nat.le_refl _)) (Heap.get?_push_size _ hf) hr

/-- one object of the ledger is changed -/
theorem St.upd {C : Cx} {vals led led' s} (H : St C vals led s) {h' : Heap} {tk : Nat} {a : Addr} {o : Obj} {ao : AO} (U : Upd a ao led led')
    (k : ∀ b o, b ≠ a → s.heap.get? b = some o → h'.get? b = some o) (ho : h'.get? a = some o) (hr : OR C.w ao o) : St C vals led' { s with heap := h', toks := tk } := by
  obtain ⟨ao₀, hm⟩ := U.had
  obtain ⟨⟨o₀, ho₀, _⟩, hB, hO⟩ := H.ledg _ hm
  have fA : ∀ x ∈ C.frameAddrs, a ≠ x := fun x hx => (H.frameB x hx).2.1 _ hm
  refine H.change (fun b o e => k b o (fun q => by rw [q, hB] at e; cases e) (H.keep b o e)) (fun x o hx e => ⟨o, k _ _ ?_ e, rfl⟩) (fun p hp => ?_) (by rw [U.addrs]; exact H.nd)
  · rcases hx with hx | ⟨p, hp, rfl⟩
    · exact Ne.symm (fA x hx)
    · exact hO p hp
  · rcases U.mem H.nd p hp with rfl | ⟨hp, hne⟩
    · exact ⟨⟨o, ho, hr⟩, hB, hO, fA⟩
    · obtain ⟨⟨o, ho, hr⟩, hb, hq⟩ := H.ledg p hp
      exact ⟨⟨o, k _ _ hne ho, hr⟩, hb, hq, fun a ha => (H.frameB a ha).2.1 p hp⟩

/-- fewer objects -/
theorem St.sub {C : Cx} {vals led led' s} (H : St C vals led s) (S : led'.Sublist led) : St C vals led' s := by
  obtain ⟨⟨h, tk, rfl⟩, a, b, c, d, e, f, g, i, j, k, l⟩ := H
  exact ⟨⟨h, tk, rfl⟩, a, b, c, fun x hx => ⟨(d x hx).1, fun p hp => (d x hx).2.1 p (S.subset hp), (d x hx).2.2⟩, e, f, g, i, j, fun p hp => k p (S.subset hp), l.sublist (S.map _)⟩
theorem St.perm {C : Cx} {vals led led' s} (H : St C vals led s) (S : led'.Perm led) : St C vals led' s := by
  obtain ⟨⟨h, tk, rfl⟩, a, b, c, d, e, f, g, i, j, k, l⟩ := H
  exact ⟨⟨h, tk, rfl⟩, a, b, c, fun x hx => ⟨(d x hx).1, fun p hp => (d x hx).2.1 p (S.subset hp), (d x hx).2.2⟩, e, f, g, i, j, fun p hp => k p (S.subset hp), (S.map _).nodup_iff.mpr l⟩

theorem St.get {C : Cx} {vals led s} (H : St C vals led s) {a ao} (hm : (a, ao) ∈ led) : ∃ o, s.heap.get? a = some o ∧ OR C.w ao o := (H.ledg _ hm).1

inductive SetV (v : Option AV) : Nat → Vals → Vals → Prop
  | z {x r} : SetV v 0 (x :: r) (v :: r)
  | s {i x r r'} : SetV v i r r' → SetV v (i + 1) (x :: r) (x :: r')
theorem SetV.eq {v} {i : Nat} {l l' : Vals} (h : SetV v i l l') : l' = l.set i v ∧ i < l.length := by
  induction h with
  | z => exact ⟨rfl, Nat.succ_pos _⟩
  | s _ ih => exact ⟨by rw [ih.1]; rfl, Nat.succ_lt_succ ih.2⟩

end Mine

-- part M1
namespace Mine
open PySem PySem.Calls PySem.W PyProof.Rows

theorem VR.int {i : Int} {t : Tok} : VR (.int i) (.int i t) := ⟨t, rfl⟩
theorem VR.str {x : Str} {t : Tok} : VR (.str x) (.str x t) := ⟨t, rfl⟩
theorem VR.bool {b : Bool} : VR (.bool b) (.bool b) := rfl
theorem VR.ref {a : Addr} : VR (.ref a) (.ref a) := rfl
theorem VR.none : VR .none .none := rfl
theorem VR.typ {n : String} : VR (.typ n) (.type n) := rfl
theorem VR.blt {n : String} : VR (.blt n) (.builtin n) := rfl

inductive Post (C : Cx) {α β : Type} (rel : β → α → Prop) (K : β → Vals → Ledger → Prop) (a : α) (s : Shared) : Prop where
  | mk (b : β) (vals : Vals) (led : Ledger) (hr : rel b a) (hs : St C vals led s) (hk : K b vals led)
structure TW (C : Cx) {α β : Type} (rel : β → α → Prop) (t : Sem α) (vals : Vals) (led : Ledger) (K : β → Vals → Ledger → Prop) : Prop where
  run : ∀ s, St C vals led s → wpAny (Md C.w) C.A t (Post C rel K) (fun _ _ => False) s

theorem TW.use {C : Cx} {α β : Type} {rel : β → α → Prop} {t : Sem α} {vals : Vals} {led : Ledger} {K : β → Vals → Ledger → Prop} {Q : α → Shared → Prop} {s : Shared} (h : TW C rel t vals led K) (hs : St C vals led s)
    (k : ∀ a s' b v l, rel b a → St C v l s' → K b v l → Q a s') : wpAny (Md C.w) C.A t Q (fun _ _ => False) s := wpAny_mono (h.run s hs) (fun a s' x => x.casesOn fun b v l hr hs hk => k a s' b v l hr hs hk) fun _ _ x => x
theorem TW.useE {C : Cx} {α β : Type} {rel : β → α → Prop} {t : Sem α} {vals : Vals} {led : Ledger} {K : β → Vals → Ledger → Prop} {Q : α → Shared → Prop} {E : Value → Shared → Prop} {s : Shared} (h : TW C rel t vals led K) (hs : St C vals led s)
    (k : ∀ a s' b v l, rel b a → St C v l s' → K b v l → Q a s') : wpAny (Md C.w) C.A t Q E s := wpAny_mono (h.run s hs) (fun a s' x => x.casesOn fun b v l hr hs hk => k a s' b v l hr hs hk) fun _ _ x => x.elim

inductive AF where
  | next | brk | cont | ret (a : AV)
noncomputable def FRel : AF → Flow → Prop
  | .next, f => f = .next
  | .brk, f => f = .brk
  | .cont, f => f = .cont
  | .ret a, f => ∃ v, f = .ret v ∧ VR a v

noncomputable abbrev EvW (C : Cx) (e : Expr) := TW C VR (eval e C.env)
noncomputable abbrev ExW (C : Cx) (st : Stmt) := TW C FRel (exec st C.env)
noncomputable abbrev ExsW (C : Cx) (sts : List Stmt) := TW C FRel (execs sts C.env)
noncomputable abbrev TrW (C : Cx) (e : Expr) := TW C (@Eq Bool) (isTrue e C.env (eval e C.env))
noncomputable abbrev UW (C : Cx) (t : Sem Unit) := TW C (fun (_ : Unit) (_ : Unit) => True) t
noncomputable abbrev ArgsW (C : Cx) (pos : Pos) (es : List Expr) := TW C VRs (spliced (backTo pos (starEach es C.env)))

noncomputable def BinW (C : Cx) (op : Operator) (a b : AV) (vals : Vals) (led : Ledger) (K : AV → Vals → Ledger → Prop) : Prop := ∀ va vb, VR a va → VR b vb → TW C VR (binaryOp op va vb) vals led K
noncomputable def InpW (C : Cx) (op : Operator) (a b : AV) (vals : Vals) (led : Ledger) (K : AV → Vals → Ledger → Prop) : Prop := ∀ va vb, VR a va → VR b vb → TW C VR (inplaceOp op va vb) vals led K
noncomputable def CmpW (C : Cx) (op : CmpOp) (a b : AV) (vals : Vals) (led : Ledger) (K : AV → Vals → Ledger → Prop) : Prop := ∀ va vb, VR a va → VR b vb → TW C VR (compareOp op va vb) vals led K
noncomputable def UnW (C : Cx) (op : UnaryOp) (a : AV) (vals : Vals) (led : Ledger) (K : AV → Vals → Ledger → Prop) : Prop := ∀ va, VR a va → TW C VR (unaryOp op va) vals led K
noncomputable def TruW (C : Cx) (a : AV) (vals : Vals) (led : Ledger) (K : Bool → Vals → Ledger → Prop) : Prop := ∀ va, VR a va → TW C (@Eq Bool) (truthy va) vals led K
noncomputable def StoW (C : Cx) (x : Str) (a : AV) (vals : Vals) (led : Ledger) (K : Vals → Ledger → Prop) : Prop := ∀ va, VR a va → UW C (storeName C.env x va) vals led (fun _ => K)
noncomputable def AsgW (C : Cx) (t : Expr) (a : AV) (vals : Vals) (led : Ledger) (K : Vals → Ledger → Prop) : Prop := ∀ va, VR a va → UW C (assign t C.env va) vals led (fun _ => K)
noncomputable def SubW (C : Cx) (value slice : Expr) (a b : AV) (vals : Vals) (led : Ledger) (K : AV → Vals → Ledger → Prop) : Prop := ∀ va vb, VR a va → VR b vb → TW C VR (subscriptTail value slice va vb) vals led K
noncomputable def SetW (C : Cx) (a b c : AV) (vals : Vals) (led : Ledger) (K : Vals → Ledger → Prop) : Prop := ∀ va vb vc, VR a va → VR b vb → VR c vc → UW C (setItem va vb vc) vals led (fun _ => K)
noncomputable def GetAW (C : Cx) (a : AV) (name : Str) (vals : Vals) (led : Ledger) (K : AV → Vals → Ledger → Prop) : Prop := ∀ va, VR a va → TW C VR (getAttr va name true) vals led K
noncomputable def SetAW (C : Cx) (a : AV) (name : Str) (b : AV) (vals : Vals) (led : Ledger) (K : Vals → Ledger → Prop) : Prop := ∀ va vb, VR a va → VR b vb → UW C (setAttr va name vb) vals led (fun _ => K)
noncomputable def CallW (C : Cx) (f : AV) (as : List AV) (vals : Vals) (led : Ledger) (K : AV → Vals → Ledger → Prop) : Prop := ∀ fv vs, VR f fv → VRs as vs → TW C VR (call fv vs) vals led K
noncomputable def IterW (C : Cx) (a : AV) (vals : Vals) (led : Ledger) (K : AV → Vals → Ledger → Prop) : Prop := ∀ va, VR a va → TW C VR (pyIter va) vals led K

-- what is left to do behind a step, named so that no term stands under a binder of its own
noncomputable abbrev NxK (K : AF → Vals → Ledger → Prop) : Vals → Ledger → Prop := fun v l => K .next v l
noncomputable abbrev RetK (K : AF → Vals → Ledger → Prop) : AV → Vals → Ledger → Prop := fun a v l => K (.ret a) v l
noncomputable abbrev IfK (C : Cx) (body orelse : List Stmt) (K : AF → Vals → Ledger → Prop) : Bool → Vals → Ledger → Prop := fun b v l => if b = true then ExsW C body v l K else ExsW C orelse v l K
noncomputable abbrev StoK (C : Cx) (x : Str) (K : Vals → Ledger → Prop) : AV → Vals → Ledger → Prop := fun a v l => StoW C x a v l K
noncomputable abbrev InpK (C : Cx) (op : Operator) (o : AV) (K : AV → Vals → Ledger → Prop) : AV → Vals → Ledger → Prop := fun a v l => InpW C op o a v l K
noncomputable abbrev AugK (C : Cx) (x : Str) (op : Operator) (value : Expr) (K : AF → Vals → Ledger → Prop) : AV → Vals → Ledger → Prop := fun o v l => EvW C value v l (InpK C op o (StoK C x (NxK K)))
noncomputable abbrev BinK (C : Cx) (op : Operator) (a : AV) (K : AV → Vals → Ledger → Prop) : AV → Vals → Ledger → Prop := fun b v ld => BinW C op a b v ld K
noncomputable abbrev EvBK (C : Cx) (r : Expr) (op : Operator) (K : AV → Vals → Ledger → Prop) : AV → Vals → Ledger → Prop := fun a v ld => EvW C r v ld (BinK C op a K)
noncomputable abbrev CmpK (C : Cx) (op : CmpOp) (a : AV) (K : AV → Vals → Ledger → Prop) : AV → Vals → Ledger → Prop := fun b v ld => CmpW C op a b v ld K
noncomputable abbrev EvCK (C : Cx) (r : Expr) (op : CmpOp) (K : AV → Vals → Ledger → Prop) : AV → Vals → Ledger → Prop := fun a v ld => EvW C r v ld (CmpK C op a K)
noncomputable abbrev TruK (C : Cx) (K : Bool → Vals → Ledger → Prop) : AV → Vals → Ledger → Prop := fun c v ld => TruW C c v ld K
noncomputable abbrev UnK (C : Cx) (op : UnaryOp) (K : AV → Vals → Ledger → Prop) : AV → Vals → Ledger → Prop := fun a v ld => UnW C op a v ld K
noncomputable abbrev AsgK (C : Cx) (t : Expr) (K : Vals → Ledger → Prop) : AV → Vals → Ledger → Prop := fun a v l => AsgW C t a v l K
noncomputable abbrev ArK2 (a : AV) (K : List AV → Vals → Ledger → Prop) : List AV → Vals → Ledger → Prop := fun as v l => K (a :: as) v l
noncomputable abbrev ArK1 (C : Cx) (pos : Pos) (rest : List Expr) (K : List AV → Vals → Ledger → Prop) : AV → Vals → Ledger → Prop := fun a v l => ArgsW C pos rest v l (ArK2 a K)
noncomputable abbrev TupK (K : AV → Vals → Ledger → Prop) : List AV → Vals → Ledger → Prop := fun as v l => as.length ≤ 1000 ∧ ∀ a, K (.ref a) v ((a, .tup as) :: l)
noncomputable abbrev LstK (K : AV → Vals → Ledger → Prop) : List AV → Vals → Ledger → Prop := fun as v l => as.length ≤ 1000 ∧ ∀ a, K (.ref a) v ((a, .list as) :: l)
noncomputable abbrev SubK (C : Cx) (value slice : Expr) (a : AV) (K : AV → Vals → Ledger → Prop) : AV → Vals → Ledger → Prop := fun b v l => SubW C value slice a b v l K
noncomputable abbrev EvSK (C : Cx) (value slice : Expr) (K : AV → Vals → Ledger → Prop) : AV → Vals → Ledger → Prop := fun a v l => EvW C slice v l (SubK C value slice a K)
noncomputable abbrev SetK (C : Cx) (a c : AV) (K : Vals → Ledger → Prop) : AV → Vals → Ledger → Prop := fun b v l => SetW C a b c v l K
noncomputable abbrev EvTK2 (C : Cx) (i : Expr) (c : AV) (K : Vals → Ledger → Prop) : AV → Vals → Ledger → Prop := fun a v l => EvW C i v l (SetK C a c K)
noncomputable abbrev EvTK (C : Cx) (o i : Expr) (K : Vals → Ledger → Prop) : AV → Vals → Ledger → Prop := fun c v l => EvW C o v l (EvTK2 C i c K)
noncomputable abbrev XpK (K : AF → Vals → Ledger → Prop) : AV → Vals → Ledger → Prop := fun a v l => (∀ x, a ≠ .ref x) ∧ K .next v l
noncomputable abbrev CalK (C : Cx) (f : AV) (K : AV → Vals → Ledger → Prop) : List AV → Vals → Ledger → Prop := fun as v l => CallW C f as v l K
noncomputable abbrev CalK1 (C : Cx) (f a : AV) (K : AV → Vals → Ledger → Prop) : List AV → Vals → Ledger → Prop := fun as v l => CallW C f (a :: as) v l K
noncomputable abbrev GetK (C : Cx) (attr : Str) (K : AV → Vals → Ledger → Prop) : AV → Vals → Ledger → Prop := fun a v l => GetAW C a attr v l K
noncomputable abbrev SatK (C : Cx) (attr : Str) (a : AV) (K : Vals → Ledger → Prop) : AV → Vals → Ledger → Prop := fun b v l => SetAW C b attr a v l K
noncomputable abbrev SatK2 (C : Cx) (attr : Str) (b : AV) (K : Vals → Ledger → Prop) : AV → Vals → Ledger → Prop := fun r v l => SetAW C b attr r v l K
noncomputable abbrev AagK2 (C : Cx) (attr : Str) (op : Operator) (value : Expr) (b : AV) (K : AF → Vals → Ledger → Prop) : AV → Vals → Ledger → Prop := fun old v l => EvW C value v l (InpK C op old (SatK2 C attr b (NxK K)))
noncomputable abbrev AagK (C : Cx) (attr : Str) (op : Operator) (value : Expr) (K : AF → Vals → Ledger → Prop) : AV → Vals → Ledger → Prop := fun b v l => GetAW C b attr v l (AagK2 C attr op value b K)
noncomputable abbrev AsgK2 (C : Cx) (t u : Expr) (K : AF → Vals → Ledger → Prop) : AV → Vals → Ledger → Prop := fun a v l => AsgW C t a v l (fun v l => AsgW C u a v l (NxK K))

section
variable {C : Cx} {vals : Vals} {led : Ledger}

theorem TW.pure' {α β : Type} {rel : β → α → Prop} {a : α} {b : β} {K : β → Vals → Ledger → Prop} (h : K b vals led) (hr : rel b a) : TW C rel (Pure.pure a) vals led K :=
  ⟨fun s hs => wpAny_pure ⟨b, vals, led, hr, hs, h⟩⟩
theorem TW.mono {α β : Type} {rel : β → α → Prop} {t : Sem α} {K K' : β → Vals → Ledger → Prop} (h : TW C rel t vals led K) (hK : ∀ b v l, K b v l → K' b v l) : TW C rel t vals led K' :=
  ⟨fun s hs => h.use hs (fun _ _ b v l hr hs hk => ⟨b, v, l, hr, hs, hK _ _ _ hk⟩)⟩
theorem TW.bind {α β α' β' : Type} {rel : β → α → Prop} {rel' : β' → α' → Prop} {t : Sem α} {f : α → Sem α'} {K : β' → Vals → Ledger → Prop}
    (h : TW C rel t vals led fun b v l => ∀ a, rel b a → TW C rel' (f a) v l K) : TW C rel' (t >>= f) vals led K :=
  ⟨fun s hs => wpAny_bind (h.use hs (fun a s' b v l hr hs' hk => (hk a hr).run s' hs'))⟩
theorem TW.sub {α β : Type} {rel : β → α → Prop} {t : Sem α} {led' : Ledger} {K : β → Vals → Ledger → Prop} (S : led'.Sublist led) (h : TW C rel t vals led' K) : TW C rel t vals led K :=
  ⟨fun s hs => h.run s (hs.sub S)⟩
theorem TW.perm {α β : Type} {rel : β → α → Prop} {t : Sem α} {led' : Ledger} {K : β → Vals → Ledger → Prop} (S : led'.Perm led) (h : TW C rel t vals led' K) : TW C rel t vals led K :=
  ⟨fun s hs => h.run s (hs.perm S)⟩

-- statements
theorem ExsW_nil {K : AF → Vals → Ledger → Prop} (h : K .next vals led) : ExsW C [] vals led K := ⟨fun s hs => wpAny_execs_nil ⟨.next, vals, led, rfl, hs, h⟩⟩
theorem ExsW_cons {st : Stmt} {rest : List Stmt} {K : AF → Vals → Ledger → Prop}
    (h : ExW C st vals led fun f v l => match f with | .next => ExsW C rest v l K | f => K f v l) : ExsW C (st :: rest) vals led K :=
  ⟨fun s hs => wpAny_execs_cons (h.use hs (fun f s' b v l hr hs' hk => by
    cases b with
    | next => cases hr; exact hk.run s' hs'
    | brk => cases hr; exact ⟨.brk, v, l, rfl, hs', hk⟩
    | cont => cases hr; exact ⟨.cont, v, l, rfl, hs', hk⟩
    | ret a => obtain ⟨u, rfl, hu⟩ := hr; exact ⟨.ret a, v, l, ⟨u, rfl, hu⟩, hs', hk⟩))⟩
theorem ExW_Return {e : Expr} {pos : Pos} {K : AF → Vals → Ledger → Prop} (h : EvW C e vals led (RetK K)) : ExW C (.Return (some e) pos) vals led K :=
  ⟨fun s hs => wpAny_Return_some (h.use hs (fun u s' b v l hr hs' hk => ⟨.ret b, v, l, ⟨u, rfl, hr⟩, hs', hk⟩))⟩
theorem ExW_ReturnN {pos : Pos} {K : AF → Vals → Ledger → Prop} (h : K (.ret .none) vals led) : ExW C (.Return none pos) vals led K :=
  ⟨fun s hs => wpAny_Return_none ⟨.ret .none, vals, led, ⟨.none, rfl, rfl⟩, hs, h⟩⟩
theorem ExW_Break {pos : Pos} {K : AF → Vals → Ledger → Prop} (h : K .brk vals led) : ExW C (.Break pos) vals led K := ⟨fun s hs => wpAny_Break ⟨.brk, vals, led, rfl, hs, h⟩⟩
theorem ExW_Continue {pos : Pos} {K : AF → Vals → Ledger → Prop} (h : K .cont vals led) : ExW C (.Continue pos) vals led K := ⟨fun s hs => wpAny_Continue ⟨.cont, vals, led, rfl, hs, h⟩⟩
theorem ExW_If {test : Expr} {body orelse : List Stmt} {pos : Pos} {K : AF → Vals → Ledger → Prop}
    (h : TrW C test vals led (IfK C body orelse K)) : ExW C (.If test body orelse pos) vals led K :=
  ⟨fun s hs => wpAny_If (h.use hs (fun b s' b' v l hr hs' hk => by
    subst hr
    cases b' with
    | true => exact hk.run s' hs'
    | false => exact hk.run s' hs'))⟩
theorem ExW_AssignName {x : Str} {p' : Pos} {value : Expr} {pos : Pos} {K : AF → Vals → Ledger → Prop} (hsw : swapsWith value (some (.Name x p')) pos.line C.env = pure false)
    (h : EvW C value vals led (StoK C x (NxK K))) : ExW C (.Assign [.Name x p'] value pos) vals led K :=
  ⟨fun s hs => wpAny_Assign_Name (h.use hs (fun u s' b v l hr hs' hk =>
    (hk u hr).use hs' (fun _ s'' _ v' l' _ hs'' hk' => ⟨.next, v', l', rfl, hs'', hk'⟩))) hsw⟩
theorem ExW_AugName {x : Str} {p' : Pos} {op : Operator} {value : Expr} {pos : Pos} {K : AF → Vals → Ledger → Prop}
    (h : TW C VR (loadName C.env x) vals led (AugK C x op value K)) :
    ExW C (.AugAssign (.Name x p') op value pos) vals led K :=
  ⟨fun s hs => wpAny_AugAssign_Name (h.use hs (fun u s₁ b v l hr hs₁ hk =>
    hk.use hs₁ (fun u₂ s₂ b₂ v₂ l₂ hr₂ hs₂ hk₂ => (hk₂ u u₂ hr hr₂).use hs₂ (fun u₃ s₃ b₃ v₃ l₃ hr₃ hs₃ hk₃ =>
      (hk₃ u₃ hr₃).use hs₃ (fun _ s'' _ v' l' _ hs'' hk' => ⟨.next, v', l', rfl, hs'', hk'⟩)))))⟩

-- expressions
theorem EvW_int {i : Int} {k pos} {K : AV → Vals → Ledger → Prop} (h : K (.int i) vals led) : EvW C (.Constant (.int i) k pos) vals led K :=
  ⟨fun s hs => wpAny_Constant_int ⟨.int i, vals, led, ⟨_, rfl⟩, hs.tok _, h⟩⟩
theorem EvW_str {x : Str} {k pos} {K : AV → Vals → Ledger → Prop} (h : K (.str x) vals led) : EvW C (.Constant (.str x) k pos) vals led K :=
  ⟨fun s hs => wpAny_Constant_str ⟨.str x, vals, led, ⟨_, rfl⟩, hs.tok _, h⟩⟩
theorem EvW_none {k pos} {K : AV → Vals → Ledger → Prop} (h : K .none vals led) : EvW C (.Constant .none k pos) vals led K :=
  ⟨fun s hs => wpAny_Constant_none ⟨.none, vals, led, rfl, hs, h⟩⟩
theorem EvW_bool {b : Bool} {k pos} {K : AV → Vals → Ledger → Prop} (h : K (.bool b) vals led) : EvW C (.Constant (.bool b) k pos) vals led K :=
  ⟨fun s hs => wpAny_Constant_bool ⟨.bool b, vals, led, rfl, hs, h⟩⟩
theorem EvW_Bin {l r : Expr} {op : Operator} {pos : Pos} {K : AV → Vals → Ledger → Prop}
    (h : EvW C l vals led (EvBK C r op K)) : EvW C (.BinOp l op r pos) vals led K :=
  ⟨fun s hs => wpAny_BinOp (h.use hs (fun u s₁ b v l hr hs₁ hk => hk.use hs₁ (fun u₂ s₂ b₂ v₂ l₂ hr₂ hs₂ hk₂ => (hk₂ u u₂ hr hr₂).run s₂ hs₂)))⟩
theorem EvW_Cmp {l r : Expr} {op : CmpOp} {pos : Pos} {K : AV → Vals → Ledger → Prop} (h : EvW C l vals led (EvCK C r op K))
    (hm : behindInMarks op r = false := by with_unfolding_all rfl) : EvW C (.Compare l [op] [r] pos) vals led K :=
  ⟨fun s hs => wpAny_Compare1 (h.use hs (fun u s₁ b v l hr hs₁ hk => hk.use hs₁ (fun u₂ s₂ b₂ v₂ l₂ hr₂ hs₂ hk₂ => (hk₂ u u₂ hr hr₂).run s₂ hs₂))) hm⟩
theorem EvW_Un {x : Expr} {op : UnaryOp} {pos : Pos} {K : AV → Vals → Ledger → Prop} (h : EvW C x vals led (UnK C op K)) : EvW C (.UnaryOp op x pos) vals led K :=
  ⟨fun s hs => wpAny_UnaryOp (h.use hs (fun u s₁ b v l hr hs₁ hk => (hk u hr).run s₁ hs₁))⟩
theorem EvW_Named {t value : Expr} {pos : Pos} {K : AV → Vals → Ledger → Prop} (h : EvW C value vals led fun a v l => AsgW C t a v l (K a)) : EvW C (.NamedExpr t value pos) vals led K :=
  ⟨fun s hs => wpAny_NamedExpr (h.use hs (fun u s₁ b v l hr hs₁ hk => (hk u hr).use hs₁ (fun _ s₂ _ v₂ l₂ _ hs₂ hk₂ => ⟨b, v₂, l₂, hr, hs₂, hk₂⟩)))⟩
theorem EvW_Or2 {x y : Expr} {pos : Pos} {K : AV → Vals → Ledger → Prop} (h : EvW C x vals led fun a v l => TruW C a v l fun t v l => if t = true then K a v l else EvW C y v l K) : EvW C (.BoolOp .Or [x, y] pos) vals led K :=
  ⟨fun s hs => wpAny_Or2 (h.use hs (fun u s₁ b v l hr hs₁ hk => (hk u hr).use hs₁ (fun t s₂ t' v₂ l₂ e hs₂ hk₂ => by
    subst e
    cases t' with
    | true => exact ⟨b, v₂, l₂, hr, hs₂, hk₂⟩
    | false => exact hk₂.run s₂ hs₂)))⟩

-- tests
theorem TrW_Cmp {l r : Expr} {op : CmpOp} {pos : Pos} {K : Bool → Vals → Ledger → Prop} (h : EvW C l vals led (EvCK C r op (TruK C K)))
    (hm : behindInMarks op r = false := by with_unfolding_all rfl) : TrW C (.Compare l [op] [r] pos) vals led K :=
  ⟨fun s hs => wpAny_isTrue_Compare1 (h.use hs (fun u s₁ b v l hr hs₁ hk => hk.use hs₁ (fun u₂ s₂ b₂ v₂ l₂ hr₂ hs₂ hk₂ =>
    (hk₂ u u₂ hr hr₂).use hs₂ (fun u₃ s₃ b₃ v₃ l₃ hr₃ hs₃ hk₃ => (hk₃ u₃ hr₃).run s₃ hs₃)))) hm⟩
theorem TrW_Not {x : Expr} {pos : Pos} {K : Bool → Vals → Ledger → Prop} (h : TrW C x vals led fun b v l => K (!b) v l) : TrW C (.UnaryOp .Not x pos) vals led K :=
  ⟨fun s hs => wpAny_isTrue_Not (h.use hs (fun b s₁ b' v l hr hs₁ hk => ⟨!b', v, l, by rw [hr], hs₁, hk⟩))⟩
theorem TrW_plain {e : Expr} {K : Bool → Vals → Ledger → Prop} (he : isTrue e C.env (eval e C.env) = (do let v ← eval e C.env; standAt e.pos; holding [v] (truthy v)))
    (h : EvW C e vals led (TruK C K)) : TrW C e vals led K :=
  ⟨fun s hs => wpAny_isTrue_value (h.use hs (fun u s₁ b v l hr hs₁ hk => (hk u hr).run s₁ hs₁)) he⟩
theorem TrW_And2 {x y : Expr} {pos : Pos} {K : Bool → Vals → Ledger → Prop} (h : TrW C x vals led fun b v l => if b = true then TrW C y v l K else K false v l) : TrW C (.BoolOp .And [x, y] pos) vals led K :=
  ⟨fun s hs => wpAny_isTrue_BoolOp (wpAny_allTrue_And_cons (h.use hs (fun b s₁ b' v l hr hs₁ hk => by
    subst hr
    cases b' with
    | false => exact ⟨false, v, l, rfl, hs₁, hk⟩
    | true => exact wpAny_allTrue_And_cons (hk.use hs₁ (fun c s₂ c' v₂ l₂ e hs₂ hk₂ => by
        subst e
        cases c' with
        | false => exact ⟨false, v₂, l₂, rfl, hs₂, hk₂⟩
        | true => exact wpAny_allTrue_And_nil ⟨true, v₂, l₂, rfl, hs₂, hk₂⟩)))))⟩
theorem TrW_Or2 {x y : Expr} {pos : Pos} {K : Bool → Vals → Ledger → Prop} (h : TrW C x vals led fun b v l => if b = true then K true v l else TrW C y v l K) : TrW C (.BoolOp .Or [x, y] pos) vals led K :=
  ⟨fun s hs => wpAny_isTrue_BoolOp (wpAny_allTrue_Or_cons (h.use hs (fun b s₁ b' v l hr hs₁ hk => by
    subst hr
    cases b' with
    | true => exact ⟨true, v, l, rfl, hs₁, hk⟩
    | false => exact wpAny_allTrue_Or_cons (hk.use hs₁ (fun c s₂ c' v₂ l₂ e hs₂ hk₂ => by
        subst e
        cases c' with
        | true => exact ⟨true, v₂, l₂, rfl, hs₂, hk₂⟩
        | false => exact wpAny_allTrue_Or_nil ⟨false, v₂, l₂, rfl, hs₂, hk₂⟩)))))⟩
theorem TruW_bool {b : Bool} {K : Bool → Vals → Ledger → Prop} (h : K b vals led) : TruW C (.bool b) vals led K := by
  rintro _ rfl
  refine ⟨fun s hs => ?_⟩
  exact wpAny_truthy_bool ⟨b, vals, led, rfl, hs, h⟩

-- items of displays and calls
theorem ArgsW_nil {pos : Pos} {K : List AV → Vals → Ledger → Prop} (h : K [] vals led) : ArgsW C pos [] vals led K := ⟨fun s hs => wpAny_items_nil ⟨[], vals, led, .nil, hs, h⟩⟩
theorem ArgsW_cons {pos : Pos} {e : Expr} {rest : List Expr} {K : List AV → Vals → Ledger → Prop} (he : starEach (e :: rest) C.env = (false, eval e C.env) :: starEach rest C.env)
    (h : EvW C e vals led (ArK1 C pos rest K)) : ArgsW C pos (e :: rest) vals led K :=
  ⟨fun s hs => wpAny_items_cons (h.use hs (fun u s₁ b v l hr hs₁ hk => hk.use hs₁ (fun us s₂ bs v₂ l₂ hr₂ hs₂ hk₂ => ⟨b :: bs, v₂, l₂, .cons hr hr₂, hs₂, hk₂⟩))) he⟩

theorem VRs.length {as vs} (h : VRs as vs) : vs.length = as.length := by
  induction h with
  | nil => rfl
  | cons _ _ ih => simp only [List.length_cons, ih]

theorem EvW_Tuple {elts : List Expr} {k : Nat} {pos : Pos} {K : AV → Vals → Ledger → Prop} (hsz : elts.length ≤ 1000)
    (h : ArgsW C pos elts vals led (TupK K)) : EvW C (.Tuple elts k pos) vals led K :=
  ⟨fun s hs => wpAny_Tuple (h.use hs (fun us s₁ as v l hr hs₁ ⟨hl, hk⟩ => ⟨by rw [hr.length, sizeLine_eq]; (first | lia | omega), .ref s₁.heap.objs.size, v, _, rfl, hs₁.push (tk := s₁.toks) (ao := .tup as) rfl ⟨us, 0, hr, rfl⟩, hk _⟩))⟩
theorem EvW_List {elts : List Expr} {pos : Pos} {K : AV → Vals → Ledger → Prop} (hsz : elts.length ≤ 1000)
    (h : ArgsW C pos elts vals led (LstK K)) : EvW C (.List elts pos) vals led K :=
  ⟨fun s hs => wpAny_List (h.use hs (fun us s₁ as v l hr hs₁ ⟨hl, hk⟩ => ⟨by rw [hr.length, sizeLine_eq]; (first | lia | omega), .ref s₁.heap.objs.size, v, _, rfl, hs₁.push (tk := s₁.toks) (ao := .list as) rfl ⟨us, 0, hr, rfl⟩, hk _⟩))⟩
end
end Mine

-- part M2
namespace Mine
open PySem PySem.Calls PySem.W PyProof.Rows

noncomputable abbrev KH (w : World) : Frag := heapK w.params

noncomputable def BsH (w : World) (h : Heap) : Prop := (KH w).In h ∧ (∃ ms, h.Ns sysModules ms) ∧ ∃ p loose mean mg mb, Top p loose mean mg mb h
noncomputable def Bs (w : World) (B : Addr → Option Obj) : Prop := ∀ h : Heap, (∀ b o, B b = some o → h.get? b = some o) → BsH w h

noncomputable def Cx.Wr (C : Cx) (x : Str) : Prop := C.env.kindOf x = some .local ∨ (C.env.kindOf x = some .cell ∧ x ∈ C.wr)

structure COk (C : Cx) (k : Nat) : Prop where
  base : Bs C.w C.B
  hand : C.A.handled = none
  depth : C.A.depth + k ≤ 900
  units : C.A.units + 10 * k ≤ 9000
  kind : C.env.scope.kind = .function
  glob : C.env.globals = mainGlobals
  bu : C.env.builtins = builtinsNs
  nodup : C.names.Nodup
  wnodup : C.wr.Nodup
  ndbg : ∀ x ∈ C.names, (x == ("__debug__" : Str)) = false ∧ (x == ("__classdict__" : Str)) = false
  frames : ∃ fs, C.A.frames = some fs ∧ ∀ e ∈ fs, e.scope.kind ≠ .module ∧ (e.frame = some C.env.locals ∨ ∃ p ∈ C.outs, e.frame = some p.1 ∧ ∃ es n, p.2 = .dict es n)

section
variable {C : Cx} {vals : Vals} {led : Ledger} {k : Nat}

theorem COk.here (ok : COk C k) {s : Shared} (H : St C vals led s) : BsH C.w s.heap := ok.base _ H.keep

theorem COk.ne_sys (ok : COk C k) {s : Shared} (H : St C vals led s) {a : Addr} {ao : AO} (hm : (a, ao) ∈ led) : (a == sysModules) = false := by
  cases q : a == sysModules with
  | false => rfl
  | true =>
    have e : a = sysModules := by simpa using q
    obtain ⟨_, ⟨ms, o, _, _, ho, _⟩, _⟩ := ok.base (s.heap.hide a) (fun b o e => by
      have hb := (H.ledg _ hm).2.1
      have : b ≠ a := fun q => by rw [q, hb] at e; cases e
      exact (Heap.hide_ne _ this).trans (H.keep b o e))
    rw [← e, Heap.hide_self] at ho; cases ho

theorem LoadW {x : Str} {a : AV} {K : AV → Vals → Ledger → Prop} (i : Nat) (ok : COk C k) (hi : C.names[i]? = some x) (hv : vals[i]? = some (some a)) (h : K a vals led) :
    TW C VR (loadName C.env x) vals led K := by
  refine ⟨fun s hs => ?_⟩
  rcases hs.vars i x _ hi hv with ⟨hk, mm, hn, ho⟩ | ⟨hk, c, u, hc, hcell, ho⟩
  · cases hmx : mm x with
    | none => rw [hmx] at ho; cases ho
    | some v =>
      rw [hmx] at ho
      cases ho with
      | some hr => exact wpAny_loadName_local ok.kind hk hn hmx ⟨a, vals, led, hr, hs, h⟩
  · cases u with
    | none => cases ho
    | some v =>
      cases ho with
      | some hr =>
        rcases hk with hk | hk
        · exact wpAny_loadName_cell ok.kind hk hc hcell ⟨a, vals, led, hr, hs, h⟩
        · exact wpAny_loadName_free ok.kind hk hc hcell ⟨a, vals, led, hr, hs, h⟩ (ok.ndbg x (List.mem_of_getElem? hi)).2
theorem EvW_name {x : Str} {pos : Pos} {a : AV} {K : AV → Vals → Ledger → Prop} (i : Nat) (ok : COk C k) (hi : C.names[i]? = some x) (hv : vals[i]? = some (some a)) (h : K a vals led) :
    EvW C (.Name x pos) vals led K :=
  ⟨fun s hs => wpAny_Name ((LoadW i ok hi hv h).run s hs) (ok.ndbg x (List.mem_of_getElem? hi)).1⟩

theorem Ns_uniq {h : Heap} {a : Addr} {m m' : Str → Option Value} (x : h.Ns a m) (y : h.Ns a m') : m = m' := by
  obtain ⟨o, es, ep, ho, hd, _, e⟩ := x
  obtain ⟨o', es', ep', ho', hd', _, e'⟩ := y
  rw [ho] at ho'; cases ho'
  rw [hd] at hd'; cases hd'
  funext z; rw [← e, ← e']

theorem get_inj {l : List Str} (nd : l.Nodup) {i j : Nat} {x : Str} (h1 : l[i]? = some x) (h2 : l[j]? = some x) : i = j := by
  induction l generalizing i j with
  | nil => simp at h1
  | cons y r ih =>
    rw [List.nodup_cons] at nd
    cases i with
    | zero =>
      cases j with
      | zero => rfl
      | succ j =>
        simp only [List.getElem?_cons_zero, Option.some.injEq] at h1
        simp only [List.getElem?_cons_succ] at h2
        exact absurd (List.mem_of_getElem? h2) (h1 ▸ nd.1)
    | succ i =>
      cases j with
      | zero =>
        simp only [List.getElem?_cons_zero, Option.some.injEq] at h2
        simp only [List.getElem?_cons_succ] at h1
        exact absurd (List.mem_of_getElem? h1) (h2 ▸ nd.1)
      | succ j =>
        simp only [List.getElem?_cons_succ] at h1 h2
        rw [ih nd.2 h1 h2]

theorem StoW_ {x : Str} {a : AV} {vals' : Vals} {K : Vals → Ledger → Prop} (i : Nat) (ok : COk C k) (hi : C.names[i]? = some x) (hw : C.Wr x) (S : SetV (some a) i vals vals')
    (h : K vals' led) : StoW C x a vals led K := by
  intro va hva
  refine ⟨fun s hs => ?_⟩
  obtain ⟨rfl, hlt⟩ := S.eq
  have hvi : vals[i]? = some vals[i] := by simp [hlt]
  rcases hw with hk | ⟨hk, hwr⟩
  · obtain ⟨mm, hn⟩ := hs.locs
    refine wpAny_storeName_local hk hn (fun h' hn' hsb => ⟨(), vals.set i (some a), led, trivial, ?_, h⟩) (by rw [ok.kind]; rfl)
    have nL : ∀ b, (∀ (q : b = C.env.locals), False) → h'.get? b = s.heap.get? b := fun b q => hsb.2 b fun e => q e
    obtain ⟨⟨hh, tk, rfl⟩, k1, k2, k3, k4, k5, k6, k7, k8, k9, k10, k11⟩ := hs
    have hL : C.env.locals ∈ C.frameAddrs := .head _
    refine ⟨⟨h', _, rfl⟩, fun b o e => ?_, fun p hp => ?_, k3, k4, k5, ⟨_, hn'⟩, fun y c hc => ?_, by simpa using k8, fun j y v h1 h2 => ?_, fun p hp => ?_, k11⟩
    · rw [nL b (fun q => by rw [q, (k4 _ hL).1] at e; cases e)]; exact k1 b o e
    · obtain ⟨o, ho, hd⟩ := k2 p hp
      exact ⟨o, by rw [nL _ (fun q => (k4 _ hL).2.2 p hp q)]; exact ho, hd⟩
    · rcases k7 y c hc with ⟨hw, u, hu⟩ | h3
      · refine .inl ⟨hw, u, ?_⟩
        have hne : c ≠ C.env.locals := fun q => by
          have := k5
          unfold Cx.frameAddrs at this
          rw [List.nodup_cons] at this
          exact this.1 (q ▸ List.mem_filterMap.mpr ⟨y, hw, hc⟩)
        obtain ⟨o, ho, hd⟩ := hu
        exact ⟨o, (nL c hne).trans ho, hd⟩
      · exact .inr h3
    · by_cases hij : j = i
      · subst hij
        rw [hi] at h1; cases h1
        rw [List.getElem?_set_self hlt] at h2; cases h2
        exact .inl ⟨hk, _, hn', by simp; exact .some hva⟩
      · rw [List.getElem?_set_ne (Ne.symm hij)] at h2
        have hyx : y ≠ x := fun q => hij (get_inj ok.nodup h1 (q ▸ hi))
        rcases k9 j y v h1 h2 with ⟨hky, m2, hm2, ho2⟩ | ⟨hky, c, u, hc, hu, ho2⟩
        · rw [Ns_uniq hn hm2] at hn'
          exact .inl ⟨hky, _, hn', by simp only [if_neg hyx]; exact ho2⟩
        · refine .inr ⟨hky, c, u, hc, ?_, ho2⟩
          have hne : c ≠ C.env.locals := fun q => by
            obtain ⟨o, ho, hd⟩ := hu
            obtain ⟨o', es, ep, ho', hd', _⟩ := hn
            rw [q, ho'] at ho; cases ho
            rw [hd'] at hd; cases hd
          obtain ⟨o, ho, hd⟩ := hu
          exact ⟨o, (nL c hne).trans ho, hd⟩
    · obtain ⟨⟨o, ho, hr⟩, hB, hO⟩ := k10 p hp
      exact ⟨⟨o, by rw [nL _ (fun q => (k4 _ hL).2.1 p hp q)]; exact ho, hr⟩, hB, hO⟩
  · -- a cell
    rcases hs.vars i x _ hi hvi with ⟨hk', _⟩ | ⟨_, c, u, hc, hcell, _⟩
    · rw [hk] at hk'; cases hk'
    refine wpAny_storeName_cell ok.kind hk hc hcell (fun h' hc' hsb => ⟨(), vals.set i (some a), led, trivial, ?_, h⟩)
    have hcF : c ∈ C.frameAddrs := List.mem_cons_of_mem _ (List.mem_filterMap.mpr ⟨x, hwr, hc⟩)
    obtain ⟨⟨hh, tk, rfl⟩, k1, k2, k3, k4, k5, k6, k7, k8, k9, k10, k11⟩ := hs
    have nL : ∀ b, b ≠ c → h'.get? b = hh.get? b := fun b q => hsb.2 b q
    have hLc : C.env.locals ≠ c := fun q => by
      have := k5
      unfold Cx.frameAddrs at this
      rw [List.nodup_cons] at this
      exact this.1 (q ▸ List.mem_filterMap.mpr ⟨x, hwr, hc⟩)
    have uniq : ∀ y, y ≠ x → C.env.cells.lookup y = some c → False := fun y hyx hy => by
      rcases k7 y c hy with ⟨hw, _⟩ | ⟨o, u, hB, _⟩
      · have := k5
        unfold Cx.frameAddrs at this
        rw [List.nodup_cons] at this
        have nd := this.2
        have wnd := ok.wnodup
        generalize C.wr = l at nd hw hwr wnd
        clear this k5 k7 k9 k4
        induction l with
        | nil => cases hw
        | cons z r ih =>
          rw [List.nodup_cons] at wnd
          rcases List.mem_cons.mp hw with e1 | w1
          · rcases List.mem_cons.mp hwr with e2 | w2
            · exact hyx (e1.trans e2.symm)
            · rw [List.filterMap_cons, ← e1, hy, List.nodup_cons] at nd
              exact nd.1 (List.mem_filterMap.mpr ⟨x, w2, hc⟩)
          · rcases List.mem_cons.mp hwr with e2 | w2
            · rw [List.filterMap_cons, ← e2, hc, List.nodup_cons] at nd
              exact nd.1 (List.mem_filterMap.mpr ⟨y, w1, hy⟩)
            · rw [List.filterMap_cons] at nd
              split at nd
              · exact ih nd w1 w2 wnd.2
              · rw [List.nodup_cons] at nd; exact ih nd.2 w1 w2 wnd.2
      · rw [(k4 _ hcF).1] at hB; cases hB
    refine ⟨⟨h', _, rfl⟩, fun b o e => ?_, fun p hp => ?_, k3, k4, k5, ?_, fun y c' hc2 => ?_, by simpa using k8, fun j y v h1 h2 => ?_, fun p hp => ?_, k11⟩
    · rw [nL b (fun q => by rw [q, (k4 _ hcF).1] at e; cases e)]; exact k1 b o e
    · obtain ⟨o, ho, hd⟩ := k2 p hp
      exact ⟨o, by rw [nL _ (fun q => (k4 _ hcF).2.2 p hp q)]; exact ho, hd⟩
    · obtain ⟨mm, hn⟩ := k6
      exact ⟨mm, hn.sameBut hsb hLc⟩
    · rcases k7 y c' hc2 with ⟨hw, u', hu⟩ | h3
      · by_cases hcc : c' = c
        · subst hcc; exact .inl ⟨hw, _, hc'⟩
        · exact .inl ⟨hw, u', hu.sameBut hsb hcc⟩
      · exact .inr h3
    · by_cases hij : j = i
      · subst hij
        rw [hi] at h1; cases h1
        rw [List.getElem?_set_self hlt] at h2; cases h2
        exact .inr ⟨.inl hk, c, _, hc, hc', .some hva⟩
      · rw [List.getElem?_set_ne (Ne.symm hij)] at h2
        have hyx : y ≠ x := fun q => hij (get_inj ok.nodup h1 (q ▸ hi))
        rcases k9 j y v h1 h2 with ⟨hky, m2, hm2, ho2⟩ | ⟨hky, c2, u2, hc2, hu, ho2⟩
        · exact .inl ⟨hky, _, hm2.sameBut hsb hLc, ho2⟩
        · exact .inr ⟨hky, c2, u2, hc2, hu.sameBut hsb (fun q => uniq y hyx (q ▸ hc2)), ho2⟩
    · obtain ⟨⟨o, ho, hr⟩, hB, hO⟩ := k10 p hp
      exact ⟨⟨o, by rw [nL _ (fun q => (k4 _ hcF).2.1 p hp q)]; exact ho, hr⟩, hB, hO⟩

theorem AsgW_Name {x : Str} {pos : Pos} {a : AV} {K : Vals → Ledger → Prop} (h : StoW C x a vals led K) : AsgW C (.Name x pos) a vals led K :=
  fun va hva => ⟨fun s hs => wpAny_assign_Name ((h va hva).run s hs)⟩

theorem EvW_global {x : Str} {pos : Pos} {v : Value} {a : AV} {K : AV → Vals → Ledger → Prop} (ok : COk C k) (hx : C.env.kindOf x = some .globalImplicit) (hd : (x == ("__debug__" : Str)) = false)
    (e : nsIn (KH C.w) mainGlobals x = some (some v)) (hr : VR a v) (h : K a vals led) : EvW C (.Name x pos) vals led K := by
  refine ⟨fun s hs => ?_⟩
  obtain ⟨X, _, p, loose, mean, mg, mb, T⟩ := ok.here hs
  exact Calls.Name_function_global ok.kind hx (Calls.loadGlobal_global (by rw [ok.glob]; exact T.g) (mg_of X T.g e) ⟨a, vals, led, hr, hs, h⟩) hd
theorem EvW_builtin {x : Str} {pos : Pos} {v : Value} {a : AV} {K : AV → Vals → Ledger → Prop} (ok : COk C k) (hx : C.env.kindOf x = some .globalImplicit) (hd : (x == ("__debug__" : Str)) = false)
    (e : nsIn (KH C.w) mainGlobals x = some none) (hv : bootBuiltins x = some v) (hn : x ≠ "__name__") (hr : VR a v) (h : K a vals led) : EvW C (.Name x pos) vals led K := by
  refine ⟨fun s hs => ?_⟩
  obtain ⟨X, _, p, loose, mean, mg, mb, T⟩ := ok.here hs
  exact Calls.Name_function_global ok.kind hx (Calls.loadGlobal_builtin (by rw [ok.glob]; exact T.g) (mg_none_of X T.g e) (by rw [ok.bu]; exact T.b) ((T.builtins x hn).trans hv) ⟨a, vals, led, hr, hs, h⟩) hd
end
end Mine

-- part M3
namespace Mine
open PySem PySem.Calls PySem.W PyProof.Rows

noncomputable def hid (h : Heap) (l : List Addr) : Addr → Option Obj := fun b => if b ∈ l then none else h.get? b
theorem hid_some {h : Heap} {l : List Addr} {b : Addr} {o : Obj} (e : hid h l b = some o) : b ∉ l ∧ h.get? b = some o := by
  unfold hid at e
  split at e
  · cases e
  · rename_i q; exact ⟨q, e⟩
theorem hid_of {h : Heap} {l : List Addr} {b : Addr} {o : Obj} (n : b ∉ l) (e : h.get? b = some o) : hid h l b = some o := by
  unfold hid; rw [if_neg n]; exact e
theorem hid_none {h : Heap} {l : List Addr} {b : Addr} (n : b ∈ l) : hid h l b = none := by unfold hid; rw [if_pos n]

theorem Bs.mono {w : World} {B B' : Addr → Option Obj} (x : Bs w B) (h : ∀ b o, B b = some o → B' b = some o) : Bs w B' := fun hh k => x hh fun b o e => k b o (h b o e)

/-- behind a call: the caller's frame as it was, the ledger as the callee leaves it -/
theorem St.back {C C' : Cx} {vals v' : Vals} {led led' : Ledger} {s s' : Shared} (H : St C vals led s) (hB : ∀ b o, C.B b = some o → C'.B b = some o) (hw : C'.w = C.w) (hr : C'.r = C.r) (houts : ∀ p ∈ C.outs, p ∈ C'.outs)
    (hL : ∀ o, s.heap.get? C.env.locals = some o → (C.env.locals, o.data) ∈ C'.outs)
    (hcells : ∀ x c o, C.env.cells.lookup x = some c → s.heap.get? c = some o → C'.B c = some o) (H' : St C' v' led' s') : St C vals led' s' := by
  obtain ⟨mm, oL, esL, epL, hoL, hdL, rL⟩ := H.locs
  have hLo := hL oL hoL
  obtain ⟨oL', hoL', hdL'⟩ := H'.outs _ hLo
  have hcB : ∀ x c, C.env.cells.lookup x = some c → ∃ o, s.heap.get? c = some o ∧ C'.B c = some o := by
    intro x c hc
    rcases H.cellsO x c hc with ⟨_, u, o, ho, _⟩ | ⟨o, u, hb, _⟩
    · exact ⟨o, ho, hcells x c o hc ho⟩
    · exact ⟨o, H.keep _ _ hb, hB _ _ hb⟩
  refine ⟨hr ▸ H'.same, fun b o e => H'.keep b o (hB b o e), fun p hp => H'.outs p (houts p hp), H.outsB, fun a ha => ⟨(H.frameB a ha).1, fun p hp e => ?_, (H.frameB a ha).2.2⟩, H.frameN,
    ⟨mm, oL', esL, epL, hoL', hdL'.trans hdL, rL⟩, fun x c hc => ?_, H.len, fun i x v h1 h2 => (H.vars i x v h1 h2).keeps (fun o ho => ?_) (fun y c o hc ho => ?_), fun p hp => ⟨?_, ?_, fun q hq => (H'.ledg p hp).2.2 q (houts q hq)⟩, H'.nd⟩
  · unfold Cx.frameAddrs at ha
    rcases List.mem_cons.mp ha with rfl | ha
    · exact (H'.ledg p hp).2.2 _ hLo e.symm
    · obtain ⟨y, hy, hc⟩ := List.mem_filterMap.mp ha
      obtain ⟨o, _, hb⟩ := hcB y a hc
      have := (H'.ledg p hp).2.1
      rw [e, hb] at this; cases this
  · rcases H.cellsO x c hc with ⟨hwr, u, o, ho, hd⟩ | h3
    · exact .inl ⟨hwr, u, o, H'.keep _ _ (hcells x c o hc ho), hd⟩
    · exact .inr h3
  · rw [hoL] at ho; cases ho
    exact ⟨oL', hoL', hdL'⟩
  · exact ⟨o, H'.keep _ _ (hcells y c o hc ho), rfl⟩
  · have := (H'.ledg p hp).1
    rw [hw] at this; exact this
  · cases q : C.B p.1 with
    | none => rfl
    | some o => have := (H'.ledg p hp).2.1; rw [hB _ _ q] at this; cases this

theorem bindL_skip {kindOf : Str → Option NameKind} {x : Str} : ∀ (pn : List Str) (vs : List Value) (m : Str → Option Value), x ∉ pn → bindL kindOf (pn.zip vs) m x = m x
  | [], _, _, _ => rfl
  | _ :: _, [], _, _ => rfl
  | p :: pn, v :: vs, m, h => by
    simp only [List.zip_cons_cons, bindL]
    rw [bindL_skip pn vs _ fun q => h (.tail _ q)]
    have hx : x ≠ p := fun q => h (q ▸ .head _)
    split
    · simp [hx]
    · rfl
theorem bindC_skip {kindOf : Str → Option NameKind} {x : Str} : ∀ (pn : List Str) (vs : List Value) (m : Str → Option Value), x ∉ pn → bindC kindOf (pn.zip vs) m x = m x
  | [], _, _, _ => rfl
  | _ :: _, [], _, _ => rfl
  | p :: pn, v :: vs, m, h => by
    simp only [List.zip_cons_cons, bindC]
    rw [bindC_skip pn vs _ fun q => h (.tail _ q)]
    have hx : x ≠ p := fun q => h (q ▸ .head _)
    split
    · rfl
    · simp [hx]
theorem bindL_at {kindOf : Str → Option NameKind} {x : Str} {v : Value} (hk : kindOf x = some .local) : ∀ (pn : List Str) (vs : List Value) (m : Str → Option Value) (i : Nat), pn.Nodup → pn[i]? = some x → vs[i]? = some v → bindL kindOf (pn.zip vs) m x = some v
  | [], _, _, _, _, h, _ => by simp at h
  | _ :: _, [], _, _, _, _, h => by simp at h
  | p :: pn, u :: vs, m, 0, nd, h1, h2 => by
    simp only [List.getElem?_cons_zero, Option.some.injEq] at h1 h2
    subst h1 h2
    simp only [List.zip_cons_cons, bindL]
    rw [bindL_skip pn vs _ (List.nodup_cons.mp nd).1, if_pos hk]
    simp
  | p :: pn, u :: vs, m, i + 1, nd, h1, h2 => by
    simp only [List.getElem?_cons_succ] at h1 h2
    simp only [List.zip_cons_cons, bindL]
    exact bindL_at hk pn vs _ i (List.nodup_cons.mp nd).2 h1 h2
theorem bindC_at {kindOf : Str → Option NameKind} {x : Str} {v : Value} (hk : kindOf x ≠ some .local) : ∀ (pn : List Str) (vs : List Value) (m : Str → Option Value) (i : Nat), pn.Nodup → pn[i]? = some x → vs[i]? = some v → bindC kindOf (pn.zip vs) m x = some v
  | [], _, _, _, _, h, _ => by simp at h
  | _ :: _, [], _, _, _, _, h => by simp at h
  | p :: pn, u :: vs, m, 0, nd, h1, h2 => by
    simp only [List.getElem?_cons_zero, Option.some.injEq] at h1 h2
    subst h1 h2
    simp only [List.zip_cons_cons, bindC]
    rw [bindC_skip pn vs _ (List.nodup_cons.mp nd).1, if_neg hk]
    simp
  | p :: pn, u :: vs, m, i + 1, nd, h1, h2 => by
    simp only [List.getElem?_cons_succ] at h1 h2
    simp only [List.zip_cons_cons, bindC]
    exact bindC_at hk pn vs _ i (List.nodup_cons.mp nd).2 h1 h2

theorem VRs.get {as : List AV} {vs : List Value} {i : Nat} {v : Value} (h : VRs as vs) (e : vs[i]? = some v) : ∃ a, as[i]? = some a ∧ VR a v := by
  induction h generalizing i with
  | nil => cases e
  | cons h _ ih =>
    cases i with
    | zero => cases e; exact ⟨_, rfl, h⟩
    | succ i => exact ih (i := i) e
theorem VRs.get' : ∀ {as : List AV} {vs : List Value} {i : Nat} {a : AV}, VRs as vs → as[i]? = some a → ∃ v, vs[i]? = some v ∧ VR a v
  | _, _, 0, _, .cons h _, e => by simp only [List.getElem?_cons_zero, Option.some.injEq] at e; subst e; exact ⟨_, rfl, h⟩
  | _, _, i + 1, _, .cons _ h, e => by simp only [List.getElem?_cons_succ] at e ⊢; exact h.get' e

/-- what is known of a def: the kinds of its names -/
structure FnOk (fd : FuncData) (pn ls wr : List Str) : Prop where
  kinds : ∀ x ∈ pn ++ ls, fd.scope.names.lookup x = some .local ∨ (fd.scope.names.lookup x = some .cell ∧ x ∈ wr)
  cells : ∀ n, ∀ x ∈ wr, ((cellsFrom n fd.scope.names []).lookup x).isSome = true
  cells' : ∀ n x c, (cellsFrom n fd.scope.names []).lookup x = some c → x ∈ wr
  nodup : (pn ++ ls).Nodup
  wnodup : wr.Nodup
  ndbg : ∀ x ∈ pn ++ ls, (x == ("__debug__" : Str)) = false ∧ (x == ("__classdict__" : Str)) = false
  kind : fd.scope.kind = .function
  gen : fd.scope.isGenerator = false
  co : fd.scope.isCoroutine = false
  glob : fd.globals = mainGlobals
  bu : fd.builtins = builtinsNs
  clo : fd.closure = []

noncomputable abbrev CF (w : World) (B : Addr → Option Obj) (outs : List (Addr × Data)) (r : Shared) (A : Around) (fd : FuncData) (f L : Addr) (names wr : List Str) : Cx :=
  ⟨w, B, outs, r, A.deeper (callEnvC fd L f), callEnvC fd L f, names, wr⟩

noncomputable def retOf : AF → AV
  | .ret a => a
  | _ => .none

theorem callFn {C : Cx} {vals : Vals} {led : Ledger} {k : Nat} {f : Addr} {as : List AV} {fd : FuncData} {pn ls wr : List Str} {body : List Stmt} {oc : Value} {od : Option Addr} {osl : Array (Option Value)} {K : AV → Vals → Ledger → Prop}
    (ok : COk C (k + 1)) (FO : FnOk fd pn ls wr) (ho : (KH C.w).lookup f = some ⟨oc, od, .func fd, osl⟩) (hcd : codeIn (KH C.w) fd.code fd.qualname = true) (hbody : fd.body = .stmts body) (hlen : as.length = pn.length)
    {s : Shared} (hs : St C vals led s) {vs : List Value} (hvs : VRs as vs) (hbind : bindArgs fd ⟨vs, []⟩ = pure (pn.zip vs))
    (h : ∀ B outs L, COk (CF C.w B outs C.r C.A fd f L (pn ++ ls) wr) k → ExsW (CF C.w B outs C.r C.A fd f L (pn ++ ls) wr) body (as.map some ++ ls.map fun _ => none) led fun fl v l => K (retOf fl) vals l) :
    codeAny (Md C.w) C.A (.call (.ref f) ⟨vs, []⟩) (fun r s' => match r with | .ok (.ret v) => Post C VR K v s' | .ok _ => False | .error e => False) s := by
  obtain ⟨X, _, p, loose, mean, mg, mb, T⟩ := ok.here hs
  have hroom : C.A.depth < recursionLimit := by have := ok.depth; show _ < 1000; (first | lia | omega)
  refine codeAny_call_cells hroom (X _ _ ho) rfl T.nolimit (codeRec_of X hcd) hbody hbind FO.clo (fun x hx => ?_) (fun s₁ I => ?_) FO.co FO.gen FO.kind
  · have hx1 : x.1 ∈ pn := (List.of_mem_zip hx).1
    rcases FO.kinds x.1 (List.mem_append_left _ hx1) with q | ⟨q, qw⟩
    · exact .inl q
    · exact .inr ⟨q, FO.cells _ _ qw⟩
  -- the callee's state
  obtain ⟨mm, oL, esL, epL, hoL, hdL, rL⟩ := hs.locs
  let hl : List Addr := led.map (·.1) ++ (C.env.locals :: C.outs.map (·.1))
  let B' := hid s.heap hl
  let outs' : List (Addr × Data) := (C.env.locals, oL.data) :: C.outs
  let L := s.heap.objs.size
  have hBB : ∀ b o, C.B b = some o → B' b = some o := fun b o e => by
    refine hid_of (fun hm => ?_) (hs.keep b o e)
    rcases List.mem_append.mp hm with hm | hm
    · obtain ⟨q, hq, rfl⟩ := List.mem_map.mp hm
      rw [(hs.ledg q hq).2.1] at e; cases e
    · rcases List.mem_cons.mp hm with rfl | hm
      · rw [(hs.frameB _ (.head _)).1] at e; cases e
      · obtain ⟨q, hq, rfl⟩ := List.mem_map.mp hm
        rw [hs.outsB q hq] at e; cases e
  have newL : s.heap.get? L = none := Heap.get?_none_of_le (Nat.le_refl _)
  have hcellsE : (callEnvC fd L f).cells = cellsFrom (L + 1) fd.scope.names [] := rfl
  have hlocE : (callEnvC fd L f).locals = L := rfl
  have hkindE : ∀ x, (callEnvC fd L f).kindOf x = fd.scope.names.lookup x := fun _ => rfl
  have cellAbove : ∀ x c, (callEnvC fd L f).cells.lookup x = some c → L < c := fun x c hc => I.above x c (mem_of_lookup hc)
  have newAt : ∀ c, L ≤ c → s.heap.get? c = none := fun c hc => Heap.get?_none_of_le hc
  have ok' : COk (CF C.w B' outs' C.r C.A fd f L (pn ++ ls) wr) k := by
    refine ⟨ok.base.mono hBB, ok.hand, ?_, ?_, FO.kind, FO.glob, FO.bu, FO.nodup, FO.wnodup, FO.ndbg, ?_⟩
    · have := ok.depth; show C.A.depth + 1 + k ≤ 900; (first | lia | omega)
    · have := ok.units; show C.A.units + 3 + 10 * k ≤ 9000; (first | lia | omega)
    · obtain ⟨fs, hfs, hF⟩ := ok.frames
      refine ⟨callEnvC fd L f :: fs, by show C.A.frames.map _ = _; rw [hfs]; rfl, fun e he => ?_⟩
      rcases List.mem_cons.mp he with rfl | he
      · exact ⟨by show fd.scope.kind ≠ _; rw [FO.kind]; decide, .inl rfl⟩
      · refine ⟨(hF e he).1, .inr ?_⟩
        rcases (hF e he).2 with q | ⟨p, hp, q⟩
        · exact ⟨_, .head _, q, esL, epL, hdL⟩
        · exact ⟨p, .tail _ hp, q⟩
  have Hs₁ : St (CF C.w B' outs' C.r C.A fd f L (pn ++ ls) wr) (as.map some ++ ls.map fun _ => none) led s₁ := by
    obtain ⟨h₁, tk, rfl, hk₁⟩ := I.done
    have fA : ∀ a ∈ (CF C.w B' outs' C.r C.A fd f L (pn ++ ls) wr).frameAddrs, L ≤ a := fun a ha => by
      rcases List.mem_cons.mp ha with rfl | ha
      · exact Nat.le_refl _
      · obtain ⟨y, _, hc⟩ := List.mem_filterMap.mp ha
        exact Nat.le_of_lt (cellAbove y a hc)
    refine ⟨?_, fun b o e => hk₁ b o (hid_some e).2, fun p hp => ?_, fun p hp => ?_, fun a ha => ⟨?_, fun p hp e => ?_, fun p hp e => ?_⟩, ?_, ⟨_, I.toInCall.ns⟩, fun x c hc => ?_, ?_, fun i x v h1 h2 => ?_, fun p hp => ⟨?_, ?_, fun q hq => ?_⟩, hs.nd⟩
    · obtain ⟨h₀, tk₀, e⟩ := hs.same
      exact ⟨h₁, tk, by rw [e]⟩
    · rcases List.mem_cons.mp hp with rfl | hp
      · exact ⟨oL, hk₁ _ _ hoL, rfl⟩
      · obtain ⟨o, ho, hd⟩ := hs.outs p hp
        exact ⟨o, hk₁ _ _ ho, hd⟩
    · refine hid_none ?_
      rcases List.mem_cons.mp hp with rfl | hp
      · exact List.mem_append_right _ (.head _)
      · exact List.mem_append_right _ (.tail _ (List.mem_map_of_mem hp))
    · cases q : B' a with
      | none => exact q
      | some o => have := (hid_some q).2; rw [newAt a (fA a ha)] at this; cases this
    · obtain ⟨⟨o, ho, _⟩, _⟩ := hs.ledg p hp
      rw [e, newAt a (fA a ha)] at ho; cases ho
    · have : ∃ o, s.heap.get? p.1 = some o := by
        rcases List.mem_cons.mp hp with rfl | hp
        · exact ⟨_, hoL⟩
        · obtain ⟨o, ho, _⟩ := hs.outs p hp; exact ⟨o, ho⟩
      obtain ⟨o, ho⟩ := this
      rw [e, newAt a (fA a ha)] at ho; cases ho
    · unfold Cx.frameAddrs
      rw [List.nodup_cons]
      refine ⟨fun hm => ?_, ?_⟩
      · obtain ⟨y, _, hc⟩ := List.mem_filterMap.mp hm
        exact absurd (cellAbove y _ hc) (Nat.lt_irrefl _)
      · have wn := FO.wnodup
        generalize wr = wl at wn
        induction wl with
        | nil => exact List.nodup_nil
        | cons z r ih =>
          rw [List.nodup_cons] at wn
          rw [List.filterMap_cons]
          split
          · exact ih wn.2
          · rename_i c hc
            rw [List.nodup_cons]
            refine ⟨fun hm => ?_, ih wn.2⟩
            obtain ⟨y, hy, hyc⟩ := List.mem_filterMap.mp hm
            exact wn.1 (name_of_addr I.apart (mem_of_lookup hc) (mem_of_lookup hyc) ▸ hy)
    · exact .inl ⟨FO.cells' _ x c hc, _, I.cell x c hc⟩
    · simp [hlen]
    · have hx : x ∈ pn ++ ls := List.mem_of_getElem? h1
      by_cases hi : i < pn.length
      · have h1' : pn[i]? = some x := by rwa [List.getElem?_append_left hi] at h1
        have h2' : (as.map some)[i]? = some v := by rwa [List.getElem?_append_left (by simpa [hlen] using hi)] at h2
        rw [List.getElem?_map] at h2'
        cases ha : as[i]? with
        | none => rw [ha] at h2'; cases h2'
        | some a =>
          rw [ha] at h2'; cases h2'
          obtain ⟨u, hu, hur⟩ := hvs.get' ha
          have nd := (List.nodup_append.mp FO.nodup).1
          rcases FO.kinds x hx with q | ⟨q, qw⟩
          · exact .inl ⟨q, _, I.toInCall.ns, by rw [bindL_at (kindOf := (callEnvC fd L f).kindOf) q pn vs _ i nd h1' hu]; exact .some hur⟩
          · obtain ⟨c, hc⟩ := Option.isSome_iff_exists.mp (FO.cells (L + 1) x qw)
            refine .inr ⟨.inl q, c, _, hc, I.cell x c hc, ?_⟩
            rw [bindC_at (kindOf := (callEnvC fd L f).kindOf) (by show fd.scope.names.lookup x ≠ _; rw [q]; decide) pn vs _ i nd h1' hu]; exact .some hur
      · have hi' : pn.length ≤ i := Nat.le_of_not_lt hi
        have h1' : ls[i - pn.length]? = some x := by rwa [List.getElem?_append_right hi'] at h1
        have h2' : (ls.map fun _ => (none : Option AV))[i - (as.map some).length]? = some v := by rwa [List.getElem?_append_right (by simpa [hlen] using hi')] at h2
        have hv : v = none := by
          rw [List.getElem?_map] at h2'
          cases q : ls[i - (as.map some).length]? with
          | none => rw [q] at h2'; cases h2'
          | some _ => rw [q] at h2'; cases h2'; rfl
        subst hv
        have nin : x ∉ pn := fun q => (List.nodup_append.mp FO.nodup).2.2 x q x (List.mem_of_getElem? h1') rfl
        rcases FO.kinds x hx with q | ⟨q, qw⟩
        · exact .inl ⟨q, _, I.toInCall.ns, by rw [bindL_skip pn vs _ nin]; exact .none⟩
        · obtain ⟨c, hc⟩ := Option.isSome_iff_exists.mp (FO.cells (L + 1) x qw)
          exact .inr ⟨.inl q, c, _, hc, I.cell x c hc, by rw [bindC_skip pn vs _ nin]; exact .none⟩
    · obtain ⟨⟨o, ho, hr⟩, _⟩ := hs.ledg p hp
      exact ⟨o, hk₁ _ _ ho, hr⟩
    · exact hid_none (List.mem_append_left _ (List.mem_map_of_mem hp))
    · rcases List.mem_cons.mp hq with rfl | hq
      · exact Ne.symm ((hs.frameB _ (.head _)).2.1 p hp)
      · exact (hs.ledg p hp).2.2 q hq
  refine wpAny_mono ((h B' outs' L ok').run s₁ Hs₁) (fun fl s' hx => ?_) fun _ _ x => x.elim
  obtain ⟨b, v', l', hr, hs', hk⟩ := hx
  have Hb : St C vals l' s' := hs.back (C' := CF C.w B' outs' C.r C.A fd f L (pn ++ ls) wr) hBB rfl rfl (fun p hp => .tail _ hp) (fun o e => by rw [hoL] at e; cases e; exact .head _) (fun x c o hc ho => ?_) hs'
  · cases b with
    | next => cases hr; exact ⟨.none, vals, l', rfl, Hb, hk⟩
    | brk => cases hr; exact ⟨.none, vals, l', rfl, Hb, hk⟩
    | cont => cases hr; exact ⟨.none, vals, l', rfl, Hb, hk⟩
    | ret a => obtain ⟨u, rfl, hu⟩ := hr; exact ⟨a, vals, l', hu, Hb, hk⟩
  · refine hid_of (fun hm => ?_) ho
    rcases hs.cellsO x c hc with ⟨hw, _⟩ | ⟨o', u, hB, _⟩
    · have hcF : c ∈ C.frameAddrs := List.mem_cons_of_mem _ (List.mem_filterMap.mpr ⟨x, hw, hc⟩)
      rcases List.mem_append.mp hm with hm | hm
      · obtain ⟨q, hq, e⟩ := List.mem_map.mp hm
        exact (hs.frameB c hcF).2.1 q hq e
      · rcases List.mem_cons.mp hm with e | hm
        · have := hs.frameN
          unfold Cx.frameAddrs at this
          rw [List.nodup_cons] at this
          exact this.1 (e ▸ List.mem_filterMap.mpr ⟨x, hw, hc⟩)
        · obtain ⟨q, hq, e⟩ := List.mem_map.mp hm
          exact (hs.frameB c hcF).2.2 q hq e
    · have := hBB _ _ hB
      exact (hid_some this).1 hm
end Mine

-- part M4
namespace Mine
open PySem PySem.Calls PySem.W PyProof.Rows

section
variable {C : Cx} {vals : Vals} {led : Ledger} {k : Nat}

-- ints
theorem BinW_add {a b : Int} {K : AV → Vals → Ledger → Prop} (h : K (.int (a + b)) vals led) : BinW C .Add (.int a) (.int b) vals led K := by
  rintro _ _ ⟨t, rfl⟩ ⟨u, rfl⟩ 
  refine ⟨fun s hs => ?_⟩
  with_reducible exact P.add_int ⟨_, vals, led, VR.int, hs.tok _, h⟩
theorem BinW_sub {a b : Int} {K : AV → Vals → Ledger → Prop} (h : K (.int (a - b)) vals led) : BinW C .Sub (.int a) (.int b) vals led K := by
  rintro _ _ ⟨t, rfl⟩ ⟨u, rfl⟩ 
  refine ⟨fun s hs => ?_⟩
  with_reducible exact P.sub_int ⟨_, vals, led, VR.int, hs.tok _, h⟩
theorem intBits_small {a : Int} (h1 : -(2 ^ 64) < a) (h2 : a < 2 ^ 64) : Builtin.Int.intBits a ≤ 64 := by
  have := W.X.bits_le h1 h2
  rwa [W.X.oBits.2] at this
theorem BinW_mul {a b : Int} {K : AV → Vals → Ledger → Prop} (h1 : -(2 ^ 64) < a) (h2 : a < 2 ^ 64) (h : K (.int (a * b)) vals led) : BinW C .Mult (.int a) (.int b) vals led K := by
  rintro _ _ ⟨t, rfl⟩ ⟨u, rfl⟩ 
  refine ⟨fun s hs => ?_⟩
  with_reducible exact P.mul_int ⟨_, vals, led, VR.int, hs.tok _, h⟩ (.of_left (intBits_small h1 h2))
theorem BinW_mod {a b : Int} {K : AV → Vals → Ledger → Prop} (hb : b ≠ 0) (h : K (.int (a.fmod b)) vals led) : BinW C .Mod (.int a) (.int b) vals led K := by
  rintro _ _ ⟨t, rfl⟩ ⟨u, rfl⟩ 
  refine ⟨fun s hs => ?_⟩
  with_reducible exact mod_int' hb ⟨_, vals, led, VR.int, hs.tok _, h⟩
theorem BinW_rshift {a b : Int} {K : AV → Vals → Ledger → Prop} (hb : 0 ≤ b) (h : K (.int (a.fdiv (2 ^ b.toNat))) vals led) : BinW C .RShift (.int a) (.int b) vals led K := by
  rintro _ _ ⟨t, rfl⟩ ⟨u, rfl⟩ 
  refine ⟨fun s hs => ?_⟩
  with_reducible exact rshift_int hb ⟨_, vals, led, VR.int, hs.tok _, h⟩
theorem BinW_floordiv {a b : Int} {K : AV → Vals → Ledger → Prop} (hb : b ≠ 0) (hp : Builtin.divisionGoesByPylong a b = false) (h : K (.int (a.fdiv b)) vals led) : BinW C .FloorDiv (.int a) (.int b) vals led K := by
  rintro _ _ ⟨t, rfl⟩ ⟨u, rfl⟩ 
  refine ⟨fun s hs => ?_⟩
  with_reducible exact floordiv_int hb ⟨_, vals, led, VR.int, hs.tok _, h⟩ (.inl hp)
theorem BinW_pow {a b : Int} {K : AV → Vals → Ledger → Prop} (hb : 0 ≤ b) (hsz : (Builtin.Int.intBits a : Int) * b ≤ 2 ^ 27) (h : K (.int (a ^ b.toNat)) vals led) : BinW C .Pow (.int a) (.int b) vals led K := by
  rintro _ _ ⟨t, rfl⟩ ⟨u, rfl⟩ 
  refine ⟨fun s hs => ?_⟩
  with_reducible exact pow_int hb hsz ⟨_, vals, led, VR.int, hs.tok _, h⟩
theorem InpW_add {a b : Int} {K : AV → Vals → Ledger → Prop} (h : K (.int (a + b)) vals led) : InpW C .Add (.int a) (.int b) vals led K := by
  rintro _ _ ⟨t, rfl⟩ ⟨u, rfl⟩ 
  refine ⟨fun s hs => ?_⟩
  with_reducible exact P.iadd_int ⟨_, vals, led, VR.int, hs.tok _, h⟩
theorem InpW_sub {a b : Int} {K : AV → Vals → Ledger → Prop} (h : K (.int (a - b)) vals led) : InpW C .Sub (.int a) (.int b) vals led K := by
  rintro _ _ ⟨t, rfl⟩ ⟨u, rfl⟩ 
  refine ⟨fun s hs => ?_⟩
  with_reducible exact P.isub_int ⟨_, vals, led, VR.int, hs.tok _, h⟩
theorem UnW_neg {a : Int} {K : AV → Vals → Ledger → Prop} (h : K (.int (-a)) vals led) : UnW C .USub (.int a) vals led K := by
  rintro _ ⟨t, rfl⟩ 
  refine ⟨fun s hs => ?_⟩
  with_reducible exact P.neg_int ⟨_, vals, led, VR.int, hs.tok _, h⟩
theorem CmpW_lt {a b : Int} {K : AV → Vals → Ledger → Prop} (h : K (.bool (decide (a < b))) vals led) : CmpW C .Lt (.int a) (.int b) vals led K := by
  rintro _ _ ⟨t, rfl⟩ ⟨u, rfl⟩ 
  refine ⟨fun s hs => ?_⟩
  with_reducible exact P.lt_int ⟨_, vals, led, VR.bool, hs, h⟩
theorem CmpW_le {a b : Int} {K : AV → Vals → Ledger → Prop} (h : K (.bool (decide (a ≤ b))) vals led) : CmpW C .LtE (.int a) (.int b) vals led K := by
  rintro _ _ ⟨t, rfl⟩ ⟨u, rfl⟩ 
  refine ⟨fun s hs => ?_⟩
  with_reducible exact P.le_int ⟨_, vals, led, VR.bool, hs, h⟩
theorem CmpW_gt {a b : Int} {K : AV → Vals → Ledger → Prop} (h : K (.bool (decide (a > b))) vals led) : CmpW C .Gt (.int a) (.int b) vals led K := by
  rintro _ _ ⟨t, rfl⟩ ⟨u, rfl⟩ 
  refine ⟨fun s hs => ?_⟩
  with_reducible exact P.gt_int ⟨_, vals, led, VR.bool, hs, h⟩
theorem CmpW_ge {a b : Int} {K : AV → Vals → Ledger → Prop} (h : K (.bool (decide (a ≥ b))) vals led) : CmpW C .GtE (.int a) (.int b) vals led K := by
  rintro _ _ ⟨t, rfl⟩ ⟨u, rfl⟩ 
  refine ⟨fun s hs => ?_⟩
  with_reducible exact P.ge_int ⟨_, vals, led, VR.bool, hs, h⟩
theorem CmpW_eq {a b : Int} {K : AV → Vals → Ledger → Prop} (h : K (.bool (decide (a = b))) vals led) : CmpW C .Eq (.int a) (.int b) vals led K := by
  rintro _ _ ⟨t, rfl⟩ ⟨u, rfl⟩ 
  refine ⟨fun s hs => ?_⟩
  with_reducible exact P.eq_int ⟨.bool (decide (a = b)), vals, led, by simp only [BEq.beq]; exact VR.bool, hs, h⟩
theorem CmpW_ne {a b : Int} {K : AV → Vals → Ledger → Prop} (h : K (.bool (decide (a ≠ b))) vals led) : CmpW C .NotEq (.int a) (.int b) vals led K := by
  rintro _ _ ⟨t, rfl⟩ ⟨u, rfl⟩ 
  refine ⟨fun s hs => ?_⟩
  with_reducible exact P.ne_int ⟨.bool (decide (a ≠ b)), vals, led, by simp only [bne, BEq.beq, ne_eq, decide_not]; exact VR.bool, hs, h⟩
theorem TruW_int {a : Int} {K : Bool → Vals → Ledger → Prop} (h : K (decide (a ≠ 0)) vals led) : TruW C (.int a) vals led K := by
  rintro _ ⟨t, rfl⟩ 
  refine ⟨fun s hs => ?_⟩
  with_reducible exact P.truthy_int ⟨decide (a ≠ 0), vals, led, by simp [bne, BEq.beq], hs, h⟩

-- strs
theorem Str_eq_iff {x y : Str} : (x.cps.toList == y.cps.toList) = decide (x = y) := by
  rw [Bool.eq_iff_iff]
  simp only [beq_iff_eq, decide_eq_true_eq]
  constructor
  · intro e; obtain ⟨⟨a⟩⟩ := x; obtain ⟨⟨b⟩⟩ := y; simp only at e; subst e; rfl
  · intro e; rw [e]
theorem CmpW_eqs {x y : Str} {K : AV → Vals → Ledger → Prop} (h : K (.bool (decide (x = y))) vals led) : CmpW C .Eq (.str x) (.str y) vals led K := by
  rintro _ _ ⟨t, rfl⟩ ⟨u, rfl⟩ 
  refine ⟨fun s hs => ?_⟩
  with_reducible exact P.eq_str ⟨.bool (decide (x = y)), vals, led, by rw [Str_eq_iff]; exact VR.bool, hs, h⟩
theorem CmpW_nes {x y : Str} {K : AV → Vals → Ledger → Prop} (h : K (.bool (decide (x ≠ y))) vals led) : CmpW C .NotEq (.str x) (.str y) vals led K := by
  rintro _ _ ⟨t, rfl⟩ ⟨u, rfl⟩ 
  refine ⟨fun s hs => ?_⟩
  with_reducible exact P.ne_str ⟨.bool (decide (x ≠ y)), vals, led, by rw [bne, Str_eq_iff]; simp only [ne_eq, decide_not]; exact VR.bool, hs, h⟩
theorem BinW_adds {x y : Str} {K : AV → Vals → Ledger → Prop} (hsz : x.length + y.length ≤ 16777216) (h : K (.str (x ++ y)) vals led) : BinW C .Add (.str x) (.str y) vals led K := by
  rintro _ _ ⟨t, rfl⟩ ⟨u, rfl⟩ 
  refine ⟨fun s hs => ?_⟩
  with_reducible exact PyProof.Rows.add_str (fun t' tk => ⟨_, vals, led, VR.str, hs.tok _, h⟩) (by rw [sizeLine_eq]; exact hsz)
theorem InpW_adds {x y : Str} {K : AV → Vals → Ledger → Prop} (hsz : x.length + y.length ≤ 16777216) (h : K (.str (x ++ y)) vals led) : InpW C .Add (.str x) (.str y) vals led K := by
  rintro _ _ ⟨t, rfl⟩ ⟨u, rfl⟩ 
  refine ⟨fun s hs => ?_⟩
  with_reducible exact PyProof.Rows.iadd_str (fun t' tk => ⟨_, vals, led, VR.str, hs.tok _, h⟩) (by rw [sizeLine_eq]; exact hsz)
theorem TruW_str {x : Str} {K : Bool → Vals → Ledger → Prop} (hsz : x.length ≤ 16777216) (h : K (decide (x.length ≠ 0)) vals led) : TruW C (.str x) vals led K := by
  rintro _ ⟨t, rfl⟩ 
  refine ⟨fun s hs => ?_⟩
  with_reducible exact P.truthy_str (by (first | lia | omega)) ⟨decide (x.length ≠ 0), vals, led, by
    rw [Bool.eq_iff_iff]; simp, hs.tok _, h⟩

-- none
theorem CmpW_isNone {a : AV} {K : AV → Vals → Ledger → Prop} (h : K (.bool (match a with | .none => true | _ => false)) vals led) : CmpW C .Is a .none vals led K := by
  rintro va _ hva rfl 
  refine ⟨fun s hs => ?_⟩
  refine is_none ⟨_, vals, led, ?_, hs, h⟩
  cases a <;> simp only [VR] at hva ⊢ <;> first | (subst hva; rfl) | (obtain ⟨t, rfl⟩ := hva; rfl)
theorem CmpW_isNotNone {a : AV} {K : AV → Vals → Ledger → Prop} (h : K (.bool (match a with | .none => false | _ => true)) vals led) : CmpW C .IsNot a .none vals led K := by
  rintro va _ hva rfl 
  refine ⟨fun s hs => ?_⟩
  refine isNot_none ⟨_, vals, led, ?_, hs, h⟩
  cases a <;> simp only [VR] at hva ⊢ <;> first | (subst hva; rfl) | (obtain ⟨t, rfl⟩ := hva; rfl)

-- lists
theorem St.list {s : Shared} (H : St C vals led s) {a : Addr} {xs : List AV} (hm : (a, AO.list xs) ∈ led) : ∃ vs, VRs xs vs ∧ s.heap.PlainList a vs.toArray := by
  obtain ⟨o, ho, vs, n, hv, rfl⟩ := H.get hm
  exact ⟨vs, hv, n, ho⟩
theorem St.tup {s : Shared} (H : St C vals led s) {a : Addr} {xs : List AV} (hm : (a, AO.tup xs) ∈ led) : ∃ vs, VRs xs vs ∧ IsTup s.heap a vs.toArray := by
  obtain ⟨o, ho, vs, n, hv, rfl⟩ := H.get hm
  exact ⟨vs, hv, _, ho, rfl, n, rfl⟩
theorem St.updList {s : Shared} (H : St C vals led s) {led' : Ledger} {h' : Heap} {tk : Nat} {a : Addr} {xs : List AV} {vs : List Value} (U : Upd a (.list xs) led led') (hv : VRs xs vs) (hl : h'.PlainList a vs.toArray) (hs : Heap.SameBut a s.heap h') :
    St C vals led' { s with heap := h', toks := tk } := by
  obtain ⟨n, e⟩ := hl
  exact H.upd U (fun b o q e => (hs.2 b q).trans e) e ⟨vs, n, hv, rfl⟩

theorem SubW_list {value slice : Expr} {l : Addr} {xs : List AV} {i : Int} {a : AV} {K : AV → Vals → Ledger → Prop} (hm : (l, AO.list xs) ∈ led) (h0 : 0 ≤ i) (hx : xs[i.toNat]? = some a) (hlen : xs.length ≤ 1000000)
    (hsl : ∀ o v, subscripted slice false o v = operate [o, v] (getItem o v)) (h : K a vals led) : SubW C value slice (.ref l) (.int i) vals led K := by
  rintro _ _ rfl ⟨u, rfl⟩ 
  refine ⟨fun s hs => ?_⟩
  obtain ⟨vs, hv, hl⟩ := hs.list hm
  obtain ⟨v, hvi, hr⟩ := hv.get' hx
  have hi : i.toNat < xs.length := (List.getElem?_eq_some_iff.mp hx).1
  exact tail_any hl.isList.typeIs slot_list_getitem.lookup (wpAny_getItem_list hl.isList h0 (by (first | lia | omega)) (by simpa using hvi) ⟨a, vals, led, hr, hs, h⟩) (hsl _ _)
theorem SubW_last {value slice : Expr} {l : Addr} {xs : List AV} {a : AV} {K : AV → Vals → Ledger → Prop} (hm : (l, AO.list (xs ++ [a])) ∈ led) (hlen : xs.length ≤ 1000000)
    (hsl : ∀ o v, subscripted slice false o v = operate [o, v] (getItem o v)) (h : K a vals led) : SubW C value slice (.ref l) (.int (-1)) vals led K := by
  rintro _ _ rfl ⟨u, rfl⟩ 
  refine ⟨fun s hs => ?_⟩
  obtain ⟨vs, hv, hl⟩ := hs.list hm
  have hvl := hv.length
  simp only [List.length_append, List.length_singleton] at hvl
  obtain ⟨v, hvi, hr⟩ := hv.get' (i := xs.length) (a := a) (by simp)
  refine tail_any hl.isList.typeIs slot_list_getitem.lookup (wpAny_getItem_list_neg hl.isList (by (first | lia | omega)) (by simp [hvl]; (first | lia | omega)) (by (first | lia | omega)) ?_ ⟨a, vals, led, hr, hs, h⟩) (hsl _ _)
  have e : ((-1 : Int) + (vs.toArray.size : Int)).toNat = xs.length := by simp [hvl]; (first | lia | omega)
  rw [e]; simpa using hvi
theorem SubW_tup {value slice : Expr} {l : Addr} {xs : List AV} {i : Int} {a : AV} {K : AV → Vals → Ledger → Prop} (hm : (l, AO.tup xs) ∈ led) (h0 : 0 ≤ i) (hx : xs[i.toNat]? = some a) (hlen : xs.length ≤ 1000000)
    (hsl : ∀ o v, subscripted slice false o v = operate [o, v] (getItem o v)) (h : K a vals led) : SubW C value slice (.ref l) (.int i) vals led K := by
  rintro _ _ rfl ⟨u, rfl⟩ 
  refine ⟨fun s hs => ?_⟩
  obtain ⟨vs, hv, hl⟩ := hs.tup hm
  obtain ⟨v, hvi, hr⟩ := hv.get' hx
  have hi : i.toNat < xs.length := (List.getElem?_eq_some_iff.mp hx).1
  have hvl := hv.length
  refine item_tupleT hl (by (first | lia | omega)) (by (first | lia | omega)) (j := i.toNat) ?_ hvi ⟨a, vals, led, hr, hs, h⟩ (hsl _ _)
  unfold seqIndex?
  simp only [hvl]
  have hlt : ¬ i < 0 := by (first | lia | omega)
  rw [if_neg hlt]
  have : (decide (0 ≤ i) && decide (i < (xs.length : Int))) = true := by simp; (first | lia | omega)
  rw [if_pos this]
end
end Mine

-- part M5
namespace Mine
open PySem PySem.Calls PySem.W PyProof.Rows

section
variable {prog : Program} {w : World} {A : Around} {E : Value → Shared → Prop} {s : Shared}
theorem mapSeq_get {l : Addr} {items : Array Value} {n : Nat} {h : Heap} (f : Array Value → Array Value) (ho : h.get? l = some { cls := .type "list", data := .seq items n }) :
    (h.update l (Obj.mapSeq f)).PlainList l (f items) := by
  have e : Obj.mapSeq f { cls := .type "list", data := .seq items n } = { cls := .type "list", data := .seq (f items) (if (f items).size == items.size then n else n + 1) } := rfl
  exact ⟨_, (Heap.get?_update_self _ ho rfl).trans (congrArg some e)⟩
theorem setItem_plain {l : Addr} {items : Array Value} {k : Int} {t : Tok} {v : Value} {Q : Unit → Shared → Prop} (hl : s.heap.PlainList l items)
    (h0 : 0 ≤ k) (hfit : k < 2 ^ 63) (hn : k < items.size)
    (hQ : ∀ h', h'.PlainList l (items.setIfInBounds k.toNat v) → Heap.SameBut l s.heap h' → Q () { s with heap := h' }) :
    wpAny (model prog w) A (setItem (.ref l) (.int k t) v) Q E s := by
  obtain ⟨n, ho⟩ := hl
  have hl : s.heap.IsList l items := ⟨_, ho, rfl, n, rfl⟩
  unfold setItem
  refine wpAny_holding ?_
  refine wpAny_bind (wpAny_sequenceKey hl.typeIs (by decide) ?_)
  refine wpAny_bind (wpAny_callSpecial?_slot (name := Str.ofString "__setitem__") hl.typeIs slot_list_setitem
    (wpAny_call_entry slot_list_setitem hl.typeIs entry_list_setitem ?_ (args_list_setitem _ _ _)))
  show wpAny _ _ (Builtin.List.listSubscript? (.int k t) >>= _) _ _ s
  refine wpAny_bind (wpAny_listSubscript_int (fitsIndex_of h0 hfit) ?_)
  clear hfit
  obtain ⟨j, rfl⟩ := Int.eq_ofNat_of_zero_le h0
  have hj : j < items.size := by (first | lia | omega)
  have hx' : items[j]? = some items[j] := Array.getElem?_eq_getElem hj
  show wpAny _ _ ((seqItemAt l j >>= fun r => pure (r.map (j, ·))) >>= _) _ _ s
  refine wpAny_bind (wpAny_bind (wpAny_seqItemAt ho rfl (wpAny_pure ?_)))
  rw [hx']
  show wpAny _ _ (setSeqItemAt l j v >>= _) _ _ s
  refine wpAny_bind (wpAny_setSeqItemAt ho rfl ?_)
  have fin := hQ _ (mapSeq_get (·.setIfInBounds j v) ho) (Heap.SameBut.update ..)
  first
    | exact wpAny_pure ⟨.none, rfl, wpAny_pure fin⟩
    | exact wpAny_bind (wpAny_pure (wpAny_pure ⟨.none, rfl, wpAny_pure fin⟩))
theorem pop_plain {l : Addr} {vs : List Value} {x : Value} {Q : Value → Shared → Prop} (hl : s.heap.PlainList l (vs ++ [x]).toArray) (hz : vs.length ≤ 1000000)
    (hQ : ∀ h', h'.PlainList l vs.toArray → Heap.SameBut l s.heap h' → Q x { s with heap := h' }) :
    wpAny (model prog w) A (call (.builtin "list.pop") [.ref l]) Q E s := by
  obtain ⟨n, ho⟩ := hl
  refine wpAny_call_entry PySem.F.slot_list_pop ⟨_, ho, rfl⟩ PySem.F.entry_list_pop ?_ (PySem.F.args_list_pop_1 _)
  show wpAny _ _ (Builtin.List.listItems (.ref l) >>= fun xs => _) _ _ s
  refine wpAny_bind (listItems_at ho rfl ?_)
  rw [if_neg (by simp)]
  have e : ((seqIndex? (-1) (vs ++ [x]).toArray.size).bind fun k => (vs ++ [x]).toArray[k]?.map (k, ·)) = some (vs.length, x) := by
    unfold seqIndex?
    have h1 : ((-1 : Int) + ((vs ++ [x]).toArray.size : Int)) = (vs.length : Int) := by simp; (first | lia | omega)
    simp only [show (-1 : Int) < 0 by decide, if_true, h1]
    have h2 : (decide ((0 : Int) ≤ vs.length) && decide ((vs.length : Int) < ((vs ++ [x]).toArray.size : Nat))) = true := by simp; (first | lia | omega)
    rw [if_pos h2]
    simp
  rw [e]
  show wpAny _ _ (updateSeq l (·.eraseIdxIfInBounds vs.length) >>= fun _ => ret x) _ _ s
  have e3 : (vs ++ [x]).toArray.eraseIdxIfInBounds vs.length = vs.toArray := by
    apply Array.ext'
    simp [Array.eraseIdxIfInBounds, List.eraseIdx_append_of_length_le]
  refine wpAny_bind (wpAny_updateSeq ho rfl (wpAny_pure ⟨x, rfl, hQ _ ?_ (Heap.SameBut.update ..)⟩) (_hz' := by rw [e3]; simp; rw [sizeLine_eq]; (first | lia | omega)))
  have := mapSeq_get (·.eraseIdxIfInBounds vs.length) ho
  have e2 : (vs ++ [x]).toArray.eraseIdxIfInBounds vs.length = vs.toArray := by
    apply Array.ext'
    simp [Array.eraseIdxIfInBounds, List.eraseIdx_append_of_length_le]
  rw [e2] at this
  exact this
theorem clear_plain {l : Addr} {vs : List Value} {Q : Value → Shared → Prop} (hl : s.heap.PlainList l vs.toArray) (hz : vs.length ≤ 1000000)
    (hQ : ∀ h', h'.PlainList l #[] → Heap.SameBut l s.heap h' → Q .none { s with heap := h' }) :
    wpAny (model prog w) A (call (.builtin "list.clear") [.ref l]) Q E s := by
  obtain ⟨n, ho⟩ := hl
  refine wpAny_call_entry PySem.F.slot_list_clear ⟨_, ho, rfl⟩ PySem.F.entry_list_clear ?_ (PySem.F.args_list_clear_1 _)
  show wpAny _ _ (Builtin.List.listItems (.ref l) >>= _) _ _ s
  refine wpAny_bind (listItems_at ho rfl ?_)
  show wpAny _ _ (updateSeq l (fun _ => #[]) >>= _) _ _ s
  refine wpAny_bind (wpAny_updateSeq ho rfl ?_ (by simp; rw [sizeLine_eq]; (first | lia | omega)))
  refine wpAny_bind (m := letGo _) ?_
  have go : ∀ (l : List Value) (Q : Unit → Shared → Prop) (s : Shared), Q () s → wpAny (model prog w) A.in1 (letGo l) Q E s := by
    intro l
    induction l with
    | nil => intro Q s h; exact wpAny_pure h
    | cons x r ih => intro Q s h; unfold letGo; exact wpAny_bind (wpAny_holding (wpAny_point (ih Q s h)))
  refine go _ _ _ (wpAny_pure ⟨.none, rfl, hQ _ (mapSeq_get (fun _ => #[]) ho) (Heap.SameBut.update ..)⟩)
end
end Mine

-- part M6
namespace Mine
open PySem PySem.Calls PySem.W PyProof.Rows
section
variable {prog : Program} {w : World} {A : Around} {E : Value → Shared → Prop} {s : Shared}
theorem tupItems {a : Addr} {items : Array Value} {Q : Array Value → Shared → Prop} (ha : IsTup s.heap a items) (h : Q items s) : wpAny (model prog w) A (Builtin.Tuple.tupleItemsOf (.ref a)) Q E s := by
  obtain ⟨oa, hoa, hca, na, hda⟩ := ha
  unfold Builtin.Tuple.tupleItemsOf
  exact wpAny_bind (wpAny_seqItems hoa hda (wpAny_pure h))
theorem tup_lt_raw {a b : Addr} {i j : Int} {t t' : Tok} {x y : Str} {u u' : Tok} {ra rb : List Value} {Q : Value → Shared → Prop} (hu : A.units < cLine)
    (ha : IsTup s.heap a (Value.int i t :: Value.str x u :: ra).toArray) (hb : IsTup s.heap b (Value.int j t' :: Value.str y u' :: rb).toArray) (hxy : x ≠ y)
    (h : Q (.bool (decide (i < j ∨ (i = j ∧ x.cps.toList < y.cps.toList)))) s) : wpAny (model prog w) A (compareOp .Lt (.ref a) (.ref b)) Q E s := by
  show wpAny (model prog w) A (richCompare .Lt (.ref a) (.ref b)) Q E s
  refine wpAny_richCompare_same_or ha.typeIs hb.typeIs (PySem.F.slot_tuple_lt) ?_ (.inr hu)
  refine wpAny_call_entry PySem.F.slot_tuple_lt ha.typeIs PySem.F.entry_tuple_lt ?_ (PySem.F.args_tuple_lt_2 _ _)
  show wpAny _ _ (isInstance (.ref b) (.type "tuple") >>= _) _ _ s
  refine wpAny_bind (wpAny_isInstance hb.typeIs isSubtype_tuple_tuple ?_)
  rw [if_neg (by decide)]
  refine wpAny_bind (tupItems ha (wpAny_bind (tupItems hb ?_)))
  refine wpAny_bind ?_
  simp only [List.zip_cons_cons, List.forIn_cons]
  refine wpAny_bind (wpAny_bind (wpAny_eqBool_int ?_))
  by_cases e : i = j
  · subst e
    rw [if_neg (by simp)]
    refine wpAny_pure ?_
    refine wpAny_bind (wpAny_bind (wpAny_eqBool_str ?_))
    rw [if_pos (by simp [hxy])]
    refine wpAny_bind (wpAny_rule (wpAny_bind ?_))
    show wpAny (model prog w) A.in1 (compareOp .Lt (.str x u) (.str y u')) _ _ s
    refine P.lt_str (wpAny_bind (wpAny_pure (wpAny_pure (wpAny_pure ?_))))
    refine wpAny_pure ⟨_, rfl, by simp, ?_⟩
    simpa using h
  · rw [if_pos (by simp [e])]
    refine wpAny_bind (wpAny_rule (wpAny_bind ?_))
    show wpAny (model prog w) A.in1 (compareOp .Lt (.int i t) (.int j t')) _ _ s
    refine P.lt_int (wpAny_bind (wpAny_pure (wpAny_pure (wpAny_pure ?_))))
    refine wpAny_pure ⟨_, rfl, by simp, ?_⟩
    simpa [e] using h
theorem pair_le_raw {a b : Addr} {i j : Int} {t t' : Tok} {x y : Str} {u u' : Tok} {Q : Value → Shared → Prop} (hu : A.units < cLine)
    (ha : IsTup s.heap a [Value.int i t, Value.str x u].toArray) (hb : IsTup s.heap b [Value.int j t', Value.str y u'].toArray)
    (h : Q (.bool (decide (i < j ∨ (i = j ∧ (x.cps.toList < y.cps.toList ∨ x = y))))) s) : wpAny (model prog w) A (compareOp .LtE (.ref a) (.ref b)) Q E s := by
  show wpAny (model prog w) A (richCompare .LtE (.ref a) (.ref b)) Q E s
  refine wpAny_richCompare_same_or ha.typeIs hb.typeIs (PySem.F.slot_tuple_le) ?_ (.inr hu)
  refine wpAny_call_entry PySem.F.slot_tuple_le ha.typeIs PySem.F.entry_tuple_le ?_ (PySem.F.args_tuple_le_2 _ _)
  show wpAny _ _ (isInstance (.ref b) (.type "tuple") >>= _) _ _ s
  refine wpAny_bind (wpAny_isInstance hb.typeIs isSubtype_tuple_tuple ?_)
  rw [if_neg (by decide)]
  refine wpAny_bind (tupItems ha (wpAny_bind (tupItems hb ?_)))
  refine wpAny_bind ?_
  simp only [List.zip_cons_cons, List.forIn_cons]
  refine wpAny_bind (wpAny_bind (wpAny_eqBool_int ?_))
  by_cases e : i = j
  · subst e
    rw [if_neg (by simp)]
    refine wpAny_pure ?_
    refine wpAny_bind (wpAny_bind (wpAny_eqBool_str ?_))
    by_cases exy : x = y
    · subst exy
      rw [if_neg (by simp)]
      refine wpAny_pure (wpAny_pure ?_)
      refine wpAny_pure ⟨_, rfl, by simp [Builtin.Tuple.tupleCompareSizes], ?_⟩
      simpa [Builtin.Tuple.tupleCompareSizes] using h
    · rw [if_pos (by simp [exy])]
      refine wpAny_bind (wpAny_rule (wpAny_bind ?_))
      show wpAny (model prog w) A.in1 (compareOp .LtE (.str x u) (.str y u')) _ _ s
      refine P.le_str (wpAny_bind (wpAny_pure (wpAny_pure (wpAny_pure ?_))))
      refine wpAny_pure ⟨_, rfl, by simp, ?_⟩
      have e2 : (!decide (y.cps.toList < x.cps.toList)) = decide (x.cps.toList < y.cps.toList) := by
        rw [Bool.eq_iff_iff]
        simp only [Bool.not_eq_true', decide_eq_false_iff_not, decide_eq_true_eq]
        constructor
        · intro q
          by_cases q2 : x.cps.toList < y.cps.toList
          · exact q2
          · have r := List.le_antisymm (List.not_lt.mp q) (List.not_lt.mp q2)
            exact absurd (by obtain ⟨⟨l⟩⟩ := x; obtain ⟨⟨l'⟩⟩ := y; simp only at r; rw [r]) exy
        · intro q r; exact List.lt_asymm q r
      rw [e2]
      simpa [exy] using h
  · rw [if_pos (by simp [e])]
    refine wpAny_bind (wpAny_rule (wpAny_bind ?_))
    show wpAny (model prog w) A.in1 (compareOp .LtE (.int i t) (.int j t')) _ _ s
    refine P.le_int (wpAny_bind (wpAny_pure (wpAny_pure (wpAny_pure ?_))))
    refine wpAny_pure ⟨_, rfl, by simp, ?_⟩
    have : decide (i ≤ j) = decide (i < j) := by
      rw [Bool.eq_iff_iff]; simp; (first | lia | omega)
    rw [this]
    simpa [e] using h
end

section
variable {C : Cx} {vals : Vals} {led : Ledger} {k : Nat}

theorem VRs.uncons {a : AV} {as : List AV} {vs : List Value} (h : VRs (a :: as) vs) : ∃ v us, vs = v :: us ∧ VR a v ∧ VRs as us := by
  cases h with | cons h1 h2 => exact ⟨_, _, rfl, h1, h2⟩
theorem VRs.unnil {vs : List Value} (h : VRs [] vs) : vs = [] := by cases h; rfl
theorem VRs.one {a : AV} {vs : List Value} (h : VRs [a] vs) : ∃ v, vs = [v] ∧ VR a v := by
  obtain ⟨v, us, rfl, h1, h2⟩ := h.uncons
  exact ⟨v, by rw [h2.unnil], h1⟩
theorem VRs.two {a b : AV} {vs : List Value} (h : VRs [a, b] vs) : ∃ v u, vs = [v, u] ∧ VR a v ∧ VR b u := by
  obtain ⟨v, us, rfl, h1, h2⟩ := h.uncons
  obtain ⟨u, rfl, h3⟩ := h2.one
  exact ⟨v, u, rfl, h1, h3⟩
theorem VRs.three {a b c : AV} {vs : List Value} (h : VRs [a, b, c] vs) : ∃ v u x, vs = [v, u, x] ∧ VR a v ∧ VR b u ∧ VR c x := by
  obtain ⟨v, us, rfl, h1, h2⟩ := h.uncons
  obtain ⟨u, x, rfl, h3, h4⟩ := h2.two
  exact ⟨v, u, x, rfl, h1, h3, h4⟩

theorem COk.room (ok : COk C k) : C.A.units < cLine := by have := ok.units; show _ < 9900; (first | lia | omega)

theorem CmpW_tupLt {a b : Addr} {i j : Int} {x y : Str} {ra rb : List AV} {K : AV → Vals → Ledger → Prop} (ok : COk C k) (ha : (a, AO.tup (.int i :: .str x :: ra)) ∈ led) (hb : (b, AO.tup (.int j :: .str y :: rb)) ∈ led) (hxy : x ≠ y)
    (h : K (.bool (decide (i < j ∨ (i = j ∧ x.cps.toList < y.cps.toList)))) vals led) : CmpW C .Lt (.ref a) (.ref b) vals led K := by
  rintro _ _ rfl rfl
  refine ⟨fun s hs => ?_⟩
  obtain ⟨va, hva, ta⟩ := hs.tup ha
  obtain ⟨vb, hvb, tb⟩ := hs.tup hb
  obtain ⟨_, _, rfl, h1, hva⟩ := hva.uncons
  obtain ⟨_, _, rfl, h2, hva⟩ := hva.uncons
  obtain ⟨_, _, rfl, h3, hvb⟩ := hvb.uncons
  obtain ⟨_, _, rfl, h4, hvb⟩ := hvb.uncons
  obtain ⟨_, rfl⟩ := h1; obtain ⟨_, rfl⟩ := h2; obtain ⟨_, rfl⟩ := h3; obtain ⟨_, rfl⟩ := h4
  with_reducible exact tup_lt_raw ok.room ta tb hxy ⟨_, vals, led, VR.bool, hs, h⟩
theorem CmpW_pairLe {a b : Addr} {i j : Int} {x y : Str} {K : AV → Vals → Ledger → Prop} (ok : COk C k) (ha : (a, AO.tup [.int i, .str x]) ∈ led) (hb : (b, AO.tup [.int j, .str y]) ∈ led)
    (h : K (.bool (decide (i < j ∨ (i = j ∧ (x.cps.toList < y.cps.toList ∨ x = y))))) vals led) : CmpW C .LtE (.ref a) (.ref b) vals led K := by
  rintro _ _ rfl rfl
  refine ⟨fun s hs => ?_⟩
  obtain ⟨va, hva, ta⟩ := hs.tup ha
  obtain ⟨vb, hvb, tb⟩ := hs.tup hb
  obtain ⟨_, _, rfl, h1, h2⟩ := hva.two
  obtain ⟨_, _, rfl, h3, h4⟩ := hvb.two
  obtain ⟨_, rfl⟩ := h1; obtain ⟨_, rfl⟩ := h2; obtain ⟨_, rfl⟩ := h3; obtain ⟨_, rfl⟩ := h4
  with_reducible exact pair_le_raw ok.room ta tb ⟨_, vals, led, VR.bool, hs, h⟩

-- lists that change
theorem VRs.set {xs : List AV} {vs : List Value} {i : Nat} {a : AV} {v : Value} (h : VRs xs vs) (hr : VR a v) : VRs (xs.set i a) (vs.set i v) := by
  induction h generalizing i with
  | nil => exact .nil
  | cons h0 h ih =>
    cases i with
    | zero => exact .cons hr h
    | succ i => exact .cons h0 ih
theorem VRs.append {xs ys : List AV} {vs us : List Value} (h : VRs xs vs) (h' : VRs ys us) : VRs (xs ++ ys) (vs ++ us) := by
  induction h with
  | nil => exact h'
  | cons h0 _ ih => exact .cons h0 ih
theorem VRs.split : ∀ {xs ys : List AV} {us : List Value}, VRs (xs ++ ys) us → ∃ a b, us = a ++ b ∧ VRs xs a ∧ VRs ys b
  | [], _, us, h => ⟨[], us, rfl, .nil, h⟩
  | x :: xs, ys, _, .cons h0 h => let ⟨a, b, e, h1, h2⟩ := VRs.split (xs := xs) h; ⟨_ :: a, b, by rw [e]; rfl, .cons h0 h1, h2⟩

theorem SetW_list {l : Addr} {xs : List AV} {i : Int} {a : AV} {led' : Ledger} {K : Vals → Ledger → Prop} (hm : (l, AO.list xs) ∈ led) (h0 : 0 ≤ i) (hi : i < xs.length) (hlen : xs.length ≤ 1000000)
    (U : Upd l (.list (xs.set i.toNat a)) led led') (h : K vals led') : SetW C (.ref l) (.int i) a vals led K := by
  rintro _ _ va rfl ⟨u, rfl⟩ hva
  refine ⟨fun s hs => ?_⟩
  obtain ⟨vs, hv, hl⟩ := hs.list hm
  have hvl := hv.length
  refine setItem_plain hl h0 (by (first | lia | omega)) (by simp; (first | lia | omega)) fun h' hl' hsb => ⟨(), vals, led', trivial, hs.updList U (hv.set hva) (by simpa using hl') hsb, h⟩
theorem CallW_append {l : Addr} {xs : List AV} {a : AV} {led' : Ledger} {K : AV → Vals → Ledger → Prop} (hm : (l, AO.list xs) ∈ led) (hlen : xs.length ≤ 1000000) (U : Upd l (.list (xs ++ [a])) led led') (h : K .none vals led') :
    CallW C (.blt "list.append") [.ref l, a] vals led K := by
  rintro _ _ rfl hvs
  obtain ⟨_, v2, rfl, rfl, h2⟩ := hvs.two
  refine ⟨fun s hs => ?_⟩
  obtain ⟨vs, hv, hl⟩ := hs.list hm
  have hvl := hv.length
  refine wpAny_list_append_plain hl (fun h' hl' hsb => ⟨.none, vals, led', rfl, hs.updList U (hv.append (.cons h2 .nil)) (by simpa using hl') hsb, h⟩) (by simp; rw [sizeLine_eq]; (first | lia | omega))
theorem CallW_pop {l : Addr} {xs : List AV} {a : AV} {led' : Ledger} {K : AV → Vals → Ledger → Prop} (hm : (l, AO.list (xs ++ [a])) ∈ led) (hlen : xs.length ≤ 1000000) (U : Upd l (.list xs) led led') (h : K a vals led') :
    CallW C (.blt "list.pop") [.ref l] vals led K := by
  rintro _ _ rfl hvs
  obtain ⟨_, rfl, rfl⟩ := hvs.one
  refine ⟨fun s hs => ?_⟩
  obtain ⟨vs, hv, hl⟩ := hs.list hm
  obtain ⟨v1, v2, rfl, hv1, hv2⟩ := hv.split
  obtain ⟨v3, rfl, h2⟩ := hv2.one
  have hvl := hv1.length
  exact pop_plain hl (by (first | lia | omega)) fun h' hl' hsb => ⟨a, vals, led', h2, hs.updList U hv1 hl' hsb, h⟩
theorem CallW_clear {l : Addr} {xs : List AV} {led' : Ledger} {K : AV → Vals → Ledger → Prop} (hm : (l, AO.list xs) ∈ led) (hlen : xs.length ≤ 1000000) (U : Upd l (.list []) led led') (h : K .none vals led') :
    CallW C (.blt "list.clear") [.ref l] vals led K := by
  rintro _ _ rfl hvs
  obtain ⟨_, rfl, rfl⟩ := hvs.one
  refine ⟨fun s hs => ?_⟩
  obtain ⟨vs, hv, hl⟩ := hs.list hm
  have hvl := hv.length
  exact clear_plain hl (by (first | lia | omega)) fun h' hl' hsb => ⟨.none, vals, led', rfl, hs.updList (vs := []) U .nil hl' hsb, h⟩
theorem CallW_lenList {l : Addr} {xs : List AV} {n : Nat} {K : AV → Vals → Ledger → Prop} (hm : (l, AO.list xs) ∈ led) (hn : xs.length = n) (hlen : n ≤ 1000000) (h : K (.int n) vals led) : CallW C (.blt "len") [.ref l] vals led K := by
  rintro _ _ rfl hvs
  obtain ⟨_, rfl, rfl⟩ := hvs.one
  subst hn
  refine ⟨fun s hs => ?_⟩
  obtain ⟨vs, hv, hl⟩ := hs.list hm
  have hvl := hv.length
  refine Calls.call_len_list hl.isList (by simp; (first | lia | omega)) ⟨.int xs.length, vals, led, ⟨s.toks + 1, by simp [hvl]⟩, hs.tok _, h⟩
theorem TruW_list {l : Addr} {xs : List AV} {K : Bool → Vals → Ledger → Prop} (hm : (l, AO.list xs) ∈ led) (hlen : xs.length ≤ 1000000) (h : K (!xs.isEmpty) vals led) : TruW C (.ref l) vals led K := by
  rintro _ rfl
  refine ⟨fun s hs => ?_⟩
  obtain ⟨vs, hv, hl⟩ := hs.list hm
  have hvl := hv.length
  refine wpAny_truthy_list hl.isList (by simp; (first | lia | omega)) ⟨!xs.isEmpty, vals, led, ?_, hs.tok _, h⟩
  cases hv <;> rfl
end
end Mine

-- part M7
namespace Mine
open PySem PySem.Calls PySem.W PyProof.Rows

noncomputable def CWW (C : Cx) (pos : Pos) (f : AV) (first : List AV) (es : List Expr) (vals : Vals) (led : Ledger) (K : AV → Vals → Ledger → Prop) : Prop :=
  ∀ fv fs, VR f fv → VRs first fs → TW C VR (callWith pos fv fs (backTo pos (starEach es C.env)) []) vals led K
/-- the value a has the built-in type T, no dict -/
noncomputable def TyW (C : Cx) (a : AV) (T : String) (vals : Vals) (led : Ledger) : Prop :=
  ∀ va, VR a va → ∀ s, St C vals led s → s.TypeIs va T ∧ ∀ x, va = .ref x → ∃ ob, s.heap.get? x = some ob ∧ ob.dict = none

noncomputable abbrev CwK (C : Cx) (pos : Pos) (args : List Expr) (K : AV → Vals → Ledger → Prop) : AV → Vals → Ledger → Prop := fun f v l => CWW C pos f [] args v l K
noncomputable abbrev MbK (C : Cx) (pos : Pos) (T id : String) (args : List Expr) (K : AV → Vals → Ledger → Prop) : AV → Vals → Ledger → Prop := fun a v l => TyW C a T v l ∧ CWW C pos (.blt id) [a] args v l K
section
variable {C : Cx} {vals : Vals} {led : Ledger} {k : Nat}

theorem EvW_Sub {value slice : Expr} {pos : Pos} {K : AV → Vals → Ledger → Prop} (h : EvW C value vals led (EvSK C value slice K)) : EvW C (.Subscript value slice pos) vals led K :=
  ⟨fun s hs => Subscript_ (h.use hs (fun u s₁ b v l hr hs₁ hk => hk.use hs₁ (fun u₂ s₂ b₂ v₂ l₂ hr₂ hs₂ hk₂ => (hk₂ u u₂ hr hr₂).run s₂ hs₂)))⟩
theorem ExW_AssignSub {o i value : Expr} {p' pos : Pos} {K : AF → Vals → Ledger → Prop} (hsw : swapsWith value (some (.Subscript o i p')) pos.line C.env = pure false)
    (h : EvW C value vals led (EvTK C o i (NxK K))) : ExW C (.Assign [.Subscript o i p'] value pos) vals led K :=
  ⟨fun s hs => wpAny_Assign_Subscript (h.use hs (fun u s₁ b v l hr hs₁ hk => hk.use hs₁ (fun u₂ s₂ b₂ v₂ l₂ hr₂ hs₂ hk₂ =>
    hk₂.use hs₂ (fun u₃ s₃ b₃ v₃ l₃ hr₃ hs₃ hk₃ => (hk₃ u₂ u₃ u hr₂ hr₃ hr).use hs₃ (fun _ s₄ _ v₄ l₄ _ hs₄ hk₄ => ⟨.next, v₄, l₄, rfl, hs₄, hk₄⟩))))) hsw⟩
theorem EvW_Call {func : Expr} {args : List Expr} {pos : Pos} {K : AV → Vals → Ledger → Prop}
    (he : eval (.Call func args [] pos) C.env = (do callWith pos (← eval func C.env) [] (backTo pos (starEach args C.env)) (backToKw pos (keywordEach [] C.env))))
    (h : EvW C func vals led (CwK C pos args K)) : EvW C (.Call func args [] pos) vals led K :=
  ⟨fun s hs => Call_ (h.use hs (fun u s₁ b v l hr hs₁ hk => (hk u [] hr .nil).run s₁ hs₁)) he⟩
theorem ExW_Expr {e : Expr} {pos : Pos} {K : AF → Vals → Ledger → Prop} (hi : interactive C.env = false) (hsw : swapsWith e none pos.line C.env = pure false) (h : EvW C e vals led (XpK K)) : ExW C (.Expr e pos) vals led K :=
  ⟨fun s hs => wpAny_Expr (h.use hs (fun u s₁ b v l hr hs₁ ⟨hn, hk⟩ => by
    have fin : Post C FRel K Flow.next s₁ := ⟨.next, v, l, rfl, hs₁, hk⟩
    cases u with
    | ref x => cases b <;> simp only [VR] at hr <;> first | exact absurd rfl (hn _) | (cases hr; done) | (obtain ⟨_, q⟩ := hr; cases q)
    | _ => exact fin)) hi hsw⟩

theorem CWW_blt {pos : Pos} {id : String} {first : List AV} {e : Expr} {r : List Expr} {K : AV → Vals → Ledger → Prop} (he : starEach (e :: r) C.env = (false, eval e C.env) :: starEach r C.env) (hplain : (backTo pos (starEach r C.env)).any (·.1) = false)
    (h : ArgsW C pos (e :: r) vals led fun as v l => CallW C (.blt id) (first ++ as) v l K) : CWW C pos (.blt id) first (e :: r) vals led K := by
  rintro _ fs rfl hfs
  refine ⟨fun s hs => ?_⟩
  exact callWith_method1 (h.use hs (fun us s₁ as v l hr hs₁ hk => (hk _ _ VR.blt (hfs.append hr)).run s₁ hs₁)) he hplain
theorem CWW_blt0 {pos : Pos} {id : String} {first : List AV} {K : AV → Vals → Ledger → Prop} (h : CallW C (.blt id) first vals led K) : CWW C pos (.blt id) first [] vals led K := by
  rintro _ fs rfl hfs
  refine ⟨fun s hs => ?_⟩
  exact callWith_method0 ((h _ _ VR.blt hfs).run s hs)
theorem CWW_typ {pos : Pos} {T : String} {e : Expr} {r : List Expr} {K : AV → Vals → Ledger → Prop} (he : starEach (e :: r) C.env = (false, eval e C.env) :: starEach r C.env) (hplain : (backTo pos (starEach r C.env)).any (·.1) = false)
    (h : ArgsW C pos (e :: r) vals led (CalK C (.typ T) K)) : CWW C pos (.typ T) [] (e :: r) vals led K := by
  rintro _ fs rfl hfs
  obtain rfl := hfs.unnil
  refine ⟨fun s hs => ?_⟩
  exact callWith_type1 (h.use hs (fun us s₁ as v l hr hs₁ hk => (hk _ _ VR.typ hr).run s₁ hs₁)) he hplain
theorem CWW_typ0 {pos : Pos} {T : String} {K : AV → Vals → Ledger → Prop} (h : CallW C (.typ T) [] vals led K) : CWW C pos (.typ T) [] [] vals led K := by
  rintro _ fs rfl hfs
  obtain rfl := hfs.unnil
  refine ⟨fun s hs => ?_⟩
  exact callWith_type0 ((h _ _ VR.typ .nil).run s hs)
theorem CWW_fn {pos : Pos} {f : Addr} {first : List AV} {e : Expr} {r : List Expr} {K : AV → Vals → Ledger → Prop} (ok : COk C k) (hf : keepIn (KH C.w) (.ref f) = true) (he : starEach (e :: r) C.env = (false, eval e C.env) :: starEach r C.env) (hplain : (backTo pos (starEach r C.env)).any (·.1) = false)
    (h : ArgsW C pos (e :: r) vals led fun as v l => CallW C (.ref f) (first ++ as) v l K) : CWW C pos (.ref f) first (e :: r) vals led K := by
  rintro _ fs rfl hfs
  refine ⟨fun s hs => ?_⟩
  exact callWith_K (h₀ := s.heap) (ok.here hs).1 hf (h.use hs (fun us s₁ as v l hr hs₁ hk => ⟨(ok.here hs₁).1, (hk _ _ VR.ref (hfs.append hr)).run s₁ hs₁⟩)) he hplain
theorem CWW_fn0 {pos : Pos} {f : Addr} {first : List AV} {K : AV → Vals → Ledger → Prop} (ok : COk C k) (hf : keepIn (KH C.w) (.ref f) = true) (h : CallW C (.ref f) first vals led K) : CWW C pos (.ref f) first [] vals led K := by
  rintro _ fs rfl hfs
  refine ⟨fun s hs => ?_⟩
  exact callWith_K0 (ok.here hs).1 hf (by rw [List.append_nil]; exact (h _ _ VR.ref hfs).run s hs)

theorem EvW_MethB {o : Expr} {name : Str} {apos pos : Pos} {args : List Expr} {pl : Sem Bool} {T id : String} {K : AV → Vals → Ledger → Prop} (pa : PlainAttrs T) (slot : Slot T name id) (hty : typeOf (.builtin id) = pure (.type "method_descriptor"))
    (he : eval (.Call (.Attribute o name apos) args [] pos) C.env = (do
      let ov ← eval o C.env
      standAt apos.atName
      let (f, first) ← holding [ov] (getMethod ov name pl)
      callWith pos f first (backTo pos (starEach args C.env)) []))
    (h : EvW C o vals led (MbK C pos T id args K)) : EvW C (.Call (.Attribute o name apos) args [] pos) vals led K :=
  ⟨fun s hs => MethodCall_ (h.use hs (fun u s₁ b v l hr hs₁ ⟨ht, hk⟩ => getMethod_builtin (ht u hr s₁ hs₁).1 pa slot hty (ht u hr s₁ hs₁).2 ((hk _ _ VR.blt (.cons hr .nil)).run s₁ hs₁))) he⟩

theorem TyW_list {l : Addr} {xs : List AV} (hm : (l, AO.list xs) ∈ led) : TyW C (.ref l) "list" vals led := by
  rintro _ rfl s hs
  obtain ⟨o, ho, vs, n, hv, rfl⟩ := hs.get hm
  exact ⟨⟨_, ho, rfl⟩, fun x e => by cases e; exact ⟨_, ho, rfl⟩⟩
theorem TyW_str {x : Str} : TyW C (.str x) "str" vals led := by
  rintro _ ⟨t, rfl⟩ s hs
  exact ⟨typeIs_str s x t, fun x e => by cases e⟩

-- a while
theorem ExW_While {test : Expr} {body orelse : List Stmt} {pos : Pos} {K : AF → Vals → Ledger → Prop} (I : Nat → Vals → Ledger → Prop)
    (turn : ∀ n v l, I n v l → TrW C test v l fun b v l => if b = true then ExsW C body v l (fun f v l => match f with
      | .next | .cont => ∃ m, m < n ∧ I m v l
      | .brk => K .next v l
      | .ret a => K (.ret a) v l) else ExsW C orelse v l K) (n : Nat) (h : I n vals led) : ExW C (.While test body orelse pos) vals led K := by
  refine ⟨fun s hs => wpAny_While (codeAny_whileLoop (fun n s => ∃ v l, St C v l s ∧ I n v l) (fun n s ⟨v, l, hs, hI⟩ => ?_) n ⟨vals, led, hs, h⟩)⟩
  refine (turn n v l hI).useE hs (fun b s₂ b' v₂ l₂ e hs₂ hk => ?_)
  subst e
  cases b' with
  | true =>
    refine hk.useE hs₂ (fun f s₃ f' v₃ l₃ hr hs₃ hk₃ => ?_)
    cases f' with
    | next => cases hr; obtain ⟨m, hm, hI⟩ := hk₃; exact ⟨m, hm, v₃, l₃, hs₃, hI⟩
    | cont => cases hr; obtain ⟨m, hm, hI⟩ := hk₃; exact ⟨m, hm, v₃, l₃, hs₃, hI⟩
    | brk => cases hr; exact ⟨.next, v₃, l₃, rfl, hs₃, hk₃⟩
    | ret a => obtain ⟨u, rfl, hu⟩ := hr; exact ⟨.ret a, v₃, l₃, ⟨u, rfl, hu⟩, hs₃, hk₃⟩
  | false => exact wpAny_mono (hk.run s₂ hs₂) (fun f s₃ x => x) fun _ _ x => x.elim
end
end Mine

-- part F0
namespace Mine
open PySem PySem.Calls PySem.W PyProof.Rows

noncomputable def fdAt (w : World) (a : Addr) : FuncData := match (KH w).lookup a with
  | some ⟨_, _, .func f, _⟩ => f
  | _ => default
noncomputable def bodyOf : FuncBody → List Stmt
  | .stmts b => b
  | _ => []

/-- the checks on a def, all by evaluation -/
noncomputable def fnCheck (fd : FuncData) (pn ls wr : List Str) : Bool :=
  ((pn ++ ls).all fun x => fd.scope.names.lookup x == some .local || (fd.scope.names.lookup x == some .cell && wr.contains x)) &&
  (wr.all fun x => (fd.scope.names.lookup x) == some .cell) && (fd.scope.names.all fun p => p.2 != .cell || wr.contains p.1) &&
  decide (pn ++ ls).Nodup && decide wr.Nodup && ((pn ++ ls).all fun x => !(x == ("__debug__" : Str)) && !(x == ("__classdict__" : Str))) &&
  fd.scope.kind == .function && !fd.scope.isGenerator && !fd.scope.isCoroutine && fd.globals == mainGlobals && fd.builtins == builtinsNs && fd.closure.isEmpty

theorem cellsFrom_in {names : List (Str × NameKind)} {x : Str} {c : Addr} : ∀ {n : Nat} {acc : List (Str × Addr)}, (cellsFrom n names acc).lookup x = some c → (x, NameKind.cell) ∈ names ∨ acc.lookup x = some c := by
  induction names with
  | nil => intro n acc h; exact .inr h
  | cons p r ih =>
    obtain ⟨y, kd⟩ := p
    intro n acc h
    unfold cellsFrom at h
    split at h
    · rename_i hk
      rcases ih h with q | q
      · exact .inl (.tail _ q)
      · rw [List.lookup_cons] at q
        cases e : (x == y) with
        | true =>
          have e1 : x = y := by simpa using e
          have e2 : kd = .cell := by simpa using hk
          rw [e1, e2]; exact .inl (.head _)
        | false => rw [e] at q; exact .inr q
    · rcases ih h with q | q
      · exact .inl (.tail _ q)
      · exact .inr q

theorem fnOk_of {fd : FuncData} {pn ls wr : List Str} (h : fnCheck fd pn ls wr = true) : FnOk fd pn ls wr := by
  simp only [fnCheck, Bool.and_eq_true, List.all_eq_true, Bool.or_eq_true, beq_iff_eq, Bool.not_eq_true', decide_eq_true_eq, bne_iff_ne, ne_eq, List.contains_iff_mem, List.isEmpty_iff] at h
  obtain ⟨⟨⟨⟨⟨⟨⟨⟨⟨⟨⟨h1, h2⟩, h3⟩, h4⟩, h5⟩, h6⟩, h7⟩, h8⟩, h9⟩, h10⟩, h11⟩, h12⟩ := h
  refine ⟨h1, fun n x hx => cellsFrom_some _ _ _ (.inl (h2 x hx)), fun n x c hc => ?_, h4, h5, fun x hx => ⟨by simpa using (h6 x hx).1, by simpa using (h6 x hx).2⟩, h7, h8, h9, h10, h11, h12⟩
  rcases cellsFrom_in hc with q | q
  · rcases h3 _ q with r | r
    · exact absurd rfl r
    · exact r
  · cases q

theorem Wr_CF {w : World} {B : Addr → Option Obj} {outs : List (Addr × Data)} {r : Shared} {A : Around} {fd : FuncData} {f L : Addr} {pn ls wr : List Str} (FO : FnOk fd pn ls wr) {x : Str} (i : Nat) (hi : (pn ++ ls)[i]? = some x) :
    (CF w B outs r A fd f L (pn ++ ls) wr).Wr x := by
  rcases FO.kinds x (List.mem_of_getElem? hi) with q | q
  · exact .inl q
  · exact .inr q
end Mine

-- part F0b
namespace Mine
open PySem PySem.Calls PySem.W PyProof.Rows

inductive VarIs : List Str → Vals → Str → AV → Prop
  | here {x ns a vs} : VarIs (x :: ns) (some a :: vs) x a
  | there {y ns v vs x a} : VarIs ns vs x a → VarIs (y :: ns) (v :: vs) x a
inductive SetIs : List Str → Vals → Str → AV → Vals → Prop
  | here {x ns v a vs} : SetIs (x :: ns) (v :: vs) x a (some a :: vs)
  | there {y ns v vs x a vs'} : SetIs ns vs x a vs' → SetIs (y :: ns) (v :: vs) x a (v :: vs')
theorem VarIs.both {ns vs x a} (h : VarIs ns vs x a) : ∃ i : Nat, ns[i]? = some x ∧ vs[i]? = some (some a) := by
  induction h with
  | here => exact ⟨0, rfl, rfl⟩
  | there _ ih => exact ih.elim fun i h => ⟨i + 1, h⟩
theorem SetIs.both {ns vs x a vs'} (h : SetIs ns vs x a vs') : ∃ i : Nat, ns[i]? = some x ∧ SetV (some a) i vs vs' := by
  induction h with
  | here => exact ⟨0, rfl, .z⟩
  | there _ ih => exact ih.elim fun i h => ⟨i + 1, h.1, .s h.2⟩

section
variable {C : Cx} {vals : Vals} {led : Ledger} {k : Nat}
theorem EvN {x : Str} {pos : Pos} {a : AV} {K : AV → Vals → Ledger → Prop} (ok : COk C k) (hv : VarIs C.names vals x a) (h : K a vals led) : EvW C (.Name x pos) vals led K :=
  let ⟨i, h1, h2⟩ := hv.both; EvW_name i ok h1 h2 h
theorem LdN {x : Str} {a : AV} {K : AV → Vals → Ledger → Prop} (ok : COk C k) (hv : VarIs C.names vals x a) (h : K a vals led) : TW C VR (loadName C.env x) vals led K :=
  let ⟨i, h1, h2⟩ := hv.both; LoadW i ok h1 h2 h
/-- all names of the frame may be stored -/
noncomputable def Cx.AllWr (C : Cx) : Prop := ∀ x ∈ C.names, C.Wr x
theorem StN {x : Str} {a : AV} {vals' : Vals} {K : Vals → Ledger → Prop} (ok : COk C k) (aw : C.AllWr) (hv : SetIs C.names vals x a vals') (h : K vals' led) : StoW C x a vals led K :=
  let ⟨i, h1, h2⟩ := hv.both; StoW_ i ok h1 (aw x (List.mem_of_getElem? h1)) h2 h

noncomputable def SeqK (C : Cx) (rest : List Stmt) (K : AF → Vals → Ledger → Prop) : AF → Vals → Ledger → Prop := fun f v l => match f with
  | .next => ExsW C rest v l K
  | f => K f v l
theorem Exs1 {st : Stmt} {rest : List Stmt} {K : AF → Vals → Ledger → Prop} (h : ExW C st vals led (SeqK C rest K)) : ExsW C (st :: rest) vals led K := ExsW_cons h
theorem SeqK_next {rest : List Stmt} {K : AF → Vals → Ledger → Prop} (h : ExsW C rest vals led K) : SeqK C rest K .next vals led := h
theorem SeqK_brk {rest : List Stmt} {K : AF → Vals → Ledger → Prop} (h : K .brk vals led) : SeqK C rest K .brk vals led := h
theorem SeqK_cont {rest : List Stmt} {K : AF → Vals → Ledger → Prop} (h : K .cont vals led) : SeqK C rest K .cont vals led := h
theorem SeqK_ret {rest : List Stmt} {a : AV} {K : AF → Vals → Ledger → Prop} (h : K (.ret a) vals led) : SeqK C rest K (.ret a) vals led := h
/-- what a turn of a loop must leave -/
noncomputable def TurnK (I : Nat → Vals → Ledger → Prop) (n : Nat) (K : AF → Vals → Ledger → Prop) : AF → Vals → Ledger → Prop := fun f v l => match f with
  | .next | .cont => ∃ m, m < n ∧ I m v l
  | .brk => K .next v l
  | .ret a => K (.ret a) v l
theorem TurnK_next {I : Nat → Vals → Ledger → Prop} {n : Nat} {K : AF → Vals → Ledger → Prop} (m : Nat) (hm : m < n) (h : I m vals led) : TurnK I n K .next vals led := ⟨m, hm, h⟩
theorem TurnK_cont {I : Nat → Vals → Ledger → Prop} {n : Nat} {K : AF → Vals → Ledger → Prop} (m : Nat) (hm : m < n) (h : I m vals led) : TurnK I n K .cont vals led := ⟨m, hm, h⟩
theorem TurnK_brk {I : Nat → Vals → Ledger → Prop} {n : Nat} {K : AF → Vals → Ledger → Prop} (h : K .next vals led) : TurnK I n K .brk vals led := h
theorem TurnK_ret {I : Nat → Vals → Ledger → Prop} {n : Nat} {a : AV} {K : AF → Vals → Ledger → Prop} (h : K (.ret a) vals led) : TurnK I n K (.ret a) vals led := h
theorem ExWhile {test : Expr} {body orelse : List Stmt} {pos : Pos} {K : AF → Vals → Ledger → Prop} (I : Nat → Vals → Ledger → Prop) (n : Nat) (h : I n vals led)
    (turn : ∀ n v l, I n v l → TrW C test v l fun b v l => if b = true then ExsW C body v l (TurnK I n K) else ExsW C orelse v l K) : ExW C (.While test body orelse pos) vals led K :=
  ExW_While I turn n h
noncomputable def CutK (P : Vals → Ledger → Prop) : AF → Vals → Ledger → Prop := fun f v l => match f with
  | .next => P v l
  | _ => False
theorem CutK_next {P : Vals → Ledger → Prop} (h : P vals led) : CutK P .next vals led := h
theorem ExW_cut {st : Stmt} {K : AF → Vals → Ledger → Prop} (P : Vals → Ledger → Prop) (h : ExW C st vals led (CutK P)) (h2 : ∀ v l, P v l → K .next v l) : ExW C st vals led K :=
  TW.mono h fun f v l hk => by cases f <;> first | exact h2 v l hk | exact hk.elim
theorem IteP {b : Bool} {p q : Prop} (h1 : b = true → p) (h2 : b = false → q) : if b = true then p else q := by
  cases b with
  | true => rw [if_pos rfl]; exact h1 rfl
  | false => rw [if_neg Bool.false_ne_true]; exact h2 rfl
end

theorem len1 {vs : List Value} (h : vs.length = 1) : ∃ a, vs = [a] := by
  match vs, h with
  | [a], _ => exact ⟨a, rfl⟩
theorem len2 {vs : List Value} (h : vs.length = 2) : ∃ a b, vs = [a, b] := by
  match vs, h with
  | [a, b], _ => exact ⟨a, b, rfl⟩
theorem len3 {vs : List Value} (h : vs.length = 3) : ∃ a b c, vs = [a, b, c] := by
  match vs, h with
  | [a, b, c], _ => exact ⟨a, b, c, rfl⟩
noncomputable abbrev CG (f : Addr) (names wr : List Str) (C : Cx) (B : Addr → Option Obj) (outs : List (Addr × Data)) (L : Addr) : Cx := CF C.w B outs C.r C.A (fdAt C.w f) f L names wr

theorem CallW_def {C : Cx} {vals : Vals} {led : Ledger} {k : Nat} {f : Addr} {as : List AV} {pn ls wr names : List Str} {oc : Value} {od : Option Addr} {osl : Array (Option Value)} {K : AV → Vals → Ledger → Prop}
    (ok : COk C (k + 1)) (FO : FnOk (fdAt C.w f) pn ls wr) (hn : pn ++ ls = names) (ho : (KH C.w).lookup f = some ⟨oc, od, .func (fdAt C.w f), osl⟩) (hcd : codeIn (KH C.w) (fdAt C.w f).code (fdAt C.w f).qualname = true)
    (hbody : (fdAt C.w f).body = .stmts (bodyOf (fdAt C.w f).body)) (hlen : as.length = pn.length) (hbind : ∀ vs : List Value, vs.length = pn.length → bindArgs (fdAt C.w f) ⟨vs, []⟩ = pure (pn.zip vs))
    (h : ∀ B outs L, COk (CG f names wr C B outs L) k → (CG f names wr C B outs L).AllWr → ExsW (CG f names wr C B outs L) (bodyOf (fdAt C.w f).body) (as.map some ++ ls.map fun _ => none) led fun fl v l => K (retOf fl) vals l) :
    CallW C (.ref f) as vals led K := by
  subst hn
  rintro _ vs rfl hvs
  refine ⟨fun s hs => wpAny_call ?_⟩
  refine callFn ok FO ho hcd hbody hlen hs hvs (hbind vs (by rw [hvs.length, hlen])) fun B outs L ok' => h B outs L ok' fun x hx => ?_
  obtain ⟨i, hi⟩ := List.mem_iff_getElem?.mp hx
  exact Wr_CF FO i hi

theorem TW.nd {C : Cx} {α β : Type} {rel : β → α → Prop} {t : Sem α} {vals : Vals} {led : Ledger} {K : β → Vals → Ledger → Prop} (h : (led.map (·.1)).Nodup → TW C rel t vals led K) : TW C rel t vals led K :=
  ⟨fun s hs => (h hs.nd).run s hs⟩
theorem CallW.nd {C : Cx} {f : AV} {as : List AV} {vals : Vals} {led : Ledger} {K : AV → Vals → Ledger → Prop} (h : (led.map (·.1)).Nodup → CallW C f as vals led K) : CallW C f as vals led K :=
  fun fv vs hf hv => .nd fun nd => h nd fv vs hf hv
theorem Upd.split {a : Addr} {n : AO} {l l' : Ledger} (h : Upd a n l l') : ∃ pre o post, l = pre ++ (a, o) :: post ∧ l' = pre ++ (a, n) :: post := by
  induction h with
  | here => exact ⟨[], _, _, rfl, rfl⟩
  | there _ ih =>
    obtain ⟨pre, o, post, e1, e2⟩ := ih
    exact ⟨_ :: pre, o, post, by rw [e1]; rfl, by rw [e2]; rfl⟩
theorem Upd.at (pre post : Ledger) (a : Addr) (o n : AO) : Upd a n (pre ++ (a, o) :: post) (pre ++ (a, n) :: post) := by
  induction pre with
  | nil => exact .here
  | cons p r ih => exact .there ih
theorem led_uniq {led : Ledger} (nd : (led.map (·.1)).Nodup) {a : Addr} {o o' : AO} (h : (a, o) ∈ led) (h' : (a, o') ∈ led) : o = o' := by
  induction led with
  | nil => cases h
  | cons p r ih =>
    simp only [List.map_cons, List.nodup_cons] at nd
    rcases List.mem_cons.mp h with e | e <;> rcases List.mem_cons.mp h' with e' | e'
    · rw [← e] at e'; exact (Prod.mk.inj e').2.symm
    · exact absurd (List.mem_map_of_mem (f := (·.1)) e') (by rw [← e] at nd; exact nd.1)
    · exact absurd (List.mem_map_of_mem (f := (·.1)) e) (by rw [← e'] at nd; exact nd.1)
    · exact ih nd.2 e e'
theorem mid {pre post : Ledger} {a : Addr} {o : AO} : (a, o) ∈ pre ++ (a, o) :: post := List.mem_append_right _ (.head _)
theorem mem_put {pre post : Ledger} {a b : Addr} {o o' n : AO} (h : (b, o) ∈ pre ++ (a, o') :: post) (hne : b ≠ a) : (b, o) ∈ pre ++ (a, n) :: post := by
  rcases List.mem_append.mp h with q | q
  · exact List.mem_append_left _ q
  · rcases List.mem_cons.mp q with e | q
    · exact absurd (Prod.mk.inj e).1 hne
    · exact List.mem_append_right _ (.tail _ q)

section
variable {C : Cx} {vals : Vals} {led : Ledger} {k : Nat}
theorem CB {pos : Pos} {id : String} {e : Expr} {r : List Expr} {K : AV → Vals → Ledger → Prop} (he : starEach (e :: r) C.env = (false, eval e C.env) :: starEach r C.env) (hplain : (backTo pos (starEach r C.env)).any (·.1) = false)
    (h : ArgsW C pos (e :: r) vals led (CalK C (.blt id) K)) : CWW C pos (.blt id) [] (e :: r) vals led K := CWW_blt he hplain h
theorem CBM {pos : Pos} {id : String} {a : AV} {e : Expr} {r : List Expr} {K : AV → Vals → Ledger → Prop} (he : starEach (e :: r) C.env = (false, eval e C.env) :: starEach r C.env) (hplain : (backTo pos (starEach r C.env)).any (·.1) = false)
    (h : ArgsW C pos (e :: r) vals led (CalK1 C (.blt id) a K)) : CWW C pos (.blt id) [a] (e :: r) vals led K := CWW_blt he hplain h
theorem CFN {pos : Pos} {f : Addr} {e : Expr} {r : List Expr} {K : AV → Vals → Ledger → Prop} (ok : COk C k) (hf : keepIn (KH C.w) (.ref f) = true) (he : starEach (e :: r) C.env = (false, eval e C.env) :: starEach r C.env) (hplain : (backTo pos (starEach r C.env)).any (·.1) = false)
    (h : ArgsW C pos (e :: r) vals led (CalK C (.ref f) K)) : CWW C pos (.ref f) [] (e :: r) vals led K := CWW_fn ok hf he hplain h
theorem CFM {pos : Pos} {f : Addr} {a : AV} {e : Expr} {r : List Expr} {K : AV → Vals → Ledger → Prop} (ok : COk C k) (hf : keepIn (KH C.w) (.ref f) = true) (he : starEach (e :: r) C.env = (false, eval e C.env) :: starEach r C.env) (hplain : (backTo pos (starEach r C.env)).any (·.1) = false)
    (h : ArgsW C pos (e :: r) vals led (CalK1 C (.ref f) a K)) : CWW C pos (.ref f) [a] (e :: r) vals led K := CWW_fn ok hf he hplain h
end
end Mine

-- part M8
namespace Mine
open PySem PySem.Calls PySem.W PyProof.Rows

noncomputable def Off (C : Cx) (l : Ledger) (its : List Addr) : Prop := ∀ a ∈ its, C.B a = none ∧ (∀ p ∈ l, p.1 ≠ a) ∧ (∀ q ∈ C.outs, q.1 ≠ a) ∧ ∀ x ∈ C.frameAddrs, x ≠ a

noncomputable def rb (C : Cx) (l : Ledger) (h : Heap) : Addr → Option Obj := hid h (l.map (·.1) ++ (C.frameAddrs ++ C.outs.map (·.1)))
noncomputable abbrev Cx.base (C : Cx) (B : Addr → Option Obj) : Cx := { C with B := B }

section
variable {C : Cx} {vals : Vals} {led : Ledger} {k : Nat} {s : Shared}

theorem St.rbB (H : St C vals led s) : ∀ b o, C.B b = some o → rb C led s.heap b = some o := fun b o e => by
  refine hid_of (fun hm => ?_) (H.keep b o e)
  rcases List.mem_append.mp hm with hm | hm
  · obtain ⟨q, hq, rfl⟩ := List.mem_map.mp hm
    rw [(H.ledg q hq).2.1] at e; cases e
  · rcases List.mem_append.mp hm with hm | hm
    · rw [(H.frameB _ hm).1] at e; cases e
    · obtain ⟨q, hq, rfl⟩ := List.mem_map.mp hm
      rw [H.outsB q hq] at e; cases e
theorem St.rebase (H : St C vals led s) : St (C.base (rb C led s.heap)) vals led s := by
  have hB := H.rbB
  refine ⟨H.same, fun b o e => (hid_some e).2, H.outs, fun p hp => hid_none (List.mem_append_right _ (List.mem_append_right _ (List.mem_map_of_mem hp))), fun a ha => ⟨hid_none (List.mem_append_right _ (List.mem_append_left _ ha)), (H.frameB a ha).2⟩, H.frameN, H.locs, fun x c hc => ?_, H.len, H.vars,
    fun p hp => ⟨(H.ledg p hp).1, hid_none (List.mem_append_left _ (List.mem_map_of_mem hp)), (H.ledg p hp).2.2⟩, H.nd⟩
  rcases H.cellsO x c hc with h1 | ⟨o, u, hb, hd⟩
  · exact .inl h1
  · exact .inr ⟨o, u, hB _ _ hb, hd⟩
theorem St.unbase {v' : Vals} {l' : Ledger} {s' : Shared} {B' : Addr → Option Obj} (H : St C vals led s) (hB : ∀ b o, C.B b = some o → B' b = some o) (H' : St (C.base B') v' l' s') : St C v' l' s' := by
  refine ⟨H'.same, fun b o e => H'.keep b o (hB b o e), H'.outs, H.outsB, fun a ha => ⟨(H.frameB a ha).1, (H'.frameB a ha).2⟩, H'.frameN, H'.locs, fun x c hc => ?_, H'.len, H'.vars, fun p hp => ⟨(H'.ledg p hp).1, ?_, (H'.ledg p hp).2.2⟩, H'.nd⟩
  · rcases H.cellsO x c hc with ⟨hw, _⟩ | h2
    · rcases H'.cellsO x c hc with h1 | ⟨o, u, hb, _⟩
      · exact .inl h1
      · have : c ∈ C.frameAddrs := List.mem_cons_of_mem _ (List.mem_filterMap.mpr ⟨x, hw, hc⟩)
        have q := (H'.frameB c this).1
        rw [hb] at q; cases q
    · exact .inr h2
  · cases q : C.B p.1 with
    | none => rfl
    | some o => have h1 : B' p.1 = none := (H'.ledg p hp).2.1; rw [hB _ _ q] at h1; cases h1
theorem COk.rebase (ok : COk C k) {B' : Addr → Option Obj} (hB : ∀ b o, C.B b = some o → B' b = some o) : COk (C.base B') k :=
  ⟨ok.base.mono hB, ok.hand, ok.depth, ok.units, ok.kind, ok.glob, ok.bu, ok.nodup, ok.wnodup, ok.ndbg, ok.frames⟩

/-- objects that are off the state may change -/
theorem St.off {its : List Addr} {h' : Heap} {tk : Nat} (H : St C vals led s) (O : Off C led its) (k : ∀ b o, b ∉ its → s.heap.get? b = some o → h'.get? b = some o) : St C vals led { s with heap := h', toks := tk } :=
  H.change (fun b o e => k b o (fun hm => by rw [(O b hm).1] at e; cases e) (H.keep b o e))
    (fun a o ha e => ⟨o, k a o (fun hm => by
      rcases ha with ha | ⟨p, hp, rfl⟩
      · exact (O a hm).2.2.2 a ha rfl
      · exact (O _ hm).2.2.1 p hp rfl) e, rfl⟩)
    (fun p hp => let ⟨⟨o, ho, hr⟩, hb, hq⟩ := H.ledg p hp; ⟨⟨o, k _ _ (fun hm => (O _ hm).2.1 p hp rfl) ho, hr⟩, hb, hq, fun a ha => (H.frameB a ha).2.1 p hp⟩) H.nd
end


/-- what an iterator hands out: a value, or a fresh tuple -/
inductive IT where
  | val (a : AV)
  | tup (as : List AV)
inductive ITof : IT → AV → Ledger → Ledger → Prop
  | val {a l} : ITof (.val a) a l l
  | tup {as T l} : ITof (.tup as) (.ref T) l ((T, .tup as) :: l)

structure IterSpec (C : Cx) (target : Expr) (its : List Addr) (xs : List IT) (src : Ledger → Prop) (S : Nat → Heap → Prop) (itv : Value) : Prop where
  keepS : ∀ i h h', S i h → (∀ a ∈ its, ∀ o, h.get? a = some o → h'.get? a = some o) → S i h'
  item : ∀ (i : Nat) (x : IT) v l s, xs[i]? = some x → St C v l s → src l → S i s.heap → Off C l its → wpAny (Md C.w) C.A (pyNext itv) (fun r s₁ => ∃ va, r = some va ∧
    wpAny (Md C.w) C.A (letOwnedTupleGo target itv va) (fun _ s' => ∃ a l', ITof x a l l' ∧ VR a va ∧ St C v l' s' ∧ S (i + 1) s'.heap ∧ Off C l' its ∧ ∀ a ∈ its, ∃ o, s'.heap.get? a = some o) (fun _ _ => False) s₁) (fun _ _ => False) s
  self : ∀ (Q : Value → Shared → Prop) s, S 0 s.heap → Q itv s → wpAny (Md C.w) C.A (pyIter itv) Q (fun _ _ => False) s
  done : ∀ v l s, St C v l s → src l → S xs.length s.heap → Off C l its → wpAny (Md C.w) C.A (pyNext itv) (fun r s' => r = none ∧ St C v l s') (fun _ _ => False) s

theorem rb_its {C : Cx} {l : Ledger} {its : List Addr} (h : Heap) (O : Off C l its) : ∀ a ∈ its, ∀ o, h.get? a = some o → rb C l h a = some o := fun a ha o e => by
  refine hid_of (fun hm => ?_) e
  rcases List.mem_append.mp hm with hm | hm
  · obtain ⟨q, hq, e⟩ := List.mem_map.mp hm
    exact (O a ha).2.1 q hq e
  · rcases List.mem_append.mp hm with hm | hm
    · exact (O a ha).2.2.2 a hm rfl
    · obtain ⟨q, hq, e⟩ := List.mem_map.mp hm
      exact (O a ha).2.2.1 q hq e

/-- one turn of an iterator: the item, then the assignment and a body in the rebased frame -/
theorem turn_core {C : Cx} {k : Nat} {v : Vals} {l : Ledger} {s : Shared} {target : Expr} {its : List Addr} {itv : Value} {xs : List IT} {src : Ledger → Prop} {S : Nat → Heap → Prop} {i : Nat} {x : IT}
    (ok : COk C k) (I : IterSpec C target its xs src S itv) (hx : xs[i]? = some x) (hs : St C v l s) (hsrc : src l) (hS : S i s.heap) (O : Off C l its) {Q : Unit → Shared → Prop} {P : Vals → Ledger → Cx → Prop}
    (T : ∀ a l' B, ITof x a l l' → COk (C.base B) k → AsgW (C.base B) target a v l' fun v l => P v l (C.base B))
    (hQ : ∀ B v₂ l₂ s₂, St (C.base B) v₂ l₂ s₂ → P v₂ l₂ (C.base B) → COk (C.base B) k → (∀ v₃ l₃ s₃, St (C.base B) v₃ l₃ s₃ → St C v₃ l₃ s₃ ∧ S (i + 1) s₃.heap ∧ Off C l₃ its) → Q () s₂) :
    wpAny (Md C.w) C.A (pyNext itv) (fun r s₁ => ∃ va, r = some va ∧ wpAny (Md C.w) C.A (letOwnedTupleGo target itv va) (fun _ s' => wpAny (Md C.w) C.A (assign target C.env va) Q (fun _ _ => False) s') (fun _ _ => False) s₁) (fun _ _ => False) s := by
  refine wpAny_mono (I.item i _ v l s hx hs hsrc hS O) (fun r s₁ ⟨va, hr, hlet⟩ => ⟨va, hr, wpAny_mono hlet (fun _ s' ⟨a, l', hIT, hva, H₁, hS₁, O₁, hit'⟩ => ?_) fun _ _ x => x⟩) fun _ _ x => x
  have hB := H₁.rbB
  have itB := rb_its s'.heap O₁
  have T' := T a l' (rb C l' s'.heap) hIT (ok.rebase hB)
  refine (T' va hva).use H₁.rebase (fun _ s₂ _ v₂ l₂ _ hs₂ hk₂ => hQ _ v₂ l₂ s₂ hs₂ hk₂ (ok.rebase hB) fun v₃ l₃ s₃ hs₃ => ⟨H₁.unbase hB hs₃, I.keepS _ _ _ hS₁ fun a ha o e => hs₃.keep a o (itB a ha o e), fun a ha => ⟨(O₁ a ha).1, fun p hp e => ?_, (O₁ a ha).2.2⟩⟩)
  obtain ⟨o, ho⟩ := hit' a ha
  have := (hs₃.ledg p hp).2.1
  rw [e] at this
  have q := itB a ha o ho
  change rb C l' s'.heap a = none at this
  rw [q] at this; cases this

/-- what a for makes of its items -/
structure ForK (C : Cx) (k : Nat) (target : Expr) (body : List Stmt) (xs : List IT) (src : Ledger → Prop) (vals : Vals) (led : Ledger) (J : Nat → Vals → Ledger → Prop) (K : AF → Vals → Ledger → Prop) : Prop where
  start : J 0 vals led
  srcs : ∀ i v l, J i v l → src l
  turn : ∀ i x a v l l' B, xs[i]? = some x → J i v l → ITof x a l l' → COk (C.base B) k → AsgW (C.base B) target a v l' fun v l => ExsW (C.base B) body v l fun f v l => match f with
    | .next | .cont => J (i + 1) v l
    | .brk => K .next v l
    | .ret a => K (.ret a) v l
  fin : ∀ v l, J xs.length v l → K .next v l

theorem for_loop {prog : Program} {w : World} {A : Around} {s : Shared} {R : Result → Shared → Prop} {target : Expr} {it : Value} {body orelse : List Stmt} {env : Env} (I : Nat → Shared → Prop)
    (turn : ∀ n s, I n s → wpAny (model prog w) A (pyNext it) (fun r s₁ => match r with
      | none => wpAny (model prog w) A (execs orelse env) (fun f s₃ => R (.ok f) s₃) (notedBy (model prog w) A env fun e s' => R (.error e) s') s₁
      | some v => wpAny (model prog w) A (letOwnedTupleGo target it v) (fun _ s₁ => wpAny (model prog w) A (assign target env v) (fun _ s₂ => wpAny (model prog w) A (execs body env) (fun f s₃ => match f with
          | .next | .cont => ∃ m, m < n ∧ I m s₃
          | .brk => R (.ok .next) s₃
          | .ret v => R (.ok (.ret v)) s₃) (notedBy (model prog w) A env fun e s' => R (.error e) s') s₂) (notedBy (model prog w) A env fun e s' => R (.error e) s') s₁) (notedBy (model prog w) A env fun e s' => R (.error e) s') s₁) (notedBy (model prog w) A env fun e s' => R (.error e) s') s)
    (n : Nat) (h : I n s) : codeAny (model prog w) A (.forLoop target it body orelse env) R s := by
  refine codeAny_loop' rfl I (fun n s hI => ?_) n h
  show wpAny _ _ ((forTurn target it body orelse env).onRaise (fun x => do noteFrame x env; theTreesLotGoes x)) _ _ s
  refine wpAny_noted ?_
  simp only [forTurn]
  refine wpAny_bind (wpAny_standAt (wpAny_bind (wpAny_onRaise (wpAny_mono (turn n s hI) (fun r s₁ h₁ => ?_) fun _ _ h' => wpAny_standAt h'))))
  cases r with
  | none => exact wpAny_pure (.inr ⟨rfl, codeAny_block h₁⟩)
  | some v =>
    refine wpAny_bind (wpAny_mono h₁ (fun _ s₁' h₁' => ?_) fun _ _ h' => h')
    refine wpAny_bind (wpAny_mono h₁' (fun _ s₂ h₂ => wpAny_bind (wpAny_mono h₂ (fun f s₃ h₃ => ?_) fun _ _ h' => h')) fun _ _ h' => h')
    cases f with
    | next => exact wpAny_pure (.inl ⟨rfl, h₃⟩)
    | cont => exact wpAny_pure (.inl ⟨rfl, h₃⟩)
    | brk => exact wpAny_pure h₃
    | ret v => exact wpAny_pure h₃

inductive LpI (C : Cx) (S : Nat → Heap → Prop) (its : List Addr) (J : Nat → Vals → Ledger → Prop) (N n : Nat) (s : Shared) : Prop where
  | mk (i : Nat) (v : Vals) (l : Ledger) (h1 : St C v l s) (h2 : S i s.heap) (h3 : Off C l its) (h4 : J i v l) (h5 : i ≤ N) (h6 : n = N + 1 - i)
theorem for_core {C : Cx} {k : Nat} {vals : Vals} {led : Ledger} {s : Shared} {target : Expr} {body : List Stmt} {its : List Addr} {itv : Value} {xs : List IT} {src : Ledger → Prop} {S : Nat → Heap → Prop} {J : Nat → Vals → Ledger → Prop} {K : AF → Vals → Ledger → Prop}
    (ok : COk C k) (I : IterSpec C target its xs src S itv) (F : ForK C k target body xs src vals led J K) (hs : St C vals led s) (hS : S 0 s.heap) (O : Off C led its) :
    codeAny (Md C.w) C.A (.forLoop target itv body [] C.env) (fun r s' => match r with | .ok f => Post C FRel K f s' | .error e => cameBackBy (Md C.w) C.A C.env (fun _ _ => False) e s') s := by
  refine for_loop (fun n s => LpI C S its J xs.length n s) (fun n s ⟨i, v, l, hs, hS, O, hJ, hi, hn⟩ => ?_) (xs.length + 1) ⟨0, vals, led, hs, hS, O, F.start, Nat.zero_le _, rfl⟩
  by_cases hlt : i < xs.length
  · have hx : xs[i]? = some xs[i] := by simp [hlt]
    have T := fun a l' B hIT okB => F.turn i _ a v l l' B hx hJ hIT okB
    refine wpAny_mono (turn_core (P := fun v l C' => ExsW C' body v l fun f v l => match f with
      | .next | .cont => J (i + 1) v l
      | .brk => K .next v l
      | .ret a => K (.ret a) v l) (Q := fun _ s₂ => wpAny (Md C.w) C.A (execs body C.env) (fun f s₃ => match f with
          | .next | .cont => ∃ m, m < n ∧ LpI C S its J xs.length m s₃
          | .brk => Post C FRel K .next s₃
          | .ret w => Post C FRel K (.ret w) s₃) (fun _ _ => False) s₂) ok I hx hs (F.srcs i v l hJ) hS O T ?_) (fun r s₁ ⟨va, hr, h1⟩ => ?_) fun _ _ x => x.elim
    · intro B v₂ l₂ s₂ hs₂ hk₂ _ back
      have hk₂' : ExsW (C.base B) body v₂ l₂ _ := hk₂
      refine hk₂'.use hs₂ (fun f s₃ f' v₃ l₃ hr₃ hs₃ hk₃ => ?_)
      obtain ⟨b1, b2, b3⟩ := back v₃ l₃ s₃ hs₃
      cases f' with
      | next => cases hr₃; exact ⟨xs.length + 1 - (i + 1), by (first | lia | omega), i + 1, v₃, l₃, b1, b2, b3, hk₃, hlt, rfl⟩
      | cont => cases hr₃; exact ⟨xs.length + 1 - (i + 1), by (first | lia | omega), i + 1, v₃, l₃, b1, b2, b3, hk₃, hlt, rfl⟩
      | brk => cases hr₃; exact ⟨.next, v₃, l₃, rfl, b1, hk₃⟩
      | ret a => obtain ⟨u, rfl, hu⟩ := hr₃; exact ⟨.ret a, v₃, l₃, ⟨u, rfl, hu⟩, b1, hk₃⟩
    · subst hr
      exact wpAny_mono h1 (fun _ s₂ h2 => wpAny_mono h2 (fun _ s₃ h3 => wpAny_mono h3 (fun f s₄ h4 => h4) fun _ _ x => x.elim) fun _ _ x => x.elim) fun _ _ x => x.elim
  · have hi' : i = xs.length := by (first | lia | omega)
    subst hi'
    refine wpAny_mono (I.done v l s hs (F.srcs _ v l hJ) hS O) (fun r s₁ ⟨hr, hs₁⟩ => ?_) fun _ _ x => x.elim
    subst hr
    exact wpAny_execs_nil ⟨.next, v, l, rfl, hs₁, F.fin v l hJ⟩

/-- an iterator that lies in the ledger -/
structure IterAt (C : Cx) (target : Expr) (it : Addr) (its : List Addr) (xs : List IT) (src : Ledger → Prop) (l l0 : Ledger) : Prop where
  sub : l0.Sublist l
  spec : ∃ S, (∀ C' : Cx, C'.w = C.w → C'.A = C.A → IterSpec C' target its xs src S (.ref it)) ∧ (∀ vals s, St C vals l s → S 0 s.heap)
  mem : ∀ a ∈ its, ∃ o, (a, o) ∈ l ∧ ∀ p ∈ l0, p.1 ≠ a

theorem IterAt.off {C : Cx} {target : Expr} {it : Addr} {its : List Addr} {xs : List IT} {src : Ledger → Prop} {l l0 : Ledger} (A : IterAt C target it its xs src l l0) {C' : Cx} {v : Vals} {s : Shared} (hs : St C' v l s) : Off C' l0 its := fun a ha => by
  obtain ⟨o, ho, hn⟩ := A.mem a ha
  obtain ⟨_, hb, hq⟩ := hs.ledg _ ho
  exact ⟨hb, hn, hq, fun x hx e => (hs.frameB x hx).2.1 _ ho e.symm⟩

theorem ExW_For {C : Cx} {k : Nat} {vals : Vals} {led : Ledger} {target iter : Expr} {body : List Stmt} {pos : Pos} {K : AF → Vals → Ledger → Prop} (ok : COk C k) (hf : ∀ x, foldedSetIterable iter C.env x = pure x)
    (h : EvW C iter vals led fun a v l => IterW C a v l fun itv v l => ∃ it its xs src l0 J, itv = .ref it ∧ IterAt C target it its xs src l l0 ∧ ForK C k target body xs src v l0 J K) : ExW C (.For target iter body [] pos) vals led K := by
  refine ⟨fun s hs => wpAny_For (h.use hs (fun u s₁ a v l hr hs₁ hk => (hk u hr).use hs₁ (fun itw s₂ itv v₂ l₂ hr₂ hs₂ ⟨it, its, xs, src, l0, J, e, A, F⟩ => ?_))) hf⟩
  subst e
  cases hr₂
  obtain ⟨S, I, hS⟩ := A.spec
  exact for_core ok (I C rfl rfl) F (hs₂.sub A.sub) (hS _ _ hs₂) (A.off hs₂)

section
variable {C : Cx} {vals : Vals} {led : Ledger} {k : Nat}
theorem Off.sub {C : Cx} {l l' : Ledger} {its : List Addr} (O : Off C l its) (h : ∀ p ∈ l', p ∈ l) : Off C l' its := fun a ha => ⟨(O a ha).1, fun p hp => (O a ha).2.1 p (h p hp), (O a ha).2.2⟩

theorem IterSpec.ofWalks {target : Expr} {it : Addr} {n : Nat} {P : Nat → Value → Prop} {S : Nat → Heap → Prop} {xs : List AV} (ht : ∀ v, letOwnedTupleGo target (.ref it) v = pure ()) (W : Walks Pr C.w C.A it [it] [it] n P S) (hn : xs.length = n) (hP : ∀ (i : Nat) a v, xs[i]? = some a → P i v → VR a v) (hex : ∀ i h, S i h → ∃ o, h.get? it = some o) :
    IterSpec C target [it] (xs.map .val) (fun _ => True) S (.ref it) where
  keepS := fun i h h' hS hk => W.frame i h h' hS hk
  self := fun Q s hS hQ => W.self 0 s Q _ hS hQ
  item := fun i x v l s hx hs _ hS O => by
    rw [List.getElem?_map, Option.map_eq_some_iff] at hx
    obtain ⟨a, hx, rfl⟩ := hx
    refine W.item i s _ _ (by rw [← hn]; exact (List.getElem?_eq_some_iff.mp hx).1) hS fun va h' tk hp hS' hk => ⟨va, rfl, ?_⟩
    rw [ht]
    exact wpAny_pure ⟨a, l, .val, hP i a va hx hp, hs.off O hk, hS', O, fun b hb => by rw [List.mem_singleton.mp hb]; exact hex _ _ hS'⟩
  done := fun v l s hs _ hS O => W.done s _ _ (hn ▸ (List.length_map (as := xs) IT.val) ▸ hS) fun h' tk hk => ⟨rfl, hs.off O hk⟩

theorem IterSpec.list {target : Expr} {it l : Addr} {xs : List AV} (ht : ∀ v, letOwnedTupleGo target (.ref it) v = pure ()) (hh : C.A.handled = none) : IterSpec C target [it] (xs.map .val) (fun ld => (l, AO.list xs) ∈ ld) (fun i h => h.IsListIter it l i) (.ref it) where
  keepS := fun i h h' hS hk => hS.at fun o e => hk it (.head _) o e
  self := fun Q s hS hQ => wpAny_pyIter_listiter hS hQ
  item := fun i x v ld s hx hs hm hS O => by
    rw [List.getElem?_map, Option.map_eq_some_iff] at hx
    obtain ⟨a, hx, rfl⟩ := hx
    obtain ⟨vs, hv, hl⟩ := hs.list hm
    obtain ⟨va, hva, hr⟩ := hv.get' hx
    refine wpAny_pyNext_list_item hS hl.isList (x := va) (by simpa using hva) fun h' hit' hsb => ⟨va, rfl, ?_⟩
    rw [ht]
    refine wpAny_pure ⟨a, ld, .val, hr, hs.off (tk := s.toks) O fun b o hb e => (hsb.2 b fun q => hb (q ▸ .head _)).trans e, hit', O, fun b hb => ?_⟩
    rw [List.mem_singleton.mp hb]
    obtain ⟨o, ho, _⟩ := hit'
    exact ⟨o, ho⟩
  done := fun v ld s hs hm hS O => by
    obtain ⟨vs, hv, hl⟩ := hs.list hm
    have := hv.length
    exact wpAny_pyNext_list_end hh hS hl.isList (by simp [this]) fun h' he => ⟨rfl, hs.off (tk := s.toks) O fun b o hb e => he b o (fun q => hb (q ▸ .head _)) e⟩
theorem isTuple_of {h : Heap} {t : Addr} {items : Array Value} (x : IsTup h t items) : h.IsTuple t items := x
theorem IterSpec.tup {target : Expr} {it l : Addr} {xs : List AV} (ht : ∀ v, letOwnedTupleGo target (.ref it) v = pure ()) (hh : C.A.handled = none) : IterSpec C target [it] (xs.map .val) (fun ld => (l, AO.tup xs) ∈ ld) (fun i h => h.IsTupleIter it l i) (.ref it) where
  keepS := fun i h h' hS hk => let ⟨o, ho, r⟩ := hS; ⟨o, hk it (.head _) o ho, r⟩
  self := fun Q s hS hQ => wpAny_pyIter_tupleiter hS hQ
  item := fun i x v ld s hx hs hm hS O => by
    rw [List.getElem?_map, Option.map_eq_some_iff] at hx
    obtain ⟨a, hx, rfl⟩ := hx
    obtain ⟨vs, hv, hl⟩ := hs.tup hm
    obtain ⟨va, hva, hr⟩ := hv.get' hx
    refine wpAny_pyNext_tuple_item hS (isTuple_of hl) (x := va) (by simpa using hva) fun h' hit' hsb => ⟨va, rfl, ?_⟩
    rw [ht]
    refine wpAny_pure ⟨a, ld, .val, hr, hs.off (tk := s.toks) O fun b o hb e => (hsb.2 b fun q => hb (q ▸ .head _)).trans e, hit', O, fun b hb => ?_⟩
    rw [List.mem_singleton.mp hb]
    obtain ⟨o, ho, _⟩ := hit'
    exact ⟨o, ho⟩
  done := fun v ld s hs hm hS O => by
    obtain ⟨vs, hv, hl⟩ := hs.tup hm
    have := hv.length
    exact wpAny_pyNext_tuple_end hh hS (isTuple_of hl) (by simp [this]) fun h' he => ⟨rfl, hs.off (tk := s.toks) O fun b o hb e => he b o (fun q => hb (q ▸ .head _)) e⟩

theorem raw_get {s : Shared} {a : Addr} {o : Obj} (H : St C vals led s) (hm : (a, AO.raw o) ∈ led) : s.heap.get? a = some o := by
  obtain ⟨o', ho, rfl⟩ := H.get hm
  exact ho
theorem pred_get {s : Shared} {a : Addr} {P : Obj → Prop} (H : St C vals led s) (hm : (a, AO.pred P) ∈ led) : ∃ o, s.heap.get? a = some o ∧ P o := H.get hm
/-- a fresh object at the head is off the rest -/
theorem IterW_new {target : Expr} {a : AV} {P : Obj → Prop} {xs : List IT} {src : Ledger → Prop} {S : Addr → Obj → Nat → Heap → Prop} {K : AV → Vals → Ledger → Prop}
    (hit : ∀ va s Q, VR a va → St C vals led s → (∀ o tk, P o → o.isFreed = false → Q (.ref s.heap.objs.size) { s with heap := s.heap.push o, toks := tk }) → wpAny (Md C.w) C.A (pyIter va) Q (fun _ _ => False) s)
    (hI : ∀ it o, P o → ∀ C' : Cx, C'.w = C.w → C'.A = C.A → IterSpec C' target [it] xs src (S it o) (.ref it)) (h0 : ∀ it h o, P o → h.get? it = some o → S it o 0 h)
    (h : ∀ it l', IterAt C target it [it] xs src l' led → K (.ref it) vals l') : IterW C a vals led K := by
  intro va hva
  refine ⟨fun s hs => hit va s _ hva hs fun o tk ho hf => ?_⟩
  have H := hs.push (tk := tk) (ao := .raw o) hf rfl
  refine ⟨.ref s.heap.objs.size, vals, _, rfl, H, h _ _ ⟨List.sublist_cons_self _ _, ⟨S s.heap.objs.size o, hI _ o ho, fun vals' s' H' => h0 _ _ o ho (raw_get H' (.head _))⟩, fun b hb => ?_⟩⟩
  rw [List.mem_singleton.mp hb]
  exact ⟨.raw o, .head _, (hs.fresh_not (Heap.get?_none_of_le (Nat.le_refl _))).2.1⟩
theorem IterW_list {target : Expr} {l : Addr} {xs : List AV} {K : AV → Vals → Ledger → Prop} (ht : ∀ it v, letOwnedTupleGo target it v = pure ()) (ok : COk C k) (hm : (l, AO.list xs) ∈ led) (h : ∀ it l', IterAt C target it [it] (xs.map .val) (fun ld => (l, AO.list xs) ∈ ld) l' led → K (.ref it) vals l') : IterW C (.ref l) vals led K :=
  IterW_new (P := fun o => o = { cls := .type "list_iterator", data := .fields #[.ref l, .int 0 0] }) (S := fun it _ i h => h.IsListIter it l i) (fun va s Q hva hs hQ => by
    cases hva
    obtain ⟨vs, hv, hl⟩ := hs.list hm
    exact wpAny_pyIter_list hl.isList (hQ _ s.toks rfl rfl)) (fun it _ _ C' _ hA => IterSpec.list (ht _) (by rw [hA]; exact ok.hand)) (fun it h o ho e => ⟨_, e, by rw [ho], by rw [ho]; rfl⟩) h
theorem IterW_tup {target : Expr} {l : Addr} {xs : List AV} {K : AV → Vals → Ledger → Prop} (ht : ∀ it v, letOwnedTupleGo target it v = pure ()) (ok : COk C k) (hm : (l, AO.tup xs) ∈ led) (h : ∀ it l', IterAt C target it [it] (xs.map .val) (fun ld => (l, AO.tup xs) ∈ ld) l' led → K (.ref it) vals l') : IterW C (.ref l) vals led K :=
  IterW_new (P := fun o => o = { cls := .type "tuple_iterator", data := .fields #[.ref l, .int 0 0] }) (S := fun it _ i h => h.IsTupleIter it l i) (fun va s Q hva hs hQ => by
    cases hva
    obtain ⟨vs, hv, hl⟩ := hs.tup hm
    exact wpAny_pyIter_tuple (isTuple_of hl) (hQ _ s.toks rfl rfl)) (fun it _ _ C' _ hA => IterSpec.tup (ht _) (by rw [hA]; exact ok.hand)) (fun it h o ho e => ⟨_, e, by rw [ho], by rw [ho]; rfl⟩) h
/-- the signs of a text -/
noncomputable def signs (x : Str) : List AV := x.cps.toList.map fun c => .str ⟨#[c]⟩
theorem IterW_str {target : Expr} {x : Str} {K : AV → Vals → Ledger → Prop} (ht : ∀ it v, letOwnedTupleGo target it v = pure ()) (ok : COk C k) (ha : x.cps.all (· < 128) = true) (h : ∀ it l', IterAt C target it [it] ((signs x).map .val) (fun ld => True) l' led → K (.ref it) vals l') : IterW C (.str x) vals led K :=
  IterW_new (P := fun o => ∃ t, o = { cls := .type "str_ascii_iterator", data := .fields #[.str x t, .int 0 0] }) (S := fun it o i h => ∃ t, h.IsStrIter it "str_ascii_iterator" x t i) (fun va s Q hva hs hQ => by
    obtain ⟨t, rfl⟩ := hva
    exact wpAny_pyIter_ascii ha (hQ _ s.toks ⟨_, rfl⟩ rfl)) (fun it o ho C' _ hA => by
      have hh : C'.A.handled = none := by rw [hA]; exact ok.hand
      exact { keepS := fun i h h' ⟨t, hS⟩ hk => ⟨t, (Walks.strAscii (prog := Pr) (w := C'.w) hh it x t).frame i h h' hS hk⟩
              self := fun Q s ⟨t, hS⟩ hQ => wpAny_pyIter_striter_ascii hS hQ
              item := fun i y v l s hx hs _ ⟨t, hS⟩ O => by
                have := (IterSpec.ofWalks (C := C') (ht _) (Walks.strAscii (prog := Pr) (w := C'.w) hh it x t) (xs := signs x) (by simp [signs]) (fun i a v hx ⟨c, u, hc, hv⟩ => by
                  simp only [signs, List.getElem?_map, Option.map_eq_some_iff] at hx
                  obtain ⟨c', hc', rfl⟩ := hx
                  rw [Array.getElem?_toList, hc] at hc'; cases hc'
                  exact ⟨u, hv⟩) (fun i h ⟨o, ho, _⟩ => ⟨o, ho⟩)).item i y v l s hx hs trivial hS O
                exact wpAny_mono this (fun r s₁ ⟨va, hr, h1⟩ => ⟨va, hr, wpAny_mono h1 (fun _ s' ⟨a, l', q1, q2, q3, q4, q5⟩ => ⟨a, l', q1, q2, q3, ⟨t, q4⟩, q5⟩) fun _ _ x => x⟩) fun _ _ x => x
              done := fun v l s hs _ ⟨t, hS⟩ O => (Walks.strAscii (prog := Pr) (w := C'.w) hh it x t).done s _ _ (by simpa [signs] using hS) fun h' tk hk => ⟨rfl, hs.off O hk⟩ }) (fun it h o ⟨t, ho⟩ e => ⟨t, _, e, by rw [ho], by rw [ho]; rfl⟩) h
end
end Mine

-- part M9
namespace Mine
open PySem PySem.Calls PySem.W PyProof.Rows

noncomputable def RangeO (a b : Int) (o : Obj) : Prop := ∃ t u v, o = { cls := .type "range", data := .fields #[.int a t, .int b u, .int 1 v] }
noncomputable def RIterO (x left step : Int) (o : Obj) : Prop := o = { cls := .type "range_iterator", data := .fields #[rawInt x, rawInt left, rawInt step] }
/-- the numbers from a on -/
noncomputable def nums (a c : Int) (n : Nat) : List AV := (List.range n).map fun i : Nat => .int (a + (i : Int) * c)

namespace RR
theorem sub_ri_reversed : isSubtype (.type "range_iterator") (.type "reversed") = pure false := by rw [isSubtype_type]; kernel_rfl
section
variable {prog : Program} {w : World} {A : Around} {E : Value → Shared → Prop} {s : Shared}
theorem call_range_reversed {r : Addr} {a b : Int} {t u v : Tok} {Q : Value → Shared → Prop} (hr : IsRange s.heap r a b 1 t u v) (ha : -(2 ^ 62) ≤ a) (ha' : a < 2 ^ 62) (hb : -(2 ^ 62) ≤ b) (hb' : b < 2 ^ 62)
    (h : Q (.ref s.heap.objs.size) { s with heap := s.heap.push { cls := .type "range_iterator", data := .fields #[rawInt (a + (Builtin.Range.rangeSize a b 1 - 1) * 1), rawInt (Builtin.Range.rangeSize a b 1), rawInt (-1)] } }) :
    wpAny (model prog w) A (call (.builtin "range.__reversed__") [.ref r]) Q E s := by
  have hT : s.TypeIs (.ref r) "range" := ⟨_, hr, rfl⟩
  refine wpAny_call_entry F.slot_range_reversed hT F.entry_range_reversed ?_ (F.args_range_reversed_1 _)
  have hsm : (Builtin.Range.rangeFitsLong a && Builtin.Range.rangeFitsLong b && Builtin.Range.rangeFitsLong 1 && Builtin.Range.rangeFitsLong (-1) && Builtin.Range.rangeFitsLong (a - 1) && Builtin.Range.rangeFitsLong (Builtin.Range.rangeSize a b 1)) = true := by
    rw [rangeSize_one]
    simp only [Builtin.Range.rangeFitsLong, Bool.and_eq_true, decide_eq_true_eq]
    split <;> (first | lia | omega)
  unfold Builtin.«range.__reversed__»
  refine wpAny_bind (wpAny_of_eq (a := Value.ref r) rfl ?_)
  obtain ⟨hp, g, d, tk, os⟩ := s
  wp_walk using wpAny_loadPart' hr
  rw [hsm]
  simp only [Bool.not_true, Bool.false_eq_true, if_false, if_true]
  first
  | exact wpAny_bind (wpAny_newObj_type (wpAny_pure ⟨_, rfl, h⟩))
  | (wp_walk; exact ⟨_, rfl, h⟩)
  | (show wpAny _ _ (newFields _ _ >>= _) _ _ _; exact wpAny_bind (wpAny_newObj_type (wpAny_pure ⟨_, rfl, h⟩)))

theorem code_reversed_new {r : Addr} {a b : Int} {t u v : Tok} {Q₁ : Value → Shared → Prop} (hr : IsRange s.heap r a b 1 t u v) (ha : -(2 ^ 62) ≤ a) (ha' : a < 2 ^ 62) (hb : -(2 ^ 62) ≤ b) (hb' : b < 2 ^ 62)
    (h : Q₁ (.ref s.heap.objs.size) { s with heap := s.heap.push { cls := .type "range_iterator", data := .fields #[rawInt (a + (Builtin.Range.rangeSize a b 1 - 1) * 1), rawInt (Builtin.Range.rangeSize a b 1), rawInt (-1)] } }) :
    codeAny (model prog w) A (.call (.builtin "reversed.__new__") ⟨[.type "reversed", .ref r], []⟩) (wants Q₁ E) s := by
  have hT : s.TypeIs (.ref r) "range" := ⟨_, hr, rfl⟩
  refine codeAny_of_tree ?_
  show wpAny _ A.in1 (do checkBuiltinCall "reversed.__new__" ⟨[.type "reversed", .ref r], []⟩; again (.builtin "reversed.__new__" ⟨[.type "reversed", .ref r], []⟩)) _ _ s
  refine wpAny_bind (wpAny_of_eq (F.newCall_reversed_1 _) (wpAny_pure ⟨plainId_quiet F.plain_reversed_new _, codeAny_builtin F.entry_reversed_new ?_⟩))
  rw [Around.under_plainId F.plain_reversed_new _]
  unfold Builtin.«reversed.__new__»
  refine wpAny_bind (wpAny_of_eq (newClass_reversed _) ?_)
  try dsimp only
  refine wpAny_bind (wpAny_of_eq (a := ()) (by first | rfl | kernel_rfl) ?_)
  refine wpAny_bind (wpAny_of_eq (a := ()) (by first | rfl | kernel_rfl) ?_)
  try dsimp only
  refine wpAny_bind (wpAny_specialOf hT F.slot_range_reversed.lookup ?_)
  try dsimp only
  refine wpAny_bind (wpAny_of_eq (F.slot_range_reversed.bind _) ?_)
  try dsimp only
  first
  | rw [if_neg (show ¬ ((Value.builtin "range.__reversed__" == Value.none) = true) from Bool.false_ne_true)]
  | (show wpAny _ _ (if (Value.builtin "range.__reversed__" == Value.none) = true then _ else _) _ _ _; rw [if_neg (show ¬ ((Value.builtin "range.__reversed__" == Value.none) = true) from Bool.false_ne_true)])
  refine wpAny_bind (wpAny_rule ?_)
  refine wpAny_bind (m := runValue (.call (.builtin "range.__reversed__") ⟨[.ref r], []⟩)) (show wpAny _ _ (call (.builtin "range.__reversed__") [.ref r]) _ _ _ from call_range_reversed hr ha ha' hb hb' ?_)
  first
  | exact wpAny_pure h
  | exact wpAny_bind (wpAny_pure (wpAny_pure h))

theorem call_reversed_range {r : Addr} {a b : Int} {t u v : Tok} {Q : Value → Shared → Prop} (hr : IsRange s.heap r a b 1 t u v) (ha : -(2 ^ 62) ≤ a) (ha' : a < 2 ^ 62) (hb : -(2 ^ 62) ≤ b) (hb' : b < 2 ^ 62)
    (h : Q (.ref s.heap.objs.size) { s with heap := s.heap.push { cls := .type "range_iterator", data := .fields #[rawInt (a + (Builtin.Range.rangeSize a b 1 - 1) * 1), rawInt (Builtin.Range.rangeSize a b 1), rawInt (-1)] } }) :
    wpAny (model prog w) A (call (.type "reversed") [.ref r]) Q E s := by
  refine callType_other (U := "range_iterator") (Q₁ := fun obj s₁ => obj = .ref s.heap.objs.size ∧ s₁ = { s with heap := s.heap.push _ }) (by decide +kernel) F.create_reversed ⟨_, _, F.mro_reversed⟩ F.made_reversed sub_ri_reversed (F.typeCall_reversed_1 _) (code_reversed_new hr ha ha' hb hb' ⟨rfl, rfl⟩) ?_
  rintro obj s₁ ⟨rfl, rfl⟩
  exact ⟨⟨_, Heap.get?_push_size _ rfl, rfl⟩, h⟩
end
end RR

section
variable {C : Cx} {vals : Vals} {led : Ledger} {k : Nat}
theorem CallW_range1 {n : Int} {K : AV → Vals → Ledger → Prop} (h : ∀ r, K (.ref r) vals ((r, .pred (RangeO 0 n)) :: led)) : CallW C (.typ "range") [.int n] vals led K := by
  rintro _ _ rfl hvs
  obtain ⟨_, rfl, t, rfl⟩ := hvs.one
  exact ⟨fun s hs => call_range_1 ⟨.ref s.heap.objs.size, vals, _, rfl, hs.push (ao := .pred (RangeO 0 n)) rfl ⟨_, _, _, rfl⟩, h _⟩⟩
theorem CallW_range2 {a b : Int} {K : AV → Vals → Ledger → Prop} (h : ∀ r, K (.ref r) vals ((r, .pred (RangeO a b)) :: led)) : CallW C (.typ "range") [.int a, .int b] vals led K := by
  rintro _ _ rfl hvs
  obtain ⟨_, _, rfl, ⟨t, rfl⟩, u, rfl⟩ := hvs.two
  exact ⟨fun s hs => call_range_2 ⟨.ref s.heap.objs.size, vals, _, rfl, hs.push (ao := .pred (RangeO a b)) rfl ⟨_, _, _, rfl⟩, h _⟩⟩
theorem CallW_reversed {r : Addr} {a b : Int} {K : AV → Vals → Ledger → Prop} (hm : (r, AO.pred (RangeO a b)) ∈ led) (ha : -1000000 ≤ a) (ha' : a ≤ 1000000) (hb : -1000000 ≤ b) (hb' : b ≤ 1000000)
    (h : ∀ it, K (.ref it) vals ((it, .pred (RIterO (a + ((b - a).toNat - 1)) (b - a).toNat (-1))) :: led)) : CallW C (.typ "reversed") [.ref r] vals led K := by
  rintro _ _ rfl hvs
  obtain ⟨_, rfl, rfl⟩ := hvs.one
  refine ⟨fun s hs => ?_⟩
  obtain ⟨o, ho, t, u, v, rfl⟩ := pred_get hs hm
  refine RR.call_reversed_range (t := t) (u := u) (v := v) ho (by (first | lia | omega)) (by (first | lia | omega)) (by (first | lia | omega)) (by (first | lia | omega)) ?_
  rw [rangeSize_nat, Int.mul_one]
  exact ⟨.ref s.heap.objs.size, vals, _, rfl, hs.push (tk := s.toks) (ao := .pred (RIterO (a + ((b - a).toNat - 1)) (b - a).toNat (-1))) rfl rfl, h _⟩

theorem nums_get {a c : Int} {n i : Nat} {x : AV} (h : (nums a c n)[i]? = some x) : x = .int (a + i * c) := by
  simp only [nums, List.getElem?_map, Option.map_eq_some_iff] at h
  obtain ⟨j, hj, rfl⟩ := h
  rw [List.getElem?_eq_some_iff] at hj
  obtain ⟨hlt, hj⟩ := hj
  simp at hj
  rw [← hj]
theorem IterW_range {target : Expr} {r : Addr} {a b : Int} {n : Nat} {K : AV → Vals → Ledger → Prop} (ht : ∀ it v, letOwnedTupleGo target it v = pure ()) (ok : COk C k) (hm : (r, AO.pred (RangeO a b)) ∈ led) (hn : (b - a).toNat = n) (ha : -1000000 ≤ a) (ha' : a ≤ 1000000) (hb : -1000000 ≤ b) (hb' : b ≤ 1000000)
    (h : ∀ it l', IterAt C target it [it] ((nums a 1 n).map .val) (fun _ => True) l' led → K (.ref it) vals l') : IterW C (.ref r) vals led K :=
  IterW_new (P := RIterO a n 1) (S := fun it _ i h => IsRangeIter h it (a + (i : Nat) * 1) ((n : Int) - (i : Nat)) 1) (fun va s Q hva hs hQ => by
    cases hva
    obtain ⟨o, ho, t, u, v, rfl⟩ := pred_get hs hm
    refine wpAny_pyIter_range (t := t) (u := u) (v := v) ho (small_one (by (first | lia | omega)) (by (first | lia | omega)) (by (first | lia | omega)) (by (first | lia | omega))) ?_
    rw [rangeSize_nat, hn]
    exact hQ _ s.toks rfl rfl)
    (fun it o _ C' _ hA => IterSpec.ofWalks (ht _) (Walks.range (by rw [hA]; exact ok.hand) it a 1 n) (by simp [nums]) (fun i a v hx hv => by rw [nums_get hx]; exact hv) (fun i h hS => ⟨_, hS⟩))
    (fun it h o ho e => by cases ho; simpa [IsRangeIter] using e) h
/-- an iterator that is its own -/
theorem IterW_riter {target : Expr} {it : Addr} {a c : Int} {n : Nat} {l0 : Ledger} {K : AV → Vals → Ledger → Prop} (ht : ∀ it v, letOwnedTupleGo target it v = pure ()) (ok : COk C k) (hl : led = (it, .pred (RIterO a n c)) :: l0)
    (h : IterAt C target it [it] ((nums a c n).map .val) (fun _ => True) led l0 → K (.ref it) vals led) : IterW C (.ref it) vals led K := by
  subst hl
  rintro _ rfl
  refine ⟨fun s hs => ?_⟩
  obtain ⟨o, ho, rfl⟩ := pred_get hs (.head _)
  refine wpAny_pyIter_rangeiter (x := a) (left := n) (step := c) ho ⟨.ref it, vals, _, rfl, hs, h ⟨List.sublist_cons_self _ _, ⟨fun i h => IsRangeIter h it (a + (i : Nat) * c) ((n : Int) - (i : Nat)) c,
    fun C' _ hA => IterSpec.ofWalks (ht _) (Walks.range (by rw [hA]; exact ok.hand) it a c n) (by simp [nums]) (fun i a v hx hv => by rw [nums_get hx]; exact hv) (fun i h hS => ⟨_, hS⟩), fun v' s' H' => ?_⟩, fun b hb => ?_⟩⟩
  · obtain ⟨o, ho, rfl⟩ := pred_get H' (.head _)
    simpa [IsRangeIter] using ho
  · rw [List.mem_singleton.mp hb]
    refine ⟨_, .head _, fun p hp e => ?_⟩
    have := hs.nd
    simp only [List.map_cons, List.nodup_cons] at this
    exact this.1 (e ▸ List.mem_map_of_mem hp)
end
end Mine

-- part M10
namespace Mine
open PySem PySem.Calls PySem.W PyProof.Rows

noncomputable def dget (es : List (Str × AV)) (x : Str) : Option AV := (es.find? fun e => e.1 = x).map (·.2)
noncomputable def dput (es : List (Str × AV)) (x : Str) (a : AV) : List (Str × AV) := if es.any (fun e => e.1 = x) then es.map (fun e => if e.1 = x then (e.1, a) else e) else es ++ [(x, a)]
noncomputable def ddel (es : List (Str × AV)) (x : Str) : List (Str × AV) := es.filter fun e => !decide (e.1 = x)

theorem KVR.keys {es kvs} (h : KVR es kvs) : kvs.map (·.1) = es.map (·.1) := by
  induction h with
  | nil => rfl
  | cons _ _ ih => simp only [List.map_cons, ih]
theorem KVR.length {es kvs} (h : KVR es kvs) : kvs.length = es.length := by
  have := congrArg List.length h.keys
  simpa using this
theorem KVR.get {es kvs} (h : KVR es kvs) (x) : OVR (dget es x) (valueAt kvs x) := by
  induction h with
  | nil => exact .none
  | @cons y a v _ _ hr _ ih =>
    unfold dget valueAt
    rw [List.find?_cons, List.find?_cons]
    by_cases e : y = x
    · simp only [e, decide_true]; exact .some hr
    · simp only [e, decide_false]; exact ih
theorem KVR.any {es kvs} (h : KVR es kvs) (x) : (kvs.any fun kv => decide (kv.1 = x)) = es.any fun e => decide (e.1 = x) := by
  induction h with
  | nil => rfl
  | cons _ _ ih => simp only [List.any_cons, ih]
theorem KVR.mapPut {es kvs} (h : KVR es kvs) {x a v} (ha : VR a v) : KVR (es.map fun e => if e.1 = x then (e.1, a) else e) (kvs.map fun kv => if kv.1 = x then (kv.1, v) else kv) := by
  induction h with
  | nil => exact .nil
  | @cons y _ _ _ _ hr _ ih =>
    simp only [List.map_cons]
    by_cases e : y = x
    · simp only [e, if_true]; exact .cons ha ih
    · simp only [e, if_false]; exact .cons hr ih
theorem KVR.append {es kvs es' kvs'} (h : KVR es kvs) (h' : KVR es' kvs') : KVR (es ++ es') (kvs ++ kvs') := by
  induction h with
  | nil => exact h'
  | cons hr _ ih => exact .cons hr ih
theorem KVR.put {es kvs} (h : KVR es kvs) {x a v} (ha : VR a v) : KVR (dput es x a) (stored kvs x v) := by
  unfold dput stored
  rw [h.any x]
  split
  · exact h.mapPut ha
  · exact h.append (.cons ha .nil)
theorem KVR.del {es kvs} (h : KVR es kvs) (x) : KVR (ddel es x) (without kvs x) := by
  induction h with
  | nil => exact .nil
  | @cons y _ _ _ _ hr _ ih =>
    unfold ddel without at ih ⊢
    rw [List.filter_cons, List.filter_cons]
    by_cases e : y = x
    · simpa [e] using ih
    · simpa [e] using KVR.cons hr ih
theorem KVR.nth {es kvs} {i : Nat} {x a} (h : KVR es kvs) (e : es[i]? = some (x, a)) : ∃ v, kvs[i]? = some (x, v) ∧ VR a v := by
  induction h generalizing i with
  | nil => cases e
  | cons hr _ ih =>
    cases i with
    | zero => cases e; exact ⟨_, rfl, hr⟩
    | succ i => exact ih (i := i) e

section
variable {C : Cx} {vals : Vals} {led : Ledger} {k : Nat}
theorem St.dict {s : Shared} (H : St C vals led s) {d : Addr} {es : List (Str × AV)} {ep : Option Nat} (hm : (d, AO.dict es ep) ∈ led) : ∃ kvs, KVR es kvs ∧ s.heap.DictOf (strKind Pr C.w) d kvs := by
  obtain ⟨o, ho, kvs, h1, h2, _⟩ := H.get hm
  exact ⟨kvs, h1, Heap.dictOf_iff.mpr ⟨o, ho, h2⟩⟩
theorem St.dictAt {s : Shared} (H : St C vals led s) {d : Addr} {es : List (Str × AV)} {ep : Nat} (hm : (d, AO.dict es (some ep)) ∈ led) : ∃ kvs, KVR es kvs ∧ s.heap.DictAt (strKind Pr C.w) d kvs ep := by
  obtain ⟨o, ho, kvs, h1, ⟨e1, ep1, q1, q2, q3⟩, h3⟩ := H.get hm
  obtain ⟨e2, q⟩ := h3 ep rfl
  rw [q2] at q; cases q
  exact ⟨kvs, h1, o, e1, ho, q1, q2, q3⟩
theorem St.updDict {s : Shared} (H : St C vals led s) {led' : Ledger} {h' : Heap} {tk : Nat} {d : Addr} {es : List (Str × AV)} {kvs : List (Str × Value)} (U : Upd d (.dict es none) led led') (hv : KVR es kvs) (hd : h'.DictOf (strKind Pr C.w) d kvs) (hs : Heap.SameBut d s.heap h') : St C vals led' { s with heap := h', toks := tk } := by
  obtain ⟨o, ho, hdo⟩ := Heap.dictOf_iff.mp hd
  exact H.upd (o := o) U (fun b o hb e => (hs.2 b hb).trans e) ho ⟨kvs, hv, hdo, fun n e => by cases e⟩

theorem SubW_dict {value slice : Expr} {d : Addr} {es : List (Str × AV)} {ep : Option Nat} {x : Str} {a : AV} {K : AV → Vals → Ledger → Prop} (hm : (d, AO.dict es ep) ∈ led) (hx : dget es x = some a)
    (hsl : ∀ o v, subscripted slice false o v = operate [o, v] (getItem o v)) (h : K a vals led) : SubW C value slice (.ref d) (.str x) vals led K := by
  rintro _ _ rfl ⟨u, rfl⟩
  refine ⟨fun s hs => ?_⟩
  obtain ⟨kvs, hv, hd⟩ := hs.dict hm
  have hg := hv.get x
  rw [hx] at hg
  cases hg' : valueAt kvs x with
  | none => rw [hg'] at hg; cases hg
  | some v =>
    rw [hg'] at hg
    cases hg with
    | some hr => exact tail_any hd.typeIs slot_dict_getitem.lookup (wpAny_getItem_of (strKind_is _ _ _ _) hd.mapOf hg' ⟨a, vals, led, hr, hs.tok _, h⟩) (hsl _ _)
theorem SetW_dict {d : Addr} {es : List (Str × AV)} {ep : Option Nat} {x : Str} {a : AV} {led' : Ledger} {K : Vals → Ledger → Prop} (hm : (d, AO.dict es ep) ∈ led) (hlen : es.length ≤ 1000)
    (U : Upd d (.dict (dput es x a) none) led led') (h : K vals led') : SetW C (.ref d) (.str x) a vals led K := by
  rintro _ _ va rfl ⟨u, rfl⟩ hva
  refine ⟨fun s hs => ?_⟩
  obtain ⟨kvs, hv, hd⟩ := hs.dict hm
  exact wpAny_setItem_pairs (strKind_is _ _ _ _) hd (fun h' hd' hs' => ⟨(), vals, led', trivial, hs.updDict U (hv.put hva) hd' hs', h⟩) (by rw [sizeLine_eq, hv.length]; (first | lia | omega))
theorem CmpW_inDict {d : Addr} {es : List (Str × AV)} {ep : Option Nat} {x : Str} {K : AV → Vals → Ledger → Prop} (ok : COk C k) (hm : (d, AO.dict es ep) ∈ led) (h : K (.bool (dget es x).isSome) vals led) : CmpW C .In (.str x) (.ref d) vals led K := by
  rintro _ _ ⟨u, rfl⟩ rfl
  refine ⟨fun s hs => ?_⟩
  obtain ⟨kvs, hv, hd⟩ := hs.dict hm
  refine wpAny_in_of (strKind_is _ _ _ _) (ok.ne_sys hs hm) hd.mapOf ⟨_, vals, led, ?_, hs.tok _, h⟩
  have hg := hv.get x
  generalize dget es x = p, valueAt kvs x = q at hg
  cases hg with
  | none => exact rfl
  | some _ => exact rfl
theorem CallW_dictGet {d : Addr} {es : List (Str × AV)} {ep : Option Nat} {x : Str} {K : AV → Vals → Ledger → Prop} (ok : COk C k) (hm : (d, AO.dict es ep) ∈ led) (h : K ((dget es x).getD .none) vals led) : CallW C (.blt "dict.get") [.ref d, .str x] vals led K := by
  rintro _ _ rfl hvs
  obtain ⟨_, _, rfl, rfl, u, rfl⟩ := hvs.two
  refine ⟨fun s hs => ?_⟩
  obtain ⟨kvs, hv, hd⟩ := hs.dict hm
  have hT : s.TypeIs (.ref d) "dict" := hd.typeIs
  refine call_meetsIn F.slot_dict_get hT F.entry_dict_get (F.args_dict_get_2 _ _) (meets_dict_get (strKind Pr C.w) d (strKind_is _ _ x u) (ok.ne_sys hs hm)) ⟨_, hd.mapOf, (dget es x).getD .none, vals, led, ?_, hs.tok _, h⟩
  have hg := hv.get x
  generalize dget es x = p, valueAt kvs x = q at hg
  cases hg with
  | none => exact rfl
  | some hr => exact hr
theorem EvW_Dict0 {pos : Pos} {K : AV → Vals → Ledger → Prop} (h : ∀ d, K (.ref d) vals ((d, .dict [] none) :: led)) : EvW C (.Dict [] [] pos) vals led K :=
  ⟨fun s hs => wpAny_Dict_empty ⟨.ref s.heap.objs.size, vals, _, rfl, hs.push (tk := s.toks) (ao := .dict [] none) rfl ⟨[], .nil, ⟨#[], 0, ⟨rfl, rfl, rfl⟩, rfl, (fun e he => by simp at he), .nil, List.nodup_nil⟩, fun n e => by cases e⟩, h _⟩⟩
theorem TyW_dict {d : Addr} {es : List (Str × AV)} {ep : Option Nat} (hm : (d, AO.dict es ep) ∈ led) : TyW C (.ref d) "dict" vals led := by
  rintro _ rfl s hs
  obtain ⟨kvs, hv, hd⟩ := hs.dict hm
  exact ⟨hd.typeIs, fun x e => by cases e; exact hd.mapOf.noDict _ rfl⟩
end
end Mine

-- part M11
namespace Mine
open PySem PySem.Calls PySem.W PyProof.Rows

section
variable {C : Cx} {vals : Vals} {led : Ledger} {k : Nat}
/-- del o[i] -/
theorem ExW_DelSub {o i : Expr} {p pos : Pos} {d : Addr} {K : AF → Vals → Ledger → Prop}
    (h : EvW C o vals led fun a v l => EvW C i v l fun b v l => Ex5 fun d es ep x led' => An7 (a = .ref d) (b = .str x) ((d, AO.dict es ep) ∈ l) (es.length ≤ 1000) ((dget es x).isSome = true) (Upd d (.dict (ddel es x) none) l led') (K .next v led')) : ExW C (.Delete [.Subscript o i p] pos) vals led K := by
  refine ⟨fun s hs => wpAny_Delete (wpAny_deleteEach_cons (delete_Subscript (h.use hs (fun u s₁ a v l hr hs₁ hk => hk.use hs₁ (fun u₂ s₂ b v₂ l₂ hr₂ hs₂ hk₂ => ?_)))))⟩
  obtain ⟨d, es, ep, x, led', rfl, rfl, hm, hlen, hx, U, hK⟩ := hk₂
  cases hr
  obtain ⟨t, rfl⟩ := hr₂
  obtain ⟨kvs, hv, hd⟩ := hs₂.dict hm
  refine wpAny_delItem_slot hd.typeIs (by decide) PySem.F.slot_dict_delitem (call_meetsIn PySem.F.slot_dict_delitem hd.typeIs PySem.F.entry_dict_delitem (PySem.F.args_dict_delitem_2 _ _) (meets_dict_delitem_pairs (strKind Pr C.w) d (strKind_is _ _ x t))
    ⟨kvs, hd, by rw [hv.length, sizeLine_eq]; (first | lia | omega), ?_, fun h' hmm hsb => wpAny_deleteEach_nil ⟨.next, v₂, led', rfl, hs₂.updDict U (hv.del x) hmm hsb, hK⟩⟩)
  have hg := hv.get x
  generalize dget es x = p, valueAt kvs x = q at hg hx
  cases hg with
  | none => cases hx
  | some _ => rfl

/-- the epoch of a dict may be named -/
theorem St.re {s : Shared} (H : St C vals led s) {led' : Ledger} {d : Addr} {n : AO} (U : Upd d n led led') (hn : ∀ o, s.heap.get? d = some o → OR C.w n o) : St C vals led' s := by
  obtain ⟨ao, hm⟩ := U.had
  obtain ⟨o, ho, _⟩ := H.get hm
  have := H.upd (tk := s.toks) (h' := s.heap) U (fun _ _ _ e => e) ho (hn o ho)
  exact this
theorem TW.epoch {α β : Type} {rel : β → α → Prop} {t : Sem α} {d : Addr} {es : List (Str × AV)} {ep : Option Nat} {K : β → Vals → Ledger → Prop} (hm : (d, AO.dict es ep) ∈ led)
    (h : ∀ n, ∃ led', Upd d (.dict es (some n)) led led' ∧ TW C rel t vals led' K) : TW C rel t vals led K := by
  refine ⟨fun s hs => ?_⟩
  obtain ⟨o, ho, kvs, h1, h2, h3⟩ := hs.get hm
  obtain ⟨e1, n, q1, q2, q3⟩ := id h2
  obtain ⟨led', U, hT⟩ := h n
  exact hT.run s (hs.re U fun o' ho' => by rw [ho] at ho'; cases ho'; exact ⟨kvs, h1, h2, fun m e => by cases e; exact ⟨e1, q2⟩⟩)
theorem TW.unepoch {α β : Type} {rel : β → α → Prop} {t : Sem α} {d : Addr} {es : List (Str × AV)} {ep : Option Nat} {led' : Ledger} {K : β → Vals → Ledger → Prop} (hm : (d, AO.dict es ep) ∈ led)
    (U : Upd d (.dict es none) led led') (h : TW C rel t vals led' K) : TW C rel t vals led K := by
  refine ⟨fun s hs => ?_⟩
  obtain ⟨o, ho, kvs, h1, h2, h3⟩ := hs.get hm
  exact h.run s (hs.re U fun o' ho' => by rw [ho] at ho'; cases ho'; exact ⟨kvs, h1, h2, fun m e => by cases e⟩)

theorem IterSpec.dict {target : Expr} {it d : Addr} {es : List (Str × AV)} {ep : Nat} (ht : ∀ v, letOwnedTupleGo target (.ref it) v = pure ()) (hh : C.A.handled = none) :
    IterSpec C target [it] (es.map fun e => .val (.str e.1)) (fun ld => (d, AO.dict es (some ep)) ∈ ld) (fun i h => h.IsKeyIter it d i es.length ep) (.ref it) where
  keepS := fun i h h' hS hk => hS.at fun o e => hk it (.head _) o e
  self := fun Q s hS hQ => wpAny_pyIter_keyiter hS hQ
  item := fun i x v ld s hx hs hm hS O => by
    rw [List.getElem?_map, Option.map_eq_some_iff] at hx
    obtain ⟨⟨y, a⟩, hx, rfl⟩ := hx
    obtain ⟨kvs, hv, hd⟩ := hs.dictAt hm
    obtain ⟨va, hva, hr⟩ := hv.nth hx
    refine wpAny_pyNext_dict_item (by rw [hv.length]; exact hS) hd hva fun key h' hkey hit' hsb => ⟨key, rfl, ?_⟩
    rw [ht]
    obtain ⟨t, rfl⟩ := Value.isStrOf_shape hkey
    refine wpAny_pure ⟨_, ld, .val, VR.str, hs.off (tk := s.toks) O fun b o hb e => (hsb.2 b fun q => hb (q ▸ .head _)).trans e, by rw [← hv.length]; exact hit', O, fun b hb => ?_⟩
    rw [List.mem_singleton.mp hb]
    obtain ⟨o, ho, _⟩ := hit'
    exact ⟨o, ho⟩
  done := fun v ld s hs hm hS O => by
    obtain ⟨kvs, hv, hd⟩ := hs.dictAt hm
    exact wpAny_pyNext_dict_end hh (by rw [hv.length]; exact hS) hd (by simp [hv.length]) fun h' he => ⟨rfl, hs.off (tk := s.toks) O fun b o hb e => he b o (fun q => hb (q ▸ .head _)) e⟩
theorem IterW_dict {target : Expr} {d : Addr} {es : List (Str × AV)} {ep : Nat} {K : AV → Vals → Ledger → Prop} (ht : ∀ it v, letOwnedTupleGo target it v = pure ()) (ok : COk C k) (hm : (d, AO.dict es (some ep)) ∈ led)
    (h : ∀ it l', IterAt C target it [it] (es.map fun e => .val (.str e.1)) (fun ld => (d, AO.dict es (some ep)) ∈ ld) l' led → K (.ref it) vals l') : IterW C (.ref d) vals led K :=
  IterW_new (P := fun o => o = { cls := .type "dict_keyiterator", data := .fields #[.ref d, .int 0 0, .int es.length 0, .int ep 0] }) (S := fun it _ i h => h.IsKeyIter it d i es.length ep) (fun va s Q hva hs hQ => by
    cases hva
    obtain ⟨kvs, hv, hd⟩ := hs.dictAt hm
    exact wpAny_pyIter_dict (ok.ne_sys hs hm) hd (by rw [hv.length]; exact hQ _ s.toks rfl rfl)) (fun it _ _ C' _ hA => IterSpec.dict (ht _) (by rw [hA]; exact ok.hand)) (fun it h o ho e => ⟨_, e, by rw [ho], by rw [ho]; rfl⟩) h

noncomputable def ViewO (T : String) (d : Addr) (o : Obj) : Prop := o = { cls := .type T, data := .fields #[.ref d] }
theorem CallW_values {d : Addr} {es : List (Str × AV)} {ep : Option Nat} {K : AV → Vals → Ledger → Prop} (ok : COk C k) (hm : (d, AO.dict es ep) ∈ led) (h : ∀ r, K (.ref r) vals ((r, .pred (ViewO "dict_values" d)) :: led)) : CallW C (.blt "dict.values") [.ref d] vals led K := by
  rintro _ _ rfl hvs
  obtain ⟨_, rfl, rfl⟩ := hvs.one
  refine ⟨fun s hs => ?_⟩
  obtain ⟨kvs, hv, hd⟩ := hs.dict hm
  exact call_meetsIn F.slot_dict_values hd.typeIs F.entry_dict_values (F.args_dict_values_1 _) (meets_dict_values (strKind Pr C.w) d (ok.ne_sys hs hm)) ⟨⟨_, hd⟩, .ref s.heap.objs.size, vals, _, rfl, hs.push (tk := s.toks) (ao := .pred (ViewO "dict_values" d)) rfl rfl, h _⟩
theorem CallW_items {d : Addr} {es : List (Str × AV)} {ep : Option Nat} {K : AV → Vals → Ledger → Prop} (ok : COk C k) (hm : (d, AO.dict es ep) ∈ led) (h : ∀ r, K (.ref r) vals ((r, .pred (ViewO "dict_items" d)) :: led)) : CallW C (.blt "dict.items") [.ref d] vals led K := by
  rintro _ _ rfl hvs
  obtain ⟨_, rfl, rfl⟩ := hvs.one
  refine ⟨fun s hs => ?_⟩
  obtain ⟨kvs, hv, hd⟩ := hs.dict hm
  exact call_meetsIn F.slot_dict_items hd.typeIs F.entry_dict_items (F.args_dict_items_1 _) (meets_dict_items (strKind Pr C.w) d (ok.ne_sys hs hm)) ⟨⟨_, hd⟩, .ref s.heap.objs.size, vals, _, rfl, hs.push (tk := s.toks) (ao := .pred (ViewO "dict_items" d)) rfl rfl, h _⟩
theorem IterSpec.values {target : Expr} {it d : Addr} {es : List (Str × AV)} {ep : Nat} (ht : ∀ v, letOwnedTupleGo target (.ref it) v = pure ()) (hh : C.A.handled = none) :
    IterSpec C target [it] (es.map fun e => .val e.2) (fun ld => (d, AO.dict es (some ep)) ∈ ld) (fun i h => h.IsValIter it d i es.length ep) (.ref it) where
  keepS := fun i h h' hS hk => hS.at fun o e => hk it (.head _) o e
  self := fun Q s hS hQ => wpAny_pyIter_valiter hS hQ
  item := fun i x v ld s hx hs hm hS O => by
    rw [List.getElem?_map, Option.map_eq_some_iff] at hx
    obtain ⟨⟨y, a⟩, hx, rfl⟩ := hx
    obtain ⟨kvs, hv, hd⟩ := hs.dictAt hm
    obtain ⟨va, hva, hr⟩ := hv.nth hx
    refine wpAny_pyNext_values_item (by rw [hv.length]; exact hS) hd hva fun h' hit' hsb => ⟨va, rfl, ?_⟩
    rw [ht]
    refine wpAny_pure ⟨_, ld, .val, hr, hs.off (tk := s.toks) O fun b o hb e => (hsb.2 b fun q => hb (q ▸ .head _)).trans e, by rw [← hv.length]; exact hit', O, fun b hb => ?_⟩
    rw [List.mem_singleton.mp hb]
    obtain ⟨o, ho, _⟩ := hit'
    exact ⟨o, ho⟩
  done := fun v ld s hs hm hS O => by
    obtain ⟨kvs, hv, hd⟩ := hs.dictAt hm
    exact wpAny_pyNext_values_end hh (by rw [hv.length]; exact hS) hd (by simp [hv.length]) fun h' he => ⟨rfl, hs.off (tk := s.toks) O fun b o hb e => he b o (fun q => hb (q ▸ .head _)) e⟩
theorem IterW_values {target : Expr} {r d : Addr} {es : List (Str × AV)} {ep : Nat} {K : AV → Vals → Ledger → Prop} (ht : ∀ it v, letOwnedTupleGo target it v = pure ()) (ok : COk C k) (hm : (d, AO.dict es (some ep)) ∈ led) (hr : (r, AO.pred (ViewO "dict_values" d)) ∈ led)
    (h : ∀ it l', IterAt C target it [it] (es.map fun e => .val e.2) (fun ld => (d, AO.dict es (some ep)) ∈ ld) l' led → K (.ref it) vals l') : IterW C (.ref r) vals led K :=
  IterW_new (P := fun o => o = { cls := .type "dict_valueiterator", data := .fields #[.ref d, .int 0 0, .int es.length 0, .int ep 0] }) (S := fun it _ i h => h.IsValIter it d i es.length ep) (fun va s Q hva hs hQ => by
    cases hva
    obtain ⟨kvs, hv, hd⟩ := hs.dictAt hm
    obtain ⟨o, ho, rfl⟩ := pred_get hs hr
    exact wpAny_pyIter_values ⟨_, ho, rfl, rfl⟩ hd (by rw [hv.length]; exact hQ _ s.toks rfl rfl)) (fun it _ _ C' _ hA => IterSpec.values (ht _) (by rw [hA]; exact ok.hand)) (fun it h o ho e => ⟨_, e, by rw [ho], by rw [ho]; rfl⟩) h
theorem entry_itemiter_iter : entryFor table "dict_itemiterator.__iter__" = some Builtin.«dict_keyiterator.__iter__» :=
  entryFor_alias (id' := "dict_keyiterator.__iter__") (by kernel_rfl) rfl (by decide +kernel) (by kernel_rfl)
theorem pyIter_itemiter {w : World} {A : Around} {E : Value → Shared → Prop} {s : Shared} {it d : Addr} {i n ep : Nat} {ok ov : Value} {Q : Value → Shared → Prop} (hit : IsItemIter s.heap it d i n ep ok ov) (h : Q (.ref it) s) : wpAny (Md w) A (pyIter (.ref it)) Q E s := by
  have hT : s.TypeIs (.ref it) "dict_itemiterator" := ⟨_, hit, rfl⟩
  refine wpAny_pyIter_slot hT F.slot_dict_itemiterator_iter (wpAny_call_entry F.slot_dict_itemiterator_iter hT entry_itemiter_iter ?_ (F.args_dict_itemiterator_iter_1 _))
  show wpAny _ _ (ret (.ref it)) _ _ s
  exact wpAny_pure ⟨_, rfl, "dict_itemiterator", _, hT, F.slot_dict_itemiterator_next.lookup, h⟩
theorem IterSpec.items {elts : List Expr} {x1 : Nat} {pos : Pos} {it d : Addr} {es : List (Str × AV)} {ep : Nat} (hh : C.A.handled = none) :
    IterSpec C (.Tuple elts x1 pos) [it] (es.map fun e => .tup [.str e.1, e.2]) (fun ld => (d, AO.dict es (some ep)) ∈ ld) (fun i h => ∃ ok ov, IsItemIter h it d i es.length ep ok ov) (.ref it) where
  keepS := fun i h h' ⟨ok, ov, hS⟩ hk => ⟨ok, ov, hk it (.head _) _ hS⟩
  self := fun Q s ⟨ok, ov, hS⟩ hQ => pyIter_itemiter hS hQ
  item := fun i x v ld s hx hs hm ⟨ok, ov, hS⟩ O => by
    rw [List.getElem?_map, Option.map_eq_some_iff] at hx
    obtain ⟨⟨y, a⟩, hx, rfl⟩ := hx
    obtain ⟨kvs, hv, hd⟩ := hs.dictAt hm
    obtain ⟨va, hva, hr⟩ := hv.nth hx
    refine wpAny_pyNext_items_item (by rw [hv.length]; exact hS) hd hva fun key h' hkey hit' hT hsz hk => ⟨_, rfl, ?_⟩
    obtain ⟨t, rfl⟩ := Value.isStrOf_shape hkey
    refine wpAny_letOwnedTupleGo_items hit' fun h'' hit'' hsb => ?_
    have hne : s.heap.objs.size ≠ it := Nat.ne_of_gt (Heap.lt_size hS)
    have H1 : St C v ld { s with heap := h', toks := s.toks } := hs.off O fun b o hb e => hk b o (fun q => hb (q ▸ .head _)) e
    have H1' : St C v ((s.heap.objs.size, .tup [.str y, a]) :: ld) { s with heap := h' } := by
      obtain ⟨n1, n2, n3, n4⟩ := hs.fresh_not (a := s.heap.objs.size) (Heap.get?_none_of_le (Nat.le_refl _))
      refine H1.change (tk := s.toks) (h' := h') (fun b o e => H1.keep b o e) (fun a o _ e => ⟨o, e, rfl⟩) (fun p hp => ?_) ?_
      · rcases List.mem_cons.mp hp with rfl | hp
        · exact ⟨⟨_, hT, _, 0, .cons VR.str (.cons hr .nil), rfl⟩, n1, n3, fun x hx => Ne.symm (n4 x hx)⟩
        · obtain ⟨q1, q2, q3⟩ := H1.ledg p hp
          exact ⟨q1, q2, q3, fun a ha => (H1.frameB a ha).2.1 p hp⟩
      · simp only [List.map_cons, List.nodup_cons]
        refine ⟨fun hm => ?_, H1.nd⟩
        obtain ⟨p, hp, e⟩ := List.mem_map.mp hm
        exact n2 p hp e
    have O' : Off C ((s.heap.objs.size, AO.tup [.str y, a]) :: ld) [it] := fun b hb => by
      rw [List.mem_singleton.mp hb]
      refine ⟨(O it (.head _)).1, fun p hp => ?_, (O it (.head _)).2.2⟩
      rcases List.mem_cons.mp hp with rfl | hp
      · exact hne
      · exact (O it (.head _)).2.1 p hp
    refine ⟨.ref s.heap.objs.size, _, .tup, rfl, H1'.off (tk := s.toks) O' fun b o hb e => (hsb.2 b fun q => hb (q ▸ .head _)).trans e, ⟨_, _, by rw [← hv.length]; exact hit''⟩, O', fun b hb => ?_⟩
    rw [List.mem_singleton.mp hb]
    exact ⟨_, hit''⟩
  done := fun v ld s hs hm ⟨ok, ov, hS⟩ O => by
    obtain ⟨kvs, hv, hd⟩ := hs.dictAt hm
    exact wpAny_pyNext_items_end hh (by rw [hv.length]; rw [List.length_map] at hS; exact hS) hd (by simp [hv.length]) fun h' he => ⟨rfl, hs.off (tk := s.toks) O fun b o hb e => he b o (fun q => hb (q ▸ .head _)) e⟩
theorem IterW_items {elts : List Expr} {x1 : Nat} {pos : Pos} {r d : Addr} {es : List (Str × AV)} {ep : Nat} {K : AV → Vals → Ledger → Prop} (ok : COk C k) (hm : (d, AO.dict es (some ep)) ∈ led) (hr : (r, AO.pred (ViewO "dict_items" d)) ∈ led)
    (h : ∀ it l', IterAt C (.Tuple elts x1 pos) it [it] (es.map fun e => .tup [.str e.1, e.2]) (fun ld => (d, AO.dict es (some ep)) ∈ ld) l' led → K (.ref it) vals l') : IterW C (.ref r) vals led K :=
  IterW_new (P := fun o => o = { cls := .type "dict_itemiterator", data := .fields #[.none, .bool false, .ref d, .int 0 0, .int es.length 0, .int ep 0, .none, .none] }) (S := fun it _ i h => ∃ ok ov, IsItemIter h it d i es.length ep ok ov) (fun va s Q hva hs hQ => by
    cases hva
    obtain ⟨kvs, hv, hd⟩ := hs.dictAt hm
    obtain ⟨o, ho, rfl⟩ := pred_get hs hr
    exact wpAny_pyIter_items ⟨_, ho, rfl, rfl⟩ hd (by rw [hv.length]; exact hQ _ s.toks rfl rfl)) (fun it _ _ C' _ hA => IterSpec.items (by rw [hA]; exact ok.hand)) (fun it h o ho e => ⟨.none, .none, by rw [ho] at e; exact e⟩) h
end
end Mine

-- part M12
namespace Mine
open PySem PySem.Calls PySem.W PyProof.Rows

noncomputable def AsgsW (C : Cx) (fs : List (Value → Sem Unit)) (as : List AV) (vals : Vals) (led : Ledger) (K : Vals → Ledger → Prop) : Prop := ∀ vs, VRs as vs → UW C (assignInOrder fs vs) vals led (fun _ => K)

section
variable {C : Cx} {vals : Vals} {led : Ledger} {k : Nat}
theorem AsgsW_nil {K : Vals → Ledger → Prop} (h : K vals led) : AsgsW C [] [] vals led K := by
  rintro _ hvs
  obtain rfl := hvs.unnil
  exact .pure' (b := ()) h trivial
theorem AsgsW_cons {t : Expr} {fs : List (Value → Sem Unit)} {a : AV} {as : List AV} {K : Vals → Ledger → Prop} (h : AsgW C t a vals led fun v l => AsgsW C fs as v l K) : AsgsW C (assign t C.env :: fs) (a :: as) vals led K := by
  rintro _ hvs
  obtain ⟨v, us, rfl, h1, h2⟩ := hvs.uncons
  refine ⟨fun s hs => ?_⟩
  show wpAny _ _ (do holding us (assign t C.env v); assignInOrder fs us) _ _ s
  exact wpAny_bind (wpAny_holding ((h v h1).use hs (fun _ s₁ _ v₁ l₁ _ hs₁ hk => (hk us h2).run s₁ hs₁)))
theorem AsgsW_bind {x : Str} {fs : List (Value → Sem Unit)} {a : AV} {as : List AV} {K : Vals → Ledger → Prop} (h : StoW C x a vals led fun v l => AsgsW C fs as v l K) : AsgsW C (bindName C.env x :: fs) (a :: as) vals led K := by
  rintro _ hvs
  obtain ⟨v, us, rfl, h1, h2⟩ := hvs.uncons
  refine ⟨fun s hs => ?_⟩
  show wpAny _ _ (do holding us (bindName C.env x v); assignInOrder fs us) _ _ s
  exact wpAny_bind (wpAny_holding (wpAny_bindName ((h v h1).use hs (fun _ s₁ _ v₁ l₁ _ hs₁ hk => (hk us h2).run s₁ hs₁))))
theorem AsgW_Tuple {elts : List Expr} {x1 : Nat} {pos : Pos} {T : Addr} {as : List AV} {K : Vals → Ledger → Prop} (ok : COk C k) (hm : (T, AO.tup as) ∈ led) (hn : (assignEach elts C.env).length = as.length) (hstar : (assignEach elts C.env).findIdx? (·.1) = none)
    (h : AsgsW C ((assignEach elts C.env).map (·.2)) as vals led K) : AsgW C (.Tuple elts x1 pos) (.ref T) vals led K := by
  rintro _ rfl
  refine ⟨fun s hs => ?_⟩
  obtain ⟨vs, hv, ht⟩ := hs.tup hm
  refine assign_Tuple_tuple ok.hand ht (by simp [hn, hv.length]) hstar fun h' he => ?_
  exact (h vs hv).run _ (hs.ext (tk := s.toks) fun b o e => he b o (Nat.ne_of_lt (Heap.lt_size e)) e)
theorem ExW_AssignTuple {elts : List Expr} {x1 : Nat} {tp pos : Pos} {value : Expr} {K : AF → Vals → Ledger → Prop} (hs : swapsWithSole [.Tuple elts x1 tp] value pos.line C.env = pure false) (hw : swappedStores [.Tuple elts x1 tp] value C.env = pure none)
    (h : EvW C value vals led (AsgK C (.Tuple elts x1 tp) (NxK K))) : ExW C (.Assign [.Tuple elts x1 tp] value pos) vals led K :=
  ⟨fun s h0 => Assign_Tuple (h.use h0 (fun u s₁ b v l hr hs₁ hk => (hk u hr).use hs₁ (fun _ s₂ _ v₂ l₂ _ hs₂ hk₂ => ⟨.next, v₂, l₂, rfl, hs₂, hk₂⟩))) hs hw⟩
theorem VRs.rev : ∀ {as : List AV} {vs : List Value}, VRs as vs → VRs as.reverse vs.reverse
  | _, _, .nil => .nil
  | _, _, .cons h0 h => by rw [List.reverse_cons, List.reverse_cons]; exact h.rev.append (.cons h0 .nil)
/-- a, b = x, y : the stores go backwards -/
theorem ExW_AssignSwapped {elts : List Expr} {x1 : Nat} {tp pos : Pos} {value : Expr} {names : List Str} {K : AF → Vals → Ledger → Prop} (ok : COk C k) (hs : swapsWithSole [.Tuple elts x1 tp] value pos.line C.env = pure false) (hw : swappedStores [.Tuple elts x1 tp] value C.env = pure (some names))
    (h : EvW C value vals led fun a v l => Ex2 fun T as => An4 (a = .ref T) ((T, AO.tup as) ∈ l) (as.length = names.length) (AsgsW C (names.reverse.map fun n => bindName C.env n) as.reverse v l (NxK K))) : ExW C (.Assign [.Tuple elts x1 tp] value pos) vals led K := by
  refine ⟨fun s h0 => Assign_Tuple_swapped (names := names) (h.use h0 (fun u s₁ b v l hr hs₁ ⟨T, as, e, hm, hn, hk⟩ => ?_)) hs hw⟩
  subst e
  cases hr
  obtain ⟨vs, hv, ht⟩ := hs₁.tup hm
  have e : names.length = vs.toArray.size := by simp [← hn, hv.length]
  rw [e]
  refine unpackItems_tuple ok.hand ht fun h' he => ?_
  exact (hk _ hv.rev).use (hs₁.ext (tk := s₁.toks) fun b o e => he b o (Nat.ne_of_lt (Heap.lt_size e)) e) (fun _ s₂ _ v₂ l₂ _ hs₂ hk₂ => ⟨.next, v₂, l₂, rfl, hs₂, hk₂⟩)

-- enumerate
noncomputable def EnumO (it : Addr) (o : Obj) : Prop := ∀ h : Heap, ∀ e, h.get? e = some o → IsEnum h e it 0 .none
noncomputable def LIterO (l : Addr) (o : Obj) : Prop := ∀ h : Heap, ∀ it, h.get? it = some o → h.IsListIter it l 0
theorem CallW_enumerate {l : Addr} {xs : List AV} {K : AV → Vals → Ledger → Prop} (hm : (l, AO.list xs) ∈ led) (h : ∀ e it, K (.ref e) vals ((e, .pred (EnumO it)) :: (it, .pred (LIterO l)) :: led)) : CallW C (.typ "enumerate") [.ref l] vals led K := by
  rintro _ _ rfl hvs
  obtain ⟨_, rfl, rfl⟩ := hvs.one
  refine ⟨fun s hs => ?_⟩
  obtain ⟨vs, hv, hl⟩ := hs.list hm
  refine call_enumerate_list hl.isList fun h' he hit hz hk => ?_
  obtain ⟨o1, ho1, hc1, hd1⟩ := id hit
  have H1 : St C vals ((s.heap.objs.size, .pred (LIterO l)) :: led) { s with heap := h', toks := s.toks } :=
    hs.new hk (Heap.get?_none_of_le (Nat.le_refl _)) ho1 (fun h it e => ⟨o1, e, hc1, hd1⟩)
  have n2 := hs.fresh_not (a := s.heap.objs.size + 1) (Heap.get?_none_of_le (Nat.le_succ _))
  have H2 : St C vals ((s.heap.objs.size + 1, .pred (EnumO s.heap.objs.size)) :: (s.heap.objs.size, .pred (LIterO l)) :: led) { s with heap := h' } := by
    refine H1.change (tk := s.toks) (h' := h') (fun b o e => H1.keep b o e) (fun a o _ e => ⟨o, e, rfl⟩) (fun p hp => ?_) ?_
    · rcases List.mem_cons.mp hp with rfl | hp
      · exact ⟨⟨_, he, fun h e q => q⟩, n2.1, n2.2.2.1, fun x hx => Ne.symm (n2.2.2.2 x hx)⟩
      · obtain ⟨q1, q2, q3⟩ := H1.ledg p hp
        exact ⟨q1, q2, q3, fun a ha => (H1.frameB a ha).2.1 p hp⟩
    · rw [List.map_cons, List.nodup_cons]
      refine ⟨fun hm => ?_, H1.nd⟩
      rw [List.map_cons] at hm
      rcases List.mem_cons.mp hm with e | hm
      · exact absurd e (Nat.succ_ne_self _)
      · obtain ⟨p, hp, e⟩ := List.mem_map.mp hm
        exact n2.2.1 p hp e
  exact ⟨.ref (s.heap.objs.size + 1), vals, _, rfl, H2, h _ _⟩
theorem IterSpec.enum {elts : List Expr} {x1 : Nat} {pos : Pos} {e it l : Addr} {xs : List AV} (hei : e ≠ it) (hh : C.A.handled = none) :
    IterSpec C (.Tuple elts x1 pos) [e, it] (xs.zipIdx.map fun p => .tup [.int p.2, p.1]) (fun ld => (l, AO.list xs) ∈ ld) (fun i h => (∃ old, IsEnum h e it i old) ∧ h.IsListIter it l i) (.ref e) where
  keepS := fun i h h' ⟨⟨old, h1⟩, h2⟩ hk => ⟨⟨old, hk e (.head _) _ h1⟩, h2.at fun o q => hk it (.tail _ (.head _)) o q⟩
  self := fun Q s ⟨⟨old, h1⟩, _⟩ hQ => wpAny_pyIter_enum h1 hQ
  item := fun i x v ld s hx hs hm ⟨⟨old, h1⟩, h2⟩ O => by
    rw [List.getElem?_map, Option.map_eq_some_iff] at hx
    obtain ⟨⟨a, j⟩, hx, rfl⟩ := hx
    rw [List.getElem?_zipIdx, Option.map_eq_some_iff] at hx
    obtain ⟨a', hx, e'⟩ := hx
    simp only [Nat.zero_add, Prod.mk.injEq] at e'
    obtain ⟨rfl, rfl⟩ := e'
    obtain ⟨vs, hv, hl⟩ := hs.list hm
    obtain ⟨va, hva, hr⟩ := hv.get' hx
    have hle : l ≠ e := fun q => (O e (.head _)).2.1 _ hm q
    have hli : l ≠ it := fun q => (O it (.tail _ (.head _))).2.1 _ hm q
    refine wpAny_pyNext_enum_item h1 h2 hl.isList (x := va) (by simpa using hva) hei fun h' ho hit' hT hsz hk => ⟨_, rfl, ?_⟩
    refine wpAny_letOwnedTupleGo_enum ho fun h'' he' hs' => ?_
    have helt : e < s.heap.objs.size := Heap.lt_size h1
    have hilt : it < s.heap.objs.size := by obtain ⟨_, q, _⟩ := h2; exact Heap.lt_size q
    have H1 : St C v ld { s with heap := h', toks := s.toks + 1 } := hs.off O fun b o hb q => hk b o (fun r => hb (r ▸ .head _)) (fun r => hb (r ▸ .tail _ (.head _))) q
    have H1' : St C v ((s.heap.objs.size, .tup [.int (i : Nat), a']) :: ld) { s with heap := h', toks := s.toks + 1 } := by
      obtain ⟨n1, n2, n3, n4⟩ := hs.fresh_not (a := s.heap.objs.size) (Heap.get?_none_of_le (Nat.le_refl _))
      refine H1.change (tk := s.toks + 1) (h' := h') (fun b o e => H1.keep b o e) (fun a o _ e => ⟨o, e, rfl⟩) (fun p hp => ?_) ?_
      · rcases List.mem_cons.mp hp with rfl | hp
        · exact ⟨⟨_, hT, _, 0, .cons VR.int (.cons hr .nil), rfl⟩, n1, n3, fun x hx => Ne.symm (n4 x hx)⟩
        · obtain ⟨q1, q2, q3⟩ := H1.ledg p hp
          exact ⟨q1, q2, q3, fun a ha => (H1.frameB a ha).2.1 p hp⟩
      · simp only [List.map_cons, List.nodup_cons]
        refine ⟨fun hm => ?_, H1.nd⟩
        obtain ⟨p, hp, e⟩ := List.mem_map.mp hm
        exact n2 p hp e
    have O' : Off C ((s.heap.objs.size, AO.tup [.int (i : Nat), a']) :: ld) [e, it] := fun b hb => by
      refine ⟨(O b hb).1, fun p hp => ?_, (O b hb).2.2⟩
      rcases List.mem_cons.mp hp with rfl | hp
      · rcases List.mem_cons.mp hb with rfl | hb
        · exact Nat.ne_of_gt helt
        · rw [List.mem_singleton.mp hb]; exact Nat.ne_of_gt hilt
      · exact (O b hb).2.1 p hp
    have hit'' : h''.IsListIter it l (i + 1) := hit'.at fun o y => (hs'.2 it hei.symm).trans y
    refine ⟨.ref s.heap.objs.size, _, .tup, rfl, H1'.off (tk := s.toks + 1) O' fun b o hb q => (hs'.2 b fun r => hb (r ▸ .head _)).trans q, ⟨⟨_, by simpa using he'⟩, hit''⟩, O', fun b hb => ?_⟩
    rcases List.mem_cons.mp hb with rfl | hb
    · exact ⟨_, he'⟩
    · rw [List.mem_singleton.mp hb]; obtain ⟨o, ho, _⟩ := hit''; exact ⟨o, ho⟩
  done := fun v ld s hs hm ⟨⟨old, h1⟩, h2⟩ O => by
    obtain ⟨vs, hv, hl⟩ := hs.list hm
    rw [List.length_map, List.length_zipIdx] at h1 h2
    exact wpAny_pyNext_enum_end hh h1 h2 hl.isList (by simp [hv.length]) fun h' hx => ⟨rfl, hs.off (tk := s.toks) O fun b o hb q => hx b o (fun r => hb (r ▸ .tail _ (.head _))) q⟩
theorem IterW_enum {elts : List Expr} {x1 : Nat} {pos : Pos} {e it l : Addr} {xs : List AV} {l0 : Ledger} {K : AV → Vals → Ledger → Prop} (ok : COk C k) (hl : led = (e, .pred (EnumO it)) :: (it, .pred (LIterO l)) :: l0) (hm : (l, AO.list xs) ∈ l0)
    (h : IterAt C (.Tuple elts x1 pos) e [e, it] (xs.zipIdx.map fun p => .tup [.int p.2, p.1]) (fun ld => (l, AO.list xs) ∈ ld) led l0 → K (.ref e) vals led) : IterW C (.ref e) vals led K := by
  subst hl
  rintro _ rfl
  refine ⟨fun s hs => ?_⟩
  obtain ⟨o, ho, hE⟩ := pred_get hs (.head _)
  have nd := hs.nd
  simp only [List.map_cons, List.nodup_cons, List.mem_cons, not_or] at nd
  have hei : e ≠ it := nd.1.1
  refine wpAny_pyIter_enum (hE _ _ ho) ⟨.ref e, vals, _, rfl, hs, h ⟨(List.sublist_cons_self _ _).trans (List.sublist_cons_self _ _), ⟨_, fun C' _ hA => IterSpec.enum hei (by rw [hA]; exact ok.hand), fun v' s' H' => ?_⟩, fun b hb => ?_⟩⟩
  · obtain ⟨o, ho, hE⟩ := pred_get H' (.head _)
    obtain ⟨o2, ho2, hL⟩ := pred_get H' (.tail _ (.head _))
    exact ⟨⟨_, hE _ _ ho⟩, hL _ _ ho2⟩
  · rcases List.mem_cons.mp hb with rfl | hb
    · exact ⟨_, .head _, fun p hp e' => nd.1.2 (e' ▸ List.mem_map_of_mem hp)⟩
    · rw [List.mem_singleton.mp hb]
      exact ⟨_, .tail _ (.head _), fun p hp e' => nd.2.1 (e' ▸ List.mem_map_of_mem hp)⟩
end
end Mine

-- part M13
namespace Mine
open PySem PySem.Calls PySem.W PyProof.Rows

noncomputable def testsOf (ifs : List Expr) (env : Env) : Sem Bool := forIn ifs true fun c r => if r = true then do let ok ← isTrue c env (eval c env); pure (ForInStep.yield ok) else pure (ForInStep.yield r)

/-- the turn of a comprehension's loop -/
noncomputable def turnOf (e : Expr) (d : Nat) (target iter : Expr) (ifs : List Expr) (acc : Value) (env : Env) (inner : Sem Unit) (it : Value) : Sem Fin := do
  standAt iter.pos
  match ← pyNext it with
  | none => pure (.done .next)
  | some v =>
    letOwnedTupleGo target it v
    assign target env v
    let ok ← testsOf ifs env
    if ok then inner
    again (.compLoop e d it acc env)

structure Shape (e : Expr) (d : Nat) (target iter : Expr) (ifs : List Expr) (acc : Value) (env : Env) (inner : Sem Unit) : Prop where
  turn : ∀ it, compTurn e d it acc env = turnOf e d target iter ifs acc env inner it
  quiet : ∀ it, (Code.compLoop e d it acc env).quiet = true
  den : ∀ (prog : Program) (w : World) it, (model prog w).den (.compLoop e d it acc env) = (compTurn e d it acc env).onRaise (fun x => do noteFrame x env; theTreesLotGoes x)
  under : ∀ (A : Around) it, A.under (.compLoop e d it acc env) = A
  start : ∀ (prog : Program) (w : World) (A : Around) (s : Shared) (R : Result → Shared → Prop) it, codeAny (model prog w) A (.compLoop e d it acc env) R s →
    wpAny (model prog w) A (pyIter it) (fun it' s' => codeAny (model prog w) A (.compLoop e d it' acc env) R s') (notedBy (model prog w) A env fun x s' => R (.error x) s') s →
    codeAny (model prog w) A (.compStart e d it acc env) R s

noncomputable def innerList (elt : Expr) (acc : Value) (env : Env) : Sem Unit := do let _ ← call (.builtin "list.append") [acc, ← eval elt env]
noncomputable def innerDict (kx vx : Expr) (D : Addr) (env : Env) : Sem Unit := do
  let kv ← eval kx env
  let vv ← holding [kv] (eval vx env)
  standAt { kx.pos with endLine := vx.pos.endLine, endCol := vx.pos.endCol }
  holding [kv, vv] (dictSet D kv vv)
noncomputable def innerNest (e : Expr) (d : Nat) (iter : Expr) (acc : Value) (env : Env) : Sem Unit := do
  let x ← eval iter env
  standAt iter.pos
  let x ← foldedSetIterable iter env x
  let _ ← runOwn (.compStart e (d + 1) (← holding [x] (pyIter x)) acc env) env

theorem shape_list (elt target iter : Expr) (ifs : List Expr) (scope : Scope) (pos : Pos) (acc : Value) (env : Env) : Shape (.ListComp elt [⟨target, iter, ifs, 0⟩] scope pos) 0 target iter ifs acc env (innerList elt acc env) where
  turn := fun it => by rfl
  quiet := fun it => by rfl
  den := fun prog w it => by rfl
  under := fun A it => by rfl
  start := fun prog w A s R it h0 h => codeAny_compStart_list h0 h
theorem shape_dict (kx vx target iter : Expr) (ifs : List Expr) (scope : Scope) (pos : Pos) (D : Addr) (env : Env) : Shape (.DictComp kx vx [⟨target, iter, ifs, 0⟩] scope pos) 0 target iter ifs (.ref D) env (innerDict kx vx D env) where
  turn := fun it => by rfl
  quiet := fun it => by rfl
  den := fun prog w it => by rfl
  under := fun A it => by rfl
  start := fun prog w A s R it h0 h => codeAny_compStart_dict h0 h
theorem comp_nest (kx vx target iter t2 i2 : Expr) (ifs f2 : List Expr) (scope : Scope) (pos : Pos) (D : Addr) (env : Env) (it : Value) : compTurn (.DictComp kx vx [⟨target, iter, ifs, 0⟩, ⟨t2, i2, f2, 0⟩] scope pos) 0 it (.ref D) env = (do
      standAt iter.pos
      match ← pyNext it with
      | none => pure (.done .next)
      | some v =>
        letOwnedTupleGo target it v
        assign target env v
        let ok ← testsOf ifs env
        if ok then
          let x ← eval i2 env
          standAt i2.pos
          let x ← foldedSetIterable i2 env x
          let _ ← runOwn (.compStart (.DictComp kx vx [⟨target, iter, ifs, 0⟩, ⟨t2, i2, f2, 0⟩] scope pos) 1 (← holding [x] (pyIter x)) (.ref D) env) env
        again (.compLoop (.DictComp kx vx [⟨target, iter, ifs, 0⟩, ⟨t2, i2, f2, 0⟩] scope pos) 0 it (.ref D) env)) := by rfl
theorem comp_nest' (kx vx target iter t2 i2 : Expr) (ifs f2 : List Expr) (scope : Scope) (pos : Pos) (D : Addr) (env : Env) (it : Value) : compTurn (.DictComp kx vx [⟨target, iter, ifs, 0⟩, ⟨t2, i2, f2, 0⟩] scope pos) 0 it (.ref D) env = turnOf (.DictComp kx vx [⟨target, iter, ifs, 0⟩, ⟨t2, i2, f2, 0⟩] scope pos) 0 target iter ifs (.ref D) env (innerNest (.DictComp kx vx [⟨target, iter, ifs, 0⟩, ⟨t2, i2, f2, 0⟩] scope pos) 0 i2 (.ref D) env) it := by
  rw [comp_nest]
  unfold turnOf innerNest
  simp only [bind_assoc, pure_bind]
theorem shape_dict0 (kx vx target iter t2 i2 : Expr) (ifs f2 : List Expr) (scope : Scope) (pos : Pos) (D : Addr) (env : Env) : Shape (.DictComp kx vx [⟨target, iter, ifs, 0⟩, ⟨t2, i2, f2, 0⟩] scope pos) 0 target iter ifs (.ref D) env (innerNest (.DictComp kx vx [⟨target, iter, ifs, 0⟩, ⟨t2, i2, f2, 0⟩] scope pos) 0 i2 (.ref D) env) where
  turn := fun it => comp_nest' ..
  quiet := fun it => by rfl
  den := fun prog w it => by rfl
  under := fun A it => by rfl
  start := fun prog w A s R it h0 h => codeAny_compStart_dict h0 h
theorem start1 {prog : Program} {w : World} {A : Around} {s : Shared} {R : Result → Shared → Prop} {kx vx target iter t2 i2 : Expr} {ifs f2 : List Expr} {scope : Scope} {pos : Pos} {it acc : Value} {env : Env}
    (h0 : codeAny (model prog w) A (.compLoop (.DictComp kx vx [⟨target, iter, ifs, 0⟩, ⟨t2, i2, f2, 0⟩] scope pos) 1 it acc env) R s)
    (h : wpAny (model prog w) A (pyIter it) (fun it' s' => codeAny (model prog w) A (.compLoop (.DictComp kx vx [⟨target, iter, ifs, 0⟩, ⟨t2, i2, f2, 0⟩] scope pos) 1 it' acc env) R s')
      (notedBy (model prog w) A env fun x s' => R (.error x) s') s) :
    codeAny (model prog w) A (.compStart (.DictComp kx vx [⟨target, iter, ifs, 0⟩, ⟨t2, i2, f2, 0⟩] scope pos) 1 it acc env) R s := by
  refine codeAny_of_tree ?_
  show wpAny _ A ((compStart (.DictComp kx vx [⟨target, iter, ifs, 0⟩, ⟨t2, i2, f2, 0⟩] scope pos) 1 it acc env).onRaise (fun x => do noteFrame x env; standAt theWindowsPlace)) _ _ s
  refine wpAny_notedAt ?_
  unfold compStart
  show wpAny _ A (ask >>= _) _ _ s
  refine wpAny_bind (wpAny_askSetting (wpAny_ite ?_))
  split
  · first
      | exact wpAny_bind (wpAny_pure (wpAny_pure (And.intro rfl h0)))
      | exact wpAny_pure (And.intro rfl h0)
  · first
      | exact wpAny_bind (wpAny_rule (wpAny_bind (wpAny_standAt (wpAny_bind (wpAny_mono h (fun it' s' h' => wpAny_pure (And.intro rfl h')) fun _ _ x => x)))))
      | (refine wpAny_bind (wpAny_rule ?_); show wpAny _ _ (standAt i2.pos >>= _) _ _ s; exact wpAny_bind (wpAny_standAt (wpAny_bind (wpAny_mono h (fun it' s' h' => wpAny_pure (And.intro rfl h')) fun _ _ x => x))))
theorem shape_dict1 (kx vx target iter t2 i2 : Expr) (ifs f2 : List Expr) (scope : Scope) (pos : Pos) (D : Addr) (env : Env) : Shape (.DictComp kx vx [⟨target, iter, ifs, 0⟩, ⟨t2, i2, f2, 0⟩] scope pos) 1 t2 i2 f2 (.ref D) env (innerDict kx vx D env) where
  turn := fun it => by rfl
  quiet := fun it => by rfl
  den := fun prog w it => by rfl
  under := fun A it => by rfl
  start := fun prog w A s R it h0 h => start1 h0 h

/-- the loop of a comprehension -/
theorem comp_loop {prog : Program} {w : World} {A : Around} {s : Shared} {R : Result → Shared → Prop} {e : Expr} {d : Nat} {target iter : Expr} {ifs : List Expr} {acc : Value} {env : Env} {inner : Sem Unit} {it : Value} (X : Shape e d target iter ifs acc env inner) (I : Nat → Shared → Prop)
    (turn : ∀ n s, I n s → wpAny (model prog w) A (pyNext it) (fun r s₁ => match r with
      | none => R (.ok .next) s₁
      | some v => wpAny (model prog w) A (letOwnedTupleGo target it v) (fun _ s₁ => wpAny (model prog w) A (assign target env v) (fun _ s₂ =>
          wpAny (model prog w) A (testsOf ifs env) (fun ok s₃ =>
            if ok = true then wpAny (model prog w) A inner (fun _ s₄ => ∃ m, m < n ∧ I m s₄) (notedBy (model prog w) A env fun e s' => R (.error e) s') s₃
            else ∃ m, m < n ∧ I m s₃) (notedBy (model prog w) A env fun e s' => R (.error e) s') s₂) (notedBy (model prog w) A env fun e s' => R (.error e) s') s₁) (notedBy (model prog w) A env fun e s' => R (.error e) s') s₁) (notedBy (model prog w) A env fun e s' => R (.error e) s') s)
    (n : Nat) (h : I n s) : codeAny (model prog w) A (.compLoop e d it acc env) R s := by
  refine codeAny_loop (X.quiet it) I (fun n s hI => ?_) n h
  rw [X.den, X.under]
  refine wpAny_noted ?_
  rw [X.turn]
  unfold turnOf
  refine wpAny_bind (wpAny_standAt (wpAny_bind (wpAny_mono (turn n s hI) (fun r s₁ h₁ => ?_) fun _ _ h' => h')))
  cases r with
  | none => exact wpAny_pure h₁
  | some v =>
    refine wpAny_bind (wpAny_mono h₁ (fun _ s₁' h₁' => ?_) fun _ _ h' => h')
    refine wpAny_bind (wpAny_mono h₁' (fun _ s₂ h₂ => wpAny_bind (wpAny_mono h₂ (fun ok s₃ h₃ => ?_) fun _ _ h' => h')) fun _ _ h' => h')
    cases ok with
    | false => exact wpAny_pure ⟨rfl, h₃⟩
    | true => exact wpAny_bind (wpAny_mono h₃ (fun _ s₄ h₄ => wpAny_pure ⟨rfl, h₄⟩) fun _ _ h' => h')

/-- what a comprehension makes of its items -/
structure CompK (C : Cx) (k : Nat) (target : Expr) (ifs : List Expr) (inner : Sem Unit) (xs : List IT) (src : Ledger → Prop) (vals : Vals) (led : Ledger) (J : Nat → Vals → Ledger → Prop) : Prop where
  start : J 0 vals led
  srcs : ∀ i v l, J i v l → src l
  turn : ∀ i x a v l l' B, xs[i]? = some x → J i v l → ITof x a l l' → COk (C.base B) k → AsgW (C.base B) target a v l' fun v l => TW (C.base B) (@Eq Bool) (testsOf ifs (C.base B).env) v l fun b v l =>
    if b = true then UW (C.base B) inner v l (fun _ v l => J (i + 1) v l) else J (i + 1) v l

theorem comp_core {C : Cx} {k : Nat} {vals : Vals} {led : Ledger} {s : Shared} {e : Expr} {d : Nat} {target iter : Expr} {ifs : List Expr} {acc : Value} {inner : Sem Unit} {its : List Addr} {itv : Value} {xs : List IT} {src : Ledger → Prop} {S : Nat → Heap → Prop} {J : Nat → Vals → Ledger → Prop}
    {R : Result → Shared → Prop} (ok : COk C k) (X : Shape e d target iter ifs acc C.env inner) (I : IterSpec C target its xs src S itv) (F : CompK C k target ifs inner xs src vals led J) (hs : St C vals led s) (hS : S 0 s.heap) (O : Off C led its)
    (hR : ∀ s' v l, St C v l s' → J xs.length v l → R (.ok .next) s') : codeAny (Md C.w) C.A (.compStart e d itv acc C.env) R s := by
  have main : codeAny (Md C.w) C.A (.compLoop e d itv acc C.env) R s := by
    refine comp_loop X (fun n s => LpI C S its J xs.length n s) (fun n s ⟨i, v, l, hs, hS, O, hJ, hi, hn⟩ => ?_) (xs.length + 1) ⟨0, vals, led, hs, hS, O, F.start, Nat.zero_le _, rfl⟩
    by_cases hlt : i < xs.length
    · have hx : xs[i]? = some xs[i] := by simp [hlt]
      have T := fun a l' B hIT okB => F.turn i _ a v l l' B hx hJ hIT okB
      refine wpAny_mono (turn_core (P := fun v l C' => TW C' (@Eq Bool) (testsOf ifs C'.env) v l fun b v l => if b = true then UW C' inner v l (fun _ v l => J (i + 1) v l) else J (i + 1) v l)
        (Q := fun _ s₂ => wpAny (Md C.w) C.A (testsOf ifs C.env) (fun ok s₃ =>
            if ok = true then wpAny (Md C.w) C.A inner (fun _ s₄ => ∃ m, m < n ∧ LpI C S its J xs.length m s₄) (fun _ _ => False) s₃
            else ∃ m, m < n ∧ LpI C S its J xs.length m s₃) (fun _ _ => False) s₂) ok I hx hs (F.srcs i v l hJ) hS O T ?_) (fun r s₁ ⟨va, hr, h1⟩ => ?_) fun _ _ x => x.elim
      · intro B v₂ l₂ s₂ hs₂ hk₂ _ back
        have hk₂' : TW (C.base B) (@Eq Bool) (testsOf ifs (C.base B).env) v₂ l₂ _ := hk₂
        have fin : ∀ v₃ l₃ s₃, St (C.base B) v₃ l₃ s₃ → J (i + 1) v₃ l₃ → ∃ m, m < n ∧ LpI C S its J xs.length m s₃ := fun v₃ l₃ s₃ hs₃ hJ₃ => by
          obtain ⟨b1, b2, b3⟩ := back v₃ l₃ s₃ hs₃
          exact ⟨xs.length + 1 - (i + 1), by (first | lia | omega), i + 1, v₃, l₃, b1, b2, b3, hJ₃, hlt, rfl⟩
        refine wpAny_mono (hk₂'.run s₂ hs₂) (fun b s₃ ⟨b', v₃, l₃, e₃, hs₃, hk₃⟩ => ?_) fun _ _ x => x
        subst e₃
        cases b' with
        | true => exact wpAny_mono ((show UW (C.base B) inner v₃ l₃ _ from hk₃).run s₃ hs₃) (fun _ s₄ ⟨_, v₄, l₄, _, hs₄, hJ₄⟩ => fin v₄ l₄ s₄ hs₄ hJ₄) fun _ _ x => x
        | false => exact fin v₃ l₃ s₃ hs₃ hk₃
      · subst hr
        refine wpAny_mono h1 (fun _ s₂ h2 => wpAny_mono h2 (fun _ s₃ h3 => wpAny_mono h3 (fun b s₄ h4 => ?_) fun _ _ x => x.elim) fun _ _ x => x.elim) fun _ _ x => x.elim
        cases b with
        | true => exact wpAny_mono h4 (fun _ _ q => q) fun _ _ x => x.elim
        | false => exact h4
    · have hi' : i = xs.length := by (first | lia | omega)
      subst hi'
      refine wpAny_mono (I.done v l s hs (F.srcs _ v l hJ) hS O) (fun r s₁ ⟨hr, hs₁⟩ => ?_) fun _ _ x => x.elim
      subst hr
      exact hR _ v l hs₁ hJ
  exact X.start _ _ _ _ _ _ main (wpAny_mono (I.self (fun r s' => codeAny (Md C.w) C.A (.compLoop e d r acc C.env) R s') s hS main) (fun _ _ q => q) fun _ _ x => x.elim)
end Mine

-- part M14
namespace Mine
open PySem PySem.Calls PySem.W PyProof.Rows

noncomputable def cloOf (scope : Scope) (env : Env) : List (Str × Addr) := (scope.names.filterMap fun p => if p.2 == .free then (env.cells.lookup p.1).map (p.1, ·) else none).reverse

theorem cellsFrom_append (names : List (Str × NameKind)) : ∀ (n : Nat) (acc acc' : List (Str × Addr)), cellsFrom n names (acc ++ acc') = cellsFrom n names acc ++ acc' := by
  induction names with
  | nil => intro n acc acc'; rfl
  | cons p r ih =>
    obtain ⟨y, kd⟩ := p
    intro n acc acc'
    unfold cellsFrom
    split
    · rw [← List.cons_append]; exact ih _ _ _
    · exact ih _ _ _
theorem lookup_app {x : Str} : ∀ {l l' : List (Str × Addr)}, (l ++ l').lookup x = match l.lookup x with | some c => some c | none => l'.lookup x
  | [], _ => rfl
  | (y, c) :: r, l' => by
    rw [List.cons_append, List.lookup_cons, List.lookup_cons]
    cases x == y with
    | true => rfl
    | false => exact lookup_app

structure CompOk (scope : Scope) (env : Env) (own frees wr : List Str) : Prop where
  owns : ∀ x ∈ own, scope.names.lookup x = some .local ∨ (scope.names.lookup x = some .cell ∧ x ∈ wr)
  ownk : ∀ x ∈ own, (relabel scope env).names.lookup x = scope.names.lookup x
  frs : ∀ x ∈ frees, ((relabel scope env).names.lookup x = some .cell ∨ (relabel scope env).names.lookup x = some .free) ∧ x ∉ wr ∧ env.kindOf x ≠ some .local ∧ ∃ c, (cloOf scope env).lookup x = some c ∧ env.cells.lookup x = some c
  cls : ∀ p ∈ cloOf scope env, env.cells.lookup p.1 = some p.2
  cells : ∀ x ∈ wr, scope.names.lookup x = some .cell
  cells' : ∀ p ∈ scope.names, p.2 = .cell → p.1 ∈ wr
  nodup : (own ++ frees).Nodup
  wnodup : wr.Nodup
  ndbg : ∀ x ∈ own ++ frees, (x == ("__debug__" : Str)) = false ∧ (x == ("__classdict__" : Str)) = false
  kind : scope.kind = .function
  hnames : ∀ x ∈ scope.names, x.2 = .local → scope.names.lookup x.1 = some .local
  clos : closureFor scope env = pure (cloOf scope env)

noncomputable def compChk (scope : Scope) (env : Env) (own frees wr : List Str) : Bool :=
  (own.all fun x => scope.names.lookup x == some .local || (scope.names.lookup x == some .cell && wr.contains x)) && (own.all fun x => (relabel scope env).names.lookup x == scope.names.lookup x) &&
  (frees.all fun x => ((relabel scope env).names.lookup x == some .cell || (relabel scope env).names.lookup x == some .free) && !wr.contains x && env.kindOf x != some .local && ((cloOf scope env).lookup x).isSome) &&
  (wr.all fun x => scope.names.lookup x == some .cell) && (scope.names.all fun p => p.2 != .cell || wr.contains p.1) && decide (own ++ frees).Nodup && decide wr.Nodup &&
  ((own ++ frees).all fun x => !(x == ("__debug__" : Str)) && !(x == ("__classdict__" : Str))) && scope.kind == .function && (scope.names.all fun p => p.2 != .local || scope.names.lookup p.1 == some .local)
theorem map_eq_mem {α β : Type} {f g : α → β} : ∀ {l : List α}, l.map f = l.map g → ∀ x ∈ l, f x = g x
  | [], _, x, hx => nomatch hx
  | y :: r, h, x, hx => by
    simp only [List.map_cons, List.cons.injEq] at h
    rcases List.mem_cons.mp hx with rfl | hx
    · exact h.1
    · exact map_eq_mem h.2 x hx
theorem compOk_of {scope : Scope} {env : Env} {own frees wr : List Str} (h : compChk scope env own frees wr = true) (h1 : (cloOf scope env).map (fun p => env.cells.lookup p.1) = (cloOf scope env).map (fun p => some p.2))
    (h2 : closureFor scope env = pure (cloOf scope env)) : CompOk scope env own frees wr := by
  simp only [compChk, Bool.and_eq_true, List.all_eq_true, Bool.or_eq_true, beq_iff_eq, Bool.not_eq_true', decide_eq_true_eq, bne_iff_ne, ne_eq, List.contains_iff_mem] at h
  obtain ⟨⟨⟨⟨⟨⟨⟨⟨⟨a1, a2⟩, a3⟩, a4⟩, a5⟩, a6⟩, a7⟩, a8⟩, a9⟩, a10⟩ := h
  have hcl := map_eq_mem h1
  refine ⟨a1, a2, fun x hx => ⟨(a3 x hx).1.1.1, fun q => ?_, (a3 x hx).1.2, ?_⟩, hcl, a4, fun p hp hk => ?_, a6, a7, fun x hx => ⟨by simpa using (a8 x hx).1, by simpa using (a8 x hx).2⟩, a9, fun p hp hk => ?_, h2⟩
  · have := (a3 x hx).1.1.2
    rw [List.contains_iff_mem.mpr q] at this; cases this
  · obtain ⟨c, hc⟩ := Option.isSome_iff_exists.mp (a3 x hx).2
    exact ⟨c, hc, hcl (x, c) (mem_of_lookup hc)⟩
  · rcases a5 p hp with q | q
    · exact absurd hk q
    · exact q
  · rcases a10 p hp with q | q
    · exact absurd hk q
    · exact q

noncomputable abbrev CC (C : Cx) (B : Addr → Option Obj) (outs : List (Addr × Data)) (scope : Scope) (L : Addr) (names wr : List Str) : Cx :=
  ⟨C.w, B, outs, C.r, C.A, { scope := relabel scope C.env, locals := L, globals := C.env.globals, cells := cellsFrom (L + 1) scope.names (cloOf scope C.env), qual := C.env.qual, func := none, code := C.env.code, frame := C.env.frame, builtins := C.env.builtins }, names, wr⟩

inductive FVals (ns : List Str) (vs : Vals) : List Str → Vals → Prop
  | nil : FVals ns vs [] []
  | cons {x a r fv} (i : Nat) : ns[i]? = some x → vs[i]? = some (some a) → FVals ns vs r fv → FVals ns vs (x :: r) (some a :: fv)
theorem FVals.length {ns vs r fv} (h : FVals ns vs r fv) : fv.length = r.length := by
  induction h with
  | nil => rfl
  | cons _ _ _ _ ih => simp [ih]
theorem FVals.get {ns vs r fv} {i : Nat} {x : Str} {v : Option AV} (h : FVals ns vs r fv) (e1 : r[i]? = some x) (e2 : fv[i]? = some v) : ∃ (j : Nat) (a : AV), v = some a ∧ ns[j]? = some x ∧ vs[j]? = some (some a) := by
  induction h generalizing i with
  | nil => cases e1
  | cons j h1 h2 _ ih =>
    cases i with
    | zero => cases e1; cases e2; exact ⟨j, _, rfl, h1, h2⟩
    | succ i => exact ih (i := i) e1 e2

section
variable {C : Cx} {vals : Vals} {led : Ledger} {k : Nat} {s : Shared}

theorem newEnvC {M : Model} {A : Around} {E : Value → Shared → Prop} {scope : Scope} {globals : Addr} {cl : List (Str × Addr)} {qual : Str} {env : Env} {Q : Env → Shared → Prop}
    (hQ : Q { scope, locals := s.heap.objs.size, globals, cells := cellsFrom (s.heap.objs.size + 1) scope.names cl, qual, func := none, code := env.code, frame := env.frame, builtins := env.builtins } { s with heap := pushCells (s.heap.push { cls := .type "dict", data := .dict #[] }) scope.names }) :
    wpAny M A (newFunctionEnv scope globals cl [] qual none .none (some env)) Q E s := by
  simp only [newFunctionEnv, Option.isSome_some, if_true]
  refine wpAny_bind (wpAny_alloc ?_)
  refine wpAny_bind (wpAny_layCells _ (fun name kind cells => by cases hkc : kind == NameKind.cell <;> simp [hkc]) _ _ _ _ ?_)
  rw [show ({ s with heap := s.heap.push { cls := .type "dict", data := .dict #[] } } : Shared).heap.objs.size = s.heap.objs.size + 1 from Heap.size_push ..]
  exact wpAny_pure hQ

theorem enterC {scope : Scope} {own frees wr : List Str} {fv : Vals} (ok : COk C k) (hs : St C vals led s) (K : CompOk scope C.env own frees wr) (hf : FVals C.names vals frees fv) :
    ∃ B outs, COk (CC C B outs scope s.heap.objs.size (own ++ frees) wr) k ∧ St (CC C B outs scope s.heap.objs.size (own ++ frees) wr) (own.map (fun _ => none) ++ fv) led { s with heap := pushCells (s.heap.push { cls := .type "dict", data := .dict #[] }) scope.names } ∧
      ∀ v' l' s', St (CC C B outs scope s.heap.objs.size (own ++ frees) wr) v' l' s' → St C vals l' s' ∧ Off C l' [s.heap.objs.size] ∧ ∃ m, s'.heap.Ns s.heap.objs.size m := by
  obtain ⟨mm, oL, esL, epL, hoL, hdL, rL⟩ := hs.locs
  let hl : List Addr := led.map (·.1) ++ (C.env.locals :: C.outs.map (·.1))
  let B' := hid s.heap hl
  let outs' : List (Addr × Data) := (C.env.locals, oL.data) :: C.outs
  let L := s.heap.objs.size
  have hBB : ∀ b o, C.B b = some o → B' b = some o := fun b o e => by
    refine hid_of (fun hm => ?_) (hs.keep b o e)
    rcases List.mem_append.mp hm with hm | hm
    · obtain ⟨q, hq, rfl⟩ := List.mem_map.mp hm
      rw [(hs.ledg q hq).2.1] at e; cases e
    · rcases List.mem_cons.mp hm with rfl | hm
      · rw [(hs.frameB _ (.head _)).1] at e; cases e
      · obtain ⟨q, hq, rfl⟩ := List.mem_map.mp hm
        rw [hs.outsB q hq] at e; cases e
  have newAt : ∀ c, L ≤ c → s.heap.get? c = none := fun c hc => Heap.get?_none_of_le hc
  have hk₁ : ∀ b o, s.heap.get? b = some o → (pushCells (s.heap.push { cls := .type "dict", data := .dict #[] }) scope.names).get? b = some o := fun b o e => pushCells_keeps _ _ b o (Heap.get?_push_of_some _ e)
  have cok := cellsFrom_ok scope.names (s.heap.push { cls := .type "dict", data := .dict #[] }) (L + 1) [] ⟨fun _ _ hm => (nomatch hm), List.Pairwise.nil⟩ (by rw [Heap.size_push]; exact Nat.le_refl _)
  rw [Heap.size_push] at cok
  have hcellsE : cellsFrom (L + 1) scope.names (cloOf scope C.env) = cellsFrom (L + 1) scope.names [] ++ cloOf scope C.env := by
    have := cellsFrom_append scope.names (L + 1) [] (cloOf scope C.env)
    simpa using this
  have ownIn : ∀ x c, (cellsFrom (L + 1) scope.names []).lookup x = some c → x ∈ wr := fun x c hc => by
    rcases cellsFrom_in hc with q | q
    · exact K.cells' _ q rfl
    · cases q
  have ownOf : ∀ x ∈ wr, ∃ c, (cellsFrom (L + 1) scope.names []).lookup x = some c := fun x hx => Option.isSome_iff_exists.mp (cellsFrom_some _ _ _ (.inl (K.cells x hx)))
  have lookE : ∀ x c, (cellsFrom (L + 1) scope.names (cloOf scope C.env)).lookup x = some c → ((cellsFrom (L + 1) scope.names []).lookup x = some c ∧ x ∈ wr) ∨ (x ∉ wr ∧ C.env.cells.lookup x = some c) := fun x c hc => by
    rw [hcellsE, lookup_app] at hc
    cases q : (cellsFrom (L + 1) scope.names []).lookup x with
    | some c' => rw [q] at hc; cases hc; exact .inl ⟨rfl, ownIn x _ q⟩
    | none =>
      rw [q] at hc
      refine .inr ⟨fun hw => ?_, K.cls (x, c) (mem_of_lookup hc)⟩
      obtain ⟨c', hc'⟩ := ownOf x hw
      rw [hc'] at q; cases q
  have cellAbove : ∀ x c, (cellsFrom (L + 1) scope.names []).lookup x = some c → L < c ∧ (pushCells (s.heap.push { cls := .type "dict", data := .dict #[] }) scope.names).IsCell c none := fun x c hc => by
    obtain ⟨h1, h2⟩ := cok.empty x c (mem_of_lookup hc)
    exact ⟨h2, h1⟩
  -- the cells of the outer frame
  have outerB : ∀ x c, C.env.cells.lookup x = some c → ∃ o u, s.heap.get? c = some o ∧ o.data = .cell u ∧ B' c = some o := fun x c hc => by
    rcases hs.cellsO x c hc with ⟨hw, u, o, ho, hd⟩ | ⟨o, u, hB, hd⟩
    · have hcF : c ∈ C.frameAddrs := List.mem_cons_of_mem _ (List.mem_filterMap.mpr ⟨x, hw, hc⟩)
      refine ⟨o, u, ho, hd, hid_of (fun hm => ?_) ho⟩
      rcases List.mem_append.mp hm with hm | hm
      · obtain ⟨q, hq, e⟩ := List.mem_map.mp hm
        exact (hs.frameB c hcF).2.1 q hq e
      · rcases List.mem_cons.mp hm with e | hm
        · have := hs.frameN
          unfold Cx.frameAddrs at this
          rw [List.nodup_cons] at this
          exact this.1 (e ▸ List.mem_filterMap.mpr ⟨x, hw, hc⟩)
        · obtain ⟨q, hq, e⟩ := List.mem_map.mp hm
          exact (hs.frameB c hcF).2.2 q hq e
    · exact ⟨o, u, hs.keep _ _ hB, hd, hBB _ _ hB⟩
  have fA : ∀ a ∈ (CC C B' outs' scope L (own ++ frees) wr).frameAddrs, L ≤ a := fun a ha => by
    rcases List.mem_cons.mp ha with rfl | ha
    · exact Nat.le_refl _
    · obtain ⟨y, hy, hc⟩ := List.mem_filterMap.mp ha
      rcases lookE y a hc with ⟨q, _⟩ | ⟨q, _⟩
      · exact Nat.le_of_lt (cellAbove y a q).1
      · exact absurd hy q
  have nsL : (pushCells (s.heap.push { cls := .type "dict", data := .dict #[] }) scope.names).Ns L (fun _ => none) :=
    ⟨_, #[], 0, pushCells_keeps _ _ _ _ (Heap.get?_push_size _ rfl), rfl, (fun e he => by simp at he), fun _ => rfl⟩
  have ok' : COk (CC C B' outs' scope L (own ++ frees) wr) k := by
    refine ⟨ok.base.mono hBB, ok.hand, ok.depth, ok.units, K.kind, ok.glob, ok.bu, K.nodup, K.wnodup, K.ndbg, ?_⟩
    obtain ⟨fs, hfs, hF⟩ := ok.frames
    refine ⟨fs, hfs, fun e he => ⟨(hF e he).1, .inr ?_⟩⟩
    rcases (hF e he).2 with q | ⟨p, hp, q⟩
    · exact ⟨_, .head _, q, esL, epL, hdL⟩
    · exact ⟨p, .tail _ hp, q⟩
  refine ⟨B', outs', ok', ?_, fun v' l' s' H' => ?_⟩
  · refine ⟨?_, fun b o e => hk₁ b o (hid_some e).2, fun p hp => ?_, fun p hp => ?_, fun a ha => ⟨?_, fun p hp e => ?_, fun p hp e => ?_⟩, ?_, ⟨_, nsL⟩, fun x c hc => ?_, ?_, fun i x v h1 h2 => ?_, fun p hp => ⟨?_, ?_, fun q hq => ?_⟩, hs.nd⟩
    · obtain ⟨h₀, tk₀, e⟩ := hs.same
      exact ⟨_, tk₀, by rw [e]⟩
    · rcases List.mem_cons.mp hp with rfl | hp
      · exact ⟨oL, hk₁ _ _ hoL, rfl⟩
      · obtain ⟨o, ho, hd⟩ := hs.outs p hp
        exact ⟨o, hk₁ _ _ ho, hd⟩
    · refine hid_none ?_
      rcases List.mem_cons.mp hp with rfl | hp
      · exact List.mem_append_right _ (.head _)
      · exact List.mem_append_right _ (.tail _ (List.mem_map_of_mem hp))
    · cases q : B' a with
      | none => exact q
      | some o => have := (hid_some q).2; rw [newAt a (fA a ha)] at this; cases this
    · obtain ⟨⟨o, ho, _⟩, _⟩ := hs.ledg p hp
      rw [e, newAt a (fA a ha)] at ho; cases ho
    · have : ∃ o, s.heap.get? p.1 = some o := by
        rcases List.mem_cons.mp hp with rfl | hp
        · exact ⟨_, hoL⟩
        · obtain ⟨o, ho, _⟩ := hs.outs p hp; exact ⟨o, ho⟩
      obtain ⟨o, ho⟩ := this
      rw [e, newAt a (fA a ha)] at ho; cases ho
    · unfold Cx.frameAddrs
      rw [List.nodup_cons]
      refine ⟨fun hm => ?_, ?_⟩
      · obtain ⟨y, hy, hc⟩ := List.mem_filterMap.mp hm
        rcases lookE y _ hc with ⟨q, _⟩ | ⟨q, _⟩
        · exact absurd (cellAbove y _ q).1 (Nat.lt_irrefl _)
        · exact absurd hy q
      · have wn := K.wnodup
        have sub : ∀ z ∈ wr, z ∈ wr := fun _ h => h
        have gen : ∀ wl : List Str, wl.Nodup → (∀ z ∈ wl, z ∈ wr) → (wl.filterMap fun x => (CC C B' outs' scope L (own ++ frees) wr).env.cells.lookup x).Nodup := by
          intro wl
          induction wl with
          | nil => intro _ _; exact List.nodup_nil
          | cons z r ih =>
            intro wn sub
            rw [List.nodup_cons] at wn
            rw [List.filterMap_cons]
            split
            · exact ih wn.2 fun q hq => sub q (.tail _ hq)
            · rename_i c hc
              rw [List.nodup_cons]
              refine ⟨fun hm => ?_, ih wn.2 fun q hq => sub q (.tail _ hq)⟩
              obtain ⟨y, hy, hyc⟩ := List.mem_filterMap.mp hm
              rcases lookE z c hc with ⟨q1, _⟩ | ⟨q1, _⟩
              · rcases lookE y c hyc with ⟨q2, _⟩ | ⟨q2, _⟩
                · exact wn.1 (name_of_addr cok.apart (mem_of_lookup q1) (mem_of_lookup q2) ▸ hy)
                · exact q2 (sub y (.tail _ hy))
              · exact q1 (sub z (.head _))
        exact gen wr wn sub
    · rcases lookE x c hc with ⟨q, hw⟩ | ⟨q, hq⟩
      · exact .inl ⟨hw, none, (cellAbove x c q).2⟩
      · obtain ⟨o, u, _, hd, hb⟩ := outerB x c hq
        exact .inr ⟨o, u, hb, hd⟩
    · simp [hf.length]
    · by_cases hi : i < own.length
      · have h1' : own[i]? = some x := by rwa [List.getElem?_append_left hi] at h1
        have h2' : (own.map fun _ => (none : Option AV))[i]? = some v := by rwa [List.getElem?_append_left (by simpa using hi)] at h2
        have hx : x ∈ own := List.mem_of_getElem? h1'
        have hv : v = none := by
          rw [List.getElem?_map] at h2'
          cases q : own[i]? with
          | none => rw [q] at h2'; cases h2'
          | some _ => rw [q] at h2'; cases h2'; rfl
        subst hv
        rcases K.owns x hx with q | ⟨q, qw⟩
        · exact .inl ⟨(K.ownk x hx).trans q, _, nsL, .none⟩
        · obtain ⟨c, hc⟩ := ownOf x qw
          refine .inr ⟨.inl ((K.ownk x hx).trans q), c, none, ?_, (cellAbove x c hc).2, .none⟩
          show (cellsFrom (L + 1) scope.names (cloOf scope C.env)).lookup x = some c
          rw [hcellsE, lookup_app, hc]
      · have hi' : own.length ≤ i := Nat.le_of_not_lt hi
        have h1' : frees[i - own.length]? = some x := by rwa [List.getElem?_append_right hi'] at h1
        have h2' : fv[i - own.length]? = some v := by rw [List.getElem?_append_right (by simpa using hi')] at h2; simpa using h2
        have hx : x ∈ frees := List.mem_of_getElem? h1'
        obtain ⟨j, a, rfl, g1, g2⟩ := hf.get h1' h2'
        obtain ⟨hkd, hnw, hnl, c, hc1, hc2⟩ := K.frs x hx
        rcases hs.vars j x _ g1 g2 with ⟨q, _⟩ | ⟨_, c', u, hc', hcell, hov⟩
        · exact absurd q hnl
        · rw [hc2] at hc'; cases hc'
          refine .inr ⟨hkd, c, u, ?_, ?_, hov⟩
          · show (cellsFrom (L + 1) scope.names (cloOf scope C.env)).lookup x = some c
            rw [hcellsE, lookup_app]
            cases q : (cellsFrom (L + 1) scope.names []).lookup x with
            | none => exact hc1
            | some c' => exact absurd (ownIn x c' q) hnw
          · obtain ⟨o, ho, hd⟩ := hcell
            exact ⟨o, hk₁ _ _ ho, hd⟩
    · obtain ⟨⟨o, ho, hr⟩, _⟩ := hs.ledg p hp
      exact ⟨o, hk₁ _ _ ho, hr⟩
    · exact hid_none (List.mem_append_left _ (List.mem_map_of_mem hp))
    · rcases List.mem_cons.mp hq with rfl | hq
      · exact Ne.symm ((hs.frameB _ (.head _)).2.1 p hp)
      · exact (hs.ledg p hp).2.2 q hq
  · have hB1 := hs.back (C' := CC C B' outs' scope L (own ++ frees) wr) hBB rfl rfl (fun p hp => .tail _ hp) (fun o e => by rw [hoL] at e; cases e; exact .head _) (fun x c o hc ho => by
      obtain ⟨o', u, ho', _, hb⟩ := outerB x c hc
      rw [ho] at ho'; cases ho'
      exact hb) H'
    refine ⟨hB1, fun a ha => ?_, H'.locs⟩
    rw [List.mem_singleton.mp ha]
    obtain ⟨f1, f2, f3⟩ := H'.frameB L (.head _)
    refine ⟨?_, f2, fun q hq => f3 q (.tail _ hq), fun x hx e => ?_⟩
    · exact (hs.fresh_not (newAt L (Nat.le_refl _))).1
    · exact (hs.fresh_not (newAt L (Nat.le_refl _))).2.2.2 x hx e
end
end Mine

-- part M15
namespace Mine
open PySem PySem.Calls PySem.W PyProof.Rows

section
variable {C : Cx} {vals : Vals} {led : Ledger} {k : Nat}

noncomputable def CompH (C : Cx) (k : Nat) (target : Expr) (ifs : List Expr) (scope : Scope) (own frees wr : List Str) (accO : AO) (inner : Addr → Env → Sem Unit) (G : Addr → Vals → Ledger → Prop) (itv : AV) (v : Vals) (l : Ledger) : Prop :=
  ∃ it its xs src l0 fv, itv = .ref it ∧ IterAt C target it its xs src l l0 ∧ FVals C.names v frees fv ∧ ∀ acc B outs L, COk (CC C B outs scope L (own ++ frees) wr) k →
    ∃ J, CompK (CC C B outs scope L (own ++ frees) wr) k target ifs (inner acc (CC C B outs scope L (own ++ frees) wr).env) xs src (own.map (fun _ => none) ++ fv) ((acc, accO) :: l0) J ∧ ∀ v' l', J xs.length v' l' → G acc v l'

theorem comp_any {e target iter : Expr} {ifs : List Expr} {gs : List Comprehension} {scope : Scope} {own frees wr : List Str} {pos : Pos} {newAcc : Sem Value} {use : Option (Value → Sem Unit)} {accO : AO} {accobj : Obj} {inner : Addr → Env → Sem Unit} {G : Addr → Vals → Ledger → Prop} {Q : Value → Shared → Prop} {s : Shared}
    (ok : COk C k) (K : CompOk scope C.env own frees wr) (hcl : clausesOf e = ⟨target, iter, ifs, 0⟩ :: gs) (hfold : ∀ x, foldedSetIterable iter C.env x = pure x) (X : ∀ acc env, Shape e 0 target iter ifs (.ref acc) env (inner acc env))
    (hnew : ∀ (Q : Value → Shared → Prop) s, Q (.ref s.heap.objs.size) { s with heap := s.heap.push accobj } → wpAny (Md C.w) C.A newAcc Q (fun _ _ => False) s) (hfr : accobj.isFreed = false) (hor : OR C.w accO accobj) (hs : St C vals led s)
    (h : EvW C iter vals led fun a v l => IterW C a v l fun itv v l => CompH C k target ifs scope own frees wr accO inner G itv v l)
    (hpost : ∀ acc v l' s' L, St C v l' s' → Off C l' [L] → (∃ m, s'.heap.Ns L m) → G acc v l' → compPost (Md C.w) C.A (fun _ _ => False) use Q (.ref acc) L (.ok .next) s') :
    wpAny (Md C.w) C.A (comprehension e scope C.env pos newAcc false (eval iter C.env) use) Q (fun _ _ => False) s := by
  refine wpAny_comprehension_free hcl hfold K.clos K.kind K.hnames (h.use hs (fun u s₁ a v l hr hs₁ hk => (hk u hr).use hs₁ (fun itw s₂ itv v₂ l₂ hr₂ hs₂ ⟨it, its, xs, src, l0, fv, e₂, A, hfv, hC⟩ => ?_)))
  subst e₂
  cases hr₂
  refine hnew _ _ ?_
  have H3 := hs₂.push (tk := s₂.toks) (ao := accO) hfr hor
  obtain ⟨B, outs, ok', H4, back⟩ := enterC ok H3 K hfv
  refine newEnvC ?_
  obtain ⟨S, I, hS⟩ := A.spec
  obtain ⟨J, F, hfin⟩ := hC s₂.heap.objs.size B outs _ ok'
  have O : Off (CC C B outs scope (s₂.heap.push accobj).objs.size (own ++ frees) wr) ((s₂.heap.objs.size, accO) :: l0) its := fun b hb => by
    obtain ⟨o, ho, hn⟩ := A.mem b hb
    obtain ⟨_, hb', hq⟩ := H4.ledg _ (.tail _ ho)
    refine ⟨hb', fun p hp => ?_, hq, fun x hx e => (H4.frameB x hx).2.1 _ (.tail _ ho) e.symm⟩
    rcases List.mem_cons.mp hp with rfl | hp
    · intro e
      have nd := H4.nd
      simp only [List.map_cons, List.nodup_cons] at nd
      have e' : s₂.heap.objs.size = b := e
      exact nd.1 (by rw [e']; exact List.mem_map_of_mem (f := (·.1)) ho)
    · exact hn p hp
  refine comp_core ok' (X _ _) (I (CC C B outs scope _ (own ++ frees) wr) rfl rfl) F (H4.sub (A.sub.cons_cons _)) ?_ O fun s' v' l' H' hJ => ?_
  · refine (I (CC C B outs scope (s₂.heap.push accobj).objs.size (own ++ frees) wr) rfl rfl).keepS 0 _ _ (hS _ _ hs₂) fun b hb o e => ?_
    exact pushCells_keeps _ _ _ _ (Heap.get?_push_of_some _ (Heap.get?_push_of_some _ e))
  · obtain ⟨b1, b2, b3⟩ := back v' l' s' H'
    exact hpost _ _ _ _ _ b1 b2 b3 (hfin v' l' hJ)

theorem EvW_ListComp {elt target iter : Expr} {ifs : List Expr} {scope : Scope} {pos : Pos} (own frees wr : List Str) {K : AV → Vals → Ledger → Prop} (ok : COk C k) (hc : CompOk scope C.env own frees wr) (hfold : ∀ x, foldedSetIterable iter C.env x = pure x)
    (h : EvW C iter vals led fun a v l => IterW C a v l fun itv v l => CompH C k target ifs scope own frees wr (.list []) (fun acc env => innerList elt (.ref acc) env) (fun acc v l => K (.ref acc) v l) itv v l) :
    EvW C (.ListComp elt [⟨target, iter, ifs, 0⟩] scope pos) vals led K := by
  refine ⟨fun s hs => ?_⟩
  show wpAny _ _ (comprehension (.ListComp elt [⟨target, iter, ifs, 0⟩] scope pos) scope C.env _ (newList []) false (eval iter C.env) none) _ _ s
  refine comp_any ok hc rfl hfold (fun acc env => shape_list ..) (accO := .list []) (accobj := { cls := .type "list", data := .seq #[] 0 }) (fun Q s hQ => wpAny_newObj_type hQ) rfl ⟨[], 0, .nil, rfl⟩ hs h fun acc v l' s' L H O hns hk => ?_
  obtain ⟨m, hm⟩ := hns
  exact ⟨m, hm, fun h' hsb => ⟨.ref acc, v, l', rfl, H.off (tk := s'.toks) O fun b o hb e => (hsb.2 b fun q => hb (q ▸ .head _)).trans e, hk⟩⟩
theorem EvW_DictComp {kx vx target iter : Expr} {ifs : List Expr} {gs : List Comprehension} {scope : Scope} {pos : Pos} (own frees wr : List Str) {inner : Addr → Env → Sem Unit} {K : AV → Vals → Ledger → Prop} (ok : COk C k) (hc : CompOk scope C.env own frees wr) (hfold : ∀ x, foldedSetIterable iter C.env x = pure x)
    (X : ∀ acc env, Shape (.DictComp kx vx (⟨target, iter, ifs, 0⟩ :: gs) scope pos) 0 target iter ifs (.ref acc) env (inner acc env))
    (h : EvW C iter vals led fun a v l => IterW C a v l fun itv v l => CompH C k target ifs scope own frees wr (.dict [] none) inner (fun acc v l => K (.ref acc) v l) itv v l) :
    EvW C (.DictComp kx vx (⟨target, iter, ifs, 0⟩ :: gs) scope pos) vals led K := by
  refine ⟨fun s hs => ?_⟩
  show wpAny _ _ (comprehension (.DictComp kx vx (⟨target, iter, ifs, 0⟩ :: gs) scope pos) scope C.env _ newDict false (eval iter C.env) none) _ _ s
  refine comp_any ok hc rfl hfold X (accO := .dict [] none) (accobj := { cls := .type "dict", data := .dict #[] 0 }) (fun Q s hQ => wpAny_newObj_type hQ) rfl ⟨[], .nil, ⟨#[], 0, ⟨rfl, rfl, rfl⟩, rfl, (fun e he => by simp at he), .nil, List.nodup_nil⟩, fun n e => by cases e⟩ hs h fun acc v l' s' L H O hns hk => ?_
  obtain ⟨m, hm⟩ := hns
  exact ⟨m, hm, fun h' hsb => ⟨.ref acc, v, l', rfl, H.off (tk := s'.toks) O fun b o hb e => (hsb.2 b fun q => hb (q ▸ .head _)).trans e, hk⟩⟩

/-- an object that is off the state may be set onto the ledger -/
theorem St.add {s : Shared} (H : St C vals led s) {a : Addr} {ao : AO} {o : Obj} (O : Off C led [a]) (ho : s.heap.get? a = some o) (hr : OR C.w ao o) : St C vals ((a, ao) :: led) s := by
  obtain ⟨n1, n2, n3, n4⟩ := O a (.head _)
  have := H.change (led' := (a, ao) :: led) (tk := s.toks) (h' := s.heap) (fun b o e => H.keep b o e) (fun a o _ e => ⟨o, e, rfl⟩) (fun p hp => ?_) ?_
  · exact this
  · rcases List.mem_cons.mp hp with rfl | hp
    · exact ⟨⟨o, ho, hr⟩, n1, n3, fun x hx => Ne.symm (n4 x hx)⟩
    · obtain ⟨q1, q2, q3⟩ := H.ledg p hp
      exact ⟨q1, q2, q3, fun a ha => (H.frameB a ha).2.1 p hp⟩
  · rw [List.map_cons, List.nodup_cons]
    refine ⟨fun hm => ?_, H.nd⟩
    obtain ⟨p, hp, e⟩ := List.mem_map.mp hm
    exact n2 p hp e
noncomputable def NsO (o : Obj) : Prop := ∀ (h : Heap) L, h.get? L = some o → ∃ m, h.Ns L m

theorem use_post {y : Str} {py : Pos} {acc L : Addr} {v v2 : Vals} {l' : Ledger} {s' : Shared} {K : AF → Vals → Ledger → Prop} (ok : COk C k) (aw : C.AllWr) (H : St C v l' s') (O : Off C l' [L]) (hns : ∃ m, s'.heap.Ns L m) (hv : SetIs C.names v y (.ref acc) v2) (hk : K .next v2 l') :
    compPost (Md C.w) C.A (fun _ _ => False) (some (assign (.Name y py) C.env)) (fun _ s' => Post C FRel K Flow.next s') (.ref acc) L (.ok .next) s' := by
  obtain ⟨m, o, es, ep, ho, r⟩ := hns
  have H' : St C v ((L, .pred NsO) :: l') s' := H.add O ho (fun h L e => ⟨m, o, es, ep, e, r⟩)
  have T : AsgW C (.Name y py) (.ref acc) v ((L, .pred NsO) :: l') fun v3 l3 => v3 = v2 ∧ l3 = (L, .pred NsO) :: l' := AsgW_Name (StN ok aw hv ⟨rfl, rfl⟩)
  refine (T _ VR.ref).use H' (fun _ s'' _ v3 l3 _ hs3 ⟨e1, e2⟩ => ?_)
  subst e1 e2
  obtain ⟨o3, ho3, hP⟩ := pred_get hs3 (.head _)
  obtain ⟨m3, hm3⟩ := hP _ _ ho3
  refine ⟨m3, hm3, fun h' hsb => ⟨.next, v3, l', rfl, ?_, hk⟩⟩
  have nd := hs3.nd
  simp only [List.map_cons, List.nodup_cons] at nd
  refine (hs3.sub (List.sublist_cons_self _ _)).off (tk := s''.toks) (its := [L]) (fun a ha => ?_) fun b o hb e => (hsb.2 b fun q => hb (q ▸ .head _)).trans e
  rw [List.mem_singleton.mp ha]
  obtain ⟨_, q1, q2⟩ := hs3.ledg _ (.head _)
  exact ⟨q1, fun p hp e => nd.1 (e ▸ List.mem_map_of_mem hp), q2, fun x hx e => (hs3.frameB x hx).2.1 _ (.head _) e.symm⟩

theorem ExW_AssignListComp {y : Str} {py : Pos} {elt target iter : Expr} {ifs : List Expr} {scope : Scope} {pos spos : Pos} (own frees wr : List Str) {K : AF → Vals → Ledger → Prop} (ok : COk C k) (aw : C.AllWr) (hsw : swapsWith (.ListComp elt [⟨target, iter, ifs, 0⟩] scope pos) (some (.Name y py)) spos.line C.env = pure true)
    (hc : CompOk scope C.env own frees wr) (hfold : ∀ x, foldedSetIterable iter C.env x = pure x)
    (h : EvW C iter vals led fun a v l => IterW C a v l fun itv v l => CompH C k target ifs scope own frees wr (.list []) (fun acc env => innerList elt (.ref acc) env) (fun acc v l => ∃ v2, SetIs C.names v y (.ref acc) v2 ∧ K .next v2 l) itv v l) :
    ExW C (.Assign [.Name y py] (.ListComp elt [⟨target, iter, ifs, 0⟩] scope pos) spos) vals led K := by
  refine ⟨fun s hs => ?_⟩
  rw [exec_Assign_Name_used _ _ _ _ hsw]
  refine wpAny_bind (wpAny_standAt (wpAny_bind ?_))
  show wpAny _ _ (do let _ ← comprehension (.ListComp elt [⟨target, iter, ifs, 0⟩] scope pos) scope C.env _ (newList []) false (eval iter C.env) (some (assign (.Name y py) C.env))) _ _ s
  refine wpAny_bind (wpAny_mono (comp_any (Q := fun _ s' => Post C FRel K Flow.next s') (use := some (assign (.Name y py) C.env)) ok hc rfl hfold (fun acc env => shape_list ..) (accO := .list []) (accobj := { cls := .type "list", data := .seq #[] 0 }) (fun Q s hQ => wpAny_newObj_type hQ) rfl ⟨[], 0, .nil, rfl⟩ hs h fun acc v l' s' L H O hns ⟨v2, hv, hk⟩ => ?_) (fun _ s' hq => wpAny_pure (wpAny_pure hq)) fun _ _ e => e)
  exact use_post ok aw H O hns hv hk
theorem ExW_AssignDictComp {y : Str} {py : Pos} {kx vx target iter : Expr} {ifs : List Expr} {gs : List Comprehension} {scope : Scope} {pos spos : Pos} (own frees wr : List Str) {inner : Addr → Env → Sem Unit} {K : AF → Vals → Ledger → Prop} (ok : COk C k) (aw : C.AllWr) (hsw : swapsWith (.DictComp kx vx (⟨target, iter, ifs, 0⟩ :: gs) scope pos) (some (.Name y py)) spos.line C.env = pure true)
    (hc : CompOk scope C.env own frees wr) (hfold : ∀ x, foldedSetIterable iter C.env x = pure x)
    (X : ∀ acc env, Shape (.DictComp kx vx (⟨target, iter, ifs, 0⟩ :: gs) scope pos) 0 target iter ifs (.ref acc) env (inner acc env))
    (h : EvW C iter vals led fun a v l => IterW C a v l fun itv v l => CompH C k target ifs scope own frees wr (.dict [] none) inner (fun acc v l => ∃ v2, SetIs C.names v y (.ref acc) v2 ∧ K .next v2 l) itv v l) :
    ExW C (.Assign [.Name y py] (.DictComp kx vx (⟨target, iter, ifs, 0⟩ :: gs) scope pos) spos) vals led K := by
  refine ⟨fun s hs => ?_⟩
  rw [exec_Assign_Name_used _ _ _ _ hsw]
  refine wpAny_bind (wpAny_standAt (wpAny_bind ?_))
  show wpAny _ _ (do let _ ← comprehension (.DictComp kx vx (⟨target, iter, ifs, 0⟩ :: gs) scope pos) scope C.env _ newDict false (eval iter C.env) (some (assign (.Name y py) C.env))) _ _ s
  refine wpAny_bind (wpAny_mono (comp_any (Q := fun _ s' => Post C FRel K Flow.next s') (use := some (assign (.Name y py) C.env)) ok hc rfl hfold X (accO := .dict [] none) (accobj := { cls := .type "dict", data := .dict #[] 0 }) (fun Q s hQ => wpAny_newObj_type hQ) rfl ⟨[], .nil, ⟨#[], 0, ⟨rfl, rfl, rfl⟩, rfl, (fun e he => by simp at he), .nil, List.nodup_nil⟩, fun n e => by cases e⟩ hs h fun acc v l' s' L H O hns ⟨v2, hv, hk⟩ => ?_) (fun _ s' hq => wpAny_pure (wpAny_pure hq)) fun _ _ e => e)
  exact use_post ok aw H O hns hv hk

-- the tests
theorem TestsW_nil {env : Env} {K : Bool → Vals → Ledger → Prop} (h : K true vals led) : TW C (@Eq Bool) (testsOf [] env) vals led K := .pure' (b := true) h rfl
theorem TestsW_one {c : Expr} {K : Bool → Vals → Ledger → Prop} (h : TrW C c vals led K) : TW C (@Eq Bool) (testsOf [c] C.env) vals led K :=
  ⟨fun s hs => by
    unfold testsOf
    rw [List.forIn_cons, if_pos rfl]
    refine wpAny_bind (wpAny_bind (wpAny_mono (h.run s hs) (fun b s₁ hb => wpAny_pure ?_) fun _ _ x => x))
    simp only [List.forIn_nil]
    exact wpAny_pure hb⟩
-- the inner parts
theorem InnerW_list {elt : Expr} {acc : Addr} {K : Unit → Vals → Ledger → Prop} (h : EvW C elt vals led fun a v l => CallW C (.blt "list.append") [.ref acc, a] v l fun _ v l => K () v l) : UW C (innerList elt (.ref acc) C.env) vals led K :=
  ⟨fun s hs => wpAny_bind (h.use hs (fun u s₁ a v l hr hs₁ hk => wpAny_bind ((hk _ _ VR.blt (.cons VR.ref (.cons hr .nil))).use hs₁ (fun _ s₂ _ v₂ l₂ _ hs₂ hk₂ => wpAny_pure ⟨(), v₂, l₂, trivial, hs₂, hk₂⟩))))⟩
theorem InnerW_dict {kx vx : Expr} {D : Addr} {K : Unit → Vals → Ledger → Prop} (h : EvW C kx vals led fun a v l => EvW C vx v l fun b v l => Ex4 fun x es ep led' => An5 (a = .str x) ((D, AO.dict es ep) ∈ l) (es.length ≤ 1000) (Upd D (.dict (dput es x b) none) l led') (K () v led')) :
    UW C (innerDict kx vx D C.env) vals led K := by
  refine ⟨fun s hs => ?_⟩
  unfold innerDict
  refine wpAny_bind (h.use hs (fun u s₁ a v l hr hs₁ hk => wpAny_bind (wpAny_holding (hk.use hs₁ (fun u₂ s₂ b v₂ l₂ hr₂ hs₂ hk₂ => ?_)))))
  obtain ⟨x, es, ep, led', rfl, hm, hlen, U, hK⟩ := hk₂
  obtain ⟨t, rfl⟩ := hr
  obtain ⟨kvs, hv, hd⟩ := hs₂.dict hm
  exact wpAny_bind (wpAny_standAt (wpAny_holding (wpAny_dictSet_pairs (hsz := by rw [sizeLine_eq, hv.length]; (first | lia | omega)) (strKind_is _ _ _ _) hd fun h' hd' hs' => ⟨(), v₂, led', trivial, hs₂.updDict U (hv.put hr₂) hd' hs', hK⟩)))
theorem InnerW_nest {e t2 i2 iter : Expr} {f2 : List Expr} {d : Nat} {acc : Addr} {inner : Sem Unit} {K : Unit → Vals → Ledger → Prop} (ok : COk C k) (X : Shape e (d + 1) t2 iter f2 (.ref acc) C.env inner) (hfold : ∀ x, foldedSetIterable i2 C.env x = pure x)
    (h : EvW C i2 vals led fun a v l => IterW C a v l fun itv v l => Ex6 fun it its xs src l0 J => An4 (itv = .ref it) (IterAt C t2 it its xs src l l0) (CompK C k t2 f2 inner xs src v l0 J) (∀ v' l', J xs.length v' l' → K () v' l')) :
    UW C (innerNest e d i2 (.ref acc) C.env) vals led K := by
  refine ⟨fun s hs => ?_⟩
  unfold innerNest
  refine wpAny_bind (h.use hs (fun u s₁ a v l hr hs₁ hk => wpAny_bind (wpAny_standAt (wpAny_bind (wpAny_of_eq (hfold u) (wpAny_bind (wpAny_holding ((hk u hr).use hs₁ (fun itw s₂ itv v₂ l₂ hr₂ hs₂ ⟨it, its, xs, src, l0, J, e₂, A, F, hfin⟩ => ?_)))))))))
  subst e₂
  cases hr₂
  obtain ⟨S, I, hS⟩ := A.spec
  refine wpAny_bind (wpAny_runOwn (comp_core ok X (I C rfl rfl) F (hs₂.sub A.sub) (hS _ _ hs₂) (A.off hs₂) fun s' v' l' H' hJ => ?_))
  exact wpAny_pure ⟨(), v', l', trivial, H', hfin v' l' hJ⟩
theorem FVals.mk {ns : List Str} {vs : Vals} {x : Str} {a : AV} {r : List Str} {fv : Vals} (h : VarIs ns vs x a) (hr : FVals ns vs r fv) : FVals ns vs (x :: r) (some a :: fv) := let ⟨i, h1, h2⟩ := h.both; .cons i h1 h2 hr
/-- the names of a frame that may be stored -/
theorem StNw {x : Str} {a : AV} {vals' : Vals} {K : Vals → Ledger → Prop} (ok : COk C k) (hw : C.Wr x) (hv : SetIs C.names vals x a vals') (h : K vals' led) : StoW C x a vals led K :=
  let ⟨i, h1, h2⟩ := hv.both; StoW_ i ok h1 hw h2 h
end
end Mine

-- part M16
namespace Mine
open PySem PySem.Calls PySem.W PyProof.Rows PySem.Builtin PySem.Builtin.ObjectAttr PySem.Builtin.Getset_descriptor

theorem isStr_of (v : Value) (x : Str) : v.isStr x = Value.isStrOf x v := by cases v <;> rfl

theorem dict_keys_str {w : World} {es : Array DictEntry} (hk : KeysOf (strKind Pr w) es) : es.toList.any (·.refKey) = false := by
  rw [Array.any_toList, Array.any_eq_false']
  intro e he
  obtain ⟨k, hk, _⟩ := hk e he
  obtain ⟨t, ht⟩ := Value.isStrOf_shape hk
  simp [DictEntry.refKey, ht]
theorem lookIn_dict {w : World} {o : Obj} {kvs : List (Str × Value)} (hd : o.IsDictOf (strKind Pr w) kvs) (x : Str) : lookIn x o = some (valueAt kvs x) := by
  obtain ⟨es, ep, _, hdat, hk, hp, _⟩ := hd
  unfold lookIn
  rw [hdat]
  dsimp only
  have hf := hp.find x
  have e : (es.toList.find? fun e => e.key.isStr x) = es.toList.find? fun e => (strKind Pr w).is x e.key := by congr 1; funext e; exact isStr_of _ _
  rw [e]
  cases q : es.toList.find? fun e => (strKind Pr w).is x e.key with
  | some en => rw [q] at hf; simp only [Option.map_some] at hf; rw [← hf]
  | none => rw [q] at hf; simp only [Option.map_none] at hf; rw [← hf, dict_keys_str hk]; rfl
theorem put_dict {w : World} {o : Obj} {kvs : List (Str × Value)} (hd : o.IsDictOf (strKind Pr w) kvs) (x : Str) (t : Tok) (v : Value) :
    (Obj.putName x (PyData.keyHash w.params x) (.str x t) v o).IsDictOf (strKind Pr w) (stored kvs x v) ∧ (Obj.putName x (PyData.keyHash w.params x) (.str x t) v o).isFreed = false := by
  obtain ⟨es, ep, hc, hdat, hk, hp, hn⟩ := hd
  obtain ⟨oc, od, dt, sl⟩ := o
  subst hdat
  rw [Obj.putName_eq]
  unfold Obj.putNameByArray
  dsimp only
  have e : (fun e : DictEntry => e.key.isStr x) = fun e => (strKind Pr w).is x e.key := by funext e; exact isStr_of _ _
  rw [e]
  have hidx : (es.findIdx? fun e => (strKind Pr w).is x e.key) = kvs.findIdx? fun kv => decide (kv.1 = x) := by
    rw [← hp.findIdx x]; obtain ⟨l⟩ := es; simp
  cases hi : es.findIdx? fun e => (strKind Pr w).is x e.key with
  | some i =>
    dsimp only
    refine ⟨⟨_, ep, hc, rfl, hk.modify _ _, ?_, ?_⟩, rfl⟩
    · rw [stored, if_pos (any_of_findIdx_some (hidx ▸ hi))]
      have hl : (es.toList.findIdx? fun e => (strKind Pr w).is x e.key) = some i := by rw [← hi]; obtain ⟨l⟩ := es; simp
      have := hp.modify hn hl v
      obtain ⟨l⟩ := es
      simpa using this
    · rw [stored, if_pos (any_of_findIdx_some (hidx ▸ hi)), keys_map_store]; exact hn
  | none =>
    have hnot : x ∉ kvs.map (·.1) := not_mem_of_findIdx_none (hidx ▸ hi)
    have hany : ¬ (kvs.any fun kv => decide (kv.1 = x)) = true := by
      rw [List.any_eq_true]; rintro ⟨kv, hkv, he⟩
      exact hnot (List.mem_map.mpr ⟨kv, hkv, of_decide_eq_true he⟩)
    dsimp only
    have hkey : (strKind Pr w).is x (.str x t) = true := strKind_is _ _ _ _
    refine ⟨⟨_, ep + 1, hc, rfl, hk.push hkey _, ?_, ?_⟩, rfl⟩
    · rw [stored, if_neg hany]
      have := hp.append hkey (PyData.keyHash w.params x) v
      obtain ⟨l⟩ := es
      simpa using this
    · rw [stored, if_neg hany, List.map_append, List.nodup_append]
      refine ⟨hn, by simp, ?_⟩
      intro a ha b hb
      simp only [List.map_cons, List.map_nil, List.mem_singleton] at hb
      subst hb
      exact fun e => hnot (e ▸ ha)

section
variable {w : World} {A : Around} {E : Value → Shared → Prop} {s : Shared} {K : Frag} {x C : Addr} {R : Result → Shared → Prop}
/-- a store into the own dict of an object -/
theorem osa_any {ox od : Obj} {dx : Addr} {name : Str} {tk : Tok} {v : Value} {kvs : List (Str × Value)} (X : K.In s.heap)
    (I : InstAt s.heap x ox C (some od)) (hd : ox.dict = some dx) (hp : plainOver K C = true) (ht : takerIn K C name = some none) (hh : (clsIn K C).any (·.hasDict) = true)
    (hD : od.IsDictOf (strKind Pr w) kvs) (hz : kvs.length ≤ 1000)
    (h : ∀ h' o', h'.get? dx = some o' → o'.IsDictOf (strKind Pr w) (stored kvs name v) → Heap.SameBut dx s.heap h' → R (.ok (.ret .none)) { s with heap := h', toks := s.toks + 1 }) :
    codeAny (Md w) A (.call (.builtin "object.__setattr__") ⟨[.ref x, .str name tk, v], []⟩) R s := by
  refine osa_open X I hp ht fun b => ?_
  obtain ⟨cd, hc, hd'⟩ := any_some hh
  obtain ⟨hx, hcl, hn, hdd⟩ := I
  obtain ⟨oc, odi, oda, osl⟩ := ox
  dsimp only at hcl hd hdd
  subst hcl hd
  have D : s.heap.get? dx = some od := hdd
  obtain ⟨hput, hfr⟩ := put_dict hD name s.toks v
  refine wpAny_bind (wpAny_pure (wpAny_bind (wpAny_bind (wpAny_loadPart hx (wpAny_bind ((looks_clsIn X hc).here ?_))))))
  rw [hd']
  refine wpAny_pure (a := some dx) (wpAny_bind (wpAny_pure (wpAny_bind ?_)))
  unfold nsSet
  refine wpAny_bind (wpAny_bind (wpAny_askSetting (wpAny_pure (wpAny_bind (wpAny_mkText (wpAny_bind (wpAny_loadPart D ?_)))))))
  obtain ⟨es₀, n₀, q1, q, hk, hpr, hnd⟩ := id hD
  rw [q]
  dsimp only
  have c : (!es₀.any (·.key.isStr name) && es₀.any (·.refKey)) = false := by
    have := dict_keys_str hk
    rw [Array.any_toList] at this
    rw [this, Bool.and_false]
  rw [aRefKeyMayBeTheName_at, c]
  refine wpAny_updatePart D ?_
  have D' := Heap.get?_update_self (Obj.putName name (PyData.keyHash w.params name) (.str name s.toks) v) D hfr
  obtain ⟨es₁, n₁, p1, p2, _, hpr1, _⟩ := id hput
  have hlen : es₁.size ≤ 1001 := by
    have e1 := hpr1.length
    have e2 := stored_length_le kvs name v
    simp only [Array.length_toList] at e1
    (first | lia | omega)
  refine wpAny_bind (wpAny_lookBehind D' (by rw [p2]; exact pastItsLine_dict (by rw [sizeLine_eq]; (first | lia | omega))) ?_)
  exact wpAny_pure (h _ _ D' hput (Heap.SameBut.update ..))
/-- a store into a slot -/
theorem slot_any {ox : Obj} {od : Option Obj} {v : Value} {p i : Nat} (X : K.In s.heap) (I : InstAt s.heap x ox C od)
    (hp : slotIn K p C = some i) (hi : i < 1000) (hf : ∀ sl, ({ ox with slots := sl } : Obj).isFreed = false)
    (h : ∀ h', h'.get? x = some { ox with slots := (ox.slots ++ Array.replicate (i + 1 - ox.slots.size) none).setIfInBounds i (some v) } → Heap.SameBut x s.heap h' → R (.ok (.ret .none)) { s with heap := h' }) :
    codeAny (Md w) A (.call (.builtin "member_descriptor.__set__") ⟨[.ref p, .ref x, v], []⟩) R s := by
  obtain ⟨n, tn, owner, behind, tb, d, sl, cd, ho, hc, hm, hb, rfl⟩ := slot_of X hp
  obtain ⟨hh, g, dr, t, os⟩ := s
  have L0 := I.type (M := Md w)
  have L1 := looks_mroIn (M := Md w) X hm
  have L2 : Looks (Md w) hh (Builtin.Slots.slotNamesOf (.ref C)) cd.slotNames := (looks_clsIn X hc).andThen .now
  have hx := I.at_
  dsimp only at ho hx L0 L1
  have f0 := looks_field (M := Md w) ho 0 (v := .str n tn) rfl
  have f1 := looks_field (M := Md w) ho 1 (v := owner) rfl
  have f3 := looks_field (M := Md w) ho 3 (v := .builtin "proto.slot#set") rfl
  have f4 := looks_field (M := Md w) ho 4 (v := .int behind tb) rfl
  refine codeAny_call_builtin KF.slot_mset.plain KF.entry_mset (KF.slot_mset.check _ _ _ _ _ _ _ _ ⟨_, ho, rfl⟩ (KF.args_mset _ _ _) ?_)
  unfold Builtin.«member_descriptor.__set__» descrSet descrStoreThrough descrCheckInstance descrNameAndClass isInstance
  have f5 : Looks (Md w) hh (descrItself (.ref p)) [.ref p] := ((Looks.ld (part := none) ho).andThen .now).andThen (Looks.of_pure (by kernel_rfl))
  repeat lk
  refine ⟨Code.quiet_builtin _ (by decide +kernel), codeAny_builtin KF.entry_slotset ?_⟩
  unfold Builtin.«proto.slot#set» Builtin.Slots.target
  repeat lk
  rw [if_neg hb]
  refine wpAny_pure (wpAny_bind ?_)
  unfold setSlotAt
  dsimp only
  rw [if_neg (by rw [sizeLine_eq]; (first | lia | omega))]
  exact wpAny_updatePart hx (wpAny_pure (h _ (Heap.get?_update_self _ hx (hf _)) (Heap.SameBut.update ..)))
end
end Mine

-- part M17
namespace Mine
open PySem PySem.Calls PySem.W PyProof.Rows

theorem VR.handed {a : AV} {v : Value} (h : VR a v) (hb : ∀ n, a ≠ .blt n) : handedIn v = true := by
  cases a <;> simp only [VR] at h
  · subst h; rfl
  · subst h; rfl
  · obtain ⟨_, rfl⟩ := h; rfl
  · obtain ⟨_, rfl⟩ := h; rfl
  · subst h; rfl
  · subst h; rfl
  · exact absurd rfl (hb _)
noncomputable def AO.notBlt : AV → Bool
  | .blt _ => false
  | _ => true
theorem OVRs.get {as : List (Option AV)} {vs : List (Option Value)} {i : Nat} {a : AV} (h : OVRs as vs) (e : as[i]? = some (some a)) : ∃ v, vs[i]? = some (some v) ∧ VR a v := by
  induction h generalizing i with
  | nil => cases e
  | cons h _ ih =>
    cases i with
    | zero => cases e; cases h with | some hr => exact ⟨_, rfl, hr⟩
    | succ i => exact ih (i := i) e
theorem OVRs.length {as vs} (h : OVRs as vs) : vs.length = as.length := by
  induction h with
  | nil => rfl
  | cons _ _ ih => simp only [List.length_cons, ih]
theorem OVRs.append {xs ys : List (Option AV)} {vs us : List (Option Value)} (h : OVRs xs vs) (h' : OVRs ys us) : OVRs (xs ++ ys) (vs ++ us) := by
  induction h with
  | nil => exact h'
  | cons h0 _ ih => exact .cons h0 ih
theorem OVRs.nones : ∀ n, OVRs (List.replicate n none) (List.replicate n none)
  | 0 => .nil
  | n + 1 => .cons .none (OVRs.nones n)
theorem OVRs.set {xs : List (Option AV)} {vs : List (Option Value)} {i : Nat} {a : AV} {v : Value} (h : OVRs xs vs) (hr : VR a v) : OVRs (xs.set i (some a)) (vs.set i (some v)) := by
  induction h generalizing i with
  | nil => exact .nil
  | cons h0 h ih =>
    cases i with
    | zero => exact .cons (.some hr) h
    | succ i => exact .cons h0 ih
/-- a slot set -/
noncomputable def sput (vs : List (Option AV)) (i : Nat) (a : AV) : List (Option AV) := (vs ++ List.replicate (i + 1 - vs.length) none).set i (some a)

section
variable {C : Cx} {vals : Vals} {led : Ledger} {k : Nat}
theorem St.inst {s : Shared} (H : St C vals led s) {x d c : Addr} {es : List (Str × AV)} {ep : Option Nat} (hx : (x, AO.inst c d) ∈ led) (hd : (d, AO.dict es ep) ∈ led) :
    ∃ od kvs, KVR es kvs ∧ od.IsDictOf (strKind Pr C.w) kvs ∧ InstAt s.heap x ⟨.ref c, some d, .plain, #[]⟩ c (some od) := by
  obtain ⟨o, ho, rfl⟩ := H.get hx
  obtain ⟨od, hod, kvs, h1, h2, _⟩ := H.get hd
  exact ⟨od, kvs, h1, h2, ho, rfl, rfl, hod⟩
theorem St.slots {s : Shared} (H : St C vals led s) {x d c : Addr} {vs : List (Option AV)} {es : List (Str × AV)} {ep : Option Nat} (hx : (x, AO.slots c d vs) ∈ led) (hd : (d, AO.dict es ep) ∈ led) :
    ∃ od sl, OVRs vs sl ∧ InstAt s.heap x ⟨.ref c, some d, .plain, sl.toArray⟩ c (some od) := by
  obtain ⟨o, ho, sl, h1, rfl⟩ := H.get hx
  obtain ⟨od, hod, kvs, _⟩ := H.get hd
  exact ⟨od, sl, h1, ho, rfl, rfl, hod⟩

/-- what is known of a class: reads of a name that only the own dict holds -/
noncomputable def attrIn (K : Frag) (c : Addr) (name : Str) : Bool :=
  (findIn K (.ref c) "__getattribute__" == some (some (.builtin "object.__getattribute__"))) && ((clsIn K c).any (·.hasDict)) && (findIn K (.ref c) name == some none)
theorem findObj_own {K : Frag} {c : Addr} {o : Obj} {name : Str} {v : Value} (hh : (clsIn K c).any (·.hasDict) = true) (hn : findIn K (.ref c) name = some none) (hl : lookIn name o = some (some v)) : findObj K c (some o) name = some (.value v) := by
  obtain ⟨cd, hc, hd⟩ := any_some hh
  unfold findObj
  rw [hc, Option.bind_some, hn, Option.bind_some]
  simp only [Option.bind_some]
  unfold W.ownOf
  rw [hd, if_pos rfl]
  dsimp only
  rw [hl, Option.bind_some]
theorem GetAW_inst {x d c : Addr} {es : List (Str × AV)} {ep : Option Nat} {name : Str} {a : AV} {K : AV → Vals → Ledger → Prop} (ok : COk C k) (hx : (x, AO.inst c d) ∈ led) (hd : (d, AO.dict es ep) ∈ led) (hat : attrIn (KH C.w) c name = true) (hg : dget es name = some a) (hb : ∀ n, a ≠ .blt n)
    (h : K a vals led) : GetAW C (.ref x) name vals led K := by
  rintro _ rfl
  refine ⟨fun s hs => ?_⟩
  obtain ⟨od, kvs, hv, hD, I⟩ := hs.inst hx hd
  simp only [attrIn, Bool.and_eq_true, beq_iff_eq] at hat
  have hg' := hv.get name
  rw [hg] at hg'
  cases q : valueAt kvs name with
  | none => rw [q] at hg'; cases hg'
  | some v =>
    rw [q] at hg'
    cases hg' with
    | some hr => exact get_value (ok.here hs).1 I hat.1.1 (findObj_own hat.1.2 hat.2 (by rw [lookIn_dict hD, q])) (hr.handed hb) ⟨a, vals, led, hr, hs.tok _, h⟩
noncomputable def storeIn (K : Frag) (c : Addr) (name : Str) : Bool :=
  (findIn K (.ref c) "__setattr__" == some (some (.builtin "object.__setattr__"))) && plainOver K c && (takerIn K c name == some none) && (clsIn K c).any (·.hasDict)
theorem SetAW_inst {x d c : Addr} {es : List (Str × AV)} {ep : Option Nat} {name : Str} {a : AV} {led' : Ledger} {K : Vals → Ledger → Prop} (ok : COk C k) (hx : (x, AO.inst c d) ∈ led) (hd : (d, AO.dict es ep) ∈ led) (hat : storeIn (KH C.w) c name = true) (hz : es.length ≤ 1000)
    (U : Upd d (.dict (dput es name a) none) led led') (h : K vals led') : SetAW C (.ref x) name a vals led K := by
  rintro _ v rfl hv
  refine ⟨fun s hs => ?_⟩
  obtain ⟨od, kvs, hkv, hD, I⟩ := hs.inst hx hd
  simp only [storeIn, Bool.and_eq_true, beq_iff_eq] at hat
  refine set_plain (ok.here hs).1 I hat.1.1.1 (osa_any (s := { s with toks := s.toks + 1 }) (ok.here hs).1 I rfl hat.1.1.2 hat.1.2 hat.2 hD (by rw [hkv.length]; exact hz) fun h' o' ho' hD' hsb => ?_)
  exact ⟨(), vals, led', trivial, hs.upd (tk := s.toks + 1 + 1) (o := o') U (fun b o hb e => (hsb.2 b hb).trans e) ho' ⟨_, hkv.put hv, hD', fun n e => by cases e⟩, h⟩

/-- slots: the descriptor p of the name is the i-th -/
noncomputable def slotAttr (K : Frag) (c p : Addr) (name : Str) (i : Nat) : Bool :=
  (findIn K (.ref c) "__getattribute__" == some (some (.builtin "object.__getattribute__"))) && (findIn K (.ref c) name == some (some (.ref p))) && (specialIn K (.ref p) "__get__" == some (some (.builtin "member_descriptor.__get__"))) &&
  (takesIn K (.ref p) == some true) && (findIn K (.ref c) "__getattr__" == some none) && (slotIn K p c == some i) && (clsIn K c).isSome
theorem GetAW_slot {x d c p : Addr} {i : Nat} {vs : List (Option AV)} {es : List (Str × AV)} {ep : Option Nat} {name : Str} {a : AV} {K : AV → Vals → Ledger → Prop} (ok : COk C k) (hx : (x, AO.slots c d vs) ∈ led) (hd : (d, AO.dict es ep) ∈ led) (hat : slotAttr (KH C.w) c p name i = true) (hg : vs[i]? = some (some a)) (hb : ∀ n, a ≠ .blt n)
    (h : K a vals led) : GetAW C (.ref x) name vals led K := by
  rintro _ rfl
  refine ⟨fun s hs => ?_⟩
  obtain ⟨od, sl, hv, I⟩ := hs.slots hx hd
  simp only [slotAttr, Bool.and_eq_true, beq_iff_eq] at hat
  obtain ⟨⟨⟨⟨⟨⟨q1, q2⟩, q3⟩, q4⟩, q5⟩, q6⟩, q7⟩ := hat
  obtain ⟨v, hvi, hr⟩ := hv.get hg
  obtain ⟨cd, hcd⟩ := Option.isSome_iff_exists.mp q7
  have hf : findObj (KH C.w) c (some od) name = some (.bind (.builtin "member_descriptor.__get__") (.ref p)) := by
    unfold findObj
    rw [hcd, Option.bind_some, q2, Option.bind_some]
    dsimp only
    rw [q3, Option.bind_some]
    dsimp only
    rw [q4, Option.bind_some]
  refine get_bind (ok.here hs).1 I q1 hf q5 ?_
  refine wpAny_call (slot_get (s := { s with toks := s.toks + 1 }) (ok.here hs).1 I q6 (v := v) ?_ ?_)
  · simp [hvi]
  · have := hr.handed hb
    show wpAny _ _ (handedOut v) _ _ _
    rw [handedOut_of this]
    exact wpAny_pure ⟨a, vals, led, hr, hs.tok _, h⟩
noncomputable def slotStore (K : Frag) (c p : Addr) (name : Str) (i : Nat) : Bool :=
  (findIn K (.ref c) "__setattr__" == some (some (.builtin "object.__setattr__"))) && plainOver K c && (takerIn K c name == some (some (.ref p))) && (typeIn K (.ref p) == some (.type "member_descriptor")) && (slotIn K p c == some i)
theorem SetAW_slot {x d c p : Addr} {i : Nat} {vs : List (Option AV)} {es : List (Str × AV)} {ep : Option Nat} {name : Str} {a : AV} {led' : Ledger} {K : Vals → Ledger → Prop} (ok : COk C k) (hx : (x, AO.slots c d vs) ∈ led) (hd : (d, AO.dict es ep) ∈ led) (hat : slotStore (KH C.w) c p name i = true) (hi : i < 1000)
    (U : Upd x (.slots c d (sput vs i a)) led led') (h : K vals led') : SetAW C (.ref x) name a vals led K := by
  rintro _ v rfl hv
  refine ⟨fun s hs => ?_⟩
  obtain ⟨od, sl, hvs, I⟩ := hs.slots hx hd
  simp only [slotStore, Bool.and_eq_true, beq_iff_eq] at hat
  obtain ⟨⟨⟨⟨q1, q2⟩, q3⟩, q4⟩, q5⟩ := hat
  refine set_plain (ok.here hs).1 I q1 (osa_descr (s := { s with toks := s.toks + 1 }) KF.slot_mset (ok.here hs).1 I q2 q3 q4 (slot_any (s := { s with toks := s.toks + 1 }) (ok.here hs).1 I q5 hi (fun _ => rfl) fun h' ho' hsb => ?_))
  refine ⟨(), vals, led', trivial, hs.upd (tk := s.toks + 1) U (fun b o hb e => (hsb.2 b hb).trans e) ho' ⟨_, (hvs.append (OVRs.nones (i + 1 - vs.length))).set (i := i) hv, ?_⟩, h⟩
  simp only [hvs.length, List.size_toArray]
  have e : ∀ (l : List (Option Value)) (n : Nat), (l.toArray ++ Array.replicate n none).setIfInBounds i (some v) = ((l ++ List.replicate n none).set i (some v)).toArray := by
    intro l n
    rw [← List.toArray_replicate, List.append_toArray, List.setIfInBounds_toArray]
  rw [e]

theorem EvW_Attr {value : Expr} {attr : Str} {pos : Pos} {K : AV → Vals → Ledger → Prop} (he : eval (.Attribute value attr pos) C.env = (do
      let o ← eval value C.env
      standAt pos.atName
      let r ← holding [o] (getAttr o attr true)
      letTemporaryGo value o r
      pure r)) (h : EvW C value vals led (GetK C attr K)) : EvW C (.Attribute value attr pos) vals led K :=
  ⟨fun s hs => Attribute_any_ (h.use hs (fun u s₁ b v l hr hs₁ hk => (hk u hr).run s₁ hs₁)) he⟩
theorem AsgW_Attr {o : Expr} {attr : Str} {pos : Pos} {a : AV} {K : Vals → Ledger → Prop} (h : EvW C o vals led (SatK C attr a K)) : AsgW C (.Attribute o attr pos) a vals led K := by
  intro va hva
  refine ⟨fun s hs => ?_⟩
  rw [arm_assign_Attribute]
  exact wpAny_bind (wpAny_holding (h.use hs (fun u s₁ b v l hr hs₁ hk => wpAny_bind (wpAny_standAt (wpAny_bind (wpAny_holding (wpAny_mono ((hk u va hr hva).run s₁ hs₁) (fun _ s₂ h₂ => wpAny_release h₂) fun _ _ x => x)))))))
theorem AsgW_Sub {o i : Expr} {pos : Pos} {a : AV} {K : Vals → Ledger → Prop} (h : EvW C o vals led (EvTK2 C i a K)) : AsgW C (.Subscript o i pos) a vals led K := by
  intro va hva
  refine ⟨fun s hs => ?_⟩
  rw [arm_assign_Subscript]
  exact wpAny_bind (wpAny_holding (h.use hs (fun u s₁ b v l hr hs₁ hk => wpAny_bind (wpAny_holding (hk.use hs₁ (fun u₂ s₂ c v₂ l₂ hr₂ hs₂ hk₂ =>
    wpAny_bind (wpAny_standAt (wpAny_bind (wpAny_holding (wpAny_mono ((hk₂ u u₂ va hr hr₂ hva).run s₂ hs₂) (fun _ s₃ h₃ => wpAny_release h₃) fun _ _ x => x))))))))))
/-- an assignment to one target -/
theorem ExW_Assign1 {t value : Expr} {pos : Pos} {K : AF → Vals → Ledger → Prop} (hs : swapsWithSole [t] value pos.line C.env = pure false) (hw : swappedStores [t] value C.env = pure none) (hst : (assignEach [t] C.env).map (·.2) = [assign t C.env])
    (h : EvW C value vals led (AsgK C t (NxK K))) : ExW C (.Assign [t] value pos) vals led K := by
  refine ⟨fun s h0 => ?_⟩
  rw [exec_Assign, hs, hst]
  refine wpAny_bind (wpAny_standAt (wpAny_bind (wpAny_pure ?_)))
  rw [if_neg (by decide)]
  refine wpAny_bind (h.use h0 (fun u s₁ b v l hr hs₁ hk => ?_))
  rw [hw]
  refine wpAny_bind (wpAny_pure ?_)
  show wpAny _ _ (do assignAll u [assign t C.env]; pure Flow.next) _ _ s₁
  exact wpAny_bind ((hk u hr).use hs₁ (fun _ s₂ _ v₂ l₂ _ hs₂ hk₂ => wpAny_pure ⟨.next, v₂, l₂, rfl, hs₂, hk₂⟩))
/-- t = u = value -/
theorem ExW_Assign2 {t u value : Expr} {pos : Pos} {K : AF → Vals → Ledger → Prop} (e : swappedStores [t, u] value C.env = pure none) (hst : (assignEach [t, u] C.env).map (·.2) = [assign t C.env, assign u C.env])
    (h : EvW C value vals led (AsgK2 C t u K)) : ExW C (.Assign [t, u] value pos) vals led K := by
  refine ⟨fun s h0 => ?_⟩
  rw [exec_Assign, hst]
  refine wpAny_bind (wpAny_standAt (wpAny_bind (wpAny_pure ?_)))
  rw [if_neg (by decide)]
  refine wpAny_bind (h.use h0 (fun w s₁ b v l hr hs₁ hk => ?_))
  rw [e]
  refine wpAny_bind (wpAny_pure ?_)
  show wpAny _ _ (do assignAll w [assign t C.env, assign u C.env]; pure Flow.next) _ _ s₁
  refine wpAny_bind ?_
  show wpAny _ _ (do holding [w] (assign t C.env w); assignAll w [assign u C.env]) _ _ s₁
  refine wpAny_bind (wpAny_holding ((hk w hr).use hs₁ (fun _ s₂ _ v₂ l₂ _ hs₂ hk₂ => ?_)))
  show wpAny _ _ (assign u C.env w) _ _ s₂
  exact (hk₂ w hr).use hs₂ (fun _ s₃ _ v₃ l₃ _ hs₃ hk₃ => wpAny_pure ⟨.next, v₃, l₃, rfl, hs₃, hk₃⟩)
theorem ExW_AugAttr {o value : Expr} {attr : Str} {tpos pos : Pos} {op : Operator} {K : AF → Vals → Ledger → Prop}
    (h : EvW C o vals led (AagK C attr op value K)) : ExW C (.AugAssign (.Attribute o attr tpos) op value pos) vals led K :=
  ⟨fun s hs => wpAny_AugAssign_AttributeAny (h.use hs (fun u s₁ b v l hr hs₁ hk => (hk u hr).use hs₁ (fun u₂ s₂ b₂ v₂ l₂ hr₂ hs₂ hk₂ => hk₂.use hs₂ (fun u₃ s₃ b₃ v₃ l₃ hr₃ hs₃ hk₃ =>
    (hk₃ u₂ u₃ hr₂ hr₃).use hs₃ (fun u₄ s₄ b₄ v₄ l₄ hr₄ hs₄ hk₄ => (hk₄ u u₄ hr hr₄).use hs₄ (fun _ s₅ _ v₅ l₅ _ hs₅ hk₅ => ⟨.next, v₅, l₅, rfl, hs₅, hk₅⟩))))))⟩

/-- a method of a class -/
noncomputable def methIn (K : Frag) (c f : Addr) (name : Str) : Bool :=
  (findIn K (.ref c) "__getattribute__" == some (some (.builtin "object.__getattribute__"))) && (findIn K (.ref c) "__getattr__" == some none) && (findIn K (.ref c) name == some (some (.ref f))) && (typeIn K (.ref f) == some (.type "function"))
theorem EvW_MethF {o : Expr} {name : Str} {apos pos : Pos} {args : List Expr} {pl : Sem Bool} {K : AV → Vals → Ledger → Prop}
    (he : eval (.Call (.Attribute o name apos) args [] pos) C.env = (do
      let ov ← eval o C.env
      standAt apos.atName
      let (f, first) ← holding [ov] (getMethod ov name pl)
      callWith pos f first (backTo pos (starEach args C.env)) []))
    (h : EvW C o vals led fun a v l => Ex6 fun x c d es ep f => An6 (a = .ref x) ((x, AO.inst c d) ∈ l) ((d, AO.dict es ep) ∈ l) (methIn (KH C.w) c f name = true) (dget es name = none) (CWW C pos (.ref f) [a] args v l K)) (ok : COk C k) : EvW C (.Call (.Attribute o name apos) args [] pos) vals led K := by
  refine ⟨fun s hs => MethodCall_ (h.use hs (fun u s₁ b v l hr hs₁ ⟨x, c, d, es, ep, f, e, hx, hd, hm, hg, hk⟩ => ?_)) he⟩
  subst e
  cases hr
  obtain ⟨od, kvs, hv, hD, I⟩ := hs₁.inst hx hd
  simp only [methIn, Bool.and_eq_true, beq_iff_eq] at hm
  obtain ⟨⟨⟨q1, q2⟩, q3⟩, q4⟩ := hm
  refine method_fn (ok.here hs₁).1 I q1 q2 q3 q4 ?_ ((hk _ _ VR.ref (.cons VR.ref .nil)).run s₁ hs₁)
  show (lookIn name od).map (·.isSome) = some false
  rw [lookIn_dict hD]
  have hg' := hv.get name
  rw [hg] at hg'
  generalize valueAt kvs name = q at hg'
  cases hg'
  rfl
noncomputable abbrev Cx.made (C : Cx) (c : Addr) (vs : List Value) : Cx := { C with A := C.A.under (.builtin "type.__call__" ⟨.ref c :: vs, []⟩) }
theorem made_weight (c : Addr) (vs : List Value) : (Code.builtin "type.__call__" ⟨.ref c :: vs, []⟩).weight = 1 := by kernel_rfl
theorem made_units (c : Addr) (vs : List Value) : (Code.builtin "type.__call__" ⟨.ref c :: vs, []⟩).cUnits = 1 := by kernel_rfl
theorem made_envs (c : Addr) (vs : List Value) : (Code.builtin "type.__call__" ⟨.ref c :: vs, []⟩).envs = [] := by kernel_rfl
theorem COk.made (ok : COk C (k + 1)) (c : Addr) (vs : List Value) : COk (C.made c vs) k := by
  refine ⟨ok.base, ok.hand, ?_, ?_, ok.kind, ok.glob, ok.bu, ok.nodup, ok.wnodup, ok.ndbg, ?_⟩
  · show C.A.depth + Code.weight _ + k ≤ 900
    rw [made_weight]; have := ok.depth; (first | lia | omega)
  · show C.A.units + Code.cUnits _ + 10 * k ≤ 9000
    rw [made_units]; have := ok.units; (first | lia | omega)
  · obtain ⟨fs, hfs, hF⟩ := ok.frames
    refine ⟨fs, ?_, hF⟩
    simp only [Cx.made, Around.under, made_envs, hfs]
    rfl
noncomputable def CodeW (C : Cx) (f : AV) (as : List AV) (vals : Vals) (led : Ledger) (K : AV → Vals → Ledger → Prop) : Prop := ∀ fv vs, VR f fv → VRs as vs → ∀ s, St C vals led s →
  codeAny (Md C.w) C.A (.call fv ⟨vs, []⟩) (fun r s' => match r with | .ok (.ret v) => Post C VR K v s' | .ok _ => False | .error e => False) s
theorem CodeW.call {f : AV} {as : List AV} {K : AV → Vals → Ledger → Prop} (h : CodeW C f as vals led K) : CallW C f as vals led K := fun fv vs hf hv => ⟨fun s hs => wpAny_call (h fv vs hf hv s hs)⟩
theorem CodeW_def {f : Addr} {as : List AV} {pn ls wr names : List Str} {oc : Value} {od : Option Addr} {osl : Array (Option Value)} {K : AV → Vals → Ledger → Prop}
    (ok : COk C (k + 1)) (FO : FnOk (fdAt C.w f) pn ls wr) (hn : pn ++ ls = names) (ho : (KH C.w).lookup f = some ⟨oc, od, .func (fdAt C.w f), osl⟩) (hcd : codeIn (KH C.w) (fdAt C.w f).code (fdAt C.w f).qualname = true)
    (hbody : (fdAt C.w f).body = .stmts (bodyOf (fdAt C.w f).body)) (hlen : as.length = pn.length) (hbind : ∀ vs : List Value, vs.length = pn.length → bindArgs (fdAt C.w f) ⟨vs, []⟩ = pure (pn.zip vs))
    (h : ∀ B outs L, COk (CG f names wr C B outs L) k → (CG f names wr C B outs L).AllWr → ExsW (CG f names wr C B outs L) (bodyOf (fdAt C.w f).body) (as.map some ++ ls.map fun _ => none) led fun fl v l => K (retOf fl) vals l) :
    CodeW C (.ref f) as vals led K := by
  subst hn
  rintro _ vs rfl hvs s hs
  refine callFn ok FO ho hcd hbody hlen hs hvs (hbind vs (by rw [hvs.length, hlen])) fun B outs L ok' => h B outs L ok' fun x hx => ?_
  obtain ⟨i, hi⟩ := List.mem_iff_getElem?.mp hx
  exact Wr_CF FO i hi
/-- a class is called -/
theorem CallW_class {c fI : Addr} {as : List AV} (ao : Addr → AO) (hao : ∀ d, OR C.w (ao d) (instObj c d)) {K : AV → Vals → Ledger → Prop} (ok : COk C (k + 1)) (hmk : makesIn (KH C.w) c = true) (hi : findIn (KH C.w) (.ref c) "__init__" = some (some (.ref fI))) (hf : typeIn (KH C.w) (.ref fI) = some (.type "function"))
    (h : ∀ x d us, COk (C.made c us) k → CodeW (C.made c us) (.ref fI) (.ref x :: as) vals ((x, ao d) :: (d, .dict [] none) :: led) fun a v l => a = .none ∧ K (.ref x) v l) : CallW C (.ref c) as vals led K := by
  rintro _ vs rfl hvs
  refine ⟨fun s hs => wpAny_call ?_⟩
  have X := (ok.here hs).1
  have H1 := hs.push (tk := s.toks) (o := emptyDict) (ao := .dict [] none) rfl ⟨[], .nil, ⟨#[], 0, ⟨rfl, rfl, rfl⟩, rfl, (fun e he => by simp at he), .nil, List.nodup_nil⟩, fun n e => by cases e⟩
  have H2 := H1.push (tk := s.toks) (o := instObj c s.heap.objs.size) (ao := ao s.heap.objs.size) rfl (hao _)
  have hz : (s.heap.push emptyDict).objs.size = s.heap.objs.size + 1 := Heap.size_push ..
  have H2' : St (C.made c vs) vals ((s.heap.objs.size + 1, ao s.heap.objs.size) :: (s.heap.objs.size, .dict [] none) :: led) { s with heap := (s.heap.push emptyDict).push (instObj c s.heap.objs.size) } := by
    have := H2
    simp only [hz] at this
    exact ⟨this.same, this.keep, this.outs, this.outsB, this.frameB, this.frameN, this.locs, this.cellsO, this.len, this.vars, this.ledg, this.nd⟩
  obtain ⟨hh, g, d, t, os⟩ := s
  refine make_core (makes_of X hmk) (looks_findIn X hi) (fun self => bind_fn X self hf) (.inl rfl) ?_
  refine codeAny_mono (h (hh.objs.size + 1) hh.objs.size vs (ok.made c vs) _ _ VR.ref (.cons VR.ref hvs) _ H2') fun r s' hr => ?_
  cases r with
  | error e => exact hr.elim
  | ok fl =>
    cases fl with
    | ret v =>
      obtain ⟨a, v', l', hra, hs', e, hk⟩ := hr
      subst e
      cases hra
      exact ⟨rfl, .ref (hh.objs.size + 1), v', l', rfl, ⟨hs'.same, hs'.keep, hs'.outs, hs'.outsB, hs'.frameB, hs'.frameN, hs'.locs, hs'.cellsO, hs'.len, hs'.vars, hs'.ledg, hs'.nd⟩, hk⟩
    | _ => exact hr.elim
end
end Mine

-- part M18
namespace Mine
open PySem PySem.Calls PySem.W PyProof.Rows

noncomputable def PartIs : Option Int → Value → Prop
  | none, v => v = .none
  | some i, v => ∃ t, v = .int i t
noncomputable def SliceO (lo hi st : Option Int) (o : Obj) : Prop := ∃ a b c, PartIs lo a ∧ PartIs hi b ∧ PartIs st c ∧ o = { cls := .type "slice", data := .fields #[a, b, c] }
/-- a part of a slice -/
noncomputable def PartW (C : Cx) (e : Option Expr) (vals : Vals) (led : Ledger) (K : Option Int → Vals → Ledger → Prop) : Prop := TW C PartIs (evalPart e C.env) vals led K

section
variable {C : Cx} {vals : Vals} {led : Ledger} {k : Nat}
theorem PartW_none {K : Option Int → Vals → Ledger → Prop} (h : K none vals led) : PartW C none vals led K := ⟨fun s hs => wpAny_pure ⟨none, vals, led, rfl, hs, h⟩⟩
theorem PartW_some {e : Expr} {K : Option Int → Vals → Ledger → Prop} (h : EvW C e vals led fun a v l => ∃ i, a = .int i ∧ K (some i) v l) : PartW C (some e) vals led K :=
  ⟨fun s hs => h.use hs (fun u s₁ a v l hr hs₁ ⟨i, e, hk⟩ => by subst e; exact ⟨some i, v, l, hr, hs₁, hk⟩)⟩
theorem EvW_Slice {lo hi st : Option Expr} {p : Pos} {K : AV → Vals → Ledger → Prop} (h : PartW C lo vals led fun a v l => PartW C hi v l fun b v l => PartW C st v l fun c v l => ∀ r, K (.ref r) v ((r, .pred (SliceO a b c)) :: l)) : EvW C (.Slice lo hi st p) vals led K :=
  ⟨fun s hs => wpAny_Slice (h.use hs (fun u s₁ a v l hr hs₁ hk => hk.use hs₁ (fun u₂ s₂ b v₂ l₂ hr₂ hs₂ hk₂ => hk₂.use hs₂ (fun u₃ s₃ c v₃ l₃ hr₃ hs₃ hk₃ =>
    ⟨.ref s₃.heap.objs.size, v₃, _, rfl, hs₃.push (tk := s₃.toks) (ao := .pred (SliceO a b c)) rfl ⟨_, _, _, hr, hr₂, hr₃, rfl⟩, hk₃ _⟩))))⟩
theorem PartIs.lit {a : Option Int} {v : Value} (h : PartIs a v) : ∃ p : Option (Int × Tok), p.map (·.1) = a ∧ v = partValue p := by
  cases a with
  | none => cases h; exact ⟨none, rfl, rfl⟩
  | some i => obtain ⟨t, rfl⟩ := h; exact ⟨some (i, t), rfl, rfl⟩
theorem SubW_strSlice {value slice : Expr} {x : Str} {r : Addr} {lo hi : Option Int} {K : AV → Vals → Ledger → Prop} (hm : (r, AO.pred (SliceO lo hi none)) ∈ led) (hsz : x.length ≤ 16777216)
    (hsl : ∀ o v, subscripted slice false o v = operate [v, o] (getItem o v)) (h : K (.str (Txt.slice x lo hi)) vals led) : SubW C value slice (.str x) (.ref r) vals led K := by
  rintro _ _ ⟨t, rfl⟩ rfl
  refine ⟨fun s hs => ?_⟩
  obtain ⟨o, ho, a, b, c, h1, h2, h3, rfl⟩ := pred_get hs hm
  obtain ⟨p, rfl, rfl⟩ := h1.lit
  obtain ⟨q, rfl, rfl⟩ := h2.lit
  cases h3
  refine tail_any (typeIs_str _ _ _) F.slot_str_getitem.lookup (wpAny_getItem_str_slice (l := p) (u := q) (st := none) ⟨_, ho, rfl, rfl⟩ rfl ?_) (hsl _ _)
  exact post_val_or_str ⟨Nat.le_trans (Txt.slice_le x _ _) (by rw [sizeLine_eq]; exact hsz), fun t' k => ⟨.str (Txt.slice x (p.map (·.1)) (q.map (·.1))), vals, led, ⟨t', rfl⟩, hs.tok _, h⟩⟩
theorem PartIs.part {a : Option Int} {v : Value} (h : PartIs a v) : IsPart v a := by
  cases a with
  | none => cases h; exact .none
  | some i => obtain ⟨t, rfl⟩ := h; exact .int ..
theorem slicePick_rel {xs : List AV} {vs : List Value} (hv : VRs xs vs) (lo hi st : Option Int) :
    VRs ((sliceRange (sliceBounds lo hi st xs.length).1 (sliceBounds lo hi st xs.length).2.1 (sliceBounds lo hi st xs.length).2.2).filterMap (xs[·]?)) (slicePick vs.toArray lo hi st).toList := by
  unfold slicePick
  have e : vs.toArray.size = xs.length := by simp [hv.length]
  rw [e]
  simp only [List.getElem?_toArray]
  generalize sliceRange _ _ _ = ix
  induction ix with
  | nil => exact .nil
  | cons i r ih =>
    rw [List.filterMap_cons, List.filterMap_cons]
    cases q : xs[i]? with
    | none =>
      have : vs[i]? = none := by rw [List.getElem?_eq_none_iff] at q ⊢; rw [hv.length]; exact q
      rw [this]; exact ih
    | some a =>
      obtain ⟨v, hvi, hr⟩ := hv.get' q
      rw [hvi]; exact .cons hr ih
noncomputable def lslice (xs : List AV) (lo hi st : Option Int) : List AV := (sliceRange (sliceBounds lo hi st xs.length).1 (sliceBounds lo hi st xs.length).2.1 (sliceBounds lo hi st xs.length).2.2).filterMap (xs[·]?)
theorem SubW_listSlice {value slice : Expr} {l r : Addr} {xs : List AV} {lo hi st : Option Int} {K : AV → Vals → Ledger → Prop} (hl : (l, AO.list xs) ∈ led) (hm : (r, AO.pred (SliceO lo hi st)) ∈ led) (h0 : st ≠ some 0) (hsz : xs.length ≤ 1000000)
    (hsl : ∀ o v, subscripted slice false o v = operate [v, o] (getItem o v)) (h : ∀ n, K (.ref n) vals ((n, .list (lslice xs lo hi st)) :: led)) : SubW C value slice (.ref l) (.ref r) vals led K := by
  rintro _ _ rfl rfl
  refine ⟨fun s hs => ?_⟩
  obtain ⟨o, ho, a, b, c, h1, h2, h3, rfl⟩ := pred_get hs hm
  obtain ⟨vs, hv, hL⟩ := hs.list hl
  have e : vs.toArray.size ≤ sizeLine := by rw [sizeLine_eq, List.size_toArray, hv.length]; (first | lia | omega)
  refine tail_any hL.isList.typeIs slot_list_getitem.lookup (wpAny_getItem_list_slice hL.isList ⟨_, ho, rfl, rfl⟩ h1.part h2.part h3.part h0 ?_ e) (hsl _ _)
  exact ⟨.ref s.heap.objs.size, vals, _, rfl, hs.push (tk := s.toks) (ao := .list (lslice xs lo hi st)) rfl ⟨_, 0, slicePick_rel hv lo hi st, by simp⟩, h _⟩
theorem SubW_str {value slice : Expr} {x : Str} {i : Int} {c : Nat} {K : AV → Vals → Ledger → Prop} (h0 : 0 ≤ i) (hc : x.cps[i.toNat]? = some c) (hsz : x.length ≤ 16777216)
    (hsl : ∀ o v, subscripted slice false o v = operate [o, v] (getItem o v)) (h : K (.str ⟨#[c]⟩) vals led) : SubW C value slice (.str x) (.int i) vals led K := by
  rintro _ _ ⟨t, rfl⟩ ⟨u, rfl⟩
  refine ⟨fun s hs => ?_⟩
  have hlt : i.toNat < x.length := by
    rw [Array.getElem?_eq_some_iff] at hc
    exact hc.1
  refine tail_any (typeIs_str _ _ _) F.slot_str_getitem.lookup (PyProof.Rows.getItem_str (c := c) (by simp; (first | lia | omega)) ?_ ⟨.str ⟨#[c]⟩, vals, led, ⟨_, rfl⟩, hs.tok _, h⟩) (hsl _ _)
  have : seqIndex? i x.length = some i.toNat := by
    unfold seqIndex?
    simp only [show ¬ i < 0 from by (first | lia | omega), if_false]
    first
    | rw [if_pos (by constructor <;> (first | lia | omega))]
    | (simp; (first | lia | omega))
  rw [this]; exact hc

theorem CallW_lenStr {x : Str} {K : AV → Vals → Ledger → Prop} (hsz : x.length ≤ 16777216) (h : K (.int x.length) vals led) : CallW C (.blt "len") [.str x] vals led K := by
  rintro _ _ rfl hvs
  obtain ⟨_, rfl, t, rfl⟩ := hvs.one
  exact ⟨fun s hs => PyProof.Rows.len_str (by (first | lia | omega)) ⟨.int x.length, vals, led, ⟨_, rfl⟩, hs.tok _, h⟩⟩
theorem CallW_lenTup {l : Addr} {xs : List AV} {n : Nat} {K : AV → Vals → Ledger → Prop} (hm : (l, AO.tup xs) ∈ led) (hn : xs.length = n) (hlen : n ≤ 1000000) (h : K (.int n) vals led) : CallW C (.blt "len") [.ref l] vals led K := by
  rintro _ _ rfl hvs
  obtain ⟨_, rfl, rfl⟩ := hvs.one
  subst hn
  refine ⟨fun s hs => ?_⟩
  obtain ⟨vs, hv, hl⟩ := hs.tup hm
  have hvl := hv.length
  refine PyProof.Rows.len_tuple hl (by simp; (first | lia | omega)) ⟨.int xs.length, vals, led, ⟨s.toks + 1, by simp [hvl]⟩, hs.tok _, h⟩
theorem CallW_find {x y : Str} {K : AV → Vals → Ledger → Prop} (h : K (.int (Txt.find x y)) vals led) : CallW C (.blt "str.find") [.str x, .str y] vals led K := by
  rintro _ _ rfl hvs
  obtain ⟨_, _, rfl, ⟨t, rfl⟩, u, rfl⟩ := hvs.two
  exact ⟨fun s hs => SC.find ⟨.int (Txt.find x y), vals, led, ⟨_, rfl⟩, hs.tok _, h⟩⟩
theorem CallW_find3 {x y : Str} {i : Int} {K : AV → Vals → Ledger → Prop} (h : K (.int (Txt.find3 x y i)) vals led) : CallW C (.blt "str.find") [.str x, .str y, .int i] vals led K := by
  rintro _ _ rfl hvs
  obtain ⟨_, _, _, rfl, ⟨t, rfl⟩, ⟨u, rfl⟩, v, rfl⟩ := hvs.three
  exact ⟨fun s hs => SC.find3 ⟨.int (Txt.find3 x y i), vals, led, ⟨_, rfl⟩, hs.tok _, h⟩⟩
theorem CallW_count {x y : Str} {K : AV → Vals → Ledger → Prop} (h : K (.int (Txt.count x y)) vals led) : CallW C (.blt "str.count") [.str x, .str y] vals led K := by
  rintro _ _ rfl hvs
  obtain ⟨_, _, rfl, ⟨t, rfl⟩, u, rfl⟩ := hvs.two
  exact ⟨fun s hs => SC.count ⟨.int (Txt.count x y), vals, led, ⟨_, rfl⟩, hs.tok _, h⟩⟩
theorem CallW_index {x y : Str} {i : Nat} {rest : List Nat} {K : AV → Vals → Ledger → Prop} (ho : Builtin.Str.occurrences x y 0 x.length 1 = i :: rest) (h : K (.int i) vals led) : CallW C (.blt "str.index") [.str x, .str y] vals led K := by
  rintro _ _ rfl hvs
  obtain ⟨_, _, rfl, ⟨t, rfl⟩, u, rfl⟩ := hvs.two
  exact ⟨fun s hs => SC.index ho ⟨.int i, vals, led, ⟨_, rfl⟩, hs.tok _, h⟩⟩
theorem strs_VRs : ∀ (l : List Str) (n : Nat), VRs (l.map AV.str) (strsFrom n l)
  | [], _ => .nil
  | p :: r, n => .cons ⟨n, rfl⟩ (strs_VRs r (n + 1))
theorem CallW_split {x y : Str} {ps : List Str} {K : AV → Vals → Ledger → Prop} (hp : Builtin.Str.partsBetween x (Builtin.Str.occurrences x y 0 x.length (x.length + 1)) y.length = ps) (h1 : (decide (x.length < y.length) || decide (Builtin.Str.strKind x < Builtin.Str.strKind y)) = false) (hy : (y.length == 0) = false)
    (hf : (Builtin.Str.occurrences x y 0 x.length (x.length + 1)).isEmpty = false) (hsz : x.length ≤ 16777216) (hsz2 : ps.length ≤ 16777216) (h : ∀ D, K (.ref D) vals ((D, .list (ps.map .str)) :: led)) : CallW C (.blt "str.split") [.str x, .str y] vals led K := by
  subst hp
  rintro _ _ rfl hvs
  obtain ⟨_, _, rfl, ⟨t, rfl⟩, u, rfl⟩ := hvs.two
  refine ⟨fun s hs => ?_⟩
  refine call_meets F.slot_str_split (typeIs_str _ _ _) F.entry_str_split (F.args_str_split_2 _ _) (meets_str_split_sep x y t u h1 hy hf (by rw [sizeLine_eq]; exact hsz) (by rw [sizeLine_eq]; exact hsz2)) ?_
  exact ⟨.ref s.heap.objs.size, vals, _, rfl, hs.push (ao := .list (_ : List AV)) rfl ⟨_, 0, strs_VRs _ _, rfl⟩, h _⟩
theorem CallW_strInt {i : Int} {K : AV → Vals → Ledger → Prop} (hi : i.natAbs.log2 < 1920) (h : K (.str (Str.ofString (toString i))) vals led) : CallW C (.typ "str") [.int i] vals led K := by
  rintro _ _ rfl hvs
  obtain ⟨_, rfl, t, rfl⟩ := hvs.one
  exact ⟨fun s hs => P.str_of_int hi ⟨.str (Str.ofString (toString i)), vals, led, ⟨_, rfl⟩, hs.tok _, h⟩⟩
theorem CallW_intInt {i : Int} {K : AV → Vals → Ledger → Prop} (h : K (.int i) vals led) : CallW C (.typ "int") [.int i] vals led K := by
  rintro _ _ rfl hvs
  obtain ⟨_, rfl, t, rfl⟩ := hvs.one
  exact ⟨fun s hs => call_int_int ⟨.int i, vals, led, ⟨_, rfl⟩, hs, h⟩⟩
theorem CallW_intText {x : Str} {n : Int} {K : AV → Vals → Ledger → Prop} (hn : PySem.intText? x = some n) (hl : x.length ≤ 640) (h : K (.int n) vals led) : CallW C (.typ "int") [.str x] vals led K := by
  rintro _ _ rfl hvs
  obtain ⟨_, rfl, t, rfl⟩ := hvs.one
  exact ⟨fun s hs => KIN.call_text hn hl ⟨.int n, vals, led, ⟨_, rfl⟩, hs.tok _, h⟩⟩
end
end Mine

-- part M19
namespace Mine
open PySem PySem.Calls PySem.W PyProof.Rows

theorem ints_of : ∀ {ns : List Int} {vs : List Value}, VRs (ns.map AV.int) vs → ∃ xs : Array (Int × Tok), vs.toArray = intItems xs ∧ xs.toList.map (·.1) = ns
  | [], _, .nil => ⟨#[], by simp [intItems], rfl⟩
  | n :: r, _, .cons (v := v) h0 h => by
    obtain ⟨t, rfl⟩ := h0
    obtain ⟨xs, h1, h2⟩ := ints_of h
    refine ⟨((n, t) :: xs.toList).toArray, ?_, by simp [h2]⟩
    have e : ∀ us : List Value, (Value.int n t :: us).toArray = #[Value.int n t] ++ us.toArray := fun us => by simp
    rw [e, h1]
    simp [intItems]
theorem intsAre_of : ∀ {ns : List Int} {vs : List Value}, VRs (ns.map AV.int) vs → IntsAre vs ns
  | [], _, .nil => .nil
  | n :: r, _, .cons (v := v) h0 h => by obtain ⟨t, rfl⟩ := h0; exact .cons n t (intsAre_of h)
theorem strsAre_of : ∀ {xs : List Str} {vs : List Value}, VRs (xs.map AV.str) vs → StrsAre vs xs
  | [], _, .nil => .nil
  | n :: r, _, .cons (v := v) h0 h => by obtain ⟨t, rfl⟩ := h0; exact .cons n t (strsAre_of h)
theorem of_strsAre {xs : List Str} {vs : List Value} (h : StrsAre vs xs) : VRs (xs.map AV.str) vs := by
  induction h with
  | nil => exact .nil
  | cons n t _ ih => exact .cons ⟨t, rfl⟩ ih

section
variable {C : Cx} {vals : Vals} {led : Ledger} {k : Nat}
theorem CallW_sum {l : Addr} {ns : List Int} {K : AV → Vals → Ledger → Prop} (ok : COk C k) (hm : (l, AO.list (ns.map .int)) ∈ led) (h : K (.int ns.sum) vals led) : CallW C (.blt "sum") [.ref l] vals led K := by
  rintro _ _ rfl hvs
  obtain ⟨_, rfl, rfl⟩ := hvs.one
  refine ⟨fun s hs => ?_⟩
  obtain ⟨vs, hv, hl⟩ := hs.list hm
  obtain ⟨xs, h1, h2⟩ := ints_of hv
  have hL := hl.isList
  rw [h1] at hL
  refine sum_intListG ok.hand hL fun h' tk t' hk => ⟨.int ns.sum, vals, led, ⟨t', ?_⟩, hs.ext hk, h⟩
  rw [preSum_eq, List.take_of_length_le (by simp), h2]
theorem CallW_max2 {a b : Int} {K : AV → Vals → Ledger → Prop} (ok : COk C k) (h : K (.int (max a b)) vals led) : CallW C (.blt "max") [.int a, .int b] vals led K := by
  rintro _ _ rfl hvs
  obtain ⟨_, _, rfl, ⟨t, rfl⟩, u, rfl⟩ := hvs.two
  refine ⟨fun s hs => max_two_ints ok.hand fun h' tk hk => ⟨.int (max a b), vals, led, ?_, hs.ext hk, h⟩⟩
  split
  · exact ⟨u, by rw [show max a b = b by (first | lia | omega)]⟩
  · exact ⟨t, by rw [show max a b = a by (first | lia | omega)]⟩
theorem CallW_min {l : Addr} {ns : List Int} {K : AV → Vals → Ledger → Prop} (ok : COk C k) (hm : (l, AO.list (ns.map .int)) ∈ led) (hne : 0 < ns.length) (h : ∀ M, M ∈ ns → (∀ a ∈ ns, M ≤ a) → K (.int M) vals led) : CallW C (.blt "min") [.ref l] vals led K := by
  rintro _ _ rfl hvs
  obtain ⟨_, rfl, rfl⟩ := hvs.one
  refine ⟨fun s hs => ?_⟩
  obtain ⟨vs, hv, hl⟩ := hs.list hm
  obtain ⟨xs, e, hns⟩ := ints_of hv
  have hsz : 0 < xs.size := by
    have h3 := hne; rw [← hns, List.length_map, Array.length_toList] at h3; exact h3
  have hL := hl.isList
  rw [e] at hL
  refine min_intList ok.hand hL hsz fun v h' tk hv hk => ?_
  obtain ⟨t, rfl⟩ := intItems_at hv
  obtain ⟨h1, h2⟩ := argBest_lt (numAt xs) (xs.size - 1)
  refine ⟨.int _, vals, led, ⟨t, rfl⟩, hs.ext hk, h _ ?_ fun a ha => ?_⟩
  · rw [← hns, numAt_eq]; exact getD_mem (by rw [List.length_map, Array.length_toList]; (first | lia | omega))
  · rw [← hns] at ha
    obtain ⟨j, hj, rfl⟩ := mem_getD ha
    rw [List.length_map, Array.length_toList] at hj
    rw [← numAt_eq]; exact h2 j (by (first | lia | omega))
theorem CallW_sortedStrs {l : Addr} {xs : List Str} {K : AV → Vals → Ledger → Prop} (hm : (l, AO.list (xs.map .str)) ∈ led) (h64 : xs.length < 64) (h : ∀ r ys, ys.Perm xs → sortedS ys = true → K (.ref r) vals ((r, .list (ys.map .str)) :: led)) : CallW C (.blt "sorted") [.ref l] vals led K := by
  rintro _ _ rfl hvs
  obtain ⟨_, rfl, rfl⟩ := hvs.one
  refine ⟨fun s hs => ?_⟩
  obtain ⟨vs, hv, hl⟩ := hs.list hm
  refine sorted_strs hl.isList (strsAre_of hv) (by have := hv.length; simp at this; (first | lia | omega)) fun out ss' h1 h2 h3 => ?_
  obtain ⟨e, he⟩ := sortedAll_at s.heap vs out
  exact ⟨.ref (s.heap.objs.size + 1), vals, _, rfl, hs.new (tk := s.toks) (ao := .list (ss'.map .str)) (fun _ _ => sortedAll_old) (Heap.get?_none_of_le (Nat.le_succ _)) he ⟨out.toList, e, of_strsAre h1, rfl⟩, h _ ss' h2 h3⟩
end
end Mine

-- part M20
namespace Mine
open PySem PySem.Calls PySem.W PyProof.Rows

noncomputable def TK (C : Cx) (target : Expr) (K' : List IT → (Ledger → Prop) → Vals → Ledger → Prop) : AV → Vals → Ledger → Prop := fun itv v l => ∃ it its xs src l0, itv = .ref it ∧ IterAt C target it its xs src l l0 ∧ K' xs src v l0
noncomputable def Plain (target : Expr) : Prop := ∀ it v, letOwnedTupleGo target it v = pure ()

theorem Plain.name {x : Str} {p : Pos} : Plain (.Name x p) := fun _ _ => rfl
section
variable {C : Cx} {vals : Vals} {led : Ledger} {k : Nat} {target : Expr} {K' : List IT → (Ledger → Prop) → Vals → Ledger → Prop}
theorem It_list {l : Addr} {xs : List AV} (ht : Plain target) (ok : COk C k) (hm : (l, AO.list xs) ∈ led) (h : K' (xs.map .val) (fun ld => (l, AO.list xs) ∈ ld) vals led) : IterW C (.ref l) vals led (TK C target K') :=
  IterW_list ht ok hm fun it l' A => ⟨it, _, _, _, _, rfl, A, h⟩
theorem It_tup {l : Addr} {xs : List AV} (ht : Plain target) (ok : COk C k) (hm : (l, AO.tup xs) ∈ led) (h : K' (xs.map .val) (fun ld => (l, AO.tup xs) ∈ ld) vals led) : IterW C (.ref l) vals led (TK C target K') :=
  IterW_tup ht ok hm fun it l' A => ⟨it, _, _, _, _, rfl, A, h⟩
theorem It_str {x : Str} (ht : Plain target) (ok : COk C k) (ha : x.cps.all (· < 128) = true) (h : K' ((signs x).map .val) (fun ld => True) vals led) : IterW C (.str x) vals led (TK C target K') :=
  IterW_str ht ok ha fun it l' A => ⟨it, _, _, _, _, rfl, A, h⟩
theorem It_range {r : Addr} {a b : Int} {n : Nat} (ht : Plain target) (ok : COk C k) (hm : (r, AO.pred (RangeO a b)) ∈ led) (hn : (b - a).toNat = n) (ha : -1000000 ≤ a) (ha' : a ≤ 1000000) (hb : -1000000 ≤ b) (hb' : b ≤ 1000000) (h : K' ((nums a 1 n).map .val) (fun _ => True) vals led) : IterW C (.ref r) vals led (TK C target K') :=
  IterW_range ht ok hm hn ha ha' hb hb' fun it l' A => ⟨it, _, _, _, _, rfl, A, h⟩
theorem It_riter {it : Addr} {a c : Int} {n : Nat} {l0 : Ledger} (ht : Plain target) (ok : COk C k) (h : K' ((nums a c n).map .val) (fun _ => True) vals l0) : IterW C (.ref it) vals ((it, .pred (RIterO a n c)) :: l0) (TK C target K') :=
  IterW_riter ht ok rfl fun A => ⟨it, _, _, _, _, rfl, A, h⟩
theorem It_dict {d : Addr} {es : List (Str × AV)} {ep : Nat} (ht : Plain target) (ok : COk C k) (hm : (d, AO.dict es (some ep)) ∈ led) (h : K' (es.map fun e => .val (.str e.1)) (fun ld => (d, AO.dict es (some ep)) ∈ ld) vals led) : IterW C (.ref d) vals led (TK C target K') :=
  IterW_dict ht ok hm fun it l' A => ⟨it, _, _, _, _, rfl, A, h⟩
theorem It_values {r d : Addr} {es : List (Str × AV)} {ep : Nat} (ht : Plain target) (ok : COk C k) (hm : (d, AO.dict es (some ep)) ∈ led) (hr : (r, AO.pred (ViewO "dict_values" d)) ∈ led) (h : K' (es.map fun e => .val e.2) (fun ld => (d, AO.dict es (some ep)) ∈ ld) vals led) : IterW C (.ref r) vals led (TK C target K') :=
  IterW_values ht ok hm hr fun it l' A => ⟨it, _, _, _, _, rfl, A, h⟩
theorem It_items {elts : List Expr} {x1 : Nat} {pos : Pos} {r d : Addr} {es : List (Str × AV)} {ep : Nat} (ok : COk C k) (hm : (d, AO.dict es (some ep)) ∈ led) (hr : (r, AO.pred (ViewO "dict_items" d)) ∈ led) (h : K' (es.map fun e => .tup [.str e.1, e.2]) (fun ld => (d, AO.dict es (some ep)) ∈ ld) vals led) : IterW C (.ref r) vals led (TK C (.Tuple elts x1 pos) K') :=
  IterW_items ok hm hr fun it l' A => ⟨it, _, _, _, _, rfl, A, h⟩
theorem It_enum {elts : List Expr} {x1 : Nat} {pos : Pos} {e it l : Addr} {xs : List AV} {l0 : Ledger} (ok : COk C k) (hm : (l, AO.list xs) ∈ l0) (h : K' (xs.zipIdx.map fun p => .tup [.int p.2, p.1]) (fun ld => (l, AO.list xs) ∈ ld) vals l0) : IterW C (.ref e) vals ((e, .pred (EnumO it)) :: (it, .pred (LIterO l)) :: l0) (TK C (.Tuple elts x1 pos) K') :=
  IterW_enum ok rfl hm fun A => ⟨e, _, _, _, _, rfl, A, h⟩

noncomputable def ForT (C : Cx) (k : Nat) (target : Expr) (body : List Stmt) (K : AF → Vals → Ledger → Prop) (xs : List IT) (src : Ledger → Prop) (v : Vals) (l : Ledger) : Prop := ∃ J, ForK C k target body xs src v l J K
theorem ExFor {iter : Expr} {body : List Stmt} {pos : Pos} {K : AF → Vals → Ledger → Prop} (ok : COk C k) (hf : ∀ x, foldedSetIterable iter C.env x = pure x)
    (h : EvW C iter vals led fun a v l => IterW C a v l (TK C target (ForT C k target body K))) : ExW C (.For target iter body [] pos) vals led K :=
  ExW_For ok hf (h.mono fun a v l hI va hva => (hI va hva).mono fun itv v l ⟨it, its, xs, src, l0, e, A, J, F⟩ => ⟨it, its, xs, src, l0, J, e, A, F⟩)
/-- what a turn of a for must leave -/
noncomputable def ForTurn (J : Vals → Ledger → Prop) (K : AF → Vals → Ledger → Prop) : AF → Vals → Ledger → Prop := fun f v l => match f with
  | .next | .cont => J v l
  | .brk => K .next v l
  | .ret a => K (.ret a) v l
theorem ForTurn_next {J : Vals → Ledger → Prop} {K : AF → Vals → Ledger → Prop} (h : J vals led) : ForTurn J K .next vals led := h
theorem ForTurn_cont {J : Vals → Ledger → Prop} {K : AF → Vals → Ledger → Prop} (h : J vals led) : ForTurn J K .cont vals led := h
theorem ForTurn_brk {J : Vals → Ledger → Prop} {K : AF → Vals → Ledger → Prop} (h : K .next vals led) : ForTurn J K .brk vals led := h
theorem ForTurn_ret {a : AV} {J : Vals → Ledger → Prop} {K : AF → Vals → Ledger → Prop} (h : K (.ret a) vals led) : ForTurn J K (.ret a) vals led := h
theorem ForT_mk {body : List Stmt} {K : AF → Vals → Ledger → Prop} {xs : List IT} {src : Ledger → Prop} (J : Nat → Vals → Ledger → Prop) (h0 : J 0 vals led) (hs : ∀ i v l, J i v l → src l)
    (ht : ∀ i x v l, xs[i]? = some x → J i v l → ∀ a l' B, ITof x a l l' → COk (C.base B) k → AsgW (C.base B) target a v l' fun v l => ExsW (C.base B) body v l (ForTurn (J (i + 1)) K)) (hfin : ∀ v l, J xs.length v l → K .next v l) : ForT C k target body K xs src vals led :=
  ⟨J, h0, hs, fun i x a v l l' B hx hJ hIT okB => ht i x v l hx hJ a l' B hIT okB, hfin⟩
/-- the same, where each item is a value -/
theorem ForT_vals {body : List Stmt} {K : AF → Vals → Ledger → Prop} {xs : List AV} {src : Ledger → Prop} (J : Nat → Vals → Ledger → Prop) (h0 : J 0 vals led) (hs : ∀ i v l, J i v l → src l)
    (ht : ∀ i a v l B, xs[i]? = some a → J i v l → COk (C.base B) k → AsgW (C.base B) target a v l fun v l => ExsW (C.base B) body v l (ForTurn (J (i + 1)) K)) (hfin : ∀ v l, J xs.length v l → K .next v l) : ForT C k target body K (xs.map .val) src vals led :=
  ForT_mk J h0 hs (fun i x v l hx hJ a l' B hIT okB => by
    rw [List.getElem?_map, Option.map_eq_some_iff] at hx
    obtain ⟨a', hx, rfl⟩ := hx
    cases hIT
    exact ht i a v l B hx hJ okB) (by rw [List.length_map]; exact hfin)

-- comprehensions
noncomputable def CompT (C : Cx) (k : Nat) (target : Expr) (ifs : List Expr) (scope : Scope) (own frees wr : List Str) (accO : AO) (inner : Addr → Env → Sem Unit) (G : Addr → Vals → Ledger → Prop) (xs : List IT) (src : Ledger → Prop) (v : Vals) (l : Ledger) : Prop :=
  ∃ fv, FVals C.names v frees fv ∧ ∀ acc B outs L, COk (CC C B outs scope L (own ++ frees) wr) k →
    ∃ J, CompK (CC C B outs scope L (own ++ frees) wr) k target ifs (inner acc (CC C B outs scope L (own ++ frees) wr).env) xs src (own.map (fun _ => none) ++ fv) ((acc, accO) :: l) J ∧ ∀ v' l', J xs.length v' l' → G acc v l'
theorem CompT.toH {ifs : List Expr} {scope : Scope} {own frees wr : List Str} {accO : AO} {inner : Addr → Env → Sem Unit} {G : Addr → Vals → Ledger → Prop} {a : AV} (h : IterW C a vals led (TK C target (CompT C k target ifs scope own frees wr accO inner G))) :
    IterW C a vals led fun itv v l => CompH C k target ifs scope own frees wr accO inner G itv v l :=
  fun va hva => (h va hva).mono fun itv v l ⟨it, its, xs, src, l0, e, A, fv, hf, hC⟩ => ⟨it, its, xs, src, l0, fv, e, A, hf, hC⟩
theorem EvListComp {elt iter : Expr} {ifs : List Expr} {scope : Scope} {pos : Pos} (own frees wr : List Str) {K : AV → Vals → Ledger → Prop} (ok : COk C k) (hc : CompOk scope C.env own frees wr) (hfold : ∀ x, foldedSetIterable iter C.env x = pure x)
    (h : EvW C iter vals led fun a v l => IterW C a v l (TK C target (CompT C k target ifs scope own frees wr (.list []) (fun acc env => innerList elt (.ref acc) env) (fun acc v l => K (.ref acc) v l)))) :
    EvW C (.ListComp elt [⟨target, iter, ifs, 0⟩] scope pos) vals led K := EvW_ListComp own frees wr ok hc hfold (h.mono fun a v l hI => CompT.toH hI)
theorem ExListComp {y : Str} {py : Pos} {elt iter : Expr} {ifs : List Expr} {scope : Scope} {pos spos : Pos} (own frees wr : List Str) {K : AF → Vals → Ledger → Prop} (ok : COk C k) (aw : C.AllWr) (hsw : swapsWith (.ListComp elt [⟨target, iter, ifs, 0⟩] scope pos) (some (.Name y py)) spos.line C.env = pure true)
    (hc : CompOk scope C.env own frees wr) (hfold : ∀ x, foldedSetIterable iter C.env x = pure x)
    (h : EvW C iter vals led fun a v l => IterW C a v l (TK C target (CompT C k target ifs scope own frees wr (.list []) (fun acc env => innerList elt (.ref acc) env) (fun acc v l => ∃ v2, SetIs C.names v y (.ref acc) v2 ∧ K .next v2 l)))) :
    ExW C (.Assign [.Name y py] (.ListComp elt [⟨target, iter, ifs, 0⟩] scope pos) spos) vals led K := ExW_AssignListComp own frees wr ok aw hsw hc hfold (h.mono fun a v l hI => CompT.toH hI)
theorem EvDictComp {kx vx iter : Expr} {ifs : List Expr} {gs : List Comprehension} {scope : Scope} {pos : Pos} (own frees wr : List Str) {inner : Addr → Env → Sem Unit} {K : AV → Vals → Ledger → Prop} (ok : COk C k) (hc : CompOk scope C.env own frees wr) (hfold : ∀ x, foldedSetIterable iter C.env x = pure x)
    (X : ∀ acc env, Shape (.DictComp kx vx (⟨target, iter, ifs, 0⟩ :: gs) scope pos) 0 target iter ifs (.ref acc) env (inner acc env))
    (h : EvW C iter vals led fun a v l => IterW C a v l (TK C target (CompT C k target ifs scope own frees wr (.dict [] none) inner (fun acc v l => K (.ref acc) v l)))) :
    EvW C (.DictComp kx vx (⟨target, iter, ifs, 0⟩ :: gs) scope pos) vals led K := EvW_DictComp own frees wr ok hc hfold X (h.mono fun a v l hI => CompT.toH hI)
theorem ExDictComp {y : Str} {py : Pos} {kx vx iter : Expr} {ifs : List Expr} {gs : List Comprehension} {scope : Scope} {pos spos : Pos} (own frees wr : List Str) {inner : Addr → Env → Sem Unit} {K : AF → Vals → Ledger → Prop} (ok : COk C k) (aw : C.AllWr) (hsw : swapsWith (.DictComp kx vx (⟨target, iter, ifs, 0⟩ :: gs) scope pos) (some (.Name y py)) spos.line C.env = pure true)
    (hc : CompOk scope C.env own frees wr) (hfold : ∀ x, foldedSetIterable iter C.env x = pure x)
    (X : ∀ acc env, Shape (.DictComp kx vx (⟨target, iter, ifs, 0⟩ :: gs) scope pos) 0 target iter ifs (.ref acc) env (inner acc env))
    (h : EvW C iter vals led fun a v l => IterW C a v l (TK C target (CompT C k target ifs scope own frees wr (.dict [] none) inner (fun acc v l => ∃ v2, SetIs C.names v y (.ref acc) v2 ∧ K .next v2 l)))) :
    ExW C (.Assign [.Name y py] (.DictComp kx vx (⟨target, iter, ifs, 0⟩ :: gs) scope pos) spos) vals led K := ExW_AssignDictComp own frees wr ok aw hsw hc hfold X (h.mono fun a v l hI => CompT.toH hI)
end
end Mine

-- part M21
namespace Mine
open PySem PySem.Calls PySem.W PyProof.Rows

theorem meets_bool_new_list (l : Addr) (items : Array Value) (hfit : (items.size : Int) < 2 ^ 63) :
    Meets (Builtin.«bool.__new__» ⟨[.type "bool", .ref l], []⟩) (fun _ R s => s.heap.IsList l items ∧ R (.ok (.ret (.bool (!items.isEmpty)))) { s with toks := s.toks + 1 + 1 }) :=
  Meets.of_wp fun prog w A R s ⟨hl, hs⟩ => by
    obtain ⟨hp, g, d, tk, os⟩ := s
    have f1 := F.conv_sub_bool
    repeat (any_goals (first | assumption | (with_reducible refine wpAny_truthy_list (items := items) hl hfit ?_) | wp_step))
    all_goals first | exact ⟨_, rfl, hs⟩ | exact hs | skip

section
variable {C : Cx} {vals : Vals} {led : Ledger} {k : Nat}
theorem CallW_boolList {l : Addr} {xs : List AV} {K : AV → Vals → Ledger → Prop} (hm : (l, AO.list xs) ∈ led) (hlen : xs.length ≤ 1000000) (h : K (.bool (!xs.isEmpty)) vals led) : CallW C (.typ "bool") [.ref l] vals led K := by
  rintro _ _ rfl hvs
  obtain ⟨_, rfl, rfl⟩ := hvs.one
  refine ⟨fun s hs => ?_⟩
  obtain ⟨vs, hv, hl⟩ := hs.list hm
  have hvl := hv.length
  refine call_bool_1 (meets_bool_new_list l vs.toArray (by simp; (first | lia | omega))) ⟨hl.isList, ?_⟩
  refine (show wants (fun obj s₁ => s₁.TypeIs obj "bool" ∧ _) _ _ _ from ⟨rfl, .bool (!xs.isEmpty), vals, led, ?_, hs.tok _, h⟩)
  cases hv <;> rfl
theorem CallW_tuple {l : Addr} {xs : List AV} {K : AV → Vals → Ledger → Prop} (hm : (l, AO.list xs) ∈ led) (hlen : xs.length ≤ 1000000) (h : ∀ r, K (.ref r) vals ((r, .tup xs) :: led)) : CallW C (.typ "tuple") [.ref l] vals led K := by
  rintro _ _ rfl hvs
  obtain ⟨_, rfl, rfl⟩ := hvs.one
  refine ⟨fun s hs => ?_⟩
  obtain ⟨vs, hv, hl⟩ := hs.list hm
  have hvl := hv.length
  refine call_tuple_list hl.isList (fun h' hk => ?_) (by rw [sizeLine_eq]; simp; (first | lia | omega))
  have H1 : St C vals led { s with heap := h', toks := s.toks } := hs.ext hk
  have H2 := H1.push (tk := s.toks) (o := { cls := .type "tuple", data := .seq vs.toArray }) (ao := .tup xs) rfl ⟨vs, 0, hv, rfl⟩
  exact ⟨.ref h'.objs.size, vals, _, rfl, H2, h _⟩
theorem int_mul_str (a : Int) (t : Tok) (x : Str) (u : Tok) : Meets (Builtin.«int.__mul__» ⟨[.int a t, .str x u], []⟩) (fun _ R s => R (.ok (.ret Value.notImplemented)) s) :=
  .of_wp fun prog w A R s h => by obtain ⟨hp, g, d, tk, os⟩ := s; wp_walk; exact ⟨_, rfl, h⟩
/-- n * text -/
theorem BinW_rep {n : Int} {x : Str} {K : AV → Vals → Ledger → Prop} (hok : MulOk x n) (h : K (.str (Txt.mul x n)) vals led) : BinW C .Mult (.int n) (.str x) vals led K := by
  rintro _ _ ⟨t, rfl⟩ ⟨u, rfl⟩
  refine ⟨fun s hs => ?_⟩
  refine lm_binaryOp_repeat_right (T := "str") (U := "int") (by decide) (fun s' => typeIs_int s' n t) (typeIs_str _ _ _) F.fills_int_mul noFill_str_mul F.slot_int_mul lm_noRepeat_int repeat_str F.slot_int_index.lookup
    (call_meets F.slot_int_mul (typeIs_int s n t) F.entry_int_mul (F.args_int_mul_2 _ _) (int_mul_str n t x u) ⟨rfl, typeIs_str _ _ _, ?_⟩)
  refine call_gives F.slot_str_mul (typeIs_str _ _ _) F.entry_str_mul (F.args_str_mul_2 _ _) (gives_str_mul x n u t hok.1 hok.2.1 hok.2.2) ?_
  have h0 : ∀ t' k, (fun a s' => Post C VR K a s') (Value.str (Txt.mul x n) t') { s with toks := k } := fun t' k => ⟨.str (Txt.mul x n), vals, led, ⟨t', rfl⟩, hs.tok _, h⟩
  unfold Txt.mul at h0
  by_cases h1 : n < 1
  · rw [if_pos h1]; have h' := h0 s.toks (s.toks + 1); rw [if_pos h1] at h'; exact ⟨by decide, h'⟩
  · rw [if_neg h1]; refine post_val_or_made (fun hc => fits_reps (hok.2.2 h1 (by simpa using hc))) fun t' k => ?_
    have h' := h0 t' k; rw [if_neg h1] at h'; exact h'
end
end Mine

-- part M22
namespace Mine
open PySem PySem.Calls PySem.W PyProof.Rows
section
variable {C : Cx} {vals : Vals} {led : Ledger} {k : Nat}
/-- 'c' + recv.replace('y', 'z') -/
theorem EvW_AddReplace {c y z : Str} {kc ky kz : Nat} {pc py pz apos pos p : Pos} {recv : Expr} {pl : Sem Bool} {K : AV → Vals → Ledger → Prop} (hyz : (y == z) = false)
    (he : eval (.Call (.Attribute recv "replace" apos) [.Constant (.str y) ky py, .Constant (.str z) kz pz] [] pos) C.env = (do
      let ov ← eval recv C.env
      standAt apos.atName
      let (f, first) ← holding [ov] (getMethod ov "replace" pl)
      callWith pos f first (backTo pos (starEach [.Constant (.str y) ky py, .Constant (.str z) kz pz] C.env)) []))
    (h : EvW C recv vals led fun a v l => ∃ x, a = .str x ∧ x.length + (x.length + 1) * z.length ≤ 16777216 ∧ BinW C .Add (.str c) (.str (Txt.replace x y z)) v l K) :
    EvW C (.BinOp (.Constant (.str c) kc pc) .Add (.Call (.Attribute recv "replace" apos) [.Constant (.str y) ky py, .Constant (.str z) kz pz] [] pos) p) vals led K := by
  refine ⟨fun s hs => wpAny_BinOp (wpAny_Constant_str ?_)⟩
  refine MethodCall_ (wpAny_mono (wpAny_toks_of (n := 1) (Nat.succ_le_succ (Nat.zero_le _)) (h.run _ (hs.tok (s.toks + 1)))) (fun u s₁ hx => ?_) fun _ _ x => x.2) he
  obtain ⟨htk, a, v, l, hr, hs₁, x, rfl, hb, hk⟩ := hx
  obtain ⟨t, rfl⟩ := hr
  refine getMethod_builtin (T := "str") (id := "str.replace") (typeIs_str _ _ _) PySem.F.plainAttrs_str PySem.F.slot_str_replace PySem.F.type_str_replace (fun q e => by cases e) ?_
  refine callWith_method1 (wpAny_items_cons (wpAny_Constant_str (wpAny_items_cons (wpAny_Constant_str (wpAny_items_nil ?_)) rfl)) rfl) rfl rfl
  refine SC.replace (Nat.ne_of_gt htk) (Nat.succ_ne_zero _) (Nat.ne_of_lt (Nat.lt_succ_self _)) hyz hb fun t' kk => ?_
  exact (hk _ _ ⟨_, rfl⟩ ⟨t', rfl⟩).run _ (hs₁.tok kk)
/-- objects may be forgotten at the end -/
theorem TW.drop {α β : Type} {rel : β → α → Prop} {t : Sem α} {K : β → Vals → Ledger → Prop} (h : TW C rel t vals led fun b v l => ∃ l', l'.Sublist l ∧ K b v l') : TW C rel t vals led K :=
  ⟨fun s hs => h.use hs (fun _ _ b v l hr hs' ⟨l', hl, hk⟩ => ⟨b, v, l', hr, hs'.sub hl, hk⟩)⟩
theorem CallW.drop {f : AV} {as : List AV} {K : AV → Vals → Ledger → Prop} (h : CallW C f as vals led fun a v l => ∃ l', l'.Sublist l ∧ K a v l') : CallW C f as vals led K := fun fv vs hf hv => (h fv vs hf hv).drop
theorem CallW.mono {f : AV} {as : List AV} {K K' : AV → Vals → Ledger → Prop} (h : CallW C f as vals led K) (hK : ∀ a v l, K a v l → K' a v l) : CallW C f as vals led K' := fun fv vs hf hv => (h fv vs hf hv).mono hK
end
end Mine

-- part M23
namespace Mine
open PySem PySem.Calls PySem.W PyProof.Rows
section
variable {C : Cx} {vals : Vals} {led : Ledger} {k : Nat}
theorem hits_of {A : Around} {s : Shared} {es2 : List (Str × AV)} {kb : List (Str × Value)} (h2 : KVR es2 kb) : ∀ {es1 : List (Str × AV)} {ka : List (Str × Value)}, KVR es1 ka → (∀ e ∈ es1, ∃ i, e.2 = .int i ∧ dget es2 e.1 = some (.int i)) → KeqHits A s kb ka true
  | _, _, .nil, _ => .nil
  | _, _, .cons (x := x) (a := a) (v := v) (es := es) (ds := ds) hr hk, h => by
    obtain ⟨i, e1, e2⟩ := h (x, a) (.head _)
    dsimp only at e1 e2
    subst e1
    obtain ⟨t, rfl⟩ := hr
    have hg := h2.get x
    rw [e2] at hg
    cases q : valueAt kb x with
    | none => rw [q] at hg; cases hg
    | some y =>
      rw [q] at hg
      cases hg with
      | some hr2 =>
        obtain ⟨u, rfl⟩ := hr2
        have := KeqHits.hit (A := A) (s := s) q (SeqAt.EqAt.int_int i t i u) (hits_of h2 hk fun e he => h e (.tail _ he))
        simpa using this
/-- two dicts of like ints -/
theorem CmpW_neDict {d1 d2 : Addr} {es1 es2 : List (Str × AV)} {p1 p2 : Option Nat} {K : AV → Vals → Ledger → Prop} (ok : COk C k) (h1 : (d1, AO.dict es1 p1) ∈ led) (h2 : (d2, AO.dict es2 p2) ∈ led) (hl : es1.length = es2.length)
    (he : ∀ e ∈ es1, ∃ i, e.2 = .int i ∧ dget es2 e.1 = some (.int i)) (h : K (.bool false) vals led) : CmpW C .NotEq (.ref d1) (.ref d2) vals led K := by
  rintro _ _ rfl rfl
  refine ⟨fun s hs => ?_⟩
  obtain ⟨ka, hv1, hd1⟩ := hs.dict h1
  obtain ⟨kb, hv2, hd2⟩ := hs.dict h2
  refine keq_ne (ok.ne_sys hs h1) (ok.ne_sys hs h2) hd1 hd2 ok.room (fun _ => hits_of hv2 hv1 he) ⟨.bool false, vals, led, ?_, hs, h⟩
  have : ka.length = kb.length := by rw [hv1.length, hv2.length, hl]
  simp [this, VR]
end
end Mine

-- part M24
namespace Mine
open PySem PySem.Calls PySem.W PyProof.Rows
mutual
/-- what a value reads as -/
inductive RD (led : Ledger) : AV → PyData → Prop
  | int (i : Int) : RD led (.int i) (.int i)
  | str (x : Str) : RD led (.str x) (.str x)
  | tup {a xs ds} : (a, AO.tup xs) ∈ led → RDs led xs ds → RD led (.ref a) (.tuple ds)
  | list {a xs ds} : (a, AO.list xs) ∈ led → RDs led xs ds → RD led (.ref a) (.list ds)
inductive RDs (led : Ledger) : List AV → List PyData → Prop
  | nil : RDs led [] []
  | cons {a as d ds} : RD led a d → RDs led as ds → RDs led (a :: as) (d :: ds)
end
section
variable {C : Cx} {vals : Vals} {led : Ledger} {k : Nat}
mutual
theorem RD.reads {s : Shared} (hs : St C vals led s) : ∀ {a : AV} {d : PyData} {v : Value}, RD led a d → VR a v → ∃ as, Reads s.heap v d as
  | _, _, _, .int i, ⟨t, e⟩ => by subst e; exact ⟨_, .int i t⟩
  | _, _, _, .str x, ⟨t, e⟩ => by subst e; exact ⟨_, .str x t⟩
  | _, _, _, .tup hm hd, e => by
    cases e
    obtain ⟨o, ho, vs, n, hv, rfl⟩ := hs.get hm
    obtain ⟨as, h⟩ := RDs.reads hs hd hv
    exact ⟨_, .tuple ho rfl rfl (by simpa using h)⟩
  | _, _, _, .list hm hd, e => by
    cases e
    obtain ⟨o, ho, vs, n, hv, rfl⟩ := hs.get hm
    obtain ⟨as, h⟩ := RDs.reads hs hd hv
    exact ⟨_, .list ho rfl rfl (by simpa using h)⟩
theorem RDs.reads {s : Shared} (hs : St C vals led s) : ∀ {as : List AV} {ds : List PyData} {vs : List Value}, RDs led as ds → VRs as vs → ∃ bs, ReadsAll s.heap vs ds bs
  | _, _, _, .nil, .nil => ⟨_, .nil⟩
  | _, _, _, .cons h1 h2, .cons g1 g2 => by
    obtain ⟨as, q1⟩ := RD.reads hs h1 g1
    obtain ⟨bs, q2⟩ := RDs.reads hs h2 g2
    exact ⟨_, .cons q1 q2⟩
end
theorem CmpW_eqData {a b : Addr} {d : PyData} {K : AV → Vals → Ledger → Prop} (ok : COk C k) (ha : RD led (.ref a) d) (hb : RD led (.ref b) d) (hsh : SeqAt.shaped d = true) (hmix : SeqAt.noMix d d = true) (h : K (.bool true) vals led) : CmpW C .Eq (.ref a) (.ref b) vals led K := by
  rintro _ _ rfl rfl
  refine ⟨fun s hs => ?_⟩
  obtain ⟨as, r1⟩ := ha.reads hs (v := .ref a) rfl
  obtain ⟨bs, r2⟩ := hb.reads hs (v := .ref b) rfl
  have := ok.units
  exact eq_dataH_same r1 r2 hsh hsh (by show _ < 9900; (first | lia | omega)) hmix (by rw [same_refl]; exact ⟨.bool true, vals, led, rfl, hs, h⟩)
theorem CmpW_neData {a b : Addr} {d : PyData} {K : AV → Vals → Ledger → Prop} (ok : COk C k) (ha : RD led (.ref a) d) (hb : RD led (.ref b) d) (hsh : SeqAt.shaped d = true) (hmix : SeqAt.noMix d d = true) (h : K (.bool false) vals led) : CmpW C .NotEq (.ref a) (.ref b) vals led K := by
  rintro _ _ rfl rfl
  refine ⟨fun s hs => ?_⟩
  obtain ⟨as, r1⟩ := ha.reads hs (v := .ref a) rfl
  obtain ⟨bs, r2⟩ := hb.reads hs (v := .ref b) rfl
  have := ok.units
  exact ne_dataH_same r1 r2 hsh hsh (by show _ < 9900; (first | lia | omega)) hmix (by rw [same_refl]; exact ⟨.bool false, vals, led, rfl, hs, h⟩)
end
end Mine

-- part M25
namespace Mine
open PySem PySem.Calls PySem.W PyProof.Rows

theorem callFnW {C : Cx} {vals : Vals} {led0 : Ledger} {k : Nat} {f : Addr} {fd : FuncData} {pn ls wr : List Str} {body : List Stmt} {oc : Value} {od : Option Addr} {osl : Array (Option Value)} {K : AV → Vals → Ledger → Prop}
    (ok : COk C (k + 1)) (FO : FnOk fd pn ls wr) (ho : (KH C.w).lookup f = some ⟨oc, od, .func fd, osl⟩) (hcd : codeIn (KH C.w) fd.code fd.qualname = true) (hbody : fd.body = .stmts body)
    {s00 : Shared} (hs00 : St C vals led0 s00) {vs00 : List Value}
    (hb : ∀ (A : Around) (Q : List (Str × Value) → Shared → Prop), (∀ as led vs s, VRs as vs → as.length = pn.length → St C vals led s → (∀ B outs L, COk (CF C.w B outs C.r C.A fd f L (pn ++ ls) wr) k → ExsW (CF C.w B outs C.r C.A fd f L (pn ++ ls) wr) body (as.map some ++ ls.map fun _ => none) led fun fl v l => K (retOf fl) vals l) → Q (pn.zip vs) s) → wpAny (Md C.w) A (bindArgs fd ⟨vs00, []⟩) Q (fun _ _ => False) s00) :
    codeAny (Md C.w) C.A (.call (.ref f) ⟨vs00, []⟩) (fun r s' => match r with | .ok (.ret v) => Post C VR K v s' | .ok _ => False | .error e => False) s00 := by
  obtain ⟨X0, _, p0, loose0, mean0, mg0, mb0, T0⟩ := ok.here hs00
  have hroom : C.A.depth < recursionLimit := by have := ok.depth; show _ < 1000; (first | lia | omega)
  refine codeAny_call_function hroom (X0 _ _ ho) rfl FO.co FO.gen hbody (codeRec_of X0 hcd) ?_
  refine wpAny_mono (hb _ _ fun as led vs s hvs hlen hs h => ?_) (fun _ _ q => q) fun _ _ x => x.elim
  obtain ⟨X, _, p, loose, mean, mg, mb, T⟩ := ok.here hs
  rw [FO.clo]
  refine wpAny_newFunctionEnv_cells FO.kind (fun x hx => ?_) fun env he s₁ I => ?_
  · have hx1 : x.1 ∈ pn := (List.of_mem_zip hx).1
    rcases FO.kinds x.1 (List.mem_append_left _ hx1) with q | ⟨q, qw⟩
    · exact .inl q
    · exact .inr ⟨q, FO.cells _ _ qw⟩
  subst he
  replace I : InCallC s (callEnvC fd s.heap.objs.size f).locals (bindL (callEnvC fd s.heap.objs.size f).kindOf (pn.zip vs) fun _ => none) (callEnvC fd s.heap.objs.size f).cells (bindC (callEnvC fd s.heap.objs.size f).kindOf (pn.zip vs) fun _ => none) s₁ := I
  refine ⟨T.nolimit.keeps I.toInCall.keep, codeAny_func ?_⟩
  -- the callee's state
  obtain ⟨mm, oL, esL, epL, hoL, hdL, rL⟩ := hs.locs
  let hl : List Addr := led.map (·.1) ++ (C.env.locals :: C.outs.map (·.1))
  let B' := hid s.heap hl
  let outs' : List (Addr × Data) := (C.env.locals, oL.data) :: C.outs
  let L := s.heap.objs.size
  have hBB : ∀ b o, C.B b = some o → B' b = some o := fun b o e => by
    refine hid_of (fun hm => ?_) (hs.keep b o e)
    rcases List.mem_append.mp hm with hm | hm
    · obtain ⟨q, hq, rfl⟩ := List.mem_map.mp hm
      rw [(hs.ledg q hq).2.1] at e; cases e
    · rcases List.mem_cons.mp hm with rfl | hm
      · rw [(hs.frameB _ (.head _)).1] at e; cases e
      · obtain ⟨q, hq, rfl⟩ := List.mem_map.mp hm
        rw [hs.outsB q hq] at e; cases e
  have newL : s.heap.get? L = none := Heap.get?_none_of_le (Nat.le_refl _)
  have hcellsE : (callEnvC fd L f).cells = cellsFrom (L + 1) fd.scope.names [] := rfl
  have hlocE : (callEnvC fd L f).locals = L := rfl
  have hkindE : ∀ x, (callEnvC fd L f).kindOf x = fd.scope.names.lookup x := fun _ => rfl
  have cellAbove : ∀ x c, (callEnvC fd L f).cells.lookup x = some c → L < c := fun x c hc => I.above x c (mem_of_lookup hc)
  have newAt : ∀ c, L ≤ c → s.heap.get? c = none := fun c hc => Heap.get?_none_of_le hc
  have ok' : COk (CF C.w B' outs' C.r C.A fd f L (pn ++ ls) wr) k := by
    refine ⟨ok.base.mono hBB, ok.hand, ?_, ?_, FO.kind, FO.glob, FO.bu, FO.nodup, FO.wnodup, FO.ndbg, ?_⟩
    · have := ok.depth; show C.A.depth + 1 + k ≤ 900; (first | lia | omega)
    · have := ok.units; show C.A.units + 3 + 10 * k ≤ 9000; (first | lia | omega)
    · obtain ⟨fs, hfs, hF⟩ := ok.frames
      refine ⟨callEnvC fd L f :: fs, by show C.A.frames.map _ = _; rw [hfs]; rfl, fun e he => ?_⟩
      rcases List.mem_cons.mp he with rfl | he
      · exact ⟨by show fd.scope.kind ≠ _; rw [FO.kind]; decide, .inl rfl⟩
      · refine ⟨(hF e he).1, .inr ?_⟩
        rcases (hF e he).2 with q | ⟨p, hp, q⟩
        · exact ⟨_, .head _, q, esL, epL, hdL⟩
        · exact ⟨p, .tail _ hp, q⟩
  have Hs₁ : St (CF C.w B' outs' C.r C.A fd f L (pn ++ ls) wr) (as.map some ++ ls.map fun _ => none) led s₁ := by
    obtain ⟨h₁, tk, rfl, hk₁⟩ := I.done
    have fA : ∀ a ∈ (CF C.w B' outs' C.r C.A fd f L (pn ++ ls) wr).frameAddrs, L ≤ a := fun a ha => by
      rcases List.mem_cons.mp ha with rfl | ha
      · exact Nat.le_refl _
      · obtain ⟨y, _, hc⟩ := List.mem_filterMap.mp ha
        exact Nat.le_of_lt (cellAbove y a hc)
    refine ⟨?_, fun b o e => hk₁ b o (hid_some e).2, fun p hp => ?_, fun p hp => ?_, fun a ha => ⟨?_, fun p hp e => ?_, fun p hp e => ?_⟩, ?_, ⟨_, I.toInCall.ns⟩, fun x c hc => ?_, ?_, fun i x v h1 h2 => ?_, fun p hp => ⟨?_, ?_, fun q hq => ?_⟩, hs.nd⟩
    · obtain ⟨h₀, tk₀, e⟩ := hs.same
      exact ⟨h₁, tk, by rw [e]⟩
    · rcases List.mem_cons.mp hp with rfl | hp
      · exact ⟨oL, hk₁ _ _ hoL, rfl⟩
      · obtain ⟨o, ho, hd⟩ := hs.outs p hp
        exact ⟨o, hk₁ _ _ ho, hd⟩
    · refine hid_none ?_
      rcases List.mem_cons.mp hp with rfl | hp
      · exact List.mem_append_right _ (.head _)
      · exact List.mem_append_right _ (.tail _ (List.mem_map_of_mem hp))
    · cases q : B' a with
      | none => exact q
      | some o => have := (hid_some q).2; rw [newAt a (fA a ha)] at this; cases this
    · obtain ⟨⟨o, ho, _⟩, _⟩ := hs.ledg p hp
      rw [e, newAt a (fA a ha)] at ho; cases ho
    · have : ∃ o, s.heap.get? p.1 = some o := by
        rcases List.mem_cons.mp hp with rfl | hp
        · exact ⟨_, hoL⟩
        · obtain ⟨o, ho, _⟩ := hs.outs p hp; exact ⟨o, ho⟩
      obtain ⟨o, ho⟩ := this
      rw [e, newAt a (fA a ha)] at ho; cases ho
    · unfold Cx.frameAddrs
      rw [List.nodup_cons]
      refine ⟨fun hm => ?_, ?_⟩
      · obtain ⟨y, _, hc⟩ := List.mem_filterMap.mp hm
        exact absurd (cellAbove y _ hc) (Nat.lt_irrefl _)
      · have wn := FO.wnodup
        generalize wr = wl at wn
        induction wl with
        | nil => exact List.nodup_nil
        | cons z r ih =>
          rw [List.nodup_cons] at wn
          rw [List.filterMap_cons]
          split
          · exact ih wn.2
          · rename_i c hc
            rw [List.nodup_cons]
            refine ⟨fun hm => ?_, ih wn.2⟩
            obtain ⟨y, hy, hyc⟩ := List.mem_filterMap.mp hm
            exact wn.1 (name_of_addr I.apart (mem_of_lookup hc) (mem_of_lookup hyc) ▸ hy)
    · exact .inl ⟨FO.cells' _ x c hc, _, I.cell x c hc⟩
    · simp [hlen]
    · have hx : x ∈ pn ++ ls := List.mem_of_getElem? h1
      by_cases hi : i < pn.length
      · have h1' : pn[i]? = some x := by rwa [List.getElem?_append_left hi] at h1
        have h2' : (as.map some)[i]? = some v := by rwa [List.getElem?_append_left (by simpa [hlen] using hi)] at h2
        rw [List.getElem?_map] at h2'
        cases ha : as[i]? with
        | none => rw [ha] at h2'; cases h2'
        | some a =>
          rw [ha] at h2'; cases h2'
          obtain ⟨u, hu, hur⟩ := hvs.get' ha
          have nd := (List.nodup_append.mp FO.nodup).1
          rcases FO.kinds x hx with q | ⟨q, qw⟩
          · exact .inl ⟨q, _, I.toInCall.ns, by rw [bindL_at (kindOf := (callEnvC fd L f).kindOf) q pn vs _ i nd h1' hu]; exact .some hur⟩
          · obtain ⟨c, hc⟩ := Option.isSome_iff_exists.mp (FO.cells (L + 1) x qw)
            refine .inr ⟨.inl q, c, _, hc, I.cell x c hc, ?_⟩
            rw [bindC_at (kindOf := (callEnvC fd L f).kindOf) (by show fd.scope.names.lookup x ≠ _; rw [q]; decide) pn vs _ i nd h1' hu]; exact .some hur
      · have hi' : pn.length ≤ i := Nat.le_of_not_lt hi
        have h1' : ls[i - pn.length]? = some x := by rwa [List.getElem?_append_right hi'] at h1
        have h2' : (ls.map fun _ => (none : Option AV))[i - (as.map some).length]? = some v := by rwa [List.getElem?_append_right (by simpa [hlen] using hi')] at h2
        have hv : v = none := by
          rw [List.getElem?_map] at h2'
          cases q : ls[i - (as.map some).length]? with
          | none => rw [q] at h2'; cases h2'
          | some _ => rw [q] at h2'; cases h2'; rfl
        subst hv
        have nin : x ∉ pn := fun q => (List.nodup_append.mp FO.nodup).2.2 x q x (List.mem_of_getElem? h1') rfl
        rcases FO.kinds x hx with q | ⟨q, qw⟩
        · exact .inl ⟨q, _, I.toInCall.ns, by rw [bindL_skip pn vs _ nin]; exact .none⟩
        · obtain ⟨c, hc⟩ := Option.isSome_iff_exists.mp (FO.cells (L + 1) x qw)
          exact .inr ⟨.inl q, c, _, hc, I.cell x c hc, by rw [bindC_skip pn vs _ nin]; exact .none⟩
    · obtain ⟨⟨o, ho, hr⟩, _⟩ := hs.ledg p hp
      exact ⟨o, hk₁ _ _ ho, hr⟩
    · exact hid_none (List.mem_append_left _ (List.mem_map_of_mem hp))
    · rcases List.mem_cons.mp hq with rfl | hq
      · exact Ne.symm ((hs.frameB _ (.head _)).2.1 p hp)
      · exact (hs.ledg p hp).2.2 q hq
  refine wpAny_mono ((h B' outs' L ok').run s₁ Hs₁) (fun fl s' hx => ?_) fun _ _ x => x.elim
  obtain ⟨b, v', l', hr, hs', hk⟩ := hx
  have Hb : St C vals l' s' := hs.back (C' := CF C.w B' outs' C.r C.A fd f L (pn ++ ls) wr) hBB rfl rfl (fun p hp => .tail _ hp) (fun o e => by rw [hoL] at e; cases e; exact .head _) (fun x c o hc ho => ?_) hs'
  · cases b with
    | next => cases hr; exact ⟨.none, vals, l', rfl, Hb, hk⟩
    | brk => cases hr; exact ⟨.none, vals, l', rfl, Hb, hk⟩
    | cont => cases hr; exact ⟨.none, vals, l', rfl, Hb, hk⟩
    | ret a => obtain ⟨u, rfl, hu⟩ := hr; exact ⟨a, vals, l', hu, Hb, hk⟩
  · refine hid_of (fun hm => ?_) ho
    rcases hs.cellsO x c hc with ⟨hw, _⟩ | ⟨o', u, hB, _⟩
    · have hcF : c ∈ C.frameAddrs := List.mem_cons_of_mem _ (List.mem_filterMap.mpr ⟨x, hw, hc⟩)
      rcases List.mem_append.mp hm with hm | hm
      · obtain ⟨q, hq, e⟩ := List.mem_map.mp hm
        exact (hs.frameB c hcF).2.1 q hq e
      · rcases List.mem_cons.mp hm with e | hm
        · have := hs.frameN
          unfold Cx.frameAddrs at this
          rw [List.nodup_cons] at this
          exact this.1 (e ▸ List.mem_filterMap.mpr ⟨x, hw, hc⟩)
        · obtain ⟨q, hq, e⟩ := List.mem_map.mp hm
          exact (hs.frameB c hcF).2.2 q hq e
    · have := hBB _ _ hB
      exact (hid_some this).1 hm
end Mine

-- part M26
namespace Mine
open PySem PySem.Calls PySem.W PyProof.Rows
section
variable {C : Cx} {vals : Vals} {led : Ledger} {k : Nat}
/-- a def with *rest -/
theorem CodeW_defV {f : Addr} {as rest : List AV} {pn ls wr names : List Str} {oc : Value} {od : Option Addr} {osl : Array (Option Value)} {K : AV → Vals → Ledger → Prop}
    (ok : COk C (k + 1)) (FO : FnOk (fdAt C.w f) pn ls wr) (hn : pn ++ ls = names) (ho : (KH C.w).lookup f = some ⟨oc, od, .func (fdAt C.w f), osl⟩) (hcd : codeIn (KH C.w) (fdAt C.w f).code (fdAt C.w f).qualname = true)
    (hbody : (fdAt C.w f).body = .stmts (bodyOf (fdAt C.w f).body)) (hlen : as.length + 1 = pn.length) (hsz : rest.length ≤ 1000)
    (hbind : ∀ vs us : List Value, vs.length = as.length → us.length = rest.length → bindArgs (fdAt C.w f) ⟨vs ++ us, []⟩ = (newTuple us >>= fun T => pure (pn.zip (vs ++ [T]))))
    (h : ∀ T B outs L, COk (CG f names wr C B outs L) k → (CG f names wr C B outs L).AllWr → ExsW (CG f names wr C B outs L) (bodyOf (fdAt C.w f).body) ((as ++ [AV.ref T]).map some ++ ls.map fun _ => none) ((T, .tup rest) :: led) fun fl v l => K (retOf fl) vals l) :
    CodeW C (.ref f) (as ++ rest) vals led K := by
  subst hn
  rintro _ ws rfl hws s hs
  obtain ⟨vs, us, rfl, hv, hu⟩ := hws.split
  refine callFnW ok FO ho hcd hbody hs fun A Q hQ => ?_
  rw [hbind vs us hv.length hu.length]
  refine wpAny_bind (wpAny_newTuple (wpAny_pure ?_) (by rw [sizeLine_eq, hu.length]; (first | lia | omega)))
  refine hQ (as ++ [.ref s.heap.objs.size]) ((s.heap.objs.size, .tup rest) :: led) (vs ++ [.ref s.heap.objs.size]) _ (hv.append (.cons VR.ref .nil)) (by simp; (first | lia | omega)) (hs.push (tk := s.toks) (ao := .tup rest) rfl ⟨us, 0, hu, rfl⟩) fun B outs L ok' => h _ B outs L ok' fun x hx => ?_
  obtain ⟨i, hi⟩ := List.mem_iff_getElem?.mp hx
  exact Wr_CF FO i hi
/-- a def whose binding looks at the heap -/
theorem CodeW_defP {f : Addr} {as : List AV} {pn ls wr names : List Str} {oc : Value} {od : Option Addr} {osl : Array (Option Value)} {K : AV → Vals → Ledger → Prop}
    (ok : COk C (k + 1)) (FO : FnOk (fdAt C.w f) pn ls wr) (hn : pn ++ ls = names) (ho : (KH C.w).lookup f = some ⟨oc, od, .func (fdAt C.w f), osl⟩) (hcd : codeIn (KH C.w) (fdAt C.w f).code (fdAt C.w f).qualname = true)
    (hbody : (fdAt C.w f).body = .stmts (bodyOf (fdAt C.w f).body)) (hlen : as.length = pn.length) (hbind : ∀ vs : List Value, vs.length = pn.length → ∀ S, peek (KH C.w) S (bindArgs (fdAt C.w f) ⟨vs, []⟩) = some (pn.zip vs))
    (h : ∀ B outs L, COk (CG f names wr C B outs L) k → (CG f names wr C B outs L).AllWr → ExsW (CG f names wr C B outs L) (bodyOf (fdAt C.w f).body) (as.map some ++ ls.map fun _ => none) led fun fl v l => K (retOf fl) vals l) :
    CodeW C (.ref f) as vals led K := by
  subst hn
  rintro _ vs rfl hvs s hs
  refine callFnW ok FO ho hcd hbody hs fun A Q hQ => ?_
  refine kp_binds (ok.here hs).1 (hbind vs (by rw [hvs.length, hlen])) _ _ _ _ ?_
  refine hQ as led vs s hvs hlen hs fun B outs L ok' => h B outs L ok' fun x hx => ?_
  obtain ⟨i, hi⟩ := List.mem_iff_getElem?.mp hx
  exact Wr_CF FO i hi
end
end Mine

-- part M27
namespace Mine
open PySem PySem.Calls PySem.W PyProof.Rows
section
variable {C : Cx} {vals : Vals} {led : Ledger} {k : Nat}
/-- the items of a starred list or tuple -/
noncomputable def SeqIn (led : Ledger) (a : AV) (xs : List AV) : Prop := ∃ l, a = .ref l ∧ ((l, AO.list xs) ∈ led ∨ (l, AO.tup xs) ∈ led)
theorem star_of {s : Shared} {a : AV} {va : Value} {xs : List AV} {Q : List Value → Shared → Prop} (hs : St C vals led s) (hx : SeqIn led a xs) (hva : VR a va) (hz : xs.length ≤ 1000) (h : ∀ vs s', VRs xs vs → St C vals led s' → Q vs s') : StarOf (Md C.w) C.A (fun _ _ => False) va Q s := by
  obtain ⟨l, rfl, hm⟩ := hx
  cases hva
  have : ∃ (T : String) (o : Obj) (vs : List Value) (n : Nat), s.heap.get? l = some o ∧ o.cls = .type T ∧ o.data = .seq vs.toArray n ∧ VRs xs vs ∧ (T = "list" ∨ T = "tuple") := by
    rcases hm with hm | hm
    · obtain ⟨o, ho, vs, n, hv, rfl⟩ := hs.get hm
      exact ⟨"list", _, vs, n, ho, rfl, rfl, hv, .inl rfl⟩
    · obtain ⟨o, ho, vs, n, hv, rfl⟩ := hs.get hm
      exact ⟨"tuple", _, vs, n, ho, rfl, rfl, hv, .inr rfl⟩
  obtain ⟨T, o, vs, n, D, hc, hd, hv, hT⟩ := this
  have hT' : s.TypeIs (.ref l) T := ⟨o, D, hc⟩
  have z : wpAny (Md C.w) C.A (collect (.ref l)) Q (fun _ _ => False) s :=
    wpAny_collect_seq l hT D hc hd (fun h' hk => by
      have := h vs { s with heap := h', toks := s.toks } hv (hs.ext hk)
      simpa using this) (by rw [sizeLine_eq, List.size_toArray, hv.length]; (first | lia | omega))
  unfold StarOf notIterableAtAll
  rcases hT with rfl | rfl
  · exact wpAny_bind (wpAny_specialOf hT' PySem.F.slot_list_iter.lookup (wpAny_pure ⟨rfl, z⟩))
  · exact wpAny_bind (wpAny_specialOf hT' PySem.F.slot_tuple_iter.lookup (wpAny_pure ⟨rfl, z⟩))
theorem ArgsW_star {pos p : Pos} {e : Expr} {K : List AV → Vals → Ledger → Prop} (he : starEach [.Starred e p] C.env = [(true, eval e C.env)]) (h : EvW C e vals led fun a v l => ∃ xs, SeqIn l a xs ∧ xs.length ≤ 1000 ∧ K xs v l) : ArgsW C pos [.Starred e p] vals led K :=
  ⟨fun s hs => items_star (h.use hs (fun u s₁ a v l hr hs₁ ⟨xs, hx, hz, hk⟩ => star_of hs₁ hx hr hz fun vs s' hv hs' => wpAny_items_nil ⟨xs, v, l, by rw [List.append_nil]; exact hv, hs', hk⟩)) he⟩
/-- f(e, .., *rest) -/
theorem CWW_star2 {pos : Pos} {f : Addr} {first : List AV} {e : Expr} {r : List Expr} {K : AV → Vals → Ledger → Prop} (ok : COk C k) (hf : keepIn (KH C.w) (.ref f) = true) (he : starEach (e :: r) C.env = (false, eval e C.env) :: starEach r C.env) (hst : (backTo pos (starEach r C.env)).any (·.1) = true)
    (h : ArgsW C pos (e :: r) vals led fun as v l => CallW C (.ref f) (first ++ as) v l K) : CWW C pos (.ref f) first (e :: r) vals led K := by
  rintro _ fs rfl hfs
  refine ⟨fun s hs => ?_⟩
  exact callWith_S2 (h₀ := s.heap) (ok.here hs).1 hf (h.use hs (fun us s₁ as v l hr hs₁ hk => ⟨(ok.here hs₁).1, (hk _ _ VR.ref (hfs.append hr)).run s₁ hs₁⟩)) he hst
/-- f(*rest) -/
theorem CWW_star {pos p : Pos} {f : Addr} {first : List AV} {e : Expr} {K : AV → Vals → Ledger → Prop} (ok : COk C k) (hf : keepIn (KH C.w) (.ref f) = true) (he : starEach [.Starred e p] C.env = [(true, eval e C.env)])
    (h : EvW C e vals led fun a v l => ∃ xs, SeqIn l a xs ∧ xs.length ≤ 1000 ∧ CallW C (.ref f) (first ++ xs) v l K) : CWW C pos (.ref f) first [.Starred e p] vals led K := by
  rintro _ fs rfl hfs
  refine ⟨fun s hs => ?_⟩
  exact callWith_S (h₀ := s.heap) (ok.here hs).1 hf (h.use hs (fun u s₁ a v l hr hs₁ ⟨xs, hx, hz, hk⟩ => star_of hs₁ hx hr hz fun vs s' hv hs' => ⟨(ok.here hs').1, (hk _ _ VR.ref (hfs.append hv)).run s' hs'⟩)) he
end
end Mine

-- part M28
namespace Mine
open PySem PySem.Calls PySem.W PyProof.Rows
/-- a set of texts: xs in the order in which they came -/
noncomputable def SetO (w : World) (xs : List Str) (o : Obj) : Prop := ∃ S n, n ≤ xs.length ∧ (∀ x, S x = true ↔ x ∈ xs) ∧ ∀ (h : Heap) a, h.get? a = some o → h.SetOf (PySem.strKind Pr w) a S n
section
variable {C : Cx} {vals : Vals} {led : Ledger} {k : Nat}
theorem setOf_obj {w : World} {h : Heap} {a : Addr} {S : Str → Bool} {n : Nat} (x : h.SetOf (PySem.strKind Pr w) a S n) : ∃ o, h.get? a = some o ∧ ∀ (h' : Heap) a', h'.get? a' = some o → h'.SetOf (PySem.strKind Pr w) a' S n :=
  let ⟨o, es, ep, t, ho, r⟩ := x; ⟨o, ho, fun h' a' e => ⟨o, es, ep, t, e, r⟩⟩
theorem CallW_set0 {K : AV → Vals → Ledger → Prop} (h : ∀ r, K (.ref r) vals ((r, .pred (SetO C.w [])) :: led)) : CallW C (.typ "set") [] vals led K := by
  rintro _ _ rfl hvs
  obtain rfl := hvs.unnil
  refine ⟨fun s hs => call_set_0 fun b => ⟨.ref s.heap.objs.size, vals, _, rfl, hs.push (tk := s.toks) (ao := .pred (SetO C.w [])) rfl ⟨fun _ => false, 0, Nat.le_refl _, fun x => by simp, fun h' a e => ?_⟩, h _⟩⟩
  exact ⟨_, #[], 0, _, e, ⟨rfl, rfl, rfl⟩, rfl, (fun e he => by simp at he), (fun k => by simp), by decide, by cases b <;> rfl, rfl⟩
theorem CallW_setAdd {a : Addr} {xs : List Str} {x : Str} {led' : Ledger} {K : AV → Vals → Ledger → Prop} (hm : (a, AO.pred (SetO C.w xs)) ∈ led) (hlen : xs.length ≤ 1000) (U : Upd a (.pred (SetO C.w (xs ++ [x]))) led led') (h : K .none vals led') : CallW C (.blt "set.add") [.ref a, .str x] vals led K := by
  rintro _ _ rfl hvs
  obtain ⟨_, _, rfl, rfl, t, rfl⟩ := hvs.two
  refine ⟨fun s hs => ?_⟩
  obtain ⟨o, ho, S, n, hn, hS, hO⟩ := pred_get hs hm
  refine call_set_add (strKind_is _ _ x t) rfl (hO _ _ ho) (by show _ < scanBound; unfold scanBound; (first | lia | omega)) fun h' hsb hset => ?_
  obtain ⟨o', ho', hO'⟩ := setOf_obj hset
  refine ⟨.none, vals, led', rfl, hs.upd (tk := s.toks + 1) U (fun b o hb e => (hsb.2 b hb).trans e) ho' ⟨_, _, ?_, fun y => ?_, hO'⟩, h⟩
  · simp; split <;> (first | lia | omega)
  · simp [hS y]
theorem CmpW_inSet {a : Addr} {xs : List Str} {x : Str} {K : AV → Vals → Ledger → Prop} (hm : (a, AO.pred (SetO C.w xs)) ∈ led) (h : K (.bool (decide (x ∈ xs))) vals led) : CmpW C .In (.str x) (.ref a) vals led K := by
  rintro _ _ ⟨t, rfl⟩ rfl
  refine ⟨fun s hs => ?_⟩
  obtain ⟨o, ho, S, n, hn, hS, hO⟩ := pred_get hs hm
  refine wpAny_inSet_of (strKind_is _ _ x t) rfl (hO _ _ ho) ⟨.bool (decide (x ∈ xs)), vals, led, ?_, hs.tok _, h⟩
  have : S x = decide (x ∈ xs) := by rw [Bool.eq_iff_iff, hS x]; simp
  rw [this]; rfl
end
end Mine

-- part M29
namespace Mine
open PySem PySem.Calls PySem.W PyProof.Rows

theorem slot_li_getattribute : Slot "list_iterator" "__getattribute__" "object.__getattribute__" :=
  .of (owner := "object") (n := "__getattribute__") (by rw [typeLookup_type, builtinLookup_eq_fast]; kernel_rfl) (by decide +kernel) (by decide +kernel) (by decide +kernel)
    (by first | exact .inl (by decide +kernel) | exact .inr (by decide +kernel)) (by rw [isSubtype_type]; kernel_rfl)
theorem entry_obj_getattribute : entryFor table "object.__getattribute__" = some Builtin.«object.__getattribute__» := entryFor_of_fast (by kernel_rfl)
theorem args_obj_getattribute (a b : Value) : argsOk "object.__getattribute__" ⟨[a, b], []⟩ := by unfold argsOk; kernel_rfl
theorem ty_li_next : typeOf (.builtin "list_iterator.__next__") = pure (.type "wrapper_descriptor") := by kernel_rfl
theorem slot_wd_get : Slot "wrapper_descriptor" "__get__" "wrapper_descriptor.__get__" :=
  .of (owner := "wrapper_descriptor") (n := "__get__") (by rw [typeLookup_type, builtinLookup_eq_fast]; kernel_rfl) (by decide +kernel) (by decide +kernel) (by decide +kernel)
    (by first | exact .inl (by decide +kernel) | exact .inr (by decide +kernel)) (by rw [isSubtype_type]; kernel_rfl)
theorem wd_set : typeLookup (.type "wrapper_descriptor") "__set__" = pure none := by rw [typeLookup_type, builtinLookup_eq_fast]; kernel_rfl
theorem wd_delete : typeLookup (.type "wrapper_descriptor") "__delete__" = pure none := by rw [typeLookup_type, builtinLookup_eq_fast]; kernel_rfl
theorem entry_wd_get : entryFor table "wrapper_descriptor.__get__" = some Builtin.«wrapper_descriptor.__get__» := entryFor_of_fast (by kernel_rfl)
theorem args_wd_get (a b c : Value) : argsOk "wrapper_descriptor.__get__" ⟨[a, b, c], []⟩ := by unfold argsOk; kernel_rfl
theorem sub_li_li : isSubtype (.type "list_iterator") (.type "list_iterator") = pure true := by rw [isSubtype_type]; kernel_rfl

theorem codeAny_meets {prog : Program} {w : World} {A : Around} {s : Shared} {R : Result → Shared → Prop} {T : String} {name : Str} {id : String} {B : Builtin} {self : Value} {rest : List Value} {S} (slot : Slot T name id) (hT : s.TypeIs self T)
    (entry : entryFor table id = some B) (args : argsOk id ⟨self :: rest, []⟩) (g : Meets (B ⟨self :: rest, []⟩) S) (h : S A R s) : codeAny (model prog w) A (.call (.builtin id) ⟨self :: rest, []⟩) R s :=
  codeAny_call_builtin slot.plain entry (slot.check _ _ _ _ _ _ _ _ hT args (g prog w A R s h))
theorem meets_wd_get (it : Addr) : Meets (Builtin.«wrapper_descriptor.__get__» ⟨[.builtin "list_iterator.__next__", .ref it, .type "list_iterator"], []⟩)
    (fun _ R s => s.TypeIs (.ref it) "list_iterator" ∧ R (.ok (.ret (.ref s.heap.objs.size))) { s with heap := s.heap.push { cls := .type "method-wrapper", data := .fields #[.builtin "list_iterator.__next__", .ref it] } }) :=
  Meets.of_wp fun prog w A R s hs => by
    obtain ⟨hp, g, d, tk, os⟩ := s
    obtain ⟨hT, hR⟩ := hs
    unfold Builtin.«wrapper_descriptor.__get__»
    repeat (any_goals (first | assumption | wp_step))
    have e1 : ".".intercalate ("list_iterator.__next__".cutAt '.').dropLast = "list_iterator" := by decide +kernel
    rw [e1]
    have f := sub_li_li
    rw [f]
    repeat (any_goals (first | assumption | wp_step))
    refine ⟨_, rfl, ?_⟩
    exact hR
theorem meets_li_getattribute (it l : Addr) (i : Nat) (u : Tok) :
    Meets (Builtin.«object.__getattribute__» ⟨[.ref it, .str "__next__" u], []⟩) (fun A R s => s.heap.get? it = some { cls := .type "list_iterator", dict := none, data := .fields #[.ref l, .int i 0], slots := #[] } ∧
      R (.ok (.ret (.ref s.heap.objs.size))) { s with heap := s.heap.push { cls := .type "method-wrapper", data := .fields #[.builtin "list_iterator.__next__", .ref it] } }) :=
  Meets.of_wp fun prog w A R s hs => by
    obtain ⟨hp, g, d, tk, os⟩ := s
    obtain ⟨hx, hs⟩ := hs
    have hT : (⟨hp, g, d, tk, os⟩ : Shared).TypeIs (.ref it) "list_iterator" := ⟨_, hx, rfl⟩
    have f1 := ty_li_next
    have f2 := slot_listiter_next.lookup
    have f3 := wd_set
    have f4 := wd_delete
    have f5 := slot_wd_get.lookup
    unfold Builtin.«object.__getattribute__»
    repeat (any_goals (first | assumption | wp_step))
    have hTd : (⟨hp, g, d, tk, os⟩ : Shared).TypeIs (.builtin "list_iterator.__next__") "wrapper_descriptor" := f1
    refine codeAny_meets slot_wd_get hTd entry_wd_get (args_wd_get _ _ _) (meets_wd_get it) ⟨hT, ?_⟩
    exact wpAny_pure ⟨_, rfl, hs⟩
theorem li_getattr_none : typeLookup (.type "list_iterator") "__getattr__" = pure none := by rw [typeLookup_type, builtinLookup_eq_fast]; kernel_rfl
theorem getAttr_li_next {prog : Program} {w : World} {A : Around} {E : Value → Shared → Prop} {s : Shared} {it l : Addr} {i : Nat} {Q : Value → Shared → Prop}
    (hx : s.heap.get? it = some { cls := .type "list_iterator", dict := none, data := .fields #[.ref l, .int i 0], slots := #[] })
    (h : ∀ tk, Q (.ref s.heap.objs.size) { s with heap := s.heap.push { cls := .type "method-wrapper", data := .fields #[.builtin "list_iterator.__next__", .ref it] }, toks := tk }) :
    wpAny (model prog w) A (getAttr (.ref it) "__next__" true) Q E s := by
  obtain ⟨hp, g, d, tk, os⟩ := s
  have hT : ∀ tk', (⟨hp, g, d, tk', os⟩ : Shared).TypeIs (.ref it) "list_iterator" := fun _ => ⟨_, hx, rfl⟩
  have f3 := slot_li_getattribute.lookup
  have f4 := slot_li_getattribute.bind (.ref it)
  unfold getAttr getAttrBy
  repeat (any_goals (first | assumption | exact hT _ | ((with_reducible show wpAny _ _ (call (Value.builtin "object.__getattribute__") _ _) _ _ _); refine call_meets slot_li_getattribute (hT _) entry_obj_getattribute (args_obj_getattribute _ _) (meets_li_getattribute it l i _) ⟨hx, ?_⟩) | wp_step))
  show wpAny _ _ (handedOut _) _ _ _
  exact wpAny_pure (h _)

noncomputable def LIt (l : Addr) (i : Nat) : Obj := { cls := .type "list_iterator", data := .fields #[.ref l, .int i 0] }
noncomputable def MW (it : Addr) : Obj := { cls := .type "method-wrapper", data := .fields #[.builtin "list_iterator.__next__", .ref it] }
section
variable {prog : Program} {w : World} {A : Around} {E : Value → Shared → Prop} {s : Shared}
theorem call_mw {m it : Addr} {Q : Value → Shared → Prop} (hm : s.heap.get? m = some (MW it))
    (hb : wpAny (model prog w) A.in1 (Builtin.«list_iterator.__next__» ⟨[.ref it], []⟩) (fun fin s' => ∃ v, fin = .done (.ret v) ∧ Q v s') E s) : wpAny (model prog w) A (call (.ref m) []) Q E s := by
  refine wpAny_call (codeAny_of_tree ?_)
  show wpAny _ A.in1 (callAny (.ref m) ⟨[], []⟩) _ _ s
  unfold callAny
  refine wpAny_bind (wpAny_load hm ?_)
  show wpAny _ _ (checkBoundCall "list_iterator.__next__" ⟨[.ref it], []⟩ >>= _) _ _ _
  have e : checkBoundCall "list_iterator.__next__" ⟨[.ref it], []⟩ = pure () := by kernel_rfl
  rw [e]
  refine wpAny_bind (wpAny_pure ?_)
  show wpAny _ A.in1 (again (.builtin "list_iterator.__next__" ⟨[.ref it], []⟩)) _ _ _
  refine wpAny_pure ⟨plainId_quiet slot_listiter_next.plain _, codeAny_builtin entry_listiter_next ?_⟩
  rw [Around.under_plainId slot_listiter_next.plain]
  refine wpAny_mono hb (fun fin s' h => ?_) fun _ _ x => x
  obtain ⟨v, rfl, h⟩ := h
  exact h
theorem next_item {it l : Addr} {i : Nat} {items : Array Value} {x : Value} {Q : Value → Shared → Prop} (hit : s.heap.get? it = some (LIt l i)) (hl : s.heap.IsList l items) (hx : items[i]? = some x)
    (hQ : ∀ h', h'.get? it = some (LIt l (i + 1)) → Heap.SameBut it s.heap h' → Q x { s with heap := h' }) :
    wpAny (model prog w) A (Builtin.«list_iterator.__next__» ⟨[.ref it], []⟩) (fun fin s' => ∃ v, fin = .done (.ret v) ∧ Q v s') E s := by
  obtain ⟨ol, hol, _, nl, hdl⟩ := hl
  show wpAny _ _ (field (.ref it) 0 >>= _) _ _ s
  refine wpAny_bind (wpAny_field hit rfl (x := .ref l) rfl ?_)
  show wpAny _ _ (if (Value.ref l == Value.none) = true then _ else _) _ _ s
  rw [if_neg (show ¬ ((Value.ref l == Value.none) = true) from Bool.false_ne_true)]
  show wpAny _ _ (field (.ref it) 1 >>= _) _ _ s
  refine wpAny_bind (wpAny_field hit rfl (x := .int i 0) rfl ?_)
  show wpAny _ _ (seqItems? (.ref l) >>= _) _ _ s
  refine wpAny_bind (wpAny_seqItems hol hdl ?_)
  simp only [Int.toNat_natCast, hx]
  refine wpAny_bind (wpAny_setField hit rfl (by simp) (wpAny_pure ⟨x, rfl, (hQ _ ?_ (Heap.SameBut.update ..))⟩))
  exact Heap.get?_update_self _ hit rfl
theorem next_end {it l : Addr} {i : Nat} {items : Array Value} {Q : Fin → Shared → Prop} (hh : A.handled = none) (hit : s.heap.get? it = some (LIt l i)) (hl : s.heap.IsList l items) (hx : items[i]? = none)
    (hE : ∀ h' e vs oe, Heap.ExtBut it s.heap h' → s.heap.get? e = none → h'.get? e = some oe → oe.cls = .type "StopIteration" → oe.data = .fields vs → vs[1]? = some .none → E (.ref e) { s with heap := h' }) :
    wpAny (model prog w) A (Builtin.«list_iterator.__next__» ⟨[.ref it], []⟩) Q E s := by
  obtain ⟨ol, hol, _, nl, hdl⟩ := hl
  show wpAny _ _ (field (.ref it) 0 >>= _) _ _ s
  refine wpAny_bind (wpAny_field hit rfl (x := .ref l) rfl ?_)
  show wpAny _ _ (if (Value.ref l == Value.none) = true then _ else _) _ _ s
  rw [if_neg (show ¬ ((Value.ref l == Value.none) = true) from Bool.false_ne_true)]
  show wpAny _ _ (field (.ref it) 1 >>= _) _ _ s
  refine wpAny_bind (wpAny_field hit rfl (x := .int i 0) rfl ?_)
  show wpAny _ _ (seqItems? (.ref l) >>= _) _ _ s
  refine wpAny_bind (wpAny_seqItems hol hdl ?_)
  simp only [Int.toNat_natCast, hx]
  refine wpAny_bind (wpAny_rule (wpAny_bind (wpAny_setField hit rfl (by simp) ?_)))
  show wpAny _ _ (newExc (.type "StopIteration") [] >>= _) _ _ _
  refine wpAny_bind ?_
  simp only [newExc, newTuple]
  refine wpAny_bind (wpAny_newObj_type ?_ (by size_fits))
  refine wpAny_bind (m := firstArgMember _ _) (wpAny_of_eq (a := Value.none) (by first | rfl | (simp only [firstArgMember]; rfl)) ?_)
  refine wpAny_newObj_type ?_ (by size_fits)
  simp only [raiseNew]
  refine wpAny_bind (wpAny_handled ?_)
  rw [show A.handled = none from hh]
  refine wpAny_bind (wpAny_pure (wpAny_throw ?_))
  refine hE _ _ _ _ (((Heap.SameBut.update ..).extBut.push _).push _) ?_ (Heap.get?_push_size _ rfl) rfl rfl ?_
  · refine Heap.get?_none_of_le ?_
    rw [Heap.size_push, Heap.size_after_update]; (first | lia | omega)
  · rw [Array.getElem?_append_left (by simp)]; rfl
end
section
variable {C : Cx} {vals : Vals} {led : Ledger} {k : Nat}
theorem CallW_iter {l : Addr} {xs : List AV} {K : AV → Vals → Ledger → Prop} (hm : (l, AO.list xs) ∈ led) (h : ∀ it, K (.ref it) vals ((it, .raw (LIt l 0)) :: led)) : CallW C (.blt "iter") [.ref l] vals led K := by
  rintro _ _ rfl hvs
  obtain ⟨_, rfl, rfl⟩ := hvs.one
  refine ⟨fun s hs => ?_⟩
  obtain ⟨vs, hv, hl⟩ := hs.list hm
  refine call_function_entry (by decide +kernel) (by decide +kernel) kdk_entry_iter (kdk_args_iter _) ?_
  unfold Builtin.«iter»
  refine wpAny_bind (m := someArgs "iter" 1 2 _) (wpAny_of_eq (a := [Value.ref l]) (by first | rfl | kernel_rfl!) ?_)
  show wpAny _ _ (pyIter (.ref l) >>= _) _ _ _
  refine wpAny_bind (wpAny_pyIter_list hl.isList ?_)
  exact wpAny_pure ⟨_, rfl, .ref s.heap.objs.size, vals, _, rfl, hs.push (tk := s.toks) (ao := .raw (LIt l 0)) rfl rfl, h _⟩
theorem GetAW_next {it l : Addr} {i : Nat} {K : AV → Vals → Ledger → Prop} (hm : (it, AO.raw (LIt l i)) ∈ led) (h : ∀ m, K (.ref m) vals ((m, .raw (MW it)) :: led)) : GetAW C (.ref it) "__next__" vals led K := by
  rintro _ rfl
  refine ⟨fun s hs => getAttr_li_next (raw_get hs hm) fun tk => ?_⟩
  exact ⟨.ref s.heap.objs.size, vals, _, rfl, hs.push (tk := tk) (ao := .raw (MW it)) rfl rfl, h _⟩
theorem ExW_ExprAny {e : Expr} {pos : Pos} {K : AF → Vals → Ledger → Prop} (hi : interactive C.env = false) (hsw : swapsWith e none pos.line C.env = pure false) (h : EvW C e vals led fun a v l => K .next v l) : ExW C (.Expr e pos) vals led K :=
  ⟨fun s hs => wpAny_Expr_any (wpAny_mono (h.run s hs) (fun u s₁ ⟨b, v, l, hr, hs₁, hk⟩ => ⟨.next, v, l, rfl, hs₁, hk⟩) fun _ _ x => x) hi hsw⟩
end
end Mine

-- part M30
namespace Mine
open PySem PySem.Calls PySem.W PyProof.Rows

section
variable {M : Model} {A : Around} {E : Value → Shared → Prop} {s : Shared}
/-- a fresh exception is noted in a frame: only the frames' slots and the exception are touched -/
theorem note_first {env : Env} {outer : List Env} {L e : Addr} {oe : Obj} {vs : Array Value} {Q : Unit → Shared → Prop}
    (hfr : A.frames = some (env :: outer)) (hl : s.heap.FunFrames {} (env :: outer)) (hf : env.frame = some L)
    (he : s.heap.get? e = some oe) (hd : oe.data = .fields vs) (h1 : vs[1]? = some .none)
    (hfin : ∀ h', (∀ b o, b ∉ (env :: outer).filterMap (·.frame) → b ≠ e → s.heap.get? b = some o → h'.get? b = some o) → (∀ b o, b ≠ e → s.heap.get? b = some o → ∃ o', h'.get? b = some o' ∧ o'.data = o.data) →
      (Ex5 fun oe' vs' T oT ts => An8 (h'.get? e = some oe') (oe'.cls = oe.cls) (oe'.data = .fields vs') (vs'[1]? = some (.ref T)) (s.heap.get? T = none) (h'.get? T = some oT) (oT.data = .fields ts) (3 < ts.size)) → Q () { s with heap := h' }) :
    wpAny M A (noteFrame (.ref e) env) (fun _ s' => wpAny M A (setFlight (.ref e) none) Q E s') E s := by
  have hsz : 1 < vs.size := (Array.getElem?_eq_some_iff.mp h1).1
  have hene : e ∉ (env :: outer).filterMap (·.frame) := fun hm => by
    obtain ⟨_, o, ho, hnf⟩ := hl.mem hm
    rw [he] at ho; injection ho with ho; subst ho; exact hnf vs hd
  unfold noteFrame
  simp only [hf]
  refine wpAny_bind (wpAny_field he hd h1 ?_)
  rw [if_neg (by decide)]
  refine wpAny_bind (wpAny_frameOf_fun hfr hl hf fun h₁ hs₁ => ?_)
  refine wpAny_bind (wpAny_entryPlaceOf fun pl hpl => ?_)
  unfold EntryCells.newEntry newFields
  refine wpAny_bind (wpAny_newObj_type ?_ (hpl.sizeOk5 _ _ _ _ _))
  have he₁ : h₁.get? e = some oe := (hs₁.2.1 e hene).trans he
  generalize hobj : ({ cls := .type "traceback", dict := none, data := .fields ([Value.none, .ref L, .none, rawInt L, .none] ++ (if pl.isEmpty then List.replicate 6 Value.none else pl)).toArray } : Obj) = tbo
  have he₂ := Heap.get?_push_of_some (h := h₁) tbo he₁
  refine wpAny_setField he₂ hd hsz ?_
  have hTe : h₁.objs.size ≠ e := Nat.ne_of_gt (Heap.lt_size he₁)
  have hd₃ := Obj.data_mapFields hd (·.setIfInBounds 1 (Value.ref h₁.objs.size))
  have he₃ := Heap.get?_update_self (Obj.mapFields (·.setIfInBounds 1 (Value.ref h₁.objs.size))) he₂ (Obj.isFreed_of_fields hd₃)
  have hdt : tbo.data = .fields ([Value.none, .ref L, .none, rawInt L, .none] ++ (if pl.isEmpty then List.replicate 6 Value.none else pl)).toArray := by rw [← hobj]
  have hT₃ := (Heap.get?_update_other (h₁.push tbo) (Obj.mapFields (·.setIfInBounds 1 (Value.ref h₁.objs.size))) (Ne.symm hTe)).trans (Heap.get?_push_size h₁ (Obj.isFreed_of_fields hdt))
  unfold setFlight
  refine wpAny_bind (wpAny_field he₃ hd₃ (x := .ref h₁.objs.size) (by simp [hsz]) ?_)
  rw [if_pos (show (Value.ref h₁.objs.size != Value.none) = true from by simp)]
  have h3 : 3 < ([Value.none, .ref L, .none, rawInt L, .none] ++ (if pl.isEmpty then List.replicate 6 Value.none else pl)).toArray.size := by simp only [List.size_toArray, List.length_append, List.length_cons, List.length_nil] <;> (first | lia | omega)
  refine wpAny_setField hT₃ hdt h3 (hfin _ ?_ ?_ ?_)
  · intro b o hb hbe ho
    have h1o : h₁.get? b = some o := (hs₁.2.1 b hb).trans ho
    have hbT : h₁.objs.size ≠ b := Nat.ne_of_gt (Heap.lt_size h1o)
    rw [Heap.get?_update_other _ _ hbT, Heap.get?_update_other _ _ (Ne.symm hbe)]
    exact Heap.get?_push_of_some _ h1o
  · intro b o hbe ho
    obtain ⟨sl, h1o⟩ := hs₁.2.2 b o ho
    have hbT : h₁.objs.size ≠ b := Nat.ne_of_gt (Heap.lt_size h1o)
    refine ⟨{ o with slots := sl }, ?_, rfl⟩
    rw [Heap.get?_update_other _ _ hbT, Heap.get?_update_other _ _ (Ne.symm hbe)]
    exact Heap.get?_push_of_some _ h1o
  · refine ⟨_, _, h₁.objs.size, _, _, ?_, Obj.cls_mapFields _ _, hd₃, by simp [hsz], Heap.get?_none_of_le (by rw [hs₁.1]; exact Nat.le_refl _), Heap.get?_update_self _ hT₃ (Obj.isFreed_of_fields (Obj.data_mapFields hdt _)), Obj.data_mapFields hdt _, ?_⟩
    · rw [Heap.get?_update_other _ _ hTe]; exact he₃
    · rw [Array.size_setIfInBounds]; exact h3
end

/-- in a handler -/
noncomputable abbrev Cx.marked (C : Cx) (e : Addr) : Cx := { C with A := C.A.mark (some (.ref e)) }
section
variable {C : Cx} {vals : Vals} {led : Ledger} {k : Nat}
theorem St.mark {s : Shared} {e : Addr} (H : St C vals led s) : St (C.marked e) vals led s :=
  ⟨H.same, H.keep, H.outs, H.outsB, H.frameB, H.frameN, H.locs, H.cellsO, H.len, H.vars, H.ledg, H.nd⟩
theorem St.unmark {s : Shared} {e : Addr} (H : St (C.marked e) vals led s) : St C vals led s :=
  ⟨H.same, H.keep, H.outs, H.outsB, H.frameB, H.frameN, H.locs, H.cellsO, H.len, H.vars, H.ledg, H.nd⟩
/-- a name in a handler -/
theorem EvNm {x : Str} {pos : Pos} {a : AV} {e : Addr} {K : AV → Vals → Ledger → Prop} (ok : COk C k) (hv : VarIs C.names vals x a) (h : K a vals led) : EvW (C.marked e) (.Name x pos) vals led K := by
  obtain ⟨i, hi, hvi⟩ := hv.both
  refine ⟨fun s hs => wpAny_Name ?_ (ok.ndbg x (List.mem_of_getElem? hi)).1⟩
  rcases hs.vars i x _ hi hvi with ⟨hk, mm, hn, ho⟩ | ⟨hk, c, u, hc, hcell, ho⟩
  · cases hmx : mm x with
    | none => rw [hmx] at ho; cases ho
    | some v =>
      rw [hmx] at ho
      cases ho with
      | some hr => exact wpAny_loadName_local ok.kind hk hn hmx ⟨a, vals, led, hr, hs, h⟩
  · cases u with
    | none => cases ho
    | some v =>
      cases ho with
      | some hr =>
        rcases hk with hk | hk
        · exact wpAny_loadName_cell ok.kind hk hc hcell ⟨a, vals, led, hr, hs, h⟩
        · exact wpAny_loadName_free ok.kind hk hc hcell ⟨a, vals, led, hr, hs, h⟩ (ok.ndbg x (List.mem_of_getElem? hi)).2
noncomputable def StopO (o : Obj) : Prop := o.cls = .type "StopIteration" ∧ ∃ vs, o.data = .fields vs ∧ vs[1]? = some .none
/-- a run that ends, or that raises StopIteration -/
noncomputable def TX (C : Cx) {α β : Type} (rel : β → α → Prop) (t : Sem α) (vals : Vals) (led : Ledger) (K : β → Vals → Ledger → Prop) (KE : Vals → Ledger → Prop) : Prop :=
  ∀ s, St C vals led s → wpAny (Md C.w) C.A t (fun a s' => Post C rel K a s') (fun x s' => Ex4 fun e oe v l => An6 (x = .ref e) (St C v l s') (Off C l [e]) (s'.heap.get? e = some oe) (StopO oe) (KE v l)) s
theorem gB_Stop (w : World) : nsIn (KH w) mainGlobals "StopIteration" = some none := by kernel_rfl
theorem sub_stop_base : isSubtype (.type "StopIteration") (.type "BaseException") = pure true := by rw [isSubtype_type]; kernel_rfl
theorem stop_tuple : isSubtype (.type ((Manifest.find? "StopIteration").elim "type" fun x => x.metatype)) (.type "tuple") = pure false := by
  rw [isSubtype_type]; kernel_rfl
theorem ExW_TryStop {body : List Stmt} {b₀ : Stmt} {suite : List Stmt} {sp hp pos : Pos} {outer : List Env} {K : AF → Vals → Ledger → Prop} (ok : COk C k) (hfr : C.A.frames = some (C.env :: outer)) (hfe : C.env.frame = some C.env.locals)
    (hx : C.env.kindOf "StopIteration" = some .globalImplicit)
    (h : TX C FRel (execs body C.env) vals led (fun f v l => f ≠ .next ∧ K f v l) fun v l => ∀ e, ExsW (C.marked e) (b₀ :: suite) v l K) :
    ExW C (.Try body [.ExceptHandler (some (.Name "StopIteration" sp)) none (b₀ :: suite) hp] [] [] pos) vals led K := by
  refine ⟨fun s hs => wpAny_Try_except (wpAny_mono (h s hs) (fun f s₁ hk => ?_) fun x s₁ hk => ?_)⟩
  · obtain ⟨b, v, l, hr, hs₁, hne, hk⟩ := hk
    cases b with
    | next => exact absurd rfl hne
    | brk => cases hr; exact ⟨.brk, v, l, rfl, hs₁, hk⟩
    | cont => cases hr; exact ⟨.cont, v, l, rfl, hs₁, hk⟩
    | ret a => obtain ⟨u, rfl, hu⟩ := hr; exact ⟨.ret a, v, l, ⟨u, rfl, hu⟩, hs₁, hk⟩
  · obtain ⟨e, oe, v, l, rfl, hs₁, O, he, ⟨hcls, vs, hd, h1⟩, hk⟩ := hk
    obtain ⟨O1, O2, O3, O4⟩ := O e (.head _)
    obtain ⟨fs, hfs, hF⟩ := ok.frames
    rw [hfr] at hfs; cases hfs
    -- the frames
    have fin : ∀ x ∈ C.env :: outer, ∃ L, x.frame = some L ∧ (L = C.env.locals ∨ ∃ p ∈ C.outs, p.1 = L) ∧ ∃ o, s₁.heap.get? L = some o ∧ ∀ vs, o.data ≠ .fields vs := by
      intro x hx
      rcases (hF x hx).2 with q | ⟨p, hp, q, es, n, hd⟩
      · obtain ⟨mm, o, es, ep, ho, hdo, _⟩ := hs₁.locs
        exact ⟨_, q, .inl rfl, o, ho, fun vs e => by rw [hdo] at e; cases e⟩
      · obtain ⟨o, ho, hdo⟩ := hs₁.outs p hp
        exact ⟨_, q, .inr ⟨p, hp, rfl⟩, o, ho, fun vs e => by rw [hdo, hd] at e; cases e⟩
    have ff : s₁.heap.FunFrames {} (C.env :: outer) := by
      have : ∀ l : List Env, (∀ x ∈ l, x.scope.kind ≠ .module ∧ ∃ L, x.frame = some L ∧ (L = C.env.locals ∨ ∃ p ∈ C.outs, p.1 = L) ∧ ∃ o, s₁.heap.get? L = some o ∧ ∀ vs, o.data ≠ .fields vs) → s₁.heap.FunFrames {} l := by
        intro l
        induction l with
        | nil => intro _; trivial
        | cons x r ih =>
          intro hl
          obtain ⟨hk, L, hL, _, o, ho, hno⟩ := hl x (.head _)
          exact ⟨hk, ⟨L, o, hL, by first | rfl | exact Heap.get?_none_of_le (Nat.zero_le _), ho, hno⟩, ih fun y hy => hl y (.tail _ hy)⟩
      exact this _ fun x hx => ⟨(hF x hx).1, fin x hx⟩
    have inF : ∀ b, b ∈ (C.env :: outer).filterMap (·.frame) → b ∈ C.frameAddrs ∨ ∃ p ∈ C.outs, p.1 = b := by
      intro b hb
      obtain ⟨x, hx, q⟩ := List.mem_filterMap.mp hb
      obtain ⟨L, hL, hin, _⟩ := fin x hx
      rw [hL] at q; cases q
      rcases hin with rfl | hin
      · exact .inl (.head _)
      · exact .inr hin
    refine note_first hfr ff hfe he hd h1 fun h' k1 k2 k3 => ?_
    obtain ⟨oe', vs', T, oT, ts, he', hcls', hd', h1', hTn, hT, hdT, h3⟩ := k3
    have H2 : St C v l { s₁ with heap := h', toks := s₁.toks } := by
      have notF : ∀ b, C.B b ≠ none ∨ (∃ p ∈ l, p.1 = b) → b ∉ (C.env :: outer).filterMap (·.frame) := by
        intro b hb hm
        rcases inF b hm with q | ⟨p, hp, q⟩
        · rcases hb with hb | ⟨p, hp, e⟩
          · exact hb (hs₁.frameB b q).1
          · exact (hs₁.frameB b q).2.1 p hp e
        · rcases hb with hb | ⟨p', hp', e⟩
          · exact hb (q ▸ hs₁.outsB p hp)
          · exact (hs₁.ledg p' hp').2.2 p hp (q.trans e.symm)
      refine hs₁.change (fun b o eB => k1 b o (notF b (.inl (by rw [eB]; exact fun q => by cases q))) (fun q => by rw [q, O1] at eB; cases eB) (hs₁.keep b o eB)) (fun a o ha eo => k2 a o (fun q => ?_) eo) (fun p hp => ?_) hs₁.nd
      · rcases ha with ha | ⟨p, hp, e2⟩
        · exact O4 a ha q
        · exact O3 p hp (e2.trans q)
      · obtain ⟨⟨o, ho, hr⟩, hb, hq⟩ := hs₁.ledg p hp
        exact ⟨⟨o, k1 _ o (notF _ (.inr ⟨p, hp, rfl⟩)) (O2 p hp) ho, hr⟩, hb, hq, fun a ha => (hs₁.frameB a ha).2.1 p hp⟩
    have H3 : St (C.marked e) v l { s₁ with heap := h' } := H2.mark
    have hT2 : ({ s₁ with heap := h' } : Shared).TypeIs (.ref e) "StopIteration" := ⟨oe', he', hcls'.trans hcls⟩
    refine wpAny_handleBy_builtin (X := "StopIteration") (T := "StopIteration") (b := true) sub_stop_base stop_tuple isSubtype_stop ?_
    obtain ⟨X, _, p, loose, mean, mg, mb, Tp⟩ := ok.here H2
    have hv : bootBuiltins "StopIteration" = some (.type "StopIteration") := by kernel_rfl
    refine Calls.Name_function_global ok.kind hx (Calls.loadGlobal_builtin (by rw [ok.glob]; exact Tp.g) (mg_none_of X Tp.g (gB_Stop _)) (by rw [ok.bu]; exact Tp.b) ((Tp.builtins "StopIteration" (by decide)).trans hv) ⟨rfl, hT2, ?_⟩) (by decide)
    rw [if_pos rfl]
    refine wpAny_setFlight_none he' hd' h1' hT hdT h3 ?_
    have OT : Off C l [T] := fun a ha => by
      obtain rfl := List.mem_singleton.mp ha
      exact hs₁.fresh_not hTn
    have H4 : St C v l { ({ s₁ with heap := h' } : Shared) with heap := h'.update T (Obj.mapFields (·.setIfInBounds 3 .none)), toks := s₁.toks } :=
      H2.off OT fun b o hb ho => by
        rw [Heap.get?_update_other _ _ (fun q => hb (by rw [q]; exact .head _))]; exact ho
    refine wpAny_mono ((hk e).run _ H4.mark) (fun f s' hq => ?_) fun _ _ x => x.elim
    obtain ⟨b, v', l', hr, hs', hq⟩ := hq
    exact ⟨b, v', l', hr, hs'.unmark, hq⟩
/-- x = f() ; break, where f is the bound __next__ of a list's iterator -/
theorem TX_next {x : Str} {px cp ap bp : Pos} {func : Expr} {K : AF → Vals → Ledger → Prop} {KE : Vals → Ledger → Prop} (ok : COk C k)
    (he : eval (.Call func [] [] cp) C.env = (do callWith cp (← eval func C.env) [] (backTo cp (starEach [] C.env)) (backToKw cp (keywordEach [] C.env)))) (hsw : swapsWith (.Call func [] [] cp) (some (.Name x px)) ap.line C.env = pure false)
    (h : EvW C func vals led fun f v l => Ex6 fun m it lst i xs l0 => An8 (f = .ref m) ((m, AO.raw (MW it)) ∈ l) ((it, AO.raw (LIt lst i)) ∈ l) ((lst, AO.list xs) ∈ l) (l0.Sublist l) ((∀ p ∈ l0, p.1 ≠ it)) ((∀ a, xs[i]? = some a → ∃ l', Upd it (.raw (LIt lst (i + 1))) l l' ∧ StoW C x a v l' fun v l => K .brk v l)) ((xs[i]? = none → KE v l0))) :
    TX C FRel (execs [.Assign [.Name x px] (.Call func [] [] cp) ap, .Break bp] C.env) vals led K KE := by
  intro s hs
  refine wpAny_execs_cons (wpAny_Assign_Name ?_ hsw)
  refine Call_ (wpAny_mono (h.run s hs) (fun u s₁ hk => ?_) fun _ _ x => x.elim) he
  obtain ⟨f, v, l, hr, hs₁, m, it, lst, i, xs, l0, rfl, hm, hit, hl, hsub, hne, hi, hn⟩ := hk
  cases hr
  have hm' := raw_get hs₁ hm
  have hit' := raw_get hs₁ hit
  obtain ⟨vs, hv, hl'⟩ := hs₁.list hl
  refine callWith_of (P := fun h => h.get? m = some (MW it)) rfl (fun hp hq => ⟨.machine, .inr (.inl rfl), (Looks.ld (part := none) hq).andThen .now⟩) (evalArgs_nil3 ⟨hm', ?_⟩)
  refine call_mw hm' ?_
  cases q : xs[i]? with
  | some a =>
    obtain ⟨w, hw, hwa⟩ := hv.get' q
    refine next_item hit' hl'.isList (by simpa using hw) fun h' g1 g2 => ?_
    obtain ⟨l', U, hS⟩ := hi a q
    have H2 : St C v l' { s₁ with heap := h', toks := s₁.toks } := hs₁.upd U (fun b o hb ho => (g2.2 b hb).trans ho) g1 rfl
    refine wpAny_mono ((hS w hwa).run _ H2) (fun _ s₂ hq => ?_) fun _ _ x => x.elim
    obtain ⟨_, v2, l2, _, hs2, hk2⟩ := hq
    exact wpAny_execs_cons (wpAny_Break ⟨.brk, v2, l2, rfl, hs2, hk2⟩)
  | none =>
    have hw : vs[i]? = none := by
      have := List.getElem?_eq_none_iff.mp q
      rw [List.getElem?_eq_none_iff, hv.length]; exact this
    refine next_end (A := C.A.in1) (by exact ok.hand) hit' hl'.isList (by simpa using hw) fun h' e ws oe g1 g2 g3 g4 g5 g6 => ?_
    have hs0 := hs₁.sub hsub
    have O1 : Off C l0 [it] := fun a ha => by
      obtain rfl := List.mem_singleton.mp ha
      obtain ⟨_, hB, hO⟩ := hs₁.ledg _ hit
      exact ⟨hB, hne, hO, fun x hx => Ne.symm ((hs₁.frameB x hx).2.1 _ hit)⟩
    have H2 : St C v l0 { s₁ with heap := h', toks := s₁.toks } := hs0.off O1 fun b o hb ho => g1 b o (fun q => hb (by rw [q]; exact .head _)) ho
    exact ⟨e, oe, v, l0, rfl, H2, fun a ha => by obtain rfl := List.mem_singleton.mp ha; exact hs0.fresh_not g2, g3, ⟨g4, ws, g5, g6⟩, hn q⟩
end
end Mine

-- part M31
namespace Mine
open PySem PySem.Calls PySem.W PyProof.Rows

/-- a method that is bound -/
noncomputable def bmethIn (K : Frag) (c f : Addr) (name : Str) : Bool :=
  plainGet K c name && hasDictIn K c && (findIn K (.ref c) name == some (some (.ref f))) && isFn K (.ref f) && (specialIn K (.ref f) "__get__" == some (some (.builtin "function.__get__"))) &&
  (takesIn K (.ref f) == some false) && !(copiedNames.contains name) && fnIn K f
section
variable {C : Cx} {vals : Vals} {led : Ledger} {k : Nat}
theorem GetAW_meth {x c d f : Addr} {es : List (Str × AV)} {ep : Option Nat} {name : Str} {K : AV → Vals → Ledger → Prop} (ok : COk C k) (hx : (x, AO.inst c d) ∈ led) (hd : (d, AO.dict es ep) ∈ led) (hm : bmethIn (KH C.w) c f name = true) (hg : dget es name = none)
    (h : ∀ q, K (.ref q) vals ((q, .raw (methodObj (.ref f) (.ref x))) :: led)) : GetAW C (.ref x) name vals led K := by
  rintro _ rfl
  refine ⟨fun s hs => ?_⟩
  obtain ⟨od, kvs, hv, hD, I⟩ := hs.inst hx hd
  simp only [bmethIn, Bool.and_eq_true, beq_iff_eq, Bool.not_eq_true'] at hm
  obtain ⟨⟨⟨⟨⟨⟨⟨q1, q2⟩, q3⟩, q4⟩, q5⟩, q6⟩, q7⟩, q8⟩ := hm
  have X := (ok.here hs).1
  have hl : lookIn name od = some none := by
    rw [lookIn_dict hD]
    have hg' := hv.get name
    rw [hg] at hg'
    generalize valueAt kvs name = q at hg'
    cases hg'
    rfl
  refine get_bind X I (plainGet_of q1).1 (findObj_fn q2 q3 q5 q6 q7 hl) (plainGet_of q1).2
    (wpAny_call (fn_get (s := { s with toks := s.toks + 1 }) X (beq_iff_eq.mp q4) (handed_on rfl ?_)))
  exact ⟨.ref s.heap.objs.size, vals, _, rfl, hs.push (tk := s.toks + 1) (ao := .raw (methodObj (.ref f) (.ref x))) rfl rfl, h _⟩
theorem EvW_MethG {o : Expr} {name : Str} {apos pos : Pos} {args : List Expr} {K : AV → Vals → Ledger → Prop}
    (he : eval (.Call (.Attribute o name apos) args [] pos) C.env = (do
      let ov ← eval o C.env
      standAt apos.atName
      let (f, first) ← holding [ov] (do pure (← getAttr ov name true, []))
      callWith pos f first (backTo pos (starEach args C.env)) []))
    (h : EvW C o vals led fun a v l => GetAW C a name v l fun f v l => CWW C pos f [] args v l K) : EvW C (.Call (.Attribute o name apos) args [] pos) vals led K := by
  refine ⟨fun s hs => ?_⟩
  show wpAny _ _ (eval (.Call (.Attribute o name apos) args [] pos) C.env) _ _ _
  rw [he]
  refine wpAny_bind (h.use hs (fun ov s₁ a v l hr hs₁ hk => wpAny_bind (wpAny_standAt (wpAny_bind (wpAny_holding (wpAny_bind ((hk ov hr).use hs₁ (fun fv s₂ f v2 l2 hr2 hs₂ hk2 => wpAny_pure ?_))))))))
  exact (hk2 fv [] hr2 .nil).run s₂ hs₂
/-- m(e, .., *rest), m a bound method -/
theorem CWW_bstar2 {pos : Pos} {q f x : Addr} {e : Expr} {r : List Expr} {K : AV → Vals → Ledger → Prop} (ok : COk C k) (hf : fnIn (KH C.w) f = true) (he : starEach (e :: r) C.env = (false, eval e C.env) :: starEach r C.env) (hst : (backTo pos (starEach r C.env)).any (·.1) = true)
    (h : ArgsW C pos (e :: r) vals led fun as v l => (q, AO.raw (methodObj (.ref f) (.ref x))) ∈ l ∧ CodeW C (.ref f) (.ref x :: as) v l K) : CWW C pos (.ref q) [] (e :: r) vals led K := by
  rintro _ fs rfl hfs
  cases hfs
  refine ⟨fun s hs => ?_⟩
  have h' : wpAny (Md C.w) C.A (spliced (backTo pos (starEach (e :: r) C.env))) (fun vs s₁ => MethP (KH C.w) q f (.ref x) s₁.heap ∧ wpAny (Md C.w) C.A (call (.ref q) ([] ++ vs)) (fun a s' => Post C VR K a s') (fun _ _ => False) s₁) (fun _ _ => False) s :=
    h.use hs (fun us s₁ as v l hr hs₁ ⟨hq, hk⟩ => ⟨⟨raw_get hs₁ hq, (ok.here hs₁).1⟩, wpAny_call (method_call (raw_get hs₁ hq) (hk _ _ VR.ref (.cons VR.ref hr) s₁ hs₁))⟩)
  show wpAny _ _ (callWith pos (.ref q) [] (backTo pos (starEach (e :: r) C.env)) []) _ _ _
  rw [he] at h' ⊢
  exact ks_call (by show (false || (backTo pos (starEach r C.env)).any (·.1)) = true; rw [hst]; rfl) (keeps_M hf) (evalArgs_plain h')
/-- m(*rest), m a bound method -/
theorem CWW_bstar {pos p : Pos} {q f x : Addr} {e : Expr} {K : AV → Vals → Ledger → Prop} (ok : COk C k) (hf : fnIn (KH C.w) f = true) (he : starEach [.Starred e p] C.env = [(true, eval e C.env)])
    (h : EvW C e vals led fun a v l => Ex1 fun xs => An4 (SeqIn l a xs) (xs.length ≤ 1000) ((q, AO.raw (methodObj (.ref f) (.ref x))) ∈ l) (CodeW C (.ref f) (.ref x :: xs) v l K)) : CWW C pos (.ref q) [] [.Starred e p] vals led K := by
  rintro _ fs rfl hfs
  cases hfs
  refine ⟨fun s hs => ?_⟩
  show wpAny _ _ (callWith pos (.ref q) [] (backTo pos (starEach [.Starred e p] C.env)) []) _ _ _
  rw [he]
  refine ks_call (P := MethP (KH C.w) q f (.ref x)) rfl (keeps_M hf) (ks_lone (h.use hs (fun u s₁ a v l hr hs₁ ⟨xs, hx, hz, hq, hk⟩ => star_of hs₁ hx hr hz fun vs s' hv hs' => ⟨⟨raw_get hs' hq, (ok.here hs').1⟩, ?_⟩)))
  exact wpAny_call (method_call (raw_get hs' hq) (hk _ _ VR.ref (.cons VR.ref hv) s' hs'))
theorem CodeW.perm {f : AV} {as : List AV} {led' : Ledger} {K : AV → Vals → Ledger → Prop} (S : led'.Perm led) (h : CodeW C f as vals led' K) : CodeW C f as vals led K := fun fv vs hf hv s hs => h fv vs hf hv s (hs.perm S)
theorem CallW.perm {f : AV} {as : List AV} {led' : Ledger} {K : AV → Vals → Ledger → Prop} (S : led'.Perm led) (h : CallW C f as vals led' K) : CallW C f as vals led K := fun fv vs hf hv => (h fv vs hf hv).perm S
theorem CallW.sub {f : AV} {as : List AV} {led' : Ledger} {K : AV → Vals → Ledger → Prop} (S : led'.Sublist led) (h : CallW C f as vals led' K) : CallW C f as vals led K := fun fv vs hf hv => (h fv vs hf hv).sub S
end
end Mine

-- part M32
namespace Mine
open PySem PySem.Calls PySem.W PyProof.Rows

section
variable {C : Cx} {vals : Vals} {led : Ledger} {k : Nat} {target : Expr}
/-- a turn of a comprehension -/
noncomputable def CompTurn (C : Cx) (target : Expr) (ifs : List Expr) (inner : Sem Unit) (J : Vals → Ledger → Prop) (a : AV) (v : Vals) (l : Ledger) : Prop :=
  AsgW C target a v l fun v l => TW C (@Eq Bool) (testsOf ifs C.env) v l fun b v l => if b = true then UW C inner v l (fun _ v l => J v l) else J v l
theorem CompT_mk {ifs : List Expr} {scope : Scope} {own frees wr : List Str} {accO : AO} {inner : Addr → Env → Sem Unit} {G : Addr → Vals → Ledger → Prop} {xs : List IT} {src : Ledger → Prop} (names : List Str) (hnm : own ++ frees = names) (fv : Vals) (hf : FVals C.names vals frees fv) (J : Addr → Nat → Vals → Ledger → Prop)
    (h0 : ∀ acc, J acc 0 (own.map (fun _ => none) ++ fv) ((acc, accO) :: led)) (hs : ∀ acc i v l, J acc i v l → src l)
    (ht : ∀ acc B outs L i x v l, COk (CC C B outs scope L names wr) k → xs[i]? = some x → J acc i v l → ∀ a l' B2, ITof x a l l' → COk ((CC C B outs scope L names wr).base B2) k →
      CompTurn ((CC C B outs scope L names wr).base B2) target ifs (inner acc (CC C B outs scope L names wr).env) (J acc (i + 1)) a v l')
    (hfin : ∀ acc v' l', J acc xs.length v' l' → G acc vals l') : CompT C k target ifs scope own frees wr accO inner G xs src vals led := by
  subst hnm
  exact ⟨fv, hf, fun acc B outs L okC => ⟨J acc, ⟨h0 acc, hs acc, fun i x a v l l' B2 hx hJ hIT okB => ht acc B outs L i x v l okC hx hJ a l' B2 hIT okB⟩, hfin acc⟩⟩
theorem CompT_vals {ifs : List Expr} {scope : Scope} {own frees wr : List Str} {accO : AO} {inner : Addr → Env → Sem Unit} {G : Addr → Vals → Ledger → Prop} {xs : List AV} {src : Ledger → Prop} (names : List Str) (hnm : own ++ frees = names) (fv : Vals) (hf : FVals C.names vals frees fv) (J : Addr → Nat → Vals → Ledger → Prop)
    (h0 : ∀ acc, J acc 0 (own.map (fun _ => none) ++ fv) ((acc, accO) :: led)) (hs : ∀ acc i v l, J acc i v l → src l)
    (ht : ∀ acc B outs L i a v l, COk (CC C B outs scope L names wr) k → xs[i]? = some a → J acc i v l → ∀ B2, COk ((CC C B outs scope L names wr).base B2) k →
      CompTurn ((CC C B outs scope L names wr).base B2) target ifs (inner acc (CC C B outs scope L names wr).env) (J acc (i + 1)) a v l)
    (hfin : ∀ acc v' l', J acc xs.length v' l' → G acc vals l') : CompT C k target ifs scope own frees wr accO inner G (xs.map .val) src vals led :=
  CompT_mk names hnm fv hf J h0 hs (fun acc B outs L i x v l okC hx hJ a l' B2 hIT okB => by
    rw [List.getElem?_map, Option.map_eq_some_iff] at hx
    obtain ⟨a', hx, rfl⟩ := hx
    cases hIT
    exact ht acc B outs L i a v l okC hx hJ B2 okB) (by rw [List.length_map]; exact hfin)
theorem CompTurn_name {x : Str} {p : Pos} {ifs : List Expr} {inner : Sem Unit} {J : Vals → Ledger → Prop} {a : AV} {vals' : Vals} (ok : COk C k) (hw : C.Wr x) (hv : SetIs C.names vals x a vals')
    (h : TW C (@Eq Bool) (testsOf ifs C.env) vals' led fun b v l => if b = true then UW C inner v l (fun _ v l => J v l) else J v l) : CompTurn C (.Name x p) ifs inner J a vals led :=
  AsgW_Name (StNw ok hw hv h)
theorem CompTurn_tuple {elts : List Expr} {x1 : Nat} {pos : Pos} {T : Addr} {as : List AV} {ifs : List Expr} {inner : Sem Unit} {J : Vals → Ledger → Prop} (ok : COk C k) (hm : (T, AO.tup as) ∈ led) (hn : (assignEach elts C.env).length = as.length) (hstar : (assignEach elts C.env).findIdx? (·.1) = none)
    (h : AsgsW C ((assignEach elts C.env).map (·.2)) as vals led fun v l => TW C (@Eq Bool) (testsOf ifs C.env) v l fun b v l => if b = true then UW C inner v l (fun _ v l => J v l) else J v l) : CompTurn C (.Tuple elts x1 pos) ifs inner J (.ref T) vals led :=
  AsgW_Tuple ok hm hn hstar h
theorem CompYes {p q : Prop} (h : p) : if true = true then p else q := by rw [if_pos rfl]; exact h
end
end Mine

-- part G0
namespace Mine
open PySem PySem.Calls PySem.W PyProof.Rows
section
variable {C : Cx} {vals : Vals} {led : Ledger} {k : Nat} {pos : Pos} {K : AV → Vals → Ledger → Prop}
theorem gB_len (w : World) : nsIn (KH w) mainGlobals "len" = some none := by kernel_rfl
theorem EvB_len (ok : COk C k) (hx : C.env.kindOf "len" = some .globalImplicit) (h : K (.blt "len") vals led) : EvW C (.Name "len" pos) vals led K :=
  EvW_builtin (v := .builtin "len") ok hx (by decide) (gB_len _) (by kernel_rfl) (by decide) VR.blt h
theorem gB_range (w : World) : nsIn (KH w) mainGlobals "range" = some none := by kernel_rfl
theorem EvB_range (ok : COk C k) (hx : C.env.kindOf "range" = some .globalImplicit) (h : K (.typ "range") vals led) : EvW C (.Name "range" pos) vals led K :=
  EvW_builtin (v := .type "range") ok hx (by decide) (gB_range _) (by kernel_rfl) (by decide) VR.typ h
theorem gB_reversed (w : World) : nsIn (KH w) mainGlobals "reversed" = some none := by kernel_rfl
theorem EvB_reversed (ok : COk C k) (hx : C.env.kindOf "reversed" = some .globalImplicit) (h : K (.typ "reversed") vals led) : EvW C (.Name "reversed" pos) vals led K :=
  EvW_builtin (v := .type "reversed") ok hx (by decide) (gB_reversed _) (by kernel_rfl) (by decide) VR.typ h
theorem gB_enumerate (w : World) : nsIn (KH w) mainGlobals "enumerate" = some none := by kernel_rfl
theorem EvB_enumerate (ok : COk C k) (hx : C.env.kindOf "enumerate" = some .globalImplicit) (h : K (.typ "enumerate") vals led) : EvW C (.Name "enumerate" pos) vals led K :=
  EvW_builtin (v := .type "enumerate") ok hx (by decide) (gB_enumerate _) (by kernel_rfl) (by decide) VR.typ h
theorem gB_sum (w : World) : nsIn (KH w) mainGlobals "sum" = some none := by kernel_rfl
theorem EvB_sum (ok : COk C k) (hx : C.env.kindOf "sum" = some .globalImplicit) (h : K (.blt "sum") vals led) : EvW C (.Name "sum" pos) vals led K :=
  EvW_builtin (v := .builtin "sum") ok hx (by decide) (gB_sum _) (by kernel_rfl) (by decide) VR.blt h
theorem gB_min (w : World) : nsIn (KH w) mainGlobals "min" = some none := by kernel_rfl
theorem EvB_min (ok : COk C k) (hx : C.env.kindOf "min" = some .globalImplicit) (h : K (.blt "min") vals led) : EvW C (.Name "min" pos) vals led K :=
  EvW_builtin (v := .builtin "min") ok hx (by decide) (gB_min _) (by kernel_rfl) (by decide) VR.blt h
theorem gB_max (w : World) : nsIn (KH w) mainGlobals "max" = some none := by kernel_rfl
theorem EvB_max (ok : COk C k) (hx : C.env.kindOf "max" = some .globalImplicit) (h : K (.blt "max") vals led) : EvW C (.Name "max" pos) vals led K :=
  EvW_builtin (v := .builtin "max") ok hx (by decide) (gB_max _) (by kernel_rfl) (by decide) VR.blt h
theorem gB_int (w : World) : nsIn (KH w) mainGlobals "int" = some none := by kernel_rfl
theorem EvB_int (ok : COk C k) (hx : C.env.kindOf "int" = some .globalImplicit) (h : K (.typ "int") vals led) : EvW C (.Name "int" pos) vals led K :=
  EvW_builtin (v := .type "int") ok hx (by decide) (gB_int _) (by kernel_rfl) (by decide) VR.typ h
theorem gB_str (w : World) : nsIn (KH w) mainGlobals "str" = some none := by kernel_rfl
theorem EvB_str (ok : COk C k) (hx : C.env.kindOf "str" = some .globalImplicit) (h : K (.typ "str") vals led) : EvW C (.Name "str" pos) vals led K :=
  EvW_builtin (v := .type "str") ok hx (by decide) (gB_str _) (by kernel_rfl) (by decide) VR.typ h
theorem gB_sorted (w : World) : nsIn (KH w) mainGlobals "sorted" = some none := by kernel_rfl
theorem EvB_sorted (ok : COk C k) (hx : C.env.kindOf "sorted" = some .globalImplicit) (h : K (.blt "sorted") vals led) : EvW C (.Name "sorted" pos) vals led K :=
  EvW_builtin (v := .builtin "sorted") ok hx (by decide) (gB_sorted _) (by kernel_rfl) (by decide) VR.blt h
theorem gB_tuple (w : World) : nsIn (KH w) mainGlobals "tuple" = some none := by kernel_rfl
theorem EvB_tuple (ok : COk C k) (hx : C.env.kindOf "tuple" = some .globalImplicit) (h : K (.typ "tuple") vals led) : EvW C (.Name "tuple" pos) vals led K :=
  EvW_builtin (v := .type "tuple") ok hx (by decide) (gB_tuple _) (by kernel_rfl) (by decide) VR.typ h
theorem gB_bool (w : World) : nsIn (KH w) mainGlobals "bool" = some none := by kernel_rfl
theorem EvB_bool (ok : COk C k) (hx : C.env.kindOf "bool" = some .globalImplicit) (h : K (.typ "bool") vals led) : EvW C (.Name "bool" pos) vals led K :=
  EvW_builtin (v := .type "bool") ok hx (by decide) (gB_bool _) (by kernel_rfl) (by decide) VR.typ h
theorem gB_set (w : World) : nsIn (KH w) mainGlobals "set" = some none := by kernel_rfl
theorem EvB_set (ok : COk C k) (hx : C.env.kindOf "set" = some .globalImplicit) (h : K (.typ "set") vals led) : EvW C (.Name "set" pos) vals led K :=
  EvW_builtin (v := .type "set") ok hx (by decide) (gB_set _) (by kernel_rfl) (by decide) VR.typ h
theorem gB_iter (w : World) : nsIn (KH w) mainGlobals "iter" = some none := by kernel_rfl
theorem EvB_iter (ok : COk C k) (hx : C.env.kindOf "iter" = some .globalImplicit) (h : K (.blt "iter") vals led) : EvW C (.Name "iter" pos) vals led K :=
  EvW_builtin (v := .builtin "iter") ok hx (by decide) (gB_iter _) (by kernel_rfl) (by decide) VR.blt h
theorem gB_StopIteration (w : World) : nsIn (KH w) mainGlobals "StopIteration" = some none := by kernel_rfl
theorem EvB_StopIteration (ok : COk C k) (hx : C.env.kindOf "StopIteration" = some .globalImplicit) (h : K (.typ "StopIteration") vals led) : EvW C (.Name "StopIteration" pos) vals led K :=
  EvW_builtin (v := .type "StopIteration") ok hx (by decide) (gB_StopIteration _) (by kernel_rfl) (by decide) VR.typ h
theorem gG_NodeInfo (w : World) : nsIn (KH w) mainGlobals "_NodeInfo" = some (some (.ref 40)) := by kernel_rfl
theorem EvG_NodeInfo (ok : COk C k) (hx : C.env.kindOf "_NodeInfo" = some .globalImplicit) (h : K (.ref 40) vals led) : EvW C (.Name "_NodeInfo" pos) vals led K :=
  EvW_global ok hx (by decide) (gG_NodeInfo _) VR.ref h
theorem kp_NodeInfo (w : World) : keepIn (KH w) (.ref 40) = true := by kernel_rfl
theorem gG_TopologicalSorter (w : World) : nsIn (KH w) mainGlobals "TopologicalSorter" = some (some (.ref 137)) := by kernel_rfl
theorem EvG_TopologicalSorter (ok : COk C k) (hx : C.env.kindOf "TopologicalSorter" = some .globalImplicit) (h : K (.ref 137) vals led) : EvW C (.Name "TopologicalSorter" pos) vals led K :=
  EvW_global ok hx (by decide) (gG_TopologicalSorter _) VR.ref h
theorem kp_TopologicalSorter (w : World) : keepIn (KH w) (.ref 137) = true := by kernel_rfl
theorem gG_parse229 (w : World) : nsIn (KH w) mainGlobals "parse229" = some (some (.ref 185)) := by kernel_rfl
theorem EvG_parse229 (ok : COk C k) (hx : C.env.kindOf "parse229" = some .globalImplicit) (h : K (.ref 185) vals led) : EvW C (.Name "parse229" pos) vals led K :=
  EvW_global ok hx (by decide) (gG_parse229 _) VR.ref h
theorem kp_parse229 (w : World) : keepIn (KH w) (.ref 185) = true := by kernel_rfl
theorem gG_parse257 (w : World) : nsIn (KH w) mainGlobals "parse257" = some (some (.ref 192)) := by kernel_rfl
theorem EvG_parse257 (ok : COk C k) (hx : C.env.kindOf "parse257" = some .globalImplicit) (h : K (.ref 192) vals led) : EvW C (.Name "parse257" pos) vals led K :=
  EvW_global ok hx (by decide) (gG_parse257 _) VR.ref h
theorem kp_parse257 (w : World) : keepIn (KH w) (.ref 192) = true := by kernel_rfl
theorem gG_heappush (w : World) : nsIn (KH w) mainGlobals "heappush" = some (some (.ref 199)) := by kernel_rfl
theorem EvG_heappush (ok : COk C k) (hx : C.env.kindOf "heappush" = some .globalImplicit) (h : K (.ref 199) vals led) : EvW C (.Name "heappush" pos) vals led K :=
  EvW_global ok hx (by decide) (gG_heappush _) VR.ref h
theorem kp_heappush (w : World) : keepIn (KH w) (.ref 199) = true := by kernel_rfl
theorem gG_heappop (w : World) : nsIn (KH w) mainGlobals "heappop" = some (some (.ref 206)) := by kernel_rfl
theorem EvG_heappop (ok : COk C k) (hx : C.env.kindOf "heappop" = some .globalImplicit) (h : K (.ref 206) vals led) : EvW C (.Name "heappop" pos) vals led K :=
  EvW_global ok hx (by decide) (gG_heappop _) VR.ref h
theorem kp_heappop (w : World) : keepIn (KH w) (.ref 206) = true := by kernel_rfl
theorem gG_heapify (w : World) : nsIn (KH w) mainGlobals "heapify" = some (some (.ref 213)) := by kernel_rfl
theorem EvG_heapify (ok : COk C k) (hx : C.env.kindOf "heapify" = some .globalImplicit) (h : K (.ref 213) vals led) : EvW C (.Name "heapify" pos) vals led K :=
  EvW_global ok hx (by decide) (gG_heapify _) VR.ref h
theorem kp_heapify (w : World) : keepIn (KH w) (.ref 213) = true := by kernel_rfl
theorem gG_siftdown (w : World) : nsIn (KH w) mainGlobals "_siftdown" = some (some (.ref 220)) := by kernel_rfl
theorem EvG_siftdown (ok : COk C k) (hx : C.env.kindOf "_siftdown" = some .globalImplicit) (h : K (.ref 220) vals led) : EvW C (.Name "_siftdown" pos) vals led K :=
  EvW_global ok hx (by decide) (gG_siftdown _) VR.ref h
theorem kp_siftdown (w : World) : keepIn (KH w) (.ref 220) = true := by kernel_rfl
theorem gG_siftup (w : World) : nsIn (KH w) mainGlobals "_siftup" = some (some (.ref 227)) := by kernel_rfl
theorem EvG_siftup (ok : COk C k) (hx : C.env.kindOf "_siftup" = some .globalImplicit) (h : K (.ref 227) vals led) : EvW C (.Name "_siftup" pos) vals led K :=
  EvW_global ok hx (by decide) (gG_siftup _) VR.ref h
theorem kp_siftup (w : World) : keepIn (KH w) (.ref 227) = true := by kernel_rfl
theorem gG_law_content (w : World) : nsIn (KH w) mainGlobals "_law_content" = some (some (.ref 234)) := by kernel_rfl
theorem EvG_law_content (ok : COk C k) (hx : C.env.kindOf "_law_content" = some .globalImplicit) (h : K (.ref 234) vals led) : EvW C (.Name "_law_content" pos) vals led K :=
  EvW_global ok hx (by decide) (gG_law_content _) VR.ref h
theorem kp_law_content (w : World) : keepIn (KH w) (.ref 234) = true := by kernel_rfl
theorem gG_law_tails (w : World) : nsIn (KH w) mainGlobals "_law_tails" = some (some (.ref 239)) := by kernel_rfl
theorem EvG_law_tails (ok : COk C k) (hx : C.env.kindOf "_law_tails" = some .globalImplicit) (h : K (.ref 239) vals led) : EvW C (.Name "_law_tails" pos) vals led K :=
  EvW_global ok hx (by decide) (gG_law_tails _) VR.ref h
theorem kp_law_tails (w : World) : keepIn (KH w) (.ref 239) = true := by kernel_rfl
theorem gG_law_parcels (w : World) : nsIn (KH w) mainGlobals "_law_parcels" = some (some (.ref 246)) := by kernel_rfl
theorem EvG_law_parcels (ok : COk C k) (hx : C.env.kindOf "_law_parcels" = some .globalImplicit) (h : K (.ref 246) vals led) : EvW C (.Name "_law_parcels" pos) vals led K :=
  EvW_global ok hx (by decide) (gG_law_parcels _) VR.ref h
theorem kp_law_parcels (w : World) : keepIn (KH w) (.ref 246) = true := by kernel_rfl
theorem gG_law_run (w : World) : nsIn (KH w) mainGlobals "_law_run" = some (some (.ref 251)) := by kernel_rfl
theorem EvG_law_run (ok : COk C k) (hx : C.env.kindOf "_law_run" = some .globalImplicit) (h : K (.ref 251) vals led) : EvW C (.Name "_law_run" pos) vals led K :=
  EvW_global ok hx (by decide) (gG_law_run _) VR.ref h
theorem kp_law_run (w : World) : keepIn (KH w) (.ref 251) = true := by kernel_rfl
theorem gG_law_least (w : World) : nsIn (KH w) mainGlobals "_law_least" = some (some (.ref 256)) := by kernel_rfl
theorem EvG_law_least (ok : COk C k) (hx : C.env.kindOf "_law_least" = some .globalImplicit) (h : K (.ref 256) vals led) : EvW C (.Name "_law_least" pos) vals led K :=
  EvW_global ok hx (by decide) (gG_law_least _) VR.ref h
theorem kp_law_least (w : World) : keepIn (KH w) (.ref 256) = true := by kernel_rfl
theorem gG_law_arrivals (w : World) : nsIn (KH w) mainGlobals "_law_arrivals" = some (some (.ref 261)) := by kernel_rfl
theorem EvG_law_arrivals (ok : COk C k) (hx : C.env.kindOf "_law_arrivals" = some .globalImplicit) (h : K (.ref 261) vals led) : EvW C (.Name "_law_arrivals" pos) vals led K :=
  EvW_global ok hx (by decide) (gG_law_arrivals _) VR.ref h
theorem kp_law_arrivals (w : World) : keepIn (KH w) (.ref 261) = true := by kernel_rfl
theorem EvG_NODE_OUT (ok : COk C k) (hx : C.env.kindOf "_NODE_OUT" = some .globalImplicit) (h : K (.int (-1)) vals led) : EvW C (.Name "_NODE_OUT" pos) vals led K := by
  have e : nsIn (KH C.w) mainGlobals "_NODE_OUT" = some (some (.int (-1) 197)) := by kernel_rfl
  exact EvW_global ok hx (by decide) e VR.int h
theorem EvG_NODE_DONE (ok : COk C k) (hx : C.env.kindOf "_NODE_DONE" = some .globalImplicit) (h : K (.int (-2)) vals led) : EvW C (.Name "_NODE_DONE" pos) vals led K := by
  have e : nsIn (KH C.w) mainGlobals "_NODE_DONE" = some (some (.int (-2) 200)) := by kernel_rfl
  exact EvW_global ok hx (by decide) e VR.int h
end
end Mine

namespace Mine
open PySem PySem.Calls PySem.W PyProof.Rows

-- my own steps
local macro_rules | `(tactic| k_allIn) => `(tactic| first | with_reducible exact VarIs.here | (with_reducible apply VarIs.there; k_allIn))
local macro_rules | `(tactic| k_memK) => `(tactic| first | with_reducible exact SetIs.here | (with_reducible apply SetIs.there; k_memK))
local macro_rules | `(tactic| k_mem) => `(tactic| with_reducible assumption)
local macro_rules | `(tactic| k_ownIn) => `(tactic| first
  | (with_reducible first | refine EvW_int ?_ | refine EvW_str ?_ | refine EvW_none ?_ | refine EvW_bool ?_ | refine Exs1 ?_ | refine SeqK_next ?_ | refine EvW_Sub ?_ | refine EvW_Bin ?_ | refine EvW_Un ?_ | refine TrW_And2 ?_ | refine TrW_Or2 ?_ | refine TrW_Not ?_ | refine TruW_bool ?_ | refine CmpW_gt ?_ | refine CmpW_lt ?_ | refine CmpW_ge ?_ | refine CmpW_le ?_ | refine CmpW_eq ?_ | refine CmpW_ne ?_ | refine CmpW_eqs ?_ | refine CmpW_nes ?_ | refine CmpW_isNone ?_ | refine CmpW_isNotNone ?_ | refine BinW_sub ?_ | refine BinW_add ?_ | refine InpW_add ?_ | refine InpW_sub ?_ | refine UnW_neg ?_ | refine ExW_Return ?_ | refine ExsW_nil ?_ | refine ExW_Break ?_ | refine ExW_Continue ?_ | refine SeqK_brk ?_ | refine SeqK_cont ?_ | refine SeqK_ret ?_ | refine TurnK_brk ?_ | refine TurnK_ret ?_ | refine ExW_AugName ?_ | refine ArgsW_nil ?_ | refine AsgW_Name ?_ | refine TestsW_nil ?_ | refine TestsW_one ?_ | refine EvW_Slice ?_ | refine PartW_none ?_ | refine PartW_some ?_ | refine EvW_Dict0 ?_ | refine ForTurn_brk ?_ | refine ForTurn_ret ?_ | refine AsgW_Attr ?_ | refine AsgW_Sub ?_ | refine EvW_Named ?_ | refine ExW_If ?_ | refine ExW_AugAttr ?_ | refine CutK_next ?_)
  | (with_reducible refine' StN ?o ?w ?v ?_; (case o => k_mem); (case w => k_mem); (case v => k_memK))
  | ((with_reducible first | refine' TrW_Cmp ?_ ?r | refine' EvW_Cmp ?_ ?r | refine' ExW_AssignName ?r ?_ | refine' ExW_AssignSub ?r ?_ | refine' EvW_Call ?r ?_ | refine' ArgsW_cons ?r ?_ | refine' EvW_Attr ?r ?_); (case r => with_unfolding_all rfl))
  | (with_reducible refine' ExW_Expr ?i ?r ?_; (case i => with_unfolding_all rfl); (case r => with_unfolding_all rfl))
  | (with_reducible refine' LdN ?o ?v ?_; (case o => k_mem); (case v => k_allIn))
  | ((with_reducible first | refine' EvB_len ?o ?x ?_ | refine' EvG_siftdown ?o ?x ?_ | refine' EvG_siftup ?o ?x ?_ | refine' EvB_range ?o ?x ?_ | refine' EvB_reversed ?o ?x ?_ | refine' EvB_enumerate ?o ?x ?_ | refine' EvB_sum ?o ?x ?_ | refine' EvB_min ?o ?x ?_ | refine' EvB_max ?o ?x ?_ | refine' EvB_int ?o ?x ?_ | refine' EvB_str ?o ?x ?_ | refine' EvB_sorted ?o ?x ?_ | refine' EvB_tuple ?o ?x ?_ | refine' EvB_bool ?o ?x ?_ | refine' EvB_set ?o ?x ?_ | refine' EvB_iter ?o ?x ?_ | refine' EvG_NodeInfo ?o ?x ?_ | refine' EvG_TopologicalSorter ?o ?x ?_ | refine' EvG_parse229 ?o ?x ?_ | refine' EvG_parse257 ?o ?x ?_ | refine' EvG_heappush ?o ?x ?_ | refine' EvG_heappop ?o ?x ?_ | refine' EvG_heapify ?o ?x ?_ | refine' EvG_law_content ?o ?x ?_ | refine' EvG_law_tails ?o ?x ?_ | refine' EvG_law_parcels ?o ?x ?_ | refine' EvG_law_run ?o ?x ?_ | refine' EvG_law_least ?o ?x ?_ | refine' EvG_law_arrivals ?o ?x ?_ | refine' EvG_NODE_OUT ?o ?x ?_ | refine' EvG_NODE_DONE ?o ?x ?_); (case o => k_mem); (case x => kernel_rfl))
  | ((with_reducible first | refine' CB ?a ?b ?_ | refine' CBM ?a ?b ?_); (case a => with_unfolding_all rfl); (case b => with_unfolding_all rfl))
  | (with_reducible refine' CFM ?o ?f ?a ?b ?_; (case o => k_mem); (case f => kernel_rfl); (case a => with_unfolding_all rfl); (case b => with_unfolding_all rfl))
  | (with_reducible refine' CWW_fn0 ?o ?f ?_; (case o => k_mem); (case f => kernel_rfl))
  | (with_reducible refine' CFN ?o ?f ?a ?b ?_; (case o => k_mem); (case f => kernel_rfl); (case a => with_unfolding_all rfl); (case b => with_unfolding_all rfl))
  | with_reducible refine CWW_blt0 ?_
  | (with_reducible refine' CWW_typ ?a ?b ?_; (case a => with_unfolding_all rfl); (case b => with_unfolding_all rfl))
  | with_reducible refine CWW_typ0 ?_
  | (with_reducible refine' ExW_Assign1 ?a ?b ?c ?_; (case a => with_unfolding_all rfl); (case b => with_unfolding_all rfl); (case c => with_unfolding_all rfl))
  | (with_reducible refine' EvN ?o ?v ?_; (case o => k_mem); (case v => k_allIn)))

-- part F1
-- the order of heaps
noncomputable def klt (kf : Addr → Int × Str) (a b : Addr) : Bool := decide ((kf a).1 < (kf b).1 ∨ ((kf a).1 = (kf b).1 ∧ (kf a).2.cps.toList < (kf b).2.cps.toList))

noncomputable def sd (lt : Addr → Addr → Bool) (sp : Nat) (item : Addr) : Nat → Nat → List Addr → List Addr
  | 0, pos, xs => xs.set pos item
  | n + 1, pos, xs => if pos > sp then (if lt item (xs.getD ((pos - 1) / 2) 0) then sd lt sp item n ((pos - 1) / 2) (xs.set pos (xs.getD ((pos - 1) / 2) 0)) else xs.set pos item) else xs.set pos item

theorem sd_fuel {lt : Addr → Addr → Bool} {sp : Nat} {item : Addr} : ∀ (n m pos : Nat) (xs : List Addr), pos ≤ n → pos ≤ m → sd lt sp item n pos xs = sd lt sp item m pos xs
  | 0, 0, _, _, _, _ => rfl
  | 0, m + 1, pos, xs, h, _ => by
    obtain rfl : pos = 0 := by (first | lia | omega)
    unfold sd; rw [if_neg (by (first | lia | omega))]
  | n + 1, 0, pos, xs, _, h => by
    obtain rfl : pos = 0 := by (first | lia | omega)
    conv => lhs; unfold sd
    rw [if_neg (by (first | lia | omega))]; rfl
  | n + 1, m + 1, pos, xs, h1, h2 => by
    unfold sd
    by_cases hp : pos > sp
    · rw [if_pos hp, if_pos hp]
      split
      · exact sd_fuel n m _ _ (by (first | lia | omega)) (by (first | lia | omega))
      · rfl
    · rw [if_neg hp, if_neg hp]
theorem sd_stop {lt : Addr → Addr → Bool} {sp pos : Nat} {item : Addr} {n : Nat} {xs : List Addr} (h : ¬ pos > sp) : sd lt sp item n pos xs = xs.set pos item := by
  cases n with
  | zero => rfl
  | succ n => unfold sd; rw [if_neg h]
theorem sd_brk {lt : Addr → Addr → Bool} {sp q' : Nat} {item : Addr} {xs : List Addr} (h : lt item (xs.getD (q' / 2) 0) = false) : sd lt sp item (q' + 1) (q' + 1) xs = xs.set (q' + 1) item := by
  unfold sd
  split
  · have e : (q' + 1 - 1) / 2 = q' / 2 := by (first | lia | omega)
    rw [e, h]; rfl
  · rfl
theorem sd_go {lt : Addr → Addr → Bool} {sp q' : Nat} {item : Addr} {xs : List Addr} (hp : q' + 1 > sp) (h : lt item (xs.getD (q' / 2) 0) = true) :
    sd lt sp item (q' + 1) (q' + 1) xs = sd lt sp item (q' / 2) (q' / 2) (xs.set (q' + 1) (xs.getD (q' / 2) 0)) := by
  conv => lhs; unfold sd
  have e : (q' + 1 - 1) / 2 = q' / 2 := by (first | lia | omega)
  rw [if_pos hp, e, if_pos h]
  exact sd_fuel _ _ _ _ (by (first | lia | omega)) (Nat.le_refl _)

noncomputable abbrev pnSd : List Str := ["heap", "startpos", "pos"]
noncomputable abbrev lsSd : List Str := ["newitem", "parentpos", "parent"]
noncomputable abbrev nmSd : List Str := ["heap", "startpos", "pos", "newitem", "parentpos", "parent"]
theorem foSd (w : World) : FnOk (fdAt w 220) pnSd lsSd [] := fnOk_of (by kernel_rfl)
theorem loSd (w : World) : (KH w).lookup 220 = some ⟨.type "function", none, .func (fdAt w 220), #[]⟩ := by kernel_rfl
theorem cdSd (w : World) : codeIn (KH w) (fdAt w 220).code (fdAt w 220).qualname = true := by kernel_rfl
theorem boSd (w : World) : (fdAt w 220).body = .stmts (bodyOf (fdAt w 220).body) := by kernel_rfl
theorem biSd (w : World) (vs : List Value) (h : vs.length = 3) : bindArgs (fdAt w 220) ⟨vs, []⟩ = pure (pnSd.zip vs) := by
  obtain ⟨a, b, c, rfl⟩ := len3 h
  kernel_rfl

theorem getR {xs : List Addr} {i : Nat} (h : i < xs.length) : (xs.map AV.ref)[(i : Int).toNat]? = some (.ref (xs.getD i 0)) := by
  simp [h]
theorem setR {xs : List Addr} {i : Nat} {a : Addr} : (xs.map AV.ref).set (i : Int).toNat (.ref a) = (xs.set i a).map AV.ref := by
  simp

theorem getD_mem' {xs : List Addr} {i : Nat} (h : i < xs.length) : xs.getD i 0 ∈ xs := by
  rw [List.getD_eq_getElem?_getD, List.getElem?_eq_getElem h]; exact List.getElem_mem h
theorem getD_some' {xs : List Addr} {i : Nat} (h : i < xs.length) : xs[i]? = some (xs.getD i 0) := by
  rw [List.getD_eq_getElem?_getD, List.getElem?_eq_getElem h]; rfl
noncomputable abbrev Iv1c0 (kf : Addr → Int × Str) (l : Addr) (xs : List Addr) (sp : Nat) (pos : Nat) (pre : Ledger) (post : List (Addr × AO)) (item : Addr) : Nat → Vals → Ledger → Prop := (fun n v ld => Ex3 fun (cur : List Addr) (x1 x2 : Option AV) => An6 (v = [some (.ref l), some (.int sp), some (.int n), some (.ref item), x1, x2]) (ld = pre ++ (l, .list (cur.map .ref)) :: post) (cur.length = xs.length) (n ≤ pos) ((∀ j < n, cur[j]? = xs[j]?)) (sd (klt kf) sp item n n cur = sd (klt kf) sp item pos pos xs))
theorem CallW_siftdown {C : Cx} {vals : Vals} {led led' : Ledger} {k : Nat} {K : AV → Vals → Ledger → Prop} (ok : COk C (k + 1)) (kf : Addr → Int × Str) {l : Addr} {xs : List Addr} {sp pos : Nat}
    (hm : (l, AO.list (xs.map AV.ref)) ∈ led) (ht : ∀ a ∈ xs, ∃ r, (a, AO.tup (.int (kf a).1 :: .str (kf a).2 :: r)) ∈ led) (hinj : ∀ a ∈ xs, ∀ b ∈ xs, a ≠ b → (kf a).2 ≠ (kf b).2)
    (nd : xs.Nodup) (hpos : pos < xs.length) (hlen : xs.length ≤ 1000) (U : Upd l (.list ((sd (klt kf) sp (xs.getD pos 0) pos pos xs).map .ref)) led led') (h : K .none vals led') :
    CallW C (.ref 220) [.ref l, .int sp, .int pos] vals led K := by
  refine CallW.nd fun lnd => ?_
  refine hide fun PG kG => ?_
  obtain ⟨pre, o, post, rfl, rfl⟩ := U.split
  refine kG ?_
  clear kG PG
  obtain rfl := led_uniq lnd hm mid
  have tupNe : ∀ a ∈ xs, a ≠ l := fun a ha e => by
    obtain ⟨r, hr⟩ := ht a ha
    have := led_uniq lnd (e ▸ hr) hm
    cases this
  refine CallW_def (names := nmSd) ok (foSd _) rfl (loSd _) (cdSd _) (boSd _) rfl (fun vs h => biSd _ vs h) fun B outs L ok' aw => ?_
  conv in bodyOf _ => whnf
  show ExsW _ _ [some (.ref l), some (.int sp), some (.int pos), none, none, none] _ _
  generalize hitem : xs.getD pos 0 = item at *
  revert item
  refine keepAll ?_
  intro item
  set_option tactic.hygienic false in intros
  have hin : item ∈ xs := by rw [← hitem]; exact getD_mem' hpos
  repeat k_ownIn
  with_reducible refine SubW_list mid (by (first | lia | omega)) (getR hpos) (by simp; (first | lia | omega)) (fun _ _ => by with_unfolding_all rfl) ?_
  rw [hitem]
  repeat k_ownIn
  -- the loop
  refine ExWhile (Iv1c0 kf l xs sp pos pre post item) pos
    ⟨xs, none, none, rfl, rfl, rfl, Nat.le_refl _, fun _ _ => rfl, rfl⟩ ?_
  intro q v ld hG3
  refine hide fun PG kG => ?_
  obtain ⟨cur, x1, x2, rfl, rfl, hcl, hq, hsame, hsd⟩ := hG3
  refine kG ?_
  clear kG PG
  have hqx : q < xs.length := by (first | lia | omega)
  repeat k_ownIn
  refine IteP (fun hb => ?_) fun hb => ?_
  · have hgt : sp < q := by simpa using hb
    refine hide fun PG kG => ?_
    obtain ⟨q', rfl⟩ : ∃ q', q = q' + 1 := ⟨q - 1, by (first | lia | omega)⟩
    refine kG ?_
    clear kG PG
    have hp : q' / 2 < q' + 1 := by (first | lia | omega)
    have hpe : (((q' + 1 : Nat) : Int) - 1).fdiv (2 ^ (1 : Int).toNat) = ((q' / 2 : Nat) : Int) := by
      have : (((q' + 1 : Nat) : Int) - 1) = (q' : Int) := by (first | lia | omega)
      rw [this]
      show (q' : Int).fdiv 2 = _
      rw [Int.fdiv_eq_ediv_of_nonneg _ (by (first | lia | omega))]
      (first | lia | omega)
    repeat k_ownIn
    with_reducible refine BinW_rshift (by decide) ?_
    rw [hpe]
    repeat k_ownIn
    with_reducible refine SubW_list mid (by (first | lia | omega)) (getR (xs := cur) (i := q' / 2) (by (first | lia | omega))) (by simp; (first | lia | omega)) (fun _ _ => by with_unfolding_all rfl) ?_
    generalize hpar : cur.getD (q' / 2) 0 = par
    revert par
    refine keepAll ?_
    intro par
    set_option tactic.hygienic false in intros
    have hpx : cur[q' / 2]? = xs[q' / 2]? := hsame _ hp
    have hparx : par = xs.getD (q' / 2) 0 := by rw [← hpar, List.getD_eq_getElem?_getD, hpx, ← List.getD_eq_getElem?_getD]
    have hparin : par ∈ xs := by rw [hparx]; exact getD_mem' (by (first | lia | omega))
    have hne : item ≠ par := by
      rw [hparx, ← hitem]
      intro e
      have h1 : xs[pos]? = some (xs.getD pos 0) := getD_some' hpos
      have h2 : xs[q' / 2]? = some (xs.getD pos 0) := by rw [e]; exact getD_some' (by (first | lia | omega))
      have := (List.getElem?_inj hpos nd).mp (h1.trans h2.symm)
      (first | lia | omega)
    refine hide fun PG kG => ?_
    obtain ⟨r1, hr1⟩ := ht item hin
    refine kG ?_
    clear kG PG
    refine hide fun PG kG => ?_
    obtain ⟨r2, hr2⟩ := ht par hparin
    refine kG ?_
    clear kG PG
    repeat k_ownIn
    with_reducible refine CmpW_tupLt ok' (mem_put hr1 (tupNe _ hin)) (mem_put hr2 (tupNe _ hparin)) (hinj _ hin _ hparin hne) ?_
    repeat k_ownIn
    refine IteP (fun hb => ?_) fun hb => ?_
    · have hlt : klt kf item par = true := hb
      repeat k_ownIn
      with_reducible refine SetW_list mid (by (first | lia | omega)) (by simp; (first | lia | omega)) (by simp; (first | lia | omega)) (Upd.at _ _ _ _ _) ?_
      rw [setR]
      repeat k_ownIn
      refine TurnK_cont (q' / 2) hp ⟨cur.set (q' + 1) par, _, _, rfl, rfl, by simp [hcl], by (first | lia | omega), fun j hj => ?_, ?_⟩
      · rw [List.getElem?_set_ne (by (first | lia | omega))]; exact hsame j (by (first | lia | omega))
      · rw [← hsd]
        rw [sd_go hgt (by rw [hpar]; exact hlt), hpar]
    · have hlt : klt kf item par = false := hb
      repeat k_ownIn
      with_reducible refine SetW_list mid (by (first | lia | omega)) (by simp; (first | lia | omega)) (by simp; (first | lia | omega)) (Upd.at _ _ _ _ _) ?_
      rw [setR]
      repeat k_ownIn
      rw [← hsd, sd_brk (by rw [hpar]; exact hlt)] at h
      exact h
  · have hle : ¬ q > sp := by simpa using hb
    repeat k_ownIn
    with_reducible refine SetW_list mid (by (first | lia | omega)) (by simp; (first | lia | omega)) (by simp; (first | lia | omega)) (Upd.at _ _ _ _ _) ?_
    rw [setR]
    repeat k_ownIn
    rw [← hsd, sd_stop hle] at h
    exact h

-- part F2
-- _siftup
noncomputable def suc (lt : Addr → Addr → Bool) (pos : Nat) (xs : List Addr) : Nat :=
  if 2 * pos + 2 < xs.length ∧ lt (xs.getD (2 * pos + 1) 0) (xs.getD (2 * pos + 2) 0) = false then 2 * pos + 2 else 2 * pos + 1
noncomputable def su (lt : Addr → Addr → Bool) : Nat → Nat → List Addr → Nat × List Addr
  | 0, pos, xs => (pos, xs)
  | n + 1, pos, xs => if 2 * pos + 1 < xs.length then su lt n (suc lt pos xs) (xs.set pos (xs.getD (suc lt pos xs) 0)) else (pos, xs)
noncomputable def siftup (lt : Addr → Addr → Bool) (pos : Nat) (xs : List Addr) : List Addr :=
  let item := xs.getD pos 0
  let r := su lt xs.length pos xs
  sd lt pos item r.1 r.1 (r.2.set r.1 item)
theorem suc_gt (lt : Addr → Addr → Bool) (pos : Nat) (xs : List Addr) : pos < suc lt pos xs := by unfold suc; split <;> (first | lia | omega)
theorem suc_lt {lt : Addr → Addr → Bool} {pos : Nat} {xs : List Addr} (h : 2 * pos + 1 < xs.length) : suc lt pos xs < xs.length := by unfold suc; split <;> (first | lia | omega)
theorem su_stop {lt : Addr → Addr → Bool} {n pos : Nat} {xs : List Addr} (h : ¬ 2 * pos + 1 < xs.length) : su lt n pos xs = (pos, xs) := by
  cases n with
  | zero => rfl
  | succ n => unfold su; rw [if_neg h]
theorem su_fuel {lt : Addr → Addr → Bool} : ∀ (n m pos : Nat) (xs : List Addr), xs.length ≤ n + pos → xs.length ≤ m + pos → su lt n pos xs = su lt m pos xs
  | 0, m, pos, xs, h, _ => by rw [su_stop (n := 0) (by (first | lia | omega)), su_stop (by (first | lia | omega))]
  | n + 1, 0, pos, xs, _, h => by rw [su_stop (n := n + 1) (by (first | lia | omega)), su_stop (by (first | lia | omega))]
  | n + 1, m + 1, pos, xs, h1, h2 => by
    unfold su
    have := suc_gt lt pos xs
    split
    · exact su_fuel n m _ _ (by simp; (first | lia | omega)) (by simp; (first | lia | omega))
    · rfl

theorem not_klt {kf : Addr → Int × Str} {a b : Addr} (h : (!klt kf a b) = true) : klt kf a b = false := by cases q : klt kf a b <;> simp_all
theorem yes_klt {kf : Addr → Int × Str} {a b : Addr} (h : (!klt kf a b) = false) : klt kf a b = true := by cases q : klt kf a b <;> simp_all

noncomputable abbrev pnSu : List Str := ["heap", "pos"]
noncomputable abbrev lsSu : List Str := ["endpos", "startpos", "newitem", "childpos", "rightpos"]
noncomputable abbrev nmSu : List Str := ["heap", "pos", "endpos", "startpos", "newitem", "childpos", "rightpos"]
theorem foSu (w : World) : FnOk (fdAt w 227) pnSu lsSu [] := fnOk_of (by kernel_rfl)
theorem loSu (w : World) : (KH w).lookup 227 = some ⟨.type "function", none, .func (fdAt w 227), #[]⟩ := by kernel_rfl
theorem cdSu (w : World) : codeIn (KH w) (fdAt w 227).code (fdAt w 227).qualname = true := by kernel_rfl
theorem boSu (w : World) : (fdAt w 227).body = .stmts (bodyOf (fdAt w 227).body) := by kernel_rfl
theorem biSu (w : World) (vs : List Value) (h : vs.length = 2) : bindArgs (fdAt w 227) ⟨vs, []⟩ = pure (pnSu.zip vs) := by
  obtain ⟨a, b, rfl⟩ := len2 h
  kernel_rfl

noncomputable abbrev Iv2c1 (kf : Addr → Int × Str) (l : Addr) (xs : List Addr) (pos : Nat) (pre : Ledger) (post : List (Addr × AO)) (item : Addr) (p : Nat) (cur : List Addr) : Vals → Ledger → Prop := (fun v ld => ∃ c : Nat, suc (klt kf) p cur = c ∧ v = [some (.ref l), some (.int p), some (.int xs.length), some (.int pos), some (.ref item), some (.int c), some (.int (2 * p + 1 + 1))] ∧ ld = pre ++ (l, .list (cur.map .ref)) :: post)
noncomputable abbrev Iv2c0 (kf : Addr → Int × Str) (l : Addr) (xs : List Addr) (pos : Nat) (pre : Ledger) (post : List (Addr × AO)) (item : Addr) : Nat → Vals → Ledger → Prop := (fun m v ld => Ex3 fun (p : Nat) (cur : List Addr) (x : Option AV) => An8 (v = [some (.ref l), some (.int p), some (.int xs.length), some (.int pos), some (.ref item), some (.int (2 * p + 1)), x]) (ld = pre ++ (l, .list (cur.map .ref)) :: post) (m = xs.length - p) (cur.length = xs.length) (p < xs.length) ((∀ j, p < j → cur[j]? = xs[j]?)) ((cur.set p item).Perm xs) (su (klt kf) xs.length p cur = su (klt kf) xs.length pos xs))
theorem CallW_siftup {C : Cx} {vals : Vals} {led led' : Ledger} {k : Nat} {K : AV → Vals → Ledger → Prop} (ok : COk C (k + 2)) (kf : Addr → Int × Str) {l : Addr} {xs : List Addr} {pos : Nat}
    (hm : (l, AO.list (xs.map AV.ref)) ∈ led) (ht : ∀ a ∈ xs, ∃ r, (a, AO.tup (.int (kf a).1 :: .str (kf a).2 :: r)) ∈ led) (hinj : ∀ a ∈ xs, ∀ b ∈ xs, a ≠ b → (kf a).2 ≠ (kf b).2)
    (nd : xs.Nodup) (hpos : pos < xs.length) (hlen : xs.length ≤ 1000) (U : Upd l (.list ((siftup (klt kf) pos xs).map .ref)) led led') (h : K .none vals led') :
    CallW C (.ref 227) [.ref l, .int pos] vals led K := by
  refine CallW.nd fun lnd => ?_
  refine hide fun PG kG => ?_
  obtain ⟨pre, o, post, rfl, rfl⟩ := U.split
  refine kG ?_
  clear kG PG
  obtain rfl := led_uniq lnd hm mid
  have tupNe : ∀ a ∈ xs, a ≠ l := fun a ha e => by
    obtain ⟨r, hr⟩ := ht a ha
    have := led_uniq lnd (e ▸ hr) hm
    cases this
  refine CallW_def (names := nmSu) ok (foSu _) rfl (loSu _) (cdSu _) (boSu _) rfl (fun vs h => biSu _ vs h) fun B outs L ok' aw => ?_
  conv in bodyOf _ => whnf
  show ExsW _ _ [some (.ref l), some (.int pos), none, none, none, none, none] _ _
  generalize hitem : xs.getD pos 0 = item at *
  revert item
  refine keepAll ?_
  intro item
  set_option tactic.hygienic false in intros
  have hin : item ∈ xs := by rw [← hitem]; exact getD_mem' hpos
  repeat k_ownIn
  with_reducible refine CallW_lenList mid (by simp; rfl) (by (first | lia | omega)) ?_
  repeat k_ownIn
  with_reducible refine SubW_list mid (by (first | lia | omega)) (getR hpos) (by simp; (first | lia | omega)) (fun _ _ => by with_unfolding_all rfl) ?_
  rw [hitem]
  repeat k_ownIn
  with_reducible refine BinW_mul (by decide) (by decide) ?_
  repeat k_ownIn
  refine ExWhile (Iv2c0 kf l xs pos pre post item) (xs.length - pos)
    ⟨pos, xs, none, rfl, rfl, rfl, rfl, hpos, fun _ _ => rfl, by rw [← hitem, List.getD_eq_getElem?_getD, List.getElem?_eq_getElem hpos]; simp, rfl⟩ ?_
  intro m v ld hG3
  refine hide fun PG kG => ?_
  obtain ⟨p, cur, x, rfl, rfl, rfl, hcl, hp, hsame, hperm, hsu⟩ := hG3
  refine kG ?_
  clear kG PG
  repeat k_ownIn
  refine IteP (fun hb => ?_) fun hb => ?_
  · have hc1 : 2 * p + 1 < xs.length := by simp at hb; (first | lia | omega)
    have at1 : cur.getD (2 * p + 1) 0 = xs.getD (2 * p + 1) 0 := by rw [List.getD_eq_getElem?_getD, List.getD_eq_getElem?_getD, hsame _ (by (first | lia | omega))]
    repeat ((fail_if_success (with_reducible refine ExW_If ?_)); k_ownIn)
    -- the right child
    refine ExW_cut (Iv2c1 kf l xs pos pre post item p cur) ?_ ?_
    · with_reducible refine ExW_If ?_
      repeat k_ownIn
      refine IteP (fun hb => ?_) fun hb => ?_
      · have hc2 : 2 * p + 2 < xs.length := by simp at hb; (first | lia | omega)
        have at2 : cur.getD (2 * p + 2) 0 = xs.getD (2 * p + 2) 0 := by rw [List.getD_eq_getElem?_getD, List.getD_eq_getElem?_getD, hsame _ (by (first | lia | omega))]
        have e1 : (2 * (p : Int) + 1) = ((2 * p + 1 : Nat) : Int) := by (first | lia | omega)
        have e2 : (2 * (p : Int) + 1 + 1) = ((2 * p + 2 : Nat) : Int) := by (first | lia | omega)
        repeat k_ownIn
        with_reducible refine SubW_list mid (by (first | lia | omega)) (by rw [e1]; exact getR (xs := cur) (i := 2 * p + 1) (by (first | lia | omega))) (by simp; (first | lia | omega)) (fun _ _ => by with_unfolding_all rfl) ?_
        repeat k_ownIn
        with_reducible refine SubW_list mid (by (first | lia | omega)) (by rw [e2]; exact getR (xs := cur) (i := 2 * p + 2) (by (first | lia | omega))) (by simp; (first | lia | omega)) (fun _ _ => by with_unfolding_all rfl) ?_
        have i1 : cur.getD (2 * p + 1) 0 ∈ xs := by rw [at1]; exact getD_mem' hc1
        have i2 : cur.getD (2 * p + 2) 0 ∈ xs := by rw [at2]; exact getD_mem' hc2
        have hne : cur.getD (2 * p + 1) 0 ≠ cur.getD (2 * p + 2) 0 := by
          rw [at1, at2]
          intro e
          have h1 : xs[2 * p + 1]? = some (xs.getD (2 * p + 1) 0) := getD_some' hc1
          have h2 : xs[2 * p + 2]? = some (xs.getD (2 * p + 1) 0) := by rw [e]; exact getD_some' hc2
          have := (List.getElem?_inj hc1 nd).mp (h1.trans h2.symm)
          (first | lia | omega)
        refine hide fun PG kG => ?_
        obtain ⟨r1, hr1⟩ := ht _ i1
        refine kG ?_
        clear kG PG
        refine hide fun PG kG => ?_
        obtain ⟨r2, hr2⟩ := ht _ i2
        refine kG ?_
        clear kG PG
        with_reducible refine CmpW_tupLt ok' (mem_put hr1 (tupNe _ i1)) (mem_put hr2 (tupNe _ i2)) (hinj _ i1 _ i2 hne) ?_
        repeat k_ownIn
        refine IteP (fun hb => ?_) fun hb => ?_
        · have hlt : klt kf (cur.getD (2 * p + 1) 0) (cur.getD (2 * p + 2) 0) = false := not_klt hb
          repeat k_ownIn
          refine ⟨2 * p + 2, ?_, ?_, rfl⟩
          · unfold suc; rw [if_pos ⟨by (first | lia | omega), hlt⟩]
          · rw [e2]
        · have hlt : klt kf (cur.getD (2 * p + 1) 0) (cur.getD (2 * p + 2) 0) = true := yes_klt hb
          repeat k_ownIn
          refine ⟨2 * p + 1, ?_, ?_, rfl⟩
          · unfold suc; rw [if_neg (by rintro ⟨_, q⟩; rw [hlt] at q; cases q)]
          · rw [e1]
      · have hc2 : ¬ 2 * p + 2 < xs.length := by simp at hb; (first | lia | omega)
        have e1 : (2 * (p : Int) + 1) = ((2 * p + 1 : Nat) : Int) := by (first | lia | omega)
        repeat k_ownIn
        refine IteP (fun q => by cases q) fun _ => ?_
        repeat k_ownIn
        refine ⟨2 * p + 1, ?_, ?_, rfl⟩
        · unfold suc; rw [if_neg (by rintro ⟨q, _⟩; (first | lia | omega))]
        · rw [e1]
    · intro v ld hG2
      refine hide fun PG kG => ?_
      obtain ⟨c, hc, rfl, rfl⟩ := hG2
      refine kG ?_
      clear kG PG
      have hcgt : p < c := hc ▸ suc_gt _ _ _
      have hclt : c < xs.length := by rw [← hc, ← hcl]; exact suc_lt (by (first | lia | omega))
      repeat k_ownIn
      with_reducible refine SubW_list mid (by (first | lia | omega)) (getR (xs := cur) (i := c) (by (first | lia | omega))) (by simp; (first | lia | omega)) (fun _ _ => by with_unfolding_all rfl) ?_
      repeat k_ownIn
      with_reducible refine SetW_list mid (by (first | lia | omega)) (by simp; (first | lia | omega)) (by simp; (first | lia | omega)) (Upd.at _ _ _ _ _) ?_
      rw [setR]
      repeat k_ownIn
      with_reducible refine BinW_mul (by decide) (by decide) ?_
      repeat k_ownIn
      refine TurnK_next (xs.length - c) (by (first | lia | omega)) ⟨c, cur.set p (cur.getD c 0), _, rfl, rfl, rfl, by simp [hcl], hclt, fun j hj => ?_, ?_, ?_⟩
      · rw [List.getElem?_set_ne (by (first | lia | omega))]; exact hsame j (by (first | lia | omega))
      · refine List.Perm.trans ?_ hperm
        have hy : (cur.set p item).length = xs.length := by simp [hcl]
        have e := List.set_set_perm (as := cur.set p item) (i := p) (j := c) (by (first | lia | omega)) (by (first | lia | omega))
        have e3 : (cur.set p item)[c]'(by (first | lia | omega)) = cur.getD c 0 := by
          rw [List.getElem_set_ne (by (first | lia | omega)), List.getD_eq_getElem?_getD, List.getElem?_eq_getElem (by (first | lia | omega))]; rfl
        have e4 : (cur.set p item)[p]'(by (first | lia | omega)) = item := by simp
        rw [e3, e4, List.set_set] at e
        exact e
      · rw [← hsu]
        conv => rhs; rw [su_fuel xs.length (xs.length + 1) p cur (by (first | lia | omega)) (by (first | lia | omega))]; unfold su
        rw [if_pos (by (first | lia | omega)), hc]
  · have hc1 : ¬ 2 * p + 1 < xs.length := by simp at hb; (first | lia | omega)
    repeat k_ownIn
    with_reducible refine SetW_list mid (by (first | lia | omega)) (by simp; (first | lia | omega)) (by simp; (first | lia | omega)) (Upd.at _ _ _ _ _) ?_
    rw [setR]
    repeat k_ownIn
    have hpg : (cur.set p item).getD p 0 = item := by rw [List.getD_eq_getElem?_getD, List.getElem?_set_self (by (first | lia | omega))]; rfl
    with_reducible refine CallW_siftdown ok' kf (xs := cur.set p item) mid (fun a ha => ?_) (fun a ha b hb => hinj a (hperm.mem_iff.mp ha) b (hperm.mem_iff.mp hb)) (hperm.nodup_iff.mpr nd) (by simp; (first | lia | omega)) (by simp; (first | lia | omega)) (Upd.at _ _ _ _ _) ?_
    · refine hide fun PG kG => ?_
      obtain ⟨r, hr⟩ := ht a (hperm.mem_iff.mp ha)
      refine kG ?_
      clear kG PG
      exact ⟨r, mem_put hr (tupNe a (hperm.mem_iff.mp ha))⟩
    · rw [hpg]
      refine ⟨fun x e => (by cases e), ?_⟩
      repeat k_ownIn
      have es : siftup (klt kf) pos xs = sd (klt kf) pos item p p (cur.set p item) := by
        unfold siftup
        rw [hitem, ← hsu, su_stop (by (first | lia | omega))]
      rw [es] at h
      exact h

-- part F3
-- heappush, heappop, heapify
noncomputable abbrev pnPush : List Str := ["heap", "item"]
theorem foPush (w : World) : FnOk (fdAt w 199) pnPush [] [] := fnOk_of (by kernel_rfl)
theorem loPush (w : World) : (KH w).lookup 199 = some ⟨.type "function", none, .func (fdAt w 199), #[]⟩ := by kernel_rfl
theorem cdPush (w : World) : codeIn (KH w) (fdAt w 199).code (fdAt w 199).qualname = true := by kernel_rfl
theorem boPush (w : World) : (fdAt w 199).body = .stmts (bodyOf (fdAt w 199).body) := by kernel_rfl
theorem biPush (w : World) (vs : List Value) (h : vs.length = 2) : bindArgs (fdAt w 199) ⟨vs, []⟩ = pure (pnPush.zip vs) := by
  obtain ⟨a, b, rfl⟩ := len2 h
  kernel_rfl
noncomputable def hpush (lt : Addr → Addr → Bool) (xs : List Addr) (a : Addr) : List Addr := sd lt 0 a xs.length xs.length (xs ++ [a])

theorem CallW_heappush {C : Cx} {vals : Vals} {led led' : Ledger} {k : Nat} {K : AV → Vals → Ledger → Prop} (ok : COk C (k + 2)) (kf : Addr → Int × Str) {l a : Addr} {xs : List Addr}
    (hm : (l, AO.list (xs.map AV.ref)) ∈ led) (ht : ∀ b ∈ xs ++ [a], ∃ r, (b, AO.tup (.int (kf b).1 :: .str (kf b).2 :: r)) ∈ led) (hinj : ∀ b ∈ xs ++ [a], ∀ c ∈ xs ++ [a], b ≠ c → (kf b).2 ≠ (kf c).2)
    (nd : (xs ++ [a]).Nodup) (hlen : xs.length < 1000) (U : Upd l (.list ((hpush (klt kf) xs a).map .ref)) led led') (h : K .none vals led') :
    CallW C (.ref 199) [.ref l, .ref a] vals led K := by
  refine CallW.nd fun lnd => ?_
  refine hide fun PG kG => ?_
  obtain ⟨pre, o, post, rfl, rfl⟩ := U.split
  refine kG ?_
  clear kG PG
  obtain rfl := led_uniq lnd hm mid
  have tupNe : ∀ b ∈ xs ++ [a], b ≠ l := fun b hb e => by
    obtain ⟨r, hr⟩ := ht b hb
    have := led_uniq lnd (e ▸ hr) hm
    cases this
  refine CallW_def (names := pnPush) ok (foPush _) rfl (loPush _) (cdPush _) (boPush _) rfl (fun vs h => biPush _ vs h) fun B outs L ok' aw => ?_
  conv in bodyOf _ => whnf
  show ExsW _ _ [some (.ref l), some (.ref a)] _ _
  repeat k_ownIn
  with_reducible refine EvW_MethB PySem.F.plainAttrs_list PySem.F.slot_list_append PySem.F.type_list_append (by with_unfolding_all rfl) ?_
  repeat k_ownIn
  refine ⟨TyW_list mid, ?_⟩
  repeat k_ownIn
  have e1 : xs.map AV.ref ++ [AV.ref a] = (xs ++ [a]).map AV.ref := by simp
  with_reducible refine CallW_append mid (by simp; (first | lia | omega)) (Upd.at _ _ _ _ _) ?_
  rw [e1]
  refine ⟨fun x e => (by cases e), ?_⟩
  repeat k_ownIn
  with_reducible refine CallW_lenList mid (by simp; rfl) (by (first | lia | omega)) ?_
  repeat k_ownIn
  have e2 : ((xs.length + 1 : Nat) : Int) - 1 = (xs.length : Nat) := by (first | lia | omega)
  rw [e2]
  have e3 : (xs ++ [a]).getD xs.length 0 = a := by simp
  show CallW _ (.ref 220) [.ref l, .int ((0 : Nat) : Int), .int ((xs.length : Nat) : Int)] _ _ _
  with_reducible refine CallW_siftdown (sp := 0) (pos := xs.length) ok' kf (xs := xs ++ [a]) mid (fun b hb => ?_) hinj nd (by simp) (by simp; (first | lia | omega)) (Upd.at _ _ _ _ _) ?_
  · refine hide fun PG kG => ?_
    obtain ⟨r, hr⟩ := ht b hb
    refine kG ?_
    clear kG PG
    exact ⟨r, mem_put hr (tupNe b hb)⟩
  · rw [e3]
    refine ⟨fun x e => (by cases e), ?_⟩
    repeat k_ownIn
    try exact h

noncomputable abbrev pnPop : List Str := ["heap"]
noncomputable abbrev lsPop : List Str := ["lastelt", "returnitem"]
noncomputable abbrev nmPop : List Str := ["heap", "lastelt", "returnitem"]
theorem foPop (w : World) : FnOk (fdAt w 206) pnPop lsPop [] := fnOk_of (by kernel_rfl)
theorem loPop (w : World) : (KH w).lookup 206 = some ⟨.type "function", none, .func (fdAt w 206), #[]⟩ := by kernel_rfl
theorem cdPop (w : World) : codeIn (KH w) (fdAt w 206).code (fdAt w 206).qualname = true := by kernel_rfl
theorem boPop (w : World) : (fdAt w 206).body = .stmts (bodyOf (fdAt w 206).body) := by kernel_rfl
theorem biPop (w : World) (vs : List Value) (h : vs.length = 1) : bindArgs (fdAt w 206) ⟨vs, []⟩ = pure (pnPop.zip vs) := by
  obtain ⟨a, rfl⟩ := len1 h
  kernel_rfl
/-- what heappop leaves -/
noncomputable def hpop (lt : Addr → Addr → Bool) (xs : List Addr) (a : Addr) : List Addr := if xs = [] then [] else siftup lt 0 (xs.set 0 a)
noncomputable def hpopr (xs : List Addr) (a : Addr) : Addr := if xs = [] then a else xs.getD 0 0
theorem CallW_heappop {C : Cx} {vals : Vals} {led led' : Ledger} {k : Nat} {K : AV → Vals → Ledger → Prop} (ok : COk C (k + 3)) (kf : Addr → Int × Str) {l a : Addr} {xs : List Addr}
    (hm : (l, AO.list ((xs ++ [a]).map AV.ref)) ∈ led) (ht : ∀ b ∈ xs ++ [a], ∃ r, (b, AO.tup (.int (kf b).1 :: .str (kf b).2 :: r)) ∈ led) (hinj : ∀ b ∈ xs ++ [a], ∀ c ∈ xs ++ [a], b ≠ c → (kf b).2 ≠ (kf c).2)
    (nd : (xs ++ [a]).Nodup) (hlen : xs.length < 1000) (U : Upd l (.list ((hpop (klt kf) xs a).map .ref)) led led') (h : K (.ref (hpopr xs a)) vals led') :
    CallW C (.ref 206) [.ref l] vals led K := by
  refine CallW.nd fun lnd => ?_
  refine hide fun PG kG => ?_
  obtain ⟨pre, o, post, rfl, rfl⟩ := U.split
  refine kG ?_
  clear kG PG
  obtain rfl := led_uniq lnd hm mid
  have tupNe : ∀ b ∈ xs ++ [a], b ≠ l := fun b hb e => by
    obtain ⟨r, hr⟩ := ht b hb
    have := led_uniq lnd (e ▸ hr) hm
    cases this
  refine CallW_def (names := nmPop) ok (foPop _) rfl (loPop _) (cdPop _) (boPop _) rfl (fun vs h => biPop _ vs h) fun B outs L ok' aw => ?_
  conv in bodyOf _ => whnf
  show ExsW _ _ [some (.ref l), none, none] _ _
  have e1 : (xs ++ [a]).map AV.ref = xs.map AV.ref ++ [AV.ref a] := by simp
  rw [e1]
  repeat k_ownIn
  with_reducible refine EvW_MethB PySem.F.plainAttrs_list PySem.F.slot_list_pop PySem.F.type_list_pop (by with_unfolding_all rfl) ?_
  repeat k_ownIn
  refine ⟨TyW_list mid, ?_⟩
  repeat k_ownIn
  with_reducible refine CallW_pop mid (by simp; (first | lia | omega)) (Upd.at _ _ _ _ _) ?_
  repeat k_ownIn
  with_reducible refine TrW_plain (by with_unfolding_all rfl) ?_
  repeat k_ownIn
  with_reducible refine TruW_list mid (by simp; (first | lia | omega)) ?_
  refine IteP (fun hb => ?_) fun hb => ?_
  · have hne : xs ≠ [] := by intro e; subst e; simp at hb
    have hpos : 0 < xs.length := List.length_pos_iff.mpr hne
    have e2 : (0 : Int).toNat = 0 := rfl
    repeat k_ownIn
    with_reducible refine SubW_list mid (by decide) (getR hpos) (by simp; (first | lia | omega)) (fun _ _ => by with_unfolding_all rfl) ?_
    repeat k_ownIn
    with_reducible refine SetW_list mid (by decide) (by simp; (first | lia | omega)) (by simp; (first | lia | omega)) (Upd.at _ _ _ _ _) ?_
    have e3 : (xs.map AV.ref).set (Int.toNat 0) (AV.ref a) = (xs.set 0 a).map AV.ref := by simp
    rw [e3]
    repeat k_ownIn
    have hsub : ∀ b ∈ xs.set 0 a, b ∈ xs ++ [a] := fun b hb => by
      rcases List.mem_or_eq_of_mem_set hb with q | q
      · exact List.mem_append_left _ q
      · rw [q]; exact List.mem_append_right _ (.head _)
    have hnd : (xs.set 0 a).Nodup := by
      have nd' := List.nodup_append.mp nd
      cases xs with
      | nil => exact absurd rfl hne
      | cons y r =>
        rw [List.set_cons_zero, List.nodup_cons]
        have := List.nodup_cons.mp nd'.1
        exact ⟨fun q => nd'.2.2 a (.tail _ q) a (.head _) rfl, this.2⟩
    show CallW _ (.ref 227) [.ref l, .int ((0 : Nat) : Int)] _ _ _
    with_reducible refine CallW_siftup (pos := 0) ok' kf (xs := xs.set 0 a) mid (fun b hb => ?_) (fun b hb c hc => hinj b (hsub b hb) c (hsub c hc)) hnd (by simpa using hpos) (by simp; (first | lia | omega)) (Upd.at _ _ _ _ _) ?_
    · refine hide fun PG kG => ?_
      obtain ⟨r, hr⟩ := ht b (hsub b hb)
      refine kG ?_
      clear kG PG
      exact ⟨r, mem_put hr (tupNe b (hsub b hb))⟩
    · refine ⟨fun x e => (by cases e), ?_⟩
      repeat k_ownIn
      rw [hpop, if_neg hne, hpopr, if_neg hne] at h
      exact h
  · have hne : xs = [] := by cases xs with | nil => rfl | cons y r => simp at hb
    subst hne
    repeat k_ownIn
    try exact h

-- part P1
theorem set_swap_perm {xs : List Addr} {i j : Nat} {a : Addr} (hi : i < xs.length) (hj : j < xs.length) (hne : i ≠ j) : ((xs.set i (xs.getD j 0)).set j a).Perm (xs.set i a) := by
  have e := List.set_set_perm (as := xs.set i a) (i := i) (j := j) (by simpa using hi) (by simpa using hj)
  have e3 : (xs.set i a)[j]'(by simpa using hj) = xs.getD j 0 := by
    rw [List.getElem_set_ne hne, List.getD_eq_getElem?_getD, List.getElem?_eq_getElem hj]; rfl
  have e4 : (xs.set i a)[i]'(by simpa using hi) = a := by simp
  rw [e3, e4, List.set_set] at e
  exact e
theorem sd_len {lt : Addr → Addr → Bool} {sp : Nat} {item : Addr} : ∀ (n pos : Nat) (xs : List Addr), (sd lt sp item n pos xs).length = xs.length
  | 0, pos, xs => by simp [sd]
  | n + 1, pos, xs => by
    unfold sd
    split
    · split
      · rw [sd_len]; simp
      · simp
    · simp
theorem sd_perm {lt : Addr → Addr → Bool} {sp : Nat} {item : Addr} : ∀ (n pos : Nat) (xs : List Addr), pos < xs.length → (sd lt sp item n pos xs).Perm (xs.set pos item)
  | 0, pos, xs, _ => .refl _
  | n + 1, pos, xs, h => by
    unfold sd
    split
    · rename_i hp
      split
      · refine (sd_perm n _ _ (by simp; (first | lia | omega))).trans ?_
        exact set_swap_perm h (by (first | lia | omega)) (by (first | lia | omega))
      · exact .refl _
    · exact .refl _
theorem su_perm {lt : Addr → Addr → Bool} {item : Addr} : ∀ (n pos : Nat) (xs : List Addr), pos < xs.length → (su lt n pos xs).1 < xs.length ∧ (su lt n pos xs).2.length = xs.length ∧ ((su lt n pos xs).2.set (su lt n pos xs).1 item).Perm (xs.set pos item)
  | 0, pos, xs, h => ⟨h, rfl, .refl _⟩
  | n + 1, pos, xs, h => by
    unfold su
    split
    · rename_i hc
      have h1 := suc_lt (lt := lt) hc
      have h2 := suc_gt lt pos xs
      obtain ⟨a, b, c⟩ := su_perm (lt := lt) (item := item) n (suc lt pos xs) (xs.set pos (xs.getD (suc lt pos xs) 0)) (by simpa using h1)
      refine ⟨by simpa using a, by simpa using b, c.trans (set_swap_perm h h1 (by (first | lia | omega)))⟩
    · exact ⟨h, rfl, .refl _⟩
theorem siftup_perm {lt : Addr → Addr → Bool} {pos : Nat} {xs : List Addr} (h : pos < xs.length) : (siftup lt pos xs).Perm xs := by
  unfold siftup
  obtain ⟨a, b, c⟩ := su_perm (lt := lt) (item := xs.getD pos 0) xs.length pos xs h
  refine (sd_perm _ _ _ (by simpa [b] using a)).trans ?_
  rw [List.set_set]
  refine c.trans ?_
  have : xs.set pos (xs.getD pos 0) = xs := by
    rw [List.getD_eq_getElem?_getD, List.getElem?_eq_getElem h]; simp
  rw [this]
noncomputable def hfy (lt : Addr → Addr → Bool) : Nat → List Addr → List Addr
  | 0, xs => xs
  | i + 1, xs => hfy lt i (siftup lt i xs)

-- part F4
-- heapify
noncomputable abbrev pnHf : List Str := ["x"]
noncomputable abbrev lsHf : List Str := ["n", "i"]
noncomputable abbrev nmHf : List Str := ["x", "n", "i"]
theorem foHf (w : World) : FnOk (fdAt w 213) pnHf lsHf [] := fnOk_of (by kernel_rfl)
theorem loHf (w : World) : (KH w).lookup 213 = some ⟨.type "function", none, .func (fdAt w 213), #[]⟩ := by kernel_rfl
theorem cdHf (w : World) : codeIn (KH w) (fdAt w 213).code (fdAt w 213).qualname = true := by kernel_rfl
theorem boHf (w : World) : (fdAt w 213).body = .stmts (bodyOf (fdAt w 213).body) := by kernel_rfl
theorem biHf (w : World) (vs : List Value) (h : vs.length = 1) : bindArgs (fdAt w 213) ⟨vs, []⟩ = pure (pnHf.zip vs) := by
  obtain ⟨a, rfl⟩ := len1 h
  kernel_rfl

noncomputable abbrev Iv4c0 (kf : Addr → Int × Str) (l : Addr) (xs : List Addr) (pre : Ledger) (post : List (Addr × AO)) (r : Addr) : Nat → Vals → Ledger → Prop := (fun i v ld => Ex2 fun (cur : List Addr) (x : Option AV) => An4 (v = [some (.ref l), some (.int xs.length), x]) (ld = (r, .pred (RangeO 0 ((xs.length / 2 : Nat) : Int))) :: (pre ++ (l, .list (cur.map .ref)) :: post)) (cur.Perm xs) (hfy (klt kf) (xs.length / 2 - i) cur = hfy (klt kf) (xs.length / 2) xs))
theorem CallW_heapify {C : Cx} {vals : Vals} {led led' : Ledger} {k : Nat} {K : AV → Vals → Ledger → Prop} (ok : COk C (k + 3)) (kf : Addr → Int × Str) {l : Addr} {xs : List Addr}
    (hm : (l, AO.list (xs.map AV.ref)) ∈ led) (ht : ∀ b ∈ xs, ∃ r, (b, AO.tup (.int (kf b).1 :: .str (kf b).2 :: r)) ∈ led) (hinj : ∀ b ∈ xs, ∀ c ∈ xs, b ≠ c → (kf b).2 ≠ (kf c).2)
    (nd : xs.Nodup) (hlen : xs.length < 1000) (U : Upd l (.list ((hfy (klt kf) (xs.length / 2) xs).map .ref)) led led') (h : K .none vals led') :
    CallW C (.ref 213) [.ref l] vals led K := by
  refine CallW.nd fun lnd => ?_
  refine hide fun PG kG => ?_
  obtain ⟨pre, o, post, rfl, rfl⟩ := U.split
  refine kG ?_
  clear kG PG
  obtain rfl := led_uniq lnd hm mid
  have tupNe : ∀ b ∈ xs, b ≠ l := fun b hb e => by
    obtain ⟨r, hr⟩ := ht b hb
    have := led_uniq lnd (e ▸ hr) hm
    cases this
  refine CallW_def (names := nmHf) ok (foHf _) rfl (loHf _) (cdHf _) (boHf _) rfl (fun vs h => biHf _ vs h) fun B0 outs L ok' aw => ?_
  conv in bodyOf _ => whnf
  show ExsW _ _ [some (.ref l), none, none] _ _
  repeat k_ownIn
  with_reducible refine CallW_lenList mid (by simp; rfl) (by (first | lia | omega)) ?_
  repeat k_ownIn
  with_reducible refine ExFor ok' (fun _ => by with_unfolding_all rfl) ?_
  repeat k_ownIn
  with_reducible refine BinW_floordiv (by decide) (PyProof.noPylong_small (by decide)) ?_
  repeat k_ownIn
  with_reducible refine CallW_range1 ?_
  intro r
  repeat k_ownIn
  have e1 : (xs.length : Int).fdiv 2 = ((xs.length / 2 : Nat) : Int) := by rw [Int.fdiv_eq_ediv_of_nonneg _ (by decide)]; (first | lia | omega)
  rw [e1]
  with_reducible refine CallW_reversed List.mem_cons_self (by (first | lia | omega)) (by (first | lia | omega)) (by (first | lia | omega)) (by (first | lia | omega)) ?_
  intro it
  have e2 : (((xs.length / 2 : Nat) : Int) - 0).toNat = xs.length / 2 := by (first | lia | omega)
  rw [e2]
  with_reducible refine It_riter Plain.name ok' ?_
  refine ForT_vals (Iv4c0 kf l xs pre post r)
    ⟨xs, none, rfl, rfl, .refl _, rfl⟩ (fun _ _ _ _ => trivial) ?_ ?_
  · intro i a v ld B hx hG6 okB
    refine hide fun PG kG => ?_
    obtain ⟨cur, y, rfl, rfl, hperm, hfe⟩ := hG6
    refine kG ?_
    clear kG PG
    have hi : i < xs.length / 2 := by
      have := (List.getElem?_eq_some_iff.mp hx).1
      simpa [nums] using this
    obtain rfl := nums_get hx
    have awB : ((CG 213 nmHf [] C B0 outs L).base B).AllWr := aw
    have hcl : cur.length = xs.length := hperm.length_eq
    have e3 : (0 : Int) + ((xs.length / 2 : Nat) - 1) + (i : Int) * -1 = ((xs.length / 2 - i - 1 : Nat) : Int) := by (first | lia | omega)
    rw [e3]
    have hpos : xs.length / 2 - i - 1 < cur.length := by (first | lia | omega)
    repeat k_ownIn
    with_reducible refine CallW_siftup okB kf (xs := cur) (List.mem_cons_of_mem _ mid) (fun b hb => ?_) (fun b hb c hc => hinj b (hperm.mem_iff.mp hb) c (hperm.mem_iff.mp hc)) (hperm.nodup_iff.mpr nd) hpos (by (first | lia | omega)) (Upd.there (Upd.at _ _ _ _ _)) ?_
    · refine hide fun PG kG => ?_
      obtain ⟨q, hq⟩ := ht b (hperm.mem_iff.mp hb)
      refine kG ?_
      clear kG PG
      exact ⟨q, List.mem_cons_of_mem _ (mem_put hq (tupNe b (hperm.mem_iff.mp hb)))⟩
    · refine ⟨fun x e => (by cases e), ?_⟩
      repeat k_ownIn
      refine ForTurn_next ⟨_, _, rfl, rfl, (siftup_perm hpos).trans hperm, ?_⟩
      rw [← hfe]
      have e4 : xs.length / 2 - i = (xs.length / 2 - (i + 1)) + 1 := by (first | lia | omega)
      rw [e4]
      simp only [Nat.add_sub_cancel]
      rfl
  · intro v ld hG2
    refine hide fun PG kG => ?_
    obtain ⟨cur, y, rfl, rfl, hperm, hfe⟩ := hG2
    refine kG ?_
    clear kG PG
    have e6 : (nums (0 + ((xs.length / 2 : Nat) - 1)) (-1) (xs.length / 2)).length = xs.length / 2 := by simp [nums]
    rw [e6, Nat.sub_self] at hfe
    rw [← hfe] at h
    refine SeqK_next (TW.sub (List.sublist_cons_self _ _) (ExsW_nil ?_))
    exact h

-- part P2
section
open PySem.Builtin.Str
noncomputable def S (l : List Nat) : Str := ⟨l.toArray⟩
theorem S_len (l : List Nat) : (S l).length = l.length := by simp [S, Str.length]
theorem S_app (a b : List Nat) : S a ++ S b = S (a ++ b) := by
  show Str.append (S a) (S b) = _
  simp [Str.append, S]
theorem S_inj {a b : List Nat} (h : S a = S b) : a = b := by simpa [S] using h
theorem S_get (l : List Nat) (i : Nat) : (S l).cps[i]? = l[i]? := by simp [S]
theorem S_slice {l : List Nat} {a b : Nat} (hab : a ≤ b) (hb : b ≤ l.length) : Txt.slice (S l) (some a) (some b) = S ((l.drop a).take (b - a)) := by
  unfold Txt.slice
  have h := StrLaws.sliced_plain (S l) hab (by rw [S_len]; exact hb)
  have h1 := StrLaws.strSliceIndices_plain (a := a) (b := b) (len := (S l).length) hab (by rw [S_len]; exact hb)
  split
  · rename_i hc
    simp only [beq_self_eq_true, Bool.true_and, beq_iff_eq] at hc
    rw [h1, S_len] at hc
    simp at hc
    have ha : a = 0 := by (first | lia | omega)
    have hb' : b = l.length := by (first | lia | omega)
    subst ha hb'
    simp
  · rw [h]; simp [S]
theorem S_sliceTo {l : List Nat} {b : Nat} (hb : b ≤ l.length) : Txt.slice (S l) none (some b) = S (l.take b) := by
  have : Txt.slice (S l) none (some (b : Int)) = Txt.slice (S l) (some ((0 : Nat) : Int)) (some b) := by
    unfold Txt.slice
    have e : strSliceIndices none (some (b : Int)) 1 (S l).length = strSliceIndices (some ((0 : Nat) : Int)) (some (b : Int)) 1 (S l).length := by
      simp only [strSliceIndices]
      congr 1
    rw [e]
  rw [this, S_slice (Nat.zero_le _) hb]; simp
theorem S_sliceFrom {l : List Nat} {a : Nat} (ha : a ≤ l.length) : Txt.slice (S l) (some a) none = S (l.drop a) := by
  have : Txt.slice (S l) (some (a : Int)) none = Txt.slice (S l) (some a) (some ((l.length : Nat) : Int)) := by
    unfold Txt.slice
    have e : strSliceIndices (some (a : Int)) none 1 (S l).length = strSliceIndices (some (a : Int)) (some ((l.length : Nat) : Int)) 1 (S l).length := by
      simp only [strSliceIndices, S_len]
      congr 1
      show (l.length : Int) = max 0 (min (if (l.length : Int) < 0 then (l.length : Int) + l.length else l.length) l.length)
      rw [if_neg (by (first | lia | omega))]
      (first | lia | omega)
    rw [e]
  rw [this, S_slice ha (Nat.le_refl _), List.take_of_length_le (by simp)]

/-- the places of a sign -/
noncomputable def posOf (c : Nat) : Nat → List Nat → List Nat
  | _, [] => []
  | i, x :: r => if x = c then i :: posOf c (i + 1) r else posOf c (i + 1) r
theorem sub_one {l : List Nat} {c i : Nat} : subAt (S l) ⟨#[c]⟩ i = decide (l[i]? = some c) := by
  unfold subAt S
  have e : (⟨#[c]⟩ : Str).length = 1 := rfl
  rw [e, Bool.eq_iff_iff, beq_iff_eq, decide_eq_true_eq]
  rw [← Array.toList_inj]
  simp only [List.extract_toArray]
  constructor
  · intro h
    have h1 := congrArg (fun x => x[0]?) h
    simpa using h1
  · intro h
    have hi : i < l.length := (List.getElem?_eq_some_iff.mp h).1
    have h2 := (List.getElem?_eq_some_iff.mp h).2
    simp only [List.extract_eq_drop_take]
    rw [show i + 1 - i = 1 by (first | lia | omega), List.drop_eq_getElem_cons hi, h2]
    rfl
theorem occ_run {l : List Nat} {c limit : Nat} : ∀ (suf : List Nat) (i : Nat) (acc : Array Nat) (free : Nat), l.drop i = suf → i + suf.length = l.length → free ≤ i →
    (forIn (List.range' i (suf.length + 1)) (acc, free) (StrLaws.occBody (S l) ⟨#[c]⟩ l.length limit)).run.fst.toList = acc.toList ++ (posOf c i suf).take (limit - acc.size)
  | [], i, acc, free, hd, hl, hf => by
    have e : List.range' i (([] : List Nat).length + 1) = [i] := rfl
    rw [e, List.forIn_cons]
    unfold StrLaws.occBody
    rw [if_neg (by
      rintro ⟨⟨_, h⟩, _⟩
      have : (⟨#[c]⟩ : Str).length = 1 := rfl
      rw [this] at h
      simp at hl
      (first | lia | omega))]
    simp [posOf]
  | x :: r, i, acc, free, hd, hl, hf => by
    have hx : l[i]? = some x := by
      have := congrArg (fun q => q[0]?) hd
      simpa using this
    have hd' : l.drop (i + 1) = r := by
      have := congrArg (List.drop 1) hd
      simpa [List.drop_drop, Nat.add_comm] using this
    have hl' : (i + 1) + r.length = l.length := by simp at hl; (first | lia | omega)
    rw [show (x :: r).length + 1 = (r.length + 1) + 1 from rfl, List.range'_succ, List.forIn_cons]
    unfold StrLaws.occBody
    have hlen1 : (⟨#[c]⟩ : Str).length = 1 := rfl
    rw [sub_one, hx, hlen1]
    unfold posOf
    by_cases hc : x = c
    · subst hc
      by_cases hlim : acc.size < limit
      · rw [if_pos ⟨⟨⟨hlim, hf⟩, by simp at hl; (first | lia | omega)⟩, by simp⟩]
        refine (occ_run r (i + 1) (acc.push i) (i + 1) hd' hl' (Nat.le_refl _)).trans ?_
        rw [if_pos rfl]
        have e : limit - acc.size = (limit - (acc.size + 1)) + 1 := by (first | lia | omega)
        simp [e]
      · rw [if_neg (fun h => hlim h.1.1.1)]
        refine (occ_run r (i + 1) acc free hd' hl' (by (first | lia | omega))).trans ?_
        rw [if_pos rfl]
        have e : limit - acc.size = 0 := by (first | lia | omega)
        simp [e]
    · rw [if_neg (fun h => hc (by simpa using h.2))]
      refine (occ_run r (i + 1) acc free hd' hl' (by (first | lia | omega))).trans ?_
      rw [if_neg hc]
theorem occ_S {l : List Nat} {c lo limit : Nat} (hlo : lo ≤ l.length) : occurrences (S l) ⟨#[c]⟩ lo (S l).length limit = (posOf c lo (l.drop lo)).take limit := by
  rw [StrLaws.occ_eq, S_len]
  have e : l.length + 1 - lo = (l.drop lo).length + 1 := by simp; (first | lia | omega)
  rw [e, occ_run (l.drop lo) lo #[] lo rfl (by simp; (first | lia | omega)) (Nat.le_refl _)]
  simp
end

-- part P3
section
open PySem.Builtin.Str
/-- quotes doubled -/
noncomputable def dbl (l : List Nat) : List Nat := l.flatMap fun c => if c = 34 then [34, 34] else [c]
theorem dbl_cons (c : Nat) (l : List Nat) : dbl (c :: l) = (if c = 34 then [34, 34] else [c]) ++ dbl l := rfl
theorem sub_S (l : List Nat) (i j : Nat) : strSub (S l) i j = S ((l.drop i).take (j - i)) := by
  unfold strSub S
  simp [List.extract_eq_take_drop]
theorem join_cons2 (sep x y : Str) (r : List Str) : Str.join sep (x :: y :: r) = x ++ sep ++ Str.join sep (y :: r) := by
  first | rfl | (simp [Str.join])
theorem repl_run {l : List Nat} : ∀ (suf : List Nat) (i start : Nat), l.drop i = suf → start ≤ i → i ≤ l.length →
    Str.join (S [34, 34]) (StrLaws.partsFrom (S l) 1 start (posOf 34 i suf)) = S ((l.drop start).take (i - start) ++ dbl suf)
  | [], i, start, hd, hs, hl => by
    have hi : l.length ≤ i := List.drop_eq_nil_iff.mp hd
    unfold posOf StrLaws.partsFrom
    rw [S_len, sub_S]
    have e : l.length = i := by (first | lia | omega)
    rw [e]
    simp [Str.join, dbl]
  | x :: r, i, start, hd, hs, hl => by
    have hlt : i < l.length := by
      rcases Nat.lt_or_ge i l.length with h | h
      · exact h
      · rw [List.drop_eq_nil_of_le h] at hd; cases hd
    have hd' : l.drop (i + 1) = r := by
      have := congrArg (List.drop 1) hd
      simpa [List.drop_drop, Nat.add_comm] using this
    have hx : l[i]? = some x := by
      have := congrArg (fun q => q[0]?) hd
      simpa using this
    unfold posOf
    by_cases hc : x = 34
    · rw [if_pos hc]
      unfold StrLaws.partsFrom
      have ih := repl_run r (i + 1) (i + 1) hd' (Nat.le_refl _) hlt
      have hne : ∃ y q, StrLaws.partsFrom (S l) 1 (i + 1) (posOf 34 (i + 1) r) = y :: q := by
        cases posOf 34 (i + 1) r with
        | nil => exact ⟨_, _, rfl⟩
        | cons c cs => exact ⟨_, _, rfl⟩
      obtain ⟨y, q, hq⟩ := hne
      rw [hq] at ih ⊢
      rw [join_cons2, ih, sub_S, S_app, S_app, dbl_cons, if_pos hc]
      simp
    · rw [if_neg hc, repl_run r (i + 1) start hd' (by (first | lia | omega)) hlt, dbl_cons, if_neg hc]
      congr 1
      have e : i + 1 - start = (i - start) + 1 := by (first | lia | omega)
      rw [e, List.take_add_one, List.getElem?_drop, show start + (i - start) = i by (first | lia | omega), hx]
      simp
theorem repl_S (l : List Nat) : Txt.replace (S l) (S [34]) (S [34, 34]) = S (dbl l) := by
  unfold Txt.replace
  have e1 : (S [34]).length = 1 := rfl
  have e2 : (S [34, 34]).length = 2 := rfl
  have h := repl_run (l := l) l 0 0 rfl (Nat.le_refl _) (Nat.zero_le _)
  simp only [List.drop_zero, Nat.sub_self, List.take_zero, List.nil_append] at h
  have ho : occurrences (S l) (S [34]) 0 (S l).length ((S l).length + 1) = posOf 34 0 l := by
    rw [show S [34] = ⟨#[34]⟩ from rfl, occ_S (Nat.zero_le _), List.drop_zero]
    refine List.take_of_length_le ?_
    rw [S_len]
    have : ∀ (m : List Nat) i, (posOf 34 i m).length ≤ m.length := by
      intro m
      induction m with
      | nil => intro i; simp [posOf]
      | cons y r ih =>
        intro i
        unfold posOf
        split
        · simp; exact ih _
        · simp; exact Nat.le_succ_of_le (ih _)
    exact Nat.le_succ_of_le (this l 0)
  rw [ho, e1]
  split
  · rename_i hc
    have hnil : posOf 34 0 l = [] := by
      simp [e2] at hc
      exact hc
    rw [hnil] at h
    unfold StrLaws.partsFrom at h
    rw [sub_S, S_len] at h
    simp [Str.join] at h
    exact h
  · rw [StrLaws.glued_eq_join, StrLaws.partsBetween_eq]
    exact h
end

-- part P4
noncomputable def w229 (L m d : Nat) : List Nat := [50, 50, 57, 32, L, 32, 40, m, m, m, d, m, 41]
noncomputable def mkOf (i : Nat) : Nat := if i % 2 = 0 then 124 else 34
/-- one place's letter -/
noncomputable def lt (i : Nat) : Str := S [97 + i]
/-- the words of a place -/
noncomputable def cont (ch : Nat → List Nat) (hr : Nat → Nat) : Nat → Nat → List Nat
  | 0, _ => []
  | n + 1, i => w229 (97 + i) (mkOf i) (48 + hr i) ++ (ch i).flatMap fun c => [50, 53, 55, 32, 34] ++ dbl (cont ch hr n c) ++ [34]
theorem lt_inj {i j : Nat} (h : lt i = lt j) : i = j := by
  have := S_inj h
  simp at this
  (first | lia | omega)
theorem dget_at {f : Nat → AV} {i : Nat} (h : i < 6) : dget ((List.range 6).map fun j => (lt j, f j)) (lt i) = some (f i) := by
  unfold dget
  have e : ∀ (l : List Nat), i ∈ l → ((l.map fun j => (lt j, f j)).find? fun e => decide (e.1 = lt i)).map (·.2) = some (f i) := by
    intro l
    induction l with
    | nil => intro h; cases h
    | cons j r ih =>
      intro h
      rw [List.map_cons, List.find?_cons]
      by_cases hj : lt j = lt i
      · have := lt_inj hj
        subst this
        simp
      · simp only [hj, decide_false]
        refine ih ?_
        rcases List.mem_cons.mp h with rfl | h
        · exact absurd rfl hj
        · exact h
  exact e _ (List.mem_range.mpr h)
structure WaitsAt (led : Ledger) (W : Addr) (wa : Nat → Addr) (ch : Nat → List Nat) (ep : Option Nat) : Prop where
  dict : (W, AO.dict ((List.range 6).map fun i => (lt i, .ref (wa i))) ep) ∈ led
  lists : ∀ i, i < 6 → (wa i, AO.list ((ch i).map fun c => .str (lt c))) ∈ led
structure HoursAt (led : Ledger) (H : Addr) (hr : Nat → Nat) : Prop where
  dict : (H, AO.dict ((List.range 6).map fun i => (lt i, .int (hr i))) none) ∈ led
/-- the trees and hours that law makes -/
structure Tree (ch : Nat → List Nat) (hr : Nat → Nat) : Prop where
  up : ∀ i, i < 6 → ∀ c ∈ ch i, i < c ∧ c < 6
  few : ∀ i, i < 6 → (ch i).length ≤ 5
  hrs : ∀ i, 1 ≤ hr i ∧ hr i ≤ 5
theorem dbl_len (l : List Nat) : (dbl l).length ≤ 2 * l.length := by
  induction l with
  | nil => simp [dbl]
  | cons c r ih =>
    rw [dbl_cons]
    split <;> simp <;> (first | lia | omega)
noncomputable def bnd : Nat → Nat
  | 0 => 0
  | n + 1 => 13 + 5 * (6 + 2 * bnd n)
theorem flat_len {α : Type} {f : α → List Nat} {b : Nat} : ∀ (l : List α), (∀ c ∈ l, (f c).length ≤ b) → (l.flatMap f).length ≤ l.length * b
  | [], _ => by simp
  | c :: r, h => by
    have h1 := h c (.head _)
    have h2 := flat_len r fun c hc => h c (.tail _ hc)
    simp only [List.flatMap_cons, List.length_append, List.length_cons, Nat.succ_mul]
    (first | lia | omega)
theorem cont_len {ch : Nat → List Nat} {hr : Nat → Nat} (T : Tree ch hr) : ∀ (n i : Nat), i < 6 → (cont ch hr n i).length ≤ bnd n
  | 0, i, _ => by simp [cont, bnd]
  | n + 1, i, h => by
    unfold cont bnd
    have := flat_len (f := fun c => [50, 53, 55, 32, 34] ++ dbl (cont ch hr n c) ++ [34]) (b := 6 + 2 * bnd n) (ch i) (fun c hc => by
      have h1 := cont_len T n c (T.up i h c hc).2
      have h2 := dbl_len (cont ch hr n c)
      simp
      (first | lia | omega))
    have h5 := T.few i h
    have h6 : (ch i).length * (6 + 2 * bnd n) ≤ 5 * (6 + 2 * bnd n) := Nat.mul_le_mul_right _ h5
    simp only [List.length_append, w229, List.length_cons, List.length_nil] at *
    (first | lia | omega)

-- part F5
-- parse257
noncomputable def p257 : List Nat → List Nat
  | [] => []
  | 34 :: 34 :: r => 34 :: p257 r
  | 34 :: _ => []
  | c :: r => c :: p257 r
theorem p257_q {r : List Nat} : p257 (34 :: 34 :: r) = 34 :: p257 r := by rw [p257]
theorem p257_e {d : Nat} {r : List Nat} (h : d ≠ 34) : p257 (34 :: d :: r) = [] := by
  rw [p257]
  intro r' e
  simp at e
  exact h e.1
theorem p257_c {c : Nat} {r : List Nat} (h : c ≠ 34) : p257 (c :: r) = c :: p257 r := by
  rw [p257]
  · intro r' e _; exact h e
  · intro e; exact h e
noncomputable abbrev pn57 : List Str := ["resp"]
noncomputable abbrev ls57 : List Str := ["dirname", "i", "n", "c"]
noncomputable abbrev nm57 : List Str := ["resp", "dirname", "i", "n", "c"]
theorem fo57 (w : World) : FnOk (fdAt w 192) pn57 ls57 [] := fnOk_of (by kernel_rfl)
theorem lo57 (w : World) : (KH w).lookup 192 = some ⟨.type "function", none, .func (fdAt w 192), #[]⟩ := by kernel_rfl
theorem cd57 (w : World) : codeIn (KH w) (fdAt w 192).code (fdAt w 192).qualname = true := by kernel_rfl
theorem bo57 (w : World) : (fdAt w 192).body = .stmts (bodyOf (fdAt w 192).body) := by kernel_rfl
theorem bi57 (w : World) (vs : List Value) (h : vs.length = 1) : bindArgs (fdAt w 192) ⟨vs, []⟩ = pure (pn57.zip vs) := by
  obtain ⟨a, rfl⟩ := len1 h
  kernel_rfl
theorem lit257 : Str.ofString "257" = S [50, 53, 55] := by decide
theorem litSpQ : Str.ofString " \"" = S [32, 34] := by decide
theorem litQ : Str.ofString "\"" = S [34] := by decide
theorem litE : Str.ofString "" = S [] := by decide

noncomputable abbrev Iv5c0 (tl : List Nat) (x : Str) (led2 : List (Addr × AO)) : Nat → Vals → Ledger → Prop := (fun m v ld => Ex3 fun (j : Nat) (acc : List Nat) (y : Option AV) => An6 (v = [some (.str x), some (.str (S acc)), some (.int ((5 + j : Nat) : Int)), some (.int x.length), y]) (ld = led2) (m = tl.length + 1 - j) (j ≤ tl.length) (acc.length ≤ j) (acc ++ p257 (tl.drop j) = p257 tl))
theorem CallW_parse257 {C : Cx} {vals : Vals} {led : Ledger} {k : Nat} {K : AV → Vals → Ledger → Prop} (ok : COk C (k + 1)) {tl : List Nat} (hlen : tl.length ≤ 10000000) (h : ∀ led', led.Sublist led' → K (.str (S (p257 tl))) vals led') :
    CallW C (.ref 192) [.str (S (50 :: 53 :: 55 :: 32 :: 34 :: tl))] vals led K := by
  refine CallW_def (names := nm57) ok (fo57 _) rfl (lo57 _) (cd57 _) (bo57 _) rfl (fun vs h => bi57 _ vs h) fun B outs L ok' aw => ?_
  conv in bodyOf _ => whnf
  show ExsW _ _ [some (.str (S (50 :: 53 :: 55 :: 32 :: 34 :: tl))), none, none, none, none] _ _
  generalize hx : S (50 :: 53 :: 55 :: 32 :: 34 :: tl) = x
  revert x
  refine keepAll ?_
  intro x
  set_option tactic.hygienic false in intros
  have hxl : x.length = tl.length + 5 := by rw [← hx, S_len]; rfl
  repeat k_ownIn
  refine ⟨3, rfl, ?_⟩
  repeat k_ownIn
  intro r1
  have s1 : Txt.slice x none (some 3) = S [50, 53, 55] := by
    rw [← hx]; exact S_sliceTo (l := 50 :: 53 :: 55 :: 32 :: 34 :: tl) (b := 3) (by simp)
  have s2 : Txt.slice x (some 3) (some 5) = S [32, 34] := by
    rw [← hx]; exact S_slice (l := 50 :: 53 :: 55 :: 32 :: 34 :: tl) (a := 3) (b := 5) (by decide) (by simp)
  with_reducible refine SubW_strSlice List.mem_cons_self (by (first | lia | omega)) (fun _ _ => by with_unfolding_all rfl) ?_
  rw [s1]
  repeat k_ownIn
  refine IteP (fun hb => absurd hb (by rw [lit257]; simp)) fun _ => ?_
  repeat k_ownIn
  refine ⟨3, rfl, ?_⟩
  repeat k_ownIn
  refine ⟨5, rfl, ?_⟩
  repeat k_ownIn
  intro r2
  with_reducible refine SubW_strSlice List.mem_cons_self (by (first | lia | omega)) (fun _ _ => by with_unfolding_all rfl) ?_
  rw [s2]
  repeat k_ownIn
  refine IteP (fun hb => absurd hb (by rw [litSpQ]; simp)) fun _ => ?_
  repeat k_ownIn
  with_reducible refine CallW_lenStr (by (first | lia | omega)) ?_
  repeat k_ownIn
  generalize hled : (r2, AO.pred (SliceO (some 3) (some 5) none)) :: (r1, AO.pred (SliceO none (some 3) none)) :: led = led2
  revert led2
  refine keepAll ?_
  intro led2
  set_option tactic.hygienic false in intros
  have hsub : led.Sublist led2 := by rw [← hled]; exact (List.sublist_cons_self _ _).trans (List.sublist_cons_self _ _)
  refine ExWhile (Iv5c0 tl x led2) (tl.length + 1)
    ⟨0, [], none, ?_, rfl, rfl, Nat.zero_le _, Nat.le_refl _, rfl⟩ ?_
  · rw [litE]; rfl
  intro m v ld hG3
  refine hide fun PG kG => ?_
  obtain ⟨j, acc, y, rfl, rfl, rfl, hj, hacc, hp⟩ := hG3
  refine kG ?_
  clear kG PG
  repeat k_ownIn
  refine IteP (fun hb => ?_) fun hb => ?_
  · have hj' : j < tl.length := by simp [hxl] at hb; (first | lia | omega)
    have hg : ∀ i, x.cps[5 + i]? = tl[i]? := fun i => by
      rw [← hx, S_get, show 5 + i = i + 1 + 1 + 1 + 1 + 1 by (first | lia | omega)]
      rfl
    refine hide fun PG kG => ?_
    obtain ⟨c, hc⟩ : ∃ c, tl[j]? = some c := ⟨_, List.getElem?_eq_getElem hj'⟩
    refine kG ?_
    clear kG PG
    have hd : tl.drop j = c :: tl.drop (j + 1) := by
      rw [List.drop_eq_getElem_cons hj']
      have := List.getElem?_eq_getElem hj'
      rw [hc] at this; cases this; rfl
    repeat k_ownIn
    with_reducible refine SubW_str (by (first | lia | omega)) (by rw [Int.toNat_natCast, hg]; exact hc) (by (first | lia | omega)) (fun _ _ => by with_unfolding_all rfl) ?_
    repeat k_ownIn
    have e6 : ((5 + j : Nat) : Int) + 1 = ((5 + (j + 1) : Nat) : Int) := by (first | lia | omega)
    rw [e6]
    have hS1 : (⟨#[c]⟩ : Str) = S [c] := rfl
    rw [hS1]
    repeat k_ownIn
    rw [litQ]
    refine IteP (fun hb2 => ?_) fun hb2 => ?_
    · have hc34 : c = 34 := by
        have := S_inj (of_decide_eq_true hb2)
        simpa using this
      subst hc34
      repeat k_ownIn
      refine IteP (fun hb3 => ?_) fun hb3 => ?_
      · -- the end
        have hj2 : ¬ j + 1 < tl.length := by simp [hxl] at hb3; (first | lia | omega)
        have hnil : tl.drop (j + 1) = [] := List.drop_eq_nil_of_le (by (first | lia | omega))
        refine IteP (fun _ => ?_) fun q => by cases q
        repeat k_ownIn
        rw [hd, hnil] at hp
        have e7 : p257 [34] = [] := by rw [p257]; intro r e; cases e
        rw [e7, List.append_nil] at hp
        rw [hp]
        exact h _ hsub
      · have hj2 : j + 1 < tl.length := by simp [hxl] at hb3; (first | lia | omega)
        refine hide fun PG kG => ?_
        obtain ⟨d, hdd⟩ : ∃ d, tl[j + 1]? = some d := ⟨_, List.getElem?_eq_getElem hj2⟩
        refine kG ?_
        clear kG PG
        have hd2 : tl.drop (j + 1) = d :: tl.drop (j + 2) := by
          rw [List.drop_eq_getElem_cons hj2]
          have := List.getElem?_eq_getElem hj2
          rw [hdd] at this; cases this; rfl
        repeat k_ownIn
        with_reducible refine SubW_str (by (first | lia | omega)) (by rw [Int.toNat_natCast, hg]; exact hdd) (by (first | lia | omega)) (fun _ _ => by with_unfolding_all rfl) ?_
        repeat k_ownIn
        have hS2 : (⟨#[d]⟩ : Str) = S [d] := rfl
        rw [hS2]
        refine IteP (fun hb4 => ?_) fun hb4 => ?_
        · have hd34 : d ≠ 34 := fun e => by
            subst e
            exact absurd rfl (of_decide_eq_true hb4)
          repeat k_ownIn
          rw [hd, hd2, p257_e hd34, List.append_nil] at hp
          rw [hp]
          exact h _ hsub
        · have hd34 : d = 34 := by
            have := of_decide_eq_false hb4
            have := S_inj (Decidable.not_not.mp this)
            simpa using this
          subst hd34
          repeat k_ownIn
          with_reducible refine BinW_adds (by rw [S_len, S_len]; simp; (first | lia | omega)) ?_
          rw [S_app]
          repeat k_ownIn
          have e8 : ((5 + (j + 1) : Nat) : Int) + 1 = ((5 + (j + 2) : Nat) : Int) := by (first | lia | omega)
          rw [e8]
          refine TurnK_next (tl.length + 1 - (j + 2)) (by (first | lia | omega)) ⟨j + 2, acc ++ [34], _, rfl, rfl, rfl, by (first | lia | omega), by simp; (first | lia | omega), ?_⟩
          rw [← hp, hd, hd2, p257_q]
          simp
    · have hc34 : c ≠ 34 := fun e => by
        subst e
        exact absurd rfl (of_decide_eq_false hb2)
      repeat k_ownIn
      with_reducible refine BinW_adds (by rw [S_len, S_len]; simp; (first | lia | omega)) ?_
      rw [S_app]
      repeat k_ownIn
      refine TurnK_next (tl.length + 1 - (j + 1)) (by (first | lia | omega)) ⟨j + 1, acc ++ [c], _, rfl, rfl, rfl, by (first | lia | omega), by simp; (first | lia | omega), ?_⟩
      rw [← hp, hd, p257_c hc34]
      simp
  · have hj' : j = tl.length := by simp [hxl] at hb; (first | lia | omega)
    subst hj'
    rw [List.drop_length] at hp
    have e9 : p257 [] = [] := by rw [p257]
    rw [e9, List.append_nil] at hp
    repeat k_ownIn
    rw [hp]
    exact h _ hsub

-- part F6
-- parse229
noncomputable abbrev pn29 : List Str := ["resp", "peer"]
noncomputable abbrev ls29 : List Str := ["left", "right", "parts", "host", "port"]
noncomputable abbrev nm29 : List Str := ["resp", "peer", "left", "right", "parts", "host", "port"]
theorem fo29 (w : World) : FnOk (fdAt w 185) pn29 ls29 [] := fnOk_of (by kernel_rfl)
theorem lo29 (w : World) : (KH w).lookup 185 = some ⟨.type "function", none, .func (fdAt w 185), #[]⟩ := by kernel_rfl
theorem cd29 (w : World) : codeIn (KH w) (fdAt w 185).code (fdAt w 185).qualname = true := by kernel_rfl
theorem bo29 (w : World) : (fdAt w 185).body = .stmts (bodyOf (fdAt w 185).body) := by kernel_rfl
theorem bi29 (w : World) (vs : List Value) (h : vs.length = 2) : bindArgs (fdAt w 185) ⟨vs, []⟩ = pure (pn29.zip vs) := by
  obtain ⟨a, b, rfl⟩ := len2 h
  kernel_rfl
theorem lit229 : Str.ofString "229" = S [50, 50, 57] := by decide
theorem litOp : Str.ofString "(" = S [40] := by decide
theorem litCl : Str.ofString ")" = S [41] := by decide
theorem split229 {m d : Nat} (hm : m = 124 ∨ m = 34) (hd : 49 ≤ d ∧ d ≤ 53) :
    Builtin.Str.partsBetween (S [m, m, m, d, m]) (Builtin.Str.occurrences (S [m, m, m, d, m]) (S [m]) 0 (S [m, m, m, d, m]).length ((S [m, m, m, d, m]).length + 1)) (S [m]).length = [S [], S [], S [], S [d], S []] ∧
    (decide ((S [m, m, m, d, m]).length < (S [m]).length) || decide (Builtin.Str.strKind (S [m, m, m, d, m]) < Builtin.Str.strKind (S [m]))) = false ∧
    (Builtin.Str.occurrences (S [m, m, m, d, m]) (S [m]) 0 (S [m, m, m, d, m]).length ((S [m, m, m, d, m]).length + 1)).isEmpty = false ∧ PySem.intText? (S [d]) = some ((d - 48 : Nat) : Int) := by
  have hd' : d = 49 ∨ d = 50 ∨ d = 51 ∨ d = 52 ∨ d = 53 := by (first | lia | omega)
  rcases hm with rfl | rfl <;> rcases hd' with rfl | rfl | rfl | rfl | rfl <;> decide +kernel
theorem find229 {L m d : Nat} {rest : List Nat} (hL : L ≠ 40) : Txt.find (S (w229 L m d ++ rest)) (S [40]) = 6 := by
  have e : Txt.find (S (w229 L m d ++ rest)) (S [40]) = match Builtin.Str.occurrences (S (w229 L m d ++ rest)) (S [40]) 0 (S (w229 L m d ++ rest)).length 1 with | i :: _ => (i : Int) | [] => -1 := rfl
  rw [e, show S [40] = ⟨#[40]⟩ from rfl, occ_S (Nat.zero_le _), List.drop_zero]
  simp [w229, posOf, hL]
theorem find229' {L m d : Nat} {rest : List Nat} (hm : m ≠ 41) (hd : d ≠ 41) : Txt.find3 (S (w229 L m d ++ rest)) (S [41]) 7 = 12 := by
  unfold Txt.find3
  have e0 : fromIndex (S (w229 L m d ++ rest)).length 7 = 7 := rfl
  rw [e0, show S [41] = ⟨#[41]⟩ from rfl, occ_S (by simp [w229])]
  simp [w229, posOf, hm, hd]

theorem CallW_parse229 {C : Cx} {vals : Vals} {led : Ledger} {k : Nat} {K : AV → Vals → Ledger → Prop} (ok : COk C (k + 1)) {L m d : Nat} {rest : List Nat} {P : Addr} {x : Str} {y : AV} (hL : L ≠ 40) (hm : m = 124 ∨ m = 34) (hd : 49 ≤ d ∧ d ≤ 53) (hlen : rest.length ≤ 10000000)
    (hP : (P, AO.tup [.str x, y]) ∈ led) (h : ∀ led' r, led.Sublist led' → K (.ref r) vals ((r, .tup [.str x, .int (d - 48 : Nat)]) :: led')) :
    CallW C (.ref 185) [.str (S (w229 L m d ++ rest)), .ref P] vals led K := by
  refine CallW_def (names := nm29) ok (fo29 _) rfl (lo29 _) (cd29 _) (bo29 _) rfl (fun vs h => bi29 _ vs h) fun B outs L' ok' aw => ?_
  conv in bodyOf _ => whnf
  show ExsW _ _ [some (.str (S (w229 L m d ++ rest))), some (.ref P), none, none, none, none, none] _ _
  have f1 := find229 (L := L) (m := m) (d := d) (rest := rest) hL
  have f2 := find229' (L := L) (m := m) (d := d) (rest := rest) (by (first | lia | omega)) (by (first | lia | omega))
  refine hide fun PG kG => ?_
  obtain ⟨q1, q2, q3, q4⟩ := split229 hm hd
  refine kG ?_
  clear kG PG
  generalize hx : S (w229 L m d ++ rest) = z at *
  revert z
  refine keepAll ?_
  intro z
  set_option tactic.hygienic false in intros
  have hxl : z.length = rest.length + 13 := by rw [← hx, S_len]; simp [w229]
  have s1 : Txt.slice z none (some 3) = S [50, 50, 57] := by
    rw [← hx]; exact S_sliceTo (l := w229 L m d ++ rest) (b := 3) (by simp [w229])
  have s2 : Txt.slice z (some ((7 : Nat) : Int)) (some ((12 : Nat) : Int)) = S [m, m, m, d, m] := by
    rw [← hx]; exact S_slice (l := w229 L m d ++ rest) (a := 7) (b := 12) (by decide) (by simp [w229])
  have g7 : z.cps[Int.toNat 7]? = some m := by rw [← hx, S_get]; rfl
  have g11 : z.cps[Int.toNat 11]? = some m := by rw [← hx, S_get]; rfl
  repeat k_ownIn
  refine ⟨3, rfl, ?_⟩
  repeat k_ownIn
  intro r1
  with_reducible refine SubW_strSlice List.mem_cons_self (by (first | lia | omega)) (fun _ _ => by with_unfolding_all rfl) ?_
  rw [s1]
  repeat k_ownIn
  refine IteP (fun hb => absurd hb (by rw [lit229]; simp)) fun _ => ?_
  repeat k_ownIn
  with_reducible refine EvW_MethB PySem.F.plainAttrs_str PySem.F.slot_str_find PySem.F.type_str_find (by with_unfolding_all rfl) ?_
  repeat k_ownIn
  refine ⟨TyW_str, ?_⟩
  repeat k_ownIn
  rw [litOp]
  with_reducible refine CallW_find ?_
  rw [f1]
  repeat k_ownIn
  refine IteP (fun hb => absurd hb (by decide)) fun _ => ?_
  repeat k_ownIn
  with_reducible refine EvW_MethB PySem.F.plainAttrs_str PySem.F.slot_str_find PySem.F.type_str_find (by with_unfolding_all rfl) ?_
  repeat k_ownIn
  refine ⟨TyW_str, ?_⟩
  repeat k_ownIn
  rw [litCl]
  with_reducible refine CallW_find3 ?_
  rw [show (6 : Int) + 1 = 7 from rfl, f2]
  repeat k_ownIn
  refine IteP (fun hb => absurd hb (by decide)) fun _ => ?_
  repeat k_ownIn
  rw [show (6 : Int) + 1 = 7 from rfl]
  with_reducible refine SubW_str (by decide) g7 (by (first | lia | omega)) (fun _ _ => by with_unfolding_all rfl) ?_
  repeat k_ownIn
  rw [show (12 : Int) - 1 = 11 from rfl]
  with_reducible refine SubW_str (by decide) g11 (by (first | lia | omega)) (fun _ _ => by with_unfolding_all rfl) ?_
  repeat k_ownIn
  refine IteP (fun hb => absurd hb (by simp)) fun _ => ?_
  repeat k_ownIn
  with_reducible refine EvW_MethB PySem.F.plainAttrs_str PySem.F.slot_str_split PySem.F.type_str_split (by with_unfolding_all rfl) ?_
  repeat k_ownIn
  refine ⟨7, rfl, ?_⟩
  repeat k_ownIn
  refine ⟨12, rfl, ?_⟩
  repeat k_ownIn
  intro r2
  with_reducible refine SubW_strSlice List.mem_cons_self (by (first | lia | omega)) (fun _ _ => by with_unfolding_all rfl) ?_
  have s2' : Txt.slice z (some 7) (some 12) = S [m, m, m, d, m] := s2
  rw [s2']
  refine ⟨TyW_str, ?_⟩
  repeat k_ownIn
  rw [show (6 : Int) + 1 = 7 from rfl]
  with_reducible refine SubW_str (by decide) g7 (by (first | lia | omega)) (fun _ _ => by with_unfolding_all rfl) ?_
  repeat k_ownIn
  rw [show (⟨#[m]⟩ : Str) = S [m] from rfl]
  with_reducible refine CallW_split q1 q2 (by rw [S_len]; simp) q3 (by rw [S_len]; simp) (by simp) ?_
  intro D
  repeat k_ownIn
  with_reducible refine CallW_lenList (n := 5) List.mem_cons_self (by simp) (by decide) ?_
  repeat k_ownIn
  refine IteP (fun hb => absurd hb (by decide)) fun _ => ?_
  repeat k_ownIn
  with_reducible refine SubW_tup (a := .str x) (List.mem_cons_of_mem _ (List.mem_cons_of_mem _ (List.mem_cons_of_mem _ hP))) (by decide) (by simp) (by simp) (fun _ _ => by with_unfolding_all rfl) ?_
  repeat k_ownIn
  with_reducible refine SubW_list (a := .str (S [d])) List.mem_cons_self (by decide) (by simp) (by simp) (fun _ _ => by with_unfolding_all rfl) ?_
  repeat k_ownIn
  with_reducible refine CallW_intText q4 (by rw [S_len]; simp) ?_
  repeat k_ownIn
  with_reducible refine EvW_Tuple (by decide) ?_
  repeat k_ownIn
  refine ⟨by simp, fun r => ?_⟩
  exact h _ r ((List.sublist_cons_self _ _).trans ((List.sublist_cons_self _ _).trans (List.sublist_cons_self _ _)))

-- part F7
-- _law_content
noncomputable abbrev pnCo : List Str := ["place", "waits", "hours"]
noncomputable abbrev lsCo : List Str := ["mark", "words", "child"]
noncomputable abbrev nmCo : List Str := ["place", "waits", "hours", "mark", "words", "child"]
theorem foCo (w : World) : FnOk (fdAt w 234) pnCo lsCo [] := fnOk_of (by kernel_rfl)
theorem loCo (w : World) : (KH w).lookup 234 = some ⟨.type "function", none, .func (fdAt w 234), #[]⟩ := by kernel_rfl
theorem cdCo (w : World) : codeIn (KH w) (fdAt w 234).code (fdAt w 234).qualname = true := by kernel_rfl
theorem boCo (w : World) : (fdAt w 234).body = .stmts (bodyOf (fdAt w 234).body) := by kernel_rfl
theorem biCo (w : World) (vs : List Value) (h : vs.length = 3) : bindArgs (fdAt w 234) ⟨vs, []⟩ = pure (pnCo.zip vs) := by
  obtain ⟨a, b, c, rfl⟩ := len3 h
  kernel_rfl
theorem litAf : Str.ofString "abcdef" = S [97, 98, 99, 100, 101, 102] := by decide
theorem litBar : Str.ofString "|\"" = S [124, 34] := by decide
theorem lit229s : Str.ofString "229 " = S [50, 50, 57, 32] := by decide
theorem litSpOp : Str.ofString " (" = S [32, 40] := by decide
theorem lit257q : Str.ofString "257 \"" = S [50, 53, 55, 32, 34] := by decide
theorem litQQ : Str.ofString "\"\"" = S [34, 34] := by decide
theorem index_at {i : Nat} (h : i < 6) : ∃ r, Builtin.Str.occurrences (S [97, 98, 99, 100, 101, 102]) (lt i) 0 (S [97, 98, 99, 100, 101, 102]).length 1 = i :: r := by
  rw [show lt i = ⟨#[97 + i]⟩ from rfl, occ_S (Nat.zero_le _)]
  have : i = 0 ∨ i = 1 ∨ i = 2 ∨ i = 3 ∨ i = 4 ∨ i = 5 := by (first | lia | omega)
  rcases this with rfl | rfl | rfl | rfl | rfl | rfl <;> exact ⟨_, rfl⟩
theorem mark_at {i : Nat} : (S [124, 34]).cps[((i : Int).fmod 2).toNat]? = some (mkOf i) := by
  rw [Int.fmod_eq_emod_of_nonneg _ (by decide), S_get]
  have e : ((i : Int) % 2).toNat = i % 2 := by (first | lia | omega)
  rw [e]
  unfold mkOf
  rcases Nat.mod_two_eq_zero_or_one i with h | h <;> rw [h] <;> rfl
theorem digit_at {n : Nat} (h : 1 ≤ n ∧ n ≤ 5) : Str.ofString (toString (n : Int)) = S [48 + n] := by
  have : n = 1 ∨ n = 2 ∨ n = 3 ∨ n = 4 ∨ n = 5 := by (first | lia | omega)
  rcases this with rfl | rfl | rfl | rfl | rfl <;> decide
theorem mul3 (m : Nat) : Txt.mul (S [m]) 3 = S [m, m, m] := by
  unfold Txt.mul
  rw [if_neg (by decide), if_neg (by simp [S_len])]
  rfl
theorem mul3ok (m : Nat) : MulOk (S [m]) 3 := mulOk_of 1 3 (by rw [S_len]; simp) (by decide) (by decide) (by decide) (by decide)

noncomputable abbrev Iv7c0 (ch : Nat → List Nat) (hr : Nat → Nat) (W : Addr) (H : Addr) (n : Nat) (i : Nat) (led : Ledger) : Nat → Vals → Ledger → Prop := (fun j v ld => ∃ (x : Option AV), v = [some (.str (lt i)), some (.ref W), some (.ref H), some (.str (S [mkOf i])), some (.str (S (w229 (97 + i) (mkOf i) (48 + hr i) ++ ((ch i).take j).flatMap fun c => [50, 53, 55, 32, 34] ++ dbl (cont ch hr n c) ++ [34]))), x] ∧ ld = led)
theorem CallW_content {ch : Nat → List Nat} {hr : Nat → Nat} (T : Tree ch hr) {W H : Addr} {wa : Nat → Addr} {ep : Option Nat} : ∀ (n i : Nat), n ≤ 6 → i < 6 → 6 - i ≤ n → ∀ {C : Cx} {vals : Vals} {led : Ledger} {k : Nat} {K : AV → Vals → Ledger → Prop} (ok : COk C (k + n)) (hw : WaitsAt led W wa ch ep) (hh : HoursAt led H hr)
    (h : K (.str (S (cont ch hr n i))) vals led), CallW C (.ref 234) [.str (lt i), .ref W, .ref H] vals led K
  | 0, i, _, hi, hn, C, vals, led, k, K, ok, hw, hh, h => by (first | lia | omega)
  | n + 1, i, hn6, hi, hn, C, vals, led, k, K, ok, hw, hh, h => by
    refine CallW_def (names := nmCo) ok (foCo _) rfl (loCo _) (cdCo _) (boCo _) rfl (fun vs h => biCo _ vs h) fun B0 outs L ok' aw => ?_
    conv in bodyOf _ => whnf
    show ExsW _ _ [some (.str (lt i)), some (.ref W), some (.ref H), none, none, none] _ _
    repeat k_ownIn
    with_reducible refine EvW_MethB PySem.F.plainAttrs_str PySem.F.slot_str_index PySem.F.type_str_index (by with_unfolding_all rfl) ?_
    repeat k_ownIn
    refine ⟨TyW_str, ?_⟩
    repeat k_ownIn
    obtain ⟨r, hr1⟩ := index_at hi
    rw [litAf]
    with_reducible refine CallW_index hr1 ?_
    repeat k_ownIn
    with_reducible refine BinW_mod (by decide) ?_
    rw [litBar]
    with_reducible refine SubW_str (by rw [Int.fmod_eq_emod_of_nonneg _ (by decide)]; (first | lia | omega)) mark_at (by rw [S_len]; simp) (fun _ _ => by with_unfolding_all rfl) ?_
    repeat k_ownIn
    rw [lit229s]
    with_reducible refine BinW_adds (by rw [S_len]; simp [lt, S_len]) ?_
    repeat k_ownIn
    rw [show S [50, 50, 57, 32] ++ lt i = S [50, 50, 57, 32, 97 + i] from S_app _ _, litSpOp]
    with_reducible refine BinW_adds (by rw [S_len, S_len]; simp) ?_
    rw [S_app]
    repeat k_ownIn
    rw [show (⟨#[mkOf i]⟩ : Str) = S [mkOf i] from rfl]
    with_reducible refine BinW_rep (mul3ok _) ?_
    rw [mul3]
    with_reducible refine BinW_adds (by rw [S_len, S_len]; simp) ?_
    rw [S_app]
    repeat k_ownIn
    with_reducible refine SubW_dict hh.dict (dget_at hi) (fun _ _ => by with_unfolding_all rfl) ?_
    repeat k_ownIn
    have hri := T.hrs i
    with_reducible refine CallW_strInt (by
      have : hr i = 1 ∨ hr i = 2 ∨ hr i = 3 ∨ hr i = 4 ∨ hr i = 5 := by (first | lia | omega)
      rcases this with e | e | e | e | e <;> rw [e] <;> decide) ?_
    rw [digit_at hri]
    with_reducible refine BinW_adds (by rw [S_len, S_len]; simp) ?_
    rw [S_app]
    repeat k_ownIn
    with_reducible refine BinW_adds (by rw [S_len, S_len]; simp) ?_
    rw [S_app]
    repeat k_ownIn
    rw [litCl]
    with_reducible refine BinW_adds (by rw [S_len, S_len]; simp) ?_
    rw [S_app]
    repeat k_ownIn
    have ehead : [50, 50, 57, 32, 97 + i] ++ [32, 40] ++ [mkOf i, mkOf i, mkOf i] ++ [48 + hr i] ++ [mkOf i] ++ [41] = w229 (97 + i) (mkOf i) (48 + hr i) := rfl
    rw [ehead]
    with_reducible refine ExFor ok' (fun _ => by with_unfolding_all rfl) ?_
    repeat k_ownIn
    with_reducible refine SubW_dict hw.dict (dget_at hi) (fun _ _ => by with_unfolding_all rfl) ?_
    with_reducible refine It_list Plain.name ok' (hw.lists i hi) ?_
    refine ForT_vals (Iv7c0 ch hr W H n i led)
      ⟨none, by simp, rfl⟩ (fun j v ld ⟨x, _, e⟩ => e ▸ hw.lists i hi) ?_ ?_
    · rintro j a v ld B hx ⟨x, rfl, rfl⟩ okB
      have awB : ((CG 234 nmCo [] C B0 outs L).base B).AllWr := aw
      rw [List.getElem?_map, Option.map_eq_some_iff] at hx
      obtain ⟨c, hc, rfl⟩ := hx
      have hcm : c ∈ ch i := List.mem_of_getElem? hc
      obtain ⟨hc1, hc2⟩ := T.up i hi c hcm
      k_ownIn
      k_ownIn
      k_ownIn
      with_reducible refine ExW_AugName ?_
      k_ownIn
      with_reducible refine EvW_Bin ?_
      with_reducible refine EvW_AddReplace (by decide) (by with_unfolding_all rfl) ?_
      repeat k_ownIn
      with_reducible refine CallW_content T n c (by (first | lia | omega)) hc2 (by (first | lia | omega)) okB hw hh ?_
      have hl := cont_len T n c hc2
      have hbn : bnd n ≤ 477773 := by
        have : n = 0 ∨ n = 1 ∨ n = 2 ∨ n = 3 ∨ n = 4 ∨ n = 5 := by (first | lia | omega)
        rcases this with e | e | e | e | e | e <;> rw [e] <;> decide
      have hd := dbl_len (cont ch hr n c)
      refine ⟨S (cont ch hr n c), rfl, ?_, ?_⟩
      · rw [litQQ, S_len, S_len]; simp; (first | lia | omega)
      rw [litQ, litQQ, repl_S, lit257q]
      with_reducible refine BinW_adds (by rw [S_len, S_len]; simp; (first | lia | omega)) ?_
      rw [S_app]
      repeat k_ownIn
      with_reducible refine BinW_adds (by rw [S_len, S_len]; simp; (first | lia | omega)) ?_
      rw [S_app]
      have hfl := flat_len (f := fun c => [50, 53, 55, 32, 34] ++ dbl (cont ch hr n c) ++ [34]) (b := 6 + 2 * bnd n) ((ch i).take j) (fun c hc => by
        have h1 := cont_len T n c (T.up i hi c (List.mem_of_mem_take hc)).2
        have h2 := dbl_len (cont ch hr n c)
        simp
        (first | lia | omega))
      have hfew := T.few i hi
      have hfl2 : ((ch i).take j).length * (6 + 2 * bnd n) ≤ 5 * (6 + 2 * bnd n) := Nat.mul_le_mul_right _ (by simp; (first | lia | omega))
      with_reducible refine InpW_adds (by rw [S_len, S_len]; simp [w229] at *; (first | lia | omega)) ?_
      rw [S_app]
      repeat k_ownIn
      refine ForTurn_next ⟨some (.str (lt c)), ?_, rfl⟩
      rw [List.take_add_one, hc]
      simp [List.append_assoc]
    · rintro v ld ⟨x, rfl, rfl⟩
      refine SeqK_next ?_
      repeat k_ownIn
      rw [List.length_map, List.take_length]
      exact h

-- part P5
theorem p257_dbl : ∀ (l r : List Nat), r.head? ≠ some 34 → p257 (dbl l ++ 34 :: r) = l
  | [], r, h => by
    show p257 (34 :: r) = []
    cases r with
    | nil => rw [p257]; intro r' e; cases e
    | cons d r' => exact p257_e (fun e => h (by rw [e]; rfl))
  | c :: l, r, h => by
    rw [dbl_cons]
    by_cases hc : c = 34
    · rw [if_pos hc]
      show p257 (34 :: 34 :: (dbl l ++ 34 :: r)) = _
      rw [p257_q, p257_dbl l r h, hc]
    · rw [if_neg hc]
      show p257 (c :: (dbl l ++ 34 :: r)) = _
      rw [p257_c hc, p257_dbl l r h]
/-- the words quoted behind a place's head -/
noncomputable def tailOf (ch : Nat → List Nat) (hr : Nat → Nat) (n : Nat) (cs : List Nat) : List Nat := cs.flatMap fun c => [50, 53, 55, 32, 34] ++ dbl (cont ch hr n c) ++ [34]
theorem tailOf_head {ch : Nat → List Nat} {hr : Nat → Nat} {n : Nat} : ∀ cs, (tailOf ch hr n cs).head? ≠ some 34
  | [] => by simp [tailOf]
  | c :: r => by simp [tailOf]
theorem count_dbl (l : List Nat) : (dbl l).length = l.length + (posOf 34 0 l).length := by
  have : ∀ (l : List Nat) i, (dbl l).length = l.length + (posOf 34 i l).length := by
    intro l
    induction l with
    | nil => intro i; simp [dbl, posOf]
    | cons c r ih =>
      intro i
      rw [dbl_cons]
      unfold posOf
      split
      · have := ih (i + 1); simp; (first | lia | omega)
      · have := ih (i + 1); simp; (first | lia | omega)
  exact this l 0

-- part S0
noncomputable def put {α : Type} (f : Nat → α) (j : Nat) (v : α) : Nat → α := fun i => if i = j then v else f i
theorem put_at {α : Type} (f : Nat → α) (j : Nat) (v : α) : put f j v j = v := by unfold put; rw [if_pos rfl]
theorem put_ne {α : Type} (f : Nat → α) {i j : Nat} (v : α) (h : i ≠ j) : put f j v i = f i := by unfold put; rw [if_neg h]

/-- addresses of a sorter -/
structure SA where
  x : Addr
  d : Addr
  n : Addr
  r : Addr
  ia : Nat → Addr
  id : Nat → Addr
  is : Nat → Addr
/-- the state of a sorter -/
structure SS where
  nodes : List Nat
  np : Nat → Int
  su : Nat → List Nat
  rd : Option (List Nat)
  ps : Int
  fi : Int
  ep : Option Nat

noncomputable def txs (l : List Nat) : List AV := l.map fun c => .str (lt c)
noncomputable def NL1 (A : SA) (np : Nat → Int) (su : Nat → List Nat) (j : Nat) : Ledger :=
  [(A.ia j, .slots 40 (A.id j) [some (.str (lt j)), some (.int (np j)), some (.ref (A.is j))]), (A.id j, .dict [] none), (A.is j, .list (txs (su j)))]
noncomputable def NL (A : SA) (nodes : List Nat) (np : Nat → Int) (su : Nat → List Nat) : Ledger := nodes.flatMap (NL1 A np su)
noncomputable def rdV (A : SA) : Option (List Nat) → AV
  | none => .none
  | some _ => .ref A.r
noncomputable def rdL (A : SA) : Option (List Nat) → Ledger
  | none => []
  | some l => [(A.r, .list (txs l))]
noncomputable def n2iE (A : SA) (nodes : List Nat) : List (Str × AV) := nodes.map fun j => (lt j, .ref (A.ia j))
noncomputable def selfE (A : SA) (S : SS) : List (Str × AV) := [("_node2info", .ref A.n), ("_ready_nodes", rdV A S.rd), ("_npassedout", .int S.ps), ("_nfinished", .int S.fi)]
noncomputable def SL (A : SA) (S : SS) : Ledger :=
  (A.x, .inst 137 A.d) :: (A.d, .dict (selfE A S) none) :: (A.n, .dict (n2iE A S.nodes) S.ep) :: (rdL A S.rd ++ NL A S.nodes S.np S.su)

theorem SL_inst (A : SA) (S : SS) (R : Ledger) : (A.x, AO.inst 137 A.d) ∈ SL A S ++ R := .head _
theorem SL_self (A : SA) (S : SS) (R : Ledger) : (A.d, AO.dict (selfE A S) none) ∈ SL A S ++ R := .tail _ (.head _)
theorem SL_n2i (A : SA) (S : SS) (R : Ledger) : (A.n, AO.dict (n2iE A S.nodes) S.ep) ∈ SL A S ++ R := .tail _ (.tail _ (.head _))
theorem SL_rd {A : SA} {S : SS} {l : List Nat} (h : S.rd = some l) (R : Ledger) : (A.r, AO.list (txs l)) ∈ SL A S ++ R := by
  unfold SL; rw [h]; simp [rdL]
theorem NL_mem {A : SA} {nodes : List Nat} {np : Nat → Int} {su : Nat → List Nat} {j : Nat} (h : j ∈ nodes) {p : Addr × AO} (hp : p ∈ NL1 A np su j) : p ∈ NL A nodes np su := List.mem_flatMap.mpr ⟨j, h, hp⟩
theorem SL_node {A : SA} {S : SS} {j : Nat} (h : j ∈ S.nodes) {p : Addr × AO} (hp : p ∈ NL1 A S.np S.su j) (R : Ledger) : p ∈ SL A S ++ R :=
  List.mem_append_left _ (.tail _ (.tail _ (.tail _ (List.mem_append_right _ (NL_mem h hp)))))
theorem SL_info {A : SA} {S : SS} {j : Nat} (h : j ∈ S.nodes) (R : Ledger) : (A.ia j, AO.slots 40 (A.id j) [some (.str (lt j)), some (.int (S.np j)), some (.ref (A.is j))]) ∈ SL A S ++ R := SL_node h (.head _) R
theorem SL_idict {A : SA} {S : SS} {j : Nat} (h : j ∈ S.nodes) (R : Ledger) : (A.id j, AO.dict [] none) ∈ SL A S ++ R := SL_node h (.tail _ (.head _)) R
theorem SL_succ {A : SA} {S : SS} {j : Nat} (h : j ∈ S.nodes) (R : Ledger) : (A.is j, AO.list (txs (S.su j))) ∈ SL A S ++ R := SL_node h (.tail _ (.tail _ (.head _))) R

theorem Upd.appR {a : Addr} {n : AO} {l l' : Ledger} (U : Upd a n l l') (R : Ledger) : Upd a n (l ++ R) (l' ++ R) := by
  induction U with
  | here => exact .here
  | there _ ih => exact .there ih
theorem Upd.appL {a : Addr} {n : AO} {l l' : Ledger} (U : Upd a n l l') (P : Ledger) : Upd a n (P ++ l) (P ++ l') := by
  induction P with
  | nil => exact U
  | cons p r ih => exact .there ih
theorem NL_congr {A : SA} {nodes : List Nat} {np np' : Nat → Int} {su su' : Nat → List Nat} (h1 : ∀ j ∈ nodes, np j = np' j) (h2 : ∀ j ∈ nodes, su j = su' j) : NL A nodes np su = NL A nodes np' su' := by
  unfold NL
  induction nodes with
  | nil => rfl
  | cons j r ih =>
    rw [List.flatMap_cons, List.flatMap_cons, ih (fun i hi => h1 i (.tail _ hi)) fun i hi => h2 i (.tail _ hi)]
    unfold NL1
    rw [h1 j (.head _), h2 j (.head _)]
theorem NL_updNp {A : SA} {np : Nat → Int} {su : Nat → List Nat} {j : Nat} {v : Int} : ∀ {nodes : List Nat}, j ∈ nodes → nodes.Nodup →
    Upd (A.ia j) (.slots 40 (A.id j) [some (.str (lt j)), some (.int v), some (.ref (A.is j))]) (NL A nodes np su) (NL A nodes (put np j v) su)
  | i :: r, h, nd => by
    obtain ⟨n1, n2⟩ := List.nodup_cons.mp nd
    unfold NL
    rw [List.flatMap_cons, List.flatMap_cons]
    by_cases e : i = j
    · subst e
      rw [show r.flatMap (NL1 A (put np i v) su) = r.flatMap (NL1 A np su) from (NL_congr (fun k hk => put_ne _ _ (fun q => n1 (q ▸ hk))) fun _ _ => rfl)]
      refine Upd.appR ?_ _
      unfold NL1
      rw [put_at]
      exact .here
    · rcases List.mem_cons.mp h with q | q
      · exact absurd q.symm e
      · rw [show NL1 A (put np j v) su i = NL1 A np su i by unfold NL1; rw [put_ne _ _ e]]
        exact Upd.appL (NL_updNp q n2) _
theorem NL_updSu {A : SA} {np : Nat → Int} {su : Nat → List Nat} {j : Nat} {v : List Nat} : ∀ {nodes : List Nat}, j ∈ nodes → nodes.Nodup → Upd (A.is j) (.list (txs v)) (NL A nodes np su) (NL A nodes np (put su j v))
  | i :: r, h, nd => by
    obtain ⟨n1, n2⟩ := List.nodup_cons.mp nd
    unfold NL
    rw [List.flatMap_cons, List.flatMap_cons]
    by_cases e : i = j
    · subst e
      rw [show r.flatMap (NL1 A np (put su i v)) = r.flatMap (NL1 A np su) from (NL_congr (fun _ _ => rfl) (fun k hk => put_ne _ _ (fun q => n1 (q ▸ hk))))]
      refine Upd.appR ?_ _
      unfold NL1
      rw [put_at]
      exact .there (.there .here)
    · rcases List.mem_cons.mp h with q | q
      · exact absurd q.symm e
      · rw [show NL1 A np (put su j v) i = NL1 A np su i by unfold NL1; rw [put_ne _ _ e]]
        exact Upd.appL (NL_updSu q n2) _
theorem SL_updNp {A : SA} {S : SS} {j : Nat} {v : Int} (h : j ∈ S.nodes) (nd : S.nodes.Nodup) (R : Ledger) : Upd (A.ia j) (.slots 40 (A.id j) [some (.str (lt j)), some (.int v), some (.ref (A.is j))]) (SL A S ++ R) (SL A { S with np := put S.np j v } ++ R) :=
  Upd.appR (.there (.there (.there (Upd.appL (NL_updNp h nd) _)))) R
theorem SL_updSu {A : SA} {S : SS} {j : Nat} {v : List Nat} (h : j ∈ S.nodes) (nd : S.nodes.Nodup) (R : Ledger) : Upd (A.is j) (.list (txs v)) (SL A S ++ R) (SL A { S with su := put S.su j v } ++ R) :=
  Upd.appR (.there (.there (.there (Upd.appL (NL_updSu h nd) _)))) R
theorem SL_updRd {A : SA} {S : SS} {l l' : List Nat} (h : S.rd = some l) (R : Ledger) : Upd A.r (.list (txs l')) (SL A S ++ R) (SL A { S with rd := some l' } ++ R) := by
  refine Upd.appR ?_ R
  unfold SL selfE
  rw [h]
  exact .there (.there (.there .here))
theorem SL_updPs {A : SA} {S : SS} {v : Int} (R : Ledger) : Upd A.d (.dict (selfE A { S with ps := v }) none) (SL A S ++ R) (SL A { S with ps := v } ++ R) := .there .here
theorem SL_updFi {A : SA} {S : SS} {v : Int} (R : Ledger) : Upd A.d (.dict (selfE A { S with fi := v }) none) (SL A S ++ R) (SL A { S with fi := v } ++ R) := .there .here
theorem SL_updEp {A : SA} {S : SS} {v : Option Nat} (R : Ledger) : Upd A.n (.dict (n2iE A S.nodes) v) (SL A S ++ R) (SL A { S with ep := v } ++ R) := .there (.there .here)
theorem self_n2i (A : SA) (S : SS) : dget (selfE A S) "_node2info" = some (.ref A.n) := rfl
theorem nmA : (("_node2info" : Str) = "_ready_nodes") = False := by simp only [eq_iff_iff, iff_false]; decide
theorem nmB : (("_node2info" : Str) = "_npassedout") = False := by simp only [eq_iff_iff, iff_false]; decide
theorem nmC : (("_ready_nodes" : Str) = "_npassedout") = False := by simp only [eq_iff_iff, iff_false]; decide
theorem nmD : (("_node2info" : Str) = "_nfinished") = False := by simp only [eq_iff_iff, iff_false]; decide
theorem nmE : (("_ready_nodes" : Str) = "_nfinished") = False := by simp only [eq_iff_iff, iff_false]; decide
theorem nmF : (("_npassedout" : Str) = "_nfinished") = False := by simp only [eq_iff_iff, iff_false]; decide
theorem self_rd (A : SA) (S : SS) : dget (selfE A S) "_ready_nodes" = some (rdV A S.rd) := by simp [dget, selfE, nmA]
theorem self_ps (A : SA) (S : SS) : dget (selfE A S) "_npassedout" = some (.int S.ps) := by simp [dget, selfE, nmB, nmC]
theorem self_fi (A : SA) (S : SS) : dget (selfE A S) "_nfinished" = some (.int S.fi) := by simp [dget, selfE, nmD, nmE, nmF]
theorem self_putPs (A : SA) (S : SS) (v : Int) : dput (selfE A S) "_npassedout" (.int v) = selfE A { S with ps := v } := by
  have n1 : (("_node2info" : Str) = "_npassedout") = False := by simp only [eq_iff_iff, iff_false]; decide
  have n2 : (("_ready_nodes" : Str) = "_npassedout") = False := by simp only [eq_iff_iff, iff_false]; decide
  have n3 : (("_nfinished" : Str) = "_npassedout") = False := by simp only [eq_iff_iff, iff_false]; decide
  simp [dput, selfE, n1, n2, n3]
theorem self_putFi (A : SA) (S : SS) (v : Int) : dput (selfE A S) "_nfinished" (.int v) = selfE A { S with fi := v } := by
  have n1 : (("_node2info" : Str) = "_nfinished") = False := by simp only [eq_iff_iff, iff_false]; decide
  have n2 : (("_ready_nodes" : Str) = "_nfinished") = False := by simp only [eq_iff_iff, iff_false]; decide
  have n3 : (("_npassedout" : Str) = "_nfinished") = False := by simp only [eq_iff_iff, iff_false]; decide
  simp [dput, selfE, n1, n2, n3]
theorem self_putRd (A : SA) (S : SS) (r : Addr) (l : List Nat) : dput (selfE A S) "_ready_nodes" (.ref r) = selfE { A with r := r } { S with rd := some l } := by
  have n1 : (("_node2info" : Str) = "_ready_nodes") = False := by simp only [eq_iff_iff, iff_false]; decide
  have n2 : (("_npassedout" : Str) = "_ready_nodes") = False := by simp only [eq_iff_iff, iff_false]; decide
  have n3 : (("_nfinished" : Str) = "_ready_nodes") = False := by simp only [eq_iff_iff, iff_false]; decide
  simp [dput, selfE, n1, n2, n3, rdV]
theorem n2i_get {A : SA} {nodes : List Nat} {j : Nat} : dget (n2iE A nodes) (lt j) = if j ∈ nodes then some (.ref (A.ia j)) else none := by
  unfold dget n2iE
  induction nodes with
  | nil => rfl
  | cons i r ih =>
    rw [List.map_cons, List.find?_cons]
    by_cases e : lt i = lt j
    · have := lt_inj e
      subst this
      simp
    · have hne : i ≠ j := fun q => e (by rw [q])
      simp only [e, decide_false]
      rw [ih]
      simp [Ne.symm hne]
theorem n2i_put {A : SA} {nodes : List Nat} {j : Nat} {a : Addr} (h : j ∉ nodes) : dput (n2iE A nodes) (lt j) (.ref a) = n2iE { A with ia := put A.ia j a } (nodes ++ [j]) := by
  unfold dput
  have e : (n2iE A nodes).any (fun e => decide (e.1 = lt j)) = false := by
    rw [List.any_eq_false]
    intro p hp
    obtain ⟨i, hi, rfl⟩ := List.mem_map.mp hp
    simp only [decide_eq_true_eq]
    intro q
    have := lt_inj q
    subst this
    exact h hi
  rw [e]
  simp only [Bool.false_eq_true, if_false]
  unfold n2iE
  rw [List.map_append]
  refine congr (congrArg _ (List.map_congr_left fun i hi => ?_)) ?_
  · show _ = (lt i, AV.ref (put A.ia j a i))
    have hne : i ≠ j := fun q => h (q ▸ hi)
    rw [put_ne _ _ hne]
  · show _ = [(lt j, AV.ref (put A.ia j a j))]
    rw [put_at]

-- the state functions
noncomputable def gi (S : SS) (j : Nat) : SS := if j ∈ S.nodes then S else { S with nodes := S.nodes ++ [j], np := put S.np j 0, su := put S.su j [] }
noncomputable def addP (j : Nat) (S : SS) (p : Nat) : SS := { gi S p with su := put (gi S p).su p ((gi S p).su p ++ [j]) }
noncomputable def addN (S : SS) (j : Nat) (ps : List Nat) : SS := ps.foldl (addP j) { gi S j with np := put (gi S j).np j ((gi S j).np j + ps.length) }
noncomputable def S00 : SS := ⟨[], fun _ => 0, fun _ => [], none, 0, 0, none⟩
structure SOk (S : SS) : Prop where
  nd : S.nodes.Nodup
  lt6 : ∀ j ∈ S.nodes, j < 6
theorem SOk.len {S : SS} (h : SOk S) : S.nodes.length ≤ 6 := by
  have : S.nodes.length ≤ (List.range 6).length := List.Nodup.length_le_of_subset h.nd fun j hj => List.mem_range.mpr (h.lt6 j hj)
  simpa using this
theorem SOk.gi {S : SS} (h : SOk S) {j : Nat} (hj : j < 6) : SOk (gi S j) := by
  unfold Mine.gi
  split
  · exact h
  · rename_i hn
    refine ⟨?_, fun i hi => ?_⟩
    · show (S.nodes ++ [j]).Nodup
      rw [List.nodup_append]
      exact ⟨h.nd, by simp, fun a ha b hb => by simp at hb; subst hb; exact fun q => hn (q ▸ ha)⟩
    · rcases List.mem_append.mp hi with q | q
      · exact h.lt6 i q
      · simp at q; (first | lia | omega)
theorem gi_mem (S : SS) (j : Nat) : j ∈ (gi S j).nodes := by
  unfold gi
  split
  · assumption
  · simp
theorem gi_sub {S : SS} {j i : Nat} (h : i ∈ S.nodes) : i ∈ (gi S j).nodes := by
  unfold gi
  split
  · exact h
  · simp [h]
theorem gi_rd (S : SS) (j : Nat) : (gi S j).rd = S.rd ∧ (gi S j).ps = S.ps ∧ (gi S j).fi = S.fi := by
  unfold gi
  split <;> exact ⟨rfl, rfl, rfl⟩
theorem gi_su {S : SS} {j m : Nat} (h : ∀ i, (S.su i).length ≤ m) : ∀ i, ((gi S j).su i).length ≤ m := by
  intro i
  unfold gi
  split
  · exact h i
  · show (put S.su j [] i).length ≤ m
    unfold put
    split
    · simp
    · exact h i
/-- a new node at the end -/
theorem SL_new {A : SA} {S : SS} {j : Nat} {i d s : Addr} {R : Ledger} (hj : j ∉ S.nodes) :
    (SL { A with ia := put A.ia j i, id := put A.id j d, is := put A.is j s } { S with nodes := S.nodes ++ [j], np := put S.np j 0, su := put S.su j [], ep := none } ++ R).Perm
    ((s, .list []) :: (i, .slots 40 d [some (.str (lt j)), some (.int 0), some (.ref s)]) :: (d, .dict [] none) :: ((A.x, .inst 137 A.d) :: (A.d, .dict (selfE A S) none) :: (A.n, .dict (n2iE { A with ia := put A.ia j i } (S.nodes ++ [j])) none) :: (rdL A S.rd ++ NL A S.nodes S.np S.su)) ++ R) := by
  have e1 : NL { A with ia := put A.ia j i, id := put A.id j d, is := put A.is j s } (S.nodes ++ [j]) (put S.np j 0) (put S.su j []) = NL A S.nodes S.np S.su ++ [(i, .slots 40 d [some (.str (lt j)), some (.int 0), some (.ref s)]), (d, .dict [] none), (s, .list [])] := by
    unfold NL
    rw [List.flatMap_append]
    congr 1
    · have : ∀ l : List Nat, j ∉ l → l.flatMap (NL1 { A with ia := put A.ia j i, id := put A.id j d, is := put A.is j s } (put S.np j 0) (put S.su j [])) = l.flatMap (NL1 A S.np S.su) := by
        intro l
        induction l with
        | nil => intro _; rfl
        | cons k r ih =>
          intro hk
          rw [List.flatMap_cons, List.flatMap_cons, ih (fun q => hk (.tail _ q))]
          have hne : k ≠ j := fun q => hk (q ▸ .head _)
          unfold NL1
          simp only [put_ne _ _ hne]
      exact this _ hj
    · simp [NL1, put_at, txs]
  unfold SL
  simp only [e1]
  show ((A.x, _) :: (A.d, _) :: (A.n, _) :: ((rdL A S.rd ++ (NL A S.nodes S.np S.su ++ _)) ++ R)).Perm _
  refine List.Perm.trans (l₂ := [(i, .slots 40 d [some (.str (lt j)), some (.int 0), some (.ref s)]), (d, .dict [] none), (s, .list [])] ++ ((A.x, .inst 137 A.d) :: (A.d, .dict (selfE A S) none) :: (A.n, .dict (n2iE { A with ia := put A.ia j i } (S.nodes ++ [j])) none) :: ((rdL A S.rd ++ NL A S.nodes S.np S.su) ++ R))) ?_ ?_
  · rw [show ∀ X Y Z W : Ledger, (X ++ (Y ++ Z)) ++ W = (X ++ Y) ++ (Z ++ W) from fun X Y Z W => by simp [List.append_assoc]]
    rw [show ∀ (a b c : Addr × AO) (X Z W : Ledger), a :: b :: c :: (X ++ (Z ++ W)) = (a :: b :: c :: X) ++ (Z ++ W) from fun a b c X Z W => rfl]
    rw [show ∀ (a b c : Addr × AO) (X W : Ledger), a :: b :: c :: (X ++ W) = (a :: b :: c :: X) ++ W from fun a b c X W => rfl]
    exact List.perm_append_comm_assoc _ _ _
  · refine List.Perm.trans (List.Perm.cons _ (List.Perm.swap _ _ _)) ?_
    exact List.Perm.swap _ _ _

-- part S1
/-- a frame of the search: node, place, bound method, iterator -/
structure Fm where
  node : Nat
  pos : Nat
  mw : Addr
  it : Addr
noncomputable def IL (A : SA) (fr : List Fm) : Ledger := fr.flatMap fun f => [(f.mw, .raw (MW f.it)), (f.it, .raw (LIt (A.is f.node) f.pos))]
theorem IL_cons (A : SA) (f : Fm) (fr : List Fm) : IL A (f :: fr) = (f.mw, .raw (MW f.it)) :: (f.it, .raw (LIt (A.is f.node) f.pos)) :: IL A fr := rfl
/-- the nodes, from the bottom on -/
noncomputable def nds (fr : List Fm) : List Nat := fr.reverse.map (·.node)
noncomputable def mws (fr : List Fm) : List AV := fr.reverse.map fun f => .ref f.mw
theorem nds_cons (f : Fm) (fr : List Fm) : nds (f :: fr) = nds fr ++ [f.node] := by simp [nds]
theorem mws_cons (f : Fm) (fr : List Fm) : mws (f :: fr) = mws fr ++ [.ref f.mw] := by simp [mws]
theorem nds_len (fr : List Fm) : (nds fr).length = fr.length := by simp [nds]
theorem nds_mem {fr : List Fm} {j : Nat} : j ∈ nds fr ↔ ∃ f ∈ fr, f.node = j := by simp [nds]
noncomputable def nE (l : List Nat) : List (Str × AV) := l.zipIdx.map fun p => (lt p.1, .int p.2)
theorem nE_len (l : List Nat) : (nE l).length = l.length := by simp [nE]
theorem nE_app (l : List Nat) (j : Nat) : nE (l ++ [j]) = nE l ++ [(lt j, .int l.length)] := by
  unfold nE
  rw [List.zipIdx_append]
  simp
theorem nE_keys {l : List Nat} {e : Str × AV} (h : e ∈ nE l) : ∃ i ∈ l, e.1 = lt i := by
  obtain ⟨p, hp, rfl⟩ := List.mem_map.mp h
  have := List.mem_zipIdx hp
  exact ⟨p.1, by rw [this.2.2]; exact List.getElem_mem _, rfl⟩
theorem nE_no {l : List Nat} {j : Nat} (h : j ∉ l) : ∀ e ∈ nE l, e.1 ≠ lt j := by
  intro e he q
  obtain ⟨i, hi, e1⟩ := nE_keys he
  rw [e1] at q
  have := lt_inj q
  subst this
  exact h hi
theorem nE_put {l : List Nat} {j : Nat} (h : j ∉ l) : dput (nE l) (lt j) (.int l.length) = nE (l ++ [j]) := by
  unfold dput
  have e : (nE l).any (fun e => decide (e.1 = lt j)) = false := by
    rw [List.any_eq_false]
    intro p hp
    simp only [decide_eq_true_eq]
    exact nE_no h p hp
  rw [e, nE_app]
  rfl
theorem nE_del {l : List Nat} {j : Nat} (h : j ∉ l) : ddel (nE (l ++ [j])) (lt j) = nE l := by
  unfold ddel
  rw [nE_app, List.filter_append]
  have e1 : (nE l).filter (fun e => !decide (e.1 = lt j)) = nE l := List.filter_eq_self.mpr fun e he => by
    have := nE_no h e he
    simp [this]
  rw [e1]
  simp
theorem nE_get {l : List Nat} {j : Nat} (h : j ∉ l) : dget (nE l) (lt j) = none := by
  unfold dget
  rw [List.find?_eq_none.mpr]
  · rfl
  · intro e he
    have := nE_no h e he
    simp [this]
theorem nE_last {l : List Nat} {j : Nat} (h : j ∉ l) : (dget (nE (l ++ [j])) (lt j)).isSome = true := by
  unfold dget
  rw [nE_app, List.find?_append, List.find?_eq_none.mpr (fun e he => by have := nE_no h e he; simp [this])]
  simp

noncomputable def unS (S : SS) (sn : List Nat) : Nat := ((S.nodes.filter fun j => decide (j ∉ sn)).map fun j => (S.su j).length + 1).sum
theorem unS_push {S : SS} {sn : List Nat} {j : Nat} (nd : S.nodes.Nodup) (h : j ∈ S.nodes) (hn : j ∉ sn) : unS S (sn ++ [j]) + (S.su j).length + 1 = unS S sn := by
  unfold unS
  generalize S.nodes = l at nd h
  induction l with
  | nil => cases h
  | cons i r ih =>
    obtain ⟨n1, n2⟩ := List.nodup_cons.mp nd
    by_cases e : i = j
    · subst e
      have same : r.filter (fun k => decide (k ∉ sn ++ [i])) = r.filter (fun k => decide (k ∉ sn)) := List.filter_congr fun k hk => by
        have : k ≠ i := fun q => n1 (q ▸ hk)
        simp [this]
      rw [List.filter_cons_of_neg (by simp), List.filter_cons_of_pos (by simpa using hn), same]
      simp only [List.map_cons, List.sum_cons]
      (first | lia | omega)
    · have hr : j ∈ r := by
        rcases List.mem_cons.mp h with q | q
        · exact absurd q.symm e
        · exact q
      have ih' := ih n2 hr
      by_cases hi : i ∈ sn
      · rw [List.filter_cons_of_neg (by simp [hi]), List.filter_cons_of_neg (by simp [hi])]
        exact ih'
      · rw [List.filter_cons_of_pos (by simp [hi, e]), List.filter_cons_of_pos (by simp [hi])]
        simp only [List.map_cons, List.sum_cons]
        (first | lia | omega)
noncomputable def frS (S : SS) (fr : List Fm) : Nat := (fr.map fun f => (S.su f.node).length - f.pos).sum

-- part F8
theorem m0 {p : Addr × AO} {l : Ledger} : p ∈ p :: l := List.mem_cons_self
theorem m1 {p q : Addr × AO} {l : Ledger} (h : p ∈ l) : p ∈ q :: l := List.mem_cons_of_mem _ h
-- _NodeInfo
noncomputable abbrev pnNi : List Str := ["self", "node"]
theorem foNi (w : World) : FnOk (fdAt w 36) pnNi [] [] := fnOk_of (by kernel_rfl)
theorem loNi (w : World) : (KH w).lookup 36 = some ⟨.type "function", none, .func (fdAt w 36), #[]⟩ := by kernel_rfl
theorem cdNi (w : World) : codeIn (KH w) (fdAt w 36).code (fdAt w 36).qualname = true := by kernel_rfl
theorem boNi (w : World) : (fdAt w 36).body = .stmts (bodyOf (fdAt w 36).body) := by kernel_rfl
theorem biNi (w : World) (vs : List Value) (h : vs.length = 2) : bindArgs (fdAt w 36) ⟨vs, []⟩ = pure (pnNi.zip vs) := by
  obtain ⟨a, b, rfl⟩ := len2 h
  kernel_rfl
theorem ss_node (w : World) : slotStore (KH w) 40 41 "node" 0 = true := by kernel_rfl
theorem ss_np (w : World) : slotStore (KH w) 40 42 "npredecessors" 1 = true := by kernel_rfl
theorem ss_su (w : World) : slotStore (KH w) 40 43 "successors" 2 = true := by kernel_rfl
theorem sg_node (w : World) : slotAttr (KH w) 40 41 "node" 0 = true := by kernel_rfl
theorem sg_np (w : World) : slotAttr (KH w) 40 42 "npredecessors" 1 = true := by kernel_rfl
theorem sg_su (w : World) : slotAttr (KH w) 40 43 "successors" 2 = true := by kernel_rfl
theorem mk40 (w : World) : makesIn (KH w) 40 = true := by kernel_rfl
theorem in40 (w : World) : findIn (KH w) (.ref 40) "__init__" = some (some (.ref 36)) := by kernel_rfl
theorem ty36 (w : World) : typeIn (KH w) (.ref 36) = some (.type "function") := by kernel_rfl

theorem CallW_NodeInfo {C : Cx} {vals : Vals} {led : Ledger} {k : Nat} {x : Str} {K : AV → Vals → Ledger → Prop} (ok : COk C (k + 2))
    (h : ∀ i d s, K (.ref i) vals ((s, .list []) :: (i, .slots 40 d [some (.str x), some (.int 0), some (.ref s)]) :: (d, .dict [] none) :: led)) : CallW C (.ref 40) [.str x] vals led K := by
  refine CallW_class (ao := fun d => .slots 40 d []) (fun d => ⟨[], .nil, rfl⟩) ok (mk40 _) (in40 _) (ty36 _) fun i d us okM => ?_
  refine CodeW_def (names := pnNi) okM (foNi _) rfl (loNi _) (cdNi _) (boNi _) rfl (fun vs h => biNi _ vs h) fun B0 outs L ok' aw => ?_
  conv in bodyOf _ => whnf
  show ExsW _ _ [some (.ref i), some (.str x)] _ _
  repeat k_ownIn
  with_reducible refine SetAW_slot ok' (d := d) m0 (m1 m0) (ss_node _) (by decide) .here ?_
  repeat k_ownIn
  with_reducible refine SetAW_slot ok' (d := d) m0 (m1 m0) (ss_np _) (by decide) .here ?_
  repeat k_ownIn
  with_reducible refine EvW_List (by decide) ?_
  repeat k_ownIn
  refine ⟨by decide, fun s => ?_⟩
  repeat k_ownIn
  with_reducible refine SetAW_slot ok' (d := d) (m1 m0) (m1 (m1 m0)) (ss_su _) (by decide) (.there .here) ?_
  repeat k_ownIn
  exact ⟨rfl, h i d s⟩

-- _get_nodeinfo
noncomputable abbrev pnGi : List Str := ["self", "node"]
noncomputable abbrev lsGi : List Str := ["result"]
noncomputable abbrev nmGi : List Str := ["self", "node", "result"]
theorem foGi (w : World) : FnOk (fdAt w 80) pnGi lsGi [] := fnOk_of (by kernel_rfl)
theorem loGi (w : World) : (KH w).lookup 80 = some ⟨.type "function", none, .func (fdAt w 80), #[]⟩ := by kernel_rfl
theorem cdGi (w : World) : codeIn (KH w) (fdAt w 80).code (fdAt w 80).qualname = true := by kernel_rfl
theorem boGi (w : World) : (fdAt w 80).body = .stmts (bodyOf (fdAt w 80).body) := by kernel_rfl
theorem biGi (w : World) (vs : List Value) (h : vs.length = 2) : bindArgs (fdAt w 80) ⟨vs, []⟩ = pure (pnGi.zip vs) := by
  obtain ⟨a, b, rfl⟩ := len2 h
  kernel_rfl
theorem at_n2i (w : World) : attrIn (KH w) 137 "_node2info" = true := by kernel_rfl
theorem at_rd (w : World) : attrIn (KH w) 137 "_ready_nodes" = true := by kernel_rfl
theorem at_ps (w : World) : attrIn (KH w) 137 "_npassedout" = true := by kernel_rfl
theorem at_fi (w : World) : attrIn (KH w) 137 "_nfinished" = true := by kernel_rfl
theorem st_n2i (w : World) : storeIn (KH w) 137 "_node2info" = true := by kernel_rfl
theorem st_rd (w : World) : storeIn (KH w) 137 "_ready_nodes" = true := by kernel_rfl
theorem st_ps (w : World) : storeIn (KH w) 137 "_npassedout" = true := by kernel_rfl
theorem st_fi (w : World) : storeIn (KH w) 137 "_nfinished" = true := by kernel_rfl

theorem CallW_getinfo {C : Cx} {vals : Vals} {k : Nat} {A : SA} {S : SS} {R : Ledger} {j : Nat} {K : AV → Vals → Ledger → Prop} (ok : COk C (k + 3)) (hS : SOk S) (hj : j < 6) (hep : S.ep = none)
    (h : ∀ A', A'.x = A.x → K (.ref (A'.ia j)) vals (SL A' (gi S j) ++ R)) :
    CallW C (.ref 80) [.ref A.x, .str (lt j)] vals (SL A S ++ R) K := by
  have hlen := hS.len
  refine CallW_def (names := nmGi) ok (foGi _) rfl (loGi _) (cdGi _) (boGi _) rfl (fun vs h => biGi _ vs h) fun B0 outs L ok' aw => ?_
  conv in bodyOf _ => whnf
  show ExsW _ _ [some (.ref A.x), some (.str (lt j)), none] _ _
  repeat k_ownIn
  with_reducible refine EvW_MethB PySem.F.plainAttrs_dict PySem.F.slot_dict_get PySem.F.type_dict_get (by with_unfolding_all rfl) ?_
  repeat k_ownIn
  with_reducible refine GetAW_inst ok' (SL_inst A S R) (SL_self A S R) (at_n2i _) (self_n2i A S) (fun n e => by cases e) ?_
  refine ⟨TyW_dict (SL_n2i A S R), ?_⟩
  repeat k_ownIn
  with_reducible refine CallW_dictGet ok' (SL_n2i A S R) ?_
  rw [n2i_get]
  by_cases hm : j ∈ S.nodes
  · rw [if_pos hm]
    show AsgW _ _ (.ref (A.ia j)) _ _ _
    repeat k_ownIn
    refine IteP (fun hb => by cases hb) fun hb => ?_
    repeat k_ownIn
    have := h A rfl
    unfold gi at this
    rw [if_pos hm] at this
    exact this
  · rw [if_neg hm]
    show AsgW _ _ .none _ _ _
    repeat k_ownIn
    refine IteP (fun hb => ?_) fun hb => by cases hb
    repeat k_ownIn
    with_reducible refine ExW_Assign2 (by with_unfolding_all rfl) (by with_unfolding_all rfl) ?_
    repeat k_ownIn
    with_reducible refine CallW_NodeInfo ok' ?_
    intro i d s
    repeat k_ownIn
    with_reducible refine GetAW_inst ok' (m1 (m1 (m1 (SL_inst A S R)))) (m1 (m1 (m1 (SL_self A S R)))) (at_n2i _) (self_n2i A S) (fun n e => by cases e) ?_
    repeat k_ownIn
    with_reducible refine SetW_dict (m1 (m1 (m1 (SL_n2i A S R)))) (by unfold n2iE; rw [List.length_map]; (first | lia | omega)) (.there (.there (.there (.there (.there .here))))) ?_
    rw [n2i_put hm]
    iterate 3 k_ownIn
    refine TW.perm (SL_new hm) ?_
    repeat k_ownIn
    have := h { A with ia := put A.ia j i, id := put A.id j d, is := put A.is j s } rfl
    unfold gi at this
    rw [if_neg hm] at this
    simp only [put_at, hep] at this
    exact this

-- part F9
-- add
noncomputable abbrev pnAd : List Str := ["self", "node", "predecessors"]
noncomputable abbrev lsAd : List Str := ["nodeinfo", "pred", "pred_info"]
noncomputable abbrev nmAd : List Str := ["self", "node", "predecessors", "nodeinfo", "pred", "pred_info"]
theorem foAd (w : World) : FnOk (fdAt w 87) pnAd lsAd [] := fnOk_of (by kernel_rfl)
theorem loAd (w : World) : (KH w).lookup 87 = some ⟨.type "function", none, .func (fdAt w 87), #[]⟩ := by kernel_rfl
theorem cdAd (w : World) : codeIn (KH w) (fdAt w 87).code (fdAt w 87).qualname = true := by kernel_rfl
theorem boAd (w : World) : (fdAt w 87).body = .stmts (bodyOf (fdAt w 87).body) := by kernel_rfl
theorem biAd (w : World) (vs us : List Value) (h : vs.length = 2) (hu : us.length ≤ 6) : bindArgs (fdAt w 87) ⟨vs ++ us, []⟩ = (newTuple us >>= fun T => pure (pnAd.zip (vs ++ [T]))) := by
  match vs, h, us, hu with
  | [a, b], _, [], _ => kernel_rfl
  | [a, b], _, [c], _ => kernel_rfl
  | [a, b], _, [c, d], _ => kernel_rfl
  | [a, b], _, [c, d, e], _ => kernel_rfl
  | [a, b], _, [c, d, e, f], _ => kernel_rfl
  | [a, b], _, [c, d, e, f, g], _ => kernel_rfl
  | [a, b], _, [c, d, e, f, g, i], _ => kernel_rfl
  | [a, b], _, _ :: _ :: _ :: _ :: _ :: _ :: _ :: _, h => simp at h
theorem me_gi (w : World) : methIn (KH w) 137 80 "_get_nodeinfo" = true := by kernel_rfl
theorem self_no_gi (A : SA) (S : SS) : dget (selfE A S) "_get_nodeinfo" = none := by
  have n1 : (("_node2info" : Str) = "_get_nodeinfo") = False := by simp only [eq_iff_iff, iff_false]; decide
  have n2 : (("_ready_nodes" : Str) = "_get_nodeinfo") = False := by simp only [eq_iff_iff, iff_false]; decide
  have n3 : (("_npassedout" : Str) = "_get_nodeinfo") = False := by simp only [eq_iff_iff, iff_false]; decide
  have n4 : (("_nfinished" : Str) = "_get_nodeinfo") = False := by simp only [eq_iff_iff, iff_false]; decide
  simp [dget, selfE, n1, n2, n3, n4]
theorem addP_rd (j : Nat) (S : SS) (p : Nat) : (addP j S p).rd = S.rd ∧ (addP j S p).ep = S.ep := by
  unfold addP gi
  split <;> exact ⟨rfl, rfl⟩
theorem gi_ep (S : SS) (j : Nat) : (gi S j).ep = S.ep := by unfold gi; split <;> rfl
theorem SOk.addP {S : SS} (h : SOk S) {j p : Nat} (hp : p < 6) : SOk (addP j S p) := ⟨(h.gi hp).nd, (h.gi hp).lt6⟩
theorem addP_su {S : SS} {j p m : Nat} (h : ∀ i, (S.su i).length ≤ m) : ∀ i, ((addP j S p).su i).length ≤ m + 1 := by
  intro i
  have h1 := gi_su (j := p) h
  show (put (gi S p).su p ((gi S p).su p ++ [j]) i).length ≤ m + 1
  unfold put
  split
  · simp; exact h1 p
  · exact Nat.le_succ_of_le (h1 i)

theorem rdV_blt {A : SA} {o : Option (List Nat)} : ∀ n, rdV A o ≠ .blt n := by
  intro n e
  cases o <;> cases e
theorem txs_get {l : List Nat} {i : Nat} {a : AV} (h : (txs l)[i]? = some a) : ∃ c, l[i]? = some c ∧ a = .str (lt c) := by
  unfold txs at h
  rw [List.getElem?_map, Option.map_eq_some_iff] at h
  obtain ⟨c, hc, rfl⟩ := h
  exact ⟨c, hc, rfl⟩
theorem txs_len (l : List Nat) : (txs l).length = l.length := by unfold txs; rw [List.length_map]
theorem txs_app (l : List Nat) (c : Nat) : txs l ++ [.str (lt c)] = txs (l ++ [c]) := by unfold txs; rw [List.map_append]; rfl
noncomputable abbrev Iv9c0 (m : Nat) (A : SA) (S : SS) (R : Ledger) (j : Nat) (ps : List Nat) (T : Addr) (A1 : SA) : Nat → Vals → Ledger → Prop := (fun i v ld => Ex4 fun (A' : SA) (S' : SS) (x1 x2 : Option AV) => An7 (v = [some (.ref A.x), some (.str (lt j)), some (.ref T), some (.ref (A1.ia j)), x1, x2]) (ld = SL A' S' ++ (T, .tup (txs ps)) :: R) (A'.x = A.x) (SOk S') (S'.ep = none) ((∀ q, (S'.su q).length ≤ m + i)) (S' = (ps.take i).foldl (addP j) { gi S j with np := put (gi S j).np j ((gi S j).np j + ps.length) }))
theorem CodeW_add {C : Cx} {vals : Vals} {k m : Nat} {A : SA} {S : SS} {R : Ledger} {j : Nat} {ps : List Nat} {K : AV → Vals → Ledger → Prop} (ok : COk C (k + 4)) (hS : SOk S) (hj : j < 6) (hps : ∀ p ∈ ps, p < 6) (hpl : ps.length ≤ 6) (hep : S.ep = none) (hrd : S.rd = none)
    (hm : ∀ i, (S.su i).length ≤ m) (hm2 : m ≤ 500) (h : ∀ A', A'.x = A.x → K .none vals (SL A' (addN S j ps) ++ R)) :
    CodeW C (.ref 87) ([.ref A.x, .str (lt j)] ++ txs ps) vals (SL A S ++ R) K := by
  have hl : (txs ps).length ≤ 6 := by unfold txs; rw [List.length_map]; exact hpl
  refine CodeW_defV (names := nmAd) ok (foAd _) rfl (loAd _) (cdAd _) (boAd _) rfl (by (first | lia | omega)) (fun vs us h1 h2 => biAd _ vs us h1 (by (first | lia | omega))) fun T B0 outs L ok' aw => ?_
  conv in bodyOf _ => whnf
  show ExsW _ _ [some (.ref A.x), some (.str (lt j)), some (.ref T), none, none, none] _ _
  refine TW.perm List.perm_middle ?_
  repeat k_ownIn
  with_reducible refine GetAW_inst ok' (SL_inst A S _) (SL_self A S _) (at_rd _) (self_rd A S) rdV_blt ?_
  rw [hrd]
  repeat k_ownIn
  refine IteP (fun hb => by cases hb) fun hb => ?_
  repeat k_ownIn
  with_reducible refine EvW_MethF (by with_unfolding_all rfl) ?_ ok'
  repeat k_ownIn
  refine ⟨A.x, 137, A.d, _, _, 80, rfl, SL_inst A S _, SL_self A S _, me_gi _, self_no_gi A S, ?_⟩
  repeat k_ownIn
  with_reducible refine CallW_getinfo ok' hS hj hep ?_
  intro A1 hA1
  have hS1 := hS.gi hj
  have hmem := gi_mem S j
  repeat k_ownIn
  with_reducible refine GetAW_slot ok' (SL_info hmem _) (SL_idict hmem _) (sg_np _) rfl (fun n e => by cases e) ?_
  repeat k_ownIn
  with_reducible refine CallW_lenTup (List.mem_append_right _ m0) rfl (by (first | lia | omega)) ?_
  repeat k_ownIn
  with_reducible refine SetAW_slot ok' (SL_info hmem _) (SL_idict hmem _) (ss_np _) (by decide) (SL_updNp hmem hS1.nd _) ?_
  repeat k_ownIn
  with_reducible refine ExFor ok' (fun _ => by with_unfolding_all rfl) ?_
  repeat k_ownIn
  with_reducible refine It_tup Plain.name ok' (List.mem_append_right _ m0) ?_
  refine ForT_vals (Iv9c0 m A S R j ps T A1)
    ⟨A1, { gi S j with np := put (gi S j).np j ((gi S j).np j + ps.length) }, none, none, rfl, by rw [txs_len], hA1, ⟨hS1.nd, hS1.lt6⟩, (gi_ep S j).trans hep, fun q => by simpa using gi_su (j := j) hm q, rfl⟩ (fun i v ld ⟨A', S', x1, x2, e1, e2, _, _, _, _, _⟩ => e2 ▸ List.mem_append_right _ m0) ?_ ?_
  · intro i a v ld B hx hG6 okB
    refine hide fun PG kG => ?_
    obtain ⟨A', S', x1, x2, rfl, rfl, hA', hS', hep', hsu', hfold⟩ := hG6
    refine kG ?_
    clear kG PG
    have awB : ((CG 87 nmAd [] C B0 outs L).base B).AllWr := aw
    refine hide fun PG kG => ?_
    obtain ⟨p, hp, rfl⟩ := txs_get hx
    refine kG ?_
    clear kG PG
    have hp6 := hps p (List.mem_of_getElem? hp)
    have hi : i < ps.length := (List.getElem?_eq_some_iff.mp hp).1
    repeat k_ownIn
    with_reducible refine EvW_MethF (by with_unfolding_all rfl) ?_ okB
    repeat k_ownIn
    rw [← hA']
    refine ⟨A'.x, 137, A'.d, _, _, 80, rfl, SL_inst A' S' _, SL_self A' S' _, me_gi _, self_no_gi A' S', ?_⟩
    repeat k_ownIn
    with_reducible refine CallW_getinfo okB hS' hp6 hep' ?_
    intro A2 hA2
    have hS2 := hS'.gi hp6
    have hmem2 := gi_mem S' p
    repeat k_ownIn
    with_reducible refine EvW_MethB PySem.F.plainAttrs_list PySem.F.slot_list_append PySem.F.type_list_append (by with_unfolding_all rfl) ?_
    repeat k_ownIn
    with_reducible refine GetAW_slot okB (SL_info hmem2 _) (SL_idict hmem2 _) (sg_su _) rfl (fun n e => by cases e) ?_
    refine ⟨TyW_list (SL_succ hmem2 _), ?_⟩
    repeat k_ownIn
    have hsl := gi_su (j := p) hsu' p
    with_reducible refine CallW_append (SL_succ hmem2 _) (by rw [txs_len]; (first | lia | omega)) (by rw [txs_app]; exact SL_updSu hmem2 hS2.nd _) ?_
    refine ⟨fun x e => (by cases e), ?_⟩
    repeat k_ownIn
    refine ForTurn_next ⟨A2, addP j S' p, _, _, by rw [hA'], rfl, hA2.trans hA', hS'.addP hp6, (addP_rd j S' p).2.trans hep', fun q => addP_su hsu' q, ?_⟩
    rw [List.take_add_one, hp, List.foldl_append, ← hfold]
    rfl
  · intro v ld hG2
    refine hide fun PG kG => ?_
    obtain ⟨A', S', x1, x2, rfl, rfl, hA', hS', hep', hsu', hfold⟩ := hG2
    refine kG ?_
    clear kG PG
    refine SeqK_next (TW.sub (List.Sublist.append_left (List.sublist_cons_self _ _) _) (ExsW_nil ?_))
    rw [txs_len, List.take_length] at hfold
    rw [hfold]
    exact h A' hA'

-- part F10
-- TopologicalSorter
noncomputable abbrev pnTs : List Str := ["self", "graph"]
noncomputable abbrev lsTs : List Str := ["node", "predecessors"]
noncomputable abbrev nmTs : List Str := ["self", "graph", "node", "predecessors"]
theorem foTs (w : World) : FnOk (fdAt w 73) pnTs lsTs [] := fnOk_of (by kernel_rfl)
theorem loTs (w : World) : (KH w).lookup 73 = some ⟨.type "function", none, .func (fdAt w 73), #[]⟩ := by kernel_rfl
theorem cdTs (w : World) : codeIn (KH w) (fdAt w 73).code (fdAt w 73).qualname = true := by kernel_rfl
theorem boTs (w : World) : (fdAt w 73).body = .stmts (bodyOf (fdAt w 73).body) := by kernel_rfl
theorem biTs (w : World) (vs : List Value) (h : vs.length = 2) (S : Setting) : peek (KH w) S (bindArgs (fdAt w 73) ⟨vs, []⟩) = some (pnTs.zip vs) := by
  obtain ⟨a, b, rfl⟩ := len2 h
  kernel_rfl
theorem mk137 (w : World) : makesIn (KH w) 137 = true := by kernel_rfl
theorem in137 (w : World) : findIn (KH w) (.ref 137) "__init__" = some (some (.ref 73)) := by kernel_rfl
theorem ty73 (w : World) : typeIn (KH w) (.ref 73) = some (.type "function") := by kernel_rfl
theorem me_add (w : World) : bmethIn (KH w) 137 87 "add" = true := by kernel_rfl
theorem self_no_add (A : SA) (S : SS) : dget (selfE A S) "add" = none := by
  have n1 : (("_node2info" : Str) = "add") = False := by simp only [eq_iff_iff, iff_false]; decide
  have n2 : (("_ready_nodes" : Str) = "add") = False := by simp only [eq_iff_iff, iff_false]; decide
  have n3 : (("_npassedout" : Str) = "add") = False := by simp only [eq_iff_iff, iff_false]; decide
  have n4 : (("_nfinished" : Str) = "add") = False := by simp only [eq_iff_iff, iff_false]; decide
  simp [dget, selfE, n1, n2, n3, n4]
theorem foldP_facts {j : Nat} : ∀ (ps : List Nat) (S : SS) (m : Nat), SOk S → (∀ p ∈ ps, p < 6) → (∀ i, (S.su i).length ≤ m) → SOk (ps.foldl (addP j) S) ∧ (ps.foldl (addP j) S).rd = S.rd ∧ (ps.foldl (addP j) S).ep = S.ep ∧ ∀ i, ((ps.foldl (addP j) S).su i).length ≤ m + ps.length
  | [], S, m, h, _, hm => ⟨h, rfl, rfl, hm⟩
  | p :: r, S, m, h, hp, hm => by
    obtain ⟨a, b, c, d⟩ := foldP_facts r (addP j S p) (m + 1) (h.addP (hp p (.head _))) (fun q hq => hp q (.tail _ hq)) (addP_su hm)
    refine ⟨a, b.trans (addP_rd j S p).1, c.trans (addP_rd j S p).2, fun i => ?_⟩
    have := d i
    simp only [List.foldl_cons, List.length_cons] at *
    (first | lia | omega)
theorem addN_facts {j : Nat} {ps : List Nat} {S : SS} {m : Nat} (h : SOk S) (hj : j < 6) (hp : ∀ p ∈ ps, p < 6) (hm : ∀ i, (S.su i).length ≤ m) : SOk (addN S j ps) ∧ (addN S j ps).rd = S.rd ∧ (addN S j ps).ep = S.ep ∧ ∀ i, ((addN S j ps).su i).length ≤ m + ps.length := by
  unfold addN
  obtain ⟨a, b, c, d⟩ := foldP_facts (j := j) ps { gi S j with np := put (gi S j).np j ((gi S j).np j + ps.length) } m ⟨(h.gi hj).nd, (h.gi hj).lt6⟩ hp (gi_su hm)
  exact ⟨a, b.trans (gi_rd S j).1, c.trans (gi_ep S j), d⟩
/-- the sorter of a graph -/
noncomputable def mkS (gs : List (Nat × List Nat)) : SS := gs.foldl (fun S g => addN S g.1 g.2) S00
structure GraphAt (R : Ledger) (G : Addr) (pa : Nat → Addr) (gs : List (Nat × List Nat)) (ep : Nat) : Prop where
  dict : (G, AO.dict (gs.map fun g => (lt g.1, .ref (pa g.1))) (some ep)) ∈ R
  preds : ∀ g ∈ gs, SeqIn R (.ref (pa g.1)) (txs g.2)
  lt6 : ∀ g ∈ gs, g.1 < 6 ∧ g.2.length ≤ 6 ∧ ∀ p ∈ g.2, p < 6
  len : gs.length ≤ 6
theorem SeqIn.app {R : Ledger} {a : AV} {xs : List AV} (h : SeqIn R a xs) (P : Ledger) : SeqIn (P ++ R) a xs := by
  obtain ⟨l, e, q⟩ := h
  exact ⟨l, e, q.imp (List.mem_append_right _) (List.mem_append_right _)⟩

noncomputable abbrev Iv10c0 (R : Ledger) (G : Addr) (gs : List (Nat × List Nat)) (x : Addr) (vw : Addr) : Nat → Vals → Ledger → Prop := (fun i v ld => Ex4 fun (A' : SA) (S' : SS) (x1 x2 : Option AV) => An8 (v = [some (.ref x), some (.ref G), x1, x2]) (ld = (vw, .pred (ViewO "dict_items" G)) :: (SL A' S' ++ R)) (A'.x = x) (SOk S') (S'.ep = none) (S'.rd = none) ((∀ q, (S'.su q).length ≤ 6 * i)) (S' = (gs.take i).foldl (fun S g => addN S g.1 g.2) S00))
theorem CallW_Sorter {C : Cx} {vals : Vals} {k : Nat} {R : Ledger} {G : Addr} {pa : Nat → Addr} {gs : List (Nat × List Nat)} {ep : Nat} {K : AV → Vals → Ledger → Prop} (ok : COk C (k + 6)) (hG : GraphAt R G pa gs ep)
    (h : ∀ A, K (.ref A.x) vals (SL A (mkS gs) ++ R)) : CallW C (.ref 137) [.ref G] vals R K := by
  refine CallW_class (ao := fun d => .inst 137 d) (fun d => rfl) ok (mk137 _) (in137 _) (ty73 _) fun x d us okM => ?_
  refine CodeW_defP (names := nmTs) okM (foTs _) rfl (loTs _) (cdTs _) (boTs _) rfl (fun vs h S => biTs _ vs h S) fun B0 outs L ok' aw => ?_
  conv in bodyOf _ => whnf
  show ExsW _ _ [some (.ref x), some (.ref G), none, none] _ _
  repeat k_ownIn
  intro n
  repeat k_ownIn
  with_reducible refine SetAW_inst ok' (d := d) (m1 m0) (m1 (m1 m0)) (st_n2i _) (by decide) (.there (.there .here)) ?_
  repeat k_ownIn
  with_reducible refine SetAW_inst ok' (d := d) (m1 m0) (m1 (m1 m0)) (st_rd _) (by simp [dput]) (.there (.there .here)) ?_
  repeat k_ownIn
  with_reducible refine SetAW_inst ok' (d := d) (m1 m0) (m1 (m1 m0)) (st_ps _) (by simp [dput, nmA]) (.there (.there .here)) ?_
  repeat k_ownIn
  with_reducible refine SetAW_inst ok' (d := d) (m1 m0) (m1 (m1 m0)) (st_fi _) (by simp [dput, nmA, nmB, nmC]) (.there (.there .here)) ?_
  have e1 : dput (dput (dput (dput [] "_node2info" (.ref n)) "_ready_nodes" .none) "_npassedout" (.int 0)) "_nfinished" (.int 0) = selfE ⟨x, d, n, 0, fun _ => 0, fun _ => 0, fun _ => 0⟩ S00 := by
    simp [dput, selfE, nmA, nmB, nmC, nmD, nmE, nmF, rdV, S00]
  rw [e1]
  k_ownIn
  generalize hA0 : (⟨x, d, n, 0, fun _ => 0, fun _ => 0, fun _ => 0⟩ : SA) = A0
  revert A0
  refine keepAll ?_
  intro A0
  set_option tactic.hygienic false in intros
  have hpm : (SL A0 S00 ++ R).Perm ((n, .dict [] none) :: (x, .inst 137 d) :: (d, .dict (selfE A0 S00) none) :: R) := by
    rw [← hA0]
    exact List.perm_middle (l₁ := [(x, AO.inst 137 d), (d, AO.dict (selfE ⟨x, d, n, 0, fun _ => 0, fun _ => 0, fun _ => 0⟩ S00) none)])
  refine TW.perm hpm ?_
  have hx : A0.x = x := by rw [← hA0]
  repeat k_ownIn
  refine IteP (fun hb => ?_) fun hb => by cases hb
  repeat k_ownIn
  with_reducible refine ExFor ok' (fun _ => by with_unfolding_all rfl) ?_
  with_reducible refine EvW_MethB PySem.F.plainAttrs_dict PySem.F.slot_dict_items PySem.F.type_dict_items (by with_unfolding_all rfl) ?_
  repeat k_ownIn
  refine ⟨TyW_dict (List.mem_append_right _ hG.dict), ?_⟩
  repeat k_ownIn
  with_reducible refine CallW_items ok' (List.mem_append_right _ hG.dict) ?_
  intro vw
  with_reducible refine It_items ok' (m1 (List.mem_append_right _ hG.dict)) m0 ?_
  refine ForT_mk (Iv10c0 R G gs x vw)
    ⟨A0, S00, none, none, rfl, rfl, hx, ⟨List.nodup_nil, fun j hj => by cases hj⟩, rfl, rfl, fun q => Nat.zero_le _, rfl⟩ (fun i v ld ⟨A', S', x1, x2, e1, e2, _, _, _, _, _, _⟩ => e2 ▸ m1 (List.mem_append_right _ hG.dict)) ?_ ?_
  · intro i it v ld hx2 hG5 a l' B hIT okB
    refine hide fun PG kG => ?_
    obtain ⟨A', S', x1, x2, rfl, rfl, hA', hS', hep', hrd', hsu', hfold⟩ := hG5
    refine kG ?_
    clear kG PG
    have awB : ((CG 73 nmTs [] (C.made 137 us) B0 outs L).base B).AllWr := aw
    rw [List.map_map, List.getElem?_map, Option.map_eq_some_iff] at hx2
    refine hide fun PG kG => ?_
    obtain ⟨g, hg, rfl⟩ := hx2
    refine kG ?_
    clear kG PG
    cases hIT
    rename_i T
    have hgm := List.mem_of_getElem? hg
    refine hide fun PG kG => ?_
    obtain ⟨g1, g2, g3⟩ := hG.lt6 g hgm
    refine kG ?_
    clear kG PG
    have hi : i < gs.length := (List.getElem?_eq_some_iff.mp hg).1
    have hgl := hG.len
    with_reducible refine AsgW_Tuple okB m0 (by with_unfolding_all rfl) (by with_unfolding_all rfl) ?_
    show AsgsW _ [assign _ _, assign _ _] _ _ _ _
    with_reducible refine AsgsW_cons ?_
    repeat k_ownIn
    with_reducible refine AsgsW_cons ?_
    repeat k_ownIn
    with_reducible refine AsgsW_nil ?_
    refine TW.sub (List.sublist_cons_self _ _) ?_
    refine TW.perm List.perm_middle ?_
    repeat k_ownIn
    with_reducible refine EvW_MethG (by with_unfolding_all rfl) ?_
    repeat k_ownIn
    rw [← hA']
    with_reducible refine GetAW_meth okB (SL_inst A' S' _) (SL_self A' S' _) (me_add _) (self_no_add A' S') ?_
    intro q
    with_reducible refine CWW_bstar2 (f := 87) (x := A'.x) okB (by kernel_rfl) (by with_unfolding_all rfl) (by with_unfolding_all rfl) ?_
    repeat k_ownIn
    with_reducible refine ArgsW_star (by with_unfolding_all rfl) ?_
    repeat k_ownIn
    refine hide fun PG kG => ?_
    obtain ⟨lp, elp, hlp⟩ := hG.preds g hgm
    refine kG ?_
    clear kG PG
    refine ⟨txs g.2, ⟨lp, elp, hlp.imp (fun q => m1 (List.mem_append_right _ (m1 q))) fun q => m1 (List.mem_append_right _ (m1 q))⟩, by rw [txs_len]; (first | lia | omega), m0, ?_⟩
    refine CodeW.perm List.perm_middle ?_
    show CodeW _ _ ([.ref A'.x, .str (lt g.1)] ++ txs g.2) _ _ _
    with_reducible refine CodeW_add okB hS' g1 g3 g2 hep' hrd' hsu' (by (first | lia | omega)) ?_
    intro A2 hA2
    refine ⟨fun x e => (by cases e), ?_⟩
    k_ownIn
    refine TW.sub (List.Sublist.append_left (List.sublist_cons_self _ _) _) ?_
    refine TW.perm List.perm_middle.symm ?_
    repeat k_ownIn
    refine hide fun PG kG => ?_
    obtain ⟨f1, f2, f3, f4⟩ := addN_facts hS' g1 g3 hsu'
    refine kG ?_
    clear kG PG
    refine ForTurn_next ⟨A2, addN S' g.1 g.2, _, _, rfl, rfl, hA2, f1, f3.trans hep', f2.trans hrd', fun q => ?_, ?_⟩
    · have := f4 q; (first | lia | omega)
    · rw [List.take_add_one, hg, List.foldl_append, ← hfold]
      rfl
  · intro v ld hG2
    refine hide fun PG kG => ?_
    obtain ⟨A', S', x1, x2, rfl, rfl, hA', hS', hep', hrd', hsu', hfold⟩ := hG2
    refine kG ?_
    clear kG PG
    refine SeqK_next (TW.sub (List.sublist_cons_self _ _) (ExsW_nil (SeqK_next (ExsW_nil ⟨rfl, ?_⟩))))
    rw [List.length_map, List.length_map, List.take_length] at hfold
    have := h A'
    rw [hA'] at this
    rw [hfold]
    exact this

-- part F11
theorem rdV_some (A : SA) (l : List Nat) : rdV A (some l) = .ref A.r := rfl
-- get_ready
noncomputable abbrev pnGr : List Str := ["self"]
noncomputable abbrev lsGr : List Str := ["result", "n2i", "node"]
noncomputable abbrev nmGr : List Str := ["self", "result", "n2i", "node"]
theorem foGr (w : World) : FnOk (fdAt w 99) pnGr lsGr [] := fnOk_of (by kernel_rfl)
theorem loGr (w : World) : (KH w).lookup 99 = some ⟨.type "function", none, .func (fdAt w 99), #[]⟩ := by kernel_rfl
theorem cdGr (w : World) : codeIn (KH w) (fdAt w 99).code (fdAt w 99).qualname = true := by kernel_rfl
theorem boGr (w : World) : (fdAt w 99).body = .stmts (bodyOf (fdAt w 99).body) := by kernel_rfl
theorem biGr (w : World) (vs : List Value) (h : vs.length = 1) : bindArgs (fdAt w 99) ⟨vs, []⟩ = pure (pnGr.zip vs) := by
  obtain ⟨a, rfl⟩ := len1 h
  kernel_rfl
noncomputable def outNp (np : Nat → Int) (l : List Nat) : Nat → Int := l.foldl (fun f j => put f j (-1)) np
noncomputable def grS (S : SS) (l : List Nat) : SS := { S with np := outNp S.np l, rd := some [], ps := S.ps + l.length }
noncomputable abbrev Iv11c0 (A : SA) (S : SS) (R : Ledger) (l : List Nat) (T : Addr) : Nat → Vals → Ledger → Prop := (fun i v ld => ∃ (x1 : Option AV), v = [some (.ref A.x), some (.ref T), some (.ref A.n), x1] ∧ ld = (T, .tup (txs l)) :: (SL A { S with np := outNp S.np (l.take i) } ++ R))
theorem CallW_getready {C : Cx} {vals : Vals} {k : Nat} {A : SA} {S : SS} {R : Ledger} {l : List Nat} {K : AV → Vals → Ledger → Prop} (ok : COk C (k + 1)) (hS : SOk S) (hrd : S.rd = some l) (hl : ∀ j ∈ l, j ∈ S.nodes) (hll : l.length ≤ 100)
    (h : ∀ T, K (.ref T) vals ((T, .tup (txs l)) :: (SL A (grS S l) ++ R))) : CallW C (.ref 99) [.ref A.x] vals (SL A S ++ R) K := by
  refine CallW_def (names := nmGr) ok (foGr _) rfl (loGr _) (cdGr _) (boGr _) rfl (fun vs h => biGr _ vs h) fun B0 outs L ok' aw => ?_
  conv in bodyOf _ => whnf
  show ExsW _ _ [some (.ref A.x), none, none, none] _ _
  repeat k_ownIn
  with_reducible refine GetAW_inst ok' (SL_inst A S _) (SL_self A S _) (at_rd _) (self_rd A S) rdV_blt ?_
  rw [hrd, rdV_some]
  repeat k_ownIn
  refine IteP (fun hb => by cases hb) fun hb => ?_
  repeat k_ownIn
  with_reducible refine GetAW_inst ok' (SL_inst A S _) (SL_self A S _) (at_rd _) (self_rd A S) rdV_blt ?_
  rw [hrd, rdV_some]
  repeat k_ownIn
  with_reducible refine CallW_tuple (l := A.r) (SL_rd hrd _) (by rw [txs_len]; (first | lia | omega)) ?_
  intro T
  repeat k_ownIn
  with_reducible refine GetAW_inst ok' (m1 (SL_inst A S _)) (m1 (SL_self A S _)) (at_n2i _) (self_n2i A S) (fun n e => by cases e) ?_
  repeat k_ownIn
  with_reducible refine ExFor ok' (fun _ => by with_unfolding_all rfl) ?_
  repeat k_ownIn
  with_reducible refine It_tup Plain.name ok' m0 ?_
  refine ForT_vals (Iv11c0 A S R l T)
    ⟨none, rfl, rfl⟩ (fun i v ld ⟨x1, e1, e2⟩ => e2 ▸ m0) ?_ ?_
  · intro i a v ld B hx hG6 okB
    refine hide fun PG kG => ?_
    obtain ⟨x1, rfl, rfl⟩ := hG6
    refine kG ?_
    clear kG PG
    have awB : ((CG 99 nmGr [] C B0 outs L).base B).AllWr := aw
    refine hide fun PG kG => ?_
    obtain ⟨p, hp, rfl⟩ := txs_get hx
    refine kG ?_
    clear kG PG
    have hm : p ∈ ({ S with np := outNp S.np (l.take i) } : SS).nodes := hl p (List.mem_of_getElem? hp)
    repeat k_ownIn
    with_reducible refine SubW_dict (m1 (SL_n2i A _ _)) (by rw [n2i_get, if_pos hm]) (fun _ _ => by with_unfolding_all rfl) ?_
    with_reducible refine SetAW_slot okB (m1 (SL_info hm _)) (m1 (SL_idict hm _)) (ss_np _) (by decide) (.there (SL_updNp hm hS.nd _)) ?_
    repeat k_ownIn
    refine ForTurn_next ⟨_, rfl, ?_⟩
    rw [List.take_add_one, hp]
    unfold outNp
    rw [List.foldl_append]
    rfl
  · intro v ld hG2
    refine hide fun PG kG => ?_
    obtain ⟨x1, rfl, rfl⟩ := hG2
    refine kG ?_
    clear kG PG
    rw [txs_len, List.take_length]
    k_ownIn
    generalize hS1 : ({ S with np := outNp S.np l } : SS) = S1
    revert S1
    refine keepAll ?_
    intro S1
    set_option tactic.hygienic false in intros
    have hrd1 : S1.rd = some l := by rw [← hS1]; exact hrd
    repeat k_ownIn
    with_reducible refine EvW_MethB PySem.F.plainAttrs_list PySem.F.slot_list_clear PySem.F.type_list_clear (by with_unfolding_all rfl) ?_
    repeat k_ownIn
    with_reducible refine GetAW_inst ok' (m1 (SL_inst A S1 _)) (m1 (SL_self A S1 _)) (at_rd _) (self_rd A S1) rdV_blt ?_
    rw [hrd1, rdV_some]
    refine ⟨TyW_list (l := A.r) (m1 (SL_rd hrd1 _)), ?_⟩
    repeat k_ownIn
    with_reducible refine CallW_clear (l := A.r) (m1 (SL_rd hrd1 _)) (by rw [txs_len]; (first | lia | omega)) (.there (SL_updRd (l' := []) hrd1 _)) ?_
    refine ⟨fun x e => (by cases e), ?_⟩
    repeat k_ownIn
    with_reducible refine GetAW_inst ok' (m1 (SL_inst A _ _)) (m1 (SL_self A _ _)) (at_ps _) (self_ps A _) (fun n e => by cases e) ?_
    repeat k_ownIn
    with_reducible refine CallW_lenTup m0 rfl (by rw [txs_len]; (first | lia | omega)) ?_
    repeat k_ownIn
    with_reducible refine SetAW_inst ok' (m1 (SL_inst A _ _)) (m1 (SL_self A _ _)) (st_ps _) (by simp [selfE]) (.there (by rw [self_putPs]; exact SL_updPs _)) ?_
    repeat k_ownIn
    rw [txs_len, ← hS1]
    exact h T

-- is_active
noncomputable abbrev pnAc : List Str := ["self"]
theorem foAc (w : World) : FnOk (fdAt w 106) pnAc [] [] := fnOk_of (by kernel_rfl)
theorem loAc (w : World) : (KH w).lookup 106 = some ⟨.type "function", none, .func (fdAt w 106), #[]⟩ := by kernel_rfl
theorem cdAc (w : World) : codeIn (KH w) (fdAt w 106).code (fdAt w 106).qualname = true := by kernel_rfl
theorem boAc (w : World) : (fdAt w 106).body = .stmts (bodyOf (fdAt w 106).body) := by kernel_rfl
theorem biAc (w : World) (vs : List Value) (h : vs.length = 1) : bindArgs (fdAt w 106) ⟨vs, []⟩ = pure (pnAc.zip vs) := by
  obtain ⟨a, rfl⟩ := len1 h
  kernel_rfl
theorem CallW_isactive {C : Cx} {vals : Vals} {k : Nat} {A : SA} {S : SS} {R : Ledger} {l : List Nat} {K : AV → Vals → Ledger → Prop} (ok : COk C (k + 1)) (hrd : S.rd = some l) (hll : l.length ≤ 100)
    (h : K (.bool (decide (S.fi < S.ps) || !l.isEmpty)) vals (SL A S ++ R)) : CallW C (.ref 106) [.ref A.x] vals (SL A S ++ R) K := by
  refine CallW_def (names := pnAc) ok (foAc _) rfl (loAc _) (cdAc _) (boAc _) rfl (fun vs h => biAc _ vs h) fun B0 outs L ok' aw => ?_
  conv in bodyOf _ => whnf
  show ExsW _ _ [some (.ref A.x)] _ _
  repeat k_ownIn
  with_reducible refine GetAW_inst ok' (SL_inst A S _) (SL_self A S _) (at_rd _) (self_rd A S) rdV_blt ?_
  rw [hrd, rdV_some]
  repeat k_ownIn
  refine IteP (fun hb => by cases hb) fun hb => ?_
  repeat k_ownIn
  with_reducible refine EvW_Or2 ?_
  repeat k_ownIn
  with_reducible refine GetAW_inst ok' (SL_inst A S _) (SL_self A S _) (at_fi _) (self_fi A S) (fun n e => by cases e) ?_
  repeat k_ownIn
  with_reducible refine GetAW_inst ok' (SL_inst A S _) (SL_self A S _) (at_ps _) (self_ps A S) (fun n e => by cases e) ?_
  repeat k_ownIn
  refine IteP (fun hb => ?_) fun hb => ?_
  · repeat k_ownIn
    rw [hb] at h ⊢
    exact h
  · repeat k_ownIn
    with_reducible refine GetAW_inst ok' (SL_inst A S _) (SL_self A S _) (at_rd _) (self_rd A S) rdV_blt ?_
    rw [hrd, rdV_some]
    repeat k_ownIn
    with_reducible refine CallW_boolList (l := A.r) (SL_rd hrd _) (by rw [txs_len]; (first | lia | omega)) ?_
    repeat k_ownIn
    rw [hb, Bool.false_or] at h
    rw [show (txs l).isEmpty = l.isEmpty by cases l <;> rfl]
    exact h

-- part F12
-- done
noncomputable abbrev pnDn : List Str := ["self", "nodes"]
noncomputable abbrev lsDn : List Str := ["n2i", "node", "nodeinfo", "stat", "successor", "successor_info"]
noncomputable abbrev nmDn : List Str := ["self", "nodes", "n2i", "node", "nodeinfo", "stat", "successor", "successor_info"]
theorem foDn (w : World) : FnOk (fdAt w 120) pnDn lsDn [] := fnOk_of (by kernel_rfl)
theorem loDn (w : World) : (KH w).lookup 120 = some ⟨.type "function", none, .func (fdAt w 120), #[]⟩ := by kernel_rfl
theorem cdDn (w : World) : codeIn (KH w) (fdAt w 120).code (fdAt w 120).qualname = true := by kernel_rfl
theorem boDn (w : World) : (fdAt w 120).body = .stmts (bodyOf (fdAt w 120).body) := by kernel_rfl
theorem biDn (w : World) (vs us : List Value) (h : vs.length = 1) (hu : us.length ≤ 6) : bindArgs (fdAt w 120) ⟨vs ++ us, []⟩ = (newTuple us >>= fun T => pure (pnDn.zip (vs ++ [T]))) := by
  match vs, h, us, hu with
  | [a], _, [], _ => kernel_rfl
  | [a], _, [c], _ => kernel_rfl
  | [a], _, [c, d], _ => kernel_rfl
  | [a], _, [c, d, e], _ => kernel_rfl
  | [a], _, [c, d, e, f], _ => kernel_rfl
  | [a], _, [c, d, e, f, g], _ => kernel_rfl
  | [a], _, [c, d, e, f, g, i], _ => kernel_rfl
  | [a], _, _ :: _ :: _ :: _ :: _ :: _ :: _ :: _, h => simp at h
noncomputable def decS (S : SS) (s : Nat) : SS := { S with np := put S.np s (S.np s - 1), rd := if S.np s - 1 = 0 then S.rd.map (· ++ [s]) else S.rd }
noncomputable def doneN (S : SS) (j : Nat) : SS := { (S.su j).foldl decS { S with np := put S.np j (-2) } with fi := S.fi + 1 }
theorem fold_decS : ∀ (l : List Nat) (S : SS), (l.foldl decS S).nodes = S.nodes ∧ (l.foldl decS S).su = S.su ∧ (l.foldl decS S).fi = S.fi ∧ (l.foldl decS S).ps = S.ps ∧ (l.foldl decS S).ep = S.ep
  | [], S => ⟨rfl, rfl, rfl, rfl, rfl⟩
  | s :: r, S => fold_decS r (decS S s)
theorem doneN_same (S : SS) (j : Nat) : (doneN S j).nodes = S.nodes ∧ (doneN S j).su = S.su ∧ (doneN S j).ps = S.ps ∧ (doneN S j).ep = S.ep := by
  obtain ⟨a, b, c, d, e⟩ := fold_decS (S.su j) { S with np := put S.np j (-2) }
  exact ⟨a, b, d, e⟩
theorem fold_doneN : ∀ (l : List Nat) (S : SS), (l.foldl doneN S).nodes = S.nodes ∧ (l.foldl doneN S).su = S.su
  | [], S => ⟨rfl, rfl⟩
  | s :: r, S => by
    obtain ⟨a, b⟩ := fold_doneN r (doneN S s)
    obtain ⟨c, d, _⟩ := doneN_same S s
    exact ⟨a.trans c, b.trans d⟩

noncomputable abbrev Iv12c1 (A : SA) (R : Ledger) (js : List Nat) (T : Addr) (i : Nat) (j : Nat) (S1 : SS) : Nat → Vals → Ledger → Prop := (fun i2 v ld => Ex4 fun (S2 : SS) (l2 : List Nat) (y1 y2 : Option AV) => An5 (v = [some (.ref A.x), some (.ref T), some (.ref A.n), some (.str (lt j)), some (.ref (A.ia j)), some (.int (-1)), y1, y2]) (ld = SL A S2 ++ (T, .tup (txs js)) :: R) (S2.rd = some l2) (l2.length ≤ 100 + 6 * i + i2) (S2 = ((S1.su j).take i2).foldl decS S1))
noncomputable abbrev Iv12c0 (A : SA) (S : SS) (R : Ledger) (js : List Nat) (T : Addr) : Nat → Vals → Ledger → Prop := (fun i v ld => Ex7 fun (S' : SS) (l' : List Nat) (x1 x2 x3 x4 x5 : Option AV) => An5 (v = [some (.ref A.x), some (.ref T), some (.ref A.n), x1, x2, x3, x4, x5]) (ld = SL A S' ++ (T, .tup (txs js)) :: R) (S'.rd = some l') (l'.length ≤ 100 + 6 * i) (S' = (js.take i).foldl doneN S))
theorem CodeW_done {C : Cx} {vals : Vals} {k : Nat} {A : SA} {S : SS} {R : Ledger} {js l : List Nat} {K : AV → Vals → Ledger → Prop} (ok : COk C (k + 1)) (hS : SOk S) (hrd : S.rd = some l) (hll : l.length ≤ 100) (hjl : js.length ≤ 6)
    (hj : ∀ j ∈ js, j ∈ S.nodes) (hsu : ∀ j ∈ js, (S.su j).length ≤ 6 ∧ ∀ s ∈ S.su j, s ∈ S.nodes) (hout : ∀ (i j : Nat), js[i]? = some j → ((js.take i).foldl doneN S).np j = -1)
    (h : K .none vals (SL A (js.foldl doneN S) ++ R)) : CodeW C (.ref 120) ([.ref A.x] ++ txs js) vals (SL A S ++ R) K := by
  have hl : (txs js).length ≤ 6 := by rw [txs_len]; exact hjl
  refine CodeW_defV (names := nmDn) ok (foDn _) rfl (loDn _) (cdDn _) (boDn _) rfl (by (first | lia | omega)) (fun vs us h1 h2 => biDn _ vs us h1 (by (first | lia | omega))) fun T B0 outs L ok' aw => ?_
  conv in bodyOf _ => whnf
  show ExsW _ _ [some (.ref A.x), some (.ref T), none, none, none, none, none, none] _ _
  refine TW.perm List.perm_middle ?_
  repeat k_ownIn
  with_reducible refine GetAW_inst ok' (SL_inst A S _) (SL_self A S _) (at_rd _) (self_rd A S) rdV_blt ?_
  rw [hrd, rdV_some]
  repeat k_ownIn
  refine IteP (fun hb => by cases hb) fun hb => ?_
  repeat k_ownIn
  with_reducible refine GetAW_inst ok' (SL_inst A S _) (SL_self A S _) (at_n2i _) (self_n2i A S) (fun n e => by cases e) ?_
  repeat k_ownIn
  with_reducible refine ExFor ok' (fun _ => by with_unfolding_all rfl) ?_
  repeat k_ownIn
  with_reducible refine It_tup Plain.name ok' (List.mem_append_right _ m0) ?_
  refine ForT_vals (Iv12c0 A S R js T)
    ⟨S, l, none, none, none, none, none, rfl, rfl, hrd, hll, rfl⟩ (fun i v ld ⟨S', l', x1, x2, x3, x4, x5, e1, e2, _, _, _⟩ => e2 ▸ List.mem_append_right _ m0) ?_ ?_
  · intro i a v ld B hx hG6 okB
    refine hide fun PG kG => ?_
    obtain ⟨S', l', x1, x2, x3, x4, x5, rfl, rfl, hrd', hl', hfold⟩ := hG6
    refine kG ?_
    clear kG PG
    have awB : ((CG 120 nmDn [] C B0 outs L).base B).AllWr := aw
    refine hide fun PG kG => ?_
    obtain ⟨j, hjx, rfl⟩ := txs_get hx
    refine kG ?_
    clear kG PG
    have hi : i < js.length := (List.getElem?_eq_some_iff.mp hjx).1
    have hjm := List.mem_of_getElem? hjx
    refine hide fun PG kG => ?_
    obtain ⟨fn, fs⟩ := fold_doneN (js.take i) S
    refine kG ?_
    clear kG PG
    rw [← hfold] at fn fs
    have hnode : j ∈ S'.nodes := fn ▸ hj j hjm
    have hnd : S'.nodes.Nodup := fn ▸ hS.nd
    have hnp : S'.np j = -1 := by rw [hfold]; exact hout i j hjx
    refine hide fun PG kG => ?_
    obtain ⟨hsl, hss⟩ := hsu j hjm
    refine kG ?_
    clear kG PG
    rw [← fs] at hsl hss
    rw [← fn] at hss
    repeat k_ownIn
    with_reducible refine EvW_MethB PySem.F.plainAttrs_dict PySem.F.slot_dict_get PySem.F.type_dict_get (by with_unfolding_all rfl) ?_
    repeat k_ownIn
    refine ⟨TyW_dict (SL_n2i A S' _), ?_⟩
    repeat k_ownIn
    with_reducible refine CallW_dictGet okB (SL_n2i A S' _) ?_
    rw [n2i_get, if_pos hnode]
    show AsgW _ _ (.ref (A.ia j)) _ _ _
    repeat k_ownIn
    refine IteP (fun hb => by cases hb) fun hb => ?_
    repeat k_ownIn
    with_reducible refine GetAW_slot okB (SL_info hnode _) (SL_idict hnode _) (sg_np _) rfl (fun n e => by cases e) ?_
    repeat k_ownIn
    rw [hnp]
    refine IteP (fun hb => by cases hb) fun hb => ?_
    repeat k_ownIn
    with_reducible refine SetAW_slot okB (SL_info hnode _) (SL_idict hnode _) (ss_np _) (by decide) (SL_updNp hnode hnd _) ?_
    generalize hS1 : ({ S' with np := put S'.np j (-2) } : SS) = S1
    revert S1
    refine keepAll ?_
    intro S1
    set_option tactic.hygienic false in intros
    have s1n : S1.nodes = S'.nodes := by rw [← hS1]
    have s1s : S1.su = S'.su := by rw [← hS1]
    have s1r : S1.rd = some l' := by rw [← hS1]; exact hrd'
    have s1f : S1.fi = S'.fi := by rw [← hS1]
    repeat k_ownIn
    with_reducible refine ExFor okB (fun _ => by with_unfolding_all rfl) ?_
    repeat k_ownIn
    have hn1 : j ∈ S1.nodes := s1n ▸ hnode
    with_reducible refine GetAW_slot okB (SL_info hn1 _) (SL_idict hn1 _) (sg_su _) rfl (fun n e => by cases e) ?_
    with_reducible refine It_list Plain.name okB (SL_succ hn1 _) ?_
    refine ForT_vals (Iv12c1 A R js T i j S1)
      ⟨S1, l', _, _, rfl, rfl, s1r, hl', rfl⟩ (fun i2 v ld ⟨S2, l2, y1, y2, e1, e2, _, _, e3⟩ => by
        subst e2
        obtain ⟨q1, q2, _⟩ := fold_decS ((S1.su j).take i2) S1
        rw [← e3] at q1 q2
        have := SL_succ (A := A) (S := S2) (j := j) (by rw [q1]; exact hn1) ((T, .tup (txs js)) :: R)
        rw [q2] at this
        exact this) ?_ ?_
    · intro i2 a v ld B2 hx2 hG6 okB2
      refine hide fun PG kG => ?_
      obtain ⟨S2, l2, y1, y2, rfl, rfl, hrd2, hl2, hfold2⟩ := hG6
      refine kG ?_
      clear kG PG
      have awB2 : (((CG 120 nmDn [] C B0 outs L).base B).base B2).AllWr := aw
      refine hide fun PG kG => ?_
      obtain ⟨p, hp, rfl⟩ := txs_get hx2
      refine kG ?_
      clear kG PG
      have hi2 : i2 < (S1.su j).length := (List.getElem?_eq_some_iff.mp hp).1
      refine hide fun PG kG => ?_
      obtain ⟨q1, q2, q3, _⟩ := fold_decS ((S1.su j).take i2) S1
      refine kG ?_
      clear kG PG
      rw [← hfold2] at q1 q2 q3
      have hpn : p ∈ S2.nodes := by
        rw [q1, s1n]; exact hss p (by rw [← s1s]; exact List.mem_of_getElem? hp)
      have hnd2 : S2.nodes.Nodup := by rw [q1, s1n]; exact hnd
      have hl6 : (S1.su j).length ≤ 6 := by rw [s1s]; exact hsl
      repeat k_ownIn
      with_reducible refine SubW_dict (SL_n2i A _ _) (by rw [n2i_get, if_pos hpn]) (fun _ _ => by with_unfolding_all rfl) ?_
      repeat k_ownIn
      with_reducible refine GetAW_slot okB2 (SL_info hpn _) (SL_idict hpn _) (sg_np _) rfl (fun n e => by cases e) ?_
      repeat k_ownIn
      with_reducible refine SetAW_slot okB2 (SL_info hpn _) (SL_idict hpn _) (ss_np _) (by decide) (SL_updNp hpn hnd2 _) ?_
      generalize hS3 : ({ S2 with np := put S2.np p (S2.np p - 1) } : SS) = S3
      revert S3
      refine keepAll ?_
      intro S3
      set_option tactic.hygienic false in intros
      have s3n : p ∈ S3.nodes := by rw [← hS3]; exact hpn
      have s3p : S3.np p = S2.np p - 1 := by rw [← hS3]; exact put_at _ _ _
      have s3r : S3.rd = some l2 := by rw [← hS3]; exact hrd2
      repeat k_ownIn
      with_reducible refine GetAW_slot okB2 (SL_info s3n _) (SL_idict s3n _) (sg_np _) rfl (fun n e => by cases e) ?_
      repeat k_ownIn
      have hnext : ((S1.su j).take (i2 + 1)).foldl decS S1 = decS S2 p := by
        rw [List.take_add_one, hp, List.foldl_append, ← hfold2]; rfl
      refine IteP (fun hb => ?_) fun hb => ?_
      · have hz : S2.np p - 1 = 0 := by rw [← s3p]; exact of_decide_eq_true hb
        repeat k_ownIn
        with_reducible refine EvW_MethB PySem.F.plainAttrs_list PySem.F.slot_list_append PySem.F.type_list_append (by with_unfolding_all rfl) ?_
        repeat k_ownIn
        with_reducible refine GetAW_inst okB2 (SL_inst A S3 _) (SL_self A S3 _) (at_rd _) (self_rd A S3) rdV_blt ?_
        rw [s3r, rdV_some]
        refine ⟨TyW_list (l := A.r) (SL_rd s3r _), ?_⟩
        repeat k_ownIn
        with_reducible refine CallW_append (l := A.r) (SL_rd s3r _) (by rw [txs_len]; (first | lia | omega)) (by rw [txs_app]; exact SL_updRd s3r _) ?_
        refine ⟨fun x e => (by cases e), ?_⟩
        repeat k_ownIn
        refine ForTurn_next ⟨decS S2 p, l2 ++ [p], _, _, rfl, ?_, ?_, by simp; (first | lia | omega), hnext.symm⟩
        · rw [← hS3]; unfold decS; rw [if_pos hz, hrd2]; rfl
        · unfold decS; rw [if_pos hz, hrd2]; rfl
      · have hz : S2.np p - 1 ≠ 0 := by rw [← s3p]; exact of_decide_eq_false hb
        repeat k_ownIn
        refine ForTurn_next ⟨decS S2 p, l2, _, _, rfl, ?_, ?_, by (first | lia | omega), hnext.symm⟩
        · rw [← hS3]; unfold decS; rw [if_neg hz]
        · unfold decS; rw [if_neg hz]; exact hrd2
    · intro v ld hG2
      refine hide fun PG kG => ?_
      obtain ⟨S2, l2, y1, y2, rfl, rfl, hrd2, hl2, hfold2⟩ := hG2
      refine kG ?_
      clear kG PG
      rw [txs_len, List.take_length] at hfold2
      have hl6 : (S1.su j).length ≤ 6 := by rw [s1s]; exact hsl
      refine hide fun PG kG => ?_
      obtain ⟨q1, q2, q3, _⟩ := fold_decS (S1.su j) S1
      refine kG ?_
      clear kG PG
      rw [← hfold2] at q1 q2 q3
      repeat k_ownIn
      with_reducible refine GetAW_inst okB (SL_inst A _ _) (SL_self A _ _) (at_fi _) (self_fi A _) (fun n e => by cases e) ?_
      repeat k_ownIn
      with_reducible refine SetAW_inst okB (SL_inst A _ _) (SL_self A _ _) (st_fi _) (by simp [selfE]) (by rw [self_putFi]; exact SL_updFi _) ?_
      repeat k_ownIn
      refine ForTurn_next ⟨doneN S' j, l2, _, _, _, _, _, rfl, ?_, ?_, by rw [txs_len] at hl2; (first | lia | omega), ?_⟩
      · unfold doneN; rw [hS1, ← s1s, ← hfold2, q3, s1f]
      · unfold doneN; rw [hS1, ← s1s, ← hfold2]; exact hrd2
      · rw [List.take_add_one, hjx, List.foldl_append, ← hfold]; rfl
  · intro v ld hG2
    refine hide fun PG kG => ?_
    obtain ⟨S', l', x1, x2, x3, x4, x5, rfl, rfl, hrd', hl', hfold⟩ := hG2
    refine kG ?_
    clear kG PG
    refine SeqK_next (TW.sub (List.Sublist.append_left (List.sublist_cons_self _ _) _) (ExsW_nil ?_))
    rw [txs_len, List.take_length] at hfold
    rw [hfold]
    exact h

-- part F13
-- _find_cycle
noncomputable abbrev pnFc : List Str := ["self"]
noncomputable abbrev lsFc : List Str := ["n2i", "stack", "itstack", "seen", "node2stacki", "node"]
noncomputable abbrev nmFc : List Str := ["self", "n2i", "stack", "itstack", "seen", "node2stacki", "node"]
theorem foFc (w : World) : FnOk (fdAt w 127) pnFc lsFc [] := fnOk_of (by kernel_rfl)
theorem loFc (w : World) : (KH w).lookup 127 = some ⟨.type "function", none, .func (fdAt w 127), #[]⟩ := by kernel_rfl
theorem cdFc (w : World) : codeIn (KH w) (fdAt w 127).code (fdAt w 127).qualname = true := by kernel_rfl
theorem boFc (w : World) : (fdAt w 127).body = .stmts (bodyOf (fdAt w 127).body) := by kernel_rfl
theorem biFc (w : World) (vs : List Value) (h : vs.length = 1) : bindArgs (fdAt w 127) ⟨vs, []⟩ = pure (pnFc.zip vs) := by
  obtain ⟨a, rfl⟩ := len1 h
  kernel_rfl
structure Ranked (S : SS) (rk : Nat → Nat) : Prop where
  su : ∀ j ∈ S.nodes, (S.su j).length ≤ 6 ∧ ∀ s ∈ S.su j, s ∈ S.nodes ∧ rk s < rk j
structure FOk (S : SS) (rk : Nat → Nat) (fr : List Fm) : Prop where
  node : ∀ f ∈ fr, f.node ∈ S.nodes
  chain : fr.Pairwise fun a b => rk a.node < rk b.node
noncomputable abbrev DL (w : World) (A : SA) (S : SS) (R : Ledger) (st it se n2 : Addr) (sn : List Nat) (fr : List Fm) : Ledger :=
  (n2, .dict (nE (nds fr)) none) :: (se, .pred (SetO w (sn.map lt))) :: (it, .list (mws fr)) :: (st, .list (txs (nds fr))) :: (IL A fr ++ (SL A S ++ R))
theorem FOk.notin {S : SS} {rk : Nat → Nat} {fr : List Fm} {c : Nat} (h : ∀ f ∈ fr, rk c < rk f.node) : c ∉ nds fr := fun hm => by
  obtain ⟨f, hf, e⟩ := nds_mem.mp hm
  have := h f hf
  rw [e] at this
  (first | lia | omega)
theorem sn_in {sn : List Nat} {c : Nat} : (lt c ∈ sn.map lt) ↔ c ∈ sn := by
  refine ⟨fun h => ?_, fun h => List.mem_map_of_mem h⟩
  obtain ⟨i, hi, e⟩ := List.mem_map.mp h
  have := lt_inj e
  subst this
  exact hi
theorem FOk.len {S : SS} {rk : Nat → Nat} {fr : List Fm} (h : FOk S rk fr) (hS : SOk S) : fr.length ≤ 6 := by
  have hn : (nds fr).Nodup := by
    unfold nds
    rw [List.map_reverse]
    refine (List.reverse_perm _).nodup_iff.mpr ?_
    refine List.Pairwise.map _ (fun a b hab => ?_) h.chain
    intro e; rw [e] at hab; (first | lia | omega)
  have : (nds fr).length ≤ (List.range 6).length := List.Nodup.length_le_of_subset hn fun j hj => by
    obtain ⟨f, hf, e⟩ := nds_mem.mp hj
    exact List.mem_range.mpr (hS.lt6 j (e ▸ h.node f hf))
  rw [nds_len] at this
  simpa using this

theorem TyW_set {C : Cx} {vals : Vals} {led : Ledger} {a : Addr} {xs : List Str} (hm : (a, AO.pred (SetO C.w xs)) ∈ led) : TyW C (.ref a) "set" vals led := by
  rintro _ rfl s hs
  obtain ⟨o, ho, S, n, hn, hS, hO⟩ := pred_get hs hm
  obtain ⟨o', es, ep, t, ho', hx, _⟩ := hO _ _ ho
  rw [ho] at ho'; cases ho'
  obtain ⟨h1, h2, h3⟩ := hx
  exact ⟨⟨o, ho, h1⟩, fun x e => by cases e; exact ⟨o, ho, h2⟩⟩
theorem apart {P Q : Ledger} {q : Addr × AO} (h : ((P ++ q :: Q).map (·.1)).Nodup) : ∀ p ∈ P ++ Q, p.1 ≠ q.1 := by
  rw [List.map_append, List.map_cons, List.nodup_append, List.nodup_cons] at h
  intro p hp e
  rcases List.mem_append.mp hp with hp | hp
  · exact h.2.2 p.1 (List.mem_map_of_mem hp) q.1 (List.mem_cons_self) e
  · exact h.2.1.1 (e ▸ List.mem_map_of_mem hp)
noncomputable abbrev Iv13c3 (C : Cx) (A : SA) (S : SS) (R : Ledger) (rk : Nat → Nat) (st : Addr) (it : Addr) (se : Addr) (n2 : Addr) (n : Nat) (sn : List Nat) : Nat → Vals → Ledger → Prop := (fun m v ld => Ex2 fun (c : Nat) (fr : List Fm) => An5 (v = [some (.ref A.x), some (.ref A.n), some (.ref st), some (.ref it), some (.ref se), some (.ref n2), some (.str (lt c))]) (ld = DL C.w A S R st it se n2 sn fr) (FOk S rk fr) (unS S sn + frS S fr ≤ n) (m = fr.length))
noncomputable abbrev Iv13c2 (C : Cx) (A : SA) (S : SS) (R : Ledger) (rk : Nat → Nat) (st : Addr) (it : Addr) (se : Addr) (n2 : Addr) (n : Nat) (c : Nat) : Vals → Ledger → Prop := (fun v ld => Ex2 fun (sn : List Nat) (fr : List Fm) => An6 (v = [some (.ref A.x), some (.ref A.n), some (.ref st), some (.ref it), some (.ref se), some (.ref n2), some (.str (lt c))]) (ld = DL C.w A S R st it se n2 sn fr) (sn.Nodup) ((∀ j ∈ sn, j ∈ S.nodes)) (FOk S rk fr) (unS S sn + frS S fr ≤ n))
noncomputable abbrev Iv13c1 (C : Cx) (A : SA) (S : SS) (R : Ledger) (rk : Nat → Nat) (st : Addr) (it : Addr) (se : Addr) (n2 : Addr) : Nat → Vals → Ledger → Prop := (fun n v ld => Ex3 fun (c : Nat) (sn : List Nat) (fr : List Fm) => An8 (v = [some (.ref A.x), some (.ref A.n), some (.ref st), some (.ref it), some (.ref se), some (.ref n2), some (.str (lt c))]) (ld = DL C.w A S R st it se n2 sn fr) (c ∈ S.nodes) (sn.Nodup) ((∀ j ∈ sn, j ∈ S.nodes)) (FOk S rk fr) ((∀ f ∈ fr, rk c < rk f.node)) (n = unS S sn + frS S fr))
noncomputable abbrev Iv13c0 (C : Cx) (A : SA) (S : SS) (R : Ledger) (st : Addr) (it : Addr) (se : Addr) (n2 : Addr) : Nat → Vals → Ledger → Prop := (fun i v ld => Ex2 fun (sn : List Nat) (x : Option AV) => An4 (v = [some (.ref A.x), some (.ref A.n), some (.ref st), some (.ref it), some (.ref se), some (.ref n2), x]) (ld = DL C.w A S R st it se n2 sn []) (sn.Nodup) (∀ j ∈ sn, j ∈ S.nodes))
theorem CallW_findcycle {C : Cx} {vals : Vals} {k : Nat} {A : SA} {S : SS} {R : Ledger} {rk : Nat → Nat} {ep : Nat} {K : AV → Vals → Ledger → Prop} (ok : COk C (k + 1)) (hS : SOk S) (hep : S.ep = some ep) (hrk : Ranked S rk)
    (h : K .none vals (SL A S ++ R)) : CallW C (.ref 127) [.ref A.x] vals (SL A S ++ R) K := by
  refine CallW_def (names := nmFc) ok (foFc _) rfl (loFc _) (cdFc _) (boFc _) rfl (fun vs h => biFc _ vs h) fun B0 outs L ok' aw => ?_
  conv in bodyOf _ => whnf
  show ExsW _ _ [some (.ref A.x), none, none, none, none, none, none] _ _
  refine hide fun PG kG => ?_
  obtain ⟨fs0, hfs0⟩ : ∃ fs0, C.A.frames = some fs0 := by
    obtain ⟨fs, hfs, _⟩ := ok.frames
    exact ⟨fs, hfs⟩
  refine kG ?_
  clear kG PG
  have hfr : ∀ B, ((CG 127 nmFc [] C B0 outs L).base B).A.frames = some (((CG 127 nmFc [] C B0 outs L).base B).env :: fs0) := fun B => Around.frames_deeper hfs0
  repeat k_ownIn
  with_reducible refine GetAW_inst ok' (SL_inst A S _) (SL_self A S _) (at_n2i _) (self_n2i A S) (fun n e => by cases e) ?_
  repeat k_ownIn
  with_reducible refine EvW_List (by decide) ?_
  repeat k_ownIn
  refine ⟨by decide, fun st => ?_⟩
  repeat k_ownIn
  with_reducible refine EvW_List (by decide) ?_
  repeat k_ownIn
  refine ⟨by decide, fun it => ?_⟩
  repeat k_ownIn
  with_reducible refine CallW_set0 ?_
  intro se
  repeat k_ownIn
  intro n2
  repeat k_ownIn
  show ExW _ _ _ (DL C.w A S R st it se n2 [] []) _
  with_reducible refine ExFor ok' (fun _ => by with_unfolding_all rfl) ?_
  repeat k_ownIn
  have n2iM : ∀ sn fr, (A.n, AO.dict (n2iE A S.nodes) (some ep)) ∈ DL C.w A S R st it se n2 sn fr := fun sn fr => m1 (m1 (m1 (m1 (List.mem_append_right _ (hep ▸ SL_n2i A S R)))))
  with_reducible refine It_dict Plain.name ok' (n2iM _ _) ?_
  have ex : (n2iE A S.nodes).map (fun e => IT.val (.str e.1)) = (txs S.nodes).map IT.val := by simp [n2iE, txs]
  rw [ex]
  refine ForT_vals (Iv13c0 C A S R st it se n2)
    ⟨[], none, rfl, rfl, List.nodup_nil, fun j hj => by cases hj⟩ (fun i v ld ⟨sn, x, e1, e2, _, _⟩ => e2 ▸ n2iM _ _) ?_ ?_
  · intro i a v ld B hx hG6 okB
    refine hide fun PG kG => ?_
    obtain ⟨sn, x, rfl, rfl, hsn, hsnn⟩ := hG6
    refine kG ?_
    clear kG PG
    have awB : ((CG 127 nmFc [] C B0 outs L).base B).AllWr := aw
    refine hide fun PG kG => ?_
    obtain ⟨c, hc, rfl⟩ := txs_get hx
    refine kG ?_
    clear kG PG
    have hcn : c ∈ S.nodes := List.mem_of_getElem? hc
    repeat k_ownIn
    with_reducible refine CmpW_inSet (m1 m0) ?_
    repeat k_ownIn
    refine IteP (fun hb => ?_) fun hb => ?_
    · repeat k_ownIn
      exact ForTurn_cont ⟨sn, _, rfl, rfl, hsn, hsnn⟩
    · have hcs : c ∉ sn := fun q => by
        have := of_decide_eq_false hb
        exact this (sn_in.mpr q)
      repeat k_ownIn
      refine ExWhile (Iv13c1 C A S R rk st it se n2) _
        ⟨c, sn, [], rfl, rfl, hcn, hsn, hsnn, ⟨fun f hf => absurd hf List.not_mem_nil, List.Pairwise.nil⟩, fun f hf => absurd hf List.not_mem_nil, rfl⟩ ?_
      clear hc hcn hsn hsnn hcs hb hx
      intro n v ld hG3
      refine hide fun PG kG => ?_
      obtain ⟨c, sn, fr, rfl, rfl, hcn, hsn, hsnn, hfo, hlow, hn⟩ := hG3
      refine kG ?_
      clear kG PG
      have hfl := hfo.len hS
      have hnin : c ∉ nds fr := FOk.notin (S := S) hlow
      with_reducible refine TrW_plain (by with_unfolding_all rfl) ?_
      repeat k_ownIn
      refine IteP (fun _ => ?_) fun hb => by cases hb
      k_ownIn
      -- the node is pushed, unless it is seen
      refine ExW_cut (Iv13c2 C A S R rk st it se n2 n c) ?_ ?_
      · repeat k_ownIn
        with_reducible refine CmpW_inSet (m1 m0) ?_
        repeat k_ownIn
        refine IteP (fun hb => ?_) fun hb => ?_
        · repeat k_ownIn
          with_reducible refine CmpW_inDict okB m0 ?_
          rw [nE_get hnin]
          repeat k_ownIn
          refine IteP (fun hb => by cases hb) fun hb => ?_
          repeat k_ownIn
          exact ⟨sn, fr, rfl, rfl, hsn, hsnn, hfo, by (first | lia | omega)⟩
        · have hcs : c ∉ sn := fun q => (of_decide_eq_false hb) (sn_in.mpr q)
          have hsl : sn.length ≤ 6 := by
            have : sn.length ≤ (List.range 6).length := List.Nodup.length_le_of_subset hsn fun j hj => List.mem_range.mpr (hS.lt6 j (hsnn j hj))
            simpa using this
          repeat k_ownIn
          with_reducible refine EvW_MethB PySem.F.plainAttrs_set PySem.F.slot_set_add PySem.F.type_set_add (by with_unfolding_all rfl) ?_
          repeat k_ownIn
          refine ⟨TyW_set (m1 m0), ?_⟩
          repeat k_ownIn
          with_reducible refine CallW_setAdd (m1 m0) (by rw [List.length_map]; (first | lia | omega)) (.there .here) ?_
          refine ⟨fun x e => (by cases e), ?_⟩
          repeat k_ownIn
          with_reducible refine EvW_MethB PySem.F.plainAttrs_list PySem.F.slot_list_append PySem.F.type_list_append (by with_unfolding_all rfl) ?_
          repeat k_ownIn
          refine ⟨TyW_list (m1 (m1 m0)), ?_⟩
          repeat k_ownIn
          with_reducible refine SubW_dict (m1 (m1 (m1 (m1 (List.mem_append_right _ (SL_n2i A S R)))))) (by rw [n2i_get, if_pos hcn]) (fun _ _ => by with_unfolding_all rfl) ?_
          with_reducible refine GetAW_slot okB (m1 (m1 (m1 (m1 (List.mem_append_right _ (SL_info hcn R)))))) (m1 (m1 (m1 (m1 (List.mem_append_right _ (SL_idict hcn R)))))) (sg_su _) rfl (fun n e => by cases e) ?_
          repeat k_ownIn
          with_reducible refine CallW_iter (m1 (m1 (m1 (m1 (List.mem_append_right _ (SL_succ hcn R)))))) ?_
          intro ia
          with_reducible refine GetAW_next m0 ?_
          intro mw
          repeat k_ownIn
          with_reducible refine CallW_append (m1 (m1 (m1 (m1 m0)))) (by unfold mws; rw [List.length_map, List.length_reverse]; (first | lia | omega)) (.there (.there (.there (.there .here)))) ?_
          refine ⟨fun x e => (by cases e), ?_⟩
          repeat k_ownIn
          with_reducible refine CallW_lenList (m1 (m1 (m1 (m1 (m1 m0))))) (by rw [txs_len, nds_len]) (by (first | lia | omega)) ?_
          repeat k_ownIn
          with_reducible refine SetW_dict (m1 (m1 m0)) (by rw [nE_len, nds_len]; (first | lia | omega)) (.there (.there .here)) ?_
          rw [← nds_len fr, nE_put hnin]
          repeat k_ownIn
          with_reducible refine EvW_MethB PySem.F.plainAttrs_list PySem.F.slot_list_append PySem.F.type_list_append (by with_unfolding_all rfl) ?_
          repeat k_ownIn
          refine ⟨TyW_list (m1 (m1 (m1 (m1 (m1 m0))))), ?_⟩
          repeat k_ownIn
          with_reducible refine CallW_append (m1 (m1 (m1 (m1 (m1 m0))))) (by rw [txs_len, nds_len]; (first | lia | omega)) (.there (.there (.there (.there (.there .here))))) ?_
          refine ⟨fun x e => (by cases e), ?_⟩
          have hpm : (DL C.w A S R st it se n2 (sn ++ [c]) (⟨c, 0, mw, ia⟩ :: fr)).Perm ((mw, .raw (MW ia)) :: (ia, .raw (LIt (A.is c) 0)) :: (n2, .dict (nE (nds fr ++ [c])) none) :: (se, .pred (SetO C.w (sn.map lt ++ [lt c]))) :: (it, .list (mws fr ++ [.ref mw])) :: (st, .list (txs (nds fr) ++ [.str (lt c)])) :: (IL A fr ++ (SL A S ++ R))) := by
            unfold DL
            rw [nds_cons, mws_cons, txs_app, List.map_append, IL_cons]
            refine List.Perm.trans (List.perm_middle (l₁ := [_, _, _, _])) ?_
            exact List.Perm.cons _ (List.perm_middle (l₁ := [_, _, _, _]))
          k_ownIn
          refine TW.perm hpm ?_
          repeat k_ownIn
          have hup := unS_push hS.nd hcn hcs
          refine ⟨sn ++ [c], ⟨c, 0, mw, ia⟩ :: fr, rfl, rfl, ?_, ?_, ⟨?_, ?_⟩, ?_⟩
          · rw [List.nodup_append]
            exact ⟨hsn, by simp, fun a ha b hb => by simp at hb; subst hb; exact fun q => hcs (q ▸ ha)⟩
          · intro j hj
            rcases List.mem_append.mp hj with q | q
            · exact hsnn j q
            · simp at q; subst q; exact hcn
          · intro f hf
            rcases List.mem_cons.mp hf with rfl | hf
            · exact hcn
            · exact hfo.node f hf
          · exact List.Pairwise.cons hlow hfo.chain
          · have : frS S (⟨c, 0, mw, ia⟩ :: fr) = (S.su c).length + frS S fr := by simp [frS]
            rw [this]; (first | lia | omega)
      · intro v ld hG2
        refine hide fun PG kG => ?_
        obtain ⟨sn, fr, rfl, rfl, hsn, hsnn, hfo, hle⟩ := hG2
        refine kG ?_
        clear kG PG
        k_ownIn
        k_ownIn
        refine ExWhile (Iv13c3 C A S R rk st it se n2 n sn) _
          ⟨c, fr, rfl, rfl, hfo, hle, rfl⟩ ?_
        clear hfo hle
        clear fr hlow hfl hnin hn
        intro m v ld hG3
        refine hide fun PG kG => ?_
        obtain ⟨c, fr, rfl, rfl, hfo, hle, rfl⟩ := hG3
        refine kG ?_
        clear kG PG
        have hfl := hfo.len hS
        with_reducible refine TrW_plain (by with_unfolding_all rfl) ?_
        repeat k_ownIn
        with_reducible refine TruW_list (m1 (m1 (m1 m0))) (by rw [txs_len, nds_len]; (first | lia | omega)) ?_
        refine IteP (fun hb => ?_) fun hb => ?_
        · refine hide fun PG kG => ?_
          obtain ⟨f, rest, rfl⟩ : ∃ f rest, fr = f :: rest := by
            cases fr with
            | nil => simp [nds, txs] at hb
            | cons f rest => exact ⟨f, rest, rfl⟩
          refine kG ?_
          clear kG PG
          have hfn := hfo.node f List.mem_cons_self
          refine hide fun PG kG => ?_
          obtain ⟨hlow', hch⟩ := List.pairwise_cons.mp hfo.chain
          refine kG ?_
          clear kG PG
          refine hide fun PG kG => ?_
          obtain ⟨hsul, hsu⟩ := hrk.su f.node hfn
          refine kG ?_
          clear kG PG
          have hfrest : FOk S rk rest := ⟨fun g hg => hfo.node g (List.mem_cons_of_mem _ hg), hch⟩
          have hnin' : f.node ∉ nds rest := FOk.notin (S := S) hlow'
          k_ownIn
          refine ExW_TryStop okB (hfr B) (by with_unfolding_all rfl) (by kernel_rfl) ?_
          refine TX_next okB (by with_unfolding_all rfl) (by with_unfolding_all rfl) ?_
          refine TW.nd fun lnd => ?_
          repeat k_ownIn
          have hDL : DL C.w A S R st it se n2 sn (f :: rest) = (n2, .dict (nE (nds rest ++ [f.node])) none) :: (se, .pred (SetO C.w (sn.map lt))) :: (it, .list (mws rest ++ [.ref f.mw])) :: (st, .list (txs (nds rest) ++ [.str (lt f.node)])) :: (f.mw, .raw (MW f.it)) :: (f.it, .raw (LIt (A.is f.node) f.pos)) :: (IL A rest ++ (SL A S ++ R)) := by
            unfold DL
            rw [nds_cons, mws_cons, IL_cons, txs_app]
            rfl
          have hfl' : rest.length + 1 ≤ 6 := hfl
          rw [hDL] at lnd ⊢
          with_reducible refine SubW_last (xs := mws rest) (a := .ref f.mw) (m1 (m1 m0)) (by unfold mws; rw [List.length_map, List.length_reverse]; (first | lia | omega)) (fun _ _ => by with_unfolding_all rfl) ?_
          refine ⟨f.mw, f.it, A.is f.node, f.pos, txs (S.su f.node), (n2, .dict (nE (nds rest ++ [f.node])) none) :: (se, .pred (SetO C.w (sn.map lt))) :: (it, .list (mws rest ++ [.ref f.mw])) :: (st, .list (txs (nds rest) ++ [.str (lt f.node)])) :: (IL A rest ++ (SL A S ++ R)),
            rfl, m1 (m1 (m1 (m1 m0))), m1 (m1 (m1 (m1 (m1 m0)))), m1 (m1 (m1 (m1 (m1 (m1 (List.mem_append_right _ (SL_succ hfn R))))))), ?_, ?_, ?_, ?_⟩
          · exact (((((List.Sublist.refl _).cons _).cons _).cons_cons _).cons_cons _).cons_cons _ |>.cons_cons _
          · intro p hp
            refine apart (P := [(n2, .dict (nE (nds rest ++ [f.node])) none), (se, .pred (SetO C.w (sn.map lt))), (it, .list (mws rest ++ [.ref f.mw])), (st, .list (txs (nds rest) ++ [.str (lt f.node)])), (f.mw, .raw (MW f.it))]) lnd p ?_
            simp only [List.cons_append, List.nil_append, List.mem_cons] at hp ⊢
            rcases hp with q | q | q | q | q
            · exact .inl q
            · exact .inr (.inl q)
            · exact .inr (.inr (.inl q))
            · exact .inr (.inr (.inr (.inl q)))
            · exact .inr (.inr (.inr (.inr (.inr q))))
          · intro a ha
            refine hide fun PG kG => ?_
            obtain ⟨s, hs, rfl⟩ := txs_get ha
            refine kG ?_
            clear kG PG
            refine hide fun PG kG => ?_
            obtain ⟨hsn', hsr⟩ := hsu s (List.mem_of_getElem? hs)
            refine kG ?_
            clear kG PG
            have hlt : f.pos < (S.su f.node).length := (List.getElem?_eq_some_iff.mp hs).1
            refine ⟨_, .there (.there (.there (.there (.there .here)))), ?_⟩
            repeat k_ownIn
            refine ⟨fun e => (by cases e), ?_⟩
            repeat k_ownIn
            have hfS : frS S (⟨f.node, f.pos + 1, f.mw, f.it⟩ :: rest) + 1 = frS S (f :: rest) := by simp [frS]; (first | lia | omega)
            refine TurnK_next (unS S sn + frS S (⟨f.node, f.pos + 1, f.mw, f.it⟩ :: rest)) (by (first | lia | omega)) ⟨s, sn, ⟨f.node, f.pos + 1, f.mw, f.it⟩ :: rest, rfl, ?_, hsn', hsn, hsnn, ⟨?_, ?_⟩, ?_, rfl⟩
            · unfold DL
              rw [nds_cons, mws_cons, IL_cons, txs_app]
              rfl
            · intro g hg
              rcases List.mem_cons.mp hg with rfl | hg
              · exact hfn
              · exact hfrest.node g hg
            · exact List.Pairwise.cons hlow' hch
            · intro g hg
              rcases List.mem_cons.mp hg with rfl | hg
              · exact hsr
              · have := hlow' g hg
                (first | lia | omega)
          · intro ha e
            k_ownIn
            refine ExW_DelSub (d := n2) ?_
            with_reducible refine EvNm okB (by k_allIn) ?_
            with_reducible refine EvW_MethB PySem.F.plainAttrs_list PySem.F.slot_list_pop PySem.F.type_list_pop (by with_unfolding_all rfl) ?_
            with_reducible refine EvNm okB (by k_allIn) ?_
            refine ⟨TyW_list (m1 (m1 (m1 m0))), ?_⟩
            repeat k_ownIn
            with_reducible refine CallW_pop (m1 (m1 (m1 m0))) (by rw [txs_len, nds_len]; (first | lia | omega)) (.there (.there (.there .here))) ?_
            refine ⟨n2, _, _, lt f.node, _, rfl, rfl, m0, by rw [nE_len]; simp [nds_len]; (first | lia | omega), nE_last hnin', .here, ?_⟩
            rw [nE_del hnin']
            k_ownIn
            k_ownIn
            with_reducible refine ExW_ExprAny (by with_unfolding_all rfl) (by with_unfolding_all rfl) ?_
            with_reducible refine EvW_MethB PySem.F.plainAttrs_list PySem.F.slot_list_pop PySem.F.type_list_pop (by with_unfolding_all rfl) ?_
            with_reducible refine EvNm okB (by k_allIn) ?_
            refine ⟨TyW_list (m1 (m1 m0)), ?_⟩
            repeat k_ownIn
            with_reducible refine CallW_pop (m1 (m1 m0)) (by unfold mws; rw [List.length_map, List.length_reverse]; (first | lia | omega)) (.there (.there .here)) ?_
            repeat k_ownIn
            have hfS : frS S rest ≤ frS S (f :: rest) := by simp [frS]
            exact TurnK_next rest.length (by simp) ⟨c, rest, rfl, rfl, hfrest, by (first | lia | omega), rfl⟩
        · have hnil : fr = [] := by
            cases fr with
            | nil => rfl
            | cons f rest => simp [nds_cons, txs] at hb
          subst hnil
          repeat k_ownIn
          exact ForTurn_next ⟨sn, _, rfl, rfl, hsn, hsnn⟩
  · intro v ld hG2
    refine hide fun PG kG => ?_
    obtain ⟨sn, x, rfl, rfl, hsn, hsnn⟩ := hG2
    refine kG ?_
    clear kG PG
    k_ownIn
    refine TW.sub (led' := SL A S ++ R) ?_ ?_
    · exact ((((List.Sublist.refl _).cons _).cons _).cons _).cons _
    · repeat k_ownIn
      try exact h

-- part F14
-- prepare
noncomputable abbrev pnPr : List Str := ["self"]
noncomputable abbrev lsPr : List Str := ["cycle"]
noncomputable abbrev nmPr : List Str := ["self", "cycle"]
theorem foPr (w : World) : FnOk (fdAt w 92) pnPr lsPr [] := fnOk_of (by kernel_rfl)
theorem loPr (w : World) : (KH w).lookup 92 = some ⟨.type "function", none, .func (fdAt w 92), #[]⟩ := by kernel_rfl
theorem cdPr (w : World) : codeIn (KH w) (fdAt w 92).code (fdAt w 92).qualname = true := by kernel_rfl
theorem boPr (w : World) : (fdAt w 92).body = .stmts (bodyOf (fdAt w 92).body) := by kernel_rfl
theorem biPr (w : World) (vs : List Value) (h : vs.length = 1) : bindArgs (fdAt w 92) ⟨vs, []⟩ = pure (pnPr.zip vs) := by
  obtain ⟨a, rfl⟩ := len1 h
  kernel_rfl
theorem me_fc (w : World) : methIn (KH w) 137 127 "_find_cycle" = true := by kernel_rfl
theorem self_no_fc (A : SA) (S : SS) : dget (selfE A S) "_find_cycle" = none := by
  have n1 : (("_node2info" : Str) = "_find_cycle") = False := by simp only [eq_iff_iff, iff_false]; decide
  have n2 : (("_ready_nodes" : Str) = "_find_cycle") = False := by simp only [eq_iff_iff, iff_false]; decide
  have n3 : (("_npassedout" : Str) = "_find_cycle") = False := by simp only [eq_iff_iff, iff_false]; decide
  have n4 : (("_nfinished" : Str) = "_find_cycle") = False := by simp only [eq_iff_iff, iff_false]; decide
  simp [dget, selfE, n1, n2, n3, n4]
noncomputable def zeros (S : SS) : List Nat := S.nodes.filter fun j => decide (S.np j = 0)
theorem TruW_none {C : Cx} {vals : Vals} {led : Ledger} {K : Bool → Vals → Ledger → Prop} (h : K false vals led) : TruW C .none vals led K := by
  rintro _ rfl
  exact ⟨fun s hs => wpAny_pure ⟨false, vals, led, rfl, hs, h⟩⟩
noncomputable abbrev Iv14c0 (A : SA) (R : Ledger) (S1 : SS) (vw : Addr) : Addr → Nat → Vals → Ledger → Prop := (fun acc i v ld => ∃ x, v = [x] ∧ ld = (acc, .list (txs ((S1.nodes.take i).filter fun j => decide (S1.np j = 0)))) :: (vw, .pred (ViewO "dict_values" A.n)) :: (SL A S1 ++ R))
theorem CallW_prepare {C : Cx} {vals : Vals} {k : Nat} {A : SA} {S : SS} {R : Ledger} {rk : Nat → Nat} {K : AV → Vals → Ledger → Prop} (ok : COk C (k + 2)) (hS : SOk S) (hrd : S.rd = none) (hrk : Ranked S rk)
    (h : ∀ r ep, K .none vals (SL { A with r := r } { S with rd := some (zeros S), ep := some ep } ++ R)) : CallW C (.ref 92) [.ref A.x] vals (SL A S ++ R) K := by
  have hlen := hS.len
  refine CallW_def (names := nmPr) ok (foPr _) rfl (loPr _) (cdPr _) (boPr _) rfl (fun vs h => biPr _ vs h) fun B0 outs L ok' aw => ?_
  conv in bodyOf _ => whnf
  show ExsW _ _ [some (.ref A.x), none] _ _
  refine TW.epoch (SL_n2i A S R) fun ep => ⟨_, SL_updEp R, ?_⟩
  generalize hS1 : ({ S with ep := some ep } : SS) = S1
  revert S1
  refine keepAll ?_
  intro S1
  set_option tactic.hygienic false in intros
  have s1n : S1.nodes = S.nodes := by rw [← hS1]
  have s1np : S1.np = S.np := by rw [← hS1]
  have s1su : S1.su = S.su := by rw [← hS1]
  have s1r : S1.rd = none := by rw [← hS1]; exact hrd
  have s1e : S1.ep = some ep := by rw [← hS1]
  have hm : (A.n, AO.dict (n2iE A S1.nodes) (some ep)) ∈ SL A S1 ++ R := s1e ▸ SL_n2i A S1 R
  repeat k_ownIn
  with_reducible refine GetAW_inst ok' (SL_inst A S1 _) (SL_self A S1 _) (at_rd _) (self_rd A S1) rdV_blt ?_
  rw [s1r]
  repeat k_ownIn
  refine IteP (fun hb => by cases hb) fun hb => ?_
  repeat k_ownIn
  with_reducible refine EvListComp ["i"] [] [] ok' (compOk_of (by kernel_rfl) (by kernel_rfl) (by kernel_rfl)) (fun _ => by with_unfolding_all rfl) ?_
  with_reducible refine EvW_MethB PySem.F.plainAttrs_dict PySem.F.slot_dict_values PySem.F.type_dict_values (by with_unfolding_all rfl) ?_
  repeat k_ownIn
  with_reducible refine GetAW_inst ok' (SL_inst A S1 _) (SL_self A S1 _) (at_n2i _) (self_n2i A S1) (fun n e => by cases e) ?_
  refine ⟨TyW_dict hm, ?_⟩
  repeat k_ownIn
  with_reducible refine CallW_values ok' hm ?_
  intro vw
  with_reducible refine It_values Plain.name ok' (m1 hm) m0 ?_
  have ex : (n2iE A S1.nodes).map (fun e => IT.val e.2) = (S1.nodes.map fun j => AV.ref (A.ia j)).map IT.val := by simp [n2iE]
  rw [ex]
  refine CompT_vals ["i"] rfl [] .nil (Iv14c0 A R S1 vw)
    (fun acc => ⟨none, rfl, rfl⟩) (fun acc i v l ⟨x, e1, e2⟩ => e2 ▸ m1 (m1 hm)) ?_ ?_
  · intro acc B outs2 L2 i a v ld okC hx hG10 B2 okB
    refine hide fun PG kG => ?_
    obtain ⟨x, rfl, rfl⟩ := hG10
    refine kG ?_
    clear kG PG
    rw [List.getElem?_map, Option.map_eq_some_iff] at hx
    refine hide fun PG kG => ?_
    obtain ⟨j, hj, rfl⟩ := hx
    refine kG ?_
    clear kG PG
    have hjm := List.mem_of_getElem? hj
    refine CompTurn_name okB (.inl (by kernel_rfl)) SetIs.here ?_
    repeat k_ownIn
    with_reducible refine GetAW_slot okB (m1 (m1 (SL_info hjm R))) (m1 (m1 (SL_idict hjm R))) (sg_np _) rfl (fun n e => by cases e) ?_
    repeat k_ownIn
    have etake : S1.nodes.take (i + 1) = S1.nodes.take i ++ [j] := by rw [List.take_add_one, hj]; rfl
    refine IteP (fun hb => ?_) fun hb => ?_
    · with_reducible refine InnerW_list ?_
      repeat k_ownIn
      with_reducible refine GetAW_slot okB (m1 (m1 (SL_info hjm R))) (m1 (m1 (SL_idict hjm R))) (sg_node _) rfl (fun n e => by cases e) ?_
      with_reducible refine CallW_append m0 (by rw [txs_len]; refine Nat.le_trans (List.length_filter_le _ _) ?_; rw [List.length_take, s1n]; (first | lia | omega)) .here ?_
      refine ⟨_, rfl, ?_⟩
      have e2 : [j].filter (fun j => decide (S1.np j = 0)) = [j] := List.filter_eq_self.mpr fun q hq => by
        obtain rfl := List.mem_singleton.mp hq
        exact hb
      rw [etake, List.filter_append, txs_app, e2]
    · refine ⟨_, rfl, ?_⟩
      have e2 : [j].filter (fun j => decide (S1.np j = 0)) = [] := List.filter_eq_nil_iff.mpr fun q hq => by
        obtain rfl := List.mem_singleton.mp hq
        rw [hb]; exact Bool.false_ne_true
      rw [etake, List.filter_append, e2, List.append_nil]
  · intro acc v' l' hG3
    refine hide fun PG kG => ?_
    obtain ⟨x, rfl, rfl⟩ := hG3
    refine kG ?_
    clear kG PG
    rw [List.length_map, List.take_length]
    repeat k_ownIn
    with_reducible refine SetAW_inst ok' (m1 (m1 (SL_inst A S1 R))) (m1 (m1 (SL_self A S1 R))) (st_rd _) (by simp [selfE]) (.there (.there (.there .here))) ?_
    rw [self_putRd A S1 acc (zeros S)]
    have ez : (S1.nodes.filter fun j => decide (S1.np j = 0)) = zeros S := by unfold zeros; rw [s1n, s1np]
    rw [ez]
    k_ownIn
    refine TW.sub (led' := (acc, .list (txs (zeros S))) :: ((A.x, .inst 137 A.d) :: (A.d, .dict (selfE { A with r := acc } { S1 with rd := some (zeros S) }) none) :: (A.n, .dict (n2iE A S1.nodes) S1.ep) :: (rdL A S1.rd ++ NL A S1.nodes S1.np S1.su)) ++ R) (((List.Sublist.refl _).cons _).cons_cons _) ?_
    have hpm : (SL { A with r := acc } { S1 with rd := some (zeros S) } ++ R).Perm ((acc, .list (txs (zeros S))) :: ((A.x, .inst 137 A.d) :: (A.d, .dict (selfE { A with r := acc } { S1 with rd := some (zeros S) }) none) :: (A.n, .dict (n2iE A S1.nodes) S1.ep) :: (rdL A S1.rd ++ NL A S1.nodes S1.np S1.su)) ++ R) := by
      rw [s1r]
      exact List.perm_middle (l₁ := [_, _, _])
    refine TW.perm hpm ?_
    have eS : ({ S1 with rd := some (zeros S) } : SS) = { S with rd := some (zeros S), ep := some ep } := by rw [← hS1]
    rw [eS]
    repeat k_ownIn
    with_reducible refine EvW_MethF (by with_unfolding_all rfl) ?_ ok'
    repeat k_ownIn
    refine ⟨A.x, 137, A.d, _, _, 127, rfl, SL_inst { A with r := acc } _ _, SL_self { A with r := acc } _ _, me_fc _, self_no_fc _ _, ?_⟩
    repeat k_ownIn
    with_reducible refine CallW_findcycle (A := { A with r := acc }) (rk := rk) ok' ⟨hS.nd, hS.lt6⟩ rfl ⟨hrk.su⟩ ?_
    repeat k_ownIn
    with_reducible refine TrW_plain (by with_unfolding_all rfl) ?_
    repeat k_ownIn
    with_reducible refine TruW_none ?_
    refine IteP (fun hb => by cases hb) fun hb => ?_
    repeat k_ownIn
    try exact h acc ep

-- part P6
noncomputable def bef (t : Nat → Int) (a b : Nat) : Bool := decide (t b < t a ∨ (t a = t b ∧ a ≤ b))
theorem bef_iff {t : Nat → Int} {a b : Nat} : bef t a b = true ↔ (t b < t a ∨ (t a = t b ∧ a ≤ b)) := by simp [bef]
theorem bef_trans (t : Nat → Int) (a b c : Nat) (h1 : bef t a b = true) (h2 : bef t b c = true) : bef t a c = true := by
  rw [bef_iff] at *; (first | lia | omega)
theorem bef_total (t : Nat → Int) (a b : Nat) : (bef t a b || bef t b a) = true := by
  rw [Bool.or_eq_true, bef_iff, bef_iff]; (first | lia | omega)
theorem bef_anti {t : Nat → Int} {a b : Nat} (h1 : bef t a b = true) (h2 : bef t b a = true) : a = b := by
  rw [bef_iff] at *; (first | lia | omega)
noncomputable def srt (t : Nat → Int) (l : List Nat) : List Nat := l.mergeSort (bef t)
theorem srt_perm (t : Nat → Int) (l : List Nat) : (srt t l).Perm l := List.mergeSort_perm _ _
theorem srt_pw (t : Nat → Int) (l : List Nat) : (srt t l).Pairwise fun a b => bef t a b = true := List.pairwise_mergeSort (bef_trans t) (bef_total t) l
theorem srt_uniq {t : Nat → Int} {l l' : List Nat} (hp : l'.Perm l) (hs : l'.Pairwise fun a b => bef t a b = true) : l' = srt t l :=
  List.Perm.eq_of_pairwise (fun a b _ _ h1 h2 => bef_anti h1 h2) hs (srt_pw t l) (hp.trans (srt_perm t l).symm)
theorem pw_mem {α : Type} {R Q : α → α → Prop} : ∀ {l : List α}, l.Pairwise R → (∀ a ∈ l, ∀ b ∈ l, R a b → Q a b) → l.Pairwise Q
  | [], _, _ => .nil
  | x :: r, h, hq => by
    obtain ⟨h1, h2⟩ := List.pairwise_cons.mp h
    exact .cons (fun b hb => hq x (.head _) b (.tail _ hb) (h1 b hb)) (pw_mem h2 fun a ha b hb => hq a (.tail _ ha) b (.tail _ hb))
theorem srt_congr {t t' : Nat → Int} {l : List Nat} (h : ∀ c ∈ l, t c = t' c) : srt t l = srt t' l := by
  refine srt_uniq (srt_perm t l) (pw_mem (srt_pw t l) fun a ha b hb hab => ?_)
  rw [bef_iff] at *
  rw [← h a ((srt_perm t l).mem_iff.mp ha), ← h b ((srt_perm t l).mem_iff.mp hb)]
  exact hab

noncomputable def stp (h t : Nat → Int) (p : Int × Int) (x : Nat) : Int × Int := (p.1 + h x, max p.2 (p.1 + h x + t x))
noncomputable def gv (h t : Nat → Int) (l : List Nat) : Int := (l.foldl (stp h t) (0, 0)).2
noncomputable def sumh (h : Nat → Int) (l : List Nat) : Int := (l.map h).sum
theorem sumh_nil (h : Nat → Int) : sumh h [] = 0 := rfl
theorem sumh_cons (h : Nat → Int) (x : Nat) (l : List Nat) : sumh h (x :: l) = h x + sumh h l := by simp [sumh]
theorem sumh_app (h : Nat → Int) (l m : List Nat) : sumh h (l ++ m) = sumh h l + sumh h m := by simp [sumh]
theorem sumh_perm {h : Nat → Int} {l m : List Nat} (p : l.Perm m) : sumh h l = sumh h m := by
  induction p with
  | nil => rfl
  | cons x _ ih => rw [sumh_cons, sumh_cons, ih]
  | swap x y l => simp only [sumh_cons]; (first | lia | omega)
  | trans _ _ ih1 ih2 => exact ih1.trans ih2
theorem sumh_nonneg {h : Nat → Int} : ∀ {l : List Nat}, (∀ c ∈ l, 0 ≤ h c) → 0 ≤ sumh h l
  | [], _ => Int.le_refl _
  | x :: r, hh => by
    rw [sumh_cons]
    have := hh x (.head _)
    have := sumh_nonneg (l := r) fun c hc => hh c (.tail _ hc)
    (first | lia | omega)
theorem fold_fst (h t : Nat → Int) : ∀ (l : List Nat) (p : Int × Int), (l.foldl (stp h t) p).1 = p.1 + sumh h l
  | [], p => by simp [sumh]
  | x :: r, p => by rw [List.foldl_cons, fold_fst h t r, sumh_cons]; show p.1 + h x + _ = _; (first | lia | omega)
theorem gv_snoc (h t : Nat → Int) (l : List Nat) (x : Nat) : gv h t (l ++ [x]) = max (gv h t l) (sumh h l + h x + t x) := by
  unfold gv
  rw [List.foldl_append]
  show max _ ((l.foldl (stp h t) (0, 0)).1 + h x + t x) = _
  rw [fold_fst]
  show max _ (0 + _ + _ + _) = _
  rw [Int.zero_add]
theorem fold_mono (h t : Nat → Int) : ∀ (l : List Nat) (p : Int × Int), p.2 ≤ (l.foldl (stp h t) p).2
  | [], p => Int.le_refl _
  | x :: r, p => by
    have := fold_mono h t r (stp h t p x)
    rw [List.foldl_cons]
    have e : (stp h t p x).2 = max p.2 (p.1 + h x + t x) := rfl
    (first | lia | omega)
theorem fold_le {h t : Nat → Int} {T : Int} : ∀ (q : List Nat) (p : Int × Int), (∀ c ∈ q, 0 ≤ h c ∧ t c ≤ T) → (q.foldl (stp h t) p).2 ≤ max p.2 (p.1 + sumh h q + T)
  | [], p, _ => by simp; (first | lia | omega)
  | x :: r, p, hh => by
    rw [List.foldl_cons]
    have ih := fold_le r (stp h t p x) fun c hc => hh c (.tail _ hc)
    have e1 : (stp h t p x).2 = max p.2 (p.1 + h x + t x) := rfl
    have e2 : (stp h t p x).1 = p.1 + h x := rfl
    obtain ⟨_, hx⟩ := hh x (.head _)
    have hn := sumh_nonneg (h := h) (l := r) fun c hc => (hh c (.tail _ hc)).1
    rw [sumh_cons]
    rw [e1, e2] at ih
    (first | lia | omega)
theorem gv_lower {h t : Nat → Int} {p q : List Nat} {k : Nat} (hh : ∀ c ∈ p ++ k :: q, 0 ≤ h c) (ht : ∀ j ∈ q, t j ≤ t k) : gv h t (p ++ k :: q) ≤ max (gv h t (p ++ q)) (sumh h (p ++ k :: q) + t k) := by
  unfold gv
  rw [List.foldl_append, List.foldl_cons, List.foldl_append, sumh_app, sumh_cons]
  generalize hP : p.foldl (stp h t) (0, 0) = P
  have hP1 : P.1 = sumh h p := by rw [← hP, fold_fst]; show 0 + _ = _; (first | lia | omega)
  have hm := fold_mono h t q P
  have hl := fold_le (h := h) (t := t) (T := t k) q (stp h t P k) fun c hc => ⟨hh c (List.mem_append_right _ (.tail _ hc)), ht c hc⟩
  have e1 : (stp h t P k).2 = max P.2 (P.1 + h k + t k) := rfl
  have e2 : (stp h t P k).1 = P.1 + h k := rfl
  have hn := sumh_nonneg (h := h) (l := q) fun c hc => hh c (List.mem_append_right _ (.tail _ hc))
  rw [e1, e2] at hl
  (first | lia | omega)
theorem filter_ne {p q : List Nat} {k : Nat} (nd : (p ++ k :: q).Nodup) : (p ++ k :: q).filter (fun j => decide (j ≠ k)) = p ++ q := by
  rw [List.nodup_append, List.nodup_cons] at nd
  rw [List.filter_append, List.filter_cons_of_neg (by simp)]
  rw [List.filter_eq_self.mpr fun a ha => by simpa using nd.2.2 a ha k (.head _), List.filter_eq_self.mpr fun a ha => by
    simp only [decide_eq_true_eq]; intro e; exact nd.2.1.1 (e ▸ ha)]
/-- the least over the last one sent is had by the sorted order -/
theorem gv_min {h t : Nat → Int} {l : List Nat} (hs : l.Pairwise fun a b => bef t a b = true) (nd : l.Nodup) (hh : ∀ c ∈ l, 0 ≤ h c) (hne : l ≠ []) {ns : List Int}
    (hns : ∀ a, a ∈ ns ↔ ∃ k ∈ l, a = max (gv h t (l.filter fun j => decide (j ≠ k))) (sumh h l + t k)) {M : Int} (hM : M ∈ ns) (hmin : ∀ a ∈ ns, M ≤ a) : M = gv h t l := by
  refine Int.le_antisymm ?_ ?_
  · obtain ⟨p, k, rfl⟩ : ∃ p k, l = p ++ [k] := ⟨l.dropLast, l.getLast hne, (List.dropLast_concat_getLast hne).symm⟩
    have h1 := hmin _ ((hns _).mpr ⟨k, List.mem_append_right _ (.head _), rfl⟩)
    rw [filter_ne nd, List.append_nil, sumh_app, sumh_cons, sumh_nil] at h1
    rw [gv_snoc]
    (first | lia | omega)
  · obtain ⟨k, hk, rfl⟩ := (hns M).mp hM
    obtain ⟨p, q, rfl⟩ := List.append_of_mem hk
    rw [filter_ne nd]
    refine gv_lower hh fun j hj => ?_
    have := (List.pairwise_cons.mp (List.pairwise_append.mp hs).2.1).1 j hj
    rw [bef_iff] at this
    (first | lia | omega)

noncomputable def bit (g k : Nat) : Bool := decide (g / 2 ^ k % 2 ≠ 0)
theorem bit_sub : ∀ g < 32, ∀ k < 5, bit g k = true → ∀ j < 5, bit (g - 2 ^ k) j = (bit g j && decide (j ≠ k)) := by decide +kernel
theorem bit_pow : ∀ g < 32, ∀ k < 5, bit g k = true → 2 ^ k ≤ g := by decide +kernel
theorem bit_full : ∀ n ≤ 5, ∀ k < n, bit (2 ^ n - 1) k = true := by decide +kernel
theorem bit_some : ∀ n ≤ 5, ∀ g < 2 ^ n, 1 ≤ g → ∃ k < n, bit g k = true := by decide +kernel
theorem pow_le5 : ∀ n ≤ 5, 2 ^ n ≤ 32 ∧ 1 ≤ 2 ^ n := by decide +kernel
noncomputable def members (n g : Nat) : List Nat := (List.range n).filter (bit g)
/-- what best holds for a group -/
noncomputable def bestV (h t : Nat → Int) (n g : Nat) : Int := gv h t ((srt t (List.range n)).filter (bit g))
theorem bestV_zero (h t : Nat → Int) (n : Nat) : bestV h t n 0 = 0 := by
  unfold bestV
  have : (srt t (List.range n)).filter (bit 0) = [] := List.filter_eq_nil_iff.mpr fun k _ => by simp [bit]
  rw [this]; rfl
theorem bestV_min {h t : Nat → Int} {n g : Nat} (hn : n ≤ 5) (hg : g < 2 ^ n) (h1 : 1 ≤ g) (hh : ∀ k < n, 0 ≤ h k) {M : Int}
    (hM : M ∈ (members n g).map fun k => max (bestV h t n (g - 2 ^ k)) (sumh h (members n g) + t k)) (hmin : ∀ a ∈ (members n g).map fun k => max (bestV h t n (g - 2 ^ k)) (sumh h (members n g) + t k), M ≤ a) : M = bestV h t n g := by
  have hg32 : g < 32 := Nat.lt_of_lt_of_le hg (pow_le5 n hn).1
  have hp : ((srt t (List.range n)).filter (bit g)).Perm (members n g) := (srt_perm t (List.range n)).filter _
  have hlt : ∀ k ∈ members n g, k < n ∧ bit g k = true := fun k hk => by
    obtain ⟨a, b⟩ := List.mem_filter.mp hk
    exact ⟨List.mem_range.mp a, b⟩
  refine gv_min (h := h) (t := t) (l := (srt t (List.range n)).filter (bit g)) ((srt_pw t (List.range n)).filter _) ((List.Perm.nodup_iff (srt_perm t (List.range n))).mpr List.nodup_range |>.filter _)
    (fun c hc => hh c (hlt c (hp.mem_iff.mp hc)).1) (fun e => ?_) (fun a => ?_) hM hmin
  · obtain ⟨k, hk, hb⟩ := bit_some n hn g hg h1
    have : k ∈ members n g := List.mem_filter.mpr ⟨List.mem_range.mpr hk, hb⟩
    rw [← hp.mem_iff, e] at this
    cases this
  · rw [List.mem_map]
    have key : ∀ k ∈ members n g, max (bestV h t n (g - 2 ^ k)) (sumh h (members n g) + t k) = max (gv h t (((srt t (List.range n)).filter (bit g)).filter fun j => decide (j ≠ k))) (sumh h ((srt t (List.range n)).filter (bit g)) + t k) := by
      intro k hk
      obtain ⟨k1, k2⟩ := hlt k hk
      rw [sumh_perm hp]
      congr 1
      unfold bestV
      congr 1
      rw [List.filter_filter]
      refine List.filter_congr fun j hj => ?_
      have hj' : j < n := List.mem_range.mp ((srt_perm t (List.range n)).mem_iff.mp hj)
      rw [bit_sub g hg32 k (by (first | lia | omega)) k2 j (by (first | lia | omega)), Bool.and_comm]
    constructor
    · rintro ⟨k, hk, e⟩
      exact ⟨k, hp.mem_iff.mpr hk, by rw [← e, key k hk]⟩
    · rintro ⟨k, hk, e⟩
      have hk' := hp.mem_iff.mp hk
      exact ⟨k, hk', by rw [e, key k hk']⟩
theorem bestV_full {h t : Nat → Int} {cs : List Nat} (hn : cs.length ≤ 5) (hs : cs.Pairwise (· < ·)) : bestV (fun k => h (cs.getD k 0)) (fun k => t (cs.getD k 0)) cs.length (2 ^ cs.length - 1) = gv h t (srt t cs) := by
  unfold bestV
  have e1 : (srt (fun k => t (cs.getD k 0)) (List.range cs.length)).filter (bit (2 ^ cs.length - 1)) = srt (fun k => t (cs.getD k 0)) (List.range cs.length) := List.filter_eq_self.mpr fun k hk =>
    bit_full _ hn k (List.mem_range.mp ((srt_perm _ _).mem_iff.mp hk))
  rw [e1]
  have e2 : (srt (fun k => t (cs.getD k 0)) (List.range cs.length)).map (fun k => cs.getD k 0) = srt t cs := by
    refine srt_uniq ?_ ?_
    · refine ((srt_perm _ _).map _).trans ?_
      rw [show (List.range cs.length).map (fun k => cs.getD k 0) = cs from ?_]
      refine List.ext_getElem (by simp) fun i h1 h2 => ?_
      simp
      rw [List.getElem?_eq_getElem (by simpa using h2)]; rfl
    · rw [List.pairwise_map]
      refine pw_mem (srt_pw _ _) fun a ha b hb hab => ?_
      have ha' := List.mem_range.mp ((srt_perm _ _).mem_iff.mp ha)
      have hb' := List.mem_range.mp ((srt_perm _ _).mem_iff.mp hb)
      rw [bef_iff] at *
      rcases hab with q | ⟨q1, q2⟩
      · exact .inl q
      · refine .inr ⟨q1, ?_⟩
        rcases Nat.lt_or_ge a b with hl | hl
        · have := List.pairwise_iff_getElem.mp hs a b ha' hb' hl
          rw [List.getD_eq_getElem?_getD, List.getD_eq_getElem?_getD, List.getElem?_eq_getElem ha', List.getElem?_eq_getElem hb']
          exact Nat.le_of_lt this
        · have : a = b := by (first | lia | omega)
          rw [this]; exact Nat.le_refl _
  rw [← e2]
  unfold gv
  rw [List.foldl_map]
  rfl

-- the tails
noncomputable def tlN (h : Nat → Int) (ch : Nat → List Nat) : Nat → Nat → Int
  | 0, _ => 0
  | n + 1, i => gv h (tlN h ch n) (srt (tlN h ch n) (ch i))
theorem gv_congr {h t t' : Nat → Int} {l : List Nat} (ht : ∀ c ∈ l, t c = t' c) : gv h t l = gv h t' l := by
  unfold gv
  have : ∀ (l : List Nat) (p : Int × Int), (∀ c ∈ l, t c = t' c) → l.foldl (stp h t) p = l.foldl (stp h t') p := by
    intro l
    induction l with
    | nil => intro p _; rfl
    | cons x r ih =>
      intro p hl
      rw [List.foldl_cons, List.foldl_cons]
      have : stp h t p x = stp h t' p x := by unfold stp; rw [hl x (.head _)]
      rw [this]
      exact ih _ fun c hc => hl c (.tail _ hc)
  rw [this l _ ht]
theorem step_congr {h t t' : Nat → Int} {l : List Nat} (ht : ∀ c ∈ l, t c = t' c) : gv h t (srt t l) = gv h t' (srt t' l) := by
  rw [srt_congr ht]
  exact gv_congr fun c hc => ht c ((srt_perm t' l).mem_iff.mp hc)
theorem tlN_stable {h : Nat → Int} {ch : Nat → List Nat} (up : ∀ i, i < 6 → ∀ c ∈ ch i, i < c ∧ c < 6) : ∀ (n i : Nat), i < 6 → 6 - i ≤ n → tlN h ch n i = tlN h ch (n + 1) i
  | 0, i, hi, hn => by (first | lia | omega)
  | n + 1, i, hi, hn => by
    show gv h (tlN h ch n) (srt (tlN h ch n) (ch i)) = gv h (tlN h ch (n + 1)) (srt (tlN h ch (n + 1)) (ch i))
    refine step_congr fun c hc => ?_
    obtain ⟨c1, c2⟩ := up i hi c hc
    exact tlN_stable up n c c2 (by (first | lia | omega))
noncomputable def tl (h : Nat → Int) (ch : Nat → List Nat) (i : Nat) : Int := tlN h ch 6 i
theorem tl_eq {h : Nat → Int} {ch : Nat → List Nat} (up : ∀ i, i < 6 → ∀ c ∈ ch i, i < c ∧ c < 6) {i : Nat} (hi : i < 6) : tl h ch i = gv h (tl h ch) (srt (tl h ch) (ch i)) := by
  show gv h (tlN h ch 5) (srt (tlN h ch 5) (ch i)) = _
  refine step_congr fun c hc => ?_
  obtain ⟨c1, c2⟩ := up i hi c hc
  exact tlN_stable up 5 c c2 (by (first | lia | omega))
theorem gv_nonneg (h t : Nat → Int) (l : List Nat) : 0 ≤ gv h t l := fold_mono h t l (0, 0)

-- part F15
-- _law_least
noncomputable abbrev pnLe : List Str := ["waits", "hours"]
noncomputable abbrev lsLe : List Str := ["least", "place", "children", "best", "group", "members", "total"]
noncomputable abbrev nmLe : List Str := ["waits", "hours", "least", "place", "children", "best", "group", "members", "total"]
noncomputable abbrev wrLe : List Str := ["hours", "least", "children", "best", "group", "total"]
theorem foLe (w : World) : FnOk (fdAt w 256) pnLe lsLe wrLe := fnOk_of (by kernel_rfl)
theorem loLe (w : World) : (KH w).lookup 256 = some ⟨.type "function", none, .func (fdAt w 256), #[]⟩ := by kernel_rfl
theorem cdLe (w : World) : codeIn (KH w) (fdAt w 256).code (fdAt w 256).qualname = true := by kernel_rfl
theorem boLe (w : World) : (fdAt w 256).body = .stmts (bodyOf (fdAt w 256).body) := by kernel_rfl
theorem biLe (w : World) (vs : List Value) (h : vs.length = 2) : bindArgs (fdAt w 256) ⟨vs, []⟩ = pure (pnLe.zip vs) := by
  obtain ⟨a, b, rfl⟩ := len2 h
  kernel_rfl
noncomputable def hI (hr : Nat → Nat) : Nat → Int := fun c => (hr c : Int)
noncomputable def leE (t : Nat → Int) (l : List Nat) : List (Str × AV) := l.map fun j => (lt j, .int (t j))
theorem leE_get {t : Nat → Int} {l : List Nat} {j : Nat} (h : j ∈ l) : dget (leE t l) (lt j) = some (.int (t j)) := by
  unfold dget leE
  induction l with
  | nil => cases h
  | cons i r ih =>
    rw [List.map_cons, List.find?_cons]
    by_cases e : lt i = lt j
    · have := lt_inj e
      subst this
      simp
    · simp only [e, decide_false]
      refine ih ?_
      rcases List.mem_cons.mp h with q | q
      · exact absurd (by rw [q]) e
      · exact q
theorem leE_put {t : Nat → Int} {l : List Nat} {j : Nat} (h : j ∉ l) : dput (leE t l) (lt j) (.int (t j)) = leE t (l ++ [j]) := by
  unfold dput
  have e : (leE t l).any (fun e => decide (e.1 = lt j)) = false := by
    rw [List.any_eq_false]
    intro p hp
    obtain ⟨i, hi, rfl⟩ := List.mem_map.mp hp
    simp only [decide_eq_true_eq]
    intro q
    have := lt_inj q
    subst this
    exact h hi
  rw [e]
  unfold leE
  rw [List.map_append]
  rfl
theorem asc_fa : (Str.ofString "fedcba").cps.all (· < 128) = true := by decide +kernel
theorem asc_af : (Str.ofString "abcdef").cps.all (· < 128) = true := by decide +kernel
theorem asc_bf : (Str.ofString "bcdef").cps.all (· < 128) = true := by decide +kernel
theorem signs_fa : signs (Str.ofString "fedcba") = txs [5, 4, 3, 2, 1, 0] := by
  have e : Str.ofString "fedcba" = S [102, 101, 100, 99, 98, 97] := by decide
  rw [e]; rfl
theorem signs_af : signs (Str.ofString "abcdef") = txs [0, 1, 2, 3, 4, 5] := by
  have e : Str.ofString "abcdef" = S [97, 98, 99, 100, 101, 102] := by decide
  rw [e]; rfl
theorem signs_bf : signs (Str.ofString "bcdef") = txs [1, 2, 3, 4, 5] := by
  have e : Str.ofString "bcdef" = S [98, 99, 100, 101, 102] := by decide
  rw [e]; rfl
/-- trees with the children in order -/
structure Tree2 (ch : Nat → List Nat) (hr : Nat → Nat) : Prop extends Tree ch hr where
  inc : ∀ i, i < 6 → (ch i).Pairwise (· < ·)
theorem WaitsAt.up {led led' : Ledger} {W : Addr} {wa : Nat → Addr} {ch : Nat → List Nat} {ep : Option Nat} (h : WaitsAt led W wa ch ep) (hs : ∀ p ∈ led, p ∈ led') : WaitsAt led' W wa ch ep := ⟨hs _ h.dict, fun i hi => hs _ (h.lists i hi)⟩
theorem HoursAt.up {led led' : Ledger} {H : Addr} {hr : Nat → Nat} (h : HoursAt led H hr) (hs : ∀ p ∈ led, p ∈ led') : HoursAt led' H hr := ⟨hs _ h.dict⟩
theorem pow_cast (k : Nat) : (2 : Int) ^ ((k : Int).toNat) = ((2 ^ k : Nat) : Int) := by rw [Int.toNat_natCast]; simp
theorem bits_small {k : Nat} (h : k ≤ 5) : (Builtin.Int.intBits 2 : Int) * (k : Int) ≤ 2 ^ 27 := by
  have : k = 0 ∨ k = 1 ∨ k = 2 ∨ k = 3 ∨ k = 4 ∨ k = 5 := by (first | lia | omega)
  rcases this with rfl | rfl | rfl | rfl | rfl | rfl <;> decide
theorem nums_map {a : Int} {n : Nat} : nums a 1 n = (List.range n).map fun i : Nat => AV.int (a + (i : Int)) := by unfold nums; simp
theorem nums0 {n : Nat} : nums 0 1 n = (List.range n).map fun i : Nat => AV.int (i : Int) := by unfold nums; simp
theorem range_get {n i : Nat} {a : AV} (h : ((List.range n).map fun k : Nat => AV.int (k : Int))[i]? = some a) : i < n ∧ a = .int (i : Int) := by
  have hi : i < n := by simpa using (List.getElem?_eq_some_iff.mp h).1
  rw [List.getElem?_map, List.getElem?_range hi] at h
  cases h
  exact ⟨hi, rfl⟩
theorem bit_py {g k : Nat} : (((g : Int).fdiv ((2 ^ k : Nat) : Int)).fmod 2 ≠ 0) ↔ bit g k = true := by
  have e1 : (g : Int).fdiv ((2 ^ k : Nat) : Int) = ((g / 2 ^ k : Nat) : Int) := by rw [Int.fdiv_eq_ediv_of_nonneg _ (Int.natCast_nonneg _)]; rfl
  rw [e1, Int.fmod_eq_emod_of_nonneg _ (by decide)]
  unfold bit
  simp only [decide_eq_true_eq]
  (first | lia | omega)
theorem nopl {g : Int} {k : Nat} (h : k ≤ 5) : Builtin.divisionGoesByPylong g ((2 ^ k : Nat) : Int) = false := by
  have : k = 0 ∨ k = 1 ∨ k = 2 ∨ k = 3 ∨ k = 4 ∨ k = 5 := by (first | lia | omega)
  rcases this with rfl | rfl | rfl | rfl | rfl | rfl <;> exact PyProof.noPylong_small (by decide)
theorem mem_take {n g : Nat} : members n g = (List.range n).filter (bit g) := rfl
noncomputable abbrev Iv15c3 (H : Addr) (wa : Nat → Addr) (p : Nat) (h' : Nat → Int) (ms : List Nat) (led3 : List (Addr × AO)) : Addr → Nat → Vals → Ledger → Prop := (fun acc2 i3 v ld => ∃ z, v = [z, some (.ref (wa p)), some (.ref H)] ∧ ld = (acc2, .list (((ms.take i3).map h').map .int)) :: led3)
noncomputable abbrev Iv15c2 (led : Ledger) (d : Addr) (t : Nat → Int) (lE : List Nat) (b : Addr) (n : Nat) (rg : Addr) (h' : Nat → Int) (t' : Nat → Int) (g : Nat) (r2 : Addr) : Addr → Nat → Vals → Ledger → Prop := (fun acc i3 v ld => ∃ z, v = [z, some (.int (g : Int))] ∧ ld = (acc, .list (((List.range i3).filter (bit g)).map fun k : Nat => AV.int (k : Int))) :: (r2, .pred (RangeO 0 (n : Int))) :: (rg, .pred (RangeO 1 ((2 ^ n : Nat) : Int))) :: (b, .list ((List.range g).map fun g => .int (bestV h' t' n g))) :: (d, .dict (leE t lE) none) :: led)
noncomputable abbrev Iv15c1 (led : Ledger) (W : Addr) (H : Addr) (wa : Nat → Addr) (d : Addr) (t : Nat → Int) (p : Nat) (lE : List Nat) (b : Addr) (n : Nat) (rg : Addr) (h' : Nat → Int) (t' : Nat → Int) : Nat → Vals → Ledger → Prop := (fun i2 v ld => Ex3 fun (y1 y2 y3 : Option AV) => An2 (v = [some (.ref W), some (.ref H), some (.ref d), some (.str (lt p)), some (.ref (wa p)), some (.ref b), y1, y2, y3]) (ld = (rg, .pred (RangeO 1 ((2 ^ n : Nat) : Int))) :: (b, .list ((List.range (i2 + 1)).map fun g => .int (bestV h' t' n g))) :: (d, .dict (leE t lE) none) :: led))
noncomputable abbrev Iv15c0 (led : Ledger) (W : Addr) (H : Addr) (d : Addr) (t : Nat → Int) : Nat → Vals → Ledger → Prop := (fun i v ld => Ex6 fun (x1 x2 x3 x4 x5 x6 : Option AV) => An2 (v = [some (.ref W), some (.ref H), some (.ref d), x1, x2, x3, x4, x5, x6]) (ld = (d, .dict (leE t ([5, 4, 3, 2, 1, 0].take i)) none) :: led))
set_option maxHeartbeats 4000000 in
theorem CallW_least {C : Cx} {vals : Vals} {led : Ledger} {k : Nat} {ch : Nat → List Nat} {hr : Nat → Nat} {W H : Addr} {wa : Nat → Addr} {ep : Option Nat} {K : AV → Vals → Ledger → Prop} (ok : COk C (k + 1)) (T : Tree2 ch hr) (hw : WaitsAt led W wa ch ep) (hh : HoursAt led H hr)
    (h : ∀ d, K (.ref d) vals ((d, .dict (leE (tl (hI hr) ch) [5, 4, 3, 2, 1, 0]) none) :: led)) : CallW C (.ref 256) [.ref W, .ref H] vals led K := by
  refine CallW_def (names := nmLe) ok (foLe _) rfl (loLe _) (cdLe _) (boLe _) rfl (fun vs h => biLe _ vs h) fun B0 outs L ok' aw => ?_
  conv in bodyOf _ => whnf
  show ExsW _ _ [some (.ref W), some (.ref H), none, none, none, none, none, none, none] _ _
  repeat k_ownIn
  intro d
  repeat k_ownIn
  with_reducible refine ExFor ok' (fun _ => by with_unfolding_all rfl) ?_
  repeat k_ownIn
  with_reducible refine It_str Plain.name ok' asc_fa ?_
  rw [signs_fa]
  generalize ht : tl (hI hr) ch = t at h
  revert t
  refine keepAll ?_
  intro t
  set_option tactic.hygienic false in intros
  refine ForT_vals (Iv15c0 led W H d t)
    ⟨none, none, none, none, none, none, rfl, rfl⟩ (fun _ _ _ _ => trivial) ?_ ?_
  · intro i a v ld B hx hG6 okB
    refine hide fun PG kG => ?_
    obtain ⟨x1, x2, x3, x4, x5, x6, rfl, rfl⟩ := hG6
    refine kG ?_
    clear kG PG
    have awB : ((CG 256 nmLe wrLe C B0 outs L).base B).AllWr := aw
    refine hide fun PG kG => ?_
    obtain ⟨p, hp, rfl⟩ := txs_get hx
    refine kG ?_
    clear kG PG
    have hi : i < 6 := (List.getElem?_eq_some_iff.mp hp).1
    have hp6 : p < 6 ∧ (∀ c, p < c → c < 6 → c ∈ [5, 4, 3, 2, 1, 0].take i) ∧ p ∉ [5, 4, 3, 2, 1, 0].take i ∧ [5, 4, 3, 2, 1, 0].take (i + 1) = [5, 4, 3, 2, 1, 0].take i ++ [p] := by
      have : i = 0 ∨ i = 1 ∨ i = 2 ∨ i = 3 ∨ i = 4 ∨ i = 5 := by (first | lia | omega)
      rcases this with rfl | rfl | rfl | rfl | rfl | rfl <;> (cases hp; refine ⟨by decide, ?_, by decide, rfl⟩; intro c h1 h2; simp; (first | lia | omega))
    refine hide fun PG kG => ?_
    obtain ⟨p6, pin, pni, ptake⟩ := hp6
    refine kG ?_
    clear kG PG
    generalize hlE : [5, 4, 3, 2, 1, 0].take i = lE at *
    revert lE
    refine keepAll ?_
    intro lE
    set_option tactic.hygienic false in intros
    have hup := T.up p p6
    have hfew := T.few p p6
    have hinc := T.inc p p6
    repeat k_ownIn
    with_reducible refine SubW_dict (m1 hw.dict) (dget_at p6) (fun _ _ => by with_unfolding_all rfl) ?_
    repeat k_ownIn
    with_reducible refine EvW_List (by decide) ?_
    repeat k_ownIn
    refine ⟨by simp, fun b => ?_⟩
    repeat k_ownIn
    have hwl := hw.lists p p6
    generalize hcs : ch p = cs at *
    revert cs
    refine keepAll ?_
    intro cs
    set_option tactic.hygienic false in intros
    generalize hn : cs.length = n at *
    revert n
    refine keepAll ?_
    intro n
    set_option tactic.hygienic false in intros
    have hpw := pow_le5 n hfew
    with_reducible refine ExFor okB (fun _ => by with_unfolding_all rfl) ?_
    repeat k_ownIn
    with_reducible refine CallW_lenList (n := n) (m1 (m1 hwl)) (by rw [List.length_map]; exact hn) (by (first | lia | omega)) ?_
    repeat k_ownIn
    with_reducible refine BinW_pow (by (first | lia | omega)) (bits_small hfew) ?_
    rw [pow_cast]
    repeat k_ownIn
    with_reducible refine CallW_range2 ?_
    intro rg
    with_reducible refine It_range Plain.name okB m0 rfl (by decide) (by decide) (by (first | lia | omega)) (by (first | lia | omega)) ?_
    have ern : (((2 ^ n : Nat) : Int) - 1).toNat = 2 ^ n - 1 := by (first | lia | omega)
    rw [ern]
    generalize hh' : (fun k => hI hr (cs.getD k 0)) = h'
    revert h'
    refine keepAll ?_
    intro h'
    set_option tactic.hygienic false in intros
    generalize ht' : (fun k => t (cs.getD k 0)) = t'
    revert t'
    refine keepAll ?_
    intro t'
    set_option tactic.hygienic false in intros
    refine ForT_vals (Iv15c1 led W H wa d t p lE b n rg h' t')
      ⟨_, _, _, rfl, by rw [show (List.range (0 + 1)) = [0] from rfl, List.map_cons, bestV_zero]; rfl⟩ (fun _ _ _ _ => trivial) ?_ ?_
    · intro i2 a v ld B2 hx2 hG6 okB2
      refine hide fun PG kG => ?_
      obtain ⟨y1, y2, y3, rfl, rfl⟩ := hG6
      refine kG ?_
      clear kG PG
      have awB2 : (((CG 256 nmLe wrLe C B0 outs L).base B).base B2).AllWr := aw
      have hi2 : i2 < 2 ^ n - 1 := by
        have := (List.getElem?_eq_some_iff.mp hx2).1
        simpa [nums] using this
      obtain rfl := nums_get hx2
      have hgx : i2 + 1 < 2 ^ n := by (first | lia | omega)
      generalize hge : i2 + 1 = g at *
      revert g
      refine keepAll ?_
      intro g
      set_option tactic.hygienic false in intros
      rw [show (1 : Int) + (i2 : Int) * 1 = (g : Int) by (first | lia | omega)]
      have hlg : (b, AO.list ((List.range g).map fun g => .int (bestV h' t' n g))) ∈ (rg, AO.pred (RangeO 1 ((2 ^ n : Nat) : Int))) :: (b, .list ((List.range g).map fun g => .int (bestV h' t' n g))) :: (d, .dict (leE t lE) none) :: led := m1 m0
      iterate 3 k_ownIn
      -- members
      with_reducible refine ExListComp ["k"] ["group"] [] okB2 awB2 (by with_unfolding_all rfl) (compOk_of (by kernel_rfl) (by kernel_rfl) (by kernel_rfl)) (fun _ => by with_unfolding_all rfl) ?_
      repeat k_ownIn
      with_reducible refine CallW_lenList (n := n) (m1 (m1 (m1 hwl))) (by rw [List.length_map]; exact hn) (by (first | lia | omega)) ?_
      repeat k_ownIn
      with_reducible refine CallW_range1 ?_
      intro r2
      with_reducible refine It_range Plain.name okB2 m0 (n := n) (by (first | lia | omega)) (by decide) (by decide) (by (first | lia | omega)) (by (first | lia | omega)) ?_
      rw [nums0]
      refine CompT_vals ["k", "group"] rfl [some (.int (g : Int))] (FVals.mk (by k_allIn) .nil) (Iv15c2 led d t lE b n rg h' t' g r2)
        (fun acc => ⟨none, rfl, rfl⟩) (fun _ _ _ _ _ => trivial) ?_ ?_
      · intro acc B3 outs3 L3 i3 a v ld okC hx3 hG10 B4 okB4
        refine hide fun PG kG => ?_
        obtain ⟨z, rfl, rfl⟩ := hG10
        refine kG ?_
        clear kG PG
        refine hide fun PG kG => ?_
        obtain ⟨hi3, rfl⟩ := range_get hx3
        refine kG ?_
        clear kG PG
        refine CompTurn_name okB4 (.inl (by kernel_rfl)) SetIs.here ?_
        repeat k_ownIn
        with_reducible refine TrW_plain (by with_unfolding_all rfl) ?_
        repeat k_ownIn
        with_reducible refine BinW_pow (by (first | lia | omega)) (bits_small (by (first | lia | omega))) ?_
        rw [pow_cast]
        have hp2 : ((2 ^ i3 : Nat) : Int) ≠ 0 := by have := Nat.two_pow_pos i3; (first | lia | omega)
        have hp3 : 2 ^ i3 ≤ 32 := Nat.le_trans (Nat.pow_le_pow_right (by decide) (by (first | lia | omega) : i3 ≤ 5)) (by decide)
        with_reducible refine BinW_floordiv hp2 (nopl (by (first | lia | omega))) ?_
        repeat k_ownIn
        with_reducible refine BinW_mod (by decide) ?_
        with_reducible refine TruW_int ?_
        refine IteP (fun hb => ?_) fun hb => ?_
        · have hbt : bit g i3 = true := bit_py.mp (of_decide_eq_true hb)
          with_reducible refine InnerW_list ?_
          repeat k_ownIn
          with_reducible refine CallW_append m0 (by rw [List.length_map]; refine Nat.le_trans (List.length_filter_le _ _) ?_; rw [List.length_range]; (first | lia | omega)) .here ?_
          refine ⟨_, rfl, ?_⟩
          rw [List.range_succ, List.filter_append, List.map_append, List.filter_cons_of_pos hbt]
          rfl
        · have hbt : ¬ bit g i3 = true := fun q => (of_decide_eq_false hb) (bit_py.mpr q)
          refine ⟨_, rfl, ?_⟩
          rw [List.range_succ, List.filter_append, List.map_append, List.filter_cons_of_neg hbt]
          simp
      · intro acc v' l' hG3
        refine hide fun PG kG => ?_
        obtain ⟨z, rfl, rfl⟩ := hG3
        refine kG ?_
        clear kG PG
        rw [List.length_map, List.length_range]
        have hmb : ∀ k ∈ (List.range n).filter (bit g), k < n ∧ bit g k = true := fun k hk => by
          obtain ⟨a, b⟩ := List.mem_filter.mp hk
          exact ⟨List.mem_range.mp a, b⟩
        refine ⟨_, by k_memK, ?_⟩
        k_ownIn
        refine TW.sub (led' := (acc, .list (((List.range n).filter (bit g)).map fun k : Nat => AV.int (k : Int))) :: (rg, .pred (RangeO 1 ((2 ^ n : Nat) : Int))) :: (b, .list ((List.range g).map fun g => .int (bestV h' t' n g))) :: (d, .dict (leE t lE) none) :: led) ((List.sublist_cons_self _ _).cons_cons _) ?_
        have hml : ((List.range n).filter (bit g)).length ≤ 5 := Nat.le_trans (List.length_filter_le _ _) (by rw [List.length_range]; (first | lia | omega))
        repeat k_ownIn
        -- total
        with_reducible refine EvListComp ["k"] ["children", "hours"] [] okB2 (compOk_of (by kernel_rfl) (by kernel_rfl) (by kernel_rfl)) (fun _ => by with_unfolding_all rfl) ?_
        repeat k_ownIn
        with_reducible refine It_list Plain.name okB2 m0 ?_
        generalize hms : (List.range n).filter (bit g) = ms at *
        revert ms
        refine keepAll ?_
        intro ms
        set_option tactic.hygienic false in intros
        generalize hled3 : (acc, AO.list (ms.map fun k : Nat => AV.int (k : Int))) :: (rg, .pred (RangeO 1 ((2 ^ n : Nat) : Int))) :: (b, .list ((List.range g).map fun g => .int (bestV h' t' n g))) :: (d, .dict (leE t lE) none) :: led = led3
        revert led3
        refine keepAll ?_
        intro led3
        set_option tactic.hygienic false in intros
        have q1 : (acc, AO.list (ms.map fun k : Nat => AV.int (k : Int))) ∈ led3 := by rw [← hled3]; exact m0
        have q2 : (b, AO.list ((List.range g).map fun g => .int (bestV h' t' n g))) ∈ led3 := by rw [← hled3]; exact m1 (m1 m0)
        have q3 : (d, AO.dict (leE t lE) none) ∈ led3 := by rw [← hled3]; exact m1 (m1 (m1 m0))
        have q4 : (wa p, AO.list (cs.map fun c => .str (lt c))) ∈ led3 := by rw [← hled3]; exact m1 (m1 (m1 (m1 hwl)))
        have q5 : (H, AO.dict ((List.range 6).map fun i => (lt i, .int (hr i))) none) ∈ led3 := by rw [← hled3]; exact m1 (m1 (m1 (m1 hh.dict)))
        have child : ∀ k, k < n → ∃ c, cs[k]? = some c ∧ cs.getD k 0 = c ∧ p < c ∧ c < 6 := fun k hk => by
          have hk' : k < cs.length := by (first | lia | omega)
          refine ⟨cs[k], List.getElem?_eq_getElem hk', ?_, hup _ (List.getElem_mem hk')⟩
          rw [List.getD_eq_getElem?_getD, List.getElem?_eq_getElem hk']; rfl
        have mget : ∀ (i3 : Nat) (a : AV), (ms.map fun k : Nat => AV.int (k : Int))[i3]? = some a → ∃ k, ms[i3]? = some k ∧ a = .int (k : Int) ∧ k < n ∧ bit g k = true := fun i3 a h3 => by
          rw [List.getElem?_map, Option.map_eq_some_iff] at h3
          obtain ⟨k, hk, rfl⟩ := h3
          exact ⟨k, hk, rfl, hmb k (List.mem_of_getElem? hk)⟩
        refine CompT_vals ["k", "children", "hours"] rfl [some (.ref (wa p)), some (.ref H)] (FVals.mk (by k_allIn) (FVals.mk (by k_allIn) .nil)) (Iv15c3 H wa p h' ms led3)
          (fun acc2 => ⟨none, rfl, rfl⟩) (fun acc2 i3 v ld ⟨z, _, e⟩ => e ▸ m1 q1) ?_ ?_
        · intro acc2 B3 outs3 L3 i3 a v ld okC hx3 hG10 B4 okB4
          refine hide fun PG kG => ?_
          obtain ⟨z2, rfl, rfl⟩ := hG10
          refine kG ?_
          clear kG PG
          refine hide fun PG kG => ?_
          obtain ⟨k, hk, rfl, hkn, hkb⟩ := mget i3 a hx3
          refine kG ?_
          clear kG PG
          refine hide fun PG kG => ?_
          obtain ⟨c, hc, hcd, hc1, hc2⟩ := child k hkn
          refine kG ?_
          clear kG PG
          have hi3 : i3 < ms.length := (List.getElem?_eq_some_iff.mp hk).1
          refine CompTurn_name okB4 (.inl (by kernel_rfl)) SetIs.here ?_
          repeat k_ownIn
          refine CompYes ?_
          with_reducible refine InnerW_list ?_
          repeat k_ownIn
          have hcg : (cs.map fun c => AV.str (lt c))[((k : Nat) : Int).toNat]? = some (.str (lt c)) := by simp [hc]
          with_reducible refine SubW_list (m1 q4) (by (first | lia | omega)) hcg (by rw [List.length_map]; (first | lia | omega)) (fun _ _ => by with_unfolding_all rfl) ?_
          with_reducible refine SubW_dict (m1 q5) (dget_at hc2) (fun _ _ => by with_unfolding_all rfl) ?_
          with_reducible refine CallW_append m0 (by rw [List.length_map, List.length_map, List.length_take]; (first | lia | omega)) .here ?_
          refine ⟨_, rfl, ?_⟩
          rw [List.take_add_one, hk, List.map_append, List.map_append]
          have : h' k = (hr c : Int) := by rw [← hh']; show hI hr (cs.getD k 0) = _; rw [hcd]; rfl
          show _ = (acc2, AO.list (_ ++ [AV.int (h' k)])) :: _
          rw [this]
        · intro acc2 v' l' hG3
          refine hide fun PG kG => ?_
          obtain ⟨z2, rfl, rfl⟩ := hG3
          refine kG ?_
          clear kG PG
          rw [List.length_map, List.take_length]
          repeat k_ownIn
          with_reducible refine CallW_sum okB2 m0 ?_
          rw [show (ms.map h').sum = sumh h' ms from rfl]
          iterate 2 k_ownIn
          refine TW.sub (List.sublist_cons_self _ _) ?_
          repeat k_ownIn
          with_reducible refine EvW_MethB PySem.F.plainAttrs_list PySem.F.slot_list_append PySem.F.type_list_append (by with_unfolding_all rfl) ?_
          repeat k_ownIn
          refine ⟨TyW_list q2, ?_⟩
          repeat k_ownIn
          with_reducible refine EvListComp ["k"] ["best", "children", "group", "least", "total"] [] okB2 (compOk_of (by kernel_rfl) (by kernel_rfl) (by kernel_rfl)) (fun _ => by with_unfolding_all rfl) ?_
          repeat k_ownIn
          with_reducible refine It_list Plain.name okB2 q1 ?_
          generalize htot : sumh h' ms = tot
          revert tot
          refine keepAll ?_
          intro tot
          set_option tactic.hygienic false in intros
          refine CompT_vals ["k", "best", "children", "group", "least", "total"] rfl [some (.ref b), some (.ref (wa p)), some (.int (g : Int)), some (.ref d), some (.int tot)]
            (FVals.mk (by k_allIn) (FVals.mk (by k_allIn) (FVals.mk (by k_allIn) (FVals.mk (by k_allIn) (FVals.mk (by k_allIn) .nil)))))
            (fun acc3 i3 v ld => ∃ z, v = [z, some (.ref b), some (.ref (wa p)), some (.int (g : Int)), some (.ref d), some (.int tot)] ∧ ld = (acc3, .list (((ms.take i3).map fun k => max (bestV h' t' n (g - 2 ^ k)) (tot + t' k)).map .int)) :: led3)
            (fun acc3 => ⟨none, rfl, rfl⟩) (fun acc3 i3 v ld ⟨z, _, e⟩ => e ▸ m1 q1) ?_ ?_
          · intro acc3 B3 outs3 L3 i3 a v ld okC hx3 hG10 B4 okB4
            refine hide fun PG kG => ?_
            obtain ⟨z3, rfl, rfl⟩ := hG10
            refine kG ?_
            clear kG PG
            refine hide fun PG kG => ?_
            obtain ⟨k, hk, rfl, hkn, hkb⟩ := mget i3 a hx3
            refine kG ?_
            clear kG PG
            refine hide fun PG kG => ?_
            obtain ⟨c, hc, hcd, hc1, hc2⟩ := child k hkn
            refine kG ?_
            clear kG PG
            have hi3 : i3 < ms.length := (List.getElem?_eq_some_iff.mp hk).1
            have hg32 : g < 32 := Nat.lt_of_lt_of_le hgx hpw.1
            have hp2k := bit_pow g hg32 k (by (first | lia | omega)) hkb
            have hcg : (cs.map fun c => AV.str (lt c))[((k : Nat) : Int).toNat]? = some (.str (lt c)) := by simp [hc]
            have hsub : (g : Int) - ((2 ^ k : Nat) : Int) = ((g - 2 ^ k : Nat) : Int) := by (first | lia | omega)
            have hkp : 0 < 2 ^ k := Nat.two_pow_pos k
            have hbg : ((List.range g).map fun g => AV.int (bestV h' t' n g))[((g - 2 ^ k : Nat) : Int).toNat]? = some (.int (bestV h' t' n (g - 2 ^ k))) := by
              rw [Int.toNat_natCast, List.getElem?_map, List.getElem?_range (by (first | lia | omega))]; rfl
            refine CompTurn_name okB4 (.inl (by kernel_rfl)) SetIs.here ?_
            repeat k_ownIn
            refine CompYes ?_
            with_reducible refine InnerW_list ?_
            repeat k_ownIn
            with_reducible refine BinW_pow (by (first | lia | omega)) (bits_small (by (first | lia | omega))) ?_
            rw [pow_cast]
            repeat k_ownIn
            rw [hsub]
            with_reducible refine SubW_list (m1 q2) (by (first | lia | omega)) hbg (by rw [List.length_map, List.length_range]; (first | lia | omega)) (fun _ _ => by with_unfolding_all rfl) ?_
            repeat k_ownIn
            with_reducible refine SubW_list (m1 q4) (by (first | lia | omega)) hcg (by rw [List.length_map]; (first | lia | omega)) (fun _ _ => by with_unfolding_all rfl) ?_
            with_reducible refine SubW_dict (m1 q3) (leE_get (pin c hc1 hc2)) (fun _ _ => by with_unfolding_all rfl) ?_
            repeat k_ownIn
            with_reducible refine CallW_max2 okB4 ?_
            with_reducible refine CallW_append m0 (by rw [List.length_map, List.length_map, List.length_take]; (first | lia | omega)) .here ?_
            refine ⟨_, rfl, ?_⟩
            rw [List.take_add_one, hk, List.map_append, List.map_append]
            have : t' k = t c := by rw [← ht']; show t (cs.getD k 0) = _; rw [hcd]
            show _ = (acc3, AO.list (_ ++ [AV.int (max (bestV h' t' n (g - 2 ^ k)) (tot + t' k))])) :: _
            rw [this]
          · intro acc3 v' l' hG3
            refine hide fun PG kG => ?_
            obtain ⟨z3, rfl, rfl⟩ := hG3
            refine kG ?_
            clear kG PG
            rw [List.length_map, List.take_length]
            repeat k_ownIn
            have hne : 0 < ms.length := by
              obtain ⟨k, hk, hb⟩ := bit_some n hfew g hgx (by (first | lia | omega))
              have : k ∈ ms := by rw [← hms]; exact List.mem_filter.mpr ⟨List.mem_range.mpr hk, hb⟩
              exact List.length_pos_of_mem this
            with_reducible refine CallW_min okB2 m0 (by rw [List.length_map]; exact hne) ?_
            intro M hM hmin
            have hMv : M = bestV h' t' n g := by
              rw [← htot, ← hms] at hM hmin
              refine bestV_min hfew hgx (by (first | lia | omega)) (fun k hk => ?_) hM hmin
              rw [← hh']; show 0 ≤ hI hr _; unfold hI; (first | lia | omega)
            rw [hMv]
            repeat k_ownIn
            rw [← hled3]
            with_reducible refine CallW_append (m1 (m1 (m1 m0))) (by rw [List.length_map, List.length_range]; (first | lia | omega)) (.there (.there (.there .here))) ?_
            refine ⟨fun x e => (by cases e), ?_⟩
            k_ownIn
            refine TW.sub (((List.Sublist.refl _).cons _).cons _) ?_
            repeat k_ownIn
            refine ForTurn_next ⟨_, _, _, rfl, ?_⟩
            rw [List.range_succ, List.map_append]
            rfl
    · intro v ld hG2
      refine hide fun PG kG => ?_
      obtain ⟨y1, y2, y3, rfl, rfl⟩ := hG2
      refine kG ?_
      clear kG PG
      have e1 : (nums 1 1 (2 ^ n - 1)).length + 1 = 2 ^ n - 1 + 1 := by simp [nums]
      rw [e1, List.range_succ, List.map_append]
      k_ownIn
      refine TW.sub (List.sublist_cons_self _ _) ?_
      repeat k_ownIn
      with_reducible refine SubW_last (xs := (List.range (2 ^ n - 1)).map fun g => .int (bestV h' t' n g)) (a := .int (bestV h' t' n (2 ^ n - 1))) m0 (by simp; (first | lia | omega)) (fun _ _ => by with_unfolding_all rfl) ?_
      have hbf : bestV h' t' n (2 ^ n - 1) = t p := by
        rw [← hh', ← ht', ← hn, bestV_full (by (first | lia | omega)) hinc, ← ht, tl_eq T.up p6, hcs]
      rw [hbf]
      repeat k_ownIn
      have hlE6 : lE.length ≤ 6 := by rw [← hlE]; simp; (first | lia | omega)
      with_reducible refine SetW_dict (m1 m0) (by unfold leE; rw [List.length_map]; (first | lia | omega)) (.there .here) ?_
      rw [leE_put pni, ← ptake]
      k_ownIn
      refine TW.sub (List.sublist_cons_self _ _) ?_
      repeat k_ownIn
      exact ForTurn_next ⟨_, _, _, _, _, _, rfl, rfl⟩
  · intro v ld hG2
    refine hide fun PG kG => ?_
    obtain ⟨x1, x2, x3, x4, x5, x6, rfl, rfl⟩ := hG2
    refine kG ?_
    clear kG PG
    k_ownIn
    repeat k_ownIn
    try exact h d

-- part P7
/-- a strict total order on the members of a list -/
structure Strict {α : Type} (lt : α → α → Bool) (l : List α) : Prop where
  irr : ∀ a ∈ l, lt a a = false
  tr : ∀ a ∈ l, ∀ b ∈ l, ∀ c ∈ l, lt a b = true → lt b c = true → lt a c = true
  tot : ∀ a ∈ l, ∀ b ∈ l, a ≠ b → lt a b = true ∨ lt b a = true
noncomputable def rnk {α : Type} (lt : α → α → Bool) (l : List α) (a : α) : Nat := (l.filter fun b => lt b a).length
theorem filter_le {α : Type} {p q : α → Bool} : ∀ {l : List α}, (∀ x ∈ l, p x = true → q x = true) → (l.filter p).length ≤ (l.filter q).length
  | [], _ => Nat.le_refl _
  | x :: r, h => by
    have ih := filter_le (l := r) fun y hy => h y (.tail _ hy)
    by_cases hp : p x = true
    · rw [List.filter_cons_of_pos hp, List.filter_cons_of_pos (h x (.head _) hp)]
      simp only [List.length_cons]; (first | lia | omega)
    · rw [List.filter_cons_of_neg hp]
      by_cases hq : q x = true
      · rw [List.filter_cons_of_pos hq]; simp only [List.length_cons]; (first | lia | omega)
      · rw [List.filter_cons_of_neg hq]; exact ih
theorem filter_lt {α : Type} {p q : α → Bool} {a : α} : ∀ {l : List α}, (∀ x ∈ l, p x = true → q x = true) → a ∈ l → q a = true → p a = false → (l.filter p).length < (l.filter q).length
  | [], _, h, _, _ => by cases h
  | x :: r, h, ha, hqa, hpa => by
    have hle := filter_le (l := r) fun y hy => h y (.tail _ hy)
    rcases List.mem_cons.mp ha with e | ha
    · subst e
      rw [List.filter_cons_of_neg (by simp [hpa]), List.filter_cons_of_pos hqa]
      simp only [List.length_cons]; (first | lia | omega)
    · have ih := filter_lt (l := r) (fun y hy => h y (.tail _ hy)) ha hqa hpa
      by_cases hp : p x = true
      · rw [List.filter_cons_of_pos hp, List.filter_cons_of_pos (h x (.head _) hp)]
        simp only [List.length_cons]; (first | lia | omega)
      · rw [List.filter_cons_of_neg hp]
        by_cases hq : q x = true
        · rw [List.filter_cons_of_pos hq]; simp only [List.length_cons]; (first | lia | omega)
        · rw [List.filter_cons_of_neg hq]; exact ih
section
variable {α : Type} {lt : α → α → Bool} {l : List α}
theorem rnk_mono (S : Strict lt l) {a b : α} (ha : a ∈ l) (hb : b ∈ l) (h : lt a b = true) : rnk lt l a < rnk lt l b :=
  filter_lt (a := a) (fun x hx hxa => S.tr x hx a ha b hb hxa h) ha h (S.irr a ha)
theorem rnk_iff [DecidableEq α] (S : Strict lt l) {a b : α} (ha : a ∈ l) (hb : b ∈ l) : lt a b = decide (rnk lt l a < rnk lt l b) := by
  by_cases h : lt a b = true
  · rw [h]; simp [rnk_mono S ha hb h]
  · have h' : lt a b = false := by simpa using h
    rw [h']
    by_cases e : a = b
    · subst e; simp
    · rcases S.tot a ha b hb e with q | q
      · exact absurd q h
      · have := rnk_mono S hb ha q
        simp; (first | lia | omega)
theorem rnk_lt (S : Strict lt l) {a : α} (ha : a ∈ l) : rnk lt l a < l.length := by
  have := filter_lt (p := fun b => lt b a) (q := fun _ => true) (l := l) (a := a) (fun _ _ _ => rfl) ha rfl (S.irr a ha)
  rwa [List.filter_eq_self.mpr fun _ _ => rfl] at this
theorem rnk_inj [DecidableEq α] (S : Strict lt l) {a b : α} (ha : a ∈ l) (hb : b ∈ l) (h : rnk lt l a = rnk lt l b) : a = b := by
  by_cases e : a = b
  · exact e
  · rcases S.tot a ha b hb e with q | q
    · have := rnk_mono S ha hb q; (first | lia | omega)
    · have := rnk_mono S hb ha q; (first | lia | omega)
theorem rnk_nodup [DecidableEq α] (S : Strict lt l) (nd : l.Nodup) : (l.map (rnk lt l)).Nodup := by
  have : ∀ m : List α, (∀ a ∈ m, a ∈ l) → m.Nodup → (m.map (rnk lt l)).Nodup := by
    intro m
    induction m with
    | nil => intro _ _; exact List.nodup_nil
    | cons x r ih =>
      intro hm hn
      obtain ⟨h1, h2⟩ := List.nodup_cons.mp hn
      rw [List.map_cons, List.nodup_cons]
      refine ⟨fun hx => ?_, ih (fun a ha => hm a (.tail _ ha)) h2⟩
      obtain ⟨y, hy, e⟩ := List.mem_map.mp hx
      have := rnk_inj S (hm y (.tail _ hy)) (hm x (.head _)) e
      subst this
      exact h1 hy
  exact this l (fun _ h => h) nd
end
/-- all lists of length n with entries below m, without doubles -/
noncomputable def lists (m : Nat) : Nat → List (List Nat)
  | 0 => [[]]
  | n + 1 => (lists m n).flatMap fun r => ((List.range m).filter fun x => !r.contains x).map fun x => x :: r
theorem lists_mem {m : Nat} : ∀ {l : List Nat}, l.Nodup → (∀ x ∈ l, x < m) → l ∈ lists m l.length
  | [], _, _ => .head _
  | x :: r, nd, h => by
    obtain ⟨n1, n2⟩ := List.nodup_cons.mp nd
    rw [List.length_cons]
    unfold lists
    refine List.mem_flatMap.mpr ⟨r, lists_mem n2 fun y hy => h y (.tail _ hy), List.mem_map.mpr ⟨x, List.mem_filter.mpr ⟨List.mem_range.mpr (h x (.head _)), ?_⟩, rfl⟩⟩
    simpa using n1

-- part M33
section
variable {prog : Program} {w : World} {A : Around} {E : Value → Shared → Prop} {s : Shared}
theorem collect_tup {l : Addr} {vs : List Value} {Q : List Value → Shared → Prop} (hl : IsTup s.heap l vs.toArray)
    (h : Q vs { s with heap := (s.heap.push (seqObj "list" #[] 0)).update s.heap.objs.size (Obj.mapSeq (· ++ vs.toArray)) }) (hsz : vs.length ≤ sizeLine) :
    wpAny (model prog w) A (collect (.ref l)) Q E s := by
  obtain ⟨o, ho, hc, n, hd⟩ := id hl
  unfold collect
  refine wpAny_bind (wpAny_runValue (codeAny_builtin entry_proto_collect' ?_))
  show wpAny _ _ (do again (.builtin "list.__iadd__" ⟨[← newList [], .ref l], []⟩)) _ _ s
  refine wpAny_bind (wpAny_newList (wpAny_pure ⟨Code.quiet_builtin _ (by decide +kernel), codeAny_builtin entry_list_iadd' ?_⟩))
  show wpAny _ _ (Builtin.List.listExtendWith (.ref s.heap.objs.size) (.ref l) (.ref s.heap.objs.size)) _ _ { s with heap := s.heap.push (seqObj "list" #[] 0) }
  unfold Builtin.List.listExtendWith
  have ho' : (s.heap.push (seqObj "list" #[] 0)).get? l = some o := Heap.get?_push_of_some _ ho
  refine wpAny_bind (wpAny_typeOf (T := "tuple") ⟨o, ho', hc⟩ ?_)
  have ht : (Value.type "tuple" == Value.type "tuple") = true := by rfl
  rw [if_pos (by rw [ht]; simp)]
  refine wpAny_bind (listItems_at ho' hd ?_)
  refine wpAny_bind (listItems_at (xs := #[]) (n := 0) (Heap.get?_push_size _ rfl) rfl ?_)
  rw [if_neg (by simp)]
  refine wpAny_bind (listUpdate_at (xs := #[]) (n := 0) (Heap.get?_push_size _ rfl) rfl ?_ (Nat.zero_le _) (by show (#[] ++ vs.toArray).size ≤ sizeLine + 1; simp only [Array.size_append, List.size_toArray, List.length_nil]; (first | lia | omega)))
  refine wpAny_pure ?_
  show wpAny (model prog w) A (do
      let o ← load s.heap.objs.size
      match o.data with
      | .seq xs _ => pure xs.toList
      | _ => unsupported "internal:collect") Q E { s with heap := (s.heap.push (seqObj "list" #[] 0)).update s.heap.objs.size (Obj.mapSeq (· ++ vs.toArray)) }
  refine wpAny_bind (wpAny_load (get?_update_seq (Heap.get?_push_size _ rfl) _) ?_)
  show wpAny _ _ (pure ((#[] : Array Value) ++ vs.toArray).toList) Q E _
  rw [show ((#[] : Array Value) ++ vs.toArray).toList = vs by simp]
  exact wpAny_pure h
/-- sorted, of what collect and the sort of a list tell -/
theorem sorted_shell {l : Addr} {vs : List Value} {G : Array Value → Prop} {Q : Value → Shared → Prop} (hz : vs.length < 64)
    (hcol : ∀ (A : Around) Q', Q' vs { s with heap := (s.heap.push (seqObj "list" #[] 0)).update s.heap.objs.size (Obj.mapSeq (· ++ vs.toArray)) } → wpAny (model prog w) A (collect (.ref l)) Q' E s)
    (hsort : ∀ P : PySem.Fin → Shared → Prop, (∀ out, G out → P (.done (.ret .none)) { s with heap := sortedAll s.heap vs out }) →
      wpAny (model prog w) A.in1.in1 (Builtin.«list.sort» ⟨[.ref (s.heap.objs.size + 1)], []⟩) P E { s with heap := ((s.heap.push (seqObj "list" #[] 0)).update s.heap.objs.size (Obj.mapSeq (· ++ vs.toArray))).push (seqObj "list" vs.toArray 0) })
    (h : ∀ out, G out → Q (.ref (s.heap.objs.size + 1)) { s with heap := sortedAll s.heap vs out }) : wpAny (model prog w) A (call (.builtin "sorted") [.ref l]) Q E s := by
  refine Calls.call_function_entry kind_sorted plain_sorted entry_sorted (args_sorted1 _) ?_
  unfold Builtin.«sorted»
  refine wpAny_bind (m := checkCount "sorted" 1 1 _) (wpAny_pure ?_)
  refine wpAny_bind (hcol _ _ ?_)
  refine wpAny_bind (wpAny_newList ?_ (by rw [sizeLine_eq]; (first | lia | omega)))
  have hsz : ((s.heap.push (seqObj "list" #[] 0)).update s.heap.objs.size (Obj.mapSeq (· ++ vs.toArray))).objs.size = s.heap.objs.size + 1 := by
    rw [Heap.size_update, size_push']
  have hoL : (((s.heap.push (seqObj "list" #[] 0)).update s.heap.objs.size (Obj.mapSeq (· ++ vs.toArray))).push (seqObj "list" vs.toArray 0)).get? (s.heap.objs.size + 1) = some (seqObj "list" vs.toArray 0) := by
    rw [← hsz]; exact Heap.get?_push_size _ rfl
  show wpAny _ _ _ _ _ { s with heap := ((s.heap.push (seqObj "list" #[] 0)).update s.heap.objs.size (Obj.mapSeq (· ++ vs.toArray))).push (seqObj "list" vs.toArray 0) }
  rw [hsz]
  refine wpAny_bind (wpAny_holding (wpAny_call_entry slot_list_sort ⟨_, hoL, rfl⟩ entry_list_sort (hsort _ fun out ho => ⟨_, rfl, ?_⟩) (args_list_sort _)))
  exact wpAny_pure ⟨_, rfl, h out ho⟩
theorem sort_hoL (s : Shared) (vs : List Value) : (((s.heap.push (seqObj "list" #[] 0)).update s.heap.objs.size (Obj.mapSeq (· ++ vs.toArray))).push (seqObj "list" vs.toArray 0)).get? (s.heap.objs.size + 1) = some (seqObj "list" vs.toArray 0) := by
  have hsz : ((s.heap.push (seqObj "list" #[] 0)).update s.heap.objs.size (Obj.mapSeq (· ++ vs.toArray))).objs.size = s.heap.objs.size + 1 := by
    rw [Heap.size_update, size_push']
  rw [← hsz]; exact Heap.get?_push_size _ rfl
end
section
variable {C : Cx} {vals : Vals} {led : Ledger} {k : Nat}
theorem CallW_sortedTupStrs {l : Addr} {xs : List Str} {K : AV → Vals → Ledger → Prop} (hm : (l, AO.tup (xs.map .str)) ∈ led) (h64 : xs.length < 64) (h : ∀ r ys, ys.Perm xs → sortedS ys = true → K (.ref r) vals ((r, .list (ys.map .str)) :: led)) : CallW C (.blt "sorted") [.ref l] vals led K := by
  rintro _ _ rfl hvs
  obtain ⟨_, rfl, rfl⟩ := hvs.one
  refine ⟨fun s hs => ?_⟩
  obtain ⟨vs, hv, hl⟩ := hs.tup hm
  have hvl : vs.length < 64 := by have := hv.length; simp at this; (first | lia | omega)
  have hS := strsAre_of hv
  refine sorted_shell (G := fun out => ∃ ss', StrsAre out.toList ss' ∧ ss'.Perm xs ∧ sortedS ss' = true) hvl (fun A Q' hQ => collect_tup hl hQ (by rw [sizeLine_eq]; (first | lia | omega))) (fun P hP => ?_) fun out hG => ?_
  · exact list_sort_treeK strKind_oneLt (sort_hoL s vs) hS.keysOf (fun v₁ v₂ rest e => keyKind_strs (by rw [← e]; exact hS)) hvl fun st' hp hss => hP _ (sorted_out_str hS hp hss)
  · obtain ⟨ss', h1, h2, h3⟩ := hG
    obtain ⟨e, he⟩ := sortedAll_at s.heap vs out
    exact ⟨.ref (s.heap.objs.size + 1), vals, _, rfl, hs.new (tk := s.toks) (ao := .list (ss'.map .str)) (fun _ _ => sortedAll_old) (Heap.get?_none_of_le (Nat.le_succ _)) he ⟨out.toList, e, of_strsAre h1, rfl⟩, h _ ss' h2 h3⟩
end

-- part M34
noncomputable def runT {α : Type} (lt : Nat → Nat → Bool) : KasT α → α
  | .ret a => a
  | .ask i j k => runT lt (k (lt i j))
noncomputable def okT {α : Type} (n : Nat) (lt : Nat → Nat → Bool) : KasT α → Bool
  | .ret _ => true
  | .ask i j k => decide (i < n) && decide (j < n) && decide (i ≠ j) && okT n lt (k (lt i j))
theorem wp_run {α : Type} {cmp : Nat → Nat → (Bool → Shared → Prop) → Shared → Prop} {lt : Nat → Nat → Bool} {s : Shared} {n : Nat} {G : α → Shared → Prop} (hc : ∀ i j C, i < n → j < n → i ≠ j → C (lt i j) s → cmp i j C s) :
    ∀ (t : KasT α), okT n lt t = true → G (runT lt t) s → t.kasWp cmp G s
  | .ret a, _, h => h
  | .ask i j k, ho, h => by
    unfold okT at ho
    simp only [Bool.and_eq_true, decide_eq_true_eq] at ho
    exact hc i j _ ho.1.1.1 ho.1.1.2 ho.1.2 (wp_run hc (k (lt i j)) ho.2 h)
noncomputable def ltR (r : List Nat) (i j : Nat) : Bool := decide (r.getD i 0 < r.getD j 0)
noncomputable def goodR (n : Nat) (r : List Nat) : Bool := okT n (ltR r) (kas_sort n) && ((runT (ltR r) (kas_sort n)).toList.map fun i => r.getD i 0) == List.range n && (runT (ltR r) (kas_sort n)).toList.isPerm (List.range n)
theorem sort6 : (lists 6 6).all (goodR 6) = true := by decide +kernel
theorem runT_congr {α : Type} {n : Nat} {lt lt' : Nat → Nat → Bool} (h : ∀ i < n, ∀ j < n, lt i j = lt' i j) : ∀ (t : KasT α), okT n lt' t = true → runT lt t = runT lt' t ∧ okT n lt t = true
  | .ret a, _ => ⟨rfl, rfl⟩
  | .ask i j k, ho => by
    unfold okT at ho
    simp only [Bool.and_eq_true, decide_eq_true_eq] at ho
    have e := h i ho.1.1.1 j ho.1.1.2
    obtain ⟨a, b⟩ := runT_congr h (k (lt' i j)) ho.2
    unfold runT okT
    rw [e]
    exact ⟨a, by simp [ho.1, b]⟩
section
variable {prog : Program} {w : World} {A : Around} {E : Value → Shared → Prop} {s : Shared}
theorem lt_tup3 {a b : Addr} {i j : Int} {t t' : Tok} {x y : Str} {u u' : Tok} {ra rb : List Value} {Q : Bool → Shared → Prop} (ha : IsTup s.heap a (Value.int i t :: Value.str x u :: ra).toArray) (hb : IsTup s.heap b (Value.int j t' :: Value.str y u' :: rb).toArray) (hxy : x ≠ y)
    (h : Q (decide (i < j ∨ (i = j ∧ x.cps.toList < y.cps.toList))) s) : wpAny (model prog w) A (keyLt' (tuples' true) (.ref a) (.ref b)) Q E s := by
  obtain ⟨oa, hoa, _, na, hda⟩ := ha
  obtain ⟨ob, hob, _, nb, hdb⟩ := hb
  refine kat_lt hoa hda hob hdb ?_
  simp only [List.zip_cons_cons]
  refine kat_cons (wpAny_eqBool_int ?_)
  by_cases e : i = j
  · subst e
    rw [show (i == i) = true by simp]
    refine kat_yes (kat_cons (wpAny_eqBool_str ?_))
    rw [show decide (x = y) = false by simpa using hxy]
    refine kat_no ?_
    show wpAny _ _ (oneLt' false _ _) _ _ _
    refine kat_one _ _ (P.lt_str ?_)
    show Q _ s
    simpa using h
  · rw [show (i == j) = false by simpa using e]
    refine kat_no ?_
    show wpAny _ _ (oneLt' true _ _) _ _ _
    refine oneLt_int ?_
    simpa [e] using h
theorem list_sort_tup {a : Addr} {vs fs : List Value} {lt : Nat → Nat → Bool} {n : Nat} {P : PySem.Fin → Shared → Prop} (ho : s.heap.get? a = some (seqObj "list" vs.toArray n)) (h2 : 2 ≤ vs.length) (h64 : vs.length < 64)
    (hk : ∀ h', (∀ b o, b ≠ a → s.heap.get? b = some o → h'.get? b = some o) → KatTups h' vs fs ∧ ∀ v ∈ fs, ∃ i t, v = .int i t) (hne : 0 < fs.length)
    (hc : ∀ h', (∀ b o, b ≠ a → s.heap.get? b = some o → h'.get? b = some o) → ∀ i j C, i < vs.length → j < vs.length → i ≠ j → C (lt i j) { s with heap := h' } → kas_ask prog w A (tuples' true) vs i j C { s with heap := h' })
    (hok : okT vs.length lt (kas_sort vs.length) = true) (hsz : (runT lt (kas_sort vs.length)).size = vs.length)
    (h : P (.done (.ret .none)) { s with heap := sortedHeap s.heap a vs (List.toArray ((runT lt (kas_sort vs.length)).toList.map fun i => vs.getD i Value.none)) }) :
    wpAny (model prog w) A (Builtin.«list.sort» ⟨[.ref a], []⟩) P E s := by
  rw [list_sort_plain]
  have ha : a < s.heap.objs.size := Heap.lt_size ho
  refine wpAny_bind (listItems_at ho rfl ?_)
  refine wpAny_bind (listUpdate_at ho rfl ?_ (by rw [List.size_toArray, sizeLine_eq]; (first | lia | omega)) (Nat.zero_le _))
  obtain ⟨e1, ho1⟩ : ∃ e1, (s.heap.update a (Obj.mapSeq fun _ => #[])).get? a = some (seqObj "list" #[] e1) := ⟨_, get?_update_seq ho (fun _ => #[])⟩
  refine wpAny_bind (seqEpoch_at ho1 rfl ?_)
  refine wpAny_bind (wpAny_newTuple ?_ (by show vs.length ≤ _; rw [sizeLine_eq]; (first | lia | omega)))
  refine wpAny_bind (wpAny_newList ?_ (Nat.zero_le _))
  refine wpAny_holding ?_
  have ho6 : (((s.heap.update a (Obj.mapSeq fun _ => #[])).push (seqObj "tuple" vs.toArray 0)).push (seqObj "list" #[] 0)).get? a = some (seqObj "list" #[] e1) := by
    rw [Heap.get?_push_ne _ _ _ (by rw [size_push', Heap.size_update]; exact Nat.ne_of_lt (Nat.lt_succ_of_lt ha)), Heap.get?_push_ne _ _ _ (by rw [Heap.size_update]; exact Nat.ne_of_lt ha)]
    exact ho1
  have kp : ∀ b o, b ≠ a → s.heap.get? b = some o → (((s.heap.update a (Obj.mapSeq fun _ => #[])).push (seqObj "tuple" vs.toArray 0)).push (seqObj "list" #[] 0)).get? b = some o := fun b o hb e => by
    refine Heap.get?_push_of_some _ (Heap.get?_push_of_some _ ?_)
    rw [Heap.get?_update_ne _ _ _ _ hb]; exact e
  show wpAny (model prog w) A _ P E { s with heap := ((s.heap.update a (Obj.mapSeq fun _ => #[])).push (seqObj "tuple" vs.toArray 0)).push (seqObj "list" #[] 0) }
  dsimp only
  have hn2 : ¬ vs.toArray.size < 2 := by rw [List.size_toArray]; (first | lia | omega)
  rw [if_neg hn2, if_neg hn2]
  obtain ⟨kt, ki⟩ := hk _ kp
  refine wpAny_bind (kat_kind (T := .type "int") kt hne (fun v hv => ?_) rfl ?_)
  · obtain ⟨i, t, rfl⟩ := ki v hv
    exact .now
  show wpAny _ _ _ _ _ _
  refine wpAny_bind (wpAny_mono (kat_run (κ := tuples' true) (Q := fun st' s' => s' = { s with heap := ((s.heap.update a (Obj.mapSeq fun _ => #[])).push (seqObj "tuple" vs.toArray 0)).push (seqObj "list" #[] 0) } ∧ arrOf st' = (runT lt (kas_sort vs.length)).map (kas_item (vs.toArray.zip vs.toArray)) ∧ failedOf st' = none)
    (G := fun p s' => p = runT lt (kas_sort vs.length) ∧ s' = { s with heap := ((s.heap.update a (Obj.mapSeq fun _ => #[])).push (seqObj "tuple" vs.toArray 0)).push (seqObj "list" #[] 0) })
    rfl h2 h64 (fun p' st' s' a1 a2 a3 a4 => ⟨a4.2, a4.1 ▸ a2, a3⟩) (wp_run (hc _ kp) _ hok ⟨rfl, rfl⟩)) ?_ fun _ _ e => e)
  rintro ⟨⟨⟩, st'⟩ s' ⟨rfl, har, hf⟩
  dsimp only
  refine wpAny_bind (seqEpoch_at ho6 rfl ?_)
  have hout := kat_snds rfl har
  rw [hout]
  refine wpAny_bind (listUpdate_at ho6 rfl ?_ (Nat.zero_le _) (by rw [List.size_toArray, List.length_map, Array.length_toList, hsz, sizeLine_eq]; (first | lia | omega)))
  rw [hf]
  simp only [bne_self_eq_false, Bool.false_eq_true, if_false]
  exact wpAny_pure h
end

-- part M35
section
variable {C : Cx} {vals : Vals} {led : Ledger} {k : Nat}
/-- {k: v} -/
theorem EvW_Dict1 {kx vx : Expr} {pos : Pos} {K : AV → Vals → Ledger → Prop}
    (h : ∀ d, EvW C kx vals ((d, .dict [] none) :: led) fun a v l => EvW C vx v l fun b v l => Ex3 fun x es led' => An5 (a = .str x) ((d, AO.dict es none) ∈ l) (es.length ≤ 1000) (Upd d (.dict (dput es x b) none) l led') (K (.ref d) v led')) : EvW C (.Dict [some kx] [vx] pos) vals led K := by
  refine ⟨fun s hs => wpAny_Dict_any rfl rfl (by simp) (by simp) (pairTrees_cons_walk ?_)⟩
  have H1 := hs.push (tk := s.toks) (o := { cls := .type "dict", data := .dict #[] }) (ao := .dict [] none) rfl ⟨[], .nil, ⟨#[], 0, ⟨rfl, rfl, rfl⟩, rfl, (fun e he => by simp at he), .nil, List.nodup_nil⟩, fun n e => by cases e⟩
  refine wpAny_mono ((h _).run _ H1) (fun u s₁ ⟨a, v, l, hr, hs₁, hk⟩ => wpAny_mono (hk.run s₁ hs₁) (fun u₂ s₂ ⟨b, v₂, l₂, hr₂, hs₂, hk₂⟩ => ?_) fun _ _ x => x) fun _ _ x => x
  obtain ⟨x, es, led', rfl, hm, hlen, U, hK⟩ := hk₂
  obtain ⟨t, rfl⟩ := hr
  obtain ⟨kvs, hv, hd⟩ := hs₂.dict hm
  refine wpAny_pure ?_
  unfold storeAll
  rw [List.forIn_cons]
  refine wpAny_bind (wpAny_bind (wpAny_dictSet_pairs (hsz := by rw [sizeLine_eq, hv.length]; (first | lia | omega)) (strKind_is _ _ _ _) hd fun h' hd' hs' => wpAny_pure ?_))
  show wpAny _ _ (forIn [] PUnit.unit _) _ _ _
  rw [List.forIn_nil]
  exact wpAny_pure ⟨.ref s.heap.objs.size, v₂, led', rfl, hs₂.updDict U (hv.put hr₂) hd' hs', hK⟩

theorem cps_tot {x y : Str} (h : x ≠ y) : x.cps.toList < y.cps.toList ∨ y.cps.toList < x.cps.toList := by
  have hne : x.cps.toList ≠ y.cps.toList := fun e => h (by
    obtain ⟨a⟩ := x; obtain ⟨b⟩ := y
    have : a = b := Array.toList_inj.mp e
    rw [this])
  rcases Nat.lt_trichotomy 0 0 with q | q | q
  · (first | lia | omega)
  · by_cases hl : x.cps.toList < y.cps.toList
    · exact .inl hl
    · refine .inr ?_
      have h1 : y.cps.toList ≤ x.cps.toList := List.not_lt.mp hl
      rcases List.le_iff_lt_or_eq.mp h1 with q | q
      · exact q
      · exact absurd q.symm hne
  · (first | lia | omega)
theorem klt_strict (kf : Addr → Int × Str) (as : List Addr) (hinj : ∀ a ∈ as, ∀ b ∈ as, a ≠ b → (kf a).2 ≠ (kf b).2) : Strict (klt kf) as where
  irr a _ := by unfold klt; simp [List.lt_irrefl]
  tr a _ b _ c _ h1 h2 := by
    unfold klt at *
    simp only [decide_eq_true_eq] at *
    rcases h1 with h1 | ⟨h1, h1'⟩ <;> rcases h2 with h2 | ⟨h2, h2'⟩
    · exact .inl (by (first | lia | omega))
    · exact .inl (by (first | lia | omega))
    · exact .inl (by (first | lia | omega))
    · exact .inr ⟨by (first | lia | omega), List.lt_trans h1' h2'⟩
  tot a ha b hb hne := by
    unfold klt
    simp only [decide_eq_true_eq]
    rcases Int.lt_trichotomy (kf a).1 (kf b).1 with q | q | q
    · exact .inl (.inl q)
    · rcases cps_tot (hinj a ha b hb hne) with r | r
      · exact .inl (.inr ⟨q, r⟩)
      · exact .inr (.inr ⟨q.symm, r⟩)
    · exact .inr (.inl q)
theorem VRs.refs : ∀ {as : List Addr} {vs : List Value}, VRs (as.map AV.ref) vs → vs = as.map Value.ref
  | [], _, .nil => rfl
  | a :: r, _, .cons h1 h2 => by rw [h1, h2.refs]; rfl
theorem getD_map {α β : Type} {f : α → β} {l : List α} {i : Nat} {d : α} {e : β} (h : i < l.length) : (l.map f).getD i e = f (l.getD i d) := by
  rw [List.getD_eq_getElem?_getD, List.getD_eq_getElem?_getD, List.getElem?_map, List.getElem?_eq_getElem h]; rfl
/-- sorted of six tuples -/
theorem CallW_sorted6 (kf : Addr → Int × Str) {l : Addr} {as : List Addr} {K : AV → Vals → Ledger → Prop} (hm : (l, AO.list (as.map AV.ref)) ∈ led) (h6 : as.length = 6) (nd : as.Nodup)
    (ht : ∀ a ∈ as, ∃ r, (a, AO.tup (.int (kf a).1 :: .str (kf a).2 :: r)) ∈ led) (hinj : ∀ a ∈ as, ∀ b ∈ as, a ≠ b → (kf a).2 ≠ (kf b).2)
    (h : ∀ (r : Addr) (bs : List Addr), bs.Perm as → bs.Pairwise (fun a b => klt kf a b = true) → K (.ref r) vals ((r, .list (bs.map AV.ref)) :: led)) : CallW C (.blt "sorted") [.ref l] vals led K := by
  rintro _ _ rfl hvs
  obtain ⟨_, rfl, rfl⟩ := hvs.one
  refine ⟨fun s hs => ?_⟩
  obtain ⟨vs, hv, hl⟩ := hs.list hm
  obtain rfl := hv.refs
  have S := klt_strict kf as hinj
  -- ranks
  generalize hr : as.map (rnk (klt kf) as) = r
  have rl : r.length = 6 := by rw [← hr, List.length_map, h6]
  have rin : r ∈ lists 6 6 := by
    have := lists_mem (m := 6) (l := r) (by rw [← hr]; exact rnk_nodup S nd) (fun x hx => by
      rw [← hr] at hx
      obtain ⟨a, ha, rfl⟩ := List.mem_map.mp hx
      have := rnk_lt S ha
      (first | lia | omega))
    rwa [rl] at this
  have good := List.all_eq_true.mp sort6 r rin
  simp only [goodR, Bool.and_eq_true, beq_iff_eq] at good
  obtain ⟨⟨g1, g2⟩, g3⟩ := good
  have g3 := List.isPerm_iff.mp g3
  generalize hp : runT (ltR r) (kas_sort 6) = p at g2 g3
  have rg : ∀ i, i < 6 → r.getD i 0 = rnk (klt kf) as (as.getD i 0) := fun i hi => by rw [← hr]; exact getD_map (by (first | lia | omega))
  have mem : ∀ i, i < 6 → as.getD i 0 ∈ as := fun i hi => getD_mem' (by (first | lia | omega))
  have ltE : ∀ i < 6, ∀ j < 6, klt kf (as.getD i 0) (as.getD j 0) = ltR r i j := fun i hi j hj => by
    unfold ltR
    rw [rg i hi, rg j hj]
    exact rnk_iff S (mem i hi) (mem j hj)
  have hvl : (as.map Value.ref).length = 6 := by rw [List.length_map, h6]
  have psz : p.size = 6 := by rw [← Array.length_toList, g3.length_eq, List.length_range]
  have vg : ∀ i, i < 6 → (as.map Value.ref).getD i Value.none = .ref (as.getD i 0) := fun i hi => getD_map (by (first | lia | omega))
  -- what the tuples are, in any heap that keeps them
  have tups : ∀ h' : Heap, (∀ b o, b ≠ s.heap.objs.size + 1 → (((s.heap.push (seqObj "list" #[] 0)).update s.heap.objs.size (Obj.mapSeq (· ++ (as.map Value.ref).toArray))).push (seqObj "list" (as.map Value.ref).toArray 0)).get? b = some o → h'.get? b = some o) →
      ∀ a ∈ as, ∃ t u q, IsTup h' a (Value.int (kf a).1 t :: Value.str (kf a).2 u :: q).toArray := fun h' hk a ha => by
    obtain ⟨q, hq⟩ := ht a ha
    obtain ⟨ws, hw, o, ho, hc⟩ := hs.tup hq
    obtain ⟨v1, r1, rfl, ⟨t, rfl⟩, hw1⟩ := hw.uncons
    obtain ⟨v2, r2, rfl, ⟨u, rfl⟩, hw2⟩ := hw1.uncons
    have hlt := Heap.lt_size ho
    refine ⟨t, u, r2, o, hk a o (Nat.ne_of_lt (Nat.lt_succ_of_lt hlt)) ?_, hc⟩
    refine Heap.get?_push_of_some _ ?_
    rw [Heap.get?_update_ne _ _ _ _ (Nat.ne_of_lt hlt)]
    exact Heap.get?_push_of_some _ ho
  refine sorted_shell (G := fun out => out = List.toArray (p.toList.map fun i => (as.map Value.ref).getD i Value.none)) (by (first | lia | omega)) (fun A Q' hQ => collect_list hl.isList hQ (by rw [hvl, sizeLine_eq]; (first | lia | omega))) (fun P hP => ?_) fun out hG => ?_
  · have hP' := hP _ rfl
    have kept : ∀ h' : Heap, (∀ b o, b ≠ s.heap.objs.size + 1 → (((s.heap.push (seqObj "list" #[] 0)).update s.heap.objs.size (Obj.mapSeq (· ++ (as.map Value.ref).toArray))).push (seqObj "list" (as.map Value.ref).toArray 0)).get? b = some o → h'.get? b = some o) →
        ∀ b o, s.heap.get? b = some o → h'.get? b = some o := fun h' hk b o ho => by
      have hlt := Heap.lt_size ho
      refine hk b o (Nat.ne_of_lt (Nat.lt_succ_of_lt hlt)) (Heap.get?_push_of_some _ ?_)
      rw [Heap.get?_update_ne _ _ _ _ (Nat.ne_of_lt hlt)]
      exact Heap.get?_push_of_some _ ho
    have hfs : ∀ l : List Addr, (∀ a ∈ l, a ∈ as) → ∃ fs : List Value, fs.length = l.length ∧ (∀ v ∈ fs, ∃ i t, v = .int i t) ∧ ∀ h' : Heap, (∀ b o, s.heap.get? b = some o → h'.get? b = some o) → KatTups h' (l.map Value.ref) fs := by
      intro l
      induction l with
      | nil => intro _; exact ⟨[], rfl, fun v hv => absurd hv List.not_mem_nil, fun _ _ => KatTups.nil⟩
      | cons a r ih =>
        intro hl
        obtain ⟨fs, f1, f2, f3⟩ := ih fun b hb => hl b (.tail _ hb)
        obtain ⟨q, hq⟩ := ht a (hl a (.head _))
        obtain ⟨ws, hw, o, ho, hc, n, hd⟩ := hs.tup hq
        obtain ⟨v1, r1, rfl, ⟨t, rfl⟩, hw1⟩ := hw.uncons
        refine ⟨.int (kf a).1 t :: fs, by simp [f1], fun v hv => ?_, fun h' hk => KatTups.cons (hk _ _ ho) hc hd rfl (f3 h' hk)⟩
        rcases List.mem_cons.mp hv with rfl | hv
        · exact ⟨_, _, rfl⟩
        · exact f2 v hv
    obtain ⟨fs, f1, f2, f3⟩ := hfs as fun _ h => h
    obtain ⟨c1, c2⟩ := runT_congr (n := 6) ltE (kas_sort 6) g1
    refine list_sort_tup (fs := fs) (lt := fun i j => klt kf (as.getD i 0) (as.getD j 0)) (sort_hoL s _) (by (first | lia | omega)) (by (first | lia | omega)) (fun h' hk => ⟨f3 h' (kept h' hk), f2⟩) (by (first | lia | omega)) ?_ ?_ ?_ ?_
    · intro h' hk i j C hi hj hij hC
      rw [hvl] at hi hj
      unfold kas_ask
      rw [vg i hi, vg j hj]
      obtain ⟨t, u, q, h1⟩ := tups h' hk _ (mem i hi)
      obtain ⟨t', u', q', h2⟩ := tups h' hk _ (mem j hj)
      refine lt_tup3 (s := { s with heap := h' }) h1 h2 (hinj _ (mem i hi) _ (mem j hj) fun e => hij ?_) hC
      have e1 : as[i]? = some (as.getD i 0) := getD_some' (by (first | lia | omega))
      have e2 : as[j]? = some (as.getD i 0) := by rw [e]; exact getD_some' (by (first | lia | omega))
      exact (List.getElem?_inj (by (first | lia | omega)) nd).mp (e1.trans e2.symm)
    · rw [hvl]; exact c2
    · rw [hvl, c1, hp, psz]
    · rw [hvl, c1, hp]
      exact hP'
  · subst hG
    obtain ⟨e, he⟩ := sortedAll_at s.heap (as.map Value.ref) (List.toArray (p.toList.map fun i => (as.map Value.ref).getD i Value.none))
    have hbs : (p.toList.map fun i => (as.map Value.ref).getD i Value.none) = (p.toList.map fun i => as.getD i 0).map Value.ref := by
      rw [List.map_map]
      exact List.map_congr_left fun i hi => vg i (List.mem_range.mp (g3.mem_iff.mp hi))
    rw [hbs] at he ⊢
    refine ⟨.ref (s.heap.objs.size + 1), vals, _, rfl, hs.new (tk := s.toks) (ao := .list ((p.toList.map fun i => as.getD i 0).map AV.ref)) (fun _ _ => sortedAll_old) (Heap.get?_none_of_le (Nat.le_succ _)) he ⟨_, e, ?_, rfl⟩, h _ _ ?_ ?_⟩
    · have : ∀ l : List Addr, VRs (l.map AV.ref) (l.map Value.ref) := fun l => by
        induction l with
        | nil => exact .nil
        | cons a r ih => exact .cons VR.ref ih
      exact this _
    · refine (g3.map _).trans ?_
      have e6 : (List.range 6).map (fun i => as.getD i 0) = as := by
        refine List.ext_getElem (by simp [h6]) fun i h1 h2 => ?_
        rw [List.getElem_map, List.getElem_range, List.getD_eq_getElem?_getD, List.getElem?_eq_getElem h2]; rfl
      rw [e6]
    · have e7 : (p.toList.map fun i => as.getD i 0).map (rnk (klt kf) as) = List.range 6 := by
        rw [← g2, List.map_map]
        exact List.map_congr_left fun i hi => (rg i (List.mem_range.mp (g3.mem_iff.mp hi))).symm
      have pw : ((p.toList.map fun i => as.getD i 0).map (rnk (klt kf) as)).Pairwise (· < ·) := by rw [e7]; exact List.pairwise_lt_range
      rw [List.pairwise_map] at pw
      refine pw_mem pw fun a ha b hb hab => ?_
      have hin : ∀ a ∈ p.toList.map (fun i => as.getD i 0), a ∈ as := fun a ha => by
        obtain ⟨i, hi, rfl⟩ := List.mem_map.mp ha
        exact mem i (List.mem_range.mp (g3.mem_iff.mp hi))
      rw [rnk_iff S (hin a ha) (hin b hb)]
      simpa using hab
end

-- part P8
noncomputable def chOf (par : Nat → Nat) (i : Nat) : List Nat := [1, 2, 3, 4, 5].filter fun c => decide (par c = i)
noncomputable def ParOk (par : Nat → Nat) : Prop := ∀ c, 1 ≤ c → c ≤ 5 → par c < c
theorem ch_mem {par : Nat → Nat} {i c : Nat} : c ∈ chOf par i ↔ 1 ≤ c ∧ c ≤ 5 ∧ par c = i := by
  unfold chOf
  rw [List.mem_filter]
  simp only [List.mem_cons, List.not_mem_nil, or_false, decide_eq_true_eq]
  (first | lia | omega)
theorem tree_of {par hr : Nat → Nat} (hp : ParOk par) (hh : ∀ i, 1 ≤ hr i ∧ hr i ≤ 5) : Tree2 (chOf par) hr where
  up i hi c hc := by
    obtain ⟨h1, h2, h3⟩ := ch_mem.mp hc
    have := hp c h1 h2
    (first | lia | omega)
  few i hi := List.length_filter_le _ _
  hrs := hh
  inc i hi := List.Pairwise.filter _ (by decide)
section
variable (h t : Nat → Int) (par : Nat → Nat)
noncomputable def addH (c : Nat) : Int := sumh h ((chOf par (par c)).filter fun o => bef t o c)
noncomputable def arN : Nat → Nat → Int
  | 0, _ => h 0
  | n + 1, c => if c = 0 then h 0 else arN n (par c) + addH h t par c
noncomputable def ar (c : Nat) : Int := arN h t par 6 c
end
theorem arN_stable {h t : Nat → Int} {par : Nat → Nat} (hp : ParOk par) : ∀ (n c : Nat), c ≤ 5 → c ≤ n → arN h t par n c = arN h t par (n + 1) c
  | 0, c, _, hc => by
    obtain rfl : c = 0 := by (first | lia | omega)
    rfl
  | n + 1, c, h5, hc => by
    by_cases e : c = 0
    · subst e; rfl
    · conv => lhs; unfold arN
      conv => rhs; unfold arN
      rw [if_neg e, if_neg e]
      have := hp c (by (first | lia | omega)) h5
      rw [arN_stable hp n (par c) (by (first | lia | omega)) (by (first | lia | omega))]
theorem ar_zero (h t : Nat → Int) (par : Nat → Nat) : ar h t par 0 = h 0 := rfl
theorem ar_eq {h t : Nat → Int} {par : Nat → Nat} (hp : ParOk par) {c : Nat} (h1 : 1 ≤ c) (h2 : c ≤ 5) : ar h t par c = ar h t par (par c) + addH h t par c := by
  unfold ar
  conv => lhs; unfold arN
  rw [if_neg (by (first | lia | omega))]
  have := hp c h1 h2
  rw [arN_stable hp 5 (par c) (by (first | lia | omega)) (by (first | lia | omega))]
noncomputable def sndOf (par : Nat → Nat) (c : Nat) : Str := if c = 0 then S [] else lt (par c)
theorem lt_cps {i j : Nat} : (lt i).cps.toList < (lt j).cps.toList ↔ i < j := by
  show [97 + i] < [97 + j] ↔ i < j
  rw [List.cons_lt_cons_iff]
  simp
/-- the order of the row -/
noncomputable def leA (a : Nat → Int) (i j : Nat) : Bool := decide (a i < a j ∨ (a i = a j ∧ i ≤ j))
theorem leA_iff {a : Nat → Int} {i j : Nat} : leA a i j = true ↔ (a i < a j ∨ (a i = a j ∧ i ≤ j)) := by simp [leA]
noncomputable def ordA (a : Nat → Int) : List Nat := (List.range 6).mergeSort (leA a)
theorem ordA_uniq {a : Nat → Int} {l : List Nat} (hp : l.Perm (List.range 6)) (hs : l.Pairwise fun i j => leA a i j = true) : l = ordA a :=
  List.Perm.eq_of_pairwise (fun i j _ _ h1 h2 => by rw [leA_iff] at *; (first | lia | omega)) hs (List.pairwise_mergeSort (fun i j k h1 h2 => by rw [leA_iff] at *; (first | lia | omega)) (fun i j => by rw [Bool.or_eq_true, leA_iff, leA_iff]; (first | lia | omega)) _) (hp.trans (List.mergeSort_perm _ _).symm)
noncomputable def datA (h t : Nat → Int) (par : Nat → Nat) (c : Nat) : PyData := .tuple [.int (ar h t par c), .str (lt c), .str (sndOf par c)]
noncomputable def rowA (h t : Nat → Int) (par : Nat → Nat) : PyData := .list ((ordA (ar h t par)).map (datA h t par))

-- dicts by place
noncomputable def dE (pl : List (Nat × Addr)) : List (Str × AV) := pl.map fun q => (lt q.1, .ref q.2)
theorem dE_get {pl : List (Nat × Addr)} {j : Nat} {a : Addr} (nd : (pl.map (·.1)).Nodup) (h : (j, a) ∈ pl) : dget (dE pl) (lt j) = some (.ref a) := by
  unfold dget dE
  induction pl with
  | nil => cases h
  | cons q r ih =>
    rw [List.map_cons, List.nodup_cons] at nd
    rw [List.map_cons, List.find?_cons]
    by_cases e : lt q.1 = lt j
    · have e' := lt_inj e
      rcases List.mem_cons.mp h with rfl | h
      · simp
      · exact absurd (List.mem_map_of_mem (f := (·.1)) h) (by rw [← e']; exact nd.1)
    · simp only [e, decide_false]
      refine ih nd.2 ?_
      rcases List.mem_cons.mp h with rfl | h
      · exact absurd rfl e
      · exact h
theorem dE_put {pl : List (Nat × Addr)} {j : Nat} {a : Addr} (h : j ∉ pl.map (·.1)) : dput (dE pl) (lt j) (.ref a) = dE (pl ++ [(j, a)]) := by
  unfold dput
  have e : (dE pl).any (fun e => decide (e.1 = lt j)) = false := by
    rw [List.any_eq_false]
    intro p hp
    obtain ⟨q, hq, rfl⟩ := List.mem_map.mp hp
    simp only [decide_eq_true_eq]
    intro e
    have := lt_inj e
    exact h (this ▸ List.mem_map_of_mem hq)
  rw [e]
  unfold dE
  rw [List.map_append]
  rfl
/-- the places in the order in which they are met -/
noncomputable def met (par : Nat → Nat) (i : Nat) : List Nat := 0 :: (List.range i).flatMap (chOf par)
theorem met_succ (par : Nat → Nat) (i : Nat) : met par (i + 1) = met par i ++ chOf par i := by
  unfold met
  rw [List.range_succ, List.flatMap_append]
  simp
theorem met_mem {par : Nat → Nat} {i c : Nat} : c ∈ met par i ↔ c = 0 ∨ (1 ≤ c ∧ c ≤ 5 ∧ par c < i) := by
  unfold met
  rw [List.mem_cons, List.mem_flatMap]
  constructor
  · rintro (h | ⟨j, hj, hc⟩)
    · exact .inl h
    · obtain ⟨a, b, e⟩ := ch_mem.mp hc
      exact .inr ⟨a, b, by rw [e]; exact List.mem_range.mp hj⟩
  · rintro (h | ⟨a, b, e⟩)
    · exact .inl h
    · exact .inr ⟨par c, List.mem_range.mpr e, ch_mem.mpr ⟨a, b, rfl⟩⟩
theorem ch_nodup (par : Nat → Nat) (i : Nat) : (chOf par i).Nodup := List.Pairwise.filter _ (by decide)
theorem met_nodup (par : Nat → Nat) : ∀ i, (met par i).Nodup
  | 0 => by simp [met]
  | i + 1 => by
    rw [met_succ, List.nodup_append]
    refine ⟨met_nodup par i, ch_nodup par i, fun a ha b hb e => ?_⟩
    subst e
    obtain ⟨h1, h2, h3⟩ := ch_mem.mp hb
    rcases met_mem.mp ha with q | ⟨_, _, q⟩ <;> (first | lia | omega)

-- part F16
-- _law_arrivals
noncomputable abbrev pnAr : List Str := ["waits", "hours", "least"]
noncomputable abbrev lsAr : List Str := ["arrivals", "place", "child", "ahead", "total"]
noncomputable abbrev nmAr : List Str := ["waits", "hours", "least", "arrivals", "place", "child", "ahead", "total"]
noncomputable abbrev wrAr : List Str := ["hours", "least", "arrivals", "child"]
theorem foAr (w : World) : FnOk (fdAt w 261) pnAr lsAr wrAr := fnOk_of (by kernel_rfl)
theorem loAr (w : World) : (KH w).lookup 261 = some ⟨.type "function", none, .func (fdAt w 261), #[]⟩ := by kernel_rfl
theorem cdAr (w : World) : codeIn (KH w) (fdAt w 261).code (fdAt w 261).qualname = true := by kernel_rfl
theorem boAr (w : World) : (fdAt w 261).body = .stmts (bodyOf (fdAt w 261).body) := by kernel_rfl
theorem biAr (w : World) (vs : List Value) (h : vs.length = 3) : bindArgs (fdAt w 261) ⟨vs, []⟩ = pure (pnAr.zip vs) := by
  obtain ⟨a, b, c, rfl⟩ := len3 h
  kernel_rfl
theorem litA : Str.ofString "a" = lt 0 := by decide
theorem litEm : Str.ofString "" = S [] := by decide
section
variable (h t : Nat → Int) (par : Nat → Nat)
noncomputable def tupO (c : Nat) : AO := .tup [.int (ar h t par c), .str (lt c), .str (sndOf par c)]
noncomputable def TL (pl : List (Nat × Addr)) : Ledger := pl.reverse.map fun q => (q.2, tupO h t par q.1)
end
theorem TL_mem {h t : Nat → Int} {par : Nat → Nat} {pl : List (Nat × Addr)} {c : Nat} {a : Addr} (hm : (c, a) ∈ pl) : (a, tupO h t par c) ∈ TL h t par pl := List.mem_map.mpr ⟨(c, a), List.mem_reverse.mpr hm, rfl⟩
theorem TL_snoc (h t : Nat → Int) (par : Nat → Nat) (pl : List (Nat × Addr)) (c : Nat) (a : Addr) : TL h t par (pl ++ [(c, a)]) = (a, tupO h t par c) :: TL h t par pl := by simp [TL]
theorem RD.up {led led' : Ledger} (hs : ∀ p ∈ led, p ∈ led') : ∀ {a : AV} {d : PyData}, RD led a d → RD led' a d
  | _, _, .int i => .int i
  | _, _, .str x => .str x
  | _, _, .tup hm hr => .tup (hs _ hm) (RDs_up hs hr)
  | _, _, .list hm hr => .list (hs _ hm) (RDs_up hs hr)
where RDs_up {led led' : Ledger} (hs : ∀ p ∈ led, p ∈ led') : ∀ {as : List AV} {ds : List PyData}, RDs led as ds → RDs led' as ds
  | _, _, .nil => .nil
  | _, _, .cons h1 h2 => .cons (RD.up hs h1) (RDs_up hs h2)
noncomputable def taOf (pl : List (Nat × Addr)) (j : Nat) : Addr := ((pl.find? fun q => decide (q.1 = j)).map (·.2)).getD 0
noncomputable def paOf (pl : List (Nat × Addr)) (a : Addr) : Nat := ((pl.find? fun q => decide (q.2 = a)).map (·.1)).getD 0
theorem taOf_mem {pl : List (Nat × Addr)} {j : Nat} (h : j ∈ pl.map (·.1)) : (j, taOf pl j) ∈ pl := by
  unfold taOf
  induction pl with
  | nil => cases h
  | cons q r ih =>
    rw [List.find?_cons]
    by_cases e : q.1 = j
    · subst e; simp
    · simp only [e, decide_false]
      rw [List.map_cons] at h
      rcases List.mem_cons.mp h with e' | h
      · exact absurd e'.symm e
      · exact .tail _ (ih h)
theorem paOf_eq {pl : List (Nat × Addr)} (nd : (pl.map (·.2)).Nodup) {j : Nat} {a : Addr} (h : (j, a) ∈ pl) : paOf pl a = j := by
  unfold paOf
  induction pl with
  | nil => cases h
  | cons q r ih =>
    rw [List.map_cons, List.nodup_cons] at nd
    rw [List.find?_cons]
    by_cases e : q.2 = a
    · subst e
      rcases List.mem_cons.mp h with e' | h
      · have e1 : q.1 = j := by rw [← e']
        simp [e1]
      · exact absurd (List.mem_map_of_mem (f := (·.2)) h) nd.1
    · simp only [e, decide_false]
      rcases List.mem_cons.mp h with e' | h
      · exact absurd (by rw [← e']) e
      · exact ih nd.2 h
/-- six tuples by their places: the sorted list reads as the row -/
theorem row_of {h t : Nat → Int} {par : Nat → Nat} {pl : List (Nat × Addr)} (nd : (pl.map (·.2)).Nodup) {bs : List Addr} {l' : Ledger} {r : Addr} (hm : (r, AO.list (bs.map AV.ref)) ∈ l') (hb : ∀ a ∈ bs, (paOf pl a, a) ∈ pl) (ht : ∀ q ∈ pl, (q.2, tupO h t par q.1) ∈ l')
    (hp : (bs.map (paOf pl)).Perm (List.range 6)) (hs : bs.Pairwise fun a b => leA (ar h t par) (paOf pl a) (paOf pl b) = true) : RD l' (.ref r) (rowA h t par) := by
  have e : bs.map (paOf pl) = ordA (ar h t par) := ordA_uniq hp (by rw [List.pairwise_map]; exact hs)
  refine .list hm ?_
  rw [← e, List.map_map]
  have : ∀ l : List Addr, (∀ a ∈ l, a ∈ bs) → RDs l' (l.map AV.ref) (l.map (datA h t par ∘ paOf pl)) := by
    intro l
    induction l with
    | nil => intro _; exact .nil
    | cons a q ih =>
      intro hl
      refine .cons (.tup (ht _ (hb a (hl a (.head _)))) ?_) (ih fun b hb => hl b (.tail _ hb))
      exact .cons (.int _) (.cons (.str _) (.cons (.str _) .nil))
  exact this bs fun _ h => h
theorem pos_of {l : List Nat} {c : Nat} (h : c ∈ l) {pl : List (Nat × Addr)} (e : pl.map (·.1) = l) : ∃ a, (c, a) ∈ pl := by
  rw [← e] at h
  obtain ⟨q, hq, rfl⟩ := List.mem_map.mp h
  exact ⟨q.2, hq⟩
noncomputable abbrev Iv16c4 (D : Addr) (pl : List (Nat × Addr)) (led1 : List (Addr × AO)) : Addr → Nat → Vals → Ledger → Prop := (fun acc i3 v ld => ∃ z, v = [z, some (.ref D)] ∧ ld = (acc, .list (((List.range i3).map (taOf pl)).map AV.ref)) :: led1)
noncomputable abbrev Iv16c3 (hr : Nat → Nat) (H : Addr) (led1 : List (Addr × AO)) (acc : Addr) (ms : List Nat) : Addr → Nat → Vals → Ledger → Prop := (fun acc2 i3 v ld => ∃ z, v = [z, some (.ref H)] ∧ ld = (acc2, .list (((ms.take i3).map (hI hr)).map .int)) :: (acc, .list (txs ms)) :: led1)
noncomputable abbrev Iv16c2 (par : Nat → Nat) (Ls : Addr) (t : Nat → Int) (p : Nat) (c : Nat) (led1 : List (Addr × AO)) : Addr → Nat → Vals → Ledger → Prop := (fun acc i3 v ld => ∃ z, v = [z, some (.str (lt c)), some (.ref Ls)] ∧ ld = (acc, .list (txs (((chOf par p).take i3).filter fun o => bef t o c))) :: led1)
noncomputable abbrev Iv16c1 (led : Ledger) (par : Nat → Nat) (hr : Nat → Nat) (W : Addr) (H : Addr) (Ls : Addr) (t : Nat → Int) (D : Addr) (p : Nat) (ap : Addr) : Nat → Vals → Ledger → Prop := (fun i2 v ld => Ex4 fun (pl : List (Nat × Addr)) (y2 y3 y4 : Option AV) => An4 (v = [some (.ref W), some (.ref H), some (.ref Ls), some (.ref D), some (.str (lt p)), y2, y3, y4]) (ld = (D, .dict (dE pl) none) :: (TL (hI hr) t par pl ++ led)) (pl.map (·.1) = met par p ++ (chOf par p).take i2) ((p, ap) ∈ pl))
noncomputable abbrev Iv16c0 (led : Ledger) (par : Nat → Nat) (hr : Nat → Nat) (W : Addr) (H : Addr) (Ls : Addr) (t : Nat → Int) (D : Addr) : Nat → Vals → Ledger → Prop := (fun i v ld => Ex5 fun (pl : List (Nat × Addr)) (x1 x2 x3 x4 : Option AV) => An3 (v = [some (.ref W), some (.ref H), some (.ref Ls), some (.ref D), x1, x2, x3, x4]) (ld = (D, .dict (dE pl) none) :: (TL (hI hr) t par pl ++ led)) (pl.map (·.1) = met par i))
set_option maxHeartbeats 4000000 in
theorem CallW_arrivals {C : Cx} {vals : Vals} {led : Ledger} {k : Nat} {par hr : Nat → Nat} {W H Ls : Addr} {wa : Nat → Addr} {ep : Option Nat} {t : Nat → Int} {lord : List Nat} {K : AV → Vals → Ledger → Prop} (ok : COk C (k + 1)) (hp : ParOk par) (hh5 : ∀ i, 1 ≤ hr i ∧ hr i ≤ 5) (hw : WaitsAt led W wa (chOf par) ep) (hh : HoursAt led H hr)
    (hls : (Ls, AO.dict (leE t lord) none) ∈ led) (hlord : ∀ c, c < 6 → c ∈ lord) (h : ∀ r l', RD l' (.ref r) (rowA (hI hr) t par) → (∀ p ∈ led, p ∈ l') → K (.ref r) vals l') : CallW C (.ref 261) [.ref W, .ref H, .ref Ls] vals led K := by
  refine CallW_def (names := nmAr) ok (foAr _) rfl (loAr _) (cdAr _) (boAr _) rfl (fun vs h => biAr _ vs h) fun B0 outs L ok' aw => ?_
  conv in bodyOf _ => whnf
  show ExsW _ _ [some (.ref W), some (.ref H), some (.ref Ls), none, none, none, none, none] _ _
  have T := tree_of hp hh5
  repeat k_ownIn
  with_reducible refine EvW_Dict1 ?_
  intro D
  repeat k_ownIn
  with_reducible refine EvW_Tuple (by simp) ?_
  repeat k_ownIn
  rw [litA]
  with_reducible refine SubW_dict (m1 hh.dict) (dget_at (by decide)) (fun _ _ => by with_unfolding_all rfl) ?_
  repeat k_ownIn
  refine ⟨by simp, fun a0 => ⟨lt 0, [], _, rfl, m1 m0, by simp, .there .here, ?_⟩⟩
  repeat k_ownIn
  have hst : ((a0, AO.tup [.int (hr 0), .str (lt 0), .str (Str.ofString "")]) :: (D, .dict (dput [] (lt 0) (.ref a0)) none) :: led).Perm ((D, .dict (dE [(0, a0)]) none) :: (TL (hI hr) t par [(0, a0)] ++ led)) := by
    rw [litEm]
    exact List.Perm.swap _ _ _
  refine TW.perm hst.symm ?_
  with_reducible refine ExFor ok' (fun _ => by with_unfolding_all rfl) ?_
  repeat k_ownIn
  with_reducible refine It_str Plain.name ok' asc_af ?_
  rw [signs_af]
  refine ForT_vals (Iv16c0 led par hr W H Ls t D)
    ⟨[(0, a0)], none, none, none, none, rfl, rfl, rfl⟩ (fun _ _ _ _ => trivial) ?_ ?_
  · intro i a v ld B hx hG6 okB
    refine hide fun PG kG => ?_
    obtain ⟨pl, x1, x2, x3, x4, rfl, rfl, hpl⟩ := hG6
    refine kG ?_
    clear kG PG
    have awB : ((CG 261 nmAr wrAr C B0 outs L).base B).AllWr := aw
    refine hide fun PG kG => ?_
    obtain ⟨p, hpx, rfl⟩ := txs_get hx
    refine kG ?_
    clear kG PG
    have hi : i < 6 := (List.getElem?_eq_some_iff.mp hpx).1
    obtain rfl : p = i := by
      have : i = 0 ∨ i = 1 ∨ i = 2 ∨ i = 3 ∨ i = 4 ∨ i = 5 := by (first | lia | omega)
      rcases this with rfl | rfl | rfl | rfl | rfl | rfl <;> (cases hpx; rfl)
    have hpin : p ∈ met par p := by
      rw [met_mem]
      rcases Nat.eq_zero_or_pos p with e | e
      · exact .inl e
      · exact .inr ⟨e, by (first | lia | omega), hp p e (by (first | lia | omega))⟩
    refine hide fun PG kG => ?_
    obtain ⟨ap, hap⟩ := pos_of hpin hpl
    refine kG ?_
    clear kG PG
    repeat k_ownIn
    with_reducible refine ExFor okB (fun _ => by with_unfolding_all rfl) ?_
    repeat k_ownIn
    with_reducible refine SubW_dict (m1 (List.mem_append_right _ hw.dict)) (dget_at hi) (fun _ _ => by with_unfolding_all rfl) ?_
    have hwl := hw.lists p hi
    with_reducible refine It_list Plain.name okB (m1 (List.mem_append_right _ hwl)) ?_
    refine ForT_vals (Iv16c1 led par hr W H Ls t D p ap)
      ⟨pl, _, _, _, rfl, rfl, by rw [List.take_zero, List.append_nil]; exact hpl, hap⟩ (fun i2 v ld ⟨pl, _, _, _, _, e, _, _⟩ => e ▸ m1 (List.mem_append_right _ hwl)) ?_ ?_
    · clear hpl hap
      clear pl
      intro i2 a v ld B2 hx2 hG6 okB2
      refine hide fun PG kG => ?_
      obtain ⟨pl, y2, y3, y4, rfl, rfl, hpl, hap⟩ := hG6
      refine kG ?_
      clear kG PG
      have awB2 : (((CG 261 nmAr wrAr C B0 outs L).base B).base B2).AllWr := aw
      refine hide fun PG kG => ?_
      obtain ⟨c, hc, rfl⟩ := txs_get hx2
      refine kG ?_
      clear kG PG
      have hcm := List.mem_of_getElem? hc
      refine hide fun PG kG => ?_
      obtain ⟨c1, c5, cpar⟩ := ch_mem.mp hcm
      refine kG ?_
      clear kG PG
      have hplnd : (pl.map (·.1)).Nodup := by
        rw [hpl]
        refine List.Nodup.sublist ?_ (met_nodup par (p + 1))
        rw [met_succ]
        exact List.Sublist.append_left (List.take_sublist _ _) _
      have hcn : c ∉ pl.map (·.1) := by
        rw [hpl]
        intro hm
        rcases List.mem_append.mp hm with q | q
        · rcases met_mem.mp q with e | ⟨_, _, e⟩ <;> (first | lia | omega)
        · have hnd := ch_nodup par p
          obtain ⟨j, hj, e⟩ := List.mem_take_iff_getElem.mp q
          have hj' : j < i2 := by (first | lia | omega)
          have h1 : (chOf par p)[j]? = some c := by rw [List.getElem?_eq_getElem (by (first | lia | omega)), e]
          have := (List.getElem?_inj (by (first | lia | omega)) hnd).mp (h1.trans hc.symm)
          (first | lia | omega)
      have hpl6 : pl.length ≤ 6 := by
        have : (pl.map (·.1)).length ≤ (List.range 6).length := List.Nodup.length_le_of_subset hplnd fun j hj => by
          rw [hpl] at hj
          rcases List.mem_append.mp hj with q | q
          · rcases met_mem.mp q with e | ⟨_, e, _⟩ <;> (rw [List.mem_range]; (first | lia | omega))
          · obtain ⟨_, e, _⟩ := ch_mem.mp (List.mem_of_mem_take q)
            rw [List.mem_range]; (first | lia | omega)
        simpa using this
      generalize hl1 : (D, AO.dict (dE pl) none) :: (TL (hI hr) t par pl ++ led) = led1
      revert led1
      refine keepAll ?_
      intro led1
      set_option tactic.hygienic false in intros
      have q0 : ∀ p ∈ led, p ∈ led1 := fun p hp => by rw [← hl1]; exact m1 (List.mem_append_right _ hp)
      have q1 : (D, AO.dict (dE pl) none) ∈ led1 := by rw [← hl1]; exact m0
      have q2 : (ap, AO.tup [.int (ar (hI hr) t par p), .str (lt p), .str (sndOf par p)]) ∈ led1 := by rw [← hl1]; exact m1 (List.mem_append_left _ (TL_mem hap))
      iterate 3 k_ownIn
      with_reducible refine ExListComp ["other"] ["child", "least"] [] okB2 awB2 (by with_unfolding_all rfl) (compOk_of (by kernel_rfl) (by kernel_rfl) (by kernel_rfl)) (fun _ => by with_unfolding_all rfl) ?_
      repeat k_ownIn
      with_reducible refine SubW_dict (q0 _ hw.dict) (dget_at hi) (fun _ _ => by with_unfolding_all rfl) ?_
      with_reducible refine It_list Plain.name okB2 (q0 _ hwl) ?_
      refine CompT_vals ["other", "child", "least"] rfl [some (.str (lt c)), some (.ref Ls)] (FVals.mk (by k_allIn) (FVals.mk (by k_allIn) .nil)) (Iv16c2 par Ls t p c led1)
        (fun acc => ⟨none, rfl, rfl⟩) (fun acc i3 v ld ⟨z, _, e⟩ => e ▸ m1 (q0 _ hwl)) ?_ ?_
      · intro acc B3 outs3 L3 i3 a v ld okC hx3 hG10 B4 okB4
        refine hide fun PG kG => ?_
        obtain ⟨z, rfl, rfl⟩ := hG10
        refine kG ?_
        clear kG PG
        refine hide fun PG kG => ?_
        obtain ⟨o, ho, rfl⟩ := txs_get hx3
        refine kG ?_
        clear kG PG
        refine hide fun PG kG => ?_
        obtain ⟨o1, o5, _⟩ := ch_mem.mp (List.mem_of_getElem? ho)
        refine kG ?_
        clear kG PG
        have hi3 : i3 < (chOf par p).length := (List.getElem?_eq_some_iff.mp ho).1
        have hfew := T.few p hi
        refine CompTurn_name okB4 (.inl (by kernel_rfl)) SetIs.here ?_
        refine TW.drop ?_
        repeat k_ownIn
        with_reducible refine EvW_Tuple (by simp) ?_
        repeat k_ownIn
        with_reducible refine SubW_dict (m1 (q0 _ hls)) (leE_get (hlord o (by (first | lia | omega)))) (fun _ _ => by with_unfolding_all rfl) ?_
        repeat k_ownIn
        refine ⟨by simp, fun T1 => ?_⟩
        with_reducible refine EvW_Tuple (by simp) ?_
        repeat k_ownIn
        with_reducible refine SubW_dict (m1 (m1 (q0 _ hls))) (leE_get (hlord c (by (first | lia | omega)))) (fun _ _ => by with_unfolding_all rfl) ?_
        repeat k_ownIn
        refine ⟨by simp, fun T2 => ?_⟩
        with_reducible refine CmpW_pairLe okB4 (m1 m0) m0 ?_
        repeat k_ownIn
        refine ⟨(acc, .list (txs (((chOf par p).take i3).filter fun o => bef t o c))) :: led1, (List.sublist_cons_self _ _).trans (List.sublist_cons_self _ _), ?_⟩
        have hbe : decide (-t o < -t c ∨ (-t o = -t c ∧ ((lt o).cps.toList < (lt c).cps.toList ∨ lt o = lt c))) = bef t o c := by
          unfold bef
          refine decide_eq_decide.mpr ?_
          rw [lt_cps]
          constructor
          · rintro (q | ⟨q, r | r⟩)
            · exact .inl (by (first | lia | omega))
            · exact .inr ⟨by (first | lia | omega), by (first | lia | omega)⟩
            · have := lt_inj r
              exact .inr ⟨by (first | lia | omega), by (first | lia | omega)⟩
          · rintro (q | ⟨q, r⟩)
            · exact .inl (by (first | lia | omega))
            · rcases Nat.lt_or_ge o c with e | e
              · exact .inr ⟨by (first | lia | omega), .inl e⟩
              · exact .inr ⟨by (first | lia | omega), .inr (by rw [show o = c by (first | lia | omega)])⟩
        rw [hbe]
        have etake : (chOf par p).take (i3 + 1) = (chOf par p).take i3 ++ [o] := by rw [List.take_add_one, ho]; rfl
        refine IteP (fun hb => ?_) fun hb => ?_
        · with_reducible refine InnerW_list ?_
          repeat k_ownIn
          with_reducible refine CallW_append m0 (by rw [txs_len]; refine Nat.le_trans (List.length_filter_le _ _) ?_; rw [List.length_take]; (first | lia | omega)) .here ?_
          refine ⟨_, rfl, ?_⟩
          have e2 : [o].filter (fun o => bef t o c) = [o] := List.filter_eq_self.mpr fun q hq => by
            obtain rfl := List.mem_singleton.mp hq
            exact hb
          rw [etake, List.filter_append, txs_app, e2]
        · refine ⟨_, rfl, ?_⟩
          have e2 : [o].filter (fun o => bef t o c) = [] := List.filter_eq_nil_iff.mpr fun q hq => by
            obtain rfl := List.mem_singleton.mp hq
            rw [hb]; exact Bool.false_ne_true
          rw [etake, List.filter_append, e2, List.append_nil]
      · intro acc v' l' hG3
        refine hide fun PG kG => ?_
        obtain ⟨z, rfl, rfl⟩ := hG3
        refine kG ?_
        clear kG PG
        rw [List.length_map, List.take_length]
        generalize hms : (chOf par p).filter (fun o => bef t o c) = ms
        revert ms
        refine keepAll ?_
        intro ms
        set_option tactic.hygienic false in intros
        have hms5 : ms.length ≤ 5 := by rw [← hms]; exact Nat.le_trans (List.length_filter_le _ _) (T.few p hi)
        refine ⟨_, by k_memK, ?_⟩
        repeat k_ownIn
        with_reducible refine EvListComp ["other"] ["hours"] [] okB2 (compOk_of (by kernel_rfl) (by kernel_rfl) (by kernel_rfl)) (fun _ => by with_unfolding_all rfl) ?_
        repeat k_ownIn
        with_reducible refine It_list Plain.name okB2 m0 ?_
        refine CompT_vals ["other", "hours"] rfl [some (.ref H)] (FVals.mk (by k_allIn) .nil) (Iv16c3 hr H led1 acc ms)
          (fun acc2 => ⟨none, rfl, rfl⟩) (fun acc2 i3 v ld ⟨z, _, e⟩ => e ▸ m1 m0) ?_ ?_
        · intro acc2 B3 outs3 L3 i3 a v ld okC hx3 hG10 B4 okB4
          refine hide fun PG kG => ?_
          obtain ⟨z2, rfl, rfl⟩ := hG10
          refine kG ?_
          clear kG PG
          refine hide fun PG kG => ?_
          obtain ⟨o, ho, rfl⟩ := txs_get hx3
          refine kG ?_
          clear kG PG
          have hi3 : i3 < ms.length := (List.getElem?_eq_some_iff.mp ho).1
          have hom : o ∈ ms := List.mem_of_getElem? ho
          refine hide fun PG kG => ?_
          obtain ⟨o1, o5, _⟩ := ch_mem.mp (List.mem_filter.mp (hms ▸ hom)).1
          refine kG ?_
          clear kG PG
          refine CompTurn_name okB4 (.inl (by kernel_rfl)) SetIs.here ?_
          repeat k_ownIn
          refine CompYes ?_
          with_reducible refine InnerW_list ?_
          repeat k_ownIn
          with_reducible refine SubW_dict (m1 (m1 (q0 _ hh.dict))) (dget_at (by (first | lia | omega))) (fun _ _ => by with_unfolding_all rfl) ?_
          with_reducible refine CallW_append m0 (by rw [List.length_map, List.length_map, List.length_take]; (first | lia | omega)) .here ?_
          refine ⟨_, rfl, ?_⟩
          rw [List.take_add_one, ho, List.map_append, List.map_append]
          rfl
        · intro acc2 v' l' hG3
          refine hide fun PG kG => ?_
          obtain ⟨z2, rfl, rfl⟩ := hG3
          refine kG ?_
          clear kG PG
          rw [txs_len, List.take_length]
          repeat k_ownIn
          with_reducible refine CallW_sum okB2 m0 ?_
          rw [show (ms.map (hI hr)).sum = sumh (hI hr) ms from rfl]
          iterate 2 k_ownIn
          refine TW.sub ((List.sublist_cons_self _ _).trans (List.sublist_cons_self _ _)) ?_
          repeat k_ownIn
          with_reducible refine EvW_Tuple (by simp) ?_
          repeat k_ownIn
          with_reducible refine SubW_dict q1 (dE_get hplnd hap) (fun _ _ => by with_unfolding_all rfl) ?_
          repeat k_ownIn
          with_reducible refine SubW_tup q2 (by decide) rfl (by simp) (fun _ _ => by with_unfolding_all rfl) ?_
          repeat k_ownIn
          refine ⟨by simp, fun ac => ?_⟩
          repeat k_ownIn
          rw [← hl1]
          with_reducible refine SetW_dict (m1 m0) (by unfold dE; rw [List.length_map]; (first | lia | omega)) (.there .here) ?_
          rw [dE_put hcn]
          have har : ar (hI hr) t par p + sumh (hI hr) ms = ar (hI hr) t par c := by
            rw [ar_eq hp c1 c5]
            unfold addH
            rw [cpar, hms]
          have hsn : lt p = sndOf par c := by unfold sndOf; rw [if_neg (by (first | lia | omega)), cpar]
          have hpm : ((D, AO.dict (dE (pl ++ [(c, ac)])) none) :: (TL (hI hr) t par (pl ++ [(c, ac)]) ++ led)).Perm ((ac, .tup [.int (ar (hI hr) t par p + sumh (hI hr) ms), .str (lt c), .str (lt p)]) :: (D, .dict (dE (pl ++ [(c, ac)])) none) :: (TL (hI hr) t par pl ++ led)) := by
            rw [TL_snoc, har, hsn]
            exact List.Perm.swap _ _ _
          k_ownIn
          refine TW.perm hpm ?_
          repeat k_ownIn
          refine ForTurn_next ⟨pl ++ [(c, ac)], _, _, _, rfl, rfl, ?_, List.mem_append_left _ hap⟩
          rw [List.map_append, hpl, List.take_add_one, hc]
          simp
    · intro v ld hG2
      refine hide fun PG kG => ?_
      obtain ⟨pl, y2, y3, y4, rfl, rfl, hpl, hap⟩ := hG2
      refine kG ?_
      clear kG PG
      rw [List.length_map, List.take_length, ← met_succ] at hpl
      repeat k_ownIn
      exact ForTurn_next ⟨pl, _, _, _, _, rfl, rfl, hpl⟩
  · intro v ld hG2
    refine hide fun PG kG => ?_
    obtain ⟨pl, x1, x2, x3, x4, rfl, rfl, hpl⟩ := hG2
    refine kG ?_
    clear kG PG
    refine TW.nd fun lnd => ?_
    have nd2 : (pl.map (·.2)).Nodup := by
      rw [List.map_cons, List.nodup_cons, List.map_append] at lnd
      have := (List.nodup_append.mp lnd.2).1
      unfold TL at this
      rw [List.map_map, List.map_reverse] at this
      exact (List.reverse_perm _).nodup_iff.mp this
    have hplnd : (pl.map (·.1)).Nodup := by rw [hpl]; exact met_nodup par _
    have ta : ∀ j, j < 6 → (j, taOf pl j) ∈ pl := fun j hj => by
      refine taOf_mem ?_
      rw [hpl, met_mem]
      rcases Nat.eq_zero_or_pos j with e | e
      · exact .inl e
      · exact .inr ⟨e, by (first | lia | omega), by have := hp j e (by (first | lia | omega)); show _ < 6; (first | lia | omega)⟩
    have pa : ∀ j, j < 6 → paOf pl (taOf pl j) = j := fun j hj => paOf_eq nd2 (ta j hj)
    generalize hl1 : (D, AO.dict (dE pl) none) :: (TL (hI hr) t par pl ++ led) = led1 at *
    revert led1
    refine keepAll ?_
    intro led1
    set_option tactic.hygienic false in intros
    have q0 : ∀ p ∈ led, p ∈ led1 := fun p hp => by rw [← hl1]; exact m1 (List.mem_append_right _ hp)
    have q1 : (D, AO.dict (dE pl) none) ∈ led1 := by rw [← hl1]; exact m0
    have q2 : ∀ q ∈ pl, (q.2, tupO (hI hr) t par q.1) ∈ led1 := fun q hq => by rw [← hl1]; exact m1 (List.mem_append_left _ (TL_mem hq))
    repeat k_ownIn
    with_reducible refine EvListComp ["place"] ["arrivals"] [] ok' (compOk_of (by kernel_rfl) (by kernel_rfl) (by kernel_rfl)) (fun _ => by with_unfolding_all rfl) ?_
    repeat k_ownIn
    with_reducible refine It_str Plain.name ok' asc_af ?_
    rw [signs_af]
    refine CompT_vals ["place", "arrivals"] rfl [some (.ref D)] (FVals.mk (by k_allIn) .nil) (Iv16c4 D pl led1)
      (fun acc => ⟨none, rfl, rfl⟩) (fun _ _ _ _ _ => trivial) ?_ ?_
    · intro acc B3 outs3 L3 i3 a v ld okC hx3 hG10 B4 okB4
      refine hide fun PG kG => ?_
      obtain ⟨z, rfl, rfl⟩ := hG10
      refine kG ?_
      clear kG PG
      refine hide fun PG kG => ?_
      obtain ⟨j, hj, rfl⟩ := txs_get hx3
      refine kG ?_
      clear kG PG
      have hi3 : i3 < 6 := (List.getElem?_eq_some_iff.mp hj).1
      obtain rfl : j = i3 := by
        have : i3 = 0 ∨ i3 = 1 ∨ i3 = 2 ∨ i3 = 3 ∨ i3 = 4 ∨ i3 = 5 := by (first | lia | omega)
        rcases this with rfl | rfl | rfl | rfl | rfl | rfl <;> (cases hj; rfl)
      refine CompTurn_name okB4 (.inl (by kernel_rfl)) SetIs.here ?_
      repeat k_ownIn
      refine CompYes ?_
      with_reducible refine InnerW_list ?_
      repeat k_ownIn
      with_reducible refine SubW_dict (m1 q1) (dE_get hplnd (ta j hi3)) (fun _ _ => by with_unfolding_all rfl) ?_
      with_reducible refine CallW_append m0 (by simp; (first | lia | omega)) .here ?_
      refine ⟨_, rfl, ?_⟩
      rw [List.range_succ, List.map_append, List.map_append]
      rfl
    · intro acc v' l' hG3
      refine hide fun PG kG => ?_
      obtain ⟨z, rfl, rfl⟩ := hG3
      refine kG ?_
      clear kG PG
      rw [show (txs [0, 1, 2, 3, 4, 5]).length = 6 from rfl]
      repeat k_ownIn
      generalize has : (List.range 6).map (taOf pl) = as
      revert as
      refine keepAll ?_
      intro as
      set_option tactic.hygienic false in intros
      have hasm : ∀ a ∈ as, ∃ j, j < 6 ∧ a = taOf pl j := fun a ha => by
        rw [← has] at ha
        obtain ⟨j, hj, rfl⟩ := List.mem_map.mp ha
        exact ⟨j, List.mem_range.mp hj, rfl⟩
      have asnd : as.Nodup := by
        rw [← has]
        refine List.Pairwise.map _ (R := fun i j : Nat => i ≠ j ∧ i < 6 ∧ j < 6) (fun i j ⟨hij, h1, h2⟩ e => hij ?_) ?_
        · have := congrArg (paOf pl) e
          rwa [pa i h1, pa j h2] at this
        · exact pw_mem (List.nodup_range (n := 6)) fun a ha b hb hab => ⟨hab, List.mem_range.mp ha, List.mem_range.mp hb⟩
      with_reducible refine CallW_sorted6 (fun a => (ar (hI hr) t par (paOf pl a), lt (paOf pl a))) m0 (by rw [← has]; simp) asnd ?_ ?_ ?_
      · intro a ha
        refine hide fun PG kG => ?_
        obtain ⟨j, hj, rfl⟩ := hasm a ha
        refine kG ?_
        clear kG PG
        refine ⟨[.str (sndOf par j)], m1 ?_⟩
        simp only [pa j hj]
        exact q2 _ (ta j hj)
      · intro a ha b hb hab e
        refine hide fun PG kG => ?_
        obtain ⟨i, hi, rfl⟩ := hasm a ha
        refine kG ?_
        clear kG PG
        refine hide fun PG kG => ?_
        obtain ⟨j, hj, rfl⟩ := hasm b hb
        refine kG ?_
        clear kG PG
        simp only [pa i hi, pa j hj] at e
        exact hab (by rw [lt_inj e])
      · intro r bs hperm hpw
        repeat k_ownIn
        refine h r _ (row_of nd2 (bs := bs) m0 (fun a ha => ?_) (fun q hq => m1 (m1 (q2 q hq))) ?_ ?_) fun p hp => m1 (m1 (q0 p hp))
        · refine hide fun PG kG => ?_
          obtain ⟨j, hj, rfl⟩ := hasm a (hperm.mem_iff.mp ha)
          refine kG ?_
          clear kG PG
          rw [pa j hj]; exact ta j hj
        · refine (hperm.map _).trans ?_
          rw [← has, List.map_map]
          rw [show (List.range 6).map (paOf pl ∘ taOf pl) = List.range 6 from ?_]
          refine (List.map_congr_left fun j hj => ?_).trans (List.map_id _)
          exact pa j (List.mem_range.mp hj)
        · refine hpw.imp fun {a b} hab => ?_
          unfold klt at hab
          rw [leA_iff]
          simp only [decide_eq_true_eq, lt_cps] at hab
          (first | lia | omega)

-- part P9
noncomputable def ltN (a b : Addr) : Bool := decide (a < b)
noncomputable def Agr (lt : Addr → Addr → Bool) (ρ : Addr → Nat) (l : List Addr) : Prop := ∀ a ∈ l, ∀ b ∈ l, lt a b = ltN (ρ a) (ρ b)
theorem gm {ρ : Addr → Nat} {xs : List Addr} {i : Nat} (h : i < xs.length) : (xs.map ρ).getD i 0 = ρ (xs.getD i 0) := by
  rw [List.getD_eq_getElem?_getD, List.getD_eq_getElem?_getD, List.getElem?_map, List.getElem?_eq_getElem h]; rfl
theorem sd_map {lt : Addr → Addr → Bool} {ρ : Addr → Nat} {sp : Nat} {item : Addr} : ∀ (n pos : Nat) (xs : List Addr), pos < xs.length → Agr lt ρ (item :: xs) → (sd lt sp item n pos xs).map ρ = sd ltN sp (ρ item) n pos (xs.map ρ)
  | 0, pos, xs, h, A => by unfold sd; rw [List.map_set]
  | n + 1, pos, xs, h, A => by
    unfold sd
    by_cases hp : pos > sp
    · rw [if_pos hp, if_pos hp, gm (by (first | lia | omega))]
      have hin : xs.getD ((pos - 1) / 2) 0 ∈ xs := getD_mem' (by (first | lia | omega))
      rw [← A item (.head _) _ (.tail _ hin)]
      by_cases hl : lt item (xs.getD ((pos - 1) / 2) 0) = true
      · rw [if_pos hl, if_pos hl, sd_map n _ _ (by simp; (first | lia | omega)) (fun a ha b hb => A a ?_ b ?_), List.map_set]
        · rcases List.mem_cons.mp ha with e | ha
          · exact e ▸ .head _
          · rcases List.mem_or_eq_of_mem_set ha with q | q
            · exact .tail _ q
            · rw [q]; exact .tail _ hin
        · rcases List.mem_cons.mp hb with e | hb
          · exact e ▸ .head _
          · rcases List.mem_or_eq_of_mem_set hb with q | q
            · exact .tail _ q
            · rw [q]; exact .tail _ hin
      · rw [if_neg hl, if_neg hl, List.map_set]
    · rw [if_neg hp, if_neg hp, List.map_set]
theorem suc_map {lt : Addr → Addr → Bool} {ρ : Addr → Nat} {pos : Nat} {xs : List Addr} (A : Agr lt ρ xs) : suc ltN pos (xs.map ρ) = suc lt pos xs := by
  unfold suc
  rw [List.length_map]
  by_cases h : 2 * pos + 2 < xs.length
  · rw [gm (by (first | lia | omega)), gm h, ← A _ (getD_mem' (by (first | lia | omega))) _ (getD_mem' h)]
  · rw [if_neg (fun q => h q.1), if_neg (fun q => h q.1)]
theorem su_map {lt : Addr → Addr → Bool} {ρ : Addr → Nat} : ∀ (n pos : Nat) (xs : List Addr), pos < xs.length → Agr lt ρ xs → su ltN n pos (xs.map ρ) = ((su lt n pos xs).1, (su lt n pos xs).2.map ρ)
  | 0, pos, xs, h, A => rfl
  | n + 1, pos, xs, h, A => by
    unfold su
    rw [List.length_map, suc_map A]
    by_cases hc : 2 * pos + 1 < xs.length
    · have h1 := suc_lt (lt := lt) hc
      have hin : xs.getD (suc lt pos xs) 0 ∈ xs := getD_mem' h1
      rw [if_pos hc, if_pos hc, gm h1, ← List.map_set]
      have sub : ∀ a ∈ xs.set pos (xs.getD (suc lt pos xs) 0), a ∈ xs := fun a ha => by
        rcases List.mem_or_eq_of_mem_set ha with q | q
        · exact q
        · rw [q]; exact hin
      exact su_map n _ _ (by simpa using h1) fun a ha b hb => A a (sub a ha) b (sub b hb)
    · rw [if_neg hc, if_neg hc]
theorem siftup_map {lt : Addr → Addr → Bool} {ρ : Addr → Nat} {pos : Nat} {xs : List Addr} (h : pos < xs.length) (A : Agr lt ρ xs) : (siftup lt pos xs).map ρ = siftup ltN pos (xs.map ρ) := by
  unfold siftup
  rw [List.length_map, gm h, su_map _ _ _ h A]
  obtain ⟨a, b, c⟩ := su_perm (lt := lt) (item := xs.getD pos 0) xs.length pos xs h
  have hin : xs.getD pos 0 ∈ xs := getD_mem' h
  have same : xs.set pos (xs.getD pos 0) = xs := by
    rw [List.getD_eq_getElem?_getD, List.getElem?_eq_getElem h]; simp
  rw [same] at c
  have sub : ∀ x ∈ xs.getD pos 0 :: (su lt xs.length pos xs).2.set (su lt xs.length pos xs).1 (xs.getD pos 0), x ∈ xs := fun x hx => by
    rcases List.mem_cons.mp hx with e | hx
    · rw [e]; exact hin
    · exact c.mem_iff.mp hx
  rw [sd_map _ _ _ (by simpa [b] using a) fun x hx y hy => A x (sub x hx) y (sub y hy), List.map_set]
theorem hfy_map {lt : Addr → Addr → Bool} {ρ : Addr → Nat} : ∀ (i : Nat) (xs : List Addr), i ≤ xs.length → Agr lt ρ xs → (hfy lt i xs).map ρ = hfy ltN i (xs.map ρ)
  | 0, xs, _, _ => rfl
  | i + 1, xs, h, A => by
    unfold hfy
    have hp := siftup_perm (lt := lt) (pos := i) (xs := xs) (by (first | lia | omega))
    rw [hfy_map i _ (by rw [hp.length_eq]; (first | lia | omega)) (fun a ha b hb => A a (hp.mem_iff.mp ha) b (hp.mem_iff.mp hb)), siftup_map (by (first | lia | omega)) A]
theorem hfy_perm {lt : Addr → Addr → Bool} : ∀ (i : Nat) (xs : List Addr), i ≤ xs.length → (hfy lt i xs).Perm xs
  | 0, xs, _ => .refl _
  | i + 1, xs, h => by
    unfold hfy
    have hp := siftup_perm (lt := lt) (pos := i) (xs := xs) (by (first | lia | omega))
    exact (hfy_perm i _ (by rw [hp.length_eq]; (first | lia | omega))).trans hp
theorem hpush_perm {lt : Addr → Addr → Bool} {xs : List Addr} {a : Addr} : (hpush lt xs a).Perm (xs ++ [a]) := by
  unfold hpush
  refine (sd_perm _ _ _ (by simp)).trans ?_
  rw [List.set_append_right _ _ (Nat.le_refl _)]
  simp
theorem hpush_map {lt : Addr → Addr → Bool} {ρ : Addr → Nat} {xs : List Addr} {a : Addr} (A : Agr lt ρ (xs ++ [a])) : (hpush lt xs a).map ρ = hpush ltN (xs.map ρ) (ρ a) := by
  unfold hpush
  rw [sd_map _ _ _ (by simp) (fun x hx y hy => A x ?_ y ?_), List.map_append, List.length_map]
  · rfl
  · rcases List.mem_cons.mp hx with e | hx
    · rw [e]; simp
    · exact hx
  · rcases List.mem_cons.mp hy with e | hy
    · rw [e]; simp
    · exact hy
theorem hpop_perm {lt : Addr → Addr → Bool} {xs : List Addr} {a : Addr} : (hpopr xs a :: hpop lt xs a).Perm (xs ++ [a]) := by
  unfold hpopr hpop
  cases xs with
  | nil => exact .refl _
  | cons x r =>
    rw [if_neg (by simp), if_neg (by simp), List.set_cons_zero]
    refine List.Perm.trans (List.Perm.cons _ (siftup_perm (by simp))) ?_
    show (x :: a :: r).Perm (x :: (r ++ [a]))
    exact List.Perm.cons _ (List.perm_append_singleton a r).symm
theorem hpop_map {lt : Addr → Addr → Bool} {ρ : Addr → Nat} {xs : List Addr} {a : Addr} (A : Agr lt ρ (xs ++ [a])) : (hpop lt xs a).map ρ = hpop ltN (xs.map ρ) (ρ a) := by
  unfold hpop
  cases xs with
  | nil => rfl
  | cons x r =>
    rw [if_neg (by simp), if_neg (by simp), List.map_cons, List.set_cons_zero, List.set_cons_zero]
    have sub : ∀ y ∈ a :: r, y ∈ x :: r ++ [a] := fun y hy => by
      rcases List.mem_cons.mp hy with e | hy
      · rw [e]; simp
      · simp [hy]
    rw [siftup_map (by simp) fun y hy z hz => A y (sub y hy) z (sub z hz)]
    rfl
theorem hpopr_map {ρ : Addr → Nat} {xs : List Addr} {a : Addr} : ρ (hpopr xs a) = hpopr (xs.map ρ) (ρ a) := by
  unfold hpopr
  cases xs with
  | nil => rfl
  | cons x r => rfl
/-- a heap -/
noncomputable def hpL (lt : Addr → Addr → Bool) (xs : List Addr) : Bool := (List.range xs.length).all fun i => decide (i = 0) || !lt (xs.getD i 0) (xs.getD ((i - 1) / 2) 0)
theorem hpL_map {lt : Addr → Addr → Bool} {ρ : Addr → Nat} {xs : List Addr} (A : Agr lt ρ xs) : hpL ltN (xs.map ρ) = hpL lt xs := by
  unfold hpL
  rw [List.length_map]
  have : ∀ l : List Nat, (∀ i ∈ l, i < xs.length) → (l.all fun i => decide (i = 0) || !ltN ((xs.map ρ).getD i 0) ((xs.map ρ).getD ((i - 1) / 2) 0)) = l.all fun i => decide (i = 0) || !lt (xs.getD i 0) (xs.getD ((i - 1) / 2) 0) := by
    intro l
    induction l with
    | nil => intro _; rfl
    | cons i r ih =>
      intro hl
      have hi := hl i (.head _)
      rw [List.all_cons, List.all_cons, ih fun j hj => hl j (.tail _ hj), gm hi, gm (by (first | lia | omega)), ← A _ (getD_mem' hi) _ (getD_mem' (by (first | lia | omega)))]
  exact this _ fun i hi => List.mem_range.mp hi
noncomputable def okPush (l : List Nat) : Bool := !hpL ltN l.dropLast || hpL ltN (hpush ltN l.dropLast (l.getLastD 0))
noncomputable def okPop (l : List Nat) : Bool := !hpL ltN l || (hpL ltN (hpop ltN l.dropLast (l.getLastD 0)) && hpopr l.dropLast (l.getLastD 0) == 0)
noncomputable def okHfy (l : List Nat) : Bool := hpL ltN (hfy ltN (l.length / 2) l)
theorem push_all : ((List.range 6).all fun n => (lists n n).all okPush) = true := by decide +kernel
theorem pop_all : ((List.range 6).all fun n => (lists n n).all okPop) = true := by decide +kernel
theorem hfy_all : ((List.range 6).all fun n => (lists n n).all okHfy) = true := by decide +kernel
theorem agr_of {lt : Addr → Addr → Bool} {l m : List Addr} (S : Strict lt l) (hm : ∀ a ∈ m, a ∈ l) : Agr lt (rnk lt l) m := fun a ha b hb => rnk_iff S (hm a ha) (hm b hb)
theorem ranks_in {lt : Addr → Addr → Bool} {l : List Addr} (S : Strict lt l) (nd : l.Nodup) (h5 : l.length ≤ 5) {ok : List Nat → Bool} (hall : ((List.range 6).all fun n => (lists n n).all ok) = true) : ok (l.map (rnk lt l)) = true := by
  have h1 := List.all_eq_true.mp hall l.length (List.mem_range.mpr (by (first | lia | omega)))
  refine List.all_eq_true.mp h1 _ ?_
  have := lists_mem (m := l.length) (l := l.map (rnk lt l)) (rnk_nodup S nd) (fun x hx => by
    obtain ⟨a, ha, rfl⟩ := List.mem_map.mp hx
    exact rnk_lt S ha)
  rwa [List.length_map] at this
theorem dl_snoc {l : List Nat} {a : Nat} : (l ++ [a]).dropLast = l ∧ (l ++ [a]).getLastD 0 = a := ⟨by simp, by simp⟩
theorem hp_push {lt : Addr → Addr → Bool} {xs : List Addr} {a : Addr} (S : Strict lt (xs ++ [a])) (nd : (xs ++ [a]).Nodup) (h5 : xs.length < 5) (hh : hpL lt xs = true) : hpL lt (hpush lt xs a) = true := by
  have A := agr_of S (m := xs ++ [a]) fun _ h => h
  have := ranks_in S nd (by simp; (first | lia | omega)) push_all
  unfold okPush at this
  rw [List.map_append, List.map_singleton, dl_snoc.1, dl_snoc.2, ← hpush_map A, hpL_map (agr_of S fun b hb => hpush_perm.mem_iff.mp hb), hpL_map (agr_of S fun b hb => List.mem_append_left _ hb), hh] at this
  simpa using this
theorem hp_pop {lt : Addr → Addr → Bool} {xs : List Addr} {a : Addr} (S : Strict lt (xs ++ [a])) (nd : (xs ++ [a]).Nodup) (h5 : xs.length < 5) (hh : hpL lt (xs ++ [a]) = true) : hpL lt (hpop lt xs a) = true ∧ ∀ b ∈ xs ++ [a], b ≠ hpopr xs a → lt (hpopr xs a) b = true := by
  have A := agr_of S (m := xs ++ [a]) fun _ h => h
  have := ranks_in S nd (by simp; (first | lia | omega)) pop_all
  unfold okPop at this
  rw [hpL_map A, hh, List.map_append, List.map_singleton, dl_snoc.1, dl_snoc.2, ← hpop_map A, hpL_map (agr_of S fun b hb => hpop_perm.mem_iff.mp (.tail _ hb)), ← hpopr_map] at this
  simp only [Bool.not_true, Bool.false_or, Bool.and_eq_true, beq_iff_eq] at this
  refine ⟨this.1, fun b hb hne => ?_⟩
  have hr : hpopr xs a ∈ xs ++ [a] := (hpop_perm (lt := lt)).mem_iff.mp (.head _)
  rw [rnk_iff S hr hb, this.2]
  simp only [decide_eq_true_eq]
  rcases Nat.eq_zero_or_pos (rnk lt (xs ++ [a]) b) with e | e
  · exact absurd (rnk_inj S hb hr (by rw [e, this.2])) hne
  · exact e
theorem hp_hfy {lt : Addr → Addr → Bool} {xs : List Addr} (S : Strict lt xs) (nd : xs.Nodup) (h5 : xs.length ≤ 5) : hpL lt (hfy lt (xs.length / 2) xs) = true := by
  have A := agr_of S (m := xs) fun _ h => h
  have := ranks_in S nd h5 hfy_all
  unfold okHfy at this
  rw [List.length_map, ← hfy_map _ _ (by (first | lia | omega)) A, hpL_map (agr_of S fun b hb => (hfy_perm _ _ (by (first | lia | omega))).mem_iff.mp hb)] at this
  exact this

-- part P10
noncomputable def parL (a b c d : Nat) : Nat → Nat
  | 2 => a
  | 3 => b
  | 4 => c
  | 5 => d
  | _ => 0
theorem ch_parL {par : Nat → Nat} (hp : ParOk par) : chOf par = chOf (parL (par 2) (par 3) (par 4) (par 5)) := by
  funext i
  unfold chOf
  refine List.filter_congr fun c hc => ?_
  have h1 : par 1 = 0 := by have := hp 1 (by decide) (by decide); (first | lia | omega)
  simp only [List.mem_cons, List.not_mem_nil, or_false] at hc
  rcases hc with rfl | rfl | rfl | rfl | rfl
  · rw [h1]; rfl
  · rfl
  · rfl
  · rfl
  · rfl
theorem all_trees {P : (Nat → List Nat) → Bool} (h : ((List.range 2).all fun a => (List.range 3).all fun b => (List.range 4).all fun c => (List.range 5).all fun d => P (chOf (parL a b c d))) = true) {par : Nat → Nat} (hp : ParOk par) : P (chOf par) = true := by
  rw [ch_parL hp]
  have m : ∀ {x n}, x < n → x ∈ List.range n := fun h => List.mem_range.mpr h
  exact List.all_eq_true.mp (List.all_eq_true.mp (List.all_eq_true.mp (List.all_eq_true.mp h _ (m (hp 2 (by decide) (by decide)))) _ (m (hp 3 (by decide) (by decide)))) _ (m (hp 4 (by decide) (by decide)))) _ (m (hp 5 (by decide) (by decide)))

-- the sorter of the tails
noncomputable def gs1 (ch : Nat → List Nat) : List (Nat × List Nat) := (List.range 6).map fun i => (i, ch i)
noncomputable def run1 (ch : Nat → List Nat) : Nat → SS → List Nat → Bool
  | 0, _, _ => false
  | n + 1, S, dn => match S.rd with
    | none => false
    | some l => if (decide (S.fi < S.ps) || !l.isEmpty) = false then dn.isPerm (List.range 6) else
        decide (l.length ≤ 6) && (l.all fun j => S.nodes.contains j && decide (j < 6) && !dn.contains j && (ch j).all (dn.contains ·)) && decide l.Nodup &&
        ((List.range l.length).all fun i => decide (((l.take i).foldl doneN (grS S l)).np (l.getD i 0) = -1)) && run1 ch n (l.foldl doneN (grS S l)) (dn ++ l)
noncomputable def stat (S : SS) (rk : Nat → Nat) : Bool := decide S.nodes.Nodup && (S.nodes.all fun j => decide (j < 6) && decide ((S.su j).length ≤ 6) && (S.su j).all fun s => S.nodes.contains s && decide (rk s < rk j))
noncomputable def begin1 (ch : Nat → List Nat) : SS := { mkS (gs1 ch) with rd := some (zeros (mkS (gs1 ch))) }
noncomputable def good1 (ch : Nat → List Nat) : Bool := stat (mkS (gs1 ch)) id && (mkS (gs1 ch)).rd == none && run1 ch 7 (begin1 ch) []
theorem trees1 : ((List.range 2).all fun a => (List.range 3).all fun b => (List.range 4).all fun c => (List.range 5).all fun d => good1 (chOf (parL a b c d))) = true := by decide +kernel
-- the sorter of the run
noncomputable def gs2 (ch : Nat → List Nat) : List (Nat × List Nat) := (List.range 6).flatMap fun p => (ch p).map fun c => (c, [p])
noncomputable def good2 (ch : Nat → List Nat) : Bool := stat (mkS (gs2 ch)) (fun j => 6 - j) && (mkS (gs2 ch)).rd == none && ((List.range 6).all fun c => (mkS (gs2 ch)).nodes.contains c && decide ((mkS (gs2 ch)).np c = if c = 0 then 0 else 1) && (mkS (gs2 ch)).su c == ch c) && zeros (mkS (gs2 ch)) == [0] && decide ((gs2 ch).length ≤ 6)
theorem trees2 : ((List.range 2).all fun a => (List.range 3).all fun b => (List.range 4).all fun c => (List.range 5).all fun d => good2 (chOf (parL a b c d))) = true := by decide +kernel

theorem decS_ep (S : SS) (e : Option Nat) (s : Nat) : decS { S with ep := e } s = { decS S s with ep := e } := rfl
theorem fold_decS_ep (e : Option Nat) : ∀ (l : List Nat) (S : SS), l.foldl decS { S with ep := e } = { l.foldl decS S with ep := e }
  | [], S => rfl
  | s :: r, S => by rw [List.foldl_cons, decS_ep, fold_decS_ep e r]; rfl
theorem doneN_ep (S : SS) (e : Option Nat) (j : Nat) : doneN { S with ep := e } j = { doneN S j with ep := e } := by
  unfold doneN
  show ({ (S.su j).foldl decS { ({ S with np := put S.np j (-2) } : SS) with ep := e } with fi := S.fi + 1 } : SS) = _
  rw [fold_decS_ep]
theorem fold_doneN_ep (e : Option Nat) : ∀ (l : List Nat) (S : SS), l.foldl doneN { S with ep := e } = { l.foldl doneN S with ep := e }
  | [], S => rfl
  | s :: r, S => by rw [List.foldl_cons, doneN_ep, fold_doneN_ep e r]; rfl
theorem run1_ep {ch : Nat → List Nat} (e : Option Nat) : ∀ (n : Nat) (S : SS) (dn : List Nat), run1 ch n { S with ep := e } dn = run1 ch n S dn
  | 0, _, _ => rfl
  | n + 1, S, dn => by
    unfold run1
    show (match S.rd with | none => _ | some l => _) = (match S.rd with | none => _ | some l => _)
    cases hr : S.rd with
    | none => rfl
    | some l =>
      show (if (decide (S.fi < S.ps) || !l.isEmpty) = false then _ else _) = (if (decide (S.fi < S.ps) || !l.isEmpty) = false then _ else _)
      split
      · rfl
      · have eg : grS ({ S with rd := some l, ep := e } : SS) l = { grS S l with ep := e } := rfl
        rw [eg, fold_doneN_ep, run1_ep e n]
        congr 2
        refine List.all_congr rfl fun i => ?_
        rw [fold_doneN_ep]
structure Stat (S : SS) (rk : Nat → Nat) : Prop where
  ok : SOk S
  rk : Ranked S rk
theorem stat_of {S : SS} {rk : Nat → Nat} (h : stat S rk = true) : Stat S rk := by
  simp only [stat, Bool.and_eq_true, decide_eq_true_eq, List.all_eq_true, List.contains_iff_mem] at h
  exact ⟨⟨h.1, fun j hj => (h.2 j hj).1.1⟩, ⟨fun j hj => ⟨(h.2 j hj).1.2, (h.2 j hj).2⟩⟩⟩
structure Step1 (ch : Nat → List Nat) (n : Nat) (S : SS) (dn l : List Nat) : Prop where
  few : l.length ≤ 6
  mem : ∀ j ∈ l, j ∈ S.nodes ∧ j < 6 ∧ j ∉ dn ∧ ∀ c ∈ ch j, c ∈ dn
  nd : l.Nodup
  out : ∀ (i j : Nat), l[i]? = some j → ((l.take i).foldl doneN (grS S l)).np j = -1
  next : run1 ch n (l.foldl doneN (grS S l)) (dn ++ l) = true
theorem run1_step {ch : Nat → List Nat} {n : Nat} {S : SS} {dn : List Nat} (h : run1 ch (n + 1) S dn = true) : ∃ l, S.rd = some l ∧ if (decide (S.fi < S.ps) || !l.isEmpty) = true then Step1 ch n S dn l else dn.Perm (List.range 6) := by
  unfold run1 at h
  cases hr : S.rd with
  | none => rw [hr] at h; cases h
  | some l =>
    rw [hr] at h
    refine ⟨l, rfl, ?_⟩
    dsimp only at h
    cases hc : (decide (S.fi < S.ps) || !l.isEmpty) with
    | false =>
      rw [hc, if_pos rfl] at h
      rw [if_neg (by simp)]
      exact List.isPerm_iff.mp h
    | true =>
      rw [hc, if_neg (by simp)] at h
      rw [if_pos rfl]
      simp only [Bool.and_eq_true, decide_eq_true_eq, List.all_eq_true, List.contains_iff_mem, Bool.not_eq_true', List.contains_eq_mem, decide_eq_false_iff_not] at h
      obtain ⟨⟨⟨⟨h1, h2⟩, h3⟩, h4⟩, h5⟩ := h
      refine ⟨h1, fun j hj => ?_, h3, fun i j hj => ?_, h5⟩
      · obtain ⟨⟨⟨a, b⟩, c⟩, d⟩ := h2 j hj
        exact ⟨a, b, c, d⟩
      · have hi : i < l.length := (List.getElem?_eq_some_iff.mp hj).1
        have := h4 i (List.mem_range.mpr hi)
        rwa [List.getD_eq_getElem?_getD, hj] at this
theorem good1_of {par : Nat → Nat} (hp : ParOk par) : Stat (mkS (gs1 (chOf par))) id ∧ (mkS (gs1 (chOf par))).rd = none ∧ ∀ e, run1 (chOf par) 7 { mkS (gs1 (chOf par)) with rd := some (zeros (mkS (gs1 (chOf par)))), ep := e } [] = true := by
  have := all_trees trees1 hp
  simp only [good1, Bool.and_eq_true, beq_iff_eq] at this
  exact ⟨stat_of this.1.1, this.1.2, fun e => (run1_ep e 7 (begin1 (chOf par)) []).trans this.2⟩
structure Good2 (ch : Nat → List Nat) : Prop where
  st : Stat (mkS (gs2 ch)) (fun j => 6 - j)
  rd : (mkS (gs2 ch)).rd = none
  node : ∀ c, c < 6 → c ∈ (mkS (gs2 ch)).nodes
  np : ∀ c, c < 6 → (mkS (gs2 ch)).np c = if c = 0 then 0 else 1
  su : ∀ c, c < 6 → (mkS (gs2 ch)).su c = ch c
  zero : zeros (mkS (gs2 ch)) = [0]
  len : (gs2 ch).length ≤ 6
theorem good2_of {par : Nat → Nat} (hp : ParOk par) : Good2 (chOf par) := by
  have := all_trees trees2 hp
  simp only [good2, Bool.and_eq_true, beq_iff_eq, List.all_eq_true, decide_eq_true_eq, List.contains_iff_mem] at this
  obtain ⟨⟨⟨⟨a, b⟩, c⟩, d⟩, e⟩ := this
  exact ⟨stat_of a, b, fun i hi => (c i (List.mem_range.mpr hi)).1.1, fun i hi => (c i (List.mem_range.mpr hi)).1.2, fun i hi => (c i (List.mem_range.mpr hi)).2, d, e⟩

-- part F17
-- _law_tails
noncomputable abbrev pnTa : List Str := ["waits", "hours"]
noncomputable abbrev lsTa : List Str := ["sorter", "tails", "group", "place", "child", "heap", "clock", "tail", "turned"]
noncomputable abbrev nmTa : List Str := ["waits", "hours", "sorter", "tails", "group", "place", "child", "heap", "clock", "tail", "turned"]
noncomputable abbrev wrTa : List Str := ["tails"]
theorem foTa (w : World) : FnOk (fdAt w 239) pnTa lsTa wrTa := fnOk_of (by kernel_rfl)
theorem loTa (w : World) : (KH w).lookup 239 = some ⟨.type "function", none, .func (fdAt w 239), #[]⟩ := by kernel_rfl
theorem cdTa (w : World) : codeIn (KH w) (fdAt w 239).code (fdAt w 239).qualname = true := by kernel_rfl
theorem boTa (w : World) : (fdAt w 239).body = .stmts (bodyOf (fdAt w 239).body) := by kernel_rfl
theorem biTa (w : World) (vs : List Value) (h : vs.length = 2) : bindArgs (fdAt w 239) ⟨vs, []⟩ = pure (pnTa.zip vs) := by
  obtain ⟨a, b, rfl⟩ := len2 h
  kernel_rfl
theorem me_ac (w : World) : methIn (KH w) 137 106 "is_active" = true := by kernel_rfl
theorem me_gr (w : World) : methIn (KH w) 137 99 "get_ready" = true := by kernel_rfl
theorem me_pr (w : World) : methIn (KH w) 137 92 "prepare" = true := by kernel_rfl
theorem me_dn (w : World) : methIn (KH w) 137 120 "done" = true := by kernel_rfl
theorem me_dnb (w : World) : bmethIn (KH w) 137 120 "done" = true := by kernel_rfl
theorem no4 (A : SA) (S : SS) {x : Str} (n1 : ("_node2info" : Str) ≠ x) (n2 : ("_ready_nodes" : Str) ≠ x) (n3 : ("_npassedout" : Str) ≠ x) (n4 : ("_nfinished" : Str) ≠ x) : dget (selfE A S) x = none := by simp [dget, selfE, n1, n2, n3, n4]
theorem self_no_ac (A : SA) (S : SS) : dget (selfE A S) "is_active" = none := no4 A S (by decide) (by decide) (by decide) (by decide)
theorem self_no_gr (A : SA) (S : SS) : dget (selfE A S) "get_ready" = none := no4 A S (by decide) (by decide) (by decide) (by decide)
theorem self_no_pr (A : SA) (S : SS) : dget (selfE A S) "prepare" = none := no4 A S (by decide) (by decide) (by decide) (by decide)
theorem self_no_dn (A : SA) (S : SS) : dget (selfE A S) "done" = none := no4 A S (by decide) (by decide) (by decide) (by decide)
/-- the pairs of a heap -/
noncomputable def QL (t : Nat → Int) (ql : List (Nat × Addr)) : Ledger := ql.reverse.map fun q => (q.2, .tup [.int (-t q.1), .str (lt q.1)])
theorem QL_snoc (t : Nat → Int) (ql : List (Nat × Addr)) (c : Nat) (a : Addr) : QL t (ql ++ [(c, a)]) = (a, .tup [.int (-t c), .str (lt c)]) :: QL t ql := by simp [QL]
theorem QL_mem {t : Nat → Int} {ql : List (Nat × Addr)} {c : Nat} {a : Addr} (hm : (c, a) ∈ ql) : (a, AO.tup [.int (-t c), .str (lt c)]) ∈ QL t ql := List.mem_map.mpr ⟨(c, a), List.mem_reverse.mpr hm, rfl⟩
noncomputable def kfQ (t : Nat → Int) (ql : List (Nat × Addr)) (a : Addr) : Int × Str := (-t (paOf ql a), lt (paOf ql a))
theorem kfQ_lt {t : Nat → Int} {ql : List (Nat × Addr)} {a b : Addr} (h : klt (kfQ t ql) a b = true) : bef t (paOf ql a) (paOf ql b) = true := by
  unfold klt kfQ at h
  simp only [decide_eq_true_eq, lt_cps] at h
  rw [bef_iff]
  (first | lia | omega)
theorem GraphAt.waits {led : Ledger} {W : Addr} {wa : Nat → Addr} {ch : Nat → List Nat} {hr : Nat → Nat} {ep : Nat} (T : Tree ch hr) (hw : WaitsAt led W wa ch (some ep)) : GraphAt led W wa (gs1 ch) ep where
  dict := by
    have := hw.dict
    unfold gs1
    rw [List.map_map]
    exact this
  preds g hg := by
    obtain ⟨i, hi, rfl⟩ := List.mem_map.mp hg
    exact ⟨_, rfl, .inl (hw.lists i (List.mem_range.mp hi))⟩
  lt6 g hg := by
    obtain ⟨i, hi, rfl⟩ := List.mem_map.mp hg
    have hi := List.mem_range.mp hi
    exact ⟨hi, Nat.le_succ_of_le (T.few i hi), fun p hp => (T.up i hi p hp).2⟩
  len := by simp [gs1]
noncomputable abbrev Iv17c3 (par : Nat → Nat) (hr : Nat → Nat) (W : Addr) (H : Addr) (d : Addr) (t : Nat → Int) (A' : SA) (G : Addr) (p : Nat) (base : Ledger) (acc : Addr) (ql : List (Nat × Addr)) (as : List Addr) : Nat → Vals → Ledger → Prop := (fun m v ld => Ex4 fun (xs : List Addr) (po : List Nat) (z1 z2 : Option AV) => An9 (v = [some (.ref W), some (.ref H), some (.ref A'.x), some (.ref d), some (.ref G), some (.str (lt p)), z1, some (.ref acc), some (.int (sumh (hI hr) po)), some (.int (gv (hI hr) t po)), z2]) (ld = QL t ql ++ (acc, .list (xs.map AV.ref)) :: base) ((∀ a ∈ xs, a ∈ as)) (xs.Nodup) ((po ++ xs.map (paOf ql)).Perm (chOf par p)) (hpL (klt (kfQ t ql)) xs = true) (po.Pairwise (fun a b => bef t a b = true)) ((∀ a ∈ po, ∀ b ∈ xs, bef t a (paOf ql b) = true)) (m = xs.length))
noncomputable abbrev Iv17c2 (par : Nat → Nat) (d : Addr) (t : Nat → Int) (p : Nat) (base : Ledger) : Addr → Nat → Vals → Ledger → Prop := (fun acc i3 v ld => Ex2 fun (z : Option AV) (ql : List (Nat × Addr)) => An3 (v = [z, some (.ref d)]) (ld = QL t ql ++ (acc, .list ((ql.map (·.2)).map AV.ref)) :: base) (ql.map (·.1) = (chOf par p).take i3))
noncomputable abbrev Iv17c1 (led : Ledger) (W : Addr) (H : Addr) (d : Addr) (t : Nat → Int) (A' : SA) (dn : List Nat) (l : List Nat) (G : Addr) (S1 : SS) : Nat → Vals → Ledger → Prop := (fun i v ld => Ex6 fun (y1 y2 y3 y4 y5 y6 : Option AV) => An2 (v = [some (.ref W), some (.ref H), some (.ref A'.x), some (.ref d), some (.ref G), y1, y2, y3, y4, y5, y6]) (ld = SL A' S1 ++ (G, .tup (txs l)) :: (d, .dict (leE t (dn ++ l.take i)) none) :: led))
noncomputable abbrev Iv17c0 (led : Ledger) (par : Nat → Nat) (W : Addr) (H : Addr) (A : SA) (d : Addr) (t : Nat → Int) : Nat → Vals → Ledger → Prop := (fun n v ld => Ex10 fun (A' : SA) (S : SS) (dn : List Nat) (x1 x2 x3 x4 x5 x6 x7 : Option AV) => An8 (v = [some (.ref W), some (.ref H), some (.ref A.x), some (.ref d), x1, x2, x3, x4, x5, x6, x7]) (ld = SL A' S ++ (d, .dict (leE t dn) none) :: led) (A'.x = A.x) (run1 (chOf par) n S dn = true) (SOk S) (S.nodes = (mkS (gs1 (chOf par))).nodes) (S.su = (mkS (gs1 (chOf par))).su) (dn.length + 6 * n ≤ 42))
set_option maxHeartbeats 4000000 in
theorem CallW_tails {C : Cx} {vals : Vals} {led : Ledger} {k : Nat} {par hr : Nat → Nat} {W H : Addr} {wa : Nat → Addr} {ep : Nat} {K : AV → Vals → Ledger → Prop} (ok : COk C (k + 7)) (hp : ParOk par) (hh5 : ∀ i, 1 ≤ hr i ∧ hr i ≤ 5) (hw : WaitsAt led W wa (chOf par) (some ep)) (hh : HoursAt led H hr)
    (h : ∀ d dn, dn.Perm (List.range 6) → K (.ref d) vals ((d, .dict (leE (tl (hI hr) (chOf par)) dn) none) :: led)) : CallW C (.ref 239) [.ref W, .ref H] vals led K := by
  refine CallW_def (names := nmTa) ok (foTa _) rfl (loTa _) (cdTa _) (boTa _) rfl (fun vs h => biTa _ vs h) fun B0 outs L ok' aw => ?_
  conv in bodyOf _ => whnf
  show ExsW _ _ [some (.ref W), some (.ref H), none, none, none, none, none, none, none, none, none] _ _
  have T := tree_of hp hh5
  refine hide fun PG kG => ?_
  obtain ⟨st1, srd, srun⟩ := good1_of hp
  refine kG ?_
  clear kG PG
  repeat k_ownIn
  with_reducible refine CallW_Sorter ok' (GraphAt.waits T.toTree hw) ?_
  intro A
  repeat k_ownIn
  with_reducible refine EvW_MethF (by with_unfolding_all rfl) ?_ ok'
  repeat k_ownIn
  refine ⟨A.x, 137, A.d, _, _, 92, rfl, SL_inst A _ _, SL_self A _ _, me_pr _, self_no_pr A _, ?_⟩
  repeat k_ownIn
  with_reducible refine CallW_prepare (rk := id) ok' st1.ok srd st1.rk ?_
  intro rr ep2
  refine ⟨fun x e => (by cases e), ?_⟩
  repeat k_ownIn
  intro d
  repeat k_ownIn
  generalize ht : tl (hI hr) (chOf par) = t at h
  revert t
  refine keepAll ?_
  intro t
  set_option tactic.hygienic false in intros
  refine TW.perm List.perm_middle ?_
  refine ExWhile (Iv17c0 led par W H A d t) 7
    ⟨{ A with r := rr }, _, [], none, none, none, none, none, none, none, rfl, rfl, rfl, srun (some ep2), ⟨st1.ok.nd, st1.ok.lt6⟩, rfl, rfl, by simp⟩ ?_
  intro n v ld hG3
  refine hide fun PG kG => ?_
  obtain ⟨A', S, dn, x1, x2, x3, x4, x5, x6, x7, rfl, rfl, hA', hrun, hS, hSn, hSs, hdl⟩ := hG3
  refine kG ?_
  clear kG PG
  refine hide fun PG kG => ?_
  obtain ⟨n, rfl⟩ : ∃ m, n = m + 1 := by
    cases n with
    | zero => cases hrun
    | succ m => exact ⟨m, rfl⟩
  refine kG ?_
  clear kG PG
  refine hide fun PG kG => ?_
  obtain ⟨l, hrd, hstep⟩ := run1_step hrun
  refine kG ?_
  clear kG PG
  have hl6 : l.length ≤ 6 := by
    cases hc : (decide (S.fi < S.ps) || !l.isEmpty) with
    | true => rw [hc, if_pos rfl] at hstep; exact hstep.few
    | false =>
      have : l = [] := by
        cases l with
        | nil => rfl
        | cons a r => simp at hc
      rw [this]; simp
  with_reducible refine TrW_plain (by with_unfolding_all rfl) ?_
  with_reducible refine EvW_MethF (by with_unfolding_all rfl) ?_ ok'
  repeat k_ownIn
  rw [← hA']
  refine ⟨A'.x, 137, A'.d, _, _, 106, rfl, SL_inst A' _ _, SL_self A' _ _, me_ac _, self_no_ac A' _, ?_⟩
  repeat k_ownIn
  with_reducible refine CallW_isactive ok' hrd (by (first | lia | omega)) ?_
  repeat k_ownIn
  refine IteP (fun hb => ?_) fun hb => ?_
  · rw [hb, if_pos rfl] at hstep
    repeat k_ownIn
    with_reducible refine EvW_MethF (by with_unfolding_all rfl) ?_ ok'
    repeat k_ownIn
    refine ⟨A'.x, 137, A'.d, _, _, 99, rfl, SL_inst A' _ _, SL_self A' _ _, me_gr _, self_no_gr A' _, ?_⟩
    repeat k_ownIn
    with_reducible refine CallW_getready ok' hS hrd (fun j hj => (hstep.mem j hj).1) (by (first | lia | omega)) ?_
    intro G
    iterate 2 k_ownIn
    refine TW.perm List.perm_middle ?_
    generalize hS1 : grS S l = S1
    revert S1
    refine keepAll ?_
    intro S1
    set_option tactic.hygienic false in intros
    have s1n : S1.nodes = S.nodes := by rw [← hS1]; rfl
    have s1s : S1.su = S.su := by rw [← hS1]; rfl
    have s1r : S1.rd = some [] := by rw [← hS1]; rfl
    have s1k : SOk S1 := ⟨s1n ▸ hS.nd, s1n ▸ hS.lt6⟩
    k_ownIn
    with_reducible refine ExFor ok' (fun _ => by with_unfolding_all rfl) ?_
    repeat k_ownIn
    with_reducible refine It_tup Plain.name ok' (List.mem_append_right _ m0) ?_
    refine ForT_vals (Iv17c1 led W H d t A' dn l G S1)
      ⟨_, _, _, _, _, _, rfl, by rw [List.take_zero, List.append_nil]⟩ (fun i v ld ⟨_, _, _, _, _, _, _, e⟩ => e ▸ List.mem_append_right _ m0) ?_ ?_
    · intro i a v ld B hx hG6 okB
      refine hide fun PG kG => ?_
      obtain ⟨y1, y2, y3, y4, y5, y6, rfl, rfl⟩ := hG6
      refine kG ?_
      clear kG PG
      have awB : ((CG 239 nmTa wrTa C B0 outs L).base B).AllWr := aw
      refine hide fun PG kG => ?_
      obtain ⟨p, hpx, rfl⟩ := txs_get hx
      refine kG ?_
      clear kG PG
      have hi : i < l.length := (List.getElem?_eq_some_iff.mp hpx).1
      refine hide fun PG kG => ?_
      obtain ⟨hpn, hp6, hpd, hpc⟩ := hstep.mem p (List.mem_of_getElem? hpx)
      refine kG ?_
      clear kG PG
      generalize hdn2 : dn ++ l.take i = dn2
      revert dn2
      refine keepAll ?_
      intro dn2
      set_option tactic.hygienic false in intros
      have hdn2l : dn2.length ≤ 60 := by rw [← hdn2, List.length_append, List.length_take]; (first | lia | omega)
      have hcin : ∀ c ∈ chOf par p, c ∈ dn2 := fun c hc => by rw [← hdn2]; exact List.mem_append_left _ (hpc c hc)
      have hpnew : p ∉ dn2 := by
        rw [← hdn2]
        intro hm
        rcases List.mem_append.mp hm with q | q
        · exact hpd q
        · obtain ⟨j, hj, e⟩ := List.mem_take_iff_getElem.mp q
          have h1 : l[j]? = some p := by rw [List.getElem?_eq_getElem (by (first | lia | omega)), e]
          have := (List.getElem?_inj (by (first | lia | omega)) hstep.nd).mp (h1.trans hpx.symm)
          (first | lia | omega)
      generalize hbase : SL A' S1 ++ (G, AO.tup (txs l)) :: (d, .dict (leE t dn2) none) :: led = base
      revert base
      refine keepAll ?_
      intro base
      set_option tactic.hygienic false in intros
      have q1 : (d, AO.dict (leE t dn2) none) ∈ base := by rw [← hbase]; exact List.mem_append_right _ (m1 m0)
      have q2 : ∀ p ∈ led, p ∈ base := fun p hp => by rw [← hbase]; exact List.mem_append_right _ (m1 (m1 hp))
      have hwl := hw.lists p hp6
      have hfew := T.few p hp6
      iterate 3 k_ownIn
      with_reducible refine ExListComp ["child"] ["tails"] [] okB awB (by with_unfolding_all rfl) (compOk_of (by kernel_rfl) (by kernel_rfl) (by kernel_rfl)) (fun _ => by with_unfolding_all rfl) ?_
      repeat k_ownIn
      with_reducible refine SubW_dict (q2 _ hw.dict) (dget_at hp6) (fun _ _ => by with_unfolding_all rfl) ?_
      with_reducible refine It_list Plain.name okB (q2 _ hwl) ?_
      refine CompT_vals ["child", "tails"] rfl [some (.ref d)] (FVals.mk (by k_allIn) .nil) (Iv17c2 par d t p base)
        (fun acc => ⟨none, [], rfl, rfl, rfl⟩) (fun acc i3 v ld ⟨z, ql, _, e, _⟩ => e ▸ List.mem_append_right _ (m1 (q2 _ hwl))) ?_ ?_
      · intro acc B3 outs3 L3 i3 a v ld okC hx3 hG10 B4 okB4
        refine hide fun PG kG => ?_
        obtain ⟨z, ql, rfl, rfl, hql⟩ := hG10
        refine kG ?_
        clear kG PG
        refine hide fun PG kG => ?_
        obtain ⟨c, hc, rfl⟩ := txs_get hx3
        refine kG ?_
        clear kG PG
        have hqll : ql.length ≤ 5 := by
          have := congrArg List.length hql
          rw [List.length_map, List.length_take] at this
          (first | lia | omega)
        refine CompTurn_name okB4 (.inl (by kernel_rfl)) SetIs.here ?_
        repeat k_ownIn
        refine CompYes ?_
        with_reducible refine InnerW_list ?_
        with_reducible refine EvW_Tuple (by simp) ?_
        repeat k_ownIn
        with_reducible refine SubW_dict (List.mem_append_right _ (m1 q1)) (leE_get (hcin c (List.mem_of_getElem? hc))) (fun _ _ => by with_unfolding_all rfl) ?_
        repeat k_ownIn
        refine ⟨by simp, fun ac => ?_⟩
        with_reducible refine CallW_append (m1 (List.mem_append_right _ m0)) (by rw [List.length_map, List.length_map]; (first | lia | omega)) (.there (Upd.appL .here _)) ?_
        refine ⟨_, ql ++ [(c, ac)], rfl, ?_, ?_⟩
        · rw [QL_snoc, List.map_append, List.map_append]
          rfl
        · rw [List.map_append, hql, List.take_add_one, hc]
          rfl
      · intro acc v' l' hG3
        refine hide fun PG kG => ?_
        obtain ⟨z, ql, rfl, rfl, hql⟩ := hG3
        refine kG ?_
        clear kG PG
        rw [List.length_map, List.take_length] at hql
        refine ⟨_, by k_memK, ?_⟩
        k_ownIn
        refine TW.nd fun lnd => ?_
        have nd2 : (ql.map (·.2)).Nodup := by
          rw [List.map_append] at lnd
          have := (List.nodup_append.mp lnd).1
          unfold QL at this
          rw [List.map_map, List.map_reverse] at this
          exact (List.reverse_perm _).nodup_iff.mp this
        have qin : ∀ a ∈ ql.map (·.2), (paOf ql a, a) ∈ ql := fun a ha => by
          obtain ⟨q, hq, rfl⟩ := List.mem_map.mp ha
          rw [paOf_eq nd2 hq]; exact hq
        have qtup : ∀ a ∈ ql.map (·.2), (a, AO.tup [.int (kfQ t ql a).1, .str (kfQ t ql a).2]) ∈ QL t ql := fun a ha => QL_mem (qin a ha)
        have hql5 : (ql.map (·.2)).length ≤ 5 := by
          have := congrArg List.length hql
          rw [List.length_map] at this
          rw [List.length_map]; (first | lia | omega)
        have hpaq : (ql.map (·.2)).map (paOf ql) = chOf par p := by
          rw [← hql, List.map_map]
          exact List.map_congr_left fun q hq => paOf_eq nd2 hq
        have hinj : ∀ a ∈ ql.map (·.2), ∀ b ∈ ql.map (·.2), a ≠ b → (kfQ t ql a).2 ≠ (kfQ t ql b).2 := fun a ha b hb hab e => by
          have e1 := lt_inj e
          have ha' := qin a ha
          have hb' := qin b hb
          rw [e1] at ha'
          have hnd1 : (ql.map (·.1)).Nodup := by rw [hql]; exact ch_nodup par p
          have : ∀ l : List (Nat × Addr), (l.map (·.1)).Nodup → ∀ j a b, (j, a) ∈ l → (j, b) ∈ l → a = b := by
            intro l
            induction l with
            | nil => intro _ _ _ _ h; cases h
            | cons x r ih =>
              intro hn j a b h1 h2
              rw [List.map_cons, List.nodup_cons] at hn
              rcases List.mem_cons.mp h1 with e1 | h1 <;> rcases List.mem_cons.mp h2 with e2 | h2
              · rw [← e1] at e2; exact (Prod.mk.inj e2).2.symm
              · exact absurd (List.mem_map_of_mem (f := (·.1)) h2) (by rw [← e1] at hn; exact hn.1)
              · exact absurd (List.mem_map_of_mem (f := (·.1)) h1) (by rw [← e2] at hn; exact hn.1)
              · exact ih hn.2 j a b h1 h2
          exact hab (this ql hnd1 _ _ _ ha' hb')
        clear lnd
        generalize has : ql.map (·.2) = as at nd2 qin qtup hql5 hpaq hinj ⊢
        revert as
        refine keepAll ?_
        intro as
        set_option tactic.hygienic false in intros
        have hstr : Strict (klt (kfQ t ql)) as := klt_strict _ as hinj
        repeat k_ownIn
        with_reducible refine CallW_heapify okB (kfQ t ql) (List.mem_append_right _ m0) (fun b hb => ⟨[], List.mem_append_left _ (qtup b hb)⟩) hinj nd2 (by (first | lia | omega)) (Upd.appL .here _) ?_
        refine ⟨fun x e => (by cases e), ?_⟩
        have hperm0 := hfy_perm (lt := klt (kfQ t ql)) (as.length / 2) as (by (first | lia | omega))
        have hheap0 := hp_hfy hstr nd2 hql5
        generalize hfy (klt (kfQ t ql)) (as.length / 2) as = xs0 at hperm0 hheap0 ⊢
        revert xs0
        refine keepAll ?_
        intro xs0
        set_option tactic.hygienic false in intros
        repeat k_ownIn
        with_reducible refine EvW_Tuple (by simp) ?_
        repeat k_ownIn
        refine ⟨by simp, fun T0 => ?_⟩
        with_reducible refine AsgW_Tuple okB m0 (by with_unfolding_all rfl) (by with_unfolding_all rfl) ?_
        show AsgsW _ [assign _ _, assign _ _] _ _ _ _
        with_reducible refine AsgsW_cons ?_
        repeat k_ownIn
        with_reducible refine AsgsW_cons ?_
        repeat k_ownIn
        with_reducible refine AsgsW_nil ?_
        k_ownIn
        refine TW.sub (List.sublist_cons_self _ _) ?_
        k_ownIn
        refine ExWhile (Iv17c3 par hr W H d t A' G p base acc ql as) _
          ⟨xs0, [], _, _, rfl, rfl, fun a ha => hperm0.mem_iff.mp ha, hperm0.nodup_iff.mpr nd2, by rw [List.nil_append, ← hpaq]; exact hperm0.map _, hheap0, .nil, fun a ha => absurd ha List.not_mem_nil, rfl⟩ ?_
        intro m v ld hG3
        refine hide fun PG kG => ?_
        obtain ⟨xs, po, z1, z2, rfl, rfl, hxa, hxn, hpp, hph, hps, hpb, rfl⟩ := hG3
        refine kG ?_
        clear kG PG
        have hxl : xs.length ≤ 5 := by
          have := hpp.length_eq
          rw [List.length_append, List.length_map] at this
          (first | lia | omega)
        with_reducible refine TrW_plain (by with_unfolding_all rfl) ?_
        repeat k_ownIn
        with_reducible refine TruW_list (List.mem_append_right _ m0) (by rw [List.length_map]; (first | lia | omega)) ?_
        refine IteP (fun hb2 => ?_) fun hb2 => ?_
        · have hxne : xs ≠ [] := by rintro rfl; simp at hb2
          refine hide fun PG kG => ?_
          obtain ⟨ys, z, rfl⟩ : ∃ ys z, xs = ys ++ [z] := ⟨xs.dropLast, xs.getLast hxne, (List.dropLast_concat_getLast hxne).symm⟩
          refine kG ?_
          clear kG PG
          have hyl : ys.length < 5 := by simp at hxl; (first | lia | omega)
          have hstr2 : Strict (klt (kfQ t ql)) (ys ++ [z]) := klt_strict _ _ fun a ha b hb => hinj a (hxa a ha) b (hxa b hb)
          refine hide fun PG kG => ?_
          obtain ⟨hp1, hp2⟩ := hp_pop hstr2 hxn hyl hph
          refine kG ?_
          clear kG PG
          have hpm := hpop_perm (lt := klt (kfQ t ql)) (xs := ys) (a := z)
          repeat k_ownIn
          with_reducible refine CallW_heappop okB (kfQ t ql) (List.mem_append_right _ m0) (fun b hb => ⟨[], List.mem_append_left _ (qtup b (hxa b hb))⟩) (fun b hb c hc => hinj b (hxa b hb) c (hxa c hc)) hxn (by (first | lia | omega)) (Upd.appL .here _) ?_
          generalize hro : hpopr ys z = ro at hp2 hpm ⊢
          revert ro
          refine keepAll ?_
          intro ro
          set_option tactic.hygienic false in intros
          generalize hxs : hpop (klt (kfQ t ql)) ys z = xs2 at hp1 hpm ⊢
          revert xs2
          refine keepAll ?_
          intro xs2
          set_option tactic.hygienic false in intros
          have hroin : ro ∈ ys ++ [z] := hpm.mem_iff.mp (.head _)
          have hro6 : paOf ql ro < 6 := by
            have hm := hpp.mem_iff.mp (List.mem_append_right po (List.mem_map_of_mem (f := paOf ql) hroin))
            exact (T.up p hp6 _ hm).2
          have hnd3 : (ro :: xs2).Nodup := hpm.nodup_iff.mpr hxn
          with_reducible refine AsgW_Tuple okB (List.mem_append_left _ (qtup ro (hxa ro hroin))) (by with_unfolding_all rfl) (by with_unfolding_all rfl) ?_
          show AsgsW _ [assign _ _, assign _ _] _ _ _ _
          with_reducible refine AsgsW_cons ?_
          repeat k_ownIn
          with_reducible refine AsgsW_cons ?_
          repeat k_ownIn
          with_reducible refine AsgsW_nil ?_
          repeat k_ownIn
          with_reducible refine SubW_dict (List.mem_append_right _ (m1 (q2 _ hh.dict))) (dget_at hro6) (fun _ _ => by with_unfolding_all rfl) ?_
          repeat k_ownIn
          with_reducible refine CallW_max2 okB ?_
          repeat k_ownIn
          refine TurnK_next xs2.length ?_ ⟨xs2, po ++ [paOf ql ro], some (.str (kfQ t ql ro).2), some (.int (kfQ t ql ro).1), ?_, rfl, fun a ha => hxa a (hpm.mem_iff.mp (.tail _ ha)), (List.nodup_cons.mp hnd3).2, ?_, hp1, ?_, ?_, rfl⟩
          · have := hpm.length_eq
            simp at this ⊢
            (first | lia | omega)
          · rw [sumh_app, sumh_cons, sumh_nil, gv_snoc]
            have e1 : sumh (hI hr) po + (hr (paOf ql ro) : Int) = sumh (hI hr) po + (hI hr (paOf ql ro) + 0) := by unfold hI; (first | lia | omega)
            have e2 : sumh (hI hr) po + (hr (paOf ql ro) : Int) - (kfQ t ql ro).1 = sumh (hI hr) po + hI hr (paOf ql ro) + t (paOf ql ro) := by unfold hI kfQ; simp only; (first | lia | omega)
            rw [← e1, e2]
          · refine List.Perm.trans ?_ hpp
            rw [List.append_assoc]
            refine List.Perm.append_left _ ?_
            exact hpm.map (paOf ql)
          · rw [List.pairwise_append]
            refine ⟨hps, by simp, fun a ha b hb => ?_⟩
            obtain rfl := List.mem_singleton.mp hb
            exact hpb a ha ro hroin
          · intro a ha b hb
            have hbin : b ∈ ys ++ [z] := hpm.mem_iff.mp (.tail _ hb)
            rcases List.mem_append.mp ha with q | q
            · exact hpb a q b hbin
            · obtain rfl := List.mem_singleton.mp q
              refine kfQ_lt (hp2 b hbin fun e => ?_)
              exact (List.nodup_cons.mp hnd3).1 (e ▸ hb)
        · have hxe : xs = [] := by
            cases xs with
            | nil => rfl
            | cons x r => simp at hb2
          subst hxe
          rw [List.map_nil, List.append_nil] at hpp
          have hfin : gv (hI hr) t po = t p := by
            rw [srt_uniq hpp hps, ← ht, ← tl_eq T.up hp6]
          rw [hfin]
          repeat k_ownIn
          rw [← hbase]
          with_reducible refine SetW_dict (List.mem_append_right _ (m1 (List.mem_append_right _ (m1 m0)))) (by unfold leE; rw [List.length_map]; (first | lia | omega)) (Upd.appL (.there (Upd.appL (.there .here) _)) _) ?_
          rw [leE_put hpnew]
          k_ownIn
          refine TW.sub ((List.sublist_cons_self _ _).trans (List.sublist_append_right _ _)) ?_
          repeat k_ownIn
          refine ForTurn_next ⟨_, _, _, _, _, _, rfl, ?_⟩
          rw [← hdn2, List.append_assoc, List.take_add_one, hpx]
          rfl
    · intro v ld hG2
      refine hide fun PG kG => ?_
      obtain ⟨y1, y2, y3, y4, y5, y6, rfl, rfl⟩ := hG2
      refine kG ?_
      clear kG PG
      rw [txs_len, List.take_length]
      repeat k_ownIn
      with_reducible refine EvW_MethG (by with_unfolding_all rfl) ?_
      repeat k_ownIn
      with_reducible refine GetAW_meth ok' (SL_inst A' S1 _) (SL_self A' S1 _) (me_dnb _) (self_no_dn A' S1) ?_
      intro q
      with_reducible refine CWW_bstar (f := 120) (x := A'.x) ok' (by kernel_rfl) (by with_unfolding_all rfl) ?_
      repeat k_ownIn
      refine ⟨txs l, ⟨G, rfl, .inr (m1 (List.mem_append_right _ m0))⟩, by rw [txs_len]; (first | lia | omega), m0, ?_⟩
      refine CodeW.perm List.perm_middle ?_
      show CodeW _ _ ([.ref A'.x] ++ txs l) _ _ _
      have hsuf : ∀ j ∈ l, (S1.su j).length ≤ 6 ∧ ∀ s ∈ S1.su j, s ∈ S1.nodes := fun j hj => by
        rw [s1s, s1n, hSs, hSn]
        have := st1.rk.su j (hSn ▸ (hstep.mem j hj).1)
        exact ⟨this.1, fun s hs => (this.2 s hs).1⟩
      with_reducible refine CodeW_done ok' s1k s1r (by simp) hl6 (fun j hj => s1n ▸ (hstep.mem j hj).1) hsuf (by rw [← hS1]; exact hstep.out) ?_
      refine ⟨fun x e => (by cases e), ?_⟩
      k_ownIn
      refine TW.sub (List.Sublist.append_left ((List.sublist_cons_self _ _).trans (List.sublist_cons_self _ _)) _) ?_
      repeat k_ownIn
      refine hide fun PG kG => ?_
      obtain ⟨f1, f2⟩ := fold_doneN l S1
      refine kG ?_
      clear kG PG
      refine TurnK_next n (by (first | lia | omega)) ⟨A', l.foldl doneN S1, dn ++ l, _, _, _, _, _, _, _, by rw [← hA'], rfl, hA', by rw [← hS1]; exact hstep.next, ⟨by rw [f1, s1n]; exact hS.nd, by rw [f1, s1n]; exact hS.lt6⟩, f1.trans (s1n.trans hSn), f2.trans (s1s.trans hSs), ?_⟩
      rw [List.length_append]; (first | lia | omega)
  · rw [hb, if_neg (by simp)] at hstep
    iterate 2 k_ownIn
    refine TW.sub (List.sublist_append_right _ _) ?_
    repeat k_ownIn
    exact h d dn hstep

-- part F18
-- _law_parcels
noncomputable abbrev pnPa : List Str := ["words", "sender", "tails"]
noncomputable abbrev lsPa : List Str := ["rest", "parcels", "inner", "host", "hours"]
noncomputable abbrev nmPa : List Str := ["words", "sender", "tails", "rest", "parcels", "inner", "host", "hours"]
theorem foPa (w : World) : FnOk (fdAt w 246) pnPa lsPa [] := fnOk_of (by kernel_rfl)
theorem loPa (w : World) : (KH w).lookup 246 = some ⟨.type "function", none, .func (fdAt w 246), #[]⟩ := by kernel_rfl
theorem cdPa (w : World) : codeIn (KH w) (fdAt w 246).code (fdAt w 246).qualname = true := by kernel_rfl
theorem boPa (w : World) : (fdAt w 246).body = .stmts (bodyOf (fdAt w 246).body) := by kernel_rfl
theorem biPa (w : World) (vs : List Value) (h : vs.length = 3) : bindArgs (fdAt w 246) ⟨vs, []⟩ = pure (pnPa.zip vs) := by
  obtain ⟨a, b, c, rfl⟩ := len3 h
  kernel_rfl
theorem findCl {L m d : Nat} {rest : List Nat} (hL : L ≠ 41) (hm : m ≠ 41) (hd : d ≠ 41) : Txt.find (S (w229 L m d ++ rest)) (S [41]) = 12 := by
  have e : Txt.find (S (w229 L m d ++ rest)) (S [41]) = match Builtin.Str.occurrences (S (w229 L m d ++ rest)) (S [41]) 0 (S (w229 L m d ++ rest)).length 1 with | i :: _ => (i : Int) | [] => -1 := rfl
  rw [e, show S [41] = ⟨#[41]⟩ from rfl, occ_S (Nat.zero_le _), List.drop_zero]
  simp [w229, posOf, hL, hm, hd]
theorem posOf_len (c : Nat) : ∀ (l : List Nat) (i : Nat), (posOf c i l).length ≤ l.length
  | [], i => by simp [posOf]
  | x :: r, i => by
    unfold posOf
    have := posOf_len c r (i + 1)
    split
    · simp; exact this
    · simp; (first | lia | omega)
theorem countQ (l : List Nat) : Txt.count (S l) (S [34]) = ((posOf 34 0 l).length : Int) := by
  have e : Txt.count (S l) (S [34]) = ((Builtin.Str.occurrences (S l) (S [34]) 0 (S l).length ((S l).length + 1)).length : Int) := rfl
  rw [e, show S [34] = ⟨#[34]⟩ from rfl, occ_S (Nat.zero_le _), List.drop_zero]
  have := posOf_len 34 l 0
  rw [List.take_of_length_le (by rw [S_len]; (first | lia | omega))]
theorem tailOf_cons (ch : Nat → List Nat) (hr : Nat → Nat) (n c : Nat) (r : List Nat) : tailOf ch hr n (c :: r) = 50 :: 53 :: 55 :: 32 :: 34 :: (dbl (cont ch hr n c) ++ 34 :: tailOf ch hr n r) := by
  unfold tailOf
  rw [List.flatMap_cons]
  simp
theorem mk_or (c : Nat) : mkOf c = 124 ∨ mkOf c = 34 := by unfold mkOf; split <;> simp
section
variable (t : Nat → Int) (hr : Nat → Nat) (ch : Nat → List Nat) (n : Nat) (sd : Str)
noncomputable def ptup (c : Nat) : AO := .tup [.int (-t c), .str (lt c), .int (hr c), .str sd, .str (S (cont ch hr n c))]
noncomputable def PL (ql : List (Nat × Addr)) : Ledger := ql.reverse.map fun q => (q.2, ptup t hr ch n sd q.1)
end
theorem PL_snoc (t : Nat → Int) (hr : Nat → Nat) (ch : Nat → List Nat) (n : Nat) (sd : Str) (ql : List (Nat × Addr)) (c : Nat) (a : Addr) : PL t hr ch n sd (ql ++ [(c, a)]) = (a, ptup t hr ch n sd c) :: PL t hr ch n sd ql := by simp [PL]
theorem PL_mem {t : Nat → Int} {hr : Nat → Nat} {ch : Nat → List Nat} {n : Nat} {sd : Str} {ql : List (Nat × Addr)} {c : Nat} {a : Addr} (hm : (c, a) ∈ ql) : (a, AO.tup [.int (-t c), .str (lt c), .int (hr c), .str sd, .str (S (cont ch hr n c))]) ∈ PL t hr ch n sd ql := List.mem_map.mpr ⟨(c, a), List.mem_reverse.mpr hm, rfl⟩
theorem keys_uniq : ∀ {l : List (Nat × Addr)}, (l.map (·.1)).Nodup → ∀ {j a b}, (j, a) ∈ l → (j, b) ∈ l → a = b := by
  intro l
  induction l with
  | nil => intro _ _ _ _ h; cases h
  | cons x r ih =>
    intro hn j a b h1 h2
    rw [List.map_cons, List.nodup_cons] at hn
    rcases List.mem_cons.mp h1 with e1 | h1 <;> rcases List.mem_cons.mp h2 with e2 | h2
    · rw [← e1] at e2; exact (Prod.mk.inj e2).2.symm
    · exact absurd (List.mem_map_of_mem (f := (·.1)) h2) (by rw [← e1] at hn; exact hn.1)
    · exact absurd (List.mem_map_of_mem (f := (·.1)) h1) (by rw [← e2] at hn; exact hn.1)
    · exact ih hn.2 h1 h2
/-- a heap of parcels -/
structure HeapOf (t : Nat → Int) (ql : List (Nat × Addr)) (xs : List Addr) : Prop where
  perm : xs.Perm (ql.map (·.2))
  heap : hpL (klt (kfQ t ql)) xs = true
  nd2 : (ql.map (·.2)).Nodup
theorem klt_congr {kf kf' : Addr → Int × Str} {xs : List Addr} (h : ∀ a ∈ xs, kf a = kf' a) : hpL (klt kf) xs = hpL (klt kf') xs := by
  unfold hpL
  have : ∀ l : List Nat, (∀ i ∈ l, i < xs.length) → (l.all fun i => decide (i = 0) || !klt kf (xs.getD i 0) (xs.getD ((i - 1) / 2) 0)) = l.all fun i => decide (i = 0) || !klt kf' (xs.getD i 0) (xs.getD ((i - 1) / 2) 0) := by
    intro l
    induction l with
    | nil => intro _; rfl
    | cons i r ih =>
      intro hl
      have hi := hl i (.head _)
      rw [List.all_cons, List.all_cons, ih fun j hj => hl j (.tail _ hj)]
      unfold klt
      rw [h _ (getD_mem' hi), h _ (getD_mem' (by (first | lia | omega) : (i - 1) / 2 < xs.length))]
  exact this _ fun i hi => List.mem_range.mp hi
noncomputable abbrev Iv18c0 (led : Ledger) (n : Nat) (p : Nat) (hr : Nat → Nat) (Td : Addr) (t : Nat → Int) (sd : Str) (ch : Nat → List Nat) (pc : Addr) (cs : List Nat) : Nat → Vals → Ledger → Prop := (fun m v ld => Ex6 fun (j : Nat) (ql : List (Nat × Addr)) (xs : List Addr) (y1 y2 y3 : Option AV) => An6 (v = [some (.str (S (w229 (97 + p) (mkOf p) (48 + hr p) ++ tailOf ch hr n cs))), some (.str sd), some (.ref Td), some (.str (S (tailOf ch hr n (cs.drop j)))), some (.ref pc), y1, y2, y3]) (ld = PL t hr ch n sd ql ++ (pc, .list (xs.map AV.ref)) :: led) (ql.map (·.1) = cs.take j) (HeapOf t ql xs) (j ≤ cs.length) (m = cs.length - j))
set_option maxHeartbeats 4000000 in
theorem CallW_parcels {C : Cx} {vals : Vals} {led : Ledger} {k n p : Nat} {par hr : Nat → Nat} {Td : Addr} {t : Nat → Int} {lord : List Nat} {sd : Str} {K : AV → Vals → Ledger → Prop} (ok : COk C (k + 4)) (hp : ParOk par) (hh5 : ∀ i, 1 ≤ hr i ∧ hr i ≤ 5) (hp6 : p < 6) (hn : 6 - p ≤ n + 1) (hn5 : n ≤ 5)
    (htd : (Td, AO.dict (leE t lord) none) ∈ led) (hlord : ∀ c, c < 6 → c ∈ lord)
    (h : ∀ r ql xs, ql.map (·.1) = chOf par p → HeapOf t ql xs → K (.ref r) vals (PL t hr (chOf par) n sd ql ++ (r, .list (xs.map AV.ref)) :: led)) :
    CallW C (.ref 246) [.str (S (cont (chOf par) hr (n + 1) p)), .str sd, .ref Td] vals led K := by
  have T := tree_of hp hh5
  generalize hch : chOf par = ch at *
  revert ch
  refine keepAll ?_
  intro ch
  set_option tactic.hygienic false in intros
  have hup := T.up p hp6
  have hfew := T.few p hp6
  have hbn : bnd n ≤ 477773 := by
    have : n = 0 ∨ n = 1 ∨ n = 2 ∨ n = 3 ∨ n = 4 ∨ n = 5 := by (first | lia | omega)
    rcases this with e | e | e | e | e | e <;> rw [e] <;> decide
  have htl : ∀ cs : List Nat, (∀ c ∈ cs, c < 6) → cs.length ≤ 5 → (tailOf ch hr n cs).length ≤ 5 * (6 + 2 * bnd n) := fun cs hc hl => by
    have h1 := flat_len (f := fun c => [50, 53, 55, 32, 34] ++ dbl (cont ch hr n c) ++ [34]) (b := 6 + 2 * bnd n) cs (fun c hcc => by
      have h1 := cont_len T.toTree n c (hc c hcc)
      have h2 := dbl_len (cont ch hr n c)
      simp
      (first | lia | omega))
    have h2 : cs.length * (6 + 2 * bnd n) ≤ 5 * (6 + 2 * bnd n) := Nat.mul_le_mul_right _ hl
    exact Nat.le_trans h1 h2
  have hwords : cont ch hr (n + 1) p = w229 (97 + p) (mkOf p) (48 + hr p) ++ tailOf ch hr n (ch p) := rfl
  have hrp := hh5 p
  have hmp := mk_or p
  refine CallW_def (names := nmPa) ok (foPa _) rfl (loPa _) (cdPa _) (boPa _) rfl (fun vs h => biPa _ vs h) fun B0 outs L ok' aw => ?_
  conv in bodyOf _ => whnf
  show ExsW _ _ [some (.str (S (cont ch hr (n + 1) p))), some (.str sd), some (.ref Td), none, none, none, none, none] _ _
  rw [hwords]
  have hwl : (S (w229 (97 + p) (mkOf p) (48 + hr p) ++ tailOf ch hr n (ch p))).length ≤ 16777216 := by
    have := htl (ch p) (fun c hc => (hup c hc).2) hfew
    rw [S_len, List.length_append]
    simp only [w229, List.length_cons, List.length_nil]
    (first | lia | omega)
  k_ownIn
  with_reducible refine ExW_AssignSwapped (names := ["rest", "parcels"]) ok' (by with_unfolding_all rfl) (by with_unfolding_all rfl) ?_
  with_reducible refine EvW_Tuple (by simp) ?_
  repeat k_ownIn
  with_reducible refine EvW_MethB PySem.F.plainAttrs_str PySem.F.slot_str_find PySem.F.type_str_find (by with_unfolding_all rfl) ?_
  repeat k_ownIn
  refine ⟨TyW_str, ?_⟩
  repeat k_ownIn
  rw [litCl]
  with_reducible refine CallW_find ?_
  rw [findCl (by (first | lia | omega)) (by (first | lia | omega)) (by (first | lia | omega))]
  repeat k_ownIn
  refine ⟨_, rfl, ?_⟩
  repeat k_ownIn
  intro sl
  with_reducible refine SubW_strSlice m0 hwl (fun _ _ => by with_unfolding_all rfl) ?_
  rw [show ((12 : Int) + 1) = ((13 : Nat) : Int) from rfl, S_sliceFrom (by simp [w229])]
  rw [show (w229 (97 + p) (mkOf p) (48 + hr p) ++ tailOf ch hr n (ch p)).drop 13 = tailOf ch hr n (ch p) from rfl]
  repeat k_ownIn
  with_reducible refine EvW_List (by simp) ?_
  repeat k_ownIn
  refine ⟨by simp, fun pc => ?_⟩
  repeat k_ownIn
  refine ⟨by simp, fun T0 => ⟨T0, _, rfl, m0, rfl, ?_⟩⟩
  show AsgsW _ [bindName _ _, bindName _ _] [_, _] _ _ _
  with_reducible refine AsgsW_bind ?_
  repeat k_ownIn
  with_reducible refine AsgsW_bind ?_
  repeat k_ownIn
  with_reducible refine AsgsW_nil ?_
  k_ownIn
  refine TW.sub (led' := (pc, .list []) :: led) (((List.sublist_cons_self _ _).cons_cons _).cons _) ?_
  k_ownIn
  generalize hcs : ch p = cs at *
  revert cs
  refine keepAll ?_
  intro cs
  set_option tactic.hygienic false in intros
  refine ExWhile (Iv18c0 led n p hr Td t sd ch pc cs) _
    ⟨0, [], [], _, _, _, rfl, rfl, rfl, ⟨.refl _, rfl, List.nodup_nil⟩, Nat.zero_le _, rfl⟩ ?_
  intro m v ld hG3
  refine hide fun PG kG => ?_
  obtain ⟨j, ql, xs, y1, y2, y3, rfl, rfl, hql, hH, hj, rfl⟩ := hG3
  refine kG ?_
  clear kG PG
  have hlj := htl (cs.drop j) (fun c hc => (hup c (List.mem_of_mem_drop hc)).2) (by rw [List.length_drop]; (first | lia | omega))
  with_reducible refine TrW_plain (by with_unfolding_all rfl) ?_
  repeat k_ownIn
  with_reducible refine TruW_str (by rw [S_len]; (first | lia | omega)) ?_
  refine IteP (fun hb => ?_) fun hb => ?_
  · have hjl : j < cs.length := by
      rcases Nat.lt_or_ge j cs.length with q | q
      · exact q
      · rw [List.drop_eq_nil_of_le q, S_len] at hb
        exact absurd hb (by simp [tailOf])
    refine hide fun PG kG => ?_
    obtain ⟨c, hc⟩ : ∃ c, cs[j]? = some c := ⟨_, List.getElem?_eq_getElem hjl⟩
    refine kG ?_
    clear kG PG
    have hcm := List.mem_of_getElem? hc
    refine hide fun PG kG => ?_
    obtain ⟨c1, c6⟩ := hup c hcm
    refine kG ?_
    clear kG PG
    have hdr : cs.drop j = c :: cs.drop (j + 1) := by
      rw [List.drop_eq_getElem_cons hjl]
      congr 1
      rw [List.getElem?_eq_getElem hjl] at hc
      exact Option.some.inj hc
    refine hide fun PG kG => ?_
    obtain ⟨n', rfl⟩ : ∃ n', n = n' + 1 := ⟨n - 1, by (first | lia | omega)⟩
    refine kG ?_
    clear kG PG
    have hrc := hh5 c
    have hmc := mk_or c
    have hcl := cont_len T.toTree (n' + 1) c c6
    have hinner : cont ch hr (n' + 1) c = w229 (97 + c) (mkOf c) (48 + hr c) ++ tailOf ch hr n' (ch c) := rfl
    rw [hdr] at hlj ⊢
    have htc := tailOf_cons ch hr (n' + 1) c (cs.drop (j + 1))
    have hd2 := count_dbl (cont ch hr (n' + 1) c)
    have htlen : (tailOf ch hr (n' + 1) (c :: cs.drop (j + 1))).length = 6 + (dbl (cont ch hr (n' + 1) c)).length + (tailOf ch hr (n' + 1) (cs.drop (j + 1))).length := by
      rw [htc]; simp; (first | lia | omega)
    repeat k_ownIn
    rw [htc]
    refine CallW.drop (CallW_parse257 ok' (by simp at htlen ⊢; (first | lia | omega)) fun led' hs => ⟨_, hs, ?_⟩)
    rw [p257_dbl _ _ (tailOf_head _)]
    repeat k_ownIn
    with_reducible refine EvW_Tuple (by simp) ?_
    repeat k_ownIn
    refine ⟨by simp, fun P0 => ?_⟩
    repeat k_ownIn
    rw [hinner]
    refine CallW.drop (CallW_parse229 ok' (by (first | lia | omega)) hmc (by (first | lia | omega)) (by
      have := congrArg List.length hinner
      rw [List.length_append] at this
      (first | lia | omega)) m0 fun led' r hs => ⟨_, hs.cons_cons _, ?_⟩)
    rw [← hinner]
    with_reducible refine AsgW_Tuple ok' m0 (by with_unfolding_all rfl) (by with_unfolding_all rfl) ?_
    show AsgsW _ [assign _ _, assign _ _] _ _ _ _
    with_reducible refine AsgsW_cons ?_
    repeat k_ownIn
    with_reducible refine AsgsW_cons ?_
    repeat k_ownIn
    with_reducible refine AsgsW_nil ?_
    k_ownIn
    refine TW.sub ((List.sublist_cons_self _ _).trans (List.sublist_cons_self _ _)) ?_
    have hsl4 : (S (cont ch hr (n' + 1) c)).cps[((4 : Int)).toNat]? = some (97 + c) := by rw [S_get, hinner]; rfl
    repeat k_ownIn
    with_reducible refine EvW_Tuple (by simp) ?_
    repeat k_ownIn
    with_reducible refine SubW_str (by decide) hsl4 (by rw [S_len]; (first | lia | omega)) (fun _ _ => by with_unfolding_all rfl) ?_
    rw [show (⟨#[97 + c]⟩ : Str) = lt c from rfl]
    with_reducible refine SubW_dict (List.mem_append_right _ (m1 htd)) (leE_get (hlord c c6)) (fun _ _ => by with_unfolding_all rfl) ?_
    repeat k_ownIn
    with_reducible refine SubW_str (by decide) hsl4 (by rw [S_len]; (first | lia | omega)) (fun _ _ => by with_unfolding_all rfl) ?_
    rw [show (⟨#[97 + c]⟩ : Str) = lt c from rfl]
    repeat k_ownIn
    refine ⟨by simp, fun ac => ?_⟩
    rw [show ((48 + hr c - 48 : Nat) : Int) = (hr c : Int) by (first | lia | omega)]
    repeat k_ownIn
    -- the push
    refine CallW.nd fun lnd => ?_
    have hacn : ac ∉ ql.map (·.2) := fun hm => by
      rw [List.map_cons, List.nodup_cons] at lnd
      refine lnd.1 ?_
      obtain ⟨q, hq, e⟩ := List.mem_map.mp hm
      have hq' := PL_mem (t := t) (hr := hr) (ch := ch) (n := n' + 1) (sd := sd) (show (q.1, q.2) ∈ ql from hq)
      rw [e] at hq'
      exact List.mem_map.mpr ⟨_, List.mem_append_left _ hq', rfl⟩
    have hql2 : (ql ++ [(c, ac)]).map (·.1) = cs.take (j + 1) := by rw [List.map_append, hql, List.take_add_one, hc]; rfl
    have hnd2 : ((ql ++ [(c, ac)]).map (·.2)).Nodup := by
      rw [List.map_append, List.nodup_append]
      exact ⟨hH.nd2, by simp, fun a ha b hb => by simp at hb; subst hb; exact fun q => hacn (q ▸ ha)⟩
    have hnd1 : ((ql ++ [(c, ac)]).map (·.1)).Nodup := by
      rw [hql2]
      have : cs.Nodup := by rw [← hcs, ← hch]; exact ch_nodup par p
      exact this.sublist (List.take_sublist _ _)
    generalize hq2 : ql ++ [(c, ac)] = ql2 at hql2 hnd2 hnd1
    revert ql2
    refine keepAll ?_
    intro ql2
    set_option tactic.hygienic false in intros
    have hin : ∀ a ∈ xs ++ [ac], (paOf ql2 a, a) ∈ ql2 := fun a ha => by
      have : a ∈ ql2.map (·.2) := by
        rw [← hq2, List.map_append]
        rcases List.mem_append.mp ha with q | q
        · exact List.mem_append_left _ (hH.perm.mem_iff.mp q)
        · exact List.mem_append_right _ q
      obtain ⟨q, hq, rfl⟩ := List.mem_map.mp this
      rw [paOf_eq hnd2 hq]; exact hq
    have hkf : ∀ a ∈ xs, kfQ t ql a = kfQ t ql2 a := fun a ha => by
      obtain ⟨q, hq, rfl⟩ := List.mem_map.mp (hH.perm.mem_iff.mp ha)
      unfold kfQ
      rw [paOf_eq hH.nd2 hq, paOf_eq hnd2 (by rw [← hq2]; exact List.mem_append_left _ hq)]
    have hxn : (xs ++ [ac]).Nodup := by
      rw [List.nodup_append]
      exact ⟨hH.perm.nodup_iff.mpr hH.nd2, by simp, fun a ha b hb => by simp at hb; subst hb; exact fun q => hacn (hH.perm.mem_iff.mp (q ▸ ha))⟩
    have hinj : ∀ a ∈ xs ++ [ac], ∀ b ∈ xs ++ [ac], a ≠ b → (kfQ t ql2 a).2 ≠ (kfQ t ql2 b).2 := fun a ha b hb hab e => by
      have e1 := lt_inj e
      have ha' := hin a ha
      rw [e1] at ha'
      exact hab (keys_uniq hnd1 ha' (hin b hb))
    have hxl : xs.length ≤ 4 := by
      have h1 := hH.perm.length_eq
      have h2 := congrArg List.length hql
      rw [List.length_map] at h1 h2
      rw [List.length_take] at h2
      (first | lia | omega)
    with_reducible refine CallW_heappush ok' (kfQ t ql2) (xs := xs) (a := ac) (m1 (List.mem_append_right _ m0)) (fun b hb => ?_) hinj hxn (by (first | lia | omega)) (.there (Upd.appL .here _)) ?_
    · refine ⟨[.int (hr (paOf ql2 b)), .str sd, .str (S (cont ch hr (n' + 1) (paOf ql2 b)))], ?_⟩
      have := PL_mem (t := t) (hr := hr) (ch := ch) (n := n' + 1) (sd := sd) (hin b hb)
      rw [← hq2, PL_snoc, hq2] at this
      rcases List.mem_cons.mp this with e | e
      · exact e ▸ m0
      · exact m1 (List.mem_append_left _ e)
    refine ⟨fun x e => (by cases e), ?_⟩
    repeat k_ownIn
    with_reducible refine CallW_lenStr (by rw [S_len]; (first | lia | omega)) ?_
    repeat k_ownIn
    with_reducible refine EvW_MethB PySem.F.plainAttrs_str PySem.F.slot_str_count PySem.F.type_str_count (by with_unfolding_all rfl) ?_
    repeat k_ownIn
    refine ⟨TyW_str, ?_⟩
    repeat k_ownIn
    rw [litQ]
    with_reducible refine CallW_count ?_
    rw [countQ, S_len]
    repeat k_ownIn
    refine ⟨_, rfl, ?_⟩
    repeat k_ownIn
    intro sl2
    have hto : (6 : Int) + ((cont ch hr (n' + 1) c).length : Int) + ((posOf 34 0 (cont ch hr (n' + 1) c)).length : Int) = ((6 + (dbl (cont ch hr (n' + 1) c)).length : Nat) : Int) := by (first | lia | omega)
    rw [hto]
    with_reducible refine SubW_strSlice m0 (by rw [S_len, ← htc]; (first | lia | omega)) (fun _ _ => by with_unfolding_all rfl) ?_
    rw [S_sliceFrom (by rw [← htc]; (first | lia | omega))]
    have hdrop : (50 :: 53 :: 55 :: 32 :: 34 :: (dbl (cont ch hr (n' + 1) c) ++ 34 :: tailOf ch hr (n' + 1) (cs.drop (j + 1)))).drop (6 + (dbl (cont ch hr (n' + 1) c)).length) = tailOf ch hr (n' + 1) (cs.drop (j + 1)) := by
      rw [show (50 :: 53 :: 55 :: 32 :: 34 :: (dbl (cont ch hr (n' + 1) c) ++ 34 :: tailOf ch hr (n' + 1) (cs.drop (j + 1)))) = ([50, 53, 55, 32, 34] ++ dbl (cont ch hr (n' + 1) c) ++ [34]) ++ tailOf ch hr (n' + 1) (cs.drop (j + 1)) by simp]
      rw [List.drop_append_of_le_length (by simp; (first | lia | omega)), List.drop_of_length_le (by simp; (first | lia | omega))]
      rfl
    rw [hdrop]
    iterate 2 k_ownIn
    refine TW.sub (List.sublist_cons_self _ _) ?_
    repeat k_ownIn
    refine TurnK_next (cs.length - (j + 1)) (by (first | lia | omega)) ⟨j + 1, ql2, hpush (klt (kfQ t ql2)) xs ac, _, _, _, rfl, ?_, hql2, ⟨?_, ?_, hnd2⟩, by (first | lia | omega), rfl⟩
    · rw [← hq2, PL_snoc]; rfl
    · refine hpush_perm.trans ?_
      rw [← hq2, List.map_append]
      exact hH.perm.append_right _
    · exact hp_push (klt_strict _ _ hinj) hxn (by (first | lia | omega)) ((klt_congr hkf) ▸ hH.heap)
  · have hjl : j = cs.length := by
      rcases Nat.lt_or_ge j cs.length with q | q
      · rw [List.drop_eq_getElem_cons q, tailOf_cons, S_len] at hb
        simp at hb
      · (first | lia | omega)
    repeat k_ownIn
    refine h pc ql xs ?_ hH
    rw [hql, hjl, List.take_length]

-- part P11
theorem cont_stable {ch : Nat → List Nat} {hr : Nat → Nat} (up : ∀ i, i < 6 → ∀ c ∈ ch i, i < c ∧ c < 6) : ∀ (n i : Nat), i < 6 → 6 - i ≤ n → cont ch hr n i = cont ch hr (n + 1) i
  | 0, i, hi, hn => by (first | lia | omega)
  | n + 1, i, hi, hn => by
    conv => lhs; unfold cont
    conv => rhs; unfold cont
    congr 1
    have : ∀ l : List Nat, (∀ c ∈ l, c ∈ ch i) → (l.flatMap fun c => [50, 53, 55, 32, 34] ++ dbl (cont ch hr n c) ++ [34]) = l.flatMap fun c => [50, 53, 55, 32, 34] ++ dbl (cont ch hr (n + 1) c) ++ [34] := by
      intro l
      induction l with
      | nil => intro _; rfl
      | cons c r ih =>
        intro hl
        obtain ⟨c1, c2⟩ := up i hi c (hl c (.head _))
        rw [List.flatMap_cons, List.flatMap_cons, ih fun d hd => hl d (.tail _ hd), cont_stable up n c c2 (by (first | lia | omega))]
    exact this _ fun _ h => h
-- the state of the run's sorter
structure R2 (par : Nat → Nat) (S : SS) (dn : List Nat) : Prop where
  rd : S.rd = some []
  nodes : S.nodes = (mkS (gs2 (chOf par))).nodes
  su : S.su = (mkS (gs2 (chOf par))).su
  np : ∀ c, c < 6 → S.np c = if c ∈ dn then -2 else if c = 0 ∨ par c ∈ dn then -1 else 1
theorem outNp_at {np : Nat → Int} : ∀ (l : List Nat) (f : Nat → Int) (c : Nat), outNp f l c = if c ∈ l then -1 else f c
  | [], f, c => by simp [outNp]
  | x :: r, f, c => by
    have := outNp_at (np := np) r (put f x (-1)) c
    unfold outNp at *
    rw [List.foldl_cons, this]
    by_cases h1 : c ∈ r
    · simp [h1]
    · by_cases h2 : c = x
      · subst h2; simp [put]
      · simp [h1, h2, put]
theorem fold_dec : ∀ (l : List Nat) (S : SS) (r : List Nat), l.Nodup → (∀ s ∈ l, S.np s = 1) → S.rd = some r → (l.foldl decS S).rd = some (r ++ l) ∧ ∀ c, (l.foldl decS S).np c = if c ∈ l then 0 else S.np c
  | [], S, r, _, _, h => ⟨by simpa using h, fun c => by simp⟩
  | s :: q, S, r, nd, hs, h => by
    obtain ⟨n1, n2⟩ := List.nodup_cons.mp nd
    have h1 : S.np s = 1 := hs s (.head _)
    have hrd : (decS S s).rd = some (r ++ [s]) := by unfold decS; simp only; rw [h1, h]; rfl
    have hnp : ∀ c, (decS S s).np c = if c = s then 0 else S.np c := fun c => by
      show put S.np s (S.np s - 1) c = _
      unfold put
      rw [h1]; rfl
    obtain ⟨a, b⟩ := fold_dec q (decS S s) (r ++ [s]) n2 (fun x hx => by
      have hne : x ≠ s := fun e => n1 (e ▸ hx)
      rw [hnp, if_neg hne]; exact hs x (.tail _ hx)) hrd
    rw [List.foldl_cons]
    refine ⟨by rw [a]; simp, fun c => ?_⟩
    rw [b, hnp]
    by_cases e1 : c ∈ q
    · simp [e1]
    · by_cases e2 : c = s
      · simp [e2]
      · simp [e1, e2]
theorem R2_start {par : Nat → Nat} (hp : ParOk par) (e : Option Nat) : R2 par (grS { mkS (gs2 (chOf par)) with rd := some (zeros (mkS (gs2 (chOf par)))), ep := e } [0]) [] := by
  have G := good2_of hp
  refine ⟨rfl, rfl, rfl, fun c hc => ?_⟩
  show outNp (mkS (gs2 (chOf par))).np [0] c = _
  rw [outNp_at (np := fun _ => 0), G.np c hc]
  by_cases h : c = 0
  · subst h; simp
  · simp [h]
theorem R2_step {par : Nat → Nat} (hp : ParOk par) {S : SS} {dn : List Nat} {p : Nat} (h : R2 par S dn) (hp6 : p < 6) (hpd : p ∉ dn) (hdn : ∀ c ∈ dn, c < 6) (hcl : ∀ c ∈ dn, c = 0 ∨ par c ∈ dn) :
    (doneN S p).rd = some (chOf par p) ∧ R2 par (grS (doneN S p) (chOf par p)) (dn ++ [p]) := by
  have G := good2_of hp
  have hsu : S.su p = chOf par p := by rw [h.su]; exact G.su p hp6
  have hch : ∀ s ∈ chOf par p, 1 ≤ s ∧ s < 6 ∧ par s = p := fun s hs => by
    obtain ⟨a, b, c⟩ := ch_mem.mp hs
    exact ⟨a, by (first | lia | omega), c⟩
  have hnotin : ∀ s ∈ chOf par p, s ∉ dn := fun s hs hm => by
    obtain ⟨a, b, c⟩ := hch s hs
    rcases hcl s hm with e | e
    · (first | lia | omega)
    · rw [c] at e; exact hpd e
  have hone : ∀ s ∈ chOf par p, ({ S with np := put S.np p (-2) } : SS).np s = 1 := fun s hs => by
    obtain ⟨a, b, c⟩ := hch s hs
    show put S.np p (-2) s = 1
    have hne : s ≠ p := by have := hp s a (by (first | lia | omega)); (first | lia | omega)
    rw [put_ne _ _ hne, h.np s b, if_neg (hnotin s hs), if_neg]
    rintro (e | e)
    · (first | lia | omega)
    · rw [c] at e; exact hpd e
  obtain ⟨f1, f2⟩ := fold_dec (chOf par p) { S with np := put S.np p (-2) } [] (ch_nodup par p) hone h.rd
  obtain ⟨g1, g2, _⟩ := doneN_same S p
  have hrd : (doneN S p).rd = some (chOf par p) := by unfold doneN; rw [hsu]; exact f1
  have hnp : ∀ c, (doneN S p).np c = if c ∈ chOf par p then 0 else put S.np p (-2) c := fun c => by unfold doneN; rw [hsu]; exact f2 c
  refine ⟨hrd, rfl, g1.trans h.nodes, g2.trans h.su, fun c hc => ?_⟩
  show outNp (doneN S p).np (chOf par p) c = _
  rw [outNp_at (np := fun _ => 0), hnp]
  by_cases e1 : c ∈ chOf par p
  · obtain ⟨a, b, d⟩ := hch c e1
    have hne : c ≠ p := by have := hp c a (by (first | lia | omega)); (first | lia | omega)
    have m1' : c ∉ dn ++ [p] := by simp [hnotin c e1, hne]
    have m2' : c = 0 ∨ par c ∈ dn ++ [p] := .inr (by rw [d]; simp)
    rw [if_pos e1, if_neg m1', if_pos m2']
  · rw [if_neg e1, if_neg e1]
    by_cases e2 : c = p
    · subst e2
      have m3' : c ∈ dn ++ [c] := by simp
      rw [put_at, if_pos m3']
    · rw [put_ne _ _ e2, h.np c hc]
      by_cases e3 : c ∈ dn
      · have m5' : c ∈ dn ++ [p] := by simp [e3]
        rw [if_pos e3, if_pos m5']
      · have m4' : c ∉ dn ++ [p] := by simp [e3, e2]
        rw [if_neg e3, if_neg m4']
        by_cases e4 : c = 0 ∨ par c ∈ dn
        · have m6' : c = 0 ∨ par c ∈ dn ++ [p] := e4.imp id fun q => by simp [q]
          rw [if_pos e4, if_pos m6']
        · rw [if_neg e4, if_neg]
          rintro (q | q)
          · exact e4 (.inl q)
          · rcases List.mem_append.mp q with r | r
            · exact e4 (.inr r)
            · simp at r
              rcases Nat.eq_zero_or_pos c with z | z
              · exact e4 (.inl z)
              · exact e1 (ch_mem.mpr ⟨z, by (first | lia | omega), r⟩)
/-- the hours ahead of a place that is the next by falling tails -/
theorem addH_next {h t : Nat → Int} {par : Nat → Nat} {p c : Nat} {po r : List Nat} (hc : par c = p) (hp : (po ++ c :: r).Perm (chOf par p)) (hs : ∀ a ∈ po, bef t a c = true) (hb : ∀ b ∈ r, bef t c b = true) (nd : (chOf par p).Nodup) : addH h t par c = sumh h (po ++ [c]) := by
  unfold addH
  rw [hc]
  have hp2 : ((chOf par p).filter fun o => bef t o c).Perm ((po ++ c :: r).filter fun o => bef t o c) := hp.symm.filter _
  rw [sumh_perm hp2, List.filter_append]
  have nd2 := hp.nodup_iff.mpr nd
  rw [List.nodup_append, List.nodup_cons] at nd2
  have e1 : po.filter (fun o => bef t o c) = po := List.filter_eq_self.mpr hs
  have e2 : r.filter (fun o => bef t o c) = [] := List.filter_eq_nil_iff.mpr fun b hb' hq => nd2.2.1.1 ((bef_anti (hb b hb') hq) ▸ hb')
  rw [e1, List.filter_cons_of_pos (by rw [bef_iff]; exact .inr ⟨rfl, Nat.le_refl _⟩), e2]
theorem addH_pos {hr : Nat → Nat} {t : Nat → Int} {par : Nat → Nat} (hh5 : ∀ i, 1 ≤ hr i ∧ hr i ≤ 5) {c : Nat} (h1 : 1 ≤ c) (h5 : c ≤ 5) : 1 ≤ addH (hI hr) t par c := by
  unfold addH
  have hm : c ∈ (chOf par (par c)).filter fun o => bef t o c := List.mem_filter.mpr ⟨ch_mem.mpr ⟨h1, h5, rfl⟩, by rw [bef_iff]; exact .inr ⟨rfl, Nat.le_refl _⟩⟩
  obtain ⟨a, b, e⟩ := List.append_of_mem hm
  rw [e, sumh_app, sumh_cons]
  have n1 := sumh_nonneg (h := hI hr) (l := a) fun x _ => by unfold hI; (first | lia | omega)
  have n2 := sumh_nonneg (h := hI hr) (l := b) fun x _ => by unfold hI; (first | lia | omega)
  have := (hh5 c).1
  have e2 : hI hr c = (hr c : Int) := rfl
  (first | lia | omega)
theorem all_in {par : Nat → Nat} (hp : ParOk par) {dn : List Nat} (h : ∀ c, c < 6 → (c = 0 ∨ par c ∈ dn) → c ∈ dn) : ∀ n, ∀ c, c < n → c < 6 → c ∈ dn
  | 0, c, hc, _ => by (first | lia | omega)
  | n + 1, c, hc, h6 => by
    refine h c h6 ?_
    rcases Nat.eq_zero_or_pos c with e | e
    · exact .inl e
    · have := hp c e (by (first | lia | omega))
      exact .inr (all_in hp h n (par c) (by (first | lia | omega)) (by (first | lia | omega)))
theorem perm_range {dn : List Nat} (nd : dn.Nodup) (h6 : ∀ c ∈ dn, c < 6) (hall : ∀ c, c < 6 → c ∈ dn) : dn.Perm (List.range 6) := by
  refine (List.perm_ext_iff_of_nodup nd List.nodup_range).mpr fun c => ⟨fun h => List.mem_range.mpr (h6 c h), fun h => hall c (List.mem_range.mp h)⟩

-- part P12
theorem str_ok {c : Nat} (h : c < 6) : (PyData.str (lt c)).canLay0 = true := by
  have : c = 0 ∨ c = 1 ∨ c = 2 ∨ c = 3 ∨ c = 4 ∨ c = 5 := by (first | lia | omega)
  rcases this with rfl | rfl | rfl | rfl | rfl | rfl <;> kernel_rfl
theorem strE_ok : (PyData.str (S [])).canLay0 = true := by kernel_rfl
structure Sh (l : List PyData) (n : Nat) : Prop where
  lay : PyData.canLayAll0 l = true
  dep : PyData.depthAll l ≤ n
  mix : SeqAt.noMixAll l l = true
theorem Sh.nil {n : Nat} : Sh [] n := ⟨by simp [PyData.canLayAll0], by simp [PyData.depthAll], by simp [SeqAt.noMixAll]⟩
theorem Sh.cons {x : PyData} {l : List PyData} {n : Nat} (h1 : x.canLay0 = true) (h2 : x.depth ≤ n) (h3 : SeqAt.noMix x x = true) (h : Sh l n) : Sh (x :: l) n := by
  refine ⟨?_, ?_, ?_⟩
  · simp [PyData.canLayAll0, h1, h.lay]
  · have := h.dep
    simp only [PyData.depthAll]
    (first | lia | omega)
  · simp [SeqAt.noMixAll, h3, h.mix]
theorem sh_list {l : List PyData} {n : Nat} (h : Sh l n) (hn : n ≤ 60) : SeqAt.shaped (.list l) = true ∧ SeqAt.noMix (.list l) (.list l) = true := by
  refine ⟨?_, by simp [SeqAt.noMix, h.mix]⟩
  unfold SeqAt.shaped
  simp only [Bool.and_eq_true, decide_eq_true_eq]
  refine ⟨by simp [PyData.canLay0, h.lay], ?_⟩
  have := h.dep
  simp only [PyData.depth]
  (first | lia | omega)
theorem strs_sh : ∀ (l : List Nat), (∀ c ∈ l, c < 6) → Sh (l.map fun c => .str (lt c)) 1
  | [], _ => .nil
  | c :: r, h => .cons (str_ok (h c (.head _))) (by simp [PyData.depth]) (by simp [SeqAt.noMix]) (strs_sh r fun x hx => h x (.tail _ hx))
theorem row_sh (h t : Nat → Int) {par : Nat → Nat} (hp : ParOk par) : ∀ (l : List Nat), (∀ c ∈ l, c < 6) → Sh (l.map (datA h t par)) 3
  | [], _ => .nil
  | c :: r, hl => by
    have hc := hl c (.head _)
    have hs : (PyData.str (sndOf par c)).canLay0 = true := by
      unfold sndOf
      split
      · exact strE_ok
      · exact str_ok (by have := hp c (by (first | lia | omega)) (by (first | lia | omega)); (first | lia | omega))
    have sh3 : Sh [PyData.int (ar h t par c), .str (lt c), .str (sndOf par c)] 2 := .cons (by simp [PyData.canLay0]) (by simp [PyData.depth]) (by simp [SeqAt.noMix]) (.cons (str_ok hc) (by simp [PyData.depth]) (by simp [SeqAt.noMix]) (.cons hs (by simp [PyData.depth]) (by simp [SeqAt.noMix]) .nil))
    refine .cons ?_ ?_ ?_ (row_sh h t hp r fun x hx => hl x (.tail _ hx))
    · simp [datA, PyData.canLay0, sh3.lay]
    · have := sh3.dep
      simp only [datA, PyData.depth]
      (first | lia | omega)
    · simp [datA, SeqAt.noMix, sh3.mix]
theorem rowA_ok (h t : Nat → Int) {par : Nat → Nat} (hp : ParOk par) : SeqAt.shaped (rowA h t par) = true ∧ SeqAt.noMix (rowA h t par) (rowA h t par) = true :=
  sh_list (row_sh h t hp _ fun c hc => List.mem_range.mp ((List.mergeSort_perm _ _).mem_iff.mp hc)) (by decide)
-- sorted texts are alone
theorem rising_pw : ∀ (l : List Str) (p : Str), risingS p l = true → (p :: l).Pairwise fun a b => ¬ b.cps.toList < a.cps.toList
  | [], p, _ => .cons (fun _ h => by cases h) .nil
  | x :: r, p, h => by
    simp only [risingS, Bool.and_eq_true, Bool.not_eq_true', ltCps_eq, decide_eq_false_iff_not] at h
    have ih := rising_pw r x h.2
    refine .cons (fun b hb => ?_) ih
    rcases List.mem_cons.mp hb with rfl | hb
    · exact h.1
    · have h2 := (List.pairwise_cons.mp ih).1 b hb
      have l1 : p.cps.toList ≤ x.cps.toList := List.not_lt.mp h.1
      have l2 : x.cps.toList ≤ b.cps.toList := List.not_lt.mp h2
      exact List.not_lt.mpr (List.le_trans l1 l2)
theorem sorted_uniq {a b : List Str} (h1 : sortedS a = true) (h2 : sortedS b = true) (p : a.Perm b) : a = b := by
  have pw : ∀ l : List Str, sortedS l = true → l.Pairwise fun a b => ¬ b.cps.toList < a.cps.toList := fun l h => by
    cases l with
    | nil => exact .nil
    | cons x r => exact rising_pw r x h
  refine List.Perm.eq_of_pairwise (fun x y _ _ hxy hyx => ?_) (pw a h1) (pw b h2) p
  have e : x.cps.toList = y.cps.toList := List.le_antisymm (List.not_lt.mp hxy) (List.not_lt.mp hyx)
  obtain ⟨u⟩ := x; obtain ⟨v⟩ := y
  have : u = v := Array.toList_inj.mp e
  rw [this]
theorem nodup_inj {α β : Type} {f : α → β} : ∀ {l : List α}, (l.map f).Nodup → ∀ a ∈ l, ∀ b ∈ l, f a = f b → a = b
  | x :: r, h, a, ha, b, hb, e => by
    rw [List.map_cons, List.nodup_cons] at h
    rcases List.mem_cons.mp ha with e1 | h1 <;> rcases List.mem_cons.mp hb with e2 | h2
    · rw [e1, e2]
    · rw [e1] at e
      exact absurd (e ▸ List.mem_map_of_mem h2) h.1
    · rw [e2] at e
      exact absurd (e ▸ List.mem_map_of_mem h1) h.1
    · exact nodup_inj h.2 a h1 b h2 e
theorem nodup_of_map {α β : Type} {f : α → β} : ∀ {l : List α}, (l.map f).Nodup → l.Nodup
  | [], _ => List.nodup_nil
  | x :: r, h => by
    rw [List.map_cons, List.nodup_cons] at h
    exact List.nodup_cons.mpr ⟨fun q => h.1 (List.mem_map_of_mem q), nodup_of_map h.2⟩
/-- never more than five wait -/
theorem few_wait {par : Nat → Nat} {dn fr : List Nat} (hnd : (dn ++ fr).Nodup) (h6 : ∀ c ∈ dn ++ fr, c < 6) (hiff : ∀ c, c < 6 → (c ∈ dn ++ fr ↔ c = 0 ∨ par c ∈ dn)) : fr.length ≤ 5 := by
  have hl : (dn ++ fr).length ≤ (List.range 6).length := List.Nodup.length_le_of_subset hnd fun c hc => List.mem_range.mpr (h6 c hc)
  rw [List.length_append, List.length_range] at hl
  cases dn with
  | cons x r => simp at hl; (first | lia | omega)
  | nil =>
    have : fr.length ≤ [0].length := List.Nodup.length_le_of_subset (by simpa using hnd) fun c hc => by
      have := (hiff c (h6 c (by simpa using hc))).mp (by simpa using hc)
      simpa using this
    simp at this; (first | lia | omega)

-- part F19
-- _law_run
noncomputable abbrev pnRu : List Str := ["words", "tails", "waits"]
noncomputable abbrev lsRu : List Str := ["place", "sorter", "sender", "hours", "heap", "course", "hour", "parcels", "turned", "letter", "host", "inner"]
noncomputable abbrev nmRu : List Str := ["words", "tails", "waits", "place", "sorter", "sender", "hours", "heap", "course", "hour", "parcels", "turned", "letter", "host", "inner"]
noncomputable abbrev wrRu : List Str := ["waits"]
theorem foRu (w : World) : FnOk (fdAt w 251) pnRu lsRu wrRu := fnOk_of (by kernel_rfl)
theorem loRu (w : World) : (KH w).lookup 251 = some ⟨.type "function", none, .func (fdAt w 251), #[]⟩ := by kernel_rfl
theorem cdRu (w : World) : codeIn (KH w) (fdAt w 251).code (fdAt w 251).qualname = true := by kernel_rfl
theorem boRu (w : World) : (fdAt w 251).body = .stmts (bodyOf (fdAt w 251).body) := by kernel_rfl
theorem biRu (w : World) (vs : List Value) (h : vs.length = 3) : bindArgs (fdAt w 251) ⟨vs, []⟩ = pure (pnRu.zip vs) := by
  obtain ⟨a, b, c, rfl⟩ := len3 h
  kernel_rfl
noncomputable def NestT (C : Cx) (k : Nat) (t2 : Expr) (f2 : List Expr) (inner : Sem Unit) (K : Unit → Vals → Ledger → Prop) (xs : List IT) (src : Ledger → Prop) (v : Vals) (l : Ledger) : Prop := ∃ J, CompK C k t2 f2 inner xs src v l J ∧ ∀ v' l', J xs.length v' l' → K () v' l'
theorem NestW {C : Cx} {vals : Vals} {led : Ledger} {k : Nat} {e t2 i2 iter : Expr} {f2 : List Expr} {d : Nat} {acc : Addr} {inner : Sem Unit} {K : Unit → Vals → Ledger → Prop} (ok : COk C k) (X : Shape e (d + 1) t2 iter f2 (.ref acc) C.env inner) (hfold : ∀ x, foldedSetIterable i2 C.env x = pure x)
    (h : EvW C i2 vals led fun a v l => IterW C a v l (TK C t2 (NestT C k t2 f2 inner K))) : UW C (innerNest e d i2 (.ref acc) C.env) vals led K :=
  InnerW_nest ok X hfold (h.mono fun a v l hI va hva => (hI va hva).mono fun itv v l ⟨it, its, xs, src, l0, e, A, J, F, hf⟩ => ⟨it, its, xs, src, l0, J, e, A, F, hf⟩)
theorem NestT_vals {C : Cx} {vals : Vals} {led : Ledger} {k : Nat} {t2 : Expr} {f2 : List Expr} {inner : Sem Unit} {K : Unit → Vals → Ledger → Prop} {xs : List AV} {src : Ledger → Prop} (J : Nat → Vals → Ledger → Prop) (h0 : J 0 vals led) (hs : ∀ i v l, J i v l → src l)
    (ht : ∀ i a v l, xs[i]? = some a → J i v l → ∀ B2, COk (C.base B2) k → CompTurn (C.base B2) t2 f2 inner (J (i + 1)) a v l) (hfin : ∀ v' l', J xs.length v' l' → K () v' l') : NestT C k t2 f2 inner K (xs.map .val) src vals led :=
  ⟨J, ⟨h0, hs, fun i x a v l l' B2 hx hJ hIT okB => by
    rw [List.getElem?_map, Option.map_eq_some_iff] at hx
    obtain ⟨a', hx, rfl⟩ := hx
    cases hIT
    exact ht i a v l hx hJ B2 okB⟩, by rw [List.length_map]; exact hfin⟩
noncomputable def GL (par : Nat → Nat) (gl : List (Nat × Addr)) : Ledger := gl.reverse.map fun q => (q.2, .tup [.str (lt (par q.1))])
theorem GL_snoc (par : Nat → Nat) (gl : List (Nat × Addr)) (c : Nat) (a : Addr) : GL par (gl ++ [(c, a)]) = (a, .tup [.str (lt (par c))]) :: GL par gl := by simp [GL]
theorem GL_mem {par : Nat → Nat} {gl : List (Nat × Addr)} {c : Nat} {a : Addr} (hm : (c, a) ∈ gl) : (a, AO.tup [.str (lt (par c))]) ∈ GL par gl := List.mem_map.mpr ⟨(c, a), List.mem_reverse.mpr hm, rfl⟩
noncomputable def fm (par : Nat → Nat) (i : Nat) : List Nat := (List.range i).flatMap (chOf par)
theorem fm_succ (par : Nat → Nat) (i : Nat) : fm par (i + 1) = fm par i ++ chOf par i := by unfold fm; rw [List.range_succ, List.flatMap_append]; simp
theorem fm_met (par : Nat → Nat) (i : Nat) : met par i = 0 :: fm par i := rfl
theorem CallW.epoch {C : Cx} {vals : Vals} {led : Ledger} {f : AV} {as : List AV} {d : Addr} {es : List (Str × AV)} {ep : Option Nat} {K : AV → Vals → Ledger → Prop} (hm : (d, AO.dict es ep) ∈ led)
    (h : ∀ n, ∃ led', Upd d (.dict es (some n)) led led' ∧ CallW C f as vals led' K) : CallW C f as vals led K := fun fv vs hf hv => .epoch hm fun n => let ⟨l', U, hc⟩ := h n; ⟨l', U, hc fv vs hf hv⟩
theorem gs2_keys (par : Nat → Nat) : (gs2 (chOf par)).map (·.1) = fm par 6 := by
  unfold gs2 fm
  generalize List.range 6 = l
  revert l
  refine keepAll ?_
  intro l
  set_option tactic.hygienic false in intros
  induction l with
  | nil => rfl
  | cons p r ih => rw [List.flatMap_cons, List.map_append, ih, List.flatMap_cons, List.map_map]; congr 1; exact List.map_id _
theorem gs2_mem {par : Nat → Nat} {g : Nat × List Nat} (h : g ∈ gs2 (chOf par)) : g.2 = [par g.1] ∧ 1 ≤ g.1 ∧ g.1 ≤ 5 := by
  unfold gs2 at h
  obtain ⟨p, hp, h⟩ := List.mem_flatMap.mp h
  obtain ⟨c, hc, rfl⟩ := List.mem_map.mp h
  obtain ⟨a, b, e⟩ := ch_mem.mp hc
  exact ⟨by rw [e], a, b⟩
theorem dE_gs {gl : List (Nat × Addr)} (nd : (gl.map (·.1)).Nodup) {gs : List (Nat × List Nat)} (h : gs.map (·.1) = gl.map (·.1)) : dE gl = gs.map fun g => (lt g.1, .ref (taOf gl g.1)) := by
  have e1 : gs.map (fun g => (lt g.1, AV.ref (taOf gl g.1))) = (gs.map (·.1)).map fun c => (lt c, AV.ref (taOf gl c)) := by rw [List.map_map]; rfl
  rw [e1, h]
  unfold dE
  rw [List.map_map]
  refine List.map_congr_left fun q hq => ?_
  show _ = (lt q.1, AV.ref (taOf gl q.1))
  rw [keys_uniq nd (taOf_mem (List.mem_map_of_mem hq)) (show (q.1, q.2) ∈ gl from hq)]
section
variable (h t : Nat → Int) (par hr : Nat → Nat)
noncomputable def htup (c : Nat) : AO := .tup [.int (ar h t par c), .str (lt c), .str (sndOf par c), .str (S (cont (chOf par) hr 6 c))]
noncomputable def HL (ql : List (Nat × Addr)) : Ledger := ql.reverse.map fun q => (q.2, htup h t par hr q.1)
noncomputable def kfH (ql : List (Nat × Addr)) (a : Addr) : Int × Str := (ar h t par (paOf ql a), lt (paOf ql a))
end
theorem HL_snoc (h t : Nat → Int) (par hr : Nat → Nat) (ql : List (Nat × Addr)) (c : Nat) (a : Addr) : HL h t par hr (ql ++ [(c, a)]) = (a, htup h t par hr c) :: HL h t par hr ql := by simp [HL]
theorem HL_mem {h t : Nat → Int} {par hr : Nat → Nat} {ql : List (Nat × Addr)} {c : Nat} {a : Addr} (hm : (c, a) ∈ ql) : (a, AO.tup [.int (ar h t par c), .str (lt c), .str (sndOf par c), .str (S (cont (chOf par) hr 6 c))]) ∈ HL h t par hr ql := List.mem_map.mpr ⟨(c, a), List.mem_reverse.mpr hm, rfl⟩
theorem perm3 {α : Type} (x y z : α) (r : List α) : (x :: y :: z :: r).Perm (z :: y :: x :: r) := ((List.Perm.swap y x _).trans ((List.Perm.swap z x r).cons y)).trans (List.Perm.swap z y _)
theorem permRun (sl led : Ledger) (X Hh Co : Addr × AO) : (X :: (sl ++ Hh :: Co :: led)).Perm (Co :: Hh :: X :: (sl ++ led)) := ((List.perm_middle.trans (List.Perm.cons _ List.perm_middle)).cons X).trans (perm3 _ _ _ _)
theorem permTc (A B R : Ledger) (x y z : Addr × AO) : (A ++ (B ++ x :: y :: z :: R)).Perm (z :: (A ++ (B ++ x :: y :: R))) := by
  have e1 : A ++ (B ++ x :: y :: z :: R) = (A ++ (B ++ [x, y])) ++ z :: R := by simp
  have e2 : A ++ (B ++ x :: y :: R) = (A ++ (B ++ [x, y])) ++ R := by simp
  rw [e1, e2]
  exact List.perm_middle
theorem permSL (P H sl R : Ledger) (x : Addr × AO) : (sl ++ (P ++ x :: (H ++ R))).Perm (P ++ x :: (H ++ (sl ++ R))) := by
  have e1 : P ++ x :: (H ++ (sl ++ R)) = (P ++ x :: H) ++ (sl ++ R) := by simp
  have e2 : sl ++ (P ++ x :: (H ++ R)) = sl ++ ((P ++ x :: H) ++ R) := by simp
  rw [e1, e2]
  exact List.perm_append_comm_assoc _ _ _
theorem txs_lt (l : List Nat) : txs l = (l.map lt).map AV.str := by simp [txs]
theorem TL_nd {h t : Nat → Int} {par : Nat → Nat} {cl : List (Nat × Addr)} {l : Ledger} (hs : (TL h t par cl).Sublist l) (nd : (l.map (·.1)).Nodup) : (cl.map (·.2)).Nodup := by
  have := nd.sublist (hs.map (·.1))
  unfold TL at this
  rw [List.map_map, List.map_reverse] at this
  exact (List.reverse_perm _).nodup_iff.mp this
theorem rds_strs (L : Ledger) : ∀ ly : List Nat, RDs L ((ly.map lt).map AV.str) (ly.map fun c => PyData.str (lt c))
  | [] => .nil
  | c :: r => .cons (.str _) (rds_strs L r)
theorem map_ex {f : Nat → Str} {l0 : List Nat} : ∀ {ys : List Str}, (∀ y ∈ ys, y ∈ l0.map f) → ∃ l : List Nat, ys = l.map f ∧ ∀ c ∈ l, c ∈ l0
  | [], _ => ⟨[], rfl, fun c hc => absurd hc List.not_mem_nil⟩
  | y :: r, h => by
    obtain ⟨l, e, hl⟩ := map_ex (l0 := l0) (ys := r) fun z hz => h z (.tail _ hz)
    obtain ⟨c, hc, e2⟩ := List.mem_map.mp (h y (.head _))
    refine ⟨c :: l, by rw [List.map_cons, e2, e], fun x hx => ?_⟩
    rcases List.mem_cons.mp hx with q | q
    · rw [q]; exact hc
    · exact hl x q
theorem permIn (P H sl R : Ledger) (x : Addr × AO) : (H ++ (P ++ x :: (sl ++ R))).Perm (sl ++ (P ++ x :: (H ++ R))) := by
  refine (permSL P sl H R x).trans (List.Perm.trans ?_ (permSL P H sl R x).symm)
  exact List.Perm.append_left _ (List.Perm.cons _ (List.perm_append_comm_assoc _ _ _))
theorem paOf_app {ql : List (Nat × Addr)} {a : Addr} {x : Nat × Addr} (h : (paOf ql a, a) ∈ ql) : paOf (ql ++ [x]) a = paOf ql a := by
  unfold paOf
  rw [List.find?_append]
  cases e : ql.find? (fun q => decide (q.2 = a)) with
  | none => exact absurd (by simp) (List.find?_eq_none.mp e _ h)
  | some q => rfl
theorem paOf_new {ql : List (Nat × Addr)} {a : Addr} {c : Nat} (h : a ∉ ql.map (·.2)) : paOf (ql ++ [(c, a)]) a = c := by
  unfold paOf
  rw [List.find?_append, List.find?_eq_none.mpr (fun q hq => by simp; exact fun e => h (e ▸ List.mem_map_of_mem hq))]
  simp
theorem HL_addr {h t : Nat → Int} {par hr : Nat → Nat} {ql : List (Nat × Addr)} {a : Addr} (hm : a ∈ ql.map (·.2)) : a ∈ (HL h t par hr ql).map (·.1) := by
  unfold HL
  rw [List.map_map]
  obtain ⟨q, hq, rfl⟩ := List.mem_map.mp hm
  exact List.mem_map.mpr ⟨q, List.mem_reverse.mpr hq, rfl⟩
theorem inv3 {I J : Nat → Vals → Ledger → Prop} (e : I = J) {m : Nat} {v : Vals} {l : Ledger} (h : J m v l) : I m v l := e ▸ h
theorem ivn3 {I J : Nat → Vals → Ledger → Prop} (e : I = J) {m : Nat} {v : Vals} {l : Ledger} (h : I m v l) : J m v l := e ▸ h
noncomputable abbrev Iv19c2 (led : Ledger) (par : Nat → Nat) (hr : Nat → Nat) (t : Nat → Int) (A2 : SA) (hpA : Addr) (coA : Addr) (hh : Nat → Int) (ql : List (Nat × Addr)) (xs2 : List Addr) (p : Nat) (cl2 : List (Nat × Addr)) (pr : Addr) (pq : List (Nat × Addr)) (px : List Addr) (PLq : Ledger) (Tg : Addr) (S2 : SS) (r1 : Addr) (ys1 : List Str) : Addr → Nat → Vals → Ledger → Prop := (fun acc i3 v ld => ∃ z, v = [z] ∧ ld = (acc, .list (((px.take i3).map fun a => lt (paOf pq a)).map AV.str)) :: (r1, .list (ys1.map AV.str)) :: (Tg, .tup (((chOf par p).map lt).map AV.str)) :: (SL A2 S2 ++ (PLq ++ (pr, .list (px.map AV.ref)) :: (HL hh t par hr ql ++ (hpA, .list (xs2.map AV.ref)) :: (coA, .list ((cl2.map (·.2)).map AV.ref)) :: (TL hh t par cl2 ++ led)))))
noncomputable abbrev Iv19c1 (led : Ledger) (par : Nat → Nat) (W : Addr) (acc : Addr) (p : Nat) : Nat → Vals → Ledger → Prop := (fun j v ld => Ex2 fun (z2 : Option AV) (gl : List (Nat × Addr)) => An3 (v = [some (.str (lt p)), z2, some (.ref W)]) (ld = GL par gl ++ (acc, .dict (dE gl) none) :: led) (gl.map (·.1) = fm par p ++ (chOf par p).take j))
noncomputable abbrev Iv19c0 (led : Ledger) (par : Nat → Nat) (W : Addr) : Addr → Nat → Vals → Ledger → Prop := (fun acc i v ld => Ex3 fun (z1 z2 : Option AV) (gl : List (Nat × Addr)) => An3 (v = [z1, z2, some (.ref W)]) (ld = GL par gl ++ (acc, .dict (dE gl) none) :: led) (gl.map (·.1) = fm par i))
set_option maxHeartbeats 8000000 in
theorem CallW_run {C : Cx} {vals : Vals} {led : Ledger} {k : Nat} {par hr : Nat → Nat} {W Td : Addr} {wa : Nat → Addr} {ep : Nat} {t : Nat → Int} {lord : List Nat} {K : AV → Vals → Ledger → Prop} (ok : COk C (k + 8)) (hp : ParOk par) (hh5 : ∀ i, 1 ≤ hr i ∧ hr i ≤ 5) (hw : WaitsAt led W wa (chOf par) (some ep))
    (htd : (Td, AO.dict (leE t lord) none) ∈ led) (hlord : ∀ c, c < 6 → c ∈ lord) (h : ∀ r l', RD l' (.ref r) (rowA (hI hr) t par) → (∀ p ∈ led, p ∈ l') → K (.ref r) vals l') :
    CallW C (.ref 251) [.str (S (cont (chOf par) hr 6 0)), .ref Td, .ref W] vals led K := by
  refine CallW_def (names := nmRu) ok (foRu _) rfl (loRu _) (cdRu _) (boRu _) rfl (fun vs h => biRu _ vs h) fun B0 outs L ok' aw => ?_
  conv in bodyOf _ => whnf
  show ExsW _ _ [some (.str (S (cont (chOf par) hr 6 0))), some (.ref Td), some (.ref W), none, none, none, none, none, none, none, none, none, none, none, none] _ _
  have T := tree_of hp hh5
  have G2 := good2_of hp
  repeat k_ownIn
  with_reducible refine EvDictComp (inner := fun acc env => innerNest _ 0 _ (.ref acc) env) ["place", "child"] ["waits"] [] ok' (compOk_of (by kernel_rfl) (by kernel_rfl) (by kernel_rfl)) (fun _ => by with_unfolding_all rfl) (fun acc env => shape_dict0 _ _ _ _ _ _ _ _ _ _ acc env) ?_
  repeat k_ownIn
  with_reducible refine It_dict Plain.name ok' hw.dict ?_
  have ex : ((List.range 6).map fun i => (lt i, AV.ref (wa i))).map (fun e => IT.val (.str e.1)) = (txs (List.range 6)).map IT.val := by simp [txs]
  rw [ex]
  refine CompT_vals ["place", "child", "waits"] rfl [some (.ref W)] (FVals.mk (by k_allIn) .nil) (Iv19c0 led par W)
    (fun acc => ⟨none, none, [], rfl, rfl, rfl⟩) (fun acc i v ld ⟨_, _, gl, _, e, _⟩ => e ▸ List.mem_append_right _ (m1 hw.dict)) ?_ ?_
  · intro acc B1 outs1 L1 i a v ld okC hx hG10 B2 okB2
    refine hide fun PG kG => ?_
    obtain ⟨z1, z2, gl, rfl, rfl, hgl⟩ := hG10
    refine kG ?_
    clear kG PG
    refine hide fun PG kG => ?_
    obtain ⟨p, hpx, rfl⟩ := txs_get hx
    refine kG ?_
    clear kG PG
    have hi : i < 6 := by simpa using (List.getElem?_eq_some_iff.mp hpx).1
    obtain rfl : p = i := by rw [List.getElem?_range hi] at hpx; cases hpx; rfl
    have hwl := hw.lists p hi
    refine CompTurn_name okB2 (.inl (by kernel_rfl)) SetIs.here ?_
    repeat k_ownIn
    refine CompYes ?_
    with_reducible refine NestW okB2 (shape_dict1 _ _ _ _ _ _ _ _ _ _ acc _) (fun _ => by with_unfolding_all rfl) ?_
    repeat k_ownIn
    with_reducible refine SubW_dict (List.mem_append_right _ (m1 hw.dict)) (dget_at hi) (fun _ _ => by with_unfolding_all rfl) ?_
    with_reducible refine It_list Plain.name okB2 (List.mem_append_right _ (m1 hwl)) ?_
    refine NestT_vals (Iv19c1 led par W acc p)
      ⟨_, gl, rfl, rfl, by rw [List.take_zero, List.append_nil]; exact hgl⟩ (fun j v ld ⟨_, gl, _, e, _⟩ => e ▸ List.mem_append_right _ (m1 hwl)) ?_ ?_
    · clear hgl
      clear gl
      intro j a v ld hxj hG5 B3 okB3
      refine hide fun PG kG => ?_
      obtain ⟨z2, gl, rfl, rfl, hgl⟩ := hG5
      refine kG ?_
      clear kG PG
      refine hide fun PG kG => ?_
      obtain ⟨c, hc, rfl⟩ := txs_get hxj
      refine kG ?_
      clear kG PG
      refine hide fun PG kG => ?_
      obtain ⟨c1, c5, cpar⟩ := ch_mem.mp (List.mem_of_getElem? hc)
      refine kG ?_
      clear kG PG
      have hnd : (gl.map (·.1) ++ [c]).Nodup := by
        rw [hgl, List.append_assoc]
        have e : (chOf par p).take j ++ [c] = (chOf par p).take (j + 1) := by rw [List.take_add_one, hc]; rfl
        rw [e]
        have := met_nodup par (p + 1)
        rw [fm_met, fm_succ, List.nodup_cons] at this
        exact this.2.sublist (List.Sublist.append_left (List.take_sublist _ _) _)
      have hcn : c ∉ gl.map (·.1) := fun hm => (List.nodup_append.mp hnd).2.2 c hm c (.head _) rfl
      have hgll : gl.length ≤ 6 := by
        have : (gl.map (·.1) ++ [c]).length ≤ (List.range 6).length := List.Nodup.length_le_of_subset hnd fun x hx => by
          rw [List.mem_range]
          rcases List.mem_append.mp hx with q | q
          · rw [hgl] at q
            rcases List.mem_append.mp q with q | q
            · have := met_mem.mp (show x ∈ met par p from .tail _ q)
              (first | lia | omega)
            · obtain ⟨_, _, _⟩ := ch_mem.mp (List.mem_of_mem_take q)
              (first | lia | omega)
          · simp at q; (first | lia | omega)
        simp at this
        (first | lia | omega)
      refine CompTurn_name okB3 (.inl (by kernel_rfl)) (SetIs.there SetIs.here) ?_
      repeat k_ownIn
      refine CompYes ?_
      with_reducible refine InnerW_dict ?_
      repeat k_ownIn
      with_reducible refine EvW_Tuple (by simp) ?_
      repeat k_ownIn
      refine ⟨by simp, fun ac => ⟨lt c, dE gl, none, _, rfl, m1 (List.mem_append_right _ m0), by unfold dE; rw [List.length_map]; (first | lia | omega), .there (Upd.appL .here _), ?_⟩⟩
      rw [dE_put hcn]
      refine ⟨_, gl ++ [(c, ac)], rfl, ?_, ?_⟩
      · rw [GL_snoc, cpar]; rfl
      · rw [List.map_append, hgl, List.take_add_one, hc, List.append_assoc]; rfl
    · intro v' l' hG2
      refine hide fun PG kG => ?_
      obtain ⟨z2, gl, rfl, rfl, hgl⟩ := hG2
      refine kG ?_
      clear kG PG
      rw [List.length_map, List.take_length, ← fm_succ] at hgl
      exact ⟨_, _, gl, rfl, rfl, hgl⟩
  · intro acc v' l' hG3
    refine hide fun PG kG => ?_
    obtain ⟨z1, z2, gl, rfl, rfl, hgl⟩ := hG3
    refine kG ?_
    clear kG PG
    rw [txs_len, List.length_range] at hgl
    have hgnd : (gl.map (·.1)).Nodup := by
      rw [hgl]
      have := met_nodup par 6
      rw [fm_met, List.nodup_cons] at this
      exact this.2
    repeat k_ownIn
    refine CallW.epoch (List.mem_append_right _ m0) fun ep2 => ⟨_, Upd.appL .here _, ?_⟩
    have hG : GraphAt (GL par gl ++ (acc, .dict (dE gl) (some ep2)) :: led) acc (taOf gl) (gs2 (chOf par)) ep2 := {
      dict := by
        rw [← dE_gs hgnd ((gs2_keys par).trans hgl.symm)]
        exact List.mem_append_right _ m0
      preds := fun g hg => by
        obtain ⟨e1, _, _⟩ := gs2_mem hg
        have hk : g.1 ∈ gl.map (·.1) := by rw [hgl, ← gs2_keys]; exact List.mem_map_of_mem hg
        exact ⟨_, rfl, .inr (by rw [e1]; exact List.mem_append_left _ (GL_mem (taOf_mem hk)))⟩
      lt6 := fun g hg => by
        obtain ⟨e1, a, b⟩ := gs2_mem hg
        refine ⟨by (first | lia | omega), by rw [e1]; simp, fun p hpp => ?_⟩
        rw [e1] at hpp
        simp at hpp
        have := hp g.1 a b
        (first | lia | omega)
      len := G2.len }
    with_reducible refine CallW_Sorter ok' hG ?_
    intro A
    iterate 2 k_ownIn
    refine TW.sub (List.Sublist.append_left ((List.sublist_cons_self _ _).trans (List.sublist_append_right _ _)) _) ?_
    repeat k_ownIn
    with_reducible refine EvW_MethF (by with_unfolding_all rfl) ?_ ok'
    repeat k_ownIn
    refine ⟨A.x, 137, A.d, _, _, 92, rfl, SL_inst A _ _, SL_self A _ _, me_pr _, self_no_pr A _, ?_⟩
    repeat k_ownIn
    with_reducible refine CallW_prepare (rk := fun j => 6 - j) ok' G2.st.ok G2.rd G2.st.rk ?_
    intro rr ep3
    refine ⟨fun x e => (by cases e), ?_⟩
    have hR0 := R2_start hp (some ep3)
    generalize hA : ({ A with r := rr } : SA) = A2
    revert A2
    refine keepAll ?_
    intro A2
    set_option tactic.hygienic false in intros
    have hAx : A.x = A2.x := by rw [← hA]
    rw [G2.zero] at hR0 ⊢
    generalize hS0 : ({ mkS (gs2 (chOf par)) with rd := some [0], ep := some ep3 } : SS) = S0 at hR0 ⊢
    revert S0
    refine keepAll ?_
    intro S0
    set_option tactic.hygienic false in intros
    have s0n : S0.nodes = (mkS (gs2 (chOf par))).nodes := by rw [← hS0]
    have s0r : S0.rd = some [0] := by rw [← hS0]
    have s0k : SOk S0 := ⟨s0n ▸ G2.st.ok.nd, s0n ▸ G2.st.ok.lt6⟩
    rw [hAx]
    repeat k_ownIn
    with_reducible refine EvW_MethF (by with_unfolding_all rfl) ?_ ok'
    repeat k_ownIn
    refine ⟨A2.x, 137, A2.d, _, _, 99, rfl, SL_inst A2 S0 _, SL_self A2 S0 _, me_gr _, self_no_gr A2 S0, ?_⟩
    repeat k_ownIn
    with_reducible refine CallW_getready ok' s0k s0r (fun j hj => by rw [List.mem_singleton.mp hj, s0n]; exact G2.node 0 (by decide)) (by simp) ?_
    intro T0
    with_reducible refine EvW_Tuple (by simp) ?_
    repeat k_ownIn
    refine ⟨by simp, fun T1 => ?_⟩
    rw [litA]
    with_reducible refine CmpW_neData (d := .tuple [.str (lt 0)]) ok' (.tup (m1 m0) (.cons (.str _) .nil)) (.tup m0 (.cons (.str _) .nil)) (by kernel_rfl) (by kernel_rfl) ?_
    repeat k_ownIn
    refine IteP (fun hb => by cases hb) fun hb => ?_
    iterate 2 k_ownIn
    refine TW.sub ((List.sublist_cons_self _ _).trans (List.sublist_cons_self _ _)) ?_
    generalize hS1 : grS S0 [0] = S1 at hR0 ⊢
    revert S1
    refine keepAll ?_
    intro S1
    set_option tactic.hygienic false in intros
    have hc0 : cont (chOf par) hr 6 0 = w229 (97 + 0) (mkOf 0) (48 + hr 0) ++ tailOf (chOf par) hr 5 (chOf par 0) := rfl
    have hr0 := hh5 0
    have hcl0 := cont_len T.toTree 6 0 (by decide)
    repeat k_ownIn
    with_reducible refine EvW_Tuple (by simp) ?_
    repeat k_ownIn
    refine ⟨by simp, fun P0 => ?_⟩
    repeat k_ownIn
    rw [hc0]
    refine CallW.drop (CallW_parse229 ok' (by (first | lia | omega)) (mk_or 0) (by (first | lia | omega)) (by
      have := congrArg List.length hc0
      rw [List.length_append] at this
      have hb6 : bnd 6 ≤ 5000000 := by decide
      (first | lia | omega)) m0 fun led' r hs => ⟨_, hs.cons_cons _, ?_⟩)
    rw [← hc0]
    with_reducible refine AsgW_Tuple ok' m0 (by with_unfolding_all rfl) (by with_unfolding_all rfl) ?_
    show AsgsW _ [assign _ _, assign _ _] _ _ _ _
    with_reducible refine AsgsW_cons ?_
    repeat k_ownIn
    with_reducible refine AsgsW_cons ?_
    repeat k_ownIn
    with_reducible refine AsgsW_nil ?_
    k_ownIn
    refine TW.sub ((List.sublist_cons_self _ _).trans (List.sublist_cons_self _ _)) ?_
    rw [show ((48 + hr 0 - 48 : Nat) : Int) = (hr 0 : Int) by (first | lia | omega)]
    k_ownIn
    with_reducible refine ExW_AssignSwapped (names := ["heap", "course"]) ok' (by with_unfolding_all rfl) (by with_unfolding_all rfl) ?_
    with_reducible refine EvW_Tuple (by simp) ?_
    repeat k_ownIn
    with_reducible refine EvW_List (by simp) ?_
    repeat k_ownIn
    with_reducible refine EvW_Tuple (by simp) ?_
    repeat k_ownIn
    refine ⟨by simp, fun a0 => ?_⟩
    repeat k_ownIn
    refine ⟨by simp, fun hpA => ?_⟩
    repeat k_ownIn
    with_reducible refine EvW_List (by simp) ?_
    repeat k_ownIn
    refine ⟨by simp, fun coA => ?_⟩
    repeat k_ownIn
    refine ⟨by simp, fun T2 => ⟨T2, _, rfl, m0, rfl, ?_⟩⟩
    show AsgsW _ [bindName _ _, bindName _ _] [_, _] _ _ _
    with_reducible refine AsgsW_bind ?_
    repeat k_ownIn
    with_reducible refine AsgsW_bind ?_
    repeat k_ownIn
    with_reducible refine AsgsW_nil ?_
    k_ownIn
    have hst : (HL (hI hr) t par hr [(0, a0)] ++ (SL A2 S1 ++ (hpA, .list ([a0].map AV.ref)) :: (coA, .list []) :: (TL (hI hr) t par [] ++ led))).Perm ((coA, .list []) :: (hpA, .list [AV.ref a0]) :: (a0, .tup [.int (hr 0), .str (lt 0), .str (Str.ofString ""), .str (S (cont (chOf par) hr 6 0))]) :: (SL A2 S1 ++ led)) := by
      rw [litEm]
      exact permRun (SL A2 S1) led _ _ _
    refine TW.sub (List.sublist_cons_self _ _) ?_
    refine TW.perm hst ?_
    have hhr : ∀ c, (hr c : Int) = hI hr c := fun _ => rfl
    have hap : ∀ c, 1 ≤ c → c ≤ 5 → 1 ≤ addH (hI hr) t par c := fun c h1 h5 => addH_pos hh5 h1 h5
    generalize hI hr = hh at *
    revert hh
    refine keepAll ?_
    intro hh
    set_option tactic.hygienic false in intros
    k_ownIn
    obtain ⟨I1, hI1⟩ : ∃ I : Nat → Vals → Ledger → Prop, I = (fun m v ld => Ex15 fun (Sx : SS) (dn : List Nat) (ql cl : List (Nat × Addr)) (xs : List Addr) (y1 y2 y3 y4 y5 y6 y7 y8 y9 y10 : Option AV) => An12 (v = [y1, some (.ref Td), some (.ref W), y2, some (.ref A2.x), y3, y4, some (.ref hpA), some (.ref coA), y5, y6, y7, y8, y9, y10]) (ld = HL hh t par hr ql ++ (SL A2 Sx ++ (hpA, .list (xs.map AV.ref)) :: (coA, .list ((cl.map (·.2)).map AV.ref)) :: (TL hh t par cl ++ led))) (R2 par Sx dn) (cl.map (·.1) = dn) ((∀ a ∈ xs, (paOf ql a, a) ∈ ql)) ((dn ++ xs.map (paOf ql)).Nodup) ((∀ c ∈ dn ++ xs.map (paOf ql), c < 6)) ((∀ c, c < 6 → (c ∈ dn ++ xs.map (paOf ql) ↔ c = 0 ∨ par c ∈ dn))) (dn.Pairwise (fun a b => leA (ar hh t par) a b = true)) ((∀ a ∈ dn, ∀ b ∈ xs, leA (ar hh t par) a (paOf ql b) = true)) (hpL (klt (kfH hh t par ql)) xs = true) (m = 6 - dn.length)) := ⟨_, rfl⟩
    refine ExWhile I1 6 (inv3 hI1 ⟨S1, [], [(0, a0)], [], [a0], _, _, _, _, _, _, _, _, _, _, rfl, rfl, hR0, rfl, fun a ha => by rw [List.mem_singleton.mp ha]; simp [paOf], by simp, fun c hc => by simp [paOf] at hc; (first | lia | omega), fun c hc => by simp [paOf], .nil, fun a ha => absurd ha List.not_mem_nil, rfl, rfl⟩) ?_
    clear hst hR0 hcl0
    intro m v ld hi
    refine hide fun PG kG => ?_
    obtain ⟨Sx, dn, ql, cl, xs, y1, y2, y3, y4, y5, y6, y7, y8, y9, y10, rfl, rfl, hR, hcl, hxq, hnd, h6, hiff, hdp, hdb, hhp, rfl⟩ := ivn3 hI1 hi
    refine kG ?_
    clear kG PG
    clear hi
    have hx5 : xs.length ≤ 5 := by have := few_wait hnd h6 hiff; rwa [List.length_map] at this
    have hSk : SOk Sx := ⟨hR.nodes ▸ G2.st.ok.nd, hR.nodes ▸ G2.st.ok.lt6⟩
    have hxnd : (xs.map (paOf ql)).Nodup := (List.nodup_append.mp hnd).2.1
    have hinj : ∀ a ∈ xs, ∀ b ∈ xs, a ≠ b → (kfH hh t par ql a).2 ≠ (kfH hh t par ql b).2 := fun a ha b hb hab e => hab (nodup_inj hxnd a ha b hb (lt_inj e))
    have htup : ∀ b ∈ xs, (b, AO.tup [.int (kfH hh t par ql b).1, .str (kfH hh t par ql b).2, .str (sndOf par (paOf ql b)), .str (S (cont (chOf par) hr 6 (paOf ql b)))]) ∈ HL hh t par hr ql := fun b hb => HL_mem (hxq b hb)
    with_reducible refine TrW_plain (by with_unfolding_all rfl) ?_
    repeat k_ownIn
    with_reducible refine TruW_list (List.mem_append_right _ (List.mem_append_right _ m0)) (by rw [List.length_map]; (first | lia | omega)) ?_
    refine IteP (fun hb => ?_) fun hb => ?_
    · have hxne : xs ≠ [] := by rintro rfl; simp at hb
      refine hide fun PG kG => ?_
      obtain ⟨ys, z, rfl⟩ : ∃ ys z, xs = ys ++ [z] := ⟨xs.dropLast, xs.getLast hxne, (List.dropLast_concat_getLast hxne).symm⟩
      refine kG ?_
      clear kG PG
      have hyl : ys.length < 5 := by simp at hx5; (first | lia | omega)
      have hstr : Strict (klt (kfH hh t par ql)) (ys ++ [z]) := klt_strict _ _ hinj
      have hxn := nodup_of_map hxnd
      refine hide fun PG kG => ?_
      obtain ⟨hp1, hp2⟩ := hp_pop hstr hxn hyl hhp
      refine kG ?_
      clear kG PG
      have hpm := hpop_perm (lt := klt (kfH hh t par ql)) (xs := ys) (a := z)
      repeat k_ownIn
      with_reducible refine CallW_heappop ok' (kfH hh t par ql) (List.mem_append_right _ (List.mem_append_right _ m0)) (fun b hb => ⟨_, List.mem_append_left _ (htup b hb)⟩) hinj hxn (by (first | lia | omega)) (Upd.appL (Upd.appL .here _) _) ?_
      generalize hro : hpopr ys z = ro at hp2 hpm ⊢
      revert ro
      refine keepAll ?_
      intro ro
      set_option tactic.hygienic false in intros
      generalize hxs : hpop (klt (kfH hh t par ql)) ys z = xs2 at hp1 hpm ⊢
      revert xs2
      refine keepAll ?_
      intro xs2
      set_option tactic.hygienic false in intros
      have hroin : ro ∈ ys ++ [z] := hpm.mem_iff.mp (.head _)
      with_reducible refine AsgW_Tuple ok' (List.mem_append_left _ (htup ro hroin)) (by with_unfolding_all rfl) (by with_unfolding_all rfl) ?_
      show AsgsW _ [assign _ _, assign _ _, assign _ _, assign _ _] _ _ _ _
      with_reducible refine AsgsW_cons ?_
      repeat k_ownIn
      with_reducible refine AsgsW_cons ?_
      repeat k_ownIn
      with_reducible refine AsgsW_cons ?_
      repeat k_ownIn
      with_reducible refine AsgsW_cons ?_
      repeat k_ownIn
      with_reducible refine AsgsW_nil ?_
      generalize hpe : paOf ql ro = p at *
      revert p
      refine keepAll ?_
      intro p
      set_option tactic.hygienic false in intros
      have hkf1 : (kfH hh t par ql ro).1 = ar hh t par p := by unfold kfH; rw [hpe]
      have hkf2 : (kfH hh t par ql ro).2 = lt p := by unfold kfH; rw [hpe]
      rw [hkf1, hkf2]
      have hpin : p ∈ dn ++ (ys ++ [z]).map (paOf ql) := List.mem_append_right _ (hpe ▸ List.mem_map_of_mem hroin)
      have hp6 : p < 6 := h6 p hpin
      have hpd : p ∉ dn := fun q => (List.nodup_append.mp hnd).2.2 p q p (hpe ▸ List.mem_map_of_mem hroin) rfl
      have hd6 : ∀ c ∈ dn, c < 6 := fun c hc => h6 c (List.mem_append_left _ hc)
      have hdc : ∀ c ∈ dn, c = 0 ∨ par c ∈ dn := fun c hc => (hiff c (hd6 c hc)).mp (List.mem_append_left _ hc)
      refine hide fun PG kG => ?_
      obtain ⟨hR1, hR2⟩ := R2_step hp hR hp6 hpd hd6 hdc
      refine kG ?_
      clear kG PG
      have hdnl : dn.length < 6 := by
        have : (dn ++ [p]).length ≤ (List.range 6).length := List.Nodup.length_le_of_subset (by
          rw [List.nodup_append]
          exact ⟨(List.nodup_append.mp hnd).1, by simp, fun a ha b hb => by simp at hb; subst hb; exact fun q => hpd (q ▸ ha)⟩) fun c hc => by
          rw [List.mem_range]
          rcases List.mem_append.mp hc with q | q
          · exact hd6 c q
          · simp at q; (first | lia | omega)
        simp at this; (first | lia | omega)
      repeat k_ownIn
      with_reducible refine EvW_MethB PySem.F.plainAttrs_list PySem.F.slot_list_append PySem.F.type_list_append (by with_unfolding_all rfl) ?_
      repeat k_ownIn
      refine ⟨TyW_list (List.mem_append_right _ (List.mem_append_right _ (m1 m0))), ?_⟩
      repeat k_ownIn
      with_reducible refine EvW_Tuple (by simp) ?_
      repeat k_ownIn
      refine ⟨by simp, fun tc => ?_⟩
      repeat k_ownIn
      have hcll : cl.length < 6 := by rw [← List.length_map (f := (·.1)), hcl]; exact hdnl
      with_reducible refine CallW_append (m1 (List.mem_append_right _ (List.mem_append_right _ (m1 m0)))) (by rw [List.length_map, List.length_map]; (first | lia | omega)) (.there (Upd.appL (Upd.appL (.there .here) _) _)) ?_
      refine ⟨fun x e => (by cases e), ?_⟩
      k_ownIn
      have hcl2 : (cl ++ [(p, tc)]).map (·.1) = dn ++ [p] := by rw [List.map_append, hcl]; rfl
      have hcla : (cl.map (·.2)).map AV.ref ++ [AV.ref tc] = ((cl ++ [(p, tc)]).map (·.2)).map AV.ref := by simp
      have hpT := permTc (HL hh t par hr ql) (SL A2 Sx) (TL hh t par cl ++ led) (hpA, .list (xs2.map AV.ref)) (coA, .list (((cl ++ [(p, tc)]).map (·.2)).map AV.ref)) (tc, tupO hh t par p)
      rw [hcla]
      refine TW.perm hpT ?_
      have hTLs := TL_snoc hh t par cl p tc
      rw [show (tc, tupO hh t par p) :: (TL hh t par cl ++ led) = TL hh t par (cl ++ [(p, tc)]) ++ led by rw [hTLs]; rfl]
      generalize cl ++ [(p, tc)] = cl2 at hcl2 ⊢
      revert cl2
      refine keepAll ?_
      intro cl2
      set_option tactic.hygienic false in intros
      clear hpT hTLs hcla
      repeat k_ownIn
      with_reducible refine CallW_parcels (n := 5) ok' hp hh5 hp6 (by (first | lia | omega)) (by decide) (List.mem_append_right _ (List.mem_append_right _ (m1 (m1 (List.mem_append_right _ htd))))) hlord ?_
      intro pr pq px hpq hPH
      iterate 2 k_ownIn
      generalize hPL : PL t hr (chOf par) 5 (lt p) pq = PLq
      revert PLq
      refine keepAll ?_
      intro PLq
      set_option tactic.hygienic false in intros
      refine TW.perm (permSL PLq (HL hh t par hr ql) (SL A2 Sx) _ (pr, .list (px.map AV.ref))) ?_
      repeat k_ownIn
      with_reducible refine EvW_MethF (by with_unfolding_all rfl) ?_ ok'
      repeat k_ownIn
      refine ⟨A2.x, 137, A2.d, _, _, 120, rfl, SL_inst A2 Sx _, SL_self A2 Sx _, me_dn _, self_no_dn A2 Sx, ?_⟩
      repeat k_ownIn
      have hnp : Sx.np p = -1 := by rw [hR.np p hp6, if_neg hpd, if_pos ((hiff p hp6).mp hpin)]
      have hsup : Sx.su p = chOf par p := by rw [hR.su]; exact G2.su p hp6
      have hnode : ∀ c, c < 6 → c ∈ Sx.nodes := fun c hc => by rw [hR.nodes]; exact G2.node c hc
      refine CodeW.call ?_
      show CodeW _ _ ([.ref A2.x] ++ txs [p]) _ _ _
      with_reducible refine CodeW_done ok' hSk hR.rd (by simp) (by simp) (fun j hj => by rw [List.mem_singleton.mp hj]; exact hnode p hp6) (fun j hj => ?_) (fun i j hj => ?_) ?_
      · rw [List.mem_singleton.mp hj, hsup]
        exact ⟨Nat.le_succ_of_le (T.few p hp6), fun s hs => hnode s (T.up p hp6 s hs).2⟩
      · have : i = 0 := by have := (List.getElem?_eq_some_iff.mp hj).1; simpa using this
        subst this
        cases hj
        exact hnp
      refine ⟨fun x e => (by cases e), ?_⟩
      rw [show [p].foldl doneN Sx = doneN Sx p from rfl]
      repeat k_ownIn
      with_reducible refine EvW_MethF (by with_unfolding_all rfl) ?_ ok'
      repeat k_ownIn
      refine ⟨A2.x, 137, A2.d, _, _, 99, rfl, SL_inst A2 _ _, SL_self A2 _ _, me_gr _, self_no_gr A2 _, ?_⟩
      repeat k_ownIn
      refine hide fun PG kG => ?_
      obtain ⟨dn1, dn2, _⟩ := doneN_same Sx p
      refine kG ?_
      clear kG PG
      with_reducible refine CallW_getready ok' ⟨dn1 ▸ hSk.nd, dn1 ▸ hSk.lt6⟩ hR1 (fun j hj => by rw [dn1]; exact hnode j (T.up p hp6 j hj).2) (by have := T.few p hp6; (first | lia | omega)) ?_
      intro Tg
      generalize hS2 : grS (doneN Sx p) (chOf par p) = S2 at hR2 ⊢
      revert S2
      refine keepAll ?_
      intro S2
      set_option tactic.hygienic false in intros
      rw [txs_lt]
      have hfew := T.few p hp6
      repeat k_ownIn
      with_reducible refine CallW_sortedTupStrs m0 (by rw [List.length_map]; (first | lia | omega)) ?_
      intro r1 ys1 hy1 hs1
      repeat k_ownIn
      with_reducible refine EvListComp ["parcel"] [] [] ok' (compOk_of (by kernel_rfl) (by kernel_rfl) (by kernel_rfl)) (fun _ => by with_unfolding_all rfl) ?_
      repeat k_ownIn
      have hprm : (pr, AO.list (px.map AV.ref)) ∈ (r1, AO.list (ys1.map AV.str)) :: (Tg, .tup (((chOf par p).map lt).map AV.str)) :: (SL A2 S2 ++ (PLq ++ (pr, .list (px.map AV.ref)) :: (HL hh t par hr ql ++ (hpA, .list (xs2.map AV.ref)) :: (coA, .list ((cl2.map (·.2)).map AV.ref)) :: (TL hh t par cl2 ++ led)))) := m1 (m1 (List.mem_append_right _ (List.mem_append_right _ m0)))
      with_reducible refine It_list Plain.name ok' hprm ?_
      have hpxl : px.length ≤ 5 := by
        have h1 := hPH.perm.length_eq
        have h2 := congrArg List.length hpq
        rw [List.length_map] at h1 h2
        (first | lia | omega)
      have hpin2 : ∀ a ∈ px, (paOf pq a, a) ∈ pq := fun a ha => by
        obtain ⟨q, hq, rfl⟩ := List.mem_map.mp (hPH.perm.mem_iff.mp ha)
        rw [paOf_eq hPH.nd2 hq]; exact hq
      have hptup : ∀ a ∈ px, (a, AO.tup [.int (-t (paOf pq a)), .str (lt (paOf pq a)), .int (hr (paOf pq a)), .str (lt p), .str (S (cont (chOf par) hr 5 (paOf pq a)))]) ∈ PLq := fun a ha => by rw [← hPL]; exact PL_mem (hpin2 a ha)
      refine CompT_vals ["parcel"] rfl [] .nil (Iv19c2 led par hr t A2 hpA coA hh ql xs2 p cl2 pr pq px PLq Tg S2 r1 ys1)
        (fun acc => ⟨none, rfl, rfl⟩) (fun acc i3 v ld ⟨z, _, e⟩ => e ▸ m1 hprm) ?_ ?_
      · intro acc B3 outs3 L3 i3 a v ld okC hx3 hG10 B4 okB4
        refine hide fun PG kG => ?_
        obtain ⟨z3, rfl, rfl⟩ := hG10
        refine kG ?_
        clear kG PG
        rw [List.getElem?_map, Option.map_eq_some_iff] at hx3
        refine hide fun PG kG => ?_
        obtain ⟨a, ha, rfl⟩ := hx3
        refine kG ?_
        clear kG PG
        refine CompTurn_name okB4 (.inl (by kernel_rfl)) SetIs.here ?_
        repeat k_ownIn
        refine CompYes ?_
        with_reducible refine InnerW_list ?_
        repeat k_ownIn
        with_reducible refine SubW_tup (m1 (m1 (m1 (List.mem_append_right _ (List.mem_append_left _ (hptup a (List.mem_of_getElem? ha))))))) (by decide) rfl (by simp) (fun _ _ => by with_unfolding_all rfl) ?_
        with_reducible refine CallW_append m0 (by rw [List.length_map, List.length_map, List.length_take]; (first | lia | omega)) .here ?_
        refine ⟨_, rfl, ?_⟩
        rw [List.take_add_one, ha, List.map_append, List.map_append]
        rfl
      · intro acc v' l' hG3
        refine hide fun PG kG => ?_
        obtain ⟨z3, rfl, rfl⟩ := hG3
        refine kG ?_
        clear kG PG
        rw [List.length_map, List.take_length]
        repeat k_ownIn
        with_reducible refine CallW_sortedStrs m0 (by rw [List.length_map]; (first | lia | omega)) ?_
        intro r2 ys2 hy2 hs2
        have hpaq : (px.map (paOf pq)).Perm (chOf par p) := by
          refine (hPH.perm.map _).trans ?_
          rw [List.map_map, show pq.map (paOf pq ∘ fun x => x.2) = pq.map (·.1) from List.map_congr_left fun q hq => paOf_eq hPH.nd2 hq, hpq]
        have hyy : ys1 = ys2 := by
          refine sorted_uniq hs1 hs2 (hy1.trans (List.Perm.symm (hy2.trans ?_)))
          have := hpaq.map lt
          rwa [List.map_map] at this
        subst hyy
        have hysh : ∃ l : List Nat, ys1 = l.map lt ∧ ∀ c ∈ l, c ∈ chOf par p := map_ex fun y hy => hy1.mem_iff.mp hy
        refine hide fun PG kG => ?_
        obtain ⟨ly, rfl, hly⟩ := hysh
        refine kG ?_
        clear kG PG
        refine hide fun PG kG => ?_
        obtain ⟨sh1, sh2⟩ := sh_list (strs_sh ly fun c hc => (T.up p hp6 c (hly c hc)).2) (by decide)
        refine kG ?_
        clear kG PG
        with_reducible refine CmpW_neData (d := .list (ly.map fun c => PyData.str (lt c))) ok' (.list (m1 (m1 m0)) (rds_strs _ _)) (.list m0 (rds_strs _ _)) sh1 sh2 ?_
        repeat k_ownIn
        refine IteP (fun hb => by cases hb) fun hb => ?_
        iterate 2 k_ownIn
        refine TW.sub (led' := SL A2 S2 ++ (PLq ++ (pr, .list (px.map AV.ref)) :: (HL hh t par hr ql ++ (hpA, .list (xs2.map AV.ref)) :: (coA, .list ((cl2.map (·.2)).map AV.ref)) :: (TL hh t par cl2 ++ led)))) (((((List.Sublist.refl _).cons _).cons _).cons _).cons _) ?_
        refine TW.perm (permIn PLq (HL hh t par hr ql) (SL A2 S2) _ (pr, .list (px.map AV.ref))) ?_
        clear hprm hs1 hs2 hy1 hy2 sh1 sh2 hly
        -- what waits, and the children
        have hperm0 : (p :: xs2.map (paOf ql)).Perm ((ys ++ [z]).map (paOf ql)) := by
          have := hpm.map (paOf ql)
          rwa [List.map_cons, hpe] at this
        have hall : ∀ c, c ∈ dn ++ p :: xs2.map (paOf ql) ↔ c ∈ dn ++ (ys ++ [z]).map (paOf ql) := fun c => (hperm0.append_left dn).mem_iff
        have hchn : ∀ c ∈ chOf par p, c ∉ dn ++ p :: xs2.map (paOf ql) := fun c hc hm => by
          obtain ⟨c1, c5, cp⟩ := ch_mem.mp hc
          rcases (hiff c (by (first | lia | omega))).mp ((hall c).mp hm) with e | e
          · (first | lia | omega)
          · rw [cp] at e; exact hpd e
        have hbig : ((dn ++ p :: xs2.map (paOf ql)) ++ chOf par p).Nodup := by
          rw [List.nodup_append]
          exact ⟨(hperm0.append_left dn).nodup_iff.mpr hnd, ch_nodup par p, fun a ha b hb e => hchn b hb (e ▸ ha)⟩
        have hbig6 : ∀ c ∈ (dn ++ p :: xs2.map (paOf ql)) ++ chOf par p, c < 6 := fun c hc => by
          rcases List.mem_append.mp hc with q | q
          · exact h6 c ((hall c).mp q)
          · exact (T.up p hp6 c q).2
        have hbigl : xs2.length + (chOf par p).length ≤ 5 := by
          have : ((dn ++ p :: xs2.map (paOf ql)) ++ chOf par p).length ≤ (List.range 6).length := List.Nodup.length_le_of_subset hbig fun c hc => List.mem_range.mpr (hbig6 c hc)
          simp at this
          (first | lia | omega)
        have hxs2q : ∀ a ∈ xs2, (paOf ql a, a) ∈ ql := fun a ha => hxq a (hpm.mem_iff.mp (.tail _ ha))
        have hfrnd : (xs2.map (paOf ql) ++ chOf par p).Nodup := by
          refine List.Nodup.sublist ?_ hbig
          refine List.Sublist.append_right ?_ _
          exact (List.sublist_cons_self _ _).trans (List.sublist_append_right _ _)
        generalize hfr0 : xs2.map (paOf ql) = fr0 at *
        revert fr0
        refine keepAll ?_
        intro fr0
        set_option tactic.hygienic false in intros
        k_ownIn
        obtain ⟨I2, hI2⟩ : ∃ I : Nat → Vals → Ledger → Prop, I = (fun m v ld => Ex10 fun (ql2 : List (Nat × Addr)) (xs px2 : List Addr) (po : List Nat) (w3 w4 w7 w8 w9 w10 : Option AV) => An12 (v = [some (.str (S (cont (chOf par) hr 6 p))), some (.ref Td), some (.ref W), some (.str (lt p)), some (.ref A2.x), w3, w4, some (.ref hpA), some (.ref coA), some (.int (ar hh t par p + sumh hh po)), some (.ref pr), w7, w8, w9, w10]) (ld = HL hh t par hr ql2 ++ (PLq ++ (pr, .list (px2.map AV.ref)) :: (SL A2 S2 ++ (hpA, .list (xs.map AV.ref)) :: (coA, .list ((cl2.map (·.2)).map AV.ref)) :: (TL hh t par cl2 ++ led)))) ((∀ a ∈ px2, a ∈ px)) (px2.Nodup) ((po ++ px2.map (paOf pq)).Perm (chOf par p)) (hpL (klt (kfQ t pq)) px2 = true) (po.Pairwise (fun a b => bef t a b = true)) ((∀ a ∈ po, ∀ b ∈ px2, bef t a (paOf pq b) = true)) ((∀ a ∈ xs, (paOf ql2 a, a) ∈ ql2)) ((xs.map (paOf ql2)).Perm (fr0 ++ po)) (hpL (klt (kfH hh t par ql2)) xs = true) (m = px2.length)) := ⟨_, rfl⟩
        refine ExWhile I2 _ (inv3 hI2 ⟨ql, xs2, px, [], _, _, _, _, _, _, by rw [sumh_nil, Int.add_zero], rfl, fun a ha => ha, hPH.perm.nodup_iff.mpr hPH.nd2, by rw [List.nil_append]; exact hpaq, hPH.heap, .nil, fun a ha => absurd ha List.not_mem_nil, hxs2q, by rw [List.append_nil, hfr0], hp1, rfl⟩) ?_
        intro m v ld hi
        refine hide fun PG kG => ?_
        obtain ⟨ql2, xs, px2, po, w3, w4, w7, w8, w9, w10, rfl, rfl, ha1, ha2, ha3, ha4, ha5, ha6, hb1, hb2, hb3, rfl⟩ := ivn3 hI2 hi
        refine kG ?_
        clear kG PG
        clear hi
        have hp2l : px2.length ≤ 5 := by
          have := ha3.length_eq
          rw [List.length_append, List.length_map] at this
          (first | lia | omega)
        with_reducible refine TrW_plain (by with_unfolding_all rfl) ?_
        repeat k_ownIn
        with_reducible refine TruW_list (List.mem_append_right _ (List.mem_append_right _ m0)) (by rw [List.length_map]; (first | lia | omega)) ?_
        refine IteP (fun hbx => ?_) fun hbx => ?_
        · have hxne2 : px2 ≠ [] := by rintro rfl; simp at hbx
          refine hide fun PG kG => ?_
          obtain ⟨ys2, z2, rfl⟩ : ∃ ys z, px2 = ys ++ [z] := ⟨px2.dropLast, px2.getLast hxne2, (List.dropLast_concat_getLast hxne2).symm⟩
          refine kG ?_
          clear kG PG
          have hyl2 : ys2.length < 5 := by simp at hp2l; (first | lia | omega)
          have hndq : (pq.map (·.1)).Nodup := by rw [hpq]; exact ch_nodup par p
          have hinj2 : ∀ a ∈ ys2 ++ [z2], ∀ b ∈ ys2 ++ [z2], a ≠ b → (kfQ t pq a).2 ≠ (kfQ t pq b).2 := fun a ha b hb hab e => by
            have e1 := lt_inj e
            have h1 := hpin2 a (ha1 a ha)
            rw [e1] at h1
            exact hab (keys_uniq hndq h1 (hpin2 b (ha1 b hb)))
          have hstr2 : Strict (klt (kfQ t pq)) (ys2 ++ [z2]) := klt_strict _ _ hinj2
          refine hide fun PG kG => ?_
          obtain ⟨g1, g2⟩ := hp_pop hstr2 ha2 hyl2 ha4
          refine kG ?_
          clear kG PG
          have gpm := hpop_perm (lt := klt (kfQ t pq)) (xs := ys2) (a := z2)
          have hptq : ∀ a ∈ px, (a, AO.tup [.int (kfQ t pq a).1, .str (kfQ t pq a).2, .int (hr (paOf pq a)), .str (lt p), .str (S (cont (chOf par) hr 5 (paOf pq a)))]) ∈ PLq := hptup
          repeat k_ownIn
          with_reducible refine CallW_heappop ok' (kfQ t pq) (List.mem_append_right _ (List.mem_append_right _ m0)) (fun b hb => ⟨_, List.mem_append_right _ (List.mem_append_left _ (hptq b (ha1 b hb)))⟩) hinj2 ha2 (by (first | lia | omega)) (Upd.appL (Upd.appL .here _) _) ?_
          generalize hpopr ys2 z2 = ro2 at g2 gpm ⊢
          revert ro2
          refine keepAll ?_
          intro ro2
          set_option tactic.hygienic false in intros
          generalize hpop (klt (kfQ t pq)) ys2 z2 = px3 at g1 gpm ⊢
          revert px3
          refine keepAll ?_
          intro px3
          set_option tactic.hygienic false in intros
          have hro2 : ro2 ∈ ys2 ++ [z2] := gpm.mem_iff.mp (.head _)
          with_reducible refine AsgW_Tuple ok' (List.mem_append_right _ (List.mem_append_left _ (hptup ro2 (ha1 ro2 hro2)))) (by with_unfolding_all rfl) (by with_unfolding_all rfl) ?_
          show AsgsW _ [assign _ _, assign _ _, assign _ _, assign _ _, assign _ _] _ _ _ _
          with_reducible refine AsgsW_cons ?_
          repeat k_ownIn
          with_reducible refine AsgsW_cons ?_
          repeat k_ownIn
          with_reducible refine AsgsW_cons ?_
          repeat k_ownIn
          with_reducible refine AsgsW_cons ?_
          repeat k_ownIn
          with_reducible refine AsgsW_cons ?_
          repeat k_ownIn
          with_reducible refine AsgsW_nil ?_
          generalize hce : paOf pq ro2 = c
          revert c
          refine keepAll ?_
          intro c
          set_option tactic.hygienic false in intros
          have hperm3 : (po ++ c :: px3.map (paOf pq)).Perm (chOf par p) := by
            refine List.Perm.trans (List.Perm.append_left _ ?_) ha3
            have := gpm.map (paOf pq)
            rwa [List.map_cons, hce] at this
          have hcin : c ∈ chOf par p := hperm3.mem_iff.mp (List.mem_append_right _ (.head _))
          refine hide fun PG kG => ?_
          obtain ⟨c1, c5, cp⟩ := ch_mem.mp hcin
          refine kG ?_
          clear kG PG
          have hnd3 : (ro2 :: px3).Nodup := gpm.nodup_iff.mpr ha2
          have hbc : ∀ b ∈ px3, bef t c (paOf pq b) = true := fun b hb => by
            have := kfQ_lt (g2 b (gpm.mem_iff.mp (.tail _ hb)) fun e => (List.nodup_cons.mp hnd3).1 (e ▸ hb))
            rwa [hce] at this
          have hpc : ∀ a ∈ po, bef t a c = true := fun a ha => by have := ha6 a ha ro2 hro2; rwa [hce] at this
          have har : ar hh t par p + sumh hh po + (hr c : Int) = ar hh t par c := by
            rw [ar_eq hp c1 c5, cp, addH_next cp hperm3 hpc (fun b hb => by
              obtain ⟨a, ha, rfl⟩ := List.mem_map.mp hb
              exact hbc a ha) (ch_nodup par p), sumh_app, sumh_cons, sumh_nil, hhr]
            (first | lia | omega)
          have hcont : cont (chOf par) hr 5 c = cont (chOf par) hr 6 c := cont_stable T.up 5 c (by (first | lia | omega)) (by (first | lia | omega))
          have hsnc : lt p = sndOf par c := by unfold sndOf; rw [if_neg (by (first | lia | omega)), cp]
          repeat k_ownIn
          rw [har, hcont]
          with_reducible refine EvW_Tuple (by simp) ?_
          repeat k_ownIn
          refine ⟨by simp, fun ac => ?_⟩
          repeat k_ownIn
          refine CallW.nd fun lnd => ?_
          have hacn : ac ∉ ql2.map (·.2) := fun hm => by
            rw [List.map_cons, List.nodup_cons] at lnd
            refine lnd.1 ?_
            rw [List.map_append]
            exact List.mem_append_left _ (HL_addr hm)
          have hpa2 : ∀ a ∈ xs, paOf (ql2 ++ [(c, ac)]) a = paOf ql2 a := fun a ha => paOf_app (hb1 a ha)
          have hpan : paOf (ql2 ++ [(c, ac)]) ac = c := paOf_new hacn
          have hxsn : (xs ++ [ac]).map (paOf (ql2 ++ [(c, ac)])) = xs.map (paOf ql2) ++ [c] := by
            rw [List.map_append, List.map_congr_left hpa2, List.map_singleton, hpan]
          have hxsp : ((xs ++ [ac]).map (paOf (ql2 ++ [(c, ac)]))).Perm (fr0 ++ (po ++ [c])) := by
            rw [hxsn, ← List.append_assoc]
            exact hb2.append_right _
          have hpoc : (po ++ [c]).Sublist (po ++ c :: px3.map (paOf pq)) := List.Sublist.append_left (List.Sublist.cons_cons _ (List.nil_sublist _)) _
          have hfr2 : (fr0 ++ (po ++ [c])).Nodup := by
            have h1 : (fr0 ++ (po ++ c :: px3.map (paOf pq))).Nodup := (List.Perm.append_left fr0 hperm3).nodup_iff.mpr hfrnd
            exact h1.sublist (List.Sublist.append_left hpoc _)
          have hxnd2 : ((xs ++ [ac]).map (paOf (ql2 ++ [(c, ac)]))).Nodup := hxsp.nodup_iff.mpr hfr2
          have hxl2 : xs.length < 5 := by
            have h1 := hxsp.length_eq
            have h2 := hpoc.length_le
            have h3 := hperm3.length_eq
            have h4 := congrArg List.length hfr0
            simp only [List.length_map, List.length_append, List.length_cons, List.length_nil] at h1 h2 h3 h4
            (first | lia | omega)
          have hin2 : ∀ a ∈ xs ++ [ac], (paOf (ql2 ++ [(c, ac)]) a, a) ∈ ql2 ++ [(c, ac)] := fun a ha => by
            rcases List.mem_append.mp ha with q | q
            · rw [hpa2 a q]; exact List.mem_append_left _ (hb1 a q)
            · rw [List.mem_singleton.mp q, hpan]; exact List.mem_append_right _ (.head _)
          have hHLs : (ac, AO.tup [.int (ar hh t par c), .str (lt c), .str (lt p), .str (S (cont (chOf par) hr 6 c))]) :: HL hh t par hr ql2 = HL hh t par hr (ql2 ++ [(c, ac)]) := by rw [HL_snoc, hsnc]; rfl
          have hinj3 : ∀ a ∈ xs ++ [ac], ∀ b ∈ xs ++ [ac], a ≠ b → (kfH hh t par (ql2 ++ [(c, ac)]) a).2 ≠ (kfH hh t par (ql2 ++ [(c, ac)]) b).2 := fun a ha b hb hab e => hab (nodup_inj hxnd2 a ha b hb (lt_inj e))
          have hheap3 : hpL (klt (kfH hh t par (ql2 ++ [(c, ac)]))) xs = true := by
            rw [klt_congr (kf' := kfH hh t par ql2) fun a ha => by unfold kfH; rw [hpa2 a ha]]
            exact hb3
          with_reducible refine CallW_heappush ok' (kfH hh t par (ql2 ++ [(c, ac)])) (xs := xs) (a := ac) (m1 (List.mem_append_right _ (List.mem_append_right _ (m1 (List.mem_append_right _ m0))))) (fun b hb => ?_) hinj3 (nodup_of_map hxnd2) (by (first | lia | omega)) (.there (Upd.appL (Upd.appL (.there (Upd.appL .here _)) _) _)) ?_
          · refine ⟨[.str (sndOf par (paOf (ql2 ++ [(c, ac)]) b)), .str (S (cont (chOf par) hr 6 (paOf (ql2 ++ [(c, ac)]) b)))], ?_⟩
            have h1 := HL_mem (h := hh) (t := t) (par := par) (hr := hr) (hin2 b hb)
            rw [← hHLs] at h1
            rcases List.mem_cons.mp h1 with e | e
            · exact e ▸ m0
            · exact m1 (List.mem_append_left _ e)
          refine ⟨fun x e => (by cases e), ?_⟩
          repeat k_ownIn
          refine TurnK_next px3.length ?_ (inv3 hI2 ⟨ql2 ++ [(c, ac)], hpush (klt (kfH hh t par (ql2 ++ [(c, ac)]))) xs ac, px3, po ++ [c], w3, some (.int (hr c)), some (.int (-t c)), some (.str (lt c)), some (.str (lt p)), some (.str (S (cont (chOf par) hr 6 c))), ?_, ?_, fun a ha => ha1 a (gpm.mem_iff.mp (.tail _ ha)), (List.nodup_cons.mp hnd3).2, ?_, g1, ?_, ?_, fun a ha => hin2 a (hpush_perm.mem_iff.mp ha), (hpush_perm.map _).trans hxsp, hp_push (klt_strict _ _ hinj3) (nodup_of_map hxnd2) hxl2 hheap3, rfl⟩)
          · have := gpm.length_eq
            simp at this ⊢
            (first | lia | omega)
          · rw [sumh_app, sumh_cons, sumh_nil]
            rw [show ar hh t par p + (sumh hh po + (hh c + 0)) = ar hh t par c by rw [← har, hhr]; (first | lia | omega)]
          · rw [← hHLs]
            rfl
          · rw [List.append_assoc]; exact hperm3
          · rw [List.pairwise_append]
            refine ⟨ha5, by simp, fun a ha b hb => ?_⟩
            rw [List.mem_singleton.mp hb]; exact hpc a ha
          · intro a ha b hb
            rcases List.mem_append.mp ha with q | q
            · exact ha6 a q b (gpm.mem_iff.mp (.tail _ hb))
            · rw [List.mem_singleton.mp q]; exact hbc b hb
        · have hxe2 : px2 = [] := by
            cases px2 with
            | nil => rfl
            | cons x r => simp at hbx
          subst hxe2
          rw [List.map_nil, List.append_nil] at ha3
          have hfin : (xs.map (paOf ql2)).Perm (fr0 ++ chOf par p) := hb2.trans (List.Perm.append_left _ ha3)
          iterate 2 k_ownIn
          refine TW.sub (led' := HL hh t par hr ql2 ++ (SL A2 S2 ++ (hpA, .list (xs.map AV.ref)) :: (coA, .list ((cl2.map (·.2)).map AV.ref)) :: (TL hh t par cl2 ++ led))) (List.Sublist.append_left ((List.sublist_cons_self _ _).trans (List.sublist_append_right _ _)) _) ?_
          repeat k_ownIn
          have hdn2 : ((dn ++ [p]) ++ xs.map (paOf ql2)).Perm ((dn ++ p :: fr0) ++ chOf par p) := by
            refine (List.Perm.append_left _ hfin).trans ?_
            simp [List.append_assoc]
          have hlt : ∀ c ∈ chOf par p, leA (ar hh t par) p c = true := fun c hc => by
            obtain ⟨c1, c5, cp⟩ := ch_mem.mp hc
            rw [leA_iff, ar_eq hp c1 c5, cp]
            have := hap c c1 c5
            exact .inl (by (first | lia | omega))
          have hfrle : ∀ c ∈ fr0, leA (ar hh t par) p c = true := fun c hc => by
            rw [← hfr0] at hc
            obtain ⟨a, ha, rfl⟩ := List.mem_map.mp hc
            have hne : a ≠ ro := fun e => by
              have hnd4 : (ro :: xs2).Nodup := hpm.nodup_iff.mpr hxn
              exact (List.nodup_cons.mp hnd4).1 (e ▸ ha)
            have := hp2 a (hpm.mem_iff.mp (.tail _ ha)) hne
            unfold klt kfH at this
            simp only [decide_eq_true_eq, lt_cps, hpe] at this
            rw [leA_iff]
            (first | lia | omega)
          have hdle : ∀ a ∈ dn, leA (ar hh t par) a p = true := fun a ha => by have := hdb a ha ro hroin; rwa [hpe] at this
          refine TurnK_next (6 - (dn ++ [p]).length) (by simp; (first | lia | omega)) (inv3 hI1 ⟨S2, dn ++ [p], ql2, cl2, xs, _, _, _, _, _, _, _, _, _, _, rfl, rfl, hR2, hcl2, hb1, hdn2.nodup_iff.mpr hbig, fun c hc => hbig6 c (hdn2.mem_iff.mp hc), fun c hc => ?_, ?_, ?_, hb3, rfl⟩)
          · rw [hdn2.mem_iff, List.mem_append, hall, hiff c hc]
            constructor
            · rintro ((e | e) | e)
              · exact .inl e
              · exact .inr (List.mem_append_left _ e)
              · exact .inr (by rw [(ch_mem.mp e).2.2]; simp)
            · rintro (e | e)
              · exact .inl (.inl e)
              · rcases List.mem_append.mp e with q | q
                · exact .inl (.inr q)
                · simp at q
                  rcases Nat.eq_zero_or_pos c with z | z
                  · exact .inl (.inl z)
                  · exact .inr (ch_mem.mpr ⟨z, by (first | lia | omega), q⟩)
          · rw [List.pairwise_append]
            refine ⟨hdp, by simp, fun a ha b hb => ?_⟩
            rw [List.mem_singleton.mp hb]; exact hdle a ha
          · intro a ha b hb
            have hbf := hfin.mem_iff.mp (List.mem_map_of_mem (f := paOf ql2) hb)
            have hpb : leA (ar hh t par) p (paOf ql2 b) = true := by
              rcases List.mem_append.mp hbf with q | q
              · exact hfrle _ q
              · exact hlt _ q
            rcases List.mem_append.mp ha with q | q
            · have := hdle a q
              rw [leA_iff] at *
              (first | lia | omega)
            · rw [List.mem_singleton.mp q]; exact hpb
    · have hxe : xs = [] := by
        cases xs with
        | nil => rfl
        | cons x r => simp at hb
      subst hxe
      iterate 2 k_ownIn
      refine TW.nd fun lnd => ?_
      have nd2 : (cl.map (·.2)).Nodup := TL_nd (h := hh) (t := t) (par := par) (((List.sublist_append_left _ _).trans ((List.sublist_cons_self _ _).trans (List.sublist_cons_self _ _))).trans ((List.sublist_append_right _ _).trans (List.sublist_append_right _ _))) lnd
      rw [List.map_nil, List.append_nil] at hnd h6 hiff
      have hdall : ∀ c, c < 6 → c ∈ dn := fun c hc => all_in hp (fun c h1 h2 => (hiff c h1).mpr h2) 6 c hc hc
      have hdperm := perm_range hnd h6 hdall
      have hbsmap : (cl.map (·.2)).map (paOf cl) = dn := by
        rw [List.map_map, ← hcl]
        exact List.map_congr_left fun q hq => paOf_eq nd2 hq
      repeat k_ownIn
      refine h coA _ (row_of (pl := cl) nd2 (List.mem_append_right _ (List.mem_append_right _ (m1 m0))) (fun a ha => ?_) (fun q hq => List.mem_append_right _ (List.mem_append_right _ (m1 (m1 (List.mem_append_left _ (TL_mem hq)))))) (by rw [hbsmap]; exact hdperm) ?_) fun q hq => List.mem_append_right _ (List.mem_append_right _ (m1 (m1 (List.mem_append_right _ hq))))
      · refine hide fun PG kG => ?_
        obtain ⟨q, hq, rfl⟩ := List.mem_map.mp ha
        refine kG ?_
        clear kG PG
        rw [paOf_eq nd2 hq]; exact hq
      · have : ((cl.map (·.2)).map (paOf cl)).Pairwise (fun a b => leA (ar hh t par) a b = true) := by rw [hbsmap]; exact hdp
        rwa [List.pairwise_map] at this

-- part F20
-- law
noncomputable abbrev pnLw : List Str := ["script"]
noncomputable abbrev lsLw : List Str := ["cells", "firsts", "numbers", "hours", "over", "waits", "least", "tails", "words"]
noncomputable abbrev nmLw : List Str := ["script", "cells", "firsts", "numbers", "hours", "over", "waits", "least", "tails", "words"]
noncomputable abbrev wrLw : List Str := ["cells", "over"]
theorem foLw (w : World) : FnOk (fdAt w 266) pnLw lsLw wrLw := fnOk_of (by kernel_rfl)
theorem loLw (w : World) : (KH w).lookup 266 = some ⟨.type "function", none, .func (fdAt w 266), #[]⟩ := by kernel_rfl
theorem cdLw (w : World) : codeIn (KH w) (fdAt w 266).code (fdAt w 266).qualname = true := by kernel_rfl
theorem boLw (w : World) : (fdAt w 266).body = .stmts (bodyOf (fdAt w 266).body) := by kernel_rfl
theorem biLw (w : World) (vs : List Value) (h : vs.length = 1) : bindArgs (fdAt w 266) ⟨vs, []⟩ = pure (pnLw.zip vs) := by
  obtain ⟨a, rfl⟩ := len1 h
  kernel_rfl
theorem SubW_rawSlice {C : Cx} {vals : Vals} {led : Ledger} {value slice : Expr} {l r : Addr} {o : Obj} {vs : List Value} {n : Nat} {xs : List AV} {lo hi st : Option Int} {K : AV → Vals → Ledger → Prop} (hl : C.B l = some o) (ho1 : o.cls = .type "list") (ho2 : o.data = .seq vs.toArray n) (hv : VRs xs vs) (hm : (r, AO.pred (SliceO lo hi st)) ∈ led) (h0 : st ≠ some 0) (hsz : xs.length ≤ 1000000)
    (hsl : ∀ o v, subscripted slice false o v = operate [v, o] (getItem o v)) (h : ∀ n, K (.ref n) vals ((n, .list (lslice xs lo hi st)) :: led)) : SubW C value slice (.ref l) (.ref r) vals led K := by
  rintro _ _ rfl rfl
  refine ⟨fun s hs => ?_⟩
  obtain ⟨o2, ho, a, b, c, h1, h2, h3, rfl⟩ := pred_get hs hm
  have hL : s.heap.IsList l vs.toArray := ⟨o, hs.keep l o hl, ho1, n, ho2⟩
  have e : vs.toArray.size ≤ sizeLine := by rw [sizeLine_eq, List.size_toArray, hv.length]; (first | lia | omega)
  refine tail_any hL.typeIs slot_list_getitem.lookup (wpAny_getItem_list_slice hL ⟨_, ho, rfl, rfl⟩ h1.part h2.part h3.part h0 ?_ e) (hsl _ _)
  exact ⟨.ref s.heap.objs.size, vals, _, rfl, hs.push (tk := s.toks) (ao := .list (lslice xs lo hi st)) rfl ⟨_, 0, slicePick_rel hv lo hi st, by simp⟩, h _⟩
theorem SubW_listSlice2 {C : Cx} {vals : Vals} {led : Ledger} {value slice : Expr} {l r : Addr} {xs : List AV} {lo hi st : Option Int} {K : AV → Vals → Ledger → Prop} (hl : (l, AO.list xs) ∈ led) (hm : (r, AO.pred (SliceO lo hi st)) ∈ led) (h0 : st ≠ some 0) (hsz : xs.length ≤ 1000000)
    (hsl : ∀ o v, subscripted slice false o v = operate [o, v] (getItem o v)) (h : ∀ n, K (.ref n) vals ((n, .list (lslice xs lo hi st)) :: led)) : SubW C value slice (.ref l) (.ref r) vals led K := by
  rintro _ _ rfl rfl
  refine ⟨fun s hs => ?_⟩
  obtain ⟨o, ho, a, b, c, h1, h2, h3, rfl⟩ := pred_get hs hm
  obtain ⟨vs, hv, hL⟩ := hs.list hl
  have e : vs.toArray.size ≤ sizeLine := by rw [sizeLine_eq, List.size_toArray, hv.length]; (first | lia | omega)
  refine tail_any hL.isList.typeIs slot_list_getitem.lookup (wpAny_getItem_list_slice hL.isList ⟨_, ho, rfl, rfl⟩ h1.part h2.part h3.part h0 ?_ e) (hsl _ _)
  exact ⟨.ref s.heap.objs.size, vals, _, rfl, hs.push (tk := s.toks) (ao := .list (lslice xs lo hi st)) rfl ⟨_, 0, slicePick_rel hv lo hi st, by simp⟩, h _⟩
theorem ints_ex {l0 : List Int} : ∀ {ys : List AV}, (∀ y ∈ ys, y ∈ l0.map AV.int) → ∃ l : List Int, ys = l.map AV.int
  | [], _ => ⟨[], rfl⟩
  | y :: r, h => by
    obtain ⟨l, e⟩ := ints_ex (l0 := l0) (ys := r) fun z hz => h z (.tail _ hz)
    obtain ⟨c, hc, e2⟩ := List.mem_map.mp (h y (.head _))
    exact ⟨c :: l, by rw [List.map_cons, e2, e]⟩
theorem vrs_ints : ∀ ns : List Int, VRs (ns.map AV.int) (ns.map fun i => Value.int i 0)
  | [] => .nil
  | i :: r => .cons VR.int (vrs_ints r)
theorem lslice_ints (ns : List Int) (lo hi st : Option Int) : ∃ ms : List Int, lslice (ns.map AV.int) lo hi st = ms.map AV.int ∧ ms.length ≤ ns.length := by
  obtain ⟨ms, e⟩ := ints_ex (l0 := ns) (ys := lslice (ns.map AV.int) lo hi st) fun y hy => by
    unfold lslice at hy
    obtain ⟨i, _, hi⟩ := List.mem_filterMap.mp hy
    exact List.mem_of_getElem? hi
  refine ⟨ms, e, ?_⟩
  have h1 := (slicePick_rel (vrs_ints ns) lo hi st).length
  have h2 := slicePick_size_le (ns.map fun i => Value.int i 0).toArray lo hi st
  have h3 := congrArg List.length e
  unfold lslice at h3
  rw [List.length_map] at h3
  simp only [Array.length_toList, List.size_toArray, List.length_map] at h1 h2 h3
  (first | lia | omega)
theorem zip_get {l : List AV} {f : AV × Nat → IT} {i : Nat} {x : IT} (h : (l.zipIdx.map f)[i]? = some x) : ∃ a, l[i]? = some a ∧ x = f (a, i) := by
  rw [List.getElem?_map, List.getElem?_zipIdx, Option.map_map, Option.map_eq_some_iff] at h
  obtain ⟨a, ha, rfl⟩ := h
  exact ⟨a, ha, by simp⟩
theorem zip_len {l : List AV} {f : AV × Nat → IT} : (l.zipIdx.map f).length = l.length := by simp
theorem dput_rng {key : Nat → Str} (hk : ∀ i j, key i = key j → i = j) (f : Nat → AV) (i : Nat) : dput ((List.range i).map fun j => (key j, f j)) (key i) (f i) = (List.range (i + 1)).map fun j => (key j, f j) := by
  unfold dput
  have e : ((List.range i).map fun j => (key j, f j)).any (fun e => decide (e.1 = key i)) = false := by
    rw [List.any_eq_false]
    intro p hp
    obtain ⟨j, hj, rfl⟩ := List.mem_map.mp hp
    have := List.mem_range.mp hj
    simp
    intro q
    have := hk _ _ q
    (first | lia | omega)
  rw [e, List.range_succ, List.map_append]
  simp
theorem af_at {i : Nat} (h : i < 6) : (S [97, 98, 99, 100, 101, 102]).cps[((i : Nat) : Int).toNat]? = some (97 + i) := by
  have : i = 0 ∨ i = 1 ∨ i = 2 ∨ i = 3 ∨ i = 4 ∨ i = 5 := by (first | lia | omega)
  rcases this with e | e | e | e | e | e <;> rw [e] <;> rfl
theorem bf_at {i : Nat} (h : i < 5) : (S [98, 99, 100, 101, 102]).cps[((i : Nat) : Int).toNat]? = some (97 + (i + 1)) := by
  have : i = 0 ∨ i = 1 ∨ i = 2 ∨ i = 3 ∨ i = 4 := by (first | lia | omega)
  rcases this with e | e | e | e | e <;> rw [e] <;> rfl
theorem litBf : Str.ofString "bcdef" = S [98, 99, 100, 101, 102] := by decide
noncomputable def hrN (N : List Int) (j : Nat) : Nat := (((N[j]?).getD 0).fmod 5 + 1).toNat
theorem hrN_ok (N : List Int) (j : Nat) : 1 ≤ hrN N j ∧ hrN N j ≤ 5 := by
  unfold hrN
  rw [Int.fmod_eq_emod_of_nonneg _ (by decide)]
  (first | lia | omega)
theorem hrN_at {N : List Int} {j : Nat} {c : Int} (h : N[j]? = some c) : (hrN N j : Int) = c.fmod 5 + 1 := by
  unfold hrN
  rw [h, Option.getD_some, Int.fmod_eq_emod_of_nonneg _ (by decide)]
  (first | lia | omega)
noncomputable def parN (N : List Int) (c : Nat) : Nat := ((((N[c]?).getD 0).fdiv 5).fmod c).toNat
theorem parN_ok (N : List Int) : ParOk (parN N) := fun c h1 h2 => by
  unfold parN
  rw [Int.fmod_eq_emod_of_nonneg _ (by (first | lia | omega))]
  have := Int.emod_lt_of_pos (((N[c]?).getD 0).fdiv 5) (b := (c : Int)) (by (first | lia | omega))
  (first | lia | omega)
theorem parN_at {N : List Int} {j : Nat} {c : Int} (h : N[j + 1]? = some c) : (c.fdiv 5).fmod ((j : Int) + 1) = (parN N (j + 1) : Int) := by
  unfold parN
  rw [h, Option.getD_some]
  have e : ((j + 1 : Nat) : Int) = (j : Int) + 1 := by (first | lia | omega)
  rw [e, Int.fmod_eq_emod_of_nonneg _ (by (first | lia | omega))]
  have := Int.emod_nonneg (c.fdiv 5) (b := (j : Int) + 1) (by (first | lia | omega))
  (first | lia | omega)
theorem ltail {N : List Int} (h : N.length = 6) : lslice (N.map AV.int) (some 1) none none = N.tail.map AV.int := by
  match N, h with
  | [a, b, c, d, e, f], _ =>
    show (sliceRange (sliceBounds (some 1) none none 6).1 (sliceBounds (some 1) none none 6).2.1 (sliceBounds (some 1) none none 6).2.2).filterMap ([AV.int a, .int b, .int c, .int d, .int e, .int f][·]?) = _
    have q : sliceRange (sliceBounds (some 1) none none 6).1 (sliceBounds (some 1) none none 6).2.1 (sliceBounds (some 1) none none 6).2.2 = [1, 2, 3, 4, 5] := by decide +kernel
    rw [q]; rfl
noncomputable def WL (par : Nat → Nat) (gl : List (Nat × Addr)) : Ledger := gl.reverse.map fun q => (q.2, .list (txs (chOf par q.1)))
theorem WL_snoc (par : Nat → Nat) (gl : List (Nat × Addr)) (c : Nat) (a : Addr) : WL par (gl ++ [(c, a)]) = (a, .list (txs (chOf par c))) :: WL par gl := by simp [WL]
theorem WL_mem {par : Nat → Nat} {gl : List (Nat × Addr)} {c : Nat} {a : Addr} (hm : (c, a) ∈ gl) : (a, AO.list (txs (chOf par c))) ∈ WL par gl := List.mem_map.mpr ⟨(c, a), List.mem_reverse.mpr hm, rfl⟩
theorem af_idx {i p : Nat} (h : [0, 1, 2, 3, 4, 5][i]? = some p) : i < 6 ∧ i = p := by
  have hi : i < 6 := (List.getElem?_eq_some_iff.mp h).1
  refine ⟨hi, ?_⟩
  have : i = 0 ∨ i = 1 ∨ i = 2 ∨ i = 3 ∨ i = 4 ∨ i = 5 := by (first | lia | omega)
  rcases this with e | e | e | e | e | e <;> subst e <;> cases h <;> rfl
theorem bf_idx {i p : Nat} (h : [1, 2, 3, 4, 5][i]? = some p) : i < 5 ∧ i + 1 = p := by
  have hi : i < 5 := (List.getElem?_eq_some_iff.mp h).1
  refine ⟨hi, ?_⟩
  have : i = 0 ∨ i = 1 ∨ i = 2 ∨ i = 3 ∨ i = 4 := by (first | lia | omega)
  rcases this with e | e | e | e | e <;> subst e <;> cases h <;> rfl
theorem WaitsAt.ups {l l' : Ledger} {W : Addr} {wa : Nat → Addr} {ch : Nat → List Nat} {ep : Option Nat} (h : WaitsAt l W wa ch ep) (hs : ∀ p ∈ l, p ∈ l') : WaitsAt l' W wa ch ep := ⟨hs _ h.dict, fun i hi => hs _ (h.lists i hi)⟩
theorem HoursAt.ups {l l' : Ledger} {H : Addr} {hr : Nat → Nat} (h : HoursAt l H hr) (hs : ∀ p ∈ l, p ∈ l') : HoursAt l' H hr := ⟨hs _ h.dict⟩
theorem dE_rng {gl : List (Nat × Addr)} {n : Nat} (hgl : gl.map (·.1) = List.range n) : dE gl = (List.range n).map fun i => (lt i, AV.ref (taOf gl i)) := by
  have := dE_gs (gl := gl) (by rw [hgl]; exact List.nodup_range) (gs := (List.range n).map fun i => (i, [])) (by rw [hgl, List.map_map]; exact List.map_id _)
  rw [this, List.map_map]; rfl
theorem dget_rng {key : Nat → Str} (hk : ∀ i j, key i = key j → i = j) {f : Nat → AV} {n i : Nat} (hi : i < n) : dget ((List.range n).map fun j => (key j, f j)) (key i) = some (f i) := by
  induction n with
  | zero => (first | lia | omega)
  | succ n ih =>
    unfold dget at ih ⊢
    rw [List.range_succ, List.map_append, List.find?_append]
    by_cases e : i < n
    · have := ih e
      rw [Option.map_eq_some_iff] at this
      obtain ⟨x, hx, hx2⟩ := this
      rw [hx]; simp [hx2]
    · obtain rfl : i = n := by (first | lia | omega)
      have : ((List.range i).map fun j => (key j, f j)).find? (fun e => decide (e.1 = key i)) = none := by
        rw [List.find?_eq_none]
        intro p hp
        obtain ⟨j, hj, rfl⟩ := List.mem_map.mp hp
        have := List.mem_range.mp hj
        simp
        intro q
        have := hk _ _ q
        (first | lia | omega)
      rw [this]; simp
theorem take_bf {j : Nat} (h : j < 5) : [1, 2, 3, 4, 5].take (j + 1) = [1, 2, 3, 4, 5].take j ++ [j + 1] := by
  have : j = 0 ∨ j = 1 ∨ j = 2 ∨ j = 3 ∨ j = 4 := by (first | lia | omega)
  rcases this with e | e | e | e | e <;> subst e <;> rfl
theorem txs_app' (l m : List Nat) : txs l ++ txs m = txs (l ++ m) := by unfold txs; rw [List.map_append]
theorem leE_len {t : Nat → Int} {dn : List Nat} (h : dn.Perm (List.range 6)) : (leE t dn).length = (leE t [5, 4, 3, 2, 1, 0]).length := by
  unfold leE
  rw [List.length_map, h.length_eq]; rfl
theorem leE_same {t : Nat → Int} {dn : List Nat} (h : dn.Perm (List.range 6)) : ∀ e ∈ leE t dn, ∃ i, e.2 = .int i ∧ dget (leE t [5, 4, 3, 2, 1, 0]) e.1 = some (.int i) := fun e he => by
  obtain ⟨j, hj, rfl⟩ := List.mem_map.mp he
  have := List.mem_range.mp (h.mem_iff.mp hj)
  exact ⟨_, rfl, leE_get (by simp; (first | lia | omega))⟩
noncomputable abbrev Iv20c5 (N : List Int) (acc4 : Addr) (i : Nat) (l6 : Ledger) : Addr → Nat → Vals → Ledger → Prop := (fun acc6 j v ld => ∃ z, v = [z, some (.ref acc4), some (.str (lt i))] ∧ ld = (acc6, .list (txs (([1, 2, 3, 4, 5].take j).filter fun c => decide (parN N c = i)))) :: l6)
noncomputable abbrev Iv20c4 (N : List Int) (acc4 : Addr) (l5 : List (Addr × AO)) : Addr → Nat → Vals → Ledger → Prop := (fun acc5 i v ld => Ex2 fun (z : Option AV) (gl : List (Nat × Addr)) => An3 (v = [z, some (.ref acc4)]) (ld = WL (parN N) gl ++ (acc5, .dict (dE gl) none) :: l5) (gl.map (·.1) = List.range i))
noncomputable abbrev Iv20c3 (N : List Int) (l4 : List (Addr × AO)) : Addr → Nat → Vals → Ledger → Prop := (fun acc4 i v ld => ∃ (z1 z2 : Option AV), v = [z1, z2] ∧ ld = (acc4, .dict ((List.range i).map fun j => (lt (j + 1), .str (lt (parN N (j + 1))))) none) :: l4)
noncomputable abbrev Iv20c2 (N : List Int) (l2 : List (Addr × AO)) : Addr → Nat → Vals → Ledger → Prop := (fun acc3 i v ld => ∃ (z1 z2 : Option AV), v = [z1, z2] ∧ ld = (acc3, .dict ((List.range i).map fun j => (lt j, .int (hrN N j))) none) :: l2)
noncomputable abbrev Iv20c1 (acc : Addr) (l1 : List (Addr × AO)) : Addr → Nat → Vals → Ledger → Prop := (fun acc2 i v ld => Ex3 fun (z1 z2 : Option AV) (N : List Int) => An3 (v = [z1, z2, some (.ref acc)]) (ld = (acc2, .list (N.map AV.int)) :: l1) (N.length = i))
noncomputable abbrev Iv20c0 (l0 : List (Addr × AO)) : Addr → Nat → Vals → Ledger → Prop := (fun acc i v ld => Ex2 fun (z : Option AV) (M : List Int) => An3 (v = [z]) (ld = (acc, .list (M.map AV.int)) :: l0) (M.length = i))
set_option maxHeartbeats 8000000 in
theorem law_body {C : Cx} {B0 : Addr → Option Obj} {outs : List (Addr × Data)} {L : Addr} {k : Nat} (ok' : COk (CG 266 nmLw wrLw C B0 outs L) (k + 12)) (aw : (CG 266 nmLw wrLw C B0 outs L).AllWr) {sc : Addr} {o : Obj} {vs : List Value} {n : Nat} {ns : List Int} (hB : B0 sc = some o) (ho1 : o.cls = .type "list") (ho2 : o.data = .seq vs.toArray n) (hv : VRs (ns.map AV.int) vs) (hn : ns.length ≤ 63) :
    ExsW (CG 266 nmLw wrLw C B0 outs L) (bodyOf (fdAt C.w 266).body) [some (.ref sc), none, none, none, none, none, none, none, none, none] [] fun fl v l => retOf fl = .bool true := by
  conv in bodyOf _ => whnf
  repeat k_ownIn
  with_reducible refine EvListComp ["cell"] [] [] ok' (compOk_of (by kernel_rfl) (by kernel_rfl) (by kernel_rfl)) (fun _ => by with_unfolding_all rfl) ?_
  repeat k_ownIn
  refine ⟨_, rfl, ?_⟩
  repeat k_ownIn
  intro sl
  with_reducible refine SubW_rawSlice hB ho1 ho2 hv m0 (by simp) (by rw [List.length_map]; (first | lia | omega)) (fun _ _ => by with_unfolding_all rfl) ?_
  intro s12
  refine hide fun PG kG => ?_
  obtain ⟨ms, hms, hml⟩ := lslice_ints ns none (some 12) none
  refine kG ?_
  clear kG PG
  rw [hms]
  with_reducible refine It_list Plain.name ok' m0 ?_
  generalize hl0 : (s12, AO.list (ms.map AV.int)) :: (sl, .pred (SliceO none (some 12) none)) :: [] = l0
  revert l0
  refine keepAll ?_
  intro l0
  set_option tactic.hygienic false in intros
  have q0 : (s12, AO.list (ms.map AV.int)) ∈ l0 := by rw [← hl0]; exact m0
  refine CompT_vals ["cell"] rfl [] .nil (Iv20c0 l0) (fun acc => ⟨none, [], rfl, rfl, rfl⟩) (fun acc i v ld ⟨z, M, _, e, _⟩ => e ▸ m1 q0) ?_ ?_
  · intro acc B3 outs3 L3 i a v ld okC hx3 hG10 B4 okB4
    refine hide fun PG kG => ?_
    obtain ⟨z, M, rfl, rfl, hM⟩ := hG10
    refine kG ?_
    clear kG PG
    rw [List.getElem?_map, Option.map_eq_some_iff] at hx3
    refine hide fun PG kG => ?_
    obtain ⟨c, hc, rfl⟩ := hx3
    refine kG ?_
    clear kG PG
    have hi : i < ms.length := (List.getElem?_eq_some_iff.mp hc).1
    refine CompTurn_name okB4 (.inl (by kernel_rfl)) SetIs.here ?_
    repeat k_ownIn
    refine CompYes ?_
    with_reducible refine InnerW_list ?_
    repeat k_ownIn
    with_reducible refine CallW_intInt ?_
    repeat k_ownIn
    with_reducible refine BinW_pow (by decide) (by decide +kernel) ?_
    with_reducible refine BinW_mod (by decide) ?_
    with_reducible refine CallW_append m0 (by rw [List.length_map]; (first | lia | omega)) .here ?_
    refine ⟨_, M ++ [c.fmod (10 ^ Int.toNat 6)], rfl, ?_, by simp [hM]⟩
    rw [List.map_append]; rfl
  · intro acc v' l' hG3
    refine hide fun PG kG => ?_
    obtain ⟨z, M, rfl, rfl, hM⟩ := hG3
    refine kG ?_
    clear kG PG
    rw [List.length_map] at hM
    have hMl : M.length ≤ 63 := by (first | lia | omega)
    iterate 2 k_ownIn
    rw [← hl0]
    refine TW.sub (led' := [(acc, .list (M.map AV.int))]) ((((List.Sublist.refl _).cons _).cons _).cons_cons _) ?_
    repeat k_ownIn
    with_reducible refine EvW_List (by simp) ?_
    repeat k_ownIn
    refine ⟨by simp, fun fi => ?_⟩
    iterate 3 k_ownIn
    with_reducible refine ExListComp ["k", "first"] ["cells"] [] ok' aw (by with_unfolding_all rfl) (compOk_of (by kernel_rfl) (by kernel_rfl) (by kernel_rfl)) (fun _ => by with_unfolding_all rfl) ?_
    repeat k_ownIn
    with_reducible refine CallW_enumerate m0 ?_
    intro en it
    with_reducible refine It_enum ok' m0 ?_
    generalize hl1 : (fi, AO.list [AV.int 2, AV.int 1, AV.int 10, AV.int 17, AV.int 8, AV.int 14]) :: (acc, .list (M.map AV.int)) :: [] = l1
    revert l1
    refine keepAll ?_
    intro l1
    set_option tactic.hygienic false in intros
    have q1 : (fi, AO.list [AV.int 2, AV.int 1, AV.int 10, AV.int 17, AV.int 8, AV.int 14]) ∈ l1 := by rw [← hl1]; exact m0
    have q2 : (acc, AO.list (M.map AV.int)) ∈ l1 := by rw [← hl1]; exact m1 m0
    refine CompT_mk ["k", "first", "cells"] rfl [some (.ref acc)] (FVals.mk (by k_allIn) .nil) (Iv20c1 acc l1) (fun acc2 => ⟨none, none, [], rfl, rfl, rfl⟩) (fun acc2 i v ld ⟨_, _, N, _, e, _⟩ => e ▸ m1 q1) ?_ ?_
    · intro acc2 B3 outs3 L3 i x v ld okC hx3 hG10 a l' B4 hIT okB4
      refine hide fun PG kG => ?_
      obtain ⟨z1, z2, N, rfl, rfl, hN⟩ := hG10
      refine kG ?_
      clear kG PG
      refine hide fun PG kG => ?_
      obtain ⟨f, hf, rfl⟩ := zip_get hx3
      refine kG ?_
      clear kG PG
      refine hide fun PG kG => ?_
      obtain ⟨fi', rfl⟩ : ∃ j : Int, f = .int j := by
        have := List.mem_of_getElem? hf
        simp only [List.mem_cons, List.not_mem_nil, or_false] at this
        rcases this with e | e | e | e | e | e <;> exact ⟨_, e⟩
      refine kG ?_
      clear kG PG
      have hi6 : i < 6 := (List.getElem?_eq_some_iff.mp hf).1
      cases hIT
      with_reducible refine CompTurn_tuple okB4 m0 (by with_unfolding_all rfl) (by with_unfolding_all rfl) ?_
      show AsgsW _ [assign _ _, assign _ _] _ _ _ _
      with_reducible refine AsgsW_cons ?_
      with_reducible refine AsgW_Name ?_
      refine StNw okB4 (Or.inl (by kernel_rfl)) SetIs.here ?_
      with_reducible refine AsgsW_cons ?_
      with_reducible refine AsgW_Name ?_
      refine StNw okB4 (Or.inl (by kernel_rfl)) (SetIs.there SetIs.here) ?_
      with_reducible refine AsgsW_nil ?_
      refine TW.sub (List.sublist_cons_self _ _) ?_
      repeat k_ownIn
      refine CompYes ?_
      refine TW.drop ?_
      with_reducible refine InnerW_list ?_
      repeat k_ownIn
      refine ⟨_, rfl, ?_⟩
      repeat k_ownIn
      refine ⟨_, rfl, ?_⟩
      intro sl2
      with_reducible refine SubW_listSlice2 (m1 (m1 q2)) m0 (by simp) (by rw [List.length_map]; (first | lia | omega)) (fun _ _ => by with_unfolding_all rfl) ?_
      intro sk
      refine hide fun PG kG => ?_
      obtain ⟨ms2, hms2, hml2⟩ := lslice_ints M (some (i : Int)) none (some 6)
      refine kG ?_
      clear kG PG
      rw [hms2]
      repeat k_ownIn
      with_reducible refine CallW_sum okB4 m0 ?_
      repeat k_ownIn
      with_reducible refine CallW_sum okB4 (m1 (m1 (m1 q2))) ?_
      with_reducible refine BinW_mul (by (first | lia | omega)) (by (first | lia | omega)) ?_
      repeat k_ownIn
      with_reducible refine CallW_append (m1 (m1 m0)) (by rw [List.length_map]; (first | lia | omega)) (.there (.there .here)) ?_
      refine ⟨(acc2, .list (N.map AV.int ++ [.int (fi' + ms2.sum + (i : Int) * M.sum)])) :: l1, (List.sublist_cons_self _ _).trans (List.sublist_cons_self _ _), _, _, N ++ [fi' + ms2.sum + (i : Int) * M.sum], rfl, ?_, by simp [hN]⟩
      rw [List.map_append]; rfl
    · intro acc2 v' l' hG3
      refine hide fun PG kG => ?_
      obtain ⟨z1, z2, N, rfl, rfl, hN⟩ := hG3
      refine kG ?_
      clear kG PG
      rw [zip_len] at hN
      have hN6 : N.length = 6 := hN
      refine ⟨_, by k_memK, ?_⟩
      rw [← hl1]
      k_ownIn
      refine TW.sub (led' := [(acc2, .list (N.map AV.int))]) ((((List.Sublist.refl _).cons _).cons _).cons_cons _) ?_
      k_ownIn
      generalize hl2 : [(acc2, AO.list (N.map AV.int))] = l2
      revert l2
      refine keepAll ?_
      intro l2
      set_option tactic.hygienic false in intros
      have q3 : (acc2, AO.list (N.map AV.int)) ∈ l2 := by rw [← hl2]; exact m0
      with_reducible refine ExDictComp ["k", "number"] [] [] ok' aw (by with_unfolding_all rfl) (compOk_of (by kernel_rfl) (by kernel_rfl) (by kernel_rfl)) (fun _ => by with_unfolding_all rfl) (fun acc env => shape_dict _ _ _ _ _ _ _ acc env) ?_
      repeat k_ownIn
      with_reducible refine CallW_enumerate q3 ?_
      intro en2 it2
      with_reducible refine It_enum ok' q3 ?_
      refine CompT_mk ["k", "number"] rfl [] .nil (Iv20c2 N l2) (fun acc3 => ⟨none, none, rfl, rfl⟩) (fun acc3 i v ld ⟨_, _, _, e⟩ => e ▸ m1 q3) ?_ ?_
      · intro acc3 B3 outs3 L3 i x v ld okC hx3 hG10 a l' B4 hIT okB4
        refine hide fun PG kG => ?_
        obtain ⟨z1, z2, rfl, rfl⟩ := hG10
        refine kG ?_
        clear kG PG
        refine hide fun PG kG => ?_
        obtain ⟨f, hf, rfl⟩ := zip_get hx3
        refine kG ?_
        clear kG PG
        rw [List.getElem?_map, Option.map_eq_some_iff] at hf
        refine hide fun PG kG => ?_
        obtain ⟨c, hc, rfl⟩ := hf
        refine kG ?_
        clear kG PG
        have hi6 : i < 6 := hN6 ▸ (List.getElem?_eq_some_iff.mp hc).1
        cases hIT
        with_reducible refine CompTurn_tuple okB4 m0 (by with_unfolding_all rfl) (by with_unfolding_all rfl) ?_
        show AsgsW _ [assign _ _, assign _ _] _ _ _ _
        with_reducible refine AsgsW_cons ?_
        with_reducible refine AsgW_Name ?_
        refine StNw okB4 (Or.inl (by kernel_rfl)) SetIs.here ?_
        with_reducible refine AsgsW_cons ?_
        with_reducible refine AsgW_Name ?_
        refine StNw okB4 (Or.inl (by kernel_rfl)) (SetIs.there SetIs.here) ?_
        with_reducible refine AsgsW_nil ?_
        refine TW.sub (List.sublist_cons_self _ _) ?_
        repeat k_ownIn
        refine CompYes ?_
        with_reducible refine InnerW_dict ?_
        repeat k_ownIn
        rw [litAf]
        with_reducible refine SubW_str (by (first | lia | omega)) (af_at hi6) (by rw [S_len]; simp) (fun _ _ => by with_unfolding_all rfl) ?_
        repeat k_ownIn
        with_reducible refine BinW_mod (by decide) ?_
        repeat k_ownIn
        refine ⟨lt i, _, _, _, rfl, m0, by simp; (first | lia | omega), .here, _, _, rfl, ?_⟩
        rw [← dput_rng (fun _ _ e => lt_inj e) (fun j => AV.int (hrN N j)) i, hrN_at hc]
      · intro acc3 v' l' hG3
        refine hide fun PG kG => ?_
        obtain ⟨z1, z2, rfl, rfl⟩ := hG3
        refine kG ?_
        clear kG PG
        rw [zip_len, List.length_map, hN6]
        refine ⟨_, by k_memK, ?_⟩
        rw [← hl2]
        repeat k_ownIn
        generalize hl3 : (acc3, AO.dict ((List.range 6).map fun j => (lt j, .int (hrN N j))) none) :: [(acc2, AO.list (N.map AV.int))] = l3
        revert l3
        refine keepAll ?_
        intro l3
        set_option tactic.hygienic false in intros
        have q4 : (acc3, AO.dict ((List.range 6).map fun j => (lt j, .int (hrN N j))) none) ∈ l3 := by rw [← hl3]; exact m0
        have q5 : (acc2, AO.list (N.map AV.int)) ∈ l3 := by rw [← hl3]; exact m1 m0
        clear hl3 hl2 hl1 hl0
        with_reducible refine EvDictComp ["k", "number"] [] [] ok' (compOk_of (by kernel_rfl) (by kernel_rfl) (by kernel_rfl)) (fun _ => by with_unfolding_all rfl) (fun acc env => shape_dict _ _ _ _ _ _ _ acc env) ?_
        repeat k_ownIn
        refine ⟨_, rfl, ?_⟩
        repeat k_ownIn
        intro sl4
        with_reducible refine SubW_listSlice (m1 q5) m0 (by simp) (by rw [List.length_map]; (first | lia | omega)) (fun _ _ => by with_unfolding_all rfl) ?_
        intro nt
        rw [ltail hN6]
        repeat k_ownIn
        with_reducible refine CallW_enumerate m0 ?_
        intro en3 it3
        with_reducible refine It_enum ok' m0 ?_
        generalize hl4 : (nt, AO.list (N.tail.map AV.int)) :: (sl4, .pred (SliceO (some 1) none none)) :: l3 = l4
        revert l4
        refine keepAll ?_
        intro l4
        set_option tactic.hygienic false in intros
        have q7 : (nt, AO.list (N.tail.map AV.int)) ∈ l4 := by rw [← hl4]; exact m0
        have up4 : ∀ p ∈ l3, p ∈ l4 := fun p hp => by rw [← hl4]; exact m1 (m1 hp)
        refine CompT_mk ["k", "number"] rfl [] .nil (Iv20c3 N l4) (fun acc4 => ⟨none, none, rfl, rfl⟩) (fun acc4 i v ld ⟨_, _, _, e⟩ => e ▸ m1 q7) ?_ ?_
        · intro acc4 B3 outs3 L3 i x v ld okC hx3 hG10 a l' B4 hIT okB4
          refine hide fun PG kG => ?_
          obtain ⟨z1, z2, rfl, rfl⟩ := hG10
          refine kG ?_
          clear kG PG
          refine hide fun PG kG => ?_
          obtain ⟨f, hf, rfl⟩ := zip_get hx3
          refine kG ?_
          clear kG PG
          rw [List.getElem?_map, Option.map_eq_some_iff] at hf
          refine hide fun PG kG => ?_
          obtain ⟨c, hc, rfl⟩ := hf
          refine kG ?_
          clear kG PG
          have hi5 : i < 5 := by
            have := (List.getElem?_eq_some_iff.mp hc).1
            rw [List.length_tail, hN6] at this
            exact this
          rw [List.getElem?_tail] at hc
          have hpar := parN_ok N (i + 1) (by (first | lia | omega)) (by (first | lia | omega))
          cases hIT
          with_reducible refine CompTurn_tuple okB4 m0 (by with_unfolding_all rfl) (by with_unfolding_all rfl) ?_
          show AsgsW _ [assign _ _, assign _ _] _ _ _ _
          with_reducible refine AsgsW_cons ?_
          with_reducible refine AsgW_Name ?_
          refine StNw okB4 (Or.inl (by kernel_rfl)) SetIs.here ?_
          with_reducible refine AsgsW_cons ?_
          with_reducible refine AsgW_Name ?_
          refine StNw okB4 (Or.inl (by kernel_rfl)) (SetIs.there SetIs.here) ?_
          with_reducible refine AsgsW_nil ?_
          refine TW.sub (List.sublist_cons_self _ _) ?_
          repeat k_ownIn
          refine CompYes ?_
          with_reducible refine InnerW_dict ?_
          repeat k_ownIn
          rw [litBf]
          with_reducible refine SubW_str (by (first | lia | omega)) (bf_at hi5) (by rw [S_len]; simp) (fun _ _ => by with_unfolding_all rfl) ?_
          repeat k_ownIn
          with_reducible refine BinW_floordiv (by decide) (PyProof.noPylong_small (by decide)) ?_
          repeat k_ownIn
          with_reducible refine BinW_mod (by (first | lia | omega)) ?_
          rw [parN_at hc, litAf]
          with_reducible refine SubW_str (by (first | lia | omega)) (af_at (by (first | lia | omega))) (by rw [S_len]; simp) (fun _ _ => by with_unfolding_all rfl) ?_
          refine ⟨lt (i + 1), _, _, _, rfl, m0, by simp; (first | lia | omega), .here, _, _, rfl, ?_⟩
          rw [← dput_rng (key := fun j => lt (j + 1)) (fun _ _ e => by have := lt_inj e; (first | lia | omega)) (fun j => AV.str (lt (parN N (j + 1)))) i]
          rfl
        · intro acc4 v' l' hG3
          refine hide fun PG kG => ?_
          obtain ⟨z1, z2, rfl, rfl⟩ := hG3
          refine kG ?_
          clear kG PG
          rw [zip_len, List.length_map, List.length_tail, hN6]
          repeat k_ownIn
          generalize hl5 : (acc4, AO.dict ((List.range 5).map fun j => (lt (j + 1), .str (lt (parN N (j + 1))))) none) :: l4 = l5
          revert l5
          refine keepAll ?_
          intro l5
          set_option tactic.hygienic false in intros
          have r1 : (acc4, AO.dict ((List.range 5).map fun j => (lt (j + 1), .str (lt (parN N (j + 1))))) none) ∈ l5 := by rw [← hl5]; exact m0
          have up5 : ∀ p ∈ l3, p ∈ l5 := fun p hp => by rw [← hl5]; exact m1 (up4 p hp)
          clear hl5 hl4
          with_reducible refine ExDictComp ["place"] ["over"] ["place"] ok' aw (by with_unfolding_all rfl) (compOk_of (by kernel_rfl) (by kernel_rfl) (by kernel_rfl)) (fun _ => by with_unfolding_all rfl) (fun acc env => shape_dict _ _ _ _ _ _ _ acc env) ?_
          repeat k_ownIn
          with_reducible refine It_str Plain.name ok' asc_af ?_
          rw [signs_af]
          refine CompT_vals ["place", "over"] rfl [some (.ref acc4)] (FVals.mk (by k_allIn) .nil) (Iv20c4 N acc4 l5) (fun acc5 => ⟨none, [], rfl, rfl, rfl⟩) (fun _ _ _ _ _ => trivial) ?_ ?_
          · intro acc5 B3 outs3 L3 i a v ld okC hx3 hG10 B4 okB4
            refine hide fun PG kG => ?_
            obtain ⟨z, gl, rfl, rfl, hgl⟩ := hG10
            refine kG ?_
            clear kG PG
            refine hide fun PG kG => ?_
            obtain ⟨p, hp, rfl⟩ := txs_get hx3
            refine kG ?_
            clear kG PG
            refine hide fun PG kG => ?_
            obtain ⟨hi6, rfl⟩ := af_idx hp
            refine kG ?_
            clear kG PG
            have hgll : gl.length = i := by have := congrArg List.length hgl; simpa using this
            refine CompTurn_name okB4 (.inr ⟨by kernel_rfl, .head _⟩) SetIs.here ?_
            repeat k_ownIn
            refine CompYes ?_
            with_reducible refine InnerW_dict ?_
            repeat k_ownIn
            with_reducible refine EvListComp ["child"] ["over", "place"] [] okB4 (compOk_of (by kernel_rfl) (by kernel_rfl) (by kernel_rfl)) (fun _ => by with_unfolding_all rfl) ?_
            repeat k_ownIn
            with_reducible refine It_str Plain.name okB4 asc_bf ?_
            rw [signs_bf]
            generalize hl6 : WL (parN N) gl ++ (acc5, AO.dict (dE gl) none) :: l5 = l6
            revert l6
            refine keepAll ?_
            intro l6
            set_option tactic.hygienic false in intros
            have r2 : (acc4, AO.dict ((List.range 5).map fun j => (lt (j + 1), .str (lt (parN N (j + 1))))) none) ∈ l6 := by rw [← hl6]; exact List.mem_append_right _ (m1 r1)
            refine CompT_vals ["child", "over", "place"] rfl [some (.ref acc4), some (.str (lt i))] (FVals.mk (by k_allIn) (FVals.mk (by k_allIn) .nil)) (Iv20c5 N acc4 i l6) (fun acc6 => ⟨none, rfl, rfl⟩) (fun _ _ _ _ _ => trivial) ?_ ?_
            · intro acc6 B5 outs5 L5 j a v ld okC5 hx5 hG10 B6 okB6
              refine hide fun PG kG => ?_
              obtain ⟨z, rfl, rfl⟩ := hG10
              refine kG ?_
              clear kG PG
              refine hide fun PG kG => ?_
              obtain ⟨c, hc, rfl⟩ := txs_get hx5
              refine kG ?_
              clear kG PG
              refine hide fun PG kG => ?_
              obtain ⟨hj5, rfl⟩ := bf_idx hc
              refine kG ?_
              clear kG PG
              refine CompTurn_name okB6 (.inl (by kernel_rfl)) SetIs.here ?_
              repeat k_ownIn
              with_reducible refine SubW_dict (m1 r2) (dget_rng (key := fun j => lt (j + 1)) (fun _ _ e => by have := lt_inj e; (first | lia | omega)) hj5) (fun _ _ => by with_unfolding_all rfl) ?_
              repeat k_ownIn
              refine IteP (fun hb => ?_) fun hb => ?_
              · have hb' : parN N (j + 1) = i := lt_inj (of_decide_eq_true hb)
                with_reducible refine InnerW_list ?_
                repeat k_ownIn
                with_reducible refine CallW_append m0 (by rw [txs_len]; refine Nat.le_trans (List.length_filter_le _ _) (Nat.le_trans (List.length_take_le _ _) (by (first | lia | omega)))) .here ?_
                refine ⟨_, rfl, ?_⟩
                rw [take_bf hj5, List.filter_append, ← txs_app']
                have : [j + 1].filter (fun c => decide (parN N c = i)) = [j + 1] := by simp [hb']
                rw [this]; rfl
              · have hb' : parN N (j + 1) ≠ i := fun e => by rw [e] at hb; simp at hb
                refine ⟨_, rfl, ?_⟩
                rw [take_bf hj5, List.filter_append, ← txs_app']
                have : [j + 1].filter (fun c => decide (parN N c = i)) = [] := by simp [hb']
                rw [this]
                have e2 : ∀ l : List AV, l ++ txs [] = l := fun l => List.append_nil l
                rw [e2]
            · intro acc6 v' l' hG3
              refine hide fun PG kG => ?_
              obtain ⟨z, rfl, rfl⟩ := hG3
              refine kG ?_
              clear kG PG
              rw [txs_len]
              show Ex4 _
              refine ⟨lt i, dE gl, none, _, rfl, m1 (by rw [← hl6]; exact List.mem_append_right _ m0), by unfold dE; rw [List.length_map]; (first | lia | omega), .there (by rw [← hl6]; exact Upd.appL .here _), ?_⟩
              rw [dE_put (by rw [hgl]; simp)]
              refine ⟨_, gl ++ [(i, acc6)], rfl, ?_, ?_⟩
              · rw [WL_snoc]; rfl
              · rw [List.map_append, hgl, List.range_succ]; rfl
          · intro acc5 v' l' hG3
            refine hide fun PG kG => ?_
            obtain ⟨z, gl, rfl, rfl, hgl⟩ := hG3
            refine kG ?_
            clear kG PG
            rw [txs_len] at hgl
            refine ⟨_, by k_memK, ?_⟩
            repeat k_ownIn
            have hgnd : (gl.map (·.1)).Nodup := by rw [hgl]; exact List.nodup_range
            have hdE := dE_rng hgl
            refine CallW.epoch (List.mem_append_right _ m0) fun ep => ⟨_, Upd.appL .here _, ?_⟩
            generalize hl7 : WL (parN N) gl ++ (acc5, AO.dict (dE gl) (some ep)) :: l5 = l7
            revert l7
            refine keepAll ?_
            intro l7
            set_option tactic.hygienic false in intros
            have hW : WaitsAt l7 acc5 (taOf gl) (chOf (parN N)) (some ep) := by
              rw [← hl7]
              exact ⟨List.mem_append_right _ (hdE ▸ m0), fun i hi => List.mem_append_left _ (WL_mem (taOf_mem (by rw [hgl]; exact List.mem_range.mpr hi)))⟩
            have up7 : ∀ p ∈ l3, p ∈ l7 := fun p hp => by rw [← hl7]; exact List.mem_append_right _ (m1 (up5 p hp))
            have hH : HoursAt l7 acc3 (hrN N) := ⟨up7 _ q4⟩
            have hp := parN_ok N
            have hh5 := hrN_ok N
            clear hl7 up7 up5 up4
            clear q0 q1 q2 q3 q4 q5 q7 r1
            generalize parN N = par at *
            revert par
            refine keepAll ?_
            intro par
            set_option tactic.hygienic false in intros
            generalize hrN N = hr at *
            revert hr
            refine keepAll ?_
            intro hr
            set_option tactic.hygienic false in intros
            have T := tree_of hp hh5
            with_reducible refine CallW_least ok' T hW hH ?_
            intro ls
            repeat k_ownIn
            with_reducible refine CallW_tails ok' hp hh5 (hW.ups fun _ => m1) (hH.ups fun _ => m1) ?_
            intro td dn hdn
            repeat k_ownIn
            with_reducible refine CmpW_neDict ok' m0 (m1 m0) (leE_len hdn) (leE_same hdn) ?_
            repeat k_ownIn
            refine IteP (fun hb => by cases hb) fun hb => ?_
            repeat k_ownIn
            rw [litA]
            with_reducible refine CallW_content T.toTree 6 0 (by decide) (by decide) (by decide) ok' (hW.ups fun _ h => m1 (m1 h)) (hH.ups fun _ h => m1 (m1 h)) ?_
            repeat k_ownIn
            have hdm : ∀ c, c < 6 → c ∈ dn := fun c hc => hdn.mem_iff.mpr (List.mem_range.mpr hc)
            with_reducible refine CallW_run ok' hp hh5 (hW.ups fun _ h => m1 (m1 h)) m0 hdm ?_
            intro r1 l8 hR1 up8
            repeat k_ownIn
            with_reducible refine CallW_arrivals ok' hp hh5 (hW.ups fun _ h => up8 _ (m1 (m1 h))) (hH.ups fun _ h => up8 _ (m1 (m1 h))) (up8 _ (m1 m0)) (fun c hc => by simp; (first | lia | omega)) ?_
            intro r2 l9 hR2 up9
            with_reducible refine CmpW_eqData ok' (hR1.up up9) hR2 (rowA_ok _ _ hp).1 (rowA_ok _ _ hp).2 ?_
            exact rfl

-- part J1
/-- the first call: the whole heap is kept -/
theorem topFn {w : World} {s : Shared} {A : Around} {k : Nat} {f : Addr} {as : List AV} {fd : FuncData} {pn ls wr : List Str} {body : List Stmt} {oc : Value} {od : Option Addr} {osl : Array (Option Value)} {R : Result → Shared → Prop}
    (hb : Bs w s.heap.get?) (hh : A.handled = none) (hd : A.depth + (k + 1) ≤ 900) (hu : A.units + 10 * (k + 1) ≤ 9000) (hf : A.frames = some [])
    (FO : FnOk fd pn ls wr) (ho : (KH w).lookup f = some ⟨oc, od, .func fd, osl⟩) (hcd : codeIn (KH w) fd.code fd.qualname = true) (hbody : fd.body = .stmts body) (hlen : as.length = pn.length)
    {vs : List Value} (hvs : VRs as vs) (hbind : bindArgs fd ⟨vs, []⟩ = pure (pn.zip vs))
    (h : ∀ L, COk (CF w s.heap.get? [] s A fd f L (pn ++ ls) wr) k → ExsW (CF w s.heap.get? [] s A fd f L (pn ++ ls) wr) body (as.map some ++ ls.map fun _ => none) [] fun fl v l => ∀ s' v', VR (retOf fl) v' → (∃ h tk, s' = { s with heap := h, toks := tk }) → (∀ b o, s.heap.get? b = some o → s'.heap.get? b = some o) → R (.ok (.ret v')) s') :
    codeAny (Md w) A (.call (.ref f) ⟨vs, []⟩) R s := by
  obtain ⟨X, _, p, loose, mean, mg, mb, T⟩ := hb s.heap fun _ _ e => e
  have hroom : A.depth < recursionLimit := by show _ < 1000; (first | lia | omega)
  refine codeAny_call_cells hroom (X _ _ ho) rfl T.nolimit (codeRec_of X hcd) hbody hbind FO.clo (fun x hx => ?_) (fun s₁ I => ?_) FO.co FO.gen FO.kind
  · have hx1 : x.1 ∈ pn := (List.of_mem_zip hx).1
    rcases FO.kinds x.1 (List.mem_append_left _ hx1) with q | ⟨q, qw⟩
    · exact .inl q
    · exact .inr ⟨q, FO.cells _ _ qw⟩
  let L := s.heap.objs.size
  have newL : s.heap.get? L = none := Heap.get?_none_of_le (Nat.le_refl _)
  have cellAbove : ∀ x c, (callEnvC fd L f).cells.lookup x = some c → L < c := fun x c hc => I.above x c (mem_of_lookup hc)
  have newAt : ∀ c, L ≤ c → s.heap.get? c = none := fun c hc => Heap.get?_none_of_le hc
  have ok' : COk (CF w s.heap.get? [] s A fd f L (pn ++ ls) wr) k := by
    refine ⟨hb, hh, ?_, ?_, FO.kind, FO.glob, FO.bu, FO.nodup, FO.wnodup, FO.ndbg, ?_⟩
    · show A.depth + 1 + k ≤ 900; (first | lia | omega)
    · show A.units + 3 + 10 * k ≤ 9000; (first | lia | omega)
    · refine ⟨[callEnvC fd L f], by show A.frames.map _ = _; rw [hf]; rfl, fun e he => ?_⟩
      rcases List.mem_cons.mp he with rfl | he
      · exact ⟨by show fd.scope.kind ≠ _; rw [FO.kind]; decide, .inl rfl⟩
      · cases he
  have Hs₁ : St (CF w s.heap.get? [] s A fd f L (pn ++ ls) wr) (as.map some ++ ls.map fun _ => none) [] s₁ := by
    obtain ⟨h₁, tk, rfl, hk₁⟩ := I.done
    have fA : ∀ a ∈ (CF w s.heap.get? [] s A fd f L (pn ++ ls) wr).frameAddrs, L ≤ a := fun a ha => by
      rcases List.mem_cons.mp ha with rfl | ha
      · exact Nat.le_refl _
      · obtain ⟨y, _, hc⟩ := List.mem_filterMap.mp ha
        exact Nat.le_of_lt (cellAbove y a hc)
    refine ⟨⟨h₁, tk, rfl⟩, fun b o e => hk₁ b o e, fun p hp => (nomatch hp), fun p hp => (nomatch hp), fun a ha => ⟨newAt a (fA a ha), fun p hp => (nomatch hp), fun p hp => (nomatch hp)⟩, ?_, ⟨_, I.toInCall.ns⟩, fun x c hc => ?_, ?_, fun i x v h1 h2 => ?_, fun p hp => (nomatch hp), .nil⟩
    · unfold Cx.frameAddrs
      rw [List.nodup_cons]
      refine ⟨fun hm => ?_, ?_⟩
      · obtain ⟨y, _, hc⟩ := List.mem_filterMap.mp hm
        exact absurd (cellAbove y _ hc) (Nat.lt_irrefl _)
      · have wn := FO.wnodup
        generalize wr = wl at wn
        induction wl with
        | nil => exact List.nodup_nil
        | cons z r ih =>
          rw [List.nodup_cons] at wn
          rw [List.filterMap_cons]
          split
          · exact ih wn.2
          · rename_i c hc
            rw [List.nodup_cons]
            refine ⟨fun hm => ?_, ih wn.2⟩
            obtain ⟨y, hy, hyc⟩ := List.mem_filterMap.mp hm
            exact wn.1 (name_of_addr I.apart (mem_of_lookup hc) (mem_of_lookup hyc) ▸ hy)
    · exact .inl ⟨FO.cells' _ x c hc, _, I.cell x c hc⟩
    · simp [hlen]
    · have hx : x ∈ pn ++ ls := List.mem_of_getElem? h1
      by_cases hi : i < pn.length
      · have h1' : pn[i]? = some x := by rwa [List.getElem?_append_left hi] at h1
        have h2' : (as.map some)[i]? = some v := by rwa [List.getElem?_append_left (by simpa [hlen] using hi)] at h2
        rw [List.getElem?_map] at h2'
        cases ha : as[i]? with
        | none => rw [ha] at h2'; cases h2'
        | some a =>
          rw [ha] at h2'; cases h2'
          obtain ⟨u, hu, hur⟩ := hvs.get' ha
          have nd := (List.nodup_append.mp FO.nodup).1
          rcases FO.kinds x hx with q | ⟨q, qw⟩
          · exact .inl ⟨q, _, I.toInCall.ns, by rw [bindL_at (kindOf := (callEnvC fd L f).kindOf) q pn vs _ i nd h1' hu]; exact .some hur⟩
          · obtain ⟨c, hc⟩ := Option.isSome_iff_exists.mp (FO.cells (L + 1) x qw)
            refine .inr ⟨.inl q, c, _, hc, I.cell x c hc, ?_⟩
            rw [bindC_at (kindOf := (callEnvC fd L f).kindOf) (by show fd.scope.names.lookup x ≠ _; rw [q]; decide) pn vs _ i nd h1' hu]; exact .some hur
      · have hi' : pn.length ≤ i := Nat.le_of_not_lt hi
        have h1' : ls[i - pn.length]? = some x := by rwa [List.getElem?_append_right hi'] at h1
        have h2' : (ls.map fun _ => (none : Option AV))[i - (as.map some).length]? = some v := by rwa [List.getElem?_append_right (by simpa [hlen] using hi')] at h2
        have hv : v = none := by
          rw [List.getElem?_map] at h2'
          cases q : ls[i - (as.map some).length]? with
          | none => rw [q] at h2'; cases h2'
          | some _ => rw [q] at h2'; cases h2'; rfl
        subst hv
        have nin : x ∉ pn := fun q => (List.nodup_append.mp FO.nodup).2.2 x q x (List.mem_of_getElem? h1') rfl
        rcases FO.kinds x hx with q | ⟨q, qw⟩
        · exact .inl ⟨q, _, I.toInCall.ns, by rw [bindL_skip pn vs _ nin]; exact .none⟩
        · obtain ⟨c, hc⟩ := Option.isSome_iff_exists.mp (FO.cells (L + 1) x qw)
          exact .inr ⟨.inl q, c, _, hc, I.cell x c hc, by rw [bindC_skip pn vs _ nin]; exact .none⟩
  refine wpAny_mono ((h L ok').run s₁ Hs₁) (fun fl s' hx => ?_) fun _ _ x => x.elim
  obtain ⟨b, v', l', hr, hs', hk⟩ := hx
  cases b with
  | next => cases hr; exact hk s' _ rfl hs'.same hs'.keep
  | brk => cases hr; exact hk s' _ rfl hs'.same hs'.keep
  | cont => cases hr; exact hk s' _ rfl hs'.same hs'.keep
  | ret a => obtain ⟨u, rfl, hu⟩ := hr; exact hk s' _ hu hs'.same hs'.keep

noncomputable abbrev rowC : ClaimW := PySem.Challenge.rw_om0125_01.row.toRowW.claim

-- part H1
theorem leftBoot {p q : Program} {loose : List Str} {Xt : Shared → Bool} {α : Type} {Yf : Shared → α} {Ya : World → α} {N : Nat} {g0 : Bool} {m₀ : Nat} {ann : Option Value}
    (e : opening p = plainProg p.main.scope.names) (hN : Nat.ble 600 N = true) (f : ∀ s, fenceModules? p s = some s)
    (size : ∀ w : World, ((boot_heap w.params).isNs mainGlobals && (Array.mk ([] : List GenState)).size == 0, (boot_heap w.params).objs.size, (boot_heap w.params).nsMap mainGlobals "__annotations__") = (true, m₀, ann))
    (run : ∀ (w : World) (os : OsState), (topRun treeTable p w m₀ ann N ⟨boot_heap w.params, Array.mk [], boot_drawn, boot_toks, os⟩ (topStub p)).map (fun s => ((staticsOk (importedModules p.main.body) (boot_heap w.params) s.heap && namesBound p s.heap && gensDone s && laidKept (boot_heap w.params) s.heap),
        openSeen q loose (importedModules p.main.body) Xt g0 s, Yf s)) = some (true, openGood q loose, Ya w)) : LeftO p q loose Xt Yf Ya N g0 := fun w => by
  obtain ⟨⟨h, gs, d, k, os⟩, e, e'⟩ := Option.map_eq_some_iff.mp (boot_open e hN f w)
  obtain ⟨rfl, rfl, rfl, rfl⟩ : h = boot_heap w.params ∧ gs = Array.mk [] ∧ d = boot_drawn ∧ k = boot_toks := by simpa using e'
  obtain ⟨z1, z2, z3⟩ : _ ∧ _ ∧ _ := by simpa only [Prod.mk.injEq] using size w
  obtain ⟨s, r, l⟩ := Option.map_eq_some_iff.mp (run w os)
  obtain ⟨l1, l2, l3⟩ : _ ∧ _ ∧ _ := by simpa only [Prod.mk.injEq] using l
  have t : topFrom treeTable p w N ⟨boot_heap w.params, Array.mk [], boot_drawn, boot_toks, os⟩ = some s := by
    unfold topFrom
    dsimp only
    rw [z1, z2, z3, r]
    show (match staticsOk (importedModules p.main.body) (boot_heap w.params) s.heap && namesBound p s.heap && gensDone s && laidKept (boot_heap w.params) s.heap with | true => _ | false => _) = _
    rw [l1]
  unfold openEnds
  rw [e]
  show (topFrom treeTable p w N _).map _ = _
  rw [t]
  exact congrArg some (Prod.ext l2 l3)

noncomputable def qV : Program := view Pr [0, 2, 3, 4, 5, 6, 8, 9, 10, 11, 12, 14, 15, 16, 17, 18, 20, 21, 22, 23, 24, 25, 26]
noncomputable abbrev HK : Hook := kHook heapK addK fun _ => by kernel_rfl

-- part H2
theorem said : PySem.Challenge.rw_om0125_01.wellSaid = true := by
  rw [PySem.W.Fast.te9446332074065402090]
  kernel_rfl
theorem run0 (w : World) (os : OsState) : (topRun treeTable Pr w 11 (some (.ref 6)) 2200 ⟨boot_heap w.params, Array.mk [], boot_drawn, boot_toks, os⟩ (topStub Pr)).map (fun s => ((staticsOk (importedModules Pr.main.body) (boot_heap w.params) s.heap && namesBound Pr s.heap && gensDone s && laidKept (boot_heap w.params) s.heap),
        openSeen qV ["_NodeInfo"] (importedModules Pr.main.body) (fun _ => true) true s, HK.obs s)) = some (true, openGood qV ["_NodeInfo"], HK.val w) := by
  rw [PySem.W.Fast.te14082659384304107361, PySem.W.Fast.te14364793385576792824, PySem.W.Fast.te4187177175401517315, PySem.W.Fast.te5923862056798008813]
  kernel_rfl
theorem left0 : LeftO Pr qV ["_NodeInfo"] (fun _ => true) HK.obs HK.val 2200 :=
  leftBoot (by kernel_rfl) rfl (fun s => by kernel_rfl) (fun w => by kernel_rfl) run0
noncomputable def lawD : DefRec := match stn 26 with
  | .FunctionDef n a b _ _ _ sc _ _ p => ⟨n, a, b, sc, p⟩
  | _ => ⟨"", ⟨[], [], none, [], [], none, []⟩, [], ⟨.function, [], false, false, []⟩, ⟨0, 0, 0, 0⟩⟩
theorem head0 (call : WalkO qV ["_NodeInfo"] (fun _ _ => True) HK.says PySem.Challenge.rw_om0125_01.row.toRowW lawD [] fun f vs => PySem.call f vs) : PySem.Challenge.rw_om0125_01.Holds := by
  refine holds_law said fun k1 => ?_
  refine holds_open (q := qV) (loose := ["_NodeInfo"]) (Xt := fun _ => true) (XP := fun _ _ => True) (Yf := HK.obs) (Ya := HK.val) (YP := HK.says) (d := lawD) (kwd := []) (N := 2200) left0 HK.of HK.keeps (fun _ _ => trivial) (fun _ _ _ _ _ => trivial) ?_ ?_ ?_ (fun _ _ => recFacts_nil rfl) rfl k1 (by decide +kernel) ⟨rfl, rfl, rfl, rfl, rfl, by decide +kernel⟩ ⟨[.list []], by decide +kernel, by decide +kernel⟩ call
  · kernel_rfl
  · kernel_rfl
  · kernel_rfl

-- part J2
theorem ints_vrs : ∀ {vs : List Value} {ns : List Int}, IntsAre vs ns → VRs (ns.map AV.int) vs
  | _, _, .nil => .nil
  | _, _, .cons n t h => .cons VR.int (ints_vrs h)
theorem joinLaw {w : World} {s₀ s₁ : Shared} {p : Program} {loose : List Str} {mean : ExcName → Option Value} {mg mb : Str → Option Value} (T : Top p loose mean mg mb s₁.heap) (hi : importsNone p = true) (X : (KH w).In s₁.heap)
    {fa : Addr} (hmg : mg (Str.ofString "law") = some (.ref fa)) (hg : s₁.gens = #[]) {args : List WData} {vals : List Value} {as : List Addr}
    (hpre : PySem.Challenge.rw_om0125_01.row.toRowW.claim.pre args = true) (hlay : WData.layableAll args = true) (hrd : ReadsAllW PySem.Challenge.rw_om0125_01.row.toRowW.records (classAt s₀.heap) s₁.heap vals args as) (hwl : WellAll w.params s₁.heap vals args) (hlo : ∀ a ∈ as, (a == sysModules) = false) :
    wpAny (model PySem.Challenge.rw_om0125_01.row.toRowW.prog w) callerA (PySem.call (.ref fa) vals) (fun v s' => GoodWG PySem.Challenge.rw_om0125_01.row.toRowW.claim (classAt s₀.heap) (ExcName.means s₀.heap) args s₁ (.ok (.ret v)) s')
        (fun e s' => GoodWG PySem.Challenge.rw_om0125_01.row.toRowW.claim (classAt s₀.heap) (ExcName.means s₀.heap) args s₁ (.error e) s') s₁ := by
  have hmg2 := mg_of (v := .ref 266) X T.g (n := Str.ofString "law") (by kernel_rfl)
  rw [hmg] at hmg2
  cases hmg2
  have hb : Bs w s₁.heap.get? := fun h hk => by
    have T' := T.keeps hk
    refine ⟨fun a o e => hk _ _ (X a o e), ?_, _, _, _, _, _, T'⟩
    obtain ⟨mm, hm, _⟩ := (T'.seer hi).mods
    exact ⟨mm, hm⟩
  wrow_args hpre hlay hrd hwl hlo
  rename_i ns _ _ _ _ _ _ _ sc vs _ hL _ _ _ hI _ hc _
  obtain ⟨o, ho, hcl, n, hda⟩ := hL
  have hv : VRs (ns.map AV.int) vs := ints_vrs hI
  have hn : ns.length ≤ 63 := by have := hc; (first | lia | omega)
  refine enter_call ?_
  refine topFn (k := 100) (as := [.ref sc]) hb rfl (by decide) (by decide) rfl (foLw w) (loLw w) (cdLw w) (boLw w) rfl (.cons VR.ref .nil) (biLw w _ rfl) fun L ok' => ?_
  refine TW.mono (law_body (C := ⟨w, fun _ => none, [], _, _, callEnvC (fdAt w 266) L 266, [], []⟩) (k := 88) ok' (fun x hx => ?_) ho hcl hda hv hn) fun fl v l e s' v' hv' hsame hk => ?_
  · obtain ⟨i, hi⟩ := List.mem_iff_getElem?.mp hx
    exact Wr_CF (foLw w) i hi
  · rw [e] at hv'
    obtain rfl : v' = .bool true := hv'
    obtain ⟨h, tk, rfl⟩ := hsame
    refine ⟨.inl ⟨_, .bool true, [], rfl, fun cls => rfl, .bool true, ?_, fun _ => ⟨.nil, fun a ha => (nomatch ha)⟩⟩, .of_keep hk, rfl, .of_eq hg⟩
    wrow_post
end Mine


set_option maxHeartbeats 4000000 in
theorem PySem.Challenge.cw_om0125_01_holds : PySem.Challenge.rw_om0125_01.Holds := by
  refine Mine.head0 ?_
  intro w s₀ s₁ mg mb G Y fa o pm cd doc dV kV ho hd' hcd hD hmg hg args vals as hpre hlay hrd hwl hlo
  exact Mine.joinLaw G.T (by decide +kernel) (PySem.W.kIn_of Y) hmg hg hpre hlay hrd hwl hlo
