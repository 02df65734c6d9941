import PyProof.Rows.All
import Wide.All
import OpenK.AllK
import Wide.FinOn
import Open.Tops
import Lean
import PySem.Challenge.RW_tc0064_01
set_option Elab.async false
set_option maxRecDepth 100000
set_option maxHeartbeats 0
set_option linter.all false
set_option cleanup.letToHave false
section
open PySem PySem.W PySem.W.X PyProof.Rows PySem.Calls
namespace Mine
def noRow : OpenRow := { PySem.Challenge.rw_tc0064_01.row with within := [7] }
#guard_msgs (drop info, drop error, drop warning) in
open_shared hd for (by refine (fun (_ : OpenRow.Holds Mine.noRow) => Mine.noRow.prog) ?_; z_head : Program) leaving 99
noncomputable def kTop (P : Params) : KT := ktop_576 P
noncomputable def kFrag (P : Params) : Frag := heap_275 P
noncomputable abbrev vX : Program := view_577
noncomputable abbrev pX : Program := RowW.prog (OpenRow.toRowW (OpenLaw.row PySem.Challenge.rw_tc0064_01))
noncomputable def en (P : Params) (k : String) (t : Nat) (v : Value) : DictEntry := { hash := PyData.keyHash P (Str.ofString k), key := .str (Str.ofString k) t, val := v }
noncomputable def vS (x : String) (t : Nat) : Value := .str (Str.ofString x) t
noncomputable def nsO (P : Params) (m : String) (t : Nat) (l : List DictEntry) (k : Nat) : Obj := { cls := .type "dict", data := Data.dict ⟨[en P "__name__" 165 (vS m t), en P "__doc__" 166 .none, en P "__package__" 167 .none, en P "__loader__" 168 (.builtin "__main__.__loader__#opaque"), en P "__spec__" 169 .none, en P "__annotations__" 170 (.ref 6), en P "__builtins__" 171 (.ref 4), en P "__file__" 173 (vS "/claim/cut.py" 172), en P "__cached__" 174 .none, en P "_wall" 193 (.ref 21)] ++ l⟩ k }
noncomputable def ov1 (P : Params) : List (Nat × Obj) := [(22, { cls := .type "tuple", data := Data.seq #[] }),
  (23, { cls := .type "builtin_function_or_method", data := Data.fields #[.builtin "type.__prepare__", .type "type"] }),
  (24, { cls := .type "dict", data := Data.dict #[en P "__module__" 203 (vS "cpy313.tabnanny" 194), en P "__qualname__" 205 (vS "Whitespace" 204), en P "__firstlineno__" 207 (.int 5 206), en P "S" 211 (vS " " 209), en P "T" 212 (vS "\t" 210), en P "__init__" 227 (.ref 38), en P "longest_run_of_spaces" 234 (.ref 45), en P "indent_level" 242 (.ref 52), en P "equal" 250 (.ref 59), en P "not_equal_witness" 258 (.ref 66), en P "less" 266 (.ref 73), en P "not_less_witness" 274 (.ref 80), en P "__static_attributes__" 280 (.ref 81)] 13 }),
  (25, { cls := .type "tuple", data := Data.seq #[] }),
  (26, { cls := .none, data := Data.fields #[.int 8 0, .int 4 0, .ref 37, .int 31 0, .int 4 0, .ref 44, .int 34 0, .int 4 0, .ref 51, .int 37 0, .int 4 0, .ref 58, .int 40 0, .int 4 0, .ref 65, .int 43 0, .int 4 0, .ref 72, .int 46 0, .int 4 0, .ref 79] }),
  (27, { cls := .type "code", data := Data.fields #[vS "Whitespace" 198, vS "Whitespace" 199, vS "/claim/cut.py" 200, .int 5 0, .int 0 0, .int 0 0, .int 0 0, .int 0 0, .ref 25, .bool false, .int 181 0, .ref 26, .none, .none, .none, .none, .int 201 0, .int 5 0, vS "/claim/cut.py" 202] }),
  (28, { cls := .type "frame", slots := #[some (.ref 27), some (.ref 3), some (.ref 24), none, some (vS "cpy313.tabnanny" 194), none, some (.ref 0)] }),
  (29, { cls := .type "str_ascii_iterator", data := Data.fields #[.none, .int 2 0] }),
  (30, { cls := .type "tuple", data := Data.seq #[] }),
  (31, { cls := .type "StopIteration", data := Data.fields #[.ref 30, .none, .none, .none, .bool false, .none] }),
  (86, { cls := .type "super", data := Data.fields #[.ref 83, .ref 83, .ref 83] }),
  (87, { cls := .type "builtin_function_or_method", data := Data.fields #[.builtin "object.__init_subclass__", .ref 83] })]
noncomputable def ov2 (P : Params) : List (Nat × Obj) := [(88, { cls := .type "tuple", data := Data.seq #[] }),
  (89, { cls := .type "builtin_function_or_method", data := Data.fields #[.builtin "type.__prepare__", .type "type"] }),
  (90, { cls := .type "dict", data := Data.dict #[en P "__module__" 301 (vS "cpy313.email.header" 288), en P "__qualname__" 303 (vS "_ValueFormatter" 302), en P "__firstlineno__" 305 (.int 51 304), en P "__init__" 316 (.ref 101), en P "_str" 324 (.ref 108), en P "__str__" 331 (.ref 115), en P "newline" 339 (.ref 122), en P "add_transition" 346 (.ref 129), en P "feed" 356 (.ref 136), en P "_maxlengths" 363 (.ref 143), en P "_ascii_split" 373 (.ref 150), en P "_append_chunk" 387 (.ref 157), en P "__static_attributes__" 394 (.ref 158)] 13 }),
  (91, { cls := .type "tuple", data := Data.seq #[] }),
  (92, { cls := .none, data := Data.fields #[.int 53 0, .int 4 0, .ref 100, .int 61 0, .int 4 0, .ref 107, .int 65 0, .int 4 0, .ref 114, .int 68 0, .int 4 0, .ref 121, .int 79 0, .int 4 0, .ref 128, .int 82 0, .int 4 0, .ref 135, .int 85 0, .int 4 0, .ref 142, .int 88 0, .int 4 0, .ref 149, .int 91 0, .int 4 0, .ref 156] }),
  (93, { cls := .type "code", data := Data.fields #[vS "_ValueFormatter" 296, vS "_ValueFormatter" 297, vS "/claim/cut.py" 298, .int 51 0, .int 0 0, .int 0 0, .int 0 0, .int 0 0, .ref 91, .bool false, .int 181 0, .ref 92, .none, .none, .none, .none, .int 299 0, .int 51 0, vS "/claim/cut.py" 300] }),
  (94, { cls := .type "frame", slots := #[some (.ref 93), some (.ref 3), some (.ref 90), none, some (vS "cpy313.email.header" 288), none, some (.ref 0)] }),
  (163, { cls := .type "super", data := Data.fields #[.ref 160, .ref 160, .ref 160] }),
  (164, { cls := .type "builtin_function_or_method", data := Data.fields #[.builtin "object.__init_subclass__", .ref 160] })]
noncomputable def ov3 (P : Params) : List (Nat × Obj) := [(166, { cls := .type "builtin_function_or_method", data := Data.fields #[.builtin "type.__prepare__", .type "type"] }),
  (167, { cls := .type "dict", data := Data.dict #[en P "__module__" 409 (vS "cpy313.email.header" 288), en P "__qualname__" 411 (vS "_Accumulator" 410), en P "__firstlineno__" 413 (.int 117 412), en P "__init__" 423 (.ref 181), en P "push" 432 (.ref 188), en P "pop_from" 442 (.ref 196), en P "pop" 450 (.ref 204), en P "__len__" 457 (.ref 211), en P "__str__" 464 (.ref 218), en P "reset" 472 (.ref 226), en P "is_onlyws" 479 (.ref 233), en P "part_count" 487 (.ref 241), en P "__static_attributes__" 489 (.ref 242), en P "__classcell__" 490 (.ref 168)] 14 }),
  (169, { cls := .type "tuple", data := Data.seq #[] }),
  (170, { cls := .none, data := Data.fields #[.int 119 0, .int 4 0, .ref 180, .int 123 0, .int 4 0, .ref 187, .int 126 0, .int 4 0, .ref 195, .int 131 0, .int 4 0, .ref 203, .int 136 0, .int 4 0, .ref 210, .int 139 0, .int 4 0, .ref 217, .int 142 0, .int 4 0, .ref 225, .int 148 0, .int 4 0, .ref 232, .int 151 0, .int 4 0, .ref 240] }),
  (171, { cls := .type "code", data := Data.fields #[vS "_Accumulator" 404, vS "_Accumulator" 405, vS "/claim/cut.py" 406, .int 117 0, .int 0 0, .int 0 0, .int 0 0, .int 0 0, .ref 169, .bool false, .int 181 0, .ref 170, .none, .none, .none, .none, .int 407 0, .int 117 0, vS "/claim/cut.py" 408] }),
  (172, { cls := .type "frame", slots := #[some (.ref 171), some (.ref 3), some (.ref 167), none, some (vS "cpy313.email.header" 288), none, some (.ref 0)] }),
  (247, { cls := .type "super", data := Data.fields #[.ref 244, .ref 244, .ref 244] }),
  (248, { cls := .type "builtin_function_or_method", data := Data.fields #[.builtin "object.__init_subclass__", .ref 244] })]
noncomputable def oBoot (P : Params) : List (Nat × Obj) := [(3, boot_o_3 P), (12, { cls := .none, data := Data.fields #[] })]
noncomputable def oA (P : Params) : List (Nat × Obj) := [(3, nsO P "cpy313.tabnanny" 194 [] 10), (12, { cls := .none, data := Data.fields #[.int 1 0, .int 0 0, .ref 20] })]
noncomputable def oB (P : Params) : List (Nat × Obj) := [(3, nsO P "cpy313.tabnanny" 194 [en P "Whitespace" 287 (.ref 83)] 11), (12, { cls := .none, data := Data.fields #[.int 1 0, .int 0 0, .ref 20, .int 5 0, .int 0 0, .ref 27] })]
noncomputable def oC (P : Params) : List (Nat × Obj) := [(3, nsO P "cpy313.email.header" 288 [en P "Whitespace" 287 (.ref 83), en P "NL" 291 (vS "\n" 290), en P "EMPTYSTRING" 293 (vS "" 292)] 13), (12, { cls := .none, data := Data.fields #[.int 1 0, .int 0 0, .ref 20, .int 5 0, .int 0 0, .ref 27] })]
noncomputable def oD (P : Params) : List (Nat × Obj) := [(3, nsO P "cpy313.email.header" 288 [en P "Whitespace" 287 (.ref 83), en P "NL" 291 (vS "\n" 290), en P "EMPTYSTRING" 293 (vS "" 292), en P "_ValueFormatter" 401 (.ref 160)] 14), (12, { cls := .none, data := Data.fields #[.int 1 0, .int 0 0, .ref 20, .int 5 0, .int 0 0, .ref 27, .int 51 0, .int 0 0, .ref 93] })]
noncomputable def oE (P : Params) : List (Nat × Obj) := [(3, nsO P "cpy313.email.header" 288 [en P "Whitespace" 287 (.ref 83), en P "NL" 291 (vS "\n" 290), en P "EMPTYSTRING" 293 (vS "" 292), en P "_ValueFormatter" 401 (.ref 160), en P "_Accumulator" 497 (.ref 244)] 15), (12, { cls := .none, data := Data.fields #[.int 1 0, .int 0 0, .ref 20, .int 5 0, .int 0 0, .ref 27, .int 51 0, .int 0 0, .ref 93, .int 117 0, .int 0 0, .ref 171] })]
noncomputable def lkO : List (Nat × Obj) → Nat → Option Obj
  | [], _ => none
  | p :: l, a => match Nat.beq p.1 a with
    | true => some p.2
    | false => lkO l a
noncomputable def obA (P : Params) (l : List (Nat × Obj)) (a : Nat) : Obj := match lkO l a with
  | some o => o
  | none => match (kTop P).get a with
    | some o => o
    | none => default
noncomputable def mkT (f : Nat → Obj) (n : Nat) : Nat → Nat → Nat → BT
  | 0, _, _ => .nil
  | k + 1, a, b => match Nat.blt b n with
    | true => .node (f b) (mkT f n k (2 * a) (a + b)) (mkT f n k (2 * a) (2 * a + b))
    | false => .nil
noncomputable def lstF (f : Nat → Obj) : Nat → Nat → List Obj
  | 0, _ => []
  | k + 1, a => f a :: lstF f k (a + 1)
noncomputable def tBoot (P : Params) : BT := mkT (obA P (oBoot P)) 15 40 1 0
noncomputable def hBoot (P : Params) : Heap := ⟨⟨lstF (obA P (oBoot P)) 15 0⟩, {}⟩
noncomputable def tA (P : Params) : BT := mkT (obA P (oA P)) 22 40 1 0
noncomputable def tB (P : Params) : BT := mkT (obA P (oB P ++ ov1 P)) 88 40 1 0
noncomputable def tC (P : Params) : BT := mkT (obA P (oC P ++ ov1 P)) 88 40 1 0
noncomputable def tD (P : Params) : BT := mkT (obA P (oD P ++ (ov1 P ++ ov2 P))) 165 40 1 0
noncomputable def tE (P : Params) : BT := mkT (obA P (oE P ++ (ov1 P ++ (ov2 P ++ ov3 P)))) 249 40 1 0
noncomputable def tF (P : Params) : BT := mkT (obA P (ov1 P ++ (ov2 P ++ ov3 P))) 304 40 1 0
noncomputable def hF (P : Params) : Heap := ⟨⟨lstF (obA P (ov1 P ++ (ov2 P ++ ov3 P))) 304 0⟩, {}⟩
noncomputable def eX : Env := { scope := pX.main.scope, locals := mainNs, globals := mainNs, cells := [], code := .ref 13, frame := some 14 }
noncomputable def bX : List Stmt := behindTheImports pX
noncomputable abbrev cX : Code := .body bX eX
noncomputable abbrev q0 : Pos := ⟨0, 0, 0, 0⟩
noncomputable abbrev FX : List Frame := [topFrame q0]
noncomputable abbrev SF (w : World) (os : OsState) : Shared := ⟨hF w.params, Array.mk [], {}, 585, os⟩
noncomputable def Seg (N : Nat) (t t' : Params → BT) (n n' k k' : Nat) (l : List Stmt) (q q' : Pos) (w : World) : Prop :=
  (fun os => segRunT treeTable pX w 11 (some (.ref 6)) 1 N ⟨t w.params, n, {}, Array.mk [], {}, k, os⟩ (piecesOf l eX cX q FX)) = fun os => some (.next, ⟨t' w.params, n', {}, Array.mk [], {}, k', os⟩, cX, q')
theorem gPre (w : World) : (fun os => topGo treeTable pX w 11 (some (.ref 6)) 12 ⟨boot_heap w.params, Array.mk [], boot_drawn, boot_toks, os⟩ (topStub pX)) = fun os => some (⟨hBoot w.params, Array.mk [], {}, 187, os⟩, ⟨denote treeTable cX, cX, q0, FX⟩) := by
  rewrite [PySem.W.Fast.te15667345088766844465, PySem.W.Fast.te14364793385576792824, PySem.W.Fast.te11892475500146522536]; kernel_rfl
theorem gBlk (w : World) : (fun os => segRun treeTable pX w 11 (some (.ref 6)) 1 1 ⟨hBoot w.params, Array.mk [], {}, 187, os⟩ (blockOf bX eX cX q0 FX)) = fun os => some (.next, (⟨tBoot w.params, 15, {}, Array.mk [], {}, 187, os⟩ : SharedT).abs, cX, q0) := by
  rewrite [PySem.W.Fast.te14374325043358763698, PySem.W.Fast.te14364793385576792824]; kernel_rfl
theorem g1 (w : World) : Seg 39 tBoot tA 15 22 187 196 (bX.take 2) ⟨0, 0, 0, 0⟩ ⟨4, 0, 4, 8⟩ w := by unfold Seg; rewrite [PySem.W.Fast.te10110043849684766642, PySem.W.Fast.te14364793385576792824]; kernel_rfl
theorem g2 (w : World) : Seg 485 tA tB 22 88 196 288 ((bX.drop 2).take 1) ⟨4, 0, 4, 8⟩ ⟨5, 0, 47, 16⟩ w := byRow2 "special-get-raises" (P := Seg 485 tA tB 22 88 196 288 ((bX.drop 2).take 1) ⟨4, 0, 4, 8⟩ ⟨5, 0, 47, 16⟩) (fun w => by unfold Seg; rewrite [PySem.W.Fast.te10110043849684766642, PySem.W.Fast.te14364793385576792824]; kernel_rfl) (fun w => by unfold Seg; rewrite [PySem.W.Fast.te10110043849684766642, PySem.W.Fast.te14364793385576792824]; kernel_rfl) w
theorem g3 (w : World) : Seg 28 tB tC 88 88 288 294 ((bX.drop 3).take 3) ⟨5, 0, 47, 16⟩ ⟨50, 0, 50, 11⟩ w := by unfold Seg; rewrite [PySem.W.Fast.te10110043849684766642, PySem.W.Fast.te14364793385576792824]; kernel_rfl
theorem g4 (w : World) : Seg 494 tC tD 88 165 294 402 ((bX.drop 6).take 1) ⟨50, 0, 50, 11⟩ ⟨51, 0, 116, 47⟩ w := by unfold Seg; rewrite [PySem.W.Fast.te10110043849684766642, PySem.W.Fast.te14364793385576792824]; kernel_rfl
theorem g5 (w : World) : Seg 505 tD tE 165 249 402 498 ((bX.drop 7).take 1) ⟨51, 0, 116, 47⟩ ⟨117, 0, 152, 32⟩ w := by unfold Seg; rewrite [PySem.W.Fast.te10110043849684766642, PySem.W.Fast.te14364793385576792824]; kernel_rfl
theorem g6 (w : World) : Seg 292 tE tF 249 304 498 585 (bX.drop 8) ⟨117, 0, 152, 32⟩ ⟨238, 0, 258, 82⟩ w := by unfold Seg; rewrite [PySem.W.Fast.te10110043849684766642, PySem.W.Fast.te14364793385576792824]; kernel_rfl
theorem gFin (w : World) : (fun os => topRun treeTable pX w 11 (some (.ref 6)) 2 (⟨tF w.params, 304, {}, Array.mk [], {}, 585, os⟩ : SharedT).abs (restOf [] eX cX ⟨238, 0, 258, 82⟩ FX)) = fun os => some (SF w os) := by
  rewrite [PySem.W.Fast.te14082659384304107361, PySem.W.Fast.te14364793385576792824]; kernel_rfl
theorem cuts (l : List Stmt) : l = l.take 2 ++ ((l.drop 2).take 1 ++ ((l.drop 3).take 3 ++ ((l.drop 6).take 1 ++ ((l.drop 7).take 1 ++ (l.drop 8 ++ []))))) := by
  have h (i j : Nat) : (l.drop i).take j ++ l.drop (i + j) = l.drop i := by
    rw [← List.drop_drop]; exact List.take_append_drop j (l.drop i)
  rw [List.append_nil, h 7 1, h 6 1, h 3 3, h 2 1, List.take_append_drop]
theorem runX (w : World) (os : OsState) : topRun treeTable pX w 11 (some (.ref 6)) (12 + (1 + (39 + (485 + (28 + (494 + (505 + (292 + 2)))))))) ⟨boot_heap w.params, Array.mk [], boot_drawn, boot_toks, os⟩ (topStub pX) = some (SF w os) := by
  have k := piece_app (segRun_of (congrFun (g1 w) os)) (piece_app (segRun_of (congrFun (g2 w) os)) (piece_app (segRun_of (congrFun (g3 w) os)) (piece_app (segRun_of (congrFun (g4 w) os)) (piece_app (segRun_of (congrFun (g5 w) os)) (piece_app (segRun_of (congrFun (g6 w) os)) (congrFun (gFin w) os))))))
  have k' := Eq.mpr (congrArg (fun l => topRun treeTable pX w 11 (some (.ref 6)) (39 + (485 + (28 + (494 + (505 + (292 + 2)))))) (⟨tBoot w.params, 15, {}, Array.mk [], {}, 187, os⟩ : SharedT).abs (restOf l eX cX q0 FX) = some (SF w os)) (cuts bX)) k
  exact go_top (congrFun (gPre w) os) (piece_block (congrFun (gBlk w) os) k')
theorem gSize (w : World) : ((boot_heap w.params).isNs mainGlobals && (Array.mk [] : Array GenState).size == 0, (boot_heap w.params).objs.size, (boot_heap w.params).nsMap mainGlobals (Str.ofString "__annotations__")) = (true, 11, some (.ref 6)) := by
  rewrite [PySem.W.Fast.te8920871248978507458]; kernel_rfl
noncomputable abbrev lX : List Str := [Str.ofString "Whitespace", Str.ofString "_Accumulator"]
noncomputable abbrev xX (s : Shared) : Bool := xlAt vX [] s && recOk (RowW.records (OpenRow.toRowW (OpenLaw.row PySem.Challenge.rw_tc0064_01))) s
noncomputable def asX : List Nat := [0, 1, 2, 3, 4, 5, 6, 7, 8, 9, 10, 11, 12, 13, 14, 15, 16, 17, 18, 19, 20, 21, 32, 33, 34, 35, 36, 37, 38, 39, 40, 41, 42, 43, 44, 45, 46, 47, 48, 49, 50, 51, 52, 53, 54, 55, 56, 57, 58, 59, 60, 61, 62, 63, 64, 65, 66, 67, 68, 69, 70, 71, 72, 73, 74, 75, 76, 77, 78, 79, 80, 81, 82, 83, 84, 85, 95, 96, 97, 98, 99, 100, 101, 102, 103, 104, 105, 106, 107, 108, 109, 110, 111, 112, 113, 114, 115, 116, 117, 118, 119, 120, 121, 122, 123, 124, 125, 126, 127, 128, 129, 130, 131, 132, 133, 134, 135, 136, 137, 138, 139, 140, 141, 142, 143, 144, 145, 146, 147, 148, 149, 150, 151, 152, 153, 154, 155, 156, 157, 158, 159, 160, 161, 162, 165, 168, 173, 174, 175, 176, 177, 178, 179, 180, 181, 182, 183, 184, 185, 186, 187, 188, 189, 190, 191, 192, 193, 194, 195, 196, 197, 198, 199, 200, 201, 202, 203, 204, 205, 206, 207, 208, 209, 210, 211, 212, 213, 214, 215, 216, 217, 218, 219, 220, 221, 222, 223, 224, 225, 226, 227, 228, 229, 230, 231, 232, 233, 234, 235, 236, 237, 238, 239, 240, 241, 242, 243, 244, 245, 246, 249, 250, 251, 252, 253, 254, 255, 256, 257, 258, 259, 260, 261, 262, 263, 264, 265, 266, 267, 268, 269, 270, 271, 272, 273, 274, 275, 276, 277, 278, 279, 280, 281, 282, 283, 284, 285, 286, 287, 288, 289, 290, 291, 292, 293, 294, 295, 296, 297, 298, 299, 300, 301, 302, 303]
theorem l0 (w : World) : (fun os => staticsOk (importedModules pX.main.body) (boot_heap w.params) (hF w.params) && namesBound pX (hF w.params) && gensDone (SF w os) && laidKept (boot_heap w.params) (hF w.params)) = fun os => true := by rewrite [PySem.W.Fast.te5923862056798008813]; kernel_rfl
theorem l1 (w : World) : (fun os => seen ((recsOf vX).map (·.name)) (ownsOf vX) [] { SF w os with gens := #[] }) = fun os => expectedOf vX := by rewrite [PySem.W.Fast.te5160383126252970620, PySem.W.Fast.te3399658132070893891, PySem.W.Fast.te5991557255702980513]; kernel_rfl
theorem l2 (w : World) : (fun os => (SF w os).heap.bltView) = fun os => bltViewBooted := by kernel_rfl
theorem l3 (w : World) : (fun os => (SF w os).heap.keysOk (looseW vX lX) ((recsOf vX).map (·.name)) ((litsOf vX).map (·.1)) ((clssOf vX (looseW vX lX)).map (·.name)) && (SF w os).heap.accountedOkI (importedModules pX.main.body) && (SF w os).heap.isNs mainGlobals && (SF w os).heap.isNs builtinsNs && tablesOk vX (SF w os).heap && xX (SF w os) && (if true = true then (SF w os).gens.size == 0 else !leftWithCleanup (SF w os).gens)) = fun os => true := by rewrite [PySem.W.Fast.te10880121769531294198, PySem.W.Fast.te821141287760084731, PySem.W.Fast.te3399658132070893891, PySem.W.Fast.te7409074990110511671, PySem.W.Fast.te13664370479719496447, PySem.W.Fast.te14722251495701143533, PySem.W.Fast.te5923862056798008813, PySem.W.Fast.te10994771534591457954]; kernel_rfl
theorem l4 (w : World) : (fun os => tabsOk vX (SF w os)) = fun os => true := by rewrite [PySem.W.Fast.te479339242167458305]; kernel_rfl
theorem l5 (w : World) : (fun os => pinSeenD vX (drecsOf vX) (SF w os)) = fun os => pinGoodD (drecsOf vX) := by rewrite [PySem.W.Fast.te16090120013241838585, PySem.W.Fast.te3247288618530077131]; kernel_rfl
theorem l6 (w : World) : (fun os => plainSeenE vX (looseW vX lX) (SF w os)) = fun os => plainGoodE vX (looseW vX lX) := by rewrite [PySem.W.Fast.te2386780881361962483, PySem.W.Fast.te821141287760084731]; kernel_rfl
theorem l7 (w : World) : (fun os => plainSeenD vX lX (SF w os)) = fun os => plainGoodD vX lX := by rewrite [PySem.W.Fast.te11698064438423848299]; kernel_rfl
theorem l8 (w : World) : (fun os => wideSeen vX (SF w os)) = fun os => wideGood vX := by rewrite [PySem.W.Fast.te7317090234206586261]; kernel_rfl
theorem l9 (w : World) : (fun os => clsSeenW vX lX (SF w os)) = fun os => clsGoodW vX lX := by rewrite [PySem.W.Fast.te7369524293546568484]; kernel_rfl
theorem l10 (w : World) : (fun os => obsZ asX (SF w os)) = fun os => valZ heap_275 304 585 w := by kernel_rfl
theorem leftX : LeftO pX vX lX xX (obsZ asX) (valZ heap_275 304 585) 3800 := LeftO.of_pieces (boot_open (by kernel_rfl) (by decide) (by intro s; kernel_rfl)) gSize runX (by decide) fun w => funext fun os => looks_pair (congrFun (l0 w) os) (looks_pair (looks_pair (congrFun (l1 w) os) (looks_pair (congrFun (l2 w) os) (looks_pair (congrFun (l3 w) os) (looks_pair (congrFun (l4 w) os) (looks_pair (congrFun (l5 w) os) (looks_pair (congrFun (l6 w) os) (looks_pair (congrFun (l7 w) os) (looks_pair (congrFun (l8 w) os) (congrFun (l9 w) os))))))))) (congrFun (l10 w) os))
theorem okX : OpenLaw.wellSaid PySem.Challenge.rw_tc0064_01 = true := by rewrite [PySem.W.Fast.te9446332074065402090]; kernel_rfl
end Mine
end
section
open PySem PySem.W PySem.W.X
namespace Mine
noncomputable abbrev Led := List (Addr × Obj)
noncomputable abbrev Setg := Bool → Bool → Setting
structure Fk where
  k : Result → Sem Fin
  hd : Option Value
  gd : Bool
  c : Code
inductive Gk where
  | fresh (c : Code)
  | susp (k : Resume → Sem Fin) (c : Code) (fk : List Fk)
  | run
  | fin
noncomputable abbrev Gl := List (Nat × Gk)
structure St where
  c : Code
  md : Option (List Fk)
  κ : Kont
  t : Sem Fin
  L : Led
  n : Nat
  i : Nat
  g : Nat
  G : Gl
noncomputable abbrev Seen := GenStatus × Option (List (Code × Pos))
structure Owes where
  ad : List (Addr × Addr)
  tr : List (Sem Fin × Sem Fin)
  st : List (St × St)
  gs : List ((Seen → Sem Fin) × (Seen → Sem Fin))
  dp : List Nat
  sk : List ((Pos → List (Code × Pos) → Sem Fin) × (Pos → List (Code × Pos) → Sem Fin))
  hn : List (Option Value × Option Value)
  cn : List ((Code × Led × Nat × Nat × Nat) × (Code × Led × Nat × Nat × Nat))
  bad : Bool
noncomputable def Owes.nil : Owes := ⟨[], [], [], [], [], [], [], [], false⟩
structure Owes.Paid (o : Owes) : Prop where
  ad : o.ad.map (·.1) = o.ad.map (·.2)
  tr : o.tr.map (·.1) = o.tr.map (·.2)
  st : o.st.map (·.1) = o.st.map (·.2)
  gs : o.gs.map (·.1) = o.gs.map (·.2)
  dp : o.dp.all (fun d => Nat.ble d 200) = true
  sk : o.sk.map (·.1) = o.sk.map (·.2)
  hn : o.hn.map (·.1) = o.hn.map (·.2)
  cn : o.cn.map (·.1) = o.cn.map (·.2)
  bad : o.bad = false
structure Rl where
  c : Code
  pre : Led
  n : Nat
  i : Nat
  g : Nat
  v : Value
  post : Led
  n' : Nat
  i' : Nat
  g' : Nat
  m : Nat
  lean : Bool
noncomputable def resL (m : Nat) (v : Value) : Result := match m with
  | 0 => .ok (.ret v)
  | _ + 1 => .error v
noncomputable def Rl.res (r : Rl) : Result := match r.lean with
  | false => .ok (.ret r.v)
  | true => resL r.m r.v
noncomputable abbrev Con := Nat → Option Rl
noncomputable def pullN : Led → List Nat → Led → Option (Led × Led × List Nat)
  | [], hs, L => some ([], L, hs)
  | _ :: _, [], _ => none
  | _ :: pre, j :: hs, L => match L[j]? with
    | none => none
    | some p => match pullN pre hs (L.eraseIdx j) with
      | none => none
      | some x => some (p :: x.1, x.2)
structure Cx where
  V : XV
  dn0 : Code → Sem Fin
  ovr : Code → Option (Sem Fin)
  con : Con
  top : Nat → Option Obj
  rows : Setg
  r1 : Bool
  r2 : Bool
  ent : Sem Unit
  wak : Sem Unit
  rom : Nat → Sem Unit
  bnd : Sem Unit → (Unit → Sem Fin) → Sem Fin
  own : Code → Addr → Nat → Option (Sem Fin × Sem Fin)
  room : Nat
noncomputable def depK : Kont → Option Nat
  | .base => some 0
  | .ret c _ _ κ => match depK κ with
    | some d => some (d + c.weight + c.cUnits)
    | none => none
  | .gen .. => none
  | .genS .. => none
noncomputable def Fk.fr (f : Fk) : Frame := .ret f.k f.hd f.gd [] f.c default []
noncomputable abbrev OutT := Code → Option (List Fk) → Kont → Sem Fin → Led → Nat → Nat → Nat → Gl → List Nat → Option (Nat × St) → Owes → St × Owes
noncomputable def stopR : OutT := fun c md κ t L n i g G _ pd ow => (⟨c, md, κ, t, L, n, i, g, G⟩, match pd with | none => ow | some _ => { ow with bad := true })
noncomputable def tickR (ih : OutT) : OutT := fun c md κ t L n i g G hs pd ow => match pd with
  | none => ih c md κ t L n i g G hs none ow
  | some (k, e) => match k with
    | 0 => ih c md κ t L n i g G hs none { ow with st := (e, ⟨c, md, κ, t, L, n, i, g, G⟩) :: ow.st }
    | k + 1 => ih c md κ t L n i g G hs (some (k, e)) ow
noncomputable def popR (ih : OutT) (r : Result) : OutT := fun c md κ t L n i g G hs pd ow => match md with
  | none => match κ with
    | .ret c' _ k κ' => tickR ih c' none κ' (k r) L n i g G hs pd ow
    | _ => stopR c md κ t L n i g G hs pd ow
  | some fs => match fs with
    | f :: fs' => tickR ih f.c (some fs') κ (f.k r) L n i g G hs pd ow
    | [] => match κ with
      | .gen x c' k κ' => match hs with
        | [] => stopR c md κ t L n i g G hs pd ow
        | h :: hs' => match G[h]? with
          | some p => tickR ih c' none κ' (k (End.ret r).result) L n i g (G.set h (p.1, .fin)) hs' pd { ow with ad := (p.1, x) :: ow.ad }
          | none => stopR c md κ t L n i g G hs pd ow
      | _ => stopR c md κ t L n i g G hs pd ow
noncomputable def unown (o : Obj) : Option Nat := match o.data with
  | .fields vs => match vs.toList with
    | v :: _ => match v with
      | .int z _ => match z with
        | .ofNat A => some A
        | _ => none
      | _ => none
    | [] => none
  | _ => none
noncomputable def loadR (X : Cx) (ih : OutT) (a : Addr) (k : Obj → Sem Fin) : OutT := fun c md κ t L n i g G hs pd ow => match hs with
  | [] => stopR c md κ t L n i g G hs pd ow
  | h :: hs' => match h with
    | 0 => match X.top a with
      | some o => tickR ih c md κ (k o) L n i g G hs' pd ow
      | none => stopR c md κ t L n i g G hs pd ow
    | j + 1 => match Nat.ble 999 j with
      | false => match L[j]? with
        | some p => tickR ih c md κ (k p.2) L n i g G hs' pd { ow with ad := (p.1, a) :: ow.ad }
        | none => stopR c md κ t L n i g G hs pd ow
      | true => match L[j - 999]? with
        | some p => match unown p.2 with
          | some A => match X.own c a A with
            | some x => tickR ih c md κ x.2 L n i g G hs' pd { ow with ad := (p.1, a) :: ow.ad, tr := (k p.2, x.1) :: ow.tr }
            | none => stopR c md κ t L n i g G hs pd ow
          | none => stopR c md κ t L n i g G hs pd ow
        | none => stopR c md κ t L n i g G hs pd ow
noncomputable def ruleR (X : Cx) (hs : List Nat) (L : Led) : Option (Rl × Led × Led × List Nat) := match hs with
  | [] => none
  | h :: hs' => match Nat.ble 2000 h with
    | false => none
    | true => match X.con (h - 2000) with
      | none => none
      | some r => match pullN r.pre hs' L with
        | none => none
        | some x => some (r, x)
noncomputable def skipH (hs : List Nat) : List Nat := match hs with
  | [] => []
  | h :: hs' => match Nat.beq h 1999 with
    | true => hs'
    | false => h :: hs'
noncomputable def headR (X : Cx) (ih : OutT) (c : Code) (κ : Kont) (L : Led) (n i g : Nat) (G : Gl) (hs : List Nat) (pd : Option (Nat × St)) (ow : Owes) : St × Owes := match X.ovr c with
  | none => tickR ih c none κ (X.dn0 c) L n i g G hs pd ow
  | some t => match depK κ with
    | some d => tickR ih c none κ t L n i g G hs pd { ow with dp := (d + c.weight) :: (d + c.cUnits) :: ow.dp }
    | none => stopR c none κ (X.dn0 c) L n i g G hs pd ow
noncomputable def pureR (X : Cx) (ih : OutT) (fin : Fin) : OutT := fun c md κ t L n i g G hs pd ow => match fin with
  | .done f => popR ih (.ok f) c md κ t L n i g G hs pd ow
  | .again c' => match c'.quiet with
    | true => match md with
      | none => headR X ih c' κ L n i g G hs pd ow
      | some fs => tickR ih c' (some fs) κ (X.dn0 c') L n i g G hs pd ow
    | false => stopR c md κ t L n i g G hs pd ow
noncomputable def askR (X : Cx) (ih : OutT) (k : Setting → Sem Fin) : OutT := fun c md κ t L n i g G hs pd ow => match hs with
  | [] => stopR c md κ t L n i g G hs pd ow
  | h :: hs' => match h with
    | 0 => tickR ih c md κ (k (X.rows X.r1 X.r2)) L n i g G hs' pd ow
    | 1 => tickR ih c md κ (k (X.rows false X.r2)) L n i g G hs' pd { ow with tr := (k (X.rows true X.r2), k (X.rows false X.r2)) :: ow.tr }
    | j + 2 => match pd with
      | none => tickR ih c md κ (k (X.rows X.r1 false)) L n i g G hs' (some (j, ⟨c, md, κ, k (X.rows X.r1 true), L, n, i, g, G⟩)) ow
      | some _ => stopR c md κ t L n i g G hs pd ow
noncomputable def allocR (X : Cx) (ih : OutT) (o : Obj) (k : Addr → Sem Fin) : OutT := fun c md κ t L n i g G hs pd ow => match o.isFreed with
  | true => stopR c md κ t L n i g G hs pd ow
  | false => tickR ih c md κ (k n) ((n, o) :: L) (n + 1) i g G hs pd ow
noncomputable def updateR (X : Cx) (ih : OutT) (a : Addr) (f : Obj → Obj) (k : Unit → Sem Fin) : OutT := fun c md κ t L n i g G hs pd ow => match hs with
  | [] => stopR c md κ t L n i g G hs pd ow
  | h :: hs' => match h with
    | 0 => stopR c md κ t L n i g G hs pd ow
    | j + 1 => match L[j]? with
      | some p => match (f p.2).isFreed with
        | true => stopR c md κ t L n i g G hs pd ow
        | false => tickR ih c md κ (k ()) (L.set j (p.1, f p.2)) n i g G hs' pd { ow with ad := (p.1, a) :: ow.ad }
      | none => stopR c md κ t L n i g G hs pd ow
noncomputable def handledR (X : Cx) (ih : OutT) (own : Bool) (k : Option Value → Sem Fin) : OutT := fun c md κ t L n i g G hs pd ow => match own with
  | false => match md with
    | none => tickR ih c md κ (k (aroundOf X.V true κ).handled) L n i g G hs pd ow
    | some fs => tickR ih c md κ (k ((aroundOf X.V false κ).over c (fs.map Fk.fr)).handled) L n i g G hs pd ow
  | true => stopR c md κ t L n i g G hs pd ow
noncomputable def stackR (X : Cx) (ih : OutT) (k : List (Code × Pos) → Sem Fin) : OutT := fun c md κ t L n i g G hs pd ow => match md with
  | none => match depK κ with
    | some d => match hs with
      | [] => stopR c md κ t L n i g G hs pd ow
      | h :: hs' => match h with
        | 0 => match k [] with
          | .load _ _ k' => match X.top cStatics with
            | some o => tickR ih c md κ (k' o) L n i g G hs' pd { ow with tr := (t, X.bnd X.ent fun _ => k' o) :: ow.tr, dp := (d + c.weight) :: ow.dp }
            | none => stopR c md κ t L n i g G hs pd ow
          | _ => stopR c md κ t L n i g G hs pd ow
        | 1 => match k [] with
          | .load _ _ k' => match X.top cStatics with
            | some o => tickR ih c md κ (k' o) L n i g G hs' pd { ow with tr := (t, X.bnd X.wak fun _ => k' o) :: ow.tr, dp := (d + c.weight) :: ow.dp }
            | none => stopR c md κ t L n i g G hs pd ow
          | _ => stopR c md κ t L n i g G hs pd ow
        | 2 => tickR ih c md κ (k [(c, default)]) L n i g G hs' pd { ow with sk := (fun p l => k ((c, p) :: l), fun _ _ => k [(c, default)]) :: ow.sk }
        | w + 3 => tickR ih c md κ (k []) L n i g G hs' pd { ow with tr := (t, X.bnd (X.rom w) fun _ => k []) :: ow.tr, dp := (d + c.cUnits) :: ow.dp }
    | none => stopR c md κ t L n i g G hs pd ow
  | some _ => stopR c md κ t L n i g G hs pd ow
noncomputable def hndAt (V : XV) (md : Option (List Fk)) (κ : Kont) (c : Code) (hd : Option Value) (k : Result → Sem Fin) : Option Value := match md with
  | none => (aroundOf V true (.ret c hd k κ)).handled
  | some fs => (((aroundOf V false κ).over c (fs.map Fk.fr)).mark hd).handled
noncomputable def callQ (X : Cx) (ih : OutT) (c' : Code) (hd : Option Value) (gd : Bool) (k : Result → Sem Fin) : OutT := fun c md κ t L n i g G hs pd ow => match okMark hd with
  | true => match ruleR X hs L with
    | some x => match x.1.lean with
      | true => match x.1.m with
        | 0 => tickR ih c md κ (k (.ok (.ret x.1.v))) (x.1.post ++ x.2.2.1) x.1.n' x.1.i' x.1.g' G x.2.2.2 pd { ow with cn := ((c', x.2.1, n, i, g), (x.1.c, x.1.pre, x.1.n, x.1.i, x.1.g)) :: ow.cn }
        | _ + 1 => tickR ih c md κ (k (.error x.1.v)) (x.1.post ++ x.2.2.1) x.1.n' x.1.i' x.1.g' G x.2.2.2 pd { ow with cn := ((c', x.2.1, n, i, g), (x.1.c, x.1.pre, x.1.n, x.1.i, x.1.g)) :: ow.cn, hn := (hndAt X.V md κ c hd k, none) :: ow.hn }
      | false => match md with
        | none => match depK (.ret c hd k κ) with
          | some d => match Nat.ble (d + x.1.m) X.room with
            | true => tickR ih c none κ (k (.ok (.ret x.1.v))) (x.1.post ++ x.2.2.1) x.1.n' x.1.i' x.1.g' G x.2.2.2 pd { ow with cn := ((c', x.2.1, n, i, g), (x.1.c, x.1.pre, x.1.n, x.1.i, x.1.g)) :: ow.cn, hn := ((aroundOf X.V true (.ret c hd k κ)).handled, none) :: ow.hn }
            | false => stopR c md κ t L n i g G hs pd ow
          | none => stopR c md κ t L n i g G hs pd ow
        | some _ => stopR c md κ t L n i g G hs pd ow
    | none => match md with
      | none => headR X ih c' (.ret c hd k κ) L n i g G (skipH hs) pd ow
      | some fs => tickR ih c' (some (⟨k, hd, gd, c⟩ :: fs)) κ (X.dn0 c') L n i g G (skipH hs) pd ow
  | false => stopR c md κ t L n i g G hs pd ow
noncomputable def stopH (hs : List Nat) : Bool := match hs with
  | [] => false
  | h :: _ => Nat.beq h 1998
noncomputable def callR (X : Cx) (ih : OutT) (c' : Code) (hd : Option Value) (gd : Bool) (k : Result → Sem Fin) : OutT := fun c md κ t L n i g G hs pd ow => match stopH hs with
  | true => stopR c md κ t L n i g G hs pd ow
  | false => callQ X ih c' hd gd k c md κ t L n i g G hs pd ow
noncomputable def genStateR (X : Cx) (ih : OutT) (x : Nat) (k : Seen → Sem Fin) : OutT := fun c md κ t L n i g G hs pd ow => match hs with
  | [] => stopR c md κ t L n i g G hs pd ow
  | h :: hs' => match G[h]? with
    | some p => match p.2 with
      | .fresh _ => tickR ih c md κ (k (.fresh, none)) L n i g G hs' pd { ow with ad := (p.1, x) :: ow.ad, gs := (k, fun s => k (s.1, none)) :: ow.gs }
      | .susp .. => tickR ih c md κ (k (.suspended, none)) L n i g G hs' pd { ow with ad := (p.1, x) :: ow.ad, gs := (k, fun s => k (s.1, none)) :: ow.gs }
      | .run => tickR ih c md κ (k (.running, none)) L n i g G hs' pd { ow with ad := (p.1, x) :: ow.ad, gs := (k, fun s => k (s.1, none)) :: ow.gs }
      | .fin => tickR ih c md κ (k (.finished, none)) L n i g G hs' pd { ow with ad := (p.1, x) :: ow.ad, gs := (k, fun s => k (s.1, none)) :: ow.gs }
    | none => stopR c md κ t L n i g G hs pd ow
noncomputable def resumeR (X : Cx) (ih : OutT) (x : Nat) (r : Resume) (k : GenResult → Sem Fin) : OutT := fun c md κ t L n i g G hs pd ow => match md with
  | some _ => stopR c md κ t L n i g G hs pd ow
  | none => match hs with
    | [] => stopR c md κ t L n i g G hs pd ow
    | h :: hs' => match G[h]? with
      | some p => match p.2 with
        | .fresh c₀ => match r with
          | .send v => match v with
            | .none => tickR ih c₀ (some []) (.gen x c k κ) (X.dn0 c₀) L n i g (G.set h (p.1, .run)) hs' pd { ow with ad := (p.1, x) :: ow.ad }
            | _ => stopR c md κ t L n i g G hs pd ow
          | .throw _ => stopR c md κ t L n i g G hs pd ow
        | .susp k₀ c₀ fk₀ => tickR ih c₀ (some fk₀) (.gen x c k κ) (k₀ r) L n i g (G.set h (p.1, .run)) hs' pd { ow with ad := (p.1, x) :: ow.ad }
        | _ => stopR c md κ t L n i g G hs pd ow
      | none => stopR c md κ t L n i g G hs pd ow
noncomputable def yieldR (X : Cx) (ih : OutT) (v : Value) (gd : Bool) (k : Resume → Sem Fin) : OutT := fun c md κ t L n i g G hs pd ow => match md with
  | none => stopR c md κ t L n i g G hs pd ow
  | some fs => match gd with
    | true => stopR c md κ t L n i g G hs pd ow
    | false => match κ with
      | .gen x c' k' κ' => match hs with
        | [] => stopR c md κ t L n i g G hs pd ow
        | h :: hs' => match G[h]? with
          | some p => match fs.any (·.gd) with
            | false => tickR ih c' none κ' (k' (.yielded v)) L n i g (G.set h (p.1, .susp k c fs)) hs' pd { ow with ad := (p.1, x) :: ow.ad }
            | true => stopR c md κ t L n i g G hs pd ow
          | none => stopR c md κ t L n i g G hs pd ow
      | _ => stopR c md κ t L n i g G hs pd ow
noncomputable def stepR (X : Cx) (ih : OutT) : OutT := fun c md κ t L n i g G hs pd ow => match t with
  | .pure fin => pureR X ih fin c md κ t L n i g G hs pd ow
  | .raise e => popR ih (.error e) c md κ t L n i g G hs pd ow
  | .rule _ k => tickR ih c md κ (k ()) L n i g G hs pd ow
  | .at _ k => tickR ih c md κ (k ()) L n i g G hs pd ow
  | .point _ k => tickR ih c md κ (k ()) L n i g G hs pd ow
  | .ask k => askR X ih k c md κ t L n i g G hs pd ow
  | .load a _ k => loadR X ih a k c md κ t L n i g G hs pd ow
  | .loadIfAlive a k => loadR X ih a (fun o => k (some o)) c md κ t L n i g G hs pd ow
  | .alloc o k => allocR X ih o k c md κ t L n i g G hs pd ow
  | .update a _ f k => updateR X ih a f k c md κ t L n i g G hs pd ow
  | .fresh k => tickR ih c md κ (k i) L n (i + 1) g G hs pd ow
  | .handled own k => handledR X ih own k c md κ t L n i g G hs pd ow
  | .stack k => stackR X ih k c md κ t L n i g G hs pd ow
  | .call c' hd gd l k => callR X ih c' hd gd k c md κ t L n i g G hs pd ow
  | .newGen c' k => tickR ih c md κ (k g) L n i (g + 1) ((g, .fresh c') :: G) hs pd ow
  | .genState x k => genStateR X ih x k c md κ t L n i g G hs pd ow
  | .resume x r _ k => resumeR X ih x r k c md κ t L n i g G hs pd ow
  | .yield v gd _ k => yieldR X ih v gd k c md κ t L n i g G hs pd ow
  | _ => stopR c md κ t L n i g G hs pd ow
noncomputable def goR (X : Cx) : Nat → OutT
  | 0 => stopR
  | f + 1 => stepR X (goR X f)
inductive FM : List Fk → List Frame → Prop
  | nil : FM [] []
  | cons {f : Fk} {l : List Value} {p : Pos} {kp : List Value} {fs : List Fk} {gs : List Frame} : FM fs gs → FM (f :: fs) (.ret f.k f.hd f.gd l f.c p kp :: gs)
noncomputable def GM (x : Gk) (o : Option GenState) : Prop := match x with
  | .fresh c => o = some (.fresh c)
  | .susp k c fk => ∃ l p fs, o = some (.suspended k l c p fs false) ∧ FM fk fs
  | .run => o = some .running
  | .fin => o = some .finished
structure Sat (V : XV) (L : Led) (n i g : Nat) (G : Gl) (s : Shared) : Prop where
  size : s.heap.objs.size = n
  toks : s.toks = i
  gsz : s.gens.size = g
  gens : ∀ p ∈ G, GM p.2 s.gens[p.1]?
  gnd : (G.map (·.1)).Nodup
  bare : PyProof.Rows.AllBare s.gens
  drawn : s.drawn = V.d
  os : s.os = V.os
  led : ∀ p ∈ L, s.heap.get? p.1 = some p.2
  nd : (L.map (·.1)).Nodup
  off : ∀ p ∈ L, V.h₀.get? p.1 = none
  keep : ∀ b o, V.h₀.get? b = some o → s.heap.get? b = some o
noncomputable def MSx (V : XV) (st : St) (s : Shared) : Prop := match st.md with
  | none => Means V st.c none st.κ st.t s
  | some fk => ∀ fs, FM fk fs → Means V st.c (some fs) st.κ st.t s
noncomputable def MS (V : XV) (st : St) : Prop := ∀ s, Sat V st.L st.n st.i st.g st.G s → MSx V st s
noncomputable def RlOk (V : XV) (r : Rl) : Prop := ∀ A : Around, ((r.lean = false → A.handled = none ∧ A.depth + r.m < recursionLimit ∧ A.units + r.m < cLine) ∧ (r.m ≠ 0 → A.handled = none)) → ∀ (b : Led) (G : Gl) (s : Shared), Sat V (r.pre ++ b) r.n r.i r.g G s → ∀ R : Result → Shared → Prop, (∀ s', Sat V (r.post ++ b) r.n' r.i' r.g' G s' → R r.res s') →
    codeAny (model V.prog V.w) A r.c R s
structure Cx.Ok (X : Cx) : Prop where
  ovr : ∀ {c t κ d L n i g G}, X.ovr c = some t → depK κ = some d → d + c.weight ≤ 200 → d + c.cUnits ≤ 200 → MS X.V ⟨c, none, κ, t, L, n, i, g, G⟩ → MS X.V ⟨c, none, κ, denote table c, L, n, i, g, G⟩
  dn0 : X.dn0 = denote table
  con : ∀ {j r}, X.con j = some r → RlOk X.V r
  own : ∀ {c a A x}, X.own c a A = some x → x.1 = x.2
  top : ∀ a o, X.top a = some o → X.V.h₀.get? a = some o
  rows : X.rows X.r1 X.r2 = ⟨X.V.prog, X.V.w.params⟩
  ent : ∀ f, X.bnd X.ent f = Sem.bind enterFrame f
  wak : ∀ f, X.bnd X.wak f = Sem.bind roomToWake f
  rom : ∀ w, ∃ what, ∀ f, X.bnd (X.rom w) f = Sem.bind (cRoom what) f
  lim : X.V.h₀.NoLimit
  dep : X.V.A₀.depth + X.room < recursionLimit
  unt : X.V.A₀.units + X.room < cLine
  rm : 250 ≤ X.room
section
variable {V : XV} {c c' : Code} {md : Option (List Fk)} {κ : Kont} {L : Led} {n i g : Nat} {G : Gl}
theorem Sat.mk_eq {s : Shared} (S : Sat V L n i g G s) : s = ⟨s.heap, s.gens, V.d, i, V.os⟩ := by
  obtain ⟨h, gs, d, t, os⟩ := s
  have e2 := S.drawn; have e3 := S.toks; have e4 := S.os
  simp only at e2 e3 e4
  subst e2 e3 e4; rfl
theorem Sat.alloc {s : Shared} {o : Obj} (S : Sat V L n i g G s) (hf : o.isFreed = false) : Sat V ((n, o) :: L) (n + 1) i g G { s with heap := s.heap.push o } := by
  have hz := S.size
  refine ⟨by show (s.heap.push o).objs.size = _; rw [Heap.size_push, hz], S.toks, S.gsz, S.gens, S.gnd, S.bare, S.drawn, S.os, ?_, ?_, ?_, ?_⟩
  · intro p hp
    rcases List.mem_cons.mp hp with rfl | hp
    · show (s.heap.push o).get? n = some o
      rw [← hz]; exact Heap.get?_push_size _ hf
    · exact Heap.get?_push_of_some _ (S.led p hp)
  · rw [List.map_cons, List.nodup_cons]
    refine ⟨fun hm => ?_, S.nd⟩
    obtain ⟨p, hp, e⟩ := List.mem_map.mp hm
    have hlt : p.1 < s.heap.objs.size := Heap.lt_size (S.led p hp)
    rw [hz, e] at hlt
    exact Nat.lt_irrefl _ hlt
  · intro p hp
    rcases List.mem_cons.mp hp with rfl | hp
    · cases q : V.h₀.get? n with
      | none => rfl
      | some o' =>
        have hlt : n < s.heap.objs.size := Heap.lt_size (S.keep _ _ q)
        rw [hz] at hlt
        exact absurd hlt (Nat.lt_irrefl _)
    · exact S.off p hp
  · intro b o' e
    exact Heap.get?_push_of_some _ (S.keep b o' e)
theorem map_fst_set {α : Type} (L : List (Nat × α)) (j : Nat) (a : Nat) (o o' : α) (h : L[j]? = some (a, o)) : (L.set j (a, o')).map (·.1) = L.map (·.1) := by
  induction L generalizing j with
  | nil => cases h
  | cons x l ih =>
    cases j with
    | zero =>
      simp only [List.getElem?_cons_zero, Option.some.injEq] at h
      subst h; rfl
    | succ j =>
      simp only [List.getElem?_cons_succ] at h
      simp only [List.set_cons_succ, List.map_cons, ih j h]
theorem mem_set_or {α : Type} {L : List (Nat × α)} {j : Nat} {a : Nat} {o o' : α} (hn : (L.map (·.1)).Nodup) (h : L[j]? = some (a, o)) : ∀ p ∈ L.set j (a, o'), p = (a, o') ∨ (p ∈ L ∧ p.1 ≠ a) := by
  induction L generalizing j with
  | nil => cases h
  | cons x l ih =>
    rw [List.map_cons, List.nodup_cons] at hn
    cases j with
    | zero =>
      simp only [List.getElem?_cons_zero, Option.some.injEq] at h
      subst h
      intro p hp
      rcases List.mem_cons.mp hp with rfl | hp
      · exact .inl rfl
      · exact .inr ⟨.tail _ hp, fun e => hn.1 (List.mem_map.mpr ⟨p, hp, e⟩)⟩
    | succ j =>
      simp only [List.getElem?_cons_succ] at h
      intro p hp
      rw [List.set_cons_succ] at hp
      rcases List.mem_cons.mp hp with rfl | hp
      · refine .inr ⟨.head _, fun e => hn.1 ?_⟩
        have := List.mem_of_getElem? h
        rw [e]; exact List.mem_map_of_mem this
      · rcases ih hn.2 h p hp with e | ⟨hm, hne⟩
        · exact .inl e
        · exact .inr ⟨.tail _ hm, hne⟩
theorem Sat.update {s : Shared} {j : Nat} {a : Addr} {o : Obj} {f : Obj → Obj} (S : Sat V L n i g G s) (h : L[j]? = some (a, o)) (hf : (f o).isFreed = false) :
    Sat V (L.set j (a, f o)) n i g G { s with heap := s.heap.update a f } := by
  have hm := List.mem_of_getElem? h
  have ho := S.led _ hm
  have hoff := S.off _ hm
  have hs : Heap.SameBut a s.heap (s.heap.update a f) := Heap.SameBut.update ..
  refine ⟨hs.1.trans S.size, S.toks, S.gsz, S.gens, S.gnd, S.bare, S.drawn, S.os, ?_, ?_, ?_, ?_⟩
  · intro p hp
    rcases mem_set_or S.nd h p hp with rfl | ⟨hp, hne⟩
    · first | exact Heap.get?_update_self f ho hf | exact Heap.get?_update_self _ ho hf
    · exact (hs.2 _ hne).trans (S.led p hp)
  · rw [map_fst_set L j a o _ h]; exact S.nd
  · intro p hp
    rcases mem_set_or S.nd h p hp with rfl | ⟨hp, _⟩
    · exact hoff
    · exact S.off p hp
  · intro b o' e
    refine (hs.2 b fun q => ?_).trans (S.keep b o' e)
    subst q
    dsimp only at hoff
    rw [hoff] at e; cases e
theorem GM.lt {x : Gk} {gs : Array GenState} {a : Nat} (h : GM x gs[a]?) : a < gs.size := by
  have : gs[a]? ≠ none := by
    intro e
    unfold GM at h
    cases x <;> simp [e] at h
  rcases Nat.lt_or_ge a gs.size with q | q
  · exact q
  · exact absurd (Array.getElem?_eq_none q) this
theorem Sat.setGen {s : Shared} {j : Nat} {a : Nat} {x y : Gk} {z : GenState} (S : Sat V L n i g G s) (h : G[j]? = some (a, x)) (hz : z.bare = true) (hy : GM y (some z)) : Sat V L n i g (G.set j (a, y)) (s.setGen a z) := by
  have hm := List.mem_of_getElem? h
  have hlt : a < s.gens.size := GM.lt (S.gens _ hm)
  refine ⟨S.size, S.toks, by show (s.gens.setIfInBounds a z).size = g; rw [Array.size_setIfInBounds, S.gsz], ?_, by rw [map_fst_set G j a x _ h]; exact S.gnd, ?_, S.drawn, S.os, S.led, S.nd, S.off, S.keep⟩
  · intro p hp
    show GM p.2 (s.gens.setIfInBounds a z)[p.1]?
    rcases mem_set_or S.gnd h p hp with rfl | ⟨hp, hne⟩
    · simp only [Array.getElem?_setIfInBounds_self_of_lt hlt]; exact hy
    · rw [Array.getElem?_setIfInBounds_ne (Ne.symm hne)]; exact S.gens p hp
  · intro y' hy'
    have hy' : y' ∈ s.gens.setIfInBounds a z := hy'
    rcases Array.mem_or_eq_of_mem_setIfInBounds hy' with q | q
    · exact S.bare y' q
    · rw [q]; exact hz
theorem Sat.newGen {s : Shared} (S : Sat V L n i g G s) (c : Code) : Sat V L n i (g + 1) ((g, .fresh c) :: G) { s with gens := s.gens.push (.fresh c) } := by
  refine ⟨S.size, S.toks, by show (s.gens.push _).size = _; rw [Array.size_push, S.gsz], ?_, ?_, S.bare.push rfl, S.drawn, S.os, S.led, S.nd, S.off, S.keep⟩
  · intro p hp
    show GM p.2 (s.gens.push (.fresh c))[p.1]?
    rcases List.mem_cons.mp hp with rfl | hp
    · show (s.gens.push (.fresh c))[g]? = some (.fresh c)
      rw [← S.gsz]; simp
    · have hlt := GM.lt (S.gens p hp)
      rw [Array.getElem?_push_lt hlt, ← Array.getElem?_eq_getElem hlt]
      exact S.gens p hp
  · rw [List.map_cons, List.nodup_cons]
    refine ⟨fun hm => ?_, S.gnd⟩
    obtain ⟨p, hp, e⟩ := List.mem_map.mp hm
    have hlt := GM.lt (S.gens p hp)
    rw [S.gsz, e] at hlt
    exact Nat.lt_irrefl _ hlt
theorem FM.split {fk : List Fk} {fs : List Frame} (h : FM fk fs) : splitAtGen fs = none := by
  induction h with
  | nil => rfl
  | cons _ ih => simp [splitAtGen, ih]
theorem FM.free {fk : List Fk} {fs : List Frame} (h : FM fk fs) (e : fk.any (·.gd) = false) : fs.any Frame.guarded = false := by
  induction h with
  | nil => rfl
  | cons _ ih =>
    rw [List.any_cons, Bool.or_eq_false_iff] at e
    simp [Frame.guarded, ih e.2, e.1]
theorem FM.marks {fk : List Fk} {fs : List Frame} (h : FM fk fs) (x : Option Value × Option Value) : marksOver fs x = marksOver (fk.map Fk.fr) x := by
  induction h with
  | nil => rfl
  | cons _ ih =>
    simp only [marksOver, List.foldr_cons, List.map_cons] at ih ⊢
    rw [ih]; rfl
theorem ms_lift {st st' : St} (hm : st.md = st'.md) (hL : (st.L, st.n, st.i, st.g, st.G) = (st'.L, st'.n, st'.i, st'.g, st'.G))
    (h : ∀ s mdf, Sat V st.L st.n st.i st.g st.G s → Means V st'.c mdf st'.κ st'.t s → Means V st.c mdf st.κ st.t s) (H : MS V st') : MS V st := by
  intro s S
  simp only [Prod.mk.injEq] at hL
  have S' : Sat V st'.L st'.n st'.i st'.g st'.G s := by rw [← hL.1, ← hL.2.1, ← hL.2.2.1, ← hL.2.2.2.1, ← hL.2.2.2.2]; exact S
  have z := H s S'
  unfold MSx at z ⊢
  rw [← hm] at z
  cases e : st.md with
  | none => rw [e] at z; exact h s none S z
  | some fk => rw [e] at z; exact fun fs hf => h s (some fs) S (z fs hf)
theorem ms_skim {t : Sem Fin} (m : Nat) (H : MS V ⟨c, md, κ, skim ⟨V.prog, V.w.params⟩ m t, L, n, i, g, G⟩) : MS V ⟨c, md, κ, t, L, n, i, g, G⟩ := by
  refine ms_lift (by rfl) (by rfl) (fun s mdf S z => ?_) H
  cases mdf with
  | none => exact y_skim _ _ _ _ _ _ _ _ _ m z
  | some fs => exact s_skim _ _ _ _ _ _ _ _ m z
theorem ms_load {a : Addr} {q : Option Value} {k : Obj → Sem Fin} {o : Obj} (ho : ∀ s, Sat V L n i g G s → s.heap.get? a = some o) (H : MS V ⟨c, md, κ, k o, L, n, i, g, G⟩) : MS V ⟨c, md, κ, .load a q k, L, n, i, g, G⟩ := by
  refine ms_lift (by rfl) (by rfl) (fun s mdf S z => ?_) H
  have hh := ho s S
  cases mdf with
  | none => exact y_load _ _ _ _ _ _ _ _ _ _ _ _ _ _ _ _ hh z
  | some fs => exact s_load _ _ _ _ _ _ _ _ _ _ _ _ _ _ _ hh z
theorem ms_alive {a : Addr} {k : Option Obj → Sem Fin} {o : Obj} (ho : ∀ s, Sat V L n i g G s → s.heap.get? a = some o) (H : MS V ⟨c, md, κ, k (some o), L, n, i, g, G⟩) : MS V ⟨c, md, κ, .loadIfAlive a k, L, n, i, g, G⟩ := by
  refine ms_lift (by rfl) (by rfl) (fun s mdf S z => ?_) H
  have hh := ho s S
  cases mdf with
  | none => exact y_alive _ _ _ _ _ _ _ _ _ _ _ _ _ _ _ hh z
  | some fs => exact s_alive _ _ _ _ _ _ _ _ _ _ _ _ _ _ hh z
theorem ms_alloc {o : Obj} {k : Addr → Sem Fin} (hf : o.isFreed = false) (H : MS V ⟨c, md, κ, k n, (n, o) :: L, n + 1, i, g, G⟩) : MS V ⟨c, md, κ, .alloc o k, L, n, i, g, G⟩ := fun s S => by
  have z := H _ (S.alloc hf)
  have hz := S.size
  unfold MSx at z ⊢
  cases md with
  | none => exact wpOwn_bind (m := alloc o) (f := k) (wpOwn_of_wpAny (wpAny_alloc (by rw [hz]; exact z)))
  | some fk => exact fun fs hf => s_cmd _ _ _ _ _ _ (m := PySem.alloc o) (k := k) (wpAny_alloc (by rw [hz]; exact z fs hf))
theorem ms_update {a : Addr} {q : Option Value} {f : Obj → Obj} {k : Unit → Sem Fin} {j : Nat} {o : Obj} (h : L[j]? = some (a, o)) (hf : (f o).isFreed = false)
    (H : MS V ⟨c, md, κ, k (), L.set j (a, f o), n, i, g, G⟩) : MS V ⟨c, md, κ, .update a q f k, L, n, i, g, G⟩ := fun s S => by
  have z := H _ (S.update h hf)
  have ho := S.led _ (List.mem_of_getElem? h)
  unfold MSx at z ⊢
  cases md with
  | none => exact wpOwn_bind (m := updatePart a q f) (f := k) (wpOwn_of_wpAny (wpAny_updatePart ho z))
  | some fk => exact fun fs hf => s_cmd _ _ _ _ _ _ (m := updatePart a q f) (k := k) (wpAny_updatePart ho (z fs hf))
theorem ms_fresh {k : Tok → Sem Fin} (H : MS V ⟨c, md, κ, k i, L, n, i + 1, g, G⟩) : MS V ⟨c, md, κ, .fresh k, L, n, i, g, G⟩ := fun s S => by
  have z := H { s with toks := s.toks + 1 } ⟨S.size, by show s.toks + 1 = i + 1; rw [S.toks], S.gsz, S.gens, S.gnd, S.bare, S.drawn, S.os, S.led, S.nd, S.off, S.keep⟩
  have e := S.toks
  unfold MSx at z ⊢
  obtain ⟨h, gs, d, t, os⟩ := s
  dsimp only at e
  subst e
  cases md with
  | none => exact y_fresh _ _ _ _ _ _ _ _ _ _ _ _ _ z
  | some fk => exact fun fs hf => s_fresh _ _ _ _ _ _ _ _ _ _ _ _ (z fs hf)
theorem ms_newGen {k : Nat → Sem Fin} (H : MS V ⟨c, md, κ, k g, L, n, i, g + 1, (g, .fresh c') :: G⟩) : MS V ⟨c, md, κ, .newGen c' k, L, n, i, g, G⟩ := fun s S => by
  have z := H _ (S.newGen c')
  have e := S.gsz
  unfold MSx at z ⊢
  obtain ⟨h, gs, d, t, os⟩ := s
  dsimp only at e
  subst e
  cases md with
  | none => exact y_newGen _ _ _ _ _ _ _ _ _ _ _ _ _ _ z
  | some fk => exact fun fs hf => s_newGen _ _ _ _ _ _ _ _ _ _ _ _ _ (z fs hf)
theorem ms_handled_none {k : Option Value → Sem Fin} (H : MS V ⟨c, none, κ, k (aroundOf V true κ).handled, L, n, i, g, G⟩) : MS V ⟨c, none, κ, .handled false k, L, n, i, g, G⟩ := fun s S =>
  y_handled _ _ _ _ _ _ _ _ _ (H s S)
theorem ms_handled_some {k : Option Value → Sem Fin} {fk : List Fk} (H : MS V ⟨c, some fk, κ, k ((aroundOf V false κ).over c (fk.map Fk.fr)).handled, L, n, i, g, G⟩) : MS V ⟨c, some fk, κ, .handled false k, L, n, i, g, G⟩ := fun s S fs hf => by
  refine s_handled _ _ _ _ _ _ _ _ ?_
  have e : ((aroundOf V false κ).over c fs).handled = ((aroundOf V false κ).over c (fk.map Fk.fr)).handled := by
    show (marksOver fs _).1 = (marksOver (fk.map Fk.fr) _).1
    rw [hf.marks]
  rw [e]
  exact H s S fs hf
theorem ms_call {hd : Option Value} {gd : Bool} {l : List Value} {k : Result → Sem Fin} (hm : okMark hd = true) (H : MS V ⟨c', none, .ret c hd k κ, denote table c', L, n, i, g, G⟩) : MS V ⟨c, none, κ, .call c' hd gd l k, L, n, i, g, G⟩ := fun s S => by
  have hnb : hd ≠ some byPass := by
    intro e
    subst e
    simp [okMark] at hm
  exact y_call _ _ _ _ _ _ _ _ _ _ _ _ _ hnb (y_code _ _ _ _ _ _ (H s S))
theorem ms_con {hd : Option Value} {gd : Bool} {l : List Value} {k : Result → Sem Fin} {ρ : Result} {L' : Led} {n' i' g' : Nat} (hm : okMark hd = true)
    (C : ∀ s, Sat V L n i g G s → ∀ R : Result → Shared → Prop, (∀ s', Sat V L' n' i' g' G s' → R ρ s') → codeAny (model V.prog V.w) (aroundOf V true (.ret c hd k κ)) c' R s)
    (H : MS V ⟨c, none, κ, k ρ, L', n', i', g', G⟩) : MS V ⟨c, none, κ, .call c' hd gd l k, L, n, i, g, G⟩ := fun s S => by
  have hnb : hd ≠ some byPass := by
    intro e
    subst e
    simp [okMark] at hm
  exact y_call _ _ _ _ _ _ _ _ _ _ _ _ _ hnb (C s S _ fun s' S' => H s' S')
theorem ms_con_some {hd : Option Value} {gd : Bool} {l : List Value} {k : Result → Sem Fin} {ρ : Result} {L' : Led} {n' i' g' : Nat} {fk : List Fk} (hm : okMark hd = true)
    (C : ∀ A, A.handled = (((aroundOf V false κ).over c (fk.map Fk.fr)).mark hd).handled → ∀ s, Sat V L n i g G s → ∀ R : Result → Shared → Prop, (∀ s', Sat V L' n' i' g' G s' → R ρ s') → codeAny (model V.prog V.w) A c' R s)
    (H : MS V ⟨c, some fk, κ, k ρ, L', n', i', g', G⟩) : MS V ⟨c, some fk, κ, .call c' hd gd l k, L, n, i, g, G⟩ := fun s S fs hf => by
  have hnb : hd ≠ some byPass := by
    intro e
    subst e
    simp [okMark] at hm
  have e : (Sem.call c' hd gd l k : Sem Fin) = (Sem.call c' hd gd l (fun r => .pure r) : Sem Result).wrap k .raise id id := rfl
  show SegX _ _ _ (Sem.call c' hd gd l k) fs s _
  rw [e]
  refine s_cmd _ _ _ _ _ _ ?_
  refine x_call (C _ ?_ s S _ fun s' S' => ?_) hnb
  · show (((aroundOf V false κ).over c fs).mark hd).handled = _
    have e : ((aroundOf V false κ).over c fs).handled = ((aroundOf V false κ).over c (fk.map Fk.fr)).handled := by
      show (marksOver fs _).1 = (marksOver (fk.map Fk.fr) _).1
      rw [hf.marks]
    unfold Around.mark
    simp only [e]
  exact wpAny_pure (H s' S' fs hf)
theorem erase_perm {α : Type} : ∀ {L : List α} {j : Nat} {p : α}, L[j]? = some p → (p :: L.eraseIdx j).Perm L
  | [], j, p, h => by cases h
  | x :: l, 0, p, h => by
    simp only [List.getElem?_cons_zero, Option.some.injEq] at h
    subst h; exact List.Perm.refl _
  | x :: l, j + 1, p, h => by
    simp only [List.getElem?_cons_succ] at h
    exact (List.Perm.swap x p _).trans (List.Perm.cons x (erase_perm h))
theorem pullN_perm : ∀ {pre : Led} {hs : List Nat} {L : Led} {x : Led × Led × List Nat}, pullN pre hs L = some x → (x.1 ++ x.2.1).Perm L
  | [], hs, L, x, h => by cases h; exact List.Perm.refl _
  | _ :: _, [], _, _, h => by cases h
  | q :: pre, j :: hs, L, x, h => by
    unfold pullN at h
    split at h
    · cases h
    · rename_i p hp
      split at h
      · cases h
      · rename_i y hy
        cases h
        have z := pullN_perm hy
        exact (List.Perm.cons _ z).trans (erase_perm hp)
theorem Sat.perm {s : Shared} {L' : Led} (S : Sat V L n i g G s) (p : L'.Perm L) : Sat V L' n i g G s :=
  ⟨S.size, S.toks, S.gsz, S.gens, S.gnd, S.bare, S.drawn, S.os, fun q hq => S.led q (p.mem_iff.mp hq), (p.map _).nodup_iff.mpr S.nd, fun q hq => S.off q (p.mem_iff.mp hq), S.keep⟩
theorem ruleR_ok {X : Cx} {hs : List Nat} {L : Led} {x : Rl × Led × Led × List Nat} (h : ruleR X hs L = some x) : (∃ j, X.con j = some x.1) ∧ (x.2.1 ++ x.2.2.1).Perm L := by
  unfold ruleR at h
  split at h
  · cases h
  · split at h
    · cases h
    · split at h
      · cases h
      · rename_i r hr
        split at h
        · cases h
        · rename_i y hy
          cases h
          exact ⟨⟨_, hr⟩, pullN_perm hy⟩
theorem ms_call_some {hd : Option Value} {gd : Bool} {l : List Value} {k : Result → Sem Fin} {fk : List Fk} (H : MS V ⟨c', some (⟨k, hd, gd, c⟩ :: fk), κ, denote table c', L, n, i, g, G⟩) : MS V ⟨c, some fk, κ, .call c' hd gd l k, L, n, i, g, G⟩ := fun s S fs hf =>
  s_call _ _ _ _ _ _ _ _ _ _ _ _ fun p => H s S _ (.cons (f := ⟨k, hd, gd, c⟩) hf)
theorem ms_again (hq : c'.quiet = true) (H : MS V ⟨c', md, κ, denote table c', L, n, i, g, G⟩) : MS V ⟨c, md, κ, .pure (.again c'), L, n, i, g, G⟩ := by
  refine ms_lift (by rfl) (by rfl) (fun s mdf S z => ?_) H
  cases mdf with
  | none => exact y_pure _ _ _ _ _ _ _ _ _ (y_again _ _ _ _ _ _ hq (y_code _ _ _ _ _ _ z))
  | some fs => exact s_again _ _ _ _ _ _ _ _ hq z
theorem ms_pop_none {r : Result} {hd : Option Value} {k : Result → Sem Fin} {t : Sem Fin} (ht : t = leafOf r) (H : MS V ⟨c', none, κ, k r, L, n, i, g, G⟩) : MS V ⟨c, none, .ret c' hd k κ, t, L, n, i, g, G⟩ := fun s S => by
  have key : endOf V (.ret c' hd k κ) r s := H s S
  cases r with
  | ok f => subst ht; exact y_pure _ _ _ _ _ _ _ _ _ (y_done _ _ _ _ _ _ key)
  | error e => subst ht; exact y_raise _ _ _ _ _ _ _ _ _ (y_err _ _ _ key)
theorem ms_pop_some {r : Result} {f : Fk} {fk : List Fk} {t : Sem Fin} (ht : t = leafOf r) (H : MS V ⟨f.c, some fk, κ, f.k r, L, n, i, g, G⟩) : MS V ⟨c, some (f :: fk), κ, t, L, n, i, g, G⟩ := fun s S fs hf => by
  cases hf with
  | cons hf => exact s_pop _ _ _ _ _ _ _ r t ht _ _ _ _ _ _ _ (H s S _ hf)
theorem ms_gen_end {r : Result} {t : Sem Fin} {x : Nat} {k : GenResult → Sem Fin} {j : Nat} {y : Gk} (ht : t = leafOf r) (h : G[j]? = some (x, y)) (H : MS V ⟨c', none, κ, k (End.ret r).result, L, n, i, g, G.set j (x, .fin)⟩) :
    MS V ⟨c, some [], .gen x c' k κ, t, L, n, i, g, G⟩ := fun s S fs hf => by
  cases hf
  refine s_end _ _ _ _ _ _ r t ht ?_
  exact H _ (S.setGen (z := .finished) h rfl rfl)
theorem ms_yield {v : Value} {l : List Value} {kk : Resume → Sem Fin} {x : Nat} {k : GenResult → Sem Fin} {j : Nat} {y : Gk} {fk : List Fk} (h : G[j]? = some (x, y)) (hfree : fk.any (·.gd) = false) (H : MS V ⟨c', none, κ, k (.yielded v), L, n, i, g, G.set j (x, .susp kk c fk)⟩) :
    MS V ⟨c, some fk, .gen x c' k κ, .yield v false l kk, L, n, i, g, G⟩ := fun s S fs hf => by
  refine s_yield _ _ _ _ _ _ _ _ _ _ hf.split (hf.free hfree) fun p => ?_
  have e : (End.susp v false l kk c p fs).genState = .suspended kk l c p fs false := by
    show GenState.suspended kk l c p fs (false || fs.any Frame.guarded) = _
    rw [hf.free hfree]; rfl
  have S' := S.setGen (z := (End.susp v false l kk c p fs).genState) (y := .susp kk c fk) h (by rw [e]; rfl) (by rw [e]; exact ⟨l, p, fs, rfl, hf⟩)
  exact H _ S'
theorem ms_genState {x : Nat} {k : Seen → Sem Fin} {j : Nat} {y : Gk} {st : GenStatus} (h : G[j]? = some (x, y)) (hy : ∀ gs, GM y (some gs) → gs.seen.1 = st) (hk : k = fun s => k (s.1, none)) (H : MS V ⟨c, md, κ, k (st, none), L, n, i, g, G⟩) :
    MS V ⟨c, md, κ, .genState x k, L, n, i, g, G⟩ := by
  refine ms_lift (by rfl) (by rfl) (fun s mdf S z => ?_) H
  have hm := S.gens _ (List.mem_of_getElem? h)
  have hlt := GM.lt hm
  dsimp only at hlt hm
  rw [Array.getElem?_eq_getElem hlt] at hm
  have e := hy _ hm
  have e2 : k (s.gens[x]).seen = k (st, none) := by
    have := congrFun hk (s.gens[x]).seen
    rw [this, e]
  cases mdf with
  | none => exact y_genState _ _ _ _ _ _ _ _ _ _ _ (Array.getElem?_eq_getElem hlt) (by rw [e2]; exact z)
  | some fs => exact s_genState _ _ _ _ _ _ _ _ _ _ (Array.getElem?_eq_getElem hlt) (by rw [e2]; exact z)
theorem ms_resume_fresh {x : Nat} {l : List Value} {k : GenResult → Sem Fin} {j : Nat} {c₀ : Code} (h : G[j]? = some (x, .fresh c₀)) (H : MS V ⟨c₀, some [], .gen x c k κ, denote table c₀, L, n, i, g, G.set j (x, .run)⟩) :
    MS V ⟨c, none, κ, .resume x (.send .none) l k, L, n, i, g, G⟩ := fun s S => by
  have hm : s.gens[x]? = some (.fresh c₀) := S.gens _ (List.mem_of_getElem? h)
  exact y_resume_f _ _ _ _ _ _ _ _ _ _ _ _ hm (H _ (S.setGen (z := .running) h rfl rfl) [] .nil)
theorem ms_resume_susp {x : Nat} {r : Resume} {l : List Value} {k : GenResult → Sem Fin} {j : Nat} {k₀ : Resume → Sem Fin} {c₀ : Code} {fk : List Fk} (h : G[j]? = some (x, .susp k₀ c₀ fk))
    (H : MS V ⟨c₀, some fk, .gen x c k κ, k₀ r, L, n, i, g, G.set j (x, .run)⟩) : MS V ⟨c, none, κ, .resume x r l k, L, n, i, g, G⟩ := fun s S => by
  obtain ⟨l₀, p₀, fs, hm, hf⟩ : GM (.susp k₀ c₀ fk) s.gens[x]? := S.gens _ (List.mem_of_getElem? h)
  exact y_resume_s _ _ _ _ _ _ _ _ _ _ _ _ _ _ _ _ _ _ hm (H _ (S.setGen (z := .running) h rfl rfl) fs hf)
theorem depK_is {V : XV} : ∀ {κ : Kont} {d : Nat}, depK κ = some d → (aroundOf V true κ).depth ≤ V.A₀.depth + d ∧ (aroundOf V true κ).units ≤ V.A₀.units + d
  | .base, d, h => by cases h; exact ⟨Nat.le_refl _, Nat.le_refl _⟩
  | .ret c hd k κ, d, h => by
    unfold depK at h
    split at h
    · rename_i d' hd'
      cases h
      have := depK_is (V := V) hd'
      constructor
      · show (aroundOf V true κ).depth + c.weight ≤ _
        omega
      · show (aroundOf V true κ).units + c.cUnits ≤ _
        omega
    · cases h
  | .gen .., _, h => by cases h
  | .genS .., _, h => by cases h
theorem ms_head {k : List (Code × Pos) → Sem Fin} {t : Sem Fin} (e : (fun (p : Pos) (l : List (Code × Pos)) => k ((c, p) :: l)) = fun _ _ => t) (H : MS V ⟨c, none, κ, t, L, n, i, g, G⟩) : MS V ⟨c, none, κ, .stack k, L, n, i, g, G⟩ := fun s S =>
  by
    apply y_stack
    intro p l _
    rw [(congrFun (congrFun e p) l : k ((c, p) :: l) = t)]
    exact H s S
theorem ms_enter {f : Unit → Sem Fin} {d : Nat} (hd : depK κ = some d) (hl : V.h₀.NoLimit) (hr : V.A₀.depth + d + c.weight < recursionLimit) (H : MS V ⟨c, none, κ, f (), L, n, i, g, G⟩) : MS V ⟨c, none, κ, Sem.bind enterFrame f, L, n, i, g, G⟩ := fun s S => by
  have z := H s S
  refine wpOwn_bind (m := enterFrame) (f := f) (wpOwn_of_wpAny (wpAny_enterFrame (hl.keeps S.keep) ?_ z))
  show (aroundOf V true κ).depth + c.weight < recursionLimit
  have := (depK_is (V := V) hd).1
  omega
theorem ms_wake {f : Unit → Sem Fin} {d : Nat} (hd : depK κ = some d) (hl : V.h₀.NoLimit) (hr : V.A₀.depth + d + c.weight < recursionLimit) (H : MS V ⟨c, none, κ, f (), L, n, i, g, G⟩) : MS V ⟨c, none, κ, Sem.bind roomToWake f, L, n, i, g, G⟩ := fun s S => by
  have z := H s S
  refine wpOwn_bind (m := roomToWake) (f := f) (wpOwn_of_wpAny (wpAny_roomToWake (hl.keeps S.keep) ?_ z))
  show (aroundOf V true κ).depth + c.weight < recursionLimit
  have := (depK_is (V := V) hd).1
  omega
theorem ms_room {f : Unit → Sem Fin} {d : Nat} {what : String} (hd : depK κ = some d) (hr : V.A₀.units + d + c.cUnits < cLine) (H : MS V ⟨c, none, κ, f (), L, n, i, g, G⟩) : MS V ⟨c, none, κ, Sem.bind (cRoom what) f, L, n, i, g, G⟩ := fun s S => by
  have z := H s S
  refine wpOwn_bind (m := cRoom what) (f := f) (wpOwn_of_wpAny (wpAny_cRoom ?_ z))
  show (aroundOf V true κ).units + c.cUnits < cLine
  have := (depK_is (V := V) hd).2
  omega
end
section
variable {X : Cx}
noncomputable def Good (X : Cx) (ih : OutT) : Prop := ∀ c md κ t L n i g G hs pd ow, (ih c md κ t L n i g G hs pd ow).2.Paid → MS X.V (ih c md κ t L n i g G hs pd ow).1 →
  MS X.V ⟨c, md, κ, t, L, n, i, g, G⟩ ∧ (∀ k e, pd = some (k, e) → MS X.V e) ∧ ow.Paid
noncomputable abbrev Want (X : Cx) (c : Code) (md : Option (List Fk)) (κ : Kont) (t : Sem Fin) (L : Led) (n i g : Nat) (G : Gl) (pd : Option (Nat × St)) (ow : Owes) : Prop :=
  MS X.V ⟨c, md, κ, t, L, n, i, g, G⟩ ∧ (∀ k e, pd = some (k, e) → MS X.V e) ∧ ow.Paid
theorem good_stop : Good X stopR := by
  intro c md κ t L n i g G hs pd ow hp hm
  cases pd with
  | none => exact ⟨hm, fun _ _ e => (by cases e), hp⟩
  | some x => exact absurd hp.bad (by simp [stopR])
theorem Paid.st_cons {ow : Owes} {a b : St} (h : Owes.Paid { ow with st := (a, b) :: ow.st }) : a = b ∧ ow.Paid := by
  have := h.st
  simp only [List.map_cons, List.cons.injEq] at this
  exact ⟨this.1, ⟨h.ad, h.tr, this.2, h.gs, h.dp, h.sk, h.hn, h.cn, h.bad⟩⟩
theorem Paid.ad_cons {ow : Owes} {a b : Addr} (h : Owes.Paid { ow with ad := (a, b) :: ow.ad }) : a = b ∧ ow.Paid := by
  have := h.ad
  simp only [List.map_cons, List.cons.injEq] at this
  exact ⟨this.1, ⟨this.2, h.tr, h.st, h.gs, h.dp, h.sk, h.hn, h.cn, h.bad⟩⟩
theorem Paid.adgs_cons {ow : Owes} {a b : Addr} {k k' : Seen → Sem Fin} (h : Owes.Paid { ow with ad := (a, b) :: ow.ad, gs := (k, k') :: ow.gs }) : a = b ∧ k = k' ∧ ow.Paid := by
  have h1 := h.ad
  have h2 := h.gs
  simp only [List.map_cons, List.cons.injEq] at h1 h2
  exact ⟨h1.1, h2.1, ⟨h1.2, h.tr, h.st, h2.2, h.dp, h.sk, h.hn, h.cn, h.bad⟩⟩
theorem Paid.tr_cons {ow : Owes} {a b : Sem Fin} (h : Owes.Paid { ow with tr := (a, b) :: ow.tr }) : a = b ∧ ow.Paid := by
  have := h.tr
  simp only [List.map_cons, List.cons.injEq] at this
  exact ⟨this.1, ⟨h.ad, this.2, h.st, h.gs, h.dp, h.sk, h.hn, h.cn, h.bad⟩⟩
theorem Paid.trdp_cons {ow : Owes} {a b : Sem Fin} {d : Nat} (h : Owes.Paid { ow with tr := (a, b) :: ow.tr, dp := d :: ow.dp }) : a = b ∧ d ≤ 200 ∧ ow.Paid := by
  have := h.tr
  simp only [List.map_cons, List.cons.injEq] at this
  have hd := h.dp
  simp only [List.all_cons, Bool.and_eq_true] at hd
  exact ⟨this.1, Nat.le_of_ble_eq_true hd.1, ⟨h.ad, this.2, h.st, h.gs, hd.2, h.sk, h.hn, h.cn, h.bad⟩⟩
theorem Paid.sk_cons {ow : Owes} {a b : Pos → List (Code × Pos) → Sem Fin} (h : Owes.Paid { ow with sk := (a, b) :: ow.sk }) : a = b ∧ ow.Paid := by
  have := h.sk
  simp only [List.map_cons, List.cons.injEq] at this
  exact ⟨this.1, ⟨h.ad, h.tr, h.st, h.gs, h.dp, this.2, h.hn, h.cn, h.bad⟩⟩
theorem Paid.cn_cons {ow : Owes} {a b : Code × Led × Nat × Nat × Nat} (h : Owes.Paid { ow with cn := (a, b) :: ow.cn }) : a = b ∧ ow.Paid := by
  have := h.cn
  simp only [List.map_cons, List.cons.injEq] at this
  exact ⟨this.1, ⟨h.ad, h.tr, h.st, h.gs, h.dp, h.sk, h.hn, this.2, h.bad⟩⟩
theorem Paid.cnhn_cons {ow : Owes} {a b : Code × Led × Nat × Nat × Nat} {x : Option Value} (h : Owes.Paid { ow with cn := (a, b) :: ow.cn, hn := (x, none) :: ow.hn }) : a = b ∧ x = none ∧ ow.Paid := by
  have := h.cn
  simp only [List.map_cons, List.cons.injEq] at this
  have h9 := h.hn
  simp only [List.map_cons, List.cons.injEq] at h9
  exact ⟨this.1, h9.1, ⟨h.ad, h.tr, h.st, h.gs, h.dp, h.sk, h9.2, this.2, h.bad⟩⟩
theorem Paid.adtr_cons {ow : Owes} {a b : Addr} {t t' : Sem Fin} (h : Owes.Paid { ow with ad := (a, b) :: ow.ad, tr := (t, t') :: ow.tr }) : a = b ∧ t = t' ∧ ow.Paid := by
  have h1 := h.ad
  have h2 := h.tr
  simp only [List.map_cons, List.cons.injEq] at h1 h2
  exact ⟨h1.1, h2.1, ⟨h1.2, h2.2, h.st, h.gs, h.dp, h.sk, h.hn, h.cn, h.bad⟩⟩
theorem good_tick {ih : OutT} (W : Good X ih) : Good X (tickR ih) := by
  intro c md κ t L n i g G hs pd ow hp hm
  cases pd with
  | none => exact W _ _ _ _ _ _ _ _ _ _ _ _ hp hm
  | some x =>
    obtain ⟨k, e⟩ := x
    cases k with
    | zero =>
      have z := W _ _ _ _ _ _ _ _ _ _ _ _ hp hm
      obtain ⟨q, w⟩ := Paid.st_cons z.2.2
      refine ⟨z.1, fun k' e' he => ?_, w⟩
      cases he
      rw [q]; exact z.1
    | succ k =>
      have z := W _ _ _ _ _ _ _ _ _ _ _ _ hp hm
      refine ⟨z.1, fun k' e' he => ?_, z.2.2⟩
      cases he
      exact z.2.1 k e rfl
theorem halt {c : Code} {md : Option (List Fk)} {κ : Kont} {t : Sem Fin} {L : Led} {n i g : Nat} {G : Gl} {hs : List Nat} {pd : Option (Nat × St)} {ow : Owes} (hp : (stopR c md κ t L n i g G hs pd ow).2.Paid) (hm : MS X.V (stopR c md κ t L n i g G hs pd ow).1) : Want X c md κ t L n i g G pd ow :=
  good_stop c md κ t L n i g G hs pd ow hp hm
theorem good_pop {ih : OutT} (W : Good X ih) (r : Result) (c : Code) (md : Option (List Fk)) (κ : Kont) (t : Sem Fin) (ht : t = leafOf r) (L : Led) (n i g : Nat) (G : Gl) (hs : List Nat) (pd : Option (Nat × St)) (ow : Owes)
    (hp : (popR ih r c md κ t L n i g G hs pd ow).2.Paid) (hm : MS X.V (popR ih r c md κ t L n i g G hs pd ow).1) : Want X c md κ t L n i g G pd ow := by
  have GT := good_tick W
  cases md with
  | none =>
    cases κ with
    | ret c' hd k κ' =>
      have z := GT _ _ _ _ _ _ _ _ _ _ _ _ hp hm
      exact ⟨ms_pop_none ht z.1, z.2⟩
    | base => exact halt (hs := hs) hp hm
    | gen => exact halt (hs := hs) hp hm
    | genS => exact halt (hs := hs) hp hm
  | some fs =>
    cases fs with
    | nil =>
      cases κ with
      | gen x c' k κ' =>
        cases hs with
        | nil => exact halt (hs := []) hp hm
        | cons h hs' =>
          cases e : G[h]? with
          | none => simp only [popR, e] at hp hm; exact halt (hs := []) hp hm
          | some p =>
            simp only [popR, e] at hp hm
            have z := GT _ _ _ _ _ _ _ _ _ _ _ _ hp hm
            obtain ⟨q, w⟩ := Paid.ad_cons z.2.2
            refine ⟨?_, z.2.1, w⟩
            subst q
            exact ms_gen_end ht e z.1
      | base => exact halt (hs := hs) hp hm
      | ret => exact halt (hs := hs) hp hm
      | genS => exact halt (hs := hs) hp hm
    | cons f fs' =>
      have z := GT _ _ _ _ _ _ _ _ _ _ _ _ hp hm
      exact ⟨ms_pop_some ht z.1, z.2⟩
theorem good_load {ih : OutT} (O : X.Ok) (W : Good X ih) (a : Addr) (k : Obj → Sem Fin) (c : Code) (md : Option (List Fk)) (κ : Kont) (t : Sem Fin) (L : Led) (n i g : Nat) (G : Gl) (hs : List Nat) (pd : Option (Nat × St)) (ow : Owes)
    (up : ∀ o, (∀ s, Sat X.V L n i g G s → s.heap.get? a = some o) → MS X.V ⟨c, md, κ, k o, L, n, i, g, G⟩ → MS X.V ⟨c, md, κ, t, L, n, i, g, G⟩)
    (hp : (loadR X ih a k c md κ t L n i g G hs pd ow).2.Paid) (hm : MS X.V (loadR X ih a k c md κ t L n i g G hs pd ow).1) : Want X c md κ t L n i g G pd ow := by
  have GT := good_tick W
  cases hs with
  | nil => exact halt (hs := []) hp hm
  | cons h hs' =>
    cases h with
    | zero =>
      cases e : X.top a with
      | none => simp only [loadR, e] at hp hm; exact halt (hs := []) hp hm
      | some o =>
        simp only [loadR, e] at hp hm
        have z := GT _ _ _ _ _ _ _ _ _ _ _ _ hp hm
        exact ⟨up o (fun s S => S.keep _ _ (O.top _ _ e)) z.1, z.2⟩
    | succ j =>
      cases eb : Nat.ble 999 j with
      | false =>
        cases e : L[j]? with
        | none => simp only [loadR, eb, e] at hp hm; exact halt (hs := []) hp hm
        | some p =>
          simp only [loadR, eb, e] at hp hm
          have z := GT _ _ _ _ _ _ _ _ _ _ _ _ hp hm
          obtain ⟨q, w⟩ := Paid.ad_cons z.2.2
          refine ⟨up p.2 (fun s S => ?_) z.1, z.2.1, w⟩
          rw [← q]; exact S.led p (List.mem_of_getElem? e)
      | true =>
        cases e : L[j - 999]? with
        | none => simp only [loadR, eb, e] at hp hm; exact halt (hs := []) hp hm
        | some p =>
          cases eu : unown p.2 with
          | none => simp only [loadR, eb, e, eu] at hp hm; exact halt (hs := []) hp hm
          | some A =>
            cases eo : X.own c a A with
            | none => simp only [loadR, eb, e, eu, eo] at hp hm; exact halt (hs := []) hp hm
            | some x =>
              simp only [loadR, eb, e, eu, eo] at hp hm
              have z := GT _ _ _ _ _ _ _ _ _ _ _ _ hp hm
              obtain ⟨q, q2, w⟩ := Paid.adtr_cons z.2.2
              refine ⟨up p.2 (fun s S => ?_) ?_, z.2.1, w⟩
              · rw [← q]; exact S.led p (List.mem_of_getElem? e)
              · rw [q2, O.own eo]; exact z.1
theorem good_stack {ih : OutT} (O : X.Ok) (W : Good X ih) (k : List (Code × Pos) → Sem Fin) (c : Code) (md : Option (List Fk)) (κ : Kont) (L : Led) (n i g : Nat) (G : Gl) (hs : List Nat) (pd : Option (Nat × St)) (ow : Owes)
    (hp : (stepR X ih c md κ (.stack k) L n i g G hs pd ow).2.Paid) (hm : MS X.V (stepR X ih c md κ (.stack k) L n i g G hs pd ow).1) : Want X c md κ (.stack k) L n i g G pd ow := by
  have GT := good_tick W
  cases md with
  | some fs => exact halt (hs := hs) hp hm
  | none =>
    cases ed : depK κ with
    | none => simp only [stepR, pureR, askR, allocR, updateR, handledR, stackR, callR, genStateR, resumeR, yieldR, ed] at hp hm; exact halt (hs := hs) hp hm
    | some d =>
      rcases hs with _ | ⟨h, hs'⟩
      · simp only [stepR, pureR, askR, allocR, updateR, handledR, stackR, callR, genStateR, resumeR, yieldR, ed] at hp hm; exact halt (hs := []) hp hm
      · rcases h with _ | _ | _ | v
        · cases ek : k [] with
          | load a q k' =>
            cases eo : X.top cStatics with
            | none => simp only [stepR, pureR, askR, allocR, updateR, handledR, stackR, callR, genStateR, resumeR, yieldR, ed, ek, eo] at hp hm; exact halt (hs := []) hp hm
            | some o =>
              simp only [stepR, pureR, askR, allocR, updateR, handledR, stackR, callR, genStateR, resumeR, yieldR, ed, ek, eo] at hp hm
              have z := GT _ _ _ _ _ _ _ _ _ _ _ _ hp hm
              obtain ⟨q1, q2, w⟩ := Paid.trdp_cons z.2.2
              refine ⟨?_, z.2.1, w⟩
              rw [q1, O.ent]
              have := O.dep
              have := O.rm
              exact ms_enter ed O.lim (by omega) z.1
          | _ => simp only [stepR, pureR, askR, allocR, updateR, handledR, stackR, callR, genStateR, resumeR, yieldR, ed, ek] at hp hm; exact halt (hs := []) hp hm
        · cases ek : k [] with
          | load a q k' =>
            cases eo : X.top cStatics with
            | none => simp only [stepR, pureR, askR, allocR, updateR, handledR, stackR, callR, genStateR, resumeR, yieldR, ed, ek, eo] at hp hm; exact halt (hs := []) hp hm
            | some o =>
              simp only [stepR, pureR, askR, allocR, updateR, handledR, stackR, callR, genStateR, resumeR, yieldR, ed, ek, eo] at hp hm
              have z := GT _ _ _ _ _ _ _ _ _ _ _ _ hp hm
              obtain ⟨q1, q2, w⟩ := Paid.trdp_cons z.2.2
              refine ⟨?_, z.2.1, w⟩
              rw [q1, O.wak]
              have := O.dep
              have := O.rm
              exact ms_wake ed O.lim (by omega) z.1
          | _ => simp only [stepR, pureR, askR, allocR, updateR, handledR, stackR, callR, genStateR, resumeR, yieldR, ed, ek] at hp hm; exact halt (hs := []) hp hm
        · simp only [stepR, pureR, askR, allocR, updateR, handledR, stackR, callR, genStateR, resumeR, yieldR, ed] at hp hm
          have z := GT _ _ _ _ _ _ _ _ _ _ _ _ hp hm
          obtain ⟨q1, w⟩ := Paid.sk_cons z.2.2
          exact ⟨ms_head q1 z.1, z.2.1, w⟩
        · simp only [stepR, pureR, askR, allocR, updateR, handledR, stackR, callR, genStateR, resumeR, yieldR, ed] at hp hm
          have z := GT _ _ _ _ _ _ _ _ _ _ _ _ hp hm
          obtain ⟨q1, q2, w⟩ := Paid.trdp_cons z.2.2
          obtain ⟨what, hw⟩ := O.rom v
          refine ⟨?_, z.2.1, w⟩
          rw [q1, hw]
          have := O.unt
          have := O.rm
          exact ms_room ed (by omega) z.1
theorem Paid.dp_cons {ow : Owes} {d : Nat} (h : Owes.Paid { ow with dp := d :: ow.dp }) : d ≤ 200 ∧ ow.Paid := by
  have hd := h.dp
  simp only [List.all_cons, Bool.and_eq_true] at hd
  exact ⟨Nat.le_of_ble_eq_true hd.1, ⟨h.ad, h.tr, h.st, h.gs, hd.2, h.sk, h.hn, h.cn, h.bad⟩⟩
theorem good_head (O : X.Ok) {ih : OutT} (W : Good X ih) (c : Code) (κ : Kont) (L : Led) (n i g : Nat) (G : Gl) (hs : List Nat) (pd : Option (Nat × St)) (ow : Owes)
    (hp : (headR X ih c κ L n i g G hs pd ow).2.Paid) (hm : MS X.V (headR X ih c κ L n i g G hs pd ow).1) : Want X c none κ (denote table c) L n i g G pd ow := by
  have GT := good_tick W
  rw [← O.dn0]
  cases e : X.ovr c with
  | none => simp only [headR, e] at hp hm; exact GT _ _ _ _ _ _ _ _ _ _ _ _ hp hm
  | some t =>
    cases ed : depK κ with
    | none => simp only [headR, e, ed] at hp hm; exact halt (hs := hs) hp hm
    | some d =>
      simp only [headR, e, ed] at hp hm
      have z := GT _ _ _ _ _ _ _ _ _ _ _ _ hp hm
      obtain ⟨q, w⟩ := Paid.dp_cons (ow := { ow with dp := (d + c.cUnits) :: ow.dp }) z.2.2
      obtain ⟨q2, w⟩ := Paid.dp_cons w
      refine ⟨?_, z.2.1, w⟩
      rw [O.dn0]
      exact O.ovr e ed q q2 z.1
theorem good_step (O : X.Ok) {ih : OutT} (W : Good X ih) : Good X (stepR X ih) := by
  have GT := good_tick W
  intro c md κ t L n i g G hs pd ow hp hm
  cases t with
  | pure fin =>
    cases fin with
    | done f => exact good_pop W (.ok f) _ _ _ _ rfl _ _ _ _ _ _ _ _ hp hm
    | again c' =>
      cases q : c'.quiet with
      | false => simp only [stepR, pureR, askR, allocR, updateR, handledR, stackR, callR, genStateR, resumeR, yieldR, q] at hp hm; exact halt (hs := hs) hp hm
      | true =>
        cases md with
        | none =>
          simp only [stepR, pureR, askR, allocR, updateR, handledR, stackR, callR, genStateR, resumeR, yieldR, q] at hp hm
          have z := good_head O W _ _ _ _ _ _ _ _ _ _ hp hm
          exact ⟨ms_again q z.1, z.2⟩
        | some fs =>
          simp only [stepR, pureR, askR, allocR, updateR, handledR, stackR, callR, genStateR, resumeR, yieldR, q] at hp hm
          have z := GT _ _ _ _ _ _ _ _ _ _ _ _ hp hm
          rw [O.dn0] at z
          exact ⟨ms_again q z.1, z.2⟩
  | raise e => exact good_pop W (.error e) _ _ _ _ rfl _ _ _ _ _ _ _ _ hp hm
  | rule tag k =>
    have z := GT _ _ _ _ _ _ _ _ _ _ _ _ hp hm
    exact ⟨ms_skim 1 z.1, z.2⟩
  | «at» q k =>
    have z := GT _ _ _ _ _ _ _ _ _ _ _ _ hp hm
    exact ⟨ms_skim 1 z.1, z.2⟩
  | point l k =>
    have z := GT _ _ _ _ _ _ _ _ _ _ _ _ hp hm
    exact ⟨ms_skim 1 z.1, z.2⟩
  | ask k =>
    have real : MS X.V ⟨c, md, κ, k (X.rows X.r1 X.r2), L, n, i, g, G⟩ → MS X.V ⟨c, md, κ, .ask k, L, n, i, g, G⟩ := by
      intro z
      rw [O.rows] at z
      exact ms_skim 1 z
    cases hs with
    | nil => exact halt (hs := []) hp hm
    | cons h hs' =>
      rcases h with _ | _ | j
      · have z := GT _ _ _ _ _ _ _ _ _ _ _ _ hp hm
        exact ⟨real z.1, z.2⟩
      · have z := GT _ _ _ _ _ _ _ _ _ _ _ _ hp hm
        obtain ⟨q, w⟩ := Paid.tr_cons z.2.2
        refine ⟨real ?_, z.2.1, w⟩
        cases r : X.r1 with
        | false => exact z.1
        | true => rw [q]; exact z.1
      · cases pd with
        | some x => exact halt (hs := []) hp hm
        | none =>
          have z := GT _ _ _ _ _ _ _ _ _ _ _ _ hp hm
          have y := z.2.1 j _ rfl
          refine ⟨real ?_, fun _ _ e => (by cases e), z.2.2⟩
          cases r : X.r2 with
          | false => exact z.1
          | true => exact y
  | load a q k => exact good_load O W a k _ _ _ _ _ _ _ _ _ _ _ _ (fun o ho H => ms_load ho H) hp hm
  | loadIfAlive a k => exact good_load O W a (fun o => k (some o)) _ _ _ _ _ _ _ _ _ _ _ _ (fun o ho H => ms_alive ho H) hp hm
  | alloc o k =>
    cases q : o.isFreed with
    | true => simp only [stepR, pureR, askR, allocR, updateR, handledR, stackR, callR, genStateR, resumeR, yieldR, q] at hp hm; exact halt (hs := hs) hp hm
    | false =>
      simp only [stepR, pureR, askR, allocR, updateR, handledR, stackR, callR, genStateR, resumeR, yieldR, q] at hp hm
      have z := GT _ _ _ _ _ _ _ _ _ _ _ _ hp hm
      exact ⟨ms_alloc q z.1, z.2⟩
  | update a q f k =>
    cases hs with
    | nil => exact halt (hs := []) hp hm
    | cons h hs' =>
      cases h with
      | zero => exact halt (hs := []) hp hm
      | succ j =>
        cases e : L[j]? with
        | none => simp only [stepR, pureR, askR, allocR, updateR, handledR, stackR, callR, genStateR, resumeR, yieldR, e] at hp hm; exact halt (hs := []) hp hm
        | some p =>
          cases hf : (f p.2).isFreed with
          | true => simp only [stepR, pureR, askR, allocR, updateR, handledR, stackR, callR, genStateR, resumeR, yieldR, e, hf] at hp hm; exact halt (hs := []) hp hm
          | false =>
            simp only [stepR, pureR, askR, allocR, updateR, handledR, stackR, callR, genStateR, resumeR, yieldR, e, hf] at hp hm
            have z := GT _ _ _ _ _ _ _ _ _ _ _ _ hp hm
            obtain ⟨q', w⟩ := Paid.ad_cons z.2.2
            refine ⟨?_, z.2.1, w⟩
            subst q'
            exact ms_update e hf z.1
  | fresh k =>
    have z := GT _ _ _ _ _ _ _ _ _ _ _ _ hp hm
    exact ⟨ms_fresh z.1, z.2⟩
  | handled own k =>
    cases own with
    | true => exact halt (hs := hs) hp hm
    | false =>
      cases md with
      | none =>
        have z := GT _ _ _ _ _ _ _ _ _ _ _ _ hp hm
        exact ⟨ms_handled_none z.1, z.2⟩
      | some fs =>
        have z := GT _ _ _ _ _ _ _ _ _ _ _ _ hp hm
        exact ⟨ms_handled_some z.1, z.2⟩
  | stack k => exact good_stack O W k _ _ _ _ _ _ _ _ _ _ _ hp hm
  | call c' hd gd l k =>
    cases est : stopH hs with
    | true => simp only [stepR, callR, est] at hp hm; exact halt (hs := hs) hp hm
    | false =>
      cases e : okMark hd with
      | false => simp only [stepR, callQ, est, pureR, askR, allocR, updateR, handledR, stackR, callR, genStateR, resumeR, yieldR, e] at hp hm; exact halt (hs := hs) hp hm
      | true =>
        cases ec : ruleR X hs L with
        | none =>
          cases md with
          | some fs =>
            simp only [stepR, callQ, est, pureR, askR, allocR, updateR, handledR, stackR, callR, genStateR, resumeR, yieldR, e, ec] at hp hm
            have z := GT _ _ _ _ _ _ _ _ _ _ _ _ hp hm
            rw [O.dn0] at z
            exact ⟨ms_call_some z.1, z.2⟩
          | none =>
            simp only [stepR, callQ, est, pureR, askR, allocR, updateR, handledR, stackR, callR, genStateR, resumeR, yieldR, e, ec] at hp hm
            have z := good_head O W _ _ _ _ _ _ _ _ _ _ hp hm
            exact ⟨ms_call e z.1, z.2⟩
        | some x =>
          obtain ⟨⟨jc, hc⟩, hperm⟩ := ruleR_ok ec
          have RO := O.con hc
          cases el : x.1.lean with
          | true =>
            have C : ∀ A s, (x.1.m ≠ 0 → A.handled = none) → (c', x.2.1, n, i, g) = (x.1.c, x.1.pre, x.1.n, x.1.i, x.1.g) → Sat X.V L n i g G s → ∀ R : Result → Shared → Prop, (∀ s', Sat X.V (x.1.post ++ x.2.2.1) x.1.n' x.1.i' x.1.g' G s' → R x.1.res s') → codeAny (model X.V.prog X.V.w) A c' R s := by
              intro A s hA q S R HR
              simp only [Prod.mk.injEq] at q
              obtain ⟨q1, q2, q3, q4, q5⟩ := q
              rw [q1]
              refine RO A ⟨fun hf => (by rw [el] at hf; cases hf), hA⟩ x.2.2.1 G s ?_ R HR
              rw [← q2, ← q3, ← q4, ← q5]
              exact S.perm hperm
            cases em : x.1.m with
            | zero =>
              simp only [stepR, callQ, est, pureR, askR, allocR, updateR, handledR, stackR, callR, genStateR, resumeR, yieldR, e, ec, el, em] at hp hm
              have z := GT _ _ _ _ _ _ _ _ _ _ _ _ hp hm
              obtain ⟨q, w⟩ := Paid.cn_cons z.2.2
              refine ⟨?_, z.2.1, w⟩
              have er : x.1.res = .ok (.ret x.1.v) := by unfold Rl.res; rw [el]; show resL x.1.m _ = _; rw [em]; rfl
              cases md with
              | none => exact ms_con (ρ := x.1.res) e (fun s S R HR => C _ s (fun h => absurd em h) q S R HR) (by rw [er]; exact z.1)
              | some fs => exact ms_con_some (ρ := x.1.res) e (fun A _ s S R HR => C A s (fun h => absurd em h) q S R HR) (by rw [er]; exact z.1)
            | succ m1 =>
              simp only [stepR, callQ, est, pureR, askR, allocR, updateR, handledR, stackR, callR, genStateR, resumeR, yieldR, e, ec, el, em] at hp hm
              have z := GT _ _ _ _ _ _ _ _ _ _ _ _ hp hm
              obtain ⟨q, q6, w⟩ := Paid.cnhn_cons z.2.2
              refine ⟨?_, z.2.1, w⟩
              have er : x.1.res = .error x.1.v := by unfold Rl.res; rw [el]; show resL x.1.m _ = _; rw [em]; rfl
              cases md with
              | none => exact ms_con (ρ := x.1.res) e (fun s S R HR => C _ s (fun _ => q6) q S R HR) (by rw [er]; exact z.1)
              | some fs => exact ms_con_some (ρ := x.1.res) e (fun A hA s S R HR => C A s (fun _ => hA.trans q6) q S R HR) (by rw [er]; exact z.1)
          | false =>
            cases md with
            | some fs => simp only [stepR, callQ, est, pureR, askR, allocR, updateR, handledR, stackR, callR, genStateR, resumeR, yieldR, e, ec, el] at hp hm; exact halt (hs := hs) hp hm
            | none =>
              cases ed : depK (.ret c hd k κ) with
              | none => simp only [stepR, callQ, est, pureR, askR, allocR, updateR, handledR, stackR, callR, genStateR, resumeR, yieldR, e, ec, el, ed] at hp hm; exact halt (hs := hs) hp hm
              | some d =>
                cases er : Nat.ble (d + x.1.m) X.room with
                | false => simp only [stepR, callQ, est, pureR, askR, allocR, updateR, handledR, stackR, callR, genStateR, resumeR, yieldR, e, ec, el, ed, er] at hp hm; exact halt (hs := hs) hp hm
                | true =>
                  simp only [stepR, callQ, est, pureR, askR, allocR, updateR, handledR, stackR, callR, genStateR, resumeR, yieldR, e, ec, el, ed, er] at hp hm
                  have z := GT _ _ _ _ _ _ _ _ _ _ _ _ hp hm
                  obtain ⟨q, q6, w⟩ := Paid.cnhn_cons z.2.2
                  simp only [Prod.mk.injEq] at q
                  obtain ⟨q1, q2, q3, q4, q5⟩ := q
                  refine ⟨?_, z.2.1, w⟩
                  refine ms_con e (fun s S R HR => ?_) z.1
                  have er := Nat.le_of_ble_eq_true er
                  have hdk := depK_is (V := X.V) ed
                  have h1 := O.dep
                  have h2 := O.unt
                  rw [q1]
                  refine RO _ ⟨fun _ => ⟨q6, by omega, by omega⟩, fun _ => q6⟩ x.2.2.1 G s ?_ R (fun s' S' => by have z := HR s' S'; unfold Rl.res; rw [el]; exact z)
                  rw [← q2, ← q3, ← q4, ← q5]
                  exact S.perm hperm
  | newGen c' k =>
    have z := GT _ _ _ _ _ _ _ _ _ _ _ _ hp hm
    exact ⟨ms_newGen z.1, z.2⟩
  | genState x k =>
    cases hs with
    | nil => exact halt (hs := []) hp hm
    | cons h hs' =>
      cases e : G[h]? with
      | none => simp only [stepR, pureR, askR, allocR, updateR, handledR, stackR, callR, genStateR, resumeR, yieldR, e] at hp hm; exact halt (hs := []) hp hm
      | some p =>
        obtain ⟨y, p2⟩ := p
        cases p2 with
        | fresh c₀ =>
          simp only [stepR, pureR, askR, allocR, updateR, handledR, stackR, callR, genStateR, resumeR, yieldR, e] at hp hm
          have z := GT _ _ _ _ _ _ _ _ _ _ _ _ hp hm
          obtain ⟨q, q2, w⟩ := Paid.adgs_cons z.2.2
          subst q
          exact ⟨ms_genState e (fun gs hg => by cases hg; rfl) q2 z.1, z.2.1, w⟩
        | susp k₀ c₀ fk =>
          simp only [stepR, pureR, askR, allocR, updateR, handledR, stackR, callR, genStateR, resumeR, yieldR, e] at hp hm
          have z := GT _ _ _ _ _ _ _ _ _ _ _ _ hp hm
          obtain ⟨q, q2, w⟩ := Paid.adgs_cons z.2.2
          subst q
          exact ⟨ms_genState e (fun gs hg => by obtain ⟨_, _, _, hg, _⟩ := hg; cases hg; rfl) q2 z.1, z.2.1, w⟩
        | run =>
          simp only [stepR, pureR, askR, allocR, updateR, handledR, stackR, callR, genStateR, resumeR, yieldR, e] at hp hm
          have z := GT _ _ _ _ _ _ _ _ _ _ _ _ hp hm
          obtain ⟨q, q2, w⟩ := Paid.adgs_cons z.2.2
          subst q
          exact ⟨ms_genState e (fun gs hg => by cases hg; rfl) q2 z.1, z.2.1, w⟩
        | fin =>
          simp only [stepR, pureR, askR, allocR, updateR, handledR, stackR, callR, genStateR, resumeR, yieldR, e] at hp hm
          have z := GT _ _ _ _ _ _ _ _ _ _ _ _ hp hm
          obtain ⟨q, q2, w⟩ := Paid.adgs_cons z.2.2
          subst q
          exact ⟨ms_genState e (fun gs hg => by cases hg; rfl) q2 z.1, z.2.1, w⟩
  | resume x r l k =>
    cases md with
    | some fs => exact halt (hs := hs) hp hm
    | none =>
      cases hs with
      | nil => exact halt (hs := []) hp hm
      | cons h hs' =>
        cases e : G[h]? with
        | none => simp only [stepR, pureR, askR, allocR, updateR, handledR, stackR, callR, genStateR, resumeR, yieldR, e] at hp hm; exact halt (hs := []) hp hm
        | some p =>
          obtain ⟨y, p2⟩ := p
          cases p2 with
          | fresh c₀ =>
            cases r with
            | throw v => simp only [stepR, pureR, askR, allocR, updateR, handledR, stackR, callR, genStateR, resumeR, yieldR, e] at hp hm; exact halt (hs := []) hp hm
            | send v =>
              cases v with
              | none =>
                simp only [stepR, pureR, askR, allocR, updateR, handledR, stackR, callR, genStateR, resumeR, yieldR, e] at hp hm
                have z := GT _ _ _ _ _ _ _ _ _ _ _ _ hp hm
                obtain ⟨q, w⟩ := Paid.ad_cons z.2.2
                subst q
                rw [O.dn0] at z
                exact ⟨ms_resume_fresh e z.1, z.2.1, w⟩
              | _ => simp only [stepR, pureR, askR, allocR, updateR, handledR, stackR, callR, genStateR, resumeR, yieldR, e] at hp hm; exact halt (hs := []) hp hm
          | susp k₀ c₀ fk =>
            simp only [stepR, pureR, askR, allocR, updateR, handledR, stackR, callR, genStateR, resumeR, yieldR, e] at hp hm
            have z := GT _ _ _ _ _ _ _ _ _ _ _ _ hp hm
            obtain ⟨q, w⟩ := Paid.ad_cons z.2.2
            subst q
            exact ⟨ms_resume_susp e z.1, z.2.1, w⟩
          | run => simp only [stepR, pureR, askR, allocR, updateR, handledR, stackR, callR, genStateR, resumeR, yieldR, e] at hp hm; exact halt (hs := []) hp hm
          | fin => simp only [stepR, pureR, askR, allocR, updateR, handledR, stackR, callR, genStateR, resumeR, yieldR, e] at hp hm; exact halt (hs := []) hp hm
  | yield v gd l k =>
    cases md with
    | none => exact halt (hs := hs) hp hm
    | some fs =>
      cases gd with
      | true => exact halt (hs := hs) hp hm
      | false =>
        cases κ with
        | gen x c' k' κ' =>
          cases hs with
          | nil => exact halt (hs := []) hp hm
          | cons h hs' =>
            cases e : G[h]? with
            | none => simp only [stepR, pureR, askR, allocR, updateR, handledR, stackR, callR, genStateR, resumeR, yieldR, e] at hp hm; exact halt (hs := []) hp hm
            | some p =>
              cases ef : fs.any (·.gd) with
              | true => simp only [stepR, pureR, askR, allocR, updateR, handledR, stackR, callR, genStateR, resumeR, yieldR, e, ef] at hp hm; exact halt (hs := []) hp hm
              | false =>
                simp only [stepR, pureR, askR, allocR, updateR, handledR, stackR, callR, genStateR, resumeR, yieldR, e, ef] at hp hm
                have z := GT _ _ _ _ _ _ _ _ _ _ _ _ hp hm
                obtain ⟨q, w⟩ := Paid.ad_cons z.2.2
                subst q
                exact ⟨ms_yield e ef z.1, z.2.1, w⟩
        | base => exact halt (hs := hs) hp hm
        | ret => exact halt (hs := hs) hp hm
        | genS => exact halt (hs := hs) hp hm
  | unsupported => exact halt (hs := hs) hp hm
  | finish => exact halt (hs := hs) hp hm
  | register => exact halt (hs := hs) hp hm
  | choose => exact halt (hs := hs) hp hm
  | os => exact halt (hs := hs) hp hm
  | fork => exact halt (hs := hs) hp hm
  | thread => exact halt (hs := hs) hp hm
  | await => exact halt (hs := hs) hp hm
theorem good_go (O : X.Ok) : ∀ f, Good X (goR X f)
  | 0 => good_stop
  | f + 1 => good_step O (good_go O f)
end
noncomputable def Back (V : XV) (κ : Kont) (r : Result) (L : Led) (n i g : Nat) (G : Gl) : Prop := ∀ s, Sat V L n i g G s → endOf V κ r s
noncomputable def pick {α : Type} (L : List α) (idx : List Nat) : List α := idx.filterMap (fun j => L[j]?)
noncomputable def lt1 : List Nat → Bool
  | [] => true
  | a :: l => l.all (fun b => !Nat.beq a b) && lt1 l
theorem lt1_nodup : ∀ {l : List Nat}, lt1 l = true → l.Nodup
  | [], _ => List.nodup_nil
  | a :: l, h => by
    unfold lt1 at h
    simp only [Bool.and_eq_true, List.all_eq_true, Bool.not_eq_true'] at h
    rw [List.nodup_cons]
    refine ⟨fun hm => ?_, lt1_nodup h.2⟩
    have := h.1 a hm
    rw [Nat.beq_refl] at this; cases this
theorem nodup_idx {α : Type} {L : List (Nat × α)} (hn : (L.map (·.1)).Nodup) : ∀ {i j : Nat} {p q : Nat × α}, L[i]? = some p → L[j]? = some q → p.1 = q.1 → i = j := by
  intro i j p q hp hq e
  have hi : (L.map (·.1))[i]? = some p.1 := by rw [List.getElem?_map, hp]; rfl
  have hj : (L.map (·.1))[j]? = some p.1 := by rw [List.getElem?_map, hq, e]; rfl
  obtain ⟨li, ei⟩ := List.getElem?_eq_some_iff.mp hi
  obtain ⟨lj, ej⟩ := List.getElem?_eq_some_iff.mp hj
  exact (List.getElem_inj hn).mp (ei.trans ej.symm)
theorem pick_mem {α : Type} {L : List α} : ∀ {idx : List Nat} {p : α}, p ∈ pick L idx → ∃ j ∈ idx, L[j]? = some p := by
  intro idx p hp
  obtain ⟨j, hj, e⟩ := List.mem_filterMap.mp hp
  exact ⟨j, hj, e⟩
theorem pick_nodup {α : Type} {L : List (Nat × α)} (hn : (L.map (·.1)).Nodup) : ∀ {idx : List Nat}, idx.Nodup → ((pick L idx).map (·.1)).Nodup
  | [], _ => List.nodup_nil
  | a :: l, h => by
    rw [List.nodup_cons] at h
    unfold pick
    rw [List.filterMap_cons]
    split
    · exact pick_nodup hn h.2
    · rename_i p e
      rw [List.map_cons, List.nodup_cons]
      refine ⟨fun hm => ?_, pick_nodup hn h.2⟩
      obtain ⟨q, hq, eq⟩ := List.mem_map.mp hm
      obtain ⟨j, hj, ej⟩ := pick_mem hq
      exact h.1 (by rw [nodup_idx hn e ej eq.symm]; exact hj)
noncomputable def pickR {α : Type} (L : List (Nat × α)) (idx : List Nat) (k : Nat) : List (Nat × α) := pick (L.take k) idx ++ L.drop k
theorem Sat.sub {V : XV} {L L' : Led} {n i g : Nat} {G G' : Gl} {s : Shared} (S : Sat V L n i g G s) (hm : ∀ p ∈ L', p ∈ L) (hn : (L'.map (·.1)).Nodup) (hg : ∀ p ∈ G', p ∈ G) (hgn : (G'.map (·.1)).Nodup) : Sat V L' n i g G' s :=
  ⟨S.size, S.toks, S.gsz, fun p hp => S.gens p (hg p hp), hgn, S.bare, S.drawn, S.os, fun p hp => S.led p (hm p hp), hn, fun p hp => S.off p (hm p hp), S.keep⟩
theorem pickR_ok {α : Type} {L : List (Nat × α)} (hn : (L.map (·.1)).Nodup) {idx : List Nat} (k : Nat) (h : lt1 idx = true) : (∀ p ∈ pickR L idx k, p ∈ L) ∧ ((pickR L idx k).map (·.1)).Nodup := by
  have e : L = L.take k ++ L.drop k := (List.take_append_drop k L).symm
  rw [e, List.map_append, List.nodup_append] at hn
  have hp : ∀ p ∈ pick (L.take k) idx, p ∈ L.take k := fun p hp => by
    obtain ⟨j, _, e⟩ := pick_mem hp
    exact List.mem_of_getElem? e
  refine ⟨fun p hp' => ?_, ?_⟩
  · rcases List.mem_append.mp hp' with q | q
    · exact List.mem_of_mem_take (hp p q)
    · exact List.mem_of_mem_drop q
  · unfold Mine.pickR
    rw [List.map_append, List.nodup_append]
    refine ⟨pick_nodup hn.1 (lt1_nodup h), hn.2.1, fun a ha b hb => ?_⟩
    obtain ⟨p, hp1, rfl⟩ := List.mem_map.mp ha
    exact hn.2.2 _ (List.mem_map_of_mem (hp p hp1)) b hb
theorem Sat.pickR {V : XV} {L : Led} {n i g : Nat} {G : Gl} {s : Shared} (S : Sat V L n i g G s) {idx ig : List Nat} (k kg : Nat) (h : lt1 idx = true) (hg : lt1 ig = true) : Sat V (pickR L idx k) n i g (pickR G ig kg) s :=
  S.sub (pickR_ok S.nd k h).1 (pickR_ok S.nd k h).2 (pickR_ok S.gnd kg hg).1 (pickR_ok S.gnd kg hg).2
theorem back_pick {V : XV} {κ : Kont} {r : Result} {L : Led} {n i g : Nat} {G : Gl} (idx : List Nat) (k : Nat) (ig : List Nat) (kg : Nat) (h : lt1 idx = true) (hg : lt1 ig = true) (H : Back V κ r (pickR L idx k) n i g (pickR G ig kg)) : Back V κ r L n i g G := fun s S => H s (S.pickR k kg h hg)
theorem ms_pick {V : XV} {c : Code} {md : Option (List Fk)} {κ : Kont} {t : Sem Fin} {L : Led} {n i g : Nat} {G : Gl} (idx : List Nat) (k : Nat) (ig : List Nat) (kg : Nat) (h : lt1 idx = true) (hg : lt1 ig = true)
    (H : MS V ⟨c, md, κ, t, pickR L idx k, n, i, g, pickR G ig kg⟩) : MS V ⟨c, md, κ, t, L, n, i, g, G⟩ := fun s S => H s (S.pickR k kg h hg)
noncomputable def isRet : Kont → Bool
  | .ret .. => true
  | _ => false
noncomputable def backSt (κ : Kont) (r : Result) (L : Led) (n i g : Nat) (G : Gl) : St := match κ with
  | .ret c _ k κ' => ⟨c, none, κ', k r, L, n, i, g, G⟩
  | κ => ⟨.builtin "" {}, none, κ, .pure (.done .next), L, n, i, g, G⟩
theorem back_of {V : XV} {κ : Kont} {r : Result} {L : Led} {n i g : Nat} {G : Gl} (h : isRet κ = true) (H : MS V (backSt κ r L n i g G)) : Back V κ r L n i g G := fun s S => by
  cases κ with
  | ret c hd k κ' => exact H s S
  | base => cases h
  | gen => cases h
  | genS => cases h
theorem ms_done {V : XV} {c : Code} {κ : Kont} {f : Flow} {L : Led} {n i g : Nat} {G : Gl} (H : Back V κ (.ok f) L n i g G) : MS V ⟨c, none, κ, .pure (.done f), L, n, i, g, G⟩ := fun s S =>
  y_pure _ _ _ _ _ _ _ _ _ (y_done _ _ _ _ _ _ (H s S))
noncomputable def St.go (X : Cx) (f : Nat) (hs : List Nat) (st : St) : St × Owes := goR X f st.c st.md st.κ st.t st.L st.n st.i st.g st.G hs none .nil
theorem run_ms {X : Cx} (O : X.Ok) {st : St} (f : Nat) (hs : List Nat) (hp : (st.go X f hs).2.Paid) (H : MS X.V (st.go X f hs).1) : MS X.V st := (good_go O f _ _ _ _ _ _ _ _ _ _ _ _ hp H).1
noncomputable abbrev Rest (st : St) (idx : List Nat) (k : Nat) (ig : List Nat) (kg : Nat) : Led × Nat × Nat × Nat × Gl := (pickR st.L idx k, st.n, st.i, st.g, pickR st.G ig kg)
noncomputable abbrev Owed := (List Addr × List (Sem Fin) × List St) × (List (Seen → Sem Fin) × List (Pos → List (Code × Pos) → Sem Fin)) × List (Option Value) × List (Code × Led × Nat × Nat × Nat) × Bool × Bool
noncomputable def Owes.left (o : Owes) : Owed := ((o.ad.map (·.1), o.tr.map (·.1), o.st.map (·.1)), (o.gs.map (·.1), o.sk.map (·.1)), o.hn.map (·.1), o.cn.map (·.1), o.dp.all (fun d => Nat.ble d 200), o.bad)
noncomputable def Owes.right (o : Owes) : Owed := ((o.ad.map (·.2), o.tr.map (·.2), o.st.map (·.2)), (o.gs.map (·.2), o.sk.map (·.2)), o.hn.map (·.2), o.cn.map (·.2), true, false)
theorem paid_of {o : Owes} (h : o.left = o.right) : o.Paid := by
  simp only [Owes.left, Owes.right, Prod.mk.injEq] at h
  obtain ⟨⟨h1, h2, h3⟩, ⟨h4, h5⟩, h6, h7, h8, h9⟩ := h
  exact ⟨h1, h2, h3, h4, h8, h5, h6, h7, h9⟩
noncomputable abbrev Left := Owed × (Option (List Fk) × Kont × Sem Fin) × (Led × Nat × Nat × Nat × Gl)
noncomputable def leftR (z : St × Owes) (idx : List Nat) (k : Nat) (ig : List Nat) (kg : Nat) : Left := (z.2.left, (z.1.md, z.1.κ, z.1.t), Rest z.1 idx k ig kg)
noncomputable def rightR (z : St × Owes) (κ : Kont) (t : Sem Fin) (L' : Led) (n' i' g' : Nat) (G' : Gl) : Left := (z.2.right, (none, κ, t), (L', n', i', g', G'))
noncomputable def sub1 (idx ig : List Nat) : Bool := lt1 idx && lt1 ig
theorem run_ret {X : Cx} (O : X.Ok) {st : St} (f : Nat) (hs : List Nat) (idx : List Nat) (k : Nat) (ig : List Nat) (kg : Nat) (v : Value) (L' : Led) (n' i' g' : Nat) (G' : Gl)
    (hi : sub1 idx ig = true) (e : leftR (st.go X f hs) idx k ig kg = rightR (st.go X f hs) st.κ (.pure (.done (.ret v))) L' n' i' g' G')
    (H : Back X.V st.κ (.ok (.ret v)) L' n' i' g' G') : MS X.V st := by
  simp only [sub1, Bool.and_eq_true] at hi
  simp only [leftR, rightR, Prod.mk.injEq] at e
  obtain ⟨ep, ⟨e1, e2, e3⟩, e4⟩ := e
  refine run_ms O f hs (paid_of ep) ?_
  generalize (st.go X f hs).1 = z at e1 e2 e3 e4 ⊢
  obtain ⟨c, md, κ, t, L, n, i, g, G⟩ := z
  simp only [Rest, Prod.mk.injEq] at e1 e2 e3 e4
  subst e1 e2 e3
  obtain ⟨rfl, rfl, rfl, rfl, rfl⟩ := e4
  exact ms_done (back_pick idx k ig kg hi.1 hi.2 H)
theorem run_at {X : Cx} (O : X.Ok) {st : St} (f : Nat) (hs : List Nat) (idx : List Nat) (k : Nat) (ig : List Nat) (kg : Nat) (c' : Code) (κ' : Kont) (L' : Led) (n' i' g' : Nat) (G' : Gl)
    (hi : sub1 idx ig = true) (e0 : (st.go X f hs).1.c = c') (e : leftR (st.go X f hs) idx k ig kg = rightR (st.go X f hs) κ' (X.dn0 c') L' n' i' g' G')
    (H : MS X.V ⟨c', none, κ', X.dn0 c', L', n', i', g', G'⟩) : MS X.V st := by
  simp only [sub1, Bool.and_eq_true] at hi
  simp only [leftR, rightR, Prod.mk.injEq] at e
  obtain ⟨ep, ⟨e1, e2, e3⟩, e4⟩ := e
  refine run_ms O f hs (paid_of ep) ?_
  generalize (st.go X f hs).1 = z at e0 e1 e2 e3 e4 ⊢
  obtain ⟨c, md, κ, t, L, n, i, g, G⟩ := z
  simp only [Rest, Prod.mk.injEq] at e0 e1 e2 e3 e4
  subst e0 e1 e2 e3
  obtain ⟨rfl, rfl, rfl, rfl, rfl⟩ := e4
  exact ms_pick idx k ig kg hi.1 hi.2 H
noncomputable def unp : Nat → Nat → List Nat
  | 0, _ => []
  | f + 1, x => match Nat.beq (x % 64) 63 with
    | false => (x % 64) :: unp f (x / 64)
    | true => (x / 64 % 64 * 64 + x / 4096 % 64) :: unp f (x / 262144)
end Mine
end
section
open PySem PySem.W PySem.W.X
namespace Mine
noncomputable def denF : Code → Sem Fin := PySem.W.Fast.tw11892475500146522536 PySem.W.Fast.tw14364793385576792824
theorem denF_eq : denF = denote table := by
  unfold denF
  rw [← PySem.W.Fast.te11892475500146522536, ← PySem.W.Fast.te14364793385576792824, ← table_eq_tree]
noncomputable def entF : Sem Unit := PySem.W.Fast.tw15066281185411960212 0
theorem entF_eq : entF = enterFrame := by
  unfold entF
  rw [← PySem.W.Fast.te15066281185411960212]
noncomputable def isTab (a : Nat) : Bool := Nat.beq a 206 || Nat.beq a 213
noncomputable def topF (p : Params) (a : Nat) : Option Obj := cond (isTab a) none ((kTop p).get a)
noncomputable def litEq (r : String) (l : String) : Bool := match PySem.W.S.strDecS r l with
  | .isTrue _ => true
  | .isFalse _ => false
theorem litEq_iff {r l : String} : litEq r l = true ↔ r = l := by
  unfold litEq
  split
  · rename_i h _; exact ⟨fun _ => h, fun _ => rfl⟩
  · rename_i h _; exact ⟨fun e => by simp at e, fun e => absurd e h⟩
noncomputable def rowsF (prog : Program) (p : Params) (b1 b2 : Bool) : Setting :=
  ⟨prog, { p with followText := fun r => cond (litEq r "special-get-raises") b1 (cond (litEq r "comprehension-iter-twice") b2 (p.followText r)) }⟩
theorem rowsF_eq (prog : Program) (p : Params) : rowsF prog p (p.followText "special-get-raises") (p.followText "comprehension-iter-twice") = ⟨prog, p⟩ := by
  unfold rowsF
  have e : (fun r => cond (litEq r "special-get-raises") (p.followText "special-get-raises") (cond (litEq r "comprehension-iter-twice") (p.followText "comprehension-iter-twice") (p.followText r))) = p.followText := by
    funext r
    cases h1 : litEq r "special-get-raises" with
    | true => rw [litEq_iff.mp h1]; rfl
    | false =>
      cases h2 : litEq r "comprehension-iter-twice" with
      | true => rw [litEq_iff.mp h2]; rfl
      | false => rfl
  rw [e]
noncomputable def wakF : Sem Unit := PySem.W.Fast.tw3139746846981162851
theorem wakF_eq : wakF = roomToWake := by
  unfold wakF
  rw [← PySem.W.Fast.te3139746846981162851]
noncomputable def whats : Nat → String
  | 0 => "comparison"
  | 1 => "str"
  | 2 => "repr"
  | 3 => "hash"
  | _ => "call"
noncomputable def romF (w : Nat) : Sem Unit := PySem.W.Fast.tw10648789137845014744 (whats w)
theorem romF_eq (w : Nat) : romF w = cRoom (whats w) := by
  unfold romF
  rw [← PySem.W.Fast.te10648789137845014744]
noncomputable abbrev theProg : Program := PySem.Challenge.pw_tc0064_01
end Mine
end
section
open PySem PySem.W PySem.W.X
namespace Mine
section
variable {α β : Type} {prog : Program} {w : World} {c : Code}
noncomputable def Low (prog : Program) (w : World) (c : Code) {α : Type} (t t' : Sem α) : Prop :=
  ∀ (Γ : Ctx) (p : Pos) (Q : α → Pos → Shared → Prop) (E : Value → Pos → Shared → Prop) (s : Shared), Γ.code = c → Sem.wp (model prog w) Γ t' Q E p s → Sem.wp (model prog w) Γ t Q E p s
theorem low_refl (t : Sem α) : Low prog w c t t := fun _ _ _ _ _ _ h => h
theorem low_bind {m m' : Sem α} {f f' : α → Sem β} (h1 : Low prog w c m m') (h2 : ∀ a, Low prog w c (f a) (f' a)) : Low prog w c (m >>= f) (m' >>= f') := fun Γ p Q E s hc h => by
  rw [Sem.wp_bind'] at h ⊢
  exact h1 Γ p _ E s hc (Sem.wp_mono _ Γ m' (fun a p' s' h' => h2 a Γ p' Q E s' hc h') (fun _ _ _ h => h) p s h)
theorem low_raise {m m' : Sem α} {k : Value → Sem Unit} (h1 : Low prog w c m m') : Low prog w c (m.onRaise k) (m'.onRaise k) := fun Γ p Q E s hc h => by
  rw [Sem.wp_onRaise] at h ⊢
  exact h1 Γ p _ _ s hc h
theorem low_comps {body : List Stmt} {env : Env} : Low prog w (.func body env) comprehensionsAround (pure []) := fun Γ p Q E s hc h => by
  unfold comprehensionsAround callersCodes
  rw [Sem.wp_bind', Sem.wp_bind']
  show Sem.wp _ Γ (if _ then _ else _) _ E p s
  rw [hc]
  have e : pastTheWaiting ((.func body env, p) :: Γ.below) = (.func body env, p) :: pastTheWaiting.go false (some (.func body env)) Γ.below := rfl
  rw [e]
  have f : (some env.frame != some env.frame) = false := by simp
  show Sem.wp _ Γ (if (some env.frame != some env.frame) = true then _ else _) _ E p s
  rw [f]
  exact h
theorem low_compsb {body : List Stmt} {env : Env} {f : List Env → Sem α} {t : Sem α} (h : Low prog w (.func body env) (f []) t) : Low prog w (.func body env) (comprehensionsAround >>= f) t := fun Γ p Q E s hc z => by
  rw [Sem.wp_bind']
  exact low_comps Γ p _ E s hc (h Γ p Q E s hc z)
theorem low_unsup (t : Sem α) (m : String) : Low prog w c t (unsupported m) := fun _ _ _ _ _ _ h => h.elim
theorem low_ite {b : Bool} {t t' u u' : Sem α} (h1 : b = true → Low prog w c t t') (h2 : b = false → Low prog w c u u') : Low prog w c (if b then t else u) (if b then t' else u') := by
  cases b with
  | true => exact h1 rfl
  | false => exact h2 rfl
theorem low_eq {t t' u : Sem α} (e : t = u) (h : Low prog w c u t') : Low prog w c t t' := by rw [e]; exact h
theorem low_to {t t' u : Sem α} (h : Low prog w c t u) (e : u = t') : Low prog w c t t' := by rw [← e]; exact h
end
noncomputable def loadNameF : Env → Str → Sem Value := PySem.W.Fast.tw8468629109055619292
theorem loadNameF_eq : loadNameF = loadName := by
  unfold loadNameF
  rw [← PySem.W.Fast.te8468629109055619292]
noncomputable def fieldF : Value → Nat → Sem Value := PySem.W.Fast.tw6609576154772507232
theorem fieldF_eq : fieldF = field := by
  unfold fieldF
  rw [← PySem.W.Fast.te6609576154772507232]
noncomputable def isTypeF : Value → Sem Bool := PySem.W.Fast.tw10380811246957099773
theorem isTypeF_eq : isTypeF = isType := by
  unfold isTypeF
  rw [← PySem.W.Fast.te10380811246957099773]
noncomputable def holderF : Env → List Env → Str → Env := PySem.W.Fast.tw8406491124035677375
theorem holderF_eq : holderF = Env.holderOf := by
  unfold holderF
  rw [← PySem.W.Fast.te8406491124035677375]
noncomputable def lookF (l : List (Str × NameKind)) (x : Str) : Option NameKind := l.findSome? fun p => cond (PySem.W.Fast.sEq x p.1) (some p.2) none
theorem lookF_eq (l : List (Str × NameKind)) (x : Str) : lookF l x = l.lookup x := by
  induction l with
  | nil => rfl
  | cons p l ih =>
    unfold lookF at ih ⊢
    rw [List.findSome?_cons, List.lookup_cons]
    cases h : PySem.W.Fast.sEq x p.1 with
    | true => rw [PySem.W.Fast.sEq_iff] at h; simp [h]
    | false =>
      have : (x == p.1) = false := by
        cases q : (x == p.1) with
        | false => rfl
        | true => rw [PySem.W.Fast.sEq_iff.mpr (eq_of_beq q)] at h; cases h
      rw [this]; exact ih
noncomputable def superB (prog : Program) (env : Env) (f : Addr) (pos : Pos) : Sem Value := do
  let fd ← funcData (.ref f)
  match (fd.params.posonlyargs ++ fd.params.args).head? with
  | none => unsupported ""
  | some first =>
    match ← fieldF env.code 2 with
    | .str file _ =>
      if PySem.W.Fast.sEq prog.main.file file then do
        standAt pos
        let g ← loadNameF env "super"
        let cls ← loadNameF env "__class__"
        let self ← loadNameF (holderF env [] first.arg) first.arg
        let aType ← isTypeF cls
        match g with
        | .type n => if (n == "super") && aType then call g [cls, self] else unsupported ""
        | _ => unsupported ""
      else unsupported ""
    | _ => unsupported ""
theorem low_attr {prog : Program} {w : World} {body : List Stmt} {env : Env} {p0 p1 : Pos} {attr : Str} {whole : Sem Value} {f cc : Addr} (hat : (attr == ("__class__" : Str)) = false) (hks : env.kindOf "super" = some .globalImplicit) (hkc : env.kindOf "__class__" = some .free)
    (hfu : env.func = some f) (hco : env.code = .ref cc) (htop : (prog.main.scope.names.lookup ("super" : Str)).isSome = false) :
    Low prog w (.func body env) (attributeBase (.Call (.Name "super" p0) [] [] p1) attr env whole) (superB prog env f p1) := by
  unfold attributeBase superB
  simp only [bne_self_eq_false, hat, hks, hkc, hfu, hco, Bool.or_false, Bool.or_self, Bool.false_eq_true, if_false, Option.isSome_some, if_true, pure_bind, loadNameF_eq, fieldF_eq, isTypeF_eq, holderF_eq]
  refine low_bind (low_refl _) fun fd => ?_
  cases (fd.params.posonlyargs ++ fd.params.args).head? with
  | none => exact low_unsup _ _
  | some first =>
    dsimp only
    intro Γ p Q E s hc h
    rw [Sem.wp_bind']
    show Sem.wp _ Γ (field (.ref cc) 2 >>= _) Q E p s
    rw [Sem.wp_bind'] at h ⊢
    refine Sem.wp_mono _ Γ _ (fun fv p' s' h' => ?_) (fun _ _ _ h => h) p s h
    cases fv with
    | str file tk =>
      dsimp only at h' ⊢
      cases q : PySem.W.Fast.sEq prog.main.file file with
      | false => rw [q] at h'; exact h'.elim
      | true =>
        rw [q, if_pos rfl] at h'
        rw [PySem.W.Fast.sEq_iff] at q
        have q2 : ((model prog w).prog.main.file == file) = true := by rw [← q]; exact beq_self_eq_true _
        have q3 : (List.lookup (Str.ofString "super") (model prog w).prog.main.scope.names).isSome = false := htop
        rw [if_pos q2]
        dsimp only
        rw [q3, if_neg (by decide)]
        refine low_bind (prog := prog) (w := w) (c := .func body env) (m' := pure ()) (f' := fun _ => _) (fun Γ p Q E s hc h => h) (fun _ => ?_) Γ p' Q E s' hc h'
        refine low_bind (low_refl _) fun _ => low_bind (low_refl _) fun g => low_bind (low_refl _) fun cls => ?_
        refine low_compsb (low_bind (low_refl _) fun self => low_bind (low_refl _) fun b => ?_)
        cases g with
        | type n =>
          dsimp only
          have e : (Value.type n == Value.type "super") = (n == "super") := by
            by_cases h : n = "super"
            · subst h; simp
            · have h1 : (n == "super") = false := by simpa using h
              have h2 : (Value.type n == Value.type "super") = false := by simpa using h
              rw [h1, h2]
          rw [e]
          cases (n == "super" && b) with
          | true => exact low_refl _
          | false => exact low_unsup _ _
        | _ => exact low_unsup _ _
    | _ => exact h'.elim
noncomputable def methodF : Expr → Str → Pos → Pos → Env → Value → Nat → List (Bool × Sem Value) → List (Option Str × Sem Value) → Sem Value := PySem.W.Fast.tw13401596951702201221
theorem methodF_eq : methodF = methodCall := by
  unfold methodF
  rw [← PySem.W.Fast.te13401596951702201221]
noncomputable def execsF : List Stmt → Env → Sem Flow := PySem.W.Fast.tw12563942051412417395
theorem execsF_eq : execsF = execs := by
  unfold execsF
  rw [← PySem.W.Fast.te12563942051412417395]
noncomputable def leavingF : Env → Value → Sem Unit := PySem.W.Fast.tw9442747609961115081
theorem leavingF_eq : leavingF = «leaving» := by
  unfold leavingF
  rw [← PySem.W.Fast.te9442747609961115081]
noncomputable def dropF : Expr → Pos → Value → Sem Flow := PySem.W.Fast.tw12372662630863984472
theorem dropF_eq : dropF = dropValue := by
  unfold dropF
  rw [← PySem.W.Fast.te12372662630863984472]
noncomputable def interF : Env → Bool := PySem.W.Fast.tw15112477048112897374
theorem interF_eq : interF = interactive := by
  unfold interF
  rw [← PySem.W.Fast.te15112477048112897374]
noncomputable def scT (prog : Program) (env : Env) (f : Addr) : Expr → Option (Sem Value)
  | .Call (.Attribute (.Call (.Name id p0) [] [] p1) name apos) [] [] pos => match PySem.W.Fast.sEq id "super" with
    | true => match PySem.W.Fast.sEq name "__class__" with
      | false => some (do
          let ov ← superB prog env f p1
          standAt apos.atName
          methodF (.Call (.Name id p0) [] [] p1) name apos pos env ov 0 [] [])
      | true => none
    | false => none
  | _ => none
noncomputable def lastT (prog : Program) (env : Env) (f : Addr) : Stmt → Option (Sem Flow)
  | .Return (some e) rp => match scT prog env f e with
    | some m => some (do standAt rp; return .ret (← m))
    | none => none
  | .Expr e ep => match scT prog env f e with
    | some m => some (do standAt ep; let v ← m; dropF e ep v)
    | none => none
  | _ => none
noncomputable def bodyT (prog : Program) (env : Env) (f : Addr) : List Stmt → Option (Sem Flow)
  | st :: l => match l with
    | [] => lastT prog env f st
    | st' :: l' => match l' with
      | [] => match lastT prog env f st' with
        | some m => some (do match ← execsF [st] env with | .next => m | f => pure f)
        | none => none
      | _ => none
  | [] => none
noncomputable def fnT (env : Env) (m : Sem Flow) : Sem Fin := do
  point
  match ← m.onRaise (leavingF env) with
  | .ret v => ret v
  | _ => ret .none
noncomputable def envT (env : Env) : Option Addr := match env.func with
  | some f => match Nat.beq f 241 || Nat.beq f 204 || Nat.beq f 181 with
    | true => match lookF env.scope.names "super" with
      | some .globalImplicit => match lookF env.scope.names "__class__" with
        | some .free => match env.code with
          | .ref _ => match interF env with
            | false => some f
            | true => none
          | _ => none
        | _ => none
      | _ => none
    | false => none
  | none => none
theorem envT_is {env : Env} {f : Addr} (h : envT env = some f) : env.func = some f ∧ env.kindOf "super" = some .globalImplicit ∧ env.kindOf "__class__" = some .free ∧ (∃ cc, env.code = .ref cc) ∧ interactive env = false := by
  unfold envT at h
  repeat' split at h
  all_goals first | (cases h; done) | skip
  rename_i _ _ e1 _ _ _ e2 _ e3 _ cc e4 _ e5
  cases h
  rw [lookF_eq] at e2 e3
  rw [interF_eq] at e5
  exact ⟨e1, e2, e3, ⟨cc, e4⟩, e5⟩
section
variable {prog : Program} {w : World} {body : List Stmt} {env : Env} {f : Addr}
theorem low_sc {e : Expr} {m : Sem Value} (h : envT env = some f) (htop : (prog.main.scope.names.lookup ("super" : Str)).isSome = false) (hm : scT prog env f e = some m) : Low prog w (.func body env) (eval e env) m ∧ swapsWith e none 0 env = pure false := by
  obtain ⟨h1, h2, h3, ⟨cc, h4⟩, h5⟩ := envT_is h
  unfold scT at hm
  split at hm
  · rename_i id p0 p1 name apos pos
    split at hm
    · rename_i e1
      split at hm
      · rename_i e2
        cases hm
        rw [PySem.W.Fast.sEq_iff] at e1
        subst e1
        have e3 : (name == ("__class__" : Str)) = false := by
          cases q : (name == ("__class__" : Str)) with
          | false => rfl
          | true => rw [PySem.W.Fast.sEq_iff.mpr (eq_of_beq q)] at e2; cases e2
        refine ⟨?_, rfl⟩
        refine low_eq (u := do
          let ov ← attributeBase (.Call (.Name "super" p0) [] [] p1) name env (eval (.Call (.Name "super" p0) [] [] p1) env)
          standAt apos.atName
          methodCall (.Call (.Name "super" p0) [] [] p1) name apos pos env ov 0 [] []) rfl ?_
        rw [methodF_eq]
        exact low_bind (low_attr e3 h2 h3 h1 h4 htop) fun _ => low_refl _
      · cases hm
    · cases hm
  · cases hm
theorem low_last {st : Stmt} {m : Sem Flow} (h : envT env = some f) (htop : (prog.main.scope.names.lookup ("super" : Str)).isSome = false) (hm : lastT prog env f st = some m) : Low prog w (.func body env) (exec st env) m := by
  obtain ⟨h1, h2, h3, _, h5⟩ := envT_is h
  unfold lastT at hm
  split at hm
  · rename_i e rp
    split at hm
    · rename_i m' hm'
      cases hm
      have z := (low_sc (w := w) (body := body) h htop hm').1
      rw [exec_Return_some]
      exact low_bind (low_refl _) fun _ => low_bind z fun _ => low_refl _
    · cases hm
  · rename_i e ep
    split at hm
    · rename_i m' hm'
      cases hm
      obtain ⟨z, z2⟩ := low_sc (w := w) (body := body) h htop hm'
      have z3 : swapsWith e none ep.line env = pure false := by
        unfold scT at hm'
        split at hm'
        · rfl
        · cases hm'
      rw [exec_Expr env e ep h5 z3, dropF_eq]
      exact low_bind (low_refl _) fun _ => low_bind z fun _ => low_refl _
    · cases hm
  · cases hm
theorem low_one {st : Stmt} {m : Sem Flow} (z : Low prog w (.func body env) (exec st env) m) : Low prog w (.func body env) (execs [st] env) m := fun Γ p Q E s hc h => by
  rw [execs_cons, Sem.wp_bind']
  refine Sem.wp_mono _ Γ _ (fun a p' s' h' => ?_) (fun _ _ _ h => h) p s (z Γ p Q E s hc h)
  cases a <;> exact h'
theorem low_body {b : List Stmt} {m : Sem Flow} (h : envT env = some f) (htop : (prog.main.scope.names.lookup ("super" : Str)).isSome = false) (hm : bodyT prog env f b = some m) : Low prog w (.func body env) (execs b env) m := by
  unfold bodyT at hm
  split at hm
  · rename_i st l
    split at hm
    · exact low_one (low_last h htop hm)
    · rename_i st' l'
      split at hm
      · split at hm
        · rename_i m' hm'
          cases hm
          intro Γ p Q E s hc z
          rw [execsF_eq, execs_cons, Sem.wp_bind', Sem.wp_bind'] at z
          rw [execs_cons, Sem.wp_bind']
          refine Sem.wp_mono _ Γ _ (fun a p' s' h' => ?_) (fun _ _ _ h => h) p s z
          cases a with
          | next => exact low_one (low_last h htop hm') Γ p' Q E s' hc h'
          | _ => exact h'
        · cases hm
      · cases hm
  · cases hm
noncomputable def denS (prog : Program) (c : Code) : Sem Fin := match c with
  | .func body env => match envT env with
    | some f => match bodyT prog env f body with
      | some m => fnT env m
      | none => denF c
    | none => denF c
  | _ => denF c
theorem low_den {c : Code} (htop : (prog.main.scope.names.lookup ("super" : Str)).isSome = false) : Low prog w c (denote table c) (denS prog c) := by
  unfold denS
  split
  · rename_i body env
    split
    · rename_i f hf
      split
      · rename_i m hm
        unfold fnT
        rw [leavingF_eq]
        show Low prog w _ (do point; match ← (execs body env).onRaise («leaving» env) with | .ret v => ret v | _ => ret .none) _
        refine low_bind (low_refl _) fun _ => low_bind (low_raise (low_body hf htop hm)) fun a => ?_
        cases a <;> exact low_refl _
      · rw [denF_eq]; exact low_refl _
    · rw [denF_eq]; exact low_refl _
  · rw [denF_eq]; exact low_refl _
end
end Mine
end
section
open PySem PySem.W PySem.W.X
namespace Mine
section
variable {α β : Type} {prog : Program} {w : World} {c : Code}
noncomputable def LowD (prog : Program) (w : World) (c : Code) {α : Type} (t t' : Sem α) : Prop :=
  ∀ (Γ : Ctx) (p : Pos) (Q : α → Pos → Shared → Prop) (E : Value → Pos → Shared → Prop) (s : Shared) (A : Around), Γ.code = c → Γ.In A → (A.depth < recursionLimit ∧ A.units < cLine) → Sem.wp (model prog w) Γ t' Q E p s → Sem.wp (model prog w) Γ t Q E p s
theorem lowd_refl (t : Sem α) : LowD prog w c t t := fun _ _ _ _ _ _ _ _ _ h => h
theorem lowd_eq {t t' : Sem α} (e : t = t') : LowD prog w c t t' := by rw [e]; exact lowd_refl _
theorem lowd_of {t t' : Sem α} (h : Low prog w c t t') : LowD prog w c t t' := fun Γ p Q E s _ hc _ _ z => h Γ p Q E s hc z
theorem lowd_to {t t' u : Sem α} (e : t = u) (h : LowD prog w c u t') : LowD prog w c t t' := by rw [e]; exact h
theorem lowd_bind {m m' : Sem α} {f f' : α → Sem β} (h1 : LowD prog w c m m') (h2 : ∀ a, LowD prog w c (f a) (f' a)) : LowD prog w c (m >>= f) (m' >>= f') := fun Γ p Q E s A hc hA hd h => by
  rw [Sem.wp_bind'] at h ⊢
  exact h1 Γ p _ E s A hc hA hd (Sem.wp_mono _ Γ m' (fun a p' s' h' => h2 a Γ p' Q E s' A hc hA hd h') (fun _ _ _ h => h) p s h)
theorem lowd_raise {m m' : Sem α} {k : Value → Sem Unit} (h1 : LowD prog w c m m') : LowD prog w c (m.onRaise k) (m'.onRaise k) := fun Γ p Q E s A hc hA hd h => by
  rw [Sem.wp_onRaise] at h ⊢
  exact h1 Γ p _ _ s A hc hA hd h
theorem lowd_holding {l : List Value} {m m' : Sem α} (h1 : LowD prog w c m m') : LowD prog w c (holding l m) (holding l m') := fun Γ p Q E s A hc hA hd h => by
  rw [Sem.wp_holding] at h ⊢
  exact h1 Γ p _ _ s A hc hA hd h
noncomputable def limF : Sem Nat := PySem.W.Fast.tw2211186353215096513
theorem limF_eq : limF = currentRecursionLimit := by
  unfold limF
  rw [← PySem.W.Fast.te2211186353215096513]
noncomputable def enterT : Sem Unit := do
  let l ← limF
  match Nat.beq l recursionLimit with
  | true => pure ()
  | false => unsupported ""
theorem lowd_enter : LowD prog w c enterFrame enterT := fun Γ p Q E s A hc hΓ hdu h => by
  have hd := hdu.1
  unfold enterT at h
  rw [limF_eq, Sem.wp_bind'] at h
  have hsum : ((((Γ.code, p) :: Γ.below).map (·.1)).map (·.frames)).sum + ((((Γ.code, p) :: Γ.below).map (·.1)).filter Code.isCreation).length < recursionLimit := by
    have hge := frameCount_ge ((Γ.code, p) :: Γ.below)
    rw [frameCount_cons] at hge
    have := hΓ.2.1
    omega
  simp only [enterFrame, Sem.wp_bind']
  show Sem.wp _ Γ currentRecursionLimit _ _ p s
  refine Sem.wp_mono _ Γ _ (fun lim p' s' h' => ?_) (fun _ _ _ h => h) p s h
  cases e : Nat.beq lim recursionLimit with
  | false => rw [e] at h'; exact h'.elim
  | true =>
    rw [e] at h'
    have e := Nat.eq_of_beq_eq_true e
    subst e
    have hlt : ¬ ((((Γ.code, p) :: Γ.below).map (·.1)).map (·.frames)).sum ≥ recursionLimit := by omega
    have hlt' : ¬ ((((Γ.code, p) :: Γ.below).map (·.1)).map (·.frames)).sum + ((((Γ.code, p) :: Γ.below).map (·.1)).filter Code.isCreation).length ≥ recursionLimit := by omega
    show Sem.wp _ Γ (if nearTheLimitUnderAClaim (((Γ.code, p) :: Γ.below).map (·.1)) (((((Γ.code, p) :: Γ.below).map (·.1)).map (·.frames)).sum + ((((Γ.code, p) :: Γ.below).map (·.1)).filter Code.isCreation).length) recursionLimit = true then _ else _) _ _ p' s'
    rw [if_neg (by rw [not_nearTheLimit hΓ hd]; exact Bool.false_ne_true)]
    show Sem.wp _ Γ (if ((((Γ.code, p) :: Γ.below).map (·.1)).map (·.frames)).sum ≥ recursionLimit then _ else _) _ _ p' s'
    rw [if_neg hlt]
    show Sem.wp _ Γ (if ((((Γ.code, p) :: Γ.below).map (·.1)).map (·.frames)).sum + ((((Γ.code, p) :: Γ.below).map (·.1)).filter Code.isCreation).length ≥ recursionLimit then _ else _) _ _ p' s'
    rw [if_neg hlt']
    exact h'
end
theorem c1 {α : Sort _} {β : Sort _} {f g : α → β} (h : f = g) (a : α) : f a = g a := by rw [h]
theorem c2 {α α' : Sort _} {β : Sort _} {f g : α → α' → β} (h : f = g) (a : α) (b : α') : f a b = g a b := by rw [h]
theorem c3 {α α' α'' : Sort _} {β : Sort _} {f g : α → α' → α'' → β} (h : f = g) (a : α) (b : α') (d : α'') : f a b d = g a b d := by rw [h]
theorem c4 {α α' α'' α₃ : Sort _} {β : Sort _} {f g : α → α' → α'' → α₃ → β} (h : f = g) (a : α) (b : α') (d : α'') (e : α₃) : f a b d e = g a b d e := by rw [h]
noncomputable def genT (elt : Expr) (gens : List Comprehension) (scope : Scope) (pos : Pos) (env : Env) : { t : Sem Value // firstAsync gens = false → scope.isCoroutine = false → ∀ prog w c, LowD prog w c (eval (.GeneratorExp elt gens scope pos) env) t } :=
  ⟨_, fun h1 h2 prog w c => lowd_to (arm_eval_GeneratorExp elt gens scope pos env) (by
    rw [h1, h2]
    exact lowd_bind (lowd_eq (c2 PySem.W.Fast.te18100340678103251363 gens env)) fun x =>
      lowd_bind (lowd_refl (standAt (firstIterPos gens pos))) fun _ =>
      lowd_bind (lowd_eq (c4 PySem.W.Fast.te11392484809677674534 false (clausesOf (.GeneratorExp elt gens scope pos)) env x)) fun x =>
      lowd_bind (lowd_holding (lowd_eq (c1 PySem.W.Fast.te8711993805878244202 x))) fun it =>
      lowd_bind lowd_enter fun _ =>
      lowd_bind (lowd_eq (c2 PySem.W.Fast.te14069538253670106520 scope env)) fun cl =>
      lowd_bind (lowd_eq (c4 PySem.W.Fast.te9492743126541576920 env pos (env.qual ++ "<genexpr>") scope)) fun cd =>
      lowd_bind (lowd_eq (c2 PySem.W.Fast.te6600643334278800223 env.globals env.builtins)) fun bi =>
      lowd_bind (lowd_eq (by rw [@PySem.W.Fast.te11113344188204177931])) fun cenv =>
      lowd_eq (c3 PySem.W.Fast.te2426001476595277715 (.compStart (.GeneratorExp elt gens scope pos) 0 it .none cenv) "<genexpr>" (env.qual ++ "<genexpr>")))⟩
section
variable {prog : Program} {w : World} {c : Code} {pos : Pos} {f : Value} {first : List Value} {m m' : Sem Value} {rest : List (Bool × Sem Value)}
theorem lowd_spliced (h : LowD prog w c m m') : LowD prog w c (spliced ((false, m) :: rest)) (spliced ((false, m') :: rest)) := lowd_bind h fun _ => lowd_refl _
theorem lowd_evalArgs (h : LowD prog w c m m') : LowD prog w c (evalArgs f true ((false, m) :: rest) []) (evalArgs f true ((false, m') :: rest) []) := by
  unfold evalArgs
  cases rest with
  | nil => exact lowd_bind (lowd_spliced h) fun _ => lowd_refl _
  | cons r l => exact lowd_bind (lowd_spliced h) fun _ => lowd_refl _
theorem lowd_callWith (h : LowD prog w c m m') : LowD prog w c (callWith pos f first ((false, m) :: rest) []) (PySem.W.Fast.tw8289420714989923916 pos f first ((false, m') :: rest) []) := by
  rw [← PySem.W.Fast.te8289420714989923916]
  unfold callWith
  exact lowd_bind (lowd_holding (lowd_evalArgs h)) fun _ => lowd_refl _
theorem lowd_method {o : Expr} {name : Str} {apos : Pos} {env : Env} {ov : Value} {n : Nat} (h : LowD prog w c m m') : LowD prog w c (methodCall o name apos pos env ov n ((false, m) :: rest) []) (methodCall o name apos pos env ov n ((false, m') :: rest) []) := by
  unfold methodCall
  refine lowd_bind (lowd_refl _) fun x => lowd_bind (lowd_refl _) fun y => ?_
  refine lowd_to rfl ?_ (t' := callWith y x.1 x.2 ((false, m') :: rest) [])
  have := lowd_callWith (prog := prog) (w := w) (c := c) (pos := y) (f := x.1) (first := x.2) (rest := rest) h
  rw [← PySem.W.Fast.te8289420714989923916] at this
  exact this
end
noncomputable def evalF : Expr → Env → Sem Value := PySem.W.Fast.tw14044960220447912780
theorem evalF_eq : evalF = eval := by
  unfold evalF
  rw [← PySem.W.Fast.te14044960220447912780]
noncomputable def restF (pos : Pos) (rest : List Expr) (env : Env) : List (Bool × Sem Value) := PySem.W.Fast.tw4897270859577272712 pos (PySem.W.Fast.tw13897175071876407860 rest env)
theorem restF_eq (pos : Pos) (rest : List Expr) (env : Env) : restF pos rest env = backTo pos (starEach rest env) := by
  unfold restF
  rw [← PySem.W.Fast.te4897270859577272712, ← PySem.W.Fast.te13897175071876407860]
noncomputable def attrF : Expr → Str → Env → Sem Value → Sem Value := PySem.W.Fast.tw15487144857313948548
theorem attrF_eq : attrF = attributeBase := by
  unfold attrF
  rw [← PySem.W.Fast.te15487144857313948548]
noncomputable def callT (elt : Expr) (gens : List Comprehension) (scope : Scope) (gp : Pos) (id : Str) (np : Pos) (rest : List Expr) (pos : Pos) (env : Env) :
    { t : Sem Value // firstAsync gens = false → scope.isCoroutine = false → ∀ prog w c, LowD prog w c (eval (.Call (.Name id np) (.GeneratorExp elt gens scope gp :: rest) [] pos) env) t } :=
  ⟨_, fun h1 h2 prog w c => lowd_to (u := do callWith pos (← eval (.Name id np) env) [] ((false, eval (.GeneratorExp elt gens scope gp) env) :: backTo pos (starEach rest env)) []) rfl
    (lowd_bind (lowd_eq (c2 evalF_eq.symm (.Name id np) env)) fun f => by
      rw [← restF_eq]
      exact lowd_callWith ((genT elt gens scope gp env).2 h1 h2 prog w c))⟩
noncomputable def methT (elt : Expr) (gens : List Comprehension) (scope : Scope) (gp : Pos) (o : Expr) (name : Str) (apos : Pos) (rest : List Expr) (pos : Pos) (env : Env) :
    { t : Sem Value // firstAsync gens = false → scope.isCoroutine = false → ∀ prog w c, LowD prog w c (eval (.Call (.Attribute o name apos) (.GeneratorExp elt gens scope gp :: rest) [] pos) env) t } :=
  ⟨_, fun h1 h2 prog w c => lowd_to (u := do
      let ov ← attributeBase o name env (eval o env)
      standAt apos.atName
      methodCall o name apos pos env ov (rest.length + 1) ((false, eval (.GeneratorExp elt gens scope gp) env) :: backTo pos (starEach rest env)) []) rfl
    (lowd_bind (lowd_eq (by rw [← attrF_eq, ← evalF_eq] : attributeBase o name env (eval o env) = attrF o name env (evalF o env))) fun ov => lowd_bind (lowd_refl (standAt apos.atName)) fun _ => by
      rw [← restF_eq, ← methodF_eq]
      have := lowd_method (o := o) (name := name) (apos := apos) (env := env) (ov := ov) (n := rest.length + 1) (pos := pos) (rest := restF pos rest env) ((genT elt gens scope gp env).2 h1 h2 prog w c)
      rw [← methodF_eq] at this
      exact this)⟩
noncomputable def retT (env : Env) (e : Expr) : Option (Sem Value) := match e with
  | .Call fn args kws pos => match kws with
    | [] => match args with
      | .GeneratorExp elt gens scope gp :: rest => match firstAsync gens, scope.isCoroutine with
        | false, false => match fn with
          | .Name id np => some (callT elt gens scope gp id np rest pos env).1
          | .Attribute o name apos => some (methT elt gens scope gp o name apos rest pos env).1
          | _ => none
        | _, _ => none
      | _ => none
    | _ => none
  | _ => none
theorem retT_low {env : Env} {e : Expr} {t : Sem Value} (h : retT env e = some t) (prog : Program) (w : World) (c : Code) : LowD prog w c (eval e env) t := by
  unfold retT at h
  repeat' split at h
  all_goals first | (cases h; done) | skip
  · cases h; exact (callT _ _ _ _ _ _ _ _ _).2 (by assumption) (by assumption) prog w c
  · cases h; exact (methT _ _ _ _ _ _ _ _ _ _).2 (by assumption) (by assumption) prog w c
noncomputable def genBody (env : Env) (b : List Stmt) : Option (Sem Flow) := match b with
  | st :: l => match l with
    | [] => match st with
      | .Return (some e) rp => match retT env e with
        | some m => some (do standAt rp; return .ret (← m))
        | none => none
      | _ => none
    | _ => none
  | [] => none
theorem genBody_low {env : Env} {b : List Stmt} {t : Sem Flow} (h : genBody env b = some t) (prog : Program) (w : World) (c : Code) : LowD prog w c (execs b env) t := by
  unfold genBody at h
  repeat' split at h
  all_goals first | (cases h; done) | skip
  rename_i e rp _ m hm
  cases h
  refine lowd_to (u := do match ← (do standAt rp; return Flow.ret (← eval e env) : Sem Flow) with | Flow.next => execs [] env | f => pure f) rfl ?_
  have z := retT_low hm prog w c
  intro Γ p Q E s A hc hA hd h
  rw [Sem.wp_bind']
  have z2 : LowD prog w c (do standAt rp; return Flow.ret (← eval e env)) (do standAt rp; return Flow.ret (← m)) := lowd_bind (lowd_refl _) fun _ => lowd_bind z fun _ => lowd_refl _
  refine Sem.wp_mono _ Γ _ (fun a p' s' h' => ?_) (fun _ _ _ h => h) p s (z2 Γ p Q E s A hc hA hd h)
  cases a <;> exact h'
noncomputable def isGen (f : Option Addr) : Bool := match f with
  | some f => Nat.beq f 211 || Nat.beq f 218
  | none => false
noncomputable def ovr (prog : Program) (c : Code) : Option (Sem Fin) := match c with
  | .func body env => match isGen env.func with
    | true => match genBody env body with
      | some m => some (fnT env m)
      | none => none
    | false => match envT env with
      | some f => match bodyT prog env f body with
        | some m => some (fnT env m)
        | none => none
      | none => none
  | _ => none
theorem ovr_low {prog : Program} {w : World} {c : Code} {t : Sem Fin} (htop : (prog.main.scope.names.lookup ("super" : Str)).isSome = false) (h : ovr prog c = some t) : LowD prog w c (denote table c) t := by
  have fin : ∀ {body : List Stmt} {env : Env} {m : Sem Flow}, LowD prog w (.func body env) (execs body env) m → LowD prog w (.func body env) (denote table (.func body env)) (fnT env m) := by
    intro body env m z
    unfold fnT
    rw [leavingF_eq]
    show LowD prog w _ (do point; match ← (execs body env).onRaise («leaving» env) with | .ret v => ret v | _ => ret .none) _
    refine lowd_bind (lowd_refl _) fun _ => lowd_bind (lowd_raise z) fun a => ?_
    cases a <;> exact lowd_refl _
  cases c with
  | func body env =>
    unfold ovr at h
    dsimp only at h
    cases e1 : isGen env.func with
    | true =>
      rw [e1] at h; dsimp only at h
      cases e2 : genBody env body with
      | none => rw [e2] at h; cases h
      | some m => rw [e2] at h; cases h; exact fin (genBody_low e2 prog w _)
    | false =>
      rw [e1] at h; dsimp only at h
      cases e2 : envT env with
      | none => rw [e2] at h; cases h
      | some f =>
        rw [e2] at h; dsimp only at h
        cases e3 : bodyT prog env f body with
        | none => rw [e3] at h; cases h
        | some m => rw [e3] at h; cases h; exact fin (lowd_of (low_body e2 htop e3))
  | _ => cases h
end Mine
end
section
open PySem PySem.W PySem.W.X
namespace Mine
noncomputable def litV (s : String) (v : Value) : Bool := match v with
  | .type n => litEq n s
  | _ => false
theorem litV_iff {s : String} {v : Value} (h : litV s v = true) : v = .type s := by
  unfold litV at h
  split at h
  · rw [litEq_iff] at h; rw [h]
  · cases h
noncomputable def slArgsF : String → Nat → Args → Sem (Value × List Value) := PySem.W.Fast.tw14898161412748792391
theorem slArgsF_eq : slArgsF = Builtin.List.listBlankSlotArgs := by unfold slArgsF; rw [← PySem.W.Fast.te14898161412748792391]
noncomputable def slSubF : Value → Sem (Option Int) := PySem.W.Fast.tw8809883150852718426
theorem slSubF_eq : slSubF = Builtin.List.listSubscript? := by unfold slSubF; rw [← PySem.W.Fast.te8809883150852718426]
noncomputable def slPartsF : Value → Sem (Value × Value × Value) := PySem.W.Fast.tw10804002551933667111
theorem slPartsF_eq : slPartsF = Builtin.List.listSliceParts := by unfold slPartsF; rw [← PySem.W.Fast.te10804002551933667111]
noncomputable def slItemsF : Value → Sem (Array Value) := PySem.W.Fast.tw10557518346328741659
theorem slItemsF_eq : slItemsF = Builtin.List.listItems := by unfold slItemsF; rw [← PySem.W.Fast.te10557518346328741659]
noncomputable def slIdxF : Value → Value → Value → Nat → Sem (Int × Int × Int) := PySem.W.Fast.tw3967640627792924556
theorem slIdxF_eq : slIdxF = sliceIndices := by unfold slIdxF; rw [← PySem.W.Fast.te3967640627792924556]
noncomputable def slUpdF : Value → (Array Value → Array Value) → Sem Unit := PySem.W.Fast.tw2060155186595164805
theorem slUpdF_eq : slUpdF = Builtin.List.listUpdate := by unfold slUpdF; rw [← PySem.W.Fast.te2060155186595164805]
noncomputable def setT (args : Args) : Sem Fin := do
  let x ← slArgsF "__setitem__" 2 args
  match x.2 with
  | [i, v] =>
    match ← slSubF i with
    | some _ => unsupported ""
    | none =>
      match litV "slice" (← typeOf i) with
      | false => unsupported ""
      | true =>
        let p ← slPartsF i
        match v with
        | .ref a =>
          let o ← load a
          match litV "list" o.cls with
          | false => unsupported ""
          | true =>
            let new ← slItemsF v
            let xs ← slItemsF x.1
            let q ← slIdxF p.1 p.2.1 p.2.2 xs.size
            if q.2.2 == 1 then
              if Builtin.List.listTooLong (xs.size + new.size) then unsupported ""
              else do
                slUpdF x.1 fun xs => xs.extract 0 q.1.toNat ++ new ++ xs.extract (max q.1 q.2.1).toNat xs.size
                letGo (xs.extract q.1.toNat (max q.1 q.2.1).toNat).toList.reverse
                ret .none
            else unsupported ""
        | _ => unsupported ""
  | _ => unsupported ""
theorem lowd_rule {α : Type} {prog : Program} {w : World} {c : Code} {tag : String} {f : Unit → Sem α} {t : Sem α} (h : LowD prog w c (f ()) t) : LowD prog w c (rule tag >>= f) t := fun Γ p Q E s A hc hA hd z => by
  rw [Sem.wp_bind']
  exact h Γ p Q E s A hc hA hd z
theorem tail_low {prog : Program} {w : World} {c : Code} (self : Value) (new xs : Array Value) (q : Int × Int × Int) {u : Sem Fin} {m : String} : LowD prog w c
    (if (q.2.2 == 1) = true then do
        rule "list.__setitem__.slice"
        if Builtin.List.listTooLong (xs.size + new.size) then unsupported m
        Builtin.List.listUpdate self fun xs => xs.extract 0 q.1.toNat ++ new ++ xs.extract (max q.1 q.2.1).toNat xs.size
        letGo (xs.extract q.1.toNat (max q.1 q.2.1).toNat).toList.reverse
        ret .none
      else u)
    (if (q.2.2 == 1) = true then
      if Builtin.List.listTooLong (xs.size + new.size) then unsupported ""
      else do
        Builtin.List.listUpdate self fun xs => xs.extract 0 q.1.toNat ++ new ++ xs.extract (max q.1 q.2.1).toNat xs.size
        letGo (xs.extract q.1.toNat (max q.1 q.2.1).toNat).toList.reverse
        ret .none
    else unsupported "") := by
  cases (q.2.2 == 1) with
  | false => exact fun _ _ _ _ _ _ _ _ _ h => h.elim
  | true =>
    rw [if_pos rfl, if_pos rfl]
    refine lowd_rule ?_
    cases Builtin.List.listTooLong (xs.size + new.size) with
    | true => exact fun _ _ _ _ _ _ _ _ _ h => h.elim
    | false => exact lowd_refl _
theorem setT_low (prog : Program) (w : World) (c : Code) (args : Args) : LowD prog w c (Builtin.«list.__setitem__» args) (setT args) := by
  unfold Builtin.«list.__setitem__» setT
  rw [slArgsF_eq, slSubF_eq, slPartsF_eq, slItemsF_eq, slIdxF_eq, slUpdF_eq]
  refine lowd_bind (lowd_refl _) fun x => ?_
  obtain ⟨self, rest⟩ := x
  dsimp only
  rcases rest with _ | ⟨i, _ | ⟨v, _ | ⟨y, l⟩⟩⟩
  · exact fun _ _ _ _ _ _ _ _ _ h => h.elim
  · exact fun _ _ _ _ _ _ _ _ _ h => h.elim
  · dsimp only
    refine lowd_bind (lowd_refl _) fun k => ?_
    cases k with
    | some k => exact fun _ _ _ _ _ _ _ _ _ h => h.elim
    | none =>
      dsimp only
      refine lowd_bind (lowd_refl _) fun ti => ?_
      cases e : litV "slice" ti with
      | false => exact fun _ _ _ _ _ _ _ _ _ h => h.elim
      | true =>
        have e := litV_iff e
        subst e
        rw [if_neg (by simp)]
        refine lowd_bind (lowd_refl _) fun pt => ?_
        cases v with
        | ref a =>
          intro Γ p Q E s A hc hA hd h
          rw [Sem.wp_bind'] at h
          obtain ⟨o, ho, h⟩ := h
          have h : Sem.wp (model prog w) Γ (match litV "list" o.cls with | false => unsupported "" | true => _) Q E p s := h
          cases e2 : litV "list" o.cls with
          | false => rw [e2] at h; exact h.elim
          | true =>
            rw [e2] at h
            dsimp only at h
            have e3 := litV_iff e2
            cases e4 : Builtin.List.listSameRef self (.ref a) with
            | true =>
              rw [if_pos rfl]
              exact (lowd_bind (lowd_refl _) fun new => lowd_bind (lowd_refl _) fun xs => lowd_bind (lowd_refl _) fun q => tail_low self new xs q) Γ p Q E s A hc hA hd h
            | false =>
              rw [if_neg (by simp)]
              rw [Sem.wp_bind'] at h ⊢
              unfold Builtin.List.listAllItems
              rw [Sem.wp_bind']
              refine ⟨o, ho, ?_⟩
              show Sem.wp _ Γ (if (o.cls == .type "list" || o.cls == .type "tuple") = true then _ else _) _ E p s
              rw [e3, if_pos (by simp)]
              exact Sem.wp_mono _ Γ _ (fun new p' s' h' => (lowd_bind (lowd_refl _) fun xs => lowd_bind (lowd_refl _) fun q => tail_low self new xs q) Γ p' Q E s' A hc hA hd h') (fun _ _ _ h => h) p s h
        | _ => exact fun _ _ _ _ _ _ _ _ _ h => h.elim
  · exact fun _ _ _ _ _ _ _ _ _ h => h.elim
theorem den_builtin (id : String) (args : Args) (b : Builtin) (h : entryFor table id = some b) : denote table (.builtin id args) = b args := by
  show (match entryFor table id with | some b => b args | none => unsupported ((withoutEnding? id "#data").getD id)) = _
  rw [h]
theorem ent_set : entryFor table "list.__setitem__" = some Builtin.«list.__setitem__» := entryFor_of_tree (by kernel_rfl)
noncomputable def ovrS (id : String) (args : Args) : Option (Sem Fin) := match args.pos with
  | [_, .ref _, .ref _] => match litEq id "list.__setitem__" with
    | true => some (setT args)
    | false => none
  | _ => none
theorem ovrS_low {prog : Program} {w : World} {id : String} {args : Args} {t : Sem Fin} (h : ovrS id args = some t) : LowD prog w (.builtin id args) (denote table (.builtin id args)) t := by
  unfold ovrS at h
  split at h
  · split at h
    · rename_i e
      cases h
      rw [litEq_iff] at e
      exact lowd_to (den_builtin id args _ (by rw [e]; exact ent_set)) (setT_low prog w _ args)
    · cases h
  · cases h
noncomputable def ovr2 (prog : Program) (c : Code) : Option (Sem Fin) := match c with
  | .builtin id args => ovrS id args
  | c => ovr prog c
theorem ovr2_low {prog : Program} {w : World} {c : Code} {t : Sem Fin} (htop : (prog.main.scope.names.lookup ("super" : Str)).isSome = false) (h : ovr2 prog c = some t) : LowD prog w c (denote table c) t := by
  cases c with
  | builtin id args => exact ovrS_low h
  | _ => exact ovr_low htop h
end Mine
end
section
open PySem PySem.W PySem.W.X
namespace Mine
noncomputable def extC (self : Value) (b : Bool) (x y : Sem Fin) : Sem Fin := match b with
  | true => x
  | false => match self with
    | .ref a => do
      let o ← load a
      match litV "list" o.cls with
      | true => y
      | false => unsupported ""
    | _ => unsupported ""
theorem extC_false {prog : Program} {w : World} {Γ : Ctx} {Q : Fin → Pos → Shared → Prop} {E : Value → Pos → Shared → Prop} {p : Pos} {s : Shared} {self : Value} {x y : Sem Fin} (h : Sem.wp (model prog w) Γ (extC self false x y) Q E p s) :
    ∃ a o, self = .ref a ∧ s.heap.get? a = some o ∧ o.cls = .type "list" ∧ Sem.wp (model prog w) Γ y Q E p s := by
  unfold extC at h
  dsimp only at h
  cases self with
  | ref a =>
    dsimp only at h
    rw [Sem.wp_bind'] at h
    obtain ⟨o, ho, h⟩ := h
    have h : Sem.wp (model prog w) Γ (match litV "list" o.cls with | true => y | false => unsupported "") Q E p s := h
    cases e : litV "list" o.cls with
    | false => rw [e] at h; exact h.elim
    | true => rw [e] at h; exact ⟨a, o, rfl, ho, litV_iff e, h⟩
  | _ => exact h.elim
theorem ext_low {prog : Program} {w : World} {c : Code} (self it : Value) (b1 b2 : Value → Bool) (h1 : b1 (.type "list") = true) (A B : Value → Sem Fin) :
    LowD prog w c (PySem.W.Fast.tw14684505520029207082 it >>= fun t => if (Builtin.List.listSameRef self it || b1 t || b2 t) = true then A t else B t)
      (PySem.W.Fast.tw14684505520029207082 it >>= fun t => extC self (b1 t || b2 t) (A t) (B t)) := by
  rw [← PySem.W.Fast.te14684505520029207082]
  intro Γ p Q E s A' hc hA hd h
  have gen : (∀ a, self = .ref a → Builtin.List.listSameRef self it = false) → Sem.wp (model prog w) Γ (typeOf it >>= fun t => if (Builtin.List.listSameRef self it || b1 t || b2 t) = true then A t else B t) Q E p s := by
    intro hs
    rw [Sem.wp_bind'] at h ⊢
    refine Sem.wp_mono _ Γ _ (fun t p' s' h' => ?_) (fun _ _ _ h => h) p s h
    cases e : (b1 t || b2 t) with
    | true =>
      rw [e] at h'
      rw [Bool.or_assoc, e, Bool.or_true, if_pos rfl]
      exact h'
    | false =>
      rw [e] at h'
      obtain ⟨a, o, es, _, _, z⟩ := extC_false h'
      rw [Bool.or_assoc, e, hs a es, Bool.or_false, if_neg (by simp)]
      exact z
  cases it with
  | ref y =>
    rw [Sem.wp_bind'] at h ⊢
    obtain ⟨o, ho, h⟩ := h
    refine ⟨o, ho, ?_⟩
    have h : Sem.wp (model prog w) Γ (extC self (b1 o.cls || b2 o.cls) (A o.cls) (B o.cls)) Q E p s := h
    show Sem.wp (model prog w) Γ (if (Builtin.List.listSameRef self (.ref y) || b1 o.cls || b2 o.cls) = true then A o.cls else B o.cls) Q E p s
    cases e : (b1 o.cls || b2 o.cls) with
    | true =>
      rw [e] at h
      rw [Bool.or_assoc, e, Bool.or_true, if_pos rfl]
      exact h
    | false =>
      rw [e] at h
      obtain ⟨a, o2, es, ho2, hcl, z⟩ := extC_false h
      have hne : Builtin.List.listSameRef self (.ref y) = false := by
        rw [es]
        show (a == y) = false
        cases q : (a == y) with
        | false => rfl
        | true =>
          have := eq_of_beq q
          subst this
          rw [ho] at ho2
          cases ho2
          rw [hcl, h1] at e
          simp at e
      rw [Bool.or_assoc, e, hne, Bool.or_false, if_neg (by simp)]
      exact z
  | _ => exact gen fun a es => by rw [es]; rfl
noncomputable def extT (self it result : Value) : { t : Sem Fin // ∀ prog w c, LowD prog w c (Builtin.List.listExtendWith self it result) t } :=
  ⟨_, fun prog w c => lowd_to (c3 PySem.W.Fast.te8938917530802602619 self it result) (by
    unfold PySem.W.Fast.tw8938917530802602619
    rw [← PySem.W.Fast.te12456147031677567982]
    exact ext_low self it _ _ (by kernel_rfl) _ _)⟩
theorem iadd_low (prog : Program) (w : World) (c : Code) (self it : Value) : LowD prog w c (Builtin.«list.__iadd__» ⟨[self, it], []⟩) (extT self it self).1 := by
  have e : Builtin.«list.__iadd__» ⟨[self, it], []⟩ = Builtin.List.listExtendWith self it self := rfl
  rw [e]
  exact (extT self it self).2 prog w c
noncomputable def initT (self it : Value) : Sem Fin := do
  let old ← slItemsF self
  slUpdF self fun _ => #[]
  letGo old.toList.reverse
  (extT self it .none).1
theorem init_low (prog : Program) (w : World) (c : Code) (self it : Value) : LowD prog w c (Builtin.«list.__init__» ⟨[self, it], []⟩) (initT self it) := by
  unfold initT
  rw [slItemsF_eq, slUpdF_eq]
  refine lowd_to (u := do
    let old ← Builtin.List.listItems self
    Builtin.List.listUpdate self fun _ => #[]
    letGo old.toList.reverse
    Builtin.List.listExtendWith self it .none) rfl ?_
  exact lowd_bind (lowd_refl _) fun _ => lowd_bind (lowd_refl _) fun _ => lowd_bind (lowd_refl _) fun _ => (extT self it .none).2 prog w c
theorem ent_iadd : entryFor table "list.__iadd__" = some Builtin.«list.__iadd__» := entryFor_of_tree (by kernel_rfl)
theorem ent_init : entryFor table "list.__init__" = some Builtin.«list.__init__» := entryFor_of_tree (by kernel_rfl)
noncomputable def ovrB (id : String) (args : Args) : Option (Sem Fin) := match args.kw with
  | [] => match args.pos with
    | self :: l => match l with
      | .ref y :: l' => match l' with
        | [] => match litEq id "list.__iadd__" with
          | true => some (extT self (.ref y) self).1
          | false => match litEq id "list.__init__" with
            | true => some (initT self (.ref y))
            | false => none
        | _ => ovrS id args
      | _ => none
    | [] => none
  | _ => none
theorem ovrB_low {prog : Program} {w : World} {id : String} {args : Args} {t : Sem Fin} (h : ovrB id args = some t) : LowD prog w (.builtin id args) (denote table (.builtin id args)) t := by
  obtain ⟨pos, kw⟩ := args
  unfold ovrB at h
  cases kw with
  | cons _ _ => cases h
  | nil =>
    dsimp only at h
    rcases pos with _ | ⟨self, _ | ⟨x, l⟩⟩
    · cases h
    · cases h
    · cases x with
      | ref y =>
        cases l with
        | nil =>
          dsimp only at h
          cases e1 : litEq id "list.__iadd__" with
          | true =>
            rw [e1] at h; cases h
            rw [litEq_iff] at e1
            exact lowd_to (den_builtin id _ _ (by rw [e1]; exact ent_iadd)) (iadd_low prog w _ self (.ref y))
          | false =>
            rw [e1] at h
            dsimp only at h
            cases e2 : litEq id "list.__init__" with
            | true =>
              rw [e2] at h; cases h
              rw [litEq_iff] at e2
              exact lowd_to (den_builtin id _ _ (by rw [e2]; exact ent_init)) (init_low prog w _ self (.ref y))
            | false => rw [e2] at h; cases h
        | cons z l => exact ovrS_low h
      | _ => cases h
noncomputable def ovr3 (prog : Program) (c : Code) : Option (Sem Fin) := match c with
  | .builtin id args => ovrB id args
  | c => ovr prog c
theorem ovr3_low {prog : Program} {w : World} {c : Code} {t : Sem Fin} (htop : (prog.main.scope.names.lookup ("super" : Str)).isSome = false) (h : ovr3 prog c = some t) : LowD prog w c (denote table c) t := by
  cases c with
  | builtin id args => exact ovrB_low h
  | _ => exact ovr_low htop h
end Mine
end
section
open PySem PySem.W PySem.W.X
namespace Mine
theorem strNew_eq (x : Addr) : Builtin.«str.__new__» ⟨[.type "str", .ref x], []⟩ = (Builtin.Str.strOf (.ref x) >>= fun made => ret made) := by
  unfold Builtin.«str.__new__»
  dsimp only
  kernel_rfl
noncomputable def specF : Value → Str → Sem (Option Value) := fun v s => PySem.W.Fast.tw9201129301070521445 v s
noncomputable def asStrF : Value → Sem (Option Str) := PySem.W.Fast.tw8364510232829398291
theorem asStrF_eq : asStrF = asStr? := by unfold asStrF; rw [← PySem.W.Fast.te8364510232829398291]
theorem specF_eq (v : Value) (n : Str) : specF v n = callSpecial? v n := by unfold specF; rw [← PySem.W.Fast.te9201129301070521445]
noncomputable def strT (x : Addr) : Sem Fin := PySem.W.R.bindR (romF 1) fun _ => do
  match ← specF (.ref x) "__str__" with
  | none => unsupported ""
  | some r =>
    match ← asStrF r with
    | none => unsupported ""
    | some _ => ret r
theorem strT_low (prog : Program) (w : World) (c : Code) (x : Addr) : LowD prog w c (Builtin.«str.__new__» ⟨[.type "str", .ref x], []⟩) (strT x) := by
  rw [strNew_eq]
  unfold strT Builtin.Str.strOf
  rw [asStrF_eq, specF_eq, romF_eq, ← PySem.W.R.bindR_eq]
  intro Γ p Q E s A hc hA hd h
  rw [Sem.wp_bind', if_neg (by rw [show Builtin.Str.isExactStr (.ref x) = false from rfl]; exact Bool.false_ne_true)]
  have h : Sem.wp (model prog w) Γ (cRoom "str" >>= _) Q E p s := h
  rw [Sem.wp_bind'] at h
  show Sem.wp (model prog w) Γ (cRoom "str" >>= _) _ E p s
  rw [Sem.wp_bind']
  refine Sem.wp_mono _ Γ _ (fun _ p' s' h' => ?_) (fun _ _ _ h => h) p s h
  rw [Sem.wp_bind'] at h' ⊢
  refine Sem.wp_mono _ Γ _ (fun r? p' s' h' => ?_) (fun _ _ _ h => h) _ _ h'
  cases r? with
  | none => exact h'.elim
  | some r =>
    dsimp only at h' ⊢
    rw [Sem.wp_bind'] at h' ⊢
    refine Sem.wp_mono _ Γ _ (fun y p' s' h' => ?_) (fun _ _ _ h => h) _ _ h'
    cases y with
    | none => exact h'.elim
    | some _ => exact h'
theorem ent_strn : entryFor table "str.__new__" = some Builtin.«str.__new__» := entryFor_of_tree (by kernel_rfl)
noncomputable def ovrN (id : String) (args : Args) : Option (Sem Fin) := match args.kw with
  | [] => match args.pos with
    | .type n :: l => match l with
      | .ref x :: l' => match l' with
        | [] => match litEq id "str.__new__" with
          | true => match litEq n "str" with
            | true => some (strT x)
            | false => none
          | false => none
        | _ => none
      | _ => none
    | _ => none
  | _ => none
theorem ovrN_low {prog : Program} {w : World} {id : String} {args : Args} {t : Sem Fin} (h : ovrN id args = some t) : LowD prog w (.builtin id args) (denote table (.builtin id args)) t := by
  obtain ⟨pos, kw⟩ := args
  cases kw with
  | cons _ _ => cases h
  | nil =>
    rcases pos with _ | ⟨a, l⟩
    · cases h
    · cases a with
      | type n =>
        rcases l with _ | ⟨b, l⟩
        · cases h
        · cases b with
          | ref x =>
            cases l with
            | cons _ _ => cases h
            | nil =>
              unfold ovrN at h
              dsimp only at h
              cases e1 : litEq id "str.__new__" with
              | false => rw [e1] at h; cases h
              | true =>
                rw [e1] at h
                dsimp only at h
                cases e2 : litEq n "str" with
                | false => rw [e2] at h; cases h
                | true =>
                  rw [e2] at h; cases h
                  rw [litEq_iff] at e1 e2
                  subst e2
                  exact lowd_to (den_builtin id _ _ (by rw [e1]; exact ent_strn)) (strT_low prog w _ x)
          | _ => cases h
      | _ => cases h
noncomputable def ovr4 (prog : Program) (c : Code) : Option (Sem Fin) := match c with
  | .builtin id args => match ovrN id args with
    | some t => some t
    | none => ovrB id args
  | c => ovr prog c
theorem ovr4_low {prog : Program} {w : World} {c : Code} {t : Sem Fin} (htop : (prog.main.scope.names.lookup ("super" : Str)).isSome = false) (h : ovr4 prog c = some t) : LowD prog w c (denote table c) t := by
  cases c with
  | builtin id args =>
    unfold ovr4 at h
    dsimp only at h
    cases e : ovrN id args with
    | some t' => rw [e] at h; cases h; exact ovrN_low e
    | none => rw [e] at h; exact ovrB_low h
  | _ => exact ovr_low htop h
end Mine
end
section
open PySem PySem.W PySem.W.X
namespace Mine
noncomputable def iterF : Value → Sem Value := PySem.W.Fast.tw8711993805878244202
theorem iterF_eq : iterF = pyIter := by unfold iterF; rw [← PySem.W.Fast.te8711993805878244202]
noncomputable def enumT (x : Value) : Sem Fin := do
  let it ← iterF x
  let a ← alloc { cls := .type "enumerate", data := .fields #[.none, .bool false, it, .int 0 0, .none, .none] }
  ret (.ref a)
theorem wp_called {prog : Program} {w : World} {Γ : Ctx} {Q : Bool → Pos → Shared → Prop} {E : Value → Pos → Shared → Prop} {p : Pos} {s : Shared} {cls : Value} (h : ∀ b, Q b p s) : Sem.wp (model prog w) Γ (Builtin.SmallTypes.calledThroughType cls) Q E p s := by
  unfold Builtin.SmallTypes.calledThroughType
  rw [Sem.wp_bind']
  exact h _
theorem newClass_enum (x : Value) : Builtin.SmallTypes.newClass "enumerate" ⟨[.type "enumerate", x], []⟩ = pure (.type "enumerate", [x]) := by kernel_rfl
theorem enumT_low (prog : Program) (w : World) (c : Code) (x : Value) : LowD prog w c (Builtin.«enumerate.__new__» ⟨[.type "enumerate", x], []⟩) (enumT x) := by
  unfold enumT Builtin.«enumerate.__new__»
  rw [iterF_eq, newClass_enum]
  intro Γ p Q E s A hc hA hd h
  rw [Sem.wp_bind']
  show Sem.wp (model prog w) Γ (Builtin.SmallTypes.calledThroughType (.type "enumerate") >>= _) Q E p s
  rw [Sem.wp_bind']
  refine wp_called fun b => ?_
  rw [Sem.wp_bind'] at h
  cases b with
  | true =>
    show Sem.wp (model prog w) Γ (pyIter x >>= _) Q E p s
    rw [Sem.wp_bind']
    refine Sem.wp_mono _ Γ _ (fun it p' s' h' => ?_) (fun _ _ _ h => h) p s h
    exact h'
  | false =>
    show Sem.wp (model prog w) Γ (pyIter x >>= _) Q E p s
    rw [Sem.wp_bind']
    refine Sem.wp_mono _ Γ _ (fun it p' s' h' => ?_) (fun _ _ _ h => h) p s h
    exact h'
theorem ent_enum : entryFor table "enumerate.__new__" = some Builtin.«enumerate.__new__» := entryFor_of_tree (by kernel_rfl)
noncomputable def ovrE (id : String) (args : Args) : Option (Sem Fin) := match args.kw with
  | [] => match args.pos with
    | .type n :: l => match l with
      | x :: l' => match l' with
        | [] => match litEq id "enumerate.__new__" with
          | true => match litEq n "enumerate" with
            | true => some (enumT x)
            | false => none
          | false => none
        | _ => none
      | _ => none
    | _ => none
  | _ => none
theorem ovrE_low {prog : Program} {w : World} {id : String} {args : Args} {t : Sem Fin} (h : ovrE id args = some t) : LowD prog w (.builtin id args) (denote table (.builtin id args)) t := by
  obtain ⟨pos, kw⟩ := args
  cases kw with
  | cons _ _ => cases h
  | nil =>
    rcases pos with _ | ⟨a, l⟩
    · cases h
    · cases a with
      | type n =>
        rcases l with _ | ⟨x, l⟩
        · cases h
        · cases l with
          | cons _ _ => cases h
          | nil =>
            unfold ovrE at h
            dsimp only at h
            cases e1 : litEq id "enumerate.__new__" with
            | false => rw [e1] at h; cases h
            | true =>
              rw [e1] at h
              dsimp only at h
              cases e2 : litEq n "enumerate" with
              | false => rw [e2] at h; cases h
              | true =>
                rw [e2] at h; cases h
                rw [litEq_iff] at e1 e2
                subst e2
                exact lowd_to (den_builtin id _ _ (by rw [e1]; exact ent_enum)) (enumT_low prog w _ x)
      | _ => cases h
noncomputable def ovr5 (prog : Program) (c : Code) : Option (Sem Fin) := match c with
  | .builtin id args => match ovrN id args with
    | some t => some t
    | none => match ovrE id args with
      | some t => some t
      | none => ovrB id args
  | c => ovr prog c
theorem ovr5_low {prog : Program} {w : World} {c : Code} {t : Sem Fin} (htop : (prog.main.scope.names.lookup ("super" : Str)).isSome = false) (h : ovr5 prog c = some t) : LowD prog w c (denote table c) t := by
  cases c with
  | builtin id args =>
    unfold ovr5 at h
    dsimp only at h
    cases e : ovrN id args with
    | some t' => rw [e] at h; cases h; exact ovrN_low e
    | none =>
      rw [e] at h
      dsimp only at h
      cases e2 : ovrE id args with
      | some t' => rw [e2] at h; cases h; exact ovrE_low e2
      | none => rw [e2] at h; exact ovrB_low h
  | _ => exact ovr_low htop h
end Mine
end
section
open PySem PySem.W PySem.W.X
namespace Mine
section
variable {prog : Program} {w : World} {c : Code}
theorem lowd_cRoom {what : String} : LowD prog w c (cRoom what) (pure ()) := fun Γ p Q E s A hc hA hd h => by
  have hu : Γ.units < cLine := Nat.lt_of_le_of_lt hA.2.2.2.2 hd.2
  unfold cRoom
  rw [Sem.wp_bind']
  show Sem.wp _ Γ (if ((((Γ.code, p) :: Γ.below).map (·.1.cUnits)).sum ≥ cLine) then _ else _) _ _ p s
  have e : (((Γ.code, p) :: Γ.below).map (·.1.cUnits)).sum = Γ.units := rfl
  rw [e, if_neg (by omega)]
  exact h
theorem lowd_cRoomFor {what : String} {vs : List Value} : LowD prog w c (cRoomFor what vs) (pure ()) := by
  unfold cRoomFor
  split
  · exact lowd_cRoom
  · exact lowd_refl _
theorem rich_shape (l l' : List Value) (wh : String) (K : Unit → Sem Value) : LowD prog w c (PySem.W.Fast.tw17359229931016689406 l (PySem.W.Fast.tw13383273872528276517 wh l' >>= K)) (PySem.W.Fast.tw17359229931016689406 l (K ())) := by
  rw [← PySem.W.Fast.te17359229931016689406, ← PySem.W.Fast.te13383273872528276517]
  refine lowd_holding ?_
  intro Γ p Q E s A hc hA hd h
  rw [Sem.wp_bind']
  exact lowd_cRoomFor Γ p _ _ s A hc hA hd h
end
noncomputable def richT (op : CmpOp) (a b : Value) : { t : Sem Value // ∀ prog w c, LowD prog w c (richCompare op a b) t } :=
  ⟨_, fun prog w c => lowd_to (c3 PySem.W.Fast.te9423741818375054981 op a b) (by
    unfold PySem.W.Fast.tw9423741818375054981
    rw [← PySem.W.Fast.te12456147031677567982]
    exact rich_shape _ _ _ _)⟩
noncomputable def holdF {α : Type} (l : List Value) (m : Sem α) : Sem α := PySem.W.Fast.tw17359229931016689406 l m
theorem holdF_eq {α : Type} (l : List Value) (m : Sem α) : holdF l m = holding l m := by unfold holdF; rw [← PySem.W.Fast.te17359229931016689406]
noncomputable def releaseF : List Value → List Value → Sem Unit := PySem.W.Fast.tw16427652380498605876
theorem releaseF_eq : releaseF = release := by unfold releaseF; rw [← PySem.W.Fast.te16427652380498605876]
noncomputable def truthyF : Value → Sem Bool := PySem.W.Fast.tw15245631507167962100
theorem truthyF_eq : truthyF = truthy := by unfold truthyF; rw [← PySem.W.Fast.te15245631507167962100]
noncomputable def execSF : Stmt → Env → Sem Flow := fun s env => PySem.W.Fast.tw12563942051412417395 [s] env
noncomputable def isEq : CmpOp → Bool
  | .Eq => true
  | .NotEq => true
  | _ => false
theorem isEq_op {op : CmpOp} (h : isEq op = true) (a b : Value) : compareOp op a b = richCompare op a b := by cases op <;> first | rfl | cases h
theorem isEq_behind {op : CmpOp} (h : isEq op = true) (r : Expr) : behindInMarks op r = false := by
  unfold behindInMarks
  split
  · cases op <;> first | (cases h; done) | simp
  · rfl
theorem isEq_marks {op : CmpOp} (h : isEq op = true) (r : Expr) (t : Sem Value) : markedEach [op] [r] [t] = [t] := by
  show [markedBehindIn op r t] = [t]
  unfold markedBehindIn
  rw [isEq_behind h]
noncomputable def operT (op : CmpOp) (a b : Value) : Sem Value := do
  let r ← holdF [a, b] (richT op a b).1
  releaseF [a, b] [r]
  pure r
noncomputable def cmpT (l : Expr) (op : CmpOp) (r : Expr) (pos : Pos) (env : Env) : Sem Value := do
  let lv ← evalF l env
  let rv ← holdF [lv] (evalF r env)
  standAt pos
  operT op lv rv
noncomputable def testT (l : Expr) (op : CmpOp) (r : Expr) (pos : Pos) (env : Env) : Sem Bool := do
  let lv ← evalF l env
  let rv ← holdF [lv] (evalF r env)
  standAt pos
  let c ← operT op lv rv
  holdF [c] (truthyF c)
section
variable {prog : Program} {w : World} {c : Code}
theorem oper_low {op : CmpOp} (h : isEq op = true) (a b : Value) : LowD prog w c (operate [a, b] (compareOp op a b)) (operT op a b) := by
  rw [isEq_op h]
  unfold operate operT
  rw [holdF_eq, releaseF_eq]
  exact lowd_bind (lowd_holding ((richT op a b).2 prog w c)) fun _ => lowd_refl _
theorem cmp_low {l : Expr} {op : CmpOp} {r : Expr} {pos : Pos} {env : Env} (h : isEq op = true) : LowD prog w c (eval (.Compare l [op] [r] pos) env) (cmpT l op r pos env) := by
  refine lowd_to (arm_eval_Compare l [op] [r] pos env) ?_
  unfold cmpT
  rw [evalF_eq]
  refine lowd_bind (lowd_refl _) fun lv => ?_
  rw [show evalEach [r] env = [eval r env] from rfl, isEq_marks h, holdF_eq]
  exact lowd_bind (lowd_refl _) fun rv => lowd_bind (lowd_refl _) fun _ => oper_low h _ _
theorem test_low {l : Expr} {op : CmpOp} {r : Expr} {pos : Pos} {env : Env} {m : Sem Value} (h : isEq op = true) : LowD prog w c (isTrue (.Compare l [op] [r] pos) env m) (testT l op r pos env) := by
  refine lowd_to (u := do testChain pos (← eval l env) [op] (markedEach [op] [r] (evalEach [r] env))) rfl ?_
  unfold testT
  rw [evalF_eq]
  refine lowd_bind (lowd_refl _) fun lv => ?_
  rw [show evalEach [r] env = [eval r env] from rfl, isEq_marks h, holdF_eq, truthyF_eq]
  refine lowd_bind (lowd_refl _) fun rv => lowd_bind (lowd_refl _) fun _ => lowd_bind (oper_low h _ _) fun c => ?_
  rw [holdF_eq]
  exact lowd_refl _
end
noncomputable def swapF : List Expr → Expr → Nat → Env → Sem Bool := PySem.W.Fast.tw7783108440312521181
theorem swapF_eq : swapF = swapsWithSole := by unfold swapF; rw [← PySem.W.Fast.te7783108440312521181]
noncomputable def swStF : List Expr → Expr → Env → Sem (Option (List Str)) := PySem.W.Fast.tw4016559146275205325
theorem swStF_eq : swStF = swappedStores := by unfold swStF; rw [← PySem.W.Fast.te4016559146275205325]
noncomputable def asStF : Env → Value → Option (List Str) → List (Value → Sem Unit) → Sem Flow := PySem.W.Fast.tw2470068587113613483
theorem asStF_eq : asStF = assignStores := by unfold asStF; rw [← PySem.W.Fast.te2470068587113613483]
noncomputable def asEaF : List Expr → Env → List (Bool × (Value → Sem Unit)) := PySem.W.Fast.tw15628205474173192105
theorem asEaF_eq : asEaF = assignEach := by unfold asEaF; rw [← PySem.W.Fast.te15628205474173192105]
noncomputable def execC (s : Stmt) (env : Env) : Option (Sem Flow) := match s with
  | .If test body orelse pos => match test with
    | .Compare l ops rs cpos => match ops, rs with
      | [op], [r] => match isEq op with
        | true => some (do
            standAt pos
            let b ← testT l op r cpos env
            match b with
            | true => execsF body env
            | false => execsF orelse env)
        | false => none
      | _, _ => none
    | _ => none
  | .Return e pos => match e with
    | some e => match e with
      | .Compare l ops rs cpos => match ops, rs with
        | [op], [r] => match isEq op with
          | true => some (do
              standAt pos
              let v ← cmpT l op r cpos env
              pure (.ret v))
          | false => none
        | _, _ => none
      | _ => none
    | none => none
  | .Assign targets e pos => match e with
    | .Compare l ops rs cpos => match ops, rs with
      | [op], [r] => match isEq op with
        | true => some (do
            standAt pos
            let b ← swapF targets e pos.line env
            match b with
            | true => unsupported ""
            | false => do
              let v ← cmpT l op r cpos env
              let q ← swStF targets e env
              asStF env v q ((asEaF targets env).map (·.2)))
        | false => none
      | _, _ => none
    | _ => none
  | _ => none
theorem execC_low {prog : Program} {w : World} {c : Code} {s : Stmt} {env : Env} {t : Sem Flow} (h : execC s env = some t) : LowD prog w c (exec s env) t := by
  unfold execC at h
  repeat' split at h
  all_goals first | (cases h; done) | skip
  · cases h
    rename_i hop
    refine lowd_to (arm_exec_If _ _ _ _ _) ?_
    refine lowd_bind (lowd_refl _) fun _ => lowd_bind (test_low hop) fun b => ?_
    rw [execsF_eq]
    cases b
    · exact lowd_refl _
    · exact lowd_refl _
  · cases h
    rename_i hop
    refine lowd_to (arm_exec_Return _ _ _) ?_
    exact lowd_bind (lowd_refl _) fun _ => lowd_bind (cmp_low hop) fun b => lowd_refl _
  · cases h
    rename_i hop
    refine lowd_to (arm_exec_Assign _ _ _ _) ?_
    rw [swapF_eq, swStF_eq, asStF_eq, asEaF_eq]
    refine lowd_bind (lowd_refl _) fun _ => lowd_bind (lowd_refl _) fun b => ?_
    cases b with
    | true => exact fun _ _ _ _ _ _ _ _ _ h => h.elim
    | false => exact lowd_bind (cmp_low hop) fun v => lowd_refl _
noncomputable def execsC : List Stmt → Env → Sem Flow
  | [], _ => pure .next
  | s :: rest, env => match execC s env with
    | some t => do
      match ← t with
      | .next => execsC rest env
      | f => pure f
    | none => do
      match ← execsF [s] env with
      | .next => execsC rest env
      | f => pure f
theorem execsC_low {prog : Program} {w : World} {c : Code} : ∀ (b : List Stmt) (env : Env), LowD prog w c (execs b env) (execsC b env)
  | [], env => lowd_refl _
  | s :: rest, env => by
    refine lowd_to (u := do match ← exec s env with | .next => execs rest env | f => pure f) rfl ?_
    unfold execsC
    split
    · rename_i t ht
      refine lowd_bind (execC_low ht) fun f => ?_
      cases f with
      | next => exact execsC_low rest env
      | _ => exact lowd_refl _
    · rw [execsF_eq]
      intro Γ p Q E s' A hc hA hd z
      rw [execs_cons, Sem.wp_bind', Sem.wp_bind'] at z
      rw [Sem.wp_bind']
      refine Sem.wp_mono _ Γ _ (fun a p' s' h' => ?_) (fun _ _ _ h => h) p s' z
      cases a with
      | next => exact execsC_low rest env Γ p' Q E s' A hc hA hd h'
      | _ => exact h'
noncomputable def hasC : List Stmt → Bool
  | [] => false
  | s :: rest => match s with
    | .If test _ _ _ => match test with
      | .Compare _ ops _ _ => match ops with
        | [op] => isEq op || hasC rest
        | _ => hasC rest
      | _ => hasC rest
    | .Return e _ => match e with
      | some e => match e with
        | .Compare _ ops _ _ => match ops with
          | [op] => isEq op || hasC rest
          | _ => hasC rest
        | _ => hasC rest
      | none => hasC rest
    | .Assign _ e _ => match e with
      | .Compare _ ops _ _ => match ops with
        | [op] => isEq op || hasC rest
        | _ => hasC rest
      | _ => hasC rest
    | _ => hasC rest
noncomputable def nextF : Value → Sem (Option Value) := PySem.W.Fast.tw9404975358583537561
theorem nextF_eq : nextF = pyNext := by unfold nextF; rw [← PySem.W.Fast.te9404975358583537561]
noncomputable def letGoF : Expr → Value → Value → Sem Unit := PySem.W.Fast.tw1578499551869305889
theorem letGoF_eq : letGoF = letOwnedTupleGo := by unfold letGoF; rw [← PySem.W.Fast.te1578499551869305889]
noncomputable def assignF : Expr → Env → Value → Sem Unit := PySem.W.Fast.tw17772580674575903948
theorem assignF_eq : assignF = assign := by unfold assignF; rw [← PySem.W.Fast.te17772580674575903948]
noncomputable def forC (target : Expr) (it : Value) (body orelse : List Stmt) (env : Env) : Sem Fin := Sem.onRaise (do
  standAt target.pos
  let x ← (nextF it).onRaise (fun _ => standAt { target.pos with line := 0 })
  match x with
  | none => again (.block orelse env)
  | some v => do
    letGoF target it v
    assignF target env v
    let f ← execsC body env
    match f with
    | .next => again (.forLoop target it body orelse env)
    | .cont => again (.forLoop target it body orelse env)
    | .brk => pure (.done .next)
    | .ret v => pure (.done (.ret v))) (fun x => do noteFrame x env; theTreesLotGoes x)
theorem forC_low {prog : Program} {w : World} {target : Expr} {it : Value} {body orelse : List Stmt} {env : Env} : LowD prog w (.forLoop target it body orelse env) (denote table (.forLoop target it body orelse env)) (forC target it body orelse env) := by
  refine lowd_to (u := (forTurn target it body orelse env).onRaise (fun x => do noteFrame x env; theTreesLotGoes x)) rfl ?_
  unfold forC forTurn
  rw [nextF_eq, letGoF_eq, assignF_eq]
  refine lowd_raise ?_
  refine lowd_bind (lowd_refl _) fun _ => lowd_bind (lowd_refl _) fun x => ?_
  cases x with
  | none => exact lowd_refl _
  | some v =>
    refine lowd_bind (lowd_refl _) fun _ => lowd_bind (lowd_refl _) fun _ => lowd_bind (execsC_low body env) fun f => ?_
    cases f <;> exact lowd_refl _
theorem fn_low {prog : Program} {w : World} {body : List Stmt} {env : Env} {m : Sem Flow} (z : LowD prog w (.func body env) (execs body env) m) : LowD prog w (.func body env) (denote table (.func body env)) (fnT env m) := by
  unfold fnT
  rw [leavingF_eq]
  show LowD prog w _ (do point; match ← (execs body env).onRaise («leaving» env) with | .ret v => ret v | _ => ret .none) _
  refine lowd_bind (lowd_refl _) fun _ => lowd_bind (lowd_raise z) fun a => ?_
  cases a <;> exact lowd_refl _
noncomputable def ovr6 (prog : Program) (c : Code) : Option (Sem Fin) := match c with
  | .func body env => match ovr prog (.func body env) with
    | some t => some t
    | none => match hasC body with
      | true => some (fnT env (execsC body env))
      | false => none
  | .forLoop target it body orelse env => match hasC body with
    | true => some (forC target it body orelse env)
    | false => none
  | c => ovr5 prog c
theorem ovr6_low {prog : Program} {w : World} {c : Code} {t : Sem Fin} (htop : (prog.main.scope.names.lookup ("super" : Str)).isSome = false) (h : ovr6 prog c = some t) : LowD prog w c (denote table c) t := by
  cases c with
  | func body env =>
    unfold ovr6 at h
    dsimp only at h
    cases e : ovr prog (.func body env) with
    | some t' => rw [e] at h; cases h; exact ovr_low htop e
    | none =>
      rw [e] at h
      dsimp only at h
      cases e2 : hasC body with
      | true => rw [e2] at h; cases h; exact fn_low (execsC_low body env)
      | false => rw [e2] at h; cases h
  | forLoop target it body orelse env =>
    unfold ovr6 at h
    dsimp only at h
    cases e2 : hasC body with
    | true => rw [e2] at h; cases h; exact forC_low
    | false => rw [e2] at h; cases h
  | _ => exact ovr5_low htop h
end Mine
end
section
open PySem PySem.W PySem.W.X
namespace Mine
theorem top_super : (theProg.main.scope.names.lookup ("super" : Str)).isSome = false := by
  rw [← lookF_eq]; kernel_rfl
noncomputable def ownUF (a : Addr) : Sem Unit := .rule "for.unpacks-the-owned-tuple" fun _ => PySem.W.Fast.tw12367529300394763782 a 0 .none
noncomputable def ownF (a : Addr) (A : Nat) : Sem Unit := if ((some (Value.int (Int.ofNat A) 0) : Option Value) == some (rawInt (Int.ofNat A))) = true then ownUF a else .pure ()
theorem ownF_eq (a : Addr) (A : Nat) : ownF a A = ownUF a := by
  unfold ownF
  rw [if_pos (by simp [rawInt])]
noncomputable def forR (own : Sem Unit) (v : Value) (target : Expr) (it : Value) (body orelse : List Stmt) (env : Env) : Sem Fin :=
  PySem.W.R.onRaiseR (PySem.W.R.bindR own fun _ =>
    PySem.W.R.bindR (PySem.W.Fast.tw17772580674575903948 target env v) fun _ =>
    PySem.W.R.bindR (PySem.W.Fast.tw12563942051412417395 body env) fun f =>
    match f with
    | .next => PySem.W.Fast.tw12377390311714414960 (.forLoop target it body orelse env)
    | .cont => PySem.W.Fast.tw12377390311714414960 (.forLoop target it body orelse env)
    | .brk => .pure (.done .next)
    | .ret v => .pure (.done (.ret v))) fun x =>
      PySem.W.R.bindR (PySem.W.Fast.tw17872113653443481271 x env) fun _ =>
      PySem.W.Fast.tw1623429502029203251 x
noncomputable def compR (own : Sem Unit) (v : Value) (elt : Expr) (g : Comprehension) (e : Expr) (depth : Nat) (it acc : Value) (env : Env) : Sem Fin :=
  PySem.W.R.onRaiseR (PySem.W.R.bindR own fun _ =>
    PySem.W.R.bindR (PySem.W.Fast.tw17772580674575903948 g.target env v) fun _ =>
    PySem.W.R.bindR (PySem.W.R.bindR (PySem.W.Fast.tw14044960220447912780 elt env) fun x =>
      PySem.W.R.bindR (PySem.W.Fast.tw11478286150595567475 (.builtin "list.append") [acc, x]) fun _ => .pure ()) fun _ =>
    PySem.W.Fast.tw12377390311714414960 (.compLoop e depth it acc env)) fun x =>
      PySem.W.R.bindR (PySem.W.Fast.tw17872113653443481271 x env) fun _ =>
      PySem.W.Fast.tw1623429502029203251 x
noncomputable def ownC (c : Code) (a : Addr) (A : Nat) : Option (Sem Fin × Sem Fin) := match c with
  | .forLoop target it body orelse env => some (forR (ownF a A) (.ref A) target it body orelse env, forR (ownUF a) (.ref A) target it body orelse env)
  | .compLoop e depth it acc env => match e with
    | .ListComp elt gens _ _ => match gens with
      | [g] => some (compR (ownF a A) (.ref A) elt g e depth it acc env, compR (ownUF a) (.ref A) elt g e depth it acc env)
      | _ => none
    | _ => none
  | _ => none
theorem ownC_eq {c : Code} {a : Addr} {A : Nat} {x : Sem Fin × Sem Fin} (h : ownC c a A = some x) : x.1 = x.2 := by
  unfold ownC at h
  repeat' split at h
  all_goals first | (cases h; done) | (cases h; dsimp only; rw [ownF_eq])
noncomputable def cxC (V : XV) (con : Con) (room : Nat) : Cx :=
  { V := V, dn0 := denF, ovr := ovr6 theProg, con := con, top := topF V.w.params, rows := rowsF theProg V.w.params, r1 := V.w.params.followText "special-get-raises", r2 := V.w.params.followText "comprehension-iter-twice", ent := entF, wak := wakF, rom := romF, bnd := PySem.W.R.bindR,
    own := ownC, room := room }
noncomputable def cxF (V : XV) : Cx := cxC V (fun _ => none) 250
noncomputable def cxR (V : XV) (m : Nat) (l : List Rl) : Cx := cxC V (fun j => l[j]?) m
structure Base (V : XV) (m : Nat) : Prop where
  prog : V.prog = theProg
  top : ∀ a o, topF V.w.params a = some o → V.h₀.get? a = some o
  lim : V.h₀.NoLimit
  dep : V.A₀.depth + m < recursionLimit
  unt : V.A₀.units + m < cLine
theorem Base.okC {V : XV} {m : Nat} (B : Base V m) (hm : 250 ≤ m) {con : Con} (hc : ∀ {j r}, con j = some r → RlOk V r) : (cxC V con m).Ok where
  ovr := fun {c t κ d L n i g G} h hd h2 h2u H s S => by
    have z := H s S
    intro Γ p hc hΓ
    have q : LowD V.prog V.w c (denote table c) t := by rw [B.prog]; exact ovr6_low top_super h
    refine q Γ p _ _ s ((aroundOf V true κ).under Γ.code) hc hΓ.in ⟨?_, ?_⟩ (z Γ p hc hΓ)
    · have h1 : (aroundOf V true κ).depth ≤ V.A₀.depth + d := (depK_is (V := V) hd).1
      have h3 : V.A₀.depth + m < recursionLimit := B.dep
      show (aroundOf V true κ).depth + Γ.code.weight < recursionLimit
      have h4 : Γ.code.weight = c.weight := by rw [hc]
      rw [h4]
      generalize (aroundOf V true κ).depth = x1 at h1 ⊢
      generalize V.A₀.depth = x2 at h1 h3
      generalize c.weight = x3 at h2 ⊢
      omega
    · have h1 : (aroundOf V true κ).units ≤ V.A₀.units + d := (depK_is (V := V) hd).2
      have h3 : V.A₀.units + m < cLine := B.unt
      show (aroundOf V true κ).units + Γ.code.cUnits < cLine
      have h4 : Γ.code.cUnits = c.cUnits := by rw [hc]
      rw [h4]
      generalize (aroundOf V true κ).units = x1 at h1 ⊢
      generalize V.A₀.units = x2 at h1 h3
      generalize c.cUnits = x3 at h2u ⊢
      omega
  dn0 := denF_eq
  con := hc
  own := ownC_eq
  top := B.top
  rows := by
    show rowsF theProg V.w.params _ _ = ⟨V.prog, V.w.params⟩
    rw [B.prog]; exact rowsF_eq _ _
  ent := fun f => by
    show PySem.W.R.bindR entF f = _
    rw [entF_eq, ← PySem.W.R.bindR_eq]
  wak := fun f => by
    show PySem.W.R.bindR wakF f = _
    rw [wakF_eq, ← PySem.W.R.bindR_eq]
  rom := fun w => ⟨whats w, fun f => by
    show PySem.W.R.bindR (romF w) f = _
    rw [romF_eq, ← PySem.W.R.bindR_eq]⟩
  lim := B.lim
  dep := B.dep
  unt := B.unt
  rm := hm
theorem Base.less {V : XV} {m k : Nat} (B : Base V m) (h : k ≤ m) : Base V k :=
  ⟨B.prog, B.top, B.lim, Nat.lt_of_le_of_lt (Nat.add_le_add_left h _) B.dep, Nat.lt_of_le_of_lt (Nat.add_le_add_left h _) B.unt⟩
theorem Base.ok {V : XV} (B : Base V 250) : (cxF V).Ok := B.okC (Nat.le_refl _) fun e => by cases e
noncomputable def AllOk (V : XV) : List Rl → Prop
  | [] => True
  | r :: l => RlOk V r ∧ AllOk V l
theorem AllOk.get {V : XV} : ∀ {l : List Rl} {j : Nat} {r : Rl}, AllOk V l → l[j]? = some r → RlOk V r
  | [], j, r, _, h => by cases h
  | x :: l, 0, r, H, h => by
    simp only [List.getElem?_cons_zero, Option.some.injEq] at h
    subst h; exact H.1
  | x :: l, j + 1, r, H, h => by
    simp only [List.getElem?_cons_succ] at h
    exact AllOk.get H.2 h
theorem Base.okR {V : XV} {m : Nat} (B : Base V m) (hm : 250 ≤ m) {l : List Rl} (H : AllOk V l) : (cxR V m l).Ok := B.okC hm fun e => H.get e
noncomputable def reV (V : XV) (A : Around) (R : Result → Shared → Prop) : XV := { V with A₀ := { A with handled := none }, R₀ := R }
theorem sat_re {V : XV} {A : Around} {R : Result → Shared → Prop} {L : Led} {n i g : Nat} {G : Gl} {s : Shared} : Sat (reV V A R) L n i g G s ↔ Sat V L n i g G s :=
  ⟨fun S => ⟨S.size, S.toks, S.gsz, S.gens, S.gnd, S.bare, S.drawn, S.os, S.led, S.nd, S.off, S.keep⟩, fun S => ⟨S.size, S.toks, S.gsz, S.gens, S.gnd, S.bare, S.drawn, S.os, S.led, S.nd, S.off, S.keep⟩⟩
noncomputable def Calls (V : XV) (m : Nat) (c : Code) (L : Led) (n i g : Nat) (v : Value) (L' : Led) (n' i' g' : Nat) : Prop :=
  ∀ A R, Base (reV V A R) m → ∀ G, Back (reV V A R) .base (.ok (.ret v)) L' n' i' g' G → MS (reV V A R) ⟨c, none, .base, denF c, L, n, i, g, G⟩
theorem sat_re2 {V : XV} {A A' : Around} {R R' : Result → Shared → Prop} {L : Led} {n i g : Nat} {G : Gl} {s : Shared} (S : Sat (reV V A R) L n i g G s) : Sat (reV V A' R') L n i g G s := sat_re.mpr (sat_re.mp S)
noncomputable def ruleOf (m : Nat) (c : Code) (pre : Led) (n i g : Nat) (v : Value) (post : Led) (n' i' g' : Nat) : Rl := ⟨c, pre, n, i, g, v, post, n', i', g', m, false⟩
theorem Calls.rl {V : XV} {m k : Nat} {c : Code} {pre : Led} {n i g : Nat} {v : Value} {post : Led} {n' i' g' : Nat} (H : ∀ b, Calls V m c (pre ++ b) n i g v (post ++ b) n' i' g') (B : Base V k) : RlOk V (ruleOf m c pre n i g v post n' i' g') := by
  intro A hA b G s S R HR
  obtain ⟨hh, hd, hu⟩ := hA.1 rfl
  have hb : Base (reV V A R) m := ⟨B.prog, B.top, B.lim, hd, hu⟩
  have H2 := H b A R hb G fun s' S' => HR s' (sat_re.mp S')
  have eA : { A with handled := none } = A := by
    cases A; simp only at hh; subst hh; rfl
  have z := H2 s (sat_re.mpr S)
  refine y_code _ _ _ _ _ _ ?_
  rw [← denF_eq, ← eA]
  exact z
noncomputable def OkR (V : XV) (r : Rl) : Prop := r.lean = false ∧ ∀ R : Led, Calls V r.m r.c (r.pre ++ R) r.n r.i r.g r.v (r.post ++ R) r.n' r.i' r.g'
theorem OkR.rl {V : XV} {k : Nat} {r : Rl} (H : OkR V r) (B : Base V k) : RlOk V r := by
  intro A hA b G s S R HR
  obtain ⟨hh, hd, hu⟩ := hA.1 H.1
  have hb : Base (reV V A R) r.m := ⟨B.prog, B.top, B.lim, hd, hu⟩
  have er : r.res = .ok (.ret r.v) := by unfold Rl.res; rw [H.1]
  have H2 := H.2 b A R hb G fun s' S' => by have z := HR s' (sat_re.mp S'); rw [er] at z; exact z
  have eA : { A with handled := none } = A := by
    cases A; simp only at hh; subst hh; rfl
  have z := H2 s (sat_re.mpr S)
  refine y_code _ _ _ _ _ _ ?_
  rw [← denF_eq, ← eA]
  exact z
noncomputable def lk {α : Type} [Inhabited α] : List α → Nat → α
  | [], _ => default
  | x :: _, 0 => x
  | _ :: l, k + 1 => lk l k
theorem Calls.re {V : XV} {m : Nat} {c : Code} {L : Led} {n i g : Nat} {v : Value} {L' : Led} {n' i' g' : Nat} (A : Around) (R : Result → Shared → Prop) (H : Calls V m c L n i g v L' n' i' g') : Calls (reV V A R) m c L n i g v L' n' i' g' := fun A' R' B G Bk => H A' R' B G Bk
end Mine
end
section
open PySem PySem.W PySem.W.X
namespace Mine
noncomputable def AllE {A B C D E : Type} (Po G : A → B → C → D → E → Prop) : Prop := ∀ a b c d e, Po a b c d e → G a b c d e
noncomputable def AllH {A B C D E F : Type} (Po G : A → B → C → D → E → F → Prop) : Prop := ∀ a b c d e f, Po a b c d e f → G a b c d e f
theorem hid {A B C D E : Type} {Po G : A → B → C → D → E → Prop} (h : ∀ K : A → B → C → D → E → Prop, (∀ a b c d e, G a b c d e → K a b c d e) → AllE Po K) : AllE Po G := h G (fun _ _ _ _ _ x => x)
theorem hid6 {A B C D E F : Type} {Po G : A → B → C → D → E → F → Prop} (h : ∀ K : A → B → C → D → E → F → Prop, (∀ a b c d e f, G a b c d e f → K a b c d e f) → AllH Po K) : AllH Po G := h G (fun _ _ _ _ _ _ x => x)
theorem ex3 {α0 α1 α2 : Type} {P : α0 → α1 → α2 → Prop} {G : Prop} (h : ∃ x0 x1 x2, P x0 x1 x2) (k : ∀ x0 x1 x2, P x0 x1 x2 → G) : G := by
  obtain ⟨x0, x1, x2, h⟩ := h; exact k _ _ _ h
theorem ex4 {α0 α1 α2 α3 : Type} {P : α0 → α1 → α2 → α3 → Prop} {G : Prop} (h : ∃ x0 x1 x2 x3, P x0 x1 x2 x3) (k : ∀ x0 x1 x2 x3, P x0 x1 x2 x3 → G) : G := by
  obtain ⟨x0, x1, x2, x3, h⟩ := h; exact k _ _ _ _ h
theorem ex5 {α0 α1 α2 α3 α4 : Type} {P : α0 → α1 → α2 → α3 → α4 → Prop} {G : Prop} (h : ∃ x0 x1 x2 x3 x4, P x0 x1 x2 x3 x4) (k : ∀ x0 x1 x2 x3 x4, P x0 x1 x2 x3 x4 → G) : G := by
  obtain ⟨x0, x1, x2, x3, x4, h⟩ := h; exact k _ _ _ _ _ h
theorem ex6 {α0 α1 α2 α3 α4 α5 : Type} {P : α0 → α1 → α2 → α3 → α4 → α5 → Prop} {G : Prop} (h : ∃ x0 x1 x2 x3 x4 x5, P x0 x1 x2 x3 x4 x5) (k : ∀ x0 x1 x2 x3 x4 x5, P x0 x1 x2 x3 x4 x5 → G) : G := by
  obtain ⟨x0, x1, x2, x3, x4, x5, h⟩ := h; exact k _ _ _ _ _ _ h
theorem ex7 {α0 α1 α2 α3 α4 α5 α6 : Type} {P : α0 → α1 → α2 → α3 → α4 → α5 → α6 → Prop} {G : Prop} (h : ∃ x0 x1 x2 x3 x4 x5 x6, P x0 x1 x2 x3 x4 x5 x6) (k : ∀ x0 x1 x2 x3 x4 x5 x6, P x0 x1 x2 x3 x4 x5 x6 → G) : G := by
  obtain ⟨x0, x1, x2, x3, x4, x5, x6, h⟩ := h; exact k _ _ _ _ _ _ _ h
theorem ex8 {α0 α1 α2 α3 α4 α5 α6 α7 : Type} {P : α0 → α1 → α2 → α3 → α4 → α5 → α6 → α7 → Prop} {G : Prop} (h : ∃ x0 x1 x2 x3 x4 x5 x6 x7, P x0 x1 x2 x3 x4 x5 x6 x7) (k : ∀ x0 x1 x2 x3 x4 x5 x6 x7, P x0 x1 x2 x3 x4 x5 x6 x7 → G) : G := by
  obtain ⟨x0, x1, x2, x3, x4, x5, x6, x7, h⟩ := h; exact k _ _ _ _ _ _ _ _ h
theorem ex15 {α0 α1 α2 α3 α4 α5 α6 α7 α8 α9 α10 α11 α12 α13 α14 : Type} {P : α0 → α1 → α2 → α3 → α4 → α5 → α6 → α7 → α8 → α9 → α10 → α11 → α12 → α13 → α14 → Prop} {G : Prop} (h : ∃ x0 x1 x2 x3 x4 x5 x6 x7 x8 x9 x10 x11 x12 x13 x14, P x0 x1 x2 x3 x4 x5 x6 x7 x8 x9 x10 x11 x12 x13 x14) (k : ∀ x0 x1 x2 x3 x4 x5 x6 x7 x8 x9 x10 x11 x12 x13 x14, P x0 x1 x2 x3 x4 x5 x6 x7 x8 x9 x10 x11 x12 x13 x14 → G) : G := by
  obtain ⟨x0, x1, x2, x3, x4, x5, x6, x7, x8, x9, x10, x11, x12, x13, x14, h⟩ := h; exact k _ _ _ _ _ _ _ _ _ _ _ _ _ _ _ h
theorem ex23 {α0 α1 α2 α3 α4 α5 α6 α7 α8 α9 α10 α11 α12 α13 α14 α15 α16 α17 α18 α19 α20 α21 α22 : Type} {P : α0 → α1 → α2 → α3 → α4 → α5 → α6 → α7 → α8 → α9 → α10 → α11 → α12 → α13 → α14 → α15 → α16 → α17 → α18 → α19 → α20 → α21 → α22 → Prop} {G : Prop} (h : ∃ x0 x1 x2 x3 x4 x5 x6 x7 x8 x9 x10 x11 x12 x13 x14 x15 x16 x17 x18 x19 x20 x21 x22, P x0 x1 x2 x3 x4 x5 x6 x7 x8 x9 x10 x11 x12 x13 x14 x15 x16 x17 x18 x19 x20 x21 x22) (k : ∀ x0 x1 x2 x3 x4 x5 x6 x7 x8 x9 x10 x11 x12 x13 x14 x15 x16 x17 x18 x19 x20 x21 x22, P x0 x1 x2 x3 x4 x5 x6 x7 x8 x9 x10 x11 x12 x13 x14 x15 x16 x17 x18 x19 x20 x21 x22 → G) : G := by
  obtain ⟨x0, x1, x2, x3, x4, x5, x6, x7, x8, x9, x10, x11, x12, x13, x14, x15, x16, x17, x18, x19, x20, x21, x22, h⟩ := h; exact k _ _ _ _ _ _ _ _ _ _ _ _ _ _ _ _ _ _ _ _ _ _ _ h
theorem lt3 {k : Nat} (h : k < 3) : k = 0 ∨ k = 1 ∨ k = 2 := (by decide : ∀ k < 3, k = 0 ∨ k = 1 ∨ k = 2) k h
theorem lt5 {k : Nat} (h : k < 5) : k = 0 ∨ k = 1 ∨ k = 2 ∨ k = 3 ∨ k = 4 := (by decide : ∀ k < 5, k = 0 ∨ k = 1 ∨ k = 2 ∨ k = 3 ∨ k = 4) k h
theorem lt6 {k : Nat} (h : k < 6) : k = 0 ∨ k = 1 ∨ k = 2 ∨ k = 3 ∨ k = 4 ∨ k = 5 := (by decide : ∀ k < 6, k = 0 ∨ k = 1 ∨ k = 2 ∨ k = 3 ∨ k = 4 ∨ k = 5) k h
theorem lt9 {k : Nat} (h : k < 9) : k = 0 ∨ k = 1 ∨ k = 2 ∨ k = 3 ∨ k = 4 ∨ k = 5 ∨ k = 6 ∨ k = 7 ∨ k = 8 := (by decide : ∀ k < 9, k = 0 ∨ k = 1 ∨ k = 2 ∨ k = 3 ∨ k = 4 ∨ k = 5 ∨ k = 6 ∨ k = 7 ∨ k = 8) k h
theorem r59 {k : Nat} (h : 5 ≤ k) (g : k ≤ 9) : k = 5 ∨ k = 6 ∨ k = 7 ∨ k = 8 ∨ k = 9 := (by decide : ∀ k < 10, 5 ≤ k → k = 5 ∨ k = 6 ∨ k = 7 ∨ k = 8 ∨ k = 9) k (Nat.lt_succ_of_le g) h
theorem r15 {k : Nat} (h : 1 ≤ k) (g : k ≤ 5) : k = 1 ∨ k = 2 ∨ k = 3 ∨ k = 4 ∨ k = 5 := (by decide : ∀ k < 6, 1 ≤ k → k = 1 ∨ k = 2 ∨ k = 3 ∨ k = 4 ∨ k = 5) k (Nat.lt_succ_of_le g) h
theorem r14 {k : Nat} (h : 1 ≤ k ∧ k ≤ 4) : k = 1 ∨ k = 2 ∨ k = 3 ∨ k = 4 := (by decide : ∀ k < 5, 1 ≤ k → k = 1 ∨ k = 2 ∨ k = 3 ∨ k = 4) k (Nat.lt_succ_of_le h.2) h.1
theorem i16 {T : Int} (h : 0 ≤ T ∧ T ≤ 15) : T = 0 ∨ T = 1 ∨ T = 2 ∨ T = 3 ∨ T = 4 ∨ T = 5 ∨ T = 6 ∨ T = 7 ∨ T = 8 ∨ T = 9 ∨ T = 10 ∨ T = 11 ∨ T = 12 ∨ T = 13 ∨ T = 14 ∨ T = 15 := by
  obtain ⟨k, rfl⟩ := Int.eq_ofNat_of_zero_le h.1
  have hk : k < 16 := by omega
  match k, hk with
  | 0, _ => exact .inl rfl
  | 1, _ => exact .inr (.inl rfl)
  | 2, _ => exact .inr (.inr (.inl rfl))
  | 3, _ => exact .inr (.inr (.inr (.inl rfl)))
  | 4, _ => exact .inr (.inr (.inr (.inr (.inl rfl))))
  | 5, _ => exact .inr (.inr (.inr (.inr (.inr (.inl rfl)))))
  | 6, _ => exact .inr (.inr (.inr (.inr (.inr (.inr (.inl rfl))))))
  | 7, _ => exact .inr (.inr (.inr (.inr (.inr (.inr (.inr (.inl rfl)))))))
  | 8, _ => exact .inr (.inr (.inr (.inr (.inr (.inr (.inr (.inr (.inl rfl))))))))
  | 9, _ => exact .inr (.inr (.inr (.inr (.inr (.inr (.inr (.inr (.inr (.inl rfl)))))))))
  | 10, _ => exact .inr (.inr (.inr (.inr (.inr (.inr (.inr (.inr (.inr (.inr (.inl rfl))))))))))
  | 11, _ => exact .inr (.inr (.inr (.inr (.inr (.inr (.inr (.inr (.inr (.inr (.inr (.inl rfl)))))))))))
  | 12, _ => exact .inr (.inr (.inr (.inr (.inr (.inr (.inr (.inr (.inr (.inr (.inr (.inr (.inl rfl))))))))))))
  | 13, _ => exact .inr (.inr (.inr (.inr (.inr (.inr (.inr (.inr (.inr (.inr (.inr (.inr (.inr (.inl rfl)))))))))))))
  | 14, _ => exact .inr (.inr (.inr (.inr (.inr (.inr (.inr (.inr (.inr (.inr (.inr (.inr (.inr (.inr (.inl rfl))))))))))))))
  | 15, _ => exact .inr (.inr (.inr (.inr (.inr (.inr (.inr (.inr (.inr (.inr (.inr (.inr (.inr (.inr (.inr rfl))))))))))))))
noncomputable abbrev PostE := Value → Led → Nat → Nat → Nat → Prop
noncomputable def CallsE (V : XV) (m : Nat) (c : Code) (pre : Led) (n i g : Nat) (P : PostE) : Prop :=
  ∀ A Q, Base (reV V A Q) m → ∀ F G, (∀ v L' n' i' g', P v L' n' i' g' → Back (reV V A Q) .base (.ok (.ret v)) (L' ++ F) (n' + 305) i' g' G) → MS (reV V A Q) ⟨c, none, .base, denF c, pre ++ F, n + 305, i, g, G⟩
theorem CallsE.re {V : XV} {m : Nat} {c : Code} {pre : Led} {n i g : Nat} {P : PostE} (A : Around) (Q : Result → Shared → Prop) (H : CallsE V m c pre n i g P) : CallsE (reV V A Q) m c pre n i g P := fun A' Q' B F G Bk => H A' Q' B F G Bk
theorem CallsE.mono {V : XV} {m : Nat} {c : Code} {pre : Led} {n i g : Nat} {P P' : PostE} (H : CallsE V m c pre n i g P) (h : ∀ v L' n' i' g', P v L' n' i' g' → P' v L' n' i' g') : CallsE V m c pre n i g P' := fun A Q B F G Bk => H A Q B F G fun v L' n' i' g' p => Bk v L' n' i' g' (h _ _ _ _ _ p)
theorem OkR.e {V : XV} {r : Rl} {n n' : Nat} {P : PostE} (H : OkR V r) (hn : r.n = n + 305) (hn' : r.n' = n' + 305) (hP : P r.v r.post n' r.i' r.g') : CallsE V r.m r.c r.pre n r.i r.g P := by
  intro A Q B F G Bk
  have z := H.2 F A Q B G (by rw [hn']; exact Bk _ _ _ _ _ hP)
  rw [hn] at z
  exact z
theorem CallsE.code {V : XV} {m k : Nat} {c : Code} {pre : Led} {n i g : Nat} {P : PostE} (C : CallsE V m c pre n i g P) (B : Base V k) {A : Around} (hA : A.handled = none ∧ A.depth + m < recursionLimit ∧ A.units + m < cLine) (F : Led) (G : Gl) (s : Shared)
    (S : Sat V (pre ++ F) (n + 305) i g G s) (R : Result → Shared → Prop) (HR : ∀ v L' n' i' g', P v L' n' i' g' → ∀ s', Sat V (L' ++ F) (n' + 305) i' g' G s' → R (.ok (.ret v)) s') : codeAny (model V.prog V.w) A c R s := by
  obtain ⟨hh, hd, hu⟩ := hA
  have hb : Base (reV V A R) m := ⟨B.prog, B.top, B.lim, hd, hu⟩
  have H2 := C A R hb F G fun v L' n' i' g' p s' S' => HR v L' n' i' g' p s' (sat_re.mp S')
  have eA : { A with handled := none } = A := by
    cases A; simp only at hh; subst hh; rfl
  have z := H2 s (sat_re.mpr S)
  refine y_code _ _ _ _ _ _ ?_
  rw [← denF_eq, ← eA]
  exact z
noncomputable def St.at? (st : St) : Option Code := match st.md with
  | none => match st.t with
    | .call c' _ _ _ _ => some c'
    | _ => none
  | some _ => none
noncomputable def St.room (X : Cx) (m : Nat) (st : St) : Bool := match st.t with
  | .call _ hd _ _ k => match okMark hd with
    | true => match depK (.ret st.c hd k st.κ) with
      | some d => Nat.ble (d + m) X.room
      | none => false
    | false => false
  | _ => false
noncomputable def St.hnd (V : XV) (st : St) : Option Value := match st.t with
  | .call _ hd _ _ k => (aroundOf V true (.ret st.c hd k st.κ)).handled
  | _ => some .none
noncomputable def St.on (st : St) (v : Value) (L : Led) (n i g : Nat) : St := match st.t with
  | .call _ _ _ _ k => ⟨st.c, st.md, st.κ, k (.ok (.ret v)), L, n, i, g, st.G⟩
  | _ => st
noncomputable def pullI : List Nat → Led → Option (Led × Led)
  | [], L => some ([], L)
  | j :: js, L => match L[j]? with
    | none => none
    | some p => match pullI js (L.eraseIdx j) with
      | none => none
      | some x => some (p :: x.1, x.2)
theorem pullI_perm : ∀ {js : List Nat} {L : Led} {x : Led × Led}, pullI js L = some x → (x.1 ++ x.2).Perm L
  | [], L, x, h => by cases h; exact List.Perm.refl _
  | j :: js, L, x, h => by
    unfold pullI at h
    split at h
    · cases h
    · rename_i p hp
      split at h
      · cases h
      · rename_i y hy
        cases h
        exact (List.Perm.cons _ (pullI_perm hy)).trans (erase_perm hp)
noncomputable def St.drawn (st : St) (idx : List Nat) (k : Nat) : Led := match pullI idx (st.L.take k) with
  | some x => x.1 ++ st.L.drop k
  | none => []
noncomputable def St.rest (st : St) (idx : List Nat) (k : Nat) : Led := match pullI idx (st.L.take k) with
  | some x => x.2
  | none => st.L
noncomputable def St.pulls (st : St) (idx : List Nat) (k : Nat) : Bool := (pullI idx (st.L.take k)).isSome
noncomputable abbrev LeftC := Owed × (Option Code × Bool × Option Value) × (Bool × Led) × (Nat × Nat × Nat)
noncomputable def leftC (X : Cx) (m : Nat) (z : St × Owes) (idx : List Nat) (k : Nat) : LeftC := (z.2.left, (z.1.at?, z.1.room X m, z.1.hnd X.V), (z.1.pulls idx k, z.1.drawn idx k), (z.1.n, z.1.i, z.1.g))
noncomputable def rightC (z : St × Owes) (c' : Code) (D : Led) (n i g : Nat) : LeftC := (z.2.right, (some c', true, none), (true, D), (n, i, g))
end Mine
end
section
open PySem PySem.W PySem.W.X
namespace Mine
noncomputable def wS : Nat → Str
  | 1 => ⟨#[59]⟩
  | 2 => ⟨#[45, 59]⟩
  | 3 => ⟨#[45, 45, 59]⟩
  | _ => ⟨#[]⟩
noncomputable def nMaxlen : Str := ⟨#[95,109,97,120,108,101,110]⟩
noncomputable def nCws : Str := ⟨#[95,99,111,110,116,105,110,117,97,116,105,111,110,95,119,115]⟩
noncomputable def nCwsLen : Str := ⟨#[95,99,111,110,116,105,110,117,97,116,105,111,110,95,119,115,95,108,101,110]⟩
noncomputable def nSplit : Str := ⟨#[95,115,112,108,105,116,99,104,97,114,115]⟩
noncomputable def nLines : Str := ⟨#[95,108,105,110,101,115]⟩
noncomputable def nCur : Str := ⟨#[95,99,117,114,114,101,110,116,95,108,105,110,101]⟩
noncomputable def nInit : Str := ⟨#[95,105,110,105,116,105,97,108,95,115,105,122,101]⟩
noncomputable def nGen : Str := ⟨#[60,103,101,110,101,120,112,114,62]⟩
noncomputable def nLenQ : Str := ⟨#[95,65,99,99,117,109,117,108,97,116,111,114,46,95,95,108,101,110,95,95,46,60,108,111,99,97,108,115,62,46,60,103,101,110,101,120,112,114,62]⟩
noncomputable def nStrQ : Str := ⟨#[95,65,99,99,117,109,117,108,97,116,111,114,46,95,95,115,116,114,95,95,46,60,108,111,99,97,108,115,62,46,60,103,101,110,101,120,112,114,62]⟩
noncomputable def nFile : Str := ⟨#[47,99,108,97,105,109,47,99,117,116,46,112,121]⟩
example : nMaxlen = Str.ofString "_maxlen" ∧ nCws = Str.ofString "_continuation_ws" ∧ nCwsLen = Str.ofString "_continuation_ws_len" ∧ nSplit = Str.ofString "_splitchars" ∧ nLines = Str.ofString "_lines" ∧ nCur = Str.ofString "_current_line" ∧ nInit = Str.ofString "_initial_size" := by decide +kernel
example : nGen = Str.ofString "<genexpr>" ∧ nLenQ = Str.ofString "_Accumulator.__len__.<locals>.<genexpr>" ∧ nStrQ = Str.ofString "_Accumulator.__str__.<locals>.<genexpr>" ∧ nFile = Str.ofString "/claim/cut.py" := by decide +kernel
noncomputable def fsParts (a : Nat → Nat) (t : Nat → Tok) : Nat → Nat → List Nat → Led
  | _, _, [] => []
  | j, k, x :: u => (a j + 305, ⟨.type "tuple", none, .seq #[.str ⟨#[]⟩ (t k), .str (wS x) (t (k + 1))] 0, #[]⟩) :: fsParts a t (j + 1) (k + 2) u
noncomputable def fsRefs (a : Nat → Nat) : Nat → List Nat → List Value
  | _, [] => []
  | j, _ :: u => .ref (a j + 305) :: fsRefs a (j + 1) u
noncomputable def fsCode (q : Str) (line : Int) (c d1 d2 : Nat) (t1 t2 t3 t4 : Tok) (m : Int) : Led :=
  [(c + 305, ⟨.type "code", none, .fields #[.str nGen t1, .str q t2, .str nFile t3, .int line 0, .int 1 0, .int 0 0, .int 0 0, .int 51 0, .ref (d1 + 305), .bool true, .int 181 0, .ref (d2 + 305), .none, .none, .none, .none, .int m 0, .int line 0, .str nFile t4], #[]⟩)]
noncomputable def fsTab (line col : Int) (c : Nat) : Bool → Obj
  | false => ⟨.none, none, .fields #[], #[]⟩
  | true => ⟨.none, none, .fields #[.int line 0, .int col 0, .ref (c + 305)], #[]⟩
noncomputable def fsTail (f1 f2 : Bool) (a : Nat → Nat) (t : Nat → Tok) (m : Nat → Int) (A T : Nat) : Led := match f1, f2 with
  | false, false => [(206, fsTab 137 19 0 false), (213, fsTab 140 32 0 false)]
  | true, false => [(206, fsTab 137 19 (a A) true), (213, fsTab 140 32 0 false)] ++ fsCode nLenQ 137 (a A) (a (A + 1)) (a (A + 2)) (t T) (t (T + 1)) (t (T + 2)) (t (T + 3)) (m 0)
  | false, true => [(206, fsTab 137 19 0 false), (213, fsTab 140 32 (a A) true)] ++ fsCode nStrQ 140 (a A) (a (A + 1)) (a (A + 2)) (t T) (t (T + 1)) (t (T + 2)) (t (T + 3)) (m 0)
  | true, true => [(206, fsTab 137 19 (a A) true), (213, fsTab 140 32 (a (A + 1)) true)] ++ (fsCode nLenQ 137 (a A) (a (A + 2)) (a (A + 3)) (t T) (t (T + 1)) (t (T + 2)) (t (T + 3)) (m 0) ++ fsCode nStrQ 140 (a (A + 1)) (a (A + 4)) (a (A + 5)) (t (T + 4)) (t (T + 5)) (t (T + 6)) (t (T + 7)) (m 1))
noncomputable def fs (w : Int) (u : List Nat) (f1 f2 : Bool) (p : Params) (a : Nat → Nat) (t : Nat → Tok) (e : Nat → Nat) (m : Nat → Int) (y : Array Value) : Led :=
  [(a 0 + 305, ⟨.ref 160, some (a 1 + 305), .plain, #[]⟩),
   (a 1 + 305, ⟨.type "dict", none, .dict #[⟨PyData.keyHash p nMaxlen, .str nMaxlen (t 0), .int w (t 1)⟩, ⟨PyData.keyHash p nCws, .str nCws (t 2), .str ⟨#[]⟩ (t 3)⟩, ⟨PyData.keyHash p nCwsLen, .str nCwsLen (t 4), .int 0 (t 5)⟩,
     ⟨PyData.keyHash p nSplit, .str nSplit (t 6), .str ⟨#[59]⟩ (t 7)⟩, ⟨PyData.keyHash p nLines, .str nLines (t 8), .ref (a 2 + 305)⟩, ⟨PyData.keyHash p nCur, .str nCur (t 9), .ref (a 3 + 305)⟩] (e 0), #[]⟩),
   (a 2 + 305, ⟨.type "list", none, .seq y (e 1), #[]⟩),
   (a 3 + 305, ⟨.ref 244, some (a 4 + 305), .seq (fsRefs a 5 u).toArray (e 2), #[]⟩),
   (a 4 + 305, ⟨.type "dict", none, .dict #[⟨PyData.keyHash p nInit, .str nInit (t 10), .int 0 (t 11)⟩] (e 3), #[]⟩)] ++
  (fsParts a t 5 12 u ++ fsTail f1 f2 a t m (5 + u.length) (12 + 2 * u.length))
noncomputable def app_r (l : Addr) (y : Array Value) (e : Nat) (v : Value) (n i g : Nat) : Rl :=
  ⟨.call (.builtin "list.append") ⟨[.ref l, v], []⟩, [(l, ⟨.type "list", none, .seq y e, #[]⟩)], n + 305, i, g, .none, [(l, ⟨.type "list", none, .seq (y.push v) (e + 1), #[]⟩)], n + 305, i, g, 0, true⟩
theorem app_ok {V : XV} {l : Addr} {y : Array Value} {e : Nat} {v : Value} {n i g : Nat} (hy : y.size ≤ 100) : RlOk V (app_r l y e v n i g) := by
  intro A _ b G s S R HR
  have hl : s.heap.get? l = some { cls := .type "list", dict := none, data := .seq y e, slots := #[] } := S.led (l, _) (List.mem_cons_self)
  refine codeAny_call_builtin F.slot_list_append.plain F.entry_list_append (F.slot_list_append.check _ _ _ _ _ _ _ _ (T := "list") ⟨_, hl, rfl⟩ (F.args_list_append_2 _ _) (PySem.AutoListH.list_append_list_val_0 l y e v (hsz := Nat.le_trans hy (by decide)) V.prog V.w A R s ⟨hl, ?_⟩))
  have S2 := S.update (j := 0) (a := l) (o := ⟨.type "list", none, .seq y e, #[]⟩) (f := Obj.mapSeq fun x => x.push v) rfl rfl
  have eo : Obj.mapSeq (fun x => x.push v) ⟨.type "list", none, .seq y e, #[]⟩ = ⟨.type "list", none, .seq (y.push v) (e + 1), #[]⟩ := by simp [Obj.mapSeq]
  rw [eo] at S2
  exact HR _ S2
end Mine
end
section
open PySem PySem.W PySem.W.X
namespace Mine
noncomputable def AllLt (P : Nat → Prop) : Nat → Prop
  | 0 => True
  | n + 1 => AllLt P n ∧ P n
theorem AllLt.get {P : Nat → Prop} : ∀ {n k : Nat}, AllLt P n → k < n → P k
  | 0, _, _, h => absurd h (Nat.not_lt_zero _)
  | n + 1, k, H, h => by
    rcases Nat.lt_succ_iff_lt_or_eq.mp h with q | q
    · exact AllLt.get H.1 q
    · rw [q]; exact H.2
noncomputable def RunEq (V : XV) (r : Rl) (rules : List Rl) (fuel : Nat) (hs : List Nat) (idx : List Nat) (kk kg : Nat) : Prop :=
  ∀ A Q R G, leftR (St.go (cxR (reV V A Q) r.m rules) fuel hs ⟨r.c, none, .base, denF r.c, r.pre ++ R, r.n, r.i, r.g, G⟩) idx kk [] kg =
    rightR (St.go (cxR (reV V A Q) r.m rules) fuel hs ⟨r.c, none, .base, denF r.c, r.pre ++ R, r.n, r.i, r.g, G⟩) .base (.pure (.done (.ret r.v))) (r.post ++ R) r.n' r.i' r.g' G
theorem okR_of {V : XV} {r : Rl} {rules : List Rl} {fuel : Nat} {hs idx : List Nat} {kk kg : Nat} (hl : r.lean = false) (hm : Nat.ble 250 r.m = true) (hi : sub1 idx [] = true) (H : RunEq V r rules fuel hs idx kk kg)
    (HR : ∀ A Q, Base (reV V A Q) r.m → AllOk (reV V A Q) rules) : OkR V r := by
  refine ⟨hl, ?_⟩
  intro R A Q hb G HB
  exact run_ret (hb.okR (Nat.le_of_ble_eq_true hm) (HR A Q hb)) fuel hs idx kk [] kg _ _ _ _ _ _ hi (H A Q R G) HB
end Mine
end
section
open PySem PySem.W PySem.W.X
namespace Mine
noncomputable def twoAt (t : Nat → Tok) (K : Nat) (t1 t2 : Tok) (j : Nat) : Tok := match Nat.beq j K with
  | true => t1
  | false => match Nat.beq j (K + 1) with
    | true => t2
    | false => t j
noncomputable def over (w : Nat) (u : List Nat) (x : Nat) : Bool := Nat.blt w (u.sum + x)
noncomputable def nextU (w : Nat) (u : List Nat) (x : Nat) : List Nat := match over w u x with
  | true => [x]
  | false => u ++ [x]
noncomputable def catC : List Nat → List Nat
  | [] => []
  | x :: u => List.replicate (x - 1) 45 ++ (59 :: catC u)
noncomputable def catS (u : List Nat) : Str := ⟨(catC u).toArray⟩
noncomputable def GrowY (o : Bool) (u : List Nat) (y y' : Array Value) : Prop := match o with
  | true => ∃ τ, y' = y.push (.str (catS u) τ)
  | false => y' = y
noncomputable def chkCode (b : Nat) (x : Nat) (t1 t2 : Tok) : Code := .call (.ref 157) ⟨[.ref (b + 305), .str ⟨#[]⟩ t1, .str (wS x) t2], []⟩
noncomputable def Chk (V : XV) (w : Nat) (u : List Nat) (f1 f2 : Bool) (x : Nat) : Prop :=
  ∀ (a : Nat → Nat) (t : Nat → Tok) (e : Nat → Nat) (m : Nat → Int) (y : Array Value) (n i g : Nat) (t1 t2 : Tok), y.size ≤ 100 →
    CallsE V 300 (chkCode (a 0) x t1 t2) (fs (Int.ofNat w) u f1 f2 V.w.params a t e m y) n i g (fun v L' _ _ _ => v = .none ∧ ∃ a' t' e' m' y', a' 0 = a 0 ∧
      L' = fs (Int.ofNat w) (nextU w u x) true (f2 || over w u x) V.w.params a' t' e' m' y' ∧ GrowY (over w u x) u y y')
theorem chk_of {V : XV} {w : Nat} {u : List Nat} {f1 f2 : Bool} {x : Nat} {a : Nat → Nat} {t : Nat → Tok} {e : Nat → Nat} {m : Nat → Int} {y : Array Value} {n i g : Nat} {t1 t2 : Tok} {r : Rl} (H : OkR V r)
    {a' : Nat → Nat} {t' : Nat → Tok} {e' : Nat → Nat} {m' : Nat → Int} {y' : Array Value} {n' : Nat}
    (h : (r.m, r.c, r.pre, r.n, r.i, r.g, r.v, r.post, r.n') = (300, chkCode (a 0) x t1 t2, fs (Int.ofNat w) u f1 f2 V.w.params a t e m y, n + 305, i, g, .none,
      fs (Int.ofNat w) (nextU w u x) true (f2 || over w u x) V.w.params a' t' e' m' y', n' + 305)) (ha : a' 0 = a 0) (hy : GrowY (over w u x) u y y') :
    CallsE V 300 (chkCode (a 0) x t1 t2) (fs (Int.ofNat w) u f1 f2 V.w.params a t e m y) n i g (fun v L' _ _ _ => v = .none ∧ ∃ a' t' e' m' y', a' 0 = a 0 ∧
      L' = fs (Int.ofNat w) (nextU w u x) true (f2 || over w u x) V.w.params a' t' e' m' y' ∧ GrowY (over w u x) u y y') := by
  obtain ⟨c, pre, n₀, i₀, g₀, v, post, n₁, i₁, g₁, m₀, l⟩ := r
  simp only [Prod.mk.injEq] at h
  obtain ⟨rfl, rfl, rfl, rfl, rfl, rfl, rfl, rfl, rfl⟩ := h
  exact H.e (n := n) rfl rfl ⟨rfl, a', t', e', m', y', ha, rfl, hy⟩
noncomputable def nwlCode (b : Nat) : Code := .call (.ref 122) ⟨[.ref (b + 305)], []⟩
noncomputable def Nwl (V : XV) (w : Nat) (u : List Nat) : Prop :=
  ∀ (a : Nat → Nat) (t : Nat → Tok) (e : Nat → Nat) (m : Nat → Int) (y : Array Value) (n i g : Nat), y.size ≤ 100 →
    CallsE V 300 (nwlCode (a 0)) (fs (Int.ofNat w) u true true V.w.params a t e m y) n i g (fun v L' _ _ _ => v = .none ∧ ∃ a' t' e' m' τ, a' 0 = a 0 ∧
      L' = fs (Int.ofNat w) [] true true V.w.params a' t' e' m' (y.push (.str (catS u) τ)))
theorem nwl_of {V : XV} {w : Nat} {u : List Nat} {a : Nat → Nat} {t : Nat → Tok} {e : Nat → Nat} {m : Nat → Int} {y : Array Value} {n i g : Nat} {r : Rl} (H : OkR V r)
    {a' : Nat → Nat} {t' : Nat → Tok} {e' : Nat → Nat} {m' : Nat → Int} {y' : Array Value} {n' : Nat}
    (h : (r.m, r.c, r.pre, r.n, r.i, r.g, r.v, r.post, r.n') = (300, nwlCode (a 0), fs (Int.ofNat w) u true true V.w.params a t e m y, n + 305, i, g, .none,
      fs (Int.ofNat w) [] true true V.w.params a' t' e' m' y', n' + 305)) (ha : a' 0 = a 0) (hy : ∃ τ, y' = y.push (.str (catS u) τ)) :
    CallsE V 300 (nwlCode (a 0)) (fs (Int.ofNat w) u true true V.w.params a t e m y) n i g (fun v L' _ _ _ => v = .none ∧ ∃ a' t' e' m' τ, a' 0 = a 0 ∧
      L' = fs (Int.ofNat w) [] true true V.w.params a' t' e' m' (y.push (.str (catS u) τ))) := by
  obtain ⟨c, pre, n₀, i₀, g₀, v, post, n₁, i₁, g₁, m₀, l⟩ := r
  simp only [Prod.mk.injEq] at h
  obtain ⟨rfl, rfl, rfl, rfl, rfl, rfl, rfl, rfl, rfl⟩ := h
  obtain ⟨τ, rfl⟩ := hy
  exact H.e (n := n) rfl rfl ⟨rfl, a', t', e', m', τ, ha, rfl⟩
end Mine
end
section
open PySem PySem.W PySem.W.X PySem.Builtin.Str
namespace Mine
noncomputable def nl : Str := ⟨#[10]⟩
structure SplitOk (ls : List Str) : Prop where
  two : ∃ a b r, ls = a :: b :: r
  fit : tooLong (ls.toArray.foldl (· + ·.length + nl.length) 0) = false
  short : (glued nl ls).length ≤ sizeLine
  kind : (decide ((glued nl ls).length < nl.length) || decide (strKind (glued nl ls) < strKind nl)) = false
  found : (occurrences (glued nl ls) nl 0 (glued nl ls).length ((glued nl ls).length + 1)).isEmpty = false
  parts : partsBetween (glued nl ls) (occurrences (glued nl ls) nl 0 (glued nl ls).length ((glued nl ls).length + 1)) nl.length = ls
  few : ls.length ≤ sizeLine
noncomputable def join_r (t : Tok) (l : Addr) (q : List (Str × Tok)) (e : Nat) (n i g : Nat) : Rl :=
  ⟨.call (.builtin "str.join") ⟨[.str nl t, .ref l], []⟩, [(l, ⟨.type "list", none, .seq (strValues q).toArray e, #[]⟩)], n + 305, i, g, .str (glued nl (q.map (·.1))) i, [(l, ⟨.type "list", none, .seq (strValues q).toArray e, #[]⟩)], n + 305, i + 1, g, 0, true⟩
theorem Sat.tok {V : XV} {L : Led} {n i g : Nat} {G : Gl} {s : Shared} (S : Sat V L n i g G s) (k : Nat) : Sat V L n (i + k) g G { s with toks := s.toks + k } :=
  ⟨S.size, by show s.toks + k = i + k; rw [S.toks], S.gsz, S.gens, S.gnd, S.bare, S.drawn, S.os, S.led, S.nd, S.off, S.keep⟩
theorem join_ok {V : XV} {t : Tok} {l : Addr} {q : List (Str × Tok)} {e n i g : Nat} (H : SplitOk (q.map (·.1))) : RlOk V (join_r t l q e n i g) := by
  intro A _ b G s S R HR
  have hl : s.heap.get? l = some { cls := .type "list", dict := none, data := .seq (strValues q).toArray e, slots := #[] } := S.led (l, _) (List.mem_cons_self)
  have hI : s.heap.IsList l (strValues q).toArray := ⟨_, hl, rfl, e, rfl⟩
  have e1 : joinMade nl q = .str (glued nl (q.map (·.1))) := by
    obtain ⟨x, y, r, h2⟩ := H.two
    rcases q with _ | ⟨q1, _ | ⟨q2, q⟩⟩
    · cases h2
    · cases h2
    · rfl
  refine codeAny_call_builtin F.slot_str_join.plain F.entry_str_join (F.slot_str_join.check _ _ _ _ _ _ _ _ (T := "str") (typeIs_str _ _ _) (F.args_str_join_2 _ _) (meets_str_join_list nl t l q H.fit V.prog V.w A R s ⟨hI, ?_⟩))
  rw [e1]
  refine ⟨H.short, ?_⟩
  have et : s.toks = i := S.toks
  rw [et]
  have S2 := S.tok 1
  rw [et] at S2
  exact HR _ S2
noncomputable def split_r (t u : Tok) (ls : List Str) (n i g : Nat) : Rl :=
  ⟨.call (.builtin "str.split") ⟨[.str (glued nl ls) t, .str nl u], []⟩, [], n + 305, i, g, .ref (n + 305), [(n + 305, ⟨.type "list", none, .seq (strsFrom i ls).toArray 0, #[]⟩)], n + 305 + 1, i + ls.length, g, 0, true⟩
theorem split_ok {V : XV} {t u : Tok} {ls : List Str} {n i g : Nat} (H : SplitOk ls) : RlOk V (split_r t u ls n i g) := by
  intro A _ b G s S R HR
  have et : s.toks = i := S.toks
  have ez : s.heap.objs.size = n + 305 := S.size
  refine codeAny_call_builtin F.slot_str_split.plain F.entry_str_split (F.slot_str_split.check _ _ _ _ _ _ _ _ (T := "str") (typeIs_str _ _ _) (F.args_str_split_2 _ _) (meets_str_split_sep (glued nl ls) nl t u H.kind (by decide) H.found H.short (by rw [H.parts]; exact H.few) V.prog V.w A R s ?_))
  rw [H.parts]
  dsimp only
  rw [et, ez]
  have S2 := (S.tok ls.length).alloc (o := { cls := .type "list", data := .seq (strsFrom i ls).toArray }) rfl
  rw [et] at S2
  exact HR _ S2
end Mine
end
section
open PySem PySem.W PySem.W.X
namespace Mine
noncomputable def Pq0:Str:=⟨#[95,105,110,105,116,105,97,108,95,115,105,122,101]⟩
noncomputable def Pq1:Str:=⟨#[60,103,101,110,101,120,112,114,62]⟩
noncomputable def Pq2:Str:=⟨#[95,65,99,99,117,109,117,108,97,116,111,114,46,95,95,108,101,110,95,95,46,60,108,111,99,97,108,115,62,46,60,103,101,110,101,120,112,114,62]⟩
noncomputable def Pq3:Str:=⟨#[47,99,108,97,105,109,47,99,117,116,46,112,121]⟩
noncomputable def Pq4:Str:=⟨#[95,65,99,99,117,109,117,108,97,116,111,114,46,95,95,115,116,114,95,95,46,60,108,111,99,97,108,115,62,46,60,103,101,110,101,120,112,114,62]⟩
noncomputable def Plen0_s (k:Nat):List (Str):=lk [[⟨#[59]⟩],[⟨#[45,59]⟩],[⟨#[45,45,59]⟩]] k
noncomputable def Plen0_z (k:Nat):List (Int):=lk [[1],[2],[3]] k
noncomputable def Plen0_r (p:Params) (k:Nat) (a:Nat→Nat) (t:Nat→Tok) (e:Nat→Nat) (m:Nat→Int) (y:Array Value) (n i g:Nat):Rl :=
  ⟨.call (.ref 211) ⟨[(.ref (a 0+305))],[]⟩,
   [((a 0+305),⟨(.ref 244),some (a 1+305),.seq #[(.ref (a 2+305))] (e 0),#[]⟩),((a 1+305),⟨(.type "dict"),none,.dict #[⟨(PyData.keyHash p Pq0),(.str Pq0 (t 0)),(.int 0 (t 1))⟩] (e 1),#[]⟩),((a 2+305),⟨(.type "tuple"),none,.seq #[(.str ⟨#[]⟩ (t 2)),(.str (lk (Plen0_s k) 0) (t 3))] 0,#[]⟩),(206,⟨.none,none,.fields #[],#[]⟩)],n+305,i,g,(.int (lk (Plen0_z k) 0) (i+18)),
   [((a 0+305),⟨(.ref 244),some (a 1+305),.seq #[(.ref (a 2+305))] (e 0),#[]⟩),((a 1+305),⟨(.type "dict"),none,.dict #[⟨(PyData.keyHash p Pq0),(.str Pq0 (t 0)),(.int 0 (t 1))⟩] (e 1),#[]⟩),((a 2+305),⟨(.type "tuple"),none,.seq #[(.str ⟨#[]⟩ (t 2)),(.str (lk (Plen0_s k) 0) (t 3))] 0,#[]⟩),(206,⟨.none,none,.fields #[(.int 137 0),(.int 19 0),(.ref (n+305+4))],#[]⟩),((n+305+4),⟨(.type "code"),none,.fields #[(.str Pq1 (i+1)),(.str Pq2 (i+2)),(.str Pq3 (i+3)),(.int 137 0),(.int 1 0),(.int 0 0),(.int 0 0),(.int 51 0),(.ref (n+305+2)),(.bool true),(.int 181 0),(.ref (n+305+3)),.none,.none,.none,.none,(.int (Int.ofNat (i+4)) 0),(.int 137 0),(.str Pq3 (i+5))],#[]⟩)],n+305+15,i+19,g+1,250,false⟩
noncomputable def Ph0:List Nat:=unp 138 0x100128a30a28a28004014514410410018000600018600618004104c04104104130104104104c04104104b04b2cb1c71c91c71c71c70471cc001002082041041041240208000008008000000000207041000009249180001002040000080000081000001040000
theorem Plen0 (V:XV) (a:Nat→Nat) (t:Nat→Tok) (e:Nat→Nat) (m:Nat→Int) (y:Array Value) (n i g:Nat) (hy:y.size ≤ 100):AllLt (fun k=>OkR V (Plen0_r V.w.params k a t e m y n i g)) 3 :=
  ⟨⟨⟨trivial,
  okR_of (rules:=[]) (fuel:=280) (hs:=Ph0) (idx:=[15,16,17,18,10]) (kk:=19) (kg:=1) rfl rfl rfl (by intro A Q R G; kernel_rfl) (fun _ _ hb=>trivial)⟩,
  okR_of (rules:=[]) (fuel:=280) (hs:=Ph0) (idx:=[15,16,17,18,10]) (kk:=19) (kg:=1) rfl rfl rfl (by intro A Q R G; kernel_rfl) (fun _ _ hb=>trivial)⟩,
  okR_of (rules:=[]) (fuel:=280) (hs:=Ph0) (idx:=[15,16,17,18,10]) (kk:=19) (kg:=1) rfl rfl rfl (by intro A Q R G; kernel_rfl) (fun _ _ hb=>trivial)⟩
theorem Plen0_ok {V:XV} {b:Nat} (B:Base V b) {k:Nat} {a:Nat→Nat} {t:Nat→Tok} {e:Nat→Nat} {m:Nat→Int} {y:Array Value} {n i g:Nat} (hy:y.size ≤ 100) (hk:k < 3):RlOk V (Plen0_r V.w.params k a t e m y n i g):=OkR.rl ((Plen0 V a t e m y n i g hy).get hk) B
noncomputable def Pchk1_s (k:Nat):List (Str):=lk [[⟨#[59]⟩],[⟨#[45,59]⟩],[⟨#[45,45,59]⟩]] k
noncomputable def Pchk1_u (k:Nat):List (List Nat):=lk [[[1]],[[2]],[[3]]] k
noncomputable def Pchk1_k (k:Nat):List (Nat):=lk [[0],[1],[2]] k
noncomputable def Pchk1_pa (k:Nat) (a:Nat→Nat) (t:Nat→Tok) (e:Nat→Nat) (m:Nat→Int) (y:Array Value) (n i g:Nat):Nat→Nat:=(lk [(a 0),(a 1),(a 2),(a 3),(a 4),(n+2),(n+7),(n+5),(n+6)])
noncomputable def Pchk1_pt (k:Nat) (a:Nat→Nat) (t:Nat→Tok) (e:Nat→Nat) (m:Nat→Int) (y:Array Value) (n i g:Nat):Nat→Tok:=(lk [(t 0),(t 1),(t 2),(t 3),(t 4),(t 5),(t 6),(t 7),(t 8),(t 9),(t 10),(t 11),(t 12),(t 13),(i+9),(i+10),(i+11),(i+13)])
noncomputable def Pchk1_pe (k:Nat) (a:Nat→Nat) (t:Nat→Tok) (e:Nat→Nat) (m:Nat→Int) (y:Array Value) (n i g:Nat):Nat→Nat:=(lk [(e 0),(e 1),(e 2+1),(e 3)])
noncomputable def Pchk1_pm (k:Nat) (a:Nat→Nat) (t:Nat→Tok) (e:Nat→Nat) (m:Nat→Int) (y:Array Value) (n i g:Nat):Nat→Int:=(lk [(Int.ofNat (i+12))])
noncomputable def Pchk1_py (k:Nat) (a:Nat→Nat) (t:Nat→Tok) (e:Nat→Nat) (m:Nat→Int) (y:Array Value) (n i g:Nat):Array Value:=y
noncomputable def Pchk1_r (p:Params) (k:Nat) (a:Nat→Nat) (t:Nat→Tok) (e:Nat→Nat) (m:Nat→Int) (y:Array Value) (n i g:Nat):Rl :=
  ⟨.call (.ref 157) ⟨[(.ref (a 0+305)),(.str ⟨#[]⟩ (t 12)),(.str (lk (Pchk1_s k) 0) (t 13))],[]⟩,
   fs 3 [] false false p a t e m y,n+305,i,g,.none,
   fs 3 (lk (Pchk1_u k) 0) true false p (Pchk1_pa k a t e m y n i g) (Pchk1_pt k a t e m y n i g) (Pchk1_pe k a t e m y n i g) (Pchk1_pm k a t e m y n i g) (Pchk1_py k a t e m y n i g),n+305+18,i+29,g+1,300,false⟩
noncomputable def Pchk1_l (p:Params) (k:Nat) (a:Nat→Nat) (t:Nat→Tok) (e:Nat→Nat) (m:Nat→Int) (y:Array Value) (n i g:Nat):List Rl:=[Plen0_r p (lk (Pchk1_k k) 0) (lk [(a 3),(a 4),(n+2)]) (lk [(t 10),(t 11),(t 12),(t 13)]) (lk [(e 2+1),(e 3)]) (fun _=>default) y (n+3) (i+8) (g+0)]
noncomputable def Ph1:List Nat:=unp 119 0x4900820000020000020714018641ffc00000071401040000040000040c00071c70070411c6000006000006000006040041001040041000000041185000000140000140000143002080000080000081001040041001040000
theorem Pchk1 (V:XV) (a:Nat→Nat) (t:Nat→Tok) (e:Nat→Nat) (m:Nat→Int) (y:Array Value) (n i g:Nat) (hy:y.size ≤ 100):AllLt (fun k=>OkR V (Pchk1_r V.w.params k a t e m y n i g)) 3 :=
  ⟨⟨⟨trivial,
  okR_of (rules:=Pchk1_l V.w.params 0 a t e m y n i g) (fuel:=187) (hs:=Ph1) (idx:=[7,8,9,0,1,2,3,10,4]) (kk:=11) (kg:=0) rfl rfl rfl (by intro A Q R G; kernel_rfl) (fun _ _ hb=>⟨Plen0_ok hb hy (by decide),trivial⟩)⟩,
  okR_of (rules:=Pchk1_l V.w.params 1 a t e m y n i g) (fuel:=187) (hs:=Ph1) (idx:=[7,8,9,0,1,2,3,10,4]) (kk:=11) (kg:=0) rfl rfl rfl (by intro A Q R G; kernel_rfl) (fun _ _ hb=>⟨Plen0_ok hb hy (by decide),trivial⟩)⟩,
  okR_of (rules:=Pchk1_l V.w.params 2 a t e m y n i g) (fuel:=187) (hs:=Ph1) (idx:=[7,8,9,0,1,2,3,10,4]) (kk:=11) (kg:=0) rfl rfl rfl (by intro A Q R G; kernel_rfl) (fun _ _ hb=>⟨Plen0_ok hb hy (by decide),trivial⟩)⟩
theorem Pchk1_ok {V:XV} {b:Nat} (B:Base V b) {k:Nat} {a:Nat→Nat} {t:Nat→Tok} {e:Nat→Nat} {m:Nat→Int} {y:Array Value} {n i g:Nat} (hy:y.size ≤ 100) (hk:k < 3):RlOk V (Pchk1_r V.w.params k a t e m y n i g):=OkR.rl ((Pchk1 V a t e m y n i g hy).get hk) B
noncomputable def Plen2_s (k:Nat):List (Str):=lk [[⟨#[59]⟩],[⟨#[45,59]⟩],[⟨#[45,45,59]⟩]] k
noncomputable def Plen2_z (k:Nat):List (Int):=lk [[1],[2],[3]] k
noncomputable def Plen2_r (p:Params) (k:Nat) (a:Nat→Nat) (t:Nat→Tok) (e:Nat→Nat) (m:Nat→Int) (y:Array Value) (n i g:Nat):Rl :=
  ⟨.call (.ref 211) ⟨[(.ref (a 0+305))],[]⟩,
   [((a 0+305),⟨(.ref 244),some (a 1+305),.seq #[(.ref (a 2+305))] (e 0),#[]⟩),((a 1+305),⟨(.type "dict"),none,.dict #[⟨(PyData.keyHash p Pq0),(.str Pq0 (t 0)),(.int 0 (t 1))⟩] (e 1),#[]⟩),((a 2+305),⟨(.type "tuple"),none,.seq #[(.str ⟨#[]⟩ (t 2)),(.str (lk (Plen2_s k) 0) (t 3))] 0,#[]⟩),(206,⟨.none,none,.fields #[(.int 137 0),(.int 19 0),(.ref (a 3+305))],#[]⟩),((a 3+305),⟨(.type "code"),none,.fields #[(.str Pq1 (t 4)),(.str Pq2 (t 5)),(.str Pq3 (t 6)),(.int 137 0),(.int 1 0),(.int 0 0),(.int 0 0),(.int 51 0),(.ref (a 4+305)),(.bool true),(.int 181 0),(.ref (a 5+305)),.none,.none,.none,.none,(.int (m 0) 0),(.int 137 0),(.str Pq3 (t 7))],#[]⟩)],n+305,i,g,(.int (lk (Plen2_z k) 0) (i+13)),
   [((a 0+305),⟨(.ref 244),some (a 1+305),.seq #[(.ref (a 2+305))] (e 0),#[]⟩),((a 1+305),⟨(.type "dict"),none,.dict #[⟨(PyData.keyHash p Pq0),(.str Pq0 (t 0)),(.int 0 (t 1))⟩] (e 1),#[]⟩),((a 2+305),⟨(.type "tuple"),none,.seq #[(.str ⟨#[]⟩ (t 2)),(.str (lk (Plen2_s k) 0) (t 3))] 0,#[]⟩),(206,⟨.none,none,.fields #[(.int 137 0),(.int 19 0),(.ref (a 3+305))],#[]⟩),((a 3+305),⟨(.type "code"),none,.fields #[(.str Pq1 (t 4)),(.str Pq2 (t 5)),(.str Pq3 (t 6)),(.int 137 0),(.int 1 0),(.int 0 0),(.int 0 0),(.int 51 0),(.ref (a 4+305)),(.bool true),(.int 181 0),(.ref (a 5+305)),.none,.none,.none,.none,(.int (m 0) 0),(.int 137 0),(.str Pq3 (t 7))],#[]⟩)],n+305+12,i+14,g+1,250,false⟩
noncomputable def Ph2:List Nat:=unp 135 0x400471c91c71c7001005145104104006000180006180186001041241041041049041041041241041041201208204104184104104101104300040082081041041046005140000140140000000005101040000180001002040000080000081000001040000
theorem Plen2 (V:XV) (a:Nat→Nat) (t:Nat→Tok) (e:Nat→Nat) (m:Nat→Int) (y:Array Value) (n i g:Nat) (hy:y.size ≤ 100):AllLt (fun k=>OkR V (Plen2_r V.w.params k a t e m y n i g)) 3 :=
  ⟨⟨⟨trivial,
  okR_of (rules:=[]) (fuel:=269) (hs:=Ph2) (idx:=[12,13,14,15,16]) (kk:=17) (kg:=1) rfl rfl rfl (by intro A Q R G; kernel_rfl) (fun _ _ hb=>trivial)⟩,
  okR_of (rules:=[]) (fuel:=269) (hs:=Ph2) (idx:=[12,13,14,15,16]) (kk:=17) (kg:=1) rfl rfl rfl (by intro A Q R G; kernel_rfl) (fun _ _ hb=>trivial)⟩,
  okR_of (rules:=[]) (fuel:=269) (hs:=Ph2) (idx:=[12,13,14,15,16]) (kk:=17) (kg:=1) rfl rfl rfl (by intro A Q R G; kernel_rfl) (fun _ _ hb=>trivial)⟩
theorem Plen2_ok {V:XV} {b:Nat} (B:Base V b) {k:Nat} {a:Nat→Nat} {t:Nat→Tok} {e:Nat→Nat} {m:Nat→Int} {y:Array Value} {n i g:Nat} (hy:y.size ≤ 100) (hk:k < 3):RlOk V (Plen2_r V.w.params k a t e m y n i g):=OkR.rl ((Plen2 V a t e m y n i g hy).get hk) B
noncomputable def Pchk3_s (k:Nat):List (Str):=lk [[⟨#[59]⟩],[⟨#[45,59]⟩],[⟨#[45,45,59]⟩]] k
noncomputable def Pchk3_u (k:Nat):List (List Nat):=lk [[[1]],[[2]],[[3]]] k
noncomputable def Pchk3_k (k:Nat):List (Nat):=lk [[0],[1],[2]] k
noncomputable def Pchk3_pa (k:Nat) (a:Nat→Nat) (t:Nat→Tok) (e:Nat→Nat) (m:Nat→Int) (y:Array Value) (n i g:Nat):Nat→Nat:=(lk [(a 0),(a 1),(a 2),(a 3),(a 4),(n+2),(a 5),(a 6),(a 7),(a 8),(a 9),(a 10)])
noncomputable def Pchk3_pt (k:Nat) (a:Nat→Nat) (t:Nat→Tok) (e:Nat→Nat) (m:Nat→Int) (y:Array Value) (n i g:Nat):Nat→Tok:=(lk [(t 0),(t 1),(t 2),(t 3),(t 4),(t 5),(t 6),(t 7),(t 8),(t 9),(t 10),(t 11),(t 20),(t 21),(t 12),(t 13),(t 14),(t 15),(t 16),(t 17),(t 18),(t 19)])
noncomputable def Pchk3_pe (k:Nat) (a:Nat→Nat) (t:Nat→Tok) (e:Nat→Nat) (m:Nat→Int) (y:Array Value) (n i g:Nat):Nat→Nat:=(lk [(e 0),(e 1),(e 2+1),(e 3)])
noncomputable def Pchk3_pm (k:Nat) (a:Nat→Nat) (t:Nat→Tok) (e:Nat→Nat) (m:Nat→Int) (y:Array Value) (n i g:Nat):Nat→Int:=(lk [(m 0),(m 1)])
noncomputable def Pchk3_py (k:Nat) (a:Nat→Nat) (t:Nat→Tok) (e:Nat→Nat) (m:Nat→Int) (y:Array Value) (n i g:Nat):Array Value:=y
noncomputable def Pchk3_r (p:Params) (k:Nat) (a:Nat→Nat) (t:Nat→Tok) (e:Nat→Nat) (m:Nat→Int) (y:Array Value) (n i g:Nat):Rl :=
  ⟨.call (.ref 157) ⟨[(.ref (a 0+305)),(.str ⟨#[]⟩ (t 20)),(.str (lk (Pchk3_s k) 0) (t 21))],[]⟩,
   fs 4 [] true true p a t e m y,n+305,i,g,.none,
   fs 4 (lk (Pchk3_u k) 0) true true p (Pchk3_pa k a t e m y n i g) (Pchk3_pt k a t e m y n i g) (Pchk3_pe k a t e m y n i g) (Pchk3_pm k a t e m y n i g) (Pchk3_py k a t e m y n i g),n+305+15,i+24,g+1,300,false⟩
noncomputable def Pchk3_l (p:Params) (k:Nat) (a:Nat→Nat) (t:Nat→Tok) (e:Nat→Nat) (m:Nat→Int) (y:Array Value) (n i g:Nat):List Rl:=[Plen2_r p (lk (Pchk3_k k) 0) (lk [(a 3),(a 4),(n+2),(a 5),(a 7),(a 8)]) (lk [(t 10),(t 11),(t 20),(t 21),(t 12),(t 13),(t 14),(t 15)]) (lk [(e 2+1),(e 3)]) (lk [(m 0)]) y (n+3) (i+8) (g+0)]
noncomputable def Ph3:List Nat:=unp 120 0x12402080000080000081c614018641ffc00000071401040000040000040c00071c70070411c6000006000006000006040041001040041000000041185000000140000140000143002080000080000081001040041001040000
theorem Pchk3 (V:XV) (a:Nat→Nat) (t:Nat→Tok) (e:Nat→Nat) (m:Nat→Int) (y:Array Value) (n i g:Nat) (hy:y.size ≤ 100):AllLt (fun k=>OkR V (Pchk3_r V.w.params k a t e m y n i g)) 3 :=
  ⟨⟨⟨trivial,
  okR_of (rules:=Pchk3_l V.w.params 0 a t e m y n i g) (fuel:=187) (hs:=Ph3) (idx:=[7,8,9,0,1,2,3,10,4,11]) (kk:=12) (kg:=0) rfl rfl rfl (by intro A Q R G; kernel_rfl) (fun _ _ hb=>⟨Plen2_ok hb hy (by decide),trivial⟩)⟩,
  okR_of (rules:=Pchk3_l V.w.params 1 a t e m y n i g) (fuel:=187) (hs:=Ph3) (idx:=[7,8,9,0,1,2,3,10,4,11]) (kk:=12) (kg:=0) rfl rfl rfl (by intro A Q R G; kernel_rfl) (fun _ _ hb=>⟨Plen2_ok hb hy (by decide),trivial⟩)⟩,
  okR_of (rules:=Pchk3_l V.w.params 2 a t e m y n i g) (fuel:=187) (hs:=Ph3) (idx:=[7,8,9,0,1,2,3,10,4,11]) (kk:=12) (kg:=0) rfl rfl rfl (by intro A Q R G; kernel_rfl) (fun _ _ hb=>⟨Plen2_ok hb hy (by decide),trivial⟩)⟩
theorem Pchk3_ok {V:XV} {b:Nat} (B:Base V b) {k:Nat} {a:Nat→Nat} {t:Nat→Tok} {e:Nat→Nat} {m:Nat→Int} {y:Array Value} {n i g:Nat} (hy:y.size ≤ 100) (hk:k < 3):RlOk V (Pchk3_r V.w.params k a t e m y n i g):=OkR.rl ((Pchk3 V a t e m y n i g hy).get hk) B
noncomputable def Plen4_s (k:Nat):List (Str):=lk [[⟨#[59]⟩,⟨#[59]⟩],[⟨#[59]⟩,⟨#[45,59]⟩],[⟨#[59]⟩,⟨#[45,45,59]⟩],[⟨#[45,59]⟩,⟨#[59]⟩],[⟨#[45,59]⟩,⟨#[45,59]⟩],[⟨#[45,59]⟩,⟨#[45,45,59]⟩],[⟨#[45,45,59]⟩,⟨#[59]⟩],[⟨#[45,45,59]⟩,⟨#[45,59]⟩],[⟨#[45,45,59]⟩,⟨#[45,45,59]⟩]] k
noncomputable def Plen4_z (k:Nat):List (Int):=lk [[2],[3],[4],[3],[4],[5],[4],[5],[6]] k
noncomputable def Plen4_r (p:Params) (k:Nat) (a:Nat→Nat) (t:Nat→Tok) (e:Nat→Nat) (m:Nat→Int) (y:Array Value) (n i g:Nat):Rl :=
  ⟨.call (.ref 211) ⟨[(.ref (a 0+305))],[]⟩,
   [((a 0+305),⟨(.ref 244),some (a 1+305),.seq #[(.ref (a 2+305)),(.ref (a 3+305))] (e 0),#[]⟩),((a 1+305),⟨(.type "dict"),none,.dict #[⟨(PyData.keyHash p Pq0),(.str Pq0 (t 0)),(.int 0 (t 1))⟩] (e 1),#[]⟩),((a 2+305),⟨(.type "tuple"),none,.seq #[(.str ⟨#[]⟩ (t 2)),(.str (lk (Plen4_s k) 0) (t 3))] 0,#[]⟩),((a 3+305),⟨(.type "tuple"),none,.seq #[(.str ⟨#[]⟩ (t 4)),(.str (lk (Plen4_s k) 1) (t 5))] 0,#[]⟩),(206,⟨.none,none,.fields #[(.int 137 0),(.int 19 0),(.ref (a 4+305))],#[]⟩),((a 4+305),⟨(.type "code"),none,.fields #[(.str Pq1 (t 6)),(.str Pq2 (t 7)),(.str Pq3 (t 8)),(.int 137 0),(.int 1 0),(.int 0 0),(.int 0 0),(.int 51 0),(.ref (a 5+305)),(.bool true),(.int 181 0),(.ref (a 6+305)),.none,.none,.none,.none,(.int (m 0) 0),(.int 137 0),(.str Pq3 (t 9))],#[]⟩)],n+305,i,g,(.int (lk (Plen4_z k) 0) (i+21)),
   [((a 0+305),⟨(.ref 244),some (a 1+305),.seq #[(.ref (a 2+305)),(.ref (a 3+305))] (e 0),#[]⟩),((a 1+305),⟨(.type "dict"),none,.dict #[⟨(PyData.keyHash p Pq0),(.str Pq0 (t 0)),(.int 0 (t 1))⟩] (e 1),#[]⟩),((a 2+305),⟨(.type "tuple"),none,.seq #[(.str ⟨#[]⟩ (t 2)),(.str (lk (Plen4_s k) 0) (t 3))] 0,#[]⟩),((a 3+305),⟨(.type "tuple"),none,.seq #[(.str ⟨#[]⟩ (t 4)),(.str (lk (Plen4_s k) 1) (t 5))] 0,#[]⟩),(206,⟨.none,none,.fields #[(.int 137 0),(.int 19 0),(.ref (a 4+305))],#[]⟩),((a 4+305),⟨(.type "code"),none,.fields #[(.str Pq1 (t 6)),(.str Pq2 (t 7)),(.str Pq3 (t 8)),(.int 137 0),(.int 1 0),(.int 0 0),(.int 0 0),(.int 51 0),(.ref (a 5+305)),(.bool true),(.int 181 0),(.ref (a 6+305)),.none,.none,.none,.none,(.int (m 0) 0),(.int 137 0),(.str Pq3 (t 9))],#[]⟩)],n+305+15,i+22,g+1,250,false⟩
noncomputable def Ph4:List Nat:=unp 194 0x100128a30a28a2800402082071c71c024000900024900924004104d04104104134104104104d04104104c04c30c1c71c91c71c70010051451041040060001800061801860010412410410410490410410412410410412012082041041841041041011043000400820810410410460051400001401400000000051010400001c0001002040000080000081000001040000
theorem Plen4 (V:XV) (a:Nat→Nat) (t:Nat→Tok) (e:Nat→Nat) (m:Nat→Int) (y:Array Value) (n i g:Nat) (hy:y.size ≤ 100):AllLt (fun k=>OkR V (Plen4_r V.w.params k a t e m y n i g)) 9 :=
  ⟨⟨⟨⟨⟨⟨⟨⟨⟨trivial,
  okR_of (rules:=[]) (fuel:=396) (hs:=Ph4) (idx:=[15,16,17,18,19,20]) (kk:=21) (kg:=1) rfl rfl rfl (by intro A Q R G; kernel_rfl) (fun _ _ hb=>trivial)⟩,
  okR_of (rules:=[]) (fuel:=396) (hs:=Ph4) (idx:=[15,16,17,18,19,20]) (kk:=21) (kg:=1) rfl rfl rfl (by intro A Q R G; kernel_rfl) (fun _ _ hb=>trivial)⟩,
  okR_of (rules:=[]) (fuel:=396) (hs:=Ph4) (idx:=[15,16,17,18,19,20]) (kk:=21) (kg:=1) rfl rfl rfl (by intro A Q R G; kernel_rfl) (fun _ _ hb=>trivial)⟩,
  okR_of (rules:=[]) (fuel:=396) (hs:=Ph4) (idx:=[15,16,17,18,19,20]) (kk:=21) (kg:=1) rfl rfl rfl (by intro A Q R G; kernel_rfl) (fun _ _ hb=>trivial)⟩,
  okR_of (rules:=[]) (fuel:=396) (hs:=Ph4) (idx:=[15,16,17,18,19,20]) (kk:=21) (kg:=1) rfl rfl rfl (by intro A Q R G; kernel_rfl) (fun _ _ hb=>trivial)⟩,
  okR_of (rules:=[]) (fuel:=396) (hs:=Ph4) (idx:=[15,16,17,18,19,20]) (kk:=21) (kg:=1) rfl rfl rfl (by intro A Q R G; kernel_rfl) (fun _ _ hb=>trivial)⟩,
  okR_of (rules:=[]) (fuel:=396) (hs:=Ph4) (idx:=[15,16,17,18,19,20]) (kk:=21) (kg:=1) rfl rfl rfl (by intro A Q R G; kernel_rfl) (fun _ _ hb=>trivial)⟩,
  okR_of (rules:=[]) (fuel:=396) (hs:=Ph4) (idx:=[15,16,17,18,19,20]) (kk:=21) (kg:=1) rfl rfl rfl (by intro A Q R G; kernel_rfl) (fun _ _ hb=>trivial)⟩,
  okR_of (rules:=[]) (fuel:=396) (hs:=Ph4) (idx:=[15,16,17,18,19,20]) (kk:=21) (kg:=1) rfl rfl rfl (by intro A Q R G; kernel_rfl) (fun _ _ hb=>trivial)⟩
theorem Plen4_ok {V:XV} {b:Nat} (B:Base V b) {k:Nat} {a:Nat→Nat} {t:Nat→Tok} {e:Nat→Nat} {m:Nat→Int} {y:Array Value} {n i g:Nat} (hy:y.size ≤ 100) (hk:k < 9):RlOk V (Plen4_r V.w.params k a t e m y n i g):=OkR.rl ((Plen4 V a t e m y n i g hy).get hk) B
noncomputable def Pchk5_s (k:Nat):List (Str):=lk [[⟨#[59]⟩],[⟨#[45,59]⟩],[⟨#[59]⟩]] k
noncomputable def Pchk5_u (k:Nat):List (List Nat):=lk [[[1],[1,1]],[[1],[1,2]],[[2],[2,1]]] k
noncomputable def Pchk5_k (k:Nat):List (Nat):=lk [[0],[1],[3]] k
noncomputable def Pchk5_pa (k:Nat) (a:Nat→Nat) (t:Nat→Tok) (e:Nat→Nat) (m:Nat→Int) (y:Array Value) (n i g:Nat):Nat→Nat:=(lk [(a 0),(a 1),(a 2),(a 3),(a 4),(a 5),(n+2),(a 6),(a 7),(a 8)])
noncomputable def Pchk5_pt (k:Nat) (a:Nat→Nat) (t:Nat→Tok) (e:Nat→Nat) (m:Nat→Int) (y:Array Value) (n i g:Nat):Nat→Tok:=(lk [(t 0),(t 1),(t 2),(t 3),(t 4),(t 5),(t 6),(t 7),(t 8),(t 9),(t 10),(t 11),(t 12),(t 13),(t 18),(t 19),(t 14),(t 15),(t 16),(t 17)])
noncomputable def Pchk5_pe (k:Nat) (a:Nat→Nat) (t:Nat→Tok) (e:Nat→Nat) (m:Nat→Int) (y:Array Value) (n i g:Nat):Nat→Nat:=(lk [(e 0),(e 1),(e 2+1),(e 3)])
noncomputable def Pchk5_pm (k:Nat) (a:Nat→Nat) (t:Nat→Tok) (e:Nat→Nat) (m:Nat→Int) (y:Array Value) (n i g:Nat):Nat→Int:=(lk [(m 0)])
noncomputable def Pchk5_py (k:Nat) (a:Nat→Nat) (t:Nat→Tok) (e:Nat→Nat) (m:Nat→Int) (y:Array Value) (n i g:Nat):Array Value:=y
noncomputable def Pchk5_r (p:Params) (k:Nat) (a:Nat→Nat) (t:Nat→Tok) (e:Nat→Nat) (m:Nat→Int) (y:Array Value) (n i g:Nat):Rl :=
  ⟨.call (.ref 157) ⟨[(.ref (a 0+305)),(.str ⟨#[]⟩ (t 18)),(.str (lk (Pchk5_s k) 0) (t 19))],[]⟩,
   fs 3 (lk (Pchk5_u k) 0) true false p a t e m y,n+305,i,g,.none,
   fs 3 (lk (Pchk5_u k) 1) true false p (Pchk5_pa k a t e m y n i g) (Pchk5_pt k a t e m y n i g) (Pchk5_pe k a t e m y n i g) (Pchk5_pm k a t e m y n i g) (Pchk5_py k a t e m y n i g),n+305+18,i+32,g+1,300,false⟩
noncomputable def Pchk5_l (p:Params) (k:Nat) (a:Nat→Nat) (t:Nat→Tok) (e:Nat→Nat) (m:Nat→Int) (y:Array Value) (n i g:Nat):List Rl:=[Plen4_r p (lk (Pchk5_k k) 0) (lk [(a 3),(a 4),(a 5),(n+2),(a 6),(a 7),(a 8)]) (lk [(t 10),(t 11),(t 12),(t 13),(t 18),(t 19),(t 14),(t 15),(t 16),(t 17)]) (lk [(e 2+1),(e 3)]) (lk [(m 0)]) y (n+3) (i+8) (g+0)]
noncomputable def Ph5:List Nat:=unp 121 0x4a00924000024000024818500618641ffc00000071401040000040000040c00071c70070411c6000006000006000006040041001040041000000041185000000140000140000143002080000080000081001040041001040000
theorem Pchk5 (V:XV) (a:Nat→Nat) (t:Nat→Tok) (e:Nat→Nat) (m:Nat→Int) (y:Array Value) (n i g:Nat) (hy:y.size ≤ 100):AllLt (fun k=>OkR V (Pchk5_r V.w.params k a t e m y n i g)) 3 :=
  ⟨⟨⟨trivial,
  okR_of (rules:=Pchk5_l V.w.params 0 a t e m y n i g) (fuel:=187) (hs:=Ph5) (idx:=[8,9,10,0,1,2,3,4,11,5]) (kk:=12) (kg:=0) rfl rfl rfl (by intro A Q R G; kernel_rfl) (fun _ _ hb=>⟨Plen4_ok hb hy (by decide),trivial⟩)⟩,
  okR_of (rules:=Pchk5_l V.w.params 1 a t e m y n i g) (fuel:=187) (hs:=Ph5) (idx:=[8,9,10,0,1,2,3,4,11,5]) (kk:=12) (kg:=0) rfl rfl rfl (by intro A Q R G; kernel_rfl) (fun _ _ hb=>⟨Plen4_ok hb hy (by decide),trivial⟩)⟩,
  okR_of (rules:=Pchk5_l V.w.params 2 a t e m y n i g) (fuel:=187) (hs:=Ph5) (idx:=[8,9,10,0,1,2,3,4,11,5]) (kk:=12) (kg:=0) rfl rfl rfl (by intro A Q R G; kernel_rfl) (fun _ _ hb=>⟨Plen4_ok hb hy (by decide),trivial⟩)⟩
theorem Pchk5_ok {V:XV} {b:Nat} (B:Base V b) {k:Nat} {a:Nat→Nat} {t:Nat→Tok} {e:Nat→Nat} {m:Nat→Int} {y:Array Value} {n i g:Nat} (hy:y.size ≤ 100) (hk:k < 3):RlOk V (Pchk5_r V.w.params k a t e m y n i g):=OkR.rl ((Pchk5 V a t e m y n i g hy).get hk) B
noncomputable def Pstr6_s (k:Nat):List (Str):=lk [[⟨#[59]⟩],[⟨#[45,59]⟩],[⟨#[45,45,59]⟩]] k
noncomputable def Pstr6_r (p:Params) (k:Nat) (a:Nat→Nat) (t:Nat→Tok) (e:Nat→Nat) (m:Nat→Int) (y:Array Value) (n i g:Nat):Rl :=
  ⟨.call (.ref 218) ⟨[(.ref (a 0+305))],[]⟩,
   [((a 0+305),⟨(.ref 244),some (a 1+305),.seq #[(.ref (a 2+305))] (e 0),#[]⟩),((a 1+305),⟨(.type "dict"),none,.dict #[⟨(PyData.keyHash p Pq0),(.str Pq0 (t 0)),(.int 0 (t 1))⟩] (e 1),#[]⟩),((a 2+305),⟨(.type "tuple"),none,.seq #[(.str ⟨#[]⟩ (t 2)),(.str (lk (Pstr6_s k) 0) (t 3))] 0,#[]⟩),(213,⟨.none,none,.fields #[],#[]⟩)],n+305,i,g,(.str (lk (Pstr6_s k) 0) (i+11)),
   [((a 0+305),⟨(.ref 244),some (a 1+305),.seq #[(.ref (a 2+305))] (e 0),#[]⟩),((a 1+305),⟨(.type "dict"),none,.dict #[⟨(PyData.keyHash p Pq0),(.str Pq0 (t 0)),(.int 0 (t 1))⟩] (e 1),#[]⟩),((a 2+305),⟨(.type "tuple"),none,.seq #[(.str ⟨#[]⟩ (t 2)),(.str (lk (Pstr6_s k) 0) (t 3))] 0,#[]⟩),(213,⟨.none,none,.fields #[(.int 140 0),(.int 32 0),(.ref (n+305+4))],#[]⟩),((n+305+4),⟨(.type "code"),none,.fields #[(.str Pq1 (i+1)),(.str Pq4 (i+2)),(.str Pq3 (i+3)),(.int 140 0),(.int 1 0),(.int 0 0),(.int 0 0),(.int 51 0),(.ref (n+305+2)),(.bool true),(.int 181 0),(.ref (n+305+3)),.none,.none,.none,.none,(.int (Int.ofNat (i+4)) 0),(.int 140 0),(.str Pq3 (i+5))],#[]⟩)],n+305+16,i+12,g+1,250,false⟩
noncomputable def Ph6:List Nat:=unp 133 0x2410012cb34b2cb2c004018618514500104618018600618004104c04104104130104104104c04104104b04b2cb1c71c91c71c71c70471cc001002082041041041082082042081081041041041040000249246000040081000002000002040001040000
theorem Pstr6 (V:XV) (a:Nat→Nat) (t:Nat→Tok) (e:Nat→Nat) (m:Nat→Int) (y:Array Value) (n i g:Nat) (hy:y.size ≤ 100):AllLt (fun k=>OkR V (Pstr6_r V.w.params k a t e m y n i g)) 3 :=
  ⟨⟨⟨trivial,
  okR_of (rules:=[]) (fuel:=257) (hs:=Ph6) (idx:=[16,17,18,19,11]) (kk:=20) (kg:=1) rfl rfl rfl (by intro A Q R G; kernel_rfl) (fun _ _ hb=>trivial)⟩,
  okR_of (rules:=[]) (fuel:=257) (hs:=Ph6) (idx:=[16,17,18,19,11]) (kk:=20) (kg:=1) rfl rfl rfl (by intro A Q R G; kernel_rfl) (fun _ _ hb=>trivial)⟩,
  okR_of (rules:=[]) (fuel:=257) (hs:=Ph6) (idx:=[16,17,18,19,11]) (kk:=20) (kg:=1) rfl rfl rfl (by intro A Q R G; kernel_rfl) (fun _ _ hb=>trivial)⟩
theorem Pstr6_ok {V:XV} {b:Nat} (B:Base V b) {k:Nat} {a:Nat→Nat} {t:Nat→Tok} {e:Nat→Nat} {m:Nat→Int} {y:Array Value} {n i g:Nat} (hy:y.size ≤ 100) (hk:k < 3):RlOk V (Pstr6_r V.w.params k a t e m y n i g):=OkR.rl ((Pstr6 V a t e m y n i g hy).get hk) B
noncomputable def Pchk7_s (k:Nat):List (Str):=lk [[⟨#[45,45,59]⟩,⟨#[59]⟩],[⟨#[45,59]⟩,⟨#[45,59]⟩],[⟨#[45,45,59]⟩,⟨#[45,59]⟩],[⟨#[59]⟩,⟨#[45,45,59]⟩],[⟨#[45,59]⟩,⟨#[45,45,59]⟩],[⟨#[45,45,59]⟩,⟨#[45,45,59]⟩]] k
noncomputable def Pchk7_u (k:Nat):List (List Nat):=lk [[[1],[3]],[[2],[2]],[[2],[3]],[[3],[1]],[[3],[2]],[[3],[3]]] k
noncomputable def Pchk7_k (k:Nat):List (Nat):=lk [[2,0],[4,1],[5,1],[6,2],[7,2],[8,2]] k
noncomputable def Pchk7_pa (k:Nat) (a:Nat→Nat) (t:Nat→Tok) (e:Nat→Nat) (m:Nat→Int) (y:Array Value) (n i g:Nat):Nat→Nat:=(lk [(a 0),(a 1),(a 2),(a 3),(a 4),(n+2),(a 6),(n+33),(a 7),(a 8),(n+31),(n+32)])
noncomputable def Pchk7_pt (k:Nat) (a:Nat→Nat) (t:Nat→Tok) (e:Nat→Nat) (m:Nat→Int) (y:Array Value) (n i g:Nat):Nat→Tok:=(lk [(t 0),(t 1),(t 2),(t 3),(t 4),(t 5),(t 6),(t 7),(t 8),(t 9),(t 10),(i+78),(t 18),(t 19),(t 14),(t 15),(t 16),(t 17),(i+64),(i+65),(i+66),(i+68)])
noncomputable def Pchk7_pe (k:Nat) (a:Nat→Nat) (t:Nat→Tok) (e:Nat→Nat) (m:Nat→Int) (y:Array Value) (n i g:Nat):Nat→Nat:=(lk [(e 0),(e 1+1),(e 2+2),(e 3)])
noncomputable def Pchk7_pm (k:Nat) (a:Nat→Nat) (t:Nat→Tok) (e:Nat→Nat) (m:Nat→Int) (y:Array Value) (n i g:Nat):Nat→Int:=(lk [(m 0),(Int.ofNat (i+67))])
noncomputable def Pchk7_py (k:Nat) (a:Nat→Nat) (t:Nat→Tok) (e:Nat→Nat) (m:Nat→Int) (y:Array Value) (n i g:Nat):Array Value:=(y.push (.str (lk (Pchk7_s k) 1) (i+74)))
noncomputable def Pchk7_r (p:Params) (k:Nat) (a:Nat→Nat) (t:Nat→Tok) (e:Nat→Nat) (m:Nat→Int) (y:Array Value) (n i g:Nat):Rl :=
  ⟨.call (.ref 157) ⟨[(.ref (a 0+305)),(.str ⟨#[]⟩ (t 18)),(.str (lk (Pchk7_s k) 0) (t 19))],[]⟩,
   fs 3 (lk (Pchk7_u k) 0) true false p a t e m y,n+305,i,g,.none,
   fs 3 (lk (Pchk7_u k) 1) true true p (Pchk7_pa k a t e m y n i g) (Pchk7_pt k a t e m y n i g) (Pchk7_pe k a t e m y n i g) (Pchk7_pm k a t e m y n i g) (Pchk7_py k a t e m y n i g),n+305+47,i+81,g+2,300,false⟩
noncomputable def Pchk7_l (p:Params) (k:Nat) (a:Nat→Nat) (t:Nat→Tok) (e:Nat→Nat) (m:Nat→Int) (y:Array Value) (n i g:Nat):List Rl:=[Plen4_r p (lk (Pchk7_k k) 0) (lk [(a 3),(a 4),(a 5),(n+2),(a 6),(a 7),(a 8)]) (lk [(t 10),(t 11),(t 12),(t 13),(t 18),(t 19),(t 14),(t 15),(t 16),(t 17)]) (lk [(e 2+1),(e 3)]) (lk [(m 0)]) y (n+3) (i+8) (g+0),
  Pstr6_r p (lk (Pchk7_k k) 1) (lk [(a 3),(a 4),(a 5)]) (lk [(t 10),(t 11),(t 12),(t 13)]) (lk [(e 2+2),(e 3)]) (fun _=>default) y (n+29) (i+63) (g+1),
  app_r (a 2+305) y (e 1) (.str (lk (Pchk7_s k) 1) (i+74)) (n+45) (i+75) (g+2)]
noncomputable def Ph7:List Nat:=unp 501 0x14514000400000400400400000408410410b2c10410410040000040040410400410010400000005830800000020000020000026005d700001700001759749ffcf7ff4cb2cb45ffc000000c1150145000005000005130005965965405140000140000144d34c014c30c30208104104100c00000c00c1040c30090410410402400002402400002410400410010400000003881c00000070000070000074003cf00000f00000f38138e38e38024924924700700000700700000739000f3c00003c00003ce38e3800410410410410410410410410410410450410040000410410410410410410041000410400010000000000410000000c200000008000008000008b00a28000028000028900024900104104104104a00924000024000024804a00924000024000024818500618641ffc00000071401040000040000040c00071c70070411c6000006000006000006040041001040041000000041185000000140000140000143002080000080000081001040041001040000
theorem Pchk7 (V:XV) (a:Nat→Nat) (t:Nat→Tok) (e:Nat→Nat) (m:Nat→Int) (y:Array Value) (n i g:Nat) (hy:y.size ≤ 100):AllLt (fun k=>OkR V (Pchk7_r V.w.params k a t e m y n i g)) 6 :=
  ⟨⟨⟨⟨⟨⟨trivial,
  okR_of (rules:=Pchk7_l V.w.params 0 a t e m y n i g) (fuel:=860) (hs:=Ph7) (idx:=[24,25,2,3,4,19,20,6,21,7]) (kk:=26) (kg:=0) rfl rfl rfl (by intro A Q R G; kernel_rfl) (fun _ _ hb=>⟨Plen4_ok hb hy (by decide),Pstr6_ok hb hy (by decide),app_ok hy,trivial⟩)⟩,
  okR_of (rules:=Pchk7_l V.w.params 1 a t e m y n i g) (fuel:=860) (hs:=Ph7) (idx:=[24,25,2,3,4,19,20,6,21,7]) (kk:=26) (kg:=0) rfl rfl rfl (by intro A Q R G; kernel_rfl) (fun _ _ hb=>⟨Plen4_ok hb hy (by decide),Pstr6_ok hb hy (by decide),app_ok hy,trivial⟩)⟩,
  okR_of (rules:=Pchk7_l V.w.params 2 a t e m y n i g) (fuel:=860) (hs:=Ph7) (idx:=[24,25,2,3,4,19,20,6,21,7]) (kk:=26) (kg:=0) rfl rfl rfl (by intro A Q R G; kernel_rfl) (fun _ _ hb=>⟨Plen4_ok hb hy (by decide),Pstr6_ok hb hy (by decide),app_ok hy,trivial⟩)⟩,
  okR_of (rules:=Pchk7_l V.w.params 3 a t e m y n i g) (fuel:=860) (hs:=Ph7) (idx:=[24,25,2,3,4,19,20,6,21,7]) (kk:=26) (kg:=0) rfl rfl rfl (by intro A Q R G; kernel_rfl) (fun _ _ hb=>⟨Plen4_ok hb hy (by decide),Pstr6_ok hb hy (by decide),app_ok hy,trivial⟩)⟩,
  okR_of (rules:=Pchk7_l V.w.params 4 a t e m y n i g) (fuel:=860) (hs:=Ph7) (idx:=[24,25,2,3,4,19,20,6,21,7]) (kk:=26) (kg:=0) rfl rfl rfl (by intro A Q R G; kernel_rfl) (fun _ _ hb=>⟨Plen4_ok hb hy (by decide),Pstr6_ok hb hy (by decide),app_ok hy,trivial⟩)⟩,
  okR_of (rules:=Pchk7_l V.w.params 5 a t e m y n i g) (fuel:=860) (hs:=Ph7) (idx:=[24,25,2,3,4,19,20,6,21,7]) (kk:=26) (kg:=0) rfl rfl rfl (by intro A Q R G; kernel_rfl) (fun _ _ hb=>⟨Plen4_ok hb hy (by decide),Pstr6_ok hb hy (by decide),app_ok hy,trivial⟩)⟩
theorem Pchk7_ok {V:XV} {b:Nat} (B:Base V b) {k:Nat} {a:Nat→Nat} {t:Nat→Tok} {e:Nat→Nat} {m:Nat→Int} {y:Array Value} {n i g:Nat} (hy:y.size ≤ 100) (hk:k < 6):RlOk V (Pchk7_r V.w.params k a t e m y n i g):=OkR.rl ((Pchk7 V a t e m y n i g hy).get hk) B
noncomputable def Pchk8_s (k:Nat):List (Str):=lk [[⟨#[59]⟩],[⟨#[45,59]⟩],[⟨#[45,45,59]⟩],[⟨#[59]⟩],[⟨#[45,59]⟩],[⟨#[59]⟩],[⟨#[59]⟩],[⟨#[59]⟩],[⟨#[45,59]⟩]] k
noncomputable def Pchk8_z (k:Nat):List (Int):=lk [[4],[4],[4],[4],[4],[4],[3],[3],[3]] k
noncomputable def Pchk8_u (k:Nat):List (List Nat):=lk [[[1],[1,1]],[[1],[1,2]],[[1],[1,3]],[[2],[2,1]],[[2],[2,2]],[[3],[3,1]],[[2],[2,1]],[[1],[1,1]],[[1],[1,2]]] k
noncomputable def Pchk8_k (k:Nat):List (Nat):=lk [[0],[1],[2],[3],[4],[6],[3],[0],[1]] k
noncomputable def Pchk8_pa (k:Nat) (a:Nat→Nat) (t:Nat→Tok) (e:Nat→Nat) (m:Nat→Int) (y:Array Value) (n i g:Nat):Nat→Nat:=(lk [(a 0),(a 1),(a 2),(a 3),(a 4),(a 5),(n+2),(a 6),(a 7),(a 8),(a 9),(a 10),(a 11)])
noncomputable def Pchk8_pt (k:Nat) (a:Nat→Nat) (t:Nat→Tok) (e:Nat→Nat) (m:Nat→Int) (y:Array Value) (n i g:Nat):Nat→Tok:=(lk [(t 0),(t 1),(t 2),(t 3),(t 4),(t 5),(t 6),(t 7),(t 8),(t 9),(t 10),(t 11),(t 12),(t 13),(t 22),(t 23),(t 14),(t 15),(t 16),(t 17),(t 18),(t 19),(t 20),(t 21)])
noncomputable def Pchk8_pe (k:Nat) (a:Nat→Nat) (t:Nat→Tok) (e:Nat→Nat) (m:Nat→Int) (y:Array Value) (n i g:Nat):Nat→Nat:=(lk [(e 0),(e 1),(e 2+1),(e 3)])
noncomputable def Pchk8_pm (k:Nat) (a:Nat→Nat) (t:Nat→Tok) (e:Nat→Nat) (m:Nat→Int) (y:Array Value) (n i g:Nat):Nat→Int:=(lk [(m 0),(m 1)])
noncomputable def Pchk8_py (k:Nat) (a:Nat→Nat) (t:Nat→Tok) (e:Nat→Nat) (m:Nat→Int) (y:Array Value) (n i g:Nat):Array Value:=y
noncomputable def Pchk8_r (p:Params) (k:Nat) (a:Nat→Nat) (t:Nat→Tok) (e:Nat→Nat) (m:Nat→Int) (y:Array Value) (n i g:Nat):Rl :=
  ⟨.call (.ref 157) ⟨[(.ref (a 0+305)),(.str ⟨#[]⟩ (t 22)),(.str (lk (Pchk8_s k) 0) (t 23))],[]⟩,
   fs (lk (Pchk8_z k) 0) (lk (Pchk8_u k) 0) true true p a t e m y,n+305,i,g,.none,
   fs (lk (Pchk8_z k) 0) (lk (Pchk8_u k) 1) true true p (Pchk8_pa k a t e m y n i g) (Pchk8_pt k a t e m y n i g) (Pchk8_pe k a t e m y n i g) (Pchk8_pm k a t e m y n i g) (Pchk8_py k a t e m y n i g),n+305+18,i+32,g+1,300,false⟩
noncomputable def Pchk8_l (p:Params) (k:Nat) (a:Nat→Nat) (t:Nat→Tok) (e:Nat→Nat) (m:Nat→Int) (y:Array Value) (n i g:Nat):List Rl:=[Plen4_r p (lk (Pchk8_k k) 0) (lk [(a 3),(a 4),(a 5),(n+2),(a 6),(a 8),(a 9)]) (lk [(t 10),(t 11),(t 12),(t 13),(t 22),(t 23),(t 14),(t 15),(t 16),(t 17)]) (lk [(e 2+1),(e 3)]) (lk [(m 0)]) y (n+3) (i+8) (g+0)]
theorem Pchk8 (V:XV) (a:Nat→Nat) (t:Nat→Tok) (e:Nat→Nat) (m:Nat→Int) (y:Array Value) (n i g:Nat) (hy:y.size ≤ 100):AllLt (fun k=>OkR V (Pchk8_r V.w.params k a t e m y n i g)) 9 :=
  ⟨⟨⟨⟨⟨⟨⟨⟨⟨trivial,
  okR_of (rules:=Pchk8_l V.w.params 0 a t e m y n i g) (fuel:=187) (hs:=Ph5) (idx:=[8,9,10,0,1,2,3,4,11,5,12]) (kk:=13) (kg:=0) rfl rfl rfl (by intro A Q R G; kernel_rfl) (fun _ _ hb=>⟨Plen4_ok hb hy (by decide),trivial⟩)⟩,
  okR_of (rules:=Pchk8_l V.w.params 1 a t e m y n i g) (fuel:=187) (hs:=Ph5) (idx:=[8,9,10,0,1,2,3,4,11,5,12]) (kk:=13) (kg:=0) rfl rfl rfl (by intro A Q R G; kernel_rfl) (fun _ _ hb=>⟨Plen4_ok hb hy (by decide),trivial⟩)⟩,
  okR_of (rules:=Pchk8_l V.w.params 2 a t e m y n i g) (fuel:=187) (hs:=Ph5) (idx:=[8,9,10,0,1,2,3,4,11,5,12]) (kk:=13) (kg:=0) rfl rfl rfl (by intro A Q R G; kernel_rfl) (fun _ _ hb=>⟨Plen4_ok hb hy (by decide),trivial⟩)⟩,
  okR_of (rules:=Pchk8_l V.w.params 3 a t e m y n i g) (fuel:=187) (hs:=Ph5) (idx:=[8,9,10,0,1,2,3,4,11,5,12]) (kk:=13) (kg:=0) rfl rfl rfl (by intro A Q R G; kernel_rfl) (fun _ _ hb=>⟨Plen4_ok hb hy (by decide),trivial⟩)⟩,
  okR_of (rules:=Pchk8_l V.w.params 4 a t e m y n i g) (fuel:=187) (hs:=Ph5) (idx:=[8,9,10,0,1,2,3,4,11,5,12]) (kk:=13) (kg:=0) rfl rfl rfl (by intro A Q R G; kernel_rfl) (fun _ _ hb=>⟨Plen4_ok hb hy (by decide),trivial⟩)⟩,
  okR_of (rules:=Pchk8_l V.w.params 5 a t e m y n i g) (fuel:=187) (hs:=Ph5) (idx:=[8,9,10,0,1,2,3,4,11,5,12]) (kk:=13) (kg:=0) rfl rfl rfl (by intro A Q R G; kernel_rfl) (fun _ _ hb=>⟨Plen4_ok hb hy (by decide),trivial⟩)⟩,
  okR_of (rules:=Pchk8_l V.w.params 6 a t e m y n i g) (fuel:=187) (hs:=Ph5) (idx:=[8,9,10,0,1,2,3,4,11,5,12]) (kk:=13) (kg:=0) rfl rfl rfl (by intro A Q R G; kernel_rfl) (fun _ _ hb=>⟨Plen4_ok hb hy (by decide),trivial⟩)⟩,
  okR_of (rules:=Pchk8_l V.w.params 7 a t e m y n i g) (fuel:=187) (hs:=Ph5) (idx:=[8,9,10,0,1,2,3,4,11,5,12]) (kk:=13) (kg:=0) rfl rfl rfl (by intro A Q R G; kernel_rfl) (fun _ _ hb=>⟨Plen4_ok hb hy (by decide),trivial⟩)⟩,
  okR_of (rules:=Pchk8_l V.w.params 8 a t e m y n i g) (fuel:=187) (hs:=Ph5) (idx:=[8,9,10,0,1,2,3,4,11,5,12]) (kk:=13) (kg:=0) rfl rfl rfl (by intro A Q R G; kernel_rfl) (fun _ _ hb=>⟨Plen4_ok hb hy (by decide),trivial⟩)⟩
theorem Pchk8_ok {V:XV} {b:Nat} (B:Base V b) {k:Nat} {a:Nat→Nat} {t:Nat→Tok} {e:Nat→Nat} {m:Nat→Int} {y:Array Value} {n i g:Nat} (hy:y.size ≤ 100) (hk:k < 9):RlOk V (Pchk8_r V.w.params k a t e m y n i g):=OkR.rl ((Pchk8 V a t e m y n i g hy).get hk) B
noncomputable def Pstr9_s (k:Nat):List (Str):=lk [[⟨#[59]⟩],[⟨#[45,59]⟩],[⟨#[45,45,59]⟩]] k
noncomputable def Pstr9_r (p:Params) (k:Nat) (a:Nat→Nat) (t:Nat→Tok) (e:Nat→Nat) (m:Nat→Int) (y:Array Value) (n i g:Nat):Rl :=
  ⟨.call (.ref 218) ⟨[(.ref (a 0+305))],[]⟩,
   [((a 0+305),⟨(.ref 244),some (a 1+305),.seq #[(.ref (a 2+305))] (e 0),#[]⟩),((a 1+305),⟨(.type "dict"),none,.dict #[⟨(PyData.keyHash p Pq0),(.str Pq0 (t 0)),(.int 0 (t 1))⟩] (e 1),#[]⟩),((a 2+305),⟨(.type "tuple"),none,.seq #[(.str ⟨#[]⟩ (t 2)),(.str (lk (Pstr9_s k) 0) (t 3))] 0,#[]⟩),(213,⟨.none,none,.fields #[(.int 140 0),(.int 32 0),(.ref (a 3+305))],#[]⟩),((a 3+305),⟨(.type "code"),none,.fields #[(.str Pq1 (t 4)),(.str Pq4 (t 5)),(.str Pq3 (t 6)),(.int 140 0),(.int 1 0),(.int 0 0),(.int 0 0),(.int 51 0),(.ref (a 4+305)),(.bool true),(.int 181 0),(.ref (a 5+305)),.none,.none,.none,.none,(.int (m 0) 0),(.int 140 0),(.str Pq3 (t 7))],#[]⟩)],n+305,i,g,(.str (lk (Pstr9_s k) 0) (i+6)),
   [((a 0+305),⟨(.ref 244),some (a 1+305),.seq #[(.ref (a 2+305))] (e 0),#[]⟩),((a 1+305),⟨(.type "dict"),none,.dict #[⟨(PyData.keyHash p Pq0),(.str Pq0 (t 0)),(.int 0 (t 1))⟩] (e 1),#[]⟩),((a 2+305),⟨(.type "tuple"),none,.seq #[(.str ⟨#[]⟩ (t 2)),(.str (lk (Pstr9_s k) 0) (t 3))] 0,#[]⟩),(213,⟨.none,none,.fields #[(.int 140 0),(.int 32 0),(.ref (a 3+305))],#[]⟩),((a 3+305),⟨(.type "code"),none,.fields #[(.str Pq1 (t 4)),(.str Pq4 (t 5)),(.str Pq3 (t 6)),(.int 140 0),(.int 1 0),(.int 0 0),(.int 0 0),(.int 51 0),(.ref (a 4+305)),(.bool true),(.int 181 0),(.ref (a 5+305)),.none,.none,.none,.none,(.int (m 0) 0),(.int 140 0),(.str Pq3 (t 7))],#[]⟩)],n+305+13,i+7,g+1,250,false⟩
noncomputable def Ph8:List Nat:=unp 130 0x904004820a208208001006186145140041186006180186001041241041041049041041041241041041201208204104184104104101104300040082081041041042082081082042041041041041000006000040081000002000002040001040000
theorem Pstr9 (V:XV) (a:Nat→Nat) (t:Nat→Tok) (e:Nat→Nat) (m:Nat→Int) (y:Array Value) (n i g:Nat) (hy:y.size ≤ 100):AllLt (fun k=>OkR V (Pstr9_r V.w.params k a t e m y n i g)) 3 :=
  ⟨⟨⟨trivial,
  okR_of (rules:=[]) (fuel:=246) (hs:=Ph8) (idx:=[13,14,15,16,17]) (kk:=18) (kg:=1) rfl rfl rfl (by intro A Q R G; kernel_rfl) (fun _ _ hb=>trivial)⟩,
  okR_of (rules:=[]) (fuel:=246) (hs:=Ph8) (idx:=[13,14,15,16,17]) (kk:=18) (kg:=1) rfl rfl rfl (by intro A Q R G; kernel_rfl) (fun _ _ hb=>trivial)⟩,
  okR_of (rules:=[]) (fuel:=246) (hs:=Ph8) (idx:=[13,14,15,16,17]) (kk:=18) (kg:=1) rfl rfl rfl (by intro A Q R G; kernel_rfl) (fun _ _ hb=>trivial)⟩
theorem Pstr9_ok {V:XV} {b:Nat} (B:Base V b) {k:Nat} {a:Nat→Nat} {t:Nat→Tok} {e:Nat→Nat} {m:Nat→Int} {y:Array Value} {n i g:Nat} (hy:y.size ≤ 100) (hk:k < 3):RlOk V (Pstr9_r V.w.params k a t e m y n i g):=OkR.rl ((Pstr9 V a t e m y n i g hy).get hk) B
noncomputable def Pnwl10_z (k:Nat):List (Int):=lk [[4],[4],[4],[3],[3],[3]] k
noncomputable def Pnwl10_u (k:Nat):List (List Nat):=lk [[[1]],[[2]],[[3]],[[3]],[[2]],[[1]]] k
noncomputable def Pnwl10_s (k:Nat):List (Str):=lk [[⟨#[59]⟩],[⟨#[45,59]⟩],[⟨#[45,45,59]⟩],[⟨#[45,45,59]⟩],[⟨#[45,59]⟩],[⟨#[59]⟩]] k
noncomputable def Pnwl10_k (k:Nat):List (Nat):=lk [[0],[1],[2],[2],[1],[0]] k
noncomputable def Pnwl10_pa (k:Nat) (a:Nat→Nat) (t:Nat→Tok) (e:Nat→Nat) (m:Nat→Int) (y:Array Value) (n i g:Nat):Nat→Nat:=(lk [(a 0),(a 1),(a 2),(a 3),(a 4),(a 6),(a 7),(a 8),(a 9),(a 10),(a 11)])
noncomputable def Pnwl10_pt (k:Nat) (a:Nat→Nat) (t:Nat→Tok) (e:Nat→Nat) (m:Nat→Int) (y:Array Value) (n i g:Nat):Nat→Tok:=(lk [(t 0),(t 1),(t 2),(t 3),(t 4),(t 5),(t 6),(t 7),(t 8),(t 9),(t 10),(i+72),(t 14),(t 15),(t 16),(t 17),(t 18),(t 19),(t 20),(t 21)])
noncomputable def Pnwl10_pe (k:Nat) (a:Nat→Nat) (t:Nat→Tok) (e:Nat→Nat) (m:Nat→Int) (y:Array Value) (n i g:Nat):Nat→Nat:=(lk [(e 0),(e 1+1),(e 2+3),(e 3)])
noncomputable def Pnwl10_pm (k:Nat) (a:Nat→Nat) (t:Nat→Tok) (e:Nat→Nat) (m:Nat→Int) (y:Array Value) (n i g:Nat):Nat→Int:=(lk [(m 0),(m 1)])
noncomputable def Pnwl10_py (k:Nat) (a:Nat→Nat) (t:Nat→Tok) (e:Nat→Nat) (m:Nat→Int) (y:Array Value) (n i g:Nat):Array Value:=(y.push (.str (lk (Pnwl10_s k) 0) (i+67)))
noncomputable def Pnwl10_r (p:Params) (k:Nat) (a:Nat→Nat) (t:Nat→Tok) (e:Nat→Nat) (m:Nat→Int) (y:Array Value) (n i g:Nat):Rl :=
  ⟨.call (.ref 122) ⟨[(.ref (a 0+305))],[]⟩,
   fs (lk (Pnwl10_z k) 0) (lk (Pnwl10_u k) 0) true true p a t e m y,n+305,i,g,.none,
   fs (lk (Pnwl10_z k) 0) [] true true p (Pnwl10_pa k a t e m y n i g) (Pnwl10_pt k a t e m y n i g) (Pnwl10_pe k a t e m y n i g) (Pnwl10_pm k a t e m y n i g) (Pnwl10_py k a t e m y n i g),n+305+66,i+75,g+4,300,false⟩
noncomputable def Pnwl10_l (p:Params) (k:Nat) (a:Nat→Nat) (t:Nat→Tok) (e:Nat→Nat) (m:Nat→Int) (y:Array Value) (n i g:Nat):List Rl:=[Plen2_r p (lk (Pnwl10_k k) 0) (lk [(a 3),(a 4),(n+11),(a 6),(a 8),(a 9)]) (lk [(t 10),(t 11),(t 12),(t 13),(t 14),(t 15),(t 16),(t 17)]) (lk [(e 2+2),(e 3)]) (lk [(m 0)]) y (n+12) (i+17) (g+0),
  Plen2_r p (lk (Pnwl10_k k) 0) (lk [(a 3),(a 4),(n+11),(a 6),(a 8),(a 9)]) (lk [(t 10),(t 11),(t 12),(t 13),(t 14),(t 15),(t 16),(t 17)]) (lk [(e 2+2),(e 3)]) (lk [(m 0)]) y (n+25) (i+37) (g+1),
  Pstr9_r p (lk (Pnwl10_k k) 0) (lk [(a 3),(a 4),(n+11),(a 7),(a 10),(a 11)]) (lk [(t 10),(t 11),(t 12),(t 13),(t 18),(t 19),(t 20),(t 21)]) (lk [(e 2+2),(e 3)]) (lk [(m 1)]) y (n+37) (i+52) (g+2),
  Pstr9_r p (lk (Pnwl10_k k) 0) (lk [(a 3),(a 4),(n+11),(a 7),(a 10),(a 11)]) (lk [(t 10),(t 11),(t 12),(t 13),(t 18),(t 19),(t 20),(t 21)]) (lk [(e 2+2),(e 3)]) (lk [(m 1)]) y (n+50) (i+61) (g+3),
  app_r (a 2+305) y (e 1) (.str (lk (Pnwl10_s k) 0) (i+67)) (n+63) (i+68) (g+4)]
noncomputable def Ph9:List Nat:=unp 494 0x61860001400001401401400001431451450820410410401400001401420820800400410010400000000c20000000800000800000960155400005400005545547ff3dffc00000004dffc00000011150145000005000005130005965965405140000140000144d248000049ffc00000011060000410410517ff0000000800000800000810430020800000800800000000020400410000000810000000400000400000520114400004400004500503c03cf41ffc000001038034d00000d00000d30001041001004140f00000f00000f00000f04004100104004100000200204104105040f24034030c00000000030030000000000c28024900000900000920104e04e04e04e1c71c02cb2cb0002cb00b04100a00004104104104104104100a280041040004000000001241040200001041041041041041040208001041000040000000001040000007180000006000006000006040041000000185000000140000140000143002080000080000081001040000
theorem Pnwl10 (V:XV) (a:Nat→Nat) (t:Nat→Tok) (e:Nat→Nat) (m:Nat→Int) (y:Array Value) (n i g:Nat) (hy:y.size ≤ 100):AllLt (fun k=>OkR V (Pnwl10_r V.w.params k a t e m y n i g)) 6 :=
  ⟨⟨⟨⟨⟨⟨trivial,
  okR_of (rules:=Pnwl10_l V.w.params 0 a t e m y n i g) (fuel:=782) (hs:=Ph9) (idx:=[23,24,3,4,5,9,7,10,8]) (kk:=26) (kg:=0) rfl rfl rfl (by intro A Q R G; kernel_rfl) (fun _ _ hb=>⟨Plen2_ok hb hy (by decide),Plen2_ok hb hy (by decide),Pstr9_ok hb hy (by decide),Pstr9_ok hb hy (by decide),app_ok hy,trivial⟩)⟩,
  okR_of (rules:=Pnwl10_l V.w.params 1 a t e m y n i g) (fuel:=782) (hs:=Ph9) (idx:=[23,24,3,4,5,9,7,10,8]) (kk:=26) (kg:=0) rfl rfl rfl (by intro A Q R G; kernel_rfl) (fun _ _ hb=>⟨Plen2_ok hb hy (by decide),Plen2_ok hb hy (by decide),Pstr9_ok hb hy (by decide),Pstr9_ok hb hy (by decide),app_ok hy,trivial⟩)⟩,
  okR_of (rules:=Pnwl10_l V.w.params 2 a t e m y n i g) (fuel:=782) (hs:=Ph9) (idx:=[23,24,3,4,5,9,7,10,8]) (kk:=26) (kg:=0) rfl rfl rfl (by intro A Q R G; kernel_rfl) (fun _ _ hb=>⟨Plen2_ok hb hy (by decide),Plen2_ok hb hy (by decide),Pstr9_ok hb hy (by decide),Pstr9_ok hb hy (by decide),app_ok hy,trivial⟩)⟩,
  okR_of (rules:=Pnwl10_l V.w.params 3 a t e m y n i g) (fuel:=782) (hs:=Ph9) (idx:=[23,24,3,4,5,9,7,10,8]) (kk:=26) (kg:=0) rfl rfl rfl (by intro A Q R G; kernel_rfl) (fun _ _ hb=>⟨Plen2_ok hb hy (by decide),Plen2_ok hb hy (by decide),Pstr9_ok hb hy (by decide),Pstr9_ok hb hy (by decide),app_ok hy,trivial⟩)⟩,
  okR_of (rules:=Pnwl10_l V.w.params 4 a t e m y n i g) (fuel:=782) (hs:=Ph9) (idx:=[23,24,3,4,5,9,7,10,8]) (kk:=26) (kg:=0) rfl rfl rfl (by intro A Q R G; kernel_rfl) (fun _ _ hb=>⟨Plen2_ok hb hy (by decide),Plen2_ok hb hy (by decide),Pstr9_ok hb hy (by decide),Pstr9_ok hb hy (by decide),app_ok hy,trivial⟩)⟩,
  okR_of (rules:=Pnwl10_l V.w.params 5 a t e m y n i g) (fuel:=782) (hs:=Ph9) (idx:=[23,24,3,4,5,9,7,10,8]) (kk:=26) (kg:=0) rfl rfl rfl (by intro A Q R G; kernel_rfl) (fun _ _ hb=>⟨Plen2_ok hb hy (by decide),Plen2_ok hb hy (by decide),Pstr9_ok hb hy (by decide),Pstr9_ok hb hy (by decide),app_ok hy,trivial⟩)⟩
theorem Pnwl10_ok {V:XV} {b:Nat} (B:Base V b) {k:Nat} {a:Nat→Nat} {t:Nat→Tok} {e:Nat→Nat} {m:Nat→Int} {y:Array Value} {n i g:Nat} (hy:y.size ≤ 100) (hk:k < 6):RlOk V (Pnwl10_r V.w.params k a t e m y n i g):=OkR.rl ((Pnwl10 V a t e m y n i g hy).get hk) B
noncomputable def Pchk11_s (k:Nat):List (Str):=lk [[⟨#[45,45,59]⟩,⟨#[45,59]⟩],[⟨#[45,59]⟩,⟨#[45,45,59]⟩],[⟨#[45,45,59]⟩,⟨#[45,45,59]⟩],[⟨#[59]⟩,⟨#[45,45,59]⟩],[⟨#[45,59]⟩,⟨#[45,45,59]⟩],[⟨#[45,45,59]⟩,⟨#[45,45,59]⟩],[⟨#[45,59]⟩,⟨#[45,59]⟩],[⟨#[45,45,59]⟩,⟨#[45,59]⟩],[⟨#[45,45,59]⟩,⟨#[59]⟩]] k
noncomputable def Pchk11_z (k:Nat):List (Int):=lk [[4],[4],[4],[3],[3],[3],[3],[3],[3]] k
noncomputable def Pchk11_u (k:Nat):List (List Nat):=lk [[[2],[3]],[[3],[2]],[[3],[3]],[[3],[1]],[[3],[2]],[[3],[3]],[[2],[2]],[[2],[3]],[[1],[3]]] k
noncomputable def Pchk11_k (k:Nat):List (Nat):=lk [[5,1],[7,2],[8,2],[6,2],[7,2],[8,2],[4,1],[5,1],[2,0]] k
noncomputable def Pchk11_pa (k:Nat) (a:Nat→Nat) (t:Nat→Tok) (e:Nat→Nat) (m:Nat→Int) (y:Array Value) (n i g:Nat):Nat→Nat:=(lk [(a 0),(a 1),(a 2),(a 3),(a 4),(n+2),(a 6),(a 7),(a 8),(a 9),(a 10),(a 11)])
noncomputable def Pchk11_pt (k:Nat) (a:Nat→Nat) (t:Nat→Tok) (e:Nat→Nat) (m:Nat→Int) (y:Array Value) (n i g:Nat):Nat→Tok:=(lk [(t 0),(t 1),(t 2),(t 3),(t 4),(t 5),(t 6),(t 7),(t 8),(t 9),(t 10),(i+73),(t 22),(t 23),(t 14),(t 15),(t 16),(t 17),(t 18),(t 19),(t 20),(t 21)])
noncomputable def Pchk11_pe (k:Nat) (a:Nat→Nat) (t:Nat→Tok) (e:Nat→Nat) (m:Nat→Int) (y:Array Value) (n i g:Nat):Nat→Nat:=(lk [(e 0),(e 1+1),(e 2+2),(e 3)])
noncomputable def Pchk11_pm (k:Nat) (a:Nat→Nat) (t:Nat→Tok) (e:Nat→Nat) (m:Nat→Int) (y:Array Value) (n i g:Nat):Nat→Int:=(lk [(m 0),(m 1)])
noncomputable def Pchk11_py (k:Nat) (a:Nat→Nat) (t:Nat→Tok) (e:Nat→Nat) (m:Nat→Int) (y:Array Value) (n i g:Nat):Array Value:=(y.push (.str (lk (Pchk11_s k) 1) (i+69)))
noncomputable def Pchk11_r (p:Params) (k:Nat) (a:Nat→Nat) (t:Nat→Tok) (e:Nat→Nat) (m:Nat→Int) (y:Array Value) (n i g:Nat):Rl :=
  ⟨.call (.ref 157) ⟨[(.ref (a 0+305)),(.str ⟨#[]⟩ (t 22)),(.str (lk (Pchk11_s k) 0) (t 23))],[]⟩,
   fs (lk (Pchk11_z k) 0) (lk (Pchk11_u k) 0) true true p a t e m y,n+305,i,g,.none,
   fs (lk (Pchk11_z k) 0) (lk (Pchk11_u k) 1) true true p (Pchk11_pa k a t e m y n i g) (Pchk11_pt k a t e m y n i g) (Pchk11_pe k a t e m y n i g) (Pchk11_pm k a t e m y n i g) (Pchk11_py k a t e m y n i g),n+305+44,i+76,g+2,300,false⟩
noncomputable def Pchk11_l (p:Params) (k:Nat) (a:Nat→Nat) (t:Nat→Tok) (e:Nat→Nat) (m:Nat→Int) (y:Array Value) (n i g:Nat):List Rl:=[Plen4_r p (lk (Pchk11_k k) 0) (lk [(a 3),(a 4),(a 5),(n+2),(a 6),(a 8),(a 9)]) (lk [(t 10),(t 11),(t 12),(t 13),(t 22),(t 23),(t 14),(t 15),(t 16),(t 17)]) (lk [(e 2+1),(e 3)]) (lk [(m 0)]) y (n+3) (i+8) (g+0),
  Pstr9_r p (lk (Pchk11_k k) 1) (lk [(a 3),(a 4),(a 5),(a 7),(a 10),(a 11)]) (lk [(t 10),(t 11),(t 12),(t 13),(t 18),(t 19),(t 20),(t 21)]) (lk [(e 2+2),(e 3)]) (lk [(m 1)]) y (n+29) (i+63) (g+1),
  app_r (a 2+305) y (e 1) (.str (lk (Pchk11_s k) 1) (i+69)) (n+42) (i+70) (g+2)]
noncomputable def Ph10:List Nat:=unp 502 0x51450001000001001001000001021041042cb0410410401000001001010410010400410000000160c20000000800000800000980175c00005c00005d65d27ff3dffd34cb2cb45ffc000000c1150145000005000005130005965965405140000140000144d34c014c30c30208104104100c00000c00c1040c30090410410402400002402400002410400410010400000003881c00000070000070000074003cf00000f00000f38138e38e38024924924700700000700700000739000f3c00003c00003ce38e3800410410410410410410410410410410450410040000410410410410410410041000410400010000000000410000000c200000008000008000008b00a28000028000028900024900104104104104a00924000024000024804a00924000024000024818500618641ffc00000071401040000040000040c00071c70070411c6000006000006000006040041001040041000000041185000000140000140000143002080000080000081001040041001040000
theorem Pchk11 (V:XV) (a:Nat→Nat) (t:Nat→Tok) (e:Nat→Nat) (m:Nat→Int) (y:Array Value) (n i g:Nat) (hy:y.size ≤ 100):AllLt (fun k=>OkR V (Pchk11_r V.w.params k a t e m y n i g)) 9 :=
  ⟨⟨⟨⟨⟨⟨⟨⟨⟨trivial,
  okR_of (rules:=Pchk11_l V.w.params 0 a t e m y n i g) (fuel:=860) (hs:=Ph10) (idx:=[24,25,2,3,4,19,20,6,21,7]) (kk:=26) (kg:=0) rfl rfl rfl (by intro A Q R G; kernel_rfl) (fun _ _ hb=>⟨Plen4_ok hb hy (by decide),Pstr9_ok hb hy (by decide),app_ok hy,trivial⟩)⟩,
  okR_of (rules:=Pchk11_l V.w.params 1 a t e m y n i g) (fuel:=860) (hs:=Ph10) (idx:=[24,25,2,3,4,19,20,6,21,7]) (kk:=26) (kg:=0) rfl rfl rfl (by intro A Q R G; kernel_rfl) (fun _ _ hb=>⟨Plen4_ok hb hy (by decide),Pstr9_ok hb hy (by decide),app_ok hy,trivial⟩)⟩,
  okR_of (rules:=Pchk11_l V.w.params 2 a t e m y n i g) (fuel:=860) (hs:=Ph10) (idx:=[24,25,2,3,4,19,20,6,21,7]) (kk:=26) (kg:=0) rfl rfl rfl (by intro A Q R G; kernel_rfl) (fun _ _ hb=>⟨Plen4_ok hb hy (by decide),Pstr9_ok hb hy (by decide),app_ok hy,trivial⟩)⟩,
  okR_of (rules:=Pchk11_l V.w.params 3 a t e m y n i g) (fuel:=860) (hs:=Ph10) (idx:=[24,25,2,3,4,19,20,6,21,7]) (kk:=26) (kg:=0) rfl rfl rfl (by intro A Q R G; kernel_rfl) (fun _ _ hb=>⟨Plen4_ok hb hy (by decide),Pstr9_ok hb hy (by decide),app_ok hy,trivial⟩)⟩,
  okR_of (rules:=Pchk11_l V.w.params 4 a t e m y n i g) (fuel:=860) (hs:=Ph10) (idx:=[24,25,2,3,4,19,20,6,21,7]) (kk:=26) (kg:=0) rfl rfl rfl (by intro A Q R G; kernel_rfl) (fun _ _ hb=>⟨Plen4_ok hb hy (by decide),Pstr9_ok hb hy (by decide),app_ok hy,trivial⟩)⟩,
  okR_of (rules:=Pchk11_l V.w.params 5 a t e m y n i g) (fuel:=860) (hs:=Ph10) (idx:=[24,25,2,3,4,19,20,6,21,7]) (kk:=26) (kg:=0) rfl rfl rfl (by intro A Q R G; kernel_rfl) (fun _ _ hb=>⟨Plen4_ok hb hy (by decide),Pstr9_ok hb hy (by decide),app_ok hy,trivial⟩)⟩,
  okR_of (rules:=Pchk11_l V.w.params 6 a t e m y n i g) (fuel:=860) (hs:=Ph10) (idx:=[24,25,2,3,4,19,20,6,21,7]) (kk:=26) (kg:=0) rfl rfl rfl (by intro A Q R G; kernel_rfl) (fun _ _ hb=>⟨Plen4_ok hb hy (by decide),Pstr9_ok hb hy (by decide),app_ok hy,trivial⟩)⟩,
  okR_of (rules:=Pchk11_l V.w.params 7 a t e m y n i g) (fuel:=860) (hs:=Ph10) (idx:=[24,25,2,3,4,19,20,6,21,7]) (kk:=26) (kg:=0) rfl rfl rfl (by intro A Q R G; kernel_rfl) (fun _ _ hb=>⟨Plen4_ok hb hy (by decide),Pstr9_ok hb hy (by decide),app_ok hy,trivial⟩)⟩,
  okR_of (rules:=Pchk11_l V.w.params 8 a t e m y n i g) (fuel:=860) (hs:=Ph10) (idx:=[24,25,2,3,4,19,20,6,21,7]) (kk:=26) (kg:=0) rfl rfl rfl (by intro A Q R G; kernel_rfl) (fun _ _ hb=>⟨Plen4_ok hb hy (by decide),Pstr9_ok hb hy (by decide),app_ok hy,trivial⟩)⟩
theorem Pchk11_ok {V:XV} {b:Nat} (B:Base V b) {k:Nat} {a:Nat→Nat} {t:Nat→Tok} {e:Nat→Nat} {m:Nat→Int} {y:Array Value} {n i g:Nat} (hy:y.size ≤ 100) (hk:k < 9):RlOk V (Pchk11_r V.w.params k a t e m y n i g):=OkR.rl ((Pchk11 V a t e m y n i g hy).get hk) B
noncomputable def Plen12_s (k:Nat):List (Str):=lk [[⟨#[59]⟩,⟨#[59]⟩,⟨#[59]⟩],[⟨#[59]⟩,⟨#[59]⟩,⟨#[45,59]⟩],[⟨#[59]⟩,⟨#[59]⟩,⟨#[45,45,59]⟩],[⟨#[59]⟩,⟨#[45,59]⟩,⟨#[59]⟩],[⟨#[59]⟩,⟨#[45,59]⟩,⟨#[45,59]⟩],[⟨#[59]⟩,⟨#[45,59]⟩,⟨#[45,45,59]⟩],[⟨#[45,59]⟩,⟨#[59]⟩,⟨#[59]⟩],[⟨#[45,59]⟩,⟨#[59]⟩,⟨#[45,59]⟩],[⟨#[45,59]⟩,⟨#[59]⟩,⟨#[45,45,59]⟩],[⟨#[59]⟩,⟨#[45,45,59]⟩,⟨#[59]⟩],[⟨#[59]⟩,⟨#[45,45,59]⟩,⟨#[45,59]⟩],[⟨#[59]⟩,⟨#[45,45,59]⟩,⟨#[45,45,59]⟩],[⟨#[45,59]⟩,⟨#[45,59]⟩,⟨#[59]⟩],[⟨#[45,59]⟩,⟨#[45,59]⟩,⟨#[45,59]⟩],[⟨#[45,59]⟩,⟨#[45,59]⟩,⟨#[45,45,59]⟩],[⟨#[45,45,59]⟩,⟨#[59]⟩,⟨#[59]⟩],[⟨#[45,45,59]⟩,⟨#[59]⟩,⟨#[45,59]⟩],[⟨#[45,45,59]⟩,⟨#[59]⟩,⟨#[45,45,59]⟩]] k
noncomputable def Plen12_z (k:Nat):List (Int):=lk [[3],[4],[5],[4],[5],[6],[4],[5],[6],[5],[6],[7],[5],[6],[7],[5],[6],[7]] k
noncomputable def Plen12_r (p:Params) (k:Nat) (a:Nat→Nat) (t:Nat→Tok) (e:Nat→Nat) (m:Nat→Int) (y:Array Value) (n i g:Nat):Rl :=
  ⟨.call (.ref 211) ⟨[(.ref (a 0+305))],[]⟩,
   [((a 0+305),⟨(.ref 244),some (a 1+305),.seq #[(.ref (a 2+305)),(.ref (a 3+305)),(.ref (a 4+305))] (e 0),#[]⟩),((a 1+305),⟨(.type "dict"),none,.dict #[⟨(PyData.keyHash p Pq0),(.str Pq0 (t 0)),(.int 0 (t 1))⟩] (e 1),#[]⟩),((a 2+305),⟨(.type "tuple"),none,.seq #[(.str ⟨#[]⟩ (t 2)),(.str (lk (Plen12_s k) 0) (t 3))] 0,#[]⟩),((a 3+305),⟨(.type "tuple"),none,.seq #[(.str ⟨#[]⟩ (t 4)),(.str (lk (Plen12_s k) 1) (t 5))] 0,#[]⟩),((a 4+305),⟨(.type "tuple"),none,.seq #[(.str ⟨#[]⟩ (t 6)),(.str (lk (Plen12_s k) 2) (t 7))] 0,#[]⟩),(206,⟨.none,none,.fields #[(.int 137 0),(.int 19 0),(.ref (a 5+305))],#[]⟩),((a 5+305),⟨(.type "code"),none,.fields #[(.str Pq1 (t 8)),(.str Pq2 (t 9)),(.str Pq3 (t 10)),(.int 137 0),(.int 1 0),(.int 0 0),(.int 0 0),(.int 51 0),(.ref (a 6+305)),(.bool true),(.int 181 0),(.ref (a 7+305)),.none,.none,.none,.none,(.int (m 0) 0),(.int 137 0),(.str Pq3 (t 11))],#[]⟩)],n+305,i,g,(.int (lk (Plen12_z k) 0) (i+29)),
   [((a 0+305),⟨(.ref 244),some (a 1+305),.seq #[(.ref (a 2+305)),(.ref (a 3+305)),(.ref (a 4+305))] (e 0),#[]⟩),((a 1+305),⟨(.type "dict"),none,.dict #[⟨(PyData.keyHash p Pq0),(.str Pq0 (t 0)),(.int 0 (t 1))⟩] (e 1),#[]⟩),((a 2+305),⟨(.type "tuple"),none,.seq #[(.str ⟨#[]⟩ (t 2)),(.str (lk (Plen12_s k) 0) (t 3))] 0,#[]⟩),((a 3+305),⟨(.type "tuple"),none,.seq #[(.str ⟨#[]⟩ (t 4)),(.str (lk (Plen12_s k) 1) (t 5))] 0,#[]⟩),((a 4+305),⟨(.type "tuple"),none,.seq #[(.str ⟨#[]⟩ (t 6)),(.str (lk (Plen12_s k) 2) (t 7))] 0,#[]⟩),(206,⟨.none,none,.fields #[(.int 137 0),(.int 19 0),(.ref (a 5+305))],#[]⟩),((a 5+305),⟨(.type "code"),none,.fields #[(.str Pq1 (t 8)),(.str Pq2 (t 9)),(.str Pq3 (t 10)),(.int 137 0),(.int 1 0),(.int 0 0),(.int 0 0),(.int 51 0),(.ref (a 6+305)),(.bool true),(.int 181 0),(.ref (a 7+305)),.none,.none,.none,.none,(.int (m 0) 0),(.int 137 0),(.str Pq3 (t 11))],#[]⟩)],n+305+18,i+30,g+1,250,false⟩
noncomputable def Ph11:List Nat:=unp 253 0x4004d34f34d34d00100b2cb28a28a00c00030000c30030c00104144104104105104104104144104104140141040a28a30a28a2800402082071c71c024000900024900924004104d04104104134104104104d04104104c04c30c1c71c91c71c7001005145104104006000180006180186001041241041041049041041041241041041201208204104184104104101104300040082081041041046005140000140140000000005101040000200001002040000080000081000001040000
theorem Plen12 (V:XV) (a:Nat→Nat) (t:Nat→Tok) (e:Nat→Nat) (m:Nat→Int) (y:Array Value) (n i g:Nat) (hy:y.size ≤ 100):AllLt (fun k=>OkR V (Plen12_r V.w.params k a t e m y n i g)) 18 :=
  ⟨⟨⟨⟨⟨⟨⟨⟨⟨⟨⟨⟨⟨⟨⟨⟨⟨⟨trivial,
  okR_of (rules:=[]) (fuel:=523) (hs:=Ph11) (idx:=[18,19,20,21,22,23,24]) (kk:=25) (kg:=1) rfl rfl rfl (by intro A Q R G; kernel_rfl) (fun _ _ hb=>trivial)⟩,
  okR_of (rules:=[]) (fuel:=523) (hs:=Ph11) (idx:=[18,19,20,21,22,23,24]) (kk:=25) (kg:=1) rfl rfl rfl (by intro A Q R G; kernel_rfl) (fun _ _ hb=>trivial)⟩,
  okR_of (rules:=[]) (fuel:=523) (hs:=Ph11) (idx:=[18,19,20,21,22,23,24]) (kk:=25) (kg:=1) rfl rfl rfl (by intro A Q R G; kernel_rfl) (fun _ _ hb=>trivial)⟩,
  okR_of (rules:=[]) (fuel:=523) (hs:=Ph11) (idx:=[18,19,20,21,22,23,24]) (kk:=25) (kg:=1) rfl rfl rfl (by intro A Q R G; kernel_rfl) (fun _ _ hb=>trivial)⟩,
  okR_of (rules:=[]) (fuel:=523) (hs:=Ph11) (idx:=[18,19,20,21,22,23,24]) (kk:=25) (kg:=1) rfl rfl rfl (by intro A Q R G; kernel_rfl) (fun _ _ hb=>trivial)⟩,
  okR_of (rules:=[]) (fuel:=523) (hs:=Ph11) (idx:=[18,19,20,21,22,23,24]) (kk:=25) (kg:=1) rfl rfl rfl (by intro A Q R G; kernel_rfl) (fun _ _ hb=>trivial)⟩,
  okR_of (rules:=[]) (fuel:=523) (hs:=Ph11) (idx:=[18,19,20,21,22,23,24]) (kk:=25) (kg:=1) rfl rfl rfl (by intro A Q R G; kernel_rfl) (fun _ _ hb=>trivial)⟩,
  okR_of (rules:=[]) (fuel:=523) (hs:=Ph11) (idx:=[18,19,20,21,22,23,24]) (kk:=25) (kg:=1) rfl rfl rfl (by intro A Q R G; kernel_rfl) (fun _ _ hb=>trivial)⟩,
  okR_of (rules:=[]) (fuel:=523) (hs:=Ph11) (idx:=[18,19,20,21,22,23,24]) (kk:=25) (kg:=1) rfl rfl rfl (by intro A Q R G; kernel_rfl) (fun _ _ hb=>trivial)⟩,
  okR_of (rules:=[]) (fuel:=523) (hs:=Ph11) (idx:=[18,19,20,21,22,23,24]) (kk:=25) (kg:=1) rfl rfl rfl (by intro A Q R G; kernel_rfl) (fun _ _ hb=>trivial)⟩,
  okR_of (rules:=[]) (fuel:=523) (hs:=Ph11) (idx:=[18,19,20,21,22,23,24]) (kk:=25) (kg:=1) rfl rfl rfl (by intro A Q R G; kernel_rfl) (fun _ _ hb=>trivial)⟩,
  okR_of (rules:=[]) (fuel:=523) (hs:=Ph11) (idx:=[18,19,20,21,22,23,24]) (kk:=25) (kg:=1) rfl rfl rfl (by intro A Q R G; kernel_rfl) (fun _ _ hb=>trivial)⟩,
  okR_of (rules:=[]) (fuel:=523) (hs:=Ph11) (idx:=[18,19,20,21,22,23,24]) (kk:=25) (kg:=1) rfl rfl rfl (by intro A Q R G; kernel_rfl) (fun _ _ hb=>trivial)⟩,
  okR_of (rules:=[]) (fuel:=523) (hs:=Ph11) (idx:=[18,19,20,21,22,23,24]) (kk:=25) (kg:=1) rfl rfl rfl (by intro A Q R G; kernel_rfl) (fun _ _ hb=>trivial)⟩,
  okR_of (rules:=[]) (fuel:=523) (hs:=Ph11) (idx:=[18,19,20,21,22,23,24]) (kk:=25) (kg:=1) rfl rfl rfl (by intro A Q R G; kernel_rfl) (fun _ _ hb=>trivial)⟩,
  okR_of (rules:=[]) (fuel:=523) (hs:=Ph11) (idx:=[18,19,20,21,22,23,24]) (kk:=25) (kg:=1) rfl rfl rfl (by intro A Q R G; kernel_rfl) (fun _ _ hb=>trivial)⟩,
  okR_of (rules:=[]) (fuel:=523) (hs:=Ph11) (idx:=[18,19,20,21,22,23,24]) (kk:=25) (kg:=1) rfl rfl rfl (by intro A Q R G; kernel_rfl) (fun _ _ hb=>trivial)⟩,
  okR_of (rules:=[]) (fuel:=523) (hs:=Ph11) (idx:=[18,19,20,21,22,23,24]) (kk:=25) (kg:=1) rfl rfl rfl (by intro A Q R G; kernel_rfl) (fun _ _ hb=>trivial)⟩
theorem Plen12_ok {V:XV} {b:Nat} (B:Base V b) {k:Nat} {a:Nat→Nat} {t:Nat→Tok} {e:Nat→Nat} {m:Nat→Int} {y:Array Value} {n i g:Nat} (hy:y.size ≤ 100) (hk:k < 18):RlOk V (Plen12_r V.w.params k a t e m y n i g):=OkR.rl ((Plen12 V a t e m y n i g hy).get hk) B
noncomputable def Pchk13_pa (k:Nat) (a:Nat→Nat) (t:Nat→Tok) (e:Nat→Nat) (m:Nat→Int) (y:Array Value) (n i g:Nat):Nat→Nat:=(lk [(a 0),(a 1),(a 2),(a 3),(a 4),(a 5),(a 6),(n+2),(a 7),(a 8),(a 9)])
noncomputable def Pchk13_pt (k:Nat) (a:Nat→Nat) (t:Nat→Tok) (e:Nat→Nat) (m:Nat→Int) (y:Array Value) (n i g:Nat):Nat→Tok:=(lk [(t 0),(t 1),(t 2),(t 3),(t 4),(t 5),(t 6),(t 7),(t 8),(t 9),(t 10),(t 11),(t 12),(t 13),(t 14),(t 15),(t 20),(t 21),(t 16),(t 17),(t 18),(t 19)])
noncomputable def Pchk13_pe (k:Nat) (a:Nat→Nat) (t:Nat→Tok) (e:Nat→Nat) (m:Nat→Int) (y:Array Value) (n i g:Nat):Nat→Nat:=(lk [(e 0),(e 1),(e 2+1),(e 3)])
noncomputable def Pchk13_pm (k:Nat) (a:Nat→Nat) (t:Nat→Tok) (e:Nat→Nat) (m:Nat→Int) (y:Array Value) (n i g:Nat):Nat→Int:=(lk [(m 0)])
noncomputable def Pchk13_py (k:Nat) (a:Nat→Nat) (t:Nat→Tok) (e:Nat→Nat) (m:Nat→Int) (y:Array Value) (n i g:Nat):Array Value:=y
noncomputable def Pchk13_r (p:Params) (k:Nat) (a:Nat→Nat) (t:Nat→Tok) (e:Nat→Nat) (m:Nat→Int) (y:Array Value) (n i g:Nat):Rl :=
  ⟨.call (.ref 157) ⟨[(.ref (a 0+305)),(.str ⟨#[]⟩ (t 20)),(.str ⟨#[59]⟩ (t 21))],[]⟩,
   fs 3 [1,1] true false p a t e m y,n+305,i,g,.none,
   fs 3 [1,1,1] true false p (Pchk13_pa k a t e m y n i g) (Pchk13_pt k a t e m y n i g) (Pchk13_pe k a t e m y n i g) (Pchk13_pm k a t e m y n i g) (Pchk13_py k a t e m y n i g),n+305+21,i+40,g+1,300,false⟩
noncomputable def Pchk13_l (p:Params) (k:Nat) (a:Nat→Nat) (t:Nat→Tok) (e:Nat→Nat) (m:Nat→Int) (y:Array Value) (n i g:Nat):List Rl:=[Plen12_r p 0 (lk [(a 3),(a 4),(a 5),(a 6),(n+2),(a 7),(a 8),(a 9)]) (lk [(t 10),(t 11),(t 12),(t 13),(t 14),(t 15),(t 20),(t 21),(t 16),(t 17),(t 18),(t 19)]) (lk [(e 2+1),(e 3)]) (lk [(m 0)]) y (n+3) (i+8) (g+0)]
noncomputable def Ph12:List Nat:=unp 122 0x12c028a00000a00000a24614018618641ffc00000071401040000040000040c00071c70070411c6000006000006000006040041001040041000000041185000000140000140000143002080000080000081001040041001040000
theorem Pchk13 (V:XV) (a:Nat→Nat) (t:Nat→Tok) (e:Nat→Nat) (m:Nat→Int) (y:Array Value) (n i g:Nat) (hy:y.size ≤ 100):AllLt (fun k=>OkR V (Pchk13_r V.w.params k a t e m y n i g)) 1 :=
  ⟨trivial,
  okR_of (rules:=Pchk13_l V.w.params 0 a t e m y n i g) (fuel:=187) (hs:=Ph12) (idx:=[9,10,11,0,1,2,3,4,5,12,6]) (kk:=13) (kg:=0) rfl rfl rfl (by intro A Q R G; kernel_rfl) (fun _ _ hb=>⟨Plen12_ok hb hy (by decide),trivial⟩)⟩
theorem Pchk13_ok {V:XV} {b:Nat} (B:Base V b) {k:Nat} {a:Nat→Nat} {t:Nat→Tok} {e:Nat→Nat} {m:Nat→Int} {y:Array Value} {n i g:Nat} (hy:y.size ≤ 100) (hk:k < 1):RlOk V (Pchk13_r V.w.params k a t e m y n i g):=OkR.rl ((Pchk13 V a t e m y n i g hy).get hk) B
noncomputable def Pstr14_s (k:Nat):List (Str):=lk [[⟨#[59]⟩,⟨#[59]⟩,⟨#[59,59]⟩],[⟨#[59]⟩,⟨#[45,59]⟩,⟨#[59,45,59]⟩],[⟨#[45,59]⟩,⟨#[59]⟩,⟨#[45,59,59]⟩]] k
noncomputable def Pstr14_r (p:Params) (k:Nat) (a:Nat→Nat) (t:Nat→Tok) (e:Nat→Nat) (m:Nat→Int) (y:Array Value) (n i g:Nat):Rl :=
  ⟨.call (.ref 218) ⟨[(.ref (a 0+305))],[]⟩,
   [((a 0+305),⟨(.ref 244),some (a 1+305),.seq #[(.ref (a 2+305)),(.ref (a 3+305))] (e 0),#[]⟩),((a 1+305),⟨(.type "dict"),none,.dict #[⟨(PyData.keyHash p Pq0),(.str Pq0 (t 0)),(.int 0 (t 1))⟩] (e 1),#[]⟩),((a 2+305),⟨(.type "tuple"),none,.seq #[(.str ⟨#[]⟩ (t 2)),(.str (lk (Pstr14_s k) 0) (t 3))] 0,#[]⟩),((a 3+305),⟨(.type "tuple"),none,.seq #[(.str ⟨#[]⟩ (t 4)),(.str (lk (Pstr14_s k) 1) (t 5))] 0,#[]⟩),(213,⟨.none,none,.fields #[],#[]⟩)],n+305,i,g,(.str (lk (Pstr14_s k) 2) (i+15)),
   [((a 0+305),⟨(.ref 244),some (a 1+305),.seq #[(.ref (a 2+305)),(.ref (a 3+305))] (e 0),#[]⟩),((a 1+305),⟨(.type "dict"),none,.dict #[⟨(PyData.keyHash p Pq0),(.str Pq0 (t 0)),(.int 0 (t 1))⟩] (e 1),#[]⟩),((a 2+305),⟨(.type "tuple"),none,.seq #[(.str ⟨#[]⟩ (t 2)),(.str (lk (Pstr14_s k) 0) (t 3))] 0,#[]⟩),((a 3+305),⟨(.type "tuple"),none,.seq #[(.str ⟨#[]⟩ (t 4)),(.str (lk (Pstr14_s k) 1) (t 5))] 0,#[]⟩),(213,⟨.none,none,.fields #[(.int 140 0),(.int 32 0),(.ref (n+305+4))],#[]⟩),((n+305+4),⟨(.type "code"),none,.fields #[(.str Pq1 (i+1)),(.str Pq4 (i+2)),(.str Pq3 (i+3)),(.int 140 0),(.int 1 0),(.int 0 0),(.int 0 0),(.int 51 0),(.ref (n+305+2)),(.bool true),(.int 181 0),(.ref (n+305+3)),.none,.none,.none,.none,(.int (Int.ofNat (i+4)) 0),(.int 140 0),(.str Pq3 (i+5))],#[]⟩)],n+305+20,i+16,g+1,250,false⟩
noncomputable def Ph13:List Nat:=unp 190 0xd04004f3d13cf3cf00100a28a24924004128a00a28028a00104144104104105104104104144104104140141040b2cb34b2cb2c004018618514500104618018600618004104c04104104130104104104c04104104b04b2cb1c71c91c71c71c70471cc00100208204104104108208204208108104104104104000028a287000040081000002000002040001040000
theorem Pstr14 (V:XV) (a:Nat→Nat) (t:Nat→Tok) (e:Nat→Nat) (m:Nat→Int) (y:Array Value) (n i g:Nat) (hy:y.size ≤ 100):AllLt (fun k=>OkR V (Pstr14_r V.w.params k a t e m y n i g)) 3 :=
  ⟨⟨⟨trivial,
  okR_of (rules:=[]) (fuel:=363) (hs:=Ph13) (idx:=[20,21,22,23,24,15]) (kk:=25) (kg:=1) rfl rfl rfl (by intro A Q R G; kernel_rfl) (fun _ _ hb=>trivial)⟩,
  okR_of (rules:=[]) (fuel:=363) (hs:=Ph13) (idx:=[20,21,22,23,24,15]) (kk:=25) (kg:=1) rfl rfl rfl (by intro A Q R G; kernel_rfl) (fun _ _ hb=>trivial)⟩,
  okR_of (rules:=[]) (fuel:=363) (hs:=Ph13) (idx:=[20,21,22,23,24,15]) (kk:=25) (kg:=1) rfl rfl rfl (by intro A Q R G; kernel_rfl) (fun _ _ hb=>trivial)⟩
theorem Pstr14_ok {V:XV} {b:Nat} (B:Base V b) {k:Nat} {a:Nat→Nat} {t:Nat→Tok} {e:Nat→Nat} {m:Nat→Int} {y:Array Value} {n i g:Nat} (hy:y.size ≤ 100) (hk:k < 3):RlOk V (Pstr14_r V.w.params k a t e m y n i g):=OkR.rl ((Pstr14 V a t e m y n i g hy).get hk) B
noncomputable def Pchk15_s (k:Nat):List (Str):=lk [[⟨#[45,59]⟩,⟨#[59,59]⟩],[⟨#[45,45,59]⟩,⟨#[59,59]⟩],[⟨#[59]⟩,⟨#[59,45,59]⟩],[⟨#[45,59]⟩,⟨#[59,45,59]⟩],[⟨#[45,45,59]⟩,⟨#[59,45,59]⟩],[⟨#[59]⟩,⟨#[45,59,59]⟩],[⟨#[45,59]⟩,⟨#[45,59,59]⟩],[⟨#[45,45,59]⟩,⟨#[45,59,59]⟩]] k
noncomputable def Pchk15_u (k:Nat):List (List Nat):=lk [[[1,1],[2]],[[1,1],[3]],[[1,2],[1]],[[1,2],[2]],[[1,2],[3]],[[2,1],[1]],[[2,1],[2]],[[2,1],[3]]] k
noncomputable def Pchk15_k (k:Nat):List (Nat):=lk [[1,0],[2,0],[3,1],[4,1],[5,1],[6,2],[7,2],[8,2]] k
noncomputable def Pchk15_pa (k:Nat) (a:Nat→Nat) (t:Nat→Tok) (e:Nat→Nat) (m:Nat→Int) (y:Array Value) (n i g:Nat):Nat→Nat:=(lk [(a 0),(a 1),(a 2),(a 3),(a 4),(n+2),(a 7),(n+36),(a 8),(a 9),(n+34),(n+35)])
noncomputable def Pchk15_pt (k:Nat) (a:Nat→Nat) (t:Nat→Tok) (e:Nat→Nat) (m:Nat→Int) (y:Array Value) (n i g:Nat):Nat→Tok:=(lk [(t 0),(t 1),(t 2),(t 3),(t 4),(t 5),(t 6),(t 7),(t 8),(t 9),(t 10),(i+90),(t 20),(t 21),(t 16),(t 17),(t 18),(t 19),(i+72),(i+73),(i+74),(i+76)])
noncomputable def Pchk15_pe (k:Nat) (a:Nat→Nat) (t:Nat→Tok) (e:Nat→Nat) (m:Nat→Int) (y:Array Value) (n i g:Nat):Nat→Nat:=(lk [(e 0),(e 1+1),(e 2+3),(e 3)])
noncomputable def Pchk15_pm (k:Nat) (a:Nat→Nat) (t:Nat→Tok) (e:Nat→Nat) (m:Nat→Int) (y:Array Value) (n i g:Nat):Nat→Int:=(lk [(m 0),(Int.ofNat (i+75))])
noncomputable def Pchk15_py (k:Nat) (a:Nat→Nat) (t:Nat→Tok) (e:Nat→Nat) (m:Nat→Int) (y:Array Value) (n i g:Nat):Array Value:=(y.push (.str (lk (Pchk15_s k) 1) (i+86)))
noncomputable def Pchk15_r (p:Params) (k:Nat) (a:Nat→Nat) (t:Nat→Tok) (e:Nat→Nat) (m:Nat→Int) (y:Array Value) (n i g:Nat):Rl :=
  ⟨.call (.ref 157) ⟨[(.ref (a 0+305)),(.str ⟨#[]⟩ (t 20)),(.str (lk (Pchk15_s k) 0) (t 21))],[]⟩,
   fs 3 (lk (Pchk15_u k) 0) true false p a t e m y,n+305,i,g,.none,
   fs 3 (lk (Pchk15_u k) 1) true true p (Pchk15_pa k a t e m y n i g) (Pchk15_pt k a t e m y n i g) (Pchk15_pe k a t e m y n i g) (Pchk15_pm k a t e m y n i g) (Pchk15_py k a t e m y n i g),n+305+54,i+93,g+2,300,false⟩
noncomputable def Pchk15_l (p:Params) (k:Nat) (a:Nat→Nat) (t:Nat→Tok) (e:Nat→Nat) (m:Nat→Int) (y:Array Value) (n i g:Nat):List Rl:=[Plen12_r p (lk (Pchk15_k k) 0) (lk [(a 3),(a 4),(a 5),(a 6),(n+2),(a 7),(a 8),(a 9)]) (lk [(t 10),(t 11),(t 12),(t 13),(t 14),(t 15),(t 20),(t 21),(t 16),(t 17),(t 18),(t 19)]) (lk [(e 2+1),(e 3)]) (lk [(m 0)]) y (n+3) (i+8) (g+0),
  Pstr14_r p (lk (Pchk15_k k) 1) (lk [(a 3),(a 4),(a 5),(a 6)]) (lk [(t 10),(t 11),(t 12),(t 13),(t 14),(t 15)]) (lk [(e 2+2),(e 3)]) (fun _=>default) y (n+32) (i+71) (g+1),
  app_r (a 2+305) y (e 1) (.str (lk (Pchk15_s k) 1) (i+86)) (n+52) (i+87) (g+2)]
noncomputable def Ph14:List Nat:=unp 503 0x14514000400000400400400000408410410c3010410410040000040040410400410010400000005c30800000020000020000026406180000180000185d849ffcf7ff4cb2cb2d17ff0000003045805550000150000155000175d75d601554000054000055451400530c30c0820410410403000003003041030c024104104100900000900900000904100104004100000000f2070000001c00001c00001d101040000040000040f04f3cf3cf00a28a28a1c01c00001c01c00001cf4404100000100000103cf3cf0010410410410410410410410410410411410401000010410410410410410401040010410000400000000010400000030800000020000020000023002cb00000b00000b28000a2800410410410412c028a00000a00000a2412c028a00000a00000a24614018618641ffc00000071401040000040000040c00071c70070411c6000006000006000006040041001040041000000041185000000140000140000143002080000080000081001040041001040000
theorem Pchk15 (V:XV) (a:Nat→Nat) (t:Nat→Tok) (e:Nat→Nat) (m:Nat→Int) (y:Array Value) (n i g:Nat) (hy:y.size ≤ 100):AllLt (fun k=>OkR V (Pchk15_r V.w.params k a t e m y n i g)) 8 :=
  ⟨⟨⟨⟨⟨⟨⟨⟨trivial,
  okR_of (rules:=Pchk15_l V.w.params 0 a t e m y n i g) (fuel:=861) (hs:=Ph14) (idx:=[25,26,2,3,4,20,21,7,22,8]) (kk:=27) (kg:=0) rfl rfl rfl (by intro A Q R G; kernel_rfl) (fun _ _ hb=>⟨Plen12_ok hb hy (by decide),Pstr14_ok hb hy (by decide),app_ok hy,trivial⟩)⟩,
  okR_of (rules:=Pchk15_l V.w.params 1 a t e m y n i g) (fuel:=861) (hs:=Ph14) (idx:=[25,26,2,3,4,20,21,7,22,8]) (kk:=27) (kg:=0) rfl rfl rfl (by intro A Q R G; kernel_rfl) (fun _ _ hb=>⟨Plen12_ok hb hy (by decide),Pstr14_ok hb hy (by decide),app_ok hy,trivial⟩)⟩,
  okR_of (rules:=Pchk15_l V.w.params 2 a t e m y n i g) (fuel:=861) (hs:=Ph14) (idx:=[25,26,2,3,4,20,21,7,22,8]) (kk:=27) (kg:=0) rfl rfl rfl (by intro A Q R G; kernel_rfl) (fun _ _ hb=>⟨Plen12_ok hb hy (by decide),Pstr14_ok hb hy (by decide),app_ok hy,trivial⟩)⟩,
  okR_of (rules:=Pchk15_l V.w.params 3 a t e m y n i g) (fuel:=861) (hs:=Ph14) (idx:=[25,26,2,3,4,20,21,7,22,8]) (kk:=27) (kg:=0) rfl rfl rfl (by intro A Q R G; kernel_rfl) (fun _ _ hb=>⟨Plen12_ok hb hy (by decide),Pstr14_ok hb hy (by decide),app_ok hy,trivial⟩)⟩,
  okR_of (rules:=Pchk15_l V.w.params 4 a t e m y n i g) (fuel:=861) (hs:=Ph14) (idx:=[25,26,2,3,4,20,21,7,22,8]) (kk:=27) (kg:=0) rfl rfl rfl (by intro A Q R G; kernel_rfl) (fun _ _ hb=>⟨Plen12_ok hb hy (by decide),Pstr14_ok hb hy (by decide),app_ok hy,trivial⟩)⟩,
  okR_of (rules:=Pchk15_l V.w.params 5 a t e m y n i g) (fuel:=861) (hs:=Ph14) (idx:=[25,26,2,3,4,20,21,7,22,8]) (kk:=27) (kg:=0) rfl rfl rfl (by intro A Q R G; kernel_rfl) (fun _ _ hb=>⟨Plen12_ok hb hy (by decide),Pstr14_ok hb hy (by decide),app_ok hy,trivial⟩)⟩,
  okR_of (rules:=Pchk15_l V.w.params 6 a t e m y n i g) (fuel:=861) (hs:=Ph14) (idx:=[25,26,2,3,4,20,21,7,22,8]) (kk:=27) (kg:=0) rfl rfl rfl (by intro A Q R G; kernel_rfl) (fun _ _ hb=>⟨Plen12_ok hb hy (by decide),Pstr14_ok hb hy (by decide),app_ok hy,trivial⟩)⟩,
  okR_of (rules:=Pchk15_l V.w.params 7 a t e m y n i g) (fuel:=861) (hs:=Ph14) (idx:=[25,26,2,3,4,20,21,7,22,8]) (kk:=27) (kg:=0) rfl rfl rfl (by intro A Q R G; kernel_rfl) (fun _ _ hb=>⟨Plen12_ok hb hy (by decide),Pstr14_ok hb hy (by decide),app_ok hy,trivial⟩)⟩
theorem Pchk15_ok {V:XV} {b:Nat} (B:Base V b) {k:Nat} {a:Nat→Nat} {t:Nat→Tok} {e:Nat→Nat} {m:Nat→Int} {y:Array Value} {n i g:Nat} (hy:y.size ≤ 100) (hk:k < 8):RlOk V (Pchk15_r V.w.params k a t e m y n i g):=OkR.rl ((Pchk15 V a t e m y n i g hy).get hk) B
noncomputable def Pchk16_s (k:Nat):List (Str):=lk [[⟨#[59]⟩],[⟨#[45,59]⟩],[⟨#[59]⟩],[⟨#[59]⟩],[⟨#[59]⟩]] k
noncomputable def Pchk16_z (k:Nat):List (Int):=lk [[4],[4],[4],[4],[3]] k
noncomputable def Pchk16_u (k:Nat):List (List Nat):=lk [[[1,1],[1,1,1]],[[1,1],[1,1,2]],[[1,2],[1,2,1]],[[2,1],[2,1,1]],[[1,1],[1,1,1]]] k
noncomputable def Pchk16_k (k:Nat):List (Nat):=lk [[0],[1],[3],[6],[0]] k
noncomputable def Pchk16_pa (k:Nat) (a:Nat→Nat) (t:Nat→Tok) (e:Nat→Nat) (m:Nat→Int) (y:Array Value) (n i g:Nat):Nat→Nat:=(lk [(a 0),(a 1),(a 2),(a 3),(a 4),(a 5),(a 6),(n+2),(a 7),(a 8),(a 9),(a 10),(a 11),(a 12)])
noncomputable def Pchk16_pt (k:Nat) (a:Nat→Nat) (t:Nat→Tok) (e:Nat→Nat) (m:Nat→Int) (y:Array Value) (n i g:Nat):Nat→Tok:=(lk [(t 0),(t 1),(t 2),(t 3),(t 4),(t 5),(t 6),(t 7),(t 8),(t 9),(t 10),(t 11),(t 12),(t 13),(t 14),(t 15),(t 24),(t 25),(t 16),(t 17),(t 18),(t 19),(t 20),(t 21),(t 22),(t 23)])
noncomputable def Pchk16_pe (k:Nat) (a:Nat→Nat) (t:Nat→Tok) (e:Nat→Nat) (m:Nat→Int) (y:Array Value) (n i g:Nat):Nat→Nat:=(lk [(e 0),(e 1),(e 2+1),(e 3)])
noncomputable def Pchk16_pm (k:Nat) (a:Nat→Nat) (t:Nat→Tok) (e:Nat→Nat) (m:Nat→Int) (y:Array Value) (n i g:Nat):Nat→Int:=(lk [(m 0),(m 1)])
noncomputable def Pchk16_py (k:Nat) (a:Nat→Nat) (t:Nat→Tok) (e:Nat→Nat) (m:Nat→Int) (y:Array Value) (n i g:Nat):Array Value:=y
noncomputable def Pchk16_r (p:Params) (k:Nat) (a:Nat→Nat) (t:Nat→Tok) (e:Nat→Nat) (m:Nat→Int) (y:Array Value) (n i g:Nat):Rl :=
  ⟨.call (.ref 157) ⟨[(.ref (a 0+305)),(.str ⟨#[]⟩ (t 24)),(.str (lk (Pchk16_s k) 0) (t 25))],[]⟩,
   fs (lk (Pchk16_z k) 0) (lk (Pchk16_u k) 0) true true p a t e m y,n+305,i,g,.none,
   fs (lk (Pchk16_z k) 0) (lk (Pchk16_u k) 1) true true p (Pchk16_pa k a t e m y n i g) (Pchk16_pt k a t e m y n i g) (Pchk16_pe k a t e m y n i g) (Pchk16_pm k a t e m y n i g) (Pchk16_py k a t e m y n i g),n+305+21,i+40,g+1,300,false⟩
noncomputable def Pchk16_l (p:Params) (k:Nat) (a:Nat→Nat) (t:Nat→Tok) (e:Nat→Nat) (m:Nat→Int) (y:Array Value) (n i g:Nat):List Rl:=[Plen12_r p (lk (Pchk16_k k) 0) (lk [(a 3),(a 4),(a 5),(a 6),(n+2),(a 7),(a 9),(a 10)]) (lk [(t 10),(t 11),(t 12),(t 13),(t 14),(t 15),(t 24),(t 25),(t 16),(t 17),(t 18),(t 19)]) (lk [(e 2+1),(e 3)]) (lk [(m 0)]) y (n+3) (i+8) (g+0)]
theorem Pchk16 (V:XV) (a:Nat→Nat) (t:Nat→Tok) (e:Nat→Nat) (m:Nat→Int) (y:Array Value) (n i g:Nat) (hy:y.size ≤ 100):AllLt (fun k=>OkR V (Pchk16_r V.w.params k a t e m y n i g)) 5 :=
  ⟨⟨⟨⟨⟨trivial,
  okR_of (rules:=Pchk16_l V.w.params 0 a t e m y n i g) (fuel:=187) (hs:=Ph12) (idx:=[9,10,11,0,1,2,3,4,5,12,6,13]) (kk:=14) (kg:=0) rfl rfl rfl (by intro A Q R G; kernel_rfl) (fun _ _ hb=>⟨Plen12_ok hb hy (by decide),trivial⟩)⟩,
  okR_of (rules:=Pchk16_l V.w.params 1 a t e m y n i g) (fuel:=187) (hs:=Ph12) (idx:=[9,10,11,0,1,2,3,4,5,12,6,13]) (kk:=14) (kg:=0) rfl rfl rfl (by intro A Q R G; kernel_rfl) (fun _ _ hb=>⟨Plen12_ok hb hy (by decide),trivial⟩)⟩,
  okR_of (rules:=Pchk16_l V.w.params 2 a t e m y n i g) (fuel:=187) (hs:=Ph12) (idx:=[9,10,11,0,1,2,3,4,5,12,6,13]) (kk:=14) (kg:=0) rfl rfl rfl (by intro A Q R G; kernel_rfl) (fun _ _ hb=>⟨Plen12_ok hb hy (by decide),trivial⟩)⟩,
  okR_of (rules:=Pchk16_l V.w.params 3 a t e m y n i g) (fuel:=187) (hs:=Ph12) (idx:=[9,10,11,0,1,2,3,4,5,12,6,13]) (kk:=14) (kg:=0) rfl rfl rfl (by intro A Q R G; kernel_rfl) (fun _ _ hb=>⟨Plen12_ok hb hy (by decide),trivial⟩)⟩,
  okR_of (rules:=Pchk16_l V.w.params 4 a t e m y n i g) (fuel:=187) (hs:=Ph12) (idx:=[9,10,11,0,1,2,3,4,5,12,6,13]) (kk:=14) (kg:=0) rfl rfl rfl (by intro A Q R G; kernel_rfl) (fun _ _ hb=>⟨Plen12_ok hb hy (by decide),trivial⟩)⟩
theorem Pchk16_ok {V:XV} {b:Nat} (B:Base V b) {k:Nat} {a:Nat→Nat} {t:Nat→Tok} {e:Nat→Nat} {m:Nat→Int} {y:Array Value} {n i g:Nat} (hy:y.size ≤ 100) (hk:k < 5):RlOk V (Pchk16_r V.w.params k a t e m y n i g):=OkR.rl ((Pchk16 V a t e m y n i g hy).get hk) B
noncomputable def Pstr17_s (k:Nat):List (Str):=lk [[⟨#[59]⟩,⟨#[59]⟩,⟨#[59,59]⟩],[⟨#[59]⟩,⟨#[45,59]⟩,⟨#[59,45,59]⟩],[⟨#[59]⟩,⟨#[45,45,59]⟩,⟨#[59,45,45,59]⟩],[⟨#[45,59]⟩,⟨#[59]⟩,⟨#[45,59,59]⟩],[⟨#[45,59]⟩,⟨#[45,59]⟩,⟨#[45,59,45,59]⟩],[⟨#[45,45,59]⟩,⟨#[59]⟩,⟨#[45,45,59,59]⟩]] k
noncomputable def Pstr17_r (p:Params) (k:Nat) (a:Nat→Nat) (t:Nat→Tok) (e:Nat→Nat) (m:Nat→Int) (y:Array Value) (n i g:Nat):Rl :=
  ⟨.call (.ref 218) ⟨[(.ref (a 0+305))],[]⟩,
   [((a 0+305),⟨(.ref 244),some (a 1+305),.seq #[(.ref (a 2+305)),(.ref (a 3+305))] (e 0),#[]⟩),((a 1+305),⟨(.type "dict"),none,.dict #[⟨(PyData.keyHash p Pq0),(.str Pq0 (t 0)),(.int 0 (t 1))⟩] (e 1),#[]⟩),((a 2+305),⟨(.type "tuple"),none,.seq #[(.str ⟨#[]⟩ (t 2)),(.str (lk (Pstr17_s k) 0) (t 3))] 0,#[]⟩),((a 3+305),⟨(.type "tuple"),none,.seq #[(.str ⟨#[]⟩ (t 4)),(.str (lk (Pstr17_s k) 1) (t 5))] 0,#[]⟩),(213,⟨.none,none,.fields #[(.int 140 0),(.int 32 0),(.ref (a 4+305))],#[]⟩),((a 4+305),⟨(.type "code"),none,.fields #[(.str Pq1 (t 6)),(.str Pq4 (t 7)),(.str Pq3 (t 8)),(.int 140 0),(.int 1 0),(.int 0 0),(.int 0 0),(.int 51 0),(.ref (a 5+305)),(.bool true),(.int 181 0),(.ref (a 6+305)),.none,.none,.none,.none,(.int (m 0) 0),(.int 140 0),(.str Pq3 (t 9))],#[]⟩)],n+305,i,g,(.str (lk (Pstr17_s k) 2) (i+10)),
   [((a 0+305),⟨(.ref 244),some (a 1+305),.seq #[(.ref (a 2+305)),(.ref (a 3+305))] (e 0),#[]⟩),((a 1+305),⟨(.type "dict"),none,.dict #[⟨(PyData.keyHash p Pq0),(.str Pq0 (t 0)),(.int 0 (t 1))⟩] (e 1),#[]⟩),((a 2+305),⟨(.type "tuple"),none,.seq #[(.str ⟨#[]⟩ (t 2)),(.str (lk (Pstr17_s k) 0) (t 3))] 0,#[]⟩),((a 3+305),⟨(.type "tuple"),none,.seq #[(.str ⟨#[]⟩ (t 4)),(.str (lk (Pstr17_s k) 1) (t 5))] 0,#[]⟩),(213,⟨.none,none,.fields #[(.int 140 0),(.int 32 0),(.ref (a 4+305))],#[]⟩),((a 4+305),⟨(.type "code"),none,.fields #[(.str Pq1 (t 6)),(.str Pq4 (t 7)),(.str Pq3 (t 8)),(.int 140 0),(.int 1 0),(.int 0 0),(.int 0 0),(.int 51 0),(.ref (a 5+305)),(.bool true),(.int 181 0),(.ref (a 6+305)),.none,.none,.none,.none,(.int (m 0) 0),(.int 140 0),(.str Pq3 (t 9))],#[]⟩)],n+305+17,i+11,g+1,250,false⟩
noncomputable def Ph15:List Nat:=unp 187 0x34100130c38c30c30004028a28924900104a28028a00a28004104e04104104138104104104e04104104d04d34d20820a208208001006186145140041186006180186001041241041041049041041041241041041201208204104184104104101104300040082081041041042082081082042041041041041000007000040081000002000002040001040000
theorem Pstr17 (V:XV) (a:Nat→Nat) (t:Nat→Tok) (e:Nat→Nat) (m:Nat→Int) (y:Array Value) (n i g:Nat) (hy:y.size ≤ 100):AllLt (fun k=>OkR V (Pstr17_r V.w.params k a t e m y n i g)) 6 :=
  ⟨⟨⟨⟨⟨⟨trivial,
  okR_of (rules:=[]) (fuel:=352) (hs:=Ph15) (idx:=[17,18,19,20,21,22]) (kk:=23) (kg:=1) rfl rfl rfl (by intro A Q R G; kernel_rfl) (fun _ _ hb=>trivial)⟩,
  okR_of (rules:=[]) (fuel:=352) (hs:=Ph15) (idx:=[17,18,19,20,21,22]) (kk:=23) (kg:=1) rfl rfl rfl (by intro A Q R G; kernel_rfl) (fun _ _ hb=>trivial)⟩,
  okR_of (rules:=[]) (fuel:=352) (hs:=Ph15) (idx:=[17,18,19,20,21,22]) (kk:=23) (kg:=1) rfl rfl rfl (by intro A Q R G; kernel_rfl) (fun _ _ hb=>trivial)⟩,
  okR_of (rules:=[]) (fuel:=352) (hs:=Ph15) (idx:=[17,18,19,20,21,22]) (kk:=23) (kg:=1) rfl rfl rfl (by intro A Q R G; kernel_rfl) (fun _ _ hb=>trivial)⟩,
  okR_of (rules:=[]) (fuel:=352) (hs:=Ph15) (idx:=[17,18,19,20,21,22]) (kk:=23) (kg:=1) rfl rfl rfl (by intro A Q R G; kernel_rfl) (fun _ _ hb=>trivial)⟩,
  okR_of (rules:=[]) (fuel:=352) (hs:=Ph15) (idx:=[17,18,19,20,21,22]) (kk:=23) (kg:=1) rfl rfl rfl (by intro A Q R G; kernel_rfl) (fun _ _ hb=>trivial)⟩
theorem Pstr17_ok {V:XV} {b:Nat} (B:Base V b) {k:Nat} {a:Nat→Nat} {t:Nat→Tok} {e:Nat→Nat} {m:Nat→Int} {y:Array Value} {n i g:Nat} (hy:y.size ≤ 100) (hk:k < 6):RlOk V (Pstr17_r V.w.params k a t e m y n i g):=OkR.rl ((Pstr17 V a t e m y n i g hy).get hk) B
noncomputable def Pchk18_s (k:Nat):List (Str):=lk [[⟨#[45,45,59]⟩,⟨#[59,59]⟩],[⟨#[45,59]⟩,⟨#[59,45,59]⟩],[⟨#[45,45,59]⟩,⟨#[59,45,59]⟩],[⟨#[59]⟩,⟨#[59,45,45,59]⟩],[⟨#[45,59]⟩,⟨#[59,45,45,59]⟩],[⟨#[45,45,59]⟩,⟨#[59,45,45,59]⟩],[⟨#[45,59]⟩,⟨#[45,59,59]⟩],[⟨#[45,45,59]⟩,⟨#[45,59,59]⟩],[⟨#[59]⟩,⟨#[45,59,45,59]⟩],[⟨#[45,59]⟩,⟨#[45,59,45,59]⟩],[⟨#[45,45,59]⟩,⟨#[45,59,45,59]⟩],[⟨#[59]⟩,⟨#[45,45,59,59]⟩],[⟨#[45,59]⟩,⟨#[45,45,59,59]⟩],[⟨#[45,45,59]⟩,⟨#[45,45,59,59]⟩],[⟨#[59]⟩,⟨#[45,59,59]⟩],[⟨#[45,59]⟩,⟨#[45,59,59]⟩],[⟨#[45,45,59]⟩,⟨#[45,59,59]⟩],[⟨#[45,59]⟩,⟨#[59,59]⟩],[⟨#[45,45,59]⟩,⟨#[59,59]⟩],[⟨#[59]⟩,⟨#[59,45,59]⟩],[⟨#[45,59]⟩,⟨#[59,45,59]⟩],[⟨#[45,45,59]⟩,⟨#[59,45,59]⟩]] k
noncomputable def Pchk18_z (k:Nat):List (Int):=lk [[4],[4],[4],[4],[4],[4],[4],[4],[4],[4],[4],[4],[4],[4],[3],[3],[3],[3],[3],[3],[3],[3]] k
noncomputable def Pchk18_u (k:Nat):List (List Nat):=lk [[[1,1],[3]],[[1,2],[2]],[[1,2],[3]],[[1,3],[1]],[[1,3],[2]],[[1,3],[3]],[[2,1],[2]],[[2,1],[3]],[[2,2],[1]],[[2,2],[2]],[[2,2],[3]],[[3,1],[1]],[[3,1],[2]],[[3,1],[3]],[[2,1],[1]],[[2,1],[2]],[[2,1],[3]],[[1,1],[2]],[[1,1],[3]],[[1,2],[1]],[[1,2],[2]],[[1,2],[3]]] k
noncomputable def Pchk18_k (k:Nat):List (Nat):=lk [[2,0],[4,1],[5,1],[9,2],[10,2],[11,2],[7,3],[8,3],[12,4],[13,4],[14,4],[15,5],[16,5],[17,5],[6,3],[7,3],[8,3],[1,0],[2,0],[3,1],[4,1],[5,1]] k
noncomputable def Pchk18_pa (k:Nat) (a:Nat→Nat) (t:Nat→Tok) (e:Nat→Nat) (m:Nat→Int) (y:Array Value) (n i g:Nat):Nat→Nat:=(lk [(a 0),(a 1),(a 2),(a 3),(a 4),(n+2),(a 7),(a 8),(a 9),(a 10),(a 11),(a 12)])
noncomputable def Pchk18_pt (k:Nat) (a:Nat→Nat) (t:Nat→Tok) (e:Nat→Nat) (m:Nat→Int) (y:Array Value) (n i g:Nat):Nat→Tok:=(lk [(t 0),(t 1),(t 2),(t 3),(t 4),(t 5),(t 6),(t 7),(t 8),(t 9),(t 10),(i+85),(t 24),(t 25),(t 16),(t 17),(t 18),(t 19),(t 20),(t 21),(t 22),(t 23)])
noncomputable def Pchk18_pe (k:Nat) (a:Nat→Nat) (t:Nat→Tok) (e:Nat→Nat) (m:Nat→Int) (y:Array Value) (n i g:Nat):Nat→Nat:=(lk [(e 0),(e 1+1),(e 2+3),(e 3)])
noncomputable def Pchk18_pm (k:Nat) (a:Nat→Nat) (t:Nat→Tok) (e:Nat→Nat) (m:Nat→Int) (y:Array Value) (n i g:Nat):Nat→Int:=(lk [(m 0),(m 1)])
noncomputable def Pchk18_py (k:Nat) (a:Nat→Nat) (t:Nat→Tok) (e:Nat→Nat) (m:Nat→Int) (y:Array Value) (n i g:Nat):Array Value:=(y.push (.str (lk (Pchk18_s k) 1) (i+81)))
noncomputable def Pchk18_r (p:Params) (k:Nat) (a:Nat→Nat) (t:Nat→Tok) (e:Nat→Nat) (m:Nat→Int) (y:Array Value) (n i g:Nat):Rl :=
  ⟨.call (.ref 157) ⟨[(.ref (a 0+305)),(.str ⟨#[]⟩ (t 24)),(.str (lk (Pchk18_s k) 0) (t 25))],[]⟩,
   fs (lk (Pchk18_z k) 0) (lk (Pchk18_u k) 0) true true p a t e m y,n+305,i,g,.none,
   fs (lk (Pchk18_z k) 0) (lk (Pchk18_u k) 1) true true p (Pchk18_pa k a t e m y n i g) (Pchk18_pt k a t e m y n i g) (Pchk18_pe k a t e m y n i g) (Pchk18_pm k a t e m y n i g) (Pchk18_py k a t e m y n i g),n+305+51,i+88,g+2,300,false⟩
noncomputable def Pchk18_l (p:Params) (k:Nat) (a:Nat→Nat) (t:Nat→Tok) (e:Nat→Nat) (m:Nat→Int) (y:Array Value) (n i g:Nat):List Rl:=[Plen12_r p (lk (Pchk18_k k) 0) (lk [(a 3),(a 4),(a 5),(a 6),(n+2),(a 7),(a 9),(a 10)]) (lk [(t 10),(t 11),(t 12),(t 13),(t 14),(t 15),(t 24),(t 25),(t 16),(t 17),(t 18),(t 19)]) (lk [(e 2+1),(e 3)]) (lk [(m 0)]) y (n+3) (i+8) (g+0),
  Pstr17_r p (lk (Pchk18_k k) 1) (lk [(a 3),(a 4),(a 5),(a 6),(a 8),(a 11),(a 12)]) (lk [(t 10),(t 11),(t 12),(t 13),(t 14),(t 15),(t 20),(t 21),(t 22),(t 23)]) (lk [(e 2+2),(e 3)]) (lk [(m 1)]) y (n+32) (i+71) (g+1),
  app_r (a 2+305) y (e 1) (.str (lk (Pchk18_s k) 1) (i+81)) (n+49) (i+82) (g+2)]
noncomputable def Ph16:List Nat:=unp 504 0x514500010000010010010000010210410430c0410410401000001001010410010400410000000170c20000000800000800000990186000006000006176127ff3dffd34cb2cb2d17ff0000003045805550000150000155000175d75d601554000054000055451400530c30c0820410410403000003003041030c024104104100900000900900000904100104004100000000f2070000001c00001c00001d101040000040000040f04f3cf3cf00a28a28a1c01c00001c01c00001cf4404100000100000103cf3cf0010410410410410410410410410410411410401000010410410410410410401040010410000400000000010400000030800000020000020000023002cb00000b00000b28000a2800410410410412c028a00000a00000a2412c028a00000a00000a24614018618641ffc00000071401040000040000040c00071c70070411c6000006000006000006040041001040041000000041185000000140000140000143002080000080000081001040041001040000
theorem Pchk18 (V:XV) (a:Nat→Nat) (t:Nat→Tok) (e:Nat→Nat) (m:Nat→Int) (y:Array Value) (n i g:Nat) (hy:y.size ≤ 100):AllLt (fun k=>OkR V (Pchk18_r V.w.params k a t e m y n i g)) 22 :=
  ⟨⟨⟨⟨⟨⟨⟨⟨⟨⟨⟨⟨⟨⟨⟨⟨⟨⟨⟨⟨⟨⟨trivial,
  okR_of (rules:=Pchk18_l V.w.params 0 a t e m y n i g) (fuel:=861) (hs:=Ph16) (idx:=[25,26,2,3,4,20,21,7,22,8]) (kk:=27) (kg:=0) rfl rfl rfl (by intro A Q R G; kernel_rfl) (fun _ _ hb=>⟨Plen12_ok hb hy (by decide),Pstr17_ok hb hy (by decide),app_ok hy,trivial⟩)⟩,
  okR_of (rules:=Pchk18_l V.w.params 1 a t e m y n i g) (fuel:=861) (hs:=Ph16) (idx:=[25,26,2,3,4,20,21,7,22,8]) (kk:=27) (kg:=0) rfl rfl rfl (by intro A Q R G; kernel_rfl) (fun _ _ hb=>⟨Plen12_ok hb hy (by decide),Pstr17_ok hb hy (by decide),app_ok hy,trivial⟩)⟩,
  okR_of (rules:=Pchk18_l V.w.params 2 a t e m y n i g) (fuel:=861) (hs:=Ph16) (idx:=[25,26,2,3,4,20,21,7,22,8]) (kk:=27) (kg:=0) rfl rfl rfl (by intro A Q R G; kernel_rfl) (fun _ _ hb=>⟨Plen12_ok hb hy (by decide),Pstr17_ok hb hy (by decide),app_ok hy,trivial⟩)⟩,
  okR_of (rules:=Pchk18_l V.w.params 3 a t e m y n i g) (fuel:=861) (hs:=Ph16) (idx:=[25,26,2,3,4,20,21,7,22,8]) (kk:=27) (kg:=0) rfl rfl rfl (by intro A Q R G; kernel_rfl) (fun _ _ hb=>⟨Plen12_ok hb hy (by decide),Pstr17_ok hb hy (by decide),app_ok hy,trivial⟩)⟩,
  okR_of (rules:=Pchk18_l V.w.params 4 a t e m y n i g) (fuel:=861) (hs:=Ph16) (idx:=[25,26,2,3,4,20,21,7,22,8]) (kk:=27) (kg:=0) rfl rfl rfl (by intro A Q R G; kernel_rfl) (fun _ _ hb=>⟨Plen12_ok hb hy (by decide),Pstr17_ok hb hy (by decide),app_ok hy,trivial⟩)⟩,
  okR_of (rules:=Pchk18_l V.w.params 5 a t e m y n i g) (fuel:=861) (hs:=Ph16) (idx:=[25,26,2,3,4,20,21,7,22,8]) (kk:=27) (kg:=0) rfl rfl rfl (by intro A Q R G; kernel_rfl) (fun _ _ hb=>⟨Plen12_ok hb hy (by decide),Pstr17_ok hb hy (by decide),app_ok hy,trivial⟩)⟩,
  okR_of (rules:=Pchk18_l V.w.params 6 a t e m y n i g) (fuel:=861) (hs:=Ph16) (idx:=[25,26,2,3,4,20,21,7,22,8]) (kk:=27) (kg:=0) rfl rfl rfl (by intro A Q R G; kernel_rfl) (fun _ _ hb=>⟨Plen12_ok hb hy (by decide),Pstr17_ok hb hy (by decide),app_ok hy,trivial⟩)⟩,
  okR_of (rules:=Pchk18_l V.w.params 7 a t e m y n i g) (fuel:=861) (hs:=Ph16) (idx:=[25,26,2,3,4,20,21,7,22,8]) (kk:=27) (kg:=0) rfl rfl rfl (by intro A Q R G; kernel_rfl) (fun _ _ hb=>⟨Plen12_ok hb hy (by decide),Pstr17_ok hb hy (by decide),app_ok hy,trivial⟩)⟩,
  okR_of (rules:=Pchk18_l V.w.params 8 a t e m y n i g) (fuel:=861) (hs:=Ph16) (idx:=[25,26,2,3,4,20,21,7,22,8]) (kk:=27) (kg:=0) rfl rfl rfl (by intro A Q R G; kernel_rfl) (fun _ _ hb=>⟨Plen12_ok hb hy (by decide),Pstr17_ok hb hy (by decide),app_ok hy,trivial⟩)⟩,
  okR_of (rules:=Pchk18_l V.w.params 9 a t e m y n i g) (fuel:=861) (hs:=Ph16) (idx:=[25,26,2,3,4,20,21,7,22,8]) (kk:=27) (kg:=0) rfl rfl rfl (by intro A Q R G; kernel_rfl) (fun _ _ hb=>⟨Plen12_ok hb hy (by decide),Pstr17_ok hb hy (by decide),app_ok hy,trivial⟩)⟩,
  okR_of (rules:=Pchk18_l V.w.params 10 a t e m y n i g) (fuel:=861) (hs:=Ph16) (idx:=[25,26,2,3,4,20,21,7,22,8]) (kk:=27) (kg:=0) rfl rfl rfl (by intro A Q R G; kernel_rfl) (fun _ _ hb=>⟨Plen12_ok hb hy (by decide),Pstr17_ok hb hy (by decide),app_ok hy,trivial⟩)⟩,
  okR_of (rules:=Pchk18_l V.w.params 11 a t e m y n i g) (fuel:=861) (hs:=Ph16) (idx:=[25,26,2,3,4,20,21,7,22,8]) (kk:=27) (kg:=0) rfl rfl rfl (by intro A Q R G; kernel_rfl) (fun _ _ hb=>⟨Plen12_ok hb hy (by decide),Pstr17_ok hb hy (by decide),app_ok hy,trivial⟩)⟩,
  okR_of (rules:=Pchk18_l V.w.params 12 a t e m y n i g) (fuel:=861) (hs:=Ph16) (idx:=[25,26,2,3,4,20,21,7,22,8]) (kk:=27) (kg:=0) rfl rfl rfl (by intro A Q R G; kernel_rfl) (fun _ _ hb=>⟨Plen12_ok hb hy (by decide),Pstr17_ok hb hy (by decide),app_ok hy,trivial⟩)⟩,
  okR_of (rules:=Pchk18_l V.w.params 13 a t e m y n i g) (fuel:=861) (hs:=Ph16) (idx:=[25,26,2,3,4,20,21,7,22,8]) (kk:=27) (kg:=0) rfl rfl rfl (by intro A Q R G; kernel_rfl) (fun _ _ hb=>⟨Plen12_ok hb hy (by decide),Pstr17_ok hb hy (by decide),app_ok hy,trivial⟩)⟩,
  okR_of (rules:=Pchk18_l V.w.params 14 a t e m y n i g) (fuel:=861) (hs:=Ph16) (idx:=[25,26,2,3,4,20,21,7,22,8]) (kk:=27) (kg:=0) rfl rfl rfl (by intro A Q R G; kernel_rfl) (fun _ _ hb=>⟨Plen12_ok hb hy (by decide),Pstr17_ok hb hy (by decide),app_ok hy,trivial⟩)⟩,
  okR_of (rules:=Pchk18_l V.w.params 15 a t e m y n i g) (fuel:=861) (hs:=Ph16) (idx:=[25,26,2,3,4,20,21,7,22,8]) (kk:=27) (kg:=0) rfl rfl rfl (by intro A Q R G; kernel_rfl) (fun _ _ hb=>⟨Plen12_ok hb hy (by decide),Pstr17_ok hb hy (by decide),app_ok hy,trivial⟩)⟩,
  okR_of (rules:=Pchk18_l V.w.params 16 a t e m y n i g) (fuel:=861) (hs:=Ph16) (idx:=[25,26,2,3,4,20,21,7,22,8]) (kk:=27) (kg:=0) rfl rfl rfl (by intro A Q R G; kernel_rfl) (fun _ _ hb=>⟨Plen12_ok hb hy (by decide),Pstr17_ok hb hy (by decide),app_ok hy,trivial⟩)⟩,
  okR_of (rules:=Pchk18_l V.w.params 17 a t e m y n i g) (fuel:=861) (hs:=Ph16) (idx:=[25,26,2,3,4,20,21,7,22,8]) (kk:=27) (kg:=0) rfl rfl rfl (by intro A Q R G; kernel_rfl) (fun _ _ hb=>⟨Plen12_ok hb hy (by decide),Pstr17_ok hb hy (by decide),app_ok hy,trivial⟩)⟩,
  okR_of (rules:=Pchk18_l V.w.params 18 a t e m y n i g) (fuel:=861) (hs:=Ph16) (idx:=[25,26,2,3,4,20,21,7,22,8]) (kk:=27) (kg:=0) rfl rfl rfl (by intro A Q R G; kernel_rfl) (fun _ _ hb=>⟨Plen12_ok hb hy (by decide),Pstr17_ok hb hy (by decide),app_ok hy,trivial⟩)⟩,
  okR_of (rules:=Pchk18_l V.w.params 19 a t e m y n i g) (fuel:=861) (hs:=Ph16) (idx:=[25,26,2,3,4,20,21,7,22,8]) (kk:=27) (kg:=0) rfl rfl rfl (by intro A Q R G; kernel_rfl) (fun _ _ hb=>⟨Plen12_ok hb hy (by decide),Pstr17_ok hb hy (by decide),app_ok hy,trivial⟩)⟩,
  okR_of (rules:=Pchk18_l V.w.params 20 a t e m y n i g) (fuel:=861) (hs:=Ph16) (idx:=[25,26,2,3,4,20,21,7,22,8]) (kk:=27) (kg:=0) rfl rfl rfl (by intro A Q R G; kernel_rfl) (fun _ _ hb=>⟨Plen12_ok hb hy (by decide),Pstr17_ok hb hy (by decide),app_ok hy,trivial⟩)⟩,
  okR_of (rules:=Pchk18_l V.w.params 21 a t e m y n i g) (fuel:=861) (hs:=Ph16) (idx:=[25,26,2,3,4,20,21,7,22,8]) (kk:=27) (kg:=0) rfl rfl rfl (by intro A Q R G; kernel_rfl) (fun _ _ hb=>⟨Plen12_ok hb hy (by decide),Pstr17_ok hb hy (by decide),app_ok hy,trivial⟩)⟩
theorem Pchk18_ok {V:XV} {b:Nat} (B:Base V b) {k:Nat} {a:Nat→Nat} {t:Nat→Tok} {e:Nat→Nat} {m:Nat→Int} {y:Array Value} {n i g:Nat} (hy:y.size ≤ 100) (hk:k < 22):RlOk V (Pchk18_r V.w.params k a t e m y n i g):=OkR.rl ((Pchk18 V a t e m y n i g hy).get hk) B
noncomputable def Pnwl19_z (k:Nat):List (Int):=lk [[4],[4],[4],[4],[4],[4],[3],[3],[3]] k
noncomputable def Pnwl19_u (k:Nat):List (List Nat):=lk [[[1,1]],[[1,2]],[[1,3]],[[2,1]],[[2,2]],[[3,1]],[[2,1]],[[1,1]],[[1,2]]] k
noncomputable def Pnwl19_s (k:Nat):List (Str):=lk [[⟨#[59,59]⟩],[⟨#[59,45,59]⟩],[⟨#[59,45,45,59]⟩],[⟨#[45,59,59]⟩],[⟨#[45,59,45,59]⟩],[⟨#[45,45,59,59]⟩],[⟨#[45,59,59]⟩],[⟨#[59,59]⟩],[⟨#[59,45,59]⟩]] k
noncomputable def Pnwl19_k (k:Nat):List (Nat):=lk [[0,0],[1,1],[2,2],[3,3],[4,4],[6,5],[3,3],[0,0],[1,1]] k
noncomputable def Pnwl19_pa (k:Nat) (a:Nat→Nat) (t:Nat→Tok) (e:Nat→Nat) (m:Nat→Int) (y:Array Value) (n i g:Nat):Nat→Nat:=(lk [(a 0),(a 1),(a 2),(a 3),(a 4),(a 7),(a 8),(a 9),(a 10),(a 11),(a 12)])
noncomputable def Pnwl19_pt (k:Nat) (a:Nat→Nat) (t:Nat→Tok) (e:Nat→Nat) (m:Nat→Int) (y:Array Value) (n i g:Nat):Nat→Tok:=(lk [(t 0),(t 1),(t 2),(t 3),(t 4),(t 5),(t 6),(t 7),(t 8),(t 9),(t 10),(i+96),(t 16),(t 17),(t 18),(t 19),(t 20),(t 21),(t 22),(t 23)])
noncomputable def Pnwl19_pe (k:Nat) (a:Nat→Nat) (t:Nat→Tok) (e:Nat→Nat) (m:Nat→Int) (y:Array Value) (n i g:Nat):Nat→Nat:=(lk [(e 0),(e 1+1),(e 2+3),(e 3)])
noncomputable def Pnwl19_pm (k:Nat) (a:Nat→Nat) (t:Nat→Tok) (e:Nat→Nat) (m:Nat→Int) (y:Array Value) (n i g:Nat):Nat→Int:=(lk [(m 0),(m 1)])
noncomputable def Pnwl19_py (k:Nat) (a:Nat→Nat) (t:Nat→Tok) (e:Nat→Nat) (m:Nat→Int) (y:Array Value) (n i g:Nat):Array Value:=(y.push (.str (lk (Pnwl19_s k) 0) (i+91)))
noncomputable def Pnwl19_r (p:Params) (k:Nat) (a:Nat→Nat) (t:Nat→Tok) (e:Nat→Nat) (m:Nat→Int) (y:Array Value) (n i g:Nat):Rl :=
  ⟨.call (.ref 122) ⟨[(.ref (a 0+305))],[]⟩,
   fs (lk (Pnwl19_z k) 0) (lk (Pnwl19_u k) 0) true true p a t e m y,n+305,i,g,.none,
   fs (lk (Pnwl19_z k) 0) [] true true p (Pnwl19_pa k a t e m y n i g) (Pnwl19_pt k a t e m y n i g) (Pnwl19_pe k a t e m y n i g) (Pnwl19_pm k a t e m y n i g) (Pnwl19_py k a t e m y n i g),n+305+80,i+99,g+4,300,false⟩
noncomputable def Pnwl19_l (p:Params) (k:Nat) (a:Nat→Nat) (t:Nat→Tok) (e:Nat→Nat) (m:Nat→Int) (y:Array Value) (n i g:Nat):List Rl:=[Plen4_r p (lk (Pnwl19_k k) 0) (lk [(a 3),(a 4),(a 5),(n+11),(a 7),(a 9),(a 10)]) (lk [(t 10),(t 11),(t 12),(t 13),(t 14),(t 15),(t 16),(t 17),(t 18),(t 19)]) (lk [(e 2+2),(e 3)]) (lk [(m 0)]) y (n+12) (i+17) (g+0),
  Plen4_r p (lk (Pnwl19_k k) 0) (lk [(a 3),(a 4),(a 5),(n+11),(a 7),(a 9),(a 10)]) (lk [(t 10),(t 11),(t 12),(t 13),(t 14),(t 15),(t 16),(t 17),(t 18),(t 19)]) (lk [(e 2+2),(e 3)]) (lk [(m 0)]) y (n+28) (i+45) (g+1),
  Pstr17_r p (lk (Pnwl19_k k) 1) (lk [(a 3),(a 4),(a 5),(n+11),(a 8),(a 11),(a 12)]) (lk [(t 10),(t 11),(t 12),(t 13),(t 14),(t 15),(t 20),(t 21),(t 22),(t 23)]) (lk [(e 2+2),(e 3)]) (lk [(m 1)]) y (n+43) (i+68) (g+2),
  Pstr17_r p (lk (Pnwl19_k k) 1) (lk [(a 3),(a 4),(a 5),(n+11),(a 8),(a 11),(a 12)]) (lk [(t 10),(t 11),(t 12),(t 13),(t 14),(t 15),(t 20),(t 21),(t 22),(t 23)]) (lk [(e 2+2),(e 3)]) (lk [(m 1)]) y (n+60) (i+81) (g+3),
  app_r (a 2+305) y (e 1) (.str (lk (Pnwl19_s k) 0) (i+91)) (n+77) (i+92) (g+4)]
noncomputable def Ph17:List Nat:=unp 498 0x61860001400001401401400001431451450820410410401400001401420820800400410010400000000c20000000800000800000970165800005800005955947ff3dffc00000000137ff0000000445805550000150000155000175d75d601554000054000055449200000049ffc000000110700004104104145ffc00000020000020000020410c00820000020020000000000810010400000020400000010000010000014c049200001200001244140f00f3cf41ffc000001038034d00000d00000d30001041001004140f00000f00000f00000f04004100104004100000200204104105145024034030c00000000030030000000000c28024900000900000920104f04f04f04f1c71c02cb2cb0002cb00b04100a00004104104104104104100a280041040004000000001241040200001041041041041041040208001041000040000000001040000007180000006000006000006040041000000185000000140000140000143002080000080000081001040000
theorem Pnwl19 (V:XV) (a:Nat→Nat) (t:Nat→Tok) (e:Nat→Nat) (m:Nat→Int) (y:Array Value) (n i g:Nat) (hy:y.size ≤ 100):AllLt (fun k=>OkR V (Pnwl19_r V.w.params k a t e m y n i g)) 9 :=
  ⟨⟨⟨⟨⟨⟨⟨⟨⟨trivial,
  okR_of (rules:=Pnwl19_l V.w.params 0 a t e m y n i g) (fuel:=783) (hs:=Ph17) (idx:=[24,25,3,4,5,10,8,11,9]) (kk:=27) (kg:=0) rfl rfl rfl (by intro A Q R G; kernel_rfl) (fun _ _ hb=>⟨Plen4_ok hb hy (by decide),Plen4_ok hb hy (by decide),Pstr17_ok hb hy (by decide),Pstr17_ok hb hy (by decide),app_ok hy,trivial⟩)⟩,
  okR_of (rules:=Pnwl19_l V.w.params 1 a t e m y n i g) (fuel:=783) (hs:=Ph17) (idx:=[24,25,3,4,5,10,8,11,9]) (kk:=27) (kg:=0) rfl rfl rfl (by intro A Q R G; kernel_rfl) (fun _ _ hb=>⟨Plen4_ok hb hy (by decide),Plen4_ok hb hy (by decide),Pstr17_ok hb hy (by decide),Pstr17_ok hb hy (by decide),app_ok hy,trivial⟩)⟩,
  okR_of (rules:=Pnwl19_l V.w.params 2 a t e m y n i g) (fuel:=783) (hs:=Ph17) (idx:=[24,25,3,4,5,10,8,11,9]) (kk:=27) (kg:=0) rfl rfl rfl (by intro A Q R G; kernel_rfl) (fun _ _ hb=>⟨Plen4_ok hb hy (by decide),Plen4_ok hb hy (by decide),Pstr17_ok hb hy (by decide),Pstr17_ok hb hy (by decide),app_ok hy,trivial⟩)⟩,
  okR_of (rules:=Pnwl19_l V.w.params 3 a t e m y n i g) (fuel:=783) (hs:=Ph17) (idx:=[24,25,3,4,5,10,8,11,9]) (kk:=27) (kg:=0) rfl rfl rfl (by intro A Q R G; kernel_rfl) (fun _ _ hb=>⟨Plen4_ok hb hy (by decide),Plen4_ok hb hy (by decide),Pstr17_ok hb hy (by decide),Pstr17_ok hb hy (by decide),app_ok hy,trivial⟩)⟩,
  okR_of (rules:=Pnwl19_l V.w.params 4 a t e m y n i g) (fuel:=783) (hs:=Ph17) (idx:=[24,25,3,4,5,10,8,11,9]) (kk:=27) (kg:=0) rfl rfl rfl (by intro A Q R G; kernel_rfl) (fun _ _ hb=>⟨Plen4_ok hb hy (by decide),Plen4_ok hb hy (by decide),Pstr17_ok hb hy (by decide),Pstr17_ok hb hy (by decide),app_ok hy,trivial⟩)⟩,
  okR_of (rules:=Pnwl19_l V.w.params 5 a t e m y n i g) (fuel:=783) (hs:=Ph17) (idx:=[24,25,3,4,5,10,8,11,9]) (kk:=27) (kg:=0) rfl rfl rfl (by intro A Q R G; kernel_rfl) (fun _ _ hb=>⟨Plen4_ok hb hy (by decide),Plen4_ok hb hy (by decide),Pstr17_ok hb hy (by decide),Pstr17_ok hb hy (by decide),app_ok hy,trivial⟩)⟩,
  okR_of (rules:=Pnwl19_l V.w.params 6 a t e m y n i g) (fuel:=783) (hs:=Ph17) (idx:=[24,25,3,4,5,10,8,11,9]) (kk:=27) (kg:=0) rfl rfl rfl (by intro A Q R G; kernel_rfl) (fun _ _ hb=>⟨Plen4_ok hb hy (by decide),Plen4_ok hb hy (by decide),Pstr17_ok hb hy (by decide),Pstr17_ok hb hy (by decide),app_ok hy,trivial⟩)⟩,
  okR_of (rules:=Pnwl19_l V.w.params 7 a t e m y n i g) (fuel:=783) (hs:=Ph17) (idx:=[24,25,3,4,5,10,8,11,9]) (kk:=27) (kg:=0) rfl rfl rfl (by intro A Q R G; kernel_rfl) (fun _ _ hb=>⟨Plen4_ok hb hy (by decide),Plen4_ok hb hy (by decide),Pstr17_ok hb hy (by decide),Pstr17_ok hb hy (by decide),app_ok hy,trivial⟩)⟩,
  okR_of (rules:=Pnwl19_l V.w.params 8 a t e m y n i g) (fuel:=783) (hs:=Ph17) (idx:=[24,25,3,4,5,10,8,11,9]) (kk:=27) (kg:=0) rfl rfl rfl (by intro A Q R G; kernel_rfl) (fun _ _ hb=>⟨Plen4_ok hb hy (by decide),Plen4_ok hb hy (by decide),Pstr17_ok hb hy (by decide),Pstr17_ok hb hy (by decide),app_ok hy,trivial⟩)⟩
theorem Pnwl19_ok {V:XV} {b:Nat} (B:Base V b) {k:Nat} {a:Nat→Nat} {t:Nat→Tok} {e:Nat→Nat} {m:Nat→Int} {y:Array Value} {n i g:Nat} (hy:y.size ≤ 100) (hk:k < 9):RlOk V (Pnwl19_r V.w.params k a t e m y n i g):=OkR.rl ((Pnwl19 V a t e m y n i g hy).get hk) B
noncomputable def Plen20_s (k:Nat):List (Str):=lk [[⟨#[59]⟩,⟨#[59]⟩,⟨#[59]⟩,⟨#[59]⟩],[⟨#[59]⟩,⟨#[59]⟩,⟨#[59]⟩,⟨#[45,59]⟩],[⟨#[59]⟩,⟨#[59]⟩,⟨#[59]⟩,⟨#[45,45,59]⟩],[⟨#[59]⟩,⟨#[59]⟩,⟨#[45,59]⟩,⟨#[59]⟩],[⟨#[59]⟩,⟨#[59]⟩,⟨#[45,59]⟩,⟨#[45,59]⟩],[⟨#[59]⟩,⟨#[59]⟩,⟨#[45,59]⟩,⟨#[45,45,59]⟩],[⟨#[59]⟩,⟨#[45,59]⟩,⟨#[59]⟩,⟨#[59]⟩],[⟨#[59]⟩,⟨#[45,59]⟩,⟨#[59]⟩,⟨#[45,59]⟩],[⟨#[59]⟩,⟨#[45,59]⟩,⟨#[59]⟩,⟨#[45,45,59]⟩],[⟨#[45,59]⟩,⟨#[59]⟩,⟨#[59]⟩,⟨#[59]⟩],[⟨#[45,59]⟩,⟨#[59]⟩,⟨#[59]⟩,⟨#[45,59]⟩],[⟨#[45,59]⟩,⟨#[59]⟩,⟨#[59]⟩,⟨#[45,45,59]⟩]] k
noncomputable def Plen20_z (k:Nat):List (Int):=lk [[4],[5],[6],[5],[6],[7],[5],[6],[7],[5],[6],[7]] k
noncomputable def Plen20_r (p:Params) (k:Nat) (a:Nat→Nat) (t:Nat→Tok) (e:Nat→Nat) (m:Nat→Int) (y:Array Value) (n i g:Nat):Rl :=
  ⟨.call (.ref 211) ⟨[(.ref (a 0+305))],[]⟩,
   [((a 0+305),⟨(.ref 244),some (a 1+305),.seq #[(.ref (a 2+305)),(.ref (a 3+305)),(.ref (a 4+305)),(.ref (a 5+305))] (e 0),#[]⟩),((a 1+305),⟨(.type "dict"),none,.dict #[⟨(PyData.keyHash p Pq0),(.str Pq0 (t 0)),(.int 0 (t 1))⟩] (e 1),#[]⟩),((a 2+305),⟨(.type "tuple"),none,.seq #[(.str ⟨#[]⟩ (t 2)),(.str (lk (Plen20_s k) 0) (t 3))] 0,#[]⟩),((a 3+305),⟨(.type "tuple"),none,.seq #[(.str ⟨#[]⟩ (t 4)),(.str (lk (Plen20_s k) 1) (t 5))] 0,#[]⟩),((a 4+305),⟨(.type "tuple"),none,.seq #[(.str ⟨#[]⟩ (t 6)),(.str (lk (Plen20_s k) 2) (t 7))] 0,#[]⟩),((a 5+305),⟨(.type "tuple"),none,.seq #[(.str ⟨#[]⟩ (t 8)),(.str (lk (Plen20_s k) 3) (t 9))] 0,#[]⟩),(206,⟨.none,none,.fields #[(.int 137 0),(.int 19 0),(.ref (a 6+305))],#[]⟩),((a 6+305),⟨(.type "code"),none,.fields #[(.str Pq1 (t 10)),(.str Pq2 (t 11)),(.str Pq3 (t 12)),(.int 137 0),(.int 1 0),(.int 0 0),(.int 0 0),(.int 51 0),(.ref (a 7+305)),(.bool true),(.int 181 0),(.ref (a 8+305)),.none,.none,.none,.none,(.int (m 0) 0),(.int 137 0),(.str Pq3 (t 13))],#[]⟩)],n+305,i,g,(.int (lk (Plen20_z k) 0) (i+37)),
   [((a 0+305),⟨(.ref 244),some (a 1+305),.seq #[(.ref (a 2+305)),(.ref (a 3+305)),(.ref (a 4+305)),(.ref (a 5+305))] (e 0),#[]⟩),((a 1+305),⟨(.type "dict"),none,.dict #[⟨(PyData.keyHash p Pq0),(.str Pq0 (t 0)),(.int 0 (t 1))⟩] (e 1),#[]⟩),((a 2+305),⟨(.type "tuple"),none,.seq #[(.str ⟨#[]⟩ (t 2)),(.str (lk (Plen20_s k) 0) (t 3))] 0,#[]⟩),((a 3+305),⟨(.type "tuple"),none,.seq #[(.str ⟨#[]⟩ (t 4)),(.str (lk (Plen20_s k) 1) (t 5))] 0,#[]⟩),((a 4+305),⟨(.type "tuple"),none,.seq #[(.str ⟨#[]⟩ (t 6)),(.str (lk (Plen20_s k) 2) (t 7))] 0,#[]⟩),((a 5+305),⟨(.type "tuple"),none,.seq #[(.str ⟨#[]⟩ (t 8)),(.str (lk (Plen20_s k) 3) (t 9))] 0,#[]⟩),(206,⟨.none,none,.fields #[(.int 137 0),(.int 19 0),(.ref (a 6+305))],#[]⟩),((a 6+305),⟨(.type "code"),none,.fields #[(.str Pq1 (t 10)),(.str Pq2 (t 11)),(.str Pq3 (t 12)),(.int 137 0),(.int 1 0),(.int 0 0),(.int 0 0),(.int 51 0),(.ref (a 7+305)),(.bool true),(.int 181 0),(.ref (a 8+305)),.none,.none,.none,.none,(.int (m 0) 0),(.int 137 0),(.str Pq3 (t 13))],#[]⟩)],n+305+21,i+38,g+1,250,false⟩
noncomputable def Ph18:List Nat:=unp 312 0x100141049041040004038e38d34d3403c000f0003cf00f3c004105504104104154104104105504104105405451434d34f34d34d00100b2cb28a28a00c00030000c30030c00104144104104105104104104144104104140141040a28a30a28a2800402082071c71c024000900024900924004104d04104104134104104104d04104104c04c30c1c71c91c71c7001005145104104006000180006180186001041241041041049041041041241041041201208204104184104104101104300040082081041041046005140000140140000000005101040000240001002040000080000081000001040000
theorem Plen20 (V:XV) (a:Nat→Nat) (t:Nat→Tok) (e:Nat→Nat) (m:Nat→Int) (y:Array Value) (n i g:Nat) (hy:y.size ≤ 100):AllLt (fun k=>OkR V (Plen20_r V.w.params k a t e m y n i g)) 12 :=
  ⟨⟨⟨⟨⟨⟨⟨⟨⟨⟨⟨⟨trivial,
  okR_of (rules:=[]) (fuel:=650) (hs:=Ph18) (idx:=[21,22,23,24,25,26,27,28]) (kk:=29) (kg:=1) rfl rfl rfl (by intro A Q R G; kernel_rfl) (fun _ _ hb=>trivial)⟩,
  okR_of (rules:=[]) (fuel:=650) (hs:=Ph18) (idx:=[21,22,23,24,25,26,27,28]) (kk:=29) (kg:=1) rfl rfl rfl (by intro A Q R G; kernel_rfl) (fun _ _ hb=>trivial)⟩,
  okR_of (rules:=[]) (fuel:=650) (hs:=Ph18) (idx:=[21,22,23,24,25,26,27,28]) (kk:=29) (kg:=1) rfl rfl rfl (by intro A Q R G; kernel_rfl) (fun _ _ hb=>trivial)⟩,
  okR_of (rules:=[]) (fuel:=650) (hs:=Ph18) (idx:=[21,22,23,24,25,26,27,28]) (kk:=29) (kg:=1) rfl rfl rfl (by intro A Q R G; kernel_rfl) (fun _ _ hb=>trivial)⟩,
  okR_of (rules:=[]) (fuel:=650) (hs:=Ph18) (idx:=[21,22,23,24,25,26,27,28]) (kk:=29) (kg:=1) rfl rfl rfl (by intro A Q R G; kernel_rfl) (fun _ _ hb=>trivial)⟩,
  okR_of (rules:=[]) (fuel:=650) (hs:=Ph18) (idx:=[21,22,23,24,25,26,27,28]) (kk:=29) (kg:=1) rfl rfl rfl (by intro A Q R G; kernel_rfl) (fun _ _ hb=>trivial)⟩,
  okR_of (rules:=[]) (fuel:=650) (hs:=Ph18) (idx:=[21,22,23,24,25,26,27,28]) (kk:=29) (kg:=1) rfl rfl rfl (by intro A Q R G; kernel_rfl) (fun _ _ hb=>trivial)⟩,
  okR_of (rules:=[]) (fuel:=650) (hs:=Ph18) (idx:=[21,22,23,24,25,26,27,28]) (kk:=29) (kg:=1) rfl rfl rfl (by intro A Q R G; kernel_rfl) (fun _ _ hb=>trivial)⟩,
  okR_of (rules:=[]) (fuel:=650) (hs:=Ph18) (idx:=[21,22,23,24,25,26,27,28]) (kk:=29) (kg:=1) rfl rfl rfl (by intro A Q R G; kernel_rfl) (fun _ _ hb=>trivial)⟩,
  okR_of (rules:=[]) (fuel:=650) (hs:=Ph18) (idx:=[21,22,23,24,25,26,27,28]) (kk:=29) (kg:=1) rfl rfl rfl (by intro A Q R G; kernel_rfl) (fun _ _ hb=>trivial)⟩,
  okR_of (rules:=[]) (fuel:=650) (hs:=Ph18) (idx:=[21,22,23,24,25,26,27,28]) (kk:=29) (kg:=1) rfl rfl rfl (by intro A Q R G; kernel_rfl) (fun _ _ hb=>trivial)⟩,
  okR_of (rules:=[]) (fuel:=650) (hs:=Ph18) (idx:=[21,22,23,24,25,26,27,28]) (kk:=29) (kg:=1) rfl rfl rfl (by intro A Q R G; kernel_rfl) (fun _ _ hb=>trivial)⟩
theorem Plen20_ok {V:XV} {b:Nat} (B:Base V b) {k:Nat} {a:Nat→Nat} {t:Nat→Tok} {e:Nat→Nat} {m:Nat→Int} {y:Array Value} {n i g:Nat} (hy:y.size ≤ 100) (hk:k < 12):RlOk V (Plen20_r V.w.params k a t e m y n i g):=OkR.rl ((Plen20 V a t e m y n i g hy).get hk) B
noncomputable def Pstr21_r (p:Params) (k:Nat) (a:Nat→Nat) (t:Nat→Tok) (e:Nat→Nat) (m:Nat→Int) (y:Array Value) (n i g:Nat):Rl :=
  ⟨.call (.ref 218) ⟨[(.ref (a 0+305))],[]⟩,
   [((a 0+305),⟨(.ref 244),some (a 1+305),.seq #[(.ref (a 2+305)),(.ref (a 3+305)),(.ref (a 4+305))] (e 0),#[]⟩),((a 1+305),⟨(.type "dict"),none,.dict #[⟨(PyData.keyHash p Pq0),(.str Pq0 (t 0)),(.int 0 (t 1))⟩] (e 1),#[]⟩),((a 2+305),⟨(.type "tuple"),none,.seq #[(.str ⟨#[]⟩ (t 2)),(.str ⟨#[59]⟩ (t 3))] 0,#[]⟩),((a 3+305),⟨(.type "tuple"),none,.seq #[(.str ⟨#[]⟩ (t 4)),(.str ⟨#[59]⟩ (t 5))] 0,#[]⟩),((a 4+305),⟨(.type "tuple"),none,.seq #[(.str ⟨#[]⟩ (t 6)),(.str ⟨#[59]⟩ (t 7))] 0,#[]⟩),(213,⟨.none,none,.fields #[],#[]⟩)],n+305,i,g,(.str ⟨#[59,59,59]⟩ (i+18)),
   [((a 0+305),⟨(.ref 244),some (a 1+305),.seq #[(.ref (a 2+305)),(.ref (a 3+305)),(.ref (a 4+305))] (e 0),#[]⟩),((a 1+305),⟨(.type "dict"),none,.dict #[⟨(PyData.keyHash p Pq0),(.str Pq0 (t 0)),(.int 0 (t 1))⟩] (e 1),#[]⟩),((a 2+305),⟨(.type "tuple"),none,.seq #[(.str ⟨#[]⟩ (t 2)),(.str ⟨#[59]⟩ (t 3))] 0,#[]⟩),((a 3+305),⟨(.type "tuple"),none,.seq #[(.str ⟨#[]⟩ (t 4)),(.str ⟨#[59]⟩ (t 5))] 0,#[]⟩),((a 4+305),⟨(.type "tuple"),none,.seq #[(.str ⟨#[]⟩ (t 6)),(.str ⟨#[59]⟩ (t 7))] 0,#[]⟩),(213,⟨.none,none,.fields #[(.int 140 0),(.int 32 0),(.ref (n+305+4))],#[]⟩),((n+305+4),⟨(.type "code"),none,.fields #[(.str Pq1 (i+1)),(.str Pq4 (i+2)),(.str Pq3 (i+3)),(.int 140 0),(.int 1 0),(.int 0 0),(.int 0 0),(.int 51 0),(.ref (n+305+2)),(.bool true),(.int 181 0),(.ref (n+305+3)),.none,.none,.none,.none,(.int (Int.ofNat (i+4)) 0),(.int 140 0),(.str Pq3 (i+5))],#[]⟩)],n+305+24,i+19,g+1,250,false⟩
noncomputable def Ph19:List Nat:=unp 247 0x4410014d35534d34c004038e38d34d00104e38038e00e3800410560410410415810410410560410410550555553cf3d13cf3cf00100a28a24924004128a00a28028a00104144104104105104104104144104104140141040b2cb34b2cb2c004018618514500104618018600618004104c04104104130104104104c04104104b04b2cb1c71c91c71c71c70471cc0010020820410410410820820420810810410410410400002cb2c8000040081000002000002040001040000
theorem Pstr21 (V:XV) (a:Nat→Nat) (t:Nat→Tok) (e:Nat→Nat) (m:Nat→Int) (y:Array Value) (n i g:Nat) (hy:y.size ≤ 100):AllLt (fun k=>OkR V (Pstr21_r V.w.params k a t e m y n i g)) 1 :=
  ⟨trivial,
  okR_of (rules:=[]) (fuel:=469) (hs:=Ph19) (idx:=[24,25,26,27,28,29,19]) (kk:=30) (kg:=1) rfl rfl rfl (by intro A Q R G; kernel_rfl) (fun _ _ hb=>trivial)⟩
theorem Pstr21_ok {V:XV} {b:Nat} (B:Base V b) {k:Nat} {a:Nat→Nat} {t:Nat→Tok} {e:Nat→Nat} {m:Nat→Int} {y:Array Value} {n i g:Nat} (hy:y.size ≤ 100) (hk:k < 1):RlOk V (Pstr21_r V.w.params k a t e m y n i g):=OkR.rl ((Pstr21 V a t e m y n i g hy).get hk) B
noncomputable def Pchk22_s (k:Nat):List (Str):=lk [[⟨#[59]⟩],[⟨#[45,59]⟩],[⟨#[45,45,59]⟩]] k
noncomputable def Pchk22_u (k:Nat):List (List Nat):=lk [[[1]],[[2]],[[3]]] k
noncomputable def Pchk22_k (k:Nat):List (Nat):=lk [[0],[1],[2]] k
noncomputable def Pchk22_pa (k:Nat) (a:Nat→Nat) (t:Nat→Tok) (e:Nat→Nat) (m:Nat→Int) (y:Array Value) (n i g:Nat):Nat→Nat:=(lk [(a 0),(a 1),(a 2),(a 3),(a 4),(n+2),(a 8),(n+39),(a 9),(a 10),(n+37),(n+38)])
noncomputable def Pchk22_pt (k:Nat) (a:Nat→Nat) (t:Nat→Tok) (e:Nat→Nat) (m:Nat→Int) (y:Array Value) (n i g:Nat):Nat→Tok:=(lk [(t 0),(t 1),(t 2),(t 3),(t 4),(t 5),(t 6),(t 7),(t 8),(t 9),(t 10),(i+101),(t 22),(t 23),(t 18),(t 19),(t 20),(t 21),(i+80),(i+81),(i+82),(i+84)])
noncomputable def Pchk22_pe (k:Nat) (a:Nat→Nat) (t:Nat→Tok) (e:Nat→Nat) (m:Nat→Int) (y:Array Value) (n i g:Nat):Nat→Nat:=(lk [(e 0),(e 1+1),(e 2+3),(e 3)])
noncomputable def Pchk22_pm (k:Nat) (a:Nat→Nat) (t:Nat→Tok) (e:Nat→Nat) (m:Nat→Int) (y:Array Value) (n i g:Nat):Nat→Int:=(lk [(m 0),(Int.ofNat (i+83))])
noncomputable def Pchk22_py (k:Nat) (a:Nat→Nat) (t:Nat→Tok) (e:Nat→Nat) (m:Nat→Int) (y:Array Value) (n i g:Nat):Array Value:=(y.push (.str ⟨#[59,59,59]⟩ (i+97)))
noncomputable def Pchk22_r (p:Params) (k:Nat) (a:Nat→Nat) (t:Nat→Tok) (e:Nat→Nat) (m:Nat→Int) (y:Array Value) (n i g:Nat):Rl :=
  ⟨.call (.ref 157) ⟨[(.ref (a 0+305)),(.str ⟨#[]⟩ (t 22)),(.str (lk (Pchk22_s k) 0) (t 23))],[]⟩,
   fs 3 [1,1,1] true false p a t e m y,n+305,i,g,.none,
   fs 3 (lk (Pchk22_u k) 0) true true p (Pchk22_pa k a t e m y n i g) (Pchk22_pt k a t e m y n i g) (Pchk22_pe k a t e m y n i g) (Pchk22_pm k a t e m y n i g) (Pchk22_py k a t e m y n i g),n+305+61,i+104,g+2,300,false⟩
noncomputable def Pchk22_l (p:Params) (k:Nat) (a:Nat→Nat) (t:Nat→Tok) (e:Nat→Nat) (m:Nat→Int) (y:Array Value) (n i g:Nat):List Rl:=[Plen20_r p (lk (Pchk22_k k) 0) (lk [(a 3),(a 4),(a 5),(a 6),(a 7),(n+2),(a 8),(a 9),(a 10)]) (lk [(t 10),(t 11),(t 12),(t 13),(t 14),(t 15),(t 16),(t 17),(t 22),(t 23),(t 18),(t 19),(t 20),(t 21)]) (lk [(e 2+1),(e 3)]) (lk [(m 0)]) y (n+3) (i+8) (g+0),
  Pstr21_r p 0 (lk [(a 3),(a 4),(a 5),(a 6),(a 7)]) (lk [(t 10),(t 11),(t 12),(t 13),(t 14),(t 15),(t 16),(t 17)]) (lk [(e 2+2),(e 3)]) (fun _=>default) y (n+35) (i+79) (g+1),
  app_r (a 2+305) y (e 1) (.str ⟨#[59,59,59]⟩ (i+97)) (n+59) (i+98) (g+2)]
noncomputable def Ph20:List Nat:=unp 505 0x14514000400000400400400000408410410d34104104100400000400404104004100104000000060308000000200000200000268065900001900001961949ffcf7ff4cb2cb2cb45ffc000000c1170165800005800005950006186185c059600001600001655554014c30c30208104104100c00000c00c1040c30090410410402400002402400002410400410010400000004081c00000070000070000074804510000110000114014104104002cb2cb2c70070000070070000074120114400004400004504104000410410410410410410410410410410450410040000410410410410410410041000410400010000000000410000000c200000008000008000008d00c30000030000030b0002cb00104104104104c00b2c00002c00002ca04c00b2c00002c00002ca18500618618641ffc00000071401040000040000040c00071c70070411c6000006000006000006040041001040041000000041185000000140000140000143002080000080000081001040041001040000
theorem Pchk22 (V:XV) (a:Nat→Nat) (t:Nat→Tok) (e:Nat→Nat) (m:Nat→Int) (y:Array Value) (n i g:Nat) (hy:y.size ≤ 100):AllLt (fun k=>OkR V (Pchk22_r V.w.params k a t e m y n i g)) 3 :=
  ⟨⟨⟨trivial,
  okR_of (rules:=Pchk22_l V.w.params 0 a t e m y n i g) (fuel:=862) (hs:=Ph20) (idx:=[26,27,2,3,4,21,22,8,23,9]) (kk:=28) (kg:=0) rfl rfl rfl (by intro A Q R G; kernel_rfl) (fun _ _ hb=>⟨Plen20_ok hb hy (by decide),Pstr21_ok hb hy (by decide),app_ok hy,trivial⟩)⟩,
  okR_of (rules:=Pchk22_l V.w.params 1 a t e m y n i g) (fuel:=862) (hs:=Ph20) (idx:=[26,27,2,3,4,21,22,8,23,9]) (kk:=28) (kg:=0) rfl rfl rfl (by intro A Q R G; kernel_rfl) (fun _ _ hb=>⟨Plen20_ok hb hy (by decide),Pstr21_ok hb hy (by decide),app_ok hy,trivial⟩)⟩,
  okR_of (rules:=Pchk22_l V.w.params 2 a t e m y n i g) (fuel:=862) (hs:=Ph20) (idx:=[26,27,2,3,4,21,22,8,23,9]) (kk:=28) (kg:=0) rfl rfl rfl (by intro A Q R G; kernel_rfl) (fun _ _ hb=>⟨Plen20_ok hb hy (by decide),Pstr21_ok hb hy (by decide),app_ok hy,trivial⟩)⟩
theorem Pchk22_ok {V:XV} {b:Nat} (B:Base V b) {k:Nat} {a:Nat→Nat} {t:Nat→Tok} {e:Nat→Nat} {m:Nat→Int} {y:Array Value} {n i g:Nat} (hy:y.size ≤ 100) (hk:k < 3):RlOk V (Pchk22_r V.w.params k a t e m y n i g):=OkR.rl ((Pchk22 V a t e m y n i g hy).get hk) B
noncomputable def Pchk23_pa (k:Nat) (a:Nat→Nat) (t:Nat→Tok) (e:Nat→Nat) (m:Nat→Int) (y:Array Value) (n i g:Nat):Nat→Nat:=(lk [(a 0),(a 1),(a 2),(a 3),(a 4),(a 5),(a 6),(a 7),(n+2),(a 8),(a 9),(a 10),(a 11),(a 12),(a 13)])
noncomputable def Pchk23_pt (k:Nat) (a:Nat→Nat) (t:Nat→Tok) (e:Nat→Nat) (m:Nat→Int) (y:Array Value) (n i g:Nat):Nat→Tok:=(lk [(t 0),(t 1),(t 2),(t 3),(t 4),(t 5),(t 6),(t 7),(t 8),(t 9),(t 10),(t 11),(t 12),(t 13),(t 14),(t 15),(t 16),(t 17),(t 26),(t 27),(t 18),(t 19),(t 20),(t 21),(t 22),(t 23),(t 24),(t 25)])
noncomputable def Pchk23_pe (k:Nat) (a:Nat→Nat) (t:Nat→Tok) (e:Nat→Nat) (m:Nat→Int) (y:Array Value) (n i g:Nat):Nat→Nat:=(lk [(e 0),(e 1),(e 2+1),(e 3)])
noncomputable def Pchk23_pm (k:Nat) (a:Nat→Nat) (t:Nat→Tok) (e:Nat→Nat) (m:Nat→Int) (y:Array Value) (n i g:Nat):Nat→Int:=(lk [(m 0),(m 1)])
noncomputable def Pchk23_py (k:Nat) (a:Nat→Nat) (t:Nat→Tok) (e:Nat→Nat) (m:Nat→Int) (y:Array Value) (n i g:Nat):Array Value:=y
noncomputable def Pchk23_r (p:Params) (k:Nat) (a:Nat→Nat) (t:Nat→Tok) (e:Nat→Nat) (m:Nat→Int) (y:Array Value) (n i g:Nat):Rl :=
  ⟨.call (.ref 157) ⟨[(.ref (a 0+305)),(.str ⟨#[]⟩ (t 26)),(.str ⟨#[59]⟩ (t 27))],[]⟩,
   fs 4 [1,1,1] true true p a t e m y,n+305,i,g,.none,
   fs 4 [1,1,1,1] true true p (Pchk23_pa k a t e m y n i g) (Pchk23_pt k a t e m y n i g) (Pchk23_pe k a t e m y n i g) (Pchk23_pm k a t e m y n i g) (Pchk23_py k a t e m y n i g),n+305+24,i+48,g+1,300,false⟩
noncomputable def Pchk23_l (p:Params) (k:Nat) (a:Nat→Nat) (t:Nat→Tok) (e:Nat→Nat) (m:Nat→Int) (y:Array Value) (n i g:Nat):List Rl:=[Plen20_r p 0 (lk [(a 3),(a 4),(a 5),(a 6),(a 7),(n+2),(a 8),(a 10),(a 11)]) (lk [(t 10),(t 11),(t 12),(t 13),(t 14),(t 15),(t 16),(t 17),(t 26),(t 27),(t 18),(t 19),(t 20),(t 21)]) (lk [(e 2+1),(e 3)]) (lk [(m 0)]) y (n+3) (i+8) (g+0)]
noncomputable def Ph21:List Nat:=unp 123 0x4c00b2c00002c00002ca18500618618641ffc00000071401040000040000040c00071c70070411c6000006000006000006040041001040041000000041185000000140000140000143002080000080000081001040041001040000
theorem Pchk23 (V:XV) (a:Nat→Nat) (t:Nat→Tok) (e:Nat→Nat) (m:Nat→Int) (y:Array Value) (n i g:Nat) (hy:y.size ≤ 100):AllLt (fun k=>OkR V (Pchk23_r V.w.params k a t e m y n i g)) 1 :=
  ⟨trivial,
  okR_of (rules:=Pchk23_l V.w.params 0 a t e m y n i g) (fuel:=187) (hs:=Ph21) (idx:=[10,11,12,0,1,2,3,4,5,6,13,7,14]) (kk:=15) (kg:=0) rfl rfl rfl (by intro A Q R G; kernel_rfl) (fun _ _ hb=>⟨Plen20_ok hb hy (by decide),trivial⟩)⟩
theorem Pchk23_ok {V:XV} {b:Nat} (B:Base V b) {k:Nat} {a:Nat→Nat} {t:Nat→Tok} {e:Nat→Nat} {m:Nat→Int} {y:Array Value} {n i g:Nat} (hy:y.size ≤ 100) (hk:k < 1):RlOk V (Pchk23_r V.w.params k a t e m y n i g):=OkR.rl ((Pchk23 V a t e m y n i g hy).get hk) B
noncomputable def Pstr24_s (k:Nat):List (Str):=lk [[⟨#[59]⟩,⟨#[59]⟩,⟨#[59]⟩,⟨#[59,59,59]⟩],[⟨#[59]⟩,⟨#[59]⟩,⟨#[45,59]⟩,⟨#[59,59,45,59]⟩],[⟨#[59]⟩,⟨#[45,59]⟩,⟨#[59]⟩,⟨#[59,45,59,59]⟩],[⟨#[45,59]⟩,⟨#[59]⟩,⟨#[59]⟩,⟨#[45,59,59,59]⟩]] k
noncomputable def Pstr24_r (p:Params) (k:Nat) (a:Nat→Nat) (t:Nat→Tok) (e:Nat→Nat) (m:Nat→Int) (y:Array Value) (n i g:Nat):Rl :=
  ⟨.call (.ref 218) ⟨[(.ref (a 0+305))],[]⟩,
   [((a 0+305),⟨(.ref 244),some (a 1+305),.seq #[(.ref (a 2+305)),(.ref (a 3+305)),(.ref (a 4+305))] (e 0),#[]⟩),((a 1+305),⟨(.type "dict"),none,.dict #[⟨(PyData.keyHash p Pq0),(.str Pq0 (t 0)),(.int 0 (t 1))⟩] (e 1),#[]⟩),((a 2+305),⟨(.type "tuple"),none,.seq #[(.str ⟨#[]⟩ (t 2)),(.str (lk (Pstr24_s k) 0) (t 3))] 0,#[]⟩),((a 3+305),⟨(.type "tuple"),none,.seq #[(.str ⟨#[]⟩ (t 4)),(.str (lk (Pstr24_s k) 1) (t 5))] 0,#[]⟩),((a 4+305),⟨(.type "tuple"),none,.seq #[(.str ⟨#[]⟩ (t 6)),(.str (lk (Pstr24_s k) 2) (t 7))] 0,#[]⟩),(213,⟨.none,none,.fields #[(.int 140 0),(.int 32 0),(.ref (a 5+305))],#[]⟩),((a 5+305),⟨(.type "code"),none,.fields #[(.str Pq1 (t 8)),(.str Pq4 (t 9)),(.str Pq3 (t 10)),(.int 140 0),(.int 1 0),(.int 0 0),(.int 0 0),(.int 51 0),(.ref (a 6+305)),(.bool true),(.int 181 0),(.ref (a 7+305)),.none,.none,.none,.none,(.int (m 0) 0),(.int 140 0),(.str Pq3 (t 11))],#[]⟩)],n+305,i,g,(.str (lk (Pstr24_s k) 3) (i+13)),
   [((a 0+305),⟨(.ref 244),some (a 1+305),.seq #[(.ref (a 2+305)),(.ref (a 3+305)),(.ref (a 4+305))] (e 0),#[]⟩),((a 1+305),⟨(.type "dict"),none,.dict #[⟨(PyData.keyHash p Pq0),(.str Pq0 (t 0)),(.int 0 (t 1))⟩] (e 1),#[]⟩),((a 2+305),⟨(.type "tuple"),none,.seq #[(.str ⟨#[]⟩ (t 2)),(.str (lk (Pstr24_s k) 0) (t 3))] 0,#[]⟩),((a 3+305),⟨(.type "tuple"),none,.seq #[(.str ⟨#[]⟩ (t 4)),(.str (lk (Pstr24_s k) 1) (t 5))] 0,#[]⟩),((a 4+305),⟨(.type "tuple"),none,.seq #[(.str ⟨#[]⟩ (t 6)),(.str (lk (Pstr24_s k) 2) (t 7))] 0,#[]⟩),(213,⟨.none,none,.fields #[(.int 140 0),(.int 32 0),(.ref (a 5+305))],#[]⟩),((a 5+305),⟨(.type "code"),none,.fields #[(.str Pq1 (t 8)),(.str Pq4 (t 9)),(.str Pq3 (t 10)),(.int 140 0),(.int 1 0),(.int 0 0),(.int 0 0),(.int 51 0),(.ref (a 6+305)),(.bool true),(.int 181 0),(.ref (a 7+305)),.none,.none,.none,.none,(.int (m 0) 0),(.int 140 0),(.str Pq3 (t 11))],#[]⟩)],n+305+21,i+14,g+1,250,false⟩
noncomputable def Ph22:List Nat:=unp 244 0x1104005041241041000100e38e34d34004138e00e38038e0010414c10410410530410410414c104104148149248c30c38c30c30004028a28924900104a28028a00a28004104e04104104138104104104e04104104d04d34d20820a208208001006186145140041186006180186001041241041041049041041041241041041201208204104184104104101104300040082081041041042082081082042041041041041000008000040081000002000002040001040000
theorem Pstr24 (V:XV) (a:Nat→Nat) (t:Nat→Tok) (e:Nat→Nat) (m:Nat→Int) (y:Array Value) (n i g:Nat) (hy:y.size ≤ 100):AllLt (fun k=>OkR V (Pstr24_r V.w.params k a t e m y n i g)) 4 :=
  ⟨⟨⟨⟨trivial,
  okR_of (rules:=[]) (fuel:=458) (hs:=Ph22) (idx:=[21,22,23,24,25,26,27]) (kk:=28) (kg:=1) rfl rfl rfl (by intro A Q R G; kernel_rfl) (fun _ _ hb=>trivial)⟩,
  okR_of (rules:=[]) (fuel:=458) (hs:=Ph22) (idx:=[21,22,23,24,25,26,27]) (kk:=28) (kg:=1) rfl rfl rfl (by intro A Q R G; kernel_rfl) (fun _ _ hb=>trivial)⟩,
  okR_of (rules:=[]) (fuel:=458) (hs:=Ph22) (idx:=[21,22,23,24,25,26,27]) (kk:=28) (kg:=1) rfl rfl rfl (by intro A Q R G; kernel_rfl) (fun _ _ hb=>trivial)⟩,
  okR_of (rules:=[]) (fuel:=458) (hs:=Ph22) (idx:=[21,22,23,24,25,26,27]) (kk:=28) (kg:=1) rfl rfl rfl (by intro A Q R G; kernel_rfl) (fun _ _ hb=>trivial)⟩
theorem Pstr24_ok {V:XV} {b:Nat} (B:Base V b) {k:Nat} {a:Nat→Nat} {t:Nat→Tok} {e:Nat→Nat} {m:Nat→Int} {y:Array Value} {n i g:Nat} (hy:y.size ≤ 100) (hk:k < 4):RlOk V (Pstr24_r V.w.params k a t e m y n i g):=OkR.rl ((Pstr24 V a t e m y n i g hy).get hk) B
noncomputable def Pchk25_s (k:Nat):List (Str):=lk [[⟨#[45,59]⟩,⟨#[59,59,59]⟩],[⟨#[45,45,59]⟩,⟨#[59,59,59]⟩],[⟨#[59]⟩,⟨#[59,59,45,59]⟩],[⟨#[45,59]⟩,⟨#[59,59,45,59]⟩],[⟨#[45,45,59]⟩,⟨#[59,59,45,59]⟩],[⟨#[59]⟩,⟨#[59,45,59,59]⟩],[⟨#[45,59]⟩,⟨#[59,45,59,59]⟩],[⟨#[45,45,59]⟩,⟨#[59,45,59,59]⟩],[⟨#[59]⟩,⟨#[45,59,59,59]⟩],[⟨#[45,59]⟩,⟨#[45,59,59,59]⟩],[⟨#[45,45,59]⟩,⟨#[45,59,59,59]⟩],[⟨#[59]⟩,⟨#[59,59,59]⟩],[⟨#[45,59]⟩,⟨#[59,59,59]⟩],[⟨#[45,45,59]⟩,⟨#[59,59,59]⟩]] k
noncomputable def Pchk25_z (k:Nat):List (Int):=lk [[4],[4],[4],[4],[4],[4],[4],[4],[4],[4],[4],[3],[3],[3]] k
noncomputable def Pchk25_u (k:Nat):List (List Nat):=lk [[[1,1,1],[2]],[[1,1,1],[3]],[[1,1,2],[1]],[[1,1,2],[2]],[[1,1,2],[3]],[[1,2,1],[1]],[[1,2,1],[2]],[[1,2,1],[3]],[[2,1,1],[1]],[[2,1,1],[2]],[[2,1,1],[3]],[[1,1,1],[1]],[[1,1,1],[2]],[[1,1,1],[3]]] k
noncomputable def Pchk25_k (k:Nat):List (Nat):=lk [[1,0],[2,0],[3,1],[4,1],[5,1],[6,2],[7,2],[8,2],[9,3],[10,3],[11,3],[0,0],[1,0],[2,0]] k
noncomputable def Pchk25_pa (k:Nat) (a:Nat→Nat) (t:Nat→Tok) (e:Nat→Nat) (m:Nat→Int) (y:Array Value) (n i g:Nat):Nat→Nat:=(lk [(a 0),(a 1),(a 2),(a 3),(a 4),(n+2),(a 8),(a 9),(a 10),(a 11),(a 12),(a 13)])
noncomputable def Pchk25_pt (k:Nat) (a:Nat→Nat) (t:Nat→Tok) (e:Nat→Nat) (m:Nat→Int) (y:Array Value) (n i g:Nat):Nat→Tok:=(lk [(t 0),(t 1),(t 2),(t 3),(t 4),(t 5),(t 6),(t 7),(t 8),(t 9),(t 10),(i+96),(t 26),(t 27),(t 18),(t 19),(t 20),(t 21),(t 22),(t 23),(t 24),(t 25)])
noncomputable def Pchk25_pe (k:Nat) (a:Nat→Nat) (t:Nat→Tok) (e:Nat→Nat) (m:Nat→Int) (y:Array Value) (n i g:Nat):Nat→Nat:=(lk [(e 0),(e 1+1),(e 2+3),(e 3)])
noncomputable def Pchk25_pm (k:Nat) (a:Nat→Nat) (t:Nat→Tok) (e:Nat→Nat) (m:Nat→Int) (y:Array Value) (n i g:Nat):Nat→Int:=(lk [(m 0),(m 1)])
noncomputable def Pchk25_py (k:Nat) (a:Nat→Nat) (t:Nat→Tok) (e:Nat→Nat) (m:Nat→Int) (y:Array Value) (n i g:Nat):Array Value:=(y.push (.str (lk (Pchk25_s k) 1) (i+92)))
noncomputable def Pchk25_r (p:Params) (k:Nat) (a:Nat→Nat) (t:Nat→Tok) (e:Nat→Nat) (m:Nat→Int) (y:Array Value) (n i g:Nat):Rl :=
  ⟨.call (.ref 157) ⟨[(.ref (a 0+305)),(.str ⟨#[]⟩ (t 26)),(.str (lk (Pchk25_s k) 0) (t 27))],[]⟩,
   fs (lk (Pchk25_z k) 0) (lk (Pchk25_u k) 0) true true p a t e m y,n+305,i,g,.none,
   fs (lk (Pchk25_z k) 0) (lk (Pchk25_u k) 1) true true p (Pchk25_pa k a t e m y n i g) (Pchk25_pt k a t e m y n i g) (Pchk25_pe k a t e m y n i g) (Pchk25_pm k a t e m y n i g) (Pchk25_py k a t e m y n i g),n+305+58,i+99,g+2,300,false⟩
noncomputable def Pchk25_l (p:Params) (k:Nat) (a:Nat→Nat) (t:Nat→Tok) (e:Nat→Nat) (m:Nat→Int) (y:Array Value) (n i g:Nat):List Rl:=[Plen20_r p (lk (Pchk25_k k) 0) (lk [(a 3),(a 4),(a 5),(a 6),(a 7),(n+2),(a 8),(a 10),(a 11)]) (lk [(t 10),(t 11),(t 12),(t 13),(t 14),(t 15),(t 16),(t 17),(t 26),(t 27),(t 18),(t 19),(t 20),(t 21)]) (lk [(e 2+1),(e 3)]) (lk [(m 0)]) y (n+3) (i+8) (g+0),
  Pstr24_r p (lk (Pchk25_k k) 1) (lk [(a 3),(a 4),(a 5),(a 6),(a 7),(a 9),(a 12),(a 13)]) (lk [(t 10),(t 11),(t 12),(t 13),(t 14),(t 15),(t 16),(t 17),(t 22),(t 23),(t 24),(t 25)]) (lk [(e 2+2),(e 3)]) (lk [(m 1)]) y (n+35) (i+79) (g+1),
  app_r (a 2+305) y (e 1) (.str (lk (Pchk25_s k) 1) (i+92)) (n+56) (i+93) (g+2)]
noncomputable def Ph23:List Nat:=unp 506 0x514500010000010010010000010210410434d0410410401000001001010410010400410000000180c200000008000008000009a0196400006400006586527ff3dffd34cb2cb2cb45ffc000000c1170165800005800005950006186185c059600001600001655554014c30c30208104104100c00000c00c1040c30090410410402400002402400002410400410010400000004081c00000070000070000074804510000110000114014104104002cb2cb2c70070000070070000074120114400004400004504104000410410410410410410410410410410450410040000410410410410410410041000410400010000000000410000000c200000008000008000008d00c30000030000030b0002cb00104104104104c00b2c00002c00002ca04c00b2c00002c00002ca18500618618641ffc00000071401040000040000040c00071c70070411c6000006000006000006040041001040041000000041185000000140000140000143002080000080000081001040041001040000
theorem Pchk25 (V:XV) (a:Nat→Nat) (t:Nat→Tok) (e:Nat→Nat) (m:Nat→Int) (y:Array Value) (n i g:Nat) (hy:y.size ≤ 100):AllLt (fun k=>OkR V (Pchk25_r V.w.params k a t e m y n i g)) 14 :=
  ⟨⟨⟨⟨⟨⟨⟨⟨⟨⟨⟨⟨⟨⟨trivial,
  okR_of (rules:=Pchk25_l V.w.params 0 a t e m y n i g) (fuel:=862) (hs:=Ph23) (idx:=[26,27,2,3,4,21,22,8,23,9]) (kk:=28) (kg:=0) rfl rfl rfl (by intro A Q R G; kernel_rfl) (fun _ _ hb=>⟨Plen20_ok hb hy (by decide),Pstr24_ok hb hy (by decide),app_ok hy,trivial⟩)⟩,
  okR_of (rules:=Pchk25_l V.w.params 1 a t e m y n i g) (fuel:=862) (hs:=Ph23) (idx:=[26,27,2,3,4,21,22,8,23,9]) (kk:=28) (kg:=0) rfl rfl rfl (by intro A Q R G; kernel_rfl) (fun _ _ hb=>⟨Plen20_ok hb hy (by decide),Pstr24_ok hb hy (by decide),app_ok hy,trivial⟩)⟩,
  okR_of (rules:=Pchk25_l V.w.params 2 a t e m y n i g) (fuel:=862) (hs:=Ph23) (idx:=[26,27,2,3,4,21,22,8,23,9]) (kk:=28) (kg:=0) rfl rfl rfl (by intro A Q R G; kernel_rfl) (fun _ _ hb=>⟨Plen20_ok hb hy (by decide),Pstr24_ok hb hy (by decide),app_ok hy,trivial⟩)⟩,
  okR_of (rules:=Pchk25_l V.w.params 3 a t e m y n i g) (fuel:=862) (hs:=Ph23) (idx:=[26,27,2,3,4,21,22,8,23,9]) (kk:=28) (kg:=0) rfl rfl rfl (by intro A Q R G; kernel_rfl) (fun _ _ hb=>⟨Plen20_ok hb hy (by decide),Pstr24_ok hb hy (by decide),app_ok hy,trivial⟩)⟩,
  okR_of (rules:=Pchk25_l V.w.params 4 a t e m y n i g) (fuel:=862) (hs:=Ph23) (idx:=[26,27,2,3,4,21,22,8,23,9]) (kk:=28) (kg:=0) rfl rfl rfl (by intro A Q R G; kernel_rfl) (fun _ _ hb=>⟨Plen20_ok hb hy (by decide),Pstr24_ok hb hy (by decide),app_ok hy,trivial⟩)⟩,
  okR_of (rules:=Pchk25_l V.w.params 5 a t e m y n i g) (fuel:=862) (hs:=Ph23) (idx:=[26,27,2,3,4,21,22,8,23,9]) (kk:=28) (kg:=0) rfl rfl rfl (by intro A Q R G; kernel_rfl) (fun _ _ hb=>⟨Plen20_ok hb hy (by decide),Pstr24_ok hb hy (by decide),app_ok hy,trivial⟩)⟩,
  okR_of (rules:=Pchk25_l V.w.params 6 a t e m y n i g) (fuel:=862) (hs:=Ph23) (idx:=[26,27,2,3,4,21,22,8,23,9]) (kk:=28) (kg:=0) rfl rfl rfl (by intro A Q R G; kernel_rfl) (fun _ _ hb=>⟨Plen20_ok hb hy (by decide),Pstr24_ok hb hy (by decide),app_ok hy,trivial⟩)⟩,
  okR_of (rules:=Pchk25_l V.w.params 7 a t e m y n i g) (fuel:=862) (hs:=Ph23) (idx:=[26,27,2,3,4,21,22,8,23,9]) (kk:=28) (kg:=0) rfl rfl rfl (by intro A Q R G; kernel_rfl) (fun _ _ hb=>⟨Plen20_ok hb hy (by decide),Pstr24_ok hb hy (by decide),app_ok hy,trivial⟩)⟩,
  okR_of (rules:=Pchk25_l V.w.params 8 a t e m y n i g) (fuel:=862) (hs:=Ph23) (idx:=[26,27,2,3,4,21,22,8,23,9]) (kk:=28) (kg:=0) rfl rfl rfl (by intro A Q R G; kernel_rfl) (fun _ _ hb=>⟨Plen20_ok hb hy (by decide),Pstr24_ok hb hy (by decide),app_ok hy,trivial⟩)⟩,
  okR_of (rules:=Pchk25_l V.w.params 9 a t e m y n i g) (fuel:=862) (hs:=Ph23) (idx:=[26,27,2,3,4,21,22,8,23,9]) (kk:=28) (kg:=0) rfl rfl rfl (by intro A Q R G; kernel_rfl) (fun _ _ hb=>⟨Plen20_ok hb hy (by decide),Pstr24_ok hb hy (by decide),app_ok hy,trivial⟩)⟩,
  okR_of (rules:=Pchk25_l V.w.params 10 a t e m y n i g) (fuel:=862) (hs:=Ph23) (idx:=[26,27,2,3,4,21,22,8,23,9]) (kk:=28) (kg:=0) rfl rfl rfl (by intro A Q R G; kernel_rfl) (fun _ _ hb=>⟨Plen20_ok hb hy (by decide),Pstr24_ok hb hy (by decide),app_ok hy,trivial⟩)⟩,
  okR_of (rules:=Pchk25_l V.w.params 11 a t e m y n i g) (fuel:=862) (hs:=Ph23) (idx:=[26,27,2,3,4,21,22,8,23,9]) (kk:=28) (kg:=0) rfl rfl rfl (by intro A Q R G; kernel_rfl) (fun _ _ hb=>⟨Plen20_ok hb hy (by decide),Pstr24_ok hb hy (by decide),app_ok hy,trivial⟩)⟩,
  okR_of (rules:=Pchk25_l V.w.params 12 a t e m y n i g) (fuel:=862) (hs:=Ph23) (idx:=[26,27,2,3,4,21,22,8,23,9]) (kk:=28) (kg:=0) rfl rfl rfl (by intro A Q R G; kernel_rfl) (fun _ _ hb=>⟨Plen20_ok hb hy (by decide),Pstr24_ok hb hy (by decide),app_ok hy,trivial⟩)⟩,
  okR_of (rules:=Pchk25_l V.w.params 13 a t e m y n i g) (fuel:=862) (hs:=Ph23) (idx:=[26,27,2,3,4,21,22,8,23,9]) (kk:=28) (kg:=0) rfl rfl rfl (by intro A Q R G; kernel_rfl) (fun _ _ hb=>⟨Plen20_ok hb hy (by decide),Pstr24_ok hb hy (by decide),app_ok hy,trivial⟩)⟩
theorem Pchk25_ok {V:XV} {b:Nat} (B:Base V b) {k:Nat} {a:Nat→Nat} {t:Nat→Tok} {e:Nat→Nat} {m:Nat→Int} {y:Array Value} {n i g:Nat} (hy:y.size ≤ 100) (hk:k < 14):RlOk V (Pchk25_r V.w.params k a t e m y n i g):=OkR.rl ((Pchk25 V a t e m y n i g hy).get hk) B
noncomputable def Pnwl26_z (k:Nat):List (Int):=lk [[4],[4],[4],[4],[3]] k
noncomputable def Pnwl26_u (k:Nat):List (List Nat):=lk [[[1,1,1]],[[1,1,2]],[[1,2,1]],[[2,1,1]],[[1,1,1]]] k
noncomputable def Pnwl26_s (k:Nat):List (Str):=lk [[⟨#[59,59,59]⟩],[⟨#[59,59,45,59]⟩],[⟨#[59,45,59,59]⟩],[⟨#[45,59,59,59]⟩],[⟨#[59,59,59]⟩]] k
noncomputable def Pnwl26_k (k:Nat):List (Nat):=lk [[0,0],[1,1],[3,2],[6,3],[0,0]] k
noncomputable def Pnwl26_pa (k:Nat) (a:Nat→Nat) (t:Nat→Tok) (e:Nat→Nat) (m:Nat→Int) (y:Array Value) (n i g:Nat):Nat→Nat:=(lk [(a 0),(a 1),(a 2),(a 3),(a 4),(a 8),(a 9),(a 10),(a 11),(a 12),(a 13)])
noncomputable def Pnwl26_pt (k:Nat) (a:Nat→Nat) (t:Nat→Tok) (e:Nat→Nat) (m:Nat→Int) (y:Array Value) (n i g:Nat):Nat→Tok:=(lk [(t 0),(t 1),(t 2),(t 3),(t 4),(t 5),(t 6),(t 7),(t 8),(t 9),(t 10),(i+118),(t 18),(t 19),(t 20),(t 21),(t 22),(t 23),(t 24),(t 25)])
noncomputable def Pnwl26_pe (k:Nat) (a:Nat→Nat) (t:Nat→Tok) (e:Nat→Nat) (m:Nat→Int) (y:Array Value) (n i g:Nat):Nat→Nat:=(lk [(e 0),(e 1+1),(e 2+3),(e 3)])
noncomputable def Pnwl26_pm (k:Nat) (a:Nat→Nat) (t:Nat→Tok) (e:Nat→Nat) (m:Nat→Int) (y:Array Value) (n i g:Nat):Nat→Int:=(lk [(m 0),(m 1)])
noncomputable def Pnwl26_py (k:Nat) (a:Nat→Nat) (t:Nat→Tok) (e:Nat→Nat) (m:Nat→Int) (y:Array Value) (n i g:Nat):Array Value:=(y.push (.str (lk (Pnwl26_s k) 0) (i+113)))
noncomputable def Pnwl26_r (p:Params) (k:Nat) (a:Nat→Nat) (t:Nat→Tok) (e:Nat→Nat) (m:Nat→Int) (y:Array Value) (n i g:Nat):Rl :=
  ⟨.call (.ref 122) ⟨[(.ref (a 0+305))],[]⟩,
   fs (lk (Pnwl26_z k) 0) (lk (Pnwl26_u k) 0) true true p a t e m y,n+305,i,g,.none,
   fs (lk (Pnwl26_z k) 0) [] true true p (Pnwl26_pa k a t e m y n i g) (Pnwl26_pt k a t e m y n i g) (Pnwl26_pe k a t e m y n i g) (Pnwl26_pm k a t e m y n i g) (Pnwl26_py k a t e m y n i g),n+305+94,i+121,g+4,300,false⟩
noncomputable def Pnwl26_l (p:Params) (k:Nat) (a:Nat→Nat) (t:Nat→Tok) (e:Nat→Nat) (m:Nat→Int) (y:Array Value) (n i g:Nat):List Rl:=[Plen12_r p (lk (Pnwl26_k k) 0) (lk [(a 3),(a 4),(a 5),(a 6),(n+11),(a 8),(a 10),(a 11)]) (lk [(t 10),(t 11),(t 12),(t 13),(t 14),(t 15),(t 16),(t 17),(t 18),(t 19),(t 20),(t 21)]) (lk [(e 2+2),(e 3)]) (lk [(m 0)]) y (n+12) (i+17) (g+0),
  Plen12_r p (lk (Pnwl26_k k) 0) (lk [(a 3),(a 4),(a 5),(a 6),(n+11),(a 8),(a 10),(a 11)]) (lk [(t 10),(t 11),(t 12),(t 13),(t 14),(t 15),(t 16),(t 17),(t 18),(t 19),(t 20),(t 21)]) (lk [(e 2+2),(e 3)]) (lk [(m 0)]) y (n+31) (i+53) (g+1),
  Pstr24_r p (lk (Pnwl26_k k) 1) (lk [(a 3),(a 4),(a 5),(a 6),(n+11),(a 9),(a 12),(a 13)]) (lk [(t 10),(t 11),(t 12),(t 13),(t 14),(t 15),(t 16),(t 17),(t 22),(t 23),(t 24),(t 25)]) (lk [(e 2+2),(e 3)]) (lk [(m 1)]) y (n+49) (i+84) (g+2),
  Pstr24_r p (lk (Pnwl26_k k) 1) (lk [(a 3),(a 4),(a 5),(a 6),(n+11),(a 9),(a 12),(a 13)]) (lk [(t 10),(t 11),(t 12),(t 13),(t 14),(t 15),(t 16),(t 17),(t 22),(t 23),(t 24),(t 25)]) (lk [(e 2+2),(e 3)]) (lk [(m 1)]) y (n+70) (i+100) (g+3),
  app_r (a 2+305) y (e 1) (.str (lk (Pnwl26_s k) 0) (i+113)) (n+91) (i+114) (g+4)]
noncomputable def Ph24:List Nat:=unp 502 0x61860001400001401401400001431451450820410410401400001401420820800400410010400000000c20000000800000800000980175c00005c00005d65d47ff3dffc00000000004dffc00000011170165800005800005950006186185c059600001600001655248000000049ffc00000011080000410410410517ff0000000800000800000810430020800000800800000000020400410000000810000000400000400000540134c00004c00004d20503c03cf3cf41ffc000001038034d00000d00000d30001041001004140f00000f00000f00000f04004100104004100000200204104105249124034030c00000000030030000000000c2802490000090000092010500500500501c71c02cb2cb0002cb00b04100a00004104104104104104100a280041040004000000001241040200001041041041041041040208001041000040000000001040000007180000006000006000006040041000000185000000140000140000143002080000080000081001040000
theorem Pnwl26 (V:XV) (a:Nat→Nat) (t:Nat→Tok) (e:Nat→Nat) (m:Nat→Int) (y:Array Value) (n i g:Nat) (hy:y.size ≤ 100):AllLt (fun k=>OkR V (Pnwl26_r V.w.params k a t e m y n i g)) 5 :=
  ⟨⟨⟨⟨⟨trivial,
  okR_of (rules:=Pnwl26_l V.w.params 0 a t e m y n i g) (fuel:=784) (hs:=Ph24) (idx:=[25,26,3,4,5,11,9,12,10]) (kk:=28) (kg:=0) rfl rfl rfl (by intro A Q R G; kernel_rfl) (fun _ _ hb=>⟨Plen12_ok hb hy (by decide),Plen12_ok hb hy (by decide),Pstr24_ok hb hy (by decide),Pstr24_ok hb hy (by decide),app_ok hy,trivial⟩)⟩,
  okR_of (rules:=Pnwl26_l V.w.params 1 a t e m y n i g) (fuel:=784) (hs:=Ph24) (idx:=[25,26,3,4,5,11,9,12,10]) (kk:=28) (kg:=0) rfl rfl rfl (by intro A Q R G; kernel_rfl) (fun _ _ hb=>⟨Plen12_ok hb hy (by decide),Plen12_ok hb hy (by decide),Pstr24_ok hb hy (by decide),Pstr24_ok hb hy (by decide),app_ok hy,trivial⟩)⟩,
  okR_of (rules:=Pnwl26_l V.w.params 2 a t e m y n i g) (fuel:=784) (hs:=Ph24) (idx:=[25,26,3,4,5,11,9,12,10]) (kk:=28) (kg:=0) rfl rfl rfl (by intro A Q R G; kernel_rfl) (fun _ _ hb=>⟨Plen12_ok hb hy (by decide),Plen12_ok hb hy (by decide),Pstr24_ok hb hy (by decide),Pstr24_ok hb hy (by decide),app_ok hy,trivial⟩)⟩,
  okR_of (rules:=Pnwl26_l V.w.params 3 a t e m y n i g) (fuel:=784) (hs:=Ph24) (idx:=[25,26,3,4,5,11,9,12,10]) (kk:=28) (kg:=0) rfl rfl rfl (by intro A Q R G; kernel_rfl) (fun _ _ hb=>⟨Plen12_ok hb hy (by decide),Plen12_ok hb hy (by decide),Pstr24_ok hb hy (by decide),Pstr24_ok hb hy (by decide),app_ok hy,trivial⟩)⟩,
  okR_of (rules:=Pnwl26_l V.w.params 4 a t e m y n i g) (fuel:=784) (hs:=Ph24) (idx:=[25,26,3,4,5,11,9,12,10]) (kk:=28) (kg:=0) rfl rfl rfl (by intro A Q R G; kernel_rfl) (fun _ _ hb=>⟨Plen12_ok hb hy (by decide),Plen12_ok hb hy (by decide),Pstr24_ok hb hy (by decide),Pstr24_ok hb hy (by decide),app_ok hy,trivial⟩)⟩
theorem Pnwl26_ok {V:XV} {b:Nat} (B:Base V b) {k:Nat} {a:Nat→Nat} {t:Nat→Tok} {e:Nat→Nat} {m:Nat→Int} {y:Array Value} {n i g:Nat} (hy:y.size ≤ 100) (hk:k < 5):RlOk V (Pnwl26_r V.w.params k a t e m y n i g):=OkR.rl ((Pnwl26 V a t e m y n i g hy).get hk) B
noncomputable def Plen27_s (k:Nat):List (Str):=lk [[⟨#[59]⟩],[⟨#[45,59]⟩],[⟨#[45,45,59]⟩]] k
noncomputable def Plen27_z (k:Nat):List (Int):=lk [[5],[6],[7]] k
noncomputable def Plen27_r (p:Params) (k:Nat) (a:Nat→Nat) (t:Nat→Tok) (e:Nat→Nat) (m:Nat→Int) (y:Array Value) (n i g:Nat):Rl :=
  ⟨.call (.ref 211) ⟨[(.ref (a 0+305))],[]⟩,
   [((a 0+305),⟨(.ref 244),some (a 1+305),.seq #[(.ref (a 2+305)),(.ref (a 3+305)),(.ref (a 4+305)),(.ref (a 5+305)),(.ref (a 6+305))] (e 0),#[]⟩),((a 1+305),⟨(.type "dict"),none,.dict #[⟨(PyData.keyHash p Pq0),(.str Pq0 (t 0)),(.int 0 (t 1))⟩] (e 1),#[]⟩),((a 2+305),⟨(.type "tuple"),none,.seq #[(.str ⟨#[]⟩ (t 2)),(.str ⟨#[59]⟩ (t 3))] 0,#[]⟩),((a 3+305),⟨(.type "tuple"),none,.seq #[(.str ⟨#[]⟩ (t 4)),(.str ⟨#[59]⟩ (t 5))] 0,#[]⟩),((a 4+305),⟨(.type "tuple"),none,.seq #[(.str ⟨#[]⟩ (t 6)),(.str ⟨#[59]⟩ (t 7))] 0,#[]⟩),((a 5+305),⟨(.type "tuple"),none,.seq #[(.str ⟨#[]⟩ (t 8)),(.str ⟨#[59]⟩ (t 9))] 0,#[]⟩),((a 6+305),⟨(.type "tuple"),none,.seq #[(.str ⟨#[]⟩ (t 10)),(.str (lk (Plen27_s k) 0) (t 11))] 0,#[]⟩),(206,⟨.none,none,.fields #[(.int 137 0),(.int 19 0),(.ref (a 7+305))],#[]⟩),((a 7+305),⟨(.type "code"),none,.fields #[(.str Pq1 (t 12)),(.str Pq2 (t 13)),(.str Pq3 (t 14)),(.int 137 0),(.int 1 0),(.int 0 0),(.int 0 0),(.int 51 0),(.ref (a 8+305)),(.bool true),(.int 181 0),(.ref (a 9+305)),.none,.none,.none,.none,(.int (m 0) 0),(.int 137 0),(.str Pq3 (t 15))],#[]⟩)],n+305,i,g,(.int (lk (Plen27_z k) 0) (i+45)),
   [((a 0+305),⟨(.ref 244),some (a 1+305),.seq #[(.ref (a 2+305)),(.ref (a 3+305)),(.ref (a 4+305)),(.ref (a 5+305)),(.ref (a 6+305))] (e 0),#[]⟩),((a 1+305),⟨(.type "dict"),none,.dict #[⟨(PyData.keyHash p Pq0),(.str Pq0 (t 0)),(.int 0 (t 1))⟩] (e 1),#[]⟩),((a 2+305),⟨(.type "tuple"),none,.seq #[(.str ⟨#[]⟩ (t 2)),(.str ⟨#[59]⟩ (t 3))] 0,#[]⟩),((a 3+305),⟨(.type "tuple"),none,.seq #[(.str ⟨#[]⟩ (t 4)),(.str ⟨#[59]⟩ (t 5))] 0,#[]⟩),((a 4+305),⟨(.type "tuple"),none,.seq #[(.str ⟨#[]⟩ (t 6)),(.str ⟨#[59]⟩ (t 7))] 0,#[]⟩),((a 5+305),⟨(.type "tuple"),none,.seq #[(.str ⟨#[]⟩ (t 8)),(.str ⟨#[59]⟩ (t 9))] 0,#[]⟩),((a 6+305),⟨(.type "tuple"),none,.seq #[(.str ⟨#[]⟩ (t 10)),(.str (lk (Plen27_s k) 0) (t 11))] 0,#[]⟩),(206,⟨.none,none,.fields #[(.int 137 0),(.int 19 0),(.ref (a 7+305))],#[]⟩),((a 7+305),⟨(.type "code"),none,.fields #[(.str Pq1 (t 12)),(.str Pq2 (t 13)),(.str Pq3 (t 14)),(.int 137 0),(.int 1 0),(.int 0 0),(.int 0 0),(.int 51 0),(.ref (a 8+305)),(.bool true),(.int 181 0),(.ref (a 9+305)),.none,.none,.none,.none,(.int (m 0) 0),(.int 137 0),(.str Pq3 (t 15))],#[]⟩)],n+305+24,i+46,g+1,250,false⟩
noncomputable def Ph25:List Nat:=unp 371 0x400534d54d34d300101145141041001200048001248049200104164104104105904104104164104104160161861041049041040004038e38d34d3403c000f0003cf00f3c004105504104104154104104105504104105405451434d34f34d34d00100b2cb28a28a00c00030000c30030c00104144104104105104104104144104104140141040a28a30a28a2800402082071c71c024000900024900924004104d04104104134104104104d04104104c04c30c1c71c91c71c7001005145104104006000180006180186001041241041041049041041041241041041201208204104184104104101104300040082081041041046005140000140140000000005101040000280001002040000080000081000001040000
theorem Plen27 (V:XV) (a:Nat→Nat) (t:Nat→Tok) (e:Nat→Nat) (m:Nat→Int) (y:Array Value) (n i g:Nat) (hy:y.size ≤ 100):AllLt (fun k=>OkR V (Plen27_r V.w.params k a t e m y n i g)) 3 :=
  ⟨⟨⟨trivial,
  okR_of (rules:=[]) (fuel:=777) (hs:=Ph25) (idx:=[24,25,26,27,28,29,30,31,32]) (kk:=33) (kg:=1) rfl rfl rfl (by intro A Q R G; kernel_rfl) (fun _ _ hb=>trivial)⟩,
  okR_of (rules:=[]) (fuel:=777) (hs:=Ph25) (idx:=[24,25,26,27,28,29,30,31,32]) (kk:=33) (kg:=1) rfl rfl rfl (by intro A Q R G; kernel_rfl) (fun _ _ hb=>trivial)⟩,
  okR_of (rules:=[]) (fuel:=777) (hs:=Ph25) (idx:=[24,25,26,27,28,29,30,31,32]) (kk:=33) (kg:=1) rfl rfl rfl (by intro A Q R G; kernel_rfl) (fun _ _ hb=>trivial)⟩
theorem Plen27_ok {V:XV} {b:Nat} (B:Base V b) {k:Nat} {a:Nat→Nat} {t:Nat→Tok} {e:Nat→Nat} {m:Nat→Int} {y:Array Value} {n i g:Nat} (hy:y.size ≤ 100) (hk:k < 3):RlOk V (Plen27_r V.w.params k a t e m y n i g):=OkR.rl ((Plen27 V a t e m y n i g hy).get hk) B
noncomputable def Pstr28_r (p:Params) (k:Nat) (a:Nat→Nat) (t:Nat→Tok) (e:Nat→Nat) (m:Nat→Int) (y:Array Value) (n i g:Nat):Rl :=
  ⟨.call (.ref 218) ⟨[(.ref (a 0+305))],[]⟩,
   [((a 0+305),⟨(.ref 244),some (a 1+305),.seq #[(.ref (a 2+305)),(.ref (a 3+305)),(.ref (a 4+305)),(.ref (a 5+305))] (e 0),#[]⟩),((a 1+305),⟨(.type "dict"),none,.dict #[⟨(PyData.keyHash p Pq0),(.str Pq0 (t 0)),(.int 0 (t 1))⟩] (e 1),#[]⟩),((a 2+305),⟨(.type "tuple"),none,.seq #[(.str ⟨#[]⟩ (t 2)),(.str ⟨#[59]⟩ (t 3))] 0,#[]⟩),((a 3+305),⟨(.type "tuple"),none,.seq #[(.str ⟨#[]⟩ (t 4)),(.str ⟨#[59]⟩ (t 5))] 0,#[]⟩),((a 4+305),⟨(.type "tuple"),none,.seq #[(.str ⟨#[]⟩ (t 6)),(.str ⟨#[59]⟩ (t 7))] 0,#[]⟩),((a 5+305),⟨(.type "tuple"),none,.seq #[(.str ⟨#[]⟩ (t 8)),(.str ⟨#[59]⟩ (t 9))] 0,#[]⟩),(213,⟨.none,none,.fields #[(.int 140 0),(.int 32 0),(.ref (a 6+305))],#[]⟩),((a 6+305),⟨(.type "code"),none,.fields #[(.str Pq1 (t 10)),(.str Pq4 (t 11)),(.str Pq3 (t 12)),(.int 140 0),(.int 1 0),(.int 0 0),(.int 0 0),(.int 51 0),(.ref (a 7+305)),(.bool true),(.int 181 0),(.ref (a 8+305)),.none,.none,.none,.none,(.int (m 0) 0),(.int 140 0),(.str Pq3 (t 13))],#[]⟩)],n+305,i,g,(.str ⟨#[59,59,59,59]⟩ (i+16)),
   [((a 0+305),⟨(.ref 244),some (a 1+305),.seq #[(.ref (a 2+305)),(.ref (a 3+305)),(.ref (a 4+305)),(.ref (a 5+305))] (e 0),#[]⟩),((a 1+305),⟨(.type "dict"),none,.dict #[⟨(PyData.keyHash p Pq0),(.str Pq0 (t 0)),(.int 0 (t 1))⟩] (e 1),#[]⟩),((a 2+305),⟨(.type "tuple"),none,.seq #[(.str ⟨#[]⟩ (t 2)),(.str ⟨#[59]⟩ (t 3))] 0,#[]⟩),((a 3+305),⟨(.type "tuple"),none,.seq #[(.str ⟨#[]⟩ (t 4)),(.str ⟨#[59]⟩ (t 5))] 0,#[]⟩),((a 4+305),⟨(.type "tuple"),none,.seq #[(.str ⟨#[]⟩ (t 6)),(.str ⟨#[59]⟩ (t 7))] 0,#[]⟩),((a 5+305),⟨(.type "tuple"),none,.seq #[(.str ⟨#[]⟩ (t 8)),(.str ⟨#[59]⟩ (t 9))] 0,#[]⟩),(213,⟨.none,none,.fields #[(.int 140 0),(.int 32 0),(.ref (a 6+305))],#[]⟩),((a 6+305),⟨(.type "code"),none,.fields #[(.str Pq1 (t 10)),(.str Pq4 (t 11)),(.str Pq3 (t 12)),(.int 140 0),(.int 1 0),(.int 0 0),(.int 0 0),(.int 51 0),(.ref (a 7+305)),(.bool true),(.int 181 0),(.ref (a 8+305)),.none,.none,.none,.none,(.int (m 0) 0),(.int 140 0),(.str Pq3 (t 13))],#[]⟩)],n+305+25,i+17,g+1,250,false⟩
noncomputable def Ph26:List Nat:=unp 301 0x5410015145945145000404924914510010524804920124800410580410410416010410410580410410570575d741041241041000100e38e34d34004138e00e38038e0010414c10410410530410410414c104104148149248c30c38c30c30004028a28924900104a28028a00a28004104e04104104138104104104e04104104d04d34d20820a208208001006186145140041186006180186001041241041041049041041041241041041201208204104184104104101104300040082081041041042082081082042041041041041000009000040081000002000002040001040000
theorem Pstr28 (V:XV) (a:Nat→Nat) (t:Nat→Tok) (e:Nat→Nat) (m:Nat→Int) (y:Array Value) (n i g:Nat) (hy:y.size ≤ 100):AllLt (fun k=>OkR V (Pstr28_r V.w.params k a t e m y n i g)) 1 :=
  ⟨trivial,
  okR_of (rules:=[]) (fuel:=564) (hs:=Ph26) (idx:=[25,26,27,28,29,30,31,32]) (kk:=33) (kg:=1) rfl rfl rfl (by intro A Q R G; kernel_rfl) (fun _ _ hb=>trivial)⟩
theorem Pstr28_ok {V:XV} {b:Nat} (B:Base V b) {k:Nat} {a:Nat→Nat} {t:Nat→Tok} {e:Nat→Nat} {m:Nat→Int} {y:Array Value} {n i g:Nat} (hy:y.size ≤ 100) (hk:k < 1):RlOk V (Pstr28_r V.w.params k a t e m y n i g):=OkR.rl ((Pstr28 V a t e m y n i g hy).get hk) B
noncomputable def Pchk29_s (k:Nat):List (Str):=lk [[⟨#[59]⟩],[⟨#[45,59]⟩],[⟨#[45,45,59]⟩]] k
noncomputable def Pchk29_u (k:Nat):List (List Nat):=lk [[[1]],[[2]],[[3]]] k
noncomputable def Pchk29_k (k:Nat):List (Nat):=lk [[0],[1],[2]] k
noncomputable def Pchk29_pa (k:Nat) (a:Nat→Nat) (t:Nat→Tok) (e:Nat→Nat) (m:Nat→Int) (y:Array Value) (n i g:Nat):Nat→Nat:=(lk [(a 0),(a 1),(a 2),(a 3),(a 4),(n+2),(a 9),(a 10),(a 11),(a 12),(a 13),(a 14)])
noncomputable def Pchk29_pt (k:Nat) (a:Nat→Nat) (t:Nat→Tok) (e:Nat→Nat) (m:Nat→Int) (y:Array Value) (n i g:Nat):Nat→Tok:=(lk [(t 0),(t 1),(t 2),(t 3),(t 4),(t 5),(t 6),(t 7),(t 8),(t 9),(t 10),(i+107),(t 28),(t 29),(t 20),(t 21),(t 22),(t 23),(t 24),(t 25),(t 26),(t 27)])
noncomputable def Pchk29_pe (k:Nat) (a:Nat→Nat) (t:Nat→Tok) (e:Nat→Nat) (m:Nat→Int) (y:Array Value) (n i g:Nat):Nat→Nat:=(lk [(e 0),(e 1+1),(e 2+3),(e 3)])
noncomputable def Pchk29_pm (k:Nat) (a:Nat→Nat) (t:Nat→Tok) (e:Nat→Nat) (m:Nat→Int) (y:Array Value) (n i g:Nat):Nat→Int:=(lk [(m 0),(m 1)])
noncomputable def Pchk29_py (k:Nat) (a:Nat→Nat) (t:Nat→Tok) (e:Nat→Nat) (m:Nat→Int) (y:Array Value) (n i g:Nat):Array Value:=(y.push (.str ⟨#[59,59,59,59]⟩ (i+103)))
noncomputable def Pchk29_r (p:Params) (k:Nat) (a:Nat→Nat) (t:Nat→Tok) (e:Nat→Nat) (m:Nat→Int) (y:Array Value) (n i g:Nat):Rl :=
  ⟨.call (.ref 157) ⟨[(.ref (a 0+305)),(.str ⟨#[]⟩ (t 28)),(.str (lk (Pchk29_s k) 0) (t 29))],[]⟩,
   fs 4 [1,1,1,1] true true p a t e m y,n+305,i,g,.none,
   fs 4 (lk (Pchk29_u k) 0) true true p (Pchk29_pa k a t e m y n i g) (Pchk29_pt k a t e m y n i g) (Pchk29_pe k a t e m y n i g) (Pchk29_pm k a t e m y n i g) (Pchk29_py k a t e m y n i g),n+305+65,i+110,g+2,300,false⟩
noncomputable def Pchk29_l (p:Params) (k:Nat) (a:Nat→Nat) (t:Nat→Tok) (e:Nat→Nat) (m:Nat→Int) (y:Array Value) (n i g:Nat):List Rl:=[Plen27_r p (lk (Pchk29_k k) 0) (lk [(a 3),(a 4),(a 5),(a 6),(a 7),(a 8),(n+2),(a 9),(a 11),(a 12)]) (lk [(t 10),(t 11),(t 12),(t 13),(t 14),(t 15),(t 16),(t 17),(t 18),(t 19),(t 28),(t 29),(t 20),(t 21),(t 22),(t 23)]) (lk [(e 2+1),(e 3)]) (lk [(m 0)]) y (n+3) (i+8) (g+0),
  Pstr28_r p 0 (lk [(a 3),(a 4),(a 5),(a 6),(a 7),(a 8),(a 10),(a 13),(a 14)]) (lk [(t 10),(t 11),(t 12),(t 13),(t 14),(t 15),(t 16),(t 17),(t 18),(t 19),(t 24),(t 25),(t 26),(t 27)]) (lk [(e 2+2),(e 3)]) (lk [(m 1)]) y (n+38) (i+87) (g+1),
  app_r (a 2+305) y (e 1) (.str ⟨#[59,59,59,59]⟩ (i+103)) (n+63) (i+104) (g+2)]
noncomputable def Ph27:List Nat:=unp 508 0x514500010000010010010000010210410438e0410410401000001001010410010400410000000190c200000008000008000009b01a6800006800006996927ff3dffd34cb2cb2cb2d17ff0000003046005d70000170000175800196596580175c00005c00005d659600530c30c0820410410403000003003041030c02410410410090000090090000090410010400410000000112070000001c00001c00001d301248000048000049105145145100c30c30c1c01c00001c01c00001d14c049200001200001245145100104104104104104104104104104104114104010000104104104104104104010400104100004000000000104000000308000000200000200000238034d00000d00000d30000c30004104104104134030c00000c00000c2c134030c00000c00000c2c614018618618641ffc00000071401040000040000040c00071c70070411c6000006000006000006040041001040041000000041185000000140000140000143002080000080000081001040041001040000
theorem Pchk29 (V:XV) (a:Nat→Nat) (t:Nat→Tok) (e:Nat→Nat) (m:Nat→Int) (y:Array Value) (n i g:Nat) (hy:y.size ≤ 100):AllLt (fun k=>OkR V (Pchk29_r V.w.params k a t e m y n i g)) 3 :=
  ⟨⟨⟨trivial,
  okR_of (rules:=Pchk29_l V.w.params 0 a t e m y n i g) (fuel:=863) (hs:=Ph27) (idx:=[27,28,2,3,4,22,23,9,24,10]) (kk:=29) (kg:=0) rfl rfl rfl (by intro A Q R G; kernel_rfl) (fun _ _ hb=>⟨Plen27_ok hb hy (by decide),Pstr28_ok hb hy (by decide),app_ok hy,trivial⟩)⟩,
  okR_of (rules:=Pchk29_l V.w.params 1 a t e m y n i g) (fuel:=863) (hs:=Ph27) (idx:=[27,28,2,3,4,22,23,9,24,10]) (kk:=29) (kg:=0) rfl rfl rfl (by intro A Q R G; kernel_rfl) (fun _ _ hb=>⟨Plen27_ok hb hy (by decide),Pstr28_ok hb hy (by decide),app_ok hy,trivial⟩)⟩,
  okR_of (rules:=Pchk29_l V.w.params 2 a t e m y n i g) (fuel:=863) (hs:=Ph27) (idx:=[27,28,2,3,4,22,23,9,24,10]) (kk:=29) (kg:=0) rfl rfl rfl (by intro A Q R G; kernel_rfl) (fun _ _ hb=>⟨Plen27_ok hb hy (by decide),Pstr28_ok hb hy (by decide),app_ok hy,trivial⟩)⟩
theorem Pchk29_ok {V:XV} {b:Nat} (B:Base V b) {k:Nat} {a:Nat→Nat} {t:Nat→Tok} {e:Nat→Nat} {m:Nat→Int} {y:Array Value} {n i g:Nat} (hy:y.size ≤ 100) (hk:k < 3):RlOk V (Pchk29_r V.w.params k a t e m y n i g):=OkR.rl ((Pchk29 V a t e m y n i g hy).get hk) B
noncomputable def Pnwl30_pa (k:Nat) (a:Nat→Nat) (t:Nat→Tok) (e:Nat→Nat) (m:Nat→Int) (y:Array Value) (n i g:Nat):Nat→Nat:=(lk [(a 0),(a 1),(a 2),(a 3),(a 4),(a 9),(a 10),(a 11),(a 12),(a 13),(a 14)])
noncomputable def Pnwl30_pt (k:Nat) (a:Nat→Nat) (t:Nat→Tok) (e:Nat→Nat) (m:Nat→Int) (y:Array Value) (n i g:Nat):Nat→Tok:=(lk [(t 0),(t 1),(t 2),(t 3),(t 4),(t 5),(t 6),(t 7),(t 8),(t 9),(t 10),(i+140),(t 20),(t 21),(t 22),(t 23),(t 24),(t 25),(t 26),(t 27)])
noncomputable def Pnwl30_pe (k:Nat) (a:Nat→Nat) (t:Nat→Tok) (e:Nat→Nat) (m:Nat→Int) (y:Array Value) (n i g:Nat):Nat→Nat:=(lk [(e 0),(e 1+1),(e 2+3),(e 3)])
noncomputable def Pnwl30_pm (k:Nat) (a:Nat→Nat) (t:Nat→Tok) (e:Nat→Nat) (m:Nat→Int) (y:Array Value) (n i g:Nat):Nat→Int:=(lk [(m 0),(m 1)])
noncomputable def Pnwl30_py (k:Nat) (a:Nat→Nat) (t:Nat→Tok) (e:Nat→Nat) (m:Nat→Int) (y:Array Value) (n i g:Nat):Array Value:=(y.push (.str ⟨#[59,59,59,59]⟩ (i+135)))
noncomputable def Pnwl30_r (p:Params) (k:Nat) (a:Nat→Nat) (t:Nat→Tok) (e:Nat→Nat) (m:Nat→Int) (y:Array Value) (n i g:Nat):Rl :=
  ⟨.call (.ref 122) ⟨[(.ref (a 0+305))],[]⟩,
   fs 4 [1,1,1,1] true true p a t e m y,n+305,i,g,.none,
   fs 4 [] true true p (Pnwl30_pa k a t e m y n i g) (Pnwl30_pt k a t e m y n i g) (Pnwl30_pe k a t e m y n i g) (Pnwl30_pm k a t e m y n i g) (Pnwl30_py k a t e m y n i g),n+305+108,i+143,g+4,300,false⟩
noncomputable def Pnwl30_l (p:Params) (k:Nat) (a:Nat→Nat) (t:Nat→Tok) (e:Nat→Nat) (m:Nat→Int) (y:Array Value) (n i g:Nat):List Rl:=[Plen20_r p 0 (lk [(a 3),(a 4),(a 5),(a 6),(a 7),(n+11),(a 9),(a 11),(a 12)]) (lk [(t 10),(t 11),(t 12),(t 13),(t 14),(t 15),(t 16),(t 17),(t 18),(t 19),(t 20),(t 21),(t 22),(t 23)]) (lk [(e 2+2),(e 3)]) (lk [(m 0)]) y (n+12) (i+17) (g+0),
  Plen20_r p 0 (lk [(a 3),(a 4),(a 5),(a 6),(a 7),(n+11),(a 9),(a 11),(a 12)]) (lk [(t 10),(t 11),(t 12),(t 13),(t 14),(t 15),(t 16),(t 17),(t 18),(t 19),(t 20),(t 21),(t 22),(t 23)]) (lk [(e 2+2),(e 3)]) (lk [(m 0)]) y (n+34) (i+61) (g+1),
  Pstr28_r p 0 (lk [(a 3),(a 4),(a 5),(a 6),(a 7),(n+11),(a 10),(a 13),(a 14)]) (lk [(t 10),(t 11),(t 12),(t 13),(t 14),(t 15),(t 16),(t 17),(t 18),(t 19),(t 24),(t 25),(t 26),(t 27)]) (lk [(e 2+2),(e 3)]) (lk [(m 1)]) y (n+55) (i+100) (g+2),
  Pstr28_r p 0 (lk [(a 3),(a 4),(a 5),(a 6),(a 7),(n+11),(a 10),(a 13),(a 14)]) (lk [(t 10),(t 11),(t 12),(t 13),(t 14),(t 15),(t 16),(t 17),(t 18),(t 19),(t 24),(t 25),(t 26),(t 27)]) (lk [(e 2+2),(e 3)]) (lk [(m 1)]) y (n+80) (i+119) (g+3),
  app_r (a 2+305) y (e 1) (.str ⟨#[59,59,59,59]⟩ (i+135)) (n+105) (i+136) (g+4)]
noncomputable def Ph28:List Nat:=unp 506 0x61860001400001401401400001431451450820410410401400001401420820800400410010400000000c20000000800000800000990186000006000006176147ff3dffc00000000000137ff0000000446005d70000170000175800196596580175c00005c00005d649200000000049ffc000000110900004104104104145ffc00000020000020000020410c00820000020020000000000810010400000020400000010000010000015405140000140000144c140f00f3cf3cf41ffc000001038034d00000d00000d30001041001004140f00000f00000f00000f0400410010400410000020020410410534d224034030c00000000030030000000000c2802490000090000092010510510510511c71c02cb2cb0002cb00b04100a00004104104104104104100a280041040004000000001241040200001041041041041041040208001041000040000000001040000007180000006000006000006040041000000185000000140000140000143002080000080000081001040000
theorem Pnwl30 (V:XV) (a:Nat→Nat) (t:Nat→Tok) (e:Nat→Nat) (m:Nat→Int) (y:Array Value) (n i g:Nat) (hy:y.size ≤ 100):AllLt (fun k=>OkR V (Pnwl30_r V.w.params k a t e m y n i g)) 1 :=
  ⟨trivial,
  okR_of (rules:=Pnwl30_l V.w.params 0 a t e m y n i g) (fuel:=785) (hs:=Ph28) (idx:=[26,27,3,4,5,12,10,13,11]) (kk:=29) (kg:=0) rfl rfl rfl (by intro A Q R G; kernel_rfl) (fun _ _ hb=>⟨Plen20_ok hb hy (by decide),Plen20_ok hb hy (by decide),Pstr28_ok hb hy (by decide),Pstr28_ok hb hy (by decide),app_ok hy,trivial⟩)⟩
theorem Pnwl30_ok {V:XV} {b:Nat} (B:Base V b) {k:Nat} {a:Nat→Nat} {t:Nat→Tok} {e:Nat→Nat} {m:Nat→Int} {y:Array Value} {n i g:Nat} (hy:y.size ≤ 100) (hk:k < 1):RlOk V (Pnwl30_r V.w.params k a t e m y n i g):=OkR.rl ((Pnwl30 V a t e m y n i g hy).get hk) B
end Mine
end
section
open PySem PySem.W PySem.W.X
namespace Mine
noncomputable def chkCases (k:Nat):Nat × List Nat × Bool × Bool × Nat:=lk [(3,[],false,false,1),(3,[],false,false,2),(3,[],false,false,3),(4,[],true,true,1),(4,[],true,true,2),(4,[],true,true,3),(3,[1],true,false,1),(3,[1],true,false,2),(3,[2],true,false,1),(3,[1],true,false,3),(3,[2],true,false,2),(3,[2],true,false,3),(3,[3],true,false,1),(3,[3],true,false,2),(3,[3],true,false,3),(4,[1],true,true,1),(4,[1],true,true,2),(4,[1],true,true,3),(4,[2],true,true,1),(4,[2],true,true,2),(4,[3],true,true,1),(3,[2],true,true,1),(3,[1],true,true,1),(3,[1],true,true,2),(4,[2],true,true,3),(4,[3],true,true,2),(4,[3],true,true,3),(3,[3],true,true,1),(3,[3],true,true,2),(3,[3],true,true,3),(3,[2],true,true,2),(3,[2],true,true,3),(3,[1],true,true,3),(3,[1,1],true,false,1),(3,[1,1],true,false,2),(3,[1,1],true,false,3),(3,[1,2],true,false,1),(3,[1,2],true,false,2),(3,[1,2],true,false,3),(3,[2,1],true,false,1),(3,[2,1],true,false,2),(3,[2,1],true,false,3),(4,[1,1],true,true,1),(4,[1,1],true,true,2),(4,[1,2],true,true,1),(4,[2,1],true,true,1),(3,[1,1],true,true,1),(4,[1,1],true,true,3),(4,[1,2],true,true,2),(4,[1,2],true,true,3),(4,[1,3],true,true,1),(4,[1,3],true,true,2),(4,[1,3],true,true,3),(4,[2,1],true,true,2),(4,[2,1],true,true,3),(4,[2,2],true,true,1),(4,[2,2],true,true,2),(4,[2,2],true,true,3),(4,[3,1],true,true,1),(4,[3,1],true,true,2),(4,[3,1],true,true,3),(3,[2,1],true,true,1),(3,[2,1],true,true,2),(3,[2,1],true,true,3),(3,[1,1],true,true,2),(3,[1,1],true,true,3),(3,[1,2],true,true,1),(3,[1,2],true,true,2),(3,[1,2],true,true,3),(3,[1,1,1],true,false,1),(3,[1,1,1],true,false,2),(3,[1,1,1],true,false,3),(4,[1,1,1],true,true,1),(4,[1,1,1],true,true,2),(4,[1,1,1],true,true,3),(4,[1,1,2],true,true,1),(4,[1,1,2],true,true,2),(4,[1,1,2],true,true,3),(4,[1,2,1],true,true,1),(4,[1,2,1],true,true,2),(4,[1,2,1],true,true,3),(4,[2,1,1],true,true,1),(4,[2,1,1],true,true,2),(4,[2,1,1],true,true,3),(3,[1,1,1],true,true,1),(3,[1,1,1],true,true,2),(3,[1,1,1],true,true,3),(4,[1,1,1,1],true,true,1),(4,[1,1,1,1],true,true,2),(4,[1,1,1,1],true,true,3)] k
theorem chk_all (V:XV):AllLt (fun k=>Chk V (chkCases k).1 (chkCases k).2.1 (chkCases k).2.2.1 (chkCases k).2.2.2.1 (chkCases k).2.2.2.2) 90 :=
  ⟨⟨⟨⟨⟨⟨⟨⟨⟨⟨⟨⟨⟨⟨⟨⟨⟨⟨⟨⟨⟨⟨⟨⟨⟨⟨⟨⟨⟨⟨⟨⟨⟨⟨⟨⟨⟨⟨⟨⟨⟨⟨⟨⟨⟨⟨⟨⟨⟨⟨⟨⟨⟨⟨⟨⟨⟨⟨⟨⟨⟨⟨⟨⟨⟨⟨⟨⟨⟨⟨⟨⟨⟨⟨⟨⟨⟨⟨⟨⟨⟨⟨⟨⟨⟨⟨⟨⟨⟨⟨trivial,
  fun a t e m y n i g t1 t2 hy=>chk_of ((Pchk1 V a (twoAt t 12 t1 t2) e m y n i g hy).get (k:=0) (by decide)) (a':=Pchk1_pa 0 a (twoAt t 12 t1 t2) e m y n i g) (t':=Pchk1_pt 0 a (twoAt t 12 t1 t2) e m y n i g) (e':=Pchk1_pe 0 a (twoAt t 12 t1 t2) e m y n i g) (m':=Pchk1_pm 0 a (twoAt t 12 t1 t2) e m y n i g) (y':=Pchk1_py 0 a (twoAt t 12 t1 t2) e m y n i g) (n':=n+18) (by kernel_rfl) rfl rfl⟩,
  fun a t e m y n i g t1 t2 hy=>chk_of ((Pchk1 V a (twoAt t 12 t1 t2) e m y n i g hy).get (k:=1) (by decide)) (a':=Pchk1_pa 1 a (twoAt t 12 t1 t2) e m y n i g) (t':=Pchk1_pt 1 a (twoAt t 12 t1 t2) e m y n i g) (e':=Pchk1_pe 1 a (twoAt t 12 t1 t2) e m y n i g) (m':=Pchk1_pm 1 a (twoAt t 12 t1 t2) e m y n i g) (y':=Pchk1_py 1 a (twoAt t 12 t1 t2) e m y n i g) (n':=n+18) (by kernel_rfl) rfl rfl⟩,
  fun a t e m y n i g t1 t2 hy=>chk_of ((Pchk1 V a (twoAt t 12 t1 t2) e m y n i g hy).get (k:=2) (by decide)) (a':=Pchk1_pa 2 a (twoAt t 12 t1 t2) e m y n i g) (t':=Pchk1_pt 2 a (twoAt t 12 t1 t2) e m y n i g) (e':=Pchk1_pe 2 a (twoAt t 12 t1 t2) e m y n i g) (m':=Pchk1_pm 2 a (twoAt t 12 t1 t2) e m y n i g) (y':=Pchk1_py 2 a (twoAt t 12 t1 t2) e m y n i g) (n':=n+18) (by kernel_rfl) rfl rfl⟩,
  fun a t e m y n i g t1 t2 hy=>chk_of ((Pchk3 V a (twoAt t 20 t1 t2) e m y n i g hy).get (k:=0) (by decide)) (a':=Pchk3_pa 0 a (twoAt t 20 t1 t2) e m y n i g) (t':=Pchk3_pt 0 a (twoAt t 20 t1 t2) e m y n i g) (e':=Pchk3_pe 0 a (twoAt t 20 t1 t2) e m y n i g) (m':=Pchk3_pm 0 a (twoAt t 20 t1 t2) e m y n i g) (y':=Pchk3_py 0 a (twoAt t 20 t1 t2) e m y n i g) (n':=n+15) (by kernel_rfl) rfl rfl⟩,
  fun a t e m y n i g t1 t2 hy=>chk_of ((Pchk3 V a (twoAt t 20 t1 t2) e m y n i g hy).get (k:=1) (by decide)) (a':=Pchk3_pa 1 a (twoAt t 20 t1 t2) e m y n i g) (t':=Pchk3_pt 1 a (twoAt t 20 t1 t2) e m y n i g) (e':=Pchk3_pe 1 a (twoAt t 20 t1 t2) e m y n i g) (m':=Pchk3_pm 1 a (twoAt t 20 t1 t2) e m y n i g) (y':=Pchk3_py 1 a (twoAt t 20 t1 t2) e m y n i g) (n':=n+15) (by kernel_rfl) rfl rfl⟩,
  fun a t e m y n i g t1 t2 hy=>chk_of ((Pchk3 V a (twoAt t 20 t1 t2) e m y n i g hy).get (k:=2) (by decide)) (a':=Pchk3_pa 2 a (twoAt t 20 t1 t2) e m y n i g) (t':=Pchk3_pt 2 a (twoAt t 20 t1 t2) e m y n i g) (e':=Pchk3_pe 2 a (twoAt t 20 t1 t2) e m y n i g) (m':=Pchk3_pm 2 a (twoAt t 20 t1 t2) e m y n i g) (y':=Pchk3_py 2 a (twoAt t 20 t1 t2) e m y n i g) (n':=n+15) (by kernel_rfl) rfl rfl⟩,
  fun a t e m y n i g t1 t2 hy=>chk_of ((Pchk5 V a (twoAt t 18 t1 t2) e m y n i g hy).get (k:=0) (by decide)) (a':=Pchk5_pa 0 a (twoAt t 18 t1 t2) e m y n i g) (t':=Pchk5_pt 0 a (twoAt t 18 t1 t2) e m y n i g) (e':=Pchk5_pe 0 a (twoAt t 18 t1 t2) e m y n i g) (m':=Pchk5_pm 0 a (twoAt t 18 t1 t2) e m y n i g) (y':=Pchk5_py 0 a (twoAt t 18 t1 t2) e m y n i g) (n':=n+18) (by kernel_rfl) rfl rfl⟩,
  fun a t e m y n i g t1 t2 hy=>chk_of ((Pchk5 V a (twoAt t 18 t1 t2) e m y n i g hy).get (k:=1) (by decide)) (a':=Pchk5_pa 1 a (twoAt t 18 t1 t2) e m y n i g) (t':=Pchk5_pt 1 a (twoAt t 18 t1 t2) e m y n i g) (e':=Pchk5_pe 1 a (twoAt t 18 t1 t2) e m y n i g) (m':=Pchk5_pm 1 a (twoAt t 18 t1 t2) e m y n i g) (y':=Pchk5_py 1 a (twoAt t 18 t1 t2) e m y n i g) (n':=n+18) (by kernel_rfl) rfl rfl⟩,
  fun a t e m y n i g t1 t2 hy=>chk_of ((Pchk5 V a (twoAt t 18 t1 t2) e m y n i g hy).get (k:=2) (by decide)) (a':=Pchk5_pa 2 a (twoAt t 18 t1 t2) e m y n i g) (t':=Pchk5_pt 2 a (twoAt t 18 t1 t2) e m y n i g) (e':=Pchk5_pe 2 a (twoAt t 18 t1 t2) e m y n i g) (m':=Pchk5_pm 2 a (twoAt t 18 t1 t2) e m y n i g) (y':=Pchk5_py 2 a (twoAt t 18 t1 t2) e m y n i g) (n':=n+18) (by kernel_rfl) rfl rfl⟩,
  fun a t e m y n i g t1 t2 hy=>chk_of ((Pchk7 V a (twoAt t 18 t1 t2) e m y n i g hy).get (k:=0) (by decide)) (a':=Pchk7_pa 0 a (twoAt t 18 t1 t2) e m y n i g) (t':=Pchk7_pt 0 a (twoAt t 18 t1 t2) e m y n i g) (e':=Pchk7_pe 0 a (twoAt t 18 t1 t2) e m y n i g) (m':=Pchk7_pm 0 a (twoAt t 18 t1 t2) e m y n i g) (y':=Pchk7_py 0 a (twoAt t 18 t1 t2) e m y n i g) (n':=n+47) (by kernel_rfl) rfl ⟨_,rfl⟩⟩,
  fun a t e m y n i g t1 t2 hy=>chk_of ((Pchk7 V a (twoAt t 18 t1 t2) e m y n i g hy).get (k:=1) (by decide)) (a':=Pchk7_pa 1 a (twoAt t 18 t1 t2) e m y n i g) (t':=Pchk7_pt 1 a (twoAt t 18 t1 t2) e m y n i g) (e':=Pchk7_pe 1 a (twoAt t 18 t1 t2) e m y n i g) (m':=Pchk7_pm 1 a (twoAt t 18 t1 t2) e m y n i g) (y':=Pchk7_py 1 a (twoAt t 18 t1 t2) e m y n i g) (n':=n+47) (by kernel_rfl) rfl ⟨_,rfl⟩⟩,
  fun a t e m y n i g t1 t2 hy=>chk_of ((Pchk7 V a (twoAt t 18 t1 t2) e m y n i g hy).get (k:=2) (by decide)) (a':=Pchk7_pa 2 a (twoAt t 18 t1 t2) e m y n i g) (t':=Pchk7_pt 2 a (twoAt t 18 t1 t2) e m y n i g) (e':=Pchk7_pe 2 a (twoAt t 18 t1 t2) e m y n i g) (m':=Pchk7_pm 2 a (twoAt t 18 t1 t2) e m y n i g) (y':=Pchk7_py 2 a (twoAt t 18 t1 t2) e m y n i g) (n':=n+47) (by kernel_rfl) rfl ⟨_,rfl⟩⟩,
  fun a t e m y n i g t1 t2 hy=>chk_of ((Pchk7 V a (twoAt t 18 t1 t2) e m y n i g hy).get (k:=3) (by decide)) (a':=Pchk7_pa 3 a (twoAt t 18 t1 t2) e m y n i g) (t':=Pchk7_pt 3 a (twoAt t 18 t1 t2) e m y n i g) (e':=Pchk7_pe 3 a (twoAt t 18 t1 t2) e m y n i g) (m':=Pchk7_pm 3 a (twoAt t 18 t1 t2) e m y n i g) (y':=Pchk7_py 3 a (twoAt t 18 t1 t2) e m y n i g) (n':=n+47) (by kernel_rfl) rfl ⟨_,rfl⟩⟩,
  fun a t e m y n i g t1 t2 hy=>chk_of ((Pchk7 V a (twoAt t 18 t1 t2) e m y n i g hy).get (k:=4) (by decide)) (a':=Pchk7_pa 4 a (twoAt t 18 t1 t2) e m y n i g) (t':=Pchk7_pt 4 a (twoAt t 18 t1 t2) e m y n i g) (e':=Pchk7_pe 4 a (twoAt t 18 t1 t2) e m y n i g) (m':=Pchk7_pm 4 a (twoAt t 18 t1 t2) e m y n i g) (y':=Pchk7_py 4 a (twoAt t 18 t1 t2) e m y n i g) (n':=n+47) (by kernel_rfl) rfl ⟨_,rfl⟩⟩,
  fun a t e m y n i g t1 t2 hy=>chk_of ((Pchk7 V a (twoAt t 18 t1 t2) e m y n i g hy).get (k:=5) (by decide)) (a':=Pchk7_pa 5 a (twoAt t 18 t1 t2) e m y n i g) (t':=Pchk7_pt 5 a (twoAt t 18 t1 t2) e m y n i g) (e':=Pchk7_pe 5 a (twoAt t 18 t1 t2) e m y n i g) (m':=Pchk7_pm 5 a (twoAt t 18 t1 t2) e m y n i g) (y':=Pchk7_py 5 a (twoAt t 18 t1 t2) e m y n i g) (n':=n+47) (by kernel_rfl) rfl ⟨_,rfl⟩⟩,
  fun a t e m y n i g t1 t2 hy=>chk_of ((Pchk8 V a (twoAt t 22 t1 t2) e m y n i g hy).get (k:=0) (by decide)) (a':=Pchk8_pa 0 a (twoAt t 22 t1 t2) e m y n i g) (t':=Pchk8_pt 0 a (twoAt t 22 t1 t2) e m y n i g) (e':=Pchk8_pe 0 a (twoAt t 22 t1 t2) e m y n i g) (m':=Pchk8_pm 0 a (twoAt t 22 t1 t2) e m y n i g) (y':=Pchk8_py 0 a (twoAt t 22 t1 t2) e m y n i g) (n':=n+18) (by kernel_rfl) rfl rfl⟩,
  fun a t e m y n i g t1 t2 hy=>chk_of ((Pchk8 V a (twoAt t 22 t1 t2) e m y n i g hy).get (k:=1) (by decide)) (a':=Pchk8_pa 1 a (twoAt t 22 t1 t2) e m y n i g) (t':=Pchk8_pt 1 a (twoAt t 22 t1 t2) e m y n i g) (e':=Pchk8_pe 1 a (twoAt t 22 t1 t2) e m y n i g) (m':=Pchk8_pm 1 a (twoAt t 22 t1 t2) e m y n i g) (y':=Pchk8_py 1 a (twoAt t 22 t1 t2) e m y n i g) (n':=n+18) (by kernel_rfl) rfl rfl⟩,
  fun a t e m y n i g t1 t2 hy=>chk_of ((Pchk8 V a (twoAt t 22 t1 t2) e m y n i g hy).get (k:=2) (by decide)) (a':=Pchk8_pa 2 a (twoAt t 22 t1 t2) e m y n i g) (t':=Pchk8_pt 2 a (twoAt t 22 t1 t2) e m y n i g) (e':=Pchk8_pe 2 a (twoAt t 22 t1 t2) e m y n i g) (m':=Pchk8_pm 2 a (twoAt t 22 t1 t2) e m y n i g) (y':=Pchk8_py 2 a (twoAt t 22 t1 t2) e m y n i g) (n':=n+18) (by kernel_rfl) rfl rfl⟩,
  fun a t e m y n i g t1 t2 hy=>chk_of ((Pchk8 V a (twoAt t 22 t1 t2) e m y n i g hy).get (k:=3) (by decide)) (a':=Pchk8_pa 3 a (twoAt t 22 t1 t2) e m y n i g) (t':=Pchk8_pt 3 a (twoAt t 22 t1 t2) e m y n i g) (e':=Pchk8_pe 3 a (twoAt t 22 t1 t2) e m y n i g) (m':=Pchk8_pm 3 a (twoAt t 22 t1 t2) e m y n i g) (y':=Pchk8_py 3 a (twoAt t 22 t1 t2) e m y n i g) (n':=n+18) (by kernel_rfl) rfl rfl⟩,
  fun a t e m y n i g t1 t2 hy=>chk_of ((Pchk8 V a (twoAt t 22 t1 t2) e m y n i g hy).get (k:=4) (by decide)) (a':=Pchk8_pa 4 a (twoAt t 22 t1 t2) e m y n i g) (t':=Pchk8_pt 4 a (twoAt t 22 t1 t2) e m y n i g) (e':=Pchk8_pe 4 a (twoAt t 22 t1 t2) e m y n i g) (m':=Pchk8_pm 4 a (twoAt t 22 t1 t2) e m y n i g) (y':=Pchk8_py 4 a (twoAt t 22 t1 t2) e m y n i g) (n':=n+18) (by kernel_rfl) rfl rfl⟩,
  fun a t e m y n i g t1 t2 hy=>chk_of ((Pchk8 V a (twoAt t 22 t1 t2) e m y n i g hy).get (k:=5) (by decide)) (a':=Pchk8_pa 5 a (twoAt t 22 t1 t2) e m y n i g) (t':=Pchk8_pt 5 a (twoAt t 22 t1 t2) e m y n i g) (e':=Pchk8_pe 5 a (twoAt t 22 t1 t2) e m y n i g) (m':=Pchk8_pm 5 a (twoAt t 22 t1 t2) e m y n i g) (y':=Pchk8_py 5 a (twoAt t 22 t1 t2) e m y n i g) (n':=n+18) (by kernel_rfl) rfl rfl⟩,
  fun a t e m y n i g t1 t2 hy=>chk_of ((Pchk8 V a (twoAt t 22 t1 t2) e m y n i g hy).get (k:=6) (by decide)) (a':=Pchk8_pa 6 a (twoAt t 22 t1 t2) e m y n i g) (t':=Pchk8_pt 6 a (twoAt t 22 t1 t2) e m y n i g) (e':=Pchk8_pe 6 a (twoAt t 22 t1 t2) e m y n i g) (m':=Pchk8_pm 6 a (twoAt t 22 t1 t2) e m y n i g) (y':=Pchk8_py 6 a (twoAt t 22 t1 t2) e m y n i g) (n':=n+18) (by kernel_rfl) rfl rfl⟩,
  fun a t e m y n i g t1 t2 hy=>chk_of ((Pchk8 V a (twoAt t 22 t1 t2) e m y n i g hy).get (k:=7) (by decide)) (a':=Pchk8_pa 7 a (twoAt t 22 t1 t2) e m y n i g) (t':=Pchk8_pt 7 a (twoAt t 22 t1 t2) e m y n i g) (e':=Pchk8_pe 7 a (twoAt t 22 t1 t2) e m y n i g) (m':=Pchk8_pm 7 a (twoAt t 22 t1 t2) e m y n i g) (y':=Pchk8_py 7 a (twoAt t 22 t1 t2) e m y n i g) (n':=n+18) (by kernel_rfl) rfl rfl⟩,
  fun a t e m y n i g t1 t2 hy=>chk_of ((Pchk8 V a (twoAt t 22 t1 t2) e m y n i g hy).get (k:=8) (by decide)) (a':=Pchk8_pa 8 a (twoAt t 22 t1 t2) e m y n i g) (t':=Pchk8_pt 8 a (twoAt t 22 t1 t2) e m y n i g) (e':=Pchk8_pe 8 a (twoAt t 22 t1 t2) e m y n i g) (m':=Pchk8_pm 8 a (twoAt t 22 t1 t2) e m y n i g) (y':=Pchk8_py 8 a (twoAt t 22 t1 t2) e m y n i g) (n':=n+18) (by kernel_rfl) rfl rfl⟩,
  fun a t e m y n i g t1 t2 hy=>chk_of ((Pchk11 V a (twoAt t 22 t1 t2) e m y n i g hy).get (k:=0) (by decide)) (a':=Pchk11_pa 0 a (twoAt t 22 t1 t2) e m y n i g) (t':=Pchk11_pt 0 a (twoAt t 22 t1 t2) e m y n i g) (e':=Pchk11_pe 0 a (twoAt t 22 t1 t2) e m y n i g) (m':=Pchk11_pm 0 a (twoAt t 22 t1 t2) e m y n i g) (y':=Pchk11_py 0 a (twoAt t 22 t1 t2) e m y n i g) (n':=n+44) (by kernel_rfl) rfl ⟨_,rfl⟩⟩,
  fun a t e m y n i g t1 t2 hy=>chk_of ((Pchk11 V a (twoAt t 22 t1 t2) e m y n i g hy).get (k:=1) (by decide)) (a':=Pchk11_pa 1 a (twoAt t 22 t1 t2) e m y n i g) (t':=Pchk11_pt 1 a (twoAt t 22 t1 t2) e m y n i g) (e':=Pchk11_pe 1 a (twoAt t 22 t1 t2) e m y n i g) (m':=Pchk11_pm 1 a (twoAt t 22 t1 t2) e m y n i g) (y':=Pchk11_py 1 a (twoAt t 22 t1 t2) e m y n i g) (n':=n+44) (by kernel_rfl) rfl ⟨_,rfl⟩⟩,
  fun a t e m y n i g t1 t2 hy=>chk_of ((Pchk11 V a (twoAt t 22 t1 t2) e m y n i g hy).get (k:=2) (by decide)) (a':=Pchk11_pa 2 a (twoAt t 22 t1 t2) e m y n i g) (t':=Pchk11_pt 2 a (twoAt t 22 t1 t2) e m y n i g) (e':=Pchk11_pe 2 a (twoAt t 22 t1 t2) e m y n i g) (m':=Pchk11_pm 2 a (twoAt t 22 t1 t2) e m y n i g) (y':=Pchk11_py 2 a (twoAt t 22 t1 t2) e m y n i g) (n':=n+44) (by kernel_rfl) rfl ⟨_,rfl⟩⟩,
  fun a t e m y n i g t1 t2 hy=>chk_of ((Pchk11 V a (twoAt t 22 t1 t2) e m y n i g hy).get (k:=3) (by decide)) (a':=Pchk11_pa 3 a (twoAt t 22 t1 t2) e m y n i g) (t':=Pchk11_pt 3 a (twoAt t 22 t1 t2) e m y n i g) (e':=Pchk11_pe 3 a (twoAt t 22 t1 t2) e m y n i g) (m':=Pchk11_pm 3 a (twoAt t 22 t1 t2) e m y n i g) (y':=Pchk11_py 3 a (twoAt t 22 t1 t2) e m y n i g) (n':=n+44) (by kernel_rfl) rfl ⟨_,rfl⟩⟩,
  fun a t e m y n i g t1 t2 hy=>chk_of ((Pchk11 V a (twoAt t 22 t1 t2) e m y n i g hy).get (k:=4) (by decide)) (a':=Pchk11_pa 4 a (twoAt t 22 t1 t2) e m y n i g) (t':=Pchk11_pt 4 a (twoAt t 22 t1 t2) e m y n i g) (e':=Pchk11_pe 4 a (twoAt t 22 t1 t2) e m y n i g) (m':=Pchk11_pm 4 a (twoAt t 22 t1 t2) e m y n i g) (y':=Pchk11_py 4 a (twoAt t 22 t1 t2) e m y n i g) (n':=n+44) (by kernel_rfl) rfl ⟨_,rfl⟩⟩,
  fun a t e m y n i g t1 t2 hy=>chk_of ((Pchk11 V a (twoAt t 22 t1 t2) e m y n i g hy).get (k:=5) (by decide)) (a':=Pchk11_pa 5 a (twoAt t 22 t1 t2) e m y n i g) (t':=Pchk11_pt 5 a (twoAt t 22 t1 t2) e m y n i g) (e':=Pchk11_pe 5 a (twoAt t 22 t1 t2) e m y n i g) (m':=Pchk11_pm 5 a (twoAt t 22 t1 t2) e m y n i g) (y':=Pchk11_py 5 a (twoAt t 22 t1 t2) e m y n i g) (n':=n+44) (by kernel_rfl) rfl ⟨_,rfl⟩⟩,
  fun a t e m y n i g t1 t2 hy=>chk_of ((Pchk11 V a (twoAt t 22 t1 t2) e m y n i g hy).get (k:=6) (by decide)) (a':=Pchk11_pa 6 a (twoAt t 22 t1 t2) e m y n i g) (t':=Pchk11_pt 6 a (twoAt t 22 t1 t2) e m y n i g) (e':=Pchk11_pe 6 a (twoAt t 22 t1 t2) e m y n i g) (m':=Pchk11_pm 6 a (twoAt t 22 t1 t2) e m y n i g) (y':=Pchk11_py 6 a (twoAt t 22 t1 t2) e m y n i g) (n':=n+44) (by kernel_rfl) rfl ⟨_,rfl⟩⟩,
  fun a t e m y n i g t1 t2 hy=>chk_of ((Pchk11 V a (twoAt t 22 t1 t2) e m y n i g hy).get (k:=7) (by decide)) (a':=Pchk11_pa 7 a (twoAt t 22 t1 t2) e m y n i g) (t':=Pchk11_pt 7 a (twoAt t 22 t1 t2) e m y n i g) (e':=Pchk11_pe 7 a (twoAt t 22 t1 t2) e m y n i g) (m':=Pchk11_pm 7 a (twoAt t 22 t1 t2) e m y n i g) (y':=Pchk11_py 7 a (twoAt t 22 t1 t2) e m y n i g) (n':=n+44) (by kernel_rfl) rfl ⟨_,rfl⟩⟩,
  fun a t e m y n i g t1 t2 hy=>chk_of ((Pchk11 V a (twoAt t 22 t1 t2) e m y n i g hy).get (k:=8) (by decide)) (a':=Pchk11_pa 8 a (twoAt t 22 t1 t2) e m y n i g) (t':=Pchk11_pt 8 a (twoAt t 22 t1 t2) e m y n i g) (e':=Pchk11_pe 8 a (twoAt t 22 t1 t2) e m y n i g) (m':=Pchk11_pm 8 a (twoAt t 22 t1 t2) e m y n i g) (y':=Pchk11_py 8 a (twoAt t 22 t1 t2) e m y n i g) (n':=n+44) (by kernel_rfl) rfl ⟨_,rfl⟩⟩,
  fun a t e m y n i g t1 t2 hy=>chk_of ((Pchk13 V a (twoAt t 20 t1 t2) e m y n i g hy).get (k:=0) (by decide)) (a':=Pchk13_pa 0 a (twoAt t 20 t1 t2) e m y n i g) (t':=Pchk13_pt 0 a (twoAt t 20 t1 t2) e m y n i g) (e':=Pchk13_pe 0 a (twoAt t 20 t1 t2) e m y n i g) (m':=Pchk13_pm 0 a (twoAt t 20 t1 t2) e m y n i g) (y':=Pchk13_py 0 a (twoAt t 20 t1 t2) e m y n i g) (n':=n+21) (by kernel_rfl) rfl rfl⟩,
  fun a t e m y n i g t1 t2 hy=>chk_of ((Pchk15 V a (twoAt t 20 t1 t2) e m y n i g hy).get (k:=0) (by decide)) (a':=Pchk15_pa 0 a (twoAt t 20 t1 t2) e m y n i g) (t':=Pchk15_pt 0 a (twoAt t 20 t1 t2) e m y n i g) (e':=Pchk15_pe 0 a (twoAt t 20 t1 t2) e m y n i g) (m':=Pchk15_pm 0 a (twoAt t 20 t1 t2) e m y n i g) (y':=Pchk15_py 0 a (twoAt t 20 t1 t2) e m y n i g) (n':=n+54) (by kernel_rfl) rfl ⟨_,rfl⟩⟩,
  fun a t e m y n i g t1 t2 hy=>chk_of ((Pchk15 V a (twoAt t 20 t1 t2) e m y n i g hy).get (k:=1) (by decide)) (a':=Pchk15_pa 1 a (twoAt t 20 t1 t2) e m y n i g) (t':=Pchk15_pt 1 a (twoAt t 20 t1 t2) e m y n i g) (e':=Pchk15_pe 1 a (twoAt t 20 t1 t2) e m y n i g) (m':=Pchk15_pm 1 a (twoAt t 20 t1 t2) e m y n i g) (y':=Pchk15_py 1 a (twoAt t 20 t1 t2) e m y n i g) (n':=n+54) (by kernel_rfl) rfl ⟨_,rfl⟩⟩,
  fun a t e m y n i g t1 t2 hy=>chk_of ((Pchk15 V a (twoAt t 20 t1 t2) e m y n i g hy).get (k:=2) (by decide)) (a':=Pchk15_pa 2 a (twoAt t 20 t1 t2) e m y n i g) (t':=Pchk15_pt 2 a (twoAt t 20 t1 t2) e m y n i g) (e':=Pchk15_pe 2 a (twoAt t 20 t1 t2) e m y n i g) (m':=Pchk15_pm 2 a (twoAt t 20 t1 t2) e m y n i g) (y':=Pchk15_py 2 a (twoAt t 20 t1 t2) e m y n i g) (n':=n+54) (by kernel_rfl) rfl ⟨_,rfl⟩⟩,
  fun a t e m y n i g t1 t2 hy=>chk_of ((Pchk15 V a (twoAt t 20 t1 t2) e m y n i g hy).get (k:=3) (by decide)) (a':=Pchk15_pa 3 a (twoAt t 20 t1 t2) e m y n i g) (t':=Pchk15_pt 3 a (twoAt t 20 t1 t2) e m y n i g) (e':=Pchk15_pe 3 a (twoAt t 20 t1 t2) e m y n i g) (m':=Pchk15_pm 3 a (twoAt t 20 t1 t2) e m y n i g) (y':=Pchk15_py 3 a (twoAt t 20 t1 t2) e m y n i g) (n':=n+54) (by kernel_rfl) rfl ⟨_,rfl⟩⟩,
  fun a t e m y n i g t1 t2 hy=>chk_of ((Pchk15 V a (twoAt t 20 t1 t2) e m y n i g hy).get (k:=4) (by decide)) (a':=Pchk15_pa 4 a (twoAt t 20 t1 t2) e m y n i g) (t':=Pchk15_pt 4 a (twoAt t 20 t1 t2) e m y n i g) (e':=Pchk15_pe 4 a (twoAt t 20 t1 t2) e m y n i g) (m':=Pchk15_pm 4 a (twoAt t 20 t1 t2) e m y n i g) (y':=Pchk15_py 4 a (twoAt t 20 t1 t2) e m y n i g) (n':=n+54) (by kernel_rfl) rfl ⟨_,rfl⟩⟩,
  fun a t e m y n i g t1 t2 hy=>chk_of ((Pchk15 V a (twoAt t 20 t1 t2) e m y n i g hy).get (k:=5) (by decide)) (a':=Pchk15_pa 5 a (twoAt t 20 t1 t2) e m y n i g) (t':=Pchk15_pt 5 a (twoAt t 20 t1 t2) e m y n i g) (e':=Pchk15_pe 5 a (twoAt t 20 t1 t2) e m y n i g) (m':=Pchk15_pm 5 a (twoAt t 20 t1 t2) e m y n i g) (y':=Pchk15_py 5 a (twoAt t 20 t1 t2) e m y n i g) (n':=n+54) (by kernel_rfl) rfl ⟨_,rfl⟩⟩,
  fun a t e m y n i g t1 t2 hy=>chk_of ((Pchk15 V a (twoAt t 20 t1 t2) e m y n i g hy).get (k:=6) (by decide)) (a':=Pchk15_pa 6 a (twoAt t 20 t1 t2) e m y n i g) (t':=Pchk15_pt 6 a (twoAt t 20 t1 t2) e m y n i g) (e':=Pchk15_pe 6 a (twoAt t 20 t1 t2) e m y n i g) (m':=Pchk15_pm 6 a (twoAt t 20 t1 t2) e m y n i g) (y':=Pchk15_py 6 a (twoAt t 20 t1 t2) e m y n i g) (n':=n+54) (by kernel_rfl) rfl ⟨_,rfl⟩⟩,
  fun a t e m y n i g t1 t2 hy=>chk_of ((Pchk15 V a (twoAt t 20 t1 t2) e m y n i g hy).get (k:=7) (by decide)) (a':=Pchk15_pa 7 a (twoAt t 20 t1 t2) e m y n i g) (t':=Pchk15_pt 7 a (twoAt t 20 t1 t2) e m y n i g) (e':=Pchk15_pe 7 a (twoAt t 20 t1 t2) e m y n i g) (m':=Pchk15_pm 7 a (twoAt t 20 t1 t2) e m y n i g) (y':=Pchk15_py 7 a (twoAt t 20 t1 t2) e m y n i g) (n':=n+54) (by kernel_rfl) rfl ⟨_,rfl⟩⟩,
  fun a t e m y n i g t1 t2 hy=>chk_of ((Pchk16 V a (twoAt t 24 t1 t2) e m y n i g hy).get (k:=0) (by decide)) (a':=Pchk16_pa 0 a (twoAt t 24 t1 t2) e m y n i g) (t':=Pchk16_pt 0 a (twoAt t 24 t1 t2) e m y n i g) (e':=Pchk16_pe 0 a (twoAt t 24 t1 t2) e m y n i g) (m':=Pchk16_pm 0 a (twoAt t 24 t1 t2) e m y n i g) (y':=Pchk16_py 0 a (twoAt t 24 t1 t2) e m y n i g) (n':=n+21) (by kernel_rfl) rfl rfl⟩,
  fun a t e m y n i g t1 t2 hy=>chk_of ((Pchk16 V a (twoAt t 24 t1 t2) e m y n i g hy).get (k:=1) (by decide)) (a':=Pchk16_pa 1 a (twoAt t 24 t1 t2) e m y n i g) (t':=Pchk16_pt 1 a (twoAt t 24 t1 t2) e m y n i g) (e':=Pchk16_pe 1 a (twoAt t 24 t1 t2) e m y n i g) (m':=Pchk16_pm 1 a (twoAt t 24 t1 t2) e m y n i g) (y':=Pchk16_py 1 a (twoAt t 24 t1 t2) e m y n i g) (n':=n+21) (by kernel_rfl) rfl rfl⟩,
  fun a t e m y n i g t1 t2 hy=>chk_of ((Pchk16 V a (twoAt t 24 t1 t2) e m y n i g hy).get (k:=2) (by decide)) (a':=Pchk16_pa 2 a (twoAt t 24 t1 t2) e m y n i g) (t':=Pchk16_pt 2 a (twoAt t 24 t1 t2) e m y n i g) (e':=Pchk16_pe 2 a (twoAt t 24 t1 t2) e m y n i g) (m':=Pchk16_pm 2 a (twoAt t 24 t1 t2) e m y n i g) (y':=Pchk16_py 2 a (twoAt t 24 t1 t2) e m y n i g) (n':=n+21) (by kernel_rfl) rfl rfl⟩,
  fun a t e m y n i g t1 t2 hy=>chk_of ((Pchk16 V a (twoAt t 24 t1 t2) e m y n i g hy).get (k:=3) (by decide)) (a':=Pchk16_pa 3 a (twoAt t 24 t1 t2) e m y n i g) (t':=Pchk16_pt 3 a (twoAt t 24 t1 t2) e m y n i g) (e':=Pchk16_pe 3 a (twoAt t 24 t1 t2) e m y n i g) (m':=Pchk16_pm 3 a (twoAt t 24 t1 t2) e m y n i g) (y':=Pchk16_py 3 a (twoAt t 24 t1 t2) e m y n i g) (n':=n+21) (by kernel_rfl) rfl rfl⟩,
  fun a t e m y n i g t1 t2 hy=>chk_of ((Pchk16 V a (twoAt t 24 t1 t2) e m y n i g hy).get (k:=4) (by decide)) (a':=Pchk16_pa 4 a (twoAt t 24 t1 t2) e m y n i g) (t':=Pchk16_pt 4 a (twoAt t 24 t1 t2) e m y n i g) (e':=Pchk16_pe 4 a (twoAt t 24 t1 t2) e m y n i g) (m':=Pchk16_pm 4 a (twoAt t 24 t1 t2) e m y n i g) (y':=Pchk16_py 4 a (twoAt t 24 t1 t2) e m y n i g) (n':=n+21) (by kernel_rfl) rfl rfl⟩,
  fun a t e m y n i g t1 t2 hy=>chk_of ((Pchk18 V a (twoAt t 24 t1 t2) e m y n i g hy).get (k:=0) (by decide)) (a':=Pchk18_pa 0 a (twoAt t 24 t1 t2) e m y n i g) (t':=Pchk18_pt 0 a (twoAt t 24 t1 t2) e m y n i g) (e':=Pchk18_pe 0 a (twoAt t 24 t1 t2) e m y n i g) (m':=Pchk18_pm 0 a (twoAt t 24 t1 t2) e m y n i g) (y':=Pchk18_py 0 a (twoAt t 24 t1 t2) e m y n i g) (n':=n+51) (by kernel_rfl) rfl ⟨_,rfl⟩⟩,
  fun a t e m y n i g t1 t2 hy=>chk_of ((Pchk18 V a (twoAt t 24 t1 t2) e m y n i g hy).get (k:=1) (by decide)) (a':=Pchk18_pa 1 a (twoAt t 24 t1 t2) e m y n i g) (t':=Pchk18_pt 1 a (twoAt t 24 t1 t2) e m y n i g) (e':=Pchk18_pe 1 a (twoAt t 24 t1 t2) e m y n i g) (m':=Pchk18_pm 1 a (twoAt t 24 t1 t2) e m y n i g) (y':=Pchk18_py 1 a (twoAt t 24 t1 t2) e m y n i g) (n':=n+51) (by kernel_rfl) rfl ⟨_,rfl⟩⟩,
  fun a t e m y n i g t1 t2 hy=>chk_of ((Pchk18 V a (twoAt t 24 t1 t2) e m y n i g hy).get (k:=2) (by decide)) (a':=Pchk18_pa 2 a (twoAt t 24 t1 t2) e m y n i g) (t':=Pchk18_pt 2 a (twoAt t 24 t1 t2) e m y n i g) (e':=Pchk18_pe 2 a (twoAt t 24 t1 t2) e m y n i g) (m':=Pchk18_pm 2 a (twoAt t 24 t1 t2) e m y n i g) (y':=Pchk18_py 2 a (twoAt t 24 t1 t2) e m y n i g) (n':=n+51) (by kernel_rfl) rfl ⟨_,rfl⟩⟩,
  fun a t e m y n i g t1 t2 hy=>chk_of ((Pchk18 V a (twoAt t 24 t1 t2) e m y n i g hy).get (k:=3) (by decide)) (a':=Pchk18_pa 3 a (twoAt t 24 t1 t2) e m y n i g) (t':=Pchk18_pt 3 a (twoAt t 24 t1 t2) e m y n i g) (e':=Pchk18_pe 3 a (twoAt t 24 t1 t2) e m y n i g) (m':=Pchk18_pm 3 a (twoAt t 24 t1 t2) e m y n i g) (y':=Pchk18_py 3 a (twoAt t 24 t1 t2) e m y n i g) (n':=n+51) (by kernel_rfl) rfl ⟨_,rfl⟩⟩,
  fun a t e m y n i g t1 t2 hy=>chk_of ((Pchk18 V a (twoAt t 24 t1 t2) e m y n i g hy).get (k:=4) (by decide)) (a':=Pchk18_pa 4 a (twoAt t 24 t1 t2) e m y n i g) (t':=Pchk18_pt 4 a (twoAt t 24 t1 t2) e m y n i g) (e':=Pchk18_pe 4 a (twoAt t 24 t1 t2) e m y n i g) (m':=Pchk18_pm 4 a (twoAt t 24 t1 t2) e m y n i g) (y':=Pchk18_py 4 a (twoAt t 24 t1 t2) e m y n i g) (n':=n+51) (by kernel_rfl) rfl ⟨_,rfl⟩⟩,
  fun a t e m y n i g t1 t2 hy=>chk_of ((Pchk18 V a (twoAt t 24 t1 t2) e m y n i g hy).get (k:=5) (by decide)) (a':=Pchk18_pa 5 a (twoAt t 24 t1 t2) e m y n i g) (t':=Pchk18_pt 5 a (twoAt t 24 t1 t2) e m y n i g) (e':=Pchk18_pe 5 a (twoAt t 24 t1 t2) e m y n i g) (m':=Pchk18_pm 5 a (twoAt t 24 t1 t2) e m y n i g) (y':=Pchk18_py 5 a (twoAt t 24 t1 t2) e m y n i g) (n':=n+51) (by kernel_rfl) rfl ⟨_,rfl⟩⟩,
  fun a t e m y n i g t1 t2 hy=>chk_of ((Pchk18 V a (twoAt t 24 t1 t2) e m y n i g hy).get (k:=6) (by decide)) (a':=Pchk18_pa 6 a (twoAt t 24 t1 t2) e m y n i g) (t':=Pchk18_pt 6 a (twoAt t 24 t1 t2) e m y n i g) (e':=Pchk18_pe 6 a (twoAt t 24 t1 t2) e m y n i g) (m':=Pchk18_pm 6 a (twoAt t 24 t1 t2) e m y n i g) (y':=Pchk18_py 6 a (twoAt t 24 t1 t2) e m y n i g) (n':=n+51) (by kernel_rfl) rfl ⟨_,rfl⟩⟩,
  fun a t e m y n i g t1 t2 hy=>chk_of ((Pchk18 V a (twoAt t 24 t1 t2) e m y n i g hy).get (k:=7) (by decide)) (a':=Pchk18_pa 7 a (twoAt t 24 t1 t2) e m y n i g) (t':=Pchk18_pt 7 a (twoAt t 24 t1 t2) e m y n i g) (e':=Pchk18_pe 7 a (twoAt t 24 t1 t2) e m y n i g) (m':=Pchk18_pm 7 a (twoAt t 24 t1 t2) e m y n i g) (y':=Pchk18_py 7 a (twoAt t 24 t1 t2) e m y n i g) (n':=n+51) (by kernel_rfl) rfl ⟨_,rfl⟩⟩,
  fun a t e m y n i g t1 t2 hy=>chk_of ((Pchk18 V a (twoAt t 24 t1 t2) e m y n i g hy).get (k:=8) (by decide)) (a':=Pchk18_pa 8 a (twoAt t 24 t1 t2) e m y n i g) (t':=Pchk18_pt 8 a (twoAt t 24 t1 t2) e m y n i g) (e':=Pchk18_pe 8 a (twoAt t 24 t1 t2) e m y n i g) (m':=Pchk18_pm 8 a (twoAt t 24 t1 t2) e m y n i g) (y':=Pchk18_py 8 a (twoAt t 24 t1 t2) e m y n i g) (n':=n+51) (by kernel_rfl) rfl ⟨_,rfl⟩⟩,
  fun a t e m y n i g t1 t2 hy=>chk_of ((Pchk18 V a (twoAt t 24 t1 t2) e m y n i g hy).get (k:=9) (by decide)) (a':=Pchk18_pa 9 a (twoAt t 24 t1 t2) e m y n i g) (t':=Pchk18_pt 9 a (twoAt t 24 t1 t2) e m y n i g) (e':=Pchk18_pe 9 a (twoAt t 24 t1 t2) e m y n i g) (m':=Pchk18_pm 9 a (twoAt t 24 t1 t2) e m y n i g) (y':=Pchk18_py 9 a (twoAt t 24 t1 t2) e m y n i g) (n':=n+51) (by kernel_rfl) rfl ⟨_,rfl⟩⟩,
  fun a t e m y n i g t1 t2 hy=>chk_of ((Pchk18 V a (twoAt t 24 t1 t2) e m y n i g hy).get (k:=10) (by decide)) (a':=Pchk18_pa 10 a (twoAt t 24 t1 t2) e m y n i g) (t':=Pchk18_pt 10 a (twoAt t 24 t1 t2) e m y n i g) (e':=Pchk18_pe 10 a (twoAt t 24 t1 t2) e m y n i g) (m':=Pchk18_pm 10 a (twoAt t 24 t1 t2) e m y n i g) (y':=Pchk18_py 10 a (twoAt t 24 t1 t2) e m y n i g) (n':=n+51) (by kernel_rfl) rfl ⟨_,rfl⟩⟩,
  fun a t e m y n i g t1 t2 hy=>chk_of ((Pchk18 V a (twoAt t 24 t1 t2) e m y n i g hy).get (k:=11) (by decide)) (a':=Pchk18_pa 11 a (twoAt t 24 t1 t2) e m y n i g) (t':=Pchk18_pt 11 a (twoAt t 24 t1 t2) e m y n i g) (e':=Pchk18_pe 11 a (twoAt t 24 t1 t2) e m y n i g) (m':=Pchk18_pm 11 a (twoAt t 24 t1 t2) e m y n i g) (y':=Pchk18_py 11 a (twoAt t 24 t1 t2) e m y n i g) (n':=n+51) (by kernel_rfl) rfl ⟨_,rfl⟩⟩,
  fun a t e m y n i g t1 t2 hy=>chk_of ((Pchk18 V a (twoAt t 24 t1 t2) e m y n i g hy).get (k:=12) (by decide)) (a':=Pchk18_pa 12 a (twoAt t 24 t1 t2) e m y n i g) (t':=Pchk18_pt 12 a (twoAt t 24 t1 t2) e m y n i g) (e':=Pchk18_pe 12 a (twoAt t 24 t1 t2) e m y n i g) (m':=Pchk18_pm 12 a (twoAt t 24 t1 t2) e m y n i g) (y':=Pchk18_py 12 a (twoAt t 24 t1 t2) e m y n i g) (n':=n+51) (by kernel_rfl) rfl ⟨_,rfl⟩⟩,
  fun a t e m y n i g t1 t2 hy=>chk_of ((Pchk18 V a (twoAt t 24 t1 t2) e m y n i g hy).get (k:=13) (by decide)) (a':=Pchk18_pa 13 a (twoAt t 24 t1 t2) e m y n i g) (t':=Pchk18_pt 13 a (twoAt t 24 t1 t2) e m y n i g) (e':=Pchk18_pe 13 a (twoAt t 24 t1 t2) e m y n i g) (m':=Pchk18_pm 13 a (twoAt t 24 t1 t2) e m y n i g) (y':=Pchk18_py 13 a (twoAt t 24 t1 t2) e m y n i g) (n':=n+51) (by kernel_rfl) rfl ⟨_,rfl⟩⟩,
  fun a t e m y n i g t1 t2 hy=>chk_of ((Pchk18 V a (twoAt t 24 t1 t2) e m y n i g hy).get (k:=14) (by decide)) (a':=Pchk18_pa 14 a (twoAt t 24 t1 t2) e m y n i g) (t':=Pchk18_pt 14 a (twoAt t 24 t1 t2) e m y n i g) (e':=Pchk18_pe 14 a (twoAt t 24 t1 t2) e m y n i g) (m':=Pchk18_pm 14 a (twoAt t 24 t1 t2) e m y n i g) (y':=Pchk18_py 14 a (twoAt t 24 t1 t2) e m y n i g) (n':=n+51) (by kernel_rfl) rfl ⟨_,rfl⟩⟩,
  fun a t e m y n i g t1 t2 hy=>chk_of ((Pchk18 V a (twoAt t 24 t1 t2) e m y n i g hy).get (k:=15) (by decide)) (a':=Pchk18_pa 15 a (twoAt t 24 t1 t2) e m y n i g) (t':=Pchk18_pt 15 a (twoAt t 24 t1 t2) e m y n i g) (e':=Pchk18_pe 15 a (twoAt t 24 t1 t2) e m y n i g) (m':=Pchk18_pm 15 a (twoAt t 24 t1 t2) e m y n i g) (y':=Pchk18_py 15 a (twoAt t 24 t1 t2) e m y n i g) (n':=n+51) (by kernel_rfl) rfl ⟨_,rfl⟩⟩,
  fun a t e m y n i g t1 t2 hy=>chk_of ((Pchk18 V a (twoAt t 24 t1 t2) e m y n i g hy).get (k:=16) (by decide)) (a':=Pchk18_pa 16 a (twoAt t 24 t1 t2) e m y n i g) (t':=Pchk18_pt 16 a (twoAt t 24 t1 t2) e m y n i g) (e':=Pchk18_pe 16 a (twoAt t 24 t1 t2) e m y n i g) (m':=Pchk18_pm 16 a (twoAt t 24 t1 t2) e m y n i g) (y':=Pchk18_py 16 a (twoAt t 24 t1 t2) e m y n i g) (n':=n+51) (by kernel_rfl) rfl ⟨_,rfl⟩⟩,
  fun a t e m y n i g t1 t2 hy=>chk_of ((Pchk18 V a (twoAt t 24 t1 t2) e m y n i g hy).get (k:=17) (by decide)) (a':=Pchk18_pa 17 a (twoAt t 24 t1 t2) e m y n i g) (t':=Pchk18_pt 17 a (twoAt t 24 t1 t2) e m y n i g) (e':=Pchk18_pe 17 a (twoAt t 24 t1 t2) e m y n i g) (m':=Pchk18_pm 17 a (twoAt t 24 t1 t2) e m y n i g) (y':=Pchk18_py 17 a (twoAt t 24 t1 t2) e m y n i g) (n':=n+51) (by kernel_rfl) rfl ⟨_,rfl⟩⟩,
  fun a t e m y n i g t1 t2 hy=>chk_of ((Pchk18 V a (twoAt t 24 t1 t2) e m y n i g hy).get (k:=18) (by decide)) (a':=Pchk18_pa 18 a (twoAt t 24 t1 t2) e m y n i g) (t':=Pchk18_pt 18 a (twoAt t 24 t1 t2) e m y n i g) (e':=Pchk18_pe 18 a (twoAt t 24 t1 t2) e m y n i g) (m':=Pchk18_pm 18 a (twoAt t 24 t1 t2) e m y n i g) (y':=Pchk18_py 18 a (twoAt t 24 t1 t2) e m y n i g) (n':=n+51) (by kernel_rfl) rfl ⟨_,rfl⟩⟩,
  fun a t e m y n i g t1 t2 hy=>chk_of ((Pchk18 V a (twoAt t 24 t1 t2) e m y n i g hy).get (k:=19) (by decide)) (a':=Pchk18_pa 19 a (twoAt t 24 t1 t2) e m y n i g) (t':=Pchk18_pt 19 a (twoAt t 24 t1 t2) e m y n i g) (e':=Pchk18_pe 19 a (twoAt t 24 t1 t2) e m y n i g) (m':=Pchk18_pm 19 a (twoAt t 24 t1 t2) e m y n i g) (y':=Pchk18_py 19 a (twoAt t 24 t1 t2) e m y n i g) (n':=n+51) (by kernel_rfl) rfl ⟨_,rfl⟩⟩,
  fun a t e m y n i g t1 t2 hy=>chk_of ((Pchk18 V a (twoAt t 24 t1 t2) e m y n i g hy).get (k:=20) (by decide)) (a':=Pchk18_pa 20 a (twoAt t 24 t1 t2) e m y n i g) (t':=Pchk18_pt 20 a (twoAt t 24 t1 t2) e m y n i g) (e':=Pchk18_pe 20 a (twoAt t 24 t1 t2) e m y n i g) (m':=Pchk18_pm 20 a (twoAt t 24 t1 t2) e m y n i g) (y':=Pchk18_py 20 a (twoAt t 24 t1 t2) e m y n i g) (n':=n+51) (by kernel_rfl) rfl ⟨_,rfl⟩⟩,
  fun a t e m y n i g t1 t2 hy=>chk_of ((Pchk18 V a (twoAt t 24 t1 t2) e m y n i g hy).get (k:=21) (by decide)) (a':=Pchk18_pa 21 a (twoAt t 24 t1 t2) e m y n i g) (t':=Pchk18_pt 21 a (twoAt t 24 t1 t2) e m y n i g) (e':=Pchk18_pe 21 a (twoAt t 24 t1 t2) e m y n i g) (m':=Pchk18_pm 21 a (twoAt t 24 t1 t2) e m y n i g) (y':=Pchk18_py 21 a (twoAt t 24 t1 t2) e m y n i g) (n':=n+51) (by kernel_rfl) rfl ⟨_,rfl⟩⟩,
  fun a t e m y n i g t1 t2 hy=>chk_of ((Pchk22 V a (twoAt t 22 t1 t2) e m y n i g hy).get (k:=0) (by decide)) (a':=Pchk22_pa 0 a (twoAt t 22 t1 t2) e m y n i g) (t':=Pchk22_pt 0 a (twoAt t 22 t1 t2) e m y n i g) (e':=Pchk22_pe 0 a (twoAt t 22 t1 t2) e m y n i g) (m':=Pchk22_pm 0 a (twoAt t 22 t1 t2) e m y n i g) (y':=Pchk22_py 0 a (twoAt t 22 t1 t2) e m y n i g) (n':=n+61) (by kernel_rfl) rfl ⟨_,rfl⟩⟩,
  fun a t e m y n i g t1 t2 hy=>chk_of ((Pchk22 V a (twoAt t 22 t1 t2) e m y n i g hy).get (k:=1) (by decide)) (a':=Pchk22_pa 1 a (twoAt t 22 t1 t2) e m y n i g) (t':=Pchk22_pt 1 a (twoAt t 22 t1 t2) e m y n i g) (e':=Pchk22_pe 1 a (twoAt t 22 t1 t2) e m y n i g) (m':=Pchk22_pm 1 a (twoAt t 22 t1 t2) e m y n i g) (y':=Pchk22_py 1 a (twoAt t 22 t1 t2) e m y n i g) (n':=n+61) (by kernel_rfl) rfl ⟨_,rfl⟩⟩,
  fun a t e m y n i g t1 t2 hy=>chk_of ((Pchk22 V a (twoAt t 22 t1 t2) e m y n i g hy).get (k:=2) (by decide)) (a':=Pchk22_pa 2 a (twoAt t 22 t1 t2) e m y n i g) (t':=Pchk22_pt 2 a (twoAt t 22 t1 t2) e m y n i g) (e':=Pchk22_pe 2 a (twoAt t 22 t1 t2) e m y n i g) (m':=Pchk22_pm 2 a (twoAt t 22 t1 t2) e m y n i g) (y':=Pchk22_py 2 a (twoAt t 22 t1 t2) e m y n i g) (n':=n+61) (by kernel_rfl) rfl ⟨_,rfl⟩⟩,
  fun a t e m y n i g t1 t2 hy=>chk_of ((Pchk23 V a (twoAt t 26 t1 t2) e m y n i g hy).get (k:=0) (by decide)) (a':=Pchk23_pa 0 a (twoAt t 26 t1 t2) e m y n i g) (t':=Pchk23_pt 0 a (twoAt t 26 t1 t2) e m y n i g) (e':=Pchk23_pe 0 a (twoAt t 26 t1 t2) e m y n i g) (m':=Pchk23_pm 0 a (twoAt t 26 t1 t2) e m y n i g) (y':=Pchk23_py 0 a (twoAt t 26 t1 t2) e m y n i g) (n':=n+24) (by kernel_rfl) rfl rfl⟩,
  fun a t e m y n i g t1 t2 hy=>chk_of ((Pchk25 V a (twoAt t 26 t1 t2) e m y n i g hy).get (k:=0) (by decide)) (a':=Pchk25_pa 0 a (twoAt t 26 t1 t2) e m y n i g) (t':=Pchk25_pt 0 a (twoAt t 26 t1 t2) e m y n i g) (e':=Pchk25_pe 0 a (twoAt t 26 t1 t2) e m y n i g) (m':=Pchk25_pm 0 a (twoAt t 26 t1 t2) e m y n i g) (y':=Pchk25_py 0 a (twoAt t 26 t1 t2) e m y n i g) (n':=n+58) (by kernel_rfl) rfl ⟨_,rfl⟩⟩,
  fun a t e m y n i g t1 t2 hy=>chk_of ((Pchk25 V a (twoAt t 26 t1 t2) e m y n i g hy).get (k:=1) (by decide)) (a':=Pchk25_pa 1 a (twoAt t 26 t1 t2) e m y n i g) (t':=Pchk25_pt 1 a (twoAt t 26 t1 t2) e m y n i g) (e':=Pchk25_pe 1 a (twoAt t 26 t1 t2) e m y n i g) (m':=Pchk25_pm 1 a (twoAt t 26 t1 t2) e m y n i g) (y':=Pchk25_py 1 a (twoAt t 26 t1 t2) e m y n i g) (n':=n+58) (by kernel_rfl) rfl ⟨_,rfl⟩⟩,
  fun a t e m y n i g t1 t2 hy=>chk_of ((Pchk25 V a (twoAt t 26 t1 t2) e m y n i g hy).get (k:=2) (by decide)) (a':=Pchk25_pa 2 a (twoAt t 26 t1 t2) e m y n i g) (t':=Pchk25_pt 2 a (twoAt t 26 t1 t2) e m y n i g) (e':=Pchk25_pe 2 a (twoAt t 26 t1 t2) e m y n i g) (m':=Pchk25_pm 2 a (twoAt t 26 t1 t2) e m y n i g) (y':=Pchk25_py 2 a (twoAt t 26 t1 t2) e m y n i g) (n':=n+58) (by kernel_rfl) rfl ⟨_,rfl⟩⟩,
  fun a t e m y n i g t1 t2 hy=>chk_of ((Pchk25 V a (twoAt t 26 t1 t2) e m y n i g hy).get (k:=3) (by decide)) (a':=Pchk25_pa 3 a (twoAt t 26 t1 t2) e m y n i g) (t':=Pchk25_pt 3 a (twoAt t 26 t1 t2) e m y n i g) (e':=Pchk25_pe 3 a (twoAt t 26 t1 t2) e m y n i g) (m':=Pchk25_pm 3 a (twoAt t 26 t1 t2) e m y n i g) (y':=Pchk25_py 3 a (twoAt t 26 t1 t2) e m y n i g) (n':=n+58) (by kernel_rfl) rfl ⟨_,rfl⟩⟩,
  fun a t e m y n i g t1 t2 hy=>chk_of ((Pchk25 V a (twoAt t 26 t1 t2) e m y n i g hy).get (k:=4) (by decide)) (a':=Pchk25_pa 4 a (twoAt t 26 t1 t2) e m y n i g) (t':=Pchk25_pt 4 a (twoAt t 26 t1 t2) e m y n i g) (e':=Pchk25_pe 4 a (twoAt t 26 t1 t2) e m y n i g) (m':=Pchk25_pm 4 a (twoAt t 26 t1 t2) e m y n i g) (y':=Pchk25_py 4 a (twoAt t 26 t1 t2) e m y n i g) (n':=n+58) (by kernel_rfl) rfl ⟨_,rfl⟩⟩,
  fun a t e m y n i g t1 t2 hy=>chk_of ((Pchk25 V a (twoAt t 26 t1 t2) e m y n i g hy).get (k:=5) (by decide)) (a':=Pchk25_pa 5 a (twoAt t 26 t1 t2) e m y n i g) (t':=Pchk25_pt 5 a (twoAt t 26 t1 t2) e m y n i g) (e':=Pchk25_pe 5 a (twoAt t 26 t1 t2) e m y n i g) (m':=Pchk25_pm 5 a (twoAt t 26 t1 t2) e m y n i g) (y':=Pchk25_py 5 a (twoAt t 26 t1 t2) e m y n i g) (n':=n+58) (by kernel_rfl) rfl ⟨_,rfl⟩⟩,
  fun a t e m y n i g t1 t2 hy=>chk_of ((Pchk25 V a (twoAt t 26 t1 t2) e m y n i g hy).get (k:=6) (by decide)) (a':=Pchk25_pa 6 a (twoAt t 26 t1 t2) e m y n i g) (t':=Pchk25_pt 6 a (twoAt t 26 t1 t2) e m y n i g) (e':=Pchk25_pe 6 a (twoAt t 26 t1 t2) e m y n i g) (m':=Pchk25_pm 6 a (twoAt t 26 t1 t2) e m y n i g) (y':=Pchk25_py 6 a (twoAt t 26 t1 t2) e m y n i g) (n':=n+58) (by kernel_rfl) rfl ⟨_,rfl⟩⟩,
  fun a t e m y n i g t1 t2 hy=>chk_of ((Pchk25 V a (twoAt t 26 t1 t2) e m y n i g hy).get (k:=7) (by decide)) (a':=Pchk25_pa 7 a (twoAt t 26 t1 t2) e m y n i g) (t':=Pchk25_pt 7 a (twoAt t 26 t1 t2) e m y n i g) (e':=Pchk25_pe 7 a (twoAt t 26 t1 t2) e m y n i g) (m':=Pchk25_pm 7 a (twoAt t 26 t1 t2) e m y n i g) (y':=Pchk25_py 7 a (twoAt t 26 t1 t2) e m y n i g) (n':=n+58) (by kernel_rfl) rfl ⟨_,rfl⟩⟩,
  fun a t e m y n i g t1 t2 hy=>chk_of ((Pchk25 V a (twoAt t 26 t1 t2) e m y n i g hy).get (k:=8) (by decide)) (a':=Pchk25_pa 8 a (twoAt t 26 t1 t2) e m y n i g) (t':=Pchk25_pt 8 a (twoAt t 26 t1 t2) e m y n i g) (e':=Pchk25_pe 8 a (twoAt t 26 t1 t2) e m y n i g) (m':=Pchk25_pm 8 a (twoAt t 26 t1 t2) e m y n i g) (y':=Pchk25_py 8 a (twoAt t 26 t1 t2) e m y n i g) (n':=n+58) (by kernel_rfl) rfl ⟨_,rfl⟩⟩,
  fun a t e m y n i g t1 t2 hy=>chk_of ((Pchk25 V a (twoAt t 26 t1 t2) e m y n i g hy).get (k:=9) (by decide)) (a':=Pchk25_pa 9 a (twoAt t 26 t1 t2) e m y n i g) (t':=Pchk25_pt 9 a (twoAt t 26 t1 t2) e m y n i g) (e':=Pchk25_pe 9 a (twoAt t 26 t1 t2) e m y n i g) (m':=Pchk25_pm 9 a (twoAt t 26 t1 t2) e m y n i g) (y':=Pchk25_py 9 a (twoAt t 26 t1 t2) e m y n i g) (n':=n+58) (by kernel_rfl) rfl ⟨_,rfl⟩⟩,
  fun a t e m y n i g t1 t2 hy=>chk_of ((Pchk25 V a (twoAt t 26 t1 t2) e m y n i g hy).get (k:=10) (by decide)) (a':=Pchk25_pa 10 a (twoAt t 26 t1 t2) e m y n i g) (t':=Pchk25_pt 10 a (twoAt t 26 t1 t2) e m y n i g) (e':=Pchk25_pe 10 a (twoAt t 26 t1 t2) e m y n i g) (m':=Pchk25_pm 10 a (twoAt t 26 t1 t2) e m y n i g) (y':=Pchk25_py 10 a (twoAt t 26 t1 t2) e m y n i g) (n':=n+58) (by kernel_rfl) rfl ⟨_,rfl⟩⟩,
  fun a t e m y n i g t1 t2 hy=>chk_of ((Pchk25 V a (twoAt t 26 t1 t2) e m y n i g hy).get (k:=11) (by decide)) (a':=Pchk25_pa 11 a (twoAt t 26 t1 t2) e m y n i g) (t':=Pchk25_pt 11 a (twoAt t 26 t1 t2) e m y n i g) (e':=Pchk25_pe 11 a (twoAt t 26 t1 t2) e m y n i g) (m':=Pchk25_pm 11 a (twoAt t 26 t1 t2) e m y n i g) (y':=Pchk25_py 11 a (twoAt t 26 t1 t2) e m y n i g) (n':=n+58) (by kernel_rfl) rfl ⟨_,rfl⟩⟩,
  fun a t e m y n i g t1 t2 hy=>chk_of ((Pchk25 V a (twoAt t 26 t1 t2) e m y n i g hy).get (k:=12) (by decide)) (a':=Pchk25_pa 12 a (twoAt t 26 t1 t2) e m y n i g) (t':=Pchk25_pt 12 a (twoAt t 26 t1 t2) e m y n i g) (e':=Pchk25_pe 12 a (twoAt t 26 t1 t2) e m y n i g) (m':=Pchk25_pm 12 a (twoAt t 26 t1 t2) e m y n i g) (y':=Pchk25_py 12 a (twoAt t 26 t1 t2) e m y n i g) (n':=n+58) (by kernel_rfl) rfl ⟨_,rfl⟩⟩,
  fun a t e m y n i g t1 t2 hy=>chk_of ((Pchk25 V a (twoAt t 26 t1 t2) e m y n i g hy).get (k:=13) (by decide)) (a':=Pchk25_pa 13 a (twoAt t 26 t1 t2) e m y n i g) (t':=Pchk25_pt 13 a (twoAt t 26 t1 t2) e m y n i g) (e':=Pchk25_pe 13 a (twoAt t 26 t1 t2) e m y n i g) (m':=Pchk25_pm 13 a (twoAt t 26 t1 t2) e m y n i g) (y':=Pchk25_py 13 a (twoAt t 26 t1 t2) e m y n i g) (n':=n+58) (by kernel_rfl) rfl ⟨_,rfl⟩⟩,
  fun a t e m y n i g t1 t2 hy=>chk_of ((Pchk29 V a (twoAt t 28 t1 t2) e m y n i g hy).get (k:=0) (by decide)) (a':=Pchk29_pa 0 a (twoAt t 28 t1 t2) e m y n i g) (t':=Pchk29_pt 0 a (twoAt t 28 t1 t2) e m y n i g) (e':=Pchk29_pe 0 a (twoAt t 28 t1 t2) e m y n i g) (m':=Pchk29_pm 0 a (twoAt t 28 t1 t2) e m y n i g) (y':=Pchk29_py 0 a (twoAt t 28 t1 t2) e m y n i g) (n':=n+65) (by kernel_rfl) rfl ⟨_,rfl⟩⟩,
  fun a t e m y n i g t1 t2 hy=>chk_of ((Pchk29 V a (twoAt t 28 t1 t2) e m y n i g hy).get (k:=1) (by decide)) (a':=Pchk29_pa 1 a (twoAt t 28 t1 t2) e m y n i g) (t':=Pchk29_pt 1 a (twoAt t 28 t1 t2) e m y n i g) (e':=Pchk29_pe 1 a (twoAt t 28 t1 t2) e m y n i g) (m':=Pchk29_pm 1 a (twoAt t 28 t1 t2) e m y n i g) (y':=Pchk29_py 1 a (twoAt t 28 t1 t2) e m y n i g) (n':=n+65) (by kernel_rfl) rfl ⟨_,rfl⟩⟩,
  fun a t e m y n i g t1 t2 hy=>chk_of ((Pchk29 V a (twoAt t 28 t1 t2) e m y n i g hy).get (k:=2) (by decide)) (a':=Pchk29_pa 2 a (twoAt t 28 t1 t2) e m y n i g) (t':=Pchk29_pt 2 a (twoAt t 28 t1 t2) e m y n i g) (e':=Pchk29_pe 2 a (twoAt t 28 t1 t2) e m y n i g) (m':=Pchk29_pm 2 a (twoAt t 28 t1 t2) e m y n i g) (y':=Pchk29_py 2 a (twoAt t 28 t1 t2) e m y n i g) (n':=n+65) (by kernel_rfl) rfl ⟨_,rfl⟩⟩
noncomputable def nwlCases (k:Nat):Nat × List Nat:=lk [(4,[1]),(4,[2]),(4,[3]),(3,[3]),(3,[2]),(3,[1]),(4,[1,1]),(4,[1,2]),(4,[1,3]),(4,[2,1]),(4,[2,2]),(4,[3,1]),(3,[2,1]),(3,[1,1]),(3,[1,2]),(4,[1,1,1]),(4,[1,1,2]),(4,[1,2,1]),(4,[2,1,1]),(3,[1,1,1]),(4,[1,1,1,1])] k
theorem nwl_all (V:XV):AllLt (fun k=>Nwl V (nwlCases k).1 (nwlCases k).2) 21 :=
  ⟨⟨⟨⟨⟨⟨⟨⟨⟨⟨⟨⟨⟨⟨⟨⟨⟨⟨⟨⟨⟨trivial,
  fun a t e m y n i g hy=>nwl_of ((Pnwl10 V a t e m y n i g hy).get (k:=0) (by decide)) (a':=Pnwl10_pa 0 a t e m y n i g) (t':=Pnwl10_pt 0 a t e m y n i g) (e':=Pnwl10_pe 0 a t e m y n i g) (m':=Pnwl10_pm 0 a t e m y n i g) (y':=Pnwl10_py 0 a t e m y n i g) (n':=n+66) (by kernel_rfl) rfl ⟨_,rfl⟩⟩,
  fun a t e m y n i g hy=>nwl_of ((Pnwl10 V a t e m y n i g hy).get (k:=1) (by decide)) (a':=Pnwl10_pa 1 a t e m y n i g) (t':=Pnwl10_pt 1 a t e m y n i g) (e':=Pnwl10_pe 1 a t e m y n i g) (m':=Pnwl10_pm 1 a t e m y n i g) (y':=Pnwl10_py 1 a t e m y n i g) (n':=n+66) (by kernel_rfl) rfl ⟨_,rfl⟩⟩,
  fun a t e m y n i g hy=>nwl_of ((Pnwl10 V a t e m y n i g hy).get (k:=2) (by decide)) (a':=Pnwl10_pa 2 a t e m y n i g) (t':=Pnwl10_pt 2 a t e m y n i g) (e':=Pnwl10_pe 2 a t e m y n i g) (m':=Pnwl10_pm 2 a t e m y n i g) (y':=Pnwl10_py 2 a t e m y n i g) (n':=n+66) (by kernel_rfl) rfl ⟨_,rfl⟩⟩,
  fun a t e m y n i g hy=>nwl_of ((Pnwl10 V a t e m y n i g hy).get (k:=3) (by decide)) (a':=Pnwl10_pa 3 a t e m y n i g) (t':=Pnwl10_pt 3 a t e m y n i g) (e':=Pnwl10_pe 3 a t e m y n i g) (m':=Pnwl10_pm 3 a t e m y n i g) (y':=Pnwl10_py 3 a t e m y n i g) (n':=n+66) (by kernel_rfl) rfl ⟨_,rfl⟩⟩,
  fun a t e m y n i g hy=>nwl_of ((Pnwl10 V a t e m y n i g hy).get (k:=4) (by decide)) (a':=Pnwl10_pa 4 a t e m y n i g) (t':=Pnwl10_pt 4 a t e m y n i g) (e':=Pnwl10_pe 4 a t e m y n i g) (m':=Pnwl10_pm 4 a t e m y n i g) (y':=Pnwl10_py 4 a t e m y n i g) (n':=n+66) (by kernel_rfl) rfl ⟨_,rfl⟩⟩,
  fun a t e m y n i g hy=>nwl_of ((Pnwl10 V a t e m y n i g hy).get (k:=5) (by decide)) (a':=Pnwl10_pa 5 a t e m y n i g) (t':=Pnwl10_pt 5 a t e m y n i g) (e':=Pnwl10_pe 5 a t e m y n i g) (m':=Pnwl10_pm 5 a t e m y n i g) (y':=Pnwl10_py 5 a t e m y n i g) (n':=n+66) (by kernel_rfl) rfl ⟨_,rfl⟩⟩,
  fun a t e m y n i g hy=>nwl_of ((Pnwl19 V a t e m y n i g hy).get (k:=0) (by decide)) (a':=Pnwl19_pa 0 a t e m y n i g) (t':=Pnwl19_pt 0 a t e m y n i g) (e':=Pnwl19_pe 0 a t e m y n i g) (m':=Pnwl19_pm 0 a t e m y n i g) (y':=Pnwl19_py 0 a t e m y n i g) (n':=n+80) (by kernel_rfl) rfl ⟨_,rfl⟩⟩,
  fun a t e m y n i g hy=>nwl_of ((Pnwl19 V a t e m y n i g hy).get (k:=1) (by decide)) (a':=Pnwl19_pa 1 a t e m y n i g) (t':=Pnwl19_pt 1 a t e m y n i g) (e':=Pnwl19_pe 1 a t e m y n i g) (m':=Pnwl19_pm 1 a t e m y n i g) (y':=Pnwl19_py 1 a t e m y n i g) (n':=n+80) (by kernel_rfl) rfl ⟨_,rfl⟩⟩,
  fun a t e m y n i g hy=>nwl_of ((Pnwl19 V a t e m y n i g hy).get (k:=2) (by decide)) (a':=Pnwl19_pa 2 a t e m y n i g) (t':=Pnwl19_pt 2 a t e m y n i g) (e':=Pnwl19_pe 2 a t e m y n i g) (m':=Pnwl19_pm 2 a t e m y n i g) (y':=Pnwl19_py 2 a t e m y n i g) (n':=n+80) (by kernel_rfl) rfl ⟨_,rfl⟩⟩,
  fun a t e m y n i g hy=>nwl_of ((Pnwl19 V a t e m y n i g hy).get (k:=3) (by decide)) (a':=Pnwl19_pa 3 a t e m y n i g) (t':=Pnwl19_pt 3 a t e m y n i g) (e':=Pnwl19_pe 3 a t e m y n i g) (m':=Pnwl19_pm 3 a t e m y n i g) (y':=Pnwl19_py 3 a t e m y n i g) (n':=n+80) (by kernel_rfl) rfl ⟨_,rfl⟩⟩,
  fun a t e m y n i g hy=>nwl_of ((Pnwl19 V a t e m y n i g hy).get (k:=4) (by decide)) (a':=Pnwl19_pa 4 a t e m y n i g) (t':=Pnwl19_pt 4 a t e m y n i g) (e':=Pnwl19_pe 4 a t e m y n i g) (m':=Pnwl19_pm 4 a t e m y n i g) (y':=Pnwl19_py 4 a t e m y n i g) (n':=n+80) (by kernel_rfl) rfl ⟨_,rfl⟩⟩,
  fun a t e m y n i g hy=>nwl_of ((Pnwl19 V a t e m y n i g hy).get (k:=5) (by decide)) (a':=Pnwl19_pa 5 a t e m y n i g) (t':=Pnwl19_pt 5 a t e m y n i g) (e':=Pnwl19_pe 5 a t e m y n i g) (m':=Pnwl19_pm 5 a t e m y n i g) (y':=Pnwl19_py 5 a t e m y n i g) (n':=n+80) (by kernel_rfl) rfl ⟨_,rfl⟩⟩,
  fun a t e m y n i g hy=>nwl_of ((Pnwl19 V a t e m y n i g hy).get (k:=6) (by decide)) (a':=Pnwl19_pa 6 a t e m y n i g) (t':=Pnwl19_pt 6 a t e m y n i g) (e':=Pnwl19_pe 6 a t e m y n i g) (m':=Pnwl19_pm 6 a t e m y n i g) (y':=Pnwl19_py 6 a t e m y n i g) (n':=n+80) (by kernel_rfl) rfl ⟨_,rfl⟩⟩,
  fun a t e m y n i g hy=>nwl_of ((Pnwl19 V a t e m y n i g hy).get (k:=7) (by decide)) (a':=Pnwl19_pa 7 a t e m y n i g) (t':=Pnwl19_pt 7 a t e m y n i g) (e':=Pnwl19_pe 7 a t e m y n i g) (m':=Pnwl19_pm 7 a t e m y n i g) (y':=Pnwl19_py 7 a t e m y n i g) (n':=n+80) (by kernel_rfl) rfl ⟨_,rfl⟩⟩,
  fun a t e m y n i g hy=>nwl_of ((Pnwl19 V a t e m y n i g hy).get (k:=8) (by decide)) (a':=Pnwl19_pa 8 a t e m y n i g) (t':=Pnwl19_pt 8 a t e m y n i g) (e':=Pnwl19_pe 8 a t e m y n i g) (m':=Pnwl19_pm 8 a t e m y n i g) (y':=Pnwl19_py 8 a t e m y n i g) (n':=n+80) (by kernel_rfl) rfl ⟨_,rfl⟩⟩,
  fun a t e m y n i g hy=>nwl_of ((Pnwl26 V a t e m y n i g hy).get (k:=0) (by decide)) (a':=Pnwl26_pa 0 a t e m y n i g) (t':=Pnwl26_pt 0 a t e m y n i g) (e':=Pnwl26_pe 0 a t e m y n i g) (m':=Pnwl26_pm 0 a t e m y n i g) (y':=Pnwl26_py 0 a t e m y n i g) (n':=n+94) (by kernel_rfl) rfl ⟨_,rfl⟩⟩,
  fun a t e m y n i g hy=>nwl_of ((Pnwl26 V a t e m y n i g hy).get (k:=1) (by decide)) (a':=Pnwl26_pa 1 a t e m y n i g) (t':=Pnwl26_pt 1 a t e m y n i g) (e':=Pnwl26_pe 1 a t e m y n i g) (m':=Pnwl26_pm 1 a t e m y n i g) (y':=Pnwl26_py 1 a t e m y n i g) (n':=n+94) (by kernel_rfl) rfl ⟨_,rfl⟩⟩,
  fun a t e m y n i g hy=>nwl_of ((Pnwl26 V a t e m y n i g hy).get (k:=2) (by decide)) (a':=Pnwl26_pa 2 a t e m y n i g) (t':=Pnwl26_pt 2 a t e m y n i g) (e':=Pnwl26_pe 2 a t e m y n i g) (m':=Pnwl26_pm 2 a t e m y n i g) (y':=Pnwl26_py 2 a t e m y n i g) (n':=n+94) (by kernel_rfl) rfl ⟨_,rfl⟩⟩,
  fun a t e m y n i g hy=>nwl_of ((Pnwl26 V a t e m y n i g hy).get (k:=3) (by decide)) (a':=Pnwl26_pa 3 a t e m y n i g) (t':=Pnwl26_pt 3 a t e m y n i g) (e':=Pnwl26_pe 3 a t e m y n i g) (m':=Pnwl26_pm 3 a t e m y n i g) (y':=Pnwl26_py 3 a t e m y n i g) (n':=n+94) (by kernel_rfl) rfl ⟨_,rfl⟩⟩,
  fun a t e m y n i g hy=>nwl_of ((Pnwl26 V a t e m y n i g hy).get (k:=4) (by decide)) (a':=Pnwl26_pa 4 a t e m y n i g) (t':=Pnwl26_pt 4 a t e m y n i g) (e':=Pnwl26_pe 4 a t e m y n i g) (m':=Pnwl26_pm 4 a t e m y n i g) (y':=Pnwl26_py 4 a t e m y n i g) (n':=n+94) (by kernel_rfl) rfl ⟨_,rfl⟩⟩,
  fun a t e m y n i g hy=>nwl_of ((Pnwl30 V a t e m y n i g hy).get (k:=0) (by decide)) (a':=Pnwl30_pa 0 a t e m y n i g) (t':=Pnwl30_pt 0 a t e m y n i g) (e':=Pnwl30_pe 0 a t e m y n i g) (m':=Pnwl30_pm 0 a t e m y n i g) (y':=Pnwl30_py 0 a t e m y n i g) (n':=n+108) (by kernel_rfl) rfl ⟨_,rfl⟩⟩
end Mine
end
section
open PySem PySem.W PySem.W.X PySem.Builtin.Str
namespace Mine
noncomputable abbrev PostG := Result → Led → Nat → Nat → Nat → Prop
noncomputable def startF (c : Code) : Sem Fin := match ovr6 theProg c with
  | some t => t
  | none => denF c
noncomputable def okW (c : Code) : Bool := Nat.ble c.weight 200 && Nat.ble c.cUnits 200
noncomputable def CallsG (V : XV) (m : Nat) (c : Code) (pre : Led) (n i g : Nat) (P : PostG) : Prop :=
  ∀ A Q, Base (reV V A Q) m → ∀ F G, (∀ r L' n' i' g', P r L' n' i' g' → Back (reV V A Q) .base r (L' ++ F) (n' + 305) i' g' G) → MS (reV V A Q) ⟨c, none, .base, denF c, pre ++ F, n + 305, i, g, G⟩
noncomputable def CallsS (V : XV) (m : Nat) (c : Code) (pre : Led) (n i g : Nat) (P : PostG) : Prop :=
  ∀ A Q, Base (reV V A Q) m → ∀ F G, (∀ r L' n' i' g', P r L' n' i' g' → Back (reV V A Q) .base r (L' ++ F) (n' + 305) i' g' G) → MS (reV V A Q) ⟨c, none, .base, startF c, pre ++ F, n + 305, i, g, G⟩
theorem ms_start {V : XV} {m : Nat} (B : Base V m) (hm : 250 ≤ m) {c : Code} {L : Led} {n i g : Nat} {G : Gl} (hw : okW c = true) (H : MS V ⟨c, none, .base, startF c, L, n, i, g, G⟩) : MS V ⟨c, none, .base, denF c, L, n, i, g, G⟩ := by
  have O : (cxR V m []).Ok := B.okR hm trivial
  unfold startF at H
  split at H
  · rename_i t ht
    simp only [okW, Bool.and_eq_true] at hw
    rw [denF_eq]
    have h1 := Nat.le_of_ble_eq_true hw.1
    have h2 := Nat.le_of_ble_eq_true hw.2
    exact O.ovr (c := c) (t := t) (d := 0) ht rfl (by omega) (by omega) H
  · exact H
theorem CallsS.g {V : XV} {m : Nat} {c : Code} {pre : Led} {n i g : Nat} {P : PostG} (hw : okW c = true) (hm : 250 ≤ m) (H : CallsS V m c pre n i g P) : CallsG V m c pre n i g P := fun A Q B F G Bk => ms_start B hm hw (H A Q B F G Bk)
theorem CallsS.re {V : XV} {m : Nat} {c : Code} {pre : Led} {n i g : Nat} {P : PostG} (A : Around) (Q : Result → Shared → Prop) (H : CallsS V m c pre n i g P) : CallsS (reV V A Q) m c pre n i g P := fun A' Q' B F G Bk => H A' Q' B F G Bk
theorem CallsG.re {V : XV} {m : Nat} {c : Code} {pre : Led} {n i g : Nat} {P : PostG} (A : Around) (Q : Result → Shared → Prop) (H : CallsG V m c pre n i g P) : CallsG (reV V A Q) m c pre n i g P := fun A' Q' B F G Bk => H A' Q' B F G Bk
theorem CallsG.mono {V : XV} {m : Nat} {c : Code} {pre : Led} {n i g : Nat} {P P' : PostG} (H : CallsG V m c pre n i g P) (h : ∀ v L' n' i' g', P v L' n' i' g' → P' v L' n' i' g') : CallsG V m c pre n i g P' := fun A Q B F G Bk => H A Q B F G fun v L' n' i' g' p => Bk v L' n' i' g' (h _ _ _ _ _ p)
theorem CallsS.mono {V : XV} {m : Nat} {c : Code} {pre : Led} {n i g : Nat} {P P' : PostG} (H : CallsS V m c pre n i g P) (h : ∀ v L' n' i' g', P v L' n' i' g' → P' v L' n' i' g') : CallsS V m c pre n i g P' := fun A Q B F G Bk => H A Q B F G fun v L' n' i' g' p => Bk v L' n' i' g' (h _ _ _ _ _ p)
theorem CallsE.g {V : XV} {m : Nat} {c : Code} {pre : Led} {n i g : Nat} {P : PostE} (H : CallsE V m c pre n i g P) : CallsG V m c pre n i g (fun r L' n' i' g' => ∃ v, r = .ok (.ret v) ∧ P v L' n' i' g') := fun A Q B F G Bk => H A Q B F G fun v L' n' i' g' p => Bk _ L' n' i' g' ⟨v, rfl, p⟩
theorem CallsG.e {V : XV} {m : Nat} {c : Code} {pre : Led} {n i g : Nat} {P : PostE} (H : CallsG V m c pre n i g (fun r L' n' i' g' => ∃ v, r = .ok (.ret v) ∧ P v L' n' i' g')) : CallsE V m c pre n i g P := fun A Q B F G Bk => H A Q B F G fun v L' n' i' g' ⟨w, e, p⟩ => by
  subst e; exact Bk _ L' n' i' g' p
theorem CallsG.frame {V : XV} {m : Nat} {c : Code} {pre : Led} {n i g : Nat} {P : PostG} (H : CallsG V m c pre n i g P) (D : Led) : CallsG V m c (pre ++ D) n i g (fun r L' n' i' g' => ∃ L1, L' = L1 ++ D ∧ P r L1 n' i' g') := fun A Q B F G Bk => by
  have z := H A Q B (D ++ F) G fun r L' n' i' g' p => by
    have z := Bk r (L' ++ D) n' i' g' ⟨L', rfl, p⟩
    rw [List.append_assoc] at z
    exact z
  rw [← List.append_assoc] at z
  exact z
theorem CallsG.code {V : XV} {m k : Nat} {c : Code} {pre : Led} {n i g : Nat} {P : PostG} (C : CallsG V m c pre n i g P) (B : Base V k) {A : Around} (hA : A.handled = none ∧ A.depth + m < recursionLimit ∧ A.units + m < cLine) (F : Led) (G : Gl) (s : Shared)
    (S : Sat V (pre ++ F) (n + 305) i g G s) (R : Result → Shared → Prop) (HR : ∀ v L' n' i' g', P v L' n' i' g' → ∀ s', Sat V (L' ++ F) (n' + 305) i' g' G s' → R v s') : codeAny (model V.prog V.w) A c R s := by
  obtain ⟨hh, hd, hu⟩ := hA
  have hb : Base (reV V A R) m := ⟨B.prog, B.top, B.lim, hd, hu⟩
  have H2 := C A R hb F G fun v L' n' i' g' p s' S' => HR v L' n' i' g' p s' (sat_re.mp S')
  have eA : { A with handled := none } = A := by
    cases A; simp only at hh; subst hh; rfl
  have z := H2 s (sat_re.mpr S)
  refine y_code _ _ _ _ _ _ ?_
  rw [← denF_eq, ← eA]
  exact z
noncomputable def CodeE (V : XV) (m : Nat) (c : Code) (pre : Led) (n i g : Nat) (P : PostG) : Prop :=
  ∀ A : Around, A.handled = none ∧ A.depth + m < recursionLimit ∧ A.units + m < cLine → ∀ (F : Led) (G : Gl) (s : Shared), Sat V (pre ++ F) (n + 305) i g G s → ∀ R : Result → Shared → Prop,
    (∀ v L' n' i' g', P v L' n' i' g' → ∀ s', Sat V (L' ++ F) (n' + 305) i' g' G s' → R v s') → codeAny (model V.prog V.w) A c R s
theorem CallsG.codeE {V : XV} {m k : Nat} {c : Code} {pre : Led} {n i g : Nat} {P : PostG} (C : CallsG V m c pre n i g P) (B : Base V k) : CodeE V m c pre n i g P := fun A hA F G s S R HR => C.code B hA F G s S R HR
noncomputable def St.onR (st : St) (r : Result) (L : Led) (n i g : Nat) : St := match st.t with
  | .call _ _ _ _ k => ⟨st.c, st.md, st.κ, k r, L, n, i, g, st.G⟩
  | _ => st
noncomputable abbrev PostH := Result → Led → Gl → Nat → Nat → Nat → Prop
noncomputable def CodeH (V : XV) (m : Nat) (c : Code) (pre : Led) (Gp : Gl) (n i g : Nat) (P : PostH) : Prop :=
  ∀ A : Around, A.handled = none ∧ A.depth + m < recursionLimit ∧ A.units + m < cLine → ∀ (F : Led) (G : Gl) (s : Shared), Sat V (pre ++ F) (n + 305) i g (Gp ++ G) s → ∀ R : Result → Shared → Prop,
    (∀ v L' G' n' i' g', P v L' G' n' i' g' → ∀ s', Sat V (L' ++ F) (n' + 305) i' g' (G' ++ G) s' → R v s') → codeAny (model V.prog V.w) A c R s
noncomputable def St.onH (st : St) (r : Result) (L : Led) (n i g : Nat) (G : Gl) : St := match st.t with
  | .call _ _ _ _ k => ⟨st.c, st.md, st.κ, k r, L, n, i, g, G⟩
  | _ => st
theorem run_codeH {X : Cx} (O : X.Ok) {st : St} (f : Nat) (hs : List Nat) (idx : List Nat) (k : Nat) {m : Nat} {c' : Code} {pre F : Led} {Gp G : Gl} {n i g : Nat} {P : PostH}
    (C : CodeH X.V m c' pre Gp n i g P)
    (e : (leftC X m (st.go X f hs) idx k, (st.go X f hs).1.G) = (rightC (st.go X f hs) c' (pre ++ F) (n + 305) i g, Gp ++ G))
    (H : AllH P fun v L' G' n' i' g' => let s := (st.go X f hs).1.onH v ((st.go X f hs).1.rest idx k ++ (L' ++ F)) (n' + 305) i' g' (G' ++ G); MS X.V s) : MS X.V st := by
  replace H : ∀ v L' G' n' i' g', P v L' G' n' i' g' → MS X.V ((st.go X f hs).1.onH v ((st.go X f hs).1.rest idx k ++ (L' ++ F)) (n' + 305) i' g' (G' ++ G)) := H
  simp only [leftC, rightC, Prod.mk.injEq] at e
  obtain ⟨⟨ep, ⟨e1, e2, e3⟩, ⟨e4, e5⟩, e6, e7, e8⟩, eG⟩ := e
  refine run_ms O f hs (paid_of ep) ?_
  generalize (st.go X f hs).1 = z at e1 e2 e3 e4 e5 e6 e7 e8 eG H ⊢
  obtain ⟨c, md, κ, t, L, n₁, i₁, g₁, G₁⟩ := z
  simp only at e6 e7 e8 eG
  subst e6 e7 e8 eG
  unfold St.at? at e1
  cases md with
  | some _ => cases e1
  | none =>
    cases t with
    | call c'' hd gd l kk =>
      simp only [Option.some.injEq] at e1
      subst e1
      unfold St.room at e2
      simp only at e2
      cases eo : okMark hd with
      | false => rw [eo] at e2; cases e2
      | true =>
        rw [eo] at e2
        simp only at e2
        cases ed : depK (.ret c hd kk κ) with
        | none => rw [ed] at e2; cases e2
        | some d =>
          rw [ed] at e2
          have er := Nat.le_of_ble_eq_true e2
          simp only [St.hnd] at e3
          unfold St.pulls at e4
          unfold St.drawn at e5
          unfold St.rest at H
          simp only at e4 e5 H
          cases ex : pullI idx (L.take k) with
          | none => rw [ex] at e4; cases e4
          | some x =>
            rw [ex] at e5 H
            simp only [St.onH] at e5 H
            have hp := pullI_perm ex
            have hnb : hd ≠ some byPass := by
              intro e
              subst e
              simp [okMark] at eo
            intro s S
            have hdk := depK_is (V := X.V) ed
            have h1 := O.dep
            have h2 := O.unt
            refine y_call _ _ _ _ _ _ _ _ _ _ _ _ _ hnb (C _ ⟨e3, by omega, by omega⟩ (F ++ x.2) G s ?_ _ ?_)
            · refine S.perm ?_
              have q : (pre ++ (F ++ x.2)).Perm ((pre ++ F) ++ x.2) := by rw [List.append_assoc]
              refine q.trans ?_
              rw [← e5]
              have q2 : (x.1 ++ L.drop k ++ x.2).Perm ((x.1 ++ x.2) ++ L.drop k) := by
                rw [List.append_assoc, List.append_assoc]
                exact List.Perm.append_left _ List.perm_append_comm
              refine q2.trans ?_
              have q3 := (hp.append_right (L.drop k))
              rw [List.take_append_drop] at q3
              exact q3
            · intro v L' G' n' i' g' p s' S'
              refine H v L' G' n' i' g' p s' (S'.perm ?_)
              have q : (x.2 ++ (L' ++ F)).Perm ((L' ++ F) ++ x.2) := List.perm_append_comm
              refine q.trans ?_
              rw [List.append_assoc]
    | _ => cases e1
theorem onH_eq (st : St) (r : Result) (L : Led) (n i g : Nat) : st.onH r L n i g st.G = st.onR r L n i g := by
  unfold St.onH St.onR; cases st.t <;> rfl
theorem run_codeE {X : Cx} (O : X.Ok) {st : St} (f : Nat) (hs : List Nat) (idx : List Nat) (k : Nat) {m : Nat} {c' : Code} {pre F : Led} {n i g : Nat} {P : PostG}
    (C : CodeE X.V m c' pre n i g P)
    (e : leftC X m (st.go X f hs) idx k = rightC (st.go X f hs) c' (pre ++ F) (n + 305) i g)
    (H : AllE P fun v L' n' i' g' => let s := (st.go X f hs).1.onR v ((st.go X f hs).1.rest idx k ++ (L' ++ F)) (n' + 305) i' g'; MS X.V s) : MS X.V st := by
  refine run_codeH (Gp := []) (G := (st.go X f hs).1.G) (P := fun r L' G' n' i' g' => G' = [] ∧ P r L' n' i' g') O f hs idx k (fun A hA F G s S R HR => C A hA F G s S R fun v L' n' i' g' p s' S' => HR v L' [] n' i' g' ⟨rfl, p⟩ s' S') (congrArg (fun x => (x, (st.go X f hs).1.G)) e) ?_
  rintro v L' G' n' i' g' ⟨rfl, p⟩
  have z : MS X.V ((st.go X f hs).1.onR v ((st.go X f hs).1.rest idx k ++ (L' ++ F)) (n' + 305) i' g') := H v L' n' i' g' p
  rw [← onH_eq] at z
  exact z
theorem run_callG {X : Cx} (O : X.Ok) {st : St} (f : Nat) (hs : List Nat) (idx : List Nat) (k : Nat) {m : Nat} {c' : Code} {pre F : Led} {n i g : Nat} {P : PostG}
    (C : CallsG X.V m c' pre n i g P) (hB : Base X.V X.room)
    (e : leftC X m (st.go X f hs) idx k = rightC (st.go X f hs) c' (pre ++ F) (n + 305) i g)
    (H : AllE P fun v L' n' i' g' => let s := (st.go X f hs).1.onR v ((st.go X f hs).1.rest idx k ++ (L' ++ F)) (n' + 305) i' g'; MS X.V s) : MS X.V st :=
  run_codeE O f hs idx k (C.codeE hB) e H
theorem on_eq (st : St) (v : Value) (L : Led) (n i g : Nat) : st.on v L n i g = st.onR (.ok (.ret v)) L n i g := by
  unfold St.on St.onR; cases st.t <;> rfl
theorem run_call {X : Cx} (O : X.Ok) {st : St} (f : Nat) (hs : List Nat) (idx : List Nat) (k : Nat) {m : Nat} {c' : Code} {pre F : Led} {n i g : Nat} {P : PostE}
    (C : CallsE X.V m c' pre n i g P) (hB : Base X.V X.room)
    (e : leftC X m (st.go X f hs) idx k = rightC (st.go X f hs) c' (pre ++ F) (n + 305) i g)
    (H : AllE P fun v L' n' i' g' => let s := (st.go X f hs).1.on v ((st.go X f hs).1.rest idx k ++ (L' ++ F)) (n' + 305) i' g'; MS X.V s) : MS X.V st := by
  refine run_callG O f hs idx k C.g hB e ?_
  rintro r L' n' i' g' ⟨v, rfl, p⟩
  have z : MS X.V ((st.go X f hs).1.on v ((st.go X f hs).1.rest idx k ++ (L' ++ F)) (n' + 305) i' g') := H v L' n' i' g' p
  rw [on_eq] at z
  exact z
theorem run_end {X : Cx} (O : X.Ok) {st : St} (f : Nat) (hs : List Nat) (idx : List Nat) (k : Nat) (ig : List Nat) (kg : Nat) (κ : Kont) (fl : Flow) (L' : Led) (n' i' g' : Nat) (G' : Gl)
    (hi : sub1 idx ig = true) (e : leftR (st.go X f hs) idx k ig kg = rightR (st.go X f hs) κ (.pure (.done fl)) L' n' i' g' G')
    (H : Back X.V κ (.ok fl) L' n' i' g' G') : MS X.V st := by
  simp only [sub1, Bool.and_eq_true] at hi
  simp only [leftR, rightR, Prod.mk.injEq] at e
  obtain ⟨ep, ⟨e1, e2, e3⟩, e4⟩ := e
  refine run_ms O f hs (paid_of ep) ?_
  generalize (st.go X f hs).1 = z at e1 e2 e3 e4 ⊢
  obtain ⟨c, md, κ, t, L, n, i, g, G⟩ := z
  simp only [Rest, Prod.mk.injEq] at e1 e2 e3 e4
  subst e1 e2 e3
  obtain ⟨rfl, rfl, rfl, rfl, rfl⟩ := e4
  exact ms_done (back_pick idx k ig kg hi.1 hi.2 H)
theorem run_to {X : Cx} (O : X.Ok) {st : St} (f : Nat) (hs : List Nat) (idx : List Nat) (k : Nat) (ig : List Nat) (kg : Nat) (c' : Code) (κ' : Kont) (t' : Sem Fin) (L' : Led) (n' i' g' : Nat) (G' : Gl)
    (hi : sub1 idx ig = true) (e : ((st.go X f hs).1.c, leftR (st.go X f hs) idx k ig kg) = (c', rightR (st.go X f hs) κ' t' L' n' i' g' G'))
    (H : MS X.V ⟨c', none, κ', t', L', n', i', g', G'⟩) : MS X.V st := by
  simp only [sub1, Bool.and_eq_true] at hi
  simp only [leftR, rightR, Prod.mk.injEq] at e
  obtain ⟨e0, ep, ⟨e1, e2, e3⟩, e4⟩ := e
  refine run_ms O f hs (paid_of ep) ?_
  generalize (st.go X f hs).1 = z at e0 e1 e2 e3 e4 ⊢
  obtain ⟨c, md, κ, t, L, n, i, g, G⟩ := z
  simp only [Rest, Prod.mk.injEq] at e0 e1 e2 e3 e4
  subst e0 e1 e2 e3
  obtain ⟨rfl, rfl, rfl, rfl, rfl⟩ := e4
  exact ms_pick idx k ig kg hi.1 hi.2 H
noncomputable def turnGo (V : XV) (m : Nat) (rules : List Rl) (fuel : Nat) (hs : List Nat) (c : Code) (pre : Led) (n i g : Nat) (A : Around) (Q : Result → Shared → Prop) (F : Led) (G : Gl) : St × Owes :=
  St.go (cxR (reV V A Q) m rules) fuel hs ⟨c, none, .base, startF c, pre ++ F, n + 305, i, g, G⟩
theorem turn_at {V : XV} {m : Nat} {c : Code} {pre : Led} {n i g : Nat} {P : PostG} (rules : List Rl) (fuel : Nat) (hs idx : List Nat) (kk : Nat) (c' : Code) (pre' : Led) (n' i' g' : Nat)
    (hi : (sub1 idx [] && Nat.ble 250 m) = true) (hR : ∀ A Q, Base (reV V A Q) m → AllOk (reV V A Q) rules)
    (e : ∀ A Q F G, ((turnGo V m rules fuel hs c pre n i g A Q F G).1.c, leftR (turnGo V m rules fuel hs c pre n i g A Q F G) idx kk [] 0) = (c', rightR (turnGo V m rules fuel hs c pre n i g A Q F G) .base (startF c') (pre' ++ F) (n' + 305) i' g' G))
    (H : CallsS V m c' pre' n' i' g' P) : CallsS V m c pre n i g P := fun A Q B F G Bk => by
  simp only [Bool.and_eq_true] at hi
  exact run_to (B.okR (Nat.le_of_ble_eq_true hi.2) (hR A Q B)) fuel hs idx kk [] 0 c' .base (startF c') (pre' ++ F) (n' + 305) i' g' G hi.1 (e A Q F G) (H A Q B F G Bk)
theorem turn_end {V : XV} {m : Nat} {c : Code} {pre : Led} {n i g : Nat} {P : PostG} (rules : List Rl) (fuel : Nat) (hs idx : List Nat) (kk : Nat) (fl : Flow) (pre' : Led) (n' i' g' : Nat)
    (hi : (sub1 idx [] && Nat.ble 250 m) = true) (hR : ∀ A Q, Base (reV V A Q) m → AllOk (reV V A Q) rules)
    (e : ∀ A Q F G, leftR (turnGo V m rules fuel hs c pre n i g A Q F G) idx kk [] 0 = rightR (turnGo V m rules fuel hs c pre n i g A Q F G) .base (.pure (.done fl)) (pre' ++ F) (n' + 305) i' g' G)
    (H : P (.ok fl) pre' n' i' g') : CallsS V m c pre n i g P := fun A Q B F G Bk => by
  simp only [Bool.and_eq_true] at hi
  exact run_end (B.okR (Nat.le_of_ble_eq_true hi.2) (hR A Q B)) fuel hs idx kk [] 0 .base fl (pre' ++ F) (n' + 305) i' g' G hi.1 (e A Q F G) (Bk _ _ _ _ _ H)
end Mine
end
section
open PySem PySem.W PySem.W.X PySem.Builtin.Str
namespace Mine
noncomputable def apL : List Nat → (Nat → Nat) → Nat → Nat
  | [], f, j => f j
  | x :: _, _, 0 => x
  | _ :: l, f, j + 1 => apL l f j
noncomputable def FS (V : XV) (w : Nat) (u : List Nat) (f1 f2 : Bool) (a0 : Nat) (ls : List Str) (L : Led) : Prop := ∃ b t e m q, q.map (·.1) = ls ∧ L = fs (Int.ofNat w) u f1 f2 V.w.params (apL [a0] b) t e m (strValues q).toArray
theorem apL_eta (a : Nat → Nat) : a = apL [a 0] (fun j => a (j + 1)) := by
  funext j; cases j <;> rfl
noncomputable def growL (w : Nat) (u : List Nat) (x : Nat) (ls : List Str) : List Str := match over w u x with
  | true => ls ++ [catS u]
  | false => ls
theorem FS.step {V : XV} {w : Nat} {u : List Nat} {f1 f2 : Bool} {x a0 : Nat} {ls : List Str} {L : Led} (h : Chk V w u f1 f2 x) (S : FS V w u f1 f2 a0 ls L) (hl : ls.length ≤ 100) (n i g : Nat) (t1 t2 : Tok) :
    CallsE V 300 (chkCode a0 x t1 t2) L n i g (fun v L' _ _ _ => v = .none ∧ FS V w (nextU w u x) true (f2 || over w u x) a0 (growL w u x ls) L') := by
  obtain ⟨b, t, e, m, q, hq, rfl⟩ := S
  have hy : (strValues q).toArray.size ≤ 100 := by
    have : q.length = ls.length := by rw [← hq, List.length_map]
    simp [strValues, this, hl]
  have z := h (apL [a0] b) t e m (strValues q).toArray n i g t1 t2 hy
  refine z.mono ?_
  rintro v L' n' i' g' ⟨rfl, a', t', e', m', y', ha', rfl, hg⟩
  refine ⟨rfl, ?_⟩
  have ha' : a' 0 = a0 := ha'
  rw [apL_eta a', ha']
  unfold GrowY at hg
  unfold growL
  cases ho : over w u x with
  | true =>
    rw [ho] at hg
    obtain ⟨τ, rfl⟩ := hg
    refine ⟨fun j => a' (j + 1), t', e', m', q ++ [(catS u, τ)], by rw [List.map_append, hq]; rfl, ?_⟩
    simp [strValues]
  | false =>
    rw [ho] at hg
    subst hg
    exact ⟨fun j => a' (j + 1), t', e', m', q, hq, rfl⟩
theorem FS.end {V : XV} {w : Nat} {u : List Nat} {a0 : Nat} {ls : List Str} {L : Led} (h : Nwl V w u) (S : FS V w u true true a0 ls L) (hl : ls.length ≤ 100) (n i g : Nat) :
    CallsE V 300 (nwlCode a0) L n i g (fun v L' _ _ _ => v = .none ∧ FS V w [] true true a0 (ls ++ [catS u]) L') := by
  obtain ⟨b, t, e, m, q, hq, rfl⟩ := S
  have hy : (strValues q).toArray.size ≤ 100 := by
    have : q.length = ls.length := by rw [← hq, List.length_map]
    simp [strValues, this, hl]
  have z := h (apL [a0] b) t e m (strValues q).toArray n i g hy
  refine z.mono ?_
  rintro v L' n' i' g' ⟨rfl, a', t', e', m', τ, ha', rfl⟩
  have ha' : a' 0 = a0 := ha'
  rw [apL_eta a', ha']
  refine ⟨rfl, fun j => a' (j + 1), t', e', m', q ++ [(catS u, τ)], by rw [List.map_append, hq]; rfl, ?_⟩
  simp [strValues]
noncomputable def pgW (a0 x0 x1 x2 x3 x4 : Nat) (t : Nat → Tok) (e0 : Nat) : Addr × Obj := (a0 + 305, ⟨.type "list", none, .seq #[.str (wS x0) (t 0), .str (wS x1) (t 1), .str (wS x2) (t 2), .str (wS x3) (t 3), .str (wS x4) (t 4)] e0, #[]⟩)
noncomputable def PageP (W : Addr × Obj) (ls : List Str) : PostE := fun v L' _ _ _ => ∃ r a t m τ, v = .ref (r + 305) ∧ L' = (r + 305, ⟨.type "list", none, .seq (strsFrom τ ls).toArray 0, #[]⟩) :: W :: fsTail true true a t m 0 0
noncomputable def pgHs1 : List Nat := (unp 320 0xe7ff00b28900000024000024000024b2cb00104c04104104b04b2ca28a0092490002000002002002000002071041040410030000410410410410410410030c00410400010000000030c30000800000800800800000810400410010400000000000010010000020000000000000000000000020041040000c00000c00c00c00000c20c30c00020000020020020000020410c30c00020000020020020000020410000c30c00020000020020020000020410c30c0002000002002002000002041001040041001040041001040000000000040040000000000000000000000000000000000000000001000041001040000)
noncomputable def pgHs2 : List Nat := (unp 32 0xe7ff006248000000200000200000206186001047041041)
noncomputable def pgHs6 : List Nat := (unp 55 0x39ffc030b0000002c00002c00002c10010400410000002ca000000280000280000288041047041041)
noncomputable def pgHs7 : List Nat := (unp 22 0x117ff3107ff3002cb00000b00000b041)
theorem page_false {V : XV} {w : Nat} {x0 x1 x2 x3 x4 : Nat} {u1 u2 u3 u4 u5 : List Nat} {f1 f2 f3 f4 f5 : Bool} {l1 l2 l3 l4 l5 : List Str}
    (h0 : ∀ V, Chk V w [] false false x0) (h1 : ∀ V, Chk V w u1 true f1 x1) (h2 : ∀ V, Chk V w u2 true f2 x2) (h3 : ∀ V, Chk V w u3 true f3 x3) (h4 : ∀ V, Chk V w u4 true f4 x4) (h5 : ∀ V, Nwl V w u5)
    (eu1 : nextU w [] x0 = u1) (eu2 : nextU w u1 x1 = u2) (eu3 : nextU w u2 x2 = u3) (eu4 : nextU w u3 x3 = u4) (eu5 : nextU w u4 x4 = u5)
    (ef1 : (false || over w [] x0) = f1) (ef2 : (f1 || over w u1 x1) = f2) (ef3 : (f2 || over w u2 x2) = f3) (ef4 : (f3 || over w u3 x3) = f4) (ef5 : (f4 || over w u4 x4) = true)
    (el1 : growL w [] x0 [] = l1) (el2 : growL w u1 x1 l1 = l2) (el3 : growL w u2 x2 l2 = l3) (el4 : growL w u3 x3 l3 = l4) (el5 : growL w u4 x4 l4 = l5)
    (hl : l1.length ≤ 100 ∧ l2.length ≤ 100 ∧ l3.length ≤ 100 ∧ l4.length ≤ 100 ∧ l5.length ≤ 100) (hS : SplitOk (l5 ++ [catS u5]))
    (a : Nat → Nat) (t tt : Nat → Tok) (m : Nat → Int) (a0 e0 n i g : Nat) (tw : Tok) :
    CallsE V 500 (.call (.ref 269) ⟨[.ref (a0 + 305), .int (Int.ofNat w) tw], []⟩) (pgW a0 x0 x1 x2 x3 x4 t e0 :: fsTail false false a tt m 0 0) n i g (PageP (pgW a0 x0 x1 x2 x3 x4 t e0) (l5 ++ [catS u5])) := by
  intro A Q hb F G Bk
  have O : (cxR (reV V A Q) 500 []).Ok := hb.okR (by decide) trivial
  obtain ⟨hl1, hl2, hl3, hl4, hl5⟩ := hl
  have S0 : FS (reV V A Q) w [] false false (n + 2) [] (fs (Int.ofNat w) [] false false (reV V A Q).w.params (apL [n + 2, n + 1, n + 4, n + 6, n + 5] a) (apL [i + 11, tw, i + 13, i + 3, i + 17, i + 15, i + 19, i + 4, i + 21, i + 28, i + 25, i + 2] tt) (lk [6, 0, 0, 1]) m #[]) :=
    ⟨apL [n + 1, n + 4, n + 6, n + 5] a, _, _, _, [], rfl, by rw [apL_eta (apL [n + 2, n + 1, n + 4, n + 6, n + 5] a)]; rfl⟩
  have C1 := FS.step (h0 _) S0 (by decide) (n + 11) (i + 32) g (i + 31) (t 0)
  refine @run_call (cxR (reV V A Q) 500 []) O _ 600 pgHs1 [8, 8, 6, 4, 4, 7, 7] 14 300 _ _ F _ _ _ _ C1 hb (by kernel_rfl) (hid ?_)
  intro Kq hKq
  rintro v L1 n1 i1 g1 ⟨rfl, S1⟩
  refine hKq _ _ _ _ _ ?_
  rw [eu1, ef1, el1] at S1
  obtain ⟨b1, t1, e1, m1, q1, hq1, rfl⟩ := S1
  have S1 : FS (reV V A Q) w u1 true f1 (n + 2) l1 _ := ⟨b1, t1, e1, m1, q1, hq1, rfl⟩
  have C2 := FS.step (h1 _) S1 hl1 n1 (i1 + 2) g1 (i1 + 1) (t 1)
  intro sq
  refine @run_call (cxR (reV V A Q) 500 []) O _ 100 pgHs2 [] 7 300 _ _ F _ _ _ _ C2 hb (by kernel_rfl) (hid ?_)
  intro Kq hKq
  rintro v L2 n2 i2 g2 ⟨rfl, S2⟩
  refine hKq _ _ _ _ _ ?_
  rw [eu2, ef2, el2] at S2
  obtain ⟨b2, t2, e2, m2, q2, hq2, rfl⟩ := S2
  have S2 : FS (reV V A Q) w u2 true f2 (n + 2) l2 _ := ⟨b2, t2, e2, m2, q2, hq2, rfl⟩
  have C3 := FS.step (h2 _) S2 hl2 n2 (i2 + 2) g2 (i2 + 1) (t 2)
  intro sq
  refine @run_call (cxR (reV V A Q) 500 []) O _ 100 pgHs2 [] 7 300 _ _ F _ _ _ _ C3 hb (by kernel_rfl) (hid ?_)
  intro Kq hKq
  rintro v L3 n3 i3 g3 ⟨rfl, S3⟩
  refine hKq _ _ _ _ _ ?_
  rw [eu3, ef3, el3] at S3
  obtain ⟨b3, t3, e3, m3, q3, hq3, rfl⟩ := S3
  have S3 : FS (reV V A Q) w u3 true f3 (n + 2) l3 _ := ⟨b3, t3, e3, m3, q3, hq3, rfl⟩
  have C4 := FS.step (h3 _) S3 hl3 n3 (i3 + 2) g3 (i3 + 1) (t 3)
  intro sq
  refine @run_call (cxR (reV V A Q) 500 []) O _ 100 pgHs2 [] 7 300 _ _ F _ _ _ _ C4 hb (by kernel_rfl) (hid ?_)
  intro Kq hKq
  rintro v L4 n4 i4 g4 ⟨rfl, S4⟩
  refine hKq _ _ _ _ _ ?_
  rw [eu4, ef4, el4] at S4
  obtain ⟨b4, t4, e4, m4, q4, hq4, rfl⟩ := S4
  have S4 : FS (reV V A Q) w u4 true f4 (n + 2) l4 _ := ⟨b4, t4, e4, m4, q4, hq4, rfl⟩
  have C5 := FS.step (h4 _) S4 hl4 n4 (i4 + 2) g4 (i4 + 1) (t 4)
  intro sq
  refine @run_call (cxR (reV V A Q) 500 []) O _ 100 pgHs2 [] 7 300 _ _ F _ _ _ _ C5 hb (by kernel_rfl) (hid ?_)
  intro Kq hKq
  rintro v L5 n5 i5 g5 ⟨rfl, S5⟩
  refine hKq _ _ _ _ _ ?_
  rw [eu5, ef5, el5] at S5
  obtain ⟨b5, t5, e5, m5, q5, hq5, rfl⟩ := S5
  have S5 : FS (reV V A Q) w u5 true true (n + 2) l5 _ := ⟨b5, t5, e5, m5, q5, hq5, rfl⟩
  have C6 := FS.end (h5 _) S5 hl5 (n5 + 3) (i5 + 3) g5
  intro sq
  refine @run_call (cxR (reV V A Q) 500 []) O _ 200 pgHs6 [] 10 300 _ _ F _ _ _ _ C6 hb (by kernel_rfl) (hid ?_)
  intro Kq hKq
  rintro v L6 n6 i6 g6 ⟨rfl, hx⟩
  refine ex5 hx ?_
  clear hx
  rintro b6 t' e' m' q ⟨hq, rfl⟩
  refine hKq _ _ _ _ _ ?_
  have O2 : (cxR (reV V A Q) 500 [join_r i5 (b6 1 + 305) q (e' 1) n6 (i6 + 1) g6, split_r (i6 + 1) (i6 + 2) (q.map (·.1)) n6 (i6 + 3) g6]).Ok := hb.okR (by decide) ⟨join_ok (by rw [hq]; exact hS), split_ok (by rw [hq]; exact hS), trivial⟩
  have BK := Bk (.ref (n6 + 305)) ((n6 + 305, ⟨.type "list", none, .seq (strsFrom (i6 + 3) (q.map (·.1))).toArray 0, #[]⟩) :: pgW a0 x0 x1 x2 x3 x4 t e0 :: fsTail true true (fun j => b6 (j + 4)) (fun j => t' (j + 12)) m' 0 0) (n6 + 1) (i6 + 3 + (q.map (·.1)).length) g6 ⟨n6, _, _, _, i6 + 3, rfl, by rw [hq]⟩
  intro sq
  exact @run_end (cxR (reV V A Q) 500 [join_r i5 (b6 1 + 305) q (e' 1) n6 (i6 + 1) g6, split_r (i6 + 1) (i6 + 2) (q.map (·.1)) n6 (i6 + 3) g6]) O2 _ 60 pgHs7 [0, 11, 16, 17, 18, 19] 20 [] 0 .base (.ret (.ref (n6 + 305))) _ _ _ _ _ (by kernel_rfl) (by kernel_rfl) BK
theorem page_true {V : XV} {w : Nat} {x0 x1 x2 x3 x4 : Nat} {u1 u2 u3 u4 u5 : List Nat} {f1 f2 f3 f4 f5 : Bool} {l1 l2 l3 l4 l5 : List Str}
    (h0 : ∀ V, Chk V w [] true true x0) (h1 : ∀ V, Chk V w u1 true f1 x1) (h2 : ∀ V, Chk V w u2 true f2 x2) (h3 : ∀ V, Chk V w u3 true f3 x3) (h4 : ∀ V, Chk V w u4 true f4 x4) (h5 : ∀ V, Nwl V w u5)
    (eu1 : nextU w [] x0 = u1) (eu2 : nextU w u1 x1 = u2) (eu3 : nextU w u2 x2 = u3) (eu4 : nextU w u3 x3 = u4) (eu5 : nextU w u4 x4 = u5)
    (ef1 : (true || over w [] x0) = f1) (ef2 : (f1 || over w u1 x1) = f2) (ef3 : (f2 || over w u2 x2) = f3) (ef4 : (f3 || over w u3 x3) = f4) (ef5 : (f4 || over w u4 x4) = true)
    (el1 : growL w [] x0 [] = l1) (el2 : growL w u1 x1 l1 = l2) (el3 : growL w u2 x2 l2 = l3) (el4 : growL w u3 x3 l3 = l4) (el5 : growL w u4 x4 l4 = l5)
    (hl : l1.length ≤ 100 ∧ l2.length ≤ 100 ∧ l3.length ≤ 100 ∧ l4.length ≤ 100 ∧ l5.length ≤ 100) (hS : SplitOk (l5 ++ [catS u5]))
    (a : Nat → Nat) (t tt : Nat → Tok) (m : Nat → Int) (a0 e0 n i g : Nat) (tw : Tok) :
    CallsE V 500 (.call (.ref 269) ⟨[.ref (a0 + 305), .int (Int.ofNat w) tw], []⟩) (pgW a0 x0 x1 x2 x3 x4 t e0 :: fsTail true true a tt m 0 0) n i g (PageP (pgW a0 x0 x1 x2 x3 x4 t e0) (l5 ++ [catS u5])) := by
  intro A Q hb F G Bk
  have O : (cxR (reV V A Q) 500 []).Ok := hb.okR (by decide) trivial
  obtain ⟨hl1, hl2, hl3, hl4, hl5⟩ := hl
  have S0 : FS (reV V A Q) w [] true true (n + 2) [] (fs (Int.ofNat w) [] true true (reV V A Q).w.params (apL [n + 2, n + 1, n + 4, n + 6, n + 5] a) (apL [i + 11, tw, i + 13, i + 3, i + 17, i + 15, i + 19, i + 4, i + 21, i + 28, i + 25, i + 2] tt) (lk [6, 0, 0, 1]) m #[]) :=
    ⟨apL [n + 1, n + 4, n + 6, n + 5] a, _, _, _, [], rfl, by rw [apL_eta (apL [n + 2, n + 1, n + 4, n + 6, n + 5] a)]; rfl⟩
  have C1 := FS.step (h0 _) S0 (by decide) (n + 11) (i + 32) g (i + 31) (t 0)
  refine @run_call (cxR (reV V A Q) 500 []) O _ 600 pgHs1 [8, 8, 6, 4, 4, 7, 7, 7, 7] 16 300 _ _ F _ _ _ _ C1 hb (by kernel_rfl) (hid ?_)
  intro Kq hKq
  rintro v L1 n1 i1 g1 ⟨rfl, S1⟩
  refine hKq _ _ _ _ _ ?_
  rw [eu1, ef1, el1] at S1
  obtain ⟨b1, t1, e1, m1, q1, hq1, rfl⟩ := S1
  have S1 : FS (reV V A Q) w u1 true f1 (n + 2) l1 _ := ⟨b1, t1, e1, m1, q1, hq1, rfl⟩
  have C2 := FS.step (h1 _) S1 hl1 n1 (i1 + 2) g1 (i1 + 1) (t 1)
  intro sq
  refine @run_call (cxR (reV V A Q) 500 []) O _ 100 pgHs2 [] 7 300 _ _ F _ _ _ _ C2 hb (by kernel_rfl) (hid ?_)
  intro Kq hKq
  rintro v L2 n2 i2 g2 ⟨rfl, S2⟩
  refine hKq _ _ _ _ _ ?_
  rw [eu2, ef2, el2] at S2
  obtain ⟨b2, t2, e2, m2, q2, hq2, rfl⟩ := S2
  have S2 : FS (reV V A Q) w u2 true f2 (n + 2) l2 _ := ⟨b2, t2, e2, m2, q2, hq2, rfl⟩
  have C3 := FS.step (h2 _) S2 hl2 n2 (i2 + 2) g2 (i2 + 1) (t 2)
  intro sq
  refine @run_call (cxR (reV V A Q) 500 []) O _ 100 pgHs2 [] 7 300 _ _ F _ _ _ _ C3 hb (by kernel_rfl) (hid ?_)
  intro Kq hKq
  rintro v L3 n3 i3 g3 ⟨rfl, S3⟩
  refine hKq _ _ _ _ _ ?_
  rw [eu3, ef3, el3] at S3
  obtain ⟨b3, t3, e3, m3, q3, hq3, rfl⟩ := S3
  have S3 : FS (reV V A Q) w u3 true f3 (n + 2) l3 _ := ⟨b3, t3, e3, m3, q3, hq3, rfl⟩
  have C4 := FS.step (h3 _) S3 hl3 n3 (i3 + 2) g3 (i3 + 1) (t 3)
  intro sq
  refine @run_call (cxR (reV V A Q) 500 []) O _ 100 pgHs2 [] 7 300 _ _ F _ _ _ _ C4 hb (by kernel_rfl) (hid ?_)
  intro Kq hKq
  rintro v L4 n4 i4 g4 ⟨rfl, S4⟩
  refine hKq _ _ _ _ _ ?_
  rw [eu4, ef4, el4] at S4
  obtain ⟨b4, t4, e4, m4, q4, hq4, rfl⟩ := S4
  have S4 : FS (reV V A Q) w u4 true f4 (n + 2) l4 _ := ⟨b4, t4, e4, m4, q4, hq4, rfl⟩
  have C5 := FS.step (h4 _) S4 hl4 n4 (i4 + 2) g4 (i4 + 1) (t 4)
  intro sq
  refine @run_call (cxR (reV V A Q) 500 []) O _ 100 pgHs2 [] 7 300 _ _ F _ _ _ _ C5 hb (by kernel_rfl) (hid ?_)
  intro Kq hKq
  rintro v L5 n5 i5 g5 ⟨rfl, S5⟩
  refine hKq _ _ _ _ _ ?_
  rw [eu5, ef5, el5] at S5
  obtain ⟨b5, t5, e5, m5, q5, hq5, rfl⟩ := S5
  have S5 : FS (reV V A Q) w u5 true true (n + 2) l5 _ := ⟨b5, t5, e5, m5, q5, hq5, rfl⟩
  have C6 := FS.end (h5 _) S5 hl5 (n5 + 3) (i5 + 3) g5
  intro sq
  refine @run_call (cxR (reV V A Q) 500 []) O _ 200 pgHs6 [] 10 300 _ _ F _ _ _ _ C6 hb (by kernel_rfl) (hid ?_)
  intro Kq hKq
  rintro v L6 n6 i6 g6 ⟨rfl, hx⟩
  refine ex5 hx ?_
  clear hx
  rintro b6 t' e' m' q ⟨hq, rfl⟩
  refine hKq _ _ _ _ _ ?_
  have O2 : (cxR (reV V A Q) 500 [join_r i5 (b6 1 + 305) q (e' 1) n6 (i6 + 1) g6, split_r (i6 + 1) (i6 + 2) (q.map (·.1)) n6 (i6 + 3) g6]).Ok := hb.okR (by decide) ⟨join_ok (by rw [hq]; exact hS), split_ok (by rw [hq]; exact hS), trivial⟩
  have BK := Bk (.ref (n6 + 305)) ((n6 + 305, ⟨.type "list", none, .seq (strsFrom (i6 + 3) (q.map (·.1))).toArray 0, #[]⟩) :: pgW a0 x0 x1 x2 x3 x4 t e0 :: fsTail true true (fun j => b6 (j + 4)) (fun j => t' (j + 12)) m' 0 0) (n6 + 1) (i6 + 3 + (q.map (·.1)).length) g6 ⟨n6, _, _, _, i6 + 3, rfl, by rw [hq]⟩
  intro sq
  exact @run_end (cxR (reV V A Q) 500 [join_r i5 (b6 1 + 305) q (e' 1) n6 (i6 + 1) g6, split_r (i6 + 1) (i6 + 2) (q.map (·.1)) n6 (i6 + 3) g6]) O2 _ 60 pgHs7 [0, 11, 16, 17, 18, 19] 20 [] 0 .base (.ret (.ref (n6 + 305))) _ _ _ _ _ (by kernel_rfl) (by kernel_rfl) BK
end Mine
end
section
open PySem PySem.W PySem.W.X PySem.Builtin.Str
namespace Mine
noncomputable def oIt (T : String) (l : List Value) : Obj := ⟨.type T, none, .fields l.toArray, #[]⟩
noncomputable def oSeq (T : String) (y : Array Value) (e : Nat) : Obj := ⟨.type T, none, .seq y e, #[]⟩
theorem set1 {T : String} {a b c : Value} : Obj.mapFields (fun x => x.setIfInBounds 1 c) (oIt T [a, b]) = oIt T [a, c] := by simp [Obj.mapFields, oIt]
theorem set0 {T : String} {a b c : Value} : Obj.mapFields (fun x => x.setIfInBounds 0 c) (oIt T [a, b]) = oIt T [c, b] := by simp [Obj.mapFields, oIt]
noncomputable def stopL (n : Nat) : Led := [(n + 305 + 1, oIt "StopIteration" [.ref (n + 305), .none, .none, .none, .bool false, .none]), (n + 305, oSeq "tuple" #[] 0)]
noncomputable def li_r (it l : Addr) (j : Nat) (y : Array Value) (e : Nat) (x : Value) (n i g : Nat) : Rl :=
  ⟨.call (.builtin "list_iterator.__next__") ⟨[.ref it], []⟩, [(it, oIt "list_iterator" [.ref l, .int (Int.ofNat j) 0]), (l, oSeq "list" y e)], n + 305, i, g, x, [(it, oIt "list_iterator" [.ref l, .int (Int.ofNat (j + 1)) 0]), (l, oSeq "list" y e)], n + 305, i, g, 0, true⟩
theorem li_ok {V : XV} {it l : Addr} {j : Nat} {y : Array Value} {e : Nat} {x : Value} {n i g : Nat} (hx : y[j]? = some x) : RlOk V (li_r it l j y e x n i g) := by
  intro A _ b G s S R HR
  have ho := S.led (it, _) List.mem_cons_self
  have hl := S.led (l, _) (List.mem_cons_of_mem _ List.mem_cons_self)
  refine codeAny_call_builtin slot_listiter_next.plain entry_listiter_next (slot_listiter_next.check _ _ _ _ _ _ _ _ (T := "list_iterator") ⟨_, ho, rfl⟩ (args_listiter_next _) ?_)
  show wpAny _ _ (field (.ref it) 0 >>= _) _ _ s
  refine wpAny_bind (wpAny_field ho rfl (x := .ref l) rfl ?_)
  show wpAny _ _ (if (Value.ref l == Value.none) = true then _ else _) _ _ s
  rw [if_neg (show ¬ ((Value.ref l == Value.none) = true) from Bool.false_ne_true)]
  show wpAny _ _ (field (.ref it) 1 >>= _) _ _ s
  refine wpAny_bind (wpAny_field ho rfl (x := .int (Int.ofNat j) 0) rfl ?_)
  show wpAny _ _ (seqItems? (.ref l) >>= _) _ _ s
  refine wpAny_bind (wpAny_seqItems hl rfl ?_)
  simp only [Int.ofNat_eq_natCast, Int.toNat_natCast, hx]
  refine wpAny_bind (wpAny_setField ho rfl (by simp) (wpAny_pure ?_))
  have S2 := S.update (j := 0) (a := it) (o := oIt "list_iterator" [.ref l, .int (Int.ofNat j) 0]) (f := Obj.mapFields fun x => x.setIfInBounds 1 (rawInt (Int.ofNat j + 1))) rfl (by rw [set1]; rfl)
  rw [set1] at S2
  exact HR _ S2
theorem stop_run {V : XV} {L : Led} {n i g : Nat} {G : Gl} {prog : Program} {w : World} {A : Around} {s : Shared} {R : Fin → Shared → Prop} {Q : Result → Shared → Prop} (hh : A.handled = none) (S : Sat V L (n + 305) i g G s)
    (HR : ∀ s', Sat V (stopL n ++ L) (n + 305 + 2) i g G s' → Q (.error (.ref (n + 305 + 1))) s') :
    wpAny (model prog w) A (do raiseNew (← newExc (.type "StopIteration") [])) R (fun e s' => Q (.error e) s') s := by
  have ez : s.heap.objs.size = n + 305 := S.size
  refine wpAny_bind ?_
  simp only [newExc, newTuple]
  refine wpAny_bind (wpAny_newObj_type ?_ (by size_fits))
  refine wpAny_bind (m := firstArgMember _ _) (wpAny_of_eq (a := Value.none) (by first | rfl | (simp only [firstArgMember]; rfl)) ?_)
  refine wpAny_newObj_type ?_ (by size_fits)
  simp only [raiseNew]
  refine wpAny_bind (wpAny_handled ?_)
  rw [hh]
  refine wpAny_bind (wpAny_pure (wpAny_throw ?_))
  have S2 := (S.alloc (o := { cls := .type "tuple", data := .seq #[] }) rfl).alloc (o := { cls := .type "StopIteration", data := .fields #[.ref (n + 305), .none, .none, .none, .bool false, .none] }) rfl
  have S3 := HR _ S2
  simp only [Heap.size_push, ez]
  exact S3
noncomputable def le_r (it l : Addr) (j : Nat) (y : Array Value) (e : Nat) (n i g : Nat) : Rl :=
  ⟨.call (.builtin "list_iterator.__next__") ⟨[.ref it], []⟩, [(it, oIt "list_iterator" [.ref l, .int (Int.ofNat j) 0]), (l, oSeq "list" y e)], n + 305, i, g, .ref (n + 305 + 1), stopL n ++ [(it, oIt "list_iterator" [.none, .int (Int.ofNat j) 0]), (l, oSeq "list" y e)], n + 305 + 2, i, g, 1, true⟩
theorem le_ok {V : XV} {it l : Addr} {j : Nat} {y : Array Value} {e : Nat} {n i g : Nat} (hx : y[j]? = none) : RlOk V (le_r it l j y e n i g) := by
  intro A hA b G s S R HR
  have hh : A.in1.handled = none := hA.2 (show (1 : Nat) ≠ 0 by decide)
  have ho := S.led (it, _) List.mem_cons_self
  have hl := S.led (l, _) (List.mem_cons_of_mem _ List.mem_cons_self)
  refine codeAny_call_builtin slot_listiter_next.plain entry_listiter_next (slot_listiter_next.check _ _ _ _ _ _ _ _ (T := "list_iterator") ⟨_, ho, rfl⟩ (args_listiter_next _) ?_)
  show wpAny _ _ (field (.ref it) 0 >>= _) _ _ s
  refine wpAny_bind (wpAny_field ho rfl (x := .ref l) rfl ?_)
  show wpAny _ _ (if (Value.ref l == Value.none) = true then _ else _) _ _ s
  rw [if_neg (show ¬ ((Value.ref l == Value.none) = true) from Bool.false_ne_true)]
  show wpAny _ _ (field (.ref it) 1 >>= _) _ _ s
  refine wpAny_bind (wpAny_field ho rfl (x := .int (Int.ofNat j) 0) rfl ?_)
  show wpAny _ _ (seqItems? (.ref l) >>= _) _ _ s
  refine wpAny_bind (wpAny_seqItems hl rfl ?_)
  simp only [Int.ofNat_eq_natCast, Int.toNat_natCast, hx]
  refine wpAny_bind (wpAny_rule (wpAny_bind (wpAny_setField ho rfl (by simp) ?_)))
  have S2 := S.update (j := 0) (a := it) (o := oIt "list_iterator" [.ref l, .int (Int.ofNat j) 0]) (f := Obj.mapFields fun x => x.setIfInBounds 0 .none) rfl (by rw [set0]; rfl)
  rw [set0] at S2
  exact stop_run hh S2 fun s' S' => HR s' S'
noncomputable def sa_r (it : Addr) (x : Str) (t : Tok) (j c : Nat) (n i g : Nat) : Rl :=
  ⟨.call (.builtin "str_ascii_iterator.__next__") ⟨[.ref it], []⟩, [(it, oIt "str_ascii_iterator" [.str x t, .int (Int.ofNat j) 0])], n + 305, i, g, .str ⟨#[c]⟩ i, [(it, oIt "str_ascii_iterator" [.str x t, .int (Int.ofNat (j + 1)) 0])], n + 305, i + 1, g, 0, true⟩
theorem sa_ok {V : XV} {it : Addr} {x : Str} {t : Tok} {j c n i g : Nat} (hx : x.cps[j]? = some c) : RlOk V (sa_r it x t j c n i g) := by
  intro A _ b G s S R HR
  have et : s.toks = i := S.toks
  have ho := S.led (it, _) List.mem_cons_self
  refine codeAny_call_builtin F.slot_str_ascii_iterator_next.plain F.entry_str_ascii_iterator_next (F.slot_str_ascii_iterator_next.check _ _ _ _ _ _ _ _ (T := "str_ascii_iterator") ⟨_, ho, rfl⟩ (F.args_str_ascii_iterator_next_1 _) ?_)
  show wpAny _ _ (field (.ref it) 0 >>= _) _ _ s
  refine wpAny_bind (wpAny_field ho rfl (x := .str x t) rfl ?_)
  show wpAny _ _ (field (.ref it) 1 >>= _) _ _ s
  refine wpAny_bind (wpAny_field ho rfl (x := .int (Int.ofNat j) 0) rfl ?_)
  simp only [Int.ofNat_eq_natCast, Int.toNat_natCast, hx]
  refine wpAny_bind (wpAny_setField ho rfl (by simp) (wpAny_bind (wpAny_mkStr (wpAny_pure ?_) (by show 1 ≤ sizeLine; decide))))
  have S2 := S.update (j := 0) (a := it) (o := oIt "str_ascii_iterator" [.str x t, .int (Int.ofNat j) 0]) (f := Obj.mapFields fun x => x.setIfInBounds 1 (rawInt (Int.ofNat j + 1))) rfl (by rw [set1]; rfl)
  rw [set1] at S2
  have S3 := S2.tok 1
  have z := HR _ S3
  simp only [et] at z ⊢
  exact z
noncomputable def se_r (it : Addr) (x : Str) (t : Tok) (j : Nat) (n i g : Nat) : Rl :=
  ⟨.call (.builtin "str_ascii_iterator.__next__") ⟨[.ref it], []⟩, [(it, oIt "str_ascii_iterator" [.str x t, .int (Int.ofNat j) 0])], n + 305, i, g, .ref (n + 305 + 1), stopL n ++ [(it, oIt "str_ascii_iterator" [.none, .int (Int.ofNat j) 0])], n + 305 + 2, i, g, 1, true⟩
theorem se_ok {V : XV} {it : Addr} {x : Str} {t : Tok} {j n i g : Nat} (hx : x.cps[j]? = none) : RlOk V (se_r it x t j n i g) := by
  intro A hA b G s S R HR
  have hh : A.in1.handled = none := hA.2 (show (1 : Nat) ≠ 0 by decide)
  have ho := S.led (it, _) List.mem_cons_self
  refine codeAny_call_builtin F.slot_str_ascii_iterator_next.plain F.entry_str_ascii_iterator_next (F.slot_str_ascii_iterator_next.check _ _ _ _ _ _ _ _ (T := "str_ascii_iterator") ⟨_, ho, rfl⟩ (F.args_str_ascii_iterator_next_1 _) ?_)
  show wpAny _ _ (field (.ref it) 0 >>= _) _ _ s
  refine wpAny_bind (wpAny_field ho rfl (x := .str x t) rfl ?_)
  show wpAny _ _ (field (.ref it) 1 >>= _) _ _ s
  refine wpAny_bind (wpAny_field ho rfl (x := .int (Int.ofNat j) 0) rfl ?_)
  simp only [Int.ofNat_eq_natCast, Int.toNat_natCast, hx]
  refine wpAny_bind (wpAny_rule (wpAny_bind (wpAny_setField ho rfl (by simp) (wpAny_bind (wpAny_letGo ?_)))))
  have S2 := S.update (j := 0) (a := it) (o := oIt "str_ascii_iterator" [.str x t, .int (Int.ofNat j) 0]) (f := Obj.mapFields fun x => x.setIfInBounds 0 .none) rfl (by rw [set0]; rfl)
  rw [set0] at S2
  exact stop_run hh S2 fun s' S' => HR s' S'
end Mine
end
section
open PySem PySem.W PySem.W.X PySem.Builtin.Str
namespace Mine
noncomputable def fdF (p : Params) (f : Nat) : FuncData := match topF p f with
  | some o => match o.data with
    | .func fd => fd
    | _ => default
  | none => default
noncomputable def stmtsOf (fd : FuncData) : List Stmt := match fd.body with
  | .stmts b => b
  | .expr _ => []
noncomputable def forAt : List Stmt → List Nat → Expr × List Stmt × List Stmt
  | _, [] => (default, [], [])
  | ss, k :: ks => match ss[k]? with
    | some s => match s with
      | .For t _ b o _ => match ks with
        | [] => (t, b, o)
        | _ => forAt b ks
      | .If _ b _ _ => forAt b ks
      | _ => (default, [], [])
    | none => (default, [], [])
noncomputable def fnEnv (p : Params) (f : Nat) (q : Str) (loc : Nat) (cells : List (Str × Addr)) : Env := ⟨(fdF p f).scope, loc + 305, 3, cells, q, some f, .ref (f - 1), some (loc + 305), 0⟩
noncomputable def loopC (p : Params) (f : Nat) (path : List Nat) (env : Env) (it : Nat) : Code :=
  let x := forAt (stmtsOf (fdF p f)) path
  .forLoop x.1 (.ref (it + 305)) x.2.1 x.2.2 env
noncomputable def exprAt (ss : List Stmt) (k : Nat) : Expr := match ss[k]? with
  | some s => match s with
    | .Return e _ => match e with
      | some e => e
      | none => default
    | .Assign _ e _ => e
    | .If e _ _ _ => e
    | _ => default
  | none => default
noncomputable def eltOf (e : Expr) : Expr := match e with
  | .ListComp e _ _ _ => e
  | _ => default
noncomputable def argOf (e : Expr) : Expr := match e with
  | .Call _ as _ _ => match as with
    | a :: _ => a
    | [] => default
  | _ => default
noncomputable def scopeOf (e : Expr) : Scope := match e with
  | .ListComp _ _ s _ => s
  | _ => default
noncomputable def scopeC (s : Scope) : Scope := { s with names := s.names.map fun x => (x.1, match x.2 with
  | .free => .cell
  | k => k) }
noncomputable def compEnv (sc : Scope) (q : Str) (code : Nat) (loc fr : Nat) (cells : List (Str × Addr)) : Env := ⟨scopeC sc, loc + 305, 3, cells, q, none, .ref code, some (fr + 305), 0⟩
noncomputable def oDic (es : Array DictEntry) (e : Nat) : Obj := ⟨.type "dict", none, .dict es e, #[]⟩
noncomputable def oCell (v : Option Value) : Obj := ⟨.type "cell", none, .cell v, #[]⟩
noncomputable def oFrm (es : Array DictEntry) (e : Nat) : Obj := ⟨.type "frame", none, .dict es e, #[]⟩
noncomputable def dD (p : Params) (nm : Str) (o : Option (Tok × Value)) : Array DictEntry := match o with
  | none => #[]
  | some x => #[⟨PyData.keyHash p nm, .str nm x.1, x.2⟩]
noncomputable def dEs (p : Params) (l : List (Str × Tok × Value)) : Array DictEntry := (l.map fun x => (⟨PyData.keyHash p x.1, .str x.1 x.2.1, x.2.2⟩ : DictEntry)).toArray
noncomputable def dO (nm : Str) (o : Option (Tok × Value)) : List (Str × Tok × Value) := match o with
  | none => []
  | some x => [(nm, x.1, x.2)]
noncomputable def pv_r (c : Code) (v : Value) (n i g : Nat) : Rl := ⟨c, [], n + 305, i, g, v, [], n + 305, i, g, 0, true⟩
noncomputable def bi (id : String) (as : List Value) : Code := .call (.builtin id) ⟨as, []⟩
theorem gt_ok {V : XV} {a b : Int} {t u : Tok} {r : Bool} {n i g : Nat} (h : decide (a > b) = r) : RlOk V (pv_r (bi "int.__gt__" [.int a t, .int b u]) (.bool r) n i g) := by
  intro A _ b G s S R HR
  refine codeAny_call_builtin F.slot_int_gt.plain F.entry_int_gt (F.slot_int_gt.check _ _ _ _ _ _ _ _ (T := "int") (typeIs_int _ _ _) (F.args_int_gt_2 _ _) (gives_int_gt _ _ _ _ V.prog V.w A R s ?_))
  rw [h]
  exact HR _ S
theorem ge_ok {V : XV} {a b : Int} {t u : Tok} {r : Bool} {n i g : Nat} (h : decide (a ≥ b) = r) : RlOk V (pv_r (bi "int.__ge__" [.int a t, .int b u]) (.bool r) n i g) := by
  intro A _ b G s S R HR
  refine codeAny_call_builtin F.slot_int_ge.plain F.entry_int_ge (F.slot_int_ge.check _ _ _ _ _ _ _ _ (T := "int") (typeIs_int _ _ _) (F.args_int_ge_2 _ _) (gives_int_ge _ _ _ _ V.prog V.w A R s ?_))
  rw [h]
  exact HR _ S
theorem code_fun {V : XV} {A : Around} {s : Shared} {id : String} {b : Builtin} {args : List Value} {R : Result → Shared → Prop} (hk : builtinKind id = none) (hp : plainId id = true)
    (hb : entryFor table id = some b) (ha : argsOk id ⟨args, []⟩)
    (hc : wpAny (model V.prog V.w) A.in1 (b ⟨args, []⟩) (fun fin s' => ∃ v, fin = .done (.ret v) ∧ R (.ok (.ret v)) s') (fun e s' => R (.error e) s') s) : codeAny (model V.prog V.w) A (.call (.builtin id) ⟨args, []⟩) R s := by
  refine codeAny_call_builtin hp hb ?_
  have hfin := wpAny_mono hc (Q' := fun fin s' => match fin with
      | .done f => R (.ok f) s'
      | .again c' => c'.quiet = true ∧ codeAny (model V.prog V.w) A c' R s')
    (fun fin s' h' => by obtain ⟨v, rfl, hv⟩ := h'; exact hv) fun _ _ h' => h'
  simp only [checkBuiltinCall, hk]
  cases hsig : Manifest.signature? id with
  | none => exact wpAny_pure hfin
  | some sig =>
    simp only [argsOk, hsig] at ha
    have h2 : Bind.checkArgs id sig ⟨args, []⟩ = pure () := ha
    show wpAny _ A.in1 (Bind.checkArgs id sig ⟨args, []⟩) _ _ s
    rw [h2]; exact wpAny_pure hfin
noncomputable def len_r (l : Addr) (y : Array Value) (e : Nat) (n i g : Nat) : Rl := ⟨bi "len" [.ref l], [(l, oSeq "list" y e)], n + 305, i, g, .int (Int.ofNat y.size) (i + 1), [(l, oSeq "list" y e)], n + 305, i + 2, g, 0, true⟩
theorem len_ok {V : XV} {l : Addr} {y : Array Value} {e n i g : Nat} (hy : y.size ≤ 1000) : RlOk V (len_r l y e n i g) := by
  intro A _ b G s S R HR
  have et : s.toks = i := S.toks
  have ho := S.led (l, _) List.mem_cons_self
  have hl : s.heap.IsList l y := ⟨_, ho, rfl, e, rfl⟩
  refine code_fun kind_len plain_len entry_len (args_len1 _) ?_
  unfold Builtin.«len»
  refine wpAny_bind (m := oneArg "len" _) (wpAny_pure ?_)
  refine wpAny_bind (m := callSpecial? (.ref l) (Str.ofString "__len__")) (wpAny_callSpecial?_slot (name := Str.ofString "__len__") hl.typeIs slot_list_len
    (wpAny_call_entry slot_list_len hl.typeIs entry_list_len ?_ (args_list_len _)))
  show wpAny _ _ (do retInt (← seqSize l)) _ _ s
  unfold seqSize
  refine wpAny_bind (wpAny_bind (wpAny_load ho ?_))
  refine wpAny_pure (wpAny_bind (wpAny_mkInt (wpAny_pure ⟨_, rfl, ?_⟩)))
  refine wpAny_bind (wpAny_holding (wpAny_pure ?_))
  refine wpAny_bind (wpAny_letGo ?_)
  show wpAny _ _ (if ((y.size : Nat) : Int) < 0 then _ else _) _ _ _
  rw [if_neg (by omega)]
  show wpAny _ _ (if ((y.size : Nat) : Int) ≥ 2 ^ 63 then _ else _) _ _ _
  rw [if_neg (by omega)]
  refine wpAny_bind (wpAny_mkInt (wpAny_pure ⟨_, rfl, ?_⟩))
  have S2 := S.tok 2
  have z := HR _ S2
  simp only [et] at z ⊢
  exact z
end Mine
end
section
open PySem PySem.W PySem.W.X PySem.Builtin.Str
namespace Mine
noncomputable def vals (q : List (Int × Tok)) : List Value := q.map fun x => .int x.1 x.2
noncomputable def mxC (a : Nat → Nat) : Code := .builtin "max.loop" ⟨[.ref (a 0 + 305), .none, .ref (a 2 + 305)], []⟩
noncomputable def mxS (b : Option (Int × Tok)) : Array Value := match b with
  | none => #[]
  | some b => #[.int b.1 b.2, .int b.1 b.2]
noncomputable def mxL (a : Nat → Nat) (j : Nat) (y : Array Value) (b : Option (Int × Tok)) (e : Nat → Nat) : Led :=
  [(a 0 + 305, oIt "list_iterator" [.ref (a 1 + 305), .int (Int.ofNat j) 0]), (a 1 + 305, oSeq "list" y (e 0)), (a 2 + 305, oSeq "list" (mxS b) (e 1))]
noncomputable def mxP (a : Nat → Nat) (y : Array Value) (b : Int × Tok) : PostG := fun r L' _ _ _ => r = .ok (.ret (.int b.1 b.2)) ∧ ∃ (e' : Nat → Nat), L' = [(a 1 + 305, oSeq "list" y (e' 0))]
noncomputable def mxN (b : Option (Int × Tok)) (x : Int × Tok) : Int × Tok := match b with
  | none => x
  | some b => match decide (x.1 > b.1) with
    | true => x
    | false => b
noncomputable def mxF (b : Option (Int × Tok)) (q : List (Int × Tok)) : Int × Tok := match q with
  | [] => b.getD (0, 0)
  | x :: q => mxF (some (mxN b x)) q
theorem mx_loop {V : XV} (a : Nat → Nat) (q : List (Int × Tok)) : ∀ (rem pre : List (Int × Tok)), q = pre ++ rem → ∀ (b : Option (Int × Tok)), (b.isSome = true ∨ rem ≠ []) → ∀ (e : Nat → Nat) (n i g : Nat),
    CallsS V 250 (mxC a) (mxL a pre.length (vals q).toArray b e) n i g (mxP a (vals q).toArray (mxF b rem)) := by
  intro rem
  induction rem with
  | nil =>
    intro pre hq b hb e n i g
    cases b with
    | none => simp at hb
    | some b =>
      have hx : (vals q).toArray[pre.length]? = none := by simp [vals, hq]
      exact turn_end [le_r (a 0 + 305) (a 1 + 305) pre.length (vals q).toArray (e 0) n i g] 8 (unp 12 0x51450400107ff043) [3] 5 (.ret (.int b.1 b.2)) [(a 1 + 305, oSeq "list" (vals q).toArray (e 0))] (n + 2) i g
        (by decide) (fun A Q B => ⟨le_ok hx, trivial⟩) (fun A Q F G => by kernel_rfl) ⟨rfl, e, rfl⟩
  | cons x rem ih =>
    intro pre hq b hb e n i g
    have hx : (vals q).toArray[pre.length]? = some (.int x.1 x.2) := by simp [vals, hq]
    have z := fun e' => ih (pre ++ [x]) (by simp [hq]) (some (mxN b x)) (Or.inl rfl) e' n i g
    have e1 : (pre ++ [x]).length = pre.length + 1 := by simp
    rw [e1] at z
    cases b with
    | none =>
      exact turn_at [li_r (a 0 + 305) (a 1 + 305) pre.length (vals q).toArray (e 0) (.int x.1 x.2) n i g] 7 (unp 11 0xc30c00107ff043) [0, 1, 2] 3 _ (mxL a (pre.length + 1) (vals q).toArray (some x) (lk [e 0, e 1 + 1])) n i g
        (by decide) (fun A Q B => ⟨li_ok hx, trivial⟩) (fun A Q F G => by kernel_rfl) (z (lk [e 0, e 1 + 1]))
    | some b =>
      cases h : decide (x.1 > b.1) with
      | true =>
        have em : mxN (some b) x = x := by simp only [mxN, h]
        have ef : mxF (some b) (x :: rem) = mxF (some x) rem := by rw [mxF, em]
        rw [em] at z
        rw [ef]
        exact turn_at [li_r (a 0 + 305) (a 1 + 305) pre.length (vals q).toArray (e 0) (.int x.1 x.2) n i g, pv_r (bi "int.__gt__" [.int x.1 x.2, .int b.1 b.2]) (.bool true) n i g] 12 (unp 15 0xc30d17ff0400107ff043) [0, 1, 2] 3 _ (mxL a (pre.length + 1) (vals q).toArray (some x) (lk [e 0, e 1])) n i g
          (by decide) (fun A Q B => ⟨li_ok hx, gt_ok h, trivial⟩) (fun A Q F G => by kernel_rfl) (z (lk [e 0, e 1]))
      | false =>
        have em : mxN (some b) x = b := by simp only [mxN, h]
        have ef : mxF (some b) (x :: rem) = mxF (some b) rem := by rw [mxF, em]
        rw [em] at z
        rw [ef]
        exact turn_at [li_r (a 0 + 305) (a 1 + 305) pre.length (vals q).toArray (e 0) (.int x.1 x.2) n i g, pv_r (bi "int.__gt__" [.int x.1 x.2, .int b.1 b.2]) (.bool false) n i g] 9 (unp 12 0x117ff0400107ff043) [0, 1, 2] 3 _ (mxL a (pre.length + 1) (vals q).toArray (some b) (lk [e 0, e 1])) n i g
          (by decide) (fun A Q B => ⟨li_ok hx, gt_ok h, trivial⟩) (fun A Q F G => by kernel_rfl) (z (lk [e 0, e 1]))
theorem mx_call {V : XV} (l : Nat) (q : List (Int × Tok)) (e n i g : Nat) (hq : q ≠ []) :
    CallsG V 250 (bi "max" [.ref (l + 305)]) [(l + 305, oSeq "list" (vals q).toArray e)] n i g (fun r L' _ _ _ => r = .ok (.ret (.int (mxF none q).1 (mxF none q).2)) ∧ ∃ (e' : Nat), L' = [(l + 305, oSeq "list" (vals q).toArray e')]) := by
  refine CallsS.g (by kernel_rfl) (by decide) ?_
  have z := mx_loop (V := V) (lk [n, l, n + 1]) q q [] rfl none (Or.inr hq) (lk [e, 0]) (n + 2) i g
  refine turn_at [] 12 (unp 6 0x1041041) [1, 2, 0] 3 _ _ (n + 2) i g (by decide) (fun A Q B => trivial) (fun A Q F G => by kernel_rfl) (z.mono ?_)
  rintro r L' n' i' g' ⟨h1, e', h2⟩
  exact ⟨h1, e' 0, h2⟩
end Mine
end
section
open PySem PySem.W PySem.W.X PySem.Builtin.Str
namespace Mine
noncomputable def sSize : Str := ⟨#[115,105,122,101]⟩
noncomputable def qTurned : Str := Str.ofString "_law_turned.<locals>."
noncomputable def tuO (p : Params) : Expr := exprAt (stmtsOf (fdF p 281)) 0
noncomputable def tuI (p : Params) : Expr := argOf (eltOf (tuO p))
noncomputable def tuInC (p : Params) (a : Nat → Nat) : Code := .compLoop (tuI p) 0 (.ref (a 0 + 305)) (.ref (a 2 + 305)) (compEnv (scopeOf (tuI p)) qTurned 280 (a 3) (a 4) [(Str.ofString "column", a 5 + 305)])
noncomputable def tuInL (p : Params) (a : Nat → Nat) (o : Option (Tok × Value)) (j : Nat) (y z : Array Value) (c : Int) (tc : Tok) (e : Nat → Nat) : Led :=
  [(a 0 + 305, oIt "list_iterator" [.ref (a 1 + 305), .int (Int.ofNat j) 0]), (a 1 + 305, oSeq "list" y (e 0)), (a 2 + 305, oSeq "list" z (e 1)), (a 3 + 305, oDic (dD p sSize o) (e 2)), (a 4 + 305, oFrm #[] (e 3)), (a 5 + 305, oCell (some (.int c tc)))]
theorem tuIn_turn {V : XV} (a : Nat → Nat) (o : Option (Tok × Value)) (j : Nat) (y z : Array Value) (x c : Int) (tx tc : Tok) (e : Nat → Nat) (n i g : Nat) (P : PostG) (hx : y[j]? = some (.int x tx)) (hz : z.size ≤ 100)
    (H : ∀ e' tt, CallsS V 250 (tuInC V.w.params a) (tuInL V.w.params a (some (tt, .int x tx)) (j + 1) y (match decide (x > c) with | true => z.push (.int x tx) | false => z) c tc e') n (i + 1) g P) :
    CallsS V 250 (tuInC V.w.params a) (tuInL V.w.params a o j y z c tc e) n i g P := by
  cases o with
  | none =>
    cases h : decide (x > c) with
    | true =>
      rw [h] at H
      exact turn_at [li_r (a 0 + 305) (a 1 + 305) j y (e 0) (.int x tx) n i g, pv_r (bi "int.__gt__" [.int x tx, .int c tc]) (.bool true) n (i + 1) g, app_r (a 2 + 305) z (e 1) (.int x tx) n (i + 1) g] 21 (unp 21 0x927ff1117ff04610410000041ffc1) [1, 2, 0, 3, 4, 5] 6 _ _ n (i + 1) g
        (by decide) (fun A Q B => ⟨li_ok hx, gt_ok h, app_ok hz, trivial⟩) (fun A Q F G => by kernel_rfl) (H (lk [e 0, e 1 + 1, e 2 + 1, e 3]) i)
    | false =>
      rw [h] at H
      exact turn_at [li_r (a 0 + 305) (a 1 + 305) j y (e 0) (.int x tx) n i g, pv_r (bi "int.__gt__" [.int x tx, .int c tc]) (.bool false) n (i + 1) g] 18 (unp 16 0x117ff04610410000041ffc1) [0, 1, 2, 3, 4, 5] 6 _ _ n (i + 1) g
        (by decide) (fun A Q B => ⟨li_ok hx, gt_ok h, trivial⟩) (fun A Q F G => by kernel_rfl) (H (lk [e 0, e 1, e 2 + 1, e 3]) i)
  | some w =>
    cases h : decide (x > c) with
    | true =>
      rw [h] at H
      exact turn_at [li_r (a 0 + 305) (a 1 + 305) j y (e 0) (.int x tx) n i g, pv_r (bi "int.__gt__" [.int x tx, .int c tc]) (.bool true) n (i + 1) g, app_r (a 2 + 305) z (e 1) (.int x tx) n (i + 1) g] 21 (unp 21 0x927ff1117ff04610410000041ffc1) [1, 2, 0, 3, 4, 5] 6 _ _ n (i + 1) g
        (by decide) (fun A Q B => ⟨li_ok hx, gt_ok h, app_ok hz, trivial⟩) (fun A Q F G => by kernel_rfl) (H (lk [e 0, e 1 + 1, e 2, e 3]) w.1)
    | false =>
      rw [h] at H
      exact turn_at [li_r (a 0 + 305) (a 1 + 305) j y (e 0) (.int x tx) n i g, pv_r (bi "int.__gt__" [.int x tx, .int c tc]) (.bool false) n (i + 1) g] 18 (unp 16 0x117ff04610410000041ffc1) [0, 1, 2, 3, 4, 5] 6 _ _ n (i + 1) g
        (by decide) (fun A Q B => ⟨li_ok hx, gt_ok h, trivial⟩) (fun A Q F G => by kernel_rfl) (H (lk [e 0, e 1, e 2, e 3]) w.1)
noncomputable def tuInP (a : Nat → Nat) (p : Params) (y : Array Value) (c : Int) (tc : Tok) (zs : Array Value) : PostG := fun r L' _ _ _ => r = .ok .next ∧ ∃ (e' : Nat → Nat) (o : Tok × Value), L' = [(a 1 + 305, oSeq "list" y (e' 0)), (a 2 + 305, oSeq "list" zs (e' 1)), (a 3 + 305, oDic (dD p sSize (some o)) (e' 2)), (a 4 + 305, oFrm #[] (e' 3)), (a 5 + 305, oCell (some (.int c tc)))]
noncomputable def big (c : Int) (q : List (Int × Tok)) : List (Int × Tok) := q.filter fun x => decide (x.1 > c)
theorem tuIn_end {V : XV} (a : Nat → Nat) (o : Tok × Value) (j : Nat) (y z : Array Value) (c : Int) (tc : Tok) (e : Nat → Nat) (n i g : Nat) (hx : y[j]? = none) :
    CallsS V 250 (tuInC V.w.params a) (tuInL V.w.params a (some o) j y z c tc e) n i g (tuInP a V.w.params y c tc z) :=
  turn_end [le_r (a 0 + 305) (a 1 + 305) j y (e 0) n i g] 4 (unp 8 0x100041ffc1) [3, 4, 5, 6, 7] 8 .next [(a 1 + 305, oSeq "list" y (e 0)), (a 2 + 305, oSeq "list" z (e 1)), (a 3 + 305, oDic (dD V.w.params sSize (some o)) (e 2)), (a 4 + 305, oFrm #[] (e 3)), (a 5 + 305, oCell (some (.int c tc)))] (n + 2) i g
    (by decide) (fun A Q B => ⟨le_ok hx, trivial⟩) (fun A Q F G => by kernel_rfl) ⟨rfl, e, o, rfl⟩
theorem tuIn_loop {V : XV} (a : Nat → Nat) (q : List (Int × Tok)) (c : Int) (tc : Tok) : ∀ (rem pre : List (Int × Tok)), q = pre ++ rem → ∀ (o : Option (Tok × Value)), (o.isSome = true ∨ rem ≠ []) → ∀ (z : List Value) (e : Nat → Nat) (n i g : Nat), z.length + rem.length ≤ 100 →
    CallsS V 250 (tuInC V.w.params a) (tuInL V.w.params a o pre.length (vals q).toArray z.toArray c tc e) n i g (tuInP a V.w.params (vals q).toArray c tc (z ++ vals (big c rem)).toArray) := by
  intro rem
  induction rem with
  | nil =>
    intro pre hq o ho z e n i g hz
    cases o with
    | none => simp at ho
    | some o =>
      have hx : (vals q).toArray[pre.length]? = none := by simp [vals, hq]
      have := tuIn_end (V := V) a o pre.length (vals q).toArray z.toArray c tc e n i g hx
      simpa [big, vals] using this
  | cons x rem ih =>
    intro pre hq o ho z e n i g hz
    have hx : (vals q).toArray[pre.length]? = some (.int x.1 x.2) := by simp [vals, hq]
    refine tuIn_turn a o pre.length (vals q).toArray z.toArray x.1 c x.2 tc e n i g _ hx (by simp at hz ⊢; omega) fun e' tt => ?_
    have e1 : pre.length + 1 = (pre ++ [x]).length := by simp
    rw [e1]
    cases h : decide (x.1 > c) with
    | true =>
      have z1 := ih (pre ++ [x]) (by simp [hq]) (some (tt, .int x.1 x.2)) (Or.inl rfl) (z ++ [.int x.1 x.2]) e' n (i + 1) g (by simp at hz ⊢; omega)
      have e2 : z ++ vals (big c (x :: rem)) = (z ++ [.int x.1 x.2]) ++ vals (big c rem) := by simp [big, vals, List.filter_cons, h]
      rw [e2]
      simpa using z1
    | false =>
      have z1 := ih (pre ++ [x]) (by simp [hq]) (some (tt, .int x.1 x.2)) (Or.inl rfl) z e' n (i + 1) g (by simp at hz ⊢; omega)
      have e2 : z ++ vals (big c (x :: rem)) = z ++ vals (big c rem) := by simp [big, vals, List.filter_cons, h]
      rw [e2]
      simpa using z1
noncomputable def tuInS (p : Params) (a : Nat → Nat) : Code := .compStart (tuI p) 0 (.ref (a 0 + 305)) (.ref (a 2 + 305)) (compEnv (scopeOf (tuI p)) qTurned 280 (a 3) (a 4) [(Str.ofString "column", a 5 + 305)])
theorem tuIn {V : XV} (a : Nat → Nat) (q : List (Int × Tok)) (c : Int) (tc : Tok) (e : Nat → Nat) (n i g : Nat) (hq : q ≠ []) (hl : q.length ≤ 100) :
    CallsG V 250 (tuInS V.w.params a) (tuInL V.w.params a none 0 (vals q).toArray #[] c tc e) n i g (tuInP a V.w.params (vals q).toArray c tc (vals (big c q)).toArray) := by
  refine CallsS.g (by kernel_rfl) (by decide) ?_
  have z := tuIn_loop (V := V) a q c tc q [] rfl none (Or.inr hq) [] e n i g (by simpa using hl)
  exact turn_at [] 12 (unp 7 0x4104104c) [0, 1, 2, 3, 4, 5] 6 _ (tuInL V.w.params a none 0 (vals q).toArray #[] c tc e) n i g (by decide) (fun A Q B => trivial) (fun A Q F G => by kernel_rfl) (by simpa using z)
noncomputable def tuOutC (p : Params) (a : Nat → Nat) : Code := .compLoop (tuO p) 0 (.ref (a 0 + 305)) (.ref (a 1 + 305)) (compEnv (scopeOf (tuO p)) qTurned 280 (a 2) (a 3) [(Str.ofString "column", a 4 + 305), (Str.ofString "sizes", a 5 + 305)])
noncomputable def tuOutL (a : Nat → Nat) (st left : Int) (o : Option Value) (z y : Array Value) (e : Nat → Nat) : Led :=
  [(a 0 + 305, oIt "range_iterator" [.int st 0, .int left 0, .int 1 0]), (a 1 + 305, oSeq "list" z (e 0)), (a 2 + 305, oDic #[] (e 1)), (a 3 + 305, oFrm #[] (e 2)), (a 4 + 305, oCell o), (a 5 + 305, oCell (some (.ref (a 6 + 305)))), (a 6 + 305, oSeq "list" y (e 3))]
theorem tuOut_turn {V : XV} (a : Nat → Nat) (st : Int) (k : Nat) (o : Option Value) (z : Array Value) (q : List (Int × Tok)) (e : Nat → Nat) (n i g : Nat) (P : PostG) (hq : q ≠ []) (hl : q.length ≤ 100) (hz : z.size ≤ 100)
    (H : ∀ e' n' i' g' t', CallsS V 300 (tuOutC V.w.params a) (tuOutL a (st + 1) (Int.ofNat k) (some (.int st i)) (z.push (.int (Int.ofNat (big st q).length) t')) (vals q).toArray e') n' i' g' P) :
    CallsS V 300 (tuOutC V.w.params a) (tuOutL a st (Int.ofNat (k + 1)) o z (vals q).toArray e) n i g P := by
  intro A Q B F G Bk
  have O : (cxR (reV V A Q) 300 []).Ok := B.okR (by decide) trivial
  have C := (tuIn (V := V) (lk [n, a 6, n + 1, n + 2, a 3, a 4]) q st i (lk [e 3, 0, 0, e 2]) (n + 3) (i + 1) g hq hl).re A Q
  refine @run_callG (cxR (reV V A Q) 300 []) O _ 36 (unp 20 0x11c11c7180005141041041041041) [2, 8, 1, 0, 3, 3] 10 250 _ _ F _ _ _ _ C B (by kernel_rfl) (hid ?_)
  intro Kq hKq
  rintro r L1 n1 i1 g1 ⟨rfl, e1, o1, rfl⟩
  refine hKq _ _ _ _ _ ?_
  have hs : (vals (big st q)).toArray.size = (big st q).length := by simp [vals]
  have O2 : (cxR (reV V A Q) 300 [len_r (n + 1 + 305) (vals (big st q)).toArray (e1 1) n1 i1 g1, app_r (a 1 + 305) z (e 0) (.int (Int.ofNat (vals (big st q)).toArray.size) (i1 + 1)) n1 (i1 + 2) g1]).Ok := B.okR (by decide) ⟨len_ok (by rw [hs]; exact Nat.le_trans (Nat.le_trans (List.length_filter_le _ _) hl) (by decide)), app_ok hz, trivial⟩
  have z1 := H (lk [e 0 + 1, e 1, e1 3, e1 0]) n1 (i1 + 2) g1 (i1 + 1) A Q B F G Bk
  rw [← hs] at z1
  have ek : Int.ofNat (k + 1) - 1 = Int.ofNat k := by simp
  rw [← ek] at z1
  intro sq
  exact @run_to (cxR (reV V A Q) 300 [len_r (n + 1 + 305) (vals (big st q)).toArray (e1 1) n1 i1 g1, app_r (a 1 + 305) z (e 0) (.int (Int.ofNat (vals (big st q)).toArray.size) (i1 + 1)) n1 (i1 + 2) g1]) O2 _ 10 (unp 12 0x245ffc541ffc71c7) [2, 0, 3, 7, 8, 4, 5] 9 [] 0 _ .base _ _ _ _ _ _ (by decide) (by kernel_rfl) z1
noncomputable def cols (q : List (Int × Tok)) (st : Int) : Nat → List Int
  | 0 => []
  | k + 1 => Int.ofNat (big st q).length :: cols q (st + 1) k
noncomputable def tuOutP (a : Nat → Nat) (y z : Array Value) (cs : List Int) : PostG := fun r L' _ _ _ => r = .ok .next ∧ ∃ (ws : List (Int × Tok)) (e' : Nat → Nat) (o : Option Value), ws.map (·.1) = cs ∧
  L' = [(a 1 + 305, oSeq "list" (z.toList ++ vals ws).toArray (e' 0)), (a 2 + 305, oDic #[] (e' 1)), (a 3 + 305, oFrm #[] (e' 2)), (a 4 + 305, oCell o), (a 5 + 305, oCell (some (.ref (a 6 + 305)))), (a 6 + 305, oSeq "list" y (e' 3))]
theorem tuOut_loop {V : XV} (a : Nat → Nat) (q : List (Int × Tok)) (hq : q ≠ []) (hl : q.length ≤ 100) : ∀ (k : Nat) (st : Int) (o : Option Value) (z : Array Value) (e : Nat → Nat) (n i g : Nat), z.size + k ≤ 100 →
    CallsS V 300 (tuOutC V.w.params a) (tuOutL a st (Int.ofNat k) o z (vals q).toArray e) n i g (tuOutP a (vals q).toArray z (cols q st k)) := by
  intro k
  induction k with
  | zero =>
    intro st o z e n i g hz
    exact turn_end [] 14 (unp 7 0x41041041) [3, 4, 5, 6, 7, 8] 9 .next [(a 1 + 305, oSeq "list" z (e 0)), (a 2 + 305, oDic #[] (e 1)), (a 3 + 305, oFrm #[] (e 2)), (a 4 + 305, oCell o), (a 5 + 305, oCell (some (.ref (a 6 + 305)))), (a 6 + 305, oSeq "list" (vals q).toArray (e 3))] (n + 2) i g
      (by decide) (fun A Q B => trivial) (fun A Q F G => by kernel_rfl) ⟨rfl, [], e, o, rfl, by simp [vals]⟩
  | succ k ih =>
    intro st o z e n i g hz
    refine tuOut_turn a st k o z q e n i g _ hq hl (by omega) fun e' n' i' g' t' => ?_
    refine (ih (st + 1) (some (.int st i)) (z.push (.int (Int.ofNat (big st q).length) t')) e' n' i' g' (by simp; omega)).mono ?_
    rintro r L' n2 i2 g2 ⟨h1, ws, e2, o2, h2, h3⟩
    refine ⟨h1, (Int.ofNat (big st q).length, t') :: ws, e2, o2, by simp [cols, h2], ?_⟩
    rw [h3]
    simp [vals]
noncomputable def tuOutS (p : Params) (a : Nat → Nat) : Code := .compStart (tuO p) 0 (.ref (a 0 + 305)) (.ref (a 1 + 305)) (compEnv (scopeOf (tuO p)) qTurned 280 (a 2) (a 3) [(Str.ofString "column", a 4 + 305), (Str.ofString "sizes", a 5 + 305)])
theorem tuOut {V : XV} (a : Nat → Nat) (q : List (Int × Tok)) (hq : q ≠ []) (hl : q.length ≤ 100) (k : Nat) (hk : k ≤ 100) (e : Nat → Nat) (n i g : Nat) :
    CallsG V 300 (tuOutS V.w.params a) (tuOutL a 0 (Int.ofNat k) none #[] (vals q).toArray e) n i g (tuOutP a (vals q).toArray #[] (cols q 0 k)) := by
  refine CallsS.g (by kernel_rfl) (by decide) ?_
  have z := tuOut_loop (V := V) a q hq hl k 0 none #[] e n i g (by simpa using hk)
  exact turn_at [] 12 (unp 7 0x4104104c) [0, 1, 2, 3, 4, 5, 6] 7 _ _ n i g (by decide) (fun A Q B => trivial) (fun A Q F G => by kernel_rfl) z
theorem turned {V : XV} (l : Nat) (q : List (Int × Tok)) (hq : q ≠ []) (hl : q.length ≤ 100) (k : Nat) (hk : (mxF none q).1 = Int.ofNat k) (hk2 : k = 1 ∨ k = 2 ∨ k = 3 ∨ k = 4 ∨ k = 5) (e n i g : Nat) :
    CallsE V 350 (.call (.ref 281) ⟨[.ref (l + 305)], []⟩) [(l + 305, oSeq "list" (vals q).toArray e)] n i g (fun v L' _ _ _ => ∃ (r : Nat) (ws : List (Int × Tok)) (e1 e2 : Nat), v = .ref (r + 305) ∧ ws.map (·.1) = cols q 0 k ∧
      L' = [(r + 305, oSeq "list" (vals ws).toArray e1), (l + 305, oSeq "list" (vals q).toArray e2)]) := by
  intro A Q B F G Bk
  have O : (cxR (reV V A Q) 350 []).Ok := B.okR (by decide) trivial
  have C := (mx_call (V := V) l q e (n + 2) i g hq).re A Q
  refine @run_callG (cxR (reV V A Q) 350 []) O _ 19 (unp 11 0x40000000041000) [2] 3 250 _ _ F _ _ _ _ C B (by kernel_rfl) (hid ?_)
  intro Kq hKq
  rintro r L1 n1 i1 g1 ⟨rfl, e1, rfl⟩
  refine hKq _ _ _ _ _ ?_
  rw [hk]
  have hk100 : k ≤ 100 := by omega
  rcases hk2 with rfl | rfl | rfl | rfl | rfl
  all_goals
    have C2 := (tuOut (V := V) (lk [n1 + 1, n1 + 2, n1 + 3, n, n1 + 4, n + 1, l]) q hq hl _ hk100 (lk [0, 0, 0, e1]) (n1 + 5) (i1 + 2) g1).re A Q
    intro sq
    refine @run_callG (cxR (reV V A Q) 350 []) O _ 36 (unp 13 0x41041041041041041) [3, 2, 1, 3, 0, 1, 1] 8 300 _ _ F _ _ _ _ C2 B (by kernel_rfl) (hid ?_)
    intro Kq hKq
    rintro r L2 n2 i2 g2 ⟨rfl, hx⟩
    refine ex3 hx ?_
    clear hx
    rintro ws e2 o ⟨hw, rfl⟩
    refine hKq _ _ _ _ _ ?_
    have BK := Bk (.ref (n1 + 2 + 305)) [(n1 + 2 + 305, oSeq "list" (vals ws).toArray (e2 0)), (l + 305, oSeq "list" (vals q).toArray (e2 3))] n2 i2 g2 ⟨n1 + 2, ws, e2 0, e2 3, rfl, hw, rfl⟩
    intro sq
    exact @run_end (cxR (reV V A Q) 350 []) O _ 1 (unp 1 0x0) [1, 6] 7 [] 0 .base (.ret (.ref (n1 + 2 + 305))) _ _ _ _ _ (by decide) (by kernel_rfl) BK
end Mine
end
section
open PySem PySem.W PySem.W.X PySem.Builtin.Str
namespace Mine
noncomputable def gl_r (l : Addr) (y : Array Value) (x : Value) (e : Nat) (t : Tok) (n i g : Nat) : Rl := ⟨bi "list.__getitem__" [.ref l, .int (-1) t], [(l, oSeq "list" (y.push x) e)], n + 305, i, g, x, [(l, oSeq "list" (y.push x) e)], n + 305, i, g, 0, true⟩
theorem gl_ok {V : XV} {l : Addr} {y : Array Value} {x : Value} {e : Nat} {t : Tok} {n i g : Nat} : RlOk V (gl_r l y x e t n i g) := by
  intro A _ b G s S R HR
  have ho := S.led (l, _) List.mem_cons_self
  have hl : s.heap.IsList l (y.push x) := ⟨_, ho, rfl, e, rfl⟩
  refine codeAny_call_builtin slot_list_getitem.plain entry_list_getitem (slot_list_getitem.check _ _ _ _ _ _ _ _ hl.typeIs (args_list_getitem _ _) ?_)
  show wpAny _ _ (Builtin.List.listSubscript? (.int (-1) t) >>= _) _ _ s
  refine wpAny_bind (wpAny_listSubscript_int (fitsIndex_neg (by decide) (by decide)) ?_)
  have hidx : seqIndex? (-1) (y.push x).size = some y.size := by
    rw [seqIndex_neg (by decide) (by simp; omega)]
    congr 1
    simp
    omega
  show wpAny _ _ ((Builtin.List.listItems (.ref l) >>= fun xs => pure ((seqIndex? (Int.negSucc 0) xs.size).bind fun i => xs[i]?.map (i, ·))) >>= _) _ _ s
  refine wpAny_bind (wpAny_bind ?_)
  show wpAny _ _ (seqItems? (.ref l) >>= _) _ _ s
  refine wpAny_bind (wpAny_seqItems ho rfl (wpAny_pure (wpAny_pure ?_)))
  have h2 : seqIndex? (Int.negSucc 0) (y.push x).size = some y.size := hidx
  rw [h2]
  simp only [Option.bind_some, Array.getElem?_push_size, Option.map_some]
  refine wpAny_bind (wpAny_pure ?_)
  first | exact wpAny_pure (HR _ S) | exact HR _ S
noncomputable def sl_r (l : Addr) (y : Array Value) (x v : Value) (e : Nat) (t : Tok) (n i g : Nat) : Rl := ⟨bi "list.__setitem__" [.ref l, .int (-1) t, v], [(l, oSeq "list" (y.push x) e)], n + 305, i, g, .none, [(l, oSeq "list" (y.push v) e)], n + 305, i, g, 0, true⟩
theorem sl_ok {V : XV} {l : Addr} {y : Array Value} {x v : Value} {e : Nat} {t : Tok} {n i g : Nat} : RlOk V (sl_r l y x v e t n i g) := by
  intro A _ b G s S R HR
  have ho := S.led (l, _) List.mem_cons_self
  have hl : s.heap.IsList l (y.push x) := ⟨_, ho, rfl, e, rfl⟩
  refine codeAny_call_builtin slot_list_setitem.plain entry_list_setitem (slot_list_setitem.check _ _ _ _ _ _ _ _ hl.typeIs (args_list_setitem _ _ _) ?_)
  show wpAny _ _ (Builtin.List.listSubscript? (.int (-1) t) >>= _) _ _ s
  refine wpAny_bind (wpAny_listSubscript_int (fitsIndex_neg (by decide) (by decide)) ?_)
  have hidx : seqIndex? (-1) (y.push x).size = some y.size := by
    rw [seqIndex_neg (by decide) (by simp; omega)]
    congr 1
    simp
    omega
  show wpAny _ _ ((Builtin.List.listItems (.ref l) >>= fun xs => pure ((seqIndex? (Int.negSucc 0) xs.size).bind fun i => xs[i]?.map (i, ·))) >>= _) _ _ s
  refine wpAny_bind (wpAny_bind ?_)
  show wpAny _ _ (seqItems? (.ref l) >>= _) _ _ s
  refine wpAny_bind (wpAny_seqItems ho rfl (wpAny_pure (wpAny_pure ?_)))
  have h2 : seqIndex? (Int.negSucc 0) (y.push x).size = some y.size := hidx
  rw [h2]
  simp only [Option.bind_some, Array.getElem?_push_size, Option.map_some]
  show wpAny _ _ (setSeqItemAt l y.size v >>= _) _ _ s
  refine wpAny_bind (wpAny_setSeqItemAt ho rfl ?_)
  have eo : Obj.mapSeq (fun z => z.setIfInBounds y.size v) (oSeq "list" (y.push x) e) = oSeq "list" (y.push v) e := by
    have e2 : (y.push x).setIfInBounds y.size v = y.push v := by
      apply Array.ext'
      simp
    simp [Obj.mapSeq, oSeq, e2]
  have S2 := S.update (j := 0) (a := l) (o := oSeq "list" (y.push x) e) (f := Obj.mapSeq fun z => z.setIfInBounds y.size v) rfl (by rw [eo]; rfl)
  rw [eo] at S2
  refine wpAny_bind (wpAny_pure ?_)
  first | exact wpAny_pure (HR _ S2) | exact HR _ S2
noncomputable def lenS_r (x : Str) (t : Tok) (n i g : Nat) : Rl := ⟨bi "len" [.str x t], [], n + 305, i, g, .int (Int.ofNat x.length) (i + 1), [], n + 305, i + 2, g, 0, true⟩
theorem lenS_ok {V : XV} {x : Str} {t : Tok} {n i g : Nat} (hx : x.length ≤ 1000) : RlOk V (lenS_r x t n i g) := by
  intro A _ b G s S R HR
  have et : s.toks = i := S.toks
  refine code_fun kind_len plain_len entry_len (args_len1 _) ?_
  unfold Builtin.«len»
  refine wpAny_bind (m := oneArg "len" _) (wpAny_pure ?_)
  refine wpAny_bind (m := callSpecial? (.str x t) (Str.ofString "__len__")) (wpAny_callSpecial?_slot (name := Str.ofString "__len__") (typeIs_str _ _ _) F.slot_str_len
    (call_gives F.slot_str_len (typeIs_str _ _ _) F.entry_str_len (F.args_str_len_1 _) (gives_str_len _ _) ?_))
  refine wpAny_bind (wpAny_holding (wpAny_pure ?_))
  refine wpAny_bind (wpAny_letGo ?_)
  show wpAny _ _ (if ((x.length : Nat) : Int) < 0 then _ else _) _ _ _
  rw [if_neg (by omega)]
  show wpAny _ _ (if ((x.length : Nat) : Int) ≥ 2 ^ 63 then _ else _) _ _ _
  rw [if_neg (by omega)]
  refine wpAny_bind (wpAny_mkInt (wpAny_pure ⟨_, rfl, ?_⟩))
  have S2 := S.tok 2
  have z := HR _ S2
  simp only [et] at z ⊢
  exact z
noncomputable def add_r (x y : Str) (t u : Tok) (n i g : Nat) : Rl := ⟨bi "str.__add__" [.str x t, .str y u], [], n + 305, i, g, .str (x ++ y) i, [], n + 305, i + 1, g, 0, true⟩
theorem add_ok {V : XV} {x y : Str} {t u : Tok} {n i g : Nat} (hx : x.length ≠ 0) (hy : y.length ≠ 0) (hl : (x ++ y).length ≤ sizeLine) : RlOk V (add_r x y t u n i g) := by
  intro A _ b G s S R HR
  have et : s.toks = i := S.toks
  refine codeAny_call_builtin F.slot_str_add.plain F.entry_str_add (F.slot_str_add.check _ _ _ _ _ _ _ _ (T := "str") (typeIs_str _ _ _) (F.args_str_add_2 _ _) (gives_str_add _ _ _ _ V.prog V.w A R s ?_))
  rw [if_neg (by simpa using hx), if_neg (by simpa using hy)]
  refine ⟨hl, ?_⟩
  have S2 := S.tok 1
  have z := HR _ S2
  simp only [et] at z ⊢
  exact z
theorem addE_ok {V : XV} {y : Str} {t u : Tok} {n i g : Nat} : RlOk V (pv_r (bi "str.__add__" [.str ⟨#[]⟩ t, .str y u]) (.str y u) n i g) := by
  intro A _ b G s S R HR
  exact codeAny_call_builtin F.slot_str_add.plain F.entry_str_add (F.slot_str_add.check _ _ _ _ _ _ _ _ (T := "str") (typeIs_str _ _ _) (F.args_str_add_2 _ _) (gives_str_add _ _ _ _ V.prog V.w A R s (HR _ S)))
end Mine
end
section
open PySem PySem.W PySem.W.X PySem.Builtin.Str
namespace Mine
noncomputable def sWords : Str := ⟨#[119,111,114,100,115]⟩
noncomputable def sWidth : Str := ⟨#[119,105,100,116,104]⟩
noncomputable def sLines : Str := ⟨#[108,105,110,101,115]⟩
noncomputable def sWord : Str := ⟨#[119,111,114,100]⟩
noncomputable def laC (p : Params) (a : Nat → Nat) : Code := loopC p 276 [1] (fnEnv p 276 (Str.ofString "_law_laid.<locals>.") (a 2) []) (a 0)
noncomputable def laL (p : Params) (a : Nat → Nat) (t : Nat → Tok) (o : Option (Tok × Value)) (j : Nat) (y z : Array Value) (S : Str) (tS : Tok) (w : Int) (e : Nat → Nat) : Led :=
  [(a 0 + 305, oIt "list_iterator" [.ref (a 1 + 305), .int (Int.ofNat j) 0]), (a 1 + 305, oSeq "list" y (e 0)), (a 2 + 305, oFrm (dEs p ([(sWords, t 0, .ref (a 1 + 305)), (sWidth, t 1, .int w (t 2)), (sLines, t 3, .ref (a 3 + 305))] ++ dO sWord o)) (e 1)), (a 3 + 305, oSeq "list" (z.push (.str S tS)) (e 2))]
noncomputable def laH1 : List Nat := unp 51 0x177ff04159ffc40157ff0411147ff0444dffc400049ffc345ffc41040c00030c000041ffc1
noncomputable def laH2 : List Nat := unp 60 0x61ffc10577ff10059ffc10440157ff0410411147ff0444dffc400049ffc345ffc41040c00030c000041ffc1
section
variable {V : XV} (a : Nat → Nat) (t : Nat → Tok) (j : Nat) (y z : Array Value) (S x : Str) (tS tx : Tok) (w : Int) (e : Nat → Nat) (n i g : Nat) (P : PostG)
theorem la_first (hy : y[j]? = some (.str x tx)) (hx : x.length ≤ 1000) (hw : decide (Int.ofNat 0 + Int.ofNat x.length > w) = false)
    (H : ∀ e' tt, CallsS V 250 (laC V.w.params a) (laL V.w.params a t (some (tt, .str x tx)) (j + 1) y z x tx w e') n (i + 10) g P) :
    CallsS V 250 (laC V.w.params a) (laL V.w.params a t none j y z ⟨#[]⟩ tS w e) n i g P :=
  turn_at [li_r (a 0 + 305) (a 1 + 305) j y (e 0) (.str x tx) n i g, gl_r (a 3 + 305) z (.str ⟨#[]⟩ tS) (e 2) (i + 2) n (i + 3) g, lenS_r ⟨#[]⟩ tS n (i + 3) g, lenS_r x tx n (i + 5) g, pv_r (bi "int.__gt__" [.int (Int.ofNat 0 + Int.ofNat x.length) (i + 7), .int w (t 2)]) (.bool false) n (i + 8) g,
    gl_r (a 3 + 305) z (.str ⟨#[]⟩ tS) (e 2) (i + 9) n (i + 10) g, pv_r (bi "str.__add__" [.str ⟨#[]⟩ tS, .str x tx]) (.str x tx) n (i + 10) g, sl_r (a 3 + 305) z (.str ⟨#[]⟩ tS) (.str x tx) (e 2) (i + 9) n (i + 10) g] 71 laH1 [1, 2, 3, 0] 4 _ _ n (i + 10) g
    (by decide) (fun A Q B => ⟨li_ok hy, gl_ok, lenS_ok (by decide), lenS_ok hx, gt_ok hw, gl_ok, addE_ok, sl_ok, trivial⟩) (fun A Q F G => by kernel_rfl) (H (lk [e 0, e 1 + 1, e 2]) i)
theorem la_on (v0 : Tok × Value) (hy : y[j]? = some (.str x tx)) (hx : x.length ≤ 1000) (hS : S.length ≤ 1000) (hx0 : x.length ≠ 0) (hS0 : S.length ≠ 0) (hl : (S ++ x).length ≤ sizeLine) (hw : decide (Int.ofNat S.length + Int.ofNat x.length > w) = false)
    (H : ∀ e' tt ts, CallsS V 250 (laC V.w.params a) (laL V.w.params a t (some (tt, .str x tx)) (j + 1) y z (S ++ x) ts w e') n (i + 11) g P) :
    CallsS V 250 (laC V.w.params a) (laL V.w.params a t (some v0) j y z S tS w e) n i g P :=
  turn_at [li_r (a 0 + 305) (a 1 + 305) j y (e 0) (.str x tx) n i g, gl_r (a 3 + 305) z (.str S tS) (e 2) (i + 2) n (i + 3) g, lenS_r S tS n (i + 3) g, lenS_r x tx n (i + 5) g, pv_r (bi "int.__gt__" [.int (Int.ofNat S.length + Int.ofNat x.length) (i + 7), .int w (t 2)]) (.bool false) n (i + 8) g,
    gl_r (a 3 + 305) z (.str S tS) (e 2) (i + 9) n (i + 10) g, add_r S x tS tx n (i + 10) g, sl_r (a 3 + 305) z (.str S tS) (.str (S ++ x) (i + 10)) (e 2) (i + 9) n (i + 11) g] 71 laH1 [1, 2, 3, 0] 4 _ _ n (i + 11) g
    (by decide) (fun A Q B => ⟨li_ok hy, gl_ok, lenS_ok hS, lenS_ok hx, gt_ok hw, gl_ok, add_ok hS0 hx0 hl, sl_ok, trivial⟩) (fun A Q F G => by kernel_rfl) (H (lk [e 0, e 1, e 2]) v0.1 (i + 10))
theorem la_over (v0 : Tok × Value) (hy : y[j]? = some (.str x tx)) (hx : x.length ≤ 1000) (hS : S.length ≤ 1000) (hz : z.size < 100) (hw : decide (Int.ofNat S.length + Int.ofNat x.length > w) = true)
    (H : ∀ e' tt, CallsS V 250 (laC V.w.params a) (laL V.w.params a t (some (tt, .str x tx)) (j + 1) y (z.push (.str S tS)) x tx w e') n (i + 11) g P) :
    CallsS V 250 (laC V.w.params a) (laL V.w.params a t (some v0) j y z S tS w e) n i g P :=
  turn_at [li_r (a 0 + 305) (a 1 + 305) j y (e 0) (.str x tx) n i g, gl_r (a 3 + 305) z (.str S tS) (e 2) (i + 2) n (i + 3) g, lenS_r S tS n (i + 3) g, lenS_r x tx n (i + 5) g, pv_r (bi "int.__gt__" [.int (Int.ofNat S.length + Int.ofNat x.length) (i + 7), .int w (t 2)]) (.bool true) n (i + 8) g,
    app_r (a 3 + 305) (z.push (.str S tS)) (e 2) (.str ⟨#[]⟩ (i + 8)) n (i + 9) g, gl_r (a 3 + 305) (z.push (.str S tS)) (.str ⟨#[]⟩ (i + 8)) (e 2 + 1) (i + 10) n (i + 11) g, pv_r (bi "str.__add__" [.str ⟨#[]⟩ (i + 8), .str x tx]) (.str x tx) n (i + 11) g, sl_r (a 3 + 305) (z.push (.str S tS)) (.str ⟨#[]⟩ (i + 8)) (.str x tx) (e 2 + 1) (i + 10) n (i + 11) g] 84 laH2 [1, 2, 3, 0] 4 _ _ n (i + 11) g
    (by decide) (fun A Q B => ⟨li_ok hy, gl_ok, lenS_ok hS, lenS_ok hx, gt_ok hw, app_ok (by simp; omega), gl_ok, addE_ok, sl_ok, trivial⟩) (fun A Q F G => by kernel_rfl) (H (lk [e 0, e 1, e 2 + 1]) v0.1)
end
noncomputable def laidF (w : Nat) : List Str → List Str → Str → List Str
  | [], z, S => z ++ [S]
  | x :: q, z, S => match decide (Int.ofNat S.length + Int.ofNat x.length > Int.ofNat w) with
    | true => laidF w q (z ++ [S]) x
    | false => laidF w q z (S ++ x)
noncomputable def laP (p : Params) (a : Nat → Nat) (t : Nat → Tok) (y : Array Value) (w : Int) (ls : List Str) : PostG := fun r L' _ _ _ => r = .ok .next ∧ ∃ (q : List (Str × Tok)) (e' : Nat → Nat) (o : Tok × Value), q.map (·.1) = ls ∧
  L' = [(a 1 + 305, oSeq "list" y (e' 0)), (a 2 + 305, oFrm (dEs p ([(sWords, t 0, .ref (a 1 + 305)), (sWidth, t 1, .int w (t 2)), (sLines, t 3, .ref (a 3 + 305))] ++ dO sWord (some o))) (e' 1)), (a 3 + 305, oSeq "list" (strValues q).toArray (e' 2))]
theorem Str.len_app (S x : Str) : (S ++ x).length = S.length + x.length := by
  show (S.cps ++ x.cps).size = _
  rw [Array.size_append]
  rfl
theorem la_loop {V : XV} (a : Nat → Nat) (t : Nat → Tok) (q : List (Str × Tok)) (w : Nat) (hw : w ≤ 10) (hq : ∀ x ∈ q, x.1.length ≠ 0 ∧ x.1.length ≤ 10) : ∀ (rem pre : List (Str × Tok)), q = pre ++ rem → ∀ (v0 : Tok × Value) (z : List (Str × Tok)) (S : Str) (tS : Tok) (e : Nat → Nat) (n i g : Nat),
    z.length + rem.length ≤ 90 → S.length ≠ 0 → S.length ≤ 10 →
    CallsS V 250 (laC V.w.params a) (laL V.w.params a t (some v0) pre.length (strValues q).toArray (strValues z).toArray S tS (Int.ofNat w) e) n i g (laP V.w.params a t (strValues q).toArray (Int.ofNat w) (laidF w (rem.map (·.1)) (z.map (·.1)) S)) := by
  intro rem
  induction rem with
  | nil =>
    intro pre hp v0 z S tS e n i g hz hS0 hS
    have hx : (strValues q).toArray[pre.length]? = none := by simp [strValues, hp]
    have e1 : (strValues z).toArray.push (.str S tS) = (strValues (z ++ [(S, tS)])).toArray := by simp [strValues]
    refine turn_end [le_r (a 0 + 305) (a 1 + 305) pre.length (strValues q).toArray (e 0) n i g] 5 (unp 8 0x100041ffc1) [3, 4, 5] 6 .next [(a 1 + 305, oSeq "list" (strValues q).toArray (e 0)), (a 2 + 305, oFrm (dEs V.w.params ([(sWords, t 0, .ref (a 1 + 305)), (sWidth, t 1, .int (Int.ofNat w) (t 2)), (sLines, t 3, .ref (a 3 + 305))] ++ dO sWord (some v0))) (e 1)), (a 3 + 305, oSeq "list" ((strValues z).toArray.push (.str S tS)) (e 2))] (n + 2) i g
      (by decide) (fun A Q B => ⟨le_ok hx, trivial⟩) (fun A Q F G => by kernel_rfl) ⟨rfl, z ++ [(S, tS)], e, v0, by simp [laidF], by rw [e1]⟩
  | cons x rem ih =>
    intro pre hp v0 z S tS e n i g hz hS0 hS
    have hx : (strValues q).toArray[pre.length]? = some (.str x.1 x.2) := by simp [strValues, hp]
    obtain ⟨hx0, hx1⟩ := hq x (by simp [hp])
    have e1 : pre.length + 1 = (pre ++ [x]).length := by simp
    have hz' : z.length + rem.length + 1 ≤ 90 := by simpa [Nat.add_assoc] using hz
    cases h : decide (Int.ofNat S.length + Int.ofNat x.1.length > Int.ofNat w) with
    | true =>
      refine la_over (V := V) a t pre.length (strValues q).toArray (strValues z).toArray S x.1 tS x.2 (Int.ofNat w) e n i g _ v0 hx (by omega) (by omega) (by simp [strValues]; omega) h fun e' tt => ?_
      have z1 := ih (pre ++ [x]) (by simp [hp]) (tt, .str x.1 x.2) (z ++ [(S, tS)]) x.1 x.2 e' n (i + 11) g (by simp; omega) hx0 hx1
      have e2 : laidF w (x.1 :: rem.map (·.1)) (z.map (·.1)) S = laidF w (rem.map (·.1)) (z.map (·.1) ++ [S]) x.1 := by simp only [laidF, h]
      rw [e1, List.map_cons, e2]
      simpa [strValues] using z1
    | false =>
      have hsx : S.length + x.1.length ≤ w := by
        have := of_decide_eq_false h
        simp only [Int.ofNat_eq_natCast] at this
        omega
      have hSx := Str.len_app S x.1
      refine la_on (V := V) a t pre.length (strValues q).toArray (strValues z).toArray S x.1 tS x.2 (Int.ofNat w) e n i g _ v0 hx (by omega) (by omega) hx0 hS0 (by rw [hSx]; exact Nat.le_trans (Nat.le_trans hsx hw) (by decide)) h fun e' tt ts => ?_
      have z1 := ih (pre ++ [x]) (by simp [hp]) (tt, .str x.1 x.2) z (S ++ x.1) ts e' n (i + 11) g (by omega) (by omega) (by omega)
      have e2 : laidF w (x.1 :: rem.map (·.1)) (z.map (·.1)) S = laidF w (rem.map (·.1)) (z.map (·.1)) (S ++ x.1) := by simp only [laidF, h]
      rw [e1, List.map_cons, e2]
      exact z1
theorem laid {V : XV} (l : Nat) (x : Str × Tok) (q : List (Str × Tok)) (w : Nat) (tw : Tok) (hw : w ≤ 10) (hl : q.length ≤ 80) (hq : ∀ x' ∈ x :: q, x'.1.length ≠ 0 ∧ x'.1.length ≤ 10) (hx : x.1.length ≤ w) (e n i g : Nat) :
    CallsE V 300 (.call (.ref 276) ⟨[.ref (l + 305), .int (Int.ofNat w) tw], []⟩) [(l + 305, oSeq "list" (strValues (x :: q)).toArray e)] n i g (fun v L' _ _ _ => ∃ (r : Nat) (ws : List (Str × Tok)) (e1 e2 : Nat), v = .ref (r + 305) ∧ ws.map (·.1) = laidF w (q.map (·.1)) [] x.1 ∧
      L' = [(r + 305, oSeq "list" (strValues ws).toArray e1), (l + 305, oSeq "list" (strValues (x :: q)).toArray e2)]) := by
  intro A Q B F G Bk
  have O : (cxR (reV V A Q) 300 []).Ok := B.okR (by decide) trivial
  have hx0 := hq x (by simp)
  have C0 : CallsS V 250 (laC V.w.params (lk [n + 2, l, n, n + 1])) (laL V.w.params (lk [n + 2, l, n, n + 1]) (lk [i, i + 1, tw, i + 3]) none 0 (strValues (x :: q)).toArray #[] ⟨#[]⟩ (i + 2) (Int.ofNat w) (lk [e, 3, 0])) (n + 3) (i + 4) g (laP V.w.params (lk [n + 2, l, n, n + 1]) (lk [i, i + 1, tw, i + 3]) (strValues (x :: q)).toArray (Int.ofNat w) (laidF w (q.map (·.1)) [] x.1)) := by
    refine la_first (V := V) _ _ 0 (strValues (x :: q)).toArray #[] x.1 _ x.2 (Int.ofNat w) _ _ _ _ _ (by simp [strValues]) (by omega) (decide_eq_false (by simp only [Int.ofNat_eq_natCast]; omega)) fun e' tt => ?_
    exact la_loop (V := V) _ _ (x :: q) w hw hq q [x] rfl _ [] x.1 x.2 e' _ _ _ (by simp; omega) hx0.1 hx0.2
  have C := (C0.g (by kernel_rfl) (by decide)).re A Q
  refine @run_callG (cxR (reV V A Q) 300 []) O _ 38 (unp 19 0x430430c2082000041001040000) [0, 2, 1, 0] 4 250 _ _ F _ _ _ _ C B (by kernel_rfl) (hid ?_)
  intro Kq hKq
  rintro r L2 n2 i2 g2 ⟨rfl, hx⟩
  refine ex3 hx ?_
  clear hx
  rintro ws e2 o ⟨hw, rfl⟩
  refine hKq _ _ _ _ _ ?_
  have BK := Bk (.ref (n + 1 + 305)) [(n + 1 + 305, oSeq "list" (strValues ws).toArray (e2 2)), (l + 305, oSeq "list" (strValues (x :: q)).toArray (e2 0))] n2 i2 g2 ⟨n + 1, ws, e2 2, e2 0, rfl, hw, rfl⟩
  intro sq
  exact @run_end (cxR (reV V A Q) 300 []) O _ 3 (unp 2 0x2) [2, 0] 3 [] 0 .base (.ret (.ref (n + 1 + 305))) _ _ _ _ _ (by decide) (by kernel_rfl) BK
end Mine
end
section
open PySem PySem.W PySem.W.X PySem.Builtin.Str
namespace Mine
structure DOf (V : XV) (es : Array DictEntry) (kvs : List (Int × Value)) : Prop where
  keys : KeysOf (intKind V.prog V.w) es
  pairs : Pairs (intKind V.prog V.w) es.toList kvs
  nodup : (kvs.map (·.1)).Nodup
theorem DOf.size {V : XV} {es : Array DictEntry} {kvs : List (Int × Value)} (h : DOf V es kvs) : es.size = kvs.length := by
  rw [← h.pairs.length]; simp
theorem DOf.of {V : XV} {es : Array DictEntry} {kvs : List (Int × Value)} (h : DOf V es kvs) {s : Heap} {d : Addr} {ep : Nat} (hd : s.get? d = some (oDic es ep)) : s.DictOf (intKind V.prog V.w) d kvs :=
  ⟨_, es, ep, hd, ⟨rfl, rfl, rfl⟩, rfl, h.keys, h.pairs, h.nodup⟩
theorem dictOf_is {V : XV} {h : Heap} {d : Addr} {kvs : List (Int × Value)} (x : h.DictOf (intKind V.prog V.w) d kvs) : ∃ es ep, h.get? d = some (oDic es ep) ∧ DOf V es kvs := by
  obtain ⟨o, es, ep, ho, ⟨h1, h2, h3⟩, hd, hk, hp, hn⟩ := x
  refine ⟨es, ep, ?_, hk, hp, hn⟩
  obtain ⟨c, dd, dt, sl⟩ := o
  simp only at h1 h2 h3 hd
  subst h1 h2 h3 hd
  exact ho
theorem Sat.same {V : XV} {a : Addr} {o o' : Obj} {L : Led} {n i g : Nat} {G : Gl} {s : Shared} {h' : Heap} (S : Sat V ((a, o) :: L) n i g G s) (hs : Heap.SameBut a s.heap h') (ho : h'.get? a = some o') : Sat V ((a, o') :: L) n i g G { s with heap := h' } := by
  have hnd := S.nd
  rw [List.map_cons, List.nodup_cons] at hnd
  have hoff := S.off (a, o) List.mem_cons_self
  refine ⟨hs.1.trans S.size, S.toks, S.gsz, S.gens, S.gnd, S.bare, S.drawn, S.os, ?_, ?_, ?_, ?_⟩
  · intro p hp
    rcases List.mem_cons.mp hp with rfl | hp
    · exact ho
    · refine (hs.2 _ fun e => hnd.1 ?_).trans (S.led p (List.mem_cons_of_mem _ hp))
      exact List.mem_map.mpr ⟨p, hp, e⟩
  · rw [List.map_cons, List.nodup_cons]; exact hnd
  · intro p hp
    rcases List.mem_cons.mp hp with rfl | hp
    · exact hoff
    · exact S.off p (List.mem_cons_of_mem _ hp)
  · intro b o2 e
    refine (hs.2 b fun q => ?_).trans (S.keep b o2 e)
    subst q
    dsimp only at hoff
    rw [hoff] at e; cases e
theorem isInt_self (k : Int) (t : Tok) : Value.isInt k (.int k t) = true := by simp [Value.isInt]
theorem noSys (d : Nat) : ((d + 305 : Addr) == sysModules) = false := by
  have : ¬ (d + 305 = sysModules) := by
    show ¬ (d + 305 = 1)
    omega
  simpa using this
noncomputable def dg_r (d : Nat) (es : Array DictEntry) (e : Nat) (kvs : List (Int × Value)) (k : Int) (t : Tok) (dflt : Value) (n i g : Nat) : Rl :=
  ⟨bi "dict.get" [.ref (d + 305), .int k t, dflt], [(d + 305, oDic es e)], n + 305, i, g, (valueAt kvs k).getD dflt, [(d + 305, oDic es e)], n + 305, i + 1, g, 0, true⟩
theorem dg_ok {V : XV} {d : Nat} {es : Array DictEntry} {e : Nat} {kvs : List (Int × Value)} {k : Int} {t : Tok} {dflt : Value} {n i g : Nat} (D : DOf V es kvs) : RlOk V (dg_r d es e kvs k t dflt n i g) := by
  intro A _ b G s S R HR
  have et : s.toks = i := S.toks
  have ho := S.led (d + 305, _) List.mem_cons_self
  have hm := D.of ho
  refine codeAny_call_builtin F.slot_dict_get.plain F.entry_dict_get (F.slot_dict_get.check _ _ _ _ _ _ _ _ hm.typeIs (F.args_dict_get_3 _ _ _) (meets_dict_get_default (intKind V.prog V.w) (k := k) (key := .int k t) (d + 305) (isInt_self k t) (noSys d) dflt A R s ⟨_, hm.mapOf, ?_⟩))
  have z := HR _ (S.tok 1)
  simp only [et] at z ⊢
  exact z
theorem ds_code {V : XV} (d : Nat) (es : Array DictEntry) (e : Nat) (kvs : List (Int × Value)) (k : Int) (t : Tok) (v : Value) (n i g : Nat) (D : DOf V es kvs) (hz : kvs.length ≤ 100000) :
    CodeE V 0 (bi "dict.__setitem__" [.ref (d + 305), .int k t, v]) [(d + 305, oDic es e)] n i g (fun r L' n' i' g' => r = .ok (.ret .none) ∧ n' = n ∧ i' = i + 1 ∧ g' = g ∧ ∃ es' e', DOf V es' (stored kvs k v) ∧ L' = [(d + 305, oDic es' e')]) := by
  intro A _ b G s S R HR
  have et : s.toks = i := S.toks
  have ho := S.led (d + 305, _) List.mem_cons_self
  have hm := D.of ho
  refine codeAny_call_builtin F.slot_dict_setitem.plain F.entry_dict_setitem (F.slot_dict_setitem.check _ _ _ _ _ _ _ _ hm.typeIs (F.args_dict_setitem_3 _ _ _) (meets_dict_setitem_pairs (intKind V.prog V.w) (k := k) (key := .int k t) (d + 305) (isInt_self k t) v A R s ⟨kvs, hm, Nat.le_trans hz (by decide), fun h' hm' hs => ?_⟩))
  obtain ⟨es', e', hg, D'⟩ := dictOf_is hm'
  have S2 := (Sat.same S hs hg).tok 1
  have z := HR (.ok (.ret .none)) _ n (i + 1) g ⟨rfl, rfl, rfl, rfl, es', e', D', rfl⟩ _ S2
  simp only [et] at z ⊢
  exact z
theorem eq_ok {V : XV} {a b : Int} {t u : Tok} {r : Bool} {n i g : Nat} (h : (a == b) = r) : RlOk V (pv_r (bi "int.__eq__" [.int a t, .int b u]) (.bool r) n i g) := by
  intro A _ b G s S R HR
  refine codeAny_call_builtin F.slot_int_eq.plain F.entry_int_eq (F.slot_int_eq.check _ _ _ _ _ _ _ _ (T := "int") (typeIs_int _ _ _) (F.args_int_eq_2 _ _) (gives_int_eq _ _ _ _ V.prog V.w A R s ?_))
  rw [h]
  exact HR _ S
theorem Sat.sameAt {V : XV} {j : Nat} {a : Addr} {o o' : Obj} {L : Led} {n i g : Nat} {G : Gl} {s : Shared} {h' : Heap} (S : Sat V L n i g G s) (h : L[j]? = some (a, o)) (hs : Heap.SameBut a s.heap h') (ho : h'.get? a = some o') : Sat V (L.set j (a, o')) n i g G { s with heap := h' } := by
  have hoff := S.off _ (List.mem_of_getElem? h)
  refine ⟨hs.1.trans S.size, S.toks, S.gsz, S.gens, S.gnd, S.bare, S.drawn, S.os, ?_, ?_, ?_, ?_⟩
  · intro p hp
    rcases mem_set_or S.nd h p hp with rfl | ⟨hp, hne⟩
    · exact ho
    · exact (hs.2 _ hne).trans (S.led p hp)
  · rw [map_fst_set L j a o _ h]; exact S.nd
  · intro p hp
    rcases mem_set_or S.nd h p hp with rfl | ⟨hp, _⟩
    · exact hoff
    · exact S.off p hp
  · intro b o2 e
    refine (hs.2 b fun q => ?_).trans (S.keep b o2 e)
    subst q
    dsimp only at hoff
    rw [hoff] at e; cases e
noncomputable def oIi (a d : Value) (j N ep : Nat) (k v : Value) : Obj := oIt "dict_itemiterator" [a, .bool false, d, .int (Int.ofNat j) 0, .int (Int.ofNat N) 0, .int (Int.ofNat ep) 0, k, v]
noncomputable def di_r (it : Addr) (d : Nat) (j : Nat) (es : Array DictEntry) (ep : Nat) (en : DictEntry) (k v : Value) (n i g : Nat) : Rl :=
  ⟨bi "dict_itemiterator.__next__" [.ref it], [(it, oIi .none (.ref (d + 305)) j es.size ep k v), (d + 305, oDic es ep)], n + 305, i, g, .ref (n + 305),
   [(n + 305, oSeq "tuple" #[en.key, en.val] 0), (it, oIi (.int (Int.ofNat (n + 305)) 0) (.ref (d + 305)) (j + 1) es.size ep en.key en.val), (d + 305, oDic es ep)], n + 305 + 1, i, g, 0, true⟩
noncomputable def de_r (it : Addr) (d : Nat) (j : Nat) (es : Array DictEntry) (ep : Nat) (a k v : Value) (n i g : Nat) : Rl :=
  ⟨bi "dict_itemiterator.__next__" [.ref it], [(it, oIi a (.ref (d + 305)) j es.size ep k v), (d + 305, oDic es ep)], n + 305, i, g, .ref (n + 305 + 1),
   stopL n ++ [(it, oIi a .none j es.size ep k v), (d + 305, oDic es ep)], n + 305 + 2, i, g, 1, true⟩
theorem ownsItems : Builtin.Dict_items.ownsTuple "dict_itemiterator" = true := by decide
theorem de_ok {V : XV} {it : Addr} {d : Nat} {j : Nat} {es : Array DictEntry} {ep : Nat} {a k v : Value} {n i g : Nat} (hx : es.size ≤ j) : RlOk V (de_r it d j es ep a k v n i g) := by
  intro A hA b G s S R HR
  have hh : A.in1.handled = none := hA.2 (show (1 : Nat) ≠ 0 by decide)
  have hit := S.led (it, _) List.mem_cons_self
  have hod := S.led (d + 305, _) (List.mem_cons_of_mem _ List.mem_cons_self)
  have hT : s.TypeIs (.ref it) "dict_itemiterator" := ⟨_, hit, rfl⟩
  refine codeAny_call_builtin F.slot_dict_itemiterator_next.plain F.entry_dict_itemiterator_next (F.slot_dict_itemiterator_next.check _ _ _ _ _ _ _ _ hT (F.args_dict_itemiterator_next_1 _) ?_)
  refine wpAny_bind (wpAny_pure ?_)
  refine wpAny_bind ?_
  refine wpAny_bind ?_
  refine wpAny_bind (wpAny_typeNameOfWhole_itemiter hT (wpAny_pure ?_))
  refine wpAny_bind (wpAny_fieldsOf hit rfl ?_)
  simp only [ownsItems, if_true]
  show wpAny _ _ (if (Value.ref (d + 305) == Value.none) = true then _ else _) _ _ _
  rw [if_neg (show ¬ ((Value.ref (d + 305) == Value.none) = true) from Bool.false_ne_true)]
  refine wpAny_bind (wpAny_pure ?_)
  refine wpAny_bind (wpAny_dictEntries hod rfl ?_)
  rw [if_neg (by simp)]
  refine wpAny_bind (wpAny_pure ?_)
  refine wpAny_bind (wpAny_dictEpoch hod rfl ?_)
  rw [if_neg (by simp)]
  refine wpAny_pure ?_
  simp only [show ¬ ((Int.ofNat j : Int) < 0) from by simp, if_false, Int.ofNat_eq_natCast, Int.toNat_natCast, Array.getElem?_eq_none hx]
  refine wpAny_bind ?_
  refine wpAny_bind (wpAny_typeNameOfWhole_itemiter hT (wpAny_pure ?_))
  show wpAny _ _ (setField (.ref it) 2 .none >>= _) _ _ s
  refine wpAny_bind (wpAny_setField_rec hit (by simp [oIi]) fun h₁ he₁ hs₁ => ?_)
  have he₂ : h₁.get? it = some (oIi a .none j es.size ep k v) := by simpa [oIi, oIt] using he₁
  exact stop_run hh (S.sameAt (j := 0) rfl hs₁ he₂) fun s' S' => HR s' S'
theorem di_ok {V : XV} {it : Addr} {d : Nat} {j : Nat} {es : Array DictEntry} {ep : Nat} {en : DictEntry} {k v : Value} {n i g : Nat} (hx : es[j]? = some en) : RlOk V (di_r it d j es ep en k v n i g) := by
  intro A hA b G s S R HR
  have hit := S.led (it, _) List.mem_cons_self
  have hod := S.led (d + 305, _) (List.mem_cons_of_mem _ List.mem_cons_self)
  have hT : s.TypeIs (.ref it) "dict_itemiterator" := ⟨_, hit, rfl⟩
  have ez : s.heap.objs.size = n + 305 := S.size
  refine codeAny_call_builtin F.slot_dict_itemiterator_next.plain F.entry_dict_itemiterator_next (F.slot_dict_itemiterator_next.check _ _ _ _ _ _ _ _ hT (F.args_dict_itemiterator_next_1 _) ?_)
  refine wpAny_bind (wpAny_pure ?_)
  refine wpAny_bind ?_
  refine wpAny_bind ?_
  refine wpAny_bind (wpAny_typeNameOfWhole_itemiter hT (wpAny_pure ?_))
  refine wpAny_bind (wpAny_fieldsOf hit rfl ?_)
  simp only [ownsItems, if_true]
  show wpAny _ _ (if (Value.ref (d + 305) == Value.none) = true then _ else _) _ _ _
  rw [if_neg (show ¬ ((Value.ref (d + 305) == Value.none) = true) from Bool.false_ne_true)]
  refine wpAny_bind (wpAny_pure ?_)
  refine wpAny_bind (wpAny_dictEntries hod rfl ?_)
  rw [if_neg (by simp)]
  refine wpAny_bind (wpAny_pure ?_)
  refine wpAny_bind (wpAny_dictEpoch hod rfl ?_)
  rw [if_neg (by simp)]
  refine wpAny_pure ?_
  simp only [show ¬ ((Int.ofNat j : Int) < 0) from by simp, if_false, Int.ofNat_eq_natCast, Int.toNat_natCast, hx]
  refine wpAny_bind ?_
  refine wpAny_bind (wpAny_typeNameOfWhole_itemiter hT (wpAny_pure ?_))
  refine wpAny_bind (wpAny_isOneOf_itemiter hT ?_)
  show wpAny _ _ (setField (.ref it) 3 (rawInt ((j : Int) + 1)) >>= _) _ _ s
  refine wpAny_bind (wpAny_setField_rec hit (by simp [oIi]) fun h₁ he₁ hs₁ => ?_)
  have e₁ : h₁.get? it = some (oIi .none (.ref (d + 305)) (j + 1) es.size ep k v) := by
    have q : ((j : Int) + 1) = ((j + 1 : Nat) : Int) := by omega
    rw [q] at he₁
    simpa [oIi, oIt, rawInt] using he₁
  have S₁ := S.sameAt (j := 0) rfl hs₁ e₁
  have hT₁ : Shared.TypeIs { s with heap := h₁ } (.ref it) "dict_itemiterator" := ⟨_, e₁, rfl⟩
  refine wpAny_bind (wpAny_holding ?_)
  refine wpAny_bind (wpAny_isOneOf_itemiter hT₁ ?_)
  refine wpAny_bind (wpAny_isOneOf_itemiter hT₁ ?_)
  show wpAny _ _ (Builtin.Dict_items.pairFromOwner (.ref it) 6 en.key en.val) _ _ { s with heap := h₁ }
  unfold Builtin.Dict_items.pairFromOwner
  refine wpAny_bind (wpAny_newTuple ?_)
  have S₂ := S₁.alloc (o := { cls := .type "tuple", data := .seq #[en.key, en.val] }) rfl
  have ez₁ : h₁.objs.size = n + 305 := S₁.size
  have e₂ := S₂.led (it, oIi .none (.ref (d + 305)) (j + 1) es.size ep k v) (List.mem_cons_of_mem _ List.mem_cons_self)
  simp only at e₂
  show wpAny _ _ (Builtin.Dict_items.ownedTupleIsFree (.ref it) >>= _) _ _ _
  generalize hh₂ : h₁.push { cls := .type "tuple", data := .seq #[en.key, en.val] } = h₂ at S₂ e₂
  simp only [ez₁]
  refine wpAny_bind ?_
  unfold Builtin.Dict_items.ownedTupleIsFree
  refine wpAny_bind (wpAny_field e₂ rfl (x := .none) rfl (wpAny_pure ?_))
  simp only [if_true]
  refine wpAny_bind (wpAny_field e₂ rfl (x := k) rfl ?_)
  refine wpAny_bind (wpAny_field e₂ rfl (x := v) rfl ?_)
  refine wpAny_bind (wpAny_setField_rec e₂ (by simp [oIi]) fun h₃ he₃ hs₃ => ?_)
  have e₃ : h₃.get? it = some (oIi .none (.ref (d + 305)) (j + 1) es.size ep en.key v) := by simpa [oIi, oIt] using he₃
  have S₃ := S₂.sameAt (j := 1) rfl hs₃ e₃
  refine wpAny_bind (wpAny_setField_rec e₃ (by simp [oIi]) fun h₄ he₄ hs₄ => ?_)
  have e₄ : h₄.get? it = some (oIi .none (.ref (d + 305)) (j + 1) es.size ep en.key en.val) := by simpa [oIi, oIt] using he₄
  have S₄ := S₃.sameAt (j := 1) rfl hs₄ e₄
  refine wpAny_bind (wpAny_setField_rec e₄ (by simp [oIi]) fun h₅ he₅ hs₅ => ?_)
  have e₅ : h₅.get? it = some (oIi (.int (Int.ofNat (n + 305)) 0) (.ref (d + 305)) (j + 1) es.size ep en.key en.val) := by simpa [oIi, oIt, rawInt] using he₅
  have S₅ := S₄.sameAt (j := 1) rfl hs₅ e₅
  refine wpAny_bind (wpAny_setField_rec e₅ (by simp [oIi]) fun h₆ he₆ hs₆ => ?_)
  have e₆ : h₆.get? it = some (oIi (.int (Int.ofNat (n + 305)) 0) (.ref (d + 305)) (j + 1) es.size ep en.key en.val) := by simpa [oIi, oIt, rawInt] using he₆
  have S₆ := S₅.sameAt (j := 1) rfl hs₆ e₆
  refine wpAny_bind (wpAny_letGo (wpAny_pure (wpAny_pure ?_)))
  exact HR _ S₆
theorem dc_code {V : XV} (c d : Nat) (e0 : Nat) (es : Array DictEntry) (ep : Nat) (kvs : List (Int × Value)) (n i g : Nat) (D : DOf V es kvs) (hz : kvs.length ≤ 100000) :
    CodeE V 0 (bi "dict.__init__" [.ref (c + 305), .ref (d + 305)]) [(c + 305, oDic #[] e0), (d + 305, oDic es ep)] n i g (fun r L' n' i' g' => r = .ok (.ret .none) ∧ n' = n ∧ i' = i ∧ g' = g ∧ ∃ es' e', DOf V es' kvs ∧ L' = [(c + 305, oDic es' e'), (d + 305, oDic es ep)]) := by
  intro A _ b G s S R HR
  have hc := S.led (c + 305, _) List.mem_cons_self
  have hd := S.led (d + 305, _) (List.mem_cons_of_mem _ List.mem_cons_self)
  have hne : (c + 305 : Addr) ≠ d + 305 := by
    intro e
    have hnd := S.nd
    simp only [List.cons_append, List.map_cons, List.nodup_cons] at hnd
    exact hnd.1 (by rw [e]; exact List.mem_cons_self)
  have D0 : DOf V #[] [] := ⟨fun e he => by simp at he, Pairs.nil, List.nodup_nil⟩
  have hmc := D0.of hc
  have hmd := D.of hd
  refine codeAny_call_builtin F.slot_dict_init.plain F.entry_dict_init (F.slot_dict_init.check _ _ _ _ _ _ _ _ hmc.typeIs (F.args_dict_init_2 _ _) ?_)
  unfold Builtin.«dict.__init__»
  refine wpAny_bind ?_
  unfold Builtin.Dict.selfAndRest
  refine wpAny_bind (wpAny_notOrdered_dict hmc.typeIs ?_)
  show wpAny _ _ (pure (c + 305, [Value.ref (d + 305)])) _ _ s
  refine wpAny_pure ?_
  show wpAny _ _ (Builtin.Dict.updateFrom "dict.__init__" (c + 305) (.ref (d + 305)) [] .none) _ _ s
  unfold Builtin.Dict.updateFrom
  refine wpAny_bind (wpAny_typeOf hmd.typeIs ?_)
  rw [if_neg (by decide)]
  refine wpAny_bind ?_
  unfold Builtin.Dict.merge
  refine wpAny_bind ?_
  unfold Builtin.Dict.readDirectly
  refine wpAny_bind (wpAny_isInstance hmd.typeIs isSubtype_dict_dict ?_)
  simp only [Bool.not_true, Bool.false_eq_true, if_false]
  refine wpAny_bind (wpAny_specialOf hmd.typeIs F.slot_dict_iter.lookup (wpAny_pure ?_))
  simp only [beq_self_eq_true, if_true]
  refine wpAny_bind (wpAny_pure ?_)
  refine wpAny_mergeDict (hsz := by simpa using Nat.le_trans hz (by decide)) hne (noSys d) hmc hmd fun h' hd' ho' hs' => ?_
  show wpAny _ _ (Builtin.Dict.addKeywords (c + 305) [] >>= _) _ _ _
  rw [merged_nil_of_nodup kvs D.nodup] at hd'
  obtain ⟨es', e', hg, D'⟩ := dictOf_is hd'
  exact wpAny_bind (wpAny_pure (wpAny_pure (HR (.ok (.ret .none)) _ n i g ⟨rfl, rfl, rfl, rfl, es', e', D', rfl⟩ _ (Sat.same S hs' hg))))
end Mine
end
section
open PySem PySem.W PySem.W.X PySem.Builtin.Str
namespace Mine
noncomputable def sSizes : Str := ⟨#[115,105,122,101,115]⟩
noncomputable def sPicks : Str := ⟨#[112,105,99,107,115]⟩
noncomputable def sSizeN : Str := ⟨#[115,105,122,101]⟩
noncomputable def sTold : Str := ⟨#[116,111,108,100]⟩
noncomputable def sWays : Str := ⟨#[119,97,121,115]⟩
noncomputable def sMark : Str := ⟨#[109,97,114,107]⟩
noncomputable def qPicks : Str := Str.ofString "_law_picks.<locals>."
noncomputable def getE (E : List (Int × Int)) (k : Int) : Int := ((E.find? fun x => x.1 = k).map (·.2)).getD 0
noncomputable def storeE (E : List (Int × Int)) (k u : Int) : List (Int × Int) := if E.any (fun x => x.1 = k) then E.map (fun x => if x.1 = k then (x.1, u) else x) else E ++ [(k, u)]
theorem storeE_len (E : List (Int × Int)) (k u : Int) : (storeE E k u).length ≤ E.length + 1 := by
  unfold storeE
  split <;> simp
structure Told (V : XV) (es : Array DictEntry) (D : List (Int × Int × Tok)) : Prop where
  is : DOf V es (D.map fun x => (x.1, Value.int x.2.1 x.2.2))
noncomputable def unT (D : List (Int × Int × Tok)) : List (Int × Int) := D.map fun x => (x.1, x.2.1)
theorem get_int (D : List (Int × Int × Tok)) (k : Int) (t : Tok) : ∃ tu, (valueAt (D.map fun x => (x.1, Value.int x.2.1 x.2.2)) k).getD (.int 0 t) = .int (getE (unT D) k) tu := by
  induction D with
  | nil => exact ⟨t, rfl⟩
  | cons x D ih =>
    obtain ⟨tu, h⟩ := ih
    by_cases e : x.1 = k
    · refine ⟨x.2.2, ?_⟩
      simp [valueAt, getE, unT, e]
    · refine ⟨tu, ?_⟩
      simp only [valueAt, getE, unT, List.map_cons, List.find?_cons] at h ⊢
      simp only [e, decide_false]
      exact h
theorem store_int (D : List (Int × Int × Tok)) (k u : Int) (t : Tok) : ∃ D' : List (Int × Int × Tok), stored (D.map fun x => (x.1, Value.int x.2.1 x.2.2)) k (.int u t) = (D'.map fun x => (x.1, Value.int x.2.1 x.2.2)) ∧ unT D' = storeE (unT D) k u := by
  unfold stored storeE
  have e : ((D.map fun x => (x.1, Value.int x.2.1 x.2.2)).any fun kv => decide (kv.1 = k)) = ((unT D).any fun x => decide (x.1 = k)) := by
    simp [unT, List.any_map, Function.comp_def]
  cases h : ((unT D).any fun x => decide (x.1 = k)) with
  | true =>
    rw [if_pos (by rw [e]; exact h), if_pos (by simp)]
    refine ⟨D.map fun x => if x.1 = k then (x.1, u, t) else x, ?_, ?_⟩
    · rw [List.map_map, List.map_map]
      apply List.map_congr_left
      intro x _
      simp only [Function.comp_apply]
      split <;> rfl
    · unfold unT
      rw [List.map_map, List.map_map]
      apply List.map_congr_left
      intro x _
      simp only [Function.comp_apply]
      split <;> rfl
  | false =>
    rw [if_neg (by rw [e, h]; simp), if_neg (by simp)]
    exact ⟨D ++ [(k, u, t)], by simp, by simp [unT]⟩
noncomputable def stepM (T w : Int) (E : List (Int × Int)) (M : Int) : List (Int × Int) := match ((T.fdiv M).fmod 2 == 0) with
  | true => storeE E (T + M) (getE E (T + M) + w)
  | false => E
theorem stepM_len (T w : Int) (E : List (Int × Int)) (M : Int) : (stepM T w E M).length ≤ E.length + 1 := by
  unfold stepM
  split
  · exact storeE_len _ _ _
  · omega
noncomputable def pkInC (p : Params) (a : Nat → Nat) : Code := loopC p 291 [1, 1, 0] (fnEnv p 291 qPicks (a 2) [(Str.ofString "taken", a 4 + 305)]) (a 0)
noncomputable def pkF (t : Nat → Tok) (sv pv zv : Value) (told : Nat) (l : List (Str × Tok × Value)) : List (Str × Tok × Value) := [(sSizes, t 0, sv), (sPicks, t 1, pv), (sSizeN, t 2, zv), (sTold, t 3, .ref (told + 305))] ++ l
noncomputable def pkInL (p : Params) (a : Nat → Nat) (t : Nat → Tok) (sv pv zv : Value) (w : Int) (tw tW : Tok) (o : Option (Tok × Value)) (j : Nat) (y : Array Value) (es : Array DictEntry) (T : Int) (tT : Tok) (e : Nat → Nat) : Led :=
  [(a 0 + 305, oIt "list_iterator" [.ref (a 1 + 305), .int (Int.ofNat j) 0]), (a 1 + 305, oSeq "list" y (e 0)), (a 2 + 305, oFrm (dEs p (pkF t sv pv zv (a 3) ([(sWays, tW, .int w tw)] ++ dO sMark o))) (e 1)), (a 3 + 305, oDic es (e 2)), (a 4 + 305, oCell (some (.int T tT)))]
noncomputable def dgv_r (d : Nat) (es : Array DictEntry) (e : Nat) (k : Int) (t : Tok) (dflt v : Value) (n i g : Nat) : Rl :=
  ⟨bi "dict.get" [.ref (d + 305), .int k t, dflt], [(d + 305, oDic es e)], n + 305, i, g, v, [(d + 305, oDic es e)], n + 305, i + 1, g, 0, true⟩
theorem dgv_ok {V : XV} {d : Nat} {es : Array DictEntry} {e : Nat} {kvs : List (Int × Value)} {k : Int} {t : Tok} {dflt v : Value} {n i g : Nat} (D : DOf V es kvs) (hv : (valueAt kvs k).getD dflt = v) : RlOk V (dgv_r d es e k t dflt v n i g) := by
  subst hv
  exact dg_ok D
section
variable {V : XV} (a : Nat → Nat) (t : Nat → Tok) (sv pv zv : Value) (w : Int) (tw tW : Tok) (j : Nat) (y : Array Value) (es : Array DictEntry) (T : Int) (tT : Tok) (e : Nat → Nat) (n i g : Nat) (P : PostG)
theorem pkIn_turn (o : Option (Tok × Value)) (M : Int) (tM : Tok) (hM : M = 1 ∨ M = 2 ∨ M = 4 ∨ M = 8) (D : List (Int × Int × Tok)) (hy : y[j]? = some (.int M tM)) (hD : Told V es D) (hz : D.length ≤ 100000)
    (H : ∀ es' D' tt e' i', Told V es' D' → unT D' = stepM T w (unT D) M → CallsS V 250 (pkInC V.w.params a) (pkInL V.w.params a t sv pv zv w tw tW (some (tt, .int M tM)) (j + 1) y es' T tT e') n i' g P) :
    CallsS V 250 (pkInC V.w.params a) (pkInL V.w.params a t sv pv zv w tw tW o j y es T tT e) n i g P := by
  cases h : ((T.fdiv M).fmod 2 == 0) with
  | true =>
    obtain ⟨tu, hu⟩ := get_int D (T + M) (i + 6)
    intro A Q B F G Bk
    have O : (cxR (reV V A Q) 250 [li_r (a 0 + 305) (a 1 + 305) j y (e 0) (.int M tM) n i g, pv_r (bi "int.__eq__" [.int ((T.fdiv M).fmod 2) (i + 3), .int 0 (i + 4)]) (.bool true) n (i + 5) g, dgv_r (a 3) es (e 2) (T + M) (i + 5) (.int 0 (i + 6)) (.int (getE (unT D) (T + M)) tu) n (i + 7) g]).Ok := B.okR (by decide) ⟨li_ok hy, eq_ok h, dgv_ok (V := reV V A Q) ⟨hD.is.keys, hD.is.pairs, hD.is.nodup⟩ hu, trivial⟩
    have C := ds_code (V := reV V A Q) (a 3) es (e 2) (D.map fun x => (x.1, Value.int x.2.1 x.2.2)) (T + M) (i + 9) (.int (getE (unT D) (T + M) + w) (i + 8)) n (i + 10) g ⟨hD.is.keys, hD.is.pairs, hD.is.nodup⟩ (by simpa using hz)
    obtain ⟨D', hs, hE⟩ := store_int D (T + M) (getE (unT D) (T + M) + w) (i + 8)
    rw [hs] at C
    have hst : unT D' = stepM T w (unT D) M := by rw [hE]; unfold stepM; rw [h]
    have O2 : (cxR (reV V A Q) 250 []).Ok := B.okR (by decide) trivial
    cases o with
    | none =>
      rcases hM with rfl | rfl | rfl | rfl
      all_goals
        refine @run_codeE (cxR (reV V A Q) 250 _) O _ 73 (unp 36 0x104414410349ffcf7ff0c51041040d17ff0431430c000041ffc1) [0] 5 0 _ _ F _ _ _ _ C (by kernel_rfl) (hid ?_)
        intro Kq hKq
        rintro r L1 n1 i1 g1 ⟨rfl, rfl, rfl, rfl, es', e', hD', rfl⟩
        refine hKq _ _ _ _ _ ?_
        have z := H es' D' i (lk [e 0, e 1 + 1, e']) (i + 10 + 1) ⟨hD'.keys, hD'.pairs, hD'.nodup⟩ hst A Q B F G Bk
        intro sq
        exact @run_to (cxR (reV V A Q) 250 []) O2 _ 1 (unp 1 0x0) [0, 1, 2, 4, 3] 5 [] 0 _ .base _ _ _ _ _ _ (by decide) (by kernel_rfl) z
    | some o =>
      rcases hM with rfl | rfl | rfl | rfl
      all_goals
        refine @run_codeE (cxR (reV V A Q) 250 _) O _ 73 (unp 36 0x104414410349ffcf7ff0c51041040d17ff0431430c000041ffc1) [0] 5 0 _ _ F _ _ _ _ C (by kernel_rfl) (hid ?_)
        intro Kq hKq
        rintro r L1 n1 i1 g1 ⟨rfl, rfl, rfl, rfl, es', e', hD', rfl⟩
        refine hKq _ _ _ _ _ ?_
        have z := H es' D' o.1 (lk [e 0, e 1, e']) (i + 10 + 1) ⟨hD'.keys, hD'.pairs, hD'.nodup⟩ hst A Q B F G Bk
        intro sq
        exact @run_to (cxR (reV V A Q) 250 []) O2 _ 1 (unp 1 0x0) [0, 1, 2, 4, 3] 5 [] 0 _ .base _ _ _ _ _ _ (by decide) (by kernel_rfl) z
  | false =>
    have hst : unT D = stepM T w (unT D) M := by unfold stepM; rw [h]
    cases o with
    | none =>
      rcases hM with rfl | rfl | rfl | rfl
      all_goals
        exact turn_at [li_r (a 0 + 305) (a 1 + 305) j y (e 0) (.int _ tM) n i g, pv_r (bi "int.__eq__" [.int ((T.fdiv _).fmod 2) (i + 3), .int 0 (i + 4)]) (.bool false) n (i + 5) g] 31 (unp 16 0x117ff0431430c000041ffc1) [0, 1, 2, 3, 4] 5 _ _ n (i + 5) g
          (by decide) (fun A Q B => ⟨li_ok hy, eq_ok h, trivial⟩) (fun A Q F G => by kernel_rfl) (H es D i (lk [e 0, e 1 + 1, e 2]) (i + 5) hD hst)
    | some o =>
      rcases hM with rfl | rfl | rfl | rfl
      all_goals
        exact turn_at [li_r (a 0 + 305) (a 1 + 305) j y (e 0) (.int _ tM) n i g, pv_r (bi "int.__eq__" [.int ((T.fdiv _).fmod 2) (i + 3), .int 0 (i + 4)]) (.bool false) n (i + 5) g] 31 (unp 16 0x117ff0431430c000041ffc1) [0, 1, 2, 3, 4] 5 _ _ n (i + 5) g
          (by decide) (fun A Q B => ⟨li_ok hy, eq_ok h, trivial⟩) (fun A Q F G => by kernel_rfl) (H es D o.1 (lk [e 0, e 1, e 2]) (i + 5) hD hst)
end
theorem Told.re {V : XV} {A : Around} {Q : Result → Shared → Prop} {es : Array DictEntry} {D : List (Int × Int × Tok)} (h : Told V es D) : Told (reV V A Q) es D := ⟨⟨h.is.keys, h.is.pairs, h.is.nodup⟩⟩
theorem Told.un {V : XV} {A : Around} {Q : Result → Shared → Prop} {es : Array DictEntry} {D : List (Int × Int × Tok)} (h : Told (reV V A Q) es D) : Told V es D := ⟨⟨h.is.keys, h.is.pairs, h.is.nodup⟩⟩
noncomputable def stepMs (T w : Int) (ms : List Int) (E : List (Int × Int)) : List (Int × Int) := ms.foldl (stepM T w) E
theorem stepMs_len (T w : Int) (ms : List Int) : ∀ E : List (Int × Int), (stepMs T w ms E).length ≤ E.length + ms.length := by
  induction ms with
  | nil => intro E; simp [stepMs]
  | cons M ms ih =>
    intro E
    have h1 := ih (stepM T w E M)
    have h2 := stepM_len T w E M
    simp only [stepMs, List.foldl_cons, List.length_cons] at h1 ⊢
    omega
theorem unT_len (D : List (Int × Int × Tok)) : (unT D).length = D.length := by simp [unT]
noncomputable def pkInP (V : XV) (p : Params) (a : Nat → Nat) (t : Nat → Tok) (sv pv zv : Value) (w : Int) (tw tW : Tok) (T : Int) (tT : Tok) (E : List (Int × Int)) : PostG := fun r L' _ _ _ => r = .ok .next ∧ ∃ (es : Array DictEntry) (D : List (Int × Int × Tok)) (o : Tok × Value) (e : Nat → Nat), Told V es D ∧ unT D = E ∧
  L' = [(a 2 + 305, oFrm (dEs p (pkF t sv pv zv (a 3) ([(sWays, tW, .int w tw)] ++ dO sMark (some o)))) (e 1)), (a 3 + 305, oDic es (e 2)), (a 4 + 305, oCell (some (.int T tT)))]
theorem pkIn_loop {V : XV} (a : Nat → Nat) (t : Nat → Tok) (sv pv zv : Value) (w : Int) (tw tW : Tok) (q : List (Int × Tok)) (hq : ∀ x ∈ q, x.1 = 1 ∨ x.1 = 2 ∨ x.1 = 4 ∨ x.1 = 8) (T : Int) (tT : Tok) : ∀ (rem pre : List (Int × Tok)), q = pre ++ rem →
    ∀ (o : Option (Tok × Value)), (o.isSome = true ∨ rem ≠ []) → ∀ (es : Array DictEntry) (D : List (Int × Int × Tok)) (e : Nat → Nat) (n i g : Nat), Told V es D → D.length + rem.length ≤ 100000 →
    CallsS V 250 (pkInC V.w.params a) (pkInL V.w.params a t sv pv zv w tw tW o pre.length (vals q).toArray es T tT e) n i g (pkInP V V.w.params a t sv pv zv w tw tW T tT (stepMs T w (rem.map (·.1)) (unT D))) := by
  intro rem
  induction rem with
  | nil =>
    intro pre hp o ho es D e n i g hD hz
    cases o with
    | none => simp at ho
    | some o =>
      have hx : (vals q).toArray[pre.length]? = none := by simp [vals, hp]
      exact turn_end [le_r (a 0 + 305) (a 1 + 305) pre.length (vals q).toArray (e 0) n i g] 5 (unp 8 0x100041ffc1) [4, 5, 6] 7 .next [(a 2 + 305, oFrm (dEs V.w.params (pkF t sv pv zv (a 3) ([(sWays, tW, .int w tw)] ++ dO sMark (some o)))) (e 1)), (a 3 + 305, oDic es (e 2)), (a 4 + 305, oCell (some (.int T tT)))] (n + 2) i g
        (by decide) (fun A Q B => ⟨le_ok hx, trivial⟩) (fun A Q F G => by kernel_rfl) ⟨rfl, es, D, o, e, hD, rfl, rfl⟩
  | cons x rem ih =>
    intro pre hp o ho es D e n i g hD hz
    have hx : (vals q).toArray[pre.length]? = some (.int x.1 x.2) := by simp [vals, hp]
    have hz' : D.length + rem.length + 1 ≤ 100000 := by simpa [Nat.add_assoc] using hz
    refine pkIn_turn a t sv pv zv w tw tW pre.length (vals q).toArray es T tT e n i g _ o x.1 x.2 (hq x (by simp [hp])) D hx hD (by omega) fun es' D' tt e' i' hD' hu => ?_
    have hl : D'.length ≤ D.length + 1 := by
      rw [← unT_len D', hu, ← unT_len D]; exact stepM_len _ _ _ _
    have z := ih (pre ++ [x]) (by simp [hp]) (some (tt, .int x.1 x.2)) (Or.inl rfl) es' D' e' n i' g hD' (by omega)
    have e1 : (pre ++ [x]).length = pre.length + 1 := by simp
    rw [e1, hu] at z
    exact z
noncomputable def marksQ (k i : Nat) : List (Int × Tok) := ([(1, i + 1), (2, i + 2), (4, i + 3), (8, i + 4)] : List (Int × Tok)).take k
noncomputable def marks (k : Nat) : List Int := ([1, 2, 4, 8] : List Int).take k
theorem marksQ_fst (k i : Nat) : (marksQ k i).map (·.1) = marks k := by
  unfold marksQ marks
  rw [List.map_take]
  rfl
theorem marksQ_ok (k i : Nat) : ∀ x ∈ marksQ k i, x.1 = 1 ∨ x.1 = 2 ∨ x.1 = 4 ∨ x.1 = 8 := by
  intro x hx
  have := List.mem_of_mem_take hx
  simp only [List.mem_cons, List.not_mem_nil, or_false] at this
  rcases this with rfl | rfl | rfl | rfl <;> simp
noncomputable def pkMiC (p : Params) (a : Nat → Nat) : Code := loopC p 291 [1, 1] (fnEnv p 291 qPicks (a 2) [(Str.ofString "taken", a 4 + 305)]) (a 0)
noncomputable def wmO (o : Option ((Tok × Value) × (Tok × Value))) : List (Str × Tok × Value) := match o with
  | none => []
  | some x => [(sWays, x.1.1, x.1.2), (sMark, x.2.1, x.2.2)]
noncomputable def pkMiL (p : Params) (a : Nat → Nat) (t : Nat → Tok) (sv zv : Value) (o : Option ((Tok × Value) × (Tok × Value))) (j : Nat) (k v : Value) (es0 : Array DictEntry) (ep : Nat) (es : Array DictEntry) (ct : Option Value) (e : Nat → Nat) : Led :=
  [(a 0 + 305, oIi .none (.ref (a 1 + 305)) j es0.size ep k v), (a 1 + 305, oDic es0 ep), (a 2 + 305, oFrm (dEs p (pkF t sv (.ref (a 1 + 305)) zv (a 3) (wmO o))) (e 1)), (a 3 + 305, oDic es (e 2)), (a 4 + 305, oCell ct)]
noncomputable def pkHM : List Nat := unp 61 0x410410420410410420820881c70092410410810410410420410410410810410410410410420a93ff00041ffc1
theorem pkMi_turn {V : XV} (a : Nat → Nat) (t : Nat → Tok) (sv : Value) (sz : Nat) (tz : Tok) (hsz : sz = 1 ∨ sz = 2 ∨ sz = 3 ∨ sz = 4) (o : Option ((Tok × Value) × (Tok × Value))) (j : Nat) (k v : Value) (es0 : Array DictEntry) (ep : Nat) (h : Int) (T w : Int) (tT tw : Tok) (es : Array DictEntry) (D : List (Int × Int × Tok)) (ct : Option Value) (e : Nat → Nat) (n i g : Nat) (P : PostG)
    (hx : es0[j]? = some ⟨h, .int T tT, .int w tw⟩) (hD : Told V es D) (hz : D.length + 4 ≤ 100000)
    (H : ∀ es' D' o' e' n' i' g', Told V es' D' → unT D' = stepMs T w (marks sz) (unT D) → CallsS V 300 (pkMiC V.w.params a) (pkMiL V.w.params a t sv (.int (Int.ofNat sz) tz) (some o') (j + 1) (.int T tT) (.int w tw) es0 ep es' (some (.int T tT)) e') n' i' g' P) :
    CallsS V 300 (pkMiC V.w.params a) (pkMiL V.w.params a t sv (.int (Int.ofNat sz) tz) o j k v es0 ep es ct e) n i g P := by
  intro A Q B F G Bk
  have O : (cxR (reV V A Q) 300 [di_r (a 0 + 305) (a 1) j es0 ep ⟨h, .int T tT, .int w tw⟩ k v n i g]).Ok := B.okR (by decide) ⟨di_ok hx, trivial⟩
  have O2 : (cxR (reV V A Q) 300 []).Ok := B.okR (by decide) trivial
  have hm : marksQ sz i ≠ [] := by rcases hsz with rfl | rfl | rfl | rfl <;> simp [marksQ]
  have hml : (marksQ sz i).length ≤ 4 := by simp [marksQ]; omega
  cases o with
  | none =>
    have C := ((pkIn_loop (V := V) (lk [n + 7, n + 6, a 2, a 3, a 4]) t sv (.ref (a 1 + 305)) (.int (Int.ofNat sz) tz) w tw i (marksQ sz i) (marksQ_ok sz i) T tT (marksQ sz i) [] rfl none (Or.inr hm) es D (lk [0, e 1 + 1, e 2]) (n + 8) (i + 5) g hD (by omega)).g (by kernel_rfl) (by decide)).re A Q
    rw [marksQ_fst] at C
    rcases hsz with rfl | rfl | rfl | rfl
    all_goals
      refine @run_callG (cxR (reV V A Q) 300 _) O _ 103 pkHM [0, 0, 8, 8, 8] 13 250 _ _ F _ _ _ _ C B (by kernel_rfl) (hid ?_)
      intro Kq hKq
      rintro r L1 n1 i1 g1 ⟨rfl, hx⟩
      refine ex4 hx ?_
      clear hx
      rintro es' D' o' e' ⟨hD', hu, rfl⟩
      refine hKq _ _ _ _ _ ?_
      have z := H es' D' ((i, .int w tw), o') (lk [0, e' 1, e' 2]) n1 i1 g1 hD' hu A Q B F G Bk
      intro sq
      exact @run_to (cxR (reV V A Q) 300 []) O2 _ 1 (unp 1 0x0) [6, 7, 8, 9, 10] 11 [] 0 _ .base _ _ _ _ _ _ (by decide) (by kernel_rfl) z
  | some o =>
    have C := ((pkIn_loop (V := V) (lk [n + 7, n + 6, a 2, a 3, a 4]) t sv (.ref (a 1 + 305)) (.int (Int.ofNat sz) tz) w tw o.1.1 (marksQ sz i) (marksQ_ok sz i) T tT (marksQ sz i) [] rfl (some o.2) (Or.inr hm) es D (lk [0, e 1, e 2]) (n + 8) (i + 5) g hD (by omega)).g (by kernel_rfl) (by decide)).re A Q
    rw [marksQ_fst] at C
    rcases hsz with rfl | rfl | rfl | rfl
    all_goals
      refine @run_callG (cxR (reV V A Q) 300 _) O _ 103 pkHM [0, 0, 8, 8, 8] 13 250 _ _ F _ _ _ _ C B (by kernel_rfl) (hid ?_)
      intro Kq hKq
      rintro r L1 n1 i1 g1 ⟨rfl, hx⟩
      refine ex4 hx ?_
      clear hx
      rintro es' D' o' e' ⟨hD', hu, rfl⟩
      refine hKq _ _ _ _ _ ?_
      have z := H es' D' ((o.1.1, .int w tw), o') (lk [0, e' 1, e' 2]) n1 i1 g1 hD' hu A Q B F G Bk
      intro sq
      exact @run_to (cxR (reV V A Q) 300 []) O2 _ 1 (unp 1 0x0) [6, 7, 8, 9, 10] 11 [] 0 _ .base _ _ _ _ _ _ (by decide) (by kernel_rfl) z
theorem Told.get {V : XV} {es : Array DictEntry} {D : List (Int × Int × Tok)} (h : Told V es D) {j : Nat} {x : Int × Int × Tok} (hx : D[j]? = some x) : ∃ hh tT, es[j]? = some ⟨hh, .int x.1 tT, .int x.2.1 x.2.2⟩ := by
  have hsz := h.is.size
  have hj : j < D.length := by
    rcases Nat.lt_or_ge j D.length with q | q
    · exact q
    · rw [List.getElem?_eq_none q] at hx; cases hx
  have hje : j < es.size := by rw [hsz]; simpa using hj
  have h1 : es.toList[j]? = some es[j] := by simp [hje]
  have h2 : (D.map fun x => (x.1, Value.int x.2.1 x.2.2))[j]? = some (x.1, Value.int x.2.1 x.2.2) := by rw [List.getElem?_map, hx]; rfl
  obtain ⟨hk, hv⟩ := h.is.pairs.get? h1 h2
  obtain ⟨t, ht⟩ := Value.isInt_shape hk
  refine ⟨es[j].hash, t, ?_⟩
  rw [Array.getElem?_eq_getElem hje]
  congr 1
  have : es[j] = ⟨es[j].hash, es[j].key, es[j].val⟩ := rfl
  rw [this, ht, hv]
theorem Told.size {V : XV} {es : Array DictEntry} {D : List (Int × Int × Tok)} (h : Told V es D) : es.size = D.length := by rw [h.is.size]; simp
noncomputable def stepD (ms : List Int) (E : List (Int × Int)) (x : Int × Int) : List (Int × Int) := stepMs x.1 x.2 ms E
noncomputable def pkMiP (V : XV) (p : Params) (a : Nat → Nat) (t : Nat → Tok) (sv zv : Value) (es0 : Array DictEntry) (ep : Nat) (E : List (Int × Int)) : PostG := fun r L' _ _ _ => r = .ok .next ∧ ∃ (es : Array DictEntry) (D : List (Int × Int × Tok)) (o : (Tok × Value) × (Tok × Value)) (ct : Option Value) (e : Nat → Nat), Told V es D ∧ unT D = E ∧
  L' = [(a 1 + 305, oDic es0 ep), (a 2 + 305, oFrm (dEs p (pkF t sv (.ref (a 1 + 305)) zv (a 3) (wmO (some o)))) (e 1)), (a 3 + 305, oDic es (e 2)), (a 4 + 305, oCell ct)]
theorem pkMi_loop {V : XV} (a : Nat → Nat) (t : Nat → Tok) (sv : Value) (sz : Nat) (tz : Tok) (hsz : sz = 1 ∨ sz = 2 ∨ sz = 3 ∨ sz = 4) (es0 : Array DictEntry) (ep : Nat) (D0 : List (Int × Int × Tok)) (h0 : Told V es0 D0) : ∀ (rem pre : List (Int × Int × Tok)), D0 = pre ++ rem →
    ∀ (o : Option ((Tok × Value) × (Tok × Value))), (o.isSome = true ∨ rem ≠ []) → ∀ (k v : Value) (ct : Option Value) (es : Array DictEntry) (D : List (Int × Int × Tok)) (e : Nat → Nat) (n i g : Nat), Told V es D → D.length + 4 * rem.length ≤ 90000 →
    CallsS V 300 (pkMiC V.w.params a) (pkMiL V.w.params a t sv (.int (Int.ofNat sz) tz) o pre.length k v es0 ep es ct e) n i g (pkMiP V V.w.params a t sv (.int (Int.ofNat sz) tz) es0 ep ((unT rem).foldl (stepD (marks sz)) (unT D))) := by
  intro rem
  induction rem with
  | nil =>
    intro pre hp o ho k v ct es D e n i g hD hz
    cases o with
    | none => simp at ho
    | some o =>
      have hx : es0.size ≤ pre.length := by rw [h0.size, hp]; simp
      exact turn_end [de_r (a 0 + 305) (a 1) pre.length es0 ep .none k v n i g] 5 (unp 8 0x100041ffc1) [3, 4, 5, 6] 7 .next [(a 1 + 305, oDic es0 ep), (a 2 + 305, oFrm (dEs V.w.params (pkF t sv (.ref (a 1 + 305)) (.int (Int.ofNat sz) tz) (a 3) (wmO (some o)))) (e 1)), (a 3 + 305, oDic es (e 2)), (a 4 + 305, oCell ct)] (n + 2) i g
        (by decide) (fun A Q B => ⟨de_ok hx, trivial⟩) (fun A Q F G => by kernel_rfl) ⟨rfl, es, D, o, ct, e, hD, rfl, rfl⟩
  | cons x rem ih =>
    intro pre hp o ho k v ct es D e n i g hD hz
    obtain ⟨hh, tT, hx⟩ := h0.get (j := pre.length) (x := x) (by simp [hp])
    have hz' : D.length + 4 * rem.length + 4 ≤ 90000 := by simp at hz; omega
    refine pkMi_turn a t sv sz tz hsz o pre.length k v es0 ep hh x.1 x.2.1 tT x.2.2 es D ct e n i g _ hx hD (by omega) fun es' D' o' e' n' i' g' hD' hu => ?_
    have hl : D'.length ≤ D.length + 4 := by
      have h1 := stepMs_len x.1 x.2.1 (marks sz) (unT D)
      rw [← hu, unT_len, unT_len] at h1
      have : (marks sz).length ≤ 4 := by simp [marks]; omega
      omega
    have z := ih (pre ++ [x]) (by simp [hp]) (some o') (Or.inl rfl) (.int x.1 tT) (.int x.2.1 x.2.2) (some (.int x.1 tT)) es' D' e' n' i' g' hD' (by omega)
    have e1 : (pre ++ [x]).length = pre.length + 1 := by simp
    rw [e1, hu] at z
    exact z
noncomputable def pkOuC (p : Params) (a : Nat → Nat) : Code := loopC p 291 [1] (fnEnv p 291 qPicks (a 2) [(Str.ofString "taken", a 4 + 305)]) (a 0)
structure PkO where
  z : Tok × Value
  d : Tok × Nat
  w : Tok × Value
  m : Tok × Value
noncomputable def pkOO (o : Option PkO) : List (Str × Tok × Value) := match o with
  | none => []
  | some x => [(sSizeN, x.z.1, x.z.2), (sTold, x.d.1, .ref (x.d.2 + 305)), (sWays, x.w.1, x.w.2), (sMark, x.m.1, x.m.2)]
noncomputable def pkOuF (p : Params) (a : Nat → Nat) (t : Nat → Tok) (o : Option PkO) (e : Nat) : Obj := oFrm (dEs p ([(sSizes, t 0, .ref (a 1 + 305)), (sPicks, t 1, .ref (a 3 + 305))] ++ pkOO o)) e
noncomputable def pkOuL (p : Params) (a : Nat → Nat) (t : Nat → Tok) (o : Option PkO) (j : Nat) (y : Array Value) (es : Array DictEntry) (ct : Option Value) (e : Nat → Nat) : Led :=
  [(a 0 + 305, oIt "list_iterator" [.ref (a 1 + 305), .int (Int.ofNat j) 0]), (a 1 + 305, oSeq "list" y (e 0)), (a 2 + 305, pkOuF p a t o (e 1)), (a 3 + 305, oDic es (e 2)), (a 4 + 305, oCell ct)]
noncomputable def stepS (E : List (Int × Int)) (sz : Nat) : List (Int × Int) := E.foldl (stepD (marks sz)) E
theorem pkOu_turn {V : XV} (a0 a1 a2 a3 a4 : Nat) (t : Nat → Tok) (o : Option PkO) (j : Nat) (y : Array Value) (sz : Nat) (tz : Tok) (hsz : sz = 1 ∨ sz = 2 ∨ sz = 3 ∨ sz = 4) (es : Array DictEntry) (D : List (Int × Int × Tok)) (ct : Option Value) (e : Nat → Nat) (n i g : Nat) (P : PostG)
    (hx : y[j]? = some (.int (Int.ofNat sz) tz)) (hD : Told V es D) (hD0 : D ≠ []) (hz : 5 * D.length ≤ 90000)
    (H : ∀ (d : Nat) es' D' o' ct' e' n' i' g', Told V es' D' → unT D' = stepS (unT D) sz → CallsS V 350 (pkOuC V.w.params (lk [a0, a1, a2, d, a4])) (pkOuL V.w.params (lk [a0, a1, a2, d, a4]) t (some o') (j + 1) y es' ct' e') n' i' g' P) :
    CallsS V 350 (pkOuC V.w.params (lk [a0, a1, a2, a3, a4])) (pkOuL V.w.params (lk [a0, a1, a2, a3, a4]) t o j y es ct e) n i g P := by
  intro A Q B F G Bk
  have O : (cxR (reV V A Q) 350 [li_r (a0 + 305) (a1 + 305) j y (e 0) (.int (Int.ofNat sz) tz) n i g]).Ok := B.okR (by decide) ⟨li_ok hx, trivial⟩
  have O2 : (cxR (reV V A Q) 350 []).Ok := B.okR (by decide) trivial
  have C := dc_code (V := reV V A Q) n a3 0 es (e 2) (D.map fun x => (x.1, Value.int x.2.1 x.2.2)) (n + 1) (i + 1) g ⟨hD.is.keys, hD.is.pairs, hD.is.nodup⟩ (by simp; omega)
  cases o with
  | none =>
    refine @run_codeE (cxR (reV V A Q) 350 _) O _ 25 (unp 15 0x410c00030c000041ffc1) [0, 3] 6 0 _ _ F _ _ _ _ C (by kernel_rfl) (hid ?_)
    intro Kq hKq
    rintro r L1 n1 i1 g1 ⟨rfl, rfl, rfl, rfl, es1, e1, hD1, rfl⟩
    refine hKq _ _ _ _ _ ?_
    have hT1 : Told V es1 D := ⟨⟨hD1.keys, hD1.pairs, hD1.nodup⟩⟩
    have C2 := ((pkMi_loop (V := V) (lk [n + 1 + 1, a3, a2, n, a4]) (lk [t 0, t 1, i, i + 1]) (.ref (a1 + 305)) sz tz hsz es (e 2) D hD D [] rfl none (Or.inr hD0) .none .none ct es1 D (lk [0, e 1 + 2, e1]) (n + 1 + 2) (i + 1 + 1) g1 hT1 (by omega)).g (by kernel_rfl) (by decide)).re A Q
    intro sq
    refine @run_callG (cxR (reV V A Q) 350 []) O2 _ 39 (unp 19 0x471c10410411861861860c30c0) [0, 6, 3, 4, 3] 8 300 _ _ F _ _ _ _ C2 B (by kernel_rfl) (hid ?_)
    intro Kq hKq
    rintro r L2 n2 i2 g2 ⟨rfl, hx⟩
    refine ex5 hx ?_
    clear hx
    rintro es2 D2 o2 ct2 e2 ⟨hD2, hu, rfl⟩
    refine hKq _ _ _ _ _ ?_
    have z := H n es2 D2 ⟨(i, .int (Int.ofNat sz) tz), (i + 1, n), o2.1, o2.2⟩ ct2 (lk [e 0, e2 1, e2 2]) n2 (i2 + 1) g2 hD2 hu A Q B F G Bk
    intro sq
    exact @run_to (cxR (reV V A Q) 350 []) O2 _ 11 (unp 5 0x145005) [1, 2, 4, 5, 6] 7 [] 0 _ .base _ _ _ _ _ _ (by decide) (by kernel_rfl) z
  | some o =>
    refine @run_codeE (cxR (reV V A Q) 350 _) O _ 25 (unp 15 0x410c00030c000041ffc1) [0, 3] 6 0 _ _ F _ _ _ _ C (by kernel_rfl) (hid ?_)
    intro Kq hKq
    rintro r L1 n1 i1 g1 ⟨rfl, rfl, rfl, rfl, es1, e1, hD1, rfl⟩
    refine hKq _ _ _ _ _ ?_
    have hT1 : Told V es1 D := ⟨⟨hD1.keys, hD1.pairs, hD1.nodup⟩⟩
    have C2 := ((pkMi_loop (V := V) (lk [n + 1 + 1, a3, a2, n, a4]) (lk [t 0, t 1, o.z.1, o.d.1]) (.ref (a1 + 305)) sz tz hsz es (e 2) D hD D [] rfl (some (o.w, o.m)) (Or.inl rfl) .none .none ct es1 D (lk [0, e 1, e1]) (n + 1 + 2) (i + 1 + 1) g1 hT1 (by omega)).g (by kernel_rfl) (by decide)).re A Q
    intro sq
    refine @run_callG (cxR (reV V A Q) 350 []) O2 _ 39 (unp 19 0x471c10410411861861860c30c0) [0, 6, 3, 4, 3] 8 300 _ _ F _ _ _ _ C2 B (by kernel_rfl) (hid ?_)
    intro Kq hKq
    rintro r L2 n2 i2 g2 ⟨rfl, hx⟩
    refine ex5 hx ?_
    clear hx
    rintro es2 D2 o2 ct2 e2 ⟨hD2, hu, rfl⟩
    refine hKq _ _ _ _ _ ?_
    have z := H n es2 D2 ⟨(o.z.1, .int (Int.ofNat sz) tz), (o.d.1, n), o2.1, o2.2⟩ ct2 (lk [e 0, e2 1, e2 2]) n2 (i2 + 1) g2 hD2 hu A Q B F G Bk
    intro sq
    exact @run_to (cxR (reV V A Q) 350 []) O2 _ 11 (unp 5 0x145005) [1, 2, 4, 5, 6] 7 [] 0 _ .base _ _ _ _ _ _ (by decide) (by kernel_rfl) z
end Mine
end
section
open PySem PySem.W PySem.W.X PySem.Builtin.Str
namespace Mine
noncomputable def sCounts : Str := ⟨#[99,111,117,110,116,115]⟩
noncomputable def upd {α : Type} (c : Nat → α) (k : Nat) (v : α) (j : Nat) : α := match Nat.beq j k with
  | true => v
  | false => c j
noncomputable def pop (T : Int) : Nat := T.toNat % 2 + T.toNat / 2 % 2 + T.toNat / 4 % 2 + T.toNat / 8 % 2
noncomputable def fiC (p : Params) (a : Nat → Nat) : Code := loopC p 291 [3] (fnEnv p 291 qPicks (a 2) [(Str.ofString "taken", a 4 + 305)]) (a 0)
noncomputable def cnts (c : Nat → Int) (tc : Nat → Tok) : Array Value := #[.int (c 0) (tc 0), .int (c 1) (tc 1), .int (c 2) (tc 2), .int (c 3) (tc 3), .int (c 4) (tc 4), .int (c 5) (tc 5)]
noncomputable def fiF (a : Nat → Nat) (t : Nat → Tok) (sv zv dv wv mv : Value) : List (Str × Tok × Value) := [(sSizes, t 0, sv), (sPicks, t 1, .ref (a 1 + 305)), (sSizeN, t 2, zv), (sTold, t 3, dv), (sWays, t 4, wv), (sMark, t 5, mv), (sCounts, t 6, .ref (a 3 + 305))]
noncomputable def fiL (p : Params) (a : Nat → Nat) (t : Nat → Tok) (sv zv dv wv mv : Value) (j : Nat) (k v : Value) (es : Array DictEntry) (ep : Nat) (c : Nat → Int) (tc : Nat → Tok) (ct : Option Value) (e : Nat → Nat) : Led :=
  [(a 0 + 305, oIi .none (.ref (a 1 + 305)) j es.size ep k v), (a 1 + 305, oDic es ep), (a 2 + 305, oFrm (dEs p (fiF a t sv zv dv wv mv)) (e 1)), (a 3 + 305, oSeq "list" (cnts c tc) (e 2)), (a 4 + 305, oCell ct)]
noncomputable def fiH : List Nat := unp 203 0x4924924924524924810821820820810410420860820820410410821820820810410420860820820410410821820820810440441030c30430c40c30c308208204d0410030c40c30c308208204d0410030c40c30c308208204d0410030c40c30c308208204d0410030c40c30c30c30430cc0410410400071c70092410410810410410420410410410810410410410410420a93ff00041ffc1
theorem fi_turn {V : XV} (a : Nat → Nat) (t : Nat → Tok) (sv zv dv wv mv : Value) (j : Nat) (k v : Value) (es : Array DictEntry) (ep : Nat) (c : Nat → Int) (tc : Nat → Tok) (ct : Option Value) (h : Int) (T w : Int) (tT tw : Tok) (e : Nat → Nat) (n i g : Nat) (P : PostG)
    (hx : es[j]? = some ⟨h, .int T tT, .int w tw⟩) (hT : 0 ≤ T ∧ T ≤ 15)
    (H : ∀ tc' e' n' i' g', CallsS V 300 (fiC V.w.params a) (fiL V.w.params a t sv zv dv (.int w tw) mv (j + 1) (.int T tT) (.int w tw) es ep (upd c (pop T) (c (pop T) + w)) tc' (some (.int T tT)) e') n' i' g' P) :
    CallsS V 300 (fiC V.w.params a) (fiL V.w.params a t sv zv dv wv mv j k v es ep c tc ct e) n i g P := by
  have hc : T = 0 ∨ T = 1 ∨ T = 2 ∨ T = 3 ∨ T = 4 ∨ T = 5 ∨ T = 6 ∨ T = 7 ∨ T = 8 ∨ T = 9 ∨ T = 10 ∨ T = 11 ∨ T = 12 ∨ T = 13 ∨ T = 14 ∨ T = 15 := i16 hT
  clear hT
  have H2 := H (upd tc (pop T) (i + 26)) (lk [0, e 1, e 2]) (n + 14) (i + 27) g
  clear H
  rcases hc with rfl | rfl | rfl | rfl | rfl | rfl | rfl | rfl | rfl | rfl | rfl | rfl | rfl | rfl | rfl | rfl
  all_goals
    exact turn_at [di_r (a 0 + 305) (a 1) j es ep ⟨h, .int _ tT, .int w tw⟩ k v n i g] 411 fiH [14, 15, 16, 17, 18] 19 _ _ (n + 14) (i + 27) g
      (by decide) (fun A Q B => ⟨di_ok hx, trivial⟩) (fun A Q F G => by kernel_rfl) H2
noncomputable def cntE (c : Nat → Int) (E : List (Int × Int)) : Nat → Int := E.foldl (fun c x => upd c (pop x.1) (c (pop x.1) + x.2)) c
noncomputable def fiP (p : Params) (a : Nat → Nat) (t : Nat → Tok) (sv zv dv mv : Value) (c : Nat → Int) : PostG := fun r L' _ _ _ => r = .ok .next ∧ ∃ (wv : Value) (tc : Nat → Tok) (e : Nat → Nat),
  L' = [(a 2 + 305, oFrm (dEs p (fiF a t sv zv dv wv mv)) (e 1)), (a 3 + 305, oSeq "list" (cnts c tc) (e 2))]
theorem fi_loop {V : XV} (a : Nat → Nat) (t : Nat → Tok) (sv zv dv mv : Value) (es : Array DictEntry) (ep : Nat) (D : List (Int × Int × Tok)) (h0 : Told V es D) (hT : ∀ x ∈ D, 0 ≤ x.1 ∧ x.1 ≤ 15) : ∀ (rem pre : List (Int × Int × Tok)), D = pre ++ rem → ∀ (wv k v : Value) (c : Nat → Int) (tc : Nat → Tok) (ct : Option Value) (e : Nat → Nat) (n i g : Nat),
    CallsS V 300 (fiC V.w.params a) (fiL V.w.params a t sv zv dv wv mv pre.length k v es ep c tc ct e) n i g (fiP V.w.params a t sv zv dv mv (cntE c (unT rem))) := by
  intro rem
  induction rem with
  | nil =>
    intro pre hp wv k v c tc ct e n i g
    have hx : es.size ≤ pre.length := by rw [h0.size, hp]; simp
    exact turn_end [de_r (a 0 + 305) (a 1) pre.length es ep .none k v n i g] 5 (unp 8 0x100041ffc1) [4, 5] 7 .next [(a 2 + 305, oFrm (dEs V.w.params (fiF a t sv zv dv wv mv)) (e 1)), (a 3 + 305, oSeq "list" (cnts c tc) (e 2))] (n + 2) i g
      (by decide) (fun A Q B => ⟨de_ok hx, trivial⟩) (fun A Q F G => by kernel_rfl) ⟨rfl, wv, tc, e, rfl⟩
  | cons x rem ih =>
    intro pre hp wv k v c tc ct e n i g
    obtain ⟨hh, tT, hx⟩ := h0.get (j := pre.length) (x := x) (by simp [hp])
    refine fi_turn a t sv zv dv wv mv pre.length k v es ep c tc ct hh x.1 x.2.1 tT x.2.2 e n i g _ hx (hT x (by simp [hp])) fun tc' e' n' i' g' => ?_
    have z := ih (pre ++ [x]) (by simp [hp]) (.int x.2.1 x.2.2) (.int x.1 tT) (.int x.2.1 x.2.2) (upd c (pop x.1) (c (pop x.1) + x.2.1)) tc' (some (.int x.1 tT)) e' n' i' g'
    have e1 : (pre ++ [x]).length = pre.length + 1 := by simp
    rw [e1] at z
    exact z
theorem storeE_ne (E : List (Int × Int)) (k u : Int) : E.length ≤ (storeE E k u).length := by
  unfold storeE
  split <;> simp
theorem stepM_ne (T w : Int) (E : List (Int × Int)) (M : Int) : E.length ≤ (stepM T w E M).length := by
  unfold stepM
  split
  · exact storeE_ne _ _ _
  · omega
theorem stepMs_ne (T w : Int) (ms : List Int) : ∀ E : List (Int × Int), E.length ≤ (stepMs T w ms E).length := by
  induction ms with
  | nil => intro E; simp [stepMs]
  | cons M ms ih =>
    intro E
    have h1 := ih (stepM T w E M)
    have h2 := stepM_ne T w E M
    simp only [stepMs, List.foldl_cons] at h1 ⊢
    omega
theorem stepDs_ne (ms : List Int) : ∀ (R E : List (Int × Int)), E.length ≤ (R.foldl (stepD ms) E).length ∧ (R.foldl (stepD ms) E).length ≤ E.length + ms.length * R.length := by
  intro R
  induction R with
  | nil => intro E; simp
  | cons x R ih =>
    intro E
    have h1 := ih (stepD ms E x)
    have h2 := stepMs_ne x.1 x.2 ms E
    have h3 := stepMs_len x.1 x.2 ms E
    simp only [List.foldl_cons, stepD, List.length_cons, Nat.mul_add, Nat.mul_one] at h1 ⊢
    omega
theorem stepS_len (E : List (Int × Int)) (sz : Nat) : E.length ≤ (stepS E sz).length ∧ (stepS E sz).length ≤ 5 * E.length := by
  have h := stepDs_ne (marks sz) E E
  have : (marks sz).length ≤ 4 := by simp [marks]; omega
  have h4 : (marks sz).length * E.length ≤ 4 * E.length := Nat.mul_le_mul_right _ this
  unfold stepS
  omega
noncomputable def pkOuP (V : XV) (p : Params) (a0 a1 a2 a4 : Nat) (t : Nat → Tok) (y : Array Value) (E : List (Int × Int)) : PostG := fun r L' _ _ _ => r = .ok .next ∧ ∃ (d : Nat) (es : Array DictEntry) (D : List (Int × Int × Tok)) (o : PkO) (ct : Option Value) (e : Nat → Nat), Told V es D ∧ unT D = E ∧
  L' = [(a1 + 305, oSeq "list" y (e 0)), (a2 + 305, pkOuF p (lk [a0, a1, a2, d, a4]) t (some o) (e 1)), (d + 305, oDic es (e 2)), (a4 + 305, oCell ct)]
theorem pkOu_loop {V : XV} (a0 a1 a2 a4 : Nat) (t : Nat → Tok) (q : List (Nat × Tok)) (hq : ∀ x ∈ q, x.1 = 1 ∨ x.1 = 2 ∨ x.1 = 3 ∨ x.1 = 4) (y : Array Value) (hy : y = (q.map fun x => Value.int (Int.ofNat x.1) x.2).toArray) : ∀ (rem pre : List (Nat × Tok)), q = pre ++ rem → ∀ (a3 : Nat) (o : Option PkO), (o.isSome = true ∨ rem ≠ []) → ∀ (es : Array DictEntry) (D : List (Int × Int × Tok)) (ct : Option Value) (e : Nat → Nat) (n i g : Nat),
    Told V es D → D.length ≠ 0 → D.length * 5 ^ rem.length ≤ 90000 →
    CallsS V 350 (pkOuC V.w.params (lk [a0, a1, a2, a3, a4])) (pkOuL V.w.params (lk [a0, a1, a2, a3, a4]) t o pre.length y es ct e) n i g (pkOuP V V.w.params a0 a1 a2 a4 t y ((rem.map (·.1)).foldl stepS (unT D))) := by
  intro rem
  induction rem with
  | nil =>
    intro pre hp a3 o ho es D ct e n i g hD hD0 hz
    cases o with
    | none => simp at ho
    | some o =>
      have hx : y[pre.length]? = none := by simp [hy, hp]
      exact turn_end [le_r (a0 + 305) (a1 + 305) pre.length y (e 0) n i g] 5 (unp 8 0x100041ffc1) [3, 4, 5, 6] 7 .next [(a1 + 305, oSeq "list" y (e 0)), (a2 + 305, pkOuF V.w.params (lk [a0, a1, a2, a3, a4]) t (some o) (e 1)), (a3 + 305, oDic es (e 2)), (a4 + 305, oCell ct)] (n + 2) i g
        (by decide) (fun A Q B => ⟨le_ok hx, trivial⟩) (fun A Q F G => by kernel_rfl) ⟨rfl, a3, es, D, o, ct, e, hD, rfl, rfl⟩
  | cons x rem ih =>
    intro pre hp a3 o ho es D ct e n i g hD hD0 hz
    have hx : y[pre.length]? = some (.int (Int.ofNat x.1) x.2) := by simp [hy, hp]
    have h5 : 1 ≤ 5 ^ rem.length := Nat.one_le_pow _ _ (by decide)
    have hz2 : (5 * D.length) * 5 ^ rem.length ≤ 90000 := by
      have e5 : D.length * 5 ^ (rem.length + 1) = (5 * D.length) * 5 ^ rem.length := by
        rw [Nat.pow_succ, Nat.mul_comm (5 ^ rem.length) 5, ← Nat.mul_assoc, Nat.mul_comm D.length 5]
      rw [← e5]; exact hz
    have hz3 : 5 * D.length ≤ 90000 := Nat.le_trans (Nat.le_mul_of_pos_right _ h5) hz2
    refine pkOu_turn a0 a1 a2 a3 a4 t o pre.length y x.1 x.2 (hq x (by simp [hp])) es D ct e n i g _ hx hD (by intro h; rw [h] at hD0; exact hD0 rfl) hz3 fun d es' D' o' ct' e' n' i' g' hD' hu => ?_
    have hl := stepS_len (unT D) x.1
    rw [← hu, unT_len, unT_len] at hl
    have z := ih (pre ++ [x]) (by simp [hp]) d (some o') (Or.inl rfl) es' D' ct' e' n' i' g' hD' (by omega) (Nat.le_trans (Nat.mul_le_mul_right _ hl.2) hz2)
    have e1 : (pre ++ [x]).length = pre.length + 1 := by simp
    rw [e1, hu] at z
    exact z
noncomputable def picksF (s : List Nat) : List (Int × Int) := s.foldl stepS [(0, 1)]
theorem picks {V : XV} (l : Nat) (q : List (Nat × Tok)) (hq : ∀ x ∈ q, x.1 = 1 ∨ x.1 = 2 ∨ x.1 = 3 ∨ x.1 = 4) (hq0 : q ≠ []) (hl : q.length ≤ 5) (hT : ∀ x ∈ picksF (q.map (·.1)), 0 ≤ x.1 ∧ x.1 ≤ 15) (e n i g : Nat) :
    CallsE V 400 (.call (.ref 291) ⟨[.ref (l + 305)], []⟩) [(l + 305, oSeq "list" (q.map fun x => Value.int (Int.ofNat x.1) x.2).toArray e)] n i g (fun v L' _ _ _ => ∃ (r : Nat) (tc : Nat → Tok) (e1 e2 : Nat), v = .ref (r + 305) ∧
      L' = [(r + 305, oSeq "list" (cnts (cntE (fun _ => 0) (picksF (q.map (·.1)))) tc) e1), (l + 305, oSeq "list" (q.map fun x => Value.int (Int.ofNat x.1) x.2).toArray e2)]) := by
  intro A Q B F G Bk
  have O : (cxR (reV V A Q) 400 []).Ok := B.okR (by decide) trivial
  have hp5 : 5 ^ q.length ≤ 5 ^ 5 := Nat.pow_le_pow_right (by decide) hl
  have hD : Told V #[⟨0, .int 0 (i + 1), .int 1 (i + 2)⟩] [(0, 1, i + 2)] := by
    refine ⟨⟨?_, ?_, ?_⟩⟩
    · intro x hx
      simp at hx
      subst hx
      refine ⟨0, ?_, ?_⟩
      · exact isInt_self 0 (i + 1)
      · show (0 : Int) = hashInt 0
        decide
    · exact Pairs.cons (isInt_self 0 (i + 1)) rfl Pairs.nil
    · simp
  have C := ((pkOu_loop (V := V) (n + 3) l n (n + 1) (lk [i, i + 4]) q hq _ rfl q [] rfl (n + 2) none (Or.inr hq0) _ _ none (lk [e, 2, 1]) (n + 4) (i + 5) g hD (by simp) (by simp; omega)).g (by kernel_rfl) (by decide)).re A Q
  refine @run_callG (cxR (reV V A Q) 400 []) O _ 47 (unp 21 0x440441030c3001041041002080000) [0, 3, 2, 0, 0] 5 350 _ _ F _ _ _ _ C B (by kernel_rfl) (hid ?_)
  intro Kq hKq
  rintro r L1 n1 i1 g1 ⟨rfl, hx⟩
  refine ex6 hx ?_
  clear hx
  rintro d es D o ct e1 ⟨hD1, hu, rfl⟩
  refine hKq _ _ _ _ _ ?_
  have hu2 : unT D = picksF (q.map (·.1)) := hu
  have hT2 : ∀ x ∈ D, 0 ≤ x.1 ∧ x.1 ≤ 15 := by
    intro x hx
    have := hT (x.1, x.2.1) (by rw [← hu2]; exact List.mem_map.mpr ⟨x, hx, rfl⟩)
    exact this
  have C2 := ((fi_loop (V := V) (lk [n1 + 2, d, n, n1, n + 1]) (lk [i, i + 4, o.z.1, o.d.1, o.w.1, o.m.1, i1 + 6]) (.ref (l + 305)) o.z.2 (.ref (o.d.2 + 305)) o.m.2 es (e1 2) D hD1 hT2 D [] rfl o.w.2 .none .none (fun _ => 0) (lk [i1, i1 + 1, i1 + 2, i1 + 3, i1 + 4, i1 + 5]) ct (lk [0, e1 1 + 1, 0]) (n1 + 3) (i1 + 7) g1).g (by kernel_rfl) (by decide)).re A Q
  intro sq
  refine @run_callG (cxR (reV V A Q) 400 []) O _ 46 (unp 19 0x451410410411041041040c30c0) [0, 4, 3, 1, 2] 7 300 _ _ F _ _ _ _ C2 B (by kernel_rfl) (hid ?_)
  intro Kq hKq
  rintro r L2 n2 i2 g2 ⟨rfl, hx⟩
  refine ex3 hx ?_
  clear hx
  rintro wv tc e2 rfl
  refine hKq _ _ _ _ _ ?_
  rw [hu2]
  have BK := Bk (.ref (n1 + 305)) [(n1 + 305, oSeq "list" (cnts (cntE (fun _ => 0) (picksF (q.map (·.1)))) tc) (e2 2)), (l + 305, oSeq "list" (q.map fun x => Value.int (Int.ofNat x.1) x.2).toArray (e1 0))] n2 i2 g2 ⟨n1, tc, e2 2, e1 0, rfl, rfl⟩
  intro sq
  exact @run_end (cxR (reV V A Q) 400 []) O _ 3 (unp 2 0x3) [3, 1] 4 [] 0 .base (.ret (.ref (n1 + 305))) _ _ _ _ _ (by decide) (by kernel_rfl) BK
end Mine
end
section
open PySem PySem.W PySem.W.X PySem.Builtin.Str
namespace Mine
noncomputable def ti_r (it l : Addr) (j : Nat) (y : Array Value) (x : Value) (n i g : Nat) : Rl :=
  ⟨bi "tuple_iterator.__next__" [.ref it], [(it, oIt "tuple_iterator" [.ref l, .int (Int.ofNat j) 0]), (l, oSeq "tuple" y 0)], n + 305, i, g, x, [(it, oIt "tuple_iterator" [.ref l, .int (Int.ofNat (j + 1)) 0]), (l, oSeq "tuple" y 0)], n + 305, i, g, 0, true⟩
theorem ti_ok {V : XV} {it l : Addr} {j : Nat} {y : Array Value} {x : Value} {n i g : Nat} (hx : y[j]? = some x) : RlOk V (ti_r it l j y x n i g) := by
  intro A _ b G s S R HR
  have ho := S.led (it, _) List.mem_cons_self
  have hl := S.led (l, _) (List.mem_cons_of_mem _ List.mem_cons_self)
  refine codeAny_call_builtin F.slot_tuple_iterator_next.plain F.entry_tuple_iterator_next (F.slot_tuple_iterator_next.check _ _ _ _ _ _ _ _ (T := "tuple_iterator") ⟨_, ho, rfl⟩ (F.args_tuple_iterator_next_1 _) ?_)
  show wpAny _ _ (field (.ref it) 0 >>= _) _ _ s
  refine wpAny_bind (wpAny_field ho rfl (x := .ref l) rfl ?_)
  show wpAny _ _ (if (Value.ref l == Value.none) = true then _ else _) _ _ s
  rw [if_neg (show ¬ ((Value.ref l == Value.none) = true) from Bool.false_ne_true)]
  show wpAny _ _ (field (.ref it) 1 >>= _) _ _ s
  refine wpAny_bind (wpAny_field ho rfl (x := .int (Int.ofNat j) 0) rfl ?_)
  show wpAny _ _ (seqItems? (.ref l) >>= _) _ _ s
  refine wpAny_bind (wpAny_seqItems hl rfl ?_)
  simp only [Int.ofNat_eq_natCast, Int.toNat_natCast, hx]
  refine wpAny_bind (wpAny_setField ho rfl (by simp) (wpAny_pure ?_))
  have S2 := S.update (j := 0) (a := it) (o := oIt "tuple_iterator" [.ref l, .int (Int.ofNat j) 0]) (f := Obj.mapFields fun x => x.setIfInBounds 1 (rawInt (Int.ofNat j + 1))) rfl (by rw [set1]; rfl)
  rw [set1] at S2
  exact HR _ S2
noncomputable def te_r (it l : Addr) (j : Nat) (y : Array Value) (n i g : Nat) : Rl :=
  ⟨bi "tuple_iterator.__next__" [.ref it], [(it, oIt "tuple_iterator" [.ref l, .int (Int.ofNat j) 0]), (l, oSeq "tuple" y 0)], n + 305, i, g, .ref (n + 305 + 1), stopL n ++ [(it, oIt "tuple_iterator" [.none, .int (Int.ofNat j) 0]), (l, oSeq "tuple" y 0)], n + 305 + 2, i, g, 1, true⟩
theorem te_ok {V : XV} {it l : Addr} {j : Nat} {y : Array Value} {n i g : Nat} (hx : y[j]? = none) : RlOk V (te_r it l j y n i g) := by
  intro A hA b G s S R HR
  have hh : A.in1.handled = none := hA.2 (show (1 : Nat) ≠ 0 by decide)
  have ho := S.led (it, _) List.mem_cons_self
  have hl := S.led (l, _) (List.mem_cons_of_mem _ List.mem_cons_self)
  refine codeAny_call_builtin F.slot_tuple_iterator_next.plain F.entry_tuple_iterator_next (F.slot_tuple_iterator_next.check _ _ _ _ _ _ _ _ (T := "tuple_iterator") ⟨_, ho, rfl⟩ (F.args_tuple_iterator_next_1 _) ?_)
  show wpAny _ _ (field (.ref it) 0 >>= _) _ _ s
  refine wpAny_bind (wpAny_field ho rfl (x := .ref l) rfl ?_)
  show wpAny _ _ (if (Value.ref l == Value.none) = true then _ else _) _ _ s
  rw [if_neg (show ¬ ((Value.ref l == Value.none) = true) from Bool.false_ne_true)]
  show wpAny _ _ (field (.ref it) 1 >>= _) _ _ s
  refine wpAny_bind (wpAny_field ho rfl (x := .int (Int.ofNat j) 0) rfl ?_)
  show wpAny _ _ (seqItems? (.ref l) >>= _) _ _ s
  refine wpAny_bind (wpAny_seqItems hl rfl ?_)
  simp only [Int.ofNat_eq_natCast, Int.toNat_natCast, hx]
  refine wpAny_bind (wpAny_rule (wpAny_bind (wpAny_setField ho rfl (by simp) ?_)))
  have S2 := S.update (j := 0) (a := it) (o := oIt "tuple_iterator" [.ref l, .int (Int.ofNat j) 0]) (f := Obj.mapFields fun x => x.setIfInBounds 0 .none) rfl (by rw [set0]; rfl)
  rw [set0] at S2
  exact stop_run hh S2 fun s' S' => HR s' S'
noncomputable def iv_r (c : Code) (z : Int) (n i g : Nat) : Rl := ⟨c, [], n + 305, i, g, .int z i, [], n + 305, i + 1, g, 0, true⟩
theorem mul_ok {V : XV} {a b : Int} {t u : Tok} {n i g : Nat} (h : IntMulOk a b) : RlOk V (iv_r (bi "int.__mul__" [.int a t, .int b u]) (a * b) n i g) := by
  intro A _ l G s S R HR
  have et : s.toks = i := S.toks
  refine codeAny_call_builtin F.slot_int_mul.plain F.entry_int_mul (F.slot_int_mul.check _ _ _ _ _ _ _ _ (T := "int") (typeIs_int _ _ _) (F.args_int_mul_2 _ _) (gives_int_mul _ _ _ _ h V.prog V.w A R s ?_))
  have z := HR _ (S.tok 1)
  simp only [et] at z ⊢
  show R (.ok (.ret (.int (a * b) s.toks))) _
  rw [et]
  exact z
theorem neg_one_pow (K : Nat) : ((-1 : Int)) ^ K = if ((Int.ofNat K % 2 == 0) = true) then 1 else -1 := by
  induction K with
  | zero => rfl
  | succ K ih =>
    rw [Int.pow_succ, ih]
    have h1 : (Int.ofNat (K + 1) % 2 == 0) = !(Int.ofNat K % 2 == 0) := by
      simp only [Int.ofNat_eq_natCast]
      cases h : (((K : Nat) : Int) % 2 == 0) with
      | true =>
        have := eq_of_beq h
        have h2 : ((K + 1 : Nat) : Int) % 2 = 1 := by omega
        rw [h2]; rfl
      | false =>
        have h3 : ¬ (((K : Nat) : Int) % 2 = 0) := fun e => by rw [e] at h; exact absurd h (by decide)
        have h2 : ((K + 1 : Nat) : Int) % 2 = 0 := by omega
        rw [h2]; rfl
    rw [h1]
    cases (Int.ofNat K % 2 == 0) <;> simp
noncomputable def powFits (a : Int) (K : Nat) : Bool := !Builtin.Int.intTooBig (((Builtin.Int.intBits a : Nat) : Int) * Int.ofNat K)
theorem gives_pow (a : Int) (K : Nat) (t u : Tok) (h : powFits a K = true) : Gives (Builtin.«int.__pow__» ⟨[.int a t, .int (Int.ofNat K) u], []⟩) (.int (a ^ K)) := by
  have hK : (Int.ofNat K) ≥ 0 := Int.natCast_nonneg _
  by_cases h0 : K = 0
  · subst h0
    rw [Int.pow_zero]
    exact AutoIntG9.int___pow___int_int_0 a t 0 u (by decide) (by decide)
  · have h1 : ¬ ((Int.ofNat K == 0) = true) := by
      intro e
      have := eq_of_beq e
      simp only [Int.ofNat_eq_natCast] at this
      omega
    by_cases h2 : (a == 0 || a == 1) = true
    · have e : a ^ K = a := by
        simp only [Bool.or_eq_true, beq_iff_eq] at h2
        rcases h2 with rfl | rfl
        · exact Int.zero_pow h0
        · exact Int.one_pow
      rw [e]
      exact AutoIntG0.int___pow___int_int_1 a t _ u hK h1 h2
    · by_cases h3 : (a == -1) = true
      · have e : a ^ K = if ((Int.ofNat K % 2 == 0) = true) then 1 else -1 := by rw [eq_of_beq h3]; exact neg_one_pow K
        rw [e]
        exact AutoIntG1.int___pow___int_int_2 a t _ u hK h1 h2 h3
      · refine AutoIntG2.int___pow___int_int_4 a t (Int.ofNat K) u hK h1 h2 h3 ?_
        simpa [powFits] using h
theorem pow_ok {V : XV} {a : Int} {K : Nat} {t u : Tok} {n i g : Nat} (h : powFits a K = true) : RlOk V (iv_r (bi "int.__pow__" [.int a t, .int (Int.ofNat K) u]) (a ^ K) n i g) := by
  intro A _ l G s S R HR
  have et : s.toks = i := S.toks
  refine codeAny_call_builtin F.slot_int_pow.plain F.entry_int_pow (F.slot_int_pow.check _ _ _ _ _ _ _ _ (T := "int") (typeIs_int _ _ _) (F.args_int_pow_2 _ _) (gives_pow a K t u h V.prog V.w A R s ?_))
  have z := HR _ (S.tok 1)
  show R (.ok (.ret (.int (a ^ K) s.toks))) _
  simp only [et] at z ⊢
  exact z
noncomputable def sLead : Str := ⟨#[108,101,97,100]⟩
noncomputable def sMore : Str := ⟨#[109,111,114,101]⟩
noncomputable def sFactor : Str := ⟨#[102,97,99,116,111,114]⟩
noncomputable def sStep : Str := ⟨#[115,116,101,112]⟩
noncomputable def sRuns : Str := ⟨#[114,117,110,115]⟩
noncomputable def sRest : Str := ⟨#[114,101,115,116]⟩
noncomputable def sProduct : Str := ⟨#[112,114,111,100,117,99,116]⟩
noncomputable def sBlanks : Str := ⟨#[98,108,97,110,107,115]⟩
noncomputable def sMany : Str := ⟨#[109,97,110,121]⟩
noncomputable def sRaw : Str := ⟨#[114,97,119]⟩
noncomputable def sN : Str := ⟨#[110]⟩
noncomputable def sNt : Str := ⟨#[110,116]⟩
noncomputable def sNorm : Str := ⟨#[110,111,114,109]⟩
noncomputable def sIsS : Str := ⟨#[105,115,95,115,105,109,112,108,101]⟩
noncomputable def wsL (p : Params) (a : Nat → Nat) (t : Nat → Tok) (raw : Str) (nn nt : Int) (y : Array Value) (b : Int) (sm : Bool) (e : Nat) : Led :=
  [(a 0 + 305, ⟨.ref 83, some (a 1 + 305), .plain, #[]⟩), (a 1 + 305, oDic (dEs p [(sRaw, t 0, .str raw (t 1)), (sN, t 2, .int nn (t 3)), (sNt, t 4, .int nt (t 5)), (sNorm, t 6, .ref (a 2 + 305)), (sIsS, t 7, .bool sm)]) e),
   (a 2 + 305, oSeq "tuple" #[.ref (a 3 + 305), .int b (t 8)] 0), (a 3 + 305, oSeq "tuple" y 0)]
noncomputable def valsN (q : List (Nat × Tok)) : List Value := q.map fun x => .int (Int.ofNat x.1) x.2
noncomputable def agF (t : Nat → Tok) (cl lead runs : Nat) (m told fac stp rest prod : Int) (o : Option ((Tok × Value) × (Tok × Value))) : List (Str × Tok × Value) :=
  [(sCounts, t 0, .ref (cl + 305)), (sLead, t 1, .ref (lead + 305)), (sMore, t 2, .int m (t 3)), (sTold, t 4, .int told (t 5)), (sFactor, t 6, .int fac (t 7)), (sStep, t 8, .int stp (t 9)), (sRuns, t 10, .ref (runs + 305)), (sRest, t 11, .int rest (t 12)), (sProduct, t 13, .int prod (t 14))] ++
    (match o with | none => [] | some x => [(sBlanks, x.1.1, x.1.2), (sMany, x.2.1, x.2.2)])
noncomputable def oEn (it : Nat) (j : Nat) (v : Value) : Obj := oIt "enumerate" [.none, .bool false, .ref (it + 305), .int (Int.ofNat j) 0, .none, v]
noncomputable def agC (p : Params) (a : Nat → Nat) : Code := loopC p 298 [4] (fnEnv p 298 (Str.ofString "_law_agree.<locals>.") (a 3) []) (a 0)
noncomputable def agL (p : Params) (a : Nat → Nat) (t : Nat → Tok) (cl lead : Nat) (m told fac stp rest prod : Int) (o : Option ((Tok × Value) × (Tok × Value))) (j : Nat) (v : Value) (y : Array Value) (e : Nat → Nat) : Led :=
  [(a 0 + 305, oEn (a 1) j v), (a 1 + 305, oIt "tuple_iterator" [.ref (a 2 + 305), .int (Int.ofNat j) 0]), (a 2 + 305, oSeq "tuple" y 0), (a 3 + 305, oFrm (dEs p (agF t cl lead (a 2) m told fac stp rest prod o)) (e 0))]
noncomputable def agH : List Nat := unp 76 0x820049ffd17ff208208208008200041042041041041081041041042041041041041041104acffc41041041041030c30c30c10507ff081041
theorem ag_turn {V : XV} (a : Nat → Nat) (t : Nat → Tok) (cl lead : Nat) (m told fac stp rest prod : Int) (o : Option ((Tok × Value) × (Tok × Value))) (j : Nat) (v : Value) (y : Array Value) (K : Nat) (tK : Tok) (e : Nat → Nat) (n i g : Nat) (P : PostG)
    (hx : y[j]? = some (.int (Int.ofNat K) tK)) (hp : powFits (Int.ofNat j - 4 + m) K = true) (hm : IntMulOk prod ((Int.ofNat j - 4 + m) ^ K))
    (H : ∀ t' o' e' n' i' g', CallsS V 250 (agC V.w.params a) (agL V.w.params a t' cl lead m told fac stp rest (prod * (Int.ofNat j - 4 + m) ^ K) (some o') (j + 1) (.int (Int.ofNat K) tK) y e') n' i' g' P) :
    CallsS V 250 (agC V.w.params a) (agL V.w.params a t cl lead m told fac stp rest prod o j v y e) n i g P := by
  cases o with
  | none =>
    exact turn_at [ti_r (a 1 + 305) (a 2 + 305) j y (.int (Int.ofNat K) tK) n i g, iv_r (bi "int.__pow__" [.int (Int.ofNat j - 4 + m) (i + 5), .int (Int.ofNat K) tK]) ((Int.ofNat j - 4 + m) ^ K) (n + 4) (i + 6) g, iv_r (bi "int.__mul__" [.int prod (t 14), .int ((Int.ofNat j - 4 + m) ^ K) (i + 6)]) (prod * (Int.ofNat j - 4 + m) ^ K) (n + 4) (i + 7) g] 122 agH [6, 4, 5, 7] 8 _ _ (n + 4) (i + 9) g
      (by decide) (fun A Q B => ⟨ti_ok hx, pow_ok hp, mul_ok hm, trivial⟩) (fun A Q F G => by kernel_rfl) (H (lk [t 0, t 1, t 2, t 3, t 4, t 5, t 6, t 7, t 8, t 9, t 10, t 11, t 12, t 13, i + 7]) ((i + 1, .int (Int.ofNat j) i), (i + 2, .int (Int.ofNat K) tK)) (lk [e 0 + 2]) (n + 4) (i + 9) g)
  | some o =>
    exact turn_at [ti_r (a 1 + 305) (a 2 + 305) j y (.int (Int.ofNat K) tK) n i g, iv_r (bi "int.__pow__" [.int (Int.ofNat j - 4 + m) (i + 5), .int (Int.ofNat K) tK]) ((Int.ofNat j - 4 + m) ^ K) (n + 4) (i + 6) g, iv_r (bi "int.__mul__" [.int prod (t 14), .int ((Int.ofNat j - 4 + m) ^ K) (i + 6)]) (prod * (Int.ofNat j - 4 + m) ^ K) (n + 4) (i + 7) g] 122 agH [6, 4, 5, 7] 8 _ _ (n + 4) (i + 9) g
      (by decide) (fun A Q B => ⟨ti_ok hx, pow_ok hp, mul_ok hm, trivial⟩) (fun A Q F G => by kernel_rfl) (H (lk [t 0, t 1, t 2, t 3, t 4, t 5, t 6, t 7, t 8, t 9, t 10, t 11, t 12, t 13, i + 7]) ((o.1.1, .int (Int.ofNat j) i), (o.2.1, .int (Int.ofNat K) tK)) (lk [e 0]) (n + 4) (i + 9) g)
noncomputable def mulFits (b : Int) : Bool := Nat.ble (Builtin.Int.intBits b) 64
theorem mulFits_ok {a b : Int} (h : mulFits b = true) : IntMulOk a b := IntMulOk.of_right (Nat.le_of_ble_eq_true h)
noncomputable def prodF (m : Int) (j : Nat) (prod : Int) : List Nat → Int
  | [] => prod
  | K :: ks => prodF m (j + 1) (prod * (Int.ofNat j - 4 + m) ^ K) ks
noncomputable def okP (m : Int) (j : Nat) : List Nat → Bool
  | [] => true
  | K :: ks => powFits (Int.ofNat j - 4 + m) K && mulFits ((Int.ofNat j - 4 + m) ^ K) && okP m (j + 1) ks
noncomputable def agP (p : Params) (a : Nat → Nat) (cl lead : Nat) (m told fac stp rest prod : Int) (y : Array Value) (tt tr : Tok) : PostG := fun r L' _ _ _ => r = .ok .next ∧ ∃ (t : Nat → Tok) (o : Option ((Tok × Value) × (Tok × Value))) (e : Nat → Nat), t 5 = tt ∧ t 12 = tr ∧
  L' = [(a 2 + 305, oSeq "tuple" y 0), (a 3 + 305, oFrm (dEs p (agF t cl lead (a 2) m told fac stp rest prod o)) (e 0))]
theorem ag_loop {V : XV} (a : Nat → Nat) (cl lead : Nat) (m told fac stp rest : Int) (tt tr : Tok) (q : List (Nat × Tok)) : ∀ (rem pre : List (Nat × Tok)), q = pre ++ rem → okP m pre.length (rem.map (·.1)) = true → ∀ (t : Nat → Tok), t 5 = tt → t 12 = tr → ∀ (prod : Int) (o : Option ((Tok × Value) × (Tok × Value))) (v : Value) (e : Nat → Nat) (n i g : Nat),
    CallsS V 250 (agC V.w.params a) (agL V.w.params a t cl lead m told fac stp rest prod o pre.length v (valsN q).toArray e) n i g (agP V.w.params a cl lead m told fac stp rest (prodF m pre.length prod (rem.map (·.1))) (valsN q).toArray tt tr) := by
  intro rem
  induction rem with
  | nil =>
    intro pre hp ok t h5 h12 prod o v e n i g
    have hx : (valsN q).toArray[pre.length]? = none := by simp [valsN, hp]
    cases o with
    | none =>
      exact turn_end [te_r (a 1 + 305) (a 2 + 305) pre.length (valsN q).toArray n i g] 11 (unp 11 0x410507ff081041) [3, 5] 6 .next [(a 2 + 305, oSeq "tuple" (valsN q).toArray 0), (a 3 + 305, oFrm (dEs V.w.params (agF t cl lead (a 2) m told fac stp rest prod none)) (e 0))] (n + 2) i g
        (by decide) (fun A Q B => ⟨te_ok hx, trivial⟩) (fun A Q F G => by kernel_rfl) ⟨rfl, t, none, e, h5, h12, rfl⟩
    | some o =>
      exact turn_end [te_r (a 1 + 305) (a 2 + 305) pre.length (valsN q).toArray n i g] 11 (unp 11 0x410507ff081041) [3, 5] 6 .next [(a 2 + 305, oSeq "tuple" (valsN q).toArray 0), (a 3 + 305, oFrm (dEs V.w.params (agF t cl lead (a 2) m told fac stp rest prod (some o))) (e 0))] (n + 2) i g
        (by decide) (fun A Q B => ⟨te_ok hx, trivial⟩) (fun A Q F G => by kernel_rfl) ⟨rfl, t, some o, e, h5, h12, rfl⟩
  | cons x rem ih =>
    intro pre hp ok t h5 h12 prod o v e n i g
    have hx : (valsN q).toArray[pre.length]? = some (.int (Int.ofNat x.1) x.2) := by simp [valsN, hp]
    simp only [List.map_cons, okP, Bool.and_eq_true] at ok
    have e1 : (pre ++ [x]).length = pre.length + 1 := by simp
    have hz := fun (t' : Nat → Tok) (h5 : t' 5 = tt) (h12 : t' 12 = tr) o' e' n' i' g' => ih (pre ++ [x]) (by simp [hp]) (by rw [e1]; exact ok.2) t' h5 h12 (prod * (Int.ofNat pre.length - 4 + m) ^ x.1) o' (.int (Int.ofNat x.1) x.2) e' n' i' g'
    rw [e1] at hz
    cases o with
    | none =>
      exact turn_at [ti_r (a 1 + 305) (a 2 + 305) pre.length (valsN q).toArray (.int (Int.ofNat x.1) x.2) n i g, iv_r (bi "int.__pow__" [.int (Int.ofNat pre.length - 4 + m) (i + 5), .int (Int.ofNat x.1) x.2]) ((Int.ofNat pre.length - 4 + m) ^ x.1) (n + 4) (i + 6) g, iv_r (bi "int.__mul__" [.int prod (t 14), .int ((Int.ofNat pre.length - 4 + m) ^ x.1) (i + 6)]) (prod * (Int.ofNat pre.length - 4 + m) ^ x.1) (n + 4) (i + 7) g] 122 agH [6, 4, 5, 7] 8 _ _ (n + 4) (i + 9) g
        (by decide) (fun A Q B => ⟨ti_ok hx, pow_ok ok.1.1, mul_ok (mulFits_ok ok.1.2), trivial⟩) (fun A Q F G => by kernel_rfl) (hz (lk [t 0, t 1, t 2, t 3, t 4, t 5, t 6, t 7, t 8, t 9, t 10, t 11, t 12, t 13, i + 7]) h5 h12 (some ((i + 1, .int (Int.ofNat pre.length) i), (i + 2, .int (Int.ofNat x.1) x.2))) (lk [e 0 + 2]) (n + 4) (i + 9) g)
    | some o =>
      exact turn_at [ti_r (a 1 + 305) (a 2 + 305) pre.length (valsN q).toArray (.int (Int.ofNat x.1) x.2) n i g, iv_r (bi "int.__pow__" [.int (Int.ofNat pre.length - 4 + m) (i + 5), .int (Int.ofNat x.1) x.2]) ((Int.ofNat pre.length - 4 + m) ^ x.1) (n + 4) (i + 6) g, iv_r (bi "int.__mul__" [.int prod (t 14), .int ((Int.ofNat pre.length - 4 + m) ^ x.1) (i + 6)]) (prod * (Int.ofNat pre.length - 4 + m) ^ x.1) (n + 4) (i + 7) g] 122 agH [6, 4, 5, 7] 8 _ _ (n + 4) (i + 9) g
        (by decide) (fun A Q B => ⟨ti_ok hx, pow_ok ok.1.1, mul_ok (mulFits_ok ok.1.2), trivial⟩) (fun A Q F G => by kernel_rfl) (hz (lk [t 0, t 1, t 2, t 3, t 4, t 5, t 6, t 7, t 8, t 9, t 10, t 11, t 12, t 13, i + 7]) h5 h12 (some ((o.1.1, .int (Int.ofNat pre.length) i), (o.2.1, .int (Int.ofNat x.1) x.2))) (lk [e 0]) (n + 4) (i + 9) g)
noncomputable def fal (m : Int) : Nat → Int
  | 0 => 1
  | k + 1 => fal m k * (m - Int.ofNat k)
noncomputable def toldF (c : Nat → Int) (m : Int) : Int := 0 + c 5 * fal m 0 + c 4 * fal m 1 + c 3 * fal m 2 + c 2 * fal m 3 + c 1 * fal m 4 + c 0 * fal m 5
noncomputable def agH0 : List Nat := unp 332 0x104104104104105105144c00030c00c30030c00104138104104104e04104104138104104134134d34c00b2c00002c00002c90410410411c70071c71c70157ff1c82082081c71c71c00410410410410471c01c71c71c051ffc72082082071c71c70010410410410411c70071c71c70137ff1c82082081c71c71c00410410410410471c01c71c71c049ffc72082082071c71c70010410410410411c70071c71c70117ff1c82082081c71c71c00410410410410471c01c71c71c041ffc72082082071c71c7001041041041041041041041041041041000145005140041042041041041081041041042041041041041041001040041001040000
noncomputable def agRules (c : Nat → Int) (tc : Nat → Tok) (m : Int) (n i g : Nat) : List Rl :=
  [iv_r (bi "int.__mul__" [.int (c 5) (tc 5), .int (fal m 0) (i + 4)]) (c 5 * fal m 0) (n + 7) (i + 14) g, iv_r (bi "int.__mul__" [.int (c 4) (tc 4), .int (fal m 1) (i + 18)]) (c 4 * fal m 1) (n + 7) (i + 24) g, iv_r (bi "int.__mul__" [.int (c 3) (tc 3), .int (fal m 2) (i + 28)]) (c 3 * fal m 2) (n + 7) (i + 34) g,
   iv_r (bi "int.__mul__" [.int (c 2) (tc 2), .int (fal m 3) (i + 38)]) (c 2 * fal m 3) (n + 7) (i + 44) g, iv_r (bi "int.__mul__" [.int (c 1) (tc 1), .int (fal m 4) (i + 48)]) (c 1 * fal m 4) (n + 7) (i + 54) g, iv_r (bi "int.__mul__" [.int (c 0) (tc 0), .int (fal m 5) (i + 58)]) (c 0 * fal m 5) (n + 7) (i + 64) g]
theorem agree {V : XV} (l : Nat) (c : Nat → Int) (tc : Nat → Tok) (a : Nat → Nat) (t : Nat → Tok) (raw : Str) (nn nt : Int) (q : List (Nat × Tok)) (sm : Bool) (ew : Nat) (m : Int) (tm : Tok) (hm : m = 0 ∨ m = 1 ∨ m = 2 ∨ m = 3 ∨ m = 4 ∨ m = 5) (ok : okP m 0 (q.map (·.1)) = true) (r : Bool) (hr : (toldF c m == prodF m 0 1 (q.map (·.1))) = r) (e n i g : Nat) :
    CallsE V 300 (.call (.ref 298) ⟨[.ref (l + 305), .ref (a 0 + 305), .int m tm], []⟩) ((l + 305, oSeq "list" (cnts c tc) e) :: wsL V.w.params a t raw nn nt (valsN q).toArray 0 sm ew) n i g (fun v L' _ _ _ => v = .bool r ∧
      L' = (l + 305, oSeq "list" (cnts c tc) e) :: wsL V.w.params a t raw nn nt (valsN q).toArray 0 sm ew) := by
  intro A Q B F G Bk
  have C := ((ag_loop (V := V) (lk [n + 13, n + 12, a 3, n]) l (a 0) m (toldF c m) (fal m 6) 5 0 (i + 65) (t 8) q q [] rfl ok (lk [i, i + 1, i + 2, tm, i + 5, i + 65, i + 6, i + 68, i + 11, i + 60, i + 71, i + 72, t 8, i + 74, i + 73]) rfl rfl 1 none .none (lk [9]) (n + 14) (i + 75) g).g (by kernel_rfl) (by decide)).re A Q
  have O : (cxR (reV V A Q) 300 (agRules c tc m n i g)).Ok := B.okR (by decide) (by
    rcases hm with rfl | rfl | rfl | rfl | rfl | rfl <;> exact ⟨mul_ok (mulFits_ok (by decide)), mul_ok (mulFits_ok (by decide)), mul_ok (mulFits_ok (by decide)), mul_ok (mulFits_ok (by decide)), mul_ok (mulFits_ok (by decide)), mul_ok (mulFits_ok (by decide)), trivial⟩)
  rcases hm with rfl | rfl | rfl | rfl | rfl | rfl
  all_goals
    refine @run_callG (cxR (reV V A Q) 300 _) O _ 758 agH0 [0, 0, 16, 11] 19 250 _ _ F _ _ _ _ C B (by kernel_rfl) (hid ?_)
    intro Kq hKq
    rintro rr L2 n2 i2 g2 ⟨rfl, hx⟩
    refine ex3 hx ?_
    clear hx
    rintro t2 o2 e2 ⟨h5, h12, rfl⟩
    refine hKq _ _ _ _ _ ?_
    have BK := Bk (.bool r) ((l + 305, oSeq "list" (cnts c tc) e) :: wsL V.w.params a t raw nn nt (valsN q).toArray 0 sm ew) n2 (i2 + 1) g2 ⟨rfl, rfl⟩
    have O2 : (cxR (reV V A Q) 300 [pv_r (bi "int.__eq__" [.int 0 (t2 12), .int 0 i2]) (.bool true) n2 (i2 + 1) g2, pv_r (bi "int.__eq__" [.int (toldF c _) (t2 5), .int (prodF _ 0 1 (q.map (·.1))) (t2 14)]) (.bool r) n2 (i2 + 1) g2]).Ok := B.okR (by decide) ⟨eq_ok (by decide), eq_ok hr, trivial⟩
    cases o2 with
    | none =>
        intro sq
        exact @run_end (cxR (reV V A Q) 300 _) O2 _ 15 (unp 12 0x117ff0514507ff051) [11, 12, 13, 14, 15] 17 [] 0 .base (.ret (.bool r)) _ _ _ _ _ (by decide) (by kernel_rfl) BK
    | some o2 =>
        intro sq
        exact @run_end (cxR (reV V A Q) 300 _) O2 _ 15 (unp 12 0x117ff0514507ff051) [11, 12, 13, 14, 15] 17 [] 0 .base (.ret (.bool r)) _ _ _ _ _ (by decide) (by kernel_rfl) BK
end Mine
end
section
open PySem PySem.W PySem.W.X PySem.Builtin.Str
namespace Mine
noncomputable def si_r (x : Str) (t : Tok) (n i g : Nat) : Rl := ⟨bi "str.__iter__" [.str x t], [], n + 305, i, g, .ref (n + 305), [(n + 305, oIt "str_ascii_iterator" [.str x t, .int (Int.ofNat 0) 0])], n + 305 + 1, i, g, 0, true⟩
theorem si_ok {V : XV} {x : Str} {t : Tok} {n i g : Nat} (h : x.cps.all (· < 128) = true) : RlOk V (si_r x t n i g) := by
  intro A _ b G s S R HR
  have ez : s.heap.objs.size = n + 305 := S.size
  refine codeAny_call_builtin F.slot_str_iter.plain F.entry_str_iter (F.slot_str_iter.check _ _ _ _ _ _ _ _ (T := "str") (typeIs_str _ _ _) (F.args_str_iter_1 _) ?_)
  show wpAny _ _ (do ret (← newFields (if (true && x.cps.all (· < 128)) = true then "str_ascii_iterator" else "str_iterator") [.str x t, rawInt 0])) _ _ s
  rw [h]
  have S2 := S.alloc (o := oIt "str_ascii_iterator" [.str x t, .int (Int.ofNat 0) 0]) rfl
  refine wpAny_bind (wpAny_newObj_type (wpAny_pure ?_))
  rw [ez]
  exact HR _ S2
noncomputable def sSelf : Str := ⟨#[115,101,108,102]⟩
noncomputable def sWs : Str := ⟨#[119,115]⟩
noncomputable def sTT : Str := ⟨#[84]⟩
noncomputable def sSS : Str := ⟨#[83]⟩
noncomputable def sCount : Str := ⟨#[99,111,117,110,116]⟩
noncomputable def sB : Str := ⟨#[98]⟩
noncomputable def sCh : Str := ⟨#[99,104]⟩
example : sCount = Str.ofString "count" ∧ sCh = Str.ofString "ch" ∧ sB = Str.ofString "b" := by decide +kernel
noncomputable def qL (c : Nat → Nat) (t : Nat → Tok) : Nat → List (Nat × Tok)
  | 0 => []
  | k + 1 => qL c t k ++ [(c k, t k)]
noncomputable def tab : Str := ⟨#[9]⟩
noncomputable def blank : Str := ⟨#[32]⟩
noncomputable def wsC (p : Params) (a : Nat → Nat) : Code := loopC p 38 [4] (fnEnv p 38 (Str.ofString "Whitespace.__init__.<locals>.") (a 1) []) (a 0)
noncomputable def wsF (a : Nat → Nat) (t : Nat → Tok) (raw : Str) (b n nt : Int) (o : Option (Tok × Value)) : List (Str × Tok × Value) :=
  [(sSelf, t 0, .ref (a 2 + 305)), (sWs, t 1, .str raw (t 2)), (sTT, t 3, .str tab 210), (sSS, t 4, .str blank 209), (sCount, t 5, .ref (a 4 + 305)), (sB, t 6, .int b (t 7)), (sN, t 8, .int n (t 9)), (sNt, t 10, .int nt (t 11))] ++ dO sCh o
noncomputable def wsI (p : Params) (a : Nat → Nat) (t : Nat → Tok) (raw : Str) (b n nt : Int) (o : Option (Tok × Value)) (L : Nat) (c : Nat → Nat) (tc : Nat → Tok) (e : Nat → Nat) : Led :=
  [(a 1 + 305, oFrm (dEs p (wsF a t raw b n nt o)) (e 0)), (a 2 + 305, ⟨.ref 83, some (a 3 + 305), .plain, #[]⟩), (a 3 + 305, oDic (dEs p [(sRaw, t 12, .str raw (t 2))]) (e 1)), (a 4 + 305, oSeq "list" (valsN (qL c tc L)).toArray (e 2))]
noncomputable def wsIn (p : Params) (a : Nat → Nat) (t : Nat → Tok) (raw : Str) (j : Nat) (b n nt : Int) (o : Option (Tok × Value)) (L : Nat) (c : Nat → Nat) (tc : Nat → Tok) (e : Nat → Nat) : Led :=
  (a 0 + 305, oIt "str_ascii_iterator" [.str raw (t 2), .int (Int.ofNat j) 0]) :: wsI p a t raw b n nt o L c tc e
theorem ws_blank {V : XV} (a : Nat → Nat) (t : Nat → Tok) (raw : Str) (j : Nat) (b : Nat) (nn nt : Int) (o : Option (Tok × Value)) (L : Nat) (c : Nat → Nat) (tc : Nat → Tok) (e : Nat → Nat) (n i g : Nat) (P : PostG) (hx : raw.cps[j]? = some 32)
    (H : ∀ t' o' e' i' nn', t' 2 = t 2 → t' 12 = t 12 → CallsS V 250 (wsC V.w.params a) (wsIn V.w.params a t' raw (j + 1) (Int.ofNat (b + 1)) nn' nt (some o') L c tc e') n i' g P) :
    CallsS V 250 (wsC V.w.params a) (wsIn V.w.params a t raw j (Int.ofNat b) nn nt o L c tc e) n i g P := by
  cases o with
  | none =>
    exact turn_at [sa_r (a 0 + 305) raw (t 2) j 32 n i g] 53 (unp 20 0x208008208008108208200041ffc1) [0, 1, 2, 3, 4] 5 _ _ n (i + 8) g
      (by decide) (fun A Q B => ⟨sa_ok hx, trivial⟩) (fun A Q F G => by kernel_rfl) (H (lk [t 0, t 1, t 2, t 3, t 4, t 5, t 6, i + 6, t 8, i + 3, t 10, t 11, t 12]) (i + 1, .str blank i) (lk [e 0 + 1, e 1, e 2]) (i + 8) (nn + 1) rfl rfl)
  | some o =>
    exact turn_at [sa_r (a 0 + 305) raw (t 2) j 32 n i g] 53 (unp 20 0x208008208008108208200041ffc1) [0, 1, 2, 3, 4] 5 _ _ n (i + 8) g
      (by decide) (fun A Q B => ⟨sa_ok hx, trivial⟩) (fun A Q F G => by kernel_rfl) (H (lk [t 0, t 1, t 2, t 3, t 4, t 5, t 6, i + 6, t 8, i + 3, t 10, t 11, t 12]) (o.1, .str blank i) (lk [e 0, e 1, e 2]) (i + 8) (nn + 1) rfl rfl)
noncomputable def cNew (c : Nat → Nat) (L b j : Nat) : Nat := match Nat.beq j b with
  | true => 1
  | false => match Nat.blt j L with
    | true => c j
    | false => 0
noncomputable def tNew (tc : Nat → Tok) (L b i j : Nat) : Tok := match Nat.beq j b with
  | true => i + 18
  | false => match Nat.blt j L with
    | true => tc j
    | false => i + 10
theorem ws_new {V : XV} (a : Nat → Nat) (t : Nat → Tok) (raw : Str) (j : Nat) (b : Nat) (nn nt : Int) (o : Tok × Value) (L : Nat) (c : Nat → Nat) (tc : Nat → Tok) (e : Nat → Nat) (n i g : Nat) (P : PostG) (hx : raw.cps[j]? = some 9)
    (hb : (L, b) ∈ [(0, 4), (0, 5), (0, 6), (0, 7), (0, 8), (5, 5), (5, 6), (5, 7), (5, 8), (6, 6), (6, 7), (6, 8), (7, 7), (7, 8), (8, 8)])
    (H : ∀ t' o' e' i' nn' nt' tc', t' 2 = t 2 → t' 12 = t 12 → CallsS V 250 (wsC V.w.params a) (wsIn V.w.params (lk [a 0, a 1, a 2, a 3, n + 2]) t' raw (j + 1) (Int.ofNat 0) nn' nt' (some o') (b + 1) (cNew c L b) tc' e') (n + 3) i' g P) :
    CallsS V 250 (wsC V.w.params a) (wsIn V.w.params a t raw j (Int.ofNat b) nn nt (some o) L c tc e) n i g P := by
  have H2 := H (lk [t 0, t 1, t 2, t 3, t 4, t 5, t 6, i + 19, t 8, i + 3, t 10, i + 6, t 12]) (o.1, .str tab i) (lk [e 0, e 1, 0]) (i + 21) (nn + 1) (nt + 1) (tNew tc L b i) rfl rfl
  clear H
  simp only [List.mem_cons, List.not_mem_nil, or_false, Prod.mk.injEq] at hb
  rcases hb with ⟨rfl, rfl⟩ | ⟨rfl, rfl⟩ | ⟨rfl, rfl⟩ | ⟨rfl, rfl⟩ | ⟨rfl, rfl⟩ | ⟨rfl, rfl⟩ | ⟨rfl, rfl⟩ | ⟨rfl, rfl⟩ | ⟨rfl, rfl⟩ | ⟨rfl, rfl⟩ | ⟨rfl, rfl⟩ | ⟨rfl, rfl⟩ | ⟨rfl, rfl⟩ | ⟨rfl, rfl⟩ | ⟨rfl, rfl⟩
  all_goals
    exact turn_at [sa_r (a 0 + 305) raw (t 2) j 9 n i g] 207 (unp 72 0x51400410410411450410410451451400470471c11c10410411861830000c204514508000208200208200204208108208200041ffc1) [3, 4, 5, 6, 0] 8 _ _ (n + 3) (i + 21) g
      (by decide) (fun A Q B => ⟨sa_ok hx, trivial⟩) (fun A Q F G => by kernel_rfl) H2
theorem ws_old {V : XV} (a : Nat → Nat) (t : Nat → Tok) (raw : Str) (j : Nat) (b : Nat) (nn nt : Int) (o : Tok × Value) (L : Nat) (c : Nat → Nat) (tc : Nat → Tok) (e : Nat → Nat) (n i g : Nat) (P : PostG) (hx : raw.cps[j]? = some 9)
    (hL : L = 5 ∨ L = 6 ∨ L = 7 ∨ L = 8 ∨ L = 9) (hb : b < L)
    (H : ∀ t' o' e' i' nn' nt' tc', t' 2 = t 2 → t' 12 = t 12 → CallsS V 250 (wsC V.w.params a) (wsIn V.w.params a t' raw (j + 1) (Int.ofNat 0) nn' nt' (some o') L (upd c b (c b + 1)) tc' e') n i' g P) :
    CallsS V 250 (wsC V.w.params a) (wsIn V.w.params a t raw j (Int.ofNat b) nn nt (some o) L c tc e) n i g P := by
  have H2 := H (lk [t 0, t 1, t 2, t 3, t 4, t 5, t 6, i + 12, t 8, i + 3, t 10, i + 6, t 12]) (o.1, .str tab i) (lk [e 0, e 1, e 2]) (i + 14) (nn + 1) (nt + 1) (upd tc b (i + 11)) rfl rfl
  clear H
  have hc : b = 0 ∨ b = 1 ∨ b = 2 ∨ b = 3 ∨ b = 4 ∨ b = 5 ∨ b = 6 ∨ b = 7 ∨ b = 8 := lt9 (by rcases hL with rfl | rfl | rfl | rfl | rfl <;> exact Nat.lt_of_lt_of_le hb (by decide))
  rcases hL with rfl | rfl | rfl | rfl | rfl <;> rcases hc with rfl | rfl | rfl | rfl | rfl | rfl | rfl | rfl | rfl
  all_goals first
    | exact absurd hb (by decide)
    | exact turn_at [sa_r (a 0 + 305) raw (t 2) j 9 n i g] 133 (unp 49 0x8200514514514208514514508204514508000208200208200204208108208200041ffc1) [0, 1, 2, 3, 4] 5 _ _ n (i + 14) g
        (by decide) (fun A Q B => ⟨sa_ok hx, trivial⟩) (fun A Q F G => by kernel_rfl) H2
end Mine
end
section
open PySem PySem.W PySem.W.X PySem.Builtin.Str
namespace Mine
structure WS where
  L : Nat
  c : Nat → Nat
  b : Nat
noncomputable def newB (L b : Nat) : Bool := ([(0, 4), (0, 5), (0, 6), (0, 7), (0, 8), (5, 5), (5, 6), (5, 7), (5, 8), (6, 6), (6, 7), (6, 8), (7, 7), (7, 8), (8, 8)] : List (Nat × Nat)).any fun x => Nat.beq x.1 L && Nat.beq x.2 b
noncomputable def wsStep (s : WS) (ch : Nat) : WS := match Nat.beq ch 32 with
  | true => ⟨s.L, s.c, s.b + 1⟩
  | false => match Nat.blt s.b s.L with
    | true => ⟨s.L, upd s.c s.b (s.c s.b + 1), 0⟩
    | false => ⟨s.b + 1, cNew s.c s.L s.b, 0⟩
noncomputable def okLen (L : Nat) : Bool := Nat.ble 5 L && Nat.ble L 9
noncomputable def wsOk : List Nat → WS → Bool
  | [], s => okLen s.L
  | ch :: cs, s => (match Nat.beq ch 32 with
    | true => true
    | false => Nat.beq ch 9 && (match Nat.blt s.b s.L with
      | true => okLen s.L
      | false => newB s.L s.b)) && wsOk cs (wsStep s ch)
noncomputable def wsRun (cs : List Nat) (s : WS) : WS := cs.foldl wsStep s
noncomputable def wsP (p : Params) (a : Nat → Nat) (raw : Str) (s : WS) (t2 t12 : Tok) : PostG := fun r L' _ _ _ => r = .ok .next ∧ ∃ (a4 : Nat) (t : Nat → Tok) (nn nt : Int) (o : Tok × Value) (tc : Nat → Tok) (e : Nat → Nat), t 2 = t2 ∧ t 12 = t12 ∧
  L' = wsI p (lk [a 0, a 1, a 2, a 3, a4]) t raw (Int.ofNat s.b) nn nt (some o) s.L s.c tc e
theorem ws_loop {V : XV} (a0 a1 a2 a3 : Nat) (raw : Str) (t2 t12 : Tok) : ∀ (rem pre : List Nat), raw = ⟨(pre ++ rem).toArray⟩ → ∀ (a4 : Nat) (s : WS), wsOk rem s = true → ∀ (t : Nat → Tok) (nn nt : Int) (o : Option (Tok × Value)), (o.isSome = true ∨ ∃ cs, rem = 32 :: cs) → t 2 = t2 → t 12 = t12 → ∀ (tc : Nat → Tok) (e : Nat → Nat) (n i g : Nat),
    CallsS V 250 (wsC V.w.params (lk [a0, a1, a2, a3, a4])) (wsIn V.w.params (lk [a0, a1, a2, a3, a4]) t raw pre.length (Int.ofNat s.b) nn nt o s.L s.c tc e) n i g (wsP V.w.params (lk [a0, a1, a2, a3]) raw (wsRun rem s) t2 t12) := by
  intro rem
  induction rem with
  | nil =>
    intro pre hp a4 s hok t nn nt o ho h2 h12 tc e n i g
    cases o with
    | none =>
      exfalso
      rcases ho with h | ⟨cs, h⟩
      · cases h
      · cases h
    | some o =>
      have hx : raw.cps[pre.length]? = none := by rw [hp]; simp
      exact turn_end [se_r (a0 + 305) raw (t 2) pre.length n i g] 5 (unp 7 0x4041ffc1) [3, 4, 5, 6] 7 .next (wsI V.w.params (lk [a0, a1, a2, a3, a4]) t raw (Int.ofNat s.b) nn nt (some o) s.L s.c tc e) (n + 2) i g
        (by decide) (fun A Q B => ⟨se_ok hx, trivial⟩) (fun A Q F G => by kernel_rfl) ⟨rfl, a4, t, nn, nt, o, tc, e, h2, h12, rfl⟩
  | cons ch rem ih =>
    intro pre hp a4 s hok t nn nt o ho h2 h12 tc e n i g
    have hx : raw.cps[pre.length]? = some ch := by rw [hp]; simp
    have hp2 : raw = ⟨((pre ++ [ch]) ++ rem).toArray⟩ := by rw [hp]; simp
    have e1 : (pre ++ [ch]).length = pre.length + 1 := by simp
    have hz := fun a4 s' hs' (t : Nat → Tok) nn nt o (h2 : t 2 = t2) (h12 : t 12 = t12) tc e n i => ih (pre ++ [ch]) hp2 a4 s' hs' t nn nt (some o) (Or.inl rfl) h2 h12 tc e n i g
    rw [e1] at hz
    unfold wsOk at hok
    rw [Bool.and_eq_true] at hok
    obtain ⟨h1, hok⟩ := hok
    have er : wsRun (ch :: rem) s = wsRun rem (wsStep s ch) := rfl
    rw [er]
    cases hb : Nat.beq ch 32 with
    | true =>
      have hch : ch = 32 := Nat.eq_of_beq_eq_true hb
      subst hch
      have es : wsStep s 32 = ⟨s.L, s.c, s.b + 1⟩ := rfl
      rw [es] at hok ⊢
      exact ws_blank (V := V) _ t raw pre.length s.b nn nt o s.L s.c tc e n i g _ hx fun t' o' e' i' nn' q2 q12 => hz a4 _ hok t' nn' nt o' (q2.trans h2) (q12.trans h12) tc e' n i'
    | false =>
      rw [hb] at h1
      simp only [Bool.and_eq_true] at h1
      have hch : ch = 9 := Nat.eq_of_beq_eq_true h1.1
      subst hch
      cases o with
      | none =>
        exfalso
        rcases ho with h | ⟨cs, h⟩
        · cases h
        · cases h
      | some o =>
        cases hl : Nat.blt s.b s.L with
        | true =>
          have es : wsStep s 9 = ⟨s.L, upd s.c s.b (s.c s.b + 1), 0⟩ := by unfold wsStep; rw [hb, hl]
          rw [es] at hok ⊢
          rw [hl] at h1
          have h5 := h1.2
          simp only [okLen, Bool.and_eq_true] at h5
          have h6 := Nat.le_of_ble_eq_true h5.1
          have h7 := Nat.le_of_ble_eq_true h5.2
          have hbl : s.b < s.L := by simpa [Nat.blt_eq] using hl
          exact ws_old (V := V) _ t raw pre.length s.b nn nt o s.L s.c tc e n i g _ hx (r59 (by omega) (by omega)) hbl fun t' o' e' i' nn' nt' tc' q2 q12 => hz a4 _ hok t' nn' nt' o' (q2.trans h2) (q12.trans h12) tc' e' n i'
        | false =>
          have es : wsStep s 9 = ⟨s.b + 1, cNew s.c s.L s.b, 0⟩ := by unfold wsStep; rw [hb, hl]
          rw [es] at hok ⊢
          rw [hl] at h1
          have hm : (s.L, s.b) ∈ ([(0, 4), (0, 5), (0, 6), (0, 7), (0, 8), (5, 5), (5, 6), (5, 7), (5, 8), (6, 6), (6, 7), (6, 8), (7, 7), (7, 8), (8, 8)] : List (Nat × Nat)) := by
            have h2 := h1.2
            simp only [newB, List.any_eq_true, Bool.and_eq_true] at h2
            obtain ⟨x, hx, ha, hb⟩ := h2
            have ea := Nat.eq_of_beq_eq_true ha
            have eb := Nat.eq_of_beq_eq_true hb
            rw [← ea, ← eb]
            exact hx
          exact ws_new (V := V) _ t raw pre.length s.b nn nt o s.L s.c tc e n i g _ hx hm fun t' o' e' i' nn' nt' tc' q2 q12 => hz (n + 2) _ hok t' nn' nt' o' (q2.trans h2) (q12.trans h12) tc' e' (n + 3) i'
theorem wsOk_len : ∀ (cs : List Nat) (s : WS), wsOk cs s = true → okLen (wsRun cs s).L = true := by
  intro cs
  induction cs with
  | nil => intro s h; exact h
  | cons ch cs ih =>
    intro s h
    unfold wsOk at h
    rw [Bool.and_eq_true] at h
    exact ih _ h.2
theorem ws_new_obj {V : XV} (cs : List Nat) (tr : Tok) (hasc : (cs.all fun c => Nat.blt c 128) = true) (h0 : ∃ cs', cs = 32 :: cs') (hok : wsOk cs ⟨0, fun _ => 0, 0⟩ = true) (n i g : Nat) :
    CallsE V 300 (.call (.ref 83) ⟨[.str ⟨cs.toArray⟩ tr], []⟩) [] n i g (fun v L' _ _ _ => ∃ (a : Nat → Nat) (t : Nat → Tok) (nn nt : Int) (tc : Nat → Tok) (e : Nat), v = .ref (a 0 + 305) ∧
      L' = wsL V.w.params a t ⟨cs.toArray⟩ nn nt (valsN (qL (wsRun cs ⟨0, fun _ => 0, 0⟩).c tc (wsRun cs ⟨0, fun _ => 0, 0⟩).L)).toArray (Int.ofNat (wsRun cs ⟨0, fun _ => 0, 0⟩).b) false e) := by
  intro A Q B F G Bk
  have hall : (⟨cs.toArray⟩ : Str).cps.all (· < 128) = true := by
    rw [List.all_eq_true] at hasc
    simp only [List.all_toArray, List.all_eq_true, decide_eq_true_eq]
    intro x hx
    have := hasc x hx
    simpa [Nat.blt_eq] using this
  have O : (cxR (reV V A Q) 300 [si_r ⟨cs.toArray⟩ tr (n + 8) (i + 14) g]).Ok := B.okR (by decide) ⟨si_ok hall, trivial⟩
  have O2 : (cxR (reV V A Q) 300 []).Ok := B.okR (by decide) trivial
  have C := ((ws_loop (V := V) (n + 8) (n + 2) (n + 1) n ⟨cs.toArray⟩ tr (i + 3) cs [] rfl (n + 7) ⟨0, fun _ => 0, 0⟩ hok (lk [i, i + 1, tr, i + 6, i + 7, i + 8, i + 10, i + 9, i + 11, i + 9, i + 12, i + 9, i + 3]) 0 0 none (Or.inr h0) rfl rfl (fun _ => 0) (lk [8, 1, 0]) (n + 9) (i + 14) g).g (by kernel_rfl) (by decide)).re A Q
  refine @run_callG (cxR (reV V A Q) 300 _) O _ 230 (unp 143 0x507ff0480071c00001c00001c61860061801860061801450051400410420410410410810410410420410410410410410000000000000000000000000c30c0002000002002002000002041001040041000000000001001000000000000000000000000000000000000000) [0, 5, 5, 5, 0] 9 250 _ _ F _ _ _ _ C B (by kernel_rfl) (hid ?_)
  intro Kq hKq
  rintro r L1 n1 i1 g1 ⟨rfl, hx⟩
  refine ex7 hx ?_
  clear hx
  rintro a4 t nn nt o tc e ⟨h2, h12, rfl⟩
  refine hKq _ _ _ _ _ ?_
  have hL := wsOk_len cs _ hok
  simp only [okLen, Bool.and_eq_true] at hL
  have h6 := Nat.le_of_ble_eq_true hL.1
  have h7 := Nat.le_of_ble_eq_true hL.2
  generalize wsRun cs ⟨0, fun _ => 0, 0⟩ = s at Bk h6 h7 ⊢
  obtain ⟨L, c, b⟩ := s
  simp only at h6 h7 Bk ⊢
  have hLc : L = 5 ∨ L = 6 ∨ L = 7 ∨ L = 8 ∨ L = 9 := r59 (by omega) (by omega)
  have BK := Bk (.ref (n + 1 + 305)) (wsL V.w.params (lk [n + 1, n, n1 + 2, n1 + 1]) (lk [t 12, t 2, i1 + 1, t 9, i1 + 3, t 11, i1 + 5, i1 + 10, t 7]) ⟨cs.toArray⟩ nn nt (valsN (qL c tc L)).toArray (Int.ofNat b) false (e 1 + 4)) (n1 + 3) (i1 + 11) g1 ⟨_, _, nn, nt, tc, _, rfl, rfl⟩
  clear Bk
  rcases hLc with rfl | rfl | rfl | rfl | rfl
  all_goals
    exact @run_end (cxR (reV V A Q) 300 []) O2 _ 176 (unp 102 0xa28a00024000024024024000024804b2cb20000a28a0002400002402402400002481c10410410410412492050001c71c00060000060060060000061451c71c0006000006006006000006145) [8, 9, 0, 1] 11 [] 0 .base (.ret (.ref (n + 1 + 305))) _ _ _ _ _ (by decide) (by kernel_rfl) BK
end Mine
end
section
open PySem PySem.W PySem.W.X PySem.Builtin.Str PySem.SeqAt
namespace Mine
noncomputable def eqE (q q' : List (Nat × Tok)) (j : Nat) : Bool := (q.map (·.1))[j]? == (q'.map (·.1))[j]?
theorem range_eq {α : Type} [BEq α] [LawfulBEq α] (l l' : List α) : ((List.range (min l.length l'.length)).all (fun j => l[j]? == l'[j]?) && l.length == l'.length) = (l == l') := by
  rw [Bool.eq_iff_iff]
  simp only [Bool.and_eq_true, List.all_eq_true, List.mem_range, beq_iff_eq]
  constructor
  · rintro ⟨h1, h2⟩
    apply List.ext_getElem?
    intro j
    rcases Nat.lt_or_ge j l.length with q | q
    · exact h1 j (by omega)
    · rw [List.getElem?_eq_none q, List.getElem?_eq_none (by omega)]
  · rintro rfl
    exact ⟨fun _ _ => rfl, rfl⟩
theorem eqAt_vals {A : Around} {s : Shared} (q q' : List (Nat × Tok)) (j : Nat) (h1 : j < (valsN q).toArray.size) (h2 : j < (valsN q').toArray.size) : EqAt A s (valsN q).toArray[j] (valsN q').toArray[j] (eqE q q' j) := by
  have l1 : j < q.length := by simpa [valsN] using h1
  have l2 : j < q'.length := by simpa [valsN] using h2
  have e1 : (valsN q).toArray[j] = .int (Int.ofNat q[j].1) q[j].2 := by simp [valsN]
  have e2 : (valsN q').toArray[j] = .int (Int.ofNat q'[j].1) q'[j].2 := by simp [valsN]
  have e3 : eqE q q' j = (Int.ofNat q[j].1 == Int.ofNat q'[j].1) := by
    simp only [eqE, List.getElem?_map, List.getElem?_eq_getElem l1, List.getElem?_eq_getElem l2, Option.map_some]
    rw [Bool.eq_iff_iff]
    simp only [beq_iff_eq, Option.some.injEq, Int.ofNat_eq_natCast]
    omega
  rw [e1, e2, e3]
  exact EqAt.int_int _ _ _ _
theorem norm_code {V : XV} (a2 a3 b2 b3 : Nat) (q q' : List (Nat × Tok)) (x x' : Int) (t t' : Tok) (n i g : Nat) :
    CodeE V 20 (bi "tuple.__eq__" [.ref (a2 + 305), .ref (b2 + 305)]) [(a2 + 305, oSeq "tuple" #[.ref (a3 + 305), .int x t] 0), (a3 + 305, oSeq "tuple" (valsN q).toArray 0), (b2 + 305, oSeq "tuple" #[.ref (b3 + 305), .int x' t'] 0), (b3 + 305, oSeq "tuple" (valsN q').toArray 0)] n i g
      (fun r L' n' i' g' => r = .ok (.ret (.bool ((q.map (·.1) == q'.map (·.1)) && x == x'))) ∧ n' = n ∧ i' = i ∧ g' = g ∧ L' = [(a2 + 305, oSeq "tuple" #[.ref (a3 + 305), .int x t] 0), (a3 + 305, oSeq "tuple" (valsN q).toArray 0), (b2 + 305, oSeq "tuple" #[.ref (b3 + 305), .int x' t'] 0), (b3 + 305, oSeq "tuple" (valsN q').toArray 0)]) := by
  intro A hA b G s S R HR
  have h1 := S.led (a2 + 305, _) List.mem_cons_self
  have h2 := S.led (a3 + 305, _) (List.mem_cons_of_mem _ List.mem_cons_self)
  have h3 := S.led (b2 + 305, _) (List.mem_cons_of_mem _ (List.mem_cons_of_mem _ List.mem_cons_self))
  have h4 := S.led (b3 + 305, _) (List.mem_cons_of_mem _ (List.mem_cons_of_mem _ (List.mem_cons_of_mem _ List.mem_cons_self)))
  have hne : (a3 + 305 : Addr) ≠ b3 + 305 := by
    intro e
    have hnd := S.nd
    simp only [List.cons_append, List.nil_append, List.map_cons, List.nodup_cons] at hnd
    exact hnd.2.1 (by rw [e]; exact List.mem_cons_of_mem _ List.mem_cons_self)
  have hu : A.in1.units < cLine := by
    have := hA.2.2
    show A.units + 1 < cLine
    omega
  have hin : EqAt A.in1 s (.ref (a3 + 305)) (.ref (b3 + 305)) (q.map (·.1) == q'.map (·.1)) := by
    have z := EqAt.of_refs hne (RcAt.tuples (A := A.in1) (s := s) (l := a3 + 305) (b := b3 + 305) ⟨_, h2, rfl, 0, rfl⟩ ⟨_, h4, rfl, 0, rfl⟩ hu (fun j g1 g2 => eqAt_vals q q' j g1 g2))
    have e : ((List.range (min (valsN q).toArray.size (valsN q').toArray.size)).all (eqE q q') && (valsN q).toArray.size == (valsN q').toArray.size) = (q.map (·.1) == q'.map (·.1)) := by
      have := range_eq (q.map (·.1)) (q'.map (·.1))
      have hf : eqE q q' = fun j => ((q.map (·.1))[j]? == (q'.map (·.1))[j]?) := rfl
      rw [hf]
      simpa [valsN] using this
    rw [e] at z
    exact z
  refine codeAny_call_builtin F.slot_tuple_eq.plain F.entry_tuple_eq (F.slot_tuple_eq.check _ _ _ _ _ _ _ _ (T := "tuple") ⟨_, h1, rfl⟩ (F.args_tuple_eq_2 _ _) (tuple_eqAt (a2 + 305) (b2 + 305) #[.ref (a3 + 305), .int x t] #[.ref (b3 + 305), .int x' t'] 0 0 none none #[] #[] (fun j => match j with | 0 => (q.map (·.1) == q'.map (·.1)) | _ => x == x') V.prog V.w A R s ⟨h1, h3, ?_, ?_⟩))
  · intro j g1 g2
    have hj : j = 0 ∨ j = 1 := by simp at g1; omega
    rcases hj with rfl | rfl
    · exact hin
    · exact EqAt.int_int _ _ _ _
  · have z := HR _ _ n i g ⟨rfl, rfl, rfl, rfl, rfl⟩ s S
    have e : ((List.range (min (#[Value.ref (a3 + 305), .int x t] : Array Value).size (#[Value.ref (b3 + 305), .int x' t'] : Array Value).size)).all (fun j => match j with | 0 => (q.map (·.1) == q'.map (·.1)) | _ => x == x') && (#[Value.ref (a3 + 305), .int x t] : Array Value).size == (#[Value.ref (b3 + 305), .int x' t'] : Array Value).size) = ((q.map (·.1) == q'.map (·.1)) && x == x') := by
      show (([0, 1] : List Nat).all _ && _) = _
      simp
    rw [e]
    exact z
theorem equal {V : XV} (a b : Nat → Nat) (t t' : Nat → Tok) (raw raw' : Str) (nn nn' nt nt' : Int) (q q' : List (Nat × Tok)) (x x' : Int) (sm sm' : Bool) (e e' : Nat) (r : Bool) (hr : ((q.map (·.1) == q'.map (·.1)) && x == x') = r) (n i g : Nat) :
    CallsE V 300 (.call (.ref 59) ⟨[.ref (a 0 + 305), .ref (b 0 + 305)], []⟩) (wsL V.w.params a t raw nn nt (valsN q).toArray x sm e ++ wsL V.w.params b t' raw' nn' nt' (valsN q').toArray x' sm' e') n i g
      (fun v L' _ _ _ => v = .bool r ∧ L' = wsL V.w.params a t raw nn nt (valsN q).toArray x sm e ++ wsL V.w.params b t' raw' nn' nt' (valsN q').toArray x' sm' e') := by
  subst hr
  intro A Q B F G Bk
  have O : (cxR (reV V A Q) 300 []).Ok := B.okR (by decide) trivial
  have C := norm_code (V := reV V A Q) (a 2) (a 3) (b 2) (b 3) q q' x x' (t 8) (t' 8) (n + 1) (i + 4) g
  refine @run_codeE (cxR (reV V A Q) 300 []) O _ 58 (unp 40 0x11081070061800001800001810c0082000002000002040041001040000) [3, 3, 5, 5] 9 20 _ _ F _ _ _ _ C (by kernel_rfl) (hid ?_)
  intro Kq hKq
  rintro r L1 n1 i1 g1 ⟨rfl, rfl, rfl, rfl, rfl⟩
  refine hKq _ _ _ _ _ ?_
  have BK := Bk _ _ (n + 1) (i + 4) g1 ⟨rfl, rfl⟩
  intro sq
  exact @run_end (cxR (reV V A Q) 300 []) O _ 1 (unp 1 0x0) [1, 2, 5, 6, 3, 4, 7, 8] 9 [] 0 .base (.ret _) _ _ _ _ _ (by decide) (by kernel_rfl) BK
theorem strs_ne {V : XV} (l b : Nat) (q q' : List (Str × Tok)) (e e' n i g : Nat) :
    CodeE V 20 (bi "list.__ne__" [.ref (l + 305), .ref (b + 305)]) [(l + 305, oSeq "list" (strValues q).toArray e), (b + 305, oSeq "list" (strValues q').toArray e')] n i g
      (fun r L' n' i' g' => r = .ok (.ret (.bool (!(q.map (·.1) == q'.map (·.1))))) ∧ n' = n ∧ i' = i ∧ g' = g ∧ L' = [(l + 305, oSeq "list" (strValues q).toArray e), (b + 305, oSeq "list" (strValues q').toArray e')]) := by
  intro A hA bb G s S R HR
  have h1 := S.led (l + 305, _) List.mem_cons_self
  have h2 := S.led (b + 305, _) (List.mem_cons_of_mem _ List.mem_cons_self)
  have z := HR _ _ n i g ⟨rfl, rfl, rfl, rfl, rfl⟩ s S
  refine codeAny_call_builtin F.slot_list_ne.plain F.entry_list_ne (F.slot_list_ne.check _ _ _ _ _ _ _ _ (T := "list") ⟨_, h1, rfl⟩ (F.args_list_ne_2 _ _) ?_)
  by_cases hsz : (strValues q).toArray.size = (strValues q').toArray.size
  · refine list_neAt (l + 305) (b + 305) (strValues q).toArray (strValues q').toArray e e' none none #[] #[] hsz (fun j => (q.map (·.1))[j]? == (q'.map (·.1))[j]?) V.prog V.w A R s ⟨h1, h2, ?_, ?_⟩
    · intro j g1 g2
      have l1 : j < q.length := by simpa [strValues] using g1
      have l2 : j < q'.length := by simpa [strValues] using g2
      have e1 : (strValues q).toArray[j] = .str q[j].1 q[j].2 := by simp [strValues]
      have e2 : (strValues q').toArray[j] = .str q'[j].1 q'[j].2 := by simp [strValues]
      have e3 : ((q.map (·.1))[j]? == (q'.map (·.1))[j]?) = (q[j].1 == q'[j].1) := by
        simp only [List.getElem?_map, List.getElem?_eq_getElem l1, List.getElem?_eq_getElem l2, Option.map_some]
        rfl
      rw [e1, e2, e3]
      exact EqAt.str_str _ _ _ _
    · have hl : q.length = q'.length := by simpa [strValues] using hsz
      have r := range_eq (q.map (·.1)) (q'.map (·.1))
      have e : (List.range (strValues q).toArray.size).all (fun j => (q.map (·.1))[j]? == (q'.map (·.1))[j]?) = (q.map (·.1) == q'.map (·.1)) := by
        rw [← r]
        simp [strValues, hl]
      rw [e]
      exact z
  · have hsz2 : ((strValues q).toArray.size != (strValues q').toArray.size) = true := by simpa using hsz
    refine list_ne_lengthsAt (l + 305) (b + 305) (strValues q).toArray (strValues q').toArray e e' none none #[] #[] hsz2 V.prog V.w A R s ⟨h1, h2, ?_⟩
    have hl : ¬ q.length = q'.length := by simpa [strValues] using hsz
    have e : (q.map (·.1) == q'.map (·.1)) = false := by
      rw [beq_eq_false_iff_ne]
      intro h
      have := congrArg List.length h
      simp at this
      exact hl this
    rw [e] at z
    exact z
theorem cnts_eq {V : XV} (l b : Nat) (c c' : Nat → Int) (t t' : Nat → Tok) (e e' n i g : Nat) (r : Bool) (hr : ((c 0 == c' 0) && (c 1 == c' 1) && (c 2 == c' 2) && (c 3 == c' 3) && (c 4 == c' 4) && (c 5 == c' 5)) = r) :
    CodeE V 20 (bi "list.__eq__" [.ref (l + 305), .ref (b + 305)]) [(l + 305, oSeq "list" (cnts c t) e), (b + 305, oSeq "list" (cnts c' t') e')] n i g
      (fun v L' n' i' g' => v = .ok (.ret (.bool r)) ∧ n' = n ∧ i' = i ∧ g' = g ∧ L' = [(l + 305, oSeq "list" (cnts c t) e), (b + 305, oSeq "list" (cnts c' t') e')]) := by
  subst hr
  intro A hA bb G s S R HR
  have h1 := S.led (l + 305, _) List.mem_cons_self
  have h2 := S.led (b + 305, _) (List.mem_cons_of_mem _ List.mem_cons_self)
  have z := HR _ _ n i g ⟨rfl, rfl, rfl, rfl, rfl⟩ s S
  refine codeAny_call_builtin F.slot_list_eq.plain F.entry_list_eq (F.slot_list_eq.check _ _ _ _ _ _ _ _ (T := "list") ⟨_, h1, rfl⟩ (F.args_list_eq_2 _ _) (list_eqAt (l + 305) (b + 305) (cnts c t) (cnts c' t') e e' none none #[] #[] rfl (fun j => c j == c' j) V.prog V.w A R s ⟨h1, h2, ?_, ?_⟩))
  · intro j g1 g2
    have hj : j = 0 ∨ j = 1 ∨ j = 2 ∨ j = 3 ∨ j = 4 ∨ j = 5 := lt6 (by simpa [cnts] using g1)
    rcases hj with rfl | rfl | rfl | rfl | rfl | rfl <;> exact EqAt.int_int _ _ _ _
  · have e : (List.range (cnts c t).size).all (fun j => c j == c' j) = ((c 0 == c' 0) && (c 1 == c' 1) && (c 2 == c' 2) && (c 3 == c' 3) && (c 4 == c' 4) && (c 5 == c' 5)) := by
      show ([0, 1, 2, 3, 4, 5] : List Nat).all _ = _
      simp [Bool.and_assoc]
    rw [e]
    exact z
end Mine
end
section
open PySem PySem.W PySem.W.X PySem.Builtin.Str
namespace Mine
noncomputable def CallsH (V : XV) (m : Nat) (c : Code) (pre : Led) (Gp : Gl) (n i g : Nat) (P : PostH) : Prop :=
  ∀ A Q, Base (reV V A Q) m → ∀ F G, (∀ r L' G' n' i' g', P r L' G' n' i' g' → Back (reV V A Q) .base r (L' ++ F) (n' + 305) i' g' (G' ++ G)) → MS (reV V A Q) ⟨c, none, .base, denF c, pre ++ F, n + 305, i, g, Gp ++ G⟩
noncomputable def CallsT (V : XV) (m : Nat) (c : Code) (pre : Led) (Gp : Gl) (n i g : Nat) (P : PostH) : Prop :=
  ∀ A Q, Base (reV V A Q) m → ∀ F G, (∀ r L' G' n' i' g', P r L' G' n' i' g' → Back (reV V A Q) .base r (L' ++ F) (n' + 305) i' g' (G' ++ G)) → MS (reV V A Q) ⟨c, none, .base, startF c, pre ++ F, n + 305, i, g, Gp ++ G⟩
theorem CallsT.h {V : XV} {m : Nat} {c : Code} {pre : Led} {Gp : Gl} {n i g : Nat} {P : PostH} (hw : okW c = true) (hm : 250 ≤ m) (H : CallsT V m c pre Gp n i g P) : CallsH V m c pre Gp n i g P := fun A Q B F G Bk => ms_start B hm hw (H A Q B F G Bk)
theorem CallsH.re {V : XV} {m : Nat} {c : Code} {pre : Led} {Gp : Gl} {n i g : Nat} {P : PostH} (A : Around) (Q : Result → Shared → Prop) (H : CallsH V m c pre Gp n i g P) : CallsH (reV V A Q) m c pre Gp n i g P := fun A' Q' B F G Bk => H A' Q' B F G Bk
theorem CallsT.re {V : XV} {m : Nat} {c : Code} {pre : Led} {Gp : Gl} {n i g : Nat} {P : PostH} (A : Around) (Q : Result → Shared → Prop) (H : CallsT V m c pre Gp n i g P) : CallsT (reV V A Q) m c pre Gp n i g P := fun A' Q' B F G Bk => H A' Q' B F G Bk
theorem CallsH.mono {V : XV} {m : Nat} {c : Code} {pre : Led} {Gp : Gl} {n i g : Nat} {P P' : PostH} (H : CallsH V m c pre Gp n i g P) (h : ∀ v L' G' n' i' g', P v L' G' n' i' g' → P' v L' G' n' i' g') : CallsH V m c pre Gp n i g P' := fun A Q B F G Bk => H A Q B F G fun v L' G' n' i' g' p => Bk v L' G' n' i' g' (h _ _ _ _ _ _ p)
theorem CallsT.mono {V : XV} {m : Nat} {c : Code} {pre : Led} {Gp : Gl} {n i g : Nat} {P P' : PostH} (H : CallsT V m c pre Gp n i g P) (h : ∀ v L' G' n' i' g', P v L' G' n' i' g' → P' v L' G' n' i' g') : CallsT V m c pre Gp n i g P' := fun A Q B F G Bk => H A Q B F G fun v L' G' n' i' g' p => Bk v L' G' n' i' g' (h _ _ _ _ _ _ p)
theorem CallsH.codeH {V : XV} {m k : Nat} {c : Code} {pre : Led} {Gp : Gl} {n i g : Nat} {P : PostH} (C : CallsH V m c pre Gp n i g P) (B : Base V k) : CodeH V m c pre Gp n i g P := by
  intro A hA F G s S R HR
  obtain ⟨hh, hd, hu⟩ := hA
  have hb : Base (reV V A R) m := ⟨B.prog, B.top, B.lim, hd, hu⟩
  have H2 := C A R hb F G fun v L' G' n' i' g' p s' S' => HR v L' G' n' i' g' p s' (sat_re.mp S')
  have eA : { A with handled := none } = A := by
    cases A; simp only at hh; subst hh; rfl
  have z := H2 s (sat_re.mpr S)
  refine y_code _ _ _ _ _ _ ?_
  rw [← denF_eq, ← eA]
  exact z
theorem CallsG.h {V : XV} {m : Nat} {c : Code} {pre : Led} {n i g : Nat} {P : PostG} (H : CallsG V m c pre n i g P) (Gp : Gl) : CallsH V m c pre Gp n i g (fun r L' G' n' i' g' => G' = Gp ∧ P r L' n' i' g') := fun A Q B F G Bk => H A Q B F (Gp ++ G) fun r L' n' i' g' p => Bk r L' Gp n' i' g' ⟨rfl, p⟩
theorem CodeE.h {V : XV} {m : Nat} {c : Code} {pre : Led} {n i g : Nat} {P : PostG} (H : CodeE V m c pre n i g P) (Gp : Gl) : CodeH V m c pre Gp n i g (fun r L' G' n' i' g' => G' = Gp ∧ P r L' n' i' g') := fun A hA F G s S R HR => H A hA F (Gp ++ G) s S R fun r L' n' i' g' p s' S' => HR r L' Gp n' i' g' ⟨rfl, p⟩ s' S'
noncomputable def en_r (x : Str) (t : Tok) (n i g : Nat) : Rl := ⟨bi "enumerate.__new__" [.type "enumerate", .str x t], [], n + 305, i, g, .ref (n + 305 + 1), [(n + 305 + 1, oEn n 0 .none), (n + 305, oIt "str_ascii_iterator" [.str x t, .int (Int.ofNat 0) 0])], n + 305 + 2, i, g, 0, true⟩
theorem en_ok {V : XV} {x : Str} {t : Tok} {n i g : Nat} (h : x.cps.all (· < 128) = true) : RlOk V (en_r x t n i g) := by
  intro A _ b G s S R HR
  have ez : s.heap.objs.size = n + 305 := S.size
  refine codeAny_call_builtin (by decide +kernel) F.entry_enumerate_new ?_
  refine wpAny_of_eq (F.newCall_enumerate_1 _) ?_
  have z := meets_enumerate_newS x t V.prog V.w A R s
  have e1 : strIterType x = "str_ascii_iterator" := by unfold strIterType; rw [h]; rfl
  rw [e1] at z
  refine z ?_
  have S2 := (S.alloc (o := oIt "str_ascii_iterator" [.str x t, .int (Int.ofNat 0) 0]) rfl).alloc (o := oEn n 0 .none) rfl
  have z2 := HR _ S2
  simp only [Heap.size_push, ez]
  exact z2
end Mine
end
section
open PySem PySem.W PySem.W.X PySem.Builtin.Str
namespace Mine
theorem run_raise {X : Cx} (O : X.Ok) {st : St} (f : Nat) (hs : List Nat) (idx : List Nat) (k : Nat) (ig : List Nat) (kg : Nat) (κ : Kont) (x : Value) (L' : Led) (n' i' g' : Nat) (G' : Gl)
    (hi : sub1 idx ig = true) (e : leftR (st.go X f hs) idx k ig kg = rightR (st.go X f hs) κ (.raise x) L' n' i' g' G')
    (H : Back X.V κ (.error x) L' n' i' g' G') : MS X.V st := by
  simp only [sub1, Bool.and_eq_true] at hi
  simp only [leftR, rightR, Prod.mk.injEq] at e
  obtain ⟨ep, ⟨e1, e2, e3⟩, e4⟩ := e
  refine run_ms O f hs (paid_of ep) ?_
  generalize (st.go X f hs).1 = z at e1 e2 e3 e4 ⊢
  obtain ⟨c, md, κ, t, L, n, i, g, G⟩ := z
  simp only [Rest, Prod.mk.injEq] at e1 e2 e3 e4
  subst e1 e2 e3
  obtain ⟨rfl, rfl, rfl, rfl, rfl⟩ := e4
  have z := back_pick idx k ig kg hi.1 hi.2 H
  exact fun s S => y_raise _ _ _ _ _ _ _ _ _ (y_err _ _ _ (z s S))
noncomputable def sAddr : Str := ⟨#[97,100,100,114]⟩
noncomputable def sPos : Str := ⟨#[112,111,115]⟩
noncomputable def sEsc : Str := ⟨#[101,115,99,97,112,101]⟩
noncomputable def sIter : Str := Str.ofString "_iter_escaped_chars"
example : sAddr = Str.ofString "addr" ∧ sPos = Str.ofString "pos" ∧ sEsc = Str.ofString "escape" := by decide +kernel
noncomputable def genO (gd : Nat) (t u : Tok) : Obj := oIt "generator" [.int (Int.ofNat gd) 0, .str sIter t, .str sIter u]
noncomputable def genCode (p : Params) (a : Nat → Nat) : Code := .func (stmtsOf (fdF p 255)) (fnEnv p 255 (Str.ofString "_iter_escaped_chars.<locals>.") (a 1) [])
noncomputable def bs : Str := ⟨#[92]⟩
noncomputable def nextC (a : Nat → Nat) : Code := bi "generator.__next__" [.ref (a 0 + 305)]
noncomputable def gnF (p : Params) (a : Nat → Nat) (gd : Nat) (t : Nat → Tok) (x : Str) (tx : Tok) (e : Nat) : Led :=
  [(a 0 + 305, genO gd (t 4) (t 5)), (a 1 + 305, oFrm (dEs p [(sAddr, t 0, .str x tx)]) e)]
noncomputable def gnR (p : Params) (a : Nat → Nat) (gd : Nat) (t : Nat → Tok) (x : Str) (tx : Tok) (j : Nat) (pos : Int) (tp : Tok) (esc : Bool) (c : Nat) (tc : Tok) (e : Nat) : Led :=
  [(a 0 + 305, genO gd (t 4) (t 5)), (a 1 + 305, oFrm (dEs p [(sAddr, t 0, .str x tx), (sPos, t 1, .int pos tp), (sEsc, t 2, .bool esc), (sCh, t 3, .str ⟨#[c]⟩ tc)]) e),
   (a 2 + 1 + 305, oEn (a 2) j (.str ⟨#[c]⟩ tc)), (a 2 + 305, oIt "str_ascii_iterator" [.str x tx, .int (Int.ofNat j) 0])]
noncomputable def eqS_r (c : Nat) (t u : Tok) (b : Bool) (n i g : Nat) : Rl := pv_r (bi "str.__eq__" [.str ⟨#[c]⟩ t, .str bs u]) (.bool b) n i g
theorem eqS_ok {V : XV} {c : Nat} {t u : Tok} {b : Bool} {n i g : Nat} (h : Nat.beq c 92 = b) : RlOk V (eqS_r c t u b n i g) := by
  intro A _ l G s S R HR
  refine codeAny_call_builtin F.slot_str_eq.plain F.entry_str_eq (F.slot_str_eq.check _ _ _ _ _ _ _ _ (T := "str") (typeIs_str _ _ _) (F.args_str_eq_2 _ _) (gives_str_eq _ _ _ _ V.prog V.w A R s ?_))
  have e : ((⟨#[c]⟩ : Str).cps.toList == bs.cps.toList) = b := by
    rw [← h]
    show ([c] == [92]) = Nat.beq c 92
    cases hb : Nat.beq c 92 with
    | true => rw [Nat.eq_of_beq_eq_true hb]; decide
    | false =>
      have : c ≠ 92 := fun e => by subst e; exact absurd hb (by decide)
      simp [this]
  rw [e]
  exact HR _ S
noncomputable def yRunA (V : XV) (a : Nat → Nat) (gd : Nat) : St :=
  (St.go (cxR (reV V V.A₀ V.R₀) 250 [en_r ⟨#[97]⟩ 0 (a 2) 3 (gd + 1), sa_r (a 2 + 305) ⟨#[97]⟩ 0 0 97 (a 2 + 2) 3 (gd + 1), eqS_r 97 3 7 false (a 2 + 6) 8 (gd + 1)]) 164 (unp 100 0x20849ffc12082080082000410420410410410810410410420410410410410410c3a8ffc30c30c30c30c208208208145ffc204104104104104104141ffcf7ff080002080082000040041)
    ⟨nextC a, none, .base, denF (nextC a), gnF V.w.params a gd (fun _ => 0) ⟨#[97]⟩ 0 1, a 2 + 305, 0, gd + 1, [(gd, .fresh (genCode V.w.params a))]⟩).1
noncomputable def yRunB (V : XV) (a : Nat → Nat) (gd : Nat) : St :=
  (St.go (cxR (reV V V.A₀ V.R₀) 250 [en_r ⟨#[92, 97]⟩ 0 (a 2) 3 (gd + 1), sa_r (a 2 + 305) ⟨#[92, 97]⟩ 0 0 92 (a 2 + 2) 3 (gd + 1), eqS_r 92 3 7 true (a 2 + 6) 8 (gd + 1), sa_r (a 2 + 305) ⟨#[92, 97]⟩ 0 1 97 (a 2 + 6) 9 (gd + 1)]) 275 (unp 165 0xc30c30c00c3000410420410410410810410410420410410410410411c7b8ffc71c71c71c71c61861861844dffc518618820049ffc12082080082000410420410410410810410410420410410410410410c3a8ffc30c30c30c30c208208208145ffc204104104104104104141ffcf7ff080002080082000040041)
    ⟨nextC a, none, .base, denF (nextC a), gnF V.w.params a gd (fun _ => 0) ⟨#[92, 97]⟩ 0 1, a 2 + 305, 0, gd + 1, [(gd, .fresh (genCode V.w.params a))]⟩).1
noncomputable def yK (V : XV) (a : Nat → Nat) (gd : Nat) : Bool → Gk
  | false => match (yRunA V a gd).G with
    | p :: _ => p.2
    | [] => .run
  | true => match (yRunB V a gd).G with
    | p :: _ => p.2
    | [] => .run
noncomputable def tupO (pos : Int) (tp : Tok) (y : Str) (ty : Tok) : Obj := oSeq "tuple" #[.int pos tp, .str y ty] 0
noncomputable def nxP (V : XV) (a : Nat → Nat) (gd : Nat) (x : Str) (tx : Tok) (j : Nat) (pos : Nat) (esc : Bool) (y : Str) : PostH := fun r L' G' n' i' g' => ∃ (rr : Nat) (t : Nat → Tok) (tp : Tok) (c : Nat) (tc ty : Tok) (e : Nat), r = .ok (.ret (.ref (rr + 305))) ∧ G' = [(gd, yK V a gd esc)] ∧
  L' = gnR V.w.params a gd t x tx j (Int.ofNat pos) tp esc c tc e ++ [(rr + 305, tupO (Int.ofNat pos) tp y ty)]
theorem next_F_plain {V : XV} (a0 a1 : Nat) (gd : Nat) (t : Nat → Tok) (x : Str) (tx : Tok) (hasc : x.cps.all (· < 128) = true) (c : Nat) (hx : x.cps[0]? = some c) (hc : Nat.beq c 92 = false) (e n i g : Nat) :
    CallsH V 250 (nextC (lk [a0, a1, n])) (gnF V.w.params (lk [a0, a1, n]) gd t x tx e) [(gd, .fresh (genCode V.w.params (lk [a0, a1, n])))] n i g (nxP V (lk [a0, a1, n]) gd x tx 1 0 false ⟨#[c]⟩) := by
  intro A Q B F G Bk
  have O : (cxR (reV V A Q) 250 [en_r x tx n (i + 3) g, sa_r (n + 305) x tx 0 c (n + 2) (i + 3) g, eqS_r c (i + 3) (i + 7) false (n + 6) (i + 8) g]).Ok := B.okR (by decide) ⟨en_ok hasc, sa_ok hx, eqS_ok hc, trivial⟩
  have BK := Bk _ (gnR V.w.params (lk [a0, a1, n]) gd (lk [t 0, i + 1, i + 2, i + 6, t 4, t 5]) x tx 1 (Int.ofNat 0) (i + 4) false c (i + 3) (e + 3) ++ [(n + 6 + 305, tupO (Int.ofNat 0) (i + 4) ⟨#[c]⟩ (i + 3))]) [(gd, yK V (lk [a0, a1, n]) gd false)] (n + 7) (i + 8) g ⟨_, _, _, _, _, _, _, rfl, rfl, rfl⟩
  exact @run_end (cxR (reV V A Q) 250 _) O _ 164 (unp 100 0x20849ffc12082080082000410420410410410810410410420410410410410410c3a8ffc30c30c30c30c208208208145ffc204104104104104104141ffcf7ff080002080082000040041) [7, 8, 6, 5, 0] 9 [0] 1 .base (.ret (.ref (n + 6 + 305))) _ _ _ _ _ (by decide) (by kernel_rfl) BK
theorem next_F_esc {V : XV} (a0 a1 : Nat) (gd : Nat) (t : Nat → Tok) (x : Str) (tx : Tok) (hasc : x.cps.all (· < 128) = true) (d : Nat) (hx : x.cps[0]? = some 92) (hx2 : x.cps[1]? = some d) (e n i g : Nat) :
    CallsH V 250 (nextC (lk [a0, a1, n])) (gnF V.w.params (lk [a0, a1, n]) gd t x tx e) [(gd, .fresh (genCode V.w.params (lk [a0, a1, n])))] n i g (nxP V (lk [a0, a1, n]) gd x tx 2 1 true ⟨#[92, d]⟩) := by
  intro A Q B F G Bk
  have O : (cxR (reV V A Q) 250 [en_r x tx n (i + 3) g, sa_r (n + 305) x tx 0 92 (n + 2) (i + 3) g, eqS_r 92 (i + 3) (i + 7) true (n + 6) (i + 8) g, sa_r (n + 305) x tx 1 d (n + 6) (i + 9) g]).Ok := B.okR (by decide) ⟨en_ok hasc, sa_ok hx, eqS_ok (by decide), sa_ok hx2, trivial⟩
  have BK := Bk _ (gnR V.w.params (lk [a0, a1, n]) gd (lk [t 0, i + 1, i + 2, i + 6, t 4, t 5]) x tx 2 (Int.ofNat 1) (i + 10) true d (i + 9) (e + 3) ++ [(n + 10 + 305, tupO (Int.ofNat 1) (i + 10) ⟨#[92, d]⟩ (i + 14))]) [(gd, yK V (lk [a0, a1, n]) gd true)] (n + 11) (i + 15) g ⟨_, _, _, _, _, _, _, rfl, rfl, rfl⟩
  exact @run_end (cxR (reV V A Q) 250 _) O _ 275 (unp 165 0xc30c30c00c3000410420410410410810410410420410410410410411c7b8ffc71c71c71c71c61861861844dffc518618820049ffc12082080082000410420410410410810410410420410410410410410c3a8ffc30c30c30c30c208208208145ffc204104104104104104141ffcf7ff080002080082000040041) [11, 12, 10, 5, 0] 13 [0] 1 .base (.ret (.ref (n + 10 + 305))) _ _ _ _ _ (by decide) (by kernel_rfl) BK
section
variable {V : XV} (a0 a1 n0 : Nat) (gd : Nat) (t : Nat → Tok) (x : Str) (tx : Tok) (j : Nat) (pos : Int) (tp : Tok) (c0 : Nat) (tc0 : Tok) (e n i g : Nat)
theorem next_A_plain (c : Nat) (hx : x.cps[j]? = some c) (hc : Nat.beq c 92 = false) :
    CallsH V 250 (nextC (lk [a0, a1, n0])) (gnR V.w.params (lk [a0, a1, n0]) gd t x tx j pos tp false c0 tc0 e) [(gd, yK V (lk [a0, a1, n0]) gd false)] n i g (nxP V (lk [a0, a1, n0]) gd x tx (j + 1) j false ⟨#[c]⟩) := by
  intro A Q B F G Bk
  have O : (cxR (reV V A Q) 250 [sa_r (n0 + 305) x tx j c n i g, eqS_r c i (i + 4) false (n + 4) (i + 5) g]).Ok := B.okR (by decide) ⟨sa_ok hx, eqS_ok hc, trivial⟩
  have BK := Bk _ (gnR V.w.params (lk [a0, a1, n0]) gd t x tx (j + 1) (Int.ofNat j) (i + 1) false c i e ++ [(n + 4 + 305, tupO (Int.ofNat j) (i + 1) ⟨#[c]⟩ i)]) [(gd, yK V (lk [a0, a1, n0]) gd false)] (n + 5) (i + 5) g ⟨_, _, _, _, _, _, _, rfl, rfl, rfl⟩
  exact @run_end (cxR (reV V A Q) 250 _) O _ 118 (unp 76 0x1c745ffc11c71c70071c0041042041041041081041041042041041041041041145b0ffc514514514514410410410341ffc40c30c0040041) [6, 7, 8, 5, 0] 9 [0] 1 .base (.ret (.ref (n + 4 + 305))) _ _ _ _ _ (by decide) (by kernel_rfl) BK
theorem next_A_esc (d : Nat) (hx : x.cps[j]? = some 92) (hx2 : x.cps[j + 1]? = some d) :
    CallsH V 250 (nextC (lk [a0, a1, n0])) (gnR V.w.params (lk [a0, a1, n0]) gd t x tx j pos tp false c0 tc0 e) [(gd, yK V (lk [a0, a1, n0]) gd false)] n i g (nxP V (lk [a0, a1, n0]) gd x tx (j + 2) (j + 1) true ⟨#[92, d]⟩) := by
  intro A Q B F G Bk
  have O : (cxR (reV V A Q) 250 [sa_r (n0 + 305) x tx j 92 n i g, eqS_r 92 i (i + 4) true (n + 4) (i + 5) g, sa_r (n0 + 305) x tx (j + 1) d (n + 4) (i + 6) g]).Ok := B.okR (by decide) ⟨sa_ok hx, eqS_ok (by decide), sa_ok hx2, trivial⟩
  have BK := Bk _ (gnR V.w.params (lk [a0, a1, n0]) gd t x tx (j + 2) (Int.ofNat (j + 1)) (i + 7) true d (i + 6) e ++ [(n + 8 + 305, tupO (Int.ofNat (j + 1)) (i + 7) ⟨#[92, d]⟩ (i + 11))]) [(gd, yK V (lk [a0, a1, n0]) gd true)] (n + 9) (i + 12) g ⟨_, _, _, _, _, _, _, rfl, rfl, rfl⟩
  exact @run_end (cxR (reV V A Q) 250 _) O _ 229 (unp 141 0xb2cb2cb00b2c0041042041041041081041041042041041041041041249c0ffc924924924924820820820449ffc52082071c045ffc11c71c70071c0041042041041041081041041042041041041041041145b0ffc514514514514410410410341ffc40c30c0040041) [10, 11, 12, 5, 0] 13 [0] 1 .base (.ret (.ref (n + 8 + 305))) _ _ _ _ _ (by decide) (by kernel_rfl) BK
theorem next_B_plain (c : Nat) (hx : x.cps[j]? = some c) (hc : Nat.beq c 92 = false) :
    CallsH V 250 (nextC (lk [a0, a1, n0])) (gnR V.w.params (lk [a0, a1, n0]) gd t x tx j pos tp true c0 tc0 e) [(gd, yK V (lk [a0, a1, n0]) gd true)] n i g (nxP V (lk [a0, a1, n0]) gd x tx (j + 1) j false ⟨#[c]⟩) := by
  intro A Q B F G Bk
  have O : (cxR (reV V A Q) 250 [sa_r (n0 + 305) x tx j c n (i + 1) g, eqS_r c (i + 1) (i + 5) false (n + 4) (i + 6) g]).Ok := B.okR (by decide) ⟨sa_ok hx, eqS_ok hc, trivial⟩
  have BK := Bk _ (gnR V.w.params (lk [a0, a1, n0]) gd t x tx (j + 1) (Int.ofNat j) (i + 2) false c (i + 1) e ++ [(n + 4 + 305, tupO (Int.ofNat j) (i + 2) ⟨#[c]⟩ (i + 1))]) [(gd, yK V (lk [a0, a1, n0]) gd false)] (n + 5) (i + 6) g ⟨_, _, _, _, _, _, _, rfl, rfl, rfl⟩
  exact @run_end (cxR (reV V A Q) 250 _) O _ 126 (unp 79 0x71d17ff0471c71c01c700104108104104104204104104108104104104104104516c3ff1451451451451041041040d07ff1030c3082000040041) [6, 7, 8, 5, 0] 9 [0] 1 .base (.ret (.ref (n + 4 + 305))) _ _ _ _ _ (by decide) (by kernel_rfl) BK
theorem next_B_esc (d : Nat) (hx : x.cps[j]? = some 92) (hx2 : x.cps[j + 1]? = some d) :
    CallsH V 250 (nextC (lk [a0, a1, n0])) (gnR V.w.params (lk [a0, a1, n0]) gd t x tx j pos tp true c0 tc0 e) [(gd, yK V (lk [a0, a1, n0]) gd true)] n i g (nxP V (lk [a0, a1, n0]) gd x tx (j + 2) (j + 1) true ⟨#[92, d]⟩) := by
  intro A Q B F G Bk
  have O : (cxR (reV V A Q) 250 [sa_r (n0 + 305) x tx j 92 n (i + 1) g, eqS_r 92 (i + 1) (i + 5) true (n + 4) (i + 6) g, sa_r (n0 + 305) x tx (j + 1) d (n + 4) (i + 7) g]).Ok := B.okR (by decide) ⟨sa_ok hx, eqS_ok (by decide), sa_ok hx2, trivial⟩
  have BK := Bk _ (gnR V.w.params (lk [a0, a1, n0]) gd t x tx (j + 2) (Int.ofNat (j + 1)) (i + 8) true d (i + 7) e ++ [(n + 8 + 305, tupO (Int.ofNat (j + 1)) (i + 8) ⟨#[92, d]⟩ (i + 12))]) [(gd, yK V (lk [a0, a1, n0]) gd true)] (n + 9) (i + 13) g ⟨_, _, _, _, _, _, _, rfl, rfl, rfl⟩
  exact @run_end (cxR (reV V A Q) 250 _) O _ 237 (unp 144 0x2cb2cb2c02cb0010410810410410420410410410810410410410410492703ff2492492492492082082081127ff1482081c70117ff0471c71c01c700104108104104104204104104108104104104104104516c3ff1451451451451041041040d07ff1030c3082000040041) [10, 11, 12, 5, 0] 13 [0] 1 .base (.ret (.ref (n + 8 + 305))) _ _ _ _ _ (by decide) (by kernel_rfl) BK
noncomputable def nxE (gd : Nat) : PostH := fun r L' G' n' i' g' => ∃ (rr : Nat), r = .error (.ref (rr + 305)) ∧ G' = [(gd, .fin)] ∧ L' = [(rr + 305, oIt "StopIteration" [.ref (rr - 1 + 305), .none, .none, .none, .bool false, .none])]
theorem next_A_end (hx : x.cps[j]? = none) :
    CallsH V 250 (nextC (lk [a0, a1, n0])) (gnR V.w.params (lk [a0, a1, n0]) gd t x tx j pos tp false c0 tc0 e) [(gd, yK V (lk [a0, a1, n0]) gd false)] n i g (nxE gd) := by
  intro A Q B F G Bk
  have O : (cxR (reV V A Q) 250 [se_r (n0 + 305) x tx j n i g]).Ok := B.okR (by decide) ⟨se_ok hx, trivial⟩
  have BK := Bk _ [(n + 3 + 305, oIt "StopIteration" [.ref (n + 2 + 305), .none, .none, .none, .bool false, .none])] [(gd, .fin)] (n + 4) i g ⟨n + 3, rfl, rfl, rfl⟩
  exact @run_raise (cxR (reV V A Q) 250 _) O _ 27 (unp 17 0x504341ffc40c30c0040041) [0] 8 [0] 1 .base (.ref (n + 3 + 305)) _ _ _ _ _ (by decide) (by kernel_rfl) BK
theorem next_B_end (hx : x.cps[j]? = none) :
    CallsH V 250 (nextC (lk [a0, a1, n0])) (gnR V.w.params (lk [a0, a1, n0]) gd t x tx j pos tp true c0 tc0 e) [(gd, yK V (lk [a0, a1, n0]) gd true)] n i g (nxE gd) := by
  intro A Q B F G Bk
  have O : (cxR (reV V A Q) 250 [se_r (n0 + 305) x tx j n (i + 1) g]).Ok := B.okR (by decide) ⟨se_ok hx, trivial⟩
  have BK := Bk _ [(n + 3 + 305, oIt "StopIteration" [.ref (n + 2 + 305), .none, .none, .none, .bool false, .none])] [(gd, .fin)] (n + 4) (i + 1) g ⟨n + 3, rfl, rfl, rfl⟩
  exact @run_raise (cxR (reV V A Q) 250 _) O _ 35 (unp 20 0x1410d07ff1030c3082000040041) [0] 8 [0] 1 .base (.ref (n + 3 + 305)) _ _ _ _ _ (by decide) (by kernel_rfl) BK
end
end Mine
end
section
open PySem PySem.W PySem.W.X PySem.Builtin.Str
namespace Mine
noncomputable abbrev Unit2 := Nat × List Nat
noncomputable def unitsF : List Nat → Nat → List Unit2
  | [], _ => []
  | [c], j => [(j, [c])]
  | c :: d :: cs, j => match Nat.beq c 92 with
    | true => (j + 1, [92, d]) :: unitsF cs (j + 2)
    | false => (j, [c]) :: unitsF (d :: cs) (j + 1)
noncomputable def wellE : List Nat → Bool
  | [] => true
  | [c] => !(Nat.beq c 92)
  | c :: d :: cs => match Nat.beq c 92 with
    | true => wellE cs
    | false => wellE (d :: cs)
noncomputable def GenS (V : XV) (x : List Nat) (tx : Tok) (gd a0 : Nat) (u1 u2 : Tok) (us : List Unit2) (Lt : Led) (K : Gl) : Prop :=
  (∃ a1 t e, us = unitsF x 0 ∧ wellE x = true ∧ (a0 + 305, genO gd u1 u2) :: Lt = gnF V.w.params (lk [a0, a1, 0]) gd t ⟨x.toArray⟩ tx e ∧ K = [(gd, .fresh (genCode V.w.params (lk [a0, a1, 0])))]) ∨
  (∃ a1 n0 t j pos tp esc c tc e, us = unitsF (x.drop j) j ∧ wellE (x.drop j) = true ∧ (a0 + 305, genO gd u1 u2) :: Lt = gnR V.w.params (lk [a0, a1, n0]) gd t ⟨x.toArray⟩ tx j pos tp esc c tc e ∧ K = [(gd, yK V (lk [a0, a1, n0]) gd esc)])
noncomputable def nxC (a0 : Nat) : Code := bi "generator.__next__" [.ref (a0 + 305)]
noncomputable def nxQ (V : XV) (x : List Nat) (tx : Tok) (gd a0 : Nat) (u : Unit2) (us : List Unit2) : PostH := fun r L' G' _ _ _ => ∃ (rr : Nat) (tp ty u1 u2 : Tok) (Lt : Led), r = .ok (.ret (.ref (rr + 305))) ∧
  L' = (rr + 305, tupO (Int.ofNat u.1) tp ⟨u.2.toArray⟩ ty) :: (a0 + 305, genO gd u1 u2) :: Lt ∧ GenS V x tx gd a0 u1 u2 us Lt G'
theorem CallsH.perm {V : XV} {m : Nat} {c : Code} {pre : Led} {Gp : Gl} {n i g : Nat} {P P' : PostH} (H : CallsH V m c pre Gp n i g P) (h : ∀ v L' G' n' i' g', P v L' G' n' i' g' → ∃ L2, L2.Perm L' ∧ P' v L2 G' n' i' g') : CallsH V m c pre Gp n i g P' := fun A Q B F G Bk => H A Q B F G fun v L' G' n' i' g' p => by
  obtain ⟨L2, hp, p2⟩ := h _ _ _ _ _ _ p
  intro s S
  exact Bk _ _ _ _ _ _ p2 s (S.perm (hp.append_right F))
theorem nx_of {V : XV} {x : List Nat} {tx : Tok} {gd a0 a1 n0 j : Nat} {pos : Nat} {esc : Bool} {y : List Nat} {us : List Unit2} (hu : us = unitsF (x.drop j) j) (hw : wellE (x.drop j) = true) (r : Result) (L' : Led) (G' : Gl) (n' i' g' : Nat)
    (h : nxP V (lk [a0, a1, n0]) gd ⟨x.toArray⟩ tx j pos esc ⟨y.toArray⟩ r L' G' n' i' g') : ∃ L2, L2.Perm L' ∧ nxQ V x tx gd a0 (pos, y) us r L2 G' n' i' g' := by
  obtain ⟨rr, t, tp, c, tc, ty, e, rfl, rfl, rfl⟩ := h
  refine ⟨(rr + 305, tupO (Int.ofNat pos) tp ⟨y.toArray⟩ ty) :: gnR V.w.params (lk [a0, a1, n0]) gd t ⟨x.toArray⟩ tx j (Int.ofNat pos) tp esc c tc e, ?_, rr, tp, ty, t 4, t 5, _, rfl, rfl, .inr ⟨a1, n0, t, j, _, tp, esc, c, tc, e, hu, hw, rfl, rfl⟩⟩
  exact List.perm_append_comm (l₁ := [_])
theorem cps_get {x : List Nat} {j c : Nat} {cs : List Nat} (h : x.drop j = c :: cs) : (⟨x.toArray⟩ : Str).cps[j]? = some c := by
  have h2 : x[j]? = some c := by
    have h3 : (x.drop j)[0]? = some c := by rw [h]; rfl
    rw [List.getElem?_drop] at h3
    simpa using h3
  show x.toArray[j]? = some c
  simpa using h2
theorem drop_more {x : List Nat} {j c : Nat} {cs : List Nat} (h : x.drop j = c :: cs) : x.drop (j + 1) = cs := by
  rw [← List.drop_drop, h]; rfl
theorem all_asc {x : List Nat} (h : (x.all fun c => Nat.blt c 128) = true) : (⟨x.toArray⟩ : Str).cps.all (· < 128) = true := by
  rw [List.all_eq_true] at h
  simp only [List.all_toArray, List.all_eq_true, decide_eq_true_eq]
  intro z hz
  have := h z hz
  simpa [Nat.blt_eq] using this
theorem gen_next {V : XV} {x : List Nat} {tx : Tok} {gd a0 : Nat} {u1 u2 : Tok} {u : Unit2} {us : List Unit2} {Lt : Led} {K : Gl} (hasc : (x.all fun c => Nat.blt c 128) = true) (S : GenS V x tx gd a0 u1 u2 (u :: us) Lt K) (n i g : Nat) :
    CallsH V 250 (nxC a0) ((a0 + 305, genO gd u1 u2) :: Lt) K n i g (nxQ V x tx gd a0 u us) := by
  rcases S with ⟨a1, t, e, hu, hw, hL, rfl⟩ | ⟨a1, n0, t, j, pos, tp, esc, c, tc, e, hu, hw, hL, rfl⟩
  · rw [hL]
    have a := all_asc hasc
    rcases x with _ | ⟨c, _ | ⟨d, cs⟩⟩
    · cases hu
    · simp only [unitsF, List.cons.injEq] at hu
      obtain ⟨rfl, rfl⟩ := hu
      simp only [wellE, Bool.not_eq_true'] at hw
      exact (next_F_plain (V := V) a0 a1 gd t ⟨[c].toArray⟩ tx a c rfl hw e n i g).perm fun r L' G' n' i' g' h => nx_of (x := [c]) (j := 1) (y := [c]) rfl rfl r L' G' n' i' g' h
    · simp only [unitsF] at hu
      simp only [wellE] at hw
      cases hb : Nat.beq c 92 with
      | true =>
        have hc : c = 92 := Nat.eq_of_beq_eq_true hb
        subst hc
        rw [hb] at hu hw
        simp only [List.cons.injEq] at hu
        obtain ⟨rfl, rfl⟩ := hu
        exact (next_F_esc (V := V) a0 a1 gd t ⟨(92 :: d :: cs).toArray⟩ tx a d rfl rfl e n i g).perm fun r L' G' n' i' g' h => nx_of (x := 92 :: d :: cs) (j := 2) (y := [92, d]) rfl (show wellE cs = true from hw) r L' G' n' i' g' h
      | false =>
        rw [hb] at hu hw
        simp only [List.cons.injEq] at hu
        obtain ⟨rfl, rfl⟩ := hu
        exact (next_F_plain (V := V) a0 a1 gd t ⟨(c :: d :: cs).toArray⟩ tx a c rfl hb e n i g).perm fun r L' G' n' i' g' h => nx_of (x := c :: d :: cs) (j := 1) (y := [c]) rfl (show wellE (d :: cs) = true from hw) r L' G' n' i' g' h
  · rw [hL]
    generalize hx : x.drop j = z at hu hw
    rcases z with _ | ⟨c1, _ | ⟨d, cs⟩⟩
    · cases hu
    · simp only [unitsF, List.cons.injEq] at hu
      obtain ⟨rfl, rfl⟩ := hu
      simp only [wellE, Bool.not_eq_true'] at hw
      have h1 := cps_get hx
      have h2 := drop_more hx
      cases esc with
      | false => exact (next_A_plain (V := V) a0 a1 n0 gd t ⟨x.toArray⟩ tx j pos tp c tc e n i g c1 h1 hw).perm fun r L' G' n' i' g' h => nx_of (j := j + 1) (y := [c1]) (by rw [h2]; rfl) (by rw [h2]; rfl) r L' G' n' i' g' h
      | true => exact (next_B_plain (V := V) a0 a1 n0 gd t ⟨x.toArray⟩ tx j pos tp c tc e n i g c1 h1 hw).perm fun r L' G' n' i' g' h => nx_of (j := j + 1) (y := [c1]) (by rw [h2]; rfl) (by rw [h2]; rfl) r L' G' n' i' g' h
    · simp only [unitsF] at hu
      simp only [wellE] at hw
      have h1 := cps_get hx
      have h2 := drop_more hx
      have h3 := cps_get h2
      have h4 := drop_more h2
      cases hb : Nat.beq c1 92 with
      | true =>
        have hc : c1 = 92 := Nat.eq_of_beq_eq_true hb
        subst hc
        rw [hb] at hu hw
        simp only [List.cons.injEq] at hu
        obtain ⟨rfl, rfl⟩ := hu
        cases esc with
        | false => exact (next_A_esc (V := V) a0 a1 n0 gd t ⟨x.toArray⟩ tx j pos tp c tc e n i g d h1 h3).perm fun r L' G' n' i' g' h => nx_of (j := j + 2) (y := [92, d]) (by rw [h4]) (by rw [h4]; exact hw) r L' G' n' i' g' h
        | true => exact (next_B_esc (V := V) a0 a1 n0 gd t ⟨x.toArray⟩ tx j pos tp c tc e n i g d h1 h3).perm fun r L' G' n' i' g' h => nx_of (j := j + 2) (y := [92, d]) (by rw [h4]) (by rw [h4]; exact hw) r L' G' n' i' g' h
      | false =>
        rw [hb] at hu hw
        simp only [List.cons.injEq] at hu
        obtain ⟨rfl, rfl⟩ := hu
        cases esc with
        | false => exact (next_A_plain (V := V) a0 a1 n0 gd t ⟨x.toArray⟩ tx j pos tp c tc e n i g c1 h1 hb).perm fun r L' G' n' i' g' h => nx_of (j := j + 1) (y := [c1]) (by rw [h2]) (by rw [h2]; exact hw) r L' G' n' i' g' h
        | true => exact (next_B_plain (V := V) a0 a1 n0 gd t ⟨x.toArray⟩ tx j pos tp c tc e n i g c1 h1 hb).perm fun r L' G' n' i' g' h => nx_of (j := j + 1) (y := [c1]) (by rw [h2]) (by rw [h2]; exact hw) r L' G' n' i' g' h
theorem gen_end {V : XV} {x : List Nat} {tx : Tok} {gd a0 : Nat} {u1 u2 : Tok} {Lt : Led} {K : Gl} (hx : x ≠ []) (S : GenS V x tx gd a0 u1 u2 [] Lt K) (n i g : Nat) :
    CallsH V 250 (nxC a0) ((a0 + 305, genO gd u1 u2) :: Lt) K n i g (nxE gd) := by
  rcases S with ⟨a1, t, e, hu, hw, hL, rfl⟩ | ⟨a1, n0, t, j, pos, tp, esc, c, tc, e, hu, hw, hL, rfl⟩
  · exfalso
    rcases x with _ | ⟨c, _ | ⟨d, cs⟩⟩
    · exact hx rfl
    · cases hu
    · simp only [unitsF] at hu
      split at hu <;> cases hu
  · rw [hL]
    have hj : (⟨x.toArray⟩ : Str).cps[j]? = none := by
      generalize hz : x.drop j = z at hu
      rcases z with _ | ⟨c1, _ | ⟨d, cs⟩⟩
      · have : x.length ≤ j := List.drop_eq_nil_iff.mp hz
        show x.toArray[j]? = none
        simpa using this
      · cases hu
      · simp only [unitsF] at hu
        split at hu <;> cases hu
    cases esc with
    | false => exact next_A_end (V := V) a0 a1 n0 gd t ⟨x.toArray⟩ tx j pos tp c tc e n i g hj
    | true => exact next_B_end (V := V) a0 a1 n0 gd t ⟨x.toArray⟩ tx j pos tp c tc e n i g hj
theorem GenS.fresh {V : XV} (x : List Nat) (hw : wellE x = true) (tx : Tok) (gd a0 a1 : Nat) (t : Nat → Tok) (e : Nat) : GenS V x tx gd a0 (t 4) (t 5) (unitsF x 0) [(a1 + 305, oFrm (dEs V.w.params [(sAddr, t 0, .str ⟨x.toArray⟩ tx)]) e)] [(gd, .fresh (genCode V.w.params (lk [a0, a1, 0])))] :=
  .inl ⟨a1, t, e, rfl, hw, rfl, rfl⟩
end Mine
end
section
open PySem PySem.W PySem.W.X PySem.Builtin.Str
namespace Mine
noncomputable def sStart : Str := ⟨#[115,116,97,114,116]⟩
noncomputable def sOpen : Str := ⟨#[111,112,101,110,95,112,111,115]⟩
noncomputable def sResult : Str := ⟨#[114,101,115,117,108,116]⟩
example : sStart = Str.ofString "start" ∧ sOpen = Str.ofString "open_pos" ∧ sResult = Str.ofString "result" := by decide +kernel
noncomputable def qt : Str := ⟨#[34]⟩
noncomputable def sq_r (y q : Str) (t u : Tok) (b : Bool) (n i g : Nat) : Rl := pv_r (bi "str.__eq__" [.str y t, .str q u]) (.bool b) n i g
theorem sq_ok {V : XV} {y q : Str} {t u : Tok} {b : Bool} {n i g : Nat} (h : (y.cps.toList == q.cps.toList) = b) : RlOk V (sq_r y q t u b n i g) := by
  intro A _ l G s S R HR
  refine codeAny_call_builtin F.slot_str_eq.plain F.entry_str_eq (F.slot_str_eq.check _ _ _ _ _ _ _ _ (T := "str") (typeIs_str _ _ _) (F.args_str_eq_2 _ _) (gives_str_eq _ _ _ _ V.prog V.w A R s ?_))
  rw [h]
  exact HR _ S
theorem has_ok {V : XV} {x : Str} {c : Nat} {t u : Tok} {b : Bool} {n i g : Nat} (h : decide (c ∈ x.cps.toList) = b) : RlOk V (pv_r (bi "str.__contains__" [.str x t, .str ⟨#[c]⟩ u]) (.bool b) n i g) := by
  intro A _ l G s S R HR
  refine codeAny_call_builtin F.slot_str_contains.plain F.entry_str_contains (F.slot_str_contains.check _ _ _ _ _ _ _ _ (T := "str") (typeIs_str _ _ _) (F.args_str_contains_2 _ _) (gives_str_contains _ _ _ _ V.prog V.w A R s ?_))
  rw [StrLaws.found_one, h]
  exact HR _ S
theorem ne_ok {V : XV} {a b : Int} {t u : Tok} {r : Bool} {n i g : Nat} (h : (a != b) = r) : RlOk V (pv_r (bi "int.__ne__" [.int a t, .int b u]) (.bool r) n i g) := by
  intro A _ b G s S R HR
  refine codeAny_call_builtin F.slot_int_ne.plain F.entry_int_ne (F.slot_int_ne.check _ _ _ _ _ _ _ _ (T := "int") (typeIs_int _ _ _) (F.args_int_ne_2 _ _) (gives_int_ne _ _ _ _ V.prog V.w A R s ?_))
  rw [h]
  exact HR _ S
theorem lt_ok {V : XV} {a b : Int} {t u : Tok} {r : Bool} {n i g : Nat} (h : decide (a < b) = r) : RlOk V (pv_r (bi "int.__lt__" [.int a t, .int b u]) (.bool r) n i g) := by
  intro A _ b G s S R HR
  refine codeAny_call_builtin F.slot_int_lt.plain F.entry_int_lt (F.slot_int_lt.check _ _ _ _ _ _ _ _ (T := "int") (typeIs_int _ _ _) (F.args_int_lt_2 _ _) (gives_int_lt _ _ _ _ V.prog V.w A R s ?_))
  rw [h]
  exact HR _ S
noncomputable def subS (x : List Nat) (a b : Nat) : List Nat := (x.drop a).take (b - a)
noncomputable def ss_r (x : List Nat) (tx : Tok) (sa : Addr) (a : Nat) (ta : Tok) (b : Option (Nat × Tok)) (y : List Nat) (n i g : Nat) : Rl :=
  ⟨bi "str.__getitem__" [.str ⟨x.toArray⟩ tx, .ref sa], [(sa, oIt "slice" [.int (Int.ofNat a) ta, (match b with | none => .none | some b => .int (Int.ofNat b.1) b.2), .none])], n + 305, i, g, .str ⟨y.toArray⟩ i,
    [(sa, oIt "slice" [.int (Int.ofNat a) ta, (match b with | none => .none | some b => .int (Int.ofNat b.1) b.2), .none])], n + 305, i + 1, g, 0, true⟩
theorem ss_ok {V : XV} {x : List Nat} {tx : Tok} {sa : Addr} {a : Nat} {ta : Tok} {b : Option (Nat × Tok)} {y : List Nat} {n i g : Nat} (hab : a ≤ (b.map (·.1)).getD x.length) (hb : (b.map (·.1)).getD x.length ≤ x.length) (hw : (b.map (·.1)).getD x.length - a ≠ x.length) (hx : x.length ≤ 1000)
    (hy : subS x a ((b.map (·.1)).getD x.length) = y) : RlOk V (ss_r x tx sa a ta b y n i g) := by
  intro A _ l G s S R HR
  have et : s.toks = i := S.toks
  have ho := S.led (sa, _) List.mem_cons_self
  have hsl : s.heap.IsSlice sa (some (Int.ofNat a, ta)) (b.map fun b => (Int.ofNat b.1, b.2)) none := ⟨_, ho, rfl, by cases b <;> rfl⟩
  refine codeAny_call_builtin F.slot_str_getitem.plain F.entry_str_getitem (F.slot_str_getitem.check _ _ _ _ _ _ _ _ (T := "str") (typeIs_str _ _ _) (F.args_str_getitem_2 _ _) (meets_str_getitem_slice _ _ _ _ _ _ rfl V.prog V.w A R s ⟨hsl, ?_⟩))
  have e0 : slicePicked ⟨x.toArray⟩ (some (Int.ofNat a, ta)) (b.map fun b => (Int.ofNat b.1, b.2)) none = strSliceIndices (some (a : Int)) (some (((b.map (·.1)).getD x.length : Nat) : Int)) 1 (⟨x.toArray⟩ : Str).length := by
    unfold slicePicked
    cases b with
    | some b => rfl
    | none =>
      have hl : (⟨x.toArray⟩ : Str).length = x.length := by show x.toArray.size = x.length; simp
      simp only [Option.map_none, Option.getD_none, Option.map_some, Int.ofNat_eq_natCast, hl]
      have h2 : ¬ (((x.length : Nat) : Int) < 0) := by omega
      have e2 : max (0 : Int) (min ((x.length : Nat) : Int) ((x.length : Nat) : Int)) = x.length := by omega
      simp only [strSliceIndices, h2, if_false, e2, show ((1 : Int) > 0) = True from by simp, if_true]
  have hl : (⟨x.toArray⟩ : Str).length = x.length := by show x.toArray.size = x.length; simp
  have e1 : (slicePicked ⟨x.toArray⟩ (some (Int.ofNat a, ta)) (b.map fun b => (Int.ofNat b.1, b.2)) none).length = (b.map (·.1)).getD x.length - a := by
    rw [e0, hl, StrLaws.strSliceIndices_plain hab hb]
    simp
  have e2 : sliceMade ⟨x.toArray⟩ tx (some (Int.ofNat a, ta)) (b.map fun b => (Int.ofNat b.1, b.2)) none = .str ⟨y.toArray⟩ := by
    unfold sliceMade
    rw [e1, hl]
    have : ((b.map (·.1)).getD x.length - a == x.length) = false := by simpa using hw
    rw [this]
    simp only [Bool.and_false, Bool.false_eq_true, if_false]
    rw [e0, StrLaws.sliced_plain ⟨x.toArray⟩ hab (by rw [hl]; exact hb), ← hy]
    rfl
  rw [e2]
  refine ⟨?_, ?_⟩
  · show y.toArray.size ≤ sizeLine
    have : y.length ≤ x.length := by rw [← hy]; simp [subS]; omega
    have h3 : (1000 : Nat) ≤ sizeLine := by decide
    simp only [List.size_toArray]
    omega
  · have z := HR _ (S.tok 1)
    simp only [et] at z ⊢
    exact z
noncomputable def je_r (t : Tok) (l : Addr) (y : Array Value) (z : Str) (e : Nat) (n i g : Nat) : Rl :=
  ⟨bi "str.join" [.str ⟨#[]⟩ t, .ref l], [(l, oSeq "list" y e)], n + 305, i, g, .str z i, [(l, oSeq "list" y e)], n + 305, i + 1, g, 0, true⟩
noncomputable def strsL (l : List (List Nat)) : List Str := l.map fun x => ⟨x.toArray⟩
theorem gl_fold : ∀ (l : List (List Nat)) (acc : Array Nat), (strsL l).foldl (fun acc p => acc ++ (⟨#[]⟩ : Str).cps ++ p.cps) acc = acc ++ l.flatten.toArray := by
  intro l
  induction l with
  | nil => intro acc; simp [strsL]
  | cons x l ih =>
    intro acc
    have := ih (acc ++ (⟨#[]⟩ : Str).cps ++ x.toArray)
    simp only [strsL, List.map_cons, List.foldl_cons] at this ⊢
    rw [this]
    simp
theorem gl_flat (l : List (List Nat)) : glued ⟨#[]⟩ (strsL l) = ⟨l.flatten.toArray⟩ := by
  unfold glued
  cases l with
  | nil => simp [strsL, Str.empty]
  | cons x l =>
    have := gl_fold l x.toArray
    simp only [strsL, List.map_cons, List.drop_succ_cons, List.drop_zero, List.headD_cons] at this ⊢
    rw [this]
    simp
theorem ln_fold : ∀ (l : List (List Nat)) (k : Nat), (strsL l).foldl (fun a p => a + p.length + 0) k = k + l.flatten.length := by
  intro l
  induction l with
  | nil => intro k; simp [strsL]
  | cons x l ih =>
    intro k
    have := ih (k + x.length)
    simp only [strsL, List.map_cons, List.foldl_cons, Nat.add_zero] at this ⊢
    have e : (⟨x.toArray⟩ : Str).length = x.length := by show x.toArray.size = x.length; simp
    rw [e, this]
    simp
    omega
theorem je_ok {V : XV} {t : Tok} {l : Addr} {y : Array Value} {q : List (Str × Tok)} {z : List (List Nat)} {e n i g : Nat} (hy : y = (strValues q).toArray) (hz : q.map (·.1) = strsL z) (hq : z.length ≠ 1) (H : z.flatten.length ≤ 5000) : RlOk V (je_r t l y ⟨z.flatten.toArray⟩ e n i g) := by
  intro A _ b G s S R HR
  subst hy
  have hl : s.heap.get? l = some (oSeq "list" (strValues q).toArray e) := S.led (l, _) (List.mem_cons_self)
  have hI : s.heap.IsList l (strValues q).toArray := ⟨_, hl, rfl, e, rfl⟩
  have hql : q.length = z.length := by
    have := congrArg List.length hz
    simpa [strsL] using this
  have e1 : joinMade ⟨#[]⟩ q = .str (glued ⟨#[]⟩ (q.map (·.1))) := by
    rcases q with _ | ⟨q1, _ | ⟨q2, q⟩⟩
    · rfl
    · exact absurd hql.symm hq
    · rfl
  have h3 : (5000 : Nat) ≤ sizeLine := by decide
  have hT : tooLong ((q.map (·.1)).toArray.foldl (· + ·.length + (⟨#[]⟩ : Str).length) 0) = false := by
    rw [hz, List.foldl_toArray]
    have z3 : (strsL z).foldl (fun a p => a + p.length + (⟨#[]⟩ : Str).length) 0 = 0 + z.flatten.length := ln_fold z 0
    rw [z3]
    simp only [tooLong, decide_eq_false_iff_not]
    omega
  refine codeAny_call_builtin F.slot_str_join.plain F.entry_str_join (F.slot_str_join.check _ _ _ _ _ _ _ _ (T := "str") (typeIs_str _ _ _) (F.args_str_join_2 _ _) (meets_str_join_list ⟨#[]⟩ t l q hT V.prog V.w A R s ⟨hI, ?_⟩))
  rw [e1, hz, gl_flat]
  refine ⟨?_, ?_⟩
  · show z.flatten.toArray.size ≤ sizeLine
    simp only [List.size_toArray]
    omega
  have et : s.toks = i := S.toks
  have z := HR _ (S.tok 1)
  simp only [et] at z ⊢
  exact z
noncomputable def j1_r (t : Tok) (l : Addr) (x : Str) (u : Tok) (e : Nat) (n i g : Nat) : Rl :=
  ⟨bi "str.join" [.str ⟨#[]⟩ t, .ref l], [(l, oSeq "list" #[.str x u] e)], n + 305, i, g, .str x u, [(l, oSeq "list" #[.str x u] e)], n + 305, i, g, 0, true⟩
theorem j1_ok {V : XV} {t : Tok} {l : Addr} {x : Str} {u : Tok} {e n i g : Nat} (h : x.length ≤ 1000) : RlOk V (j1_r t l x u e n i g) := by
  intro A _ b G s S R HR
  have hl : s.heap.get? l = some (oSeq "list" (strValues [(x, u)]).toArray e) := S.led (l, _) (List.mem_cons_self)
  have hI : s.heap.IsList l (strValues [(x, u)]).toArray := ⟨_, hl, rfl, e, rfl⟩
  refine codeAny_call_builtin F.slot_str_join.plain F.entry_str_join (F.slot_str_join.check _ _ _ _ _ _ _ _ (T := "str") (typeIs_str _ _ _) (F.args_str_join_2 _ _) (meets_str_join_list ⟨#[]⟩ t l [(x, u)] ?_ V.prog V.w A R s ⟨hI, HR _ S⟩))
  have h3 : (1000 : Nat) ≤ sizeLine := by decide
  simp [tooLong]
  show x.length + (⟨#[]⟩ : Str).length ≤ sizeLine
  have : (⟨#[]⟩ : Str).length = 0 := rfl
  omega
end Mine
end
section
open PySem PySem.W PySem.W.X PySem.Builtin.Str
namespace Mine
noncomputable def opV : Option (Nat × Tok) → Value
  | none => .none
  | some k => .int (Int.ofNat k.1) k.2
noncomputable def stF (t : Nat → Tok) (a1 : Nat) (x : List Nat) (tx : Tok) (start : Nat) (op : Option (Nat × Tok)) (o : Option ((Tok × Value) × (Tok × Value))) : List (Str × Tok × Value) :=
  [(sAddr, t 0, .str ⟨x.toArray⟩ tx), (sStart, t 1, .int (Int.ofNat start) (t 2)), (sOpen, t 3, opV op), (sResult, t 4, .ref (a1 + 305))] ++
    (match o with | none => [] | some z => [(sPos, z.1.1, z.1.2), (sCh, z.2.1, z.2.2)])
noncomputable def stC (p : Params) (a0 ga : Nat) : Code := loopC p 262 [4] (fnEnv p 262 (Str.ofString "_strip_quoted_realnames.<locals>.") a0 []) ga
noncomputable def stL (p : Params) (a0 a1 ga : Nat) (t : Nat → Tok) (x : List Nat) (tx : Tok) (start : Nat) (op : Option (Nat × Tok)) (o : Option ((Tok × Value) × (Tok × Value))) (y : Array Value) (e : Nat → Nat) (gd : Nat) (u1 u2 : Tok) (Lt : Led) : Led :=
  (a0 + 305, oFrm (dEs p (stF t a1 x tx start op o)) (e 0)) :: (a1 + 305, oSeq "list" y (e 1)) :: (ga + 305, genO gd u1 u2) :: Lt
section
variable {V : XV} (a0 a1 ga : Nat) (x : List Nat) (tx : Tok) (gd : Nat) (u : Unit2) (us : List Unit2) (hasc : (x.all fun c => Nat.blt c 128) = true) (t : Nat → Tok) (start : Nat) (o : Option ((Tok × Value) × (Tok × Value))) (y : Array Value) (e : Nat → Nat) (u1 u2 : Tok) (Lt : Led) (K : Gl) (n i g : Nat) (P : PostH) (S : GenS V x tx gd ga u1 u2 (u :: us) Lt K)
include hasc S
theorem st_other (op : Option (Nat × Tok)) (hu : (u.2 == [34]) = false)
    (H : ∀ t' o' e' u1' u2' Lt' K' n' i' g', GenS V x tx gd ga u1' u2' us Lt' K' → CallsT V 300 (stC V.w.params a0 ga) (stL V.w.params a0 a1 ga t' x tx start op (some o') y e' gd u1' u2' Lt') K' n' i' g' P) :
    CallsT V 300 (stC V.w.params a0 ga) (stL V.w.params a0 a1 ga t x tx start op o y e gd u1 u2 Lt) K n i g P := by
  intro A Q B F G Bk
  have O : (cxR (reV V A Q) 300 []).Ok := B.okR (by decide) trivial
  have C := ((gen_next hasc S n i g).re A Q).codeH B
  refine @run_codeH (cxR (reV V A Q) 300 _) O _ 2 (unp 2 0x3) [2] 3 250 _ _ F _ G _ _ _ _ C (by kernel_rfl) (hid6 ?_)
  intro Kq hKq
  rintro r L1 G1 n1 i1 g1 hx
  refine ex6 hx ?_
  clear hx
  rintro rr tp ty u1' u2' Lt' ⟨rfl, rfl, hS⟩
  refine hKq _ _ _ _ _ _ ?_
  have O2 : (cxR (reV V A Q) 300 [sq_r ⟨u.2.toArray⟩ qt ty (i1 + 2) false (n1 + 3) (i1 + 3) g1]).Ok := B.okR (by decide) ⟨sq_ok (by show (u.2 == [34]) = false; exact hu), trivial⟩
  cases o with
  | none =>
    intro sq
    exact @run_to (cxR (reV V A Q) 300 _) O2 _ 69 (unp 41 0x41ffc11041001040010411010410410440410410411010410410c10c30c4) [3, 4, 6] 7 [] 0 (stC V.w.params a0 ga) .base (startF (stC V.w.params a0 ga)) _ _ _ _ _ (by decide) (by kernel_rfl)
      (H (lk [t 0, t 1, t 2, t 3, t 4]) ((i1, .int (Int.ofNat u.1) tp), (i1 + 1, .str ⟨u.2.toArray⟩ ty)) (lk [e 0 + 2, e 1]) u1' u2' Lt' G1 (n1 + 3) (i1 + 3) g1 hS A Q B F G Bk)
  | some o =>
    intro sq
    exact @run_to (cxR (reV V A Q) 300 _) O2 _ 69 (unp 41 0x41ffc11041001040010411010410410440410410411010410410c10c30c4) [3, 4, 6] 7 [] 0 (stC V.w.params a0 ga) .base (startF (stC V.w.params a0 ga)) _ _ _ _ _ (by decide) (by kernel_rfl)
      (H (lk [t 0, t 1, t 2, t 3, t 4]) ((o.1.1, .int (Int.ofNat u.1) tp), (o.2.1, .str ⟨u.2.toArray⟩ ty)) (lk [e 0, e 1]) u1' u2' Lt' G1 (n1 + 3) (i1 + 3) g1 hS A Q B F G Bk)
theorem st_open (hu : (u.2 == [34]) = true)
    (H : ∀ t' o' tp' e' u1' u2' Lt' K' n' i' g', GenS V x tx gd ga u1' u2' us Lt' K' → CallsT V 300 (stC V.w.params a0 ga) (stL V.w.params a0 a1 ga t' x tx start (some (u.1, tp')) (some o') y e' gd u1' u2' Lt') K' n' i' g' P) :
    CallsT V 300 (stC V.w.params a0 ga) (stL V.w.params a0 a1 ga t x tx start none o y e gd u1 u2 Lt) K n i g P := by
  intro A Q B F G Bk
  have O : (cxR (reV V A Q) 300 []).Ok := B.okR (by decide) trivial
  have C := ((gen_next hasc S n i g).re A Q).codeH B
  refine @run_codeH (cxR (reV V A Q) 300 _) O _ 2 (unp 2 0x3) [2] 3 250 _ _ F _ G _ _ _ _ C (by kernel_rfl) (hid6 ?_)
  intro Kq hKq
  rintro r L1 G1 n1 i1 g1 hx
  refine ex6 hx ?_
  clear hx
  rintro rr tp ty u1' u2' Lt' ⟨rfl, rfl, hS⟩
  refine hKq _ _ _ _ _ _ ?_
  have O2 : (cxR (reV V A Q) 300 [sq_r ⟨u.2.toArray⟩ qt ty (i1 + 2) true (n1 + 3) (i1 + 3) g1]).Ok := B.okR (by decide) ⟨sq_ok (by show (u.2 == [34]) = true; exact hu), trivial⟩
  cases o with
  | none =>
    intro sq
    exact @run_to (cxR (reV V A Q) 300 _) O2 _ 83 (unp 46 0x410010441ffc11041001040010411010410410440410410411010410410c10c30c4) [3, 4, 6] 7 [] 0 (stC V.w.params a0 ga) .base (startF (stC V.w.params a0 ga)) _ _ _ _ _ (by decide) (by kernel_rfl)
      (H (lk [t 0, t 1, t 2, t 3, t 4]) ((i1, .int (Int.ofNat u.1) tp), (i1 + 1, .str ⟨u.2.toArray⟩ ty)) tp (lk [e 0 + 2, e 1]) u1' u2' Lt' G1 (n1 + 3) (i1 + 4) g1 hS A Q B F G Bk)
  | some o =>
    intro sq
    exact @run_to (cxR (reV V A Q) 300 _) O2 _ 83 (unp 46 0x410010441ffc11041001040010411010410410440410410411010410410c10c30c4) [3, 4, 6] 7 [] 0 (stC V.w.params a0 ga) .base (startF (stC V.w.params a0 ga)) _ _ _ _ _ (by decide) (by kernel_rfl)
      (H (lk [t 0, t 1, t 2, t 3, t 4]) ((o.1.1, .int (Int.ofNat u.1) tp), (o.2.1, .str ⟨u.2.toArray⟩ ty)) tp (lk [e 0, e 1]) u1' u2' Lt' G1 (n1 + 3) (i1 + 4) g1 hS A Q B F G Bk)
theorem st_same (op : Nat) (top : Tok) (hu : (u.2 == [34]) = true) (hs : start = op)
    (H : ∀ t' o' e' u1' u2' Lt' K' n' i' g', GenS V x tx gd ga u1' u2' us Lt' K' → CallsT V 300 (stC V.w.params a0 ga) (stL V.w.params a0 a1 ga t' x tx (u.1 + 1) none (some o') y e' gd u1' u2' Lt') K' n' i' g' P) :
    CallsT V 300 (stC V.w.params a0 ga) (stL V.w.params a0 a1 ga t x tx start (some (op, top)) o y e gd u1 u2 Lt) K n i g P := by
  intro A Q B F G Bk
  have O : (cxR (reV V A Q) 300 []).Ok := B.okR (by decide) trivial
  have C := ((gen_next hasc S n i g).re A Q).codeH B
  refine @run_codeH (cxR (reV V A Q) 300 _) O _ 2 (unp 2 0x3) [2] 3 250 _ _ F _ G _ _ _ _ C (by kernel_rfl) (hid6 ?_)
  intro Kq hKq
  rintro r L1 G1 n1 i1 g1 hx
  refine ex6 hx ?_
  clear hx
  rintro rr tp ty u1' u2' Lt' ⟨rfl, rfl, hS⟩
  refine hKq _ _ _ _ _ _ ?_
  have O2 : (cxR (reV V A Q) 300 [sq_r ⟨u.2.toArray⟩ qt ty (i1 + 2) true (n1 + 3) (i1 + 3) g1, pv_r (bi "int.__ne__" [.int (Int.ofNat start) (t 2), .int (Int.ofNat op) top]) (.bool false) (n1 + 3) (i1 + 3) g1]).Ok := B.okR (by decide) ⟨sq_ok (by show (u.2 == [34]) = true; exact hu), ne_ok (by subst hs; simp), trivial⟩
  cases o with
  | none =>
    intro sq
    exact @run_to (cxR (reV V A Q) 300 _) O2 _ 105 (unp 55 0x1040041001117ff04410441ffc11041001040010411010410410440410410411010410410c10c30c4) [3, 4, 6] 7 [] 0 (stC V.w.params a0 ga) .base (startF (stC V.w.params a0 ga)) _ _ _ _ _ (by decide) (by kernel_rfl)
      (H (lk [t 0, t 1, i1 + 4, t 3, t 4]) ((i1, .int (Int.ofNat u.1) tp), (i1 + 1, .str ⟨u.2.toArray⟩ ty)) (lk [e 0 + 2, e 1]) u1' u2' Lt' G1 (n1 + 3) (i1 + 7) g1 hS A Q B F G Bk)
  | some o =>
    intro sq
    exact @run_to (cxR (reV V A Q) 300 _) O2 _ 105 (unp 55 0x1040041001117ff04410441ffc11041001040010411010410410440410410411010410410c10c30c4) [3, 4, 6] 7 [] 0 (stC V.w.params a0 ga) .base (startF (stC V.w.params a0 ga)) _ _ _ _ _ (by decide) (by kernel_rfl)
      (H (lk [t 0, t 1, i1 + 4, t 3, t 4]) ((o.1.1, .int (Int.ofNat u.1) tp), (o.2.1, .str ⟨u.2.toArray⟩ ty)) (lk [e 0, e 1]) u1' u2' Lt' G1 (n1 + 3) (i1 + 7) g1 hS A Q B F G Bk)
theorem st_cut (op : Nat) (top : Tok) (hu : (u.2 == [34]) = true) (hs : start < op) (ho : op < x.length) (hx : x.length ≤ 1000) (hy : y.size ≤ 100)
    (H : ∀ t' o' ty' e' u1' u2' Lt' K' n' i' g', GenS V x tx gd ga u1' u2' us Lt' K' → CallsT V 300 (stC V.w.params a0 ga) (stL V.w.params a0 a1 ga t' x tx (u.1 + 1) none (some o') (y.push (.str ⟨(subS x start op).toArray⟩ ty')) e' gd u1' u2' Lt') K' n' i' g' P) :
    CallsT V 300 (stC V.w.params a0 ga) (stL V.w.params a0 a1 ga t x tx start (some (op, top)) o y e gd u1 u2 Lt) K n i g P := by
  intro A Q B F G Bk
  have O : (cxR (reV V A Q) 300 []).Ok := B.okR (by decide) trivial
  have C := ((gen_next hasc S n i g).re A Q).codeH B
  refine @run_codeH (cxR (reV V A Q) 300 _) O _ 2 (unp 2 0x3) [2] 3 250 _ _ F _ G _ _ _ _ C (by kernel_rfl) (hid6 ?_)
  intro Kq hKq
  rintro r L1 G1 n1 i1 g1 hx
  refine ex6 hx ?_
  clear hx
  rintro rr tp ty u1' u2' Lt' ⟨rfl, rfl, hS⟩
  refine hKq _ _ _ _ _ _ ?_
  have O2 : (cxR (reV V A Q) 300 [sq_r ⟨u.2.toArray⟩ qt ty (i1 + 2) true (n1 + 3) (i1 + 3) g1, pv_r (bi "int.__ne__" [.int (Int.ofNat start) (t 2), .int (Int.ofNat op) top]) (.bool true) (n1 + 3) (i1 + 3) g1, ss_r x tx (n1 + 3 + 305) start (t 2) (some (op, top)) (subS x start op) (n1 + 4) (i1 + 3) g1, app_r (a1 + 305) y (e 1) (.str ⟨(subS x start op).toArray⟩ (i1 + 3)) (n1 + 4) (i1 + 4) g1]).Ok := B.okR (by decide) ⟨sq_ok (by show (u.2 == [34]) = true; exact hu), ne_ok (by simp; omega), ss_ok (b := some (op, top)) (by simp; omega) (by simp; omega) (by simp; omega) hx rfl, app_ok hy, trivial⟩
  cases o with
  | none =>
    intro sq
    exact @run_to (cxR (reV V A Q) 300 _) O2 _ 126 (unp 71 0x1860061801854dffc049ffc41041451451117ff04410441ffc11041001040010411010410410440410410411010410410c10c30c4) [5, 0, 7] 8 [] 0 (stC V.w.params a0 ga) .base (startF (stC V.w.params a0 ga)) _ _ _ _ _ (by decide) (by kernel_rfl)
      (H (lk [t 0, t 1, i1 + 5, t 3, t 4]) ((i1, .int (Int.ofNat u.1) tp), (i1 + 1, .str ⟨u.2.toArray⟩ ty)) (i1 + 3) (lk [e 0 + 2, e 1 + 1]) u1' u2' Lt' G1 (n1 + 4) (i1 + 8) g1 hS A Q B F G Bk)
  | some o =>
    intro sq
    exact @run_to (cxR (reV V A Q) 300 _) O2 _ 126 (unp 71 0x1860061801854dffc049ffc41041451451117ff04410441ffc11041001040010411010410410440410410411010410410c10c30c4) [5, 0, 7] 8 [] 0 (stC V.w.params a0 ga) .base (startF (stC V.w.params a0 ga)) _ _ _ _ _ (by decide) (by kernel_rfl)
      (H (lk [t 0, t 1, i1 + 5, t 3, t 4]) ((o.1.1, .int (Int.ofNat u.1) tp), (o.2.1, .str ⟨u.2.toArray⟩ ty)) (i1 + 3) (lk [e 0, e 1 + 1]) u1' u2' Lt' G1 (n1 + 4) (i1 + 8) g1 hS A Q B F G Bk)
omit S in
theorem st_end (S : GenS V x tx gd ga u1 u2 [] Lt K) (hx : x ≠ []) (op : Option (Nat × Tok))
    (H : P (.ok .next) [(a0 + 305, oFrm (dEs V.w.params (stF t a1 x tx start op o)) (e 0)), (a1 + 305, oSeq "list" y (e 1))] [(gd, .fin)] 0 0 0) (HP : ∀ r L G n i g n' i' g', P r L G n i g → P r L G n' i' g') :
    CallsT V 300 (stC V.w.params a0 ga) (stL V.w.params a0 a1 ga t x tx start op o y e gd u1 u2 Lt) K n i g P := by
  intro A Q B F G Bk
  have O : (cxR (reV V A Q) 300 []).Ok := B.okR (by decide) trivial
  have C := ((gen_end hx S n i g).re A Q).codeH B
  refine @run_codeH (cxR (reV V A Q) 300 _) O _ 2 (unp 2 0x3) [2] 3 250 _ _ F _ G _ _ _ _ C (by kernel_rfl) (hid6 ?_)
  intro Kq hKq
  rintro r L1 G1 n1 i1 g1 ⟨rr, rfl, rfl, rfl⟩
  refine hKq _ _ _ _ _ _ ?_
  have BK := Bk _ _ _ n1 i1 g1 (HP _ _ _ _ _ _ _ _ _ H)
  cases o with
  | none =>
    intro sq
    exact @run_end (cxR (reV V A Q) 300 _) O _ 2 (unp 2 0x3) [0, 1] 3 [] 0 .base .next _ _ _ _ _ (by decide) (by kernel_rfl) BK
  | some o =>
    intro sq
    exact @run_end (cxR (reV V A Q) 300 _) O _ 2 (unp 2 0x3) [0, 1] 3 [] 0 .base .next _ _ _ _ _ (by decide) (by kernel_rfl) BK
end
structure SS where
  start : Nat
  op : Option Nat
  res : List (List Nat)
noncomputable def stStep (x : List Nat) (s : SS) (u : Unit2) : SS := match u.2 == [34] with
  | false => s
  | true => match s.op with
    | none => ⟨s.start, some u.1, s.res⟩
    | some o => ⟨u.1 + 1, none, match Nat.beq s.start o with
      | true => s.res
      | false => s.res ++ [subS x s.start o]⟩
noncomputable def stOk (x : List Nat) : List Unit2 → SS → Prop
  | [], _ => True
  | u :: us, s => (match u.2 == [34], s.op with
    | true, some o => s.start ≤ o ∧ o < x.length ∧ s.res.length ≤ 50
    | _, _ => True) ∧ stOk x us (stStep x s u)
noncomputable def stP (p : Params) (a0 a1 : Nat) (x : List Nat) (tx : Tok) (gd : Nat) (s : SS) : PostH := fun r L' G' _ _ _ => r = .ok .next ∧ G' = [(gd, .fin)] ∧ ∃ (t : Nat → Tok) (op : Option (Nat × Tok)) (o : Option ((Tok × Value) × (Tok × Value))) (e : Nat → Nat) (q : List (Str × Tok)), q.map (·.1) = strsL s.res ∧
  L' = [(a0 + 305, oFrm (dEs p (stF t a1 x tx s.start op o)) (e 0)), (a1 + 305, oSeq "list" (strValues q).toArray (e 1))]
theorem st_loop {V : XV} (a0 a1 ga : Nat) (x : List Nat) (tx : Tok) (gd : Nat) (hasc : (x.all fun c => Nat.blt c 128) = true) (hx0 : x ≠ []) (hx : x.length ≤ 1000) : ∀ (us : List Unit2) (s : SS), stOk x us s → ∀ (t : Nat → Tok) (op : Option (Nat × Tok)), op.map (·.1) = s.op → ∀ (o : Option ((Tok × Value) × (Tok × Value))) (q : List (Str × Tok)), q.map (·.1) = strsL s.res → ∀ (e : Nat → Nat) (u1 u2 : Tok) (Lt : Led) (K : Gl) (n i g : Nat), GenS V x tx gd ga u1 u2 us Lt K →
    CallsT V 300 (stC V.w.params a0 ga) (stL V.w.params a0 a1 ga t x tx s.start op o (strValues q).toArray e gd u1 u2 Lt) K n i g (stP V.w.params a0 a1 x tx gd (us.foldl (stStep x) s)) := by
  intro us
  induction us with
  | nil =>
    intro s hok t op hop o q hq e u1 u2 Lt K n i g S
    exact st_end a0 a1 ga x tx gd hasc t s.start o (strValues q).toArray e u1 u2 Lt K n i g _ S hx0 op ⟨rfl, rfl, t, op, o, e, q, hq, rfl⟩ fun r L G n i g n' i' g' h => h
  | cons u us ih =>
    intro s hok t op hop o q hq e u1 u2 Lt K n i g S
    have hql : q.length = s.res.length := by
      have := congrArg List.length hq
      simpa [strsL] using this
    have hys : (strValues q).toArray.size = s.res.length := by simp [strValues, hql]
    obtain ⟨h1, h2⟩ := hok
    rw [List.foldl_cons]
    cases hu : u.2 == [34] with
    | false =>
      have es : stStep x s u = s := by unfold stStep; rw [hu]
      rw [es] at h2 ⊢
      exact st_other a0 a1 ga x tx gd u us hasc t s.start o (strValues q).toArray e u1 u2 Lt K n i g _ S op hu fun t' o' e' u1' u2' Lt' K' n' i' g' S' => ih s h2 t' op hop (some o') q hq e' u1' u2' Lt' K' n' i' g' S'
    | true =>
      cases op with
      | none =>
        have hop' : s.op = none := hop.symm
        have es : stStep x s u = ⟨s.start, some u.1, s.res⟩ := by unfold stStep; rw [hu, hop']
        rw [es] at h2 ⊢
        exact st_open a0 a1 ga x tx gd u us hasc t s.start o (strValues q).toArray e u1 u2 Lt K n i g _ S hu fun t' o' tp' e' u1' u2' Lt' K' n' i' g' S' => ih _ h2 t' (some (u.1, tp')) rfl (some o') q hq e' u1' u2' Lt' K' n' i' g' S'
      | some op =>
        have hop' : s.op = some op.1 := hop.symm
        rw [hu, hop'] at h1
        simp only at h1
        obtain ⟨ha, hb, hc⟩ := h1
        cases hbq : Nat.beq s.start op.1 with
        | true =>
          have es : stStep x s u = ⟨u.1 + 1, none, s.res⟩ := by unfold stStep; rw [hu, hop']; simp only [hbq]
          rw [es] at h2 ⊢
          exact st_same a0 a1 ga x tx gd u us hasc t s.start o (strValues q).toArray e u1 u2 Lt K n i g _ S op.1 op.2 hu (Nat.eq_of_beq_eq_true hbq) fun t' o' e' u1' u2' Lt' K' n' i' g' S' => ih _ h2 t' none rfl (some o') q hq e' u1' u2' Lt' K' n' i' g' S'
        | false =>
          have es : stStep x s u = ⟨u.1 + 1, none, s.res ++ [subS x s.start op.1]⟩ := by unfold stStep; rw [hu, hop']; simp only [hbq]
          rw [es] at h2 ⊢
          have hne : s.start ≠ op.1 := fun e => by rw [e, Nat.beq_refl] at hbq; cases hbq
          refine st_cut a0 a1 ga x tx gd u us hasc t s.start o (strValues q).toArray e u1 u2 Lt K n i g _ S op.1 op.2 hu (by omega) hb hx (by omega) fun t' o' ty' e' u1' u2' Lt' K' n' i' g' S' => ?_
          have ep : (strValues q).toArray.push (.str ⟨(subS x s.start op.1).toArray⟩ ty') = (strValues (q ++ [(⟨(subS x s.start op.1).toArray⟩, ty')])).toArray := by simp [strValues]
          rw [ep]
          exact ih _ h2 t' none rfl (some o') _ (by simp [hq, strsL]) e' u1' u2' Lt' K' n' i' g' S'
end Mine
end
section
open PySem PySem.W PySem.W.X PySem.Builtin.Str
namespace Mine
noncomputable def stEnd (x : List Nat) : SS := (unitsF x 0).foldl (stStep x) ⟨0, none, []⟩
noncomputable def stripF (x : List Nat) : List Nat := ((stEnd x).res ++ [x.drop (stEnd x).start]).flatten
structure StripOk (x : List Nat) : Prop where
  asc : (x.all fun c => Nat.blt c 128) = true
  well : wellE x = true
  len : x.length ≤ 1000
  ok : 34 ∈ x → stOk x (unitsF x 0) ⟨0, none, []⟩ ∧ 0 < (stEnd x).start ∧ (stEnd x).start < x.length ∧ (stEnd x).res.length ≤ 50 ∧ (stripF x).length ≤ 5000
noncomputable def stripR (x : List Nat) : List Nat := match decide (34 ∈ x) with
  | true => stripF x
  | false => x
theorem strip {V : XV} (x : List Nat) (tx : Tok) (H : StripOk x) (n i g : Nat) :
    CallsE V 350 (.call (.ref 262) ⟨[.str ⟨x.toArray⟩ tx], []⟩) [] n i g (fun v L' _ _ _ => ∃ tv, v = .str ⟨(stripR x).toArray⟩ tv ∧ L' = []) := by
  intro A Q B F G Bk
  cases hb : decide (34 ∈ x) with
  | false =>
    have O : (cxR (reV V A Q) 350 [pv_r (bi "str.__contains__" [.str ⟨x.toArray⟩ tx, .str qt (i + 1)]) (.bool false) (n + 1) (i + 2) g]).Ok := B.okR (by decide) ⟨has_ok hb, trivial⟩
    have er : stripR x = x := by unfold stripR; rw [hb]
    rw [er] at Bk
    exact @run_end (cxR (reV V A Q) 350 _) O _ 19 (unp 12 0x141ffc1001040000) [] 1 [] 0 .base (.ret (.str ⟨x.toArray⟩ tx)) _ _ _ _ _ (by decide) (by kernel_rfl) (Bk _ [] (n + 1) (i + 2) g ⟨tx, rfl, rfl⟩)
  | true =>
    have O : (cxR (reV V A Q) 350 [pv_r (bi "str.__contains__" [.str ⟨x.toArray⟩ tx, .str qt (i + 1)]) (.bool true) (n + 1) (i + 2) g]).Ok := B.okR (by decide) ⟨has_ok hb, trivial⟩
    have er : stripR x = stripF x := by unfold stripR; rw [hb]
    rw [er] at Bk
    obtain ⟨hok, h0, h1, h2, h3⟩ := H.ok (of_decide_eq_true hb)
    have hx0 : x ≠ [] := fun e => by subst e; simp at hb
    have S := GenS.fresh (V := V) x H.well tx g (n + 3) (n + 2) (lk [i + 6, 0, 0, 0, i + 7, i + 8]) 1
    have C := (((st_loop (V := V) n (n + 1) (n + 3) x tx g H.asc hx0 H.len (unitsF x 0) ⟨0, none, []⟩ hok (lk [i, i + 3, i + 2, i + 4, i + 5]) none rfl none [] rfl (lk [4, 0]) (i + 7) (i + 8) _ _ (n + 4) (i + 9) (g + 1) S).h (by kernel_rfl) (by decide)).re A Q).codeH B
    refine @run_codeH (cxR (reV V A Q) 350 _) O _ 74 (unp 34 0x104104100104000000200208004100104041ffc1001040000) [3, 2, 0, 0] 4 300 _ _ F _ G _ _ _ _ C (by kernel_rfl) (hid6 ?_)
    intro Kq hKq
    rintro r L1 G1 n1 i1 g1 ⟨rfl, rfl, hx⟩
    refine ex5 hx ?_
    clear hx
    rintro t op o e q ⟨hq, rfl⟩
    refine hKq _ _ _ _ _ _ ?_
    have hl : (⟨x.toArray⟩ : Str).length = x.length := by show x.toArray.size = x.length; simp
    unfold stripF at Bk h3
    unfold stEnd at Bk h0 h1 h2 h3
    generalize (unitsF x 0).foldl (stStep x) ⟨0, none, []⟩ = s at hq Bk h0 h1 h2 h3 ⊢
    have hql : q.length = s.res.length := by
      have := congrArg List.length hq
      simpa [strsL] using this
    have hys : (strValues q).toArray.size ≤ 100 := by simp [strValues, hql]; omega
    have hcut : RlOk (reV V A Q) (ss_r x tx (n1 + 305) s.start (t 2) none (x.drop s.start) (n1 + 1) (i1 + 2) g1) := ss_ok (b := none) (by simp; omega) (by simp) (by simp; omega) H.len (by simp only [subS, Option.map_none, Option.getD_none]; exact List.take_of_length_le (by simp))
    have hlt : RlOk (reV V A Q) (pv_r (bi "int.__lt__" [.int (Int.ofNat s.start) (t 2), .int (Int.ofNat (⟨x.toArray⟩ : Str).length) (i1 + 1)]) (.bool true) n1 (i1 + 2) g1) := lt_ok (by rw [hl]; simp; omega)
    have hlen : RlOk (reV V A Q) (lenS_r ⟨x.toArray⟩ tx n1 i1 g1) := lenS_ok (by rw [hl]; exact H.len)
    have hcs : s.res.length = 0 ∨ s.res.length ≠ 0 := by omega
    cases hcs with
    | inl hq0 =>
      have hq1 : q = [] := List.eq_nil_of_length_eq_zero (by omega)
      have hr1 : s.res = [] := List.eq_nil_of_length_eq_zero hq0
      subst hq1
      rw [hr1] at Bk
      have O2 : (cxR (reV V A Q) 350 [lenS_r ⟨x.toArray⟩ tx n1 i1 g1, pv_r (bi "int.__lt__" [.int (Int.ofNat s.start) (t 2), .int (Int.ofNat (⟨x.toArray⟩ : Str).length) (i1 + 1)]) (.bool true) n1 (i1 + 2) g1, ss_r x tx (n1 + 305) s.start (t 2) none (x.drop s.start) (n1 + 1) (i1 + 2) g1,
          app_r (n + 1 + 305) (strValues []).toArray (e 1) (.str ⟨(x.drop s.start).toArray⟩ (i1 + 2)) (n1 + 1) (i1 + 3) g1, j1_r (i1 + 3) (n + 1 + 305) ⟨(x.drop s.start).toArray⟩ (i1 + 2) (e 1 + 1) (n1 + 1) (i1 + 4) g1]).Ok :=
        B.okR (by decide) ⟨hlen, hlt, hcut, app_ok hys, j1_ok (by show (x.drop s.start).toArray.size ≤ 1000; have := H.len; simp; omega), trivial⟩
      have BK := Bk (.str ⟨(x.drop s.start).toArray⟩ (i1 + 2)) [] (n1 + 1) (i1 + 4) g1 ⟨i1 + 2, by simp, rfl⟩
      cases o with
      | none =>
          intro sq
          exact @run_end (cxR (reV V A Q) 350 _) O2 _ 42 (unp 32 0x51ffc30937ff0127ff0410820820517ff0507ff040001) [] 3 [] 1 .base (.ret (.str ⟨(x.drop s.start).toArray⟩ (i1 + 2))) _ _ _ _ _ (by decide) (by kernel_rfl) BK
      | some o =>
          intro sq
          exact @run_end (cxR (reV V A Q) 350 _) O2 _ 42 (unp 32 0x51ffc30937ff0127ff0410820820517ff0507ff040001) [] 3 [] 1 .base (.ret (.str ⟨(x.drop s.start).toArray⟩ (i1 + 2))) _ _ _ _ _ (by decide) (by kernel_rfl) BK
    | inr hq0 =>
      have hj : RlOk (reV V A Q) (je_r (i1 + 3) (n + 1 + 305) ((strValues q).toArray.push (.str ⟨(x.drop s.start).toArray⟩ (i1 + 2))) ⟨(s.res ++ [x.drop s.start]).flatten.toArray⟩ (e 1 + 1) (n1 + 1) (i1 + 4) g1) :=
        je_ok (q := q ++ [(⟨(x.drop s.start).toArray⟩, i1 + 2)]) (by simp [strValues]) (by simp [strsL, hq]) (by rw [List.length_append]; simp only [List.length_cons, List.length_nil]; omega) h3
      have O2 : (cxR (reV V A Q) 350 [lenS_r ⟨x.toArray⟩ tx n1 i1 g1, pv_r (bi "int.__lt__" [.int (Int.ofNat s.start) (t 2), .int (Int.ofNat (⟨x.toArray⟩ : Str).length) (i1 + 1)]) (.bool true) n1 (i1 + 2) g1, ss_r x tx (n1 + 305) s.start (t 2) none (x.drop s.start) (n1 + 1) (i1 + 2) g1,
          app_r (n + 1 + 305) (strValues q).toArray (e 1) (.str ⟨(x.drop s.start).toArray⟩ (i1 + 2)) (n1 + 1) (i1 + 3) g1, je_r (i1 + 3) (n + 1 + 305) ((strValues q).toArray.push (.str ⟨(x.drop s.start).toArray⟩ (i1 + 2))) ⟨(s.res ++ [x.drop s.start]).flatten.toArray⟩ (e 1 + 1) (n1 + 1) (i1 + 4) g1]).Ok :=
        B.okR (by decide) ⟨hlen, hlt, hcut, app_ok hys, hj, trivial⟩
      have BK := Bk (.str ⟨(s.res ++ [x.drop s.start]).flatten.toArray⟩ (i1 + 4)) [] (n1 + 1) (i1 + 5) g1 ⟨i1 + 4, rfl, rfl⟩
      cases o with
      | none =>
          intro sq
          exact @run_end (cxR (reV V A Q) 350 _) O2 _ 42 (unp 32 0x51ffc30937ff0127ff0410820820517ff0507ff040001) [] 3 [] 1 .base (.ret (.str ⟨(s.res ++ [x.drop s.start]).flatten.toArray⟩ (i1 + 4))) _ _ _ _ _ (by decide) (by kernel_rfl) BK
      | some o =>
          intro sq
          exact @run_end (cxR (reV V A Q) 350 _) O2 _ 42 (unp 32 0x51ffc30937ff0127ff0410820820517ff0507ff040001) [] 3 [] 1 .base (.ret (.str ⟨(s.res ++ [x.drop s.start]).flatten.toArray⟩ (i1 + 4))) _ _ _ _ _ (by decide) (by kernel_rfl) BK
end Mine
end
section
open PySem PySem.W PySem.W.X PySem.Builtin.Str
namespace Mine
theorem str_app (x y : List Nat) : (⟨x.toArray⟩ : Str) ++ ⟨y.toArray⟩ = ⟨(x ++ y).toArray⟩ := by
  show Str.mk (x.toArray ++ y.toArray) = _
  simp
theorem str_len (x : List Nat) : (⟨x.toArray⟩ : Str).length = x.length := by show x.toArray.size = x.length; simp
noncomputable def addL_r (x y : List Nat) (t u : Tok) (n i g : Nat) : Rl := ⟨bi "str.__add__" [.str ⟨x.toArray⟩ t, .str ⟨y.toArray⟩ u], [], n + 305, i, g, .str ⟨(x ++ y).toArray⟩ i, [], n + 305, i + 1, g, 0, true⟩
theorem addL_ok {V : XV} {x y : List Nat} {t u : Tok} {n i g : Nat} (hx : x ≠ []) (hy : y ≠ []) (hl : x.length + y.length ≤ 1000) : RlOk V (addL_r x y t u n i g) := by
  have z := add_ok (V := V) (x := ⟨x.toArray⟩) (y := ⟨y.toArray⟩) (t := t) (u := u) (n := n) (i := i) (g := g) (by rw [str_len]; exact fun e => hx (List.eq_nil_of_length_eq_zero e)) (by rw [str_len]; exact fun e => hy (List.eq_nil_of_length_eq_zero e)) (by
    rw [str_app, str_len, List.length_append]
    exact Nat.le_trans hl (by decide))
  unfold add_r at z
  rw [str_app] at z
  exact z
theorem mul0_ok {V : XV} {x : Str} {z : Int} {t u : Tok} {n i g : Nat} (h : z = 0) : RlOk V ⟨bi "str.__mul__" [.str x t, .int z u], [], n + 305, i, g, .str ⟨#[]⟩ i, [], n + 305, i + 1, g, 0, true⟩ := by
  intro A _ b G s S R HR
  subst h
  have et : s.toks = i := S.toks
  refine codeAny_call_builtin F.slot_str_mul.plain F.entry_str_mul (F.slot_str_mul.check _ _ _ _ _ _ _ _ (T := "str") (typeIs_str _ _ _) (F.args_str_mul_2 _ _) (gives_str_mul _ _ _ _ (by decide) (by intro h; exact absurd (by decide) h) (by intro h; exact absurd (by decide) h) V.prog V.w A R s ?_))
  rw [if_pos (by decide)]
  refine ⟨by decide, ?_⟩
  have z := HR _ (S.tok 1)
  simp only [et] at z ⊢
  exact z
theorem mul1_ok {V : XV} {x : Str} {z : Int} {t u : Tok} {n i g : Nat} (h : z = 1) : RlOk V (pv_r (bi "str.__mul__" [.str x t, .int z u]) (.str x t) n i g) := by
  intro A _ b G s S R HR
  subst h
  refine codeAny_call_builtin F.slot_str_mul.plain F.entry_str_mul (F.slot_str_mul.check _ _ _ _ _ _ _ _ (T := "str") (typeIs_str _ _ _) (F.args_str_mul_2 _ _) (gives_str_mul _ _ _ _ (by decide) (by intro _ h; simp at h) (by intro _ h; simp at h) V.prog V.w A R s ?_))
  rw [if_neg (by decide), if_pos (by simp)]
  exact HR _ S
noncomputable def mul2_r (c : Nat) (k : Nat) (z : Int) (t u : Tok) (n i g : Nat) : Rl := ⟨bi "str.__mul__" [.str ⟨#[c]⟩ t, .int z u], [], n + 305, i, g, .str ⟨(List.replicate k c).toArray⟩ i, [], n + 305, i + 1, g, 0, true⟩
theorem rep_fold (c : Nat) : ∀ (k : Nat) (acc : Array Nat), (List.replicate k (#[c] : Array Nat)).foldl (· ++ ·) acc = acc ++ (List.replicate k c).toArray := by
  intro k
  induction k with
  | zero => intro acc; simp
  | succ k ih =>
    intro acc
    rw [List.replicate_succ, List.foldl_cons, ih]
    apply Array.ext'
    simp [List.replicate_succ]
theorem mul2_ok {V : XV} {c k : Nat} {z : Int} {t u : Tok} {n i g : Nat} (h : z = Int.ofNat k) (h2 : 2 ≤ k) (h3 : k ≤ 100) : RlOk V (mul2_r c k z t u n i g) := by
  intro A _ b G s S R HR
  subst h
  have et : s.toks = i := S.toks
  have h1 : ¬ (Int.ofNat k < 1) := by simp only [Int.ofNat_eq_natCast]; omega
  have hlen : (⟨#[c]⟩ : Str).length = 1 := rfl
  refine codeAny_call_builtin F.slot_str_mul.plain F.entry_str_mul (F.slot_str_mul.check _ _ _ _ _ _ _ _ (T := "str") (typeIs_str _ _ _) (F.args_str_mul_2 _ _) (gives_str_mul _ _ _ _ ?_ ?_ ?_ V.prog V.w A R s ?_))
  · simp only [Int.ofNat_eq_natCast, Bool.or_eq_false_iff, decide_eq_false_iff_not]
    omega
  · intro _ _
    rw [hlen]
    simp only [Int.ofNat_eq_natCast]
    have : (1 : Int) ≤ (2 ^ 63 - 1) / (k : Int) := by
      rw [Int.le_ediv_iff_mul_le (by omega)]
      omega
    show ¬ (((1 : Nat) : Int) > _)
    omega
  · intro _ _
    rw [hlen]
    have h4 : (1000 : Nat) ≤ sizeLine := by decide
    simp only [tooLong, decide_eq_false_iff_not, Int.ofNat_eq_natCast, Int.toNat_natCast]
    omega
  · rw [if_neg h1, if_neg (by simp only [hlen, Int.ofNat_eq_natCast]; simp; omega)]
    have e : (⟨(List.replicate (Int.ofNat k).toNat (⟨#[c]⟩ : Str).cps).foldl (· ++ ·) #[]⟩ : Str) = ⟨(List.replicate k c).toArray⟩ := by
      have := rep_fold c k #[]
      simp only [Int.ofNat_eq_natCast, Int.toNat_natCast]
      rw [this]
      simp
    rw [e]
    refine ⟨?_, ?_⟩
    · rw [str_len, List.length_replicate]
      exact Nat.le_trans h3 (by decide)
    · have z := HR _ (S.tok 1)
      simp only [et] at z ⊢
      exact z
end Mine
end
section
open PySem PySem.W PySem.W.X PySem.Builtin.Str PyProof.Rows
namespace Mine
noncomputable def insN (x : Nat) : List Nat → List Nat
  | [] => [x]
  | y :: l => match Nat.ble x y with
    | true => x :: y :: l
    | false => y :: insN x l
noncomputable def sortN : List Nat → List Nat
  | [] => []
  | x :: l => insN x (sortN l)
theorem insN_perm (x : Nat) : ∀ l, (insN x l).Perm (x :: l)
  | [] => List.Perm.refl _
  | y :: l => by
    unfold insN
    cases Nat.ble x y with
    | true => exact List.Perm.refl _
    | false => exact ((insN_perm x l).cons y).trans (List.Perm.swap x y l)
theorem sortN_perm : ∀ l, (sortN l).Perm l
  | [] => List.Perm.refl _
  | x :: l => (insN_perm x (sortN l)).trans ((sortN_perm l).cons x)
theorem insN_sorted (x : Nat) : ∀ l : List Nat, l.Pairwise (· ≤ ·) → (insN x l).Pairwise (· ≤ ·)
  | [], _ => by simp [insN]
  | y :: l, h => by
    unfold insN
    obtain ⟨h1, h2⟩ := List.pairwise_cons.mp h
    cases hb : Nat.ble x y with
    | true =>
      have hxy := Nat.le_of_ble_eq_true hb
      refine List.pairwise_cons.mpr ⟨fun z hz => ?_, h⟩
      rcases List.mem_cons.mp hz with rfl | hz
      · exact hxy
      · exact Nat.le_trans hxy (h1 z hz)
    | false =>
      have hxy : ¬ x ≤ y := fun e => by rw [Nat.ble_eq_true_of_le e] at hb; cases hb
      refine List.pairwise_cons.mpr ⟨fun z hz => ?_, insN_sorted x l h2⟩
      rcases List.mem_cons.mp ((insN_perm x l).mem_iff.mp hz) with rfl | hz
      · omega
      · exact h1 z hz
theorem sortN_sorted : ∀ l, (sortN l).Pairwise (· ≤ ·)
  | [] => List.Pairwise.nil
  | x :: l => insN_sorted x _ (sortN_sorted l)
theorem ints_of : ∀ (q : List (Nat × Tok)), IntsAre (valsN q) (q.map fun x => Int.ofNat x.1)
  | [] => .nil
  | x :: q => .cons _ _ (ints_of q)
theorem ints_to {vs : List Value} {ns : List Int} (h : IntsAre vs ns) : ∃ p : List (Int × Tok), vs = p.map (fun x => .int x.1 x.2) ∧ p.map (·.1) = ns := by
  induction h with
  | nil => exact ⟨[], rfl, rfl⟩
  | cons n t _ ih =>
    obtain ⟨p, h1, h2⟩ := ih
    exact ⟨(n, t) :: p, by simp [h1], by simp [h2]⟩
theorem sorted_nat {out : List Value} {ns' : List Int} {q : List (Nat × Tok)} (h : IntsAre out ns') (hp : ns'.Perm (q.map fun x => Int.ofNat x.1)) (hs : ns'.Pairwise (· ≤ ·)) : ∃ q' : List (Nat × Tok), out = valsN q' ∧ q'.map (·.1) = sortN (q.map (·.1)) := by
  obtain ⟨p, rfl, rfl⟩ := ints_to h
  have hnn : ∀ x ∈ p, x.1 = Int.ofNat x.1.toNat := by
    intro x hx
    have : x.1 ∈ q.map fun x => Int.ofNat x.1 := hp.mem_iff.mp (List.mem_map_of_mem (f := (·.1)) hx)
    obtain ⟨z, _, hz⟩ := List.mem_map.mp this
    rw [← hz]
    rfl
  refine ⟨p.map fun x => (x.1.toNat, x.2), ?_, ?_⟩
  · simp only [valsN, List.map_map]
    refine List.map_congr_left fun x hx => ?_
    simp only [Function.comp]
    rw [← hnn x hx]
  · rw [List.map_map]
    refine List.Perm.eq_of_pairwise (le := (· ≤ ·)) (fun a b _ _ h1 h2 => Nat.le_antisymm h1 h2) ?_ (sortN_sorted _) ?_
    · have := hs
      rw [List.pairwise_map] at this ⊢
      exact this.imp fun {a b} h => Int.toNat_le_toNat h
    · refine List.Perm.trans ?_ (sortN_perm _).symm
      have := hp.map Int.toNat
      simp only [List.map_map] at this
      have e : (Int.toNat ∘ fun x : Nat × Tok => Int.ofNat x.1) = (·.1) := by
        funext x
        rfl
      rw [e] at this
      exact this
theorem sorted_code {V : XV} (l : Nat) (q : List (Nat × Tok)) (hl : q.length < 64) (m : Nat) (e n i g : Nat) :
    CodeE V m (bi "sorted" [.ref (l + 305)]) [(l + 305, oSeq "list" (valsN q).toArray e)] n i g (fun r L' _ _ _ => ∃ (rr : Nat) (q' : List (Nat × Tok)) (e1 : Nat), r = .ok (.ret (.ref (rr + 305))) ∧ q'.map (·.1) = sortN (q.map (·.1)) ∧
      L' = [(rr + 305, oSeq "list" (valsN q').toArray e1), (l + 305, oSeq "list" (valsN q).toArray e)]) := by
  intro A hA F G s S R HR
  have ez : s.heap.objs.size = n + 305 := S.size
  have ho := S.led (l + 305, _) List.mem_cons_self
  have hL : s.heap.IsList (l + 305) (valsN q).toArray := ⟨_, ho, rfl, e, rfl⟩
  have hvl : (valsN q).length < 64 := by simpa [valsN] using hl
  refine code_fun kind_sorted plain_sorted entry_sorted (args_sorted1 _) ?_
  unfold Builtin.«sorted»
  refine wpAny_bind (m := checkCount "sorted" 1 1 _) (wpAny_pure ?_)
  refine wpAny_bind (collect_list hL ?_)
  refine wpAny_bind (wpAny_newList ?_)
  have hsz : ((s.heap.push (seqObj "list" #[] 0)).update s.heap.objs.size (Obj.mapSeq (· ++ (valsN q).toArray))).objs.size = s.heap.objs.size + 1 := by
    rw [Heap.size_update, size_push']
  have hoL : (((s.heap.push (seqObj "list" #[] 0)).update s.heap.objs.size (Obj.mapSeq (· ++ (valsN q).toArray))).push (seqObj "list" (valsN q).toArray 0)).get? (s.heap.objs.size + 1) = some (seqObj "list" (valsN q).toArray 0) := by
    rw [← hsz]; exact Heap.get?_push_size _ rfl
  show wpAny _ _ _ _ _ { s with heap := ((s.heap.push (seqObj "list" #[] 0)).update s.heap.objs.size (Obj.mapSeq (· ++ (valsN q).toArray))).push (seqObj "list" (valsN q).toArray 0) }
  rw [hsz]
  refine wpAny_bind (wpAny_holding (wpAny_call_entry slot_list_sort ⟨_, hoL, rfl⟩ entry_list_sort (list_sort_tree hoL (ints_of q) hvl fun out ns' a1 a2 a3 => ⟨_, rfl, ?_⟩) (args_list_sort _)))
  refine wpAny_pure ⟨_, rfl, ?_⟩
  obtain ⟨q', h1, h2⟩ := sorted_nat a1 a2 a3
  have S1 := S.alloc (o := oSeq "list" #[] 0) rfl
  have S2 := S1.update (j := 0) (a := n + 305) (o := oSeq "list" #[] 0) (f := Obj.mapSeq (· ++ (valsN q).toArray)) rfl rfl
  have S3 := S2.alloc (o := oSeq "list" (valsN q).toArray 0) rfl
  have S4 := S3.update (j := 0) (a := n + 305 + 1) (o := oSeq "list" (valsN q).toArray 0) (f := Obj.mapSeq fun _ => #[]) rfl rfl
  have S5 := (S4.alloc (o := oSeq "tuple" (valsN q).toArray 0) rfl).alloc (o := oSeq "list" #[] 0) rfl
  have S6 := S5.update (j := 2) (a := n + 305 + 1) (o := Obj.mapSeq (fun _ => #[]) (oSeq "list" (valsN q).toArray 0)) (f := Obj.mapSeq fun _ => out) rfl rfl
  have S7 := S6.pickR 5 0 (idx := [2, 4]) (ig := []) (by decide) (by decide)
  have ho2 : out = (valsN q').toArray := by rw [← h1]
  subst ho2
  have HH := HR (.ok (.ret (.ref (n + 1 + 305)))) [(n + 1 + 305, oSeq "list" (valsN q').toArray _), (l + 305, oSeq "list" (valsN q).toArray e)] (n + 4) i g ⟨n + 1, q', _, rfl, h2, rfl⟩ _ S7
  rw [ez]
  exact HH
end Mine
end
section
open PySem PySem.W PySem.W.X PySem.Builtin.Str
namespace Mine
noncomputable def sEdge : Str := ⟨#[101,100,103,101]⟩
noncomputable def sLast : Str := ⟨#[108,97,115,116]⟩
noncomputable def sAhead : Str := ⟨#[97,104,101,97,100]⟩
noncomputable def sCells : Str := ⟨#[99,101,108,108,115]⟩
example : sEdge = Str.ofString "edge" ∧ sLast = Str.ofString "last" ∧ sAhead = Str.ofString "ahead" ∧ sCells = Str.ofString "cells" := by decide +kernel
noncomputable def tyEnv (p : Params) (a : Nat → Nat) : Env := fnEnv p 286 (Str.ofString "_law_typed.<locals>.") (a 0) [(sAhead, a 2 + 305), (sCells, a 1 + 305)]
noncomputable def egC (p : Params) (a : Nat → Nat) (it : Nat) : Code := loopC p 286 [2] (tyEnv p a) it
noncomputable def tyF (t : Nat → Tok) (sz : Nat) (E : List Nat) (te : Tok) (last : Int) (tl : Tok) (o : Option (Tok × Value)) : List (Str × Tok × Value) :=
  [(sSizes, t 0, .ref (sz + 305)), (sEdge, t 1, .str ⟨E.toArray⟩ te), (sLast, t 2, .int last tl)] ++ dO sSizeN o
noncomputable def egL (p : Params) (a : Nat → Nat) (it li : Nat) (t : Nat → Tok) (sz : Nat) (E : List Nat) (te : Tok) (last : Int) (tl : Tok) (o : Option (Tok × Value)) (j : Nat) (y : Array Value) (e : Nat → Nat) : Led :=
  [(it + 305, oIt "list_iterator" [.ref (li + 305), .int (Int.ofNat j) 0]), (li + 305, oSeq "list" y (e 1)), (a 0 + 305, oFrm (dEs p (tyF t sz E te last tl o)) (e 0))]
noncomputable def edgeF : List Nat → Nat → List Nat
  | [], _ => []
  | s :: r, last => (List.replicate (s - last) 40 ++ [41]) ++ edgeF r s
noncomputable def egH : List Nat := unp 35 0xc30030c30137ff49ffd17ff3dffcf7ff0c30c30c000041ffc1
theorem eg_turn {V : XV} (a : Nat → Nat) (it li : Nat) (t : Nat → Tok) (sz : Nat) (E : List Nat) (te : Tok) (last : Nat) (tl : Tok) (o : Option (Tok × Value)) (j : Nat) (y : Array Value) (e : Nat → Nat) (n i g : Nat) (P : PostG) (x : Nat) (tx : Tok)
    (hy : y[j]? = some (.int (Int.ofNat x) tx)) (hx : last ≤ x) (hE : E ≠ []) (hl : E.length + x ≤ 90)
    (H : ∀ t' te' e' i', CallsS V 250 (egC V.w.params a it) (egL V.w.params a it li t sz (E ++ (List.replicate (x - last) 40 ++ [41])) te' (Int.ofNat x) tx (some (t', .int (Int.ofNat x) tx)) (j + 1) y e') n i' g P) :
    CallsS V 250 (egC V.w.params a it) (egL V.w.params a it li t sz E te (Int.ofNat last) tl o j y e) n i g P := by
  have hd : Int.ofNat x - Int.ofNat last = Int.ofNat (x - last) := by simp only [Int.ofNat_eq_natCast]; omega
  rcases hz : x - last with _ | _ | k
  · rw [hz] at H hd
    cases o with
    | none =>
      exact turn_at [li_r (it + 305) (li + 305) j y (e 1) (.int (Int.ofNat x) tx) n i g, ⟨bi "str.__mul__" [.str ⟨#[40]⟩ (i + 1), .int (Int.ofNat x - Int.ofNat last) (i + 2)], [], n + 305, i + 3, g, .str ⟨#[]⟩ (i + 3), [], n + 305, i + 3 + 1, g, 0, true⟩,
        pv_r (bi "str.__add__" [.str ⟨#[]⟩ (i + 3), .str ⟨#[41]⟩ (i + 4)]) (.str ⟨#[41]⟩ (i + 4)) n (i + 5) g, addL_r E [41] te (i + 4) n (i + 5) g] 54 egH [0, 1, 2] 3 _ _ n (i + 8) g
        (by decide) (fun A Q B => ⟨li_ok hy, mul0_ok hd, addE_ok, addL_ok hE (by simp) (by simp; omega), trivial⟩) (fun A Q F G => by kernel_rfl) (H i (i + 5) (lk [e 0 + 1, e 1]) (i + 8))
    | some o =>
      exact turn_at [li_r (it + 305) (li + 305) j y (e 1) (.int (Int.ofNat x) tx) n i g, ⟨bi "str.__mul__" [.str ⟨#[40]⟩ (i + 1), .int (Int.ofNat x - Int.ofNat last) (i + 2)], [], n + 305, i + 3, g, .str ⟨#[]⟩ (i + 3), [], n + 305, i + 3 + 1, g, 0, true⟩,
        pv_r (bi "str.__add__" [.str ⟨#[]⟩ (i + 3), .str ⟨#[41]⟩ (i + 4)]) (.str ⟨#[41]⟩ (i + 4)) n (i + 5) g, addL_r E [41] te (i + 4) n (i + 5) g] 54 egH [0, 1, 2] 3 _ _ n (i + 8) g
        (by decide) (fun A Q B => ⟨li_ok hy, mul0_ok hd, addE_ok, addL_ok hE (by simp) (by simp; omega), trivial⟩) (fun A Q F G => by kernel_rfl) (H o.1 (i + 5) (lk [e 0, e 1]) (i + 8))
  · rw [hz] at H hd
    cases o with
    | none =>
      exact turn_at [li_r (it + 305) (li + 305) j y (e 1) (.int (Int.ofNat x) tx) n i g, pv_r (bi "str.__mul__" [.str ⟨#[40]⟩ (i + 1), .int (Int.ofNat x - Int.ofNat last) (i + 2)]) (.str ⟨#[40]⟩ (i + 1)) n (i + 3) g,
        addL_r [40] [41] (i + 1) (i + 3) n (i + 4) g, addL_r E [40, 41] te (i + 4) n (i + 5) g] 54 egH [0, 1, 2] 3 _ _ n (i + 8) g
        (by decide) (fun A Q B => ⟨li_ok hy, mul1_ok hd, addL_ok (by simp) (by simp) (by decide), addL_ok hE (by simp) (by simp; omega), trivial⟩) (fun A Q F G => by kernel_rfl) (H i (i + 5) (lk [e 0 + 1, e 1]) (i + 8))
    | some o =>
      exact turn_at [li_r (it + 305) (li + 305) j y (e 1) (.int (Int.ofNat x) tx) n i g, pv_r (bi "str.__mul__" [.str ⟨#[40]⟩ (i + 1), .int (Int.ofNat x - Int.ofNat last) (i + 2)]) (.str ⟨#[40]⟩ (i + 1)) n (i + 3) g,
        addL_r [40] [41] (i + 1) (i + 3) n (i + 4) g, addL_r E [40, 41] te (i + 4) n (i + 5) g] 54 egH [0, 1, 2] 3 _ _ n (i + 8) g
        (by decide) (fun A Q B => ⟨li_ok hy, mul1_ok hd, addL_ok (by simp) (by simp) (by decide), addL_ok hE (by simp) (by simp; omega), trivial⟩) (fun A Q F G => by kernel_rfl) (H o.1 (i + 5) (lk [e 0, e 1]) (i + 8))
  · rw [hz] at H hd
    have hk : (List.replicate (k + 1 + 1) 40).length = k + 2 := by simp
    cases o with
    | none =>
      exact turn_at [li_r (it + 305) (li + 305) j y (e 1) (.int (Int.ofNat x) tx) n i g, mul2_r 40 (k + 1 + 1) (Int.ofNat x - Int.ofNat last) (i + 1) (i + 2) n (i + 3) g,
        addL_r (List.replicate (k + 1 + 1) 40) [41] (i + 3) (i + 4) n (i + 5) g, addL_r E (List.replicate (k + 1 + 1) 40 ++ [41]) te (i + 5) n (i + 6) g] 54 egH [0, 1, 2] 3 _ _ n (i + 9) g
        (by decide) (fun A Q B => ⟨li_ok hy, mul2_ok hd (by omega) (by omega), addL_ok (by simp [List.replicate_succ]) (by simp) (by rw [hk]; simp; omega), addL_ok hE (by simp) (by rw [List.length_append, hk]; simp; omega), trivial⟩) (fun A Q F G => by kernel_rfl) (H i (i + 6) (lk [e 0 + 1, e 1]) (i + 9))
    | some o =>
      exact turn_at [li_r (it + 305) (li + 305) j y (e 1) (.int (Int.ofNat x) tx) n i g, mul2_r 40 (k + 1 + 1) (Int.ofNat x - Int.ofNat last) (i + 1) (i + 2) n (i + 3) g,
        addL_r (List.replicate (k + 1 + 1) 40) [41] (i + 3) (i + 4) n (i + 5) g, addL_r E (List.replicate (k + 1 + 1) 40 ++ [41]) te (i + 5) n (i + 6) g] 54 egH [0, 1, 2] 3 _ _ n (i + 9) g
        (by decide) (fun A Q B => ⟨li_ok hy, mul2_ok hd (by omega) (by omega), addL_ok (by simp [List.replicate_succ]) (by simp) (by rw [hk]; simp; omega), addL_ok hE (by simp) (by rw [List.length_append, hk]; simp; omega), trivial⟩) (fun A Q F G => by kernel_rfl) (H o.1 (i + 6) (lk [e 0, e 1]) (i + 9))
noncomputable def upN : Nat → List Nat → Bool
  | _, [] => true
  | l, x :: r => Nat.ble l x && Nat.ble x 6 && upN x r
noncomputable def egP (p : Params) (a : Nat → Nat) (t : Nat → Tok) (sz : Nat) (E : List Nat) : PostG := fun r L' _ _ _ => r = .ok .next ∧ ∃ (te : Tok) (last : Int) (tl : Tok) (o : Tok × Value) (e : Nat),
  L' = [(a 0 + 305, oFrm (dEs p (tyF t sz E te last tl (some o))) e)]
theorem eg_loop {V : XV} (a : Nat → Nat) (it li : Nat) (t : Nat → Tok) (sz : Nat) (q : List (Nat × Tok)) : ∀ (rem pre : List (Nat × Tok)), q = pre ++ rem → ∀ (last : Nat), upN last (rem.map (·.1)) = true → ∀ (E : List Nat), E ≠ [] → E.length + 7 * rem.length ≤ 80 → ∀ (te : Tok) (tl : Tok) (o : Option (Tok × Value)), (o.isSome = true ∨ rem ≠ []) → ∀ (e : Nat → Nat) (n i g : Nat),
    CallsS V 250 (egC V.w.params a it) (egL V.w.params a it li t sz E te (Int.ofNat last) tl o pre.length (valsN q).toArray e) n i g (egP V.w.params a t sz (E ++ edgeF (rem.map (·.1)) last)) := by
  intro rem
  induction rem with
  | nil =>
    intro pre hp last hu E hE hl te tl o ho e n i g
    have hx : (valsN q).toArray[pre.length]? = none := by simp [valsN, hp]
    cases o with
    | none => simp at ho
    | some o =>
      rw [show (([] : List (Nat × Tok)).map (·.1)) = [] from rfl, show edgeF [] last = [] from rfl, List.append_nil]
      exact turn_end [le_r (it + 305) (li + 305) pre.length (valsN q).toArray (e 1) n i g] 5 (unp 8 0x100041ffc1) [4] 5 .next [(a 0 + 305, oFrm (dEs V.w.params (tyF t sz E te (Int.ofNat last) tl (some o))) (e 0))] (n + 2) i g
        (by decide) (fun A Q B => ⟨le_ok hx, trivial⟩) (fun A Q F G => by kernel_rfl) ⟨rfl, te, _, tl, o, e 0, rfl⟩
  | cons x rem ih =>
    intro pre hp last hu E hE hl te tl o ho e n i g
    have hx : (valsN q).toArray[pre.length]? = some (.int (Int.ofNat x.1) x.2) := by simp [valsN, hp]
    simp only [List.map_cons, upN, Bool.and_eq_true] at hu
    have h1 := Nat.le_of_ble_eq_true hu.1.1
    have h2 := Nat.le_of_ble_eq_true hu.1.2
    simp only [List.length_cons] at hl
    have e1 : (pre ++ [x]).length = pre.length + 1 := by simp
    refine eg_turn a it li t sz E te last tl o pre.length _ e n i g _ x.1 x.2 hx h1 hE (by omega) fun t' te' e' i' => ?_
    have z := ih (pre ++ [x]) (by simp [hp]) x.1 hu.2 (E ++ (List.replicate (x.1 - last) 40 ++ [41])) (by simp) (by simp; omega) te' x.2 (some (t', .int (Int.ofNat x.1) x.2)) (Or.inl rfl) e' n i' g
    rw [e1, List.append_assoc] at z
    exact z
end Mine
end
section
open PySem PySem.W PySem.W.X PySem.Builtin.Str
namespace Mine
noncomputable def gz_r (l : Addr) (y : Array Value) (k : Int) (x : Value) (e : Nat) (t : Tok) (n i g : Nat) : Rl := ⟨bi "list.__getitem__" [.ref l, .int k t], [(l, oSeq "list" y e)], n + 305, i, g, x, [(l, oSeq "list" y e)], n + 305, i, g, 0, true⟩
theorem gz_ok {V : XV} {l : Addr} {y : Array Value} {k : Int} {x : Value} {e : Nat} {t : Tok} {n i g : Nat} (h0 : 0 ≤ k) (hfit : k < 2 ^ 63) (hx : y[k.toNat]? = some x) : RlOk V (gz_r l y k x e t n i g) := by
  intro A _ b G s S R HR
  have ho := S.led (l, _) List.mem_cons_self
  have hl : s.heap.IsList l y := ⟨_, ho, rfl, e, rfl⟩
  refine codeAny_call_builtin slot_list_getitem.plain entry_list_getitem (slot_list_getitem.check _ _ _ _ _ _ _ _ hl.typeIs (args_list_getitem _ _) ?_)
  show wpAny _ _ (Builtin.List.listSubscript? (.int k t) >>= _) _ _ s
  refine wpAny_bind (wpAny_listSubscript_int (fitsIndex_of h0 hfit) ?_)
  clear hfit
  obtain ⟨j, rfl⟩ := Int.eq_ofNat_of_zero_le h0
  have hj : y[j]? = some x := hx
  show wpAny _ _ ((seqItemAt l j >>= fun r => pure (r.map (j, ·))) >>= _) _ _ s
  refine wpAny_bind (wpAny_bind (wpAny_seqItemAt ho rfl (wpAny_pure ?_)))
  rw [hj]
  first
    | exact wpAny_bind (wpAny_pure (wpAny_pure (HR _ S)))
    | exact wpAny_bind (wpAny_pure (HR _ S))
    | exact wpAny_pure (HR _ S)
noncomputable def gi_r (l : Addr) (y : Array Value) (k : Nat) (x : Value) (e : Nat) (t : Tok) (n i g : Nat) : Rl := gz_r l y (Int.ofNat k) x e t n i g
theorem gi_ok {V : XV} {l : Addr} {y : Array Value} {k : Nat} {x : Value} {e : Nat} {t : Tok} {n i g : Nat} (h : y[k]? = some x) (hk : k ≤ 1000) : RlOk V (gi_r l y k x e t n i g) := by
  have h1 : (Int.ofNat k) ≤ 1000 := by simp only [Int.ofNat_eq_natCast]; omega
  exact gz_ok (Int.natCast_nonneg k) (Int.lt_of_le_of_lt h1 (by decide)) h
theorem mod_ok {V : XV} {a b : Nat} {t u : Tok} {n i g : Nat} (h : b ≠ 0) : RlOk V (iv_r (bi "int.__mod__" [.int (Int.ofNat a) t, .int (Int.ofNat b) u]) (Int.ofNat (a % b)) n i g) := by
  intro A _ l G s S R HR
  have et : s.toks = i := S.toks
  have hb : ¬((Int.ofNat b) == 0) = true := by simp only [Int.ofNat_eq_natCast]; simp; omega
  have e : (Int.ofNat a).fmod (Int.ofNat b) = Int.ofNat (a % b) := by simp [Int.fmod_eq_emod_of_nonneg]
  refine codeAny_call_builtin F.slot_int_mod.plain F.entry_int_mod (F.slot_int_mod.check _ _ _ _ _ _ _ _ (T := "int") (typeIs_int _ _ _) (F.args_int_mod_2 _ _) (PySem.AutoIntG6.int___mod___int_int_1 _ _ _ _ hb V.prog V.w A R s ?_))
  rw [e]
  have z := HR _ (S.tok 1)
  show R (.ok (.ret (.int (Int.ofNat (a % b)) s.toks))) _
  simp only [et] at z ⊢
  exact z
theorem fdiv_ok {V : XV} {a b : Nat} {t u : Tok} {n i g : Nat} (h : b ≠ 0) (hb2 : b ≤ 1000) : RlOk V (iv_r (bi "int.__floordiv__" [.int (Int.ofNat a) t, .int (Int.ofNat b) u]) (Int.ofNat (a / b)) n i g) := by
  intro A _ l G s S R HR
  have et : s.toks = i := S.toks
  have hb : ¬((Int.ofNat b) == 0) = true := by simp only [Int.ofNat_eq_natCast]; simp; omega
  have e : (Int.ofNat a).fdiv (Int.ofNat b) = Int.ofNat (a / b) := by simp [Int.fdiv_eq_ediv_of_nonneg]
  have hd : ¬(Builtin.divisionGoesByPylong (Int.ofNat a) (Int.ofNat b)) = true := by
    unfold Builtin.divisionGoesByPylong
    simp only [Bool.and_eq_true, decide_eq_true_eq, not_and]
    intro h1
    exfalso
    rw [if_neg hb] at h1
    have h2 : (Int.ofNat b).natAbs = b := by simp
    rw [h2] at h1
    have h3 : b.log2 ≤ b := by
      rcases Nat.lt_or_ge b (b.log2) with h4 | h4
      · have := Nat.log2_self_le h
        have h5 : b.log2 < 2 ^ b.log2 := Nat.lt_two_pow_self
        omega
      · exact h4
    omega
  refine codeAny_call_builtin F.slot_int_floordiv.plain F.entry_int_floordiv (F.slot_int_floordiv.check _ _ _ _ _ _ _ _ (T := "int") (typeIs_int _ _ _) (F.args_int_floordiv_2 _ _) (PySem.AutoIntG4.int___floordiv___int_int_1 _ _ _ _ hb hd V.prog V.w A R s ?_))
  rw [e]
  have z := HR _ (S.tok 1)
  show R (.ok (.ret (.int (Int.ofNat (a / b)) s.toks))) _
  simp only [et] at z ⊢
  exact z
end Mine
end
section
open PySem PySem.W PySem.W.X PySem.Builtin.Str
namespace Mine
noncomputable def sPlace : Str := ⟨#[112,108,97,99,101]⟩
noncomputable def sSign : Str := ⟨#[115,105,103,110]⟩
example : sPlace = Str.ofString "place" ∧ sSign = Str.ofString "sign" := by decide +kernel
noncomputable def ahF : Nat → List Nat
  | 0 => []
  | 1 => [97]
  | 2 => [92, 40]
  | 3 => [34, 41, 92, 34, 34]
  | _ => [92, 92]
noncomputable def ahA (t : Nat → Tok) : Array Value := #[.str ⟨#[]⟩ (t 10), .str ⟨#[97]⟩ (t 11), .str ⟨#[92, 40]⟩ (t 12), .str ⟨#[34, 41, 92, 34, 34]⟩ (t 13), .str ⟨#[92, 92]⟩ (t 14)]
noncomputable def qTyped : Str := Str.ofString "_law_typed.<locals>."
noncomputable def tcO (p : Params) : Expr := argOf (exprAt (stmtsOf (fdF p 286)) 3)
noncomputable def tcC (p : Params) (a b : Nat → Nat) : Code := .compLoop (tcO p) 0 (.ref (b 0 + 305)) (.ref (b 2 + 305)) (compEnv (scopeOf (tcO p)) qTyped 285 (b 3) (a 0) [(sCells, a 1 + 305), (sAhead, a 2 + 305)])
noncomputable def tcN (t : Nat → Tok) (o : Option (Value × Value)) : List (Str × Tok × Value) := match o with
  | none => []
  | some x => [(sPlace, t 20, x.1), (sSign, t 21, x.2)]
noncomputable def tcL (p : Params) (a b : Nat → Nat) (t u : Nat → Tok) (E : List Nat) (te : Tok) (fe : Array DictEntry) (o : Option (Value × Value)) (v : Value) (j : Nat) (z cs : Array Value) (e : Nat → Nat) : Led :=
  [(b 0 + 305, oEn (b 1) j v), (b 1 + 305, oIt "str_ascii_iterator" [.str ⟨E.toArray⟩ te, .int (Int.ofNat j) 0]), (b 2 + 305, oSeq "list" z (e 0)), (b 3 + 305, oDic (dEs p (tcN u o)) (e 1)), (a 0 + 305, oFrm fe (e 2)),
   (a 1 + 305, oCell (some (.ref (a 4 + 305)))), (a 2 + 305, oCell (some (.ref (a 3 + 305)))), (a 3 + 305, oSeq "list" (ahA t) (e 3)), (a 4 + 305, oSeq "list" cs (e 4))]
noncomputable def tcH : List Nat := unp 96 0x85dffd67ff28c55ffcd34d51ffd37ff3127ff34d3517ff20a2c82002080010410810410410420410410410810410410410410430ea3ff0c30c30c30c30820820820507ff081041
theorem tc_turn {V : XV} (a b : Nat → Nat) (t u : Nat → Tok) (E : List Nat) (te : Tok) (fe : Array DictEntry) (o : Option (Value × Value)) (v : Value) (j : Nat) (z cs : Array Value) (e : Nat → Nat) (n i g : Nat) (P : PostG) (c x : Nat) (tx : Tok)
    (hE : E[j]? = some c) (hc : cs[j % 5]? = some (.int (Int.ofNat x) tx)) (hz : z.size ≤ 90)
    (H : ∀ u' o' v' e' n' i' ty, CallsS V 250 (tcC V.w.params a b) (tcL V.w.params a b t u' E te fe (some o') v' (j + 1) (z.push (.str ⟨(ahF (x / 3 % 5) ++ [c]).toArray⟩ ty)) cs e') n' i' g P) :
    CallsS V 250 (tcC V.w.params a b) (tcL V.w.params a b t u E te fe o v j z cs e) n i g P := by
  have hc2 : (⟨E.toArray⟩ : Str).cps[j]? = some c := by show E.toArray[j]? = some c; simpa using hE
  have hk : x / 3 % 5 < 5 := Nat.mod_lt _ (by decide)
  have hj : j % 5 < 5 := Nat.mod_lt _ (by decide)
  have r0 : ∀ A Q, RlOk (reV V A Q) (iv_r (bi "int.__mod__" [.int (Int.ofNat j) (i + 1), .int (Int.ofNat 5) (i + 4)]) (Int.ofNat (j % 5)) (n + 4) (i + 5) g) := fun A Q => mod_ok (by decide)
  have r1 : ∀ A Q, RlOk (reV V A Q) (gi_r (a 4 + 305) cs (j % 5) (.int (Int.ofNat x) tx) (e 4) (i + 5) (n + 4) (i + 6) g) := fun A Q => gi_ok hc (by omega)
  have r2 : ∀ A Q, RlOk (reV V A Q) (iv_r (bi "int.__floordiv__" [.int (Int.ofNat x) tx, .int (Int.ofNat 3) (i + 6)]) (Int.ofNat (x / 3)) (n + 4) (i + 7) g) := fun A Q => fdiv_ok (by decide) (by decide)
  have r3 : ∀ A Q, RlOk (reV V A Q) (iv_r (bi "int.__mod__" [.int (Int.ofNat (x / 3)) (i + 7), .int (Int.ofNat 5) (i + 8)]) (Int.ofNat (x / 3 % 5)) (n + 4) (i + 9) g) := fun A Q => mod_ok (by decide)
  have hcs : x / 3 % 5 = 0 ∨ x / 3 % 5 = 1 ∨ x / 3 % 5 = 2 ∨ x / 3 % 5 = 3 ∨ x / 3 % 5 = 4 := lt5 (Nat.mod_lt _ (by decide))
  generalize x / 3 % 5 = k at H hk r3 hcs
  generalize x / 3 = x3 at r2 r3
  generalize j % 5 = j5 at r0 r1
  rcases hcs with rfl | rfl | rfl | rfl | rfl
  · cases o with
    | none =>
      exact turn_at [sa_r (b 1 + 305) ⟨E.toArray⟩ te j c n i g, iv_r (bi "int.__mod__" [.int (Int.ofNat j) (i + 1), .int (Int.ofNat 5) (i + 4)]) (Int.ofNat j5) (n + 4) (i + 5) g, gi_r (a 4 + 305) cs j5 (.int (Int.ofNat x) tx) (e 4) (i + 5) (n + 4) (i + 6) g,
        iv_r (bi "int.__floordiv__" [.int (Int.ofNat x) tx, .int (Int.ofNat 3) (i + 6)]) (Int.ofNat x3) (n + 4) (i + 7) g, iv_r (bi "int.__mod__" [.int (Int.ofNat x3) (i + 7), .int (Int.ofNat 5) (i + 8)]) (Int.ofNat 0) (n + 4) (i + 9) g,
        gi_r (a 3 + 305) (ahA t) 0 (.str ⟨#[]⟩ (t 10)) (e 3) (i + 9) (n + 4) (i + 10) g, pv_r (bi "str.__add__" [.str ⟨#[]⟩ (t 10), .str ⟨#[c]⟩ i]) (.str ⟨#[c]⟩ i) (n + 4) (i + 10) g, app_r (b 2 + 305) z (e 0) (.str ⟨#[c]⟩ i) (n + 4) (i + 10) g] 123 tcH [8, 7, 0, 9, 10, 11, 12, 1, 2] 13 _ _ (n + 4) (i + 10) g
        (by decide) (fun A Q B => ⟨sa_ok hc2, r0 A Q, r1 A Q, r2 A Q, r3 A Q, gi_ok rfl (by decide), addE_ok, app_ok (by omega), trivial⟩) (fun A Q F G => by kernel_rfl) (H (lk [0,0,0,0,0,0,0,0,0,0,0,0,0,0,0,0,0,0,0,0,i + 2, i + 3]) (.int (Int.ofNat j) (i + 1), .str ⟨#[c]⟩ i) (.str ⟨#[c]⟩ i) (lk [e 0 + 1, e 1 + 2, e 2, e 3, e 4]) (n + 4) (i + 10) i)
    | some o =>
      exact turn_at [sa_r (b 1 + 305) ⟨E.toArray⟩ te j c n i g, iv_r (bi "int.__mod__" [.int (Int.ofNat j) (i + 1), .int (Int.ofNat 5) (i + 4)]) (Int.ofNat j5) (n + 4) (i + 5) g, gi_r (a 4 + 305) cs j5 (.int (Int.ofNat x) tx) (e 4) (i + 5) (n + 4) (i + 6) g,
        iv_r (bi "int.__floordiv__" [.int (Int.ofNat x) tx, .int (Int.ofNat 3) (i + 6)]) (Int.ofNat x3) (n + 4) (i + 7) g, iv_r (bi "int.__mod__" [.int (Int.ofNat x3) (i + 7), .int (Int.ofNat 5) (i + 8)]) (Int.ofNat 0) (n + 4) (i + 9) g,
        gi_r (a 3 + 305) (ahA t) 0 (.str ⟨#[]⟩ (t 10)) (e 3) (i + 9) (n + 4) (i + 10) g, pv_r (bi "str.__add__" [.str ⟨#[]⟩ (t 10), .str ⟨#[c]⟩ i]) (.str ⟨#[c]⟩ i) (n + 4) (i + 10) g, app_r (b 2 + 305) z (e 0) (.str ⟨#[c]⟩ i) (n + 4) (i + 10) g] 123 tcH [8, 7, 0, 9, 10, 11, 12, 1, 2] 13 _ _ (n + 4) (i + 10) g
        (by decide) (fun A Q B => ⟨sa_ok hc2, r0 A Q, r1 A Q, r2 A Q, r3 A Q, gi_ok rfl (by decide), addE_ok, app_ok (by omega), trivial⟩) (fun A Q F G => by kernel_rfl) (H u (.int (Int.ofNat j) (i + 1), .str ⟨#[c]⟩ i) (.str ⟨#[c]⟩ i) (lk [e 0 + 1, e 1, e 2, e 3, e 4]) (n + 4) (i + 10) i)
  · cases o with
    | none =>
      exact turn_at [sa_r (b 1 + 305) ⟨E.toArray⟩ te j c n i g, iv_r (bi "int.__mod__" [.int (Int.ofNat j) (i + 1), .int (Int.ofNat 5) (i + 4)]) (Int.ofNat j5) (n + 4) (i + 5) g, gi_r (a 4 + 305) cs j5 (.int (Int.ofNat x) tx) (e 4) (i + 5) (n + 4) (i + 6) g,
        iv_r (bi "int.__floordiv__" [.int (Int.ofNat x) tx, .int (Int.ofNat 3) (i + 6)]) (Int.ofNat x3) (n + 4) (i + 7) g, iv_r (bi "int.__mod__" [.int (Int.ofNat x3) (i + 7), .int (Int.ofNat 5) (i + 8)]) (Int.ofNat 1) (n + 4) (i + 9) g,
        gi_r (a 3 + 305) (ahA t) 1 (.str ⟨(ahF 1).toArray⟩ (t 11)) (e 3) (i + 9) (n + 4) (i + 10) g, addL_r (ahF 1) [c] (t 11) i (n + 4) (i + 10) g, app_r (b 2 + 305) z (e 0) (.str ⟨(ahF 1 ++ [c]).toArray⟩ (i + 10)) (n + 4) (i + 11) g] 123 tcH [8, 7, 0, 9, 10, 11, 12, 1, 2] 13 _ _ (n + 4) (i + 11) g
        (by decide) (fun A Q B => ⟨sa_ok hc2, r0 A Q, r1 A Q, r2 A Q, r3 A Q, gi_ok rfl (by decide), addL_ok (by simp [ahF]) (by simp) (by simp [ahF]), app_ok (by omega), trivial⟩) (fun A Q F G => by kernel_rfl) (H (lk [0,0,0,0,0,0,0,0,0,0,0,0,0,0,0,0,0,0,0,0,i + 2, i + 3]) (.int (Int.ofNat j) (i + 1), .str ⟨#[c]⟩ i) (.str ⟨#[c]⟩ i) (lk [e 0 + 1, e 1 + 2, e 2, e 3, e 4]) (n + 4) (i + 11) (i + 10))
    | some o =>
      exact turn_at [sa_r (b 1 + 305) ⟨E.toArray⟩ te j c n i g, iv_r (bi "int.__mod__" [.int (Int.ofNat j) (i + 1), .int (Int.ofNat 5) (i + 4)]) (Int.ofNat j5) (n + 4) (i + 5) g, gi_r (a 4 + 305) cs j5 (.int (Int.ofNat x) tx) (e 4) (i + 5) (n + 4) (i + 6) g,
        iv_r (bi "int.__floordiv__" [.int (Int.ofNat x) tx, .int (Int.ofNat 3) (i + 6)]) (Int.ofNat x3) (n + 4) (i + 7) g, iv_r (bi "int.__mod__" [.int (Int.ofNat x3) (i + 7), .int (Int.ofNat 5) (i + 8)]) (Int.ofNat 1) (n + 4) (i + 9) g,
        gi_r (a 3 + 305) (ahA t) 1 (.str ⟨(ahF 1).toArray⟩ (t 11)) (e 3) (i + 9) (n + 4) (i + 10) g, addL_r (ahF 1) [c] (t 11) i (n + 4) (i + 10) g, app_r (b 2 + 305) z (e 0) (.str ⟨(ahF 1 ++ [c]).toArray⟩ (i + 10)) (n + 4) (i + 11) g] 123 tcH [8, 7, 0, 9, 10, 11, 12, 1, 2] 13 _ _ (n + 4) (i + 11) g
        (by decide) (fun A Q B => ⟨sa_ok hc2, r0 A Q, r1 A Q, r2 A Q, r3 A Q, gi_ok rfl (by decide), addL_ok (by simp [ahF]) (by simp) (by simp [ahF]), app_ok (by omega), trivial⟩) (fun A Q F G => by kernel_rfl) (H u (.int (Int.ofNat j) (i + 1), .str ⟨#[c]⟩ i) (.str ⟨#[c]⟩ i) (lk [e 0 + 1, e 1, e 2, e 3, e 4]) (n + 4) (i + 11) (i + 10))
  · cases o with
    | none =>
      exact turn_at [sa_r (b 1 + 305) ⟨E.toArray⟩ te j c n i g, iv_r (bi "int.__mod__" [.int (Int.ofNat j) (i + 1), .int (Int.ofNat 5) (i + 4)]) (Int.ofNat j5) (n + 4) (i + 5) g, gi_r (a 4 + 305) cs j5 (.int (Int.ofNat x) tx) (e 4) (i + 5) (n + 4) (i + 6) g,
        iv_r (bi "int.__floordiv__" [.int (Int.ofNat x) tx, .int (Int.ofNat 3) (i + 6)]) (Int.ofNat x3) (n + 4) (i + 7) g, iv_r (bi "int.__mod__" [.int (Int.ofNat x3) (i + 7), .int (Int.ofNat 5) (i + 8)]) (Int.ofNat 2) (n + 4) (i + 9) g,
        gi_r (a 3 + 305) (ahA t) 2 (.str ⟨(ahF 2).toArray⟩ (t 12)) (e 3) (i + 9) (n + 4) (i + 10) g, addL_r (ahF 2) [c] (t 12) i (n + 4) (i + 10) g, app_r (b 2 + 305) z (e 0) (.str ⟨(ahF 2 ++ [c]).toArray⟩ (i + 10)) (n + 4) (i + 11) g] 123 tcH [8, 7, 0, 9, 10, 11, 12, 1, 2] 13 _ _ (n + 4) (i + 11) g
        (by decide) (fun A Q B => ⟨sa_ok hc2, r0 A Q, r1 A Q, r2 A Q, r3 A Q, gi_ok rfl (by decide), addL_ok (by simp [ahF]) (by simp) (by simp [ahF]), app_ok (by omega), trivial⟩) (fun A Q F G => by kernel_rfl) (H (lk [0,0,0,0,0,0,0,0,0,0,0,0,0,0,0,0,0,0,0,0,i + 2, i + 3]) (.int (Int.ofNat j) (i + 1), .str ⟨#[c]⟩ i) (.str ⟨#[c]⟩ i) (lk [e 0 + 1, e 1 + 2, e 2, e 3, e 4]) (n + 4) (i + 11) (i + 10))
    | some o =>
      exact turn_at [sa_r (b 1 + 305) ⟨E.toArray⟩ te j c n i g, iv_r (bi "int.__mod__" [.int (Int.ofNat j) (i + 1), .int (Int.ofNat 5) (i + 4)]) (Int.ofNat j5) (n + 4) (i + 5) g, gi_r (a 4 + 305) cs j5 (.int (Int.ofNat x) tx) (e 4) (i + 5) (n + 4) (i + 6) g,
        iv_r (bi "int.__floordiv__" [.int (Int.ofNat x) tx, .int (Int.ofNat 3) (i + 6)]) (Int.ofNat x3) (n + 4) (i + 7) g, iv_r (bi "int.__mod__" [.int (Int.ofNat x3) (i + 7), .int (Int.ofNat 5) (i + 8)]) (Int.ofNat 2) (n + 4) (i + 9) g,
        gi_r (a 3 + 305) (ahA t) 2 (.str ⟨(ahF 2).toArray⟩ (t 12)) (e 3) (i + 9) (n + 4) (i + 10) g, addL_r (ahF 2) [c] (t 12) i (n + 4) (i + 10) g, app_r (b 2 + 305) z (e 0) (.str ⟨(ahF 2 ++ [c]).toArray⟩ (i + 10)) (n + 4) (i + 11) g] 123 tcH [8, 7, 0, 9, 10, 11, 12, 1, 2] 13 _ _ (n + 4) (i + 11) g
        (by decide) (fun A Q B => ⟨sa_ok hc2, r0 A Q, r1 A Q, r2 A Q, r3 A Q, gi_ok rfl (by decide), addL_ok (by simp [ahF]) (by simp) (by simp [ahF]), app_ok (by omega), trivial⟩) (fun A Q F G => by kernel_rfl) (H u (.int (Int.ofNat j) (i + 1), .str ⟨#[c]⟩ i) (.str ⟨#[c]⟩ i) (lk [e 0 + 1, e 1, e 2, e 3, e 4]) (n + 4) (i + 11) (i + 10))
  · cases o with
    | none =>
      exact turn_at [sa_r (b 1 + 305) ⟨E.toArray⟩ te j c n i g, iv_r (bi "int.__mod__" [.int (Int.ofNat j) (i + 1), .int (Int.ofNat 5) (i + 4)]) (Int.ofNat j5) (n + 4) (i + 5) g, gi_r (a 4 + 305) cs j5 (.int (Int.ofNat x) tx) (e 4) (i + 5) (n + 4) (i + 6) g,
        iv_r (bi "int.__floordiv__" [.int (Int.ofNat x) tx, .int (Int.ofNat 3) (i + 6)]) (Int.ofNat x3) (n + 4) (i + 7) g, iv_r (bi "int.__mod__" [.int (Int.ofNat x3) (i + 7), .int (Int.ofNat 5) (i + 8)]) (Int.ofNat 3) (n + 4) (i + 9) g,
        gi_r (a 3 + 305) (ahA t) 3 (.str ⟨(ahF 3).toArray⟩ (t 13)) (e 3) (i + 9) (n + 4) (i + 10) g, addL_r (ahF 3) [c] (t 13) i (n + 4) (i + 10) g, app_r (b 2 + 305) z (e 0) (.str ⟨(ahF 3 ++ [c]).toArray⟩ (i + 10)) (n + 4) (i + 11) g] 123 tcH [8, 7, 0, 9, 10, 11, 12, 1, 2] 13 _ _ (n + 4) (i + 11) g
        (by decide) (fun A Q B => ⟨sa_ok hc2, r0 A Q, r1 A Q, r2 A Q, r3 A Q, gi_ok rfl (by decide), addL_ok (by simp [ahF]) (by simp) (by simp [ahF]), app_ok (by omega), trivial⟩) (fun A Q F G => by kernel_rfl) (H (lk [0,0,0,0,0,0,0,0,0,0,0,0,0,0,0,0,0,0,0,0,i + 2, i + 3]) (.int (Int.ofNat j) (i + 1), .str ⟨#[c]⟩ i) (.str ⟨#[c]⟩ i) (lk [e 0 + 1, e 1 + 2, e 2, e 3, e 4]) (n + 4) (i + 11) (i + 10))
    | some o =>
      exact turn_at [sa_r (b 1 + 305) ⟨E.toArray⟩ te j c n i g, iv_r (bi "int.__mod__" [.int (Int.ofNat j) (i + 1), .int (Int.ofNat 5) (i + 4)]) (Int.ofNat j5) (n + 4) (i + 5) g, gi_r (a 4 + 305) cs j5 (.int (Int.ofNat x) tx) (e 4) (i + 5) (n + 4) (i + 6) g,
        iv_r (bi "int.__floordiv__" [.int (Int.ofNat x) tx, .int (Int.ofNat 3) (i + 6)]) (Int.ofNat x3) (n + 4) (i + 7) g, iv_r (bi "int.__mod__" [.int (Int.ofNat x3) (i + 7), .int (Int.ofNat 5) (i + 8)]) (Int.ofNat 3) (n + 4) (i + 9) g,
        gi_r (a 3 + 305) (ahA t) 3 (.str ⟨(ahF 3).toArray⟩ (t 13)) (e 3) (i + 9) (n + 4) (i + 10) g, addL_r (ahF 3) [c] (t 13) i (n + 4) (i + 10) g, app_r (b 2 + 305) z (e 0) (.str ⟨(ahF 3 ++ [c]).toArray⟩ (i + 10)) (n + 4) (i + 11) g] 123 tcH [8, 7, 0, 9, 10, 11, 12, 1, 2] 13 _ _ (n + 4) (i + 11) g
        (by decide) (fun A Q B => ⟨sa_ok hc2, r0 A Q, r1 A Q, r2 A Q, r3 A Q, gi_ok rfl (by decide), addL_ok (by simp [ahF]) (by simp) (by simp [ahF]), app_ok (by omega), trivial⟩) (fun A Q F G => by kernel_rfl) (H u (.int (Int.ofNat j) (i + 1), .str ⟨#[c]⟩ i) (.str ⟨#[c]⟩ i) (lk [e 0 + 1, e 1, e 2, e 3, e 4]) (n + 4) (i + 11) (i + 10))
  · cases o with
    | none =>
      exact turn_at [sa_r (b 1 + 305) ⟨E.toArray⟩ te j c n i g, iv_r (bi "int.__mod__" [.int (Int.ofNat j) (i + 1), .int (Int.ofNat 5) (i + 4)]) (Int.ofNat j5) (n + 4) (i + 5) g, gi_r (a 4 + 305) cs j5 (.int (Int.ofNat x) tx) (e 4) (i + 5) (n + 4) (i + 6) g,
        iv_r (bi "int.__floordiv__" [.int (Int.ofNat x) tx, .int (Int.ofNat 3) (i + 6)]) (Int.ofNat x3) (n + 4) (i + 7) g, iv_r (bi "int.__mod__" [.int (Int.ofNat x3) (i + 7), .int (Int.ofNat 5) (i + 8)]) (Int.ofNat 4) (n + 4) (i + 9) g,
        gi_r (a 3 + 305) (ahA t) 4 (.str ⟨(ahF 4).toArray⟩ (t 14)) (e 3) (i + 9) (n + 4) (i + 10) g, addL_r (ahF 4) [c] (t 14) i (n + 4) (i + 10) g, app_r (b 2 + 305) z (e 0) (.str ⟨(ahF 4 ++ [c]).toArray⟩ (i + 10)) (n + 4) (i + 11) g] 123 tcH [8, 7, 0, 9, 10, 11, 12, 1, 2] 13 _ _ (n + 4) (i + 11) g
        (by decide) (fun A Q B => ⟨sa_ok hc2, r0 A Q, r1 A Q, r2 A Q, r3 A Q, gi_ok rfl (by decide), addL_ok (by simp [ahF]) (by simp) (by simp [ahF]), app_ok (by omega), trivial⟩) (fun A Q F G => by kernel_rfl) (H (lk [0,0,0,0,0,0,0,0,0,0,0,0,0,0,0,0,0,0,0,0,i + 2, i + 3]) (.int (Int.ofNat j) (i + 1), .str ⟨#[c]⟩ i) (.str ⟨#[c]⟩ i) (lk [e 0 + 1, e 1 + 2, e 2, e 3, e 4]) (n + 4) (i + 11) (i + 10))
    | some o =>
      exact turn_at [sa_r (b 1 + 305) ⟨E.toArray⟩ te j c n i g, iv_r (bi "int.__mod__" [.int (Int.ofNat j) (i + 1), .int (Int.ofNat 5) (i + 4)]) (Int.ofNat j5) (n + 4) (i + 5) g, gi_r (a 4 + 305) cs j5 (.int (Int.ofNat x) tx) (e 4) (i + 5) (n + 4) (i + 6) g,
        iv_r (bi "int.__floordiv__" [.int (Int.ofNat x) tx, .int (Int.ofNat 3) (i + 6)]) (Int.ofNat x3) (n + 4) (i + 7) g, iv_r (bi "int.__mod__" [.int (Int.ofNat x3) (i + 7), .int (Int.ofNat 5) (i + 8)]) (Int.ofNat 4) (n + 4) (i + 9) g,
        gi_r (a 3 + 305) (ahA t) 4 (.str ⟨(ahF 4).toArray⟩ (t 14)) (e 3) (i + 9) (n + 4) (i + 10) g, addL_r (ahF 4) [c] (t 14) i (n + 4) (i + 10) g, app_r (b 2 + 305) z (e 0) (.str ⟨(ahF 4 ++ [c]).toArray⟩ (i + 10)) (n + 4) (i + 11) g] 123 tcH [8, 7, 0, 9, 10, 11, 12, 1, 2] 13 _ _ (n + 4) (i + 11) g
        (by decide) (fun A Q B => ⟨sa_ok hc2, r0 A Q, r1 A Q, r2 A Q, r3 A Q, gi_ok rfl (by decide), addL_ok (by simp [ahF]) (by simp) (by simp [ahF]), app_ok (by omega), trivial⟩) (fun A Q F G => by kernel_rfl) (H u (.int (Int.ofNat j) (i + 1), .str ⟨#[c]⟩ i) (.str ⟨#[c]⟩ i) (lk [e 0 + 1, e 1, e 2, e 3, e 4]) (n + 4) (i + 11) (i + 10))
end Mine
end
section
open PySem PySem.W PySem.W.X PySem.Builtin.Str
namespace Mine
noncomputable def kF (cs : List Nat) (j : Nat) : Nat := cs.getD (j % 5) 0 / 3 % 5
noncomputable def pieceF (cs : List Nat) : Nat → List Nat → List (List Nat)
  | _, [] => []
  | j, c :: r => (ahF (kF cs j) ++ [c]) :: pieceF cs (j + 1) r
noncomputable def tcP (p : Params) (a b : Nat → Nat) (t : Nat → Tok) (fe : Array DictEntry) (z : List (Str × Tok)) (ps : List (List Nat)) (cs : Array Value) : PostG := fun r L' _ _ _ => r = .ok .next ∧ ∃ (w : List (Str × Tok)) (e : Nat → Nat) (u : Nat → Tok) (o : Value × Value), w.map (·.1) = strsL ps ∧
  L' = [(b 2 + 305, oSeq "list" (strValues (z ++ w)).toArray (e 0)), (b 3 + 305, oDic (dEs p (tcN u (some o))) (e 4)), (a 0 + 305, oFrm fe (e 1)), (a 1 + 305, oCell (some (.ref (a 4 + 305)))), (a 2 + 305, oCell (some (.ref (a 3 + 305)))), (a 3 + 305, oSeq "list" (ahA t) (e 2)), (a 4 + 305, oSeq "list" cs (e 3))]
theorem tc_loop {V : XV} (a b : Nat → Nat) (t : Nat → Tok) (E : List Nat) (te : Tok) (fe : Array DictEntry) (q : List (Nat × Tok)) (hq : q.length = 5) : ∀ (rem pre : List Nat), E = pre ++ rem → ∀ (u : Nat → Tok) (o : Option (Value × Value)), (o.isSome = true ∨ rem ≠ []) → ∀ (v : Value) (z : List (Str × Tok)), z.length + rem.length ≤ 80 → ∀ (e : Nat → Nat) (n i g : Nat),
    CallsS V 250 (tcC V.w.params a b) (tcL V.w.params a b t u E te fe o v pre.length (strValues z).toArray (valsN q).toArray e) n i g (tcP V.w.params a b t fe z (pieceF (q.map (·.1)) pre.length rem) (valsN q).toArray) := by
  intro rem
  induction rem with
  | nil =>
    intro pre hp u o ho v z hz e n i g
    cases o with
    | none => simp at ho
    | some o =>
      have hx : (⟨E.toArray⟩ : Str).cps[pre.length]? = none := by show E.toArray[pre.length]? = none; simp [hp]
      exact turn_end [se_r (b 1 + 305) ⟨E.toArray⟩ te pre.length n i g] 10 (unp 10 0x10507ff081041) [4, 5, 6, 7, 8, 9, 10] 11 .next
        [(b 2 + 305, oSeq "list" (strValues z).toArray (e 0)), (b 3 + 305, oDic (dEs V.w.params (tcN u (some o))) (e 1)), (a 0 + 305, oFrm fe (e 2)), (a 1 + 305, oCell (some (.ref (a 4 + 305)))), (a 2 + 305, oCell (some (.ref (a 3 + 305)))), (a 3 + 305, oSeq "list" (ahA t) (e 3)), (a 4 + 305, oSeq "list" (valsN q).toArray (e 4))] (n + 2) i g
        (by decide) (fun A Q B => ⟨se_ok hx, trivial⟩) (fun A Q F G => by kernel_rfl) ⟨rfl, [], lk [e 0, e 2, e 3, e 4, e 1], u, o, rfl, by rw [List.append_nil]; rfl⟩
  | cons c rem ih =>
    intro pre hp u o ho v z hz e n i g
    have hx : E[pre.length]? = some c := by simp [hp]
    have hj : pre.length % 5 < q.length := by rw [hq]; exact Nat.mod_lt _ (by decide)
    have hc : (valsN q).toArray[pre.length % 5]? = some (.int (Int.ofNat (q[pre.length % 5]'hj).1) (q[pre.length % 5]'hj).2) := by simp [valsN, hj]
    have hk : kF (q.map (·.1)) pre.length = (q[pre.length % 5]'hj).1 / 3 % 5 := by
      unfold kF
      congr 2
      simp [List.getD, hj]
    simp only [List.length_cons] at hz
    refine tc_turn a b t u E te fe o v pre.length _ _ e n i g _ c _ _ hx hc (by simp [strValues]; omega) fun u' o' v' e' n' i' ty => ?_
    have z1 := ih (pre ++ [c]) (by simp [hp]) u' (some o') (Or.inl rfl) v' (z ++ [(⟨(ahF ((q[pre.length % 5]'hj).1 / 3 % 5) ++ [c]).toArray⟩, ty)]) (by simp; omega) e' n' i' g
    have e1 : (pre ++ [c]).length = pre.length + 1 := by simp
    have e2 : (strValues z).toArray.push (.str ⟨(ahF ((q[pre.length % 5]'hj).1 / 3 % 5) ++ [c]).toArray⟩ ty) = (strValues (z ++ [(⟨(ahF ((q[pre.length % 5]'hj).1 / 3 % 5) ++ [c]).toArray⟩, ty)])).toArray := by simp [strValues]
    rw [e1] at z1
    rw [e2]
    refine z1.mono ?_
    rintro r L' n2 i2 g2 ⟨h1, w, e3, u3, o3, h2, h3⟩
    refine ⟨h1, (⟨(ahF ((q[pre.length % 5]'hj).1 / 3 % 5) ++ [c]).toArray⟩, ty) :: w, e3, u3, o3, ?_, ?_⟩
    · simp [pieceF, strsL, hk, h2]
    · rw [h3]
      simp
noncomputable def tcS (p : Params) (a b : Nat → Nat) : Code := .compStart (tcO p) 0 (.ref (b 0 + 305)) (.ref (b 2 + 305)) (compEnv (scopeOf (tcO p)) qTyped 285 (b 3) (a 0) [(sCells, a 1 + 305), (sAhead, a 2 + 305)])
theorem tc_all {V : XV} (a b : Nat → Nat) (t : Nat → Tok) (E : List Nat) (te : Tok) (fe : Array DictEntry) (q : List (Nat × Tok)) (hq : q.length = 5) (hE : E ≠ []) (hl : E.length ≤ 80) (e : Nat → Nat) (n i g : Nat) :
    CallsG V 250 (tcS V.w.params a b) (tcL V.w.params a b t (fun _ => 0) E te fe none .none 0 #[] (valsN q).toArray e) n i g (tcP V.w.params a b t fe [] (pieceF (q.map (·.1)) 0 E) (valsN q).toArray) := by
  refine CallsS.g (by kernel_rfl) (by decide) ?_
  have z := tc_loop (V := V) a b t E te fe q hq E [] rfl (fun _ => 0) none (Or.inr hE) .none [] (by simpa using hl) e n i g
  exact turn_at [] 12 (unp 7 0x4104104c) [0, 1, 2, 3, 4, 5, 6, 7, 8] 9 _ (tcL V.w.params a b t (fun _ => 0) E te fe none .none 0 #[] (valsN q).toArray e) n i g (by decide) (fun A Q B => trivial) (fun A Q F G => by kernel_rfl) z
end Mine
end
section
open PySem PySem.W PySem.W.X PySem.Builtin.Str
namespace Mine
noncomputable def sLine : Str := ⟨#[108,105,110,101]⟩
noncomputable def sOpened : Str := ⟨#[111,112,101,110,101,100]⟩
noncomputable def sUnit : Str := ⟨#[117,110,105,116]⟩
example : sLine = Str.ofString "line" ∧ sOpened = Str.ofString "opened" ∧ sUnit = Str.ofString "unit" := by decide +kernel
noncomputable def ldF (t : Nat → Tok) (vs : Nat → Value) (lead : List Nat) (tl : Tok) (opn : Int) (to : Tok) (o : Option ((Tok × Value) × (Tok × Value))) : List (Str × Tok × Value) :=
  [(sSizes, t 0, vs 0), (sEdge, t 1, vs 1), (sLast, t 2, vs 2), (sSizeN, t 3, vs 3), (sLine, t 4, vs 4), (sLead, t 5, .str ⟨lead.toArray⟩ tl), (sOpened, t 6, .int opn to)] ++
    (match o with | none => [] | some z => [(sPlace, z.1.1, z.1.2), (sUnit, z.2.1, z.2.2)])
noncomputable def ldC (p : Params) (a : Nat → Nat) (ga : Nat) : Code := loopC p 286 [5] (tyEnv p a) ga
noncomputable def ldL (p : Params) (a : Nat → Nat) (ga : Nat) (t : Nat → Tok) (vs : Nat → Value) (lead : List Nat) (tl : Tok) (opn : Int) (to : Tok) (o : Option ((Tok × Value) × (Tok × Value))) (e : Nat) (gd : Nat) (u1 u2 : Tok) (Lt : Led) : Led :=
  (a 0 + 305, oFrm (dEs p (ldF t vs lead tl opn to o)) e) :: (ga + 305, genO gd u1 u2) :: Lt
section
variable {V : XV} (a : Nat → Nat) (ga : Nat) (x : List Nat) (tx : Tok) (gd : Nat) (u : Unit2) (us : List Unit2) (hasc : (x.all fun c => Nat.blt c 128) = true) (t : Nat → Tok) (vs : Nat → Value) (lead : List Nat) (tl : Tok) (opn : Int) (to : Tok) (o : Option ((Tok × Value) × (Tok × Value))) (e : Nat) (u1 u2 : Tok) (Lt : Led) (K : Gl) (n i g : Nat) (P : PostH) (S : GenS V x tx gd ga u1 u2 (u :: us) Lt K)
include hasc S
theorem ld_open (hu : (u.2 == [40]) = true)
    (H : ∀ tl' to' o' e' u1' u2' Lt' K' n' i' g', GenS V x tx gd ga u1' u2' us Lt' K' → CallsT V 300 (ldC V.w.params a ga) (ldL V.w.params a ga t vs lead tl' (opn + 1) to' (some o') e' gd u1' u2' Lt') K' n' i' g' P) :
    CallsT V 300 (ldC V.w.params a ga) (ldL V.w.params a ga t vs lead tl opn to o e gd u1 u2 Lt) K n i g P := by
  intro A Q B F G Bk
  have O : (cxR (reV V A Q) 300 []).Ok := B.okR (by decide) trivial
  have C := ((gen_next hasc S n i g).re A Q).codeH B
  refine @run_codeH (cxR (reV V A Q) 300 _) O _ 2 (unp 2 0x2) [1] 2 250 _ _ F _ G _ _ _ _ C (by kernel_rfl) (hid6 ?_)
  intro Kq hKq
  rintro r L1 G1 n1 i1 g1 hx
  refine ex6 hx ?_
  clear hx
  rintro rr tp ty u1' u2' Lt' ⟨rfl, rfl, hS⟩
  refine hKq _ _ _ _ _ _ ?_
  have O2 : (cxR (reV V A Q) 300 [sq_r ⟨u.2.toArray⟩ ⟨#[40]⟩ ty (i1 + 2) true (n1 + 3) (i1 + 3) g1]).Ok := B.okR (by decide) ⟨sq_ok (by show (u.2 == [40]) = true; exact hu), trivial⟩
  cases o with
  | none =>
    intro sq
    exact @run_to (cxR (reV V A Q) 300 _) O2 _ 84 (unp 45 0x10400441ffc11041001040010410c10410410430410410410c1041041081082083) [3, 5] 6 [] 0 (ldC V.w.params a ga) .base (startF (ldC V.w.params a ga)) _ _ _ _ _ (by decide) (by kernel_rfl)
      (H tl (i1 + 4) ((i1, .int (Int.ofNat u.1) tp), (i1 + 1, .str ⟨u.2.toArray⟩ ty)) (e + 2) u1' u2' Lt' G1 (n1 + 3) (i1 + 6) g1 hS A Q B F G Bk)
  | some o =>
    intro sq
    exact @run_to (cxR (reV V A Q) 300 _) O2 _ 84 (unp 45 0x10400441ffc11041001040010410c10410410430410410410c1041041081082083) [3, 5] 6 [] 0 (ldC V.w.params a ga) .base (startF (ldC V.w.params a ga)) _ _ _ _ _ (by decide) (by kernel_rfl)
      (H tl (i1 + 4) ((o.1.1, .int (Int.ofNat u.1) tp), (o.2.1, .str ⟨u.2.toArray⟩ ty)) (e) u1' u2' Lt' G1 (n1 + 3) (i1 + 6) g1 hS A Q B F G Bk)
theorem ld_other (hu : (u.2 == [40]) = false) (hv : (u.2 == [41]) = false)
    (H : ∀ tl' to' o' e' u1' u2' Lt' K' n' i' g', GenS V x tx gd ga u1' u2' us Lt' K' → CallsT V 300 (ldC V.w.params a ga) (ldL V.w.params a ga t vs lead tl' opn to' (some o') e' gd u1' u2' Lt') K' n' i' g' P) :
    CallsT V 300 (ldC V.w.params a ga) (ldL V.w.params a ga t vs lead tl opn to o e gd u1 u2 Lt) K n i g P := by
  intro A Q B F G Bk
  have O : (cxR (reV V A Q) 300 []).Ok := B.okR (by decide) trivial
  have C := ((gen_next hasc S n i g).re A Q).codeH B
  refine @run_codeH (cxR (reV V A Q) 300 _) O _ 2 (unp 2 0x2) [1] 2 250 _ _ F _ G _ _ _ _ C (by kernel_rfl) (hid6 ?_)
  intro Kq hKq
  rintro r L1 G1 n1 i1 g1 hx
  refine ex6 hx ?_
  clear hx
  rintro rr tp ty u1' u2' Lt' ⟨rfl, rfl, hS⟩
  refine hKq _ _ _ _ _ _ ?_
  have O2 : (cxR (reV V A Q) 300 [sq_r ⟨u.2.toArray⟩ ⟨#[40]⟩ ty (i1 + 2) false (n1 + 3) (i1 + 3) g1, sq_r ⟨u.2.toArray⟩ ⟨#[41]⟩ ty (i1 + 3) false (n1 + 3) (i1 + 4) g1]).Ok := B.okR (by decide) ⟨sq_ok (by show (u.2 == [40]) = false; exact hu), sq_ok (by show (u.2 == [41]) = false; exact hv), trivial⟩
  cases o with
  | none =>
    intro sq
    exact @run_to (cxR (reV V A Q) 300 _) O2 _ 76 (unp 46 0x117ff04441ffc11041001040010410c10410410430410410410c1041041081082083) [3, 5] 6 [] 0 (ldC V.w.params a ga) .base (startF (ldC V.w.params a ga)) _ _ _ _ _ (by decide) (by kernel_rfl)
      (H tl to ((i1, .int (Int.ofNat u.1) tp), (i1 + 1, .str ⟨u.2.toArray⟩ ty)) (e + 2) u1' u2' Lt' G1 (n1 + 3) (i1 + 4) g1 hS A Q B F G Bk)
  | some o =>
    intro sq
    exact @run_to (cxR (reV V A Q) 300 _) O2 _ 76 (unp 46 0x117ff04441ffc11041001040010410c10410410430410410410c1041041081082083) [3, 5] 6 [] 0 (ldC V.w.params a ga) .base (startF (ldC V.w.params a ga)) _ _ _ _ _ (by decide) (by kernel_rfl)
      (H tl to ((o.1.1, .int (Int.ofNat u.1) tp), (o.2.1, .str ⟨u.2.toArray⟩ ty)) (e) u1' u2' Lt' G1 (n1 + 3) (i1 + 4) g1 hS A Q B F G Bk)
theorem ld_first (k : Nat) (hu : (u.2 == [40]) = false) (hv : (u.2 == [41]) = true) (hl : lead = []) (hk : opn = Int.ofNat k) (h2 : 2 ≤ k) (h3 : k ≤ 100)
    (H : ∀ tl' to' o' e' u1' u2' Lt' K' n' i' g', GenS V x tx gd ga u1' u2' us Lt' K' → CallsT V 300 (ldC V.w.params a ga) (ldL V.w.params a ga t vs (List.replicate k 32 ++ [9]) tl' (opn - 1) to' (some o') e' gd u1' u2' Lt') K' n' i' g' P) :
    CallsT V 300 (ldC V.w.params a ga) (ldL V.w.params a ga t vs lead tl opn to o e gd u1 u2 Lt) K n i g P := by
  intro A Q B F G Bk
  have O : (cxR (reV V A Q) 300 []).Ok := B.okR (by decide) trivial
  have C := ((gen_next hasc S n i g).re A Q).codeH B
  refine @run_codeH (cxR (reV V A Q) 300 _) O _ 2 (unp 2 0x2) [1] 2 250 _ _ F _ G _ _ _ _ C (by kernel_rfl) (hid6 ?_)
  intro Kq hKq
  rintro r L1 G1 n1 i1 g1 hx
  refine ex6 hx ?_
  clear hx
  rintro rr tp ty u1' u2' Lt' ⟨rfl, rfl, hS⟩
  refine hKq _ _ _ _ _ _ ?_
  have O2 : (cxR (reV V A Q) 300 [sq_r ⟨u.2.toArray⟩ ⟨#[40]⟩ ty (i1 + 2) false (n1 + 3) (i1 + 3) g1, sq_r ⟨u.2.toArray⟩ ⟨#[41]⟩ ty (i1 + 3) true (n1 + 3) (i1 + 4) g1, mul2_r 32 k opn (i1 + 4) to (n1 + 3) (i1 + 5) g1, addL_r (List.replicate k 32) [9] (i1 + 5) (i1 + 6) (n1 + 3) (i1 + 7) g1, pv_r (bi "str.__add__" [.str ⟨lead.toArray⟩ tl, .str ⟨(List.replicate k 32 ++ [9]).toArray⟩ (i1 + 7)]) (.str ⟨(List.replicate k 32 ++ [9]).toArray⟩ (i1 + 7)) (n1 + 3) (i1 + 8) g1]).Ok := B.okR (by decide) ⟨sq_ok (by show (u.2 == [40]) = false; exact hu), sq_ok (by show (u.2 == [41]) = true; exact hv), mul2_ok hk h2 h3, addL_ok (by cases k with | zero => omega | succ k => simp [List.replicate_succ]) (by simp) (by simp; omega), (by subst hl; exact addE_ok), trivial⟩
  cases o with
  | none =>
    intro sq
    exact @run_to (cxR (reV V A Q) 300 _) O2 _ 117 (unp 67 0x1040041040147ff4dffd27ff3dffc41117ff04441ffc11041001040010410c10410410430410410410c1041041081082083) [3, 5] 6 [] 0 (ldC V.w.params a ga) .base (startF (ldC V.w.params a ga)) _ _ _ _ _ (by decide) (by kernel_rfl)
      (H (i1 + 7) (i1 + 10) ((i1, .int (Int.ofNat u.1) tp), (i1 + 1, .str ⟨u.2.toArray⟩ ty)) (e + 2) u1' u2' Lt' G1 (n1 + 3) (i1 + 12) g1 hS A Q B F G Bk)
  | some o =>
    intro sq
    exact @run_to (cxR (reV V A Q) 300 _) O2 _ 117 (unp 67 0x1040041040147ff4dffd27ff3dffc41117ff04441ffc11041001040010410c10410410430410410410c1041041081082083) [3, 5] 6 [] 0 (ldC V.w.params a ga) .base (startF (ldC V.w.params a ga)) _ _ _ _ _ (by decide) (by kernel_rfl)
      (H (i1 + 7) (i1 + 10) ((o.1.1, .int (Int.ofNat u.1) tp), (o.2.1, .str ⟨u.2.toArray⟩ ty)) (e) u1' u2' Lt' G1 (n1 + 3) (i1 + 12) g1 hS A Q B F G Bk)
theorem ld_close2 (k : Nat) (hu : (u.2 == [40]) = false) (hv : (u.2 == [41]) = true) (hl : lead ≠ []) (hll : lead.length ≤ 500) (hk : opn = Int.ofNat k) (h2 : 2 ≤ k) (h3 : k ≤ 100)
    (H : ∀ tl' to' o' e' u1' u2' Lt' K' n' i' g', GenS V x tx gd ga u1' u2' us Lt' K' → CallsT V 300 (ldC V.w.params a ga) (ldL V.w.params a ga t vs (lead ++ (List.replicate k 32 ++ [9])) tl' (opn - 1) to' (some o') e' gd u1' u2' Lt') K' n' i' g' P) :
    CallsT V 300 (ldC V.w.params a ga) (ldL V.w.params a ga t vs lead tl opn to o e gd u1 u2 Lt) K n i g P := by
  intro A Q B F G Bk
  have O : (cxR (reV V A Q) 300 []).Ok := B.okR (by decide) trivial
  have C := ((gen_next hasc S n i g).re A Q).codeH B
  refine @run_codeH (cxR (reV V A Q) 300 _) O _ 2 (unp 2 0x2) [1] 2 250 _ _ F _ G _ _ _ _ C (by kernel_rfl) (hid6 ?_)
  intro Kq hKq
  rintro r L1 G1 n1 i1 g1 hx
  refine ex6 hx ?_
  clear hx
  rintro rr tp ty u1' u2' Lt' ⟨rfl, rfl, hS⟩
  refine hKq _ _ _ _ _ _ ?_
  have O2 : (cxR (reV V A Q) 300 [sq_r ⟨u.2.toArray⟩ ⟨#[40]⟩ ty (i1 + 2) false (n1 + 3) (i1 + 3) g1, sq_r ⟨u.2.toArray⟩ ⟨#[41]⟩ ty (i1 + 3) true (n1 + 3) (i1 + 4) g1, mul2_r 32 k opn (i1 + 4) to (n1 + 3) (i1 + 5) g1, addL_r (List.replicate k 32) [9] (i1 + 5) (i1 + 6) (n1 + 3) (i1 + 7) g1, addL_r lead (List.replicate k 32 ++ [9]) tl (i1 + 7) (n1 + 3) (i1 + 8) g1]).Ok := B.okR (by decide) ⟨sq_ok (by show (u.2 == [40]) = false; exact hu), sq_ok (by show (u.2 == [41]) = true; exact hv), mul2_ok hk h2 h3, addL_ok (by cases k with | zero => omega | succ k => simp [List.replicate_succ]) (by simp) (by simp; omega), addL_ok hl (by simp) (by simp; omega), trivial⟩
  cases o with
  | none =>
    intro sq
    exact @run_to (cxR (reV V A Q) 300 _) O2 _ 117 (unp 67 0x1040041040147ff4dffd27ff3dffc41117ff04441ffc11041001040010410c10410410430410410410c1041041081082083) [3, 5] 6 [] 0 (ldC V.w.params a ga) .base (startF (ldC V.w.params a ga)) _ _ _ _ _ (by decide) (by kernel_rfl)
      (H (i1 + 8) (i1 + 11) ((i1, .int (Int.ofNat u.1) tp), (i1 + 1, .str ⟨u.2.toArray⟩ ty)) (e + 2) u1' u2' Lt' G1 (n1 + 3) (i1 + 13) g1 hS A Q B F G Bk)
  | some o =>
    intro sq
    exact @run_to (cxR (reV V A Q) 300 _) O2 _ 117 (unp 67 0x1040041040147ff4dffd27ff3dffc41117ff04441ffc11041001040010410c10410410430410410410c1041041081082083) [3, 5] 6 [] 0 (ldC V.w.params a ga) .base (startF (ldC V.w.params a ga)) _ _ _ _ _ (by decide) (by kernel_rfl)
      (H (i1 + 8) (i1 + 11) ((o.1.1, .int (Int.ofNat u.1) tp), (o.2.1, .str ⟨u.2.toArray⟩ ty)) (e) u1' u2' Lt' G1 (n1 + 3) (i1 + 13) g1 hS A Q B F G Bk)
theorem ld_close1 (hu : (u.2 == [40]) = false) (hv : (u.2 == [41]) = true) (hl : lead ≠ []) (hll : lead.length ≤ 500) (hk : opn = 1)
    (H : ∀ tl' to' o' e' u1' u2' Lt' K' n' i' g', GenS V x tx gd ga u1' u2' us Lt' K' → CallsT V 300 (ldC V.w.params a ga) (ldL V.w.params a ga t vs (lead ++ [32, 9]) tl' (opn - 1) to' (some o') e' gd u1' u2' Lt') K' n' i' g' P) :
    CallsT V 300 (ldC V.w.params a ga) (ldL V.w.params a ga t vs lead tl opn to o e gd u1 u2 Lt) K n i g P := by
  intro A Q B F G Bk
  have O : (cxR (reV V A Q) 300 []).Ok := B.okR (by decide) trivial
  have C := ((gen_next hasc S n i g).re A Q).codeH B
  refine @run_codeH (cxR (reV V A Q) 300 _) O _ 2 (unp 2 0x2) [1] 2 250 _ _ F _ G _ _ _ _ C (by kernel_rfl) (hid6 ?_)
  intro Kq hKq
  rintro r L1 G1 n1 i1 g1 hx
  refine ex6 hx ?_
  clear hx
  rintro rr tp ty u1' u2' Lt' ⟨rfl, rfl, hS⟩
  refine hKq _ _ _ _ _ _ ?_
  have O2 : (cxR (reV V A Q) 300 [sq_r ⟨u.2.toArray⟩ ⟨#[40]⟩ ty (i1 + 2) false (n1 + 3) (i1 + 3) g1, sq_r ⟨u.2.toArray⟩ ⟨#[41]⟩ ty (i1 + 3) true (n1 + 3) (i1 + 4) g1, pv_r (bi "str.__mul__" [.str ⟨#[32]⟩ (i1 + 4), .int opn to]) (.str ⟨#[32]⟩ (i1 + 4)) (n1 + 3) (i1 + 5) g1, addL_r [32] [9] (i1 + 4) (i1 + 5) (n1 + 3) (i1 + 6) g1, addL_r lead [32, 9] tl (i1 + 6) (n1 + 3) (i1 + 7) g1]).Ok := B.okR (by decide) ⟨sq_ok (by show (u.2 == [40]) = false; exact hu), sq_ok (by show (u.2 == [41]) = true; exact hv), mul1_ok hk, addL_ok (by simp) (by simp) (by decide), addL_ok hl (by simp) (by simp; omega), trivial⟩
  cases o with
  | none =>
    intro sq
    exact @run_to (cxR (reV V A Q) 300 _) O2 _ 117 (unp 67 0x1040041040147ff4dffd27ff3dffc41117ff04441ffc11041001040010410c10410410430410410410c1041041081082083) [3, 5] 6 [] 0 (ldC V.w.params a ga) .base (startF (ldC V.w.params a ga)) _ _ _ _ _ (by decide) (by kernel_rfl)
      (H (i1 + 7) (i1 + 10) ((i1, .int (Int.ofNat u.1) tp), (i1 + 1, .str ⟨u.2.toArray⟩ ty)) (e + 2) u1' u2' Lt' G1 (n1 + 3) (i1 + 12) g1 hS A Q B F G Bk)
  | some o =>
    intro sq
    exact @run_to (cxR (reV V A Q) 300 _) O2 _ 117 (unp 67 0x1040041040147ff4dffd27ff3dffc41117ff04441ffc11041001040010410c10410410430410410410c1041041081082083) [3, 5] 6 [] 0 (ldC V.w.params a ga) .base (startF (ldC V.w.params a ga)) _ _ _ _ _ (by decide) (by kernel_rfl)
      (H (i1 + 7) (i1 + 10) ((o.1.1, .int (Int.ofNat u.1) tp), (o.2.1, .str ⟨u.2.toArray⟩ ty)) (e) u1' u2' Lt' G1 (n1 + 3) (i1 + 12) g1 hS A Q B F G Bk)
omit S in
theorem ld_end (S : GenS V x tx gd ga u1 u2 [] Lt K) (hx : x ≠ [])
    (H : P (.ok .next) [(a 0 + 305, oFrm (dEs V.w.params (ldF t vs lead tl opn to o)) e)] [(gd, .fin)] 0 0 0) (HP : ∀ r L G n i g n' i' g', P r L G n i g → P r L G n' i' g') :
    CallsT V 300 (ldC V.w.params a ga) (ldL V.w.params a ga t vs lead tl opn to o e gd u1 u2 Lt) K n i g P := by
  intro A Q B F G Bk
  have O : (cxR (reV V A Q) 300 []).Ok := B.okR (by decide) trivial
  have C := ((gen_end hx S n i g).re A Q).codeH B
  refine @run_codeH (cxR (reV V A Q) 300 _) O _ 2 (unp 2 0x2) [1] 2 250 _ _ F _ G _ _ _ _ C (by kernel_rfl) (hid6 ?_)
  intro Kq hKq
  rintro r L1 G1 n1 i1 g1 ⟨rr, rfl, rfl, rfl⟩
  refine hKq _ _ _ _ _ _ ?_
  have BK := Bk _ _ _ n1 i1 g1 (HP _ _ _ _ _ _ _ _ _ H)
  cases o with
  | none =>
    intro sq
    exact @run_end (cxR (reV V A Q) 300 _) O _ 2 (unp 2 0x2) [0] 2 [] 0 .base .next _ _ _ _ _ (by decide) (by kernel_rfl) BK
  | some o =>
    intro sq
    exact @run_end (cxR (reV V A Q) 300 _) O _ 2 (unp 2 0x2) [0] 2 [] 0 .base .next _ _ _ _ _ (by decide) (by kernel_rfl) BK
end
end Mine
end
section
open PySem PySem.W PySem.W.X PySem.Builtin.Str
namespace Mine
noncomputable abbrev LS := List Nat × Nat
noncomputable def ldStep (s : LS) (u : Unit2) : LS := match u.2 == [40] with
  | true => (s.1, s.2 + 1)
  | false => match u.2 == [41] with
    | true => (s.1 ++ (List.replicate s.2 32 ++ [9]), s.2 - 1)
    | false => s
noncomputable def ldOk1 (s : LS) (u : Unit2) : Prop := (u.2 == [40]) = false → (u.2 == [41]) = true → 1 ≤ s.2 ∧ s.2 ≤ 100 ∧ s.1.length ≤ 500 ∧ (s.1 = [] → 2 ≤ s.2)
noncomputable def ldOk : List Unit2 → LS → Prop
  | [], _ => True
  | u :: us, s => ldOk1 s u ∧ ldOk us (ldStep s u)
noncomputable def ldP (p : Params) (a : Nat → Nat) (gd : Nat) (t : Nat → Tok) (vs : Nat → Value) (lead : List Nat) : PostH := fun r L' G' _ _ _ => r = .ok .next ∧ G' = [(gd, .fin)] ∧ ∃ (tl : Tok) (opn : Int) (to : Tok) (o : Option ((Tok × Value) × (Tok × Value))) (e : Nat),
  L' = [(a 0 + 305, oFrm (dEs p (ldF t vs lead tl opn to o)) e)]
theorem ld_loop {V : XV} (a : Nat → Nat) (ga : Nat) (x : List Nat) (tx : Tok) (gd : Nat) (hasc : (x.all fun c => Nat.blt c 128) = true) (hx0 : x ≠ []) (t : Nat → Tok) (vs : Nat → Value) : ∀ (us : List Unit2) (s : LS), ldOk us s → ∀ (tl to : Tok) (o : Option ((Tok × Value) × (Tok × Value))) (e : Nat) (u1 u2 : Tok) (Lt : Led) (K : Gl) (n i g : Nat), GenS V x tx gd ga u1 u2 us Lt K →
    CallsT V 300 (ldC V.w.params a ga) (ldL V.w.params a ga t vs s.1 tl (Int.ofNat s.2) to o e gd u1 u2 Lt) K n i g (ldP V.w.params a gd t vs (us.foldl ldStep s).1) := by
  intro us
  induction us with
  | nil =>
    intro s hok tl to o e u1 u2 Lt K n i g S
    exact ld_end a ga x tx gd hasc t vs s.1 tl (Int.ofNat s.2) to o e u1 u2 Lt K n i g _ S hx0 ⟨rfl, rfl, tl, _, to, o, e, rfl⟩ fun r L G n i g n' i' g' h => h
  | cons u us ih =>
    intro s hok tl to o e u1 u2 Lt K n i g S
    obtain ⟨h1, h2⟩ := hok
    rw [List.foldl_cons]
    cases hu : u.2 == [40] with
    | true =>
      have es : ldStep s u = (s.1, s.2 + 1) := by unfold ldStep; rw [hu]
      rw [es] at h2 ⊢
      exact ld_open a ga x tx gd u us hasc t vs s.1 tl (Int.ofNat s.2) to o e u1 u2 Lt K n i g _ S hu fun tl' to' o' e' u1' u2' Lt' K' n' i' g' S' => ih _ h2 tl' to' (some o') e' u1' u2' Lt' K' n' i' g' S'
    | false =>
      cases hv : u.2 == [41] with
      | false =>
        have es : ldStep s u = s := by unfold ldStep; rw [hu, hv]
        rw [es] at h2 ⊢
        exact ld_other a ga x tx gd u us hasc t vs s.1 tl (Int.ofNat s.2) to o e u1 u2 Lt K n i g _ S hu hv fun tl' to' o' e' u1' u2' Lt' K' n' i' g' S' => ih _ h2 tl' to' (some o') e' u1' u2' Lt' K' n' i' g' S'
      | true =>
        have es : ldStep s u = (s.1 ++ (List.replicate s.2 32 ++ [9]), s.2 - 1) := by unfold ldStep; rw [hu, hv]
        obtain ⟨ha, hb, hc, hd⟩ := h1 hu hv
        rw [es] at h2 ⊢
        obtain ⟨ld, k⟩ := s
        simp only at ha hb hc hd h2 ⊢
        obtain ⟨k, rfl⟩ : ∃ k', k = k' + 1 := ⟨k - 1, by omega⟩
        have ek : Int.ofNat (k + 1) - 1 = Int.ofNat k := by simp
        have ek2 : k + 1 - 1 = k := rfl
        rw [ek2] at h2 ⊢
        by_cases hl : ld = []
        · have h3 := hd hl
          refine ld_first a ga x tx gd u us hasc t vs ld tl _ to o e u1 u2 Lt K n i g _ S (k + 1) hu hv hl rfl h3 hb fun tl' to' o' e' u1' u2' Lt' K' n' i' g' S' => ?_
          rw [ek]
          have z := ih _ h2 tl' to' (some o') e' u1' u2' Lt' K' n' i' g' S'
          subst hl
          exact z
        · cases k with
          | zero =>
            refine ld_close1 a ga x tx gd u us hasc t vs ld tl _ to o e u1 u2 Lt K n i g _ S hu hv hl hc rfl fun tl' to' o' e' u1' u2' Lt' K' n' i' g' S' => ?_
            exact ih _ h2 tl' to' (some o') e' u1' u2' Lt' K' n' i' g' S'
          | succ k =>
            refine ld_close2 a ga x tx gd u us hasc t vs ld tl _ to o e u1 u2 Lt K n i g _ S (k + 1 + 1) hu hv hl hc rfl (by omega) hb fun tl' to' o' e' u1' u2' Lt' K' n' i' g' S' => ?_
            rw [ek]
            exact ih _ h2 tl' to' (some o') e' u1' u2' Lt' K' n' i' g' S'
end Mine
end
section
open PySem PySem.W PySem.W.X PySem.Builtin.Str
namespace Mine
noncomputable def padN (sz : List Nat) : List Nat := List.replicate (5 - sz.length) 0 ++ sortN sz
noncomputable def eF (sz : List Nat) : List Nat := [40, 40, 40, 40] ++ edgeF (padN sz) 0
noncomputable def lineF (sz cs : List Nat) : List Nat := (pieceF cs 0 (eF sz)).flatten
noncomputable def leadF (sz cs : List Nat) : List Nat := ((unitsF (stripR (lineF sz cs)) 0).foldl ldStep ([], 0)).1
structure TypedOk (sz cs : List Nat) : Prop where
  num : sz.length = 1 ∨ sz.length = 2 ∨ sz.length = 3 ∨ sz.length = 4 ∨ sz.length = 5
  up : upN 0 (padN sz) = true
  len : (eF sz).length ≤ 80
  line : StripOk (lineF sz cs)
  asc : ((stripR (lineF sz cs)).all fun c => Nat.blt c 128) = true
  well : wellE (stripR (lineF sz cs)) = true
  ne : stripR (lineF sz cs) ≠ []
  units : ldOk (unitsF (stripR (lineF sz cs)) 0) ([], 0)
  lasc : ((leadF sz cs).all fun c => Nat.blt c 128) = true
  lhd : ∃ cs', leadF sz cs = 32 :: cs'
  lok : wsOk (leadF sz cs) ⟨0, fun _ => 0, 0⟩ = true
noncomputable def wsRes (p : Params) (raw : List Nat) (v : Value) (L' R : Led) : Prop := ∃ (w : Nat → Nat) (t : Nat → Tok) (nn nt : Int) (tc : Nat → Tok) (e : Nat), v = .ref (w 0 + 305) ∧
  L' = wsL p w t ⟨raw.toArray⟩ nn nt (valsN (qL (wsRun raw ⟨0, fun _ => 0, 0⟩).c tc (wsRun raw ⟨0, fun _ => 0, 0⟩).L)).toArray (Int.ofNat (wsRun raw ⟨0, fun _ => 0, 0⟩).b) false e ++ R
theorem pieceF_len (cs : List Nat) : ∀ (E : List Nat) (j : Nat), (pieceF cs j E).length = E.length
  | [], _ => rfl
  | c :: r, j => by simp [pieceF, pieceF_len cs r (j + 1)]
theorem edgeF_asc : ∀ (l : List Nat) (last : Nat), ((edgeF l last).all fun c => Nat.blt c 128) = true
  | [], _ => rfl
  | x :: r, last => by
    unfold edgeF
    rw [List.all_append, List.all_append, edgeF_asc r x]
    have : ((List.replicate (x - last) 40).all fun c => Nat.blt c 128) = true := by
      rw [List.all_eq_true]
      intro z hz
      rw [List.eq_of_mem_replicate hz]
      rfl
    rw [this]
    rfl
theorem eF_asc (sz : List Nat) : ((eF sz).all fun c => Nat.blt c 128) = true := by
  unfold eF
  rw [List.all_append, edgeF_asc]
  rfl
theorem typed_raw {V : XV} (l c : Nat) (q qc : List (Nat × Tok)) (hc5 : qc.length = 5) (E X Y D : List Nat) (hnum : q.length ≠ 0 ∧ q.length ≤ 5) (hup : upN 0 (padN (q.map (·.1))) = true) (hE : eF (q.map (·.1)) = E) (hX : (pieceF (qc.map (·.1)) 0 E).flatten = X) (hY : stripR X = Y) (hD : ((unitsF Y 0).foldl ldStep ([], 0)).1 = D)
    (hEasc : (E.all fun c => Nat.blt c 128) = true) (hElen : 4 ≤ E.length) (hlen : E.length ≤ 80) (hline : StripOk X) (hasc : (Y.all fun c => Nat.blt c 128) = true) (hwell : wellE Y = true) (hne : Y ≠ []) (hun : ldOk (unitsF Y 0) ([], 0)) (hlasc : (D.all fun c => Nat.blt c 128) = true) (hlhd : ∃ cs', D = 32 :: cs') (hlok : wsOk D ⟨0, fun _ => 0, 0⟩ = true) (eq ec : Nat) (n i g : Nat) :
    CallsE V 400 (.call (.ref 286) ⟨[.ref (l + 305), .ref (c + 305)], []⟩) [(l + 305, oSeq "list" (valsN q).toArray eq), (c + 305, oSeq "list" (valsN qc).toArray ec)] n i g (fun v L' _ _ _ => ∃ e1 e2, wsRes V.w.params D v L' [(l + 305, oSeq "list" (valsN q).toArray e1), (c + 305, oSeq "list" (valsN qc).toArray e2)]) := by
  intro A Q B F G Bk
  have OO : (cxR (reV V A Q) 400 []).Ok := B.okR (by decide) trivial
  have Cs := sorted_code (V := reV V A Q) l q (by omega) 0 eq (n + 10) (i + 15) g
  have hEne : E ≠ [] := fun e => by rw [e] at hElen; simp at hElen
  have hsh : (∃ a, q = [a]) ∨ (∃ a b, q = [a, b]) ∨ (∃ a b d, q = [a, b, d]) ∨ (∃ a b d f, q = [a, b, d, f]) ∨ (∃ a b d f h, q = [a, b, d, f, h]) := by
    obtain ⟨h0, h5⟩ := hnum
    rcases q with _ | ⟨a, _ | ⟨b, _ | ⟨d, _ | ⟨f, _ | ⟨h, _ | ⟨h2, q⟩⟩⟩⟩⟩⟩
    · simp at h0
    · exact .inl ⟨a, rfl⟩
    · exact .inr (.inl ⟨a, b, rfl⟩)
    · exact .inr (.inr (.inl ⟨a, b, d, rfl⟩))
    · exact .inr (.inr (.inr (.inl ⟨a, b, d, f, rfl⟩)))
    · exact .inr (.inr (.inr (.inr ⟨a, b, d, f, h, rfl⟩)))
    · simp only [List.length_cons] at h5
      omega
  rcases hsh with ⟨a, rfl⟩ | ⟨a, b, rfl⟩ | ⟨a, b, d, rfl⟩ | ⟨a, b, d, f, rfl⟩ | ⟨a, b, d, f, h, rfl⟩
  · have O1 : (cxR (reV V A Q) 400 [len_r (l + 305) (valsN [a]).toArray eq (n + 9) (i + 12) g]).Ok := B.okR (by decide) ⟨len_ok (by simp [valsN]), trivial⟩
    refine @run_codeE (cxR (reV V A Q) 400 _) O1 _ 131 (unp 60 0xb00008208208941ffc90002080082000410420410410410810410410420410410410410410820020830c0000) [1] 12 0 _ _ F _ _ _ _ Cs (by kernel_rfl) (hid ?_)
    intro Kq hKq
    rintro r0 L0 n0 i0 g0 hx
    refine ex3 hx ?_
    clear hx
    rintro rr q' eo ⟨rfl, hq', rfl⟩
    refine hKq _ _ _ _ _ ?_
    have hql' : q'.length = 1 := by
      have z := congrArg List.length hq'
      rw [(sortN_perm _).length_eq] at z
      simpa using z
    obtain ⟨a', rfl⟩ : ∃ a', q' = [a'] := by
      rcases q' with _ | ⟨a', _ | ⟨z, q'⟩⟩
      · simp at hql'
      · exact ⟨a', rfl⟩
      · simp at hql'
    have hpad : (([(0, i + 10), (0, i + 10), (0, i + 10), (0, i + 10), a'] : List (Nat × Tok)).map (·.1)) = padN ([a].map (·.1)) := by
      unfold padN
      rw [← hq']
      rfl
    have hE2 : [40, 40, 40, 40] ++ edgeF (([(0, i + 10), (0, i + 10), (0, i + 10), (0, i + 10), a'] : List (Nat × Tok)).map (·.1)) 0 = E := by rw [hpad]; exact hE
    have C1 := ((eg_loop (V := V) (lk [n, n + 1, n + 2]) (n0 + 1) n0 (lk [i, i + 8, i + 9]) l [(0, i + 10), (0, i + 10), (0, i + 10), (0, i + 10), a'] [(0, i + 10), (0, i + 10), (0, i + 10), (0, i + 10), a'] [] rfl 0 (by rw [hpad]; exact hup) [40, 40, 40, 40] (by simp) (by simp) (i + 6) (i + 7) none (.inr (by simp)) (lk [3, 0]) (n0 + 2) i0 g0).g (by kernel_rfl) (by decide)).re A Q
    rw [hE2] at C1
    intro sq
    refine @run_callG (cxR (reV V A Q) 400 _) OO _ 25 (unp 13 0x4104104c04c041301) [0, 0, 9] 15 250 _ _ F _ _ _ _ C1 B (by kernel_rfl) (hid ?_)
    intro Kq hKq
    rintro r1 L1 n1 i1 g1 ⟨rfl, hx⟩
    refine ex5 hx ?_
    clear hx
    rintro te last tl o e1 rfl
    refine hKq _ _ _ _ _ ?_
    have O2 : (cxR (reV V A Q) 400 [en_r ⟨E.toArray⟩ te n1 (i1 + 1) g1]).Ok := B.okR (by decide) ⟨en_ok (all_asc hEasc), trivial⟩
    have C2 := (tc_all (V := V) (lk [n, n + 1, n + 2, n + 3, c]) (lk [n1 + 1, n1, n1 + 2, n1 + 3]) (lk [0, 0, 0, 0, 0, 0, 0, 0, 0, 0, i + 1, i + 2, i + 3, i + 4, i + 5]) E te (dEs V.w.params (tyF (lk [i, i + 8, i + 9]) l E te last tl (some o))) qc hc5 hEne hlen (lk [0, 0, e1, 0, ec]) (n1 + 4) (i1 + 1) g1).re A Q
    intro sq
    refine @run_callG (cxR (reV V A Q) 400 _) O2 _ 33 (unp 19 0x410410410410507ff3dffcd000) [2, 2, 1, 0, 12, 8, 7, 6, 6] 17 250 _ _ F _ _ _ _ C2 B (by kernel_rfl) (hid ?_)
    intro Kq hKq
    rintro r2 L2 n2 i2 g2 ⟨rfl, hx⟩
    refine ex4 hx ?_
    clear hx
    rintro w e2 u o2 ⟨hw, rfl⟩
    refine hKq _ _ _ _ _ ?_
    have hjl : (pieceF (qc.map (·.1)) 0 E).length ≠ 1 := by rw [pieceF_len]; omega
    have hj : RlOk (reV V A Q) (je_r i1 (n1 + 2 + 305) (strValues ([] ++ w)).toArray ⟨X.toArray⟩ (e2 0) n2 i2 g2) := by
      rw [← hX]
      exact je_ok rfl hw hjl (by rw [hX]; exact Nat.le_trans hline.len (by decide))
    have O3 : (cxR (reV V A Q) 400 [je_r i1 (n1 + 2 + 305) (strValues ([] ++ w)).toArray ⟨X.toArray⟩ (e2 0) n2 i2 g2]).Ok := B.okR (by decide) ⟨hj, trivial⟩
    have C3 := ((strip (V := V) X i2 hline (n2 + 4) (i2 + 6) g2).g).re A Q
    rw [hY] at C3
    intro sq
    refine @run_callG (cxR (reV V A Q) 400 _) O3 _ 94 (unp 52 0x3c000f3c03cf00104108104104104204104104108104104104104104b2c02107ff28a28a28a) [] 19 350 _ _ F _ _ _ _ C3 B (by kernel_rfl) (hid ?_)
    intro Kq hKq
    rintro r3 L3 n3 i3 g3 ⟨v3, rfl, tv, rfl, rfl⟩
    refine hKq _ _ _ _ _ ?_
    have S4 := GenS.fresh (V := V) Y hwell tv g3 (n3 + 1) n3 (lk [i3, 0, 0, 0, i3 + 1, i3 + 2]) 1
    have C4 := (((ld_loop (V := V) (lk [n, n + 1, n + 2]) (n3 + 1) Y tv g3 hasc hne (lk [i, i + 8, i + 9, o.1, i2 + 1, i2 + 4, i2 + 5]) (lk [.ref (l + 305), .str ⟨E.toArray⟩ te, .int last tl, o.2, .str ⟨X.toArray⟩ i2]) (unitsF Y 0) ([], 0) hun (i2 + 2) (i2 + 3) none (e2 1 + 3) (i3 + 1) (i3 + 2) _ _ (n3 + 2) (i3 + 3) (g3 + 1) S4).h (by kernel_rfl) (by decide)).re A Q).codeH B
    rw [hD] at C4
    intro sq
    refine @run_codeH (cxR (reV V A Q) 400 _) OO _ 27 (unp 13 0x41041040041000000) [16, 0, 0] 21 300 _ _ F _ G _ _ _ _ C4 (by kernel_rfl) (hid6 ?_)
    intro Kq hKq
    rintro r4 L4 G4 n4 i4 g4 ⟨rfl, rfl, hx⟩
    refine ex5 hx ?_
    clear hx
    rintro tl4 opn to o4 e4 rfl
    refine hKq _ _ _ _ _ _ ?_
    have C5 := ((ws_new_obj (V := V) D tl4 hlasc hlhd hlok n4 i4 g4).g).re A Q
    cases o4 with
    | none =>
      intro sq
      refine @run_callG (cxR (reV V A Q) 400 _) OO _ 8 (unp 5 0x4c0) [] 19 300 _ _ F _ _ _ _ C5 B (by kernel_rfl) (hid ?_)
      intro Kq hKq
      rintro r5 L5 n5 i5 g5 ⟨v5, rfl, hx⟩
      refine ex6 hx ?_
      clear hx
      rintro w5 t5 nn nt tc e5 ⟨rfl, rfl⟩
      refine hKq _ _ _ _ _ ?_
      intro sq
      exact @run_end (cxR (reV V A Q) 400 _) OO _ 1 (unp 1 0x0) [19, 20, 21, 22, 12, 17] 23 [] 1 .base (.ret (.ref (w5 0 + 305))) _ _ _ _ _ (by decide) (by kernel_rfl) (Bk _ _ n5 i5 g5 ⟨eq, e2 3, w5, t5, nn, nt, tc, e5, rfl, rfl⟩)
    | some o4 =>
      intro sq
      refine @run_callG (cxR (reV V A Q) 400 _) OO _ 8 (unp 5 0x4c0) [] 19 300 _ _ F _ _ _ _ C5 B (by kernel_rfl) (hid ?_)
      intro Kq hKq
      rintro r5 L5 n5 i5 g5 ⟨v5, rfl, hx⟩
      refine ex6 hx ?_
      clear hx
      rintro w5 t5 nn nt tc e5 ⟨rfl, rfl⟩
      refine hKq _ _ _ _ _ ?_
      intro sq
      exact @run_end (cxR (reV V A Q) 400 _) OO _ 1 (unp 1 0x0) [19, 20, 21, 22, 12, 17] 23 [] 1 .base (.ret (.ref (w5 0 + 305))) _ _ _ _ _ (by decide) (by kernel_rfl) (Bk _ _ n5 i5 g5 ⟨eq, e2 3, w5, t5, nn, nt, tc, e5, rfl, rfl⟩)
  · have O1 : (cxR (reV V A Q) 400 [len_r (l + 305) (valsN [a, b]).toArray eq (n + 9) (i + 12) g]).Ok := B.okR (by decide) ⟨len_ok (by simp [valsN]), trivial⟩
    refine @run_codeE (cxR (reV V A Q) 400 _) O1 _ 131 (unp 60 0xb00008208208941ffc90002080082000410420410410410810410410420410410410410410820020830c0000) [1] 12 0 _ _ F _ _ _ _ Cs (by kernel_rfl) (hid ?_)
    intro Kq hKq
    rintro r0 L0 n0 i0 g0 hx
    refine ex3 hx ?_
    clear hx
    rintro rr q' eo ⟨rfl, hq', rfl⟩
    refine hKq _ _ _ _ _ ?_
    have hql' : q'.length = 2 := by
      have z := congrArg List.length hq'
      rw [(sortN_perm _).length_eq] at z
      simpa using z
    obtain ⟨a', b', rfl⟩ : ∃ a' b', q' = [a', b'] := by
      rcases q' with _ | ⟨a', _ | ⟨b', _ | ⟨z, q'⟩⟩⟩
      · simp at hql'
      · simp at hql'
      · exact ⟨a', b', rfl⟩
      · simp at hql'
    have hpad : (([(0, i + 10), (0, i + 10), (0, i + 10), a', b'] : List (Nat × Tok)).map (·.1)) = padN ([a, b].map (·.1)) := by
      unfold padN
      rw [← hq']
      rfl
    have hE2 : [40, 40, 40, 40] ++ edgeF (([(0, i + 10), (0, i + 10), (0, i + 10), a', b'] : List (Nat × Tok)).map (·.1)) 0 = E := by rw [hpad]; exact hE
    have C1 := ((eg_loop (V := V) (lk [n, n + 1, n + 2]) (n0 + 1) n0 (lk [i, i + 8, i + 9]) l [(0, i + 10), (0, i + 10), (0, i + 10), a', b'] [(0, i + 10), (0, i + 10), (0, i + 10), a', b'] [] rfl 0 (by rw [hpad]; exact hup) [40, 40, 40, 40] (by simp) (by simp) (i + 6) (i + 7) none (.inr (by simp)) (lk [3, 0]) (n0 + 2) i0 g0).g (by kernel_rfl) (by decide)).re A Q
    rw [hE2] at C1
    intro sq
    refine @run_callG (cxR (reV V A Q) 400 _) OO _ 25 (unp 13 0x4104104c04c041301) [0, 0, 9] 15 250 _ _ F _ _ _ _ C1 B (by kernel_rfl) (hid ?_)
    intro Kq hKq
    rintro r1 L1 n1 i1 g1 ⟨rfl, hx⟩
    refine ex5 hx ?_
    clear hx
    rintro te last tl o e1 rfl
    refine hKq _ _ _ _ _ ?_
    have O2 : (cxR (reV V A Q) 400 [en_r ⟨E.toArray⟩ te n1 (i1 + 1) g1]).Ok := B.okR (by decide) ⟨en_ok (all_asc hEasc), trivial⟩
    have C2 := (tc_all (V := V) (lk [n, n + 1, n + 2, n + 3, c]) (lk [n1 + 1, n1, n1 + 2, n1 + 3]) (lk [0, 0, 0, 0, 0, 0, 0, 0, 0, 0, i + 1, i + 2, i + 3, i + 4, i + 5]) E te (dEs V.w.params (tyF (lk [i, i + 8, i + 9]) l E te last tl (some o))) qc hc5 hEne hlen (lk [0, 0, e1, 0, ec]) (n1 + 4) (i1 + 1) g1).re A Q
    intro sq
    refine @run_callG (cxR (reV V A Q) 400 _) O2 _ 33 (unp 19 0x410410410410507ff3dffcd000) [2, 2, 1, 0, 12, 8, 7, 6, 6] 17 250 _ _ F _ _ _ _ C2 B (by kernel_rfl) (hid ?_)
    intro Kq hKq
    rintro r2 L2 n2 i2 g2 ⟨rfl, hx⟩
    refine ex4 hx ?_
    clear hx
    rintro w e2 u o2 ⟨hw, rfl⟩
    refine hKq _ _ _ _ _ ?_
    have hjl : (pieceF (qc.map (·.1)) 0 E).length ≠ 1 := by rw [pieceF_len]; omega
    have hj : RlOk (reV V A Q) (je_r i1 (n1 + 2 + 305) (strValues ([] ++ w)).toArray ⟨X.toArray⟩ (e2 0) n2 i2 g2) := by
      rw [← hX]
      exact je_ok rfl hw hjl (by rw [hX]; exact Nat.le_trans hline.len (by decide))
    have O3 : (cxR (reV V A Q) 400 [je_r i1 (n1 + 2 + 305) (strValues ([] ++ w)).toArray ⟨X.toArray⟩ (e2 0) n2 i2 g2]).Ok := B.okR (by decide) ⟨hj, trivial⟩
    have C3 := ((strip (V := V) X i2 hline (n2 + 4) (i2 + 6) g2).g).re A Q
    rw [hY] at C3
    intro sq
    refine @run_callG (cxR (reV V A Q) 400 _) O3 _ 94 (unp 52 0x3c000f3c03cf00104108104104104204104104108104104104104104b2c02107ff28a28a28a) [] 19 350 _ _ F _ _ _ _ C3 B (by kernel_rfl) (hid ?_)
    intro Kq hKq
    rintro r3 L3 n3 i3 g3 ⟨v3, rfl, tv, rfl, rfl⟩
    refine hKq _ _ _ _ _ ?_
    have S4 := GenS.fresh (V := V) Y hwell tv g3 (n3 + 1) n3 (lk [i3, 0, 0, 0, i3 + 1, i3 + 2]) 1
    have C4 := (((ld_loop (V := V) (lk [n, n + 1, n + 2]) (n3 + 1) Y tv g3 hasc hne (lk [i, i + 8, i + 9, o.1, i2 + 1, i2 + 4, i2 + 5]) (lk [.ref (l + 305), .str ⟨E.toArray⟩ te, .int last tl, o.2, .str ⟨X.toArray⟩ i2]) (unitsF Y 0) ([], 0) hun (i2 + 2) (i2 + 3) none (e2 1 + 3) (i3 + 1) (i3 + 2) _ _ (n3 + 2) (i3 + 3) (g3 + 1) S4).h (by kernel_rfl) (by decide)).re A Q).codeH B
    rw [hD] at C4
    intro sq
    refine @run_codeH (cxR (reV V A Q) 400 _) OO _ 27 (unp 13 0x41041040041000000) [16, 0, 0] 21 300 _ _ F _ G _ _ _ _ C4 (by kernel_rfl) (hid6 ?_)
    intro Kq hKq
    rintro r4 L4 G4 n4 i4 g4 ⟨rfl, rfl, hx⟩
    refine ex5 hx ?_
    clear hx
    rintro tl4 opn to o4 e4 rfl
    refine hKq _ _ _ _ _ _ ?_
    have C5 := ((ws_new_obj (V := V) D tl4 hlasc hlhd hlok n4 i4 g4).g).re A Q
    cases o4 with
    | none =>
      intro sq
      refine @run_callG (cxR (reV V A Q) 400 _) OO _ 8 (unp 5 0x4c0) [] 19 300 _ _ F _ _ _ _ C5 B (by kernel_rfl) (hid ?_)
      intro Kq hKq
      rintro r5 L5 n5 i5 g5 ⟨v5, rfl, hx⟩
      refine ex6 hx ?_
      clear hx
      rintro w5 t5 nn nt tc e5 ⟨rfl, rfl⟩
      refine hKq _ _ _ _ _ ?_
      intro sq
      exact @run_end (cxR (reV V A Q) 400 _) OO _ 1 (unp 1 0x0) [19, 20, 21, 22, 12, 17] 23 [] 1 .base (.ret (.ref (w5 0 + 305))) _ _ _ _ _ (by decide) (by kernel_rfl) (Bk _ _ n5 i5 g5 ⟨eq, e2 3, w5, t5, nn, nt, tc, e5, rfl, rfl⟩)
    | some o4 =>
      intro sq
      refine @run_callG (cxR (reV V A Q) 400 _) OO _ 8 (unp 5 0x4c0) [] 19 300 _ _ F _ _ _ _ C5 B (by kernel_rfl) (hid ?_)
      intro Kq hKq
      rintro r5 L5 n5 i5 g5 ⟨v5, rfl, hx⟩
      refine ex6 hx ?_
      clear hx
      rintro w5 t5 nn nt tc e5 ⟨rfl, rfl⟩
      refine hKq _ _ _ _ _ ?_
      intro sq
      exact @run_end (cxR (reV V A Q) 400 _) OO _ 1 (unp 1 0x0) [19, 20, 21, 22, 12, 17] 23 [] 1 .base (.ret (.ref (w5 0 + 305))) _ _ _ _ _ (by decide) (by kernel_rfl) (Bk _ _ n5 i5 g5 ⟨eq, e2 3, w5, t5, nn, nt, tc, e5, rfl, rfl⟩)
  · have O1 : (cxR (reV V A Q) 400 [len_r (l + 305) (valsN [a, b, d]).toArray eq (n + 9) (i + 12) g]).Ok := B.okR (by decide) ⟨len_ok (by simp [valsN]), trivial⟩
    refine @run_codeE (cxR (reV V A Q) 400 _) O1 _ 131 (unp 60 0xb00008208208941ffc90002080082000410420410410410810410410420410410410410410820020830c0000) [1] 12 0 _ _ F _ _ _ _ Cs (by kernel_rfl) (hid ?_)
    intro Kq hKq
    rintro r0 L0 n0 i0 g0 hx
    refine ex3 hx ?_
    clear hx
    rintro rr q' eo ⟨rfl, hq', rfl⟩
    refine hKq _ _ _ _ _ ?_
    have hql' : q'.length = 3 := by
      have z := congrArg List.length hq'
      rw [(sortN_perm _).length_eq] at z
      simpa using z
    obtain ⟨a', b', d', rfl⟩ : ∃ a' b' d', q' = [a', b', d'] := by
      rcases q' with _ | ⟨a', _ | ⟨b', _ | ⟨d', _ | ⟨z, q'⟩⟩⟩⟩
      · simp at hql'
      · simp at hql'
      · simp at hql'
      · exact ⟨a', b', d', rfl⟩
      · simp at hql'
    have hpad : (([(0, i + 10), (0, i + 10), a', b', d'] : List (Nat × Tok)).map (·.1)) = padN ([a, b, d].map (·.1)) := by
      unfold padN
      rw [← hq']
      rfl
    have hE2 : [40, 40, 40, 40] ++ edgeF (([(0, i + 10), (0, i + 10), a', b', d'] : List (Nat × Tok)).map (·.1)) 0 = E := by rw [hpad]; exact hE
    have C1 := ((eg_loop (V := V) (lk [n, n + 1, n + 2]) (n0 + 1) n0 (lk [i, i + 8, i + 9]) l [(0, i + 10), (0, i + 10), a', b', d'] [(0, i + 10), (0, i + 10), a', b', d'] [] rfl 0 (by rw [hpad]; exact hup) [40, 40, 40, 40] (by simp) (by simp) (i + 6) (i + 7) none (.inr (by simp)) (lk [3, 0]) (n0 + 2) i0 g0).g (by kernel_rfl) (by decide)).re A Q
    rw [hE2] at C1
    intro sq
    refine @run_callG (cxR (reV V A Q) 400 _) OO _ 25 (unp 13 0x4104104c04c041301) [0, 0, 9] 15 250 _ _ F _ _ _ _ C1 B (by kernel_rfl) (hid ?_)
    intro Kq hKq
    rintro r1 L1 n1 i1 g1 ⟨rfl, hx⟩
    refine ex5 hx ?_
    clear hx
    rintro te last tl o e1 rfl
    refine hKq _ _ _ _ _ ?_
    have O2 : (cxR (reV V A Q) 400 [en_r ⟨E.toArray⟩ te n1 (i1 + 1) g1]).Ok := B.okR (by decide) ⟨en_ok (all_asc hEasc), trivial⟩
    have C2 := (tc_all (V := V) (lk [n, n + 1, n + 2, n + 3, c]) (lk [n1 + 1, n1, n1 + 2, n1 + 3]) (lk [0, 0, 0, 0, 0, 0, 0, 0, 0, 0, i + 1, i + 2, i + 3, i + 4, i + 5]) E te (dEs V.w.params (tyF (lk [i, i + 8, i + 9]) l E te last tl (some o))) qc hc5 hEne hlen (lk [0, 0, e1, 0, ec]) (n1 + 4) (i1 + 1) g1).re A Q
    intro sq
    refine @run_callG (cxR (reV V A Q) 400 _) O2 _ 33 (unp 19 0x410410410410507ff3dffcd000) [2, 2, 1, 0, 12, 8, 7, 6, 6] 17 250 _ _ F _ _ _ _ C2 B (by kernel_rfl) (hid ?_)
    intro Kq hKq
    rintro r2 L2 n2 i2 g2 ⟨rfl, hx⟩
    refine ex4 hx ?_
    clear hx
    rintro w e2 u o2 ⟨hw, rfl⟩
    refine hKq _ _ _ _ _ ?_
    have hjl : (pieceF (qc.map (·.1)) 0 E).length ≠ 1 := by rw [pieceF_len]; omega
    have hj : RlOk (reV V A Q) (je_r i1 (n1 + 2 + 305) (strValues ([] ++ w)).toArray ⟨X.toArray⟩ (e2 0) n2 i2 g2) := by
      rw [← hX]
      exact je_ok rfl hw hjl (by rw [hX]; exact Nat.le_trans hline.len (by decide))
    have O3 : (cxR (reV V A Q) 400 [je_r i1 (n1 + 2 + 305) (strValues ([] ++ w)).toArray ⟨X.toArray⟩ (e2 0) n2 i2 g2]).Ok := B.okR (by decide) ⟨hj, trivial⟩
    have C3 := ((strip (V := V) X i2 hline (n2 + 4) (i2 + 6) g2).g).re A Q
    rw [hY] at C3
    intro sq
    refine @run_callG (cxR (reV V A Q) 400 _) O3 _ 94 (unp 52 0x3c000f3c03cf00104108104104104204104104108104104104104104b2c02107ff28a28a28a) [] 19 350 _ _ F _ _ _ _ C3 B (by kernel_rfl) (hid ?_)
    intro Kq hKq
    rintro r3 L3 n3 i3 g3 ⟨v3, rfl, tv, rfl, rfl⟩
    refine hKq _ _ _ _ _ ?_
    have S4 := GenS.fresh (V := V) Y hwell tv g3 (n3 + 1) n3 (lk [i3, 0, 0, 0, i3 + 1, i3 + 2]) 1
    have C4 := (((ld_loop (V := V) (lk [n, n + 1, n + 2]) (n3 + 1) Y tv g3 hasc hne (lk [i, i + 8, i + 9, o.1, i2 + 1, i2 + 4, i2 + 5]) (lk [.ref (l + 305), .str ⟨E.toArray⟩ te, .int last tl, o.2, .str ⟨X.toArray⟩ i2]) (unitsF Y 0) ([], 0) hun (i2 + 2) (i2 + 3) none (e2 1 + 3) (i3 + 1) (i3 + 2) _ _ (n3 + 2) (i3 + 3) (g3 + 1) S4).h (by kernel_rfl) (by decide)).re A Q).codeH B
    rw [hD] at C4
    intro sq
    refine @run_codeH (cxR (reV V A Q) 400 _) OO _ 27 (unp 13 0x41041040041000000) [16, 0, 0] 21 300 _ _ F _ G _ _ _ _ C4 (by kernel_rfl) (hid6 ?_)
    intro Kq hKq
    rintro r4 L4 G4 n4 i4 g4 ⟨rfl, rfl, hx⟩
    refine ex5 hx ?_
    clear hx
    rintro tl4 opn to o4 e4 rfl
    refine hKq _ _ _ _ _ _ ?_
    have C5 := ((ws_new_obj (V := V) D tl4 hlasc hlhd hlok n4 i4 g4).g).re A Q
    cases o4 with
    | none =>
      intro sq
      refine @run_callG (cxR (reV V A Q) 400 _) OO _ 8 (unp 5 0x4c0) [] 19 300 _ _ F _ _ _ _ C5 B (by kernel_rfl) (hid ?_)
      intro Kq hKq
      rintro r5 L5 n5 i5 g5 ⟨v5, rfl, hx⟩
      refine ex6 hx ?_
      clear hx
      rintro w5 t5 nn nt tc e5 ⟨rfl, rfl⟩
      refine hKq _ _ _ _ _ ?_
      intro sq
      exact @run_end (cxR (reV V A Q) 400 _) OO _ 1 (unp 1 0x0) [19, 20, 21, 22, 12, 17] 23 [] 1 .base (.ret (.ref (w5 0 + 305))) _ _ _ _ _ (by decide) (by kernel_rfl) (Bk _ _ n5 i5 g5 ⟨eq, e2 3, w5, t5, nn, nt, tc, e5, rfl, rfl⟩)
    | some o4 =>
      intro sq
      refine @run_callG (cxR (reV V A Q) 400 _) OO _ 8 (unp 5 0x4c0) [] 19 300 _ _ F _ _ _ _ C5 B (by kernel_rfl) (hid ?_)
      intro Kq hKq
      rintro r5 L5 n5 i5 g5 ⟨v5, rfl, hx⟩
      refine ex6 hx ?_
      clear hx
      rintro w5 t5 nn nt tc e5 ⟨rfl, rfl⟩
      refine hKq _ _ _ _ _ ?_
      intro sq
      exact @run_end (cxR (reV V A Q) 400 _) OO _ 1 (unp 1 0x0) [19, 20, 21, 22, 12, 17] 23 [] 1 .base (.ret (.ref (w5 0 + 305))) _ _ _ _ _ (by decide) (by kernel_rfl) (Bk _ _ n5 i5 g5 ⟨eq, e2 3, w5, t5, nn, nt, tc, e5, rfl, rfl⟩)
  · have O1 : (cxR (reV V A Q) 400 [len_r (l + 305) (valsN [a, b, d, f]).toArray eq (n + 9) (i + 12) g]).Ok := B.okR (by decide) ⟨len_ok (by simp [valsN]), trivial⟩
    refine @run_codeE (cxR (reV V A Q) 400 _) O1 _ 131 (unp 60 0xb00008208208941ffc90002080082000410420410410410810410410420410410410410410820020830c0000) [1] 12 0 _ _ F _ _ _ _ Cs (by kernel_rfl) (hid ?_)
    intro Kq hKq
    rintro r0 L0 n0 i0 g0 hx
    refine ex3 hx ?_
    clear hx
    rintro rr q' eo ⟨rfl, hq', rfl⟩
    refine hKq _ _ _ _ _ ?_
    have hql' : q'.length = 4 := by
      have z := congrArg List.length hq'
      rw [(sortN_perm _).length_eq] at z
      simpa using z
    obtain ⟨a', b', d', f', rfl⟩ : ∃ a' b' d' f', q' = [a', b', d', f'] := by
      rcases q' with _ | ⟨a', _ | ⟨b', _ | ⟨d', _ | ⟨f', _ | ⟨z, q'⟩⟩⟩⟩⟩
      · simp at hql'
      · simp at hql'
      · simp at hql'
      · simp at hql'
      · exact ⟨a', b', d', f', rfl⟩
      · simp at hql'
    have hpad : (([(0, i + 10), a', b', d', f'] : List (Nat × Tok)).map (·.1)) = padN ([a, b, d, f].map (·.1)) := by
      unfold padN
      rw [← hq']
      rfl
    have hE2 : [40, 40, 40, 40] ++ edgeF (([(0, i + 10), a', b', d', f'] : List (Nat × Tok)).map (·.1)) 0 = E := by rw [hpad]; exact hE
    have C1 := ((eg_loop (V := V) (lk [n, n + 1, n + 2]) (n0 + 1) n0 (lk [i, i + 8, i + 9]) l [(0, i + 10), a', b', d', f'] [(0, i + 10), a', b', d', f'] [] rfl 0 (by rw [hpad]; exact hup) [40, 40, 40, 40] (by simp) (by simp) (i + 6) (i + 7) none (.inr (by simp)) (lk [3, 0]) (n0 + 2) i0 g0).g (by kernel_rfl) (by decide)).re A Q
    rw [hE2] at C1
    intro sq
    refine @run_callG (cxR (reV V A Q) 400 _) OO _ 25 (unp 13 0x4104104c04c041301) [0, 0, 9] 15 250 _ _ F _ _ _ _ C1 B (by kernel_rfl) (hid ?_)
    intro Kq hKq
    rintro r1 L1 n1 i1 g1 ⟨rfl, hx⟩
    refine ex5 hx ?_
    clear hx
    rintro te last tl o e1 rfl
    refine hKq _ _ _ _ _ ?_
    have O2 : (cxR (reV V A Q) 400 [en_r ⟨E.toArray⟩ te n1 (i1 + 1) g1]).Ok := B.okR (by decide) ⟨en_ok (all_asc hEasc), trivial⟩
    have C2 := (tc_all (V := V) (lk [n, n + 1, n + 2, n + 3, c]) (lk [n1 + 1, n1, n1 + 2, n1 + 3]) (lk [0, 0, 0, 0, 0, 0, 0, 0, 0, 0, i + 1, i + 2, i + 3, i + 4, i + 5]) E te (dEs V.w.params (tyF (lk [i, i + 8, i + 9]) l E te last tl (some o))) qc hc5 hEne hlen (lk [0, 0, e1, 0, ec]) (n1 + 4) (i1 + 1) g1).re A Q
    intro sq
    refine @run_callG (cxR (reV V A Q) 400 _) O2 _ 33 (unp 19 0x410410410410507ff3dffcd000) [2, 2, 1, 0, 12, 8, 7, 6, 6] 17 250 _ _ F _ _ _ _ C2 B (by kernel_rfl) (hid ?_)
    intro Kq hKq
    rintro r2 L2 n2 i2 g2 ⟨rfl, hx⟩
    refine ex4 hx ?_
    clear hx
    rintro w e2 u o2 ⟨hw, rfl⟩
    refine hKq _ _ _ _ _ ?_
    have hjl : (pieceF (qc.map (·.1)) 0 E).length ≠ 1 := by rw [pieceF_len]; omega
    have hj : RlOk (reV V A Q) (je_r i1 (n1 + 2 + 305) (strValues ([] ++ w)).toArray ⟨X.toArray⟩ (e2 0) n2 i2 g2) := by
      rw [← hX]
      exact je_ok rfl hw hjl (by rw [hX]; exact Nat.le_trans hline.len (by decide))
    have O3 : (cxR (reV V A Q) 400 [je_r i1 (n1 + 2 + 305) (strValues ([] ++ w)).toArray ⟨X.toArray⟩ (e2 0) n2 i2 g2]).Ok := B.okR (by decide) ⟨hj, trivial⟩
    have C3 := ((strip (V := V) X i2 hline (n2 + 4) (i2 + 6) g2).g).re A Q
    rw [hY] at C3
    intro sq
    refine @run_callG (cxR (reV V A Q) 400 _) O3 _ 94 (unp 52 0x3c000f3c03cf00104108104104104204104104108104104104104104b2c02107ff28a28a28a) [] 19 350 _ _ F _ _ _ _ C3 B (by kernel_rfl) (hid ?_)
    intro Kq hKq
    rintro r3 L3 n3 i3 g3 ⟨v3, rfl, tv, rfl, rfl⟩
    refine hKq _ _ _ _ _ ?_
    have S4 := GenS.fresh (V := V) Y hwell tv g3 (n3 + 1) n3 (lk [i3, 0, 0, 0, i3 + 1, i3 + 2]) 1
    have C4 := (((ld_loop (V := V) (lk [n, n + 1, n + 2]) (n3 + 1) Y tv g3 hasc hne (lk [i, i + 8, i + 9, o.1, i2 + 1, i2 + 4, i2 + 5]) (lk [.ref (l + 305), .str ⟨E.toArray⟩ te, .int last tl, o.2, .str ⟨X.toArray⟩ i2]) (unitsF Y 0) ([], 0) hun (i2 + 2) (i2 + 3) none (e2 1 + 3) (i3 + 1) (i3 + 2) _ _ (n3 + 2) (i3 + 3) (g3 + 1) S4).h (by kernel_rfl) (by decide)).re A Q).codeH B
    rw [hD] at C4
    intro sq
    refine @run_codeH (cxR (reV V A Q) 400 _) OO _ 27 (unp 13 0x41041040041000000) [16, 0, 0] 21 300 _ _ F _ G _ _ _ _ C4 (by kernel_rfl) (hid6 ?_)
    intro Kq hKq
    rintro r4 L4 G4 n4 i4 g4 ⟨rfl, rfl, hx⟩
    refine ex5 hx ?_
    clear hx
    rintro tl4 opn to o4 e4 rfl
    refine hKq _ _ _ _ _ _ ?_
    have C5 := ((ws_new_obj (V := V) D tl4 hlasc hlhd hlok n4 i4 g4).g).re A Q
    cases o4 with
    | none =>
      intro sq
      refine @run_callG (cxR (reV V A Q) 400 _) OO _ 8 (unp 5 0x4c0) [] 19 300 _ _ F _ _ _ _ C5 B (by kernel_rfl) (hid ?_)
      intro Kq hKq
      rintro r5 L5 n5 i5 g5 ⟨v5, rfl, hx⟩
      refine ex6 hx ?_
      clear hx
      rintro w5 t5 nn nt tc e5 ⟨rfl, rfl⟩
      refine hKq _ _ _ _ _ ?_
      intro sq
      exact @run_end (cxR (reV V A Q) 400 _) OO _ 1 (unp 1 0x0) [19, 20, 21, 22, 12, 17] 23 [] 1 .base (.ret (.ref (w5 0 + 305))) _ _ _ _ _ (by decide) (by kernel_rfl) (Bk _ _ n5 i5 g5 ⟨eq, e2 3, w5, t5, nn, nt, tc, e5, rfl, rfl⟩)
    | some o4 =>
      intro sq
      refine @run_callG (cxR (reV V A Q) 400 _) OO _ 8 (unp 5 0x4c0) [] 19 300 _ _ F _ _ _ _ C5 B (by kernel_rfl) (hid ?_)
      intro Kq hKq
      rintro r5 L5 n5 i5 g5 ⟨v5, rfl, hx⟩
      refine ex6 hx ?_
      clear hx
      rintro w5 t5 nn nt tc e5 ⟨rfl, rfl⟩
      refine hKq _ _ _ _ _ ?_
      intro sq
      exact @run_end (cxR (reV V A Q) 400 _) OO _ 1 (unp 1 0x0) [19, 20, 21, 22, 12, 17] 23 [] 1 .base (.ret (.ref (w5 0 + 305))) _ _ _ _ _ (by decide) (by kernel_rfl) (Bk _ _ n5 i5 g5 ⟨eq, e2 3, w5, t5, nn, nt, tc, e5, rfl, rfl⟩)
  · have O1 : (cxR (reV V A Q) 400 [len_r (l + 305) (valsN [a, b, d, f, h]).toArray eq (n + 9) (i + 12) g]).Ok := B.okR (by decide) ⟨len_ok (by simp [valsN]), trivial⟩
    refine @run_codeE (cxR (reV V A Q) 400 _) O1 _ 131 (unp 60 0xb00008208208941ffc90002080082000410420410410410810410410420410410410410410820020830c0000) [1] 12 0 _ _ F _ _ _ _ Cs (by kernel_rfl) (hid ?_)
    intro Kq hKq
    rintro r0 L0 n0 i0 g0 hx
    refine ex3 hx ?_
    clear hx
    rintro rr q' eo ⟨rfl, hq', rfl⟩
    refine hKq _ _ _ _ _ ?_
    have hql' : q'.length = 5 := by
      have z := congrArg List.length hq'
      rw [(sortN_perm _).length_eq] at z
      simpa using z
    obtain ⟨a', b', d', f', h', rfl⟩ : ∃ a' b' d' f' h', q' = [a', b', d', f', h'] := by
      rcases q' with _ | ⟨a', _ | ⟨b', _ | ⟨d', _ | ⟨f', _ | ⟨h', _ | ⟨z, q'⟩⟩⟩⟩⟩⟩
      · simp at hql'
      · simp at hql'
      · simp at hql'
      · simp at hql'
      · simp at hql'
      · exact ⟨a', b', d', f', h', rfl⟩
      · simp at hql'
    have hpad : (([a', b', d', f', h'] : List (Nat × Tok)).map (·.1)) = padN ([a, b, d, f, h].map (·.1)) := by
      unfold padN
      rw [← hq']
      rfl
    have hE2 : [40, 40, 40, 40] ++ edgeF (([a', b', d', f', h'] : List (Nat × Tok)).map (·.1)) 0 = E := by rw [hpad]; exact hE
    have C1 := ((eg_loop (V := V) (lk [n, n + 1, n + 2]) (n0 + 1) n0 (lk [i, i + 8, i + 9]) l [a', b', d', f', h'] [a', b', d', f', h'] [] rfl 0 (by rw [hpad]; exact hup) [40, 40, 40, 40] (by simp) (by simp) (i + 6) (i + 7) none (.inr (by simp)) (lk [3, 0]) (n0 + 2) i0 g0).g (by kernel_rfl) (by decide)).re A Q
    rw [hE2] at C1
    intro sq
    refine @run_callG (cxR (reV V A Q) 400 _) OO _ 25 (unp 13 0x4104104c04c041301) [0, 0, 9] 15 250 _ _ F _ _ _ _ C1 B (by kernel_rfl) (hid ?_)
    intro Kq hKq
    rintro r1 L1 n1 i1 g1 ⟨rfl, hx⟩
    refine ex5 hx ?_
    clear hx
    rintro te last tl o e1 rfl
    refine hKq _ _ _ _ _ ?_
    have O2 : (cxR (reV V A Q) 400 [en_r ⟨E.toArray⟩ te n1 (i1 + 1) g1]).Ok := B.okR (by decide) ⟨en_ok (all_asc hEasc), trivial⟩
    have C2 := (tc_all (V := V) (lk [n, n + 1, n + 2, n + 3, c]) (lk [n1 + 1, n1, n1 + 2, n1 + 3]) (lk [0, 0, 0, 0, 0, 0, 0, 0, 0, 0, i + 1, i + 2, i + 3, i + 4, i + 5]) E te (dEs V.w.params (tyF (lk [i, i + 8, i + 9]) l E te last tl (some o))) qc hc5 hEne hlen (lk [0, 0, e1, 0, ec]) (n1 + 4) (i1 + 1) g1).re A Q
    intro sq
    refine @run_callG (cxR (reV V A Q) 400 _) O2 _ 33 (unp 19 0x410410410410507ff3dffcd000) [2, 2, 1, 0, 12, 8, 7, 6, 6] 17 250 _ _ F _ _ _ _ C2 B (by kernel_rfl) (hid ?_)
    intro Kq hKq
    rintro r2 L2 n2 i2 g2 ⟨rfl, hx⟩
    refine ex4 hx ?_
    clear hx
    rintro w e2 u o2 ⟨hw, rfl⟩
    refine hKq _ _ _ _ _ ?_
    have hjl : (pieceF (qc.map (·.1)) 0 E).length ≠ 1 := by rw [pieceF_len]; omega
    have hj : RlOk (reV V A Q) (je_r i1 (n1 + 2 + 305) (strValues ([] ++ w)).toArray ⟨X.toArray⟩ (e2 0) n2 i2 g2) := by
      rw [← hX]
      exact je_ok rfl hw hjl (by rw [hX]; exact Nat.le_trans hline.len (by decide))
    have O3 : (cxR (reV V A Q) 400 [je_r i1 (n1 + 2 + 305) (strValues ([] ++ w)).toArray ⟨X.toArray⟩ (e2 0) n2 i2 g2]).Ok := B.okR (by decide) ⟨hj, trivial⟩
    have C3 := ((strip (V := V) X i2 hline (n2 + 4) (i2 + 6) g2).g).re A Q
    rw [hY] at C3
    intro sq
    refine @run_callG (cxR (reV V A Q) 400 _) O3 _ 94 (unp 52 0x3c000f3c03cf00104108104104104204104104108104104104104104b2c02107ff28a28a28a) [] 19 350 _ _ F _ _ _ _ C3 B (by kernel_rfl) (hid ?_)
    intro Kq hKq
    rintro r3 L3 n3 i3 g3 ⟨v3, rfl, tv, rfl, rfl⟩
    refine hKq _ _ _ _ _ ?_
    have S4 := GenS.fresh (V := V) Y hwell tv g3 (n3 + 1) n3 (lk [i3, 0, 0, 0, i3 + 1, i3 + 2]) 1
    have C4 := (((ld_loop (V := V) (lk [n, n + 1, n + 2]) (n3 + 1) Y tv g3 hasc hne (lk [i, i + 8, i + 9, o.1, i2 + 1, i2 + 4, i2 + 5]) (lk [.ref (l + 305), .str ⟨E.toArray⟩ te, .int last tl, o.2, .str ⟨X.toArray⟩ i2]) (unitsF Y 0) ([], 0) hun (i2 + 2) (i2 + 3) none (e2 1 + 3) (i3 + 1) (i3 + 2) _ _ (n3 + 2) (i3 + 3) (g3 + 1) S4).h (by kernel_rfl) (by decide)).re A Q).codeH B
    rw [hD] at C4
    intro sq
    refine @run_codeH (cxR (reV V A Q) 400 _) OO _ 27 (unp 13 0x41041040041000000) [16, 0, 0] 21 300 _ _ F _ G _ _ _ _ C4 (by kernel_rfl) (hid6 ?_)
    intro Kq hKq
    rintro r4 L4 G4 n4 i4 g4 ⟨rfl, rfl, hx⟩
    refine ex5 hx ?_
    clear hx
    rintro tl4 opn to o4 e4 rfl
    refine hKq _ _ _ _ _ _ ?_
    have C5 := ((ws_new_obj (V := V) D tl4 hlasc hlhd hlok n4 i4 g4).g).re A Q
    cases o4 with
    | none =>
      intro sq
      refine @run_callG (cxR (reV V A Q) 400 _) OO _ 8 (unp 5 0x4c0) [] 19 300 _ _ F _ _ _ _ C5 B (by kernel_rfl) (hid ?_)
      intro Kq hKq
      rintro r5 L5 n5 i5 g5 ⟨v5, rfl, hx⟩
      refine ex6 hx ?_
      clear hx
      rintro w5 t5 nn nt tc e5 ⟨rfl, rfl⟩
      refine hKq _ _ _ _ _ ?_
      intro sq
      exact @run_end (cxR (reV V A Q) 400 _) OO _ 1 (unp 1 0x0) [19, 20, 21, 22, 12, 17] 23 [] 1 .base (.ret (.ref (w5 0 + 305))) _ _ _ _ _ (by decide) (by kernel_rfl) (Bk _ _ n5 i5 g5 ⟨eq, e2 3, w5, t5, nn, nt, tc, e5, rfl, rfl⟩)
    | some o4 =>
      intro sq
      refine @run_callG (cxR (reV V A Q) 400 _) OO _ 8 (unp 5 0x4c0) [] 19 300 _ _ F _ _ _ _ C5 B (by kernel_rfl) (hid ?_)
      intro Kq hKq
      rintro r5 L5 n5 i5 g5 ⟨v5, rfl, hx⟩
      refine ex6 hx ?_
      clear hx
      rintro w5 t5 nn nt tc e5 ⟨rfl, rfl⟩
      refine hKq _ _ _ _ _ ?_
      intro sq
      exact @run_end (cxR (reV V A Q) 400 _) OO _ 1 (unp 1 0x0) [19, 20, 21, 22, 12, 17] 23 [] 1 .base (.ret (.ref (w5 0 + 305))) _ _ _ _ _ (by decide) (by kernel_rfl) (Bk _ _ n5 i5 g5 ⟨eq, e2 3, w5, t5, nn, nt, tc, e5, rfl, rfl⟩)
theorem typed {V : XV} (l c : Nat) (q qc : List (Nat × Tok)) (hc5 : qc.length = 5) (H : TypedOk (q.map (·.1)) (qc.map (·.1))) (eq ec : Nat) (n i g : Nat) :
    CallsE V 400 (.call (.ref 286) ⟨[.ref (l + 305), .ref (c + 305)], []⟩) [(l + 305, oSeq "list" (valsN q).toArray eq), (c + 305, oSeq "list" (valsN qc).toArray ec)] n i g (fun v L' _ _ _ => ∃ e1 e2, wsRes V.w.params (leadF (q.map (·.1)) (qc.map (·.1))) v L' [(l + 305, oSeq "list" (valsN q).toArray e1), (c + 305, oSeq "list" (valsN qc).toArray e2)]) :=
  typed_raw l c q qc hc5 _ _ _ _ (by have := H.num; simp only [List.length_map] at this; omega) H.up rfl rfl rfl rfl (eF_asc _) (by simp [eF]) H.len H.line H.asc H.well H.ne H.units H.lasc H.lhd H.lok eq ec n i g
end Mine
end
section
open PySem PySem.W PySem.W.X PySem.Builtin.Str
namespace Mine
noncomputable def lsl_r (l sa : Addr) (y : Array Value) (e : Nat) (hi : Int) (th : Tok) (n i g : Nat) : Rl :=
  ⟨bi "list.__getitem__" [.ref l, .ref sa], [(l, oSeq "list" y e), (sa, oIt "slice" [.none, .int hi th, .none])], n + 305, i, g, .ref (n + 305), [(n + 305, oSeq "list" (slicePick y none (some hi) none) 0), (l, oSeq "list" y e), (sa, oIt "slice" [.none, .int hi th, .none])], n + 305 + 1, i, g, 0, true⟩
theorem lsl_ok {V : XV} {l sa : Addr} {y : Array Value} {e : Nat} {hi : Int} {th : Tok} {n i g : Nat} (hsz : y.size ≤ 100000) : RlOk V (lsl_r l sa y e hi th n i g) := by
  intro A _ b G s S R HR
  have ez : s.heap.objs.size = n + 305 := S.size
  have ho := S.led (l, _) List.mem_cons_self
  have hos := S.led (sa, _) (List.mem_cons_of_mem _ List.mem_cons_self)
  have hl : s.heap.IsList l y := ⟨_, ho, rfl, e, rfl⟩
  have hTs : s.TypeIs (.ref sa) "slice" := ⟨_, hos, rfl⟩
  refine codeAny_call_builtin slot_list_getitem.plain entry_list_getitem (slot_list_getitem.check _ _ _ _ _ _ _ _ hl.typeIs (args_list_getitem _ _) ?_)
  show wpAny _ _ (Builtin.List.listSubscript? (.ref sa) >>= _) _ _ s
  refine wpAny_bind ?_
  unfold Builtin.List.listSubscript?
  refine wpAny_bind (wpAny_specialOf hTs slice_no_index ?_)
  simp only [Option.isNone_none, if_true]
  refine wpAny_pure ?_
  show wpAny _ _ (typeOf (.ref sa) >>= _) _ _ s
  refine wpAny_bind (wpAny_typeOf hTs ?_)
  rw [if_neg (by decide)]
  rw [listSliceParts_eq]
  have hstep : ¬ ((rawPart none == rawInt 0) = true) := Bool.false_ne_true
  refine wpAny_bind (wpAny_bind (wpAny_field hos rfl (x := Value.none) rfl (wpAny_bind (wpAny_listPart .none ?_))))
  rw [if_neg hstep]
  refine wpAny_bind (wpAny_field hos rfl (x := Value.none) rfl (wpAny_bind (wpAny_listPart .none ?_)))
  refine wpAny_bind (wpAny_field hos rfl (x := .int hi th) rfl (wpAny_bind (wpAny_listPart (.int hi th) (wpAny_pure ?_))))
  refine wpAny_bind (m := Builtin.List.listItems (.ref l)) ?_
  unfold Builtin.List.listItems
  refine wpAny_bind (wpAny_seqItems ho rfl (wpAny_pure ?_))
  refine wpAny_bind (wpAny_of_eq (sliceIndices_raw none (some hi) none y.size (by simp)) ?_)
  refine wpAny_bind (wpAny_newObj_type (wpAny_pure ?_) (Nat.le_trans (slicePick_size_le y none (some hi) none) (Nat.le_trans hsz (by decide))))
  rw [ez]
  exact HR _ (S.alloc (o := oSeq "list" (slicePick y none (some hi) none) 0) rfl)
noncomputable def sCell : Str := ⟨#[99,101,108,108]⟩
example : sCell = Str.ofString "cell" := by decide +kernel
noncomputable def qLaw : Str := Str.ofString "law.<locals>."
noncomputable def drF (x : Int) : Nat := (x.fmod 1000000).toNat
theorem drF_eq (x : Int) : x.fmod 1000000 = Int.ofNat (drF x) := by
  have h : 0 ≤ x.fmod 1000000 := Int.fmod_nonneg_of_pos x (by decide)
  unfold drF
  simp only [Int.ofNat_eq_natCast]
  omega
theorem dr_ok {V : XV} {a : Int} {t u : Tok} {n i g : Nat} : RlOk V (iv_r (bi "int.__mod__" [.int a t, .int 1000000 u]) (Int.ofNat (drF a)) n i g) := by
  intro A _ l G s S R HR
  have et : s.toks = i := S.toks
  refine codeAny_call_builtin F.slot_int_mod.plain F.entry_int_mod (F.slot_int_mod.check _ _ _ _ _ _ _ _ (T := "int") (typeIs_int _ _ _) (F.args_int_mod_2 _ _) (PySem.AutoIntG6.int___mod___int_int_1 _ _ _ _ (by decide) V.prog V.w A R s ?_))
  rw [drF_eq]
  have z := HR _ (S.tok 1)
  show R (.ok (.ret (.int (Int.ofNat (drF a)) s.toks))) _
  simp only [et] at z ⊢
  exact z
noncomputable def drO (p : Params) : Expr := exprAt (stmtsOf (fdF p 303)) 0
noncomputable def drC (p : Params) (b : Nat → Nat) : Code := .compLoop (drO p) 0 (.ref (b 0 + 305)) (.ref (b 2 + 305)) (compEnv (scopeOf (drO p)) qLaw 302 (b 3) (b 4) [])
noncomputable def drS (p : Params) (b : Nat → Nat) : Code := .compStart (drO p) 0 (.ref (b 0 + 305)) (.ref (b 2 + 305)) (compEnv (scopeOf (drO p)) qLaw 302 (b 3) (b 4) [])
noncomputable def drL (p : Params) (b : Nat → Nat) (o : Option (Tok × Value)) (j : Nat) (y z : Array Value) (fe : Array DictEntry) (e : Nat → Nat) : Led :=
  [(b 0 + 305, oIt "list_iterator" [.ref (b 1 + 305), .int (Int.ofNat j) 0]), (b 1 + 305, oSeq "list" y (e 0)), (b 2 + 305, oSeq "list" z (e 1)), (b 3 + 305, oDic (dD p sCell o) (e 2)), (b 4 + 305, oFrm fe (e 3))]
theorem dr_turn {V : XV} (b : Nat → Nat) (o : Option (Tok × Value)) (j : Nat) (y z : Array Value) (fe : Array DictEntry) (e : Nat → Nat) (n i g : Nat) (P : PostG) (x : Int) (tx : Tok) (hx : y[j]? = some (.int x tx)) (hz : z.size ≤ 90)
    (H : ∀ tt e', CallsS V 250 (drC V.w.params b) (drL V.w.params b (some (tt, .int x tx)) (j + 1) y (z.push (.int (Int.ofNat (drF x)) (i + 4))) fe e') n (i + 5) g P) :
    CallsS V 250 (drC V.w.params b) (drL V.w.params b o j y z fe e) n i g P := by
  cases o with
  | none =>
    exact turn_at [li_r (b 0 + 305) (b 1 + 305) j y (e 0) (.int x tx) n i g, iv_r (bi "int.__pow__" [.int 10 (i + 1), .int (Int.ofNat 6) (i + 2)]) 1000000 n (i + 3) g, iv_r (bi "int.__mod__" [.int x tx, .int 1000000 (i + 3)]) (Int.ofNat (drF x)) n (i + 4) g, app_r (b 2 + 305) z (e 1) (.int (Int.ofNat (drF x)) (i + 4)) n (i + 5) g] 35 (unp 32 0x24dffd27ff45ffcf7ff3dffcf7ff10000410000041ffc1) [1, 2, 0, 3, 4] 5 _ _ n (i + 5) g
      (by decide) (fun A Q B => ⟨li_ok hx, pow_ok (a := 10) (K := 6) (by decide), dr_ok, app_ok (by omega), trivial⟩) (fun A Q F G => by kernel_rfl) (H i (lk [e 0, e 1 + 1, e 2 + 1, e 3]))
  | some o =>
    exact turn_at [li_r (b 0 + 305) (b 1 + 305) j y (e 0) (.int x tx) n i g, iv_r (bi "int.__pow__" [.int 10 (i + 1), .int (Int.ofNat 6) (i + 2)]) 1000000 n (i + 3) g, iv_r (bi "int.__mod__" [.int x tx, .int 1000000 (i + 3)]) (Int.ofNat (drF x)) n (i + 4) g, app_r (b 2 + 305) z (e 1) (.int (Int.ofNat (drF x)) (i + 4)) n (i + 5) g] 35 (unp 32 0x24dffd27ff45ffcf7ff3dffcf7ff10000410000041ffc1) [1, 2, 0, 3, 4] 5 _ _ n (i + 5) g
      (by decide) (fun A Q B => ⟨li_ok hx, pow_ok (a := 10) (K := 6) (by decide), dr_ok, app_ok (by omega), trivial⟩) (fun A Q F G => by kernel_rfl) (H o.1 (lk [e 0, e 1 + 1, e 2, e 3]))
noncomputable def drP (p : Params) (b : Nat → Nat) (fe : Array DictEntry) (z : List (Nat × Tok)) (ds : List Nat) (so : Bool) : PostG := fun r L' _ _ _ => r = .ok .next ∧ ∃ (w : List (Nat × Tok)) (o : Option (Tok × Value)) (e : Nat → Nat), w.map (·.1) = ds ∧ o.isSome = so ∧
  L' = [(b 2 + 305, oSeq "list" (valsN (z ++ w)).toArray (e 0)), (b 3 + 305, oDic (dD p sCell o) (e 1)), (b 4 + 305, oFrm fe (e 2))]
theorem dr_loop {V : XV} (b : Nat → Nat) (fe : Array DictEntry) (q : List (Int × Tok)) : ∀ (rem pre : List (Int × Tok)), q = pre ++ rem → ∀ (o : Option (Tok × Value)) (z : List (Nat × Tok)), z.length + rem.length ≤ 80 → ∀ (e : Nat → Nat) (n i g : Nat),
    CallsS V 250 (drC V.w.params b) (drL V.w.params b o pre.length (vals q).toArray (valsN z).toArray fe e) n i g (drP V.w.params b fe z (rem.map fun x => drF x.1) (o.isSome || !rem.isEmpty)) := by
  intro rem
  induction rem with
  | nil =>
    intro pre hp o z hz e n i g
    have hx : (vals q).toArray[pre.length]? = none := by simp [vals, hp]
    cases o with
    | none =>
      exact turn_end [le_r (b 0 + 305) (b 1 + 305) pre.length (vals q).toArray (e 0) n i g] 4 (unp 8 0x100041ffc1) [4, 5, 6] 7 .next [(b 2 + 305, oSeq "list" (valsN z).toArray (e 1)), (b 3 + 305, oDic (dD V.w.params sCell none) (e 2)), (b 4 + 305, oFrm fe (e 3))] (n + 2) i g
        (by decide) (fun A Q B => ⟨le_ok hx, trivial⟩) (fun A Q F G => by kernel_rfl) ⟨rfl, [], none, lk [e 1, e 2, e 3], rfl, rfl, by rw [List.append_nil]; rfl⟩
    | some o =>
      exact turn_end [le_r (b 0 + 305) (b 1 + 305) pre.length (vals q).toArray (e 0) n i g] 4 (unp 8 0x100041ffc1) [4, 5, 6] 7 .next [(b 2 + 305, oSeq "list" (valsN z).toArray (e 1)), (b 3 + 305, oDic (dD V.w.params sCell (some o)) (e 2)), (b 4 + 305, oFrm fe (e 3))] (n + 2) i g
        (by decide) (fun A Q B => ⟨le_ok hx, trivial⟩) (fun A Q F G => by kernel_rfl) ⟨rfl, [], some o, lk [e 1, e 2, e 3], rfl, rfl, by rw [List.append_nil]; rfl⟩
  | cons x rem ih =>
    intro pre hp o z hz e n i g
    have hx : (vals q).toArray[pre.length]? = some (.int x.1 x.2) := by simp [vals, hp]
    simp only [List.length_cons] at hz
    refine dr_turn b o pre.length _ _ fe e n i g _ x.1 x.2 hx (by simp [valsN]; omega) fun tt e' => ?_
    have z1 := ih (pre ++ [x]) (by simp [hp]) (some (tt, .int x.1 x.2)) (z ++ [(drF x.1, i + 4)]) (by simp; omega) e' n (i + 5) g
    have e1 : (pre ++ [x]).length = pre.length + 1 := by simp
    have e2 : (valsN z).toArray.push (.int (Int.ofNat (drF x.1)) (i + 4)) = (valsN (z ++ [(drF x.1, i + 4)])).toArray := by simp [valsN]
    rw [e1] at z1
    rw [e2]
    refine z1.mono ?_
    rintro r L' n2 i2 g2 ⟨h1, w, o3, e3, h2, h4, h3⟩
    exact ⟨h1, (drF x.1, i + 4) :: w, o3, e3, by simp [h2], by rw [h4]; simp, by rw [h3]; simp⟩
theorem dr_all {V : XV} (b : Nat → Nat) (fe : Array DictEntry) (q : List (Int × Tok)) (hl : q.length ≤ 80) (e : Nat → Nat) (n i g : Nat) :
    CallsG V 250 (drS V.w.params b) (drL V.w.params b none 0 (vals q).toArray #[] fe e) n i g (drP V.w.params b fe [] (q.map fun x => drF x.1) (!q.isEmpty)) := by
  refine CallsS.g (by kernel_rfl) (by decide) ?_
  have z := dr_loop (V := V) b fe q q [] rfl none [] (by simpa using hl) e n i g
  exact turn_at [] 12 (unp 7 0x4104104c) [0, 1, 2, 3, 4] 5 _ (drL V.w.params b none 0 (vals q).toArray #[] fe e) n i g (by decide) (fun A Q B => trivial) (fun A Q F G => by kernel_rfl) z
noncomputable def wdO (p : Params) : Expr := exprAt (stmtsOf (fdF p 303)) 2
noncomputable def wdC (p : Params) (b : Nat → Nat) : Code := .compLoop (wdO p) 0 (.ref (b 0 + 305)) (.ref (b 2 + 305)) (compEnv (scopeOf (wdO p)) qLaw 302 (b 3) (b 4) [])
noncomputable def wdS (p : Params) (b : Nat → Nat) : Code := .compStart (wdO p) 0 (.ref (b 0 + 305)) (.ref (b 2 + 305)) (compEnv (scopeOf (wdO p)) qLaw 302 (b 3) (b 4) [])
theorem wd_turn {V : XV} (b : Nat → Nat) (o : Option (Tok × Value)) (j : Nat) (y z : Array Value) (fe : Array DictEntry) (e : Nat → Nat) (n i g : Nat) (P : PostG) (x : Nat) (tx : Tok) (hx : y[j]? = some (.int (Int.ofNat x) tx)) (hz : z.size ≤ 90)
    (H : ∀ tt tw e' i', CallsS V 250 (wdC V.w.params b) (drL V.w.params b (some (tt, .int (Int.ofNat x) tx)) (j + 1) y (z.push (.str (wS (x % 3 + 1)) tw)) fe e') n i' g P) :
    CallsS V 250 (wdC V.w.params b) (drL V.w.params b o j y z fe e) n i g P := by
  have r1 : ∀ A Q, RlOk (reV V A Q) (iv_r (bi "int.__mod__" [.int (Int.ofNat x) tx, .int (Int.ofNat 3) (i + 2)]) (Int.ofNat (x % 3)) n (i + 3) g) := fun A Q => mod_ok (by decide)
  have hc : x % 3 = 0 ∨ x % 3 = 1 ∨ x % 3 = 2 := lt3 (Nat.mod_lt _ (by decide))
  generalize x % 3 = k at H r1 hc
  rcases hc with rfl | rfl | rfl
  · cases o with
    | none =>
      exact turn_at [li_r (b 0 + 305) (b 1 + 305) j y (e 0) (.int (Int.ofNat x) tx) n i g, iv_r (bi "int.__mod__" [.int (Int.ofNat x) tx, .int (Int.ofNat 3) (i + 2)]) (Int.ofNat 0) n (i + 3) g, ⟨bi "str.__mul__" [.str ⟨#[45]⟩ (i + 1), .int (Int.ofNat 0) (i + 3)], [], n + 305, i + 4, g, .str ⟨#[]⟩ (i + 4), [], n + 305, i + 4 + 1, g, 0, true⟩, pv_r (bi "str.__add__" [.str ⟨#[]⟩ (i + 4), .str ⟨#[59]⟩ (i + 5)]) (.str ⟨#[59]⟩ (i + 5)) n (i + 6) g, app_r (b 2 + 305) z (e 1) (.str ⟨#[59]⟩ (i + 5)) n (i + 6) g] 29 (unp 27 0x947ff4dffd27ff3dffd17ff10410000041ffc1) [1, 2, 0, 3, 4] 5 _ _ n (i + 6) g
        (by decide) (fun A Q B => ⟨li_ok hx, r1 A Q, mul0_ok rfl, addE_ok, app_ok (by omega), trivial⟩) (fun A Q F G => by kernel_rfl) (H i (i + 5) (lk [e 0, e 1 + 1, e 2 + 1, e 3]) (i + 6))
    | some o =>
      exact turn_at [li_r (b 0 + 305) (b 1 + 305) j y (e 0) (.int (Int.ofNat x) tx) n i g, iv_r (bi "int.__mod__" [.int (Int.ofNat x) tx, .int (Int.ofNat 3) (i + 2)]) (Int.ofNat 0) n (i + 3) g, ⟨bi "str.__mul__" [.str ⟨#[45]⟩ (i + 1), .int (Int.ofNat 0) (i + 3)], [], n + 305, i + 4, g, .str ⟨#[]⟩ (i + 4), [], n + 305, i + 4 + 1, g, 0, true⟩, pv_r (bi "str.__add__" [.str ⟨#[]⟩ (i + 4), .str ⟨#[59]⟩ (i + 5)]) (.str ⟨#[59]⟩ (i + 5)) n (i + 6) g, app_r (b 2 + 305) z (e 1) (.str ⟨#[59]⟩ (i + 5)) n (i + 6) g] 29 (unp 27 0x947ff4dffd27ff3dffd17ff10410000041ffc1) [1, 2, 0, 3, 4] 5 _ _ n (i + 6) g
        (by decide) (fun A Q B => ⟨li_ok hx, r1 A Q, mul0_ok rfl, addE_ok, app_ok (by omega), trivial⟩) (fun A Q F G => by kernel_rfl) (H o.1 (i + 5) (lk [e 0, e 1 + 1, e 2, e 3]) (i + 6))
  · cases o with
    | none =>
      exact turn_at [li_r (b 0 + 305) (b 1 + 305) j y (e 0) (.int (Int.ofNat x) tx) n i g, iv_r (bi "int.__mod__" [.int (Int.ofNat x) tx, .int (Int.ofNat 3) (i + 2)]) (Int.ofNat 1) n (i + 3) g, pv_r (bi "str.__mul__" [.str ⟨#[45]⟩ (i + 1), .int (Int.ofNat 1) (i + 3)]) (.str ⟨#[45]⟩ (i + 1)) n (i + 4) g, addL_r [45] [59] (i + 1) (i + 4) n (i + 5) g, app_r (b 2 + 305) z (e 1) (.str ⟨#[45, 59]⟩ (i + 5)) n (i + 6) g] 29 (unp 27 0x947ff4dffd27ff3dffd17ff10410000041ffc1) [1, 2, 0, 3, 4] 5 _ _ n (i + 6) g
        (by decide) (fun A Q B => ⟨li_ok hx, r1 A Q, mul1_ok rfl, addL_ok (by simp) (by simp) (by decide), app_ok (by omega), trivial⟩) (fun A Q F G => by kernel_rfl) (H i (i + 5) (lk [e 0, e 1 + 1, e 2 + 1, e 3]) (i + 6))
    | some o =>
      exact turn_at [li_r (b 0 + 305) (b 1 + 305) j y (e 0) (.int (Int.ofNat x) tx) n i g, iv_r (bi "int.__mod__" [.int (Int.ofNat x) tx, .int (Int.ofNat 3) (i + 2)]) (Int.ofNat 1) n (i + 3) g, pv_r (bi "str.__mul__" [.str ⟨#[45]⟩ (i + 1), .int (Int.ofNat 1) (i + 3)]) (.str ⟨#[45]⟩ (i + 1)) n (i + 4) g, addL_r [45] [59] (i + 1) (i + 4) n (i + 5) g, app_r (b 2 + 305) z (e 1) (.str ⟨#[45, 59]⟩ (i + 5)) n (i + 6) g] 29 (unp 27 0x947ff4dffd27ff3dffd17ff10410000041ffc1) [1, 2, 0, 3, 4] 5 _ _ n (i + 6) g
        (by decide) (fun A Q B => ⟨li_ok hx, r1 A Q, mul1_ok rfl, addL_ok (by simp) (by simp) (by decide), app_ok (by omega), trivial⟩) (fun A Q F G => by kernel_rfl) (H o.1 (i + 5) (lk [e 0, e 1 + 1, e 2, e 3]) (i + 6))
  · cases o with
    | none =>
      exact turn_at [li_r (b 0 + 305) (b 1 + 305) j y (e 0) (.int (Int.ofNat x) tx) n i g, iv_r (bi "int.__mod__" [.int (Int.ofNat x) tx, .int (Int.ofNat 3) (i + 2)]) (Int.ofNat 2) n (i + 3) g, mul2_r 45 2 (Int.ofNat 2) (i + 1) (i + 3) n (i + 4) g, addL_r [45, 45] [59] (i + 4) (i + 5) n (i + 6) g, app_r (b 2 + 305) z (e 1) (.str ⟨#[45, 45, 59]⟩ (i + 6)) n (i + 7) g] 29 (unp 27 0x947ff4dffd27ff3dffd17ff10410000041ffc1) [1, 2, 0, 3, 4] 5 _ _ n (i + 7) g
        (by decide) (fun A Q B => ⟨li_ok hx, r1 A Q, mul2_ok rfl (by decide) (by decide), addL_ok (by simp) (by simp) (by decide), app_ok (by omega), trivial⟩) (fun A Q F G => by kernel_rfl) (H i (i + 6) (lk [e 0, e 1 + 1, e 2 + 1, e 3]) (i + 7))
    | some o =>
      exact turn_at [li_r (b 0 + 305) (b 1 + 305) j y (e 0) (.int (Int.ofNat x) tx) n i g, iv_r (bi "int.__mod__" [.int (Int.ofNat x) tx, .int (Int.ofNat 3) (i + 2)]) (Int.ofNat 2) n (i + 3) g, mul2_r 45 2 (Int.ofNat 2) (i + 1) (i + 3) n (i + 4) g, addL_r [45, 45] [59] (i + 4) (i + 5) n (i + 6) g, app_r (b 2 + 305) z (e 1) (.str ⟨#[45, 45, 59]⟩ (i + 6)) n (i + 7) g] 29 (unp 27 0x947ff4dffd27ff3dffd17ff10410000041ffc1) [1, 2, 0, 3, 4] 5 _ _ n (i + 7) g
        (by decide) (fun A Q B => ⟨li_ok hx, r1 A Q, mul2_ok rfl (by decide) (by decide), addL_ok (by simp) (by simp) (by decide), app_ok (by omega), trivial⟩) (fun A Q F G => by kernel_rfl) (H o.1 (i + 6) (lk [e 0, e 1 + 1, e 2, e 3]) (i + 7))
noncomputable def wdP (p : Params) (b : Nat → Nat) (y : Array Value) (fe : Array DictEntry) (z : List (Str × Tok)) (ds : List Str) : PostG := fun r L' _ _ _ => r = .ok .next ∧ ∃ (w : List (Str × Tok)) (o : Tok × Value) (e : Nat → Nat), w.map (·.1) = ds ∧
  L' = [(b 1 + 305, oSeq "list" y (e 3)), (b 2 + 305, oSeq "list" (strValues (z ++ w)).toArray (e 0)), (b 3 + 305, oDic (dD p sCell (some o)) (e 1)), (b 4 + 305, oFrm fe (e 2))]
theorem wd_loop {V : XV} (b : Nat → Nat) (fe : Array DictEntry) (q : List (Nat × Tok)) : ∀ (rem pre : List (Nat × Tok)), q = pre ++ rem → ∀ (o : Option (Tok × Value)), (o.isSome = true ∨ rem ≠ []) → ∀ (z : List (Str × Tok)), z.length + rem.length ≤ 80 → ∀ (e : Nat → Nat) (n i g : Nat),
    CallsS V 250 (wdC V.w.params b) (drL V.w.params b o pre.length (valsN q).toArray (strValues z).toArray fe e) n i g (wdP V.w.params b (valsN q).toArray fe z (rem.map fun x => wS (x.1 % 3 + 1))) := by
  intro rem
  induction rem with
  | nil =>
    intro pre hp o ho z hz e n i g
    have hx : (valsN q).toArray[pre.length]? = none := by simp [valsN, hp]
    cases o with
    | none => simp at ho
    | some o =>
      exact turn_end [le_r (b 0 + 305) (b 1 + 305) pre.length (valsN q).toArray (e 0) n i g] 4 (unp 8 0x100041ffc1) [3, 4, 5, 6] 7 .next [(b 1 + 305, oSeq "list" (valsN q).toArray (e 0)), (b 2 + 305, oSeq "list" (strValues z).toArray (e 1)), (b 3 + 305, oDic (dD V.w.params sCell (some o)) (e 2)), (b 4 + 305, oFrm fe (e 3))] (n + 2) i g
        (by decide) (fun A Q B => ⟨le_ok hx, trivial⟩) (fun A Q F G => by kernel_rfl) ⟨rfl, [], o, lk [e 1, e 2, e 3, e 0], rfl, by rw [List.append_nil]; rfl⟩
  | cons x rem ih =>
    intro pre hp o ho z hz e n i g
    have hx : (valsN q).toArray[pre.length]? = some (.int (Int.ofNat x.1) x.2) := by simp [valsN, hp]
    simp only [List.length_cons] at hz
    refine wd_turn b o pre.length _ _ fe e n i g _ x.1 x.2 hx (by simp [strValues]; omega) fun tt tw e' i' => ?_
    have z1 := ih (pre ++ [x]) (by simp [hp]) (some (tt, .int (Int.ofNat x.1) x.2)) (.inl rfl) (z ++ [(wS (x.1 % 3 + 1), tw)]) (by simp; omega) e' n i' g
    have e1 : (pre ++ [x]).length = pre.length + 1 := by simp
    have e2 : (strValues z).toArray.push (.str (wS (x.1 % 3 + 1)) tw) = (strValues (z ++ [(wS (x.1 % 3 + 1), tw)])).toArray := by simp [strValues]
    rw [e1] at z1
    rw [e2]
    refine z1.mono ?_
    rintro r L' n2 i2 g2 ⟨h1, w, o3, e3, h2, h3⟩
    exact ⟨h1, (wS (x.1 % 3 + 1), tw) :: w, o3, e3, by simp [h2], by rw [h3]; simp⟩
theorem wd_all {V : XV} (b : Nat → Nat) (fe : Array DictEntry) (q : List (Nat × Tok)) (hq : q ≠ []) (hl : q.length ≤ 80) (e : Nat → Nat) (n i g : Nat) :
    CallsG V 250 (wdS V.w.params b) (drL V.w.params b none 0 (valsN q).toArray #[] fe e) n i g (wdP V.w.params b (valsN q).toArray fe [] (q.map fun x => wS (x.1 % 3 + 1))) := by
  refine CallsS.g (by kernel_rfl) (by decide) ?_
  have z := wd_loop (V := V) b fe q q [] rfl none (.inr hq) [] (by simpa using hl) e n i g
  exact turn_at [] 12 (unp 7 0x4104104c) [0, 1, 2, 3, 4] 5 _ (drL V.w.params b none 0 (valsN q).toArray #[] fe e) n i g (by decide) (fun A Q B => trivial) (fun A Q F G => by kernel_rfl) z
end Mine
end
section
open PySem PySem.W PySem.W.X PySem.Builtin.Str
namespace Mine
theorem strsFrom_vals : ∀ (ls : List Str) (τ : Tok), ∃ q : List (Str × Tok), strsFrom τ ls = strValues q ∧ q.map (·.1) = ls
  | [], τ => ⟨[], rfl, rfl⟩
  | x :: ls, τ => by
    obtain ⟨q, h1, h2⟩ := strsFrom_vals ls (τ + 1)
    exact ⟨(x, τ) :: q, by simp [strsFrom, strValues] at h1 ⊢; exact h1, by simp [h2]⟩
noncomputable def lwB (p : Params) : List Stmt := (forAt (stmtsOf (fdF p 303)) [4]).2.1
noncomputable def szO (p : Params) : Expr := exprAt (lwB p) 2
noncomputable def szC (p : Params) (b : Nat → Nat) : Code := .compLoop (szO p) 0 (.ref (b 0 + 305)) (.ref (b 2 + 305)) (compEnv (scopeOf (szO p)) qLaw 302 (b 3) (b 4) [])
noncomputable def szS (p : Params) (b : Nat → Nat) : Code := .compStart (szO p) 0 (.ref (b 0 + 305)) (.ref (b 2 + 305)) (compEnv (scopeOf (szO p)) qLaw 302 (b 3) (b 4) [])
noncomputable def szL (p : Params) (b : Nat → Nat) (o : Option (Tok × Value)) (j : Nat) (y z : Array Value) (fe : Array DictEntry) (e : Nat → Nat) : Led :=
  [(b 0 + 305, oIt "list_iterator" [.ref (b 1 + 305), .int (Int.ofNat j) 0]), (b 1 + 305, oSeq "list" y (e 0)), (b 2 + 305, oSeq "list" z (e 1)), (b 3 + 305, oDic (dD p sLine o) (e 2)), (b 4 + 305, oFrm fe (e 3))]
theorem sz_turn {V : XV} (b : Nat → Nat) (o : Option (Tok × Value)) (j : Nat) (y z : Array Value) (fe : Array DictEntry) (e : Nat → Nat) (n i g : Nat) (P : PostG) (x : Str) (tx : Tok) (hx : y[j]? = some (.str x tx)) (hl : x.length ≤ 1000) (hz : z.size ≤ 90)
    (H : ∀ tt e', CallsS V 250 (szC V.w.params b) (szL V.w.params b (some (tt, .str x tx)) (j + 1) y (z.push (.int (Int.ofNat x.length) (i + 2))) fe e') n (i + 3) g P) :
    CallsS V 250 (szC V.w.params b) (szL V.w.params b o j y z fe e) n i g P := by
  cases o with
  | none =>
    exact turn_at [li_r (b 0 + 305) (b 1 + 305) j y (e 0) (.str x tx) n i g, lenS_r x tx n (i + 1) g, app_r (b 2 + 305) z (e 1) (.int (Int.ofNat x.length) (i + 2)) n (i + 3) g] 20 (unp 20 0x249ffd17ff10000410000041ffc1) [1, 2, 0, 3, 4] 5 _ _ n (i + 3) g
      (by decide) (fun A Q B => ⟨li_ok hx, lenS_ok hl, app_ok (by omega), trivial⟩) (fun A Q F G => by kernel_rfl) (H i (lk [e 0, e 1 + 1, e 2 + 1, e 3]))
  | some o =>
    exact turn_at [li_r (b 0 + 305) (b 1 + 305) j y (e 0) (.str x tx) n i g, lenS_r x tx n (i + 1) g, app_r (b 2 + 305) z (e 1) (.int (Int.ofNat x.length) (i + 2)) n (i + 3) g] 20 (unp 20 0x249ffd17ff10000410000041ffc1) [1, 2, 0, 3, 4] 5 _ _ n (i + 3) g
      (by decide) (fun A Q B => ⟨li_ok hx, lenS_ok hl, app_ok (by omega), trivial⟩) (fun A Q F G => by kernel_rfl) (H o.1 (lk [e 0, e 1 + 1, e 2, e 3]))
noncomputable def szP (p : Params) (b : Nat → Nat) (y : Array Value) (fe : Array DictEntry) (z : List (Nat × Tok)) (ds : List Nat) : PostG := fun r L' _ _ _ => r = .ok .next ∧ ∃ (w : List (Nat × Tok)) (o : Tok × Value) (e : Nat → Nat), w.map (·.1) = ds ∧
  L' = [(b 1 + 305, oSeq "list" y (e 3)), (b 2 + 305, oSeq "list" (valsN (z ++ w)).toArray (e 0)), (b 3 + 305, oDic (dD p sLine (some o)) (e 1)), (b 4 + 305, oFrm fe (e 2))]
theorem sz_loop {V : XV} (b : Nat → Nat) (fe : Array DictEntry) (q : List (Str × Tok)) (hql : ∀ x ∈ q, x.1.length ≤ 1000) : ∀ (rem pre : List (Str × Tok)), q = pre ++ rem → ∀ (o : Option (Tok × Value)), (o.isSome = true ∨ rem ≠ []) → ∀ (z : List (Nat × Tok)), z.length + rem.length ≤ 80 → ∀ (e : Nat → Nat) (n i g : Nat),
    CallsS V 250 (szC V.w.params b) (szL V.w.params b o pre.length (strValues q).toArray (valsN z).toArray fe e) n i g (szP V.w.params b (strValues q).toArray fe z (rem.map fun x => x.1.length)) := by
  intro rem
  induction rem with
  | nil =>
    intro pre hp o ho z hz e n i g
    have hx : (strValues q).toArray[pre.length]? = none := by simp [strValues, hp]
    cases o with
    | none => simp at ho
    | some o =>
      exact turn_end [le_r (b 0 + 305) (b 1 + 305) pre.length (strValues q).toArray (e 0) n i g] 4 (unp 8 0x100041ffc1) [3, 4, 5, 6] 7 .next [(b 1 + 305, oSeq "list" (strValues q).toArray (e 0)), (b 2 + 305, oSeq "list" (valsN z).toArray (e 1)), (b 3 + 305, oDic (dD V.w.params sLine (some o)) (e 2)), (b 4 + 305, oFrm fe (e 3))] (n + 2) i g
        (by decide) (fun A Q B => ⟨le_ok hx, trivial⟩) (fun A Q F G => by kernel_rfl) ⟨rfl, [], o, lk [e 1, e 2, e 3, e 0], rfl, by rw [List.append_nil]; rfl⟩
  | cons x rem ih =>
    intro pre hp o ho z hz e n i g
    have hx : (strValues q).toArray[pre.length]? = some (.str x.1 x.2) := by simp [strValues, hp]
    simp only [List.length_cons] at hz
    refine sz_turn b o pre.length _ _ fe e n i g _ x.1 x.2 hx (hql x (by simp [hp])) (by simp [valsN]; omega) fun tt e' => ?_
    have z1 := ih (pre ++ [x]) (by simp [hp]) (some (tt, .str x.1 x.2)) (.inl rfl) (z ++ [(x.1.length, i + 2)]) (by simp; omega) e' n (i + 3) g
    have e1 : (pre ++ [x]).length = pre.length + 1 := by simp
    have e2 : (valsN z).toArray.push (.int (Int.ofNat x.1.length) (i + 2)) = (valsN (z ++ [(x.1.length, i + 2)])).toArray := by simp [valsN]
    rw [e1] at z1
    rw [e2]
    refine z1.mono ?_
    rintro r L' n2 i2 g2 ⟨h1, w, o3, e3, h2, h3⟩
    exact ⟨h1, (x.1.length, i + 2) :: w, o3, e3, by simp [h2], by rw [h3]; simp⟩
theorem sz_all {V : XV} (b : Nat → Nat) (fe : Array DictEntry) (q : List (Str × Tok)) (hql : ∀ x ∈ q, x.1.length ≤ 1000) (hq : q ≠ []) (hl : q.length ≤ 80) (e : Nat → Nat) (n i g : Nat) :
    CallsG V 250 (szS V.w.params b) (szL V.w.params b none 0 (strValues q).toArray #[] fe e) n i g (szP V.w.params b (strValues q).toArray fe [] (q.map fun x => x.1.length)) := by
  refine CallsS.g (by kernel_rfl) (by decide) ?_
  have z := sz_loop (V := V) b fe q hql q [] rfl none (.inr hq) [] (by simpa using hl) e n i g
  exact turn_at [] 12 (unp 7 0x4104104c) [0, 1, 2, 3, 4] 5 _ (szL V.w.params b none 0 (strValues q).toArray #[] fe e) n i g (by decide) (fun A Q B => trivial) (fun A Q F G => by kernel_rfl) z
noncomputable def leftOf (e : Expr) : Expr := match e with
  | .Compare l _ _ _ => l
  | _ => default
noncomputable def sWaysN : Str := ⟨#[119,97,121,115]⟩
example : sWaysN = Str.ofString "ways" := by decide +kernel
noncomputable def acO (p : Params) : Expr := leftOf (exprAt (lwB p) 5)
noncomputable def acC (p : Params) (b : Nat → Nat) : Code := .compLoop (acO p) 0 (.ref (b 0 + 305)) (.ref (b 1 + 305)) (compEnv (scopeOf (acO p)) qLaw 302 (b 2) (b 3) [(sWaysN, b 4 + 305), (sLead, b 5 + 305)])
noncomputable def acS (p : Params) (b : Nat → Nat) : Code := .compStart (acO p) 0 (.ref (b 0 + 305)) (.ref (b 1 + 305)) (compEnv (scopeOf (acO p)) qLaw 302 (b 2) (b 3) [(sWaysN, b 4 + 305), (sLead, b 5 + 305)])
noncomputable def acR (b a : Nat → Nat) (fe : Array DictEntry) (e : Nat → Nat) : Led :=
  [(b 3 + 305, oFrm fe (e 2)), (b 4 + 305, oCell (some (.ref (b 6 + 305)))), (b 5 + 305, oCell (some (.ref (a 0 + 305))))]
noncomputable def acL (p : Params) (b a : Nat → Nat) (st lf : Int) (o : Option (Tok × Value)) (fe : Array DictEntry) (e : Nat → Nat) (R : Led) : Led :=
  (b 0 + 305, oIt "range_iterator" [.int st 0, .int lf 0, .int 1 0]) :: (b 1 + 305, oSeq "list" #[] (e 0)) :: (b 2 + 305, oDic (dD p sMore o) (e 1)) :: (b 3 + 305, oFrm fe (e 2)) :: (b 4 + 305, oCell (some (.ref (b 6 + 305)))) :: (b 5 + 305, oCell (some (.ref (a 0 + 305)))) :: R
noncomputable def acW (p : Params) (b a : Nat → Nat) (c : Nat → Int) (tc : Nat → Tok) (ec : Nat) (t : Nat → Tok) (raw : Str) (nn nt : Int) (q : List (Nat × Tok)) (sm : Bool) (ew : Nat) : Led :=
  (b 6 + 305, oSeq "list" (cnts c tc) ec) :: wsL p a t raw nn nt (valsN q).toArray 0 sm ew
theorem ac_turn {V : XV} (b a : Nat → Nat) (st st' : Int) (k : Nat) (o : Option (Tok × Value)) (fe : Array DictEntry) (e : Nat → Nat) (c : Nat → Int) (tc : Nat → Tok) (ec : Nat) (t : Nat → Tok) (raw : Str) (nn nt : Int) (q : List (Nat × Tok)) (sm : Bool) (ew n i g : Nat) (P : PostG)
    (hst : st + 1 = st') (hm : st = 0 ∨ st = 1 ∨ st = 2 ∨ st = 3 ∨ st = 4 ∨ st = 5) (ok : okP st 0 (q.map (·.1)) = true) (hr : (toldF c st == prodF st 0 1 (q.map (·.1))) = true)
    (H : ∀ o' e' n' i' g', CallsS V 350 (acC V.w.params b) (acL V.w.params b a st' (Int.ofNat k) (some o') fe e' (acW V.w.params b a c tc ec t raw nn nt q sm ew)) n' i' g' P) :
    CallsS V 350 (acC V.w.params b) (acL V.w.params b a st (Int.ofNat (k + 1)) o fe e (acW V.w.params b a c tc ec t raw nn nt q sm ew)) n i g P := by
  intro A Q B F G Bk
  have O : (cxR (reV V A Q) 350 []).Ok := B.okR (by decide) trivial
  have ek : Int.ofNat (k + 1) - 1 = Int.ofNat k := by simp
  cases o with
  | none =>
    have C := ((agree (V := V) (b 6) c tc a t raw nn nt q sm ew st i hm ok true hr ec n (i + 2) g).g).re A Q
    refine @run_callG (cxR (reV V A Q) 350 []) O _ 31 (unp 18 0xc61400c3001041041041041) [6, 6, 6, 6, 6] 11 300 _ _ F _ _ _ _ C B (by kernel_rfl) (hid ?_)
    intro Kq hKq
    rintro r L1 n1 i1 g1 ⟨v, rfl, rfl, rfl⟩
    refine hKq _ _ _ _ _ ?_
    have z1 := H (i + 1, .int st i) (lk [e 0, e 1 + 1, e 2]) n1 i1 g1 A Q B F G Bk
    rw [← ek, ← hst] at z1
    intro sq
    exact @run_to (cxR (reV V A Q) 350 []) O _ 3 (unp 1 0x0) [0, 1, 2, 3, 4, 5, 6, 7, 8, 9, 10] 11 [] 0 _ .base _ _ _ _ _ _ (by decide) (by kernel_rfl) z1
  | some o =>
    have C := ((agree (V := V) (b 6) c tc a t raw nn nt q sm ew st i hm ok true hr ec n (i + 2) g).g).re A Q
    refine @run_callG (cxR (reV V A Q) 350 []) O _ 31 (unp 18 0xc61400c3001041041041041) [6, 6, 6, 6, 6] 11 300 _ _ F _ _ _ _ C B (by kernel_rfl) (hid ?_)
    intro Kq hKq
    rintro r L1 n1 i1 g1 ⟨v, rfl, rfl, rfl⟩
    refine hKq _ _ _ _ _ ?_
    have z1 := H (o.1, .int st i) (lk [e 0, e 1, e 2]) n1 i1 g1 A Q B F G Bk
    rw [← ek, ← hst] at z1
    intro sq
    exact @run_to (cxR (reV V A Q) 350 []) O _ 3 (unp 1 0x0) [0, 1, 2, 3, 4, 5, 6, 7, 8, 9, 10] 11 [] 0 _ .base _ _ _ _ _ _ (by decide) (by kernel_rfl) z1
noncomputable def acP (p : Params) (b a : Nat → Nat) (fe : Array DictEntry) (R : Led) : PostG := fun r L' _ _ _ => r = .ok .next ∧ ∃ (o : Tok × Value) (e : Nat → Nat),
  L' = (b 1 + 305, oSeq "list" #[] (e 0)) :: (b 2 + 305, oDic (dD p sMore (some o)) (e 1)) :: (b 3 + 305, oFrm fe (e 2)) :: (b 4 + 305, oCell (some (.ref (b 6 + 305)))) :: (b 5 + 305, oCell (some (.ref (a 0 + 305)))) :: R
theorem ac_end {V : XV} (b a : Nat → Nat) (st : Int) (o : Tok × Value) (fe : Array DictEntry) (e : Nat → Nat) (c : Nat → Int) (tc : Nat → Tok) (ec : Nat) (t : Nat → Tok) (raw : Str) (nn nt : Int) (q : List (Nat × Tok)) (sm : Bool) (ew n i g : Nat) :
    CallsS V 350 (acC V.w.params b) (acL V.w.params b a st (Int.ofNat 0) (some o) fe e (acW V.w.params b a c tc ec t raw nn nt q sm ew)) n i g (acP V.w.params b a fe (acW V.w.params b a c tc ec t raw nn nt q sm ew)) :=
  turn_end [] 14 (unp 7 0x41041041) [3, 4, 5, 6, 7, 8, 9, 10, 11, 12] 13 .next ((b 1 + 305, oSeq "list" #[] (e 0)) :: (b 2 + 305, oDic (dD V.w.params sMore (some o)) (e 1)) :: (b 3 + 305, oFrm fe (e 2)) :: (b 4 + 305, oCell (some (.ref (b 6 + 305)))) :: (b 5 + 305, oCell (some (.ref (a 0 + 305)))) :: acW V.w.params b a c tc ec t raw nn nt q sm ew) (n + 2) i g
    (by decide) (fun A Q B => trivial) (fun A Q F G => by kernel_rfl) ⟨rfl, o, e, rfl⟩
noncomputable def agAll (c : Nat → Int) (ks : List Nat) : Bool := [0, 1, 2, 3, 4, 5].all fun m : Int => okP m 0 ks && (toldF c m == prodF m 0 1 ks)
theorem ac_all {V : XV} (b a : Nat → Nat) (fe : Array DictEntry) (e : Nat → Nat) (c : Nat → Int) (tc : Nat → Tok) (ec : Nat) (t : Nat → Tok) (raw : Str) (nn nt : Int) (q : List (Nat × Tok)) (sm : Bool) (ew n i g : Nat) (h : agAll c (q.map (·.1)) = true) :
    CallsG V 350 (acS V.w.params b) (acL V.w.params b a 0 6 none fe e (acW V.w.params b a c tc ec t raw nn nt q sm ew)) n i g (acP V.w.params b a fe (acW V.w.params b a c tc ec t raw nn nt q sm ew)) := by
  refine CallsS.g (by kernel_rfl) (by decide) ?_
  simp only [agAll, List.all_cons, List.all_nil, Bool.and_true, Bool.and_eq_true] at h
  obtain ⟨h0, h1, h2, h3, h4, h5⟩ := h
  have z : CallsS V 350 (acC V.w.params b) (acL V.w.params b a 0 (Int.ofNat (5 + 1)) none fe e (acW V.w.params b a c tc ec t raw nn nt q sm ew)) n i g (acP V.w.params b a fe (acW V.w.params b a c tc ec t raw nn nt q sm ew)) := by
    refine ac_turn b a 0 1 5 _ fe e c tc ec t raw nn nt q sm ew n i g _ (by decide) (by decide) h0.1 h0.2 fun o e n i g => ?_
    refine ac_turn b a 1 2 4 _ fe e c tc ec t raw nn nt q sm ew n i g _ (by decide) (by decide) h1.1 h1.2 fun o e n i g => ?_
    refine ac_turn b a 2 3 3 _ fe e c tc ec t raw nn nt q sm ew n i g _ (by decide) (by decide) h2.1 h2.2 fun o e n i g => ?_
    refine ac_turn b a 3 4 2 _ fe e c tc ec t raw nn nt q sm ew n i g _ (by decide) (by decide) h3.1 h3.2 fun o e n i g => ?_
    refine ac_turn b a 4 5 1 _ fe e c tc ec t raw nn nt q sm ew n i g _ (by decide) (by decide) h4.1 h4.2 fun o e n i g => ?_
    refine ac_turn b a 5 6 0 _ fe e c tc ec t raw nn nt q sm ew n i g _ (by decide) (by decide) h5.1 h5.2 fun o e n i g => ?_
    exact ac_end b a 6 o fe e c tc ec t raw nn nt q sm ew n i g
  exact turn_at [] 12 (unp 7 0x4104104c) [0, 1, 2, 3, 4, 5, 6, 7, 8, 9, 10] 11 _ (acL V.w.params b a 0 6 none fe e (acW V.w.params b a c tc ec t raw nn nt q sm ew)) n i g (by decide) (fun A Q B => trivial) (fun A Q F G => by kernel_rfl) z
end Mine
end
section
open PySem PySem.W PySem.W.X PySem.Builtin.Str
namespace Mine
theorem ms_perm {V : XV} {c : Code} {md : Option (List Fk)} {κ : Kont} {t : Sem Fin} {L L' : Led} {n i g : Nat} {G : Gl} (p : L'.Perm L) (H : MS V ⟨c, md, κ, t, L', n, i, g, G⟩) : MS V ⟨c, md, κ, t, L, n, i, g, G⟩ := fun s S => H s (S.perm p)
noncomputable def nfS (raw : List Nat) : WS := wsRun raw ⟨0, fun _ => 0, 0⟩
noncomputable def nfK (raw : List Nat) : List Nat := (List.range (nfS raw).L).map (nfS raw).c
theorem qL_fst (c : Nat → Nat) (tc : Nat → Tok) : ∀ L, (qL c tc L).map (·.1) = (List.range L).map c
  | 0 => rfl
  | k + 1 => by rw [List.range_succ]; simp [qL, qL_fst c tc k]
theorem typedN {V : XV} (l c : Nat) (q qc : List (Nat × Tok)) (hc5 : qc.length = 5) (H : TypedOk (q.map (·.1)) (qc.map (·.1))) (D : List Nat) (hD : leadF (q.map (·.1)) (qc.map (·.1)) = D) (ks : List Nat) (hk : nfK D = ks) (hb : (nfS D).b = 0) (eq ec : Nat) (n i g : Nat) :
    CallsG V 400 (.call (.ref 286) ⟨[.ref (l + 305), .ref (c + 305)], []⟩) [(l + 305, oSeq "list" (valsN q).toArray eq), (c + 305, oSeq "list" (valsN qc).toArray ec)] n i g (fun r L' _ _ _ => ∃ (e1 e2 : Nat) (w : Nat → Nat) (t : Nat → Tok) (nn nt : Int) (qw : List (Nat × Tok)) (e : Nat), r = .ok (.ret (.ref (w 0 + 305))) ∧ qw.map (·.1) = ks ∧
      L' = wsL V.w.params w t ⟨D.toArray⟩ nn nt (valsN qw).toArray 0 false e ++ [(l + 305, oSeq "list" (valsN q).toArray e1), (c + 305, oSeq "list" (valsN qc).toArray e2)]) := by
  refine (typed l c q qc hc5 H eq ec n i g).g.mono ?_
  rintro r L' n' i' g' ⟨v, rfl, e1, e2, w, t, nn, nt, tc, e, rfl, rfl⟩
  rw [hD]
  refine ⟨e1, e2, w, t, nn, nt, qL (nfS D).c tc (nfS D).L, e, rfl, by rw [qL_fst]; exact hk, ?_⟩
  have hb2 : (Int.ofNat (wsRun D ⟨0, fun _ => 0, 0⟩).b) = 0 := by
    have : (wsRun D ⟨0, fun _ => 0, 0⟩).b = 0 := hb
    rw [this]; rfl
  rw [hb2]
  rfl
noncomputable def mxZ : Option Int → List Int → Int
  | b, [] => b.getD 0
  | b, x :: q => mxZ (some (match b with
    | none => x
    | some y => match decide (x > y) with
      | true => x
      | false => y)) q
noncomputable def colsZ (q : List Int) (st : Int) : Nat → List Int
  | 0 => []
  | k + 1 => Int.ofNat (q.filter fun x => decide (x > st)).length :: colsZ q (st + 1) k
theorem cols_z (q : List (Int × Tok)) : ∀ (k : Nat) (st : Int), cols q st k = colsZ (q.map (·.1)) st k
  | 0, _ => rfl
  | k + 1, st => by
    have e : (big st q).length = ((q.map (·.1)).filter fun x => decide (x > st)).length := by
      unfold big
      rw [List.filter_map, List.length_map]
      rfl
    simp only [cols, colsZ, e, cols_z q k (st + 1)]
theorem vals_nat : ∀ (ws : List (Int × Tok)) (tz : List Nat), ws.map (·.1) = tz.map Int.ofNat → ∃ q : List (Nat × Tok), vals ws = valsN q ∧ q.map (·.1) = tz
  | [], [], _ => ⟨[], rfl, rfl⟩
  | x :: ws, z :: tz, h => by
    simp only [List.map_cons, List.cons.injEq] at h
    obtain ⟨q, h1, h2⟩ := vals_nat ws tz h.2
    refine ⟨(z, x.2) :: q, ?_, by simp [h2]⟩
    simp only [vals, valsN, List.map_cons] at h1 ⊢
    rw [h.1, h1]
  | [], _ :: _, h => by simp at h
  | _ :: _, [], h => by simp at h
noncomputable def intsQ (q : List (Nat × Tok)) : List (Int × Tok) := q.map fun x => (Int.ofNat x.1, x.2)
theorem intsQ_vals (q : List (Nat × Tok)) : vals (intsQ q) = valsN q := by simp [vals, valsN, intsQ]
theorem mx_z : ∀ (q : List (Int × Tok)) (b : Option (Int × Tok)), (mxF b q).1 = mxZ (b.map (·.1)) (q.map (·.1))
  | [], b => by cases b <;> rfl
  | x :: q, b => by
    unfold mxF
    rw [mx_z q]
    simp only [List.map_cons, mxZ, Option.map_some]
    congr 2
    cases b with
    | none => rfl
    | some y =>
      simp only [mxN, Option.map_some]
      cases decide (x.1 > y.1) <;> rfl
theorem turnedN {V : XV} (l : Nat) (q : List (Nat × Tok)) (sz tz : List Nat) (hs : q.map (·.1) = sz) (hq : sz ≠ []) (hl : sz.length ≤ 100) (k : Nat) (hk : mxZ none (sz.map Int.ofNat) = Int.ofNat k) (hk2 : k = 1 ∨ k = 2 ∨ k = 3 ∨ k = 4 ∨ k = 5) (ht : colsZ (sz.map Int.ofNat) 0 k = tz.map Int.ofNat) (e n i g : Nat) :
    CallsG V 350 (.call (.ref 281) ⟨[.ref (l + 305)], []⟩) [(l + 305, oSeq "list" (valsN q).toArray e)] n i g (fun r L' _ _ _ => ∃ (rr : Nat) (q2 : List (Nat × Tok)) (e1 e2 : Nat), r = .ok (.ret (.ref (rr + 305))) ∧ q2.map (·.1) = tz ∧
      L' = [(rr + 305, oSeq "list" (valsN q2).toArray e1), (l + 305, oSeq "list" (valsN q).toArray e2)]) := by
  have hz : (intsQ q).map (·.1) = sz.map Int.ofNat := by rw [← hs]; simp [intsQ]
  have hqn : q ≠ [] := fun e => hq (by rw [← hs, e]; rfl)
  have hql : q.length = sz.length := by rw [← hs, List.length_map]
  have z := (turned (V := V) l (intsQ q) (by simp [intsQ, hqn]) (by simp [intsQ]; omega) k (by rw [mx_z, hz]; exact hk) hk2 e n i g).g
  rw [intsQ_vals] at z
  refine z.mono ?_
  rintro r L' n' i' g' ⟨v, rfl, rr, ws, e1, e2, rfl, hw, rfl⟩
  rw [cols_z, hz, ht] at hw
  obtain ⟨q2, h1, h2⟩ := vals_nat ws tz hw
  exact ⟨rr, q2, e1, e2, rfl, h2, by rw [h1]⟩
theorem picksN {V : XV} (l : Nat) (q : List (Nat × Tok)) (sz : List Nat) (hs : q.map (·.1) = sz) (h4 : ∀ x ∈ sz, x = 1 ∨ x = 2 ∨ x = 3 ∨ x = 4) (hq : sz ≠ []) (hl : sz.length ≤ 5) (hT : ∀ x ∈ picksF sz, 0 ≤ x.1 ∧ x.1 ≤ 15) (e n i g : Nat) :
    CallsG V 400 (.call (.ref 291) ⟨[.ref (l + 305)], []⟩) [(l + 305, oSeq "list" (valsN q).toArray e)] n i g (fun r L' _ _ _ => ∃ (rr : Nat) (tc : Nat → Tok) (e1 e2 : Nat), r = .ok (.ret (.ref (rr + 305))) ∧
      L' = [(rr + 305, oSeq "list" (cnts (cntE (fun _ => 0) (picksF sz)) tc) e1), (l + 305, oSeq "list" (valsN q).toArray e2)]) := by
  have hqn : q ≠ [] := fun e => hq (by rw [← hs, e]; rfl)
  have hql : q.length = sz.length := by rw [← hs, List.length_map]
  refine (picks (V := V) l q ?_ hqn (by omega) (by rw [hs]; exact hT) e n i g).g.mono ?_
  · intro x hx
    exact h4 x.1 (by rw [← hs]; exact List.mem_map_of_mem (f := (·.1)) hx)
  · rintro r L' n' i' g' ⟨v, rfl, rr, tc, e1, e2, rfl, rfl⟩
    rw [hs]
    exact ⟨rr, tc, e1, e2, rfl, rfl⟩
structure TurnOk (w : Nat) (x0 x1 x2 x3 x4 : Nat) (ls : List Str) (cs sz tz ks D1 D2 : List Nat) (k : Nat) : Prop where
  xs : (x0 = 1 ∨ x0 = 2 ∨ x0 = 3) ∧ (x1 = 1 ∨ x1 = 2 ∨ x1 = 3) ∧ (x2 = 1 ∨ x2 = 2 ∨ x2 = 3) ∧ (x3 = 1 ∨ x3 = 2 ∨ x3 = 3) ∧ (x4 = 1 ∨ x4 = 2 ∨ x4 = 3)
  wd : w = 3 ∨ w = 4
  laid : laidF w [wS x1, wS x2, wS x3, wS x4] [] (wS x0) = ls
  ne : ls ≠ []
  len : ls.length ≤ 80
  short : ∀ l ∈ ls, l.length ≤ 1000
  szs : ls.map (·.length) = sz
  t1 : TypedOk sz cs
  d1 : leadF sz cs = D1
  k1 : nfK D1 = ks
  b1 : (nfS D1).b = 0
  four : ∀ x ∈ sz, x = 1 ∨ x = 2 ∨ x = 3 ∨ x = 4
  keys : ∀ x ∈ picksF sz, 0 ≤ x.1 ∧ x.1 ≤ 15
  mx : mxZ none (sz.map Int.ofNat) = Int.ofNat k
  mx5 : k = 1 ∨ k = 2 ∨ k = 3 ∨ k = 4 ∨ k = 5
  cols : colsZ (sz.map Int.ofNat) 0 k = tz.map Int.ofNat
  t2 : TypedOk tz cs
  d2 : leadF tz cs = D2
  k2 : nfK D2 = ks
  b2 : (nfS D2).b = 0
  agree : agAll (cntE (fun _ => 0) (picksF sz)) ks = true
end Mine
end
section
open PySem PySem.W PySem.W.X PySem.Builtin.Str
namespace Mine
noncomputable def sWordsL : Str := ⟨#[119,111,114,100,115]⟩
noncomputable def sScript : Str := ⟨#[115,99,114,105,112,116]⟩
noncomputable def sDrawn : Str := ⟨#[100,114,97,119,110]⟩
noncomputable def sLeads : Str := ⟨#[108,101,97,100,115]⟩
example : sScript = Str.ofString "script" ∧ sDrawn = Str.ofString "drawn" ∧ sLeads = Str.ofString "leads" ∧ sWordsL = Str.ofString "words" := by decide +kernel
noncomputable def lwC (p : Params) (a : Nat → Nat) : Code := loopC p 303 [4] (fnEnv p 303 qLaw (a 2) [(sWaysN, a 6 + 305), (sLead, a 5 + 305)]) (a 0)
noncomputable def lwF (a : Nat → Nat) (t : Nat → Tok) (v0 v1 : Value) (o : Option (Nat → Value)) : List (Str × Tok × Value) :=
  [(sScript, t 0, v0), (sDrawn, t 1, v1), (sCells, t 2, .ref (a 4 + 305)), (sWordsL, t 3, .ref (a 3 + 305)), (sCounts, t 4, .ref (a 8 + 305)), (sLeads, t 5, .ref (a 7 + 305))] ++
    (match o with
    | none => []
    | some x => [(sWidth, t 6, x 0), (sLines, t 7, x 1), (sSizes, t 8, x 2)])
noncomputable def lwO (o : Option (Nat → Value)) (k : Nat) : Option Value := match o with
  | none => none
  | some x => some (x k)
structure LW where
  x0 : Nat
  x1 : Nat
  x2 : Nat
  x3 : Nat
  x4 : Nat
  qc : List (Nat × Tok)
  v0 : Value
  v1 : Value
  tw0 : Tok
  tw1 : Tok
noncomputable def lwL (p : Params) (a : Nat → Nat) (d : LW) (t tx : Nat → Tok) (o : Option (Nat → Value)) (j : Nat) (y1 y2 : Array Value) (e : Nat → Nat) : Led :=
  [(a 0 + 305, oIt "tuple_iterator" [.ref (a 1 + 305), .int (Int.ofNat j) 0]), (a 1 + 305, oSeq "tuple" #[.int (Int.ofNat 3) d.tw0, .int (Int.ofNat 4) d.tw1] 0), (a 2 + 305, oFrm (dEs p (lwF a t d.v0 d.v1 o)) (e 0)), pgW (a 3) d.x0 d.x1 d.x2 d.x3 d.x4 tx (e 1),
   (a 4 + 305, oSeq "list" (valsN d.qc).toArray (e 2)), (a 5 + 305, oCell (lwO o 3)), (a 6 + 305, oCell (lwO o 4)), (a 7 + 305, oSeq "list" y1 (e 3)), (a 8 + 305, oSeq "list" y2 (e 4))]
noncomputable def lwK (p : Params) (r : Nat) (c : Nat → Int) (tc : Nat → Tok) (er : Nat) (w : Nat → Nat) (t : Nat → Tok) (D : List Nat) (nn nt : Int) (q : List (Nat × Tok)) (e : Nat) : Led :=
  wsL p w t ⟨D.toArray⟩ nn nt (valsN q).toArray 0 false e ++ [(r + 305, oSeq "list" (cnts c tc) er)]
theorem law_turn {V : XV} (a : Nat → Nat) (d : LW) (w : Nat) (tw : Tok) (ls : List Str) (cs sz tz ks D1 D2 : List Nat) (k : Nat) (H : TurnOk w d.x0 d.x1 d.x2 d.x3 d.x4 ls cs sz tz ks D1 D2 k) (hcs : d.qc.map (·.1) = cs) (hc5 : d.qc.length = 5)
    (T : Led) (hP : ∀ (V : XV) (t : Nat → Tok) (e0 n i g : Nat) (tk : Tok), CallsE V 500 (.call (.ref 269) ⟨[.ref (a 3 + 305), .int (Int.ofNat w) tk], []⟩) (pgW (a 3) d.x0 d.x1 d.x2 d.x3 d.x4 t e0 :: T) n i g (PageP (pgW (a 3) d.x0 d.x1 d.x2 d.x3 d.x4 t e0) ls))
    (j : Nat) (hj : (#[.int (Int.ofNat 3) d.tw0, .int (Int.ofNat 4) d.tw1] : Array Value)[j]? = some (.int (Int.ofNat w) tw))
    (t tx : Nat → Tok) (o : Option (Nat → Value)) (y1 y2 : Array Value) (hy1 : y1.size ≤ 50) (hy2 : y2.size ≤ 50) (e : Nat → Nat) (n i g : Nat) (A : Around) (Q : Result → Shared → Prop) (B : Base (reV V A Q) 550) (F : Led) (G : Gl)
    (HH : ∀ (t' tx' : Nat → Tok) (x : Nat → Value) (e' : Nat → Nat) (r : Nat) (tc : Nat → Tok) (er : Nat) (ww : Nat → Nat) (tt : Nat → Tok) (nn nt : Int) (q : List (Nat × Tok)) (ew : Nat) (a' : Nat → Nat) (t2 : Nat → Tok) (m : Nat → Int) (n' i' g' : Nat), q.map (·.1) = ks →
      MS (reV V A Q) ⟨lwC V.w.params a, none, .base, startF (lwC V.w.params a), lwL V.w.params a d t' tx' (some x) (j + 1) (y1.push (.ref (ww 0 + 305))) (y2.push (.ref (r + 305))) e' ++ (fsTail true true a' t2 m 0 0 ++ (lwK V.w.params r (cntE (fun _ => 0) (picksF sz)) tc er ww tt D1 nn nt q ew ++ F)), n' + 305, i', g', G⟩) :
    MS (reV V A Q) ⟨lwC V.w.params a, none, .base, startF (lwC V.w.params a), lwL V.w.params a d t tx o j y1 y2 e ++ (T ++ F), n + 305, i, g, G⟩ := by
  have hT1 : TypedOk sz (d.qc.map (·.1)) := by rw [hcs]; exact H.t1
  have hT2 : TypedOk tz (d.qc.map (·.1)) := by rw [hcs]; exact H.t2
  have hD1 : leadF sz (d.qc.map (·.1)) = D1 := by rw [hcs]; exact H.d1
  have hD2 : leadF tz (d.qc.map (·.1)) = D2 := by rw [hcs]; exact H.d2
  have hsz5 : sz.length ≤ 5 := by have := hT1.num; omega
  have hszn : sz ≠ [] := by intro e; have := hT1.num; rw [e] at this; simp at this
  obtain ⟨⟨hx0, hx1, hx2, hx3, hx4⟩, hwd, hlaid, hlne, hllen, hshort, hszs, _, _, hk1, hb1, hfour, hkeys, hmx, hmx5, hcols, _, _, hk2, hb2, hag⟩ := H
  have OO : (cxR (reV V A Q) 550 []).Ok := B.okR (by decide) trivial
  have O1 : (cxR (reV V A Q) 550 [ti_r (a 0 + 305) (a 1 + 305) j #[.int (Int.ofNat 3) d.tw0, .int (Int.ofNat 4) d.tw1] (.int (Int.ofNat w) tw) n i g]).Ok := B.okR (by decide) ⟨ti_ok hj, trivial⟩
  have hw1 : ∀ x, (x = 1 ∨ x = 2 ∨ x = 3) → (wS x).length ≠ 0 ∧ (wS x).length ≤ 3 := by
    intro x hx
    rcases hx with rfl | rfl | rfl <;> decide
  cases o with
  | none =>
    have C1 := ((hP V tx (e 1) n (i + 1) g tw).g).re A Q
    refine @run_callG (cxR (reV V A Q) 550 _) O1 _ 19 (unp 14 0xc30030c000041ffc1) [3] 9 500 _ _ F _ _ _ _ C1 B (by kernel_rfl) (hid ?_)
    intro Kq hKq
    rintro r0 L0 n1 i1 g1 ⟨v, rfl, hx⟩
    refine ex5 hx ?_
    clear hx
    rintro r1 a' t2 m τ ⟨rfl, rfl⟩
    refine hKq _ _ _ _ _ ?_
    generalize hT' : fsTail true true a' t2 m 0 0 = T'
    obtain ⟨ql, hq1, hq2⟩ := strsFrom_vals ls τ
    rw [hq1]
    have C2 := ((laid (V := V) (a 3) (wS d.x0, tx 0) [(wS d.x1, tx 1), (wS d.x2, tx 2), (wS d.x3, tx 3), (wS d.x4, tx 4)] w tw (by rcases hwd with rfl | rfl <;> decide) (by simp) (by
      intro z hz
      simp only [List.mem_cons, List.not_mem_nil, or_false] at hz
      rcases hz with rfl | rfl | rfl | rfl | rfl
      · exact ⟨(hw1 _ hx0).1, Nat.le_trans (hw1 _ hx0).2 (by decide)⟩
      · exact ⟨(hw1 _ hx1).1, Nat.le_trans (hw1 _ hx1).2 (by decide)⟩
      · exact ⟨(hw1 _ hx2).1, Nat.le_trans (hw1 _ hx2).2 (by decide)⟩
      · exact ⟨(hw1 _ hx3).1, Nat.le_trans (hw1 _ hx3).2 (by decide)⟩
      · exact ⟨(hw1 _ hx4).1, Nat.le_trans (hw1 _ hx4).2 (by decide)⟩) (Nat.le_trans (hw1 _ hx0).2 (by rcases hwd with rfl | rfl <;> decide)) (e 1) n1 (i1 + 1) g1).g).re A Q
    intro sq
    refine @run_callG (cxR (reV V A Q) 550 _) OO _ 19 (unp 9 0x30c00c30c0) [9] 10 300 _ _ (T' ++ F) _ _ _ _ C2 B (by kernel_rfl) (hid ?_)
    intro Kq hKq
    rintro r0 L0 n2 i2 g2 ⟨v, rfl, hx⟩
    refine ex4 hx ?_
    clear hx
    rintro r2 q2 el ew ⟨rfl, hq3, rfl⟩
    refine hKq _ _ _ _ _ ?_
    have hq4 : q2.map (·.1) = ls := hq3.trans hlaid
    have C3 := strs_ne (V := reV V A Q) r1 r2 ql q2 0 el n2 i2 g2
    intro sq
    refine @run_codeE (cxR (reV V A Q) 550 _) OO _ 6 (unp 5 0x49289) [8, 8] 11 20 _ _ (T' ++ F) _ _ _ _ C3 (by kernel_rfl) (hid ?_)
    intro Kq hKq
    rintro r0 L0 n3 i3 g3 ⟨hr, rfl, rfl, rfl, rfl⟩
    refine hKq _ _ _ _ _ ?_
    have hr2 : (!(ql.map (·.1) == q2.map (·.1))) = false := by rw [hq2, hq4]; simp
    rw [hr2] at hr
    subst hr
    have hqln : ql ≠ [] := fun e => hlne (by rw [← hq2, e]; rfl)
    have hqls : ∀ z ∈ ql, z.1.length ≤ 1000 := fun z hz => hshort z.1 (by rw [← hq2]; exact List.mem_map_of_mem (f := (·.1)) hz)
    have hqll : ql.length ≤ 80 := by rw [← hq2, List.length_map] at hllen; exact hllen
    have C4 := (sz_all (V := V) (lk [n3, r1, n3 + 1, n3 + 2, a 2]) (dEs V.w.params ([(sScript, t 0, d.v0), (sDrawn, t 1, d.v1), (sCells, t 2, .ref (a 4 + 305)), (sWordsL, t 3, .ref (a 3 + 305)), (sCounts, t 4, .ref (a 8 + 305)), (sLeads, t 5, .ref (a 7 + 305)), (sWidth, i, .int (Int.ofNat w) tw), (sLines, i1, .ref (r1 + 305))])) ql hqls hqln hqll (lk [0, 0, 0, e 0 + 2]) (n3 + 3) i3 g3).re A Q
    intro sq
    refine @run_callG (cxR (reV V A Q) 550 _) OO _ 17 (unp 7 0x4a04a283) [2, 11, 1, 0, 2] 14 250 _ _ (T' ++ F) _ _ _ _ C4 B (by kernel_rfl) (hid ?_)
    intro Kq hKq
    rintro r0 L0 n4 i4 g4 ⟨rfl, hx⟩
    refine ex3 hx ?_
    clear hx
    rintro qs os es ⟨hqs, rfl⟩
    refine hKq _ _ _ _ _ ?_
    have hqs2 : qs.map (·.1) = sz := by rw [hqs, ← hszs, ← hq2]; simp
    rw [List.nil_append]
    have C5 := (typedN (V := V) (n3 + 1) (a 4) qs d.qc hc5 (by rw [hqs2]; exact hT1) D1 (by rw [hqs2]; exact hD1) ks hk1 hb1 (es 0) (e 2) n4 (i4 + 1) g4).re A Q
    intro sq
    refine @run_callG (cxR (reV V A Q) 550 _) OO _ 23 (unp 11 0xd34030c30d340) [10, 2] 13 400 _ _ (T' ++ F) _ _ _ _ C5 B (by kernel_rfl) (hid ?_)
    intro Kq hKq
    rintro r0 L0 n5 i5 g5 hx
    refine ex8 hx ?_
    clear hx
    rintro e51 e52 w5 t5 nn5 nt5 q5 e5 ⟨rfl, hq5, rfl⟩
    refine hKq _ _ _ _ _ ?_
    have C6 := (picksN (V := V) (n3 + 1) qs sz hqs2 hfour hszn hsz5 hkeys e51 n5 i5 g5).re A Q
    intro sq
    refine @run_callG (cxR (reV V A Q) 550 _) OO _ 7 (unp 4 0x2c0) [15] 17 400 _ _ (T' ++ F) _ _ _ _ C6 B (by kernel_rfl) (hid ?_)
    intro Kq hKq
    rintro r0 L0 n6 i6 g6 hx
    refine ex4 hx ?_
    clear hx
    rintro r6 tc e61 e62 ⟨rfl, rfl⟩
    refine hKq _ _ _ _ _ ?_
    generalize hcc : cntE (fun _ => 0) (picksF sz) = cc at hag HH ⊢
    have C7 := (turnedN (V := V) (n3 + 1) qs sz tz hqs2 hszn (by omega) k hmx hmx5 hcols e62 (n6 + 4) i6 g6).re A Q
    intro sq
    refine @run_callG (cxR (reV V A Q) 550 _) OO _ 86 (unp 53 0xf0004500000004000004000004072081c7041042041041041081041041042041041041041041) [21] 22 350 _ _ (T' ++ F) _ _ _ _ C7 B (by kernel_rfl) (hid ?_)
    intro Kq hKq
    rintro r0 L0 n7 i7 g7 hx
    refine ex4 hx ?_
    clear hx
    rintro r7 qt e71 e72 ⟨rfl, hqt, rfl⟩
    refine hKq _ _ _ _ _ ?_
    have C8 := (typedN (V := V) r7 (a 4) qt d.qc hc5 (by rw [hqt]; exact hT2) D2 (by rw [hqt]; exact hD2) ks hk2 hb2 e71 e52 n7 i7 g7).re A Q
    intro sq
    refine @run_callG (cxR (reV V A Q) 550 _) OO _ 5 (unp 3 0xf) [21, 19] 23 400 _ _ (T' ++ F) _ _ _ _ C8 B (by kernel_rfl) (hid ?_)
    intro Kq hKq
    rintro r0 L0 n8 i8 g8 hx
    refine ex8 hx ?_
    clear hx
    rintro e81 e82 w8 t8 nn8 nt8 q8 e8 ⟨rfl, hq8, rfl⟩
    refine hKq _ _ _ _ _ ?_
    have C9 := ((equal (V := V) w5 w8 t5 t8 ⟨D1.toArray⟩ ⟨D2.toArray⟩ nn5 nn8 nt5 nt8 q5 q8 0 0 false false e5 e8 true (by rw [hq5, hq8]; simp) n8 i8 g8).g).re A Q
    intro sq
    refine @run_callG (cxR (reV V A Q) 550 _) OO _ 3 (unp 2 0x0) [15, 15, 15, 15, 17, 17, 17, 17] 27 300 _ _ (T' ++ F) _ _ _ _ C9 B (by kernel_rfl) (hid ?_)
    intro Kq hKq
    rintro r0 L0 n9 i9 g9 ⟨v, rfl, rfl, rfl⟩
    refine hKq _ _ _ _ _ ?_
    have C10 := (ac_all (V := V) (lk [n9 + 1, n9 + 2, n9 + 3, a 2, a 6, a 5, r6]) w5 (dEs V.w.params (lwF a (lk [t 0, t 1, t 2, t 3, t 4, t 5, i, i1, i4]) d.v0 d.v1 (some (lk [.int (Int.ofNat w) tw, .ref (r1 + 305), .ref (n3 + 1 + 305)])))) (lk [0, 0, es 2 + 1]) cc tc e61 t5 ⟨D1.toArray⟩ nn5 nt5 q5 false e5 (n9 + 4) (i9 + 3) g9 (by rw [hq5]; exact hag)).re A Q
    intro sq
    refine @run_callG (cxR (reV V A Q) 550 _) OO _ 41 (unp 15 0x41041041041041041000) [2, 1, 0, 15, 8, 7, 13, 16, 16, 16, 16] 31 350 _ _ (T' ++ F) _ _ _ _ C10 B (by kernel_rfl) (hid ?_)
    intro Kq hKq
    rintro r0 L0 n10 i10 g10 ⟨rfl, oa, ea, rfl⟩
    refine hKq _ _ _ _ _ ?_
    have C11 := strs_ne (V := reV V A Q) (n9 + 2) n10 [] [] (ea 0) 0 (n10 + 1) i10 g10
    intro sq
    refine @run_codeE (cxR (reV V A Q) 550 _) OO _ 12 (unp 8 0x1581596596) [21, 0] 31 20 _ _ (T' ++ F) _ _ _ _ C11 (by kernel_rfl) (hid ?_)
    intro Kq hKq
    rintro r0 L0 n11 i11 g11 ⟨rfl, rfl, rfl, rfl, rfl⟩
    refine hKq _ _ _ _ _ ?_
    have O12 : (cxR (reV V A Q) 550 [app_r (a 7 + 305) y1 (e 3) (.ref (w5 0 + 305)) (n10 + 1) i11 g11, app_r (a 8 + 305) y2 (e 4) (.ref (r6 + 305)) (n10 + 1) i11 g11]).Ok := B.okR (by decide) ⟨app_ok (Nat.le_trans hy1 (by decide)), app_ok (Nat.le_trans hy2 (by decide)), trivial⟩
    have Z := HH (lk [t 0, t 1, t 2, t 3, t 4, t 5, i, i1, i4]) tx (lk [.int (Int.ofNat w) tw, .ref (r1 + 305), .ref (n3 + 1 + 305), .ref (w5 0 + 305), .ref (r6 + 305)]) (lk [ea 2, ew, e82, e 3 + 1, e 4 + 1]) r6 tc e61 w5 t5 nn5 nt5 q5 e5 a' t2 m (n10 + 1) i11 g11 hq5
    rw [hT'] at Z
    have PP : (lwL V.w.params a d (lk [t 0, t 1, t 2, t 3, t 4, t 5, i, i1, i4]) tx (some (lk [.int (Int.ofNat w) tw, .ref (r1 + 305), .ref (n3 + 1 + 305), .ref (w5 0 + 305), .ref (r6 + 305)])) (j + 1) (y1.push (.ref (w5 0 + 305))) (y2.push (.ref (r6 + 305))) (lk [ea 2, ew, e82, e 3 + 1, e 4 + 1]) ++ (T' ++ (lwK V.w.params r6 cc tc e61 w5 t5 D1 nn5 nt5 q5 e5 ++ F))).Perm (lwL V.w.params a d (lk [t 0, t 1, t 2, t 3, t 4, t 5, i, i1, i4]) tx (some (lk [.int (Int.ofNat w) tw, .ref (r1 + 305), .ref (n3 + 1 + 305), .ref (w5 0 + 305), .ref (r6 + 305)])) (j + 1) (y1.push (.ref (w5 0 + 305))) (y2.push (.ref (r6 + 305))) (lk [ea 2, ew, e82, e 3 + 1, e 4 + 1]) ++ (lwK V.w.params r6 cc tc e61 w5 t5 D1 nn5 nt5 q5 e5 ++ (T' ++ F))) := by
      refine List.Perm.append_left _ ?_
      rw [← List.append_assoc, ← List.append_assoc]
      exact List.perm_append_comm.append_right F
    intro sq
    exact @run_to (cxR (reV V A Q) 550 _) O12 _ 30 (unp 21 0x2117ff5c92492561d07ff608208216) [7, 8, 21, 9, 15, 23, 22, 1, 0, 25, 26, 27, 28, 24] 31 [] 0 (lwC V.w.params a) .base (startF (lwC V.w.params a)) _ _ _ _ _ (by decide) (by kernel_rfl) (ms_perm PP Z)
  | some x =>
    have C1 := ((hP V tx (e 1) n (i + 1) g tw).g).re A Q
    refine @run_callG (cxR (reV V A Q) 550 _) O1 _ 19 (unp 14 0xc30030c000041ffc1) [3] 9 500 _ _ F _ _ _ _ C1 B (by kernel_rfl) (hid ?_)
    intro Kq hKq
    rintro r0 L0 n1 i1 g1 ⟨v, rfl, hx⟩
    refine ex5 hx ?_
    clear hx
    rintro r1 a' t2 m τ ⟨rfl, rfl⟩
    refine hKq _ _ _ _ _ ?_
    generalize hT' : fsTail true true a' t2 m 0 0 = T'
    obtain ⟨ql, hq1, hq2⟩ := strsFrom_vals ls τ
    rw [hq1]
    have C2 := ((laid (V := V) (a 3) (wS d.x0, tx 0) [(wS d.x1, tx 1), (wS d.x2, tx 2), (wS d.x3, tx 3), (wS d.x4, tx 4)] w tw (by rcases hwd with rfl | rfl <;> decide) (by simp) (by
      intro z hz
      simp only [List.mem_cons, List.not_mem_nil, or_false] at hz
      rcases hz with rfl | rfl | rfl | rfl | rfl
      · exact ⟨(hw1 _ hx0).1, Nat.le_trans (hw1 _ hx0).2 (by decide)⟩
      · exact ⟨(hw1 _ hx1).1, Nat.le_trans (hw1 _ hx1).2 (by decide)⟩
      · exact ⟨(hw1 _ hx2).1, Nat.le_trans (hw1 _ hx2).2 (by decide)⟩
      · exact ⟨(hw1 _ hx3).1, Nat.le_trans (hw1 _ hx3).2 (by decide)⟩
      · exact ⟨(hw1 _ hx4).1, Nat.le_trans (hw1 _ hx4).2 (by decide)⟩) (Nat.le_trans (hw1 _ hx0).2 (by rcases hwd with rfl | rfl <;> decide)) (e 1) n1 (i1 + 1) g1).g).re A Q
    intro sq
    refine @run_callG (cxR (reV V A Q) 550 _) OO _ 19 (unp 9 0x30c00c30c0) [9] 10 300 _ _ (T' ++ F) _ _ _ _ C2 B (by kernel_rfl) (hid ?_)
    intro Kq hKq
    rintro r0 L0 n2 i2 g2 ⟨v, rfl, hx⟩
    refine ex4 hx ?_
    clear hx
    rintro r2 q2 el ew ⟨rfl, hq3, rfl⟩
    refine hKq _ _ _ _ _ ?_
    have hq4 : q2.map (·.1) = ls := hq3.trans hlaid
    have C3 := strs_ne (V := reV V A Q) r1 r2 ql q2 0 el n2 i2 g2
    intro sq
    refine @run_codeE (cxR (reV V A Q) 550 _) OO _ 6 (unp 5 0x49289) [8, 8] 11 20 _ _ (T' ++ F) _ _ _ _ C3 (by kernel_rfl) (hid ?_)
    intro Kq hKq
    rintro r0 L0 n3 i3 g3 ⟨hr, rfl, rfl, rfl, rfl⟩
    refine hKq _ _ _ _ _ ?_
    have hr2 : (!(ql.map (·.1) == q2.map (·.1))) = false := by rw [hq2, hq4]; simp
    rw [hr2] at hr
    subst hr
    have hqln : ql ≠ [] := fun e => hlne (by rw [← hq2, e]; rfl)
    have hqls : ∀ z ∈ ql, z.1.length ≤ 1000 := fun z hz => hshort z.1 (by rw [← hq2]; exact List.mem_map_of_mem (f := (·.1)) hz)
    have hqll : ql.length ≤ 80 := by rw [← hq2, List.length_map] at hllen; exact hllen
    have C4 := (sz_all (V := V) (lk [n3, r1, n3 + 1, n3 + 2, a 2]) (dEs V.w.params (lwF a t d.v0 d.v1 (some (lk [.int (Int.ofNat w) tw, .ref (r1 + 305), x 2])))) ql hqls hqln hqll (lk [0, 0, 0, e 0]) (n3 + 3) i3 g3).re A Q
    intro sq
    refine @run_callG (cxR (reV V A Q) 550 _) OO _ 17 (unp 7 0x4a04a283) [2, 11, 1, 0, 2] 14 250 _ _ (T' ++ F) _ _ _ _ C4 B (by kernel_rfl) (hid ?_)
    intro Kq hKq
    rintro r0 L0 n4 i4 g4 ⟨rfl, hx⟩
    refine ex3 hx ?_
    clear hx
    rintro qs os es ⟨hqs, rfl⟩
    refine hKq _ _ _ _ _ ?_
    have hqs2 : qs.map (·.1) = sz := by rw [hqs, ← hszs, ← hq2]; simp
    rw [List.nil_append]
    have C5 := (typedN (V := V) (n3 + 1) (a 4) qs d.qc hc5 (by rw [hqs2]; exact hT1) D1 (by rw [hqs2]; exact hD1) ks hk1 hb1 (es 0) (e 2) n4 (i4 + 1) g4).re A Q
    intro sq
    refine @run_callG (cxR (reV V A Q) 550 _) OO _ 23 (unp 11 0xd34030c30d340) [10, 2] 13 400 _ _ (T' ++ F) _ _ _ _ C5 B (by kernel_rfl) (hid ?_)
    intro Kq hKq
    rintro r0 L0 n5 i5 g5 hx
    refine ex8 hx ?_
    clear hx
    rintro e51 e52 w5 t5 nn5 nt5 q5 e5 ⟨rfl, hq5, rfl⟩
    refine hKq _ _ _ _ _ ?_
    have C6 := (picksN (V := V) (n3 + 1) qs sz hqs2 hfour hszn hsz5 hkeys e51 n5 i5 g5).re A Q
    intro sq
    refine @run_callG (cxR (reV V A Q) 550 _) OO _ 7 (unp 4 0x2c0) [15] 17 400 _ _ (T' ++ F) _ _ _ _ C6 B (by kernel_rfl) (hid ?_)
    intro Kq hKq
    rintro r0 L0 n6 i6 g6 hx
    refine ex4 hx ?_
    clear hx
    rintro r6 tc e61 e62 ⟨rfl, rfl⟩
    refine hKq _ _ _ _ _ ?_
    generalize hcc : cntE (fun _ => 0) (picksF sz) = cc at hag HH ⊢
    have C7 := (turnedN (V := V) (n3 + 1) qs sz tz hqs2 hszn (by omega) k hmx hmx5 hcols e62 (n6 + 4) i6 g6).re A Q
    intro sq
    refine @run_callG (cxR (reV V A Q) 550 _) OO _ 86 (unp 53 0xf0004500000004000004000004072081c7041042041041041081041041042041041041041041) [21] 22 350 _ _ (T' ++ F) _ _ _ _ C7 B (by kernel_rfl) (hid ?_)
    intro Kq hKq
    rintro r0 L0 n7 i7 g7 hx
    refine ex4 hx ?_
    clear hx
    rintro r7 qt e71 e72 ⟨rfl, hqt, rfl⟩
    refine hKq _ _ _ _ _ ?_
    have C8 := (typedN (V := V) r7 (a 4) qt d.qc hc5 (by rw [hqt]; exact hT2) D2 (by rw [hqt]; exact hD2) ks hk2 hb2 e71 e52 n7 i7 g7).re A Q
    intro sq
    refine @run_callG (cxR (reV V A Q) 550 _) OO _ 5 (unp 3 0xf) [21, 19] 23 400 _ _ (T' ++ F) _ _ _ _ C8 B (by kernel_rfl) (hid ?_)
    intro Kq hKq
    rintro r0 L0 n8 i8 g8 hx
    refine ex8 hx ?_
    clear hx
    rintro e81 e82 w8 t8 nn8 nt8 q8 e8 ⟨rfl, hq8, rfl⟩
    refine hKq _ _ _ _ _ ?_
    have C9 := ((equal (V := V) w5 w8 t5 t8 ⟨D1.toArray⟩ ⟨D2.toArray⟩ nn5 nn8 nt5 nt8 q5 q8 0 0 false false e5 e8 true (by rw [hq5, hq8]; simp) n8 i8 g8).g).re A Q
    intro sq
    refine @run_callG (cxR (reV V A Q) 550 _) OO _ 3 (unp 2 0x0) [15, 15, 15, 15, 17, 17, 17, 17] 27 300 _ _ (T' ++ F) _ _ _ _ C9 B (by kernel_rfl) (hid ?_)
    intro Kq hKq
    rintro r0 L0 n9 i9 g9 ⟨v, rfl, rfl, rfl⟩
    refine hKq _ _ _ _ _ ?_
    have C10 := (ac_all (V := V) (lk [n9 + 1, n9 + 2, n9 + 3, a 2, a 6, a 5, r6]) w5 (dEs V.w.params (lwF a t d.v0 d.v1 (some (lk [.int (Int.ofNat w) tw, .ref (r1 + 305), .ref (n3 + 1 + 305)])))) (lk [0, 0, es 2]) cc tc e61 t5 ⟨D1.toArray⟩ nn5 nt5 q5 false e5 (n9 + 4) (i9 + 3) g9 (by rw [hq5]; exact hag)).re A Q
    intro sq
    refine @run_callG (cxR (reV V A Q) 550 _) OO _ 41 (unp 15 0x41041041041041041000) [2, 1, 0, 15, 8, 7, 13, 16, 16, 16, 16] 31 350 _ _ (T' ++ F) _ _ _ _ C10 B (by kernel_rfl) (hid ?_)
    intro Kq hKq
    rintro r0 L0 n10 i10 g10 ⟨rfl, oa, ea, rfl⟩
    refine hKq _ _ _ _ _ ?_
    have C11 := strs_ne (V := reV V A Q) (n9 + 2) n10 [] [] (ea 0) 0 (n10 + 1) i10 g10
    intro sq
    refine @run_codeE (cxR (reV V A Q) 550 _) OO _ 12 (unp 8 0x1581596596) [21, 0] 31 20 _ _ (T' ++ F) _ _ _ _ C11 (by kernel_rfl) (hid ?_)
    intro Kq hKq
    rintro r0 L0 n11 i11 g11 ⟨rfl, rfl, rfl, rfl, rfl⟩
    refine hKq _ _ _ _ _ ?_
    have O12 : (cxR (reV V A Q) 550 [app_r (a 7 + 305) y1 (e 3) (.ref (w5 0 + 305)) (n10 + 1) i11 g11, app_r (a 8 + 305) y2 (e 4) (.ref (r6 + 305)) (n10 + 1) i11 g11]).Ok := B.okR (by decide) ⟨app_ok (Nat.le_trans hy1 (by decide)), app_ok (Nat.le_trans hy2 (by decide)), trivial⟩
    have Z := HH t tx (lk [.int (Int.ofNat w) tw, .ref (r1 + 305), .ref (n3 + 1 + 305), .ref (w5 0 + 305), .ref (r6 + 305)]) (lk [ea 2, ew, e82, e 3 + 1, e 4 + 1]) r6 tc e61 w5 t5 nn5 nt5 q5 e5 a' t2 m (n10 + 1) i11 g11 hq5
    rw [hT'] at Z
    have PP : (lwL V.w.params a d t tx (some (lk [.int (Int.ofNat w) tw, .ref (r1 + 305), .ref (n3 + 1 + 305), .ref (w5 0 + 305), .ref (r6 + 305)])) (j + 1) (y1.push (.ref (w5 0 + 305))) (y2.push (.ref (r6 + 305))) (lk [ea 2, ew, e82, e 3 + 1, e 4 + 1]) ++ (T' ++ (lwK V.w.params r6 cc tc e61 w5 t5 D1 nn5 nt5 q5 e5 ++ F))).Perm (lwL V.w.params a d t tx (some (lk [.int (Int.ofNat w) tw, .ref (r1 + 305), .ref (n3 + 1 + 305), .ref (w5 0 + 305), .ref (r6 + 305)])) (j + 1) (y1.push (.ref (w5 0 + 305))) (y2.push (.ref (r6 + 305))) (lk [ea 2, ew, e82, e 3 + 1, e 4 + 1]) ++ (lwK V.w.params r6 cc tc e61 w5 t5 D1 nn5 nt5 q5 e5 ++ (T' ++ F))) := by
      refine List.Perm.append_left _ ?_
      rw [← List.append_assoc, ← List.append_assoc]
      exact List.perm_append_comm.append_right F
    intro sq
    exact @run_to (cxR (reV V A Q) 550 _) O12 _ 30 (unp 21 0x2117ff5c92492561d07ff608208216) [7, 8, 21, 9, 15, 23, 22, 1, 0, 25, 26, 27, 28, 24] 31 [] 0 (lwC V.w.params a) .base (startF (lwC V.w.params a)) _ _ _ _ _ (by decide) (by kernel_rfl) (ms_perm PP Z)
end Mine
end
section
open PySem PySem.W PySem.W.X PySem.Builtin.Str
namespace Mine
noncomputable def lwP (p : Params) (a : Nat → Nat) (d : LW) (c1 c2 : Nat → Int) (D1 D2 : List Nat) (ks1 ks2 : List Nat) : PostG := fun rr L' _ _ _ => rr = .ok .next ∧
  ∃ (t : Nat → Tok) (x : Nat → Value) (e : Nat → Nat) (r : Nat) (tc : Nat → Tok) (er : Nat) (w : Nat → Nat) (tt : Nat → Tok) (nn nt : Int) (q : List (Nat × Tok)) (ew : Nat) (r' : Nat) (tc' : Nat → Tok) (er' : Nat) (w' : Nat → Nat) (tt' : Nat → Tok) (nn' nt' : Int) (q' : List (Nat × Tok)) (ew' : Nat) (z1 z2 : Nat),
    q.map (·.1) = ks1 ∧ q'.map (·.1) = ks2 ∧
    L' = [(a 2 + 305, oFrm (dEs p (lwF a t d.v0 d.v1 (some x))) (e 0)), (a 7 + 305, oSeq "list" #[.ref (w 0 + 305), .ref (w' 0 + 305)] (e 3)), (a 8 + 305, oSeq "list" #[.ref (r + 305), .ref (r' + 305)] (e 4))] ++
      (lwK p r c1 tc er w tt D1 nn nt q ew ++ (lwK p r' c2 tc' er' w' tt' D2 nn' nt' q' ew' ++ [(206, fsTab 137 19 z1 true), (213, fsTab 140 32 z2 true)]))
noncomputable def PageC (w : Nat) (A3 x0 x1 x2 x3 x4 : Nat) (ls : List Str) (T : Led) : Prop := ∀ (V : XV) (t : Nat → Tok) (e0 n i g : Nat) (tk : Tok), CallsE V 500 (.call (.ref 269) ⟨[.ref (A3 + 305), .int (Int.ofNat w) tk], []⟩) (pgW A3 x0 x1 x2 x3 x4 t e0 :: T) n i g (PageP (pgW A3 x0 x1 x2 x3 x4 t e0) ls)
theorem law_loop {V : XV} (a : Nat → Nat) (d : LW) (cs ls ls' sz sz' tz tz' ks ks' D D' E E' : _) (k k' : Nat) (H : TurnOk 3 d.x0 d.x1 d.x2 d.x3 d.x4 ls cs sz tz ks D E k) (H' : TurnOk 4 d.x0 d.x1 d.x2 d.x3 d.x4 ls' cs sz' tz' ks' D' E' k') (hcs : d.qc.map (·.1) = cs) (hc5 : d.qc.length = 5)
    (b0 : Nat → Nat) (t0 : Nat → Tok) (m0 : Nat → Int) (hP : PageC 3 (a 3) d.x0 d.x1 d.x2 d.x3 d.x4 ls (fsTail false false b0 t0 m0 0 0)) (hP' : ∀ b t m, PageC 4 (a 3) d.x0 d.x1 d.x2 d.x3 d.x4 ls' (fsTail true true b t m 0 0))
    (t tx : Nat → Tok) (e : Nat → Nat) (n i g : Nat) :
    CallsS V 550 (lwC V.w.params a) (lwL V.w.params a d t tx none 0 #[] #[] e ++ fsTail false false b0 t0 m0 0 0) n i g (lwP V.w.params a d (cntE (fun _ => 0) (picksF sz)) (cntE (fun _ => 0) (picksF sz')) D D' ks ks') := by
  intro A Q B F G Bk
  rw [List.append_assoc]
  refine law_turn a d 3 d.tw0 ls cs sz tz ks D E k H hcs hc5 _ hP 0 rfl t tx none #[] #[] (by decide) (by decide) e n i g A Q B F G ?_
  intro t1 tx1 x1 e1 r1 tc1 er1 w1 tt1 nn1 nt1 q1 ew1 b1 t2 m2 n1 i1 g1 hq1
  refine law_turn a d 4 d.tw1 ls' cs sz' tz' ks' D' E' k' H' hcs hc5 _ (hP' b1 t2 m2) 1 rfl t1 tx1 (some x1) (#[].push (.ref (w1 0 + 305))) (#[].push (.ref (r1 + 305))) (by simp) (by simp) e1 n1 i1 g1 A Q B _ G ?_
  intro t3 tx3 x3 e3 r3 tc3 er3 w3 tt3 nn3 nt3 q3 ew3 b3 t4 m4 n3 i3 g3 hq3
  have BK := Bk _ _ (n3 + 2) i3 g3 ⟨rfl, t3, x3, e3, r1, tc1, er1, w1, tt1, nn1, nt1, q1, ew1, r3, tc3, er3, w3, tt3, nn3, nt3, q3, ew3, b3 0, b3 1, hq1, hq3, rfl⟩
  have O : (cxR (reV V A Q) 550 [te_r (a 0 + 305) (a 1 + 305) 2 #[.int (Int.ofNat 3) d.tw0, .int (Int.ofNat 4) d.tw1] n3 i3 g3]).Ok := B.okR (by decide) ⟨te_ok rfl, trivial⟩
  exact @run_end (cxR (reV V A Q) 550 _) O _ 5 (unp 8 0x100041ffc1) [4, 9, 10, 20, 21, 22, 23, 24, 15, 16, 17, 18, 19, 11, 12] 25 [] 0 .base .next _ _ _ _ _ (by decide) (by kernel_rfl) BK
end Mine
end
section
open PySem PySem.W PySem.W.X PySem.Builtin.Str PyProof.Rows
namespace Mine
theorem beq_sym (x y : List Nat) : (y == x) = (x == y) := by
  rcases Decidable.em (x = y) with he | he
  · subst he; rfl
  · rw [beq_eq_false_iff_ne.mpr he, beq_eq_false_iff_ne.mpr (Ne.symm he)]
theorem strs5 {w : List (Str × Tok)} {A B C D E : Str} (h : w.map (·.1) = [A, B, C, D, E]) : ∃ τ : Nat → Tok, w = [(A, τ 0), (B, τ 1), (C, τ 2), (D, τ 3), (E, τ 4)] := by
  rcases w with _ | ⟨⟨a, a'⟩, _ | ⟨⟨b, b'⟩, _ | ⟨⟨c, c'⟩, _ | ⟨⟨d, d'⟩, _ | ⟨⟨e, e'⟩, _ | ⟨f, w⟩⟩⟩⟩⟩⟩
  · simp at h
  · simp at h
  · simp at h
  · simp at h
  · simp at h
  · simp only [List.map_cons, List.map_nil, List.cons.injEq, and_true] at h
    obtain ⟨rfl, rfl, rfl, rfl, rfl⟩ := h
    exact ⟨lk [a', b', c', d', e'], rfl⟩
  · simp at h
noncomputable def LawOk (c0 c1 c2 c3 c4 : Nat) : Prop := ∃ (ls ls' : List Str) (sz sz' tz tz' ks ks' D D' E E' : List Nat) (k k' : Nat) (b : Bool),
  TurnOk 3 (c0 % 3 + 1) (c1 % 3 + 1) (c2 % 3 + 1) (c3 % 3 + 1) (c4 % 3 + 1) ls [c0, c1, c2, c3, c4] sz tz ks D E k ∧ TurnOk 4 (c0 % 3 + 1) (c1 % 3 + 1) (c2 % 3 + 1) (c3 % 3 + 1) (c4 % 3 + 1) ls' [c0, c1, c2, c3, c4] sz' tz' ks' D' E' k' ∧
  (∀ a3 b0 t0 m0, PageC 3 a3 (c0 % 3 + 1) (c1 % 3 + 1) (c2 % 3 + 1) (c3 % 3 + 1) (c4 % 3 + 1) ls (fsTail false false b0 t0 m0 0 0)) ∧ (∀ a3 b0 t0 m0, PageC 4 a3 (c0 % 3 + 1) (c1 % 3 + 1) (c2 % 3 + 1) (c3 % 3 + 1) (c4 % 3 + 1) ls' (fsTail true true b0 t0 m0 0 0)) ∧
  ((D' ++ [32]).all fun c => Nat.blt c 128) = true ∧ (∃ r, D' ++ [32] = 32 :: r) ∧ wsOk (D' ++ [32]) ⟨0, fun _ => 0, 0⟩ = true ∧ (nfS (D' ++ [32])).b = 1 ∧ D' ≠ [] ∧ D'.length ≤ 500 ∧
  (((cntE (fun _ => 0) (picksF sz)) 0 == (cntE (fun _ => 0) (picksF sz')) 0) && ((cntE (fun _ => 0) (picksF sz)) 1 == (cntE (fun _ => 0) (picksF sz')) 1) && ((cntE (fun _ => 0) (picksF sz)) 2 == (cntE (fun _ => 0) (picksF sz')) 2) && ((cntE (fun _ => 0) (picksF sz)) 3 == (cntE (fun _ => 0) (picksF sz')) 3) && ((cntE (fun _ => 0) (picksF sz)) 4 == (cntE (fun _ => 0) (picksF sz')) 4) && ((cntE (fun _ => 0) (picksF sz)) 5 == (cntE (fun _ => 0) (picksF sz')) 5)) = b ∧ (ks == ks') = b
theorem LawOk.use {c0 c1 c2 c3 c4 : Nat} (h : LawOk c0 c1 c2 c3 c4) {G : Prop} (K : ∀ (ls ls' : List Str) (sz sz' tz tz' ks ks' D D' E E' : List Nat) (k k' : Nat) (b : Bool), (TurnOk 3 (c0 % 3 + 1) (c1 % 3 + 1) (c2 % 3 + 1) (c3 % 3 + 1) (c4 % 3 + 1) ls [c0, c1, c2, c3, c4] sz tz ks D E k) →
  (TurnOk 4 (c0 % 3 + 1) (c1 % 3 + 1) (c2 % 3 + 1) (c3 % 3 + 1) (c4 % 3 + 1) ls' [c0, c1, c2, c3, c4] sz' tz' ks' D' E' k') →
  ((∀ a3 b0 t0 m0, PageC 3 a3 (c0 % 3 + 1) (c1 % 3 + 1) (c2 % 3 + 1) (c3 % 3 + 1) (c4 % 3 + 1) ls (fsTail false false b0 t0 m0 0 0))) →
  ((∀ a3 b0 t0 m0, PageC 4 a3 (c0 % 3 + 1) (c1 % 3 + 1) (c2 % 3 + 1) (c3 % 3 + 1) (c4 % 3 + 1) ls' (fsTail true true b0 t0 m0 0 0))) →
  (((D' ++ [32]).all fun c => Nat.blt c 128) = true) →
  ((∃ r, D' ++ [32] = 32 :: r)) →
  (wsOk (D' ++ [32]) ⟨0, fun _ => 0, 0⟩ = true) →
  ((nfS (D' ++ [32])).b = 1) →
  (D' ≠ []) →
  (D'.length ≤ 500) →
  ((((cntE (fun _ => 0) (picksF sz)) 0 == (cntE (fun _ => 0) (picksF sz')) 0) && ((cntE (fun _ => 0) (picksF sz)) 1 == (cntE (fun _ => 0) (picksF sz')) 1) && ((cntE (fun _ => 0) (picksF sz)) 2 == (cntE (fun _ => 0) (picksF sz')) 2) && ((cntE (fun _ => 0) (picksF sz)) 3 == (cntE (fun _ => 0) (picksF sz')) 3) && ((cntE (fun _ => 0) (picksF sz)) 4 == (cntE (fun _ => 0) (picksF sz')) 4) && ((cntE (fun _ => 0) (picksF sz)) 5 == (cntE (fun _ => 0) (picksF sz')) 5)) = b) →
  ((ks == ks') = b) → G) : G := ex15 h fun ls ls' sz sz' tz tz' ks ks' D D' E E' k k' b z => K ls ls' sz sz' tz tz' ks ks' D D' E E' k k' b z.1 z.2.1 z.2.2.1 z.2.2.2.1 z.2.2.2.2.1 z.2.2.2.2.2.1 z.2.2.2.2.2.2.1 z.2.2.2.2.2.2.2.1 z.2.2.2.2.2.2.2.2.1 z.2.2.2.2.2.2.2.2.2.1 z.2.2.2.2.2.2.2.2.2.2.1 z.2.2.2.2.2.2.2.2.2.2.2
theorem law_fn {V : XV} (h : ∀ c0 c1 c2 c3 c4, LawOk c0 c1 c2 c3 c4) (q : List (Int × Tok)) (hq : q.length ≤ 100000) (es : Nat) (b0 : Nat → Nat) (t0 : Nat → Tok) (m0 : Nat → Int) (n i g : Nat) :
    CallsE V 600 (.call (.ref 303) ⟨[.ref 304], []⟩) ((304, oSeq "list" (vals q).toArray es) :: fsTail false false b0 t0 m0 0 0) n i g (fun v L' _ _ _ => v = .bool true ∧ ∃ z1 z2, L' = [(304, oSeq "list" (vals q).toArray es), (206, fsTab 137 19 z1 true), (213, fsTab 140 32 z2 true)]) := by
  intro A Q B F G Bk
  have OO : (cxR (reV V A Q) 600 []).Ok := B.okR (by decide) trivial
  have O0 : (cxR (reV V A Q) 600 [lsl_r 304 (n + 3 + 305) (vals q).toArray es 5 (i + 1) (n + 4) (i + 2) g]).Ok := B.okR (by decide) ⟨lsl_ok (by simpa [vals] using hq), trivial⟩
  have e5 : slicePick (vals q).toArray none (some 5) none = (vals (q.take 5)).toArray := by
    have z := slicePick_upto' (vals q).toArray 5
    have z2 : ((vals q).toArray.toList.take 5).toArray = (vals (q.take 5)).toArray := by simp [vals, List.map_take]
    rw [z2] at z
    exact z
  have hl5 : (q.take 5).length ≤ 5 := by simp; omega
  generalize hq5 : q.take 5 = q5 at e5 hl5
  have C1 := (dr_all (V := V) (lk [n + 5, n + 4, n + 6, n + 7, n]) (dEs V.w.params [(sScript, i, .ref 304)]) q5 (by omega) (lk [0, 0, 0, 1]) (n + 8) (i + 2) g).re A Q
  rw [← e5] at C1
  refine @run_callG (cxR (reV V A Q) 600 _) O0 _ 36 (unp 21 0x410410401107ff1451430030c0000) [2, 2, 1, 0, 4] 9 250 _ _ (fsTail false false b0 t0 m0 0 0 ++ F) _ _ _ _ C1 B (by kernel_rfl) (hid ?_)
  intro Kq hKq
  rintro r0 L0 n1 i1 g1 ⟨rfl, hx⟩
  refine ex3 hx ?_
  clear hx
  rintro w o e1 ⟨hw, ho, rfl⟩
  refine hKq _ _ _ _ _ ?_
  have hwl : w.length ≤ 5 := by
    have z := congrArg List.length hw
    simp only [List.length_map] at z
    omega
  have hoe : o.isSome = !w.isEmpty := by
    rw [ho]
    have z := congrArg List.length hw
    simp only [List.length_map] at z
    cases w <;> cases q5 <;> simp_all
  rw [List.nil_append]
  rcases w with _ | ⟨w1, _ | ⟨w2, _ | ⟨w3, _ | ⟨w4, _ | ⟨w5, _ | ⟨w6, w⟩⟩⟩⟩⟩⟩
  · obtain rfl : o = none := by cases o <;> simp_all
    have OB : (cxR (reV V A Q) 600 [len_r (n + 6 + 305) (valsN []).toArray (e1 0) (n1 + 1) (i1 + 6) g1]).Ok := B.okR (by decide) ⟨len_ok (by simp [valsN]), trivial⟩
    refine (h 6 0 5 9 3).use ?_
    intro ls ls' sz sz' tz tz' ks ks' D D' E E' k k' b H1 H2 HP1 HP2 hsa hsh hso hsb hDn hDl hcb hkb
    have C2 := (wd_all (V := V) (lk [n1 + 4, n1 + 3, n1 + 5, n1 + 6, n]) (dEs V.w.params [(sScript, i, .ref 304), (sDrawn, i1, .ref (n + 6 + 305)), (sCells, i1 + 8, .ref (n1 + 3 + 305))]) [(6, i1 + 1), (0, i1 + 2), (5, i1 + 3), (9, i1 + 4), (3, i1 + 5)] (by simp) (by simp) (lk [0, 0, 0, e1 2 + 2]) (n1 + 7) (i1 + 9) g1).re A Q
    intro sq
    refine @run_callG (cxR (reV V A Q) 600 _) OB _ 83 (unp 39 0x4104104b2cb0010c10c30430c10410410c30c31507ff2000071871c0) [2, 2, 1, 0, 9] 14 250 _ _ (fsTail false false b0 t0 m0 0 0 ++ F) _ _ _ _ C2 B (by kernel_rfl) (hid ?_)
    intro Kq hKq
    rintro r0 L0 n2 i2 g2 ⟨rfl, hx⟩
    refine ex3 hx ?_
    clear hx
    rintro ww oo e2 ⟨hww, rfl⟩
    refine hKq _ _ _ _ _ ?_
    obtain ⟨τ, rfl⟩ := strs5 (A := wS (6 % 3 + 1)) (B := wS (0 % 3 + 1)) (C := wS (5 % 3 + 1)) (D := wS (9 % 3 + 1)) (E := wS (3 % 3 + 1)) hww
    have C3 := ((law_loop (V := V) (lk [n2 + 7, n2 + 6, n, n1 + 5, n1 + 3, n + 1, n + 2, n2, n2 + 1]) ⟨6 % 3 + 1, 0 % 3 + 1, 5 % 3 + 1, 9 % 3 + 1, 3 % 3 + 1, [(6, i1 + 1), (0, i1 + 2), (5, i1 + 3), (9, i1 + 4), (3, i1 + 5)], .ref 304, .ref (n + 6 + 305), i2 + 3, i2 + 4⟩ [6, 0, 5, 9, 3] ls ls' sz sz' tz tz' ks ks' D D' E E' k k' H1 H2 rfl rfl b0 t0 m0 (HP1 _ b0 t0 m0) (fun b t m => HP2 _ b t m) (lk [i, i1, i1 + 8, i2, i2 + 1, i2 + 2]) τ (lk [e2 2 + 3, e2 0, e2 3, 0, 0]) (n2 + 8) (i2 + 5) g2).g (by kernel_rfl) (by decide)).re A Q
    intro sq
    refine @run_callG (cxR (reV V A Q) 600 _) OO _ 93 (unp 46 0x10410414d30134c004104204104104108104104104204104104104104130c30d340) [0, 0, 18, 16, 15, 13, 12, 5, 4] 21 550 _ _ F _ _ _ _ C3 B (by kernel_rfl) (hid ?_)
    intro Kq hKq
    rintro r0 L0 n3 i3 g3 ⟨rfl, hx⟩
    refine ex23 hx ?_
    clear hx
    rintro t3 x3 e3 r tc er wl tt nn nt qa ew r' tc' er' wl' tt' nn' nt' qb ew' z1 z2 ⟨hqa, hqb, rfl⟩
    refine hKq _ _ _ _ _ ?_
    generalize cntE (fun _ => 0) (picksF sz) = cc at hcb ⊢
    generalize cntE (fun _ => 0) (picksF sz') = cc' at hcb ⊢
    have O4 : (cxR (reV V A Q) 600 [addL_r D' [32] (tt' 1) (i3 + 3) n3 (i3 + 4) g3]).Ok := B.okR (by decide) ⟨addL_ok hDn (by simp) (by simp; omega), trivial⟩
    have C4 := ((ws_new_obj (V := V) (D' ++ [32]) (i3 + 4) hsa hsh hso n3 (i3 + 5) g3).g).re A Q
    intro sq
    refine @run_callG (cxR (reV V A Q) 600 _) O4 _ 70 (unp 49 0x41ffcf7ff58055500001500001538e38e38d01140000001000001000001038e38e38d) [] 25 300 _ _ ([(206, fsTab 137 19 z1 true), (213, fsTab 140 32 z2 true)] ++ F) _ _ _ _ C4 B (by kernel_rfl) (hid ?_)
    intro Kq hKq
    rintro r0 L0 n4 i4 g4 ⟨v, rfl, hx⟩
    refine ex6 hx ?_
    clear hx
    rintro w6 t6 nn6 nt6 tc6 e6 ⟨rfl, rfl⟩
    refine hKq _ _ _ _ _ ?_
    have hsb2 : (wsRun (D' ++ [32]) ⟨0, fun _ => 0, 0⟩).b = 1 := hsb
    generalize wsRun (D' ++ [32]) ⟨0, fun _ => 0, 0⟩ = sN at hsb2 ⊢
    have C5 := ((equal (V := V) wl w6 tt t6 ⟨D.toArray⟩ ⟨(D' ++ [32]).toArray⟩ nn nn6 nt nt6 qa (qL sN.c tc6 sN.L) 0 (Int.ofNat sN.b) false false ew e6 false (by rw [hsb2]; simp) n4 i4 g4).g).re A Q
    intro sq
    refine @run_callG (cxR (reV V A Q) 600 _) OO _ 3 (unp 2 0x0) [15, 15, 15, 15, 21, 21, 21, 21] 29 300 _ _ ([(206, fsTab 137 19 z1 true), (213, fsTab 140 32 z2 true)] ++ F) _ _ _ _ C5 B (by kernel_rfl) (hid ?_)
    intro Kq hKq
    rintro r0 L0 n5 i5 g5 ⟨v, rfl, rfl, rfl⟩
    refine hKq _ _ _ _ _ ?_
    have C6 := cnts_eq (V := reV V A Q) r r' cc cc' tc tc' er er' n5 (i5 + 2) g5 b hcb
    intro sq
    refine @run_codeE (cxR (reV V A Q) 600 _) OO _ 32 (unp 17 0x505503cf3cf3cd3cf3cf3cd) [15, 19] 29 20 _ _ ([(206, fsTab 137 19 z1 true), (213, fsTab 140 32 z2 true)] ++ F) _ _ _ _ C6 (by kernel_rfl) (hid ?_)
    intro Kq hKq
    rintro r0 L0 n6 i6 g6 ⟨rfl, rfl, rfl, rfl, rfl⟩
    refine hKq _ _ _ _ _ ?_
    have hkb2 : (ks' == ks) = b := by rw [← hkb]; exact beq_sym ks ks'
    have C7 := ((equal (V := V) wl wl' tt tt' ⟨D.toArray⟩ ⟨D'.toArray⟩ nn nn' nt nt' qa qb 0 0 false false ew ew' b (by rw [hqa, hqb, hkb]; simp) n6 (i5 + 2 + 3) g6).g).re A Q
    have C8 := fun n i g => ((equal (V := V) wl' wl tt' tt ⟨D'.toArray⟩ ⟨D.toArray⟩ nn' nn nt' nt qb qa 0 0 false false ew' ew b (by rw [hqa, hqb, hkb2]; simp) n i g).g).re A Q
    cases b with
    | true =>
      intro sq
      refine @run_callG (cxR (reV V A Q) 600 _) OO _ 52 (unp 32 0x38e38e38d55400000050000050000050e38e38e34d340) [19, 19, 19, 19, 15, 15, 15, 15] 29 300 _ _ ([(206, fsTab 137 19 z1 true), (213, fsTab 140 32 z2 true)] ++ F) _ _ _ _ C7 B (by kernel_rfl) (hid ?_)
      intro Kq hKq
      rintro r0 L0 n7 i7 g7 ⟨v, rfl, rfl, rfl⟩
      refine hKq _ _ _ _ _ ?_
      intro sq
      refine @run_callG (cxR (reV V A Q) 600 _) OO _ 48 (unp 30 0x38e38e38d6da00000068000068000068e38e38e34d) [25, 25, 25, 25, 21, 21, 21, 21] 29 300 _ _ ([(206, fsTab 137 19 z1 true), (213, fsTab 140 32 z2 true)] ++ F) _ _ _ _ (C8 n7 (i7 + 2) g7) B (by kernel_rfl) (hid ?_)
      intro Kq hKq
      rintro r0 L0 n8 i8 g8 ⟨v, rfl, rfl, rfl⟩
      refine hKq _ _ _ _ _ ?_
      intro sq
      exact @run_end (cxR (reV V A Q) 600 _) OO _ 4 (unp 2 0xd) [8] 29 [] 0 .base (.ret (.bool true)) _ _ _ _ _ (by decide) (by kernel_rfl) (Bk _ _ n8 i8 g8 ⟨rfl, z1, z2, rfl⟩)
    | false =>
      intro sq
      refine @run_callG (cxR (reV V A Q) 600 _) OO _ 52 (unp 32 0x38e38e38d55400000050000050000050e38e38e34d340) [19, 19, 19, 19, 15, 15, 15, 15] 29 300 _ _ ([(206, fsTab 137 19 z1 true), (213, fsTab 140 32 z2 true)] ++ F) _ _ _ _ C7 B (by kernel_rfl) (hid ?_)
      intro Kq hKq
      rintro r0 L0 n7 i7 g7 ⟨v, rfl, rfl, rfl⟩
      refine hKq _ _ _ _ _ ?_
      intro sq
      refine @run_callG (cxR (reV V A Q) 600 _) OO _ 48 (unp 30 0x38e38e38d6da00000068000068000068e38e38e34d) [25, 25, 25, 25, 21, 21, 21, 21] 29 300 _ _ ([(206, fsTab 137 19 z1 true), (213, fsTab 140 32 z2 true)] ++ F) _ _ _ _ (C8 n7 (i7 + 2) g7) B (by kernel_rfl) (hid ?_)
      intro Kq hKq
      rintro r0 L0 n8 i8 g8 ⟨v, rfl, rfl, rfl⟩
      refine hKq _ _ _ _ _ ?_
      intro sq
      exact @run_end (cxR (reV V A Q) 600 _) OO _ 4 (unp 2 0xd) [8] 29 [] 0 .base (.ret (.bool true)) _ _ _ _ _ (by decide) (by kernel_rfl) (Bk _ _ n8 i8 g8 ⟨rfl, z1, z2, rfl⟩)
  · obtain ⟨o, rfl⟩ : ∃ o', o = some o' := by cases o <;> simp_all
    have OB : (cxR (reV V A Q) 600 [len_r (n + 6 + 305) (valsN [w1]).toArray (e1 0) (n1 + 1) (i1 + 6) g1]).Ok := B.okR (by decide) ⟨len_ok (by simp [valsN]), trivial⟩
    refine (h w1.1 0 5 9 3).use ?_
    intro ls ls' sz sz' tz tz' ks ks' D D' E E' k k' b H1 H2 HP1 HP2 hsa hsh hso hsb hDn hDl hcb hkb
    have C2 := (wd_all (V := V) (lk [n1 + 4, n1 + 3, n1 + 5, n1 + 6, n]) (dEs V.w.params [(sScript, i, .ref 304), (sDrawn, i1, .ref (n + 6 + 305)), (sCells, i1 + 8, .ref (n1 + 3 + 305))]) [w1, (0, i1 + 2), (5, i1 + 3), (9, i1 + 4), (3, i1 + 5)] (by simp) (by simp) (lk [0, 0, 0, e1 2 + 2]) (n1 + 7) (i1 + 9) g1).re A Q
    intro sq
    refine @run_callG (cxR (reV V A Q) 600 _) OB _ 87 (unp 41 0x4104104b2cb0010c10c30430c10410410c30c31507ff2000071861871c0) [2, 2, 1, 0, 9] 14 250 _ _ (fsTail false false b0 t0 m0 0 0 ++ F) _ _ _ _ C2 B (by kernel_rfl) (hid ?_)
    intro Kq hKq
    rintro r0 L0 n2 i2 g2 ⟨rfl, hx⟩
    refine ex3 hx ?_
    clear hx
    rintro ww oo e2 ⟨hww, rfl⟩
    refine hKq _ _ _ _ _ ?_
    obtain ⟨τ, rfl⟩ := strs5 (A := wS (w1.1 % 3 + 1)) (B := wS (0 % 3 + 1)) (C := wS (5 % 3 + 1)) (D := wS (9 % 3 + 1)) (E := wS (3 % 3 + 1)) hww
    have C3 := ((law_loop (V := V) (lk [n2 + 7, n2 + 6, n, n1 + 5, n1 + 3, n + 1, n + 2, n2, n2 + 1]) ⟨w1.1 % 3 + 1, 0 % 3 + 1, 5 % 3 + 1, 9 % 3 + 1, 3 % 3 + 1, [w1, (0, i1 + 2), (5, i1 + 3), (9, i1 + 4), (3, i1 + 5)], .ref 304, .ref (n + 6 + 305), i2 + 3, i2 + 4⟩ [w1.1, 0, 5, 9, 3] ls ls' sz sz' tz tz' ks ks' D D' E E' k k' H1 H2 rfl rfl b0 t0 m0 (HP1 _ b0 t0 m0) (fun b t m => HP2 _ b t m) (lk [i, i1, i1 + 8, i2, i2 + 1, i2 + 2]) τ (lk [e2 2 + 3, e2 0, e2 3, 0, 0]) (n2 + 8) (i2 + 5) g2).g (by kernel_rfl) (by decide)).re A Q
    intro sq
    refine @run_callG (cxR (reV V A Q) 600 _) OO _ 93 (unp 46 0x10410414d30134c004104204104104108104104104204104104104104130c30d340) [0, 0, 18, 16, 15, 13, 12, 5, 4] 21 550 _ _ F _ _ _ _ C3 B (by kernel_rfl) (hid ?_)
    intro Kq hKq
    rintro r0 L0 n3 i3 g3 ⟨rfl, hx⟩
    refine ex23 hx ?_
    clear hx
    rintro t3 x3 e3 r tc er wl tt nn nt qa ew r' tc' er' wl' tt' nn' nt' qb ew' z1 z2 ⟨hqa, hqb, rfl⟩
    refine hKq _ _ _ _ _ ?_
    generalize cntE (fun _ => 0) (picksF sz) = cc at hcb ⊢
    generalize cntE (fun _ => 0) (picksF sz') = cc' at hcb ⊢
    have O4 : (cxR (reV V A Q) 600 [addL_r D' [32] (tt' 1) (i3 + 3) n3 (i3 + 4) g3]).Ok := B.okR (by decide) ⟨addL_ok hDn (by simp) (by simp; omega), trivial⟩
    have C4 := ((ws_new_obj (V := V) (D' ++ [32]) (i3 + 4) hsa hsh hso n3 (i3 + 5) g3).g).re A Q
    intro sq
    refine @run_callG (cxR (reV V A Q) 600 _) O4 _ 70 (unp 49 0x41ffcf7ff58055500001500001538e38e38d01140000001000001000001038e38e38d) [] 25 300 _ _ ([(206, fsTab 137 19 z1 true), (213, fsTab 140 32 z2 true)] ++ F) _ _ _ _ C4 B (by kernel_rfl) (hid ?_)
    intro Kq hKq
    rintro r0 L0 n4 i4 g4 ⟨v, rfl, hx⟩
    refine ex6 hx ?_
    clear hx
    rintro w6 t6 nn6 nt6 tc6 e6 ⟨rfl, rfl⟩
    refine hKq _ _ _ _ _ ?_
    have hsb2 : (wsRun (D' ++ [32]) ⟨0, fun _ => 0, 0⟩).b = 1 := hsb
    generalize wsRun (D' ++ [32]) ⟨0, fun _ => 0, 0⟩ = sN at hsb2 ⊢
    have C5 := ((equal (V := V) wl w6 tt t6 ⟨D.toArray⟩ ⟨(D' ++ [32]).toArray⟩ nn nn6 nt nt6 qa (qL sN.c tc6 sN.L) 0 (Int.ofNat sN.b) false false ew e6 false (by rw [hsb2]; simp) n4 i4 g4).g).re A Q
    intro sq
    refine @run_callG (cxR (reV V A Q) 600 _) OO _ 3 (unp 2 0x0) [15, 15, 15, 15, 21, 21, 21, 21] 29 300 _ _ ([(206, fsTab 137 19 z1 true), (213, fsTab 140 32 z2 true)] ++ F) _ _ _ _ C5 B (by kernel_rfl) (hid ?_)
    intro Kq hKq
    rintro r0 L0 n5 i5 g5 ⟨v, rfl, rfl, rfl⟩
    refine hKq _ _ _ _ _ ?_
    have C6 := cnts_eq (V := reV V A Q) r r' cc cc' tc tc' er er' n5 (i5 + 2) g5 b hcb
    intro sq
    refine @run_codeE (cxR (reV V A Q) 600 _) OO _ 32 (unp 17 0x505503cf3cf3cd3cf3cf3cd) [15, 19] 29 20 _ _ ([(206, fsTab 137 19 z1 true), (213, fsTab 140 32 z2 true)] ++ F) _ _ _ _ C6 (by kernel_rfl) (hid ?_)
    intro Kq hKq
    rintro r0 L0 n6 i6 g6 ⟨rfl, rfl, rfl, rfl, rfl⟩
    refine hKq _ _ _ _ _ ?_
    have hkb2 : (ks' == ks) = b := by rw [← hkb]; exact beq_sym ks ks'
    have C7 := ((equal (V := V) wl wl' tt tt' ⟨D.toArray⟩ ⟨D'.toArray⟩ nn nn' nt nt' qa qb 0 0 false false ew ew' b (by rw [hqa, hqb, hkb]; simp) n6 (i5 + 2 + 3) g6).g).re A Q
    have C8 := fun n i g => ((equal (V := V) wl' wl tt' tt ⟨D'.toArray⟩ ⟨D.toArray⟩ nn' nn nt' nt qb qa 0 0 false false ew' ew b (by rw [hqa, hqb, hkb2]; simp) n i g).g).re A Q
    cases b with
    | true =>
      intro sq
      refine @run_callG (cxR (reV V A Q) 600 _) OO _ 52 (unp 32 0x38e38e38d55400000050000050000050e38e38e34d340) [19, 19, 19, 19, 15, 15, 15, 15] 29 300 _ _ ([(206, fsTab 137 19 z1 true), (213, fsTab 140 32 z2 true)] ++ F) _ _ _ _ C7 B (by kernel_rfl) (hid ?_)
      intro Kq hKq
      rintro r0 L0 n7 i7 g7 ⟨v, rfl, rfl, rfl⟩
      refine hKq _ _ _ _ _ ?_
      intro sq
      refine @run_callG (cxR (reV V A Q) 600 _) OO _ 48 (unp 30 0x38e38e38d6da00000068000068000068e38e38e34d) [25, 25, 25, 25, 21, 21, 21, 21] 29 300 _ _ ([(206, fsTab 137 19 z1 true), (213, fsTab 140 32 z2 true)] ++ F) _ _ _ _ (C8 n7 (i7 + 2) g7) B (by kernel_rfl) (hid ?_)
      intro Kq hKq
      rintro r0 L0 n8 i8 g8 ⟨v, rfl, rfl, rfl⟩
      refine hKq _ _ _ _ _ ?_
      intro sq
      exact @run_end (cxR (reV V A Q) 600 _) OO _ 4 (unp 2 0xd) [8] 29 [] 0 .base (.ret (.bool true)) _ _ _ _ _ (by decide) (by kernel_rfl) (Bk _ _ n8 i8 g8 ⟨rfl, z1, z2, rfl⟩)
    | false =>
      intro sq
      refine @run_callG (cxR (reV V A Q) 600 _) OO _ 52 (unp 32 0x38e38e38d55400000050000050000050e38e38e34d340) [19, 19, 19, 19, 15, 15, 15, 15] 29 300 _ _ ([(206, fsTab 137 19 z1 true), (213, fsTab 140 32 z2 true)] ++ F) _ _ _ _ C7 B (by kernel_rfl) (hid ?_)
      intro Kq hKq
      rintro r0 L0 n7 i7 g7 ⟨v, rfl, rfl, rfl⟩
      refine hKq _ _ _ _ _ ?_
      intro sq
      refine @run_callG (cxR (reV V A Q) 600 _) OO _ 48 (unp 30 0x38e38e38d6da00000068000068000068e38e38e34d) [25, 25, 25, 25, 21, 21, 21, 21] 29 300 _ _ ([(206, fsTab 137 19 z1 true), (213, fsTab 140 32 z2 true)] ++ F) _ _ _ _ (C8 n7 (i7 + 2) g7) B (by kernel_rfl) (hid ?_)
      intro Kq hKq
      rintro r0 L0 n8 i8 g8 ⟨v, rfl, rfl, rfl⟩
      refine hKq _ _ _ _ _ ?_
      intro sq
      exact @run_end (cxR (reV V A Q) 600 _) OO _ 4 (unp 2 0xd) [8] 29 [] 0 .base (.ret (.bool true)) _ _ _ _ _ (by decide) (by kernel_rfl) (Bk _ _ n8 i8 g8 ⟨rfl, z1, z2, rfl⟩)
  · obtain ⟨o, rfl⟩ : ∃ o', o = some o' := by cases o <;> simp_all
    have OB : (cxR (reV V A Q) 600 [len_r (n + 6 + 305) (valsN [w1, w2]).toArray (e1 0) (n1 + 1) (i1 + 6) g1]).Ok := B.okR (by decide) ⟨len_ok (by simp [valsN]), trivial⟩
    refine (h w1.1 w2.1 5 9 3).use ?_
    intro ls ls' sz sz' tz tz' ks ks' D D' E E' k k' b H1 H2 HP1 HP2 hsa hsh hso hsb hDn hDl hcb hkb
    have C2 := (wd_all (V := V) (lk [n1 + 4, n1 + 3, n1 + 5, n1 + 6, n]) (dEs V.w.params [(sScript, i, .ref 304), (sDrawn, i1, .ref (n + 6 + 305)), (sCells, i1 + 8, .ref (n1 + 3 + 305))]) [w1, w2, (5, i1 + 3), (9, i1 + 4), (3, i1 + 5)] (by simp) (by simp) (lk [0, 0, 0, e1 2 + 2]) (n1 + 7) (i1 + 9) g1).re A Q
    intro sq
    refine @run_callG (cxR (reV V A Q) 600 _) OB _ 87 (unp 41 0x4104104b2cb0010c10c30430c10410410c30c31507ff2000071861871c0) [2, 2, 1, 0, 9] 14 250 _ _ (fsTail false false b0 t0 m0 0 0 ++ F) _ _ _ _ C2 B (by kernel_rfl) (hid ?_)
    intro Kq hKq
    rintro r0 L0 n2 i2 g2 ⟨rfl, hx⟩
    refine ex3 hx ?_
    clear hx
    rintro ww oo e2 ⟨hww, rfl⟩
    refine hKq _ _ _ _ _ ?_
    obtain ⟨τ, rfl⟩ := strs5 (A := wS (w1.1 % 3 + 1)) (B := wS (w2.1 % 3 + 1)) (C := wS (5 % 3 + 1)) (D := wS (9 % 3 + 1)) (E := wS (3 % 3 + 1)) hww
    have C3 := ((law_loop (V := V) (lk [n2 + 7, n2 + 6, n, n1 + 5, n1 + 3, n + 1, n + 2, n2, n2 + 1]) ⟨w1.1 % 3 + 1, w2.1 % 3 + 1, 5 % 3 + 1, 9 % 3 + 1, 3 % 3 + 1, [w1, w2, (5, i1 + 3), (9, i1 + 4), (3, i1 + 5)], .ref 304, .ref (n + 6 + 305), i2 + 3, i2 + 4⟩ [w1.1, w2.1, 5, 9, 3] ls ls' sz sz' tz tz' ks ks' D D' E E' k k' H1 H2 rfl rfl b0 t0 m0 (HP1 _ b0 t0 m0) (fun b t m => HP2 _ b t m) (lk [i, i1, i1 + 8, i2, i2 + 1, i2 + 2]) τ (lk [e2 2 + 3, e2 0, e2 3, 0, 0]) (n2 + 8) (i2 + 5) g2).g (by kernel_rfl) (by decide)).re A Q
    intro sq
    refine @run_callG (cxR (reV V A Q) 600 _) OO _ 93 (unp 46 0x10410414d30134c004104204104104108104104104204104104104104130c30d340) [0, 0, 18, 16, 15, 13, 12, 5, 4] 21 550 _ _ F _ _ _ _ C3 B (by kernel_rfl) (hid ?_)
    intro Kq hKq
    rintro r0 L0 n3 i3 g3 ⟨rfl, hx⟩
    refine ex23 hx ?_
    clear hx
    rintro t3 x3 e3 r tc er wl tt nn nt qa ew r' tc' er' wl' tt' nn' nt' qb ew' z1 z2 ⟨hqa, hqb, rfl⟩
    refine hKq _ _ _ _ _ ?_
    generalize cntE (fun _ => 0) (picksF sz) = cc at hcb ⊢
    generalize cntE (fun _ => 0) (picksF sz') = cc' at hcb ⊢
    have O4 : (cxR (reV V A Q) 600 [addL_r D' [32] (tt' 1) (i3 + 3) n3 (i3 + 4) g3]).Ok := B.okR (by decide) ⟨addL_ok hDn (by simp) (by simp; omega), trivial⟩
    have C4 := ((ws_new_obj (V := V) (D' ++ [32]) (i3 + 4) hsa hsh hso n3 (i3 + 5) g3).g).re A Q
    intro sq
    refine @run_callG (cxR (reV V A Q) 600 _) O4 _ 70 (unp 49 0x41ffcf7ff58055500001500001538e38e38d01140000001000001000001038e38e38d) [] 25 300 _ _ ([(206, fsTab 137 19 z1 true), (213, fsTab 140 32 z2 true)] ++ F) _ _ _ _ C4 B (by kernel_rfl) (hid ?_)
    intro Kq hKq
    rintro r0 L0 n4 i4 g4 ⟨v, rfl, hx⟩
    refine ex6 hx ?_
    clear hx
    rintro w6 t6 nn6 nt6 tc6 e6 ⟨rfl, rfl⟩
    refine hKq _ _ _ _ _ ?_
    have hsb2 : (wsRun (D' ++ [32]) ⟨0, fun _ => 0, 0⟩).b = 1 := hsb
    generalize wsRun (D' ++ [32]) ⟨0, fun _ => 0, 0⟩ = sN at hsb2 ⊢
    have C5 := ((equal (V := V) wl w6 tt t6 ⟨D.toArray⟩ ⟨(D' ++ [32]).toArray⟩ nn nn6 nt nt6 qa (qL sN.c tc6 sN.L) 0 (Int.ofNat sN.b) false false ew e6 false (by rw [hsb2]; simp) n4 i4 g4).g).re A Q
    intro sq
    refine @run_callG (cxR (reV V A Q) 600 _) OO _ 3 (unp 2 0x0) [15, 15, 15, 15, 21, 21, 21, 21] 29 300 _ _ ([(206, fsTab 137 19 z1 true), (213, fsTab 140 32 z2 true)] ++ F) _ _ _ _ C5 B (by kernel_rfl) (hid ?_)
    intro Kq hKq
    rintro r0 L0 n5 i5 g5 ⟨v, rfl, rfl, rfl⟩
    refine hKq _ _ _ _ _ ?_
    have C6 := cnts_eq (V := reV V A Q) r r' cc cc' tc tc' er er' n5 (i5 + 2) g5 b hcb
    intro sq
    refine @run_codeE (cxR (reV V A Q) 600 _) OO _ 32 (unp 17 0x505503cf3cf3cd3cf3cf3cd) [15, 19] 29 20 _ _ ([(206, fsTab 137 19 z1 true), (213, fsTab 140 32 z2 true)] ++ F) _ _ _ _ C6 (by kernel_rfl) (hid ?_)
    intro Kq hKq
    rintro r0 L0 n6 i6 g6 ⟨rfl, rfl, rfl, rfl, rfl⟩
    refine hKq _ _ _ _ _ ?_
    have hkb2 : (ks' == ks) = b := by rw [← hkb]; exact beq_sym ks ks'
    have C7 := ((equal (V := V) wl wl' tt tt' ⟨D.toArray⟩ ⟨D'.toArray⟩ nn nn' nt nt' qa qb 0 0 false false ew ew' b (by rw [hqa, hqb, hkb]; simp) n6 (i5 + 2 + 3) g6).g).re A Q
    have C8 := fun n i g => ((equal (V := V) wl' wl tt' tt ⟨D'.toArray⟩ ⟨D.toArray⟩ nn' nn nt' nt qb qa 0 0 false false ew' ew b (by rw [hqa, hqb, hkb2]; simp) n i g).g).re A Q
    cases b with
    | true =>
      intro sq
      refine @run_callG (cxR (reV V A Q) 600 _) OO _ 52 (unp 32 0x38e38e38d55400000050000050000050e38e38e34d340) [19, 19, 19, 19, 15, 15, 15, 15] 29 300 _ _ ([(206, fsTab 137 19 z1 true), (213, fsTab 140 32 z2 true)] ++ F) _ _ _ _ C7 B (by kernel_rfl) (hid ?_)
      intro Kq hKq
      rintro r0 L0 n7 i7 g7 ⟨v, rfl, rfl, rfl⟩
      refine hKq _ _ _ _ _ ?_
      intro sq
      refine @run_callG (cxR (reV V A Q) 600 _) OO _ 48 (unp 30 0x38e38e38d6da00000068000068000068e38e38e34d) [25, 25, 25, 25, 21, 21, 21, 21] 29 300 _ _ ([(206, fsTab 137 19 z1 true), (213, fsTab 140 32 z2 true)] ++ F) _ _ _ _ (C8 n7 (i7 + 2) g7) B (by kernel_rfl) (hid ?_)
      intro Kq hKq
      rintro r0 L0 n8 i8 g8 ⟨v, rfl, rfl, rfl⟩
      refine hKq _ _ _ _ _ ?_
      intro sq
      exact @run_end (cxR (reV V A Q) 600 _) OO _ 4 (unp 2 0xd) [8] 29 [] 0 .base (.ret (.bool true)) _ _ _ _ _ (by decide) (by kernel_rfl) (Bk _ _ n8 i8 g8 ⟨rfl, z1, z2, rfl⟩)
    | false =>
      intro sq
      refine @run_callG (cxR (reV V A Q) 600 _) OO _ 52 (unp 32 0x38e38e38d55400000050000050000050e38e38e34d340) [19, 19, 19, 19, 15, 15, 15, 15] 29 300 _ _ ([(206, fsTab 137 19 z1 true), (213, fsTab 140 32 z2 true)] ++ F) _ _ _ _ C7 B (by kernel_rfl) (hid ?_)
      intro Kq hKq
      rintro r0 L0 n7 i7 g7 ⟨v, rfl, rfl, rfl⟩
      refine hKq _ _ _ _ _ ?_
      intro sq
      refine @run_callG (cxR (reV V A Q) 600 _) OO _ 48 (unp 30 0x38e38e38d6da00000068000068000068e38e38e34d) [25, 25, 25, 25, 21, 21, 21, 21] 29 300 _ _ ([(206, fsTab 137 19 z1 true), (213, fsTab 140 32 z2 true)] ++ F) _ _ _ _ (C8 n7 (i7 + 2) g7) B (by kernel_rfl) (hid ?_)
      intro Kq hKq
      rintro r0 L0 n8 i8 g8 ⟨v, rfl, rfl, rfl⟩
      refine hKq _ _ _ _ _ ?_
      intro sq
      exact @run_end (cxR (reV V A Q) 600 _) OO _ 4 (unp 2 0xd) [8] 29 [] 0 .base (.ret (.bool true)) _ _ _ _ _ (by decide) (by kernel_rfl) (Bk _ _ n8 i8 g8 ⟨rfl, z1, z2, rfl⟩)
  · obtain ⟨o, rfl⟩ : ∃ o', o = some o' := by cases o <;> simp_all
    have OB : (cxR (reV V A Q) 600 [len_r (n + 6 + 305) (valsN [w1, w2, w3]).toArray (e1 0) (n1 + 1) (i1 + 6) g1]).Ok := B.okR (by decide) ⟨len_ok (by simp [valsN]), trivial⟩
    refine (h w1.1 w2.1 w3.1 9 3).use ?_
    intro ls ls' sz sz' tz tz' ks ks' D D' E E' k k' b H1 H2 HP1 HP2 hsa hsh hso hsb hDn hDl hcb hkb
    have C2 := (wd_all (V := V) (lk [n1 + 4, n1 + 3, n1 + 5, n1 + 6, n]) (dEs V.w.params [(sScript, i, .ref 304), (sDrawn, i1, .ref (n + 6 + 305)), (sCells, i1 + 8, .ref (n1 + 3 + 305))]) [w1, w2, w3, (9, i1 + 4), (3, i1 + 5)] (by simp) (by simp) (lk [0, 0, 0, e1 2 + 2]) (n1 + 7) (i1 + 9) g1).re A Q
    intro sq
    refine @run_callG (cxR (reV V A Q) 600 _) OB _ 87 (unp 41 0x4104104b2cb0010c10c30430c10410410c30c31507ff2000071861871c0) [2, 2, 1, 0, 9] 14 250 _ _ (fsTail false false b0 t0 m0 0 0 ++ F) _ _ _ _ C2 B (by kernel_rfl) (hid ?_)
    intro Kq hKq
    rintro r0 L0 n2 i2 g2 ⟨rfl, hx⟩
    refine ex3 hx ?_
    clear hx
    rintro ww oo e2 ⟨hww, rfl⟩
    refine hKq _ _ _ _ _ ?_
    obtain ⟨τ, rfl⟩ := strs5 (A := wS (w1.1 % 3 + 1)) (B := wS (w2.1 % 3 + 1)) (C := wS (w3.1 % 3 + 1)) (D := wS (9 % 3 + 1)) (E := wS (3 % 3 + 1)) hww
    have C3 := ((law_loop (V := V) (lk [n2 + 7, n2 + 6, n, n1 + 5, n1 + 3, n + 1, n + 2, n2, n2 + 1]) ⟨w1.1 % 3 + 1, w2.1 % 3 + 1, w3.1 % 3 + 1, 9 % 3 + 1, 3 % 3 + 1, [w1, w2, w3, (9, i1 + 4), (3, i1 + 5)], .ref 304, .ref (n + 6 + 305), i2 + 3, i2 + 4⟩ [w1.1, w2.1, w3.1, 9, 3] ls ls' sz sz' tz tz' ks ks' D D' E E' k k' H1 H2 rfl rfl b0 t0 m0 (HP1 _ b0 t0 m0) (fun b t m => HP2 _ b t m) (lk [i, i1, i1 + 8, i2, i2 + 1, i2 + 2]) τ (lk [e2 2 + 3, e2 0, e2 3, 0, 0]) (n2 + 8) (i2 + 5) g2).g (by kernel_rfl) (by decide)).re A Q
    intro sq
    refine @run_callG (cxR (reV V A Q) 600 _) OO _ 93 (unp 46 0x10410414d30134c004104204104104108104104104204104104104104130c30d340) [0, 0, 18, 16, 15, 13, 12, 5, 4] 21 550 _ _ F _ _ _ _ C3 B (by kernel_rfl) (hid ?_)
    intro Kq hKq
    rintro r0 L0 n3 i3 g3 ⟨rfl, hx⟩
    refine ex23 hx ?_
    clear hx
    rintro t3 x3 e3 r tc er wl tt nn nt qa ew r' tc' er' wl' tt' nn' nt' qb ew' z1 z2 ⟨hqa, hqb, rfl⟩
    refine hKq _ _ _ _ _ ?_
    generalize cntE (fun _ => 0) (picksF sz) = cc at hcb ⊢
    generalize cntE (fun _ => 0) (picksF sz') = cc' at hcb ⊢
    have O4 : (cxR (reV V A Q) 600 [addL_r D' [32] (tt' 1) (i3 + 3) n3 (i3 + 4) g3]).Ok := B.okR (by decide) ⟨addL_ok hDn (by simp) (by simp; omega), trivial⟩
    have C4 := ((ws_new_obj (V := V) (D' ++ [32]) (i3 + 4) hsa hsh hso n3 (i3 + 5) g3).g).re A Q
    intro sq
    refine @run_callG (cxR (reV V A Q) 600 _) O4 _ 70 (unp 49 0x41ffcf7ff58055500001500001538e38e38d01140000001000001000001038e38e38d) [] 25 300 _ _ ([(206, fsTab 137 19 z1 true), (213, fsTab 140 32 z2 true)] ++ F) _ _ _ _ C4 B (by kernel_rfl) (hid ?_)
    intro Kq hKq
    rintro r0 L0 n4 i4 g4 ⟨v, rfl, hx⟩
    refine ex6 hx ?_
    clear hx
    rintro w6 t6 nn6 nt6 tc6 e6 ⟨rfl, rfl⟩
    refine hKq _ _ _ _ _ ?_
    have hsb2 : (wsRun (D' ++ [32]) ⟨0, fun _ => 0, 0⟩).b = 1 := hsb
    generalize wsRun (D' ++ [32]) ⟨0, fun _ => 0, 0⟩ = sN at hsb2 ⊢
    have C5 := ((equal (V := V) wl w6 tt t6 ⟨D.toArray⟩ ⟨(D' ++ [32]).toArray⟩ nn nn6 nt nt6 qa (qL sN.c tc6 sN.L) 0 (Int.ofNat sN.b) false false ew e6 false (by rw [hsb2]; simp) n4 i4 g4).g).re A Q
    intro sq
    refine @run_callG (cxR (reV V A Q) 600 _) OO _ 3 (unp 2 0x0) [15, 15, 15, 15, 21, 21, 21, 21] 29 300 _ _ ([(206, fsTab 137 19 z1 true), (213, fsTab 140 32 z2 true)] ++ F) _ _ _ _ C5 B (by kernel_rfl) (hid ?_)
    intro Kq hKq
    rintro r0 L0 n5 i5 g5 ⟨v, rfl, rfl, rfl⟩
    refine hKq _ _ _ _ _ ?_
    have C6 := cnts_eq (V := reV V A Q) r r' cc cc' tc tc' er er' n5 (i5 + 2) g5 b hcb
    intro sq
    refine @run_codeE (cxR (reV V A Q) 600 _) OO _ 32 (unp 17 0x505503cf3cf3cd3cf3cf3cd) [15, 19] 29 20 _ _ ([(206, fsTab 137 19 z1 true), (213, fsTab 140 32 z2 true)] ++ F) _ _ _ _ C6 (by kernel_rfl) (hid ?_)
    intro Kq hKq
    rintro r0 L0 n6 i6 g6 ⟨rfl, rfl, rfl, rfl, rfl⟩
    refine hKq _ _ _ _ _ ?_
    have hkb2 : (ks' == ks) = b := by rw [← hkb]; exact beq_sym ks ks'
    have C7 := ((equal (V := V) wl wl' tt tt' ⟨D.toArray⟩ ⟨D'.toArray⟩ nn nn' nt nt' qa qb 0 0 false false ew ew' b (by rw [hqa, hqb, hkb]; simp) n6 (i5 + 2 + 3) g6).g).re A Q
    have C8 := fun n i g => ((equal (V := V) wl' wl tt' tt ⟨D'.toArray⟩ ⟨D.toArray⟩ nn' nn nt' nt qb qa 0 0 false false ew' ew b (by rw [hqa, hqb, hkb2]; simp) n i g).g).re A Q
    cases b with
    | true =>
      intro sq
      refine @run_callG (cxR (reV V A Q) 600 _) OO _ 52 (unp 32 0x38e38e38d55400000050000050000050e38e38e34d340) [19, 19, 19, 19, 15, 15, 15, 15] 29 300 _ _ ([(206, fsTab 137 19 z1 true), (213, fsTab 140 32 z2 true)] ++ F) _ _ _ _ C7 B (by kernel_rfl) (hid ?_)
      intro Kq hKq
      rintro r0 L0 n7 i7 g7 ⟨v, rfl, rfl, rfl⟩
      refine hKq _ _ _ _ _ ?_
      intro sq
      refine @run_callG (cxR (reV V A Q) 600 _) OO _ 48 (unp 30 0x38e38e38d6da00000068000068000068e38e38e34d) [25, 25, 25, 25, 21, 21, 21, 21] 29 300 _ _ ([(206, fsTab 137 19 z1 true), (213, fsTab 140 32 z2 true)] ++ F) _ _ _ _ (C8 n7 (i7 + 2) g7) B (by kernel_rfl) (hid ?_)
      intro Kq hKq
      rintro r0 L0 n8 i8 g8 ⟨v, rfl, rfl, rfl⟩
      refine hKq _ _ _ _ _ ?_
      intro sq
      exact @run_end (cxR (reV V A Q) 600 _) OO _ 4 (unp 2 0xd) [8] 29 [] 0 .base (.ret (.bool true)) _ _ _ _ _ (by decide) (by kernel_rfl) (Bk _ _ n8 i8 g8 ⟨rfl, z1, z2, rfl⟩)
    | false =>
      intro sq
      refine @run_callG (cxR (reV V A Q) 600 _) OO _ 52 (unp 32 0x38e38e38d55400000050000050000050e38e38e34d340) [19, 19, 19, 19, 15, 15, 15, 15] 29 300 _ _ ([(206, fsTab 137 19 z1 true), (213, fsTab 140 32 z2 true)] ++ F) _ _ _ _ C7 B (by kernel_rfl) (hid ?_)
      intro Kq hKq
      rintro r0 L0 n7 i7 g7 ⟨v, rfl, rfl, rfl⟩
      refine hKq _ _ _ _ _ ?_
      intro sq
      refine @run_callG (cxR (reV V A Q) 600 _) OO _ 48 (unp 30 0x38e38e38d6da00000068000068000068e38e38e34d) [25, 25, 25, 25, 21, 21, 21, 21] 29 300 _ _ ([(206, fsTab 137 19 z1 true), (213, fsTab 140 32 z2 true)] ++ F) _ _ _ _ (C8 n7 (i7 + 2) g7) B (by kernel_rfl) (hid ?_)
      intro Kq hKq
      rintro r0 L0 n8 i8 g8 ⟨v, rfl, rfl, rfl⟩
      refine hKq _ _ _ _ _ ?_
      intro sq
      exact @run_end (cxR (reV V A Q) 600 _) OO _ 4 (unp 2 0xd) [8] 29 [] 0 .base (.ret (.bool true)) _ _ _ _ _ (by decide) (by kernel_rfl) (Bk _ _ n8 i8 g8 ⟨rfl, z1, z2, rfl⟩)
  · obtain ⟨o, rfl⟩ : ∃ o', o = some o' := by cases o <;> simp_all
    have OB : (cxR (reV V A Q) 600 [len_r (n + 6 + 305) (valsN [w1, w2, w3, w4]).toArray (e1 0) (n1 + 1) (i1 + 6) g1]).Ok := B.okR (by decide) ⟨len_ok (by simp [valsN]), trivial⟩
    refine (h w1.1 w2.1 w3.1 w4.1 3).use ?_
    intro ls ls' sz sz' tz tz' ks ks' D D' E E' k k' b H1 H2 HP1 HP2 hsa hsh hso hsb hDn hDl hcb hkb
    have C2 := (wd_all (V := V) (lk [n1 + 4, n1 + 3, n1 + 5, n1 + 6, n]) (dEs V.w.params [(sScript, i, .ref 304), (sDrawn, i1, .ref (n + 6 + 305)), (sCells, i1 + 8, .ref (n1 + 3 + 305))]) [w1, w2, w3, w4, (3, i1 + 5)] (by simp) (by simp) (lk [0, 0, 0, e1 2 + 2]) (n1 + 7) (i1 + 9) g1).re A Q
    intro sq
    refine @run_callG (cxR (reV V A Q) 600 _) OB _ 87 (unp 41 0x4104104b2cb0010c10c30430c10410410c30c31507ff2000071861871c0) [2, 2, 1, 0, 9] 14 250 _ _ (fsTail false false b0 t0 m0 0 0 ++ F) _ _ _ _ C2 B (by kernel_rfl) (hid ?_)
    intro Kq hKq
    rintro r0 L0 n2 i2 g2 ⟨rfl, hx⟩
    refine ex3 hx ?_
    clear hx
    rintro ww oo e2 ⟨hww, rfl⟩
    refine hKq _ _ _ _ _ ?_
    obtain ⟨τ, rfl⟩ := strs5 (A := wS (w1.1 % 3 + 1)) (B := wS (w2.1 % 3 + 1)) (C := wS (w3.1 % 3 + 1)) (D := wS (w4.1 % 3 + 1)) (E := wS (3 % 3 + 1)) hww
    have C3 := ((law_loop (V := V) (lk [n2 + 7, n2 + 6, n, n1 + 5, n1 + 3, n + 1, n + 2, n2, n2 + 1]) ⟨w1.1 % 3 + 1, w2.1 % 3 + 1, w3.1 % 3 + 1, w4.1 % 3 + 1, 3 % 3 + 1, [w1, w2, w3, w4, (3, i1 + 5)], .ref 304, .ref (n + 6 + 305), i2 + 3, i2 + 4⟩ [w1.1, w2.1, w3.1, w4.1, 3] ls ls' sz sz' tz tz' ks ks' D D' E E' k k' H1 H2 rfl rfl b0 t0 m0 (HP1 _ b0 t0 m0) (fun b t m => HP2 _ b t m) (lk [i, i1, i1 + 8, i2, i2 + 1, i2 + 2]) τ (lk [e2 2 + 3, e2 0, e2 3, 0, 0]) (n2 + 8) (i2 + 5) g2).g (by kernel_rfl) (by decide)).re A Q
    intro sq
    refine @run_callG (cxR (reV V A Q) 600 _) OO _ 93 (unp 46 0x10410414d30134c004104204104104108104104104204104104104104130c30d340) [0, 0, 18, 16, 15, 13, 12, 5, 4] 21 550 _ _ F _ _ _ _ C3 B (by kernel_rfl) (hid ?_)
    intro Kq hKq
    rintro r0 L0 n3 i3 g3 ⟨rfl, hx⟩
    refine ex23 hx ?_
    clear hx
    rintro t3 x3 e3 r tc er wl tt nn nt qa ew r' tc' er' wl' tt' nn' nt' qb ew' z1 z2 ⟨hqa, hqb, rfl⟩
    refine hKq _ _ _ _ _ ?_
    generalize cntE (fun _ => 0) (picksF sz) = cc at hcb ⊢
    generalize cntE (fun _ => 0) (picksF sz') = cc' at hcb ⊢
    have O4 : (cxR (reV V A Q) 600 [addL_r D' [32] (tt' 1) (i3 + 3) n3 (i3 + 4) g3]).Ok := B.okR (by decide) ⟨addL_ok hDn (by simp) (by simp; omega), trivial⟩
    have C4 := ((ws_new_obj (V := V) (D' ++ [32]) (i3 + 4) hsa hsh hso n3 (i3 + 5) g3).g).re A Q
    intro sq
    refine @run_callG (cxR (reV V A Q) 600 _) O4 _ 70 (unp 49 0x41ffcf7ff58055500001500001538e38e38d01140000001000001000001038e38e38d) [] 25 300 _ _ ([(206, fsTab 137 19 z1 true), (213, fsTab 140 32 z2 true)] ++ F) _ _ _ _ C4 B (by kernel_rfl) (hid ?_)
    intro Kq hKq
    rintro r0 L0 n4 i4 g4 ⟨v, rfl, hx⟩
    refine ex6 hx ?_
    clear hx
    rintro w6 t6 nn6 nt6 tc6 e6 ⟨rfl, rfl⟩
    refine hKq _ _ _ _ _ ?_
    have hsb2 : (wsRun (D' ++ [32]) ⟨0, fun _ => 0, 0⟩).b = 1 := hsb
    generalize wsRun (D' ++ [32]) ⟨0, fun _ => 0, 0⟩ = sN at hsb2 ⊢
    have C5 := ((equal (V := V) wl w6 tt t6 ⟨D.toArray⟩ ⟨(D' ++ [32]).toArray⟩ nn nn6 nt nt6 qa (qL sN.c tc6 sN.L) 0 (Int.ofNat sN.b) false false ew e6 false (by rw [hsb2]; simp) n4 i4 g4).g).re A Q
    intro sq
    refine @run_callG (cxR (reV V A Q) 600 _) OO _ 3 (unp 2 0x0) [15, 15, 15, 15, 21, 21, 21, 21] 29 300 _ _ ([(206, fsTab 137 19 z1 true), (213, fsTab 140 32 z2 true)] ++ F) _ _ _ _ C5 B (by kernel_rfl) (hid ?_)
    intro Kq hKq
    rintro r0 L0 n5 i5 g5 ⟨v, rfl, rfl, rfl⟩
    refine hKq _ _ _ _ _ ?_
    have C6 := cnts_eq (V := reV V A Q) r r' cc cc' tc tc' er er' n5 (i5 + 2) g5 b hcb
    intro sq
    refine @run_codeE (cxR (reV V A Q) 600 _) OO _ 32 (unp 17 0x505503cf3cf3cd3cf3cf3cd) [15, 19] 29 20 _ _ ([(206, fsTab 137 19 z1 true), (213, fsTab 140 32 z2 true)] ++ F) _ _ _ _ C6 (by kernel_rfl) (hid ?_)
    intro Kq hKq
    rintro r0 L0 n6 i6 g6 ⟨rfl, rfl, rfl, rfl, rfl⟩
    refine hKq _ _ _ _ _ ?_
    have hkb2 : (ks' == ks) = b := by rw [← hkb]; exact beq_sym ks ks'
    have C7 := ((equal (V := V) wl wl' tt tt' ⟨D.toArray⟩ ⟨D'.toArray⟩ nn nn' nt nt' qa qb 0 0 false false ew ew' b (by rw [hqa, hqb, hkb]; simp) n6 (i5 + 2 + 3) g6).g).re A Q
    have C8 := fun n i g => ((equal (V := V) wl' wl tt' tt ⟨D'.toArray⟩ ⟨D.toArray⟩ nn' nn nt' nt qb qa 0 0 false false ew' ew b (by rw [hqa, hqb, hkb2]; simp) n i g).g).re A Q
    cases b with
    | true =>
      intro sq
      refine @run_callG (cxR (reV V A Q) 600 _) OO _ 52 (unp 32 0x38e38e38d55400000050000050000050e38e38e34d340) [19, 19, 19, 19, 15, 15, 15, 15] 29 300 _ _ ([(206, fsTab 137 19 z1 true), (213, fsTab 140 32 z2 true)] ++ F) _ _ _ _ C7 B (by kernel_rfl) (hid ?_)
      intro Kq hKq
      rintro r0 L0 n7 i7 g7 ⟨v, rfl, rfl, rfl⟩
      refine hKq _ _ _ _ _ ?_
      intro sq
      refine @run_callG (cxR (reV V A Q) 600 _) OO _ 48 (unp 30 0x38e38e38d6da00000068000068000068e38e38e34d) [25, 25, 25, 25, 21, 21, 21, 21] 29 300 _ _ ([(206, fsTab 137 19 z1 true), (213, fsTab 140 32 z2 true)] ++ F) _ _ _ _ (C8 n7 (i7 + 2) g7) B (by kernel_rfl) (hid ?_)
      intro Kq hKq
      rintro r0 L0 n8 i8 g8 ⟨v, rfl, rfl, rfl⟩
      refine hKq _ _ _ _ _ ?_
      intro sq
      exact @run_end (cxR (reV V A Q) 600 _) OO _ 4 (unp 2 0xd) [8] 29 [] 0 .base (.ret (.bool true)) _ _ _ _ _ (by decide) (by kernel_rfl) (Bk _ _ n8 i8 g8 ⟨rfl, z1, z2, rfl⟩)
    | false =>
      intro sq
      refine @run_callG (cxR (reV V A Q) 600 _) OO _ 52 (unp 32 0x38e38e38d55400000050000050000050e38e38e34d340) [19, 19, 19, 19, 15, 15, 15, 15] 29 300 _ _ ([(206, fsTab 137 19 z1 true), (213, fsTab 140 32 z2 true)] ++ F) _ _ _ _ C7 B (by kernel_rfl) (hid ?_)
      intro Kq hKq
      rintro r0 L0 n7 i7 g7 ⟨v, rfl, rfl, rfl⟩
      refine hKq _ _ _ _ _ ?_
      intro sq
      refine @run_callG (cxR (reV V A Q) 600 _) OO _ 48 (unp 30 0x38e38e38d6da00000068000068000068e38e38e34d) [25, 25, 25, 25, 21, 21, 21, 21] 29 300 _ _ ([(206, fsTab 137 19 z1 true), (213, fsTab 140 32 z2 true)] ++ F) _ _ _ _ (C8 n7 (i7 + 2) g7) B (by kernel_rfl) (hid ?_)
      intro Kq hKq
      rintro r0 L0 n8 i8 g8 ⟨v, rfl, rfl, rfl⟩
      refine hKq _ _ _ _ _ ?_
      intro sq
      exact @run_end (cxR (reV V A Q) 600 _) OO _ 4 (unp 2 0xd) [8] 29 [] 0 .base (.ret (.bool true)) _ _ _ _ _ (by decide) (by kernel_rfl) (Bk _ _ n8 i8 g8 ⟨rfl, z1, z2, rfl⟩)
  · obtain ⟨o, rfl⟩ : ∃ o', o = some o' := by cases o <;> simp_all
    have OB : (cxR (reV V A Q) 600 [len_r (n + 6 + 305) (valsN [w1, w2, w3, w4, w5]).toArray (e1 0) (n1 + 1) (i1 + 6) g1]).Ok := B.okR (by decide) ⟨len_ok (by simp [valsN]), trivial⟩
    refine (h w1.1 w2.1 w3.1 w4.1 w5.1).use ?_
    intro ls ls' sz sz' tz tz' ks ks' D D' E E' k k' b H1 H2 HP1 HP2 hsa hsh hso hsb hDn hDl hcb hkb
    have C2 := (wd_all (V := V) (lk [n1 + 4, n1 + 3, n1 + 5, n1 + 6, n]) (dEs V.w.params [(sScript, i, .ref 304), (sDrawn, i1, .ref (n + 6 + 305)), (sCells, i1 + 8, .ref (n1 + 3 + 305))]) [w1, w2, w3, w4, w5] (by simp) (by simp) (lk [0, 0, 0, e1 2 + 2]) (n1 + 7) (i1 + 9) g1).re A Q
    intro sq
    refine @run_callG (cxR (reV V A Q) 600 _) OB _ 87 (unp 41 0x4104104b2cb0010c10c30430c10410410c30c31507ff2000071861871c0) [2, 2, 1, 0, 9] 14 250 _ _ (fsTail false false b0 t0 m0 0 0 ++ F) _ _ _ _ C2 B (by kernel_rfl) (hid ?_)
    intro Kq hKq
    rintro r0 L0 n2 i2 g2 ⟨rfl, hx⟩
    refine ex3 hx ?_
    clear hx
    rintro ww oo e2 ⟨hww, rfl⟩
    refine hKq _ _ _ _ _ ?_
    obtain ⟨τ, rfl⟩ := strs5 (A := wS (w1.1 % 3 + 1)) (B := wS (w2.1 % 3 + 1)) (C := wS (w3.1 % 3 + 1)) (D := wS (w4.1 % 3 + 1)) (E := wS (w5.1 % 3 + 1)) hww
    have C3 := ((law_loop (V := V) (lk [n2 + 7, n2 + 6, n, n1 + 5, n1 + 3, n + 1, n + 2, n2, n2 + 1]) ⟨w1.1 % 3 + 1, w2.1 % 3 + 1, w3.1 % 3 + 1, w4.1 % 3 + 1, w5.1 % 3 + 1, [w1, w2, w3, w4, w5], .ref 304, .ref (n + 6 + 305), i2 + 3, i2 + 4⟩ [w1.1, w2.1, w3.1, w4.1, w5.1] ls ls' sz sz' tz tz' ks ks' D D' E E' k k' H1 H2 rfl rfl b0 t0 m0 (HP1 _ b0 t0 m0) (fun b t m => HP2 _ b t m) (lk [i, i1, i1 + 8, i2, i2 + 1, i2 + 2]) τ (lk [e2 2 + 3, e2 0, e2 3, 0, 0]) (n2 + 8) (i2 + 5) g2).g (by kernel_rfl) (by decide)).re A Q
    intro sq
    refine @run_callG (cxR (reV V A Q) 600 _) OO _ 93 (unp 46 0x10410414d30134c004104204104104108104104104204104104104104130c30d340) [0, 0, 18, 16, 15, 13, 12, 5, 4] 21 550 _ _ F _ _ _ _ C3 B (by kernel_rfl) (hid ?_)
    intro Kq hKq
    rintro r0 L0 n3 i3 g3 ⟨rfl, hx⟩
    refine ex23 hx ?_
    clear hx
    rintro t3 x3 e3 r tc er wl tt nn nt qa ew r' tc' er' wl' tt' nn' nt' qb ew' z1 z2 ⟨hqa, hqb, rfl⟩
    refine hKq _ _ _ _ _ ?_
    generalize cntE (fun _ => 0) (picksF sz) = cc at hcb ⊢
    generalize cntE (fun _ => 0) (picksF sz') = cc' at hcb ⊢
    have O4 : (cxR (reV V A Q) 600 [addL_r D' [32] (tt' 1) (i3 + 3) n3 (i3 + 4) g3]).Ok := B.okR (by decide) ⟨addL_ok hDn (by simp) (by simp; omega), trivial⟩
    have C4 := ((ws_new_obj (V := V) (D' ++ [32]) (i3 + 4) hsa hsh hso n3 (i3 + 5) g3).g).re A Q
    intro sq
    refine @run_callG (cxR (reV V A Q) 600 _) O4 _ 70 (unp 49 0x41ffcf7ff58055500001500001538e38e38d01140000001000001000001038e38e38d) [] 25 300 _ _ ([(206, fsTab 137 19 z1 true), (213, fsTab 140 32 z2 true)] ++ F) _ _ _ _ C4 B (by kernel_rfl) (hid ?_)
    intro Kq hKq
    rintro r0 L0 n4 i4 g4 ⟨v, rfl, hx⟩
    refine ex6 hx ?_
    clear hx
    rintro w6 t6 nn6 nt6 tc6 e6 ⟨rfl, rfl⟩
    refine hKq _ _ _ _ _ ?_
    have hsb2 : (wsRun (D' ++ [32]) ⟨0, fun _ => 0, 0⟩).b = 1 := hsb
    generalize wsRun (D' ++ [32]) ⟨0, fun _ => 0, 0⟩ = sN at hsb2 ⊢
    have C5 := ((equal (V := V) wl w6 tt t6 ⟨D.toArray⟩ ⟨(D' ++ [32]).toArray⟩ nn nn6 nt nt6 qa (qL sN.c tc6 sN.L) 0 (Int.ofNat sN.b) false false ew e6 false (by rw [hsb2]; simp) n4 i4 g4).g).re A Q
    intro sq
    refine @run_callG (cxR (reV V A Q) 600 _) OO _ 3 (unp 2 0x0) [15, 15, 15, 15, 21, 21, 21, 21] 29 300 _ _ ([(206, fsTab 137 19 z1 true), (213, fsTab 140 32 z2 true)] ++ F) _ _ _ _ C5 B (by kernel_rfl) (hid ?_)
    intro Kq hKq
    rintro r0 L0 n5 i5 g5 ⟨v, rfl, rfl, rfl⟩
    refine hKq _ _ _ _ _ ?_
    have C6 := cnts_eq (V := reV V A Q) r r' cc cc' tc tc' er er' n5 (i5 + 2) g5 b hcb
    intro sq
    refine @run_codeE (cxR (reV V A Q) 600 _) OO _ 32 (unp 17 0x505503cf3cf3cd3cf3cf3cd) [15, 19] 29 20 _ _ ([(206, fsTab 137 19 z1 true), (213, fsTab 140 32 z2 true)] ++ F) _ _ _ _ C6 (by kernel_rfl) (hid ?_)
    intro Kq hKq
    rintro r0 L0 n6 i6 g6 ⟨rfl, rfl, rfl, rfl, rfl⟩
    refine hKq _ _ _ _ _ ?_
    have hkb2 : (ks' == ks) = b := by rw [← hkb]; exact beq_sym ks ks'
    have C7 := ((equal (V := V) wl wl' tt tt' ⟨D.toArray⟩ ⟨D'.toArray⟩ nn nn' nt nt' qa qb 0 0 false false ew ew' b (by rw [hqa, hqb, hkb]; simp) n6 (i5 + 2 + 3) g6).g).re A Q
    have C8 := fun n i g => ((equal (V := V) wl' wl tt' tt ⟨D'.toArray⟩ ⟨D.toArray⟩ nn' nn nt' nt qb qa 0 0 false false ew' ew b (by rw [hqa, hqb, hkb2]; simp) n i g).g).re A Q
    cases b with
    | true =>
      intro sq
      refine @run_callG (cxR (reV V A Q) 600 _) OO _ 52 (unp 32 0x38e38e38d55400000050000050000050e38e38e34d340) [19, 19, 19, 19, 15, 15, 15, 15] 29 300 _ _ ([(206, fsTab 137 19 z1 true), (213, fsTab 140 32 z2 true)] ++ F) _ _ _ _ C7 B (by kernel_rfl) (hid ?_)
      intro Kq hKq
      rintro r0 L0 n7 i7 g7 ⟨v, rfl, rfl, rfl⟩
      refine hKq _ _ _ _ _ ?_
      intro sq
      refine @run_callG (cxR (reV V A Q) 600 _) OO _ 48 (unp 30 0x38e38e38d6da00000068000068000068e38e38e34d) [25, 25, 25, 25, 21, 21, 21, 21] 29 300 _ _ ([(206, fsTab 137 19 z1 true), (213, fsTab 140 32 z2 true)] ++ F) _ _ _ _ (C8 n7 (i7 + 2) g7) B (by kernel_rfl) (hid ?_)
      intro Kq hKq
      rintro r0 L0 n8 i8 g8 ⟨v, rfl, rfl, rfl⟩
      refine hKq _ _ _ _ _ ?_
      intro sq
      exact @run_end (cxR (reV V A Q) 600 _) OO _ 4 (unp 2 0xd) [8] 29 [] 0 .base (.ret (.bool true)) _ _ _ _ _ (by decide) (by kernel_rfl) (Bk _ _ n8 i8 g8 ⟨rfl, z1, z2, rfl⟩)
    | false =>
      intro sq
      refine @run_callG (cxR (reV V A Q) 600 _) OO _ 52 (unp 32 0x38e38e38d55400000050000050000050e38e38e34d340) [19, 19, 19, 19, 15, 15, 15, 15] 29 300 _ _ ([(206, fsTab 137 19 z1 true), (213, fsTab 140 32 z2 true)] ++ F) _ _ _ _ C7 B (by kernel_rfl) (hid ?_)
      intro Kq hKq
      rintro r0 L0 n7 i7 g7 ⟨v, rfl, rfl, rfl⟩
      refine hKq _ _ _ _ _ ?_
      intro sq
      refine @run_callG (cxR (reV V A Q) 600 _) OO _ 48 (unp 30 0x38e38e38d6da00000068000068000068e38e38e34d) [25, 25, 25, 25, 21, 21, 21, 21] 29 300 _ _ ([(206, fsTab 137 19 z1 true), (213, fsTab 140 32 z2 true)] ++ F) _ _ _ _ (C8 n7 (i7 + 2) g7) B (by kernel_rfl) (hid ?_)
      intro Kq hKq
      rintro r0 L0 n8 i8 g8 ⟨v, rfl, rfl, rfl⟩
      refine hKq _ _ _ _ _ ?_
      intro sq
      exact @run_end (cxR (reV V A Q) 600 _) OO _ 4 (unp 2 0xd) [8] 29 [] 0 .base (.ret (.bool true)) _ _ _ _ _ (by decide) (by kernel_rfl) (Bk _ _ n8 i8 g8 ⟨rfl, z1, z2, rfl⟩)
  · simp at hwl
end Mine
end
section
open PySem PySem.W PySem.W.X
namespace Mine
noncomputable abbrev It := Nat × Nat
noncomputable def flatI : List It → List Nat
  | [] => []
  | x :: l => ahF x.1 ++ (x.2 :: flatI l)
noncomputable def itF (cs : List Nat) : Nat → List Nat → List It
  | _, [] => []
  | j, c :: r => (kF cs j, c) :: itF cs (j + 1) r
theorem piece_flat (cs : List Nat) : ∀ (E : List Nat) (j : Nat), (pieceF cs j E).flatten = flatI (itF cs j E)
  | [], _ => rfl
  | c :: r, j => by simp [pieceF, itF, flatI, piece_flat cs r (j + 1)]
theorem itF_snd (cs : List Nat) : ∀ (E : List Nat) (j : Nat), (itF cs j E).map (·.2) = E
  | [], _ => rfl
  | c :: r, j => by simp [itF, itF_snd cs r (j + 1)]
theorem kF_lt (cs : List Nat) (j : Nat) : kF cs j < 5 := Nat.mod_lt _ (by decide)
theorem itF_k (cs : List Nat) : ∀ (E : List Nat) (j : Nat), ∀ x ∈ itF cs j E, x.1 < 5
  | [], _, x, h => by simp [itF] at h
  | c :: r, j, x, h => by
    simp only [itF, List.mem_cons] at h
    rcases h with rfl | h
    · exact kF_lt cs j
    · exact itF_k cs r (j + 1) x h
theorem un_plain {c : Nat} (hc : c ≠ 92) : ∀ (r : List Nat) (j : Nat), unitsF (c :: r) j = (j, [c]) :: unitsF r (j + 1)
  | [], j => rfl
  | d :: r, j => by
    have hb : Nat.beq c 92 = false := by
      cases h : Nat.beq c 92 with
      | true => exact absurd (Nat.eq_of_beq_eq_true h) hc
      | false => rfl
    simp only [unitsF, hb]
theorem un_esc (d : Nat) (r : List Nat) (j : Nat) : unitsF (92 :: d :: r) j = (j + 1, [92, d]) :: unitsF r (j + 2) := by
  have hb : Nat.beq 92 92 = true := by decide
  simp only [unitsF, hb]
theorem we_plain {c : Nat} (hc : c ≠ 92) : ∀ (r : List Nat), wellE (c :: r) = wellE r
  | [] => by
    have hb : Nat.beq c 92 = false := by
      cases h : Nat.beq c 92 with
      | true => exact absurd (Nat.eq_of_beq_eq_true h) hc
      | false => rfl
    simp [wellE, hb]
  | d :: r => by
    have hb : Nat.beq c 92 = false := by
      cases h : Nat.beq c 92 with
      | true => exact absurd (Nat.eq_of_beq_eq_true h) hc
      | false => rfl
    simp only [wellE, hb]
theorem we_esc (d : Nat) (r : List Nat) : wellE (92 :: d :: r) = wellE r := by
  have hb : Nat.beq 92 92 = true := by decide
  simp only [wellE, hb]
noncomputable def itU (k c j : Nat) : List Unit2 := match k with
  | 0 => [(j, [c])]
  | 1 => [(j, [97]), (j + 1, [c])]
  | 2 => [(j + 1, [92, 40]), (j + 2, [c])]
  | 3 => [(j, [34]), (j + 1, [41]), (j + 3, [92, 34]), (j + 4, [34]), (j + 5, [c])]
  | _ => [(j + 1, [92, 92]), (j + 2, [c])]
noncomputable def itN (k : Nat) : Nat := (ahF k).length + 1
noncomputable def goodI (x : It) : Prop := x.1 < 5 ∧ (x.2 = 40 ∨ x.2 = 41)
theorem un_item (k c j : Nat) (hk : k < 5) (hc : c ≠ 92) (r : List Nat) : unitsF (ahF k ++ (c :: r)) j = itU k c j ++ unitsF r (j + itN k) := by
  have h : k = 0 ∨ k = 1 ∨ k = 2 ∨ k = 3 ∨ k = 4 := lt5 (by omega)
  rcases h with rfl | rfl | rfl | rfl | rfl
  · exact un_plain hc r j
  · show unitsF (97 :: c :: r) j = _
    rw [un_plain (by decide), un_plain hc]
    rfl
  · show unitsF (92 :: 40 :: c :: r) j = _
    rw [un_esc, un_plain hc]
    rfl
  · show unitsF (34 :: 41 :: 92 :: 34 :: 34 :: c :: r) j = _
    rw [un_plain (by decide), un_plain (by decide), un_esc, un_plain (by decide), un_plain hc]
    rfl
  · show unitsF (92 :: 92 :: c :: r) j = _
    rw [un_esc, un_plain hc]
    rfl
theorem we_item (k c : Nat) (hk : k < 5) (hc : c ≠ 92) (r : List Nat) : wellE (ahF k ++ (c :: r)) = wellE r := by
  have h : k = 0 ∨ k = 1 ∨ k = 2 ∨ k = 3 ∨ k = 4 := lt5 (by omega)
  rcases h with rfl | rfl | rfl | rfl | rfl
  · exact we_plain hc r
  · show wellE (97 :: c :: r) = _
    rw [we_plain (by decide), we_plain hc]
  · show wellE (92 :: 40 :: c :: r) = _
    rw [we_esc, we_plain hc]
  · show wellE (34 :: 41 :: 92 :: 34 :: 34 :: c :: r) = _
    rw [we_plain (by decide), we_plain (by decide), we_esc, we_plain (by decide), we_plain hc]
  · show wellE (92 :: 92 :: c :: r) = _
    rw [we_esc, we_plain hc]
theorem good_ne {x : It} (h : goodI x) : x.2 ≠ 92 := by
  rcases h.2 with h | h <;> rw [h] <;> decide
theorem we_flat : ∀ (l : List It), (∀ x ∈ l, goodI x) → wellE (flatI l) = true
  | [], _ => rfl
  | x :: l, h => by
    have hx := h x (by simp)
    rw [flatI, we_item x.1 x.2 hx.1 (good_ne hx)]
    exact we_flat l fun y hy => h y (by simp [hy])
theorem asc_flat : ∀ (l : List It), (∀ x ∈ l, goodI x) → ((flatI l).all fun c => Nat.blt c 128) = true
  | [], _ => rfl
  | x :: l, h => by
    have hx := h x (by simp)
    have ih := asc_flat l fun y hy => h y (by simp [hy])
    rw [flatI, List.all_append, List.all_cons, ih]
    have h1 : Nat.blt x.2 128 = true := by rcases hx.2 with e | e <;> rw [e] <;> decide
    have h2 : ((ahF x.1).all fun c => Nat.blt c 128) = true := by
      have := hx.1
      have h : x.1 = 0 ∨ x.1 = 1 ∨ x.1 = 2 ∨ x.1 = 3 ∨ x.1 = 4 := lt5 (by omega)
      rcases h with e | e | e | e | e <;> rw [e] <;> decide
    rw [h1, h2]
    rfl
theorem len_flat : ∀ (l : List It), (∀ x ∈ l, goodI x) → (flatI l).length ≤ 6 * l.length
  | [], _ => by simp [flatI]
  | x :: l, h => by
    have hx := h x (by simp)
    have ih := len_flat l fun y hy => h y (by simp [hy])
    have h2 : (ahF x.1).length ≤ 5 := by
      have := hx.1
      have h : x.1 = 0 ∨ x.1 = 1 ∨ x.1 = 2 ∨ x.1 = 3 ∨ x.1 = 4 := lt5 (by omega)
      rcases h with e | e | e | e | e <;> rw [e] <;> decide
    rw [flatI]
    simp only [List.length_append, List.length_cons]
    omega
noncomputable def sgStep (s : LS) (c : Nat) : LS := ldStep s (0, [c])
noncomputable def sgOk : List Nat → LS → Prop
  | [], _ => True
  | c :: l, s => ldOk1 s (0, [c]) ∧ sgOk l (sgStep s c)
theorem ld_item (k c j : Nat) (hk : k < 5) (h3 : k ≠ 3) (s : LS) : (itU k c j).foldl ldStep s = sgStep s c := by
  have h : k = 0 ∨ k = 1 ∨ k = 2 ∨ k = 4 := by omega
  rcases h with rfl | rfl | rfl | rfl <;> rfl
theorem ld_fold : ∀ (l : List It), (∀ x ∈ l, goodI x ∧ x.1 ≠ 3) → ∀ (j : Nat) (s : LS), (unitsF (flatI l) j).foldl ldStep s = (l.map (·.2)).foldl sgStep s
  | [], _, j, s => rfl
  | x :: l, h, j, s => by
    have hx := h x (by simp)
    rw [flatI, un_item x.1 x.2 j hx.1.1 (good_ne hx.1), List.foldl_append, ld_item x.1 x.2 j hx.1.1 hx.2, ld_fold l (fun y hy => h y (by simp [hy]))]
    rfl
theorem ok_item (k c j : Nat) (hk : k < 5) (h3 : k ≠ 3) (s : LS) (r : List Unit2) (h1 : ldOk1 s (0, [c])) (h2 : ldOk r (sgStep s c)) : ldOk (itU k c j ++ r) s := by
  have h : k = 0 ∨ k = 1 ∨ k = 2 ∨ k = 4 := by omega
  rcases h with rfl | rfl | rfl | rfl
  · exact ⟨h1, h2⟩
  · exact ⟨fun _ h => absurd h (show ¬ (([97] : List Nat) == [41]) = true by decide), h1, h2⟩
  · exact ⟨fun _ h => absurd h (show ¬ (([92, 40] : List Nat) == [41]) = true by decide), h1, h2⟩
  · exact ⟨fun _ h => absurd h (show ¬ (([92, 92] : List Nat) == [41]) = true by decide), h1, h2⟩
theorem ld_ok : ∀ (l : List It), (∀ x ∈ l, goodI x ∧ x.1 ≠ 3) → ∀ (j : Nat) (s : LS), sgOk (l.map (·.2)) s → ldOk (unitsF (flatI l) j) s
  | [], _, j, s, _ => trivial
  | x :: l, h, j, s, hs => by
    have hx := h x (by simp)
    rw [flatI, un_item x.1 x.2 j hx.1.1 (good_ne hx.1)]
    exact ok_item x.1 x.2 j hx.1.1 hx.2 s _ hs.1 (ld_ok l (fun y hy => h y (by simp [hy])) _ _ hs.2)
end Mine
end
section
open PySem PySem.W PySem.W.X
namespace Mine
noncomputable def stI (x : It) : It := match Nat.beq x.1 3 with
  | true => (0, x.2)
  | false => x
structure StInv (X Pre : List Nat) (l : List It) (s : SS) : Prop where
  op : s.op = none
  le : s.start ≤ Pre.length
  out : s.res.flatten ++ Pre.drop s.start = flatI (l.map stI)
  few : s.res.length ≤ l.length
  lt : l ≠ [] → s.start < Pre.length
  pos : (l.any fun x => Nat.beq x.1 3) = true → 0 < s.start
theorem flat_app : ∀ (l l' : List It), flatI (l ++ l') = flatI l ++ flatI l'
  | [], _ => rfl
  | x :: l, l' => by simp [flatI, flat_app l l']
theorem st_skip (X : List Nat) (s : SS) (u : Unit2) (h : (u.2 == [34]) = false) : stStep X s u = s := by unfold stStep; rw [h]
theorem it_step (X Pre r : List Nat) (l : List It) (s : SS) (x : It) (hx : goodI x) (hX : X = Pre ++ (ahF x.1 ++ (x.2 :: r))) (I : StInv X Pre l s) :
    StInv X (Pre ++ (ahF x.1 ++ [x.2])) (l ++ [x]) ((itU x.1 x.2 Pre.length).foldl (stStep X) s) ∧ (l.length ≤ 50 → ∀ us, stOk X us ((itU x.1 x.2 Pre.length).foldl (stStep X) s) → stOk X (itU x.1 x.2 Pre.length ++ us) s) := by
  obtain ⟨k, c⟩ := x
  obtain ⟨st, op, res⟩ := s
  obtain ⟨h1, h2, h3, h4, h5, h6⟩ := I
  simp only at h1 h2 h3 h4 h5 h6 hX ⊢
  subst h1
  have hk : k < 5 := hx.1
  have hc34 : (([c] : List Nat) == [34]) = false := by
    rcases hx.2 with h | h <;> simp only at h <;> subst h <;> decide
  have hcases : k = 0 ∨ k = 1 ∨ k = 2 ∨ k = 3 ∨ k = 4 := lt5 (by omega)
  have hmap : (l ++ [(k, c)]).map stI = l.map stI ++ [stI (k, c)] := by simp
  rcases hcases with rfl | rfl | rfl | rfl | rfl
  · refine ⟨?_, fun _ us h => ?_⟩
    · have e : (itU 0 c Pre.length).foldl (stStep X) ⟨st, none, res⟩ = ⟨st, none, res⟩ := by
        simp only [itU, List.foldl_cons, List.foldl_nil]
        rw [st_skip X _ _ hc34]
      rw [e]
      refine ⟨rfl, by simp; omega, ?_, by simp; omega, fun _ => by simp; omega, fun h => h6 (by simpa [List.any_append, show Nat.beq 0 3 = false by decide] using h)⟩
      rw [hmap, flat_app, ← h3, List.drop_append_of_le_length h2]
      simp [flatI, stI, ahF, show Nat.beq 0 3 = false by decide]
    · refine ⟨by simp only [itU]; rw [hc34]; trivial, ?_⟩
      exact h
  · have h97 : (([97] : List Nat) == [34]) = false := by decide
    have e1 : stStep X ⟨st, none, res⟩ (Pre.length, [97]) = ⟨st, none, res⟩ := st_skip X _ _ h97
    have e2 : stStep X ⟨st, none, res⟩ (Pre.length + 1, [c]) = ⟨st, none, res⟩ := st_skip X _ _ hc34
    have e : (itU 1 c Pre.length).foldl (stStep X) ⟨st, none, res⟩ = ⟨st, none, res⟩ := by
      simp only [itU, List.foldl_cons, List.foldl_nil]
      rw [e1, e2]
    refine ⟨?_, fun _ us h => ?_⟩
    · rw [e]
      refine ⟨rfl, by simp; omega, ?_, by simp; omega, fun _ => by simp; omega, fun h => h6 (by simpa [List.any_append, show Nat.beq 1 3 = false by decide] using h)⟩
      rw [hmap, flat_app, ← h3, List.drop_append_of_le_length h2]
      simp [flatI, stI, ahF, show Nat.beq 1 3 = false by decide]
    · rw [e] at h
      refine ⟨by rw [h97]; trivial, ?_⟩
      rw [e1]
      refine ⟨by rw [hc34]; trivial, ?_⟩
      rw [e2]
      exact h
  · have h97 : (([92, 40] : List Nat) == [34]) = false := by decide
    have e1 : stStep X ⟨st, none, res⟩ (Pre.length + 1, [92, 40]) = ⟨st, none, res⟩ := st_skip X _ _ h97
    have e2 : stStep X ⟨st, none, res⟩ (Pre.length + 2, [c]) = ⟨st, none, res⟩ := st_skip X _ _ hc34
    have e : (itU 2 c Pre.length).foldl (stStep X) ⟨st, none, res⟩ = ⟨st, none, res⟩ := by
      simp only [itU, List.foldl_cons, List.foldl_nil]
      rw [e1, e2]
    refine ⟨?_, fun _ us h => ?_⟩
    · rw [e]
      refine ⟨rfl, by simp; omega, ?_, by simp; omega, fun _ => by simp; omega, fun h => h6 (by simpa [List.any_append, show Nat.beq 2 3 = false by decide] using h)⟩
      rw [hmap, flat_app, ← h3, List.drop_append_of_le_length h2]
      simp [flatI, stI, ahF, show Nat.beq 2 3 = false by decide]
    · rw [e] at h
      refine ⟨by rw [h97]; trivial, ?_⟩
      rw [e1]
      refine ⟨by rw [hc34]; trivial, ?_⟩
      rw [e2]
      exact h
  · have h41 : (([41] : List Nat) == [34]) = false := by decide
    have h92 : (([92, 34] : List Nat) == [34]) = false := by decide
    have h34 : (([34] : List Nat) == [34]) = true := by decide
    have hsub : subS X st Pre.length = Pre.drop st := by
      unfold subS
      rw [hX, List.drop_append_of_le_length h2, List.take_append_of_le_length (by simp)]
      exact List.take_of_length_le (by simp)
    have hlen : Pre.length < X.length := by rw [hX]; simp [ahF]
    have e1 : stStep X ⟨st, none, res⟩ (Pre.length, [34]) = ⟨st, some Pre.length, res⟩ := by unfold stStep; rw [h34]
    have e2 : stStep X ⟨st, some Pre.length, res⟩ (Pre.length + 1, [41]) = ⟨st, some Pre.length, res⟩ := st_skip X _ _ h41
    have e3 : stStep X ⟨st, some Pre.length, res⟩ (Pre.length + 3, [92, 34]) = ⟨st, some Pre.length, res⟩ := st_skip X _ _ h92
    obtain ⟨res', e4, hfl, hfew⟩ : ∃ res', stStep X ⟨st, some Pre.length, res⟩ (Pre.length + 4, [34]) = ⟨Pre.length + 4 + 1, none, res'⟩ ∧ res'.flatten = res.flatten ++ Pre.drop st ∧ res'.length ≤ res.length + 1 := by
      unfold stStep
      rw [h34]
      simp only
      cases hb : Nat.beq st Pre.length with
      | true =>
        have := Nat.eq_of_beq_eq_true hb
        refine ⟨res, rfl, ?_, by omega⟩
        rw [this, List.drop_length, List.append_nil]
      | false =>
        refine ⟨res ++ [subS X st Pre.length], rfl, ?_, by simp⟩
        rw [List.flatten_append, hsub]
        simp
    have e5 : stStep X ⟨Pre.length + 4 + 1, none, res'⟩ (Pre.length + 5, [c]) = ⟨Pre.length + 4 + 1, none, res'⟩ := st_skip X _ _ hc34
    have e : (itU 3 c Pre.length).foldl (stStep X) ⟨st, none, res⟩ = ⟨Pre.length + 4 + 1, none, res'⟩ := by
      simp only [itU, List.foldl_cons, List.foldl_nil]
      rw [e1, e2, e3, e4, e5]
    refine ⟨?_, fun hl us h => ?_⟩
    · rw [e]
      refine ⟨rfl, by simp [ahF], ?_, by simp; omega, fun _ => by simp [ahF], fun _ => by simp⟩
      rw [hmap, flat_app, ← h3, hfl]
      have hd : (Pre ++ (ahF 3 ++ [c])).drop (Pre.length + 4 + 1) = [c] := by
        rw [show Pre.length + 4 + 1 = Pre.length + 5 by omega, ← List.drop_drop, List.drop_left]
        rfl
      rw [hd]
      simp [flatI, stI, ahF, show Nat.beq 3 3 = true by decide]
    · rw [e] at h
      refine ⟨by rw [h34]; trivial, ?_⟩
      rw [e1]
      refine ⟨by rw [h41]; trivial, ?_⟩
      rw [e2]
      refine ⟨by rw [h92]; trivial, ?_⟩
      rw [e3]
      refine ⟨by rw [h34]; exact ⟨h2, hlen, by show res.length ≤ 50; omega⟩, ?_⟩
      rw [e4]
      refine ⟨by rw [hc34]; trivial, ?_⟩
      rw [e5]
      exact h
  · have h97 : (([92, 92] : List Nat) == [34]) = false := by decide
    have e1 : stStep X ⟨st, none, res⟩ (Pre.length + 1, [92, 92]) = ⟨st, none, res⟩ := st_skip X _ _ h97
    have e2 : stStep X ⟨st, none, res⟩ (Pre.length + 2, [c]) = ⟨st, none, res⟩ := st_skip X _ _ hc34
    have e : (itU 4 c Pre.length).foldl (stStep X) ⟨st, none, res⟩ = ⟨st, none, res⟩ := by
      simp only [itU, List.foldl_cons, List.foldl_nil]
      rw [e1, e2]
    refine ⟨?_, fun _ us h => ?_⟩
    · rw [e]
      refine ⟨rfl, by simp; omega, ?_, by simp; omega, fun _ => by simp; omega, fun h => h6 (by simpa [List.any_append, show Nat.beq 4 3 = false by decide] using h)⟩
      rw [hmap, flat_app, ← h3, List.drop_append_of_le_length h2]
      simp [flatI, stI, ahF, show Nat.beq 4 3 = false by decide]
    · rw [e] at h
      refine ⟨by rw [h97]; trivial, ?_⟩
      rw [e1]
      refine ⟨by rw [hc34]; trivial, ?_⟩
      rw [e2]
      exact h
theorem it_len (x : It) (h : goodI x) : (ahF x.1 ++ [x.2]).length = itN x.1 := by simp [itN]
theorem st_all (X : List Nat) : ∀ (rem l : List It), (∀ x ∈ rem, goodI x) → X = flatI l ++ flatI rem → l.length + rem.length ≤ 50 → ∀ s, StInv X (flatI l) l s →
    StInv X X (l ++ rem) ((unitsF (flatI rem) (flatI l).length).foldl (stStep X) s) ∧ stOk X (unitsF (flatI rem) (flatI l).length) s
  | [], l, _, hX, _, s, I => by
    have e : X = flatI l := by rw [hX]; simp [flatI]
    refine ⟨?_, trivial⟩
    rw [List.append_nil]
    show StInv X X l s
    rw [← e] at I
    exact I
  | x :: rem, l, h, hX, hl, s, I => by
    have hx := h x (by simp)
    simp only [List.length_cons] at hl
    have hX2 : X = flatI l ++ (ahF x.1 ++ (x.2 :: flatI rem)) := hX
    obtain ⟨I2, ok2⟩ := it_step X (flatI l) (flatI rem) l s x hx hX2 I
    have e1 : flatI (l ++ [x]) = flatI l ++ (ahF x.1 ++ [x.2]) := by rw [flat_app]; rfl
    have e2 : (flatI (l ++ [x])).length = (flatI l).length + itN x.1 := by rw [e1, List.length_append, it_len x hx]
    have eX : X = flatI (l ++ [x]) ++ flatI rem := by rw [e1, hX2]; simp
    rw [← e1] at I2
    obtain ⟨I3, ok3⟩ := st_all X rem (l ++ [x]) (fun y hy => h y (by simp [hy])) eX (by simp; omega) _ I2
    rw [e2] at I3 ok3
    have eu : unitsF (flatI (x :: rem)) (flatI l).length = itU x.1 x.2 (flatI l).length ++ unitsF (flatI rem) ((flatI l).length + itN x.1) := un_item x.1 x.2 _ hx.1 (good_ne hx) _
    rw [eu, List.foldl_append]
    refine ⟨?_, ok2 (by omega) _ ok3⟩
    have ea : l ++ x :: rem = (l ++ [x]) ++ rem := by simp
    rw [ea]
    exact I3
theorem mem34 : ∀ (l : List It), (∀ x ∈ l, goodI x) → 34 ∈ flatI l → (l.any fun x => Nat.beq x.1 3) = true
  | [], _, h => by simp [flatI] at h
  | x :: l, hg, h => by
    have hx := hg x (by simp)
    rw [flatI, List.mem_append, List.mem_cons] at h
    rw [List.any_cons, Bool.or_eq_true]
    rcases h with h | h | h
    · left
      have := hx.1
      have hc : x.1 = 0 ∨ x.1 = 1 ∨ x.1 = 2 ∨ x.1 = 3 ∨ x.1 = 4 := lt5 (by omega)
      rcases hc with e | e | e | e | e <;> rw [e] at h ⊢ <;> simp [ahF] at h ⊢
    · exfalso
      rcases hx.2 with e | e <;> rw [e] at h <;> simp at h
    · right
      exact mem34 l (fun y hy => hg y (by simp [hy])) h
theorem no3 : ∀ (l : List It), (∀ x ∈ l, goodI x) → 34 ∉ flatI l → l.map stI = l
  | [], _, _ => rfl
  | x :: l, hg, h => by
    rw [flatI, List.mem_append, List.mem_cons] at h
    have h1 : 34 ∉ ahF x.1 := fun e => h (.inl e)
    have h2 : 34 ∉ flatI l := fun e => h (.inr (.inr e))
    rw [List.map_cons, no3 l (fun y hy => hg y (by simp [hy])) h2]
    congr 1
    unfold stI
    cases hb : Nat.beq x.1 3 with
    | true =>
      exfalso
      apply h1
      rw [Nat.eq_of_beq_eq_true hb]
      simp [ahF]
    | false => rfl
theorem strip_line (l : List It) (hg : ∀ x ∈ l, goodI x) (hl : l.length ≤ 50) (hne : l ≠ []) : StripOk (flatI l) ∧ stripR (flatI l) = flatI (l.map stI) := by
  have hlen := len_flat l hg
  have hgs : ∀ x ∈ l.map stI, goodI x := by
    intro x hx
    obtain ⟨y, hy, rfl⟩ := List.mem_map.mp hx
    have := hg y hy
    unfold stI
    cases Nat.beq y.1 3 with
    | true => exact ⟨show 0 < 5 by decide, this.2⟩
    | false => exact this
  have hlen2 := len_flat (l.map stI) hgs
  simp only [List.length_map] at hlen2
  obtain ⟨I, ok⟩ := st_all (flatI l) l [] hg (by simp [flatI]) (by simpa using hl) ⟨0, none, []⟩ ⟨rfl, by simp, by simp [flatI], by simp, fun h => absurd rfl h, fun h => by simp at h⟩
  have hF : stripF (flatI l) = flatI (l.map stI) := by
    have := I.out
    simp only [List.nil_append] at this
    unfold stripF stEnd
    rw [List.flatten_append]
    simp only [List.flatten_cons, List.flatten_nil, List.append_nil]
    exact this
  refine ⟨⟨asc_flat l hg, we_flat l hg, by omega, fun h34 => ⟨ok, ?_, ?_, ?_, ?_⟩⟩, ?_⟩
  · exact I.pos (by simpa using mem34 l hg h34)
  · exact I.lt (by simpa using hne)
  · exact Nat.le_trans I.few (by simpa using hl)
  · rw [hF]
    omega
  · unfold stripR
    cases hb : decide (34 ∈ flatI l) with
    | true => exact hF
    | false => rw [no3 l hg (of_decide_eq_false hb)]
structure SizesOk (sz : List Nat) : Prop where
  num : sz.length = 1 ∨ sz.length = 2 ∨ sz.length = 3 ∨ sz.length = 4 ∨ sz.length = 5
  up : upN 0 (padN sz) = true
  len : (eF sz).length ≤ 50
  sg : sgOk (eF sz) ([], 0)
  lasc : ((((eF sz).foldl sgStep ([], 0)).1).all fun c => Nat.blt c 128) = true
  lhd : ∃ cs', ((eF sz).foldl sgStep ([], 0)).1 = 32 :: cs'
  lok : wsOk ((eF sz).foldl sgStep ([], 0)).1 ⟨0, fun _ => 0, 0⟩ = true
theorem edge_par : ∀ (l : List Nat) (last : Nat), ∀ c ∈ edgeF l last, c = 40 ∨ c = 41
  | [], _, c, h => by simp [edgeF] at h
  | x :: r, last, c, h => by
    unfold edgeF at h
    rw [List.mem_append, List.mem_append] at h
    rcases h with (h | h) | h
    · exact .inl (List.eq_of_mem_replicate h)
    · simp at h; exact .inr h
    · exact edge_par r x c h
theorem eF_par (sz : List Nat) : ∀ c ∈ eF sz, c = 40 ∨ c = 41 := by
  intro c h
  unfold eF at h
  rw [List.mem_append] at h
  rcases h with h | h
  · simp at h; exact .inl h
  · exact edge_par _ _ c h
theorem typed_ok (sz cs : List Nat) (H : SizesOk sz) : TypedOk sz cs ∧ leadF sz cs = ((eF sz).foldl sgStep ([], 0)).1 := by
  have hg : ∀ x ∈ itF cs 0 (eF sz), goodI x := by
    intro x hx
    refine ⟨itF_k cs (eF sz) 0 x hx, ?_⟩
    have : x.2 ∈ (itF cs 0 (eF sz)).map (·.2) := List.mem_map_of_mem (f := (·.2)) hx
    rw [itF_snd] at this
    exact eF_par sz _ this
  have hlen : (itF cs 0 (eF sz)).length = (eF sz).length := by
    have := congrArg List.length (itF_snd cs (eF sz) 0)
    simpa using this
  have hEne : eF sz ≠ [] := by simp [eF]
  have hne : itF cs 0 (eF sz) ≠ [] := fun e => by
    rw [e] at hlen
    exact hEne (List.eq_nil_of_length_eq_zero hlen.symm)
  have hL : lineF sz cs = flatI (itF cs 0 (eF sz)) := piece_flat cs (eF sz) 0
  obtain ⟨h1, h2⟩ := strip_line (itF cs 0 (eF sz)) hg (by rw [hlen]; exact H.len) hne
  have hY : stripR (lineF sz cs) = flatI ((itF cs 0 (eF sz)).map stI) := by rw [hL]; exact h2
  have hgs : ∀ x ∈ (itF cs 0 (eF sz)).map stI, goodI x ∧ x.1 ≠ 3 := by
    intro x hx
    obtain ⟨y, hy, rfl⟩ := List.mem_map.mp hx
    have := hg y hy
    unfold stI
    cases hb : Nat.beq y.1 3 with
    | true => exact ⟨⟨show 0 < 5 by decide, this.2⟩, show 0 ≠ 3 by decide⟩
    | false => exact ⟨this, fun e => by rw [e] at hb; exact absurd hb (by decide)⟩
  have hsnd : ((itF cs 0 (eF sz)).map stI).map (·.2) = eF sz := by
    rw [List.map_map]
    have e : ((fun x : It => x.2) ∘ stI) = (·.2) := by
      funext x
      simp only [Function.comp, stI]
      cases Nat.beq x.1 3 <;> rfl
    rw [e]
    exact itF_snd cs (eF sz) 0
  have hlead : leadF sz cs = ((eF sz).foldl sgStep ([], 0)).1 := by
    unfold leadF
    rw [hY, ld_fold _ hgs, hsnd]
  refine ⟨⟨H.num, H.up, Nat.le_trans H.len (by decide), by rw [hL]; exact h1, ?_, ?_, ?_, ?_, ?_, ?_, ?_⟩, hlead⟩
  · rw [hY]; exact asc_flat _ fun x hx => (hgs x hx).1
  · rw [hY]; exact we_flat _ fun x hx => (hgs x hx).1
  · rw [hY]
    intro e
    have : (flatI ((itF cs 0 (eF sz)).map stI)).length = 0 := by rw [e]; rfl
    cases hi : itF cs 0 (eF sz) with
    | nil => exact hne hi
    | cons x r => rw [hi] at this; simp [flatI] at this
  · rw [hY]
    exact ld_ok _ hgs 0 _ (by rw [hsnd]; exact H.sg)
  · rw [hlead]; exact H.lasc
  · rw [hlead]; exact H.lhd
  · rw [hlead]; exact H.lok
end Mine
end
section
open PySem PySem.W PySem.W.X PySem.Builtin.Str
namespace Mine
noncomputable def memC (w : Nat) (u : List Nat) (f1 f2 : Bool) (x : Nat) : Bool := (List.range 90).any fun k => let c := chkCases k; Nat.beq c.1 w && c.2.1 == u && c.2.2.1 == f1 && c.2.2.2.1 == f2 && Nat.beq c.2.2.2.2 x
theorem memC_ok {w : Nat} {u : List Nat} {f1 f2 : Bool} {x : Nat} (h : memC w u f1 f2 x = true) (V : XV) : Chk V w u f1 f2 x := by
  unfold memC at h
  rw [List.any_eq_true] at h
  obtain ⟨k, hk, h⟩ := h
  simp only [Bool.and_eq_true, beq_iff_eq] at h
  obtain ⟨⟨⟨⟨h1, h2⟩, h3⟩, h4⟩, h5⟩ := h
  have h1 := Nat.eq_of_beq_eq_true h1
  have h5 := Nat.eq_of_beq_eq_true h5
  have z := (chk_all V).get (List.mem_range.mp hk)
  rw [h1, h2, h3, h4, h5] at z
  exact z
noncomputable def memN (w : Nat) (u : List Nat) : Bool := (List.range 21).any fun k => let c := nwlCases k; Nat.beq c.1 w && c.2 == u
theorem memN_ok {w : Nat} {u : List Nat} (h : memN w u = true) (V : XV) : Nwl V w u := by
  unfold memN at h
  rw [List.any_eq_true] at h
  obtain ⟨k, hk, h⟩ := h
  simp only [Bool.and_eq_true, beq_iff_eq] at h
  have h1 := Nat.eq_of_beq_eq_true h.1
  have z := (nwl_all V).get (List.mem_range.mp hk)
  rw [h1, h.2] at z
  exact z
noncomputable def splitB (ls : List Str) : Bool := Nat.ble 2 ls.length && !(tooLong (ls.toArray.foldl (· + ·.length + nl.length) 0)) && Nat.ble (glued nl ls).length 1000 && !(decide ((glued nl ls).length < nl.length) || decide (strKind (glued nl ls) < strKind nl)) &&
  !(occurrences (glued nl ls) nl 0 (glued nl ls).length ((glued nl ls).length + 1)).isEmpty && (partsBetween (glued nl ls) (occurrences (glued nl ls) nl 0 (glued nl ls).length ((glued nl ls).length + 1)) nl.length == ls) && Nat.ble ls.length 1000
theorem splitB_ok {ls : List Str} (h : splitB ls = true) : SplitOk ls := by
  simp only [splitB, Bool.and_eq_true, Bool.not_eq_true'] at h
  obtain ⟨⟨⟨⟨⟨⟨h1, h2⟩, h3⟩, h4⟩, h5⟩, h6⟩, h7⟩ := h
  have h3 := Nat.le_of_ble_eq_true h3
  have h7 := Nat.le_of_ble_eq_true h7
  have h1 := Nat.le_of_ble_eq_true h1
  refine ⟨?_, h2, Nat.le_trans h3 (by decide), h4, h5, eq_of_beq h6, Nat.le_trans h7 (by decide)⟩
  rcases ls with _ | ⟨a, _ | ⟨b, r⟩⟩
  · simp at h1
  · simp at h1
  · exact ⟨a, b, r, rfl⟩
structure PgS where
  u : List Nat
  f : Bool
  ls : List Str
noncomputable def pgStep (w : Nat) (s : PgS) (x : Nat) : PgS := ⟨nextU w s.u x, s.f || over w s.u x, growL w s.u x s.ls⟩
noncomputable def pgLines (w : Nat) (x0 x1 x2 x3 x4 : Nat) : List Str :=
  let s := pgStep w (pgStep w (pgStep w (pgStep w (pgStep w ⟨[], false, []⟩ x0) x1) x2) x3) x4
  s.ls ++ [catS s.u]
noncomputable def pgCheck (w : Nat) (f : Bool) (x0 x1 x2 x3 x4 : Nat) : Bool :=
  let s0 : PgS := ⟨[], f, []⟩
  let s1 := pgStep w s0 x0
  let s2 := pgStep w s1 x1
  let s3 := pgStep w s2 x2
  let s4 := pgStep w s3 x3
  let s5 := pgStep w s4 x4
  memC w [] f f x0 && memC w s1.u true s1.f x1 && memC w s2.u true s2.f x2 && memC w s3.u true s3.f x3 && memC w s4.u true s4.f x4 && memN w s5.u && s5.f &&
    Nat.ble s1.ls.length 100 && Nat.ble s2.ls.length 100 && Nat.ble s3.ls.length 100 && Nat.ble s4.ls.length 100 && Nat.ble s5.ls.length 100 && splitB (s5.ls ++ [catS s5.u])
theorem pg_lines (w : Nat) (f : Bool) (x0 x1 x2 x3 x4 : Nat) : let s := pgStep w (pgStep w (pgStep w (pgStep w (pgStep w ⟨[], f, []⟩ x0) x1) x2) x3) x4
    s.ls ++ [catS s.u] = pgLines w x0 x1 x2 x3 x4 := rfl
theorem page3_ok (x0 x1 x2 x3 x4 : Nat) (h : pgCheck 3 false x0 x1 x2 x3 x4 = true) (a3 : Nat) (b : Nat → Nat) (t : Nat → Tok) (m : Nat → Int) : PageC 3 a3 x0 x1 x2 x3 x4 (pgLines 3 x0 x1 x2 x3 x4) (fsTail false false b t m 0 0) := by
  simp only [pgCheck, Bool.and_eq_true] at h
  obtain ⟨⟨⟨⟨⟨⟨⟨⟨⟨⟨⟨⟨h0, h1⟩, h2⟩, h3⟩, h4⟩, h5⟩, hf⟩, l1⟩, l2⟩, l3⟩, l4⟩, l5⟩, hs⟩ := h
  intro V tt e0 n i g tk
  exact page_false (f5 := true) (fun V => memC_ok h0 V) (fun V => memC_ok h1 V) (fun V => memC_ok h2 V) (fun V => memC_ok h3 V) (fun V => memC_ok h4 V) (fun V => memN_ok h5 V) rfl rfl rfl rfl rfl rfl rfl rfl rfl hf rfl rfl rfl rfl rfl
    ⟨Nat.le_of_ble_eq_true l1, Nat.le_of_ble_eq_true l2, Nat.le_of_ble_eq_true l3, Nat.le_of_ble_eq_true l4, Nat.le_of_ble_eq_true l5⟩ (splitB_ok hs) b tt t m a3 e0 n i g tk
theorem page4_ok (x0 x1 x2 x3 x4 : Nat) (h : pgCheck 4 true x0 x1 x2 x3 x4 = true) (a3 : Nat) (b : Nat → Nat) (t : Nat → Tok) (m : Nat → Int) : PageC 4 a3 x0 x1 x2 x3 x4 (pgLines 4 x0 x1 x2 x3 x4) (fsTail true true b t m 0 0) := by
  simp only [pgCheck, Bool.and_eq_true] at h
  obtain ⟨⟨⟨⟨⟨⟨⟨⟨⟨⟨⟨⟨h0, h1⟩, h2⟩, h3⟩, h4⟩, h5⟩, hf⟩, l1⟩, l2⟩, l3⟩, l4⟩, l5⟩, hs⟩ := h
  intro V tt e0 n i g tk
  exact page_true (f5 := true) (fun V => memC_ok h0 V) (fun V => memC_ok h1 V) (fun V => memC_ok h2 V) (fun V => memC_ok h3 V) (fun V => memC_ok h4 V) (fun V => memN_ok h5 V) rfl rfl rfl rfl rfl rfl rfl rfl rfl hf rfl rfl rfl rfl rfl
    ⟨Nat.le_of_ble_eq_true l1, Nat.le_of_ble_eq_true l2, Nat.le_of_ble_eq_true l3, Nat.le_of_ble_eq_true l4, Nat.le_of_ble_eq_true l5⟩ (splitB_ok hs) b tt t m a3 e0 n i g tk
noncomputable def ldOk1B (s : LS) (c : Nat) : Bool := match Nat.beq c 40 with
  | true => true
  | false => match Nat.beq c 41 with
    | true => Nat.ble 1 s.2 && Nat.ble s.2 100 && Nat.ble s.1.length 500 && (!s.1.isEmpty || Nat.ble 2 s.2)
    | false => true
noncomputable def sgB : List Nat → LS → Bool
  | [], _ => true
  | c :: l, s => ldOk1B s c && sgB l (sgStep s c)
theorem sgB_ok : ∀ (l : List Nat) (s : LS), sgB l s = true → sgOk l s
  | [], _, _ => trivial
  | c :: l, s, h => by
    simp only [sgB, Bool.and_eq_true] at h
    refine ⟨fun h1 h2 => ?_, sgB_ok l _ h.2⟩
    have h41 : c = 41 := by simpa using h2
    have hh := h.1
    unfold ldOk1B at hh
    subst h41
    simp only [show Nat.beq 41 40 = false by decide, show Nat.beq 41 41 = true by decide, Bool.and_eq_true, Bool.or_eq_true] at hh
    obtain ⟨⟨⟨a, b⟩, d⟩, e⟩ := hh
    refine ⟨Nat.le_of_ble_eq_true a, Nat.le_of_ble_eq_true b, Nat.le_of_ble_eq_true d, fun e0 => ?_⟩
    rcases e with e | e
    · rw [e0] at e; simp at e
    · exact Nat.le_of_ble_eq_true e
noncomputable def leadE (sz : List Nat) : List Nat := ((eF sz).foldl sgStep ([], 0)).1
noncomputable def hd32 : List Nat → Bool
  | [] => false
  | c :: _ => Nat.beq c 32
theorem hd32_ok : ∀ (l : List Nat), hd32 l = true → ∃ r, l = 32 :: r
  | [], h => by simp [hd32] at h
  | c :: r, h => ⟨r, by rw [Nat.eq_of_beq_eq_true h]⟩
noncomputable def sizesB (sz : List Nat) : Bool := Nat.ble 1 sz.length && Nat.ble sz.length 5 && upN 0 (padN sz) && Nat.ble (eF sz).length 50 && sgB (eF sz) ([], 0) && ((leadE sz).all fun c => Nat.blt c 128) && hd32 (leadE sz) && wsOk (leadE sz) ⟨0, fun _ => 0, 0⟩
theorem sizesB_ok {sz : List Nat} (h : sizesB sz = true) : SizesOk sz := by
  simp only [sizesB, Bool.and_eq_true] at h
  obtain ⟨⟨⟨⟨⟨⟨⟨h1, h2⟩, h3⟩, h4⟩, h5⟩, h6⟩, h7⟩, h8⟩ := h
  have h1 := Nat.le_of_ble_eq_true h1
  have h2 := Nat.le_of_ble_eq_true h2
  exact ⟨r15 h1 h2, h3, Nat.le_of_ble_eq_true h4, sgB_ok _ _ h5, h6, hd32_ok _ h7, h8⟩
noncomputable def maxN (sz : List Nat) : Nat := sz.foldl Nat.max 0
noncomputable def colsN (sz : List Nat) : List Nat := (List.range (maxN sz)).map fun c => (sz.filter fun x => Nat.blt c x).length
noncomputable def szN (ls : List Str) : List Nat := ls.map (·.length)
noncomputable def turnB (w x0 x1 x2 x3 x4 : Nat) : Bool :=
  let ls := pgLines w x0 x1 x2 x3 x4
  let sz := szN ls
  let tz := colsN sz
  (laidF w [wS x1, wS x2, wS x3, wS x4] [] (wS x0) == ls) && (sz.all fun x => Nat.ble 1 x && Nat.ble x 4) && sizesB sz && sizesB tz && (nfK (leadE tz) == nfK (leadE sz)) && Nat.beq (nfS (leadE sz)).b 0 && Nat.beq (nfS (leadE tz)).b 0 &&
    ((picksF sz).all fun x => decide (0 ≤ x.1) && decide (x.1 ≤ 15)) && (mxZ none (sz.map Int.ofNat) == Int.ofNat (maxN sz)) && Nat.ble 1 (maxN sz) && Nat.ble (maxN sz) 5 && (colsZ (sz.map Int.ofNat) 0 (maxN sz) == tz.map Int.ofNat) && agAll (cntE (fun _ => 0) (picksF sz)) (nfK (leadE sz))
theorem turnB_ok {w x0 x1 x2 x3 x4 : Nat} (cs : List Nat) (hx : (x0 = 1 ∨ x0 = 2 ∨ x0 = 3) ∧ (x1 = 1 ∨ x1 = 2 ∨ x1 = 3) ∧ (x2 = 1 ∨ x2 = 2 ∨ x2 = 3) ∧ (x3 = 1 ∨ x3 = 2 ∨ x3 = 3) ∧ (x4 = 1 ∨ x4 = 2 ∨ x4 = 3)) (hw : w = 3 ∨ w = 4) (h : turnB w x0 x1 x2 x3 x4 = true) :
    TurnOk w x0 x1 x2 x3 x4 (pgLines w x0 x1 x2 x3 x4) cs (szN (pgLines w x0 x1 x2 x3 x4)) (colsN (szN (pgLines w x0 x1 x2 x3 x4))) (nfK (leadE (szN (pgLines w x0 x1 x2 x3 x4)))) (leadE (szN (pgLines w x0 x1 x2 x3 x4))) (leadE (colsN (szN (pgLines w x0 x1 x2 x3 x4)))) (maxN (szN (pgLines w x0 x1 x2 x3 x4))) := by
  simp only [turnB, Bool.and_eq_true] at h
  generalize hls : pgLines w x0 x1 x2 x3 x4 = ls at h ⊢
  obtain ⟨⟨⟨⟨⟨⟨⟨⟨⟨⟨⟨⟨h1, h2⟩, h3⟩, h4⟩, h5⟩, h6⟩, h7⟩, h8⟩, h9⟩, h10⟩, h11⟩, h12⟩, h13⟩ := h
  have hs := sizesB_ok h3
  have ht := sizesB_ok h4
  obtain ⟨t1, d1⟩ := typed_ok (szN ls) cs hs
  obtain ⟨t2, d2⟩ := typed_ok (colsN (szN ls)) cs ht
  have hl : (szN ls).length = ls.length := by simp [szN]
  have hn := hs.num
  have h10 := Nat.le_of_ble_eq_true h10
  have h11 := Nat.le_of_ble_eq_true h11
  have h24 : ∀ x ∈ szN ls, 1 ≤ x ∧ x ≤ 4 := by
    intro x hx
    have := List.all_eq_true.mp h2 x hx
    simp only [Bool.and_eq_true] at this
    exact ⟨Nat.le_of_ble_eq_true this.1, Nat.le_of_ble_eq_true this.2⟩
  refine ⟨hx, hw, eq_of_beq h1, ?_, by omega, ?_, rfl, t1, d1, rfl, Nat.eq_of_beq_eq_true h6, ?_, ?_, eq_of_beq h9, r15 h10 h11, eq_of_beq h12, t2, d2, eq_of_beq h5, Nat.eq_of_beq_eq_true h7, h13⟩
  · intro e
    rw [e] at hn
    simp [szN] at hn
  · intro l hl
    have := h24 l.length (List.mem_map_of_mem (f := (·.length)) hl)
    exact Nat.le_trans this.2 (by decide)
  · intro x hx
    have := h24 x hx
    exact r14 this
  · intro x hx
    have := List.all_eq_true.mp h8 x hx
    simp only [Bool.and_eq_true, decide_eq_true_eq] at this
    exact this
noncomputable def cEq (c c' : Nat → Int) : Bool := (c 0 == c' 0) && (c 1 == c' 1) && (c 2 == c' 2) && (c 3 == c' 3) && (c 4 == c' 4) && (c 5 == c' 5)
noncomputable def pairB (x0 x1 x2 x3 x4 : Nat) : Bool :=
  let sz := szN (pgLines 3 x0 x1 x2 x3 x4)
  let sz' := szN (pgLines 4 x0 x1 x2 x3 x4)
  let D := leadE sz' ++ [32]
  (D.all fun c => Nat.blt c 128) && hd32 D && wsOk D ⟨0, fun _ => 0, 0⟩ && Nat.beq (nfS D).b 1 && !(leadE sz').isEmpty && Nat.ble (leadE sz').length 500 &&
    (cEq (cntE (fun _ => 0) (picksF sz)) (cntE (fun _ => 0) (picksF sz')) == (nfK (leadE sz) == nfK (leadE sz')))
noncomputable def wordB (x0 x1 x2 x3 x4 : Nat) : Bool := pgCheck 3 false x0 x1 x2 x3 x4 && pgCheck 4 true x0 x1 x2 x3 x4 && turnB 3 x0 x1 x2 x3 x4 && turnB 4 x0 x1 x2 x3 x4 && pairB x0 x1 x2 x3 x4
theorem wordB_ok (c0 c1 c2 c3 c4 : Nat) (h : wordB (c0 % 3 + 1) (c1 % 3 + 1) (c2 % 3 + 1) (c3 % 3 + 1) (c4 % 3 + 1) = true) : LawOk c0 c1 c2 c3 c4 := by
  have hx : ∀ c, c % 3 + 1 = 1 ∨ c % 3 + 1 = 2 ∨ c % 3 + 1 = 3 := fun c => (lt3 (Nat.mod_lt c (by decide))).imp (congrArg (· + 1)) (Or.imp (congrArg (· + 1)) (congrArg (· + 1)))
  simp only [wordB, Bool.and_eq_true] at h
  obtain ⟨⟨⟨⟨h1, h2⟩, h3⟩, h4⟩, h5⟩ := h
  have T3 := turnB_ok [c0, c1, c2, c3, c4] ⟨hx c0, hx c1, hx c2, hx c3, hx c4⟩ (.inl rfl) h3
  have T4 := turnB_ok [c0, c1, c2, c3, c4] ⟨hx c0, hx c1, hx c2, hx c3, hx c4⟩ (.inr rfl) h4
  simp only [pairB, Bool.and_eq_true] at h5
  obtain ⟨⟨⟨⟨⟨⟨p1, p2⟩, p3⟩, p4⟩, p5⟩, p6⟩, p7⟩ := h5
  refine ⟨_, _, _, _, _, _, _, _, _, _, _, _, _, _, _, T3, T4, fun a3 b t m => page3_ok _ _ _ _ _ h1 a3 b t m, fun a3 b t m => page4_ok _ _ _ _ _ h2 a3 b t m, p1, hd32_ok _ p2, p3, Nat.eq_of_beq_eq_true p4, ?_, Nat.le_of_ble_eq_true p6, rfl, (eq_of_beq p7).symm⟩
  intro e
  rw [e] at p5
  simp at p5
noncomputable def three (f : Nat → Bool) : Bool := f 1 && f 2 && f 3
theorem three_ok {f : Nat → Bool} (h : three f = true) (c : Nat) : f (c % 3 + 1) = true := by
  simp only [three, Bool.and_eq_true] at h
  have : c % 3 = 0 ∨ c % 3 = 1 ∨ c % 3 = 2 := lt3 (Nat.mod_lt c (by decide))
  rcases this with e | e | e <;> rw [e]
  · exact h.1.1
  · exact h.1.2
  · exact h.2
end Mine
end
section
open PySem PySem.W PySem.W.X PySem.Builtin.Str
namespace Mine
theorem wd_111 : (three fun x3 => three fun x4 => wordB 1 1 1 x3 x4) = true := by kernel_rfl
theorem wd_112 : (three fun x3 => three fun x4 => wordB 1 1 2 x3 x4) = true := by kernel_rfl
theorem wd_113 : (three fun x3 => three fun x4 => wordB 1 1 3 x3 x4) = true := by kernel_rfl
theorem wd_121 : (three fun x3 => three fun x4 => wordB 1 2 1 x3 x4) = true := by kernel_rfl
theorem wd_122 : (three fun x3 => three fun x4 => wordB 1 2 2 x3 x4) = true := by kernel_rfl
theorem wd_123 : (three fun x3 => three fun x4 => wordB 1 2 3 x3 x4) = true := by kernel_rfl
theorem wd_131 : (three fun x3 => three fun x4 => wordB 1 3 1 x3 x4) = true := by kernel_rfl
theorem wd_132 : (three fun x3 => three fun x4 => wordB 1 3 2 x3 x4) = true := by kernel_rfl
theorem wd_133 : (three fun x3 => three fun x4 => wordB 1 3 3 x3 x4) = true := by kernel_rfl
theorem wd_211 : (three fun x3 => three fun x4 => wordB 2 1 1 x3 x4) = true := by kernel_rfl
theorem wd_212 : (three fun x3 => three fun x4 => wordB 2 1 2 x3 x4) = true := by kernel_rfl
theorem wd_213 : (three fun x3 => three fun x4 => wordB 2 1 3 x3 x4) = true := by kernel_rfl
theorem wd_221 : (three fun x3 => three fun x4 => wordB 2 2 1 x3 x4) = true := by kernel_rfl
theorem wd_222 : (three fun x3 => three fun x4 => wordB 2 2 2 x3 x4) = true := by kernel_rfl
theorem wd_223 : (three fun x3 => three fun x4 => wordB 2 2 3 x3 x4) = true := by kernel_rfl
theorem wd_231 : (three fun x3 => three fun x4 => wordB 2 3 1 x3 x4) = true := by kernel_rfl
theorem wd_232 : (three fun x3 => three fun x4 => wordB 2 3 2 x3 x4) = true := by kernel_rfl
theorem wd_233 : (three fun x3 => three fun x4 => wordB 2 3 3 x3 x4) = true := by kernel_rfl
theorem wd_311 : (three fun x3 => three fun x4 => wordB 3 1 1 x3 x4) = true := by kernel_rfl
theorem wd_312 : (three fun x3 => three fun x4 => wordB 3 1 2 x3 x4) = true := by kernel_rfl
theorem wd_313 : (three fun x3 => three fun x4 => wordB 3 1 3 x3 x4) = true := by kernel_rfl
theorem wd_321 : (three fun x3 => three fun x4 => wordB 3 2 1 x3 x4) = true := by kernel_rfl
theorem wd_322 : (three fun x3 => three fun x4 => wordB 3 2 2 x3 x4) = true := by kernel_rfl
theorem wd_323 : (three fun x3 => three fun x4 => wordB 3 2 3 x3 x4) = true := by kernel_rfl
theorem wd_331 : (three fun x3 => three fun x4 => wordB 3 3 1 x3 x4) = true := by kernel_rfl
theorem wd_332 : (three fun x3 => three fun x4 => wordB 3 3 2 x3 x4) = true := by kernel_rfl
theorem wd_333 : (three fun x3 => three fun x4 => wordB 3 3 3 x3 x4) = true := by kernel_rfl
theorem and3 {a b c : Bool} (h1 : a = true) (h2 : b = true) (h3 : c = true) : (a && b && c) = true := by rw [h1, h2, h3]; rfl
theorem wd_11 : (three fun x2 => three fun x3 => three fun x4 => wordB 1 1 x2 x3 x4) = true := and3 wd_111 wd_112 wd_113
theorem wd_12 : (three fun x2 => three fun x3 => three fun x4 => wordB 1 2 x2 x3 x4) = true := and3 wd_121 wd_122 wd_123
theorem wd_13 : (three fun x2 => three fun x3 => three fun x4 => wordB 1 3 x2 x3 x4) = true := and3 wd_131 wd_132 wd_133
theorem wd_21 : (three fun x2 => three fun x3 => three fun x4 => wordB 2 1 x2 x3 x4) = true := and3 wd_211 wd_212 wd_213
theorem wd_22 : (three fun x2 => three fun x3 => three fun x4 => wordB 2 2 x2 x3 x4) = true := and3 wd_221 wd_222 wd_223
theorem wd_23 : (three fun x2 => three fun x3 => three fun x4 => wordB 2 3 x2 x3 x4) = true := and3 wd_231 wd_232 wd_233
theorem wd_31 : (three fun x2 => three fun x3 => three fun x4 => wordB 3 1 x2 x3 x4) = true := and3 wd_311 wd_312 wd_313
theorem wd_32 : (three fun x2 => three fun x3 => three fun x4 => wordB 3 2 x2 x3 x4) = true := and3 wd_321 wd_322 wd_323
theorem wd_33 : (three fun x2 => three fun x3 => three fun x4 => wordB 3 3 x2 x3 x4) = true := and3 wd_331 wd_332 wd_333
theorem wd_1 : (three fun x1 => three fun x2 => three fun x3 => three fun x4 => wordB 1 x1 x2 x3 x4) = true := and3 wd_11 wd_12 wd_13
theorem wd_2 : (three fun x1 => three fun x2 => three fun x3 => three fun x4 => wordB 2 x1 x2 x3 x4) = true := and3 wd_21 wd_22 wd_23
theorem wd_3 : (three fun x1 => three fun x2 => three fun x3 => three fun x4 => wordB 3 x1 x2 x3 x4) = true := and3 wd_31 wd_32 wd_33
theorem wd_all5 : (three fun x0 => three fun x1 => three fun x2 => three fun x3 => three fun x4 => wordB x0 x1 x2 x3 x4) = true := and3 wd_1 wd_2 wd_3
theorem law_ok (c0 c1 c2 c3 c4 : Nat) : LawOk c0 c1 c2 c3 c4 :=
  wordB_ok c0 c1 c2 c3 c4 (three_ok (three_ok (three_ok (three_ok (three_ok wd_all5 c0) c1) c2) c3) c4)
end Mine
end
section
open PySem PySem.W PySem.W.X PySem.W.ZRun PyProof.Rows
namespace Mine
noncomputable def freedO : Obj := { cls := .none, data := .freed }
noncomputable def hole (h : Heap) : Heap := { h with objs := ((h.objs.setIfInBounds 206 freedO).setIfInBounds 213 freedO).setIfInBounds 304 freedO }
theorem hole_off (h : Heap) (a : Nat) (ha : a = 206 ∨ a = 213 ∨ a = 304) : (hole h).get? a = none := by
  cases hg : (hole h).get? a with
  | none => rfl
  | some o =>
    exfalso
    obtain ⟨h1, h2⟩ := Heap.get?_some_iff.mp hg
    have e : o = freedO := by
      simp only [hole] at h1
      rcases ha with rfl | rfl | rfl <;> simp [Array.getElem?_setIfInBounds] at h1
      · exact h1.2.symm
      · exact h1.2.symm
      · exact h1.2.symm
    subst e
    simp [freedO, Obj.isFreed] at h2
theorem hole_on (h : Heap) (a : Nat) (h1 : a ≠ 206) (h2 : a ≠ 213) (h3 : a ≠ 304) : (hole h).get? a = h.get? a := by
  unfold Heap.get?
  have e : (hole h).objs[a]? = h.objs[a]? := by
    simp only [hole]
    rw [Array.getElem?_setIfInBounds_ne (Ne.symm h3), Array.getElem?_setIfInBounds_ne (Ne.symm h2), Array.getElem?_setIfInBounds_ne (Ne.symm h1)]
  rw [e]
theorem hole_le (h : Heap) (a : Nat) (o : Obj) (e : (hole h).get? a = some o) : h.get? a = some o := by
  by_cases h1 : a = 206
  · rw [hole_off h a (.inl h1)] at e; cases e
  by_cases h2 : a = 213
  · rw [hole_off h a (.inr (.inl h2))] at e; cases e
  by_cases h3 : a = 304
  · rw [hole_off h a (.inr (.inr h3))] at e; cases e
  rw [hole_on h a h1 h2 h3] at e
  exact e
theorem law_call {w : World} {s₁ : Shared} (ZH : KT.Holds s₁.heap 1 0 (kTop w.params)) (hg : s₁.gens = #[]) (hn : s₁.heap.NoLimit) (vs : List Value) (ns : List Int) (hI : IntsAre vs ns) (hl : ns.length ≤ 63)
    (h304 : s₁.heap.get? 304 = some { cls := .type "list", data := .seq vs.toArray }) (hsz : s₁.heap.objs.size = 305) {Q : Value → Shared → Prop} {E : Value → Shared → Prop}
    (HQ : ∀ s', OldK s₁.heap s'.heap → s'.os = s₁.os → AllBare s'.gens → Q (.bool true) s') : wpAny (model theProg w) callerA (call (.ref 303) [.ref 304]) Q E s₁ := by
  obtain ⟨q, rfl, rfl⟩ := ints_to hI
  have t206 : s₁.heap.get? 206 = some (fsTab 137 19 0 false) := kt_at ZH (a := 206) (by kernel_rfl)
  have t213 : s₁.heap.get? 213 = some (fsTab 140 32 0 false) := kt_at ZH (a := 213) (by kernel_rfl)
  have c206 : isCodeTable s₁.heap 206 := by
    obtain ⟨o, vs, e, h1, h2, h3⟩ : ∃ o vs, (kTop w.params).get 210 = some o ∧ o.cls = .type "code" ∧ o.data = .fields vs ∧ vs[11]? = some (.ref 206) := ⟨_, _, rfl, rfl, rfl, rfl⟩
    exact ⟨210, o, vs, kt_at ZH e, h1, h2, h3⟩
  have c213 : isCodeTable s₁.heap 213 := by
    obtain ⟨o, vs, e, h1, h2, h3⟩ : ∃ o vs, (kTop w.params).get 217 = some o ∧ o.cls = .type "code" ∧ o.data = .fields vs ∧ vs[11]? = some (.ref 213) := ⟨_, _, rfl, rfl, rfl, rfl⟩
    exact ⟨217, o, vs, kt_at ZH e, h1, h2, h3⟩
  let V : XV := { prog := theProg, w := w, h₀ := hole s₁.heap, n₁ := 0, kt := .nil, tabs := [], A₀ := callerA, R₀ := fun _ _ => True, d := s₁.drawn, t₀ := 0, os := s₁.os }
  have B : Base V 650 := by
    refine ⟨rfl, ?_, ?_, by show callerA.depth + 650 < recursionLimit; decide, by show callerA.units + 650 < cLine; decide⟩
    · intro a o e
      show (hole s₁.heap).get? a = some o
      have e2 : topF w.params a = some o := e
      unfold topF at e2
      cases hi : isTab a with
      | true => rw [hi] at e2; cases e2
      | false =>
        rw [hi] at e2
        have e3 : (kTop w.params).get a = some o := e2
        have h304n : a ≠ 304 := by
          intro e4
          subst e4
          have : (kTop w.params).get 304 = none := by kernel_rfl
          rw [this] at e3
          cases e3
        have h1 : a ≠ 206 := fun e4 => by subst e4; simp [isTab] at hi
        have h2 : a ≠ 213 := fun e4 => by subst e4; simp [isTab] at hi
        rw [hole_on _ _ h1 h2 h304n]
        exact kt_at ZH e3
    · obtain ⟨mc, ⟨o, es, ep, ho, r⟩, hm⟩ := hn
      exact ⟨mc, ⟨o, es, ep, by
        show (hole s₁.heap).get? cStatics = some o
        rw [hole_on _ _ (by decide) (by decide) (by decide)]
        exact ho, r⟩, hm⟩
  have C := ((law_fn (V := V) law_ok q (by simp at hl; omega) 0 (fun _ => 0) (fun _ => 0) (fun _ => 0) 0 s₁.toks 0).g).codeE B
  have S : Sat V (((304, oSeq "list" (vals q).toArray 0) :: fsTail false false (fun _ => 0) (fun _ => 0) (fun _ => 0) 0 0) ++ []) (0 + 305) s₁.toks 0 [] s₁ := by
    refine ⟨hsz, rfl, by rw [hg]; rfl, fun p hp => by simp at hp, by simp, by rw [hg]; exact AllBare.empty, rfl, rfl, ?_, by simp [fsTail], ?_, fun b o e => hole_le _ b o e⟩
    · intro p hp
      simp only [fsTail, List.append_nil, List.mem_cons, List.not_mem_nil, or_false] at hp
      rcases hp with rfl | rfl | rfl
      · exact h304
      · exact t206
      · exact t213
    · intro p hp
      simp only [fsTail, List.append_nil, List.mem_cons, List.not_mem_nil, or_false] at hp
      rcases hp with rfl | rfl | rfl
      · exact hole_off _ _ (.inr (.inr rfl))
      · exact hole_off _ _ (.inl rfl)
      · exact hole_off _ _ (.inr (.inl rfl))
  refine wpAny_call (C callerA ⟨rfl, by decide, by decide⟩ [] [] s₁ S _ ?_)
  rintro r L' n' i' g' ⟨v, rfl, rfl, z1, z2, rfl⟩ s' S'
  refine HQ s' ⟨?_, ?_⟩ S'.os S'.bare
  · intro b o e
    by_cases h1 : b = 206
    · subst h1
      rw [t206] at e
      cases e
      exact .inr (.inl ⟨c206, rfl, #[], #[.int 137 0, .int 19 0, .ref (z1 + 305)], rfl, S'.led (206, fsTab 137 19 z1 true) (by simp)⟩)
    by_cases h2 : b = 213
    · subst h2
      rw [t213] at e
      cases e
      exact .inr (.inl ⟨c213, rfl, #[], #[.int 140 0, .int 32 0, .ref (z2 + 305)], rfl, S'.led (213, fsTab 140 32 z2 true) (by simp)⟩)
    by_cases h3 : b = 304
    · subst h3
      rw [h304] at e
      cases e
      exact .inl (S'.led (304, oSeq "list" (vals q).toArray 0) (by simp))
    · refine .inl (S'.keep b o ?_)
      show (hole s₁.heap).get? b = some o
      rw [hole_on _ _ h1 h2 h3]
      exact e
  · intro b o e
    by_cases h1 : b = 206
    · subst h1; exact ⟨_, S'.led (206, fsTab 137 19 z1 true) (by simp)⟩
    by_cases h2 : b = 213
    · subst h2; exact ⟨_, S'.led (213, fsTab 140 32 z2 true) (by simp)⟩
    by_cases h3 : b = 304
    · subst h3; exact ⟨_, S'.led (304, oSeq "list" (vals q).toArray 0) (by simp)⟩
    · refine ⟨o, S'.keep b o ?_⟩
      show (hole s₁.heap).get? b = some o
      rw [hole_on _ _ h1 h2 h3]
      exact e
end Mine
end
section
open PySem PySem.W PySem.W.X PySem.W.ZRun PyProof.Rows
namespace Mine
theorem well_list {P : Params} {h : Heap} {a : Addr} {xs : List WData} (W : Well P h (.ref a) (.list xs)) : ∃ vs : List Value, h.get? a = some { cls := .type "list", data := .seq vs.toArray } := by
  cases W with
  | list e r => exact ⟨_, e⟩
theorem law_call2 {w : World} {s₁ : Shared} (ZH : KT.Holds s₁.heap 1 0 (kTop w.params)) (hg : s₁.gens = #[]) (hn : s₁.heap.NoLimit) {vs : List Value} {ns : List Int} (hI : IntsAre vs ns) (hl : ns.length ≤ 63)
    (hL : s₁.heap.IsList 304 vs.toArray) {P : Params} {xs : List WData} (W : Well P s₁.heap (.ref 304) (.list xs)) (hsz : s₁.heap.objs.size = 305) {Q : Value → Shared → Prop} {E : Value → Shared → Prop}
    (HQ : ∀ s', OldK s₁.heap s'.heap → s'.os = s₁.os → AllBare s'.gens → Q (.bool true) s') : wpAny (model theProg w) callerA (call (.ref 303) [.ref 304]) Q E s₁ := by
  obtain ⟨us, hu⟩ := well_list W
  obtain ⟨o, ho, hc, n, hdat⟩ := hL
  have e : us = vs := by
    rw [hu] at ho
    cases ho
    simp only [Data.seq.injEq] at hdat
    simpa using hdat.1
  subst e
  exact law_call ZH hg hn us ns hI hl hu hsz HQ
theorem good_end {c : ClaimW} {cl : Str → Option Addr} {mean : ExcName → Option Value} {args : List WData} {s₁ s' : Shared} (hr : ∀ cls, c.raises args cls = false) (hp : c.post args (.bool true) args = true)
    (hK : OldK s₁.heap s'.heap) (ho : s'.os = s₁.os) (hb : AllBare s'.gens) : GoodWG c cl mean args s₁ (.ok (.ret (.bool true))) s' :=
  ⟨.inl ⟨_, _, [], rfl, hr, ReadsW.bool true, hp, fun _ => ⟨List.nodup_nil, fun _ hm => (nomatch hm)⟩⟩, hK, ho, hb⟩
end Mine
end
open PySem PySem.W PySem.W.X PySem.W.ZRun PyProof.Rows
theorem PySem.Challenge.cw_tc0064_01_holds : PySem.Challenge.rw_tc0064_01.Holds := by
  w_on
  refine holds_law Mine.okX fun said => ?_
  refine holds_openX (q := Mine.vX) (loose := Mine.lX) (Xt := Mine.xX) (XP := XL Mine.vX []) (Yf := PySem.W.X.obsZ Mine.asX) (Ya := PySem.W.X.valZ heap_275 304 585) (N := 3800) Mine.leftX (fun s e => xl_of s (Bool.and_eq_true_iff.mp e).1) XL.keeps (by rfl) (by rfl) (by rfl) (fun s e => recFacts_of (Bool.and_eq_true_iff.mp e).2) (by rfl) (by first | assumption | decide +kernel) (by decide +kernel) ⟨rfl, rfl, rfl, rfl, rfl, by decide +kernel⟩ ?hw ?hc
  case hw => w_witness2
  k_fill
  intro w s₀ s₁ mg mb G y fa o pm cd doc dV kV ho hd hcd hD hmg hg args vals as L hpre hlay hrd hwl hlo
  z_open y L KX ZH ZN ZT
  refine Ground.open G ?_
  intro T B D TE TW
  wrow_args hpre hlay hrd hwl hlo
  obtain ⟨hat, hsz⟩ := script_at L
  have htk := script_toks L ZT
  rw [ZN] at hat hsz
  subst hat
  x_fa T KX hmg
  all_lens
  rename_i hcondA hcondB _ _ _ _ _ _ _
  exact Mine.law_call2 ZH hg T.nolimit ‹IntsAre _ _› (by omega) ‹Heap.IsList _ _ _› ‹Well _ _ _ _› hsz fun s' hK hos hb => Mine.good_end (fun _ => rfl) (by kernel_rfl) hK hos hb
