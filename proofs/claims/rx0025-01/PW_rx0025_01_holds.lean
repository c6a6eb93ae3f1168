import PyProof.Rows.All
import Wide.All
import OpenK.AllK
import Wide.FinOn
import KE.KStar
import KE.LcTurns
import PySem.Challenge.RW_rx0025_01
set_option Elab.async false
set_option linter.all false
section
open PySem PySem.W PyProof.Rows
set_option maxRecDepth 100000
set_option maxHeartbeats 0
namespace Mine
noncomputable section
noncomputable abbrev rw0 : OpenLaw := PySem.Challenge.rw_rx0025_01
noncomputable abbrev mb : List Stmt := rw0.prog.main.body
noncomputable def fnP : Option Stmt → Arguments × List Stmt × Scope
  | some (.FunctionDef _ a b _ _ _ s _ _ _) => (a, b, s)
  | _ => (⟨[], [], none, [], [], none, []⟩, [], ⟨.function, [], false, false, []⟩)
noncomputable def clP : Option Stmt → List Stmt
  | some (.ClassDef _ _ _ b _ _ _ _ _ _ _) => b
  | _ => []
noncomputable abbrev lf : Life := {}
noncomputable def o_282 (P : Params) : Obj := Obj.mk (.type "tuple") none (Data.seq #[.str (.ofString "_nfinished") 697, .str (.ofString "_node2info") 698, .str (.ofString "_npassedout") 699, .str (.ofString "_ready_nodes") 700]) #[]
noncomputable abbrev fo_218 : Option Stmt := (clP mb[16]?)[0]?
noncomputable def o_218 (P : Params) : Obj := Obj.mk .none none (Data.func (FuncData.mk (.ofString "__init__") (.ofString "TopologicalSorter.__init__") (fnP fo_218).1 (FuncBody.stmts (fnP fo_218).2.1) (fnP fo_218).2.2 0 [] .none .none .none .none none .none .none 0)) #[]
noncomputable def o_250 (P : Params) : Obj := Obj.mk (.type "tuple") none (Data.seq #[]) #[]
noncomputable def o_182 (P : Params) : Obj := Obj.mk (.type "dict") none (Data.dict #[DictEntry.mk (PyData.keyHash P (.ofString "__module__")) (.str (.ofString "__module__") 542) (.str (.ofString "cpy313.graphlib") 527), DictEntry.mk (PyData.keyHash P (.ofString "__firstlineno__")) (.str (.ofString "__firstlineno__") 546) (.int 112 545), DictEntry.mk (PyData.keyHash P (.ofString "__slots__")) (.str (.ofString "__slots__") 550) (.ref 84), DictEntry.mk (PyData.keyHash P (.ofString "__init__")) (.str (.ofString "__init__") 558) (.ref 91), DictEntry.mk (PyData.keyHash P (.ofString "__static_attributes__")) (.str (.ofString "__static_attributes__") 562) (.ref 92), DictEntry.mk (PyData.keyHash P (.ofString "node")) (.str (.ofString "node") 564) (.ref 96), DictEntry.mk (PyData.keyHash P (.ofString "npredecessors")) (.str (.ofString "npredecessors") 566) (.ref 97), DictEntry.mk (PyData.keyHash P (.ofString "successors")) (.str (.ofString "successors") 568) (.ref 98), DictEntry.mk (PyData.keyHash P (.ofString "__doc__")) (.str (.ofString "__doc__") 569) .none] 5) #[]
noncomputable abbrev fo_148 : Option Stmt := mb[7]?
noncomputable def o_148 (P : Params) : Obj := Obj.mk (.type "function") none (Data.func (FuncData.mk (.ofString "escape") (.ofString "escape") (fnP fo_148).1 (FuncBody.stmts (fnP fo_148).2.1) (fnP fo_148).2.2 3 [] .none .none .none (.str (.ofString "re") 338) none (.ref 61) .none 0)) #[]
noncomputable def o_266 (P : Params) : Obj := Obj.mk (.type "code") none (Data.fields #[.str (.ofString "done") 663, .str (.ofString "TopologicalSorter.done") 664, .str (.ofString "/claim/cut.py") 665, .int 173 0, .int 1 0, .int 0 0, .int 0 0, .int 7 0, .ref 169, .bool true, .int 276 0, .ref 170, .none, .ref 171, .ref 172, .ref 173, .int 674 0, .int 173 0, .str (.ofString "/claim/cut.py") 675]) #[]
noncomputable def o_200 (P : Params) : Obj := Obj.mk (.type "type") none (Data.cls (ClassData.mk (.ofString "CycleError") [.type "ValueError"] [.ref 110, .type "ValueError", .type "Exception", .type "BaseException", .type "object"] 109 (.ofString "CycleError") true [] [] false none false)) #[some (.ref 101), none, some (.str (.ofString "CycleError") 572), some (.str (.ofString "CycleError") 580), some (.builtin "ValueError.__new__"), some (.bool true)]
noncomputable abbrev fo_234 : Option Stmt := (clP mb[16]?)[2]?
noncomputable def o_234 (P : Params) : Obj := Obj.mk (.type "function") none (Data.func (FuncData.mk (.ofString "add") (.ofString "TopologicalSorter.add") (fnP fo_234).1 (FuncBody.stmts (fnP fo_234).2.1) (fnP fo_234).2.2 3 [] .none .none .none (.str (.ofString "cpy313.graphlib") 527) none (.ref 141) .none 0)) #[]
noncomputable def o_166 (P : Params) : Obj := Obj.mk (.type "builtin_function_or_method") none (Data.fields #[.builtin "type.__prepare__", .type "type"]) #[]
noncomputable def o_91 (P : Params) : Obj := Obj.mk (.type "tuple") none (Data.seq #[.str (.ofString "pat") 332, .str (.ofString "STAR") 333, .str (.ofString "parts") 334]) #[]
noncomputable def o_71 (P : Params) : Obj := Obj.mk (.type "code") none (Data.fields #[.str (.ofString "<module>") 277, .str (.ofString "<module>") 278, .str (.ofString "/claim/cut.py") 279, .int 1 0, .int 0 0, .int 0 0, .int 0 0, .int 0 0, .ref 28, .bool false, .int 276 0, .ref 29, .none, .none, .none, .none, .int 280 0, .int 1 0, .str (.ofString "/claim/cut.py") 281]) #[]
noncomputable abbrev fo_274 : Option Stmt := (clP mb[16]?)[8]?
noncomputable def o_274 (P : Params) : Obj := Obj.mk (.type "function") none (Data.func (FuncData.mk (.ofString "_find_cycle") (.ofString "TopologicalSorter._find_cycle") (fnP fo_274).1 (FuncBody.stmts (fnP fo_274).2.1) (fnP fo_274).2.2 3 [] .none .none .none (.str (.ofString "cpy313.graphlib") 527) none (.ref 181) .none 0)) #[]
noncomputable def o_210 (P : Params) : Obj := Obj.mk .none none (Data.fields #[.int 123 0, .int 4 0, .ref 127, .int 132 0, .int 4 0, .ref 134, .int 137 0, .int 4 0, .ref 141, .int 146 0, .int 4 0, .ref 146, .int 154 0, .int 4 0, .ref 153, .int 165 0, .int 4 0, .ref 160, .int 170 0, .int 4 0, .ref 167, .int 173 0, .int 4 0, .ref 174, .int 196 0, .int 4 0, .ref 181, .int 225 0, .int 4 0, .ref 188]) #[]
noncomputable def o_242 (P : Params) : Obj := Obj.mk (.type "tuple") none (Data.seq #[.str (.ofString "self") 642, .str (.ofString "result") 643, .str (.ofString "n2i") 644, .str (.ofString "node") 645]) #[]
noncomputable def o_174 (P : Params) : Obj := Obj.mk .none none (Data.fields #[]) #[]
noncomputable def o_100 (P : Params) : Obj := Obj.mk (.type "tuple") none (Data.seq #[]) #[]
noncomputable abbrev fo_258 : Option Stmt := (clP mb[16]?)[6]?
noncomputable def o_258 (P : Params) : Obj := Obj.mk .none none (Data.func (FuncData.mk (.ofString "__bool__") (.ofString "TopologicalSorter.__bool__") (fnP fo_258).1 (FuncBody.stmts (fnP fo_258).2.1) (fnP fo_258).2.2 0 [] .none .none .none .none none .none .none 0)) #[]
noncomputable def o_192 (P : Params) : Obj := Obj.mk (.type "builtin_function_or_method") none (Data.fields #[.builtin "type.__prepare__", .type "type"]) #[]
noncomputable def o_226 (P : Params) : Obj := Obj.mk (.type "code") none (Data.fields #[.str (.ofString "_get_nodeinfo") 612, .str (.ofString "TopologicalSorter._get_nodeinfo") 613, .str (.ofString "/claim/cut.py") 614, .int 132 0, .int 2 0, .int 0 0, .int 0 0, .int 3 0, .ref 129, .bool true, .int 276 0, .ref 130, .none, .ref 131, .ref 132, .ref 133, .int 618 0, .int 132 0, .str (.ofString "/claim/cut.py") 619]) #[]
noncomputable def o_156 (P : Params) : Obj := Obj.mk (.type "tuple") none (Data.seq #[]) #[]
noncomputable abbrev fo_83 : Option Stmt := mb[1]?
noncomputable def o_83 (P : Params) : Obj := Obj.mk (.type "function") none (Data.func (FuncData.mk (.ofString "_wall") (.ofString "_wall") (fnP fo_83).1 (FuncBody.stmts (fnP fo_83).2.1) (fnP fo_83).2.2 3 [] .none .none .none (.str (.ofString "__main__") 164) none (.ref 37) .none 0)) #[]
noncomputable def o_63 (P : Params) : Obj := Obj.mk (.type "type") none (Data.cls (ClassData.mk (.ofString "ModuleSpec") [.type "object"] [.ref 22, .type "object"] 21 (.ofString "ModuleSpec") true [] [] false none false)) #[]
noncomputable def o_55 (P : Params) : Obj := Obj.mk (.type "type") none (Data.cls (ClassData.mk (.ofString "BuiltinImporter") [.type "object"] [.ref 14, .type "object"] 13 (.ofString "BuiltinImporter") true [] [] false none false)) #[]
noncomputable def o_278 (P : Params) : Obj := Obj.mk (.type "tuple") none (Data.seq #[]) #[]
noncomputable def o_214 (P : Params) : Obj := Obj.mk (.type "tuple") none (Data.seq #[]) #[]
noncomputable abbrev fo_246 : Option Stmt := (clP mb[16]?)[4]?
noncomputable def o_246 (P : Params) : Obj := Obj.mk (.type "function") none (Data.func (FuncData.mk (.ofString "get_ready") (.ofString "TopologicalSorter.get_ready") (fnP fo_246).1 (FuncBody.stmts (fnP fo_246).2.1) (fnP fo_246).2.2 3 [] .none .none .none (.str (.ofString "cpy313.graphlib") 527) none (.ref 153) .none 0)) #[]
noncomputable def o_178 (P : Params) : Obj := Obj.mk (.type "code") none (Data.fields #[.str (.ofString "__init__") 551, .str (.ofString "_NodeInfo.__init__") 552, .str (.ofString "/claim/cut.py") 553, .int 115 0, .int 2 0, .int 0 0, .int 0 0, .int 3 0, .ref 85, .bool true, .int 276 0, .ref 86, .none, .ref 87, .ref 88, .ref 89, .int 556 0, .int 115 0, .str (.ofString "/claim/cut.py") 557]) #[]
noncomputable def o_144 (P : Params) : Obj := Obj.mk (.type "tuple") none (Data.seq #[.str (.ofString "pattern") 489]) #[]
noncomputable def o_262 (P : Params) : Obj := Obj.mk .none none (Data.fields #[]) #[]
noncomputable def o_196 (P : Params) : Obj := Obj.mk (.type "code") none (Data.fields #[.str (.ofString "CycleError") 574, .str (.ofString "CycleError") 575, .str (.ofString "/claim/cut.py") 576, .int 119 0, .int 0 0, .int 0 0, .int 0 0, .int 0 0, .ref 104, .bool false, .int 276 0, .ref 105, .none, .none, .none, .none, .int 577 0, .int 119 0, .str (.ofString "/claim/cut.py") 578]) #[]
noncomputable def o_230 (P : Params) : Obj := Obj.mk (.type "tuple") none (Data.seq #[.str (.ofString "self") 624, .str (.ofString "node") 625, .str (.ofString "predecessors") 626, .str (.ofString "nodeinfo") 627, .str (.ofString "pred") 628, .str (.ofString "pred_info") 629]) #[]
noncomputable abbrev fo_160 : Option Stmt := mb[10]?
noncomputable def o_160 (P : Params) : Obj := Obj.mk .none none (Data.func (FuncData.mk (.ofString "_join_translated_parts") (.ofString "_join_translated_parts") (fnP fo_160).1 (FuncBody.stmts (fnP fo_160).2.1) (fnP fo_160).2.2 0 [] .none .none .none .none none .none .none 0)) #[]
noncomputable def o_87 (P : Params) : Obj := Obj.mk (.type "tuple") none (Data.seq #[.int 14 0, .int 14 0, .int 4 0, .int 1 0, .int 1 0, .int 9 0, .int 0 0, .int 64 0, .int 0 0, .int 1342177280 0, .int 0 0, .int 0 0, .int 0 0, .int 0 0, .int 0 0, .int 17 0, .int 0 0, .int 13 0, .int 11 0, .int 9 0, .int 0 0, .int 64 0, .int 0 0, .int 1342177280 0, .int 0 0, .int 0 0, .int 0 0, .int 0 0, .int 0 0, .int 17 0, .int 1 0, .int 1 0]) #[]
noncomputable def o_67 (P : Params) : Obj := Obj.mk (.ref 22) (some 20) Data.plain #[]
noncomputable def o_270 (P : Params) : Obj := Obj.mk (.type "tuple") none (Data.seq #[.str (.ofString "self") 680, .str (.ofString "n2i") 681, .str (.ofString "stack") 682, .str (.ofString "itstack") 683, .str (.ofString "seen") 684, .str (.ofString "node2stacki") 685, .str (.ofString "node") 686]) #[]
noncomputable def o_206 (P : Params) : Obj := Obj.mk (.type "tuple") none (Data.seq #[]) #[]
noncomputable def o_238 (P : Params) : Obj := Obj.mk (.type "code") none (Data.fields #[.str (.ofString "prepare") 633, .str (.ofString "TopologicalSorter.prepare") 634, .str (.ofString "/claim/cut.py") 635, .int 146 0, .int 1 0, .int 0 0, .int 0 0, .int 3 0, .ref 143, .bool true, .int 276 0, .ref 144, .none, .none, .none, .ref 145, .int 636 0, .int 146 0, .str (.ofString "/claim/cut.py") 637]) #[]
noncomputable def o_170 (P : Params) : Obj := Obj.mk (.type "code") none (Data.fields #[.str (.ofString "_NodeInfo") 537, .str (.ofString "_NodeInfo") 538, .str (.ofString "/claim/cut.py") 539, .int 112 0, .int 0 0, .int 0 0, .int 0 0, .int 0 0, .ref 80, .bool false, .int 276 0, .ref 81, .none, .none, .none, .none, .int 540 0, .int 112 0, .str (.ofString "/claim/cut.py") 541]) #[]
noncomputable abbrev fo_95 : Option Stmt := mb[4]?
noncomputable def o_95 (P : Params) : Obj := Obj.mk (.type "function") none (Data.func (FuncData.mk (.ofString "translate") (.ofString "translate") (fnP fo_95).1 (FuncBody.stmts (fnP fo_95).2.1) (fnP fo_95).2.2 3 [] .none .none .none (.str (.ofString "cpy313.fnmatch") 289) none (.ref 49) .none 0)) #[]
noncomputable def o_254 (P : Params) : Obj := Obj.mk (.type "tuple") none (Data.seq #[]) #[]
noncomputable def o_186 (P : Params) : Obj := Obj.mk (.type "member_descriptor") none (Data.fields #[.str (.ofString "successors") 567, .ref 95, .builtin "proto.slot", .builtin "proto.slot#set", .int 0 0]) #[]
noncomputable def o_286 (P : Params) : Obj := Obj.mk (.type "getset_descriptor") none (Data.fields #[.str (.ofString "__weakref__") 704, .ref 192, .builtin "ExceptionGroup.__weakref__", .none]) #[]
noncomputable def o_222 (P : Params) : Obj := Obj.mk .none none (Data.fields #[]) #[]
noncomputable def o_152 (P : Params) : Obj := Obj.mk (.type "tuple") none (Data.seq #[]) #[]
noncomputable def o_79 (P : Params) : Obj := Obj.mk (.type "tuple") none (Data.seq #[.str (.ofString "k") 285]) #[]
noncomputable def o_59 (P : Params) : Obj := Obj.mk .none none (Data.seq #[.int 13 0, .str (⟨#[6, 189, 10, 95, 95, 109, 111, 100, 117, 108, 101, 95, 95, 6, 186, 17, 95, 102, 114, 111, 122, 101, 110, 95, 105, 109, 112, 111, 114, 116, 108, 105, 98, 6, 190, 15, 95, 95, 102, 105, 114, 115, 116, 108, 105, 110, 101, 110, 111, 95, 95, 4, 187, 0, 971, 6, 191, 7, 95, 95, 100, 111, 99, 95, 95, 9, 52, 95, 102, 114, 111, 122, 101, 110, 95, 105, 109, 112, 111, 114, 116, 108, 105, 98, 46, 66, 117, 105, 108, 116, 105, 110, 73, 109, 112, 111, 114, 116, 101, 114, 46, 95, 95, 100, 111, 99, 95, 95, 58, 115, 116, 114, 35, 111, 112, 97, 113, 117, 101, 6, 192, 7, 95, 79, 82, 73, 71, 73, 78, 6, 188, 8, 98, 117, 105, 108, 116, 45, 105, 110, 6, 193, 9, 102, 105, 110, 100, 95, 115, 112, 101, 99, 9, 50, 95, 102, 114, 111, 122, 101, 110, 95, 105, 109, 112, 111, 114, 116, 108, 105, 98, 46, 66, 117, 105, 108, 116, 105, 110, 73, 109, 112, 111, 114, 116, 101, 114, 46, 102, 105, 110, 100, 95, 115, 112, 101, 99, 35, 111, 112, 97, 113, 117, 101, 6, 194, 13, 99, 114, 101, 97, 116, 101, 95, 109, 111, 100, 117, 108, 101, 9, 54, 95, 102, 114, 111, 122, 101, 110, 95, 105, 109, 112, 111, 114, 116, 108, 105, 98, 46, 66, 117, 105, 108, 116, 105, 110, 73, 109, 112, 111, 114, 116, 101, 114, 46, 99, 114, 101, 97, 116, 101, 95, 109, 111, 100, 117, 108, 101, 35, 111, 112, 97, 113, 117, 101, 6, 195, 11, 101, 120, 101, 99, 95, 109, 111, 100, 117, 108, 101, 9, 52, 95, 102, 114, 111, 122, 101, 110, 95, 105, 109, 112, 111, 114, 116, 108, 105, 98, 46, 66, 117, 105, 108, 116, 105, 110, 73, 109, 112, 111, 114, 116, 101, 114, 46, 101, 120, 101, 99, 95, 109, 111, 100, 117, 108, 101, 35, 111, 112, 97, 113, 117, 101, 6, 196, 8, 103, 101, 116, 95, 99, 111, 100, 101, 9, 49, 95, 102, 114, 111, 122, 101, 110, 95, 105, 109, 112, 111, 114, 116, 108, 105, 98, 46, 66, 117, 105, 108, 116, 105, 110, 73, 109, 112, 111, 114, 116, 101, 114, 46, 103, 101, 116, 95, 99, 111, 100, 101, 35, 111, 112, 97, 113, 117, 101, 6, 197, 10, 103, 101, 116, 95, 115, 111, 117, 114, 99, 101, 9, 51, 95, 102, 114, 111, 122, 101, 110, 95, 105, 109, 112, 111, 114, 116, 108, 105, 98, 46, 66, 117, 105, 108, 116, 105, 110, 73, 109, 112, 111, 114, 116, 101, 114, 46, 103, 101, 116, 95, 115, 111, 117, 114, 99, 101, 35, 111, 112, 97, 113, 117, 101, 6, 198, 10, 105, 115, 95, 112, 97, 99, 107, 97, 103, 101, 9, 51, 95, 102, 114, 111, 122, 101, 110, 95, 105, 109, 112, 111, 114, 116, 108, 105, 98, 46, 66, 117, 105, 108, 116, 105, 110, 73, 109, 112, 111, 114, 116, 101, 114, 46, 105, 115, 95, 112, 97, 99, 107, 97, 103, 101, 35, 111, 112, 97, 113, 117, 101, 6, 199, 11, 108, 111, 97, 100, 95, 109, 111, 100, 117, 108, 101, 9, 52, 95, 102, 114, 111, 122, 101, 110, 95, 105, 109, 112, 111, 114, 116, 108, 105, 98, 46, 66, 117, 105, 108, 116, 105, 110, 73, 109, 112, 111, 114, 116, 101, 114, 46, 108, 111, 97, 100, 95, 109, 111, 100, 117, 108, 101, 35, 111, 112, 97, 113, 117, 101, 6, 200, 21, 95, 95, 115, 116, 97, 116, 105, 99, 95, 97, 116, 116, 114, 105, 98, 117, 116, 101, 115, 95, 95, 4, 0, 0, 15, 6, 202, 8, 95, 95, 100, 105, 99, 116, 95, 95, 4, 0, 0, 16, 6, 204, 11, 95, 95, 119, 101, 97, 107, 114, 101, 102, 95, 95, 4, 0, 0, 17]⟩) 0, .bool true, .bool true, .str (.ofString "") 205, .int 21 0, .str (⟨#[6, 227, 10, 95, 95, 109, 111, 100, 117, 108, 101, 95, 95, 6, 217, 17, 95, 102, 114, 111, 122, 101, 110, 95, 105, 109, 112, 111, 114, 116, 108, 105, 98, 6, 228, 15, 95, 95, 102, 105, 114, 115, 116, 108, 105, 110, 101, 110, 111, 95, 95, 4, 218, 0, 562, 6, 229, 7, 95, 95, 100, 111, 99, 95, 95, 9, 47, 95, 102, 114, 111, 122, 101, 110, 95, 105, 109, 112, 111, 114, 116, 108, 105, 98, 46, 77, 111, 100, 117, 108, 101, 83, 112, 101, 99, 46, 95, 95, 100, 111, 99, 95, 95, 58, 115, 116, 114, 35, 111, 112, 97, 113, 117, 101, 6, 230, 8, 95, 95, 105, 110, 105, 116, 95, 95, 9, 44, 95, 102, 114, 111, 122, 101, 110, 95, 105, 109, 112, 111, 114, 116, 108, 105, 98, 46, 77, 111, 100, 117, 108, 101, 83, 112, 101, 99, 46, 95, 95, 105, 110, 105, 116, 95, 95, 35, 111, 112, 97, 113, 117, 101, 6, 231, 8, 95, 95, 114, 101, 112, 114, 95, 95, 9, 44, 95, 102, 114, 111, 122, 101, 110, 95, 105, 109, 112, 111, 114, 116, 108, 105, 98, 46, 77, 111, 100, 117, 108, 101, 83, 112, 101, 99, 46, 95, 95, 114, 101, 112, 114, 95, 95, 35, 111, 112, 97, 113, 117, 101, 6, 232, 6, 95, 95, 101, 113, 95, 95, 9, 42, 95, 102, 114, 111, 122, 101, 110, 95, 105, 109, 112, 111, 114, 116, 108, 105, 98, 46, 77, 111, 100, 117, 108, 101, 83, 112, 101, 99, 46, 95, 95, 101, 113, 95, 95, 35, 111, 112, 97, 113, 117, 101, 6, 233, 6, 99, 97, 99, 104, 101, 100, 9, 42, 95, 102, 114, 111, 122, 101, 110, 95, 105, 109, 112, 111, 114, 116, 108, 105, 98, 46, 77, 111, 100, 117, 108, 101, 83, 112, 101, 99, 46, 99, 97, 99, 104, 101, 100, 35, 111, 112, 97, 113, 117, 101, 6, 234, 6, 112, 97, 114, 101, 110, 116, 9, 42, 95, 102, 114, 111, 122, 101, 110, 95, 105, 109, 112, 111, 114, 116, 108, 105, 98, 46, 77, 111, 100, 117, 108, 101, 83, 112, 101, 99, 46, 112, 97, 114, 101, 110, 116, 35, 111, 112, 97, 113, 117, 101, 6, 235, 12, 104, 97, 115, 95, 108, 111, 99, 97, 116, 105, 111, 110, 9, 48, 95, 102, 114, 111, 122, 101, 110, 95, 105, 109, 112, 111, 114, 116, 108, 105, 98, 46, 77, 111, 100, 117, 108, 101, 83, 112, 101, 99, 46, 104, 97, 115, 95, 108, 111, 99, 97, 116, 105, 111, 110, 35, 111, 112, 97, 113, 117, 101, 6, 236, 21, 95, 95, 115, 116, 97, 116, 105, 99, 95, 97, 116, 116, 114, 105, 98, 117, 116, 101, 115, 95, 95, 4, 0, 0, 23, 6, 238, 8, 95, 95, 100, 105, 99, 116, 95, 95, 4, 0, 0, 24, 6, 240, 11, 95, 95, 119, 101, 97, 107, 114, 101, 102, 95, 95, 4, 0, 0, 25, 6, 241, 8, 95, 95, 104, 97, 115, 104, 95, 95, 0]⟩) 0, .bool true, .bool true, .str (.ofString "") 242] 1) #[]
noncomputable def o_51 (P : Params) : Obj := Obj.mk (.type "frame") none Data.plain #[some (.ref 9), some (.ref 3), some (.ref 3), none, some (.str (.ofString "__main__") 164), none, some (.ref 0)]
noncomputable def o_47 (P : Params) : Obj := Obj.mk (.type "dict") none (Data.dict #[]) #[]
noncomputable def o_280 (P : Params) : Obj := Obj.mk (.type "code") none (Data.fields #[.str (.ofString "static_order") 690, .str (.ofString "TopologicalSorter.static_order") 691, .str (.ofString "/claim/cut.py") 692, .int 225 0, .int 1 0, .int 0 0, .int 0 0, .int 3 0, .ref 183, .bool true, .int 276 0, .ref 184, .none, .ref 185, .ref 186, .ref 187, .int 694 0, .int 225 0, .str (.ofString "/claim/cut.py") 695]) #[]
noncomputable def o_216 (P : Params) : Obj := Obj.mk (.type "tuple") none (Data.seq #[.str (.ofString "self") 605, .str (.ofString "graph") 606, .str (.ofString "node") 607, .str (.ofString "predecessors") 608]) #[]
noncomputable def o_248 (P : Params) : Obj := Obj.mk .none none (Data.fields #[]) #[]
noncomputable def o_180 (P : Params) : Obj := Obj.mk (.type "tuple") none (Data.seq #[.str (.ofString "node") 559, .str (.ofString "npredecessors") 560, .str (.ofString "successors") 561]) #[]
noncomputable abbrev fo_146 : Option Stmt := mb[7]?
noncomputable def o_146 (P : Params) : Obj := Obj.mk .none none (Data.func (FuncData.mk (.ofString "escape") (.ofString "escape") (fnP fo_146).1 (FuncBody.stmts (fnP fo_146).2.1) (fnP fo_146).2.2 0 [] .none .none .none .none none .none .none 0)) #[]
noncomputable def o_264 (P : Params) : Obj := Obj.mk (.type "tuple") none (Data.seq #[]) #[]
noncomputable def o_198 (P : Params) : Obj := Obj.mk (.type "tuple") none (Data.seq #[]) #[]
noncomputable abbrev fo_232 : Option Stmt := (clP mb[16]?)[2]?
noncomputable def o_232 (P : Params) : Obj := Obj.mk .none none (Data.func (FuncData.mk (.ofString "add") (.ofString "TopologicalSorter.add") (fnP fo_232).1 (FuncBody.stmts (fnP fo_232).2.1) (fnP fo_232).2.2 0 [] .none .none .none .none none .none .none 0)) #[]
noncomputable abbrev fo_162 : Option Stmt := mb[10]?
noncomputable def o_162 (P : Params) : Obj := Obj.mk (.type "function") none (Data.func (FuncData.mk (.ofString "_join_translated_parts") (.ofString "_join_translated_parts") (fnP fo_162).1 (FuncBody.stmts (fnP fo_162).2.1) (fnP fo_162).2.2 3 [] .none .none .none (.str (.ofString "cpy313.fnmatch") 493) none (.ref 75) .none 0)) #[]
noncomputable def o_89 (P : Params) : Obj := Obj.mk (.type "tuple") none (Data.seq #[]) #[]
noncomputable def o_69 (P : Params) : Obj := Obj.mk (.type "tuple") none (Data.seq #[]) #[]
noncomputable abbrev fo_272 : Option Stmt := (clP mb[16]?)[8]?
noncomputable def o_272 (P : Params) : Obj := Obj.mk .none none (Data.func (FuncData.mk (.ofString "_find_cycle") (.ofString "TopologicalSorter._find_cycle") (fnP fo_272).1 (FuncBody.stmts (fnP fo_272).2.1) (fnP fo_272).2.2 0 [] .none .none .none .none none .none .none 0)) #[]
noncomputable def o_208 (P : Params) : Obj := Obj.mk (.type "dict") none (Data.dict #[DictEntry.mk (PyData.keyHash P (.ofString "__module__")) (.str (.ofString "__module__") 597) (.str (.ofString "cpy313.graphlib") 527), DictEntry.mk (PyData.keyHash P (.ofString "__qualname__")) (.str (.ofString "__qualname__") 599) (.str (.ofString "TopologicalSorter") 598), DictEntry.mk (PyData.keyHash P (.ofString "__firstlineno__")) (.str (.ofString "__firstlineno__") 601) (.int 121 600), DictEntry.mk (PyData.keyHash P (.ofString "__init__")) (.str (.ofString "__init__") 611) (.ref 128), DictEntry.mk (PyData.keyHash P (.ofString "_get_nodeinfo")) (.str (.ofString "_get_nodeinfo") 620) (.ref 135), DictEntry.mk (PyData.keyHash P (.ofString "add")) (.str (.ofString "add") 632) (.ref 142), DictEntry.mk (PyData.keyHash P (.ofString "prepare")) (.str (.ofString "prepare") 638) (.ref 147), DictEntry.mk (PyData.keyHash P (.ofString "get_ready")) (.str (.ofString "get_ready") 648) (.ref 154), DictEntry.mk (PyData.keyHash P (.ofString "is_active")) (.str (.ofString "is_active") 655) (.ref 161), DictEntry.mk (PyData.keyHash P (.ofString "__bool__")) (.str (.ofString "__bool__") 662) (.ref 168), DictEntry.mk (PyData.keyHash P (.ofString "done")) (.str (.ofString "done") 676) (.ref 175), DictEntry.mk (PyData.keyHash P (.ofString "_find_cycle")) (.str (.ofString "_find_cycle") 689) (.ref 182), DictEntry.mk (PyData.keyHash P (.ofString "static_order")) (.str (.ofString "static_order") 696) (.ref 189), DictEntry.mk (PyData.keyHash P (.ofString "__static_attributes__")) (.str (.ofString "__static_attributes__") 701) (.ref 190)] 14) #[]
noncomputable def o_240 (P : Params) : Obj := Obj.mk (.type "tuple") none (Data.seq #[]) #[]
noncomputable def o_172 (P : Params) : Obj := Obj.mk (.type "tuple") none (Data.seq #[.str (.ofString "node") 547, .str (.ofString "npredecessors") 548, .str (.ofString "successors") 549]) #[]
noncomputable def o_98 (P : Params) : Obj := Obj.mk (.type "dict") none (Data.dict #[DictEntry.mk 40 (.int 40 341) (.str (.ofString "\\(") 345), DictEntry.mk 41 (.int 41 347) (.str (.ofString "\\)") 351), DictEntry.mk 91 (.int 91 353) (.str (.ofString "\\[") 357), DictEntry.mk 93 (.int 93 359) (.str (.ofString "\\]") 363), DictEntry.mk 123 (.int 123 365) (.str (.ofString "\\{") 369), DictEntry.mk 125 (.int 125 371) (.str (.ofString "\\}") 375), DictEntry.mk 63 (.int 63 377) (.str (.ofString "\\?") 381), DictEntry.mk 42 (.int 42 383) (.str (.ofString "\\*") 387), DictEntry.mk 43 (.int 43 389) (.str (.ofString "\\+") 393), DictEntry.mk 45 (.int 45 395) (.str (.ofString "\\-") 399), DictEntry.mk 124 (.int 124 401) (.str (.ofString "\\|") 405), DictEntry.mk 94 (.int 94 407) (.str (.ofString "\\^") 411), DictEntry.mk 36 (.int 36 413) (.str (.ofString "\\$") 417), DictEntry.mk 92 (.int 92 419) (.str (.ofString "\\\\") 423), DictEntry.mk 46 (.int 46 425) (.str (.ofString "\\.") 429), DictEntry.mk 38 (.int 38 431) (.str (.ofString "\\&") 435), DictEntry.mk 126 (.int 126 437) (.str (.ofString "\\~") 441), DictEntry.mk 35 (.int 35 443) (.str (.ofString "\\#") 447), DictEntry.mk 32 (.int 32 449) (.str (.ofString "\\ ") 453), DictEntry.mk 9 (.int 9 455) (.str (.ofString "\\\t") 459), DictEntry.mk 10 (.int 10 461) (.str (.ofString "\\\n") 465), DictEntry.mk 13 (.int 13 467) (.str (.ofString "\\\x0d") 471), DictEntry.mk 11 (.int 11 473) (.str (.ofString "\\\x0b") 477), DictEntry.mk 12 (.int 12 479) (.str (.ofString "\\\x0c") 483)] 24) #[]
noncomputable def o_256 (P : Params) : Obj := Obj.mk (.type "tuple") none (Data.seq #[.str (.ofString "self") 659]) #[]
noncomputable def o_188 (P : Params) : Obj := Obj.mk (.type "builtin_function_or_method") none (Data.fields #[.builtin "object.__init_subclass__", .ref 95]) #[]
noncomputable def o_288 (P : Params) : Obj := Obj.mk (.type "builtin_function_or_method") none (Data.fields #[.builtin "object.__init_subclass__", .ref 192]) #[]
noncomputable def o_224 (P : Params) : Obj := Obj.mk (.type "tuple") none (Data.seq #[]) #[]
noncomputable def o_154 (P : Params) : Obj := Obj.mk (.type "code") none (Data.fields #[.str (.ofString "_translate") 495, .str (.ofString "_translate") 496, .str (.ofString "/claim/cut.py") 497, .int 20 0, .int 3 0, .int 0 0, .int 0 0, .int 3 0, .ref 63, .bool true, .int 276 0, .ref 64, .none, .ref 65, .ref 66, .ref 67, .int 511 0, .int 20 0, .str (.ofString "/claim/cut.py") 512]) #[]
noncomputable abbrev fo_81 : Option Stmt := mb[1]?
noncomputable def o_81 (P : Params) : Obj := Obj.mk .none none (Data.func (FuncData.mk (.ofString "_wall") (.ofString "_wall") (fnP fo_81).1 (FuncBody.stmts (fnP fo_81).2.1) (fnP fo_81).2.2 0 [] .none .none .none .none none .none .none 0)) #[]
noncomputable def o_61 (P : Params) : Obj := Obj.mk (.type "dict") none (Data.dict #[DictEntry.mk (PyData.keyHash P (.ofString "name")) (.str (.ofString "name") 208) (.str (.ofString "_sre") 207), DictEntry.mk (PyData.keyHash P (.ofString "loader")) (.str (.ofString "loader") 209) (.ref 14), DictEntry.mk (PyData.keyHash P (.ofString "origin")) (.str (.ofString "origin") 210) (.str (.ofString "built-in") 184), DictEntry.mk (PyData.keyHash P (.ofString "loader_state")) (.str (.ofString "loader_state") 211) .none, DictEntry.mk (PyData.keyHash P (.ofString "submodule_search_locations")) (.str (.ofString "submodule_search_locations") 212) .none, DictEntry.mk (PyData.keyHash P (.ofString "_uninitialized_submodules")) (.str (.ofString "_uninitialized_submodules") 213) (.ref 19), DictEntry.mk (PyData.keyHash P (.ofString "_set_fileattr")) (.str (.ofString "_set_fileattr") 214) (.bool false), DictEntry.mk (PyData.keyHash P (.ofString "_cached")) (.str (.ofString "_cached") 215) .none, DictEntry.mk (PyData.keyHash P (.ofString "_initializing")) (.str (.ofString "_initializing") 243) (.bool false)] 9) #[]
noncomputable def o_53 (P : Params) : Obj := Obj.mk (.type "module") (some 11) Data.plain #[]
noncomputable def o_276 (P : Params) : Obj := Obj.mk .none none (Data.fields #[]) #[]
noncomputable def o_212 (P : Params) : Obj := Obj.mk (.type "frame") none Data.plain #[some (.ref 119), some (.ref 3), some (.ref 116), none, some (.str (.ofString "cpy313.graphlib") 527), none, some (.ref 0)]
noncomputable abbrev fo_244 : Option Stmt := (clP mb[16]?)[4]?
noncomputable def o_244 (P : Params) : Obj := Obj.mk .none none (Data.func (FuncData.mk (.ofString "get_ready") (.ofString "TopologicalSorter.get_ready") (fnP fo_244).1 (FuncBody.stmts (fnP fo_244).2.1) (fnP fo_244).2.2 0 [] .none .none .none .none none .none .none 0)) #[]
noncomputable def o_176 (P : Params) : Obj := Obj.mk (.type "tuple") none (Data.seq #[]) #[]
noncomputable def o_142 (P : Params) : Obj := Obj.mk (.type "tuple") none (Data.seq #[]) #[]
noncomputable abbrev fo_260 : Option Stmt := (clP mb[16]?)[6]?
noncomputable def o_260 (P : Params) : Obj := Obj.mk (.type "function") none (Data.func (FuncData.mk (.ofString "__bool__") (.ofString "TopologicalSorter.__bool__") (fnP fo_260).1 (FuncBody.stmts (fnP fo_260).2.1) (fnP fo_260).2.2 3 [] .none .none .none (.str (.ofString "cpy313.graphlib") 527) none (.ref 167) .none 0)) #[]
noncomputable def o_194 (P : Params) : Obj := Obj.mk (.type "tuple") none (Data.seq #[]) #[]
noncomputable def o_228 (P : Params) : Obj := Obj.mk (.type "tuple") none (Data.seq #[]) #[]
noncomputable def o_158 (P : Params) : Obj := Obj.mk (.type "tuple") none (Data.seq #[.str (.ofString "inp") 517, .str (.ofString "STAR") 518, .str (.ofString "res") 519, .str (.ofString "add") 520, .str (.ofString "i") 521, .str (.ofString "n") 522, .str (.ofString "fixed") 523]) #[]
noncomputable def o_85 (P : Params) : Obj := Obj.mk (.type "dict") none (Data.dict #[]) #[]
noncomputable def o_65 (P : Params) : Obj := Obj.mk (.type "getset_descriptor") none (Data.fields #[.str (.ofString "__dict__") 237, .ref 22, .builtin "function.__dict__", .builtin "function.__dict__#set"]) #[]
noncomputable def o_268 (P : Params) : Obj := Obj.mk (.type "tuple") none (Data.seq #[]) #[]
noncomputable def o_202 (P : Params) : Obj := Obj.mk (.type "super") none (Data.fields #[.ref 110, .ref 110, .ref 110]) #[]
noncomputable def o_236 (P : Params) : Obj := Obj.mk .none none (Data.fields #[]) #[]
noncomputable def o_168 (P : Params) : Obj := Obj.mk (.type "tuple") none (Data.seq #[]) #[]
noncomputable abbrev fo_93 : Option Stmt := mb[4]?
noncomputable def o_93 (P : Params) : Obj := Obj.mk .none none (Data.func (FuncData.mk (.ofString "translate") (.ofString "translate") (fnP fo_93).1 (FuncBody.stmts (fnP fo_93).2.1) (fnP fo_93).2.2 0 [] .none .none .none .none none .none .none 0)) #[]
noncomputable def o_252 (P : Params) : Obj := Obj.mk (.type "code") none (Data.fields #[.str (.ofString "is_active") 649, .str (.ofString "TopologicalSorter.is_active") 650, .str (.ofString "/claim/cut.py") 651, .int 165 0, .int 1 0, .int 0 0, .int 0 0, .int 3 0, .ref 155, .bool true, .int 276 0, .ref 156, .none, .ref 157, .ref 158, .ref 159, .int 653 0, .int 165 0, .str (.ofString "/claim/cut.py") 654]) #[]
noncomputable def o_184 (P : Params) : Obj := Obj.mk (.type "member_descriptor") none (Data.fields #[.str (.ofString "node") 563, .ref 95, .builtin "proto.slot", .builtin "proto.slot#set", .int 2 0]) #[]
noncomputable def o_284 (P : Params) : Obj := Obj.mk (.type "type") none (Data.cls (ClassData.mk (.ofString "TopologicalSorter") [.type "object"] [.ref 192, .type "object"] 191 (.ofString "TopologicalSorter") true [] [] false none false)) #[none, none, some (.str (.ofString "TopologicalSorter") 590), some (.str (.ofString "TopologicalSorter") 598), some (.builtin "object.__new__"), some (.bool true)]
noncomputable abbrev fo_220 : Option Stmt := (clP mb[16]?)[0]?
noncomputable def o_220 (P : Params) : Obj := Obj.mk (.type "function") none (Data.func (FuncData.mk (.ofString "__init__") (.ofString "TopologicalSorter.__init__") (fnP fo_220).1 (FuncBody.stmts (fnP fo_220).2.1) (fnP fo_220).2.2 3 [] (.ref 121) .none .none (.str (.ofString "cpy313.graphlib") 527) none (.ref 127) .none 0)) #[]
noncomputable def o_150 (P : Params) : Obj := Obj.mk .none none (Data.fields #[]) #[]
noncomputable def o_77 (P : Params) : Obj := Obj.mk (.type "tuple") none (Data.seq #[]) #[]
noncomputable def o_57 (P : Params) : Obj := Obj.mk (.type "getset_descriptor") none (Data.fields #[.str (.ofString "__dict__") 201, .ref 14, .builtin "function.__dict__", .builtin "function.__dict__#set"]) #[]
noncomputable def o_49 (P : Params) : Obj := Obj.mk .none none (Data.fields #[]) #[]
noncomputable def o_45 (P : Params) : Obj := Obj.mk (.type "module") (some 0) Data.plain #[]
noncomputable def o_43 (P : Params) : Obj := Obj.mk .none none (Data.dict #[DictEntry.mk (PyData.keyHash P (.ofString "\x69mport.loaded._sre")) (.str (.ofString "\x69mport.loaded._sre") 183) (.bool true), DictEntry.mk (PyData.keyHash P (.ofString "class._frozen_importlib.BuiltinImporter")) (.str (.ofString "class._frozen_importlib.BuiltinImporter") 185) (.ref 14), DictEntry.mk (PyData.keyHash P (.ofString "watched.\x69mport")) (.str (.ofString "watched.\x69mport") 206) (.ref 18), DictEntry.mk (PyData.keyHash P (.ofString "class._frozen_importlib.ModuleSpec")) (.str (.ofString "class._frozen_importlib.ModuleSpec") 216) (.ref 22), DictEntry.mk (PyData.keyHash P (.ofString "sys.modules.booked-epoch")) (.str (.ofString "sys.modules.booked-epoch") 245) (.int 3 0), DictEntry.mk (PyData.keyHash P (.ofString "\x69mport.later-laid._sre")) (.str (.ofString "\x69mport.later-laid._sre") 270) (.bool true), DictEntry.mk (PyData.keyHash P (.ofString "watched.library")) (.str (.ofString "watched.library") 272) (.ref 27), DictEntry.mk (PyData.keyHash P (.ofString "watched.library-objects")) (.str (.ofString "watched.library-objects") 0) (.str (.ofString "\x0c") 0), DictEntry.mk (PyData.keyHash P (.ofString "watched.library-deep._sre")) (.str (.ofString "watched.library-deep._sre") 273) (.str (.ofString "\x04\x00\x00\x0b\x04\x00\x00\x0b\x04\x00\x00\x03\x04\x00\x00\x0b\x08\x04dict\x02") 0)] 9) #[]
noncomputable abbrev fo_281 : Option Stmt := (clP mb[16]?)[9]?
noncomputable def o_281 (P : Params) : Obj := Obj.mk (.type "function") none (Data.func (FuncData.mk (.ofString "static_order") (.ofString "TopologicalSorter.static_order") (fnP fo_281).1 (FuncBody.stmts (fnP fo_281).2.1) (fnP fo_281).2.2 3 [] .none .none .none (.str (.ofString "cpy313.graphlib") 527) none (.ref 188) .none 0)) #[]
noncomputable def o_217 (P : Params) : Obj := Obj.mk (.type "tuple") none (Data.seq #[]) #[]
noncomputable def o_249 (P : Params) : Obj := Obj.mk (.type "tuple") none (Data.seq #[.str (.ofString "self") 652]) #[]
noncomputable def o_181 (P : Params) : Obj := Obj.mk (.type "list") none (Data.seq #[.str (.ofString "node") 547, .str (.ofString "npredecessors") 548, .str (.ofString "successors") 549] 1) #[]
noncomputable def o_147 (P : Params) : Obj := Obj.mk (.type "code") none (Data.fields #[.str (.ofString "escape") 486, .str (.ofString "escape") 487, .str (.ofString "/claim/cut.py") 488, .int 13 0, .int 1 0, .int 0 0, .int 0 0, .int 3 0, .ref 56, .bool true, .int 276 0, .ref 57, .none, .ref 58, .ref 59, .ref 60, .int 490 0, .int 13 0, .str (.ofString "/claim/cut.py") 491]) #[]
noncomputable abbrev fo_265 : Option Stmt := (clP mb[16]?)[7]?
noncomputable def o_265 (P : Params) : Obj := Obj.mk .none none (Data.func (FuncData.mk (.ofString "done") (.ofString "TopologicalSorter.done") (fnP fo_265).1 (FuncBody.stmts (fnP fo_265).2.1) (fnP fo_265).2.2 0 [] .none .none .none .none none .none .none 0)) #[]
noncomputable def o_199 (P : Params) : Obj := Obj.mk (.type "dict") none (Data.dict #[DictEntry.mk (PyData.keyHash P (.ofString "__module__")) (.str (.ofString "__module__") 579) (.str (.ofString "cpy313.graphlib") 527), DictEntry.mk (PyData.keyHash P (.ofString "__firstlineno__")) (.str (.ofString "__firstlineno__") 583) (.int 119 582), DictEntry.mk (PyData.keyHash P (.ofString "__static_attributes__")) (.str (.ofString "__static_attributes__") 584) (.ref 108), DictEntry.mk (PyData.keyHash P (.ofString "__weakref__")) (.str (.ofString "__weakref__") 586) (.ref 111), DictEntry.mk (PyData.keyHash P (.ofString "__doc__")) (.str (.ofString "__doc__") 587) .none] 3) #[]
noncomputable def o_233 (P : Params) : Obj := Obj.mk (.type "code") none (Data.fields #[.str (.ofString "add") 621, .str (.ofString "TopologicalSorter.add") 622, .str (.ofString "/claim/cut.py") 623, .int 137 0, .int 2 0, .int 0 0, .int 0 0, .int 7 0, .ref 136, .bool true, .int 276 0, .ref 137, .none, .ref 138, .ref 139, .ref 140, .int 630 0, .int 137 0, .str (.ofString "/claim/cut.py") 631]) #[]
noncomputable def o_165 (P : Params) : Obj := Obj.mk (.type "tuple") none (Data.seq #[]) #[]
noncomputable def o_90 (P : Params) : Obj := Obj.mk .none none (Data.fields #[]) #[]
noncomputable def o_205 (P : Params) : Obj := Obj.mk .none none (Data.fields #[.int 2 0, .int 0 0, .ref 37, .int 7 0, .int 0 0, .ref 49, .int 13 0, .int 0 0, .ref 61, .int 20 0, .int 0 0, .ref 68, .int 82 0, .int 0 0, .ref 75, .int 112 0, .int 0 0, .ref 82, .int 119 0, .int 0 0, .ref 106, .int 121 0, .int 0 0, .ref 119]) #[]
noncomputable def o_273 (P : Params) : Obj := Obj.mk (.type "code") none (Data.fields #[.str (.ofString "_find_cycle") 677, .str (.ofString "TopologicalSorter._find_cycle") 678, .str (.ofString "/claim/cut.py") 679, .int 196 0, .int 1 0, .int 0 0, .int 0 0, .int 3 0, .ref 176, .bool true, .int 276 0, .ref 177, .none, .ref 178, .ref 179, .ref 180, .int 687 0, .int 196 0, .str (.ofString "/claim/cut.py") 688]) #[]
noncomputable def o_209 (P : Params) : Obj := Obj.mk (.type "tuple") none (Data.seq #[]) #[]
noncomputable def o_241 (P : Params) : Obj := Obj.mk .none none (Data.fields #[]) #[]
noncomputable def o_173 (P : Params) : Obj := Obj.mk (.type "tuple") none (Data.seq #[]) #[]
noncomputable def o_99 (P : Params) : Obj := Obj.mk (.type "dict") none (Data.dict #[] 2) #[]
noncomputable def o_257 (P : Params) : Obj := Obj.mk (.type "tuple") none (Data.seq #[]) #[]
noncomputable def o_191 (P : Params) : Obj := Obj.mk (.type "tuple") none (Data.seq #[.type "ValueError"]) #[]
noncomputable abbrev fo_225 : Option Stmt := (clP mb[16]?)[1]?
noncomputable def o_225 (P : Params) : Obj := Obj.mk .none none (Data.func (FuncData.mk (.ofString "_get_nodeinfo") (.ofString "TopologicalSorter._get_nodeinfo") (fnP fo_225).1 (FuncBody.stmts (fnP fo_225).2.1) (fnP fo_225).2.2 0 [] .none .none .none .none none .none .none 0)) #[]
noncomputable abbrev fo_155 : Option Stmt := mb[9]?
noncomputable def o_155 (P : Params) : Obj := Obj.mk (.type "function") none (Data.func (FuncData.mk (.ofString "_translate") (.ofString "_translate") (fnP fo_155).1 (FuncBody.stmts (fnP fo_155).2.1) (fnP fo_155).2.2 3 [] .none .none .none (.str (.ofString "cpy313.fnmatch") 493) none (.ref 68) .none 0)) #[]
noncomputable def o_82 (P : Params) : Obj := Obj.mk (.type "code") none (Data.fields #[.str (.ofString "_wall") 282, .str (.ofString "_wall") 283, .str (.ofString "/claim/cut.py") 284, .int 2 0, .int 1 0, .int 0 0, .int 0 0, .int 3 0, .ref 32, .bool true, .int 276 0, .ref 33, .none, .ref 34, .ref 35, .ref 36, .int 286 0, .int 2 0, .str (.ofString "/claim/cut.py") 287]) #[]
noncomputable def o_62 (P : Params) : Obj := Obj.mk (.type "dict") none (Data.dict #[DictEntry.mk (PyData.keyHash P (.ofString "__module__")) (.str (.ofString "__module__") 227) (.str (.ofString "_frozen_importlib") 217), DictEntry.mk (PyData.keyHash P (.ofString "__firstlineno__")) (.str (.ofString "__firstlineno__") 228) (.int 562 218), DictEntry.mk (PyData.keyHash P (.ofString "__doc__")) (.str (.ofString "__doc__") 229) (.builtin "_frozen_importlib.ModuleSpec.__doc__:str#opaque"), DictEntry.mk (PyData.keyHash P (.ofString "__init__")) (.str (.ofString "__init__") 230) (.builtin "_frozen_importlib.ModuleSpec.__init__#opaque"), DictEntry.mk (PyData.keyHash P (.ofString "__repr__")) (.str (.ofString "__repr__") 231) (.builtin "_frozen_importlib.ModuleSpec.__repr__#opaque"), DictEntry.mk (PyData.keyHash P (.ofString "__eq__")) (.str (.ofString "__eq__") 232) (.builtin "_frozen_importlib.ModuleSpec.__eq__#opaque"), DictEntry.mk (PyData.keyHash P (.ofString "cached")) (.str (.ofString "cached") 233) (.builtin "_frozen_importlib.ModuleSpec.cached#opaque"), DictEntry.mk (PyData.keyHash P (.ofString "parent")) (.str (.ofString "parent") 234) (.builtin "_frozen_importlib.ModuleSpec.parent#opaque"), DictEntry.mk (PyData.keyHash P (.ofString "has_location")) (.str (.ofString "has_location") 235) (.builtin "_frozen_importlib.ModuleSpec.has_location#opaque"), DictEntry.mk (PyData.keyHash P (.ofString "__static_attributes__")) (.str (.ofString "__static_attributes__") 236) (.ref 23), DictEntry.mk (PyData.keyHash P (.ofString "__dict__")) (.str (.ofString "__dict__") 238) (.ref 24), DictEntry.mk (PyData.keyHash P (.ofString "__weakref__")) (.str (.ofString "__weakref__") 240) (.ref 25), DictEntry.mk (PyData.keyHash P (.ofString "__hash__")) (.str (.ofString "__hash__") 241) .none] 13) #[]
noncomputable def o_54 (P : Params) : Obj := Obj.mk (.type "dict") none (Data.dict #[DictEntry.mk (PyData.keyHash P (.ofString "__module__")) (.str (.ofString "__module__") 189) (.str (.ofString "_frozen_importlib") 186), DictEntry.mk (PyData.keyHash P (.ofString "__firstlineno__")) (.str (.ofString "__firstlineno__") 190) (.int 971 187), DictEntry.mk (PyData.keyHash P (.ofString "__doc__")) (.str (.ofString "__doc__") 191) (.builtin "_frozen_importlib.BuiltinImporter.__doc__:str#opaque"), DictEntry.mk (PyData.keyHash P (.ofString "_ORIGIN")) (.str (.ofString "_ORIGIN") 192) (.str (.ofString "built-in") 188), DictEntry.mk (PyData.keyHash P (.ofString "find_spec")) (.str (.ofString "find_spec") 193) (.builtin "_frozen_importlib.BuiltinImporter.find_spec#opaque"), DictEntry.mk (PyData.keyHash P (.ofString "create_module")) (.str (.ofString "create_module") 194) (.builtin "_frozen_importlib.BuiltinImporter.create_module#opaque"), DictEntry.mk (PyData.keyHash P (.ofString "exec_module")) (.str (.ofString "exec_module") 195) (.builtin "_frozen_importlib.BuiltinImporter.exec_module#opaque"), DictEntry.mk (PyData.keyHash P (.ofString "get_code")) (.str (.ofString "get_code") 196) (.builtin "_frozen_importlib.BuiltinImporter.get_code#opaque"), DictEntry.mk (PyData.keyHash P (.ofString "get_source")) (.str (.ofString "get_source") 197) (.builtin "_frozen_importlib.BuiltinImporter.get_source#opaque"), DictEntry.mk (PyData.keyHash P (.ofString "is_package")) (.str (.ofString "is_package") 198) (.builtin "_frozen_importlib.BuiltinImporter.is_package#opaque"), DictEntry.mk (PyData.keyHash P (.ofString "load_module")) (.str (.ofString "load_module") 199) (.builtin "_frozen_importlib.BuiltinImporter.load_module#opaque"), DictEntry.mk (PyData.keyHash P (.ofString "__static_attributes__")) (.str (.ofString "__static_attributes__") 200) (.ref 15), DictEntry.mk (PyData.keyHash P (.ofString "__dict__")) (.str (.ofString "__dict__") 202) (.ref 16), DictEntry.mk (PyData.keyHash P (.ofString "__weakref__")) (.str (.ofString "__weakref__") 204) (.ref 17)] 14) #[]
noncomputable def o_277 (P : Params) : Obj := Obj.mk (.type "tuple") none (Data.seq #[.str (.ofString "self") 693]) #[]
noncomputable def o_213 (P : Params) : Obj := Obj.mk (.type "tuple") none (Data.seq #[.none]) #[]
noncomputable def o_245 (P : Params) : Obj := Obj.mk (.type "code") none (Data.fields #[.str (.ofString "get_ready") 639, .str (.ofString "TopologicalSorter.get_ready") 640, .str (.ofString "/claim/cut.py") 641, .int 154 0, .int 1 0, .int 0 0, .int 0 0, .int 3 0, .ref 148, .bool true, .int 276 0, .ref 149, .none, .ref 150, .ref 151, .ref 152, .int 646 0, .int 154 0, .str (.ofString "/claim/cut.py") 647]) #[]
noncomputable abbrev fo_177 : Option Stmt := (clP mb[14]?)[1]?
noncomputable def o_177 (P : Params) : Obj := Obj.mk .none none (Data.func (FuncData.mk (.ofString "__init__") (.ofString "_NodeInfo.__init__") (fnP fo_177).1 (FuncBody.stmts (fnP fo_177).2.1) (fnP fo_177).2.2 0 [] .none .none .none .none none .none .none 0)) #[]
noncomputable def o_143 (P : Params) : Obj := Obj.mk .none none (Data.fields #[]) #[]
noncomputable def o_261 (P : Params) : Obj := Obj.mk (.type "tuple") none (Data.seq #[]) #[]
noncomputable def o_195 (P : Params) : Obj := Obj.mk .none none (Data.fields #[]) #[]
noncomputable def o_229 (P : Params) : Obj := Obj.mk .none none (Data.fields #[]) #[]
noncomputable def o_159 (P : Params) : Obj := Obj.mk (.type "tuple") none (Data.seq #[]) #[]
noncomputable def o_86 (P : Params) : Obj := Obj.mk (.type "tuple") none (Data.seq #[.none, .none]) #[]
noncomputable def o_66 (P : Params) : Obj := Obj.mk (.type "getset_descriptor") none (Data.fields #[.str (.ofString "__weakref__") 239, .ref 22, .builtin "ExceptionGroup.__weakref__", .none]) #[]
noncomputable def o_269 (P : Params) : Obj := Obj.mk .none none (Data.fields #[]) #[]
noncomputable def o_203 (P : Params) : Obj := Obj.mk (.type "builtin_function_or_method") none (Data.fields #[.builtin "object.__init_subclass__", .ref 110]) #[]
noncomputable abbrev fo_237 : Option Stmt := (clP mb[16]?)[3]?
noncomputable def o_237 (P : Params) : Obj := Obj.mk .none none (Data.func (FuncData.mk (.ofString "prepare") (.ofString "TopologicalSorter.prepare") (fnP fo_237).1 (FuncBody.stmts (fnP fo_237).2.1) (fnP fo_237).2.2 0 [] .none .none .none .none none .none .none 0)) #[]
noncomputable def o_169 (P : Params) : Obj := Obj.mk .none none (Data.fields #[.int 115 0, .int 4 0, .ref 90]) #[]
noncomputable def o_94 (P : Params) : Obj := Obj.mk (.type "code") none (Data.fields #[.str (.ofString "translate") 329, .str (.ofString "translate") 330, .str (.ofString "/claim/cut.py") 331, .int 7 0, .int 1 0, .int 0 0, .int 0 0, .int 3 0, .ref 44, .bool true, .int 276 0, .ref 45, .none, .ref 46, .ref 47, .ref 48, .int 335 0, .int 7 0, .str (.ofString "/claim/cut.py") 336]) #[]
noncomputable abbrev fo_253 : Option Stmt := (clP mb[16]?)[5]?
noncomputable def o_253 (P : Params) : Obj := Obj.mk (.type "function") none (Data.func (FuncData.mk (.ofString "is_active") (.ofString "TopologicalSorter.is_active") (fnP fo_253).1 (FuncBody.stmts (fnP fo_253).2.1) (fnP fo_253).2.2 3 [] .none .none .none (.str (.ofString "cpy313.graphlib") 527) none (.ref 160) .none 0)) #[]
noncomputable def o_185 (P : Params) : Obj := Obj.mk (.type "member_descriptor") none (Data.fields #[.str (.ofString "npredecessors") 565, .ref 95, .builtin "proto.slot", .builtin "proto.slot#set", .int 1 0]) #[]
noncomputable def o_285 (P : Params) : Obj := Obj.mk (.type "getset_descriptor") none (Data.fields #[.str (.ofString "__dict__") 702, .ref 192, .builtin "function.__dict__", .builtin "function.__dict__#set"]) #[]
noncomputable def o_221 (P : Params) : Obj := Obj.mk (.type "tuple") none (Data.seq #[]) #[]
noncomputable def o_151 (P : Params) : Obj := Obj.mk (.type "tuple") none (Data.seq #[.str (.ofString "pat") 498, .str (.ofString "STAR") 499, .str (.ofString "QUESTION_MARK") 500, .str (.ofString "res") 501, .str (.ofString "add") 502, .str (.ofString "i") 503, .str (.ofString "n") 504, .str (.ofString "c") 505, .str (.ofString "j") 506, .str (.ofString "stuff") 507, .str (.ofString "chunks") 508, .str (.ofString "k") 509, .str (.ofString "chunk") 510]) #[]
noncomputable def o_78 (P : Params) : Obj := Obj.mk .none none (Data.fields #[]) #[]
noncomputable def o_58 (P : Params) : Obj := Obj.mk (.type "getset_descriptor") none (Data.fields #[.str (.ofString "__weakref__") 203, .ref 14, .builtin "ExceptionGroup.__weakref__", .none]) #[]
noncomputable def o_50 (P : Params) : Obj := Obj.mk (.type "code") none (Data.fields #[.str (.ofString "<module>") 176, .str (.ofString "<module>") 177, .str (.ofString "/claim/cut.py") 178, .int 1 0, .int 0 0, .int 0 0, .int 0 0, .int 0 0, .ref 7, .bool false, .int 175 0, .ref 8, .none, .none, .none, .none, .int 179 0, .int 1 0, .str (.ofString "/claim/cut.py") 180]) #[]
noncomputable def o_46 (P : Params) : Obj := Obj.mk (.type "module") (some 3) Data.plain #[]
noncomputable abbrev fo_279 : Option Stmt := (clP mb[16]?)[9]?
noncomputable def o_279 (P : Params) : Obj := Obj.mk .none none (Data.func (FuncData.mk (.ofString "static_order") (.ofString "TopologicalSorter.static_order") (fnP fo_279).1 (FuncBody.stmts (fnP fo_279).2.1) (fnP fo_279).2.2 0 [] .none .none .none .none none .none .none 0)) #[]
noncomputable def o_215 (P : Params) : Obj := Obj.mk .none none (Data.fields #[]) #[]
noncomputable def o_247 (P : Params) : Obj := Obj.mk (.type "tuple") none (Data.seq #[]) #[]
noncomputable abbrev fo_179 : Option Stmt := (clP mb[14]?)[1]?
noncomputable def o_179 (P : Params) : Obj := Obj.mk (.type "function") none (Data.func (FuncData.mk (.ofString "__init__") (.ofString "_NodeInfo.__init__") (fnP fo_179).1 (FuncBody.stmts (fnP fo_179).2.1) (fnP fo_179).2.2 3 [] .none .none .none (.str (.ofString "cpy313.graphlib") 527) none (.ref 90) .none 0)) #[]
noncomputable def o_145 (P : Params) : Obj := Obj.mk (.type "tuple") none (Data.seq #[]) #[]
noncomputable def o_263 (P : Params) : Obj := Obj.mk (.type "tuple") none (Data.seq #[.str (.ofString "self") 666, .str (.ofString "nodes") 667, .str (.ofString "n2i") 668, .str (.ofString "node") 669, .str (.ofString "nodeinfo") 670, .str (.ofString "stat") 671, .str (.ofString "successor") 672, .str (.ofString "successor_info") 673]) #[]
noncomputable def o_197 (P : Params) : Obj := Obj.mk (.type "frame") none Data.plain #[some (.ref 106), some (.ref 3), some (.ref 103), none, some (.str (.ofString "cpy313.graphlib") 527), none, some (.ref 0)]
noncomputable def o_231 (P : Params) : Obj := Obj.mk (.type "tuple") none (Data.seq #[]) #[]
noncomputable def o_161 (P : Params) : Obj := Obj.mk (.type "code") none (Data.fields #[.str (.ofString "_join_translated_parts") 514, .str (.ofString "_join_translated_parts") 515, .str (.ofString "/claim/cut.py") 516, .int 82 0, .int 2 0, .int 0 0, .int 0 0, .int 3 0, .ref 70, .bool true, .int 276 0, .ref 71, .none, .ref 72, .ref 73, .ref 74, .int 524 0, .int 82 0, .str (.ofString "/claim/cut.py") 525]) #[]
noncomputable def o_88 (P : Params) : Obj := Obj.mk (.type "re.Pattern") none (Data.fields #[.str (.ofString "([&~|])") 292, .int 32 327, .int 1 0, .none, .none, .ref 42, .int 0 0]) #[]
noncomputable def o_68 (P : Params) : Obj := Obj.mk .none none (Data.seq #[.int 11 0, .str (Str.mk #[6, 247, 8, 95, 95, 110, 97, 109, 101, 95, 95, 6, 246, 4, 95, 115, 114, 101, 6, 248, 7, 95, 95, 100, 111, 99, 95, 95, 0, 6, 250, 11, 95, 95, 112, 97, 99, 107, 97, 103, 101, 95, 95, 6, 249, 0, 6, 251, 10, 95, 95, 108, 111, 97, 100, 101, 114, 95, 95, 4, 0, 0, 14, 6, 252, 8, 95, 95, 115, 112, 101, 99, 95, 95, 4, 0, 0, 26, 6, 253, 7, 99, 111, 109, 112, 105, 108, 101, 9, 12, 95, 115, 114, 101, 46, 99, 111, 109, 112, 105, 108, 101, 6, 254, 8, 116, 101, 109, 112, 108, 97, 116, 101, 9, 13, 95, 115, 114, 101, 46, 116, 101, 109, 112, 108, 97, 116, 101, 6, 255, 11, 103, 101, 116, 99, 111, 100, 101, 115, 105, 122, 101, 9, 16, 95, 115, 114, 101, 46, 103, 101, 116, 99, 111, 100, 101, 115, 105, 122, 101, 6, 256, 13, 97, 115, 99, 105, 105, 95, 105, 115, 99, 97, 115, 101, 100, 9, 18, 95, 115, 114, 101, 46, 97, 115, 99, 105, 105, 95, 105, 115, 99, 97, 115, 101, 100, 6, 257, 15, 117, 110, 105, 99, 111, 100, 101, 95, 105, 115, 99, 97, 115, 101, 100, 9, 20, 95, 115, 114, 101, 46, 117, 110, 105, 99, 111, 100, 101, 95, 105, 115, 99, 97, 115, 101, 100, 6, 258, 13, 97, 115, 99, 105, 105, 95, 116, 111, 108, 111, 119, 101, 114, 9, 18, 95, 115, 114, 101, 46, 97, 115, 99, 105, 105, 95, 116, 111, 108, 111, 119, 101, 114, 6, 259, 15, 117, 110, 105, 99, 111, 100, 101, 95, 116, 111, 108, 111, 119, 101, 114, 9, 20, 95, 115, 114, 101, 46, 117, 110, 105, 99, 111, 100, 101, 95, 116, 111, 108, 111, 119, 101, 114, 6, 261, 5, 77, 65, 71, 73, 67, 4, 260, 0, 20230612, 6, 263, 8, 67, 79, 68, 69, 83, 73, 90, 69, 4, 262, 0, 4, 6, 265, 9, 77, 65, 88, 82, 69, 80, 69, 65, 84, 4, 264, 0, 4294967295, 6, 267, 9, 77, 65, 88, 71, 82, 79, 85, 80, 83, 4, 266, 0, 1073741823, 6, 269, 9, 99, 111, 112, 121, 114, 105, 103, 104, 116, 6, 268, 53, 32, 83, 82, 69, 32, 50, 46, 50, 46, 50, 32, 67, 111, 112, 121, 114, 105, 103, 104, 116, 32, 40, 99, 41, 32, 49, 57, 57, 55, 45, 50, 48, 48, 50, 32, 98, 121, 32, 83, 101, 99, 114, 101, 116, 32, 76, 97, 98, 115, 32, 65, 66, 32]) 0, .bool true, .bool false, .str (.ofString "_sre") 271]) #[]
noncomputable def o_271 (P : Params) : Obj := Obj.mk (.type "tuple") none (Data.seq #[]) #[]
noncomputable def o_207 (P : Params) : Obj := Obj.mk (.type "builtin_function_or_method") none (Data.fields #[.builtin "type.__prepare__", .type "type"]) #[]
noncomputable abbrev fo_239 : Option Stmt := (clP mb[16]?)[3]?
noncomputable def o_239 (P : Params) : Obj := Obj.mk (.type "function") none (Data.func (FuncData.mk (.ofString "prepare") (.ofString "TopologicalSorter.prepare") (fnP fo_239).1 (FuncBody.stmts (fnP fo_239).2.1) (fnP fo_239).2.2 3 [] .none .none .none (.str (.ofString "cpy313.graphlib") 527) none (.ref 146) .none 0)) #[]
noncomputable def o_171 (P : Params) : Obj := Obj.mk (.type "frame") none Data.plain #[some (.ref 82), some (.ref 3), some (.ref 79), none, some (.str (.ofString "cpy313.graphlib") 527), none, some (.ref 0)]
noncomputable def o_97 (P : Params) : Obj := Obj.mk (.type "bytes_iterator") none (Data.fields #[.none, .int 24 0]) #[]
noncomputable def o_255 (P : Params) : Obj := Obj.mk .none none (Data.fields #[]) #[]
noncomputable def o_187 (P : Params) : Obj := Obj.mk (.type "super") none (Data.fields #[.ref 95, .ref 95, .ref 95]) #[]
noncomputable def o_287 (P : Params) : Obj := Obj.mk (.type "super") none (Data.fields #[.ref 192, .ref 192, .ref 192]) #[]
noncomputable def o_223 (P : Params) : Obj := Obj.mk (.type "tuple") none (Data.seq #[.str (.ofString "self") 615, .str (.ofString "node") 616, .str (.ofString "result") 617]) #[]
noncomputable abbrev fo_153 : Option Stmt := mb[9]?
noncomputable def o_153 (P : Params) : Obj := Obj.mk .none none (Data.func (FuncData.mk (.ofString "_translate") (.ofString "_translate") (fnP fo_153).1 (FuncBody.stmts (fnP fo_153).2.1) (fnP fo_153).2.2 0 [] .none .none .none .none none .none .none 0)) #[]
noncomputable def o_80 (P : Params) : Obj := Obj.mk (.type "tuple") none (Data.seq #[]) #[]
noncomputable def o_60 (P : Params) : Obj := Obj.mk (.type "list") none (Data.seq #[]) #[]
noncomputable def o_52 (P : Params) : Obj := Obj.mk (.type "dict") none (Data.dict #[DictEntry.mk (PyData.keyHash P (.ofString "__name__")) (.str (.ofString "__name__") 247) (.str (.ofString "_sre") 246), DictEntry.mk (PyData.keyHash P (.ofString "__doc__")) (.str (.ofString "__doc__") 248) .none, DictEntry.mk (PyData.keyHash P (.ofString "__package__")) (.str (.ofString "__package__") 250) (.str (.ofString "") 249), DictEntry.mk (PyData.keyHash P (.ofString "__loader__")) (.str (.ofString "__loader__") 251) (.builtin "off-the-table:_sre.__loader__:shared#opaque"), DictEntry.mk (PyData.keyHash P (.ofString "__spec__")) (.str (.ofString "__spec__") 252) (.builtin "off-the-table:_sre.__spec__:shared#opaque"), DictEntry.mk (PyData.keyHash P (.ofString "compile")) (.str (.ofString "compile") 253) (.builtin "_sre.compile"), DictEntry.mk (PyData.keyHash P (.ofString "template")) (.str (.ofString "template") 254) (.builtin "off-the-table:_sre.template:shared#opaque"), DictEntry.mk (PyData.keyHash P (.ofString "getcodesize")) (.str (.ofString "getcodesize") 255) (.builtin "off-the-table:_sre.getcodesize:shared#opaque"), DictEntry.mk (PyData.keyHash P (.ofString "ascii_iscased")) (.str (.ofString "ascii_iscased") 256) (.builtin "off-the-table:_sre.ascii_iscased:shared#opaque"), DictEntry.mk (PyData.keyHash P (.ofString "unicode_iscased")) (.str (.ofString "unicode_iscased") 257) (.builtin "off-the-table:_sre.unicode_iscased:shared#opaque"), DictEntry.mk (PyData.keyHash P (.ofString "ascii_tolower")) (.str (.ofString "ascii_tolower") 258) (.builtin "off-the-table:_sre.ascii_tolower:shared#opaque"), DictEntry.mk (PyData.keyHash P (.ofString "unicode_tolower")) (.str (.ofString "unicode_tolower") 259) (.builtin "off-the-table:_sre.unicode_tolower:shared#opaque"), DictEntry.mk (PyData.keyHash P (.ofString "MAGIC")) (.str (.ofString "MAGIC") 261) (.int 20230612 260), DictEntry.mk (PyData.keyHash P (.ofString "CODESIZE")) (.str (.ofString "CODESIZE") 263) (.int 4 262), DictEntry.mk (PyData.keyHash P (.ofString "MAXREPEAT")) (.str (.ofString "MAXREPEAT") 265) (.int 4294967295 264), DictEntry.mk (PyData.keyHash P (.ofString "MAXGROUPS")) (.str (.ofString "MAXGROUPS") 267) (.int 1073741823 266), DictEntry.mk (PyData.keyHash P (.ofString "copyright")) (.str (.ofString "copyright") 269) (.str (.ofString " SRE 2.2.2 Copyright (c) 1997-2002 by Secret Labs AB ") 268)] 17) #[]
noncomputable def o_275 (P : Params) : Obj := Obj.mk (.type "tuple") none (Data.seq #[]) #[]
noncomputable def o_211 (P : Params) : Obj := Obj.mk (.type "code") none (Data.fields #[.str (.ofString "TopologicalSorter") 592, .str (.ofString "TopologicalSorter") 593, .str (.ofString "/claim/cut.py") 594, .int 121 0, .int 0 0, .int 0 0, .int 0 0, .int 0 0, .ref 117, .bool false, .int 276 0, .ref 118, .none, .none, .none, .none, .int 595 0, .int 121 0, .str (.ofString "/claim/cut.py") 596]) #[]
noncomputable def o_243 (P : Params) : Obj := Obj.mk (.type "tuple") none (Data.seq #[]) #[]
noncomputable def o_175 (P : Params) : Obj := Obj.mk (.type "tuple") none (Data.seq #[.str (.ofString "self") 554, .str (.ofString "node") 555]) #[]
noncomputable def o_101 (P : Params) : Obj := Obj.mk (.type "StopIteration") none (Data.fields #[.ref 54, .none, .none, .none, .bool false, .none]) #[]
noncomputable def o_259 (P : Params) : Obj := Obj.mk (.type "code") none (Data.fields #[.str (.ofString "__bool__") 656, .str (.ofString "TopologicalSorter.__bool__") 657, .str (.ofString "/claim/cut.py") 658, .int 170 0, .int 1 0, .int 0 0, .int 0 0, .int 3 0, .ref 162, .bool true, .int 276 0, .ref 163, .none, .ref 164, .ref 165, .ref 166, .int 660 0, .int 170 0, .str (.ofString "/claim/cut.py") 661]) #[]
noncomputable def o_193 (P : Params) : Obj := Obj.mk (.type "dict") none (Data.dict #[DictEntry.mk (PyData.keyHash P (.ofString "__module__")) (.str (.ofString "__module__") 579) (.str (.ofString "cpy313.graphlib") 527), DictEntry.mk (PyData.keyHash P (.ofString "__qualname__")) (.str (.ofString "__qualname__") 581) (.str (.ofString "CycleError") 580), DictEntry.mk (PyData.keyHash P (.ofString "__firstlineno__")) (.str (.ofString "__firstlineno__") 583) (.int 119 582), DictEntry.mk (PyData.keyHash P (.ofString "__static_attributes__")) (.str (.ofString "__static_attributes__") 584) (.ref 108)] 4) #[]
noncomputable abbrev fo_227 : Option Stmt := (clP mb[16]?)[1]?
noncomputable def o_227 (P : Params) : Obj := Obj.mk (.type "function") none (Data.func (FuncData.mk (.ofString "_get_nodeinfo") (.ofString "TopologicalSorter._get_nodeinfo") (fnP fo_227).1 (FuncBody.stmts (fnP fo_227).2.1) (fnP fo_227).2.2 3 [] .none .none .none (.str (.ofString "cpy313.graphlib") 527) none (.ref 134) .none 0)) #[]
noncomputable def o_157 (P : Params) : Obj := Obj.mk .none none (Data.fields #[]) #[]
noncomputable def o_84 (P : Params) : Obj := Obj.mk (.type "list") none (Data.seq #[.int 14 294, .int 14 295, .int 4 296, .int 1 297, .int 1 298, .int 9 299, .int 0 300, .int 64 301, .int 0 302, .int 1342177280 303, .int 0 304, .int 0 305, .int 0 306, .int 0 307, .int 0 308, .int 17 309, .int 0 310, .int 13 311, .int 11 312, .int 9 313, .int 0 314, .int 64 315, .int 0 316, .int 1342177280 317, .int 0 318, .int 0 319, .int 0 320, .int 0 321, .int 0 322, .int 17 323, .int 1 324, .int 1 325]) #[]
noncomputable def o_64 (P : Params) : Obj := Obj.mk (.type "tuple") none (Data.seq #[.str (.ofString "_cached") 219, .str (.ofString "_set_fileattr") 220, .str (.ofString "_uninitialized_submodules") 221, .str (.ofString "loader") 222, .str (.ofString "loader_state") 223, .str (.ofString "name") 224, .str (.ofString "origin") 225, .str (.ofString "submodule_search_locations") 226]) #[]
noncomputable abbrev fo_267 : Option Stmt := (clP mb[16]?)[7]?
noncomputable def o_267 (P : Params) : Obj := Obj.mk (.type "function") none (Data.func (FuncData.mk (.ofString "done") (.ofString "TopologicalSorter.done") (fnP fo_267).1 (FuncBody.stmts (fnP fo_267).2.1) (fnP fo_267).2.2 3 [] .none .none .none (.str (.ofString "cpy313.graphlib") 527) none (.ref 174) .none 0)) #[]
noncomputable def o_201 (P : Params) : Obj := Obj.mk (.type "getset_descriptor") none (Data.fields #[.str (.ofString "__weakref__") 585, .ref 110, .builtin "ExceptionGroup.__weakref__", .none]) #[]
noncomputable def o_235 (P : Params) : Obj := Obj.mk (.type "tuple") none (Data.seq #[]) #[]
noncomputable def o_167 (P : Params) : Obj := Obj.mk (.type "dict") none (Data.dict #[DictEntry.mk (PyData.keyHash P (.ofString "__module__")) (.str (.ofString "__module__") 542) (.str (.ofString "cpy313.graphlib") 527), DictEntry.mk (PyData.keyHash P (.ofString "__qualname__")) (.str (.ofString "__qualname__") 544) (.str (.ofString "_NodeInfo") 543), DictEntry.mk (PyData.keyHash P (.ofString "__firstlineno__")) (.str (.ofString "__firstlineno__") 546) (.int 112 545), DictEntry.mk (PyData.keyHash P (.ofString "__slots__")) (.str (.ofString "__slots__") 550) (.ref 84), DictEntry.mk (PyData.keyHash P (.ofString "__init__")) (.str (.ofString "__init__") 558) (.ref 91), DictEntry.mk (PyData.keyHash P (.ofString "__static_attributes__")) (.str (.ofString "__static_attributes__") 562) (.ref 92)] 6) #[]
noncomputable def o_92 (P : Params) : Obj := Obj.mk (.type "tuple") none (Data.seq #[]) #[]
noncomputable abbrev fo_251 : Option Stmt := (clP mb[16]?)[5]?
noncomputable def o_251 (P : Params) : Obj := Obj.mk .none none (Data.func (FuncData.mk (.ofString "is_active") (.ofString "TopologicalSorter.is_active") (fnP fo_251).1 (FuncBody.stmts (fnP fo_251).2.1) (fnP fo_251).2.2 0 [] .none .none .none .none none .none .none 0)) #[]
noncomputable def o_183 (P : Params) : Obj := Obj.mk (.type "type") none (Data.cls (ClassData.mk (.ofString "_NodeInfo") [.type "object"] [.ref 95, .type "object"] 94 (.ofString "_NodeInfo") false [.ofString "node", .ofString "npredecessors", .ofString "successors"] [] false none false)) #[none, none, some (.str (.ofString "_NodeInfo") 535), some (.str (.ofString "_NodeInfo") 543), some (.builtin "object.__new__"), some (.bool false)]
noncomputable def o_283 (P : Params) : Obj := Obj.mk (.type "dict") none (Data.dict #[DictEntry.mk (PyData.keyHash P (.ofString "__module__")) (.str (.ofString "__module__") 597) (.str (.ofString "cpy313.graphlib") 527), DictEntry.mk (PyData.keyHash P (.ofString "__firstlineno__")) (.str (.ofString "__firstlineno__") 601) (.int 121 600), DictEntry.mk (PyData.keyHash P (.ofString "__init__")) (.str (.ofString "__init__") 611) (.ref 128), DictEntry.mk (PyData.keyHash P (.ofString "_get_nodeinfo")) (.str (.ofString "_get_nodeinfo") 620) (.ref 135), DictEntry.mk (PyData.keyHash P (.ofString "add")) (.str (.ofString "add") 632) (.ref 142), DictEntry.mk (PyData.keyHash P (.ofString "prepare")) (.str (.ofString "prepare") 638) (.ref 147), DictEntry.mk (PyData.keyHash P (.ofString "get_ready")) (.str (.ofString "get_ready") 648) (.ref 154), DictEntry.mk (PyData.keyHash P (.ofString "is_active")) (.str (.ofString "is_active") 655) (.ref 161), DictEntry.mk (PyData.keyHash P (.ofString "__bool__")) (.str (.ofString "__bool__") 662) (.ref 168), DictEntry.mk (PyData.keyHash P (.ofString "done")) (.str (.ofString "done") 676) (.ref 175), DictEntry.mk (PyData.keyHash P (.ofString "_find_cycle")) (.str (.ofString "_find_cycle") 689) (.ref 182), DictEntry.mk (PyData.keyHash P (.ofString "static_order")) (.str (.ofString "static_order") 696) (.ref 189), DictEntry.mk (PyData.keyHash P (.ofString "__static_attributes__")) (.str (.ofString "__static_attributes__") 701) (.ref 190), DictEntry.mk (PyData.keyHash P (.ofString "__dict__")) (.str (.ofString "__dict__") 703) (.ref 193), DictEntry.mk (PyData.keyHash P (.ofString "__weakref__")) (.str (.ofString "__weakref__") 705) (.ref 194), DictEntry.mk (PyData.keyHash P (.ofString "__doc__")) (.str (.ofString "__doc__") 706) .none] 4) #[]
noncomputable def o_219 (P : Params) : Obj := Obj.mk (.type "code") none (Data.fields #[.str (.ofString "__init__") 602, .str (.ofString "TopologicalSorter.__init__") 603, .str (.ofString "/claim/cut.py") 604, .int 123 0, .int 2 0, .int 0 0, .int 0 0, .int 3 0, .ref 122, .bool true, .int 276 0, .ref 123, .none, .ref 124, .ref 125, .ref 126, .int 609 0, .int 123 0, .str (.ofString "/claim/cut.py") 610]) #[]
noncomputable def o_149 (P : Params) : Obj := Obj.mk (.type "tuple") none (Data.seq #[]) #[]
noncomputable def o_72 (P : Params) : Obj := Obj.mk (.type "frame") none Data.plain #[some (.ref 30), some (.ref 3), some (.ref 3), none, some (.str (.ofString "__main__") 164), none, some (.ref 0)]
noncomputable def o_56 (P : Params) : Obj := Obj.mk (.type "tuple") none (Data.seq #[]) #[]
noncomputable def o_48 (P : Params) : Obj := Obj.mk (.type "tuple") none (Data.seq #[]) #[]
noncomputable def o_204 (P : Params) : Obj := Obj.mk (.type "dict") none (Data.dict #[DictEntry.mk (PyData.keyHash P (.ofString "__name__")) (.str (.ofString "__name__") 165) (.str (.ofString "cpy313.graphlib") 527), DictEntry.mk (PyData.keyHash P (.ofString "__doc__")) (.str (.ofString "__doc__") 166) .none, DictEntry.mk (PyData.keyHash P (.ofString "__package__")) (.str (.ofString "__package__") 167) .none, DictEntry.mk (PyData.keyHash P (.ofString "__loader__")) (.str (.ofString "__loader__") 168) (.builtin "__main__.__loader__#opaque"), DictEntry.mk (PyData.keyHash P (.ofString "__spec__")) (.str (.ofString "__spec__") 169) .none, DictEntry.mk (PyData.keyHash P (.ofString "__annotations__")) (.str (.ofString "__annotations__") 170) (.ref 6), DictEntry.mk (PyData.keyHash P (.ofString "__builtins__")) (.str (.ofString "__builtins__") 171) (.ref 4), DictEntry.mk (PyData.keyHash P (.ofString "__file__")) (.str (.ofString "__file__") 173) (.str (.ofString "/claim/cut.py") 172), DictEntry.mk (PyData.keyHash P (.ofString "__cached__")) (.str (.ofString "__cached__") 174) .none, DictEntry.mk (PyData.keyHash P (.ofString "_sre")) (.str (.ofString "_sre") 275) (.ref 12), DictEntry.mk (PyData.keyHash P (.ofString "_wall")) (.str (.ofString "_wall") 288) (.ref 38), DictEntry.mk (PyData.keyHash P (.ofString "_twin_re_1")) (.str (.ofString "_twin_re_1") 328) (.ref 43), DictEntry.mk (PyData.keyHash P (.ofString "translate")) (.str (.ofString "translate") 337) (.ref 50), DictEntry.mk (PyData.keyHash P (.ofString "_special_chars_map")) (.str (.ofString "_special_chars_map") 485) (.ref 52), DictEntry.mk (PyData.keyHash P (.ofString "escape")) (.str (.ofString "escape") 492) (.ref 62), DictEntry.mk (PyData.keyHash P (.ofString "_translate")) (.str (.ofString "_translate") 513) (.ref 69), DictEntry.mk (PyData.keyHash P (.ofString "_join_translated_parts")) (.str (.ofString "_join_translated_parts") 526) (.ref 76), DictEntry.mk (PyData.keyHash P (.ofString "_NODE_OUT")) (.str (.ofString "_NODE_OUT") 531) (.int (-1) 530), DictEntry.mk (PyData.keyHash P (.ofString "_NODE_DONE")) (.str (.ofString "_NODE_DONE") 534) (.int (-2) 533), DictEntry.mk (PyData.keyHash P (.ofString "_NodeInfo")) (.str (.ofString "_NodeInfo") 571) (.ref 95), DictEntry.mk (PyData.keyHash P (.ofString "CycleError")) (.str (.ofString "CycleError") 589) (.ref 110), DictEntry.mk (PyData.keyHash P (.ofString "TopologicalSorter")) (.str (.ofString "TopologicalSorter") 708) (.ref 192)] 22) #[]
noncomputable def o_42 (P : Params) : Obj := Obj.mk (.type "dict") none (Data.dict #[DictEntry.mk (PyData.keyHash P (.ofString "builtins")) (.str (.ofString "builtins") 162) (.ref 4), DictEntry.mk (PyData.keyHash P (.ofString "__main__")) (.str (.ofString "__main__") 163) (.ref 5), DictEntry.mk (PyData.keyHash P (.ofString "_sre")) (.str (.ofString "_sre") 244) (.ref 12)] 3) #[]
noncomputable def o_41 (P : Params) : Obj := Obj.mk (.type "dict") none (Data.dict #[DictEntry.mk (PyData.keyHash P (.ofString "__name__")) (.str (.ofString "__name__") 1) (.str (.ofString "builtins") 160), DictEntry.mk (PyData.keyHash P (.ofString "__doc__")) (.str (.ofString "__doc__") 2) (.builtin "builtins.__doc__:str#opaque"), DictEntry.mk (PyData.keyHash P (.ofString "__package__")) (.str (.ofString "__package__") 3) (.builtin "builtins.__package__:str#opaque"), DictEntry.mk (PyData.keyHash P (.ofString "__loader__")) (.str (.ofString "__loader__") 4) (.builtin "builtins.__loader__:shared#opaque"), DictEntry.mk (PyData.keyHash P (.ofString "__spec__")) (.str (.ofString "__spec__") 5) (.builtin "builtins.__spec__#opaque"), DictEntry.mk (PyData.keyHash P (.ofString "__build_class__")) (.str (.ofString "__build_class__") 6) (.builtin "__build_class__"), DictEntry.mk (PyData.keyHash P (.ofString "__import__")) (.str (.ofString "__import__") 7) (.builtin "__import__"), DictEntry.mk (PyData.keyHash P (.ofString "abs")) (.str (.ofString "abs") 8) (.builtin "abs"), DictEntry.mk (PyData.keyHash P (.ofString "all")) (.str (.ofString "all") 9) (.builtin "all"), DictEntry.mk (PyData.keyHash P (.ofString "any")) (.str (.ofString "any") 10) (.builtin "any"), DictEntry.mk (PyData.keyHash P (.ofString "ascii")) (.str (.ofString "ascii") 11) (.builtin "ascii"), DictEntry.mk (PyData.keyHash P (.ofString "bin")) (.str (.ofString "bin") 12) (.builtin "bin"), DictEntry.mk (PyData.keyHash P (.ofString "breakpoint")) (.str (.ofString "breakpoint") 13) (.builtin "breakpoint"), DictEntry.mk (PyData.keyHash P (.ofString "callable")) (.str (.ofString "callable") 14) (.builtin "callable"), DictEntry.mk (PyData.keyHash P (.ofString "chr")) (.str (.ofString "chr") 15) (.builtin "chr"), DictEntry.mk (PyData.keyHash P (.ofString "compile")) (.str (.ofString "compile") 16) (.builtin "compile"), DictEntry.mk (PyData.keyHash P (.ofString "delattr")) (.str (.ofString "delattr") 17) (.builtin "delattr"), DictEntry.mk (PyData.keyHash P (.ofString "dir")) (.str (.ofString "dir") 18) (.builtin "dir"), DictEntry.mk (PyData.keyHash P (.ofString "divmod")) (.str (.ofString "divmod") 19) (.builtin "divmod"), DictEntry.mk (PyData.keyHash P (.ofString "eval")) (.str (.ofString "eval") 20) (.builtin "eval"), DictEntry.mk (PyData.keyHash P (.ofString "exec")) (.str (.ofString "exec") 21) (.builtin "exec"), DictEntry.mk (PyData.keyHash P (.ofString "format")) (.str (.ofString "format") 22) (.builtin "format"), DictEntry.mk (PyData.keyHash P (.ofString "getattr")) (.str (.ofString "getattr") 23) (.builtin "getattr"), DictEntry.mk (PyData.keyHash P (.ofString "globals")) (.str (.ofString "globals") 24) (.builtin "globals"), DictEntry.mk (PyData.keyHash P (.ofString "hasattr")) (.str (.ofString "hasattr") 25) (.builtin "hasattr"), DictEntry.mk (PyData.keyHash P (.ofString "hash")) (.str (.ofString "hash") 26) (.builtin "hash"), DictEntry.mk (PyData.keyHash P (.ofString "hex")) (.str (.ofString "hex") 27) (.builtin "hex"), DictEntry.mk (PyData.keyHash P (.ofString "id")) (.str (.ofString "id") 28) (.builtin "id"), DictEntry.mk (PyData.keyHash P (.ofString "input")) (.str (.ofString "input") 29) (.builtin "input"), DictEntry.mk (PyData.keyHash P (.ofString "isinstance")) (.str (.ofString "isinstance") 30) (.builtin "isinstance"), DictEntry.mk (PyData.keyHash P (.ofString "issubclass")) (.str (.ofString "issubclass") 31) (.builtin "issubclass"), DictEntry.mk (PyData.keyHash P (.ofString "iter")) (.str (.ofString "iter") 32) (.builtin "iter"), DictEntry.mk (PyData.keyHash P (.ofString "aiter")) (.str (.ofString "aiter") 33) (.builtin "aiter"), DictEntry.mk (PyData.keyHash P (.ofString "len")) (.str (.ofString "len") 34) (.builtin "len"), DictEntry.mk (PyData.keyHash P (.ofString "locals")) (.str (.ofString "locals") 35) (.builtin "locals"), DictEntry.mk (PyData.keyHash P (.ofString "max")) (.str (.ofString "max") 36) (.builtin "max"), DictEntry.mk (PyData.keyHash P (.ofString "min")) (.str (.ofString "min") 37) (.builtin "min"), DictEntry.mk (PyData.keyHash P (.ofString "next")) (.str (.ofString "next") 38) (.builtin "next"), DictEntry.mk (PyData.keyHash P (.ofString "anext")) (.str (.ofString "anext") 39) (.builtin "anext"), DictEntry.mk (PyData.keyHash P (.ofString "oct")) (.str (.ofString "oct") 40) (.builtin "oct"), DictEntry.mk (PyData.keyHash P (.ofString "ord")) (.str (.ofString "ord") 41) (.builtin "ord"), DictEntry.mk (PyData.keyHash P (.ofString "pow")) (.str (.ofString "pow") 42) (.builtin "pow"), DictEntry.mk (PyData.keyHash P (.ofString "print")) (.str (.ofString "print") 43) (.builtin "print"), DictEntry.mk (PyData.keyHash P (.ofString "repr")) (.str (.ofString "repr") 44) (.builtin "repr"), DictEntry.mk (PyData.keyHash P (.ofString "round")) (.str (.ofString "round") 45) (.builtin "round"), DictEntry.mk (PyData.keyHash P (.ofString "setattr")) (.str (.ofString "setattr") 46) (.builtin "setattr"), DictEntry.mk (PyData.keyHash P (.ofString "sorted")) (.str (.ofString "sorted") 47) (.builtin "sorted"), DictEntry.mk (PyData.keyHash P (.ofString "sum")) (.str (.ofString "sum") 48) (.builtin "sum"), DictEntry.mk (PyData.keyHash P (.ofString "vars")) (.str (.ofString "vars") 49) (.builtin "vars"), DictEntry.mk (PyData.keyHash P (.ofString "None")) (.str (.ofString "None") 50) .none, DictEntry.mk (PyData.keyHash P (.ofString "Ellipsis")) (.str (.ofString "Ellipsis") 51) Value.ellipsis, DictEntry.mk (PyData.keyHash P (.ofString "NotImplemented")) (.str (.ofString "NotImplemented") 52) Value.notImplemented, DictEntry.mk (PyData.keyHash P (.ofString "False")) (.str (.ofString "False") 53) (.bool false), DictEntry.mk (PyData.keyHash P (.ofString "True")) (.str (.ofString "True") 54) (.bool true), DictEntry.mk (PyData.keyHash P (.ofString "bool")) (.str (.ofString "bool") 55) (.type "bool"), DictEntry.mk (PyData.keyHash P (.ofString "memoryview")) (.str (.ofString "memoryview") 56) (.type "memoryview"), DictEntry.mk (PyData.keyHash P (.ofString "bytearray")) (.str (.ofString "bytearray") 57) (.type "bytearray"), DictEntry.mk (PyData.keyHash P (.ofString "bytes")) (.str (.ofString "bytes") 58) (.type "bytes"), DictEntry.mk (PyData.keyHash P (.ofString "classmethod")) (.str (.ofString "classmethod") 59) (.type "classmethod"), DictEntry.mk (PyData.keyHash P (.ofString "complex")) (.str (.ofString "complex") 60) (.type "complex"), DictEntry.mk (PyData.keyHash P (.ofString "dict")) (.str (.ofString "dict") 61) (.type "dict"), DictEntry.mk (PyData.keyHash P (.ofString "enumerate")) (.str (.ofString "enumerate") 62) (.type "enumerate"), DictEntry.mk (PyData.keyHash P (.ofString "filter")) (.str (.ofString "filter") 63) (.type "filter"), DictEntry.mk (PyData.keyHash P (.ofString "float")) (.str (.ofString "float") 64) (.type "float"), DictEntry.mk (PyData.keyHash P (.ofString "frozenset")) (.str (.ofString "frozenset") 65) (.type "frozenset"), DictEntry.mk (PyData.keyHash P (.ofString "property")) (.str (.ofString "property") 66) (.type "property"), DictEntry.mk (PyData.keyHash P (.ofString "int")) (.str (.ofString "int") 67) (.type "int"), DictEntry.mk (PyData.keyHash P (.ofString "list")) (.str (.ofString "list") 68) (.type "list"), DictEntry.mk (PyData.keyHash P (.ofString "map")) (.str (.ofString "map") 69) (.type "map"), DictEntry.mk (PyData.keyHash P (.ofString "object")) (.str (.ofString "object") 70) (.type "object"), DictEntry.mk (PyData.keyHash P (.ofString "range")) (.str (.ofString "range") 71) (.type "range"), DictEntry.mk (PyData.keyHash P (.ofString "reversed")) (.str (.ofString "reversed") 72) (.type "reversed"), DictEntry.mk (PyData.keyHash P (.ofString "set")) (.str (.ofString "set") 73) (.type "set"), DictEntry.mk (PyData.keyHash P (.ofString "slice")) (.str (.ofString "slice") 74) (.type "slice"), DictEntry.mk (PyData.keyHash P (.ofString "staticmethod")) (.str (.ofString "staticmethod") 75) (.type "staticmethod"), DictEntry.mk (PyData.keyHash P (.ofString "str")) (.str (.ofString "str") 76) (.type "str"), DictEntry.mk (PyData.keyHash P (.ofString "super")) (.str (.ofString "super") 77) (.type "super"), DictEntry.mk (PyData.keyHash P (.ofString "tuple")) (.str (.ofString "tuple") 78) (.type "tuple"), DictEntry.mk (PyData.keyHash P (.ofString "type")) (.str (.ofString "type") 79) (.type "type"), DictEntry.mk (PyData.keyHash P (.ofString "zip")) (.str (.ofString "zip") 80) (.type "zip"), DictEntry.mk (PyData.keyHash P (.ofString "__debug__")) (.str (.ofString "__debug__") 81) (.bool true), DictEntry.mk (PyData.keyHash P (.ofString "BaseException")) (.str (.ofString "BaseException") 82) (.type "BaseException"), DictEntry.mk (PyData.keyHash P (.ofString "BaseExceptionGroup")) (.str (.ofString "BaseExceptionGroup") 83) (.type "BaseExceptionGroup"), DictEntry.mk (PyData.keyHash P (.ofString "Exception")) (.str (.ofString "Exception") 84) (.type "Exception"), DictEntry.mk (PyData.keyHash P (.ofString "GeneratorExit")) (.str (.ofString "GeneratorExit") 85) (.type "GeneratorExit"), DictEntry.mk (PyData.keyHash P (.ofString "KeyboardInterrupt")) (.str (.ofString "KeyboardInterrupt") 86) (.type "KeyboardInterrupt"), DictEntry.mk (PyData.keyHash P (.ofString "SystemExit")) (.str (.ofString "SystemExit") 87) (.type "SystemExit"), DictEntry.mk (PyData.keyHash P (.ofString "ArithmeticError")) (.str (.ofString "ArithmeticError") 88) (.type "ArithmeticError"), DictEntry.mk (PyData.keyHash P (.ofString "AssertionError")) (.str (.ofString "AssertionError") 89) (.type "AssertionError"), DictEntry.mk (PyData.keyHash P (.ofString "AttributeError")) (.str (.ofString "AttributeError") 90) (.type "AttributeError"), DictEntry.mk (PyData.keyHash P (.ofString "BufferError")) (.str (.ofString "BufferError") 91) (.type "BufferError"), DictEntry.mk (PyData.keyHash P (.ofString "EOFError")) (.str (.ofString "EOFError") 92) (.type "EOFError"), DictEntry.mk (PyData.keyHash P (.ofString "ImportError")) (.str (.ofString "ImportError") 93) (.type "ImportError"), DictEntry.mk (PyData.keyHash P (.ofString "LookupError")) (.str (.ofString "LookupError") 94) (.type "LookupError"), DictEntry.mk (PyData.keyHash P (.ofString "MemoryError")) (.str (.ofString "MemoryError") 95) (.type "MemoryError"), DictEntry.mk (PyData.keyHash P (.ofString "NameError")) (.str (.ofString "NameError") 96) (.type "NameError"), DictEntry.mk (PyData.keyHash P (.ofString "OSError")) (.str (.ofString "OSError") 97) (.type "OSError"), DictEntry.mk (PyData.keyHash P (.ofString "ReferenceError")) (.str (.ofString "ReferenceError") 98) (.type "ReferenceError"), DictEntry.mk (PyData.keyHash P (.ofString "RuntimeError")) (.str (.ofString "RuntimeError") 99) (.type "RuntimeError"), DictEntry.mk (PyData.keyHash P (.ofString "StopAsyncIteration")) (.str (.ofString "StopAsyncIteration") 100) (.type "StopAsyncIteration"), DictEntry.mk (PyData.keyHash P (.ofString "StopIteration")) (.str (.ofString "StopIteration") 101) (.type "StopIteration"), DictEntry.mk (PyData.keyHash P (.ofString "SyntaxError")) (.str (.ofString "SyntaxError") 102) (.type "SyntaxError"), DictEntry.mk (PyData.keyHash P (.ofString "SystemError")) (.str (.ofString "SystemError") 103) (.type "SystemError"), DictEntry.mk (PyData.keyHash P (.ofString "TypeError")) (.str (.ofString "TypeError") 104) (.type "TypeError"), DictEntry.mk (PyData.keyHash P (.ofString "ValueError")) (.str (.ofString "ValueError") 105) (.type "ValueError"), DictEntry.mk (PyData.keyHash P (.ofString "Warning")) (.str (.ofString "Warning") 106) (.type "Warning"), DictEntry.mk (PyData.keyHash P (.ofString "FloatingPointError")) (.str (.ofString "FloatingPointError") 107) (.type "FloatingPointError"), DictEntry.mk (PyData.keyHash P (.ofString "OverflowError")) (.str (.ofString "OverflowError") 108) (.type "OverflowError"), DictEntry.mk (PyData.keyHash P (.ofString "ZeroDivisionError")) (.str (.ofString "ZeroDivisionError") 109) (.type "ZeroDivisionError"), DictEntry.mk (PyData.keyHash P (.ofString "BytesWarning")) (.str (.ofString "BytesWarning") 110) (.type "BytesWarning"), DictEntry.mk (PyData.keyHash P (.ofString "DeprecationWarning")) (.str (.ofString "DeprecationWarning") 111) (.type "DeprecationWarning"), DictEntry.mk (PyData.keyHash P (.ofString "EncodingWarning")) (.str (.ofString "EncodingWarning") 112) (.type "EncodingWarning"), DictEntry.mk (PyData.keyHash P (.ofString "FutureWarning")) (.str (.ofString "FutureWarning") 113) (.type "FutureWarning"), DictEntry.mk (PyData.keyHash P (.ofString "ImportWarning")) (.str (.ofString "ImportWarning") 114) (.type "ImportWarning"), DictEntry.mk (PyData.keyHash P (.ofString "PendingDeprecationWarning")) (.str (.ofString "PendingDeprecationWarning") 115) (.type "PendingDeprecationWarning"), DictEntry.mk (PyData.keyHash P (.ofString "ResourceWarning")) (.str (.ofString "ResourceWarning") 116) (.type "ResourceWarning"), DictEntry.mk (PyData.keyHash P (.ofString "RuntimeWarning")) (.str (.ofString "RuntimeWarning") 117) (.type "RuntimeWarning"), DictEntry.mk (PyData.keyHash P (.ofString "SyntaxWarning")) (.str (.ofString "SyntaxWarning") 118) (.type "SyntaxWarning"), DictEntry.mk (PyData.keyHash P (.ofString "UnicodeWarning")) (.str (.ofString "UnicodeWarning") 119) (.type "UnicodeWarning"), DictEntry.mk (PyData.keyHash P (.ofString "UserWarning")) (.str (.ofString "UserWarning") 120) (.type "UserWarning"), DictEntry.mk (PyData.keyHash P (.ofString "BlockingIOError")) (.str (.ofString "BlockingIOError") 121) (.type "BlockingIOError"), DictEntry.mk (PyData.keyHash P (.ofString "ChildProcessError")) (.str (.ofString "ChildProcessError") 122) (.type "ChildProcessError"), DictEntry.mk (PyData.keyHash P (.ofString "ConnectionError")) (.str (.ofString "ConnectionError") 123) (.type "ConnectionError"), DictEntry.mk (PyData.keyHash P (.ofString "FileExistsError")) (.str (.ofString "FileExistsError") 124) (.type "FileExistsError"), DictEntry.mk (PyData.keyHash P (.ofString "FileNotFoundError")) (.str (.ofString "FileNotFoundError") 125) (.type "FileNotFoundError"), DictEntry.mk (PyData.keyHash P (.ofString "InterruptedError")) (.str (.ofString "InterruptedError") 126) (.type "InterruptedError"), DictEntry.mk (PyData.keyHash P (.ofString "IsADirectoryError")) (.str (.ofString "IsADirectoryError") 127) (.type "IsADirectoryError"), DictEntry.mk (PyData.keyHash P (.ofString "NotADirectoryError")) (.str (.ofString "NotADirectoryError") 128) (.type "NotADirectoryError"), DictEntry.mk (PyData.keyHash P (.ofString "PermissionError")) (.str (.ofString "PermissionError") 129) (.type "PermissionError"), DictEntry.mk (PyData.keyHash P (.ofString "ProcessLookupError")) (.str (.ofString "ProcessLookupError") 130) (.type "ProcessLookupError"), DictEntry.mk (PyData.keyHash P (.ofString "TimeoutError")) (.str (.ofString "TimeoutError") 131) (.type "TimeoutError"), DictEntry.mk (PyData.keyHash P (.ofString "IndentationError")) (.str (.ofString "IndentationError") 132) (.type "IndentationError"), DictEntry.mk (PyData.keyHash P (.ofString "_IncompleteInputError")) (.str (.ofString "_IncompleteInputError") 133) (.type "_IncompleteInputError"), DictEntry.mk (PyData.keyHash P (.ofString "IndexError")) (.str (.ofString "IndexError") 134) (.type "IndexError"), DictEntry.mk (PyData.keyHash P (.ofString "KeyError")) (.str (.ofString "KeyError") 135) (.type "KeyError"), DictEntry.mk (PyData.keyHash P (.ofString "ModuleNotFoundError")) (.str (.ofString "ModuleNotFoundError") 136) (.type "ModuleNotFoundError"), DictEntry.mk (PyData.keyHash P (.ofString "NotImplementedError")) (.str (.ofString "NotImplementedError") 137) (.type "NotImplementedError"), DictEntry.mk (PyData.keyHash P (.ofString "PythonFinalizationError")) (.str (.ofString "PythonFinalizationError") 138) (.type "PythonFinalizationError"), DictEntry.mk (PyData.keyHash P (.ofString "RecursionError")) (.str (.ofString "RecursionError") 139) (.type "RecursionError"), DictEntry.mk (PyData.keyHash P (.ofString "UnboundLocalError")) (.str (.ofString "UnboundLocalError") 140) (.type "UnboundLocalError"), DictEntry.mk (PyData.keyHash P (.ofString "UnicodeError")) (.str (.ofString "UnicodeError") 141) (.type "UnicodeError"), DictEntry.mk (PyData.keyHash P (.ofString "BrokenPipeError")) (.str (.ofString "BrokenPipeError") 142) (.type "BrokenPipeError"), DictEntry.mk (PyData.keyHash P (.ofString "ConnectionAbortedError")) (.str (.ofString "ConnectionAbortedError") 143) (.type "ConnectionAbortedError"), DictEntry.mk (PyData.keyHash P (.ofString "ConnectionRefusedError")) (.str (.ofString "ConnectionRefusedError") 144) (.type "ConnectionRefusedError"), DictEntry.mk (PyData.keyHash P (.ofString "ConnectionResetError")) (.str (.ofString "ConnectionResetError") 145) (.type "ConnectionResetError"), DictEntry.mk (PyData.keyHash P (.ofString "TabError")) (.str (.ofString "TabError") 146) (.type "TabError"), DictEntry.mk (PyData.keyHash P (.ofString "UnicodeDecodeError")) (.str (.ofString "UnicodeDecodeError") 147) (.type "UnicodeDecodeError"), DictEntry.mk (PyData.keyHash P (.ofString "UnicodeEncodeError")) (.str (.ofString "UnicodeEncodeError") 148) (.type "UnicodeEncodeError"), DictEntry.mk (PyData.keyHash P (.ofString "UnicodeTranslateError")) (.str (.ofString "UnicodeTranslateError") 149) (.type "UnicodeTranslateError"), DictEntry.mk (PyData.keyHash P (.ofString "ExceptionGroup")) (.str (.ofString "ExceptionGroup") 150) (.type "ExceptionGroup"), DictEntry.mk (PyData.keyHash P (.ofString "EnvironmentError")) (.str (.ofString "EnvironmentError") 151) (.type "OSError"), DictEntry.mk (PyData.keyHash P (.ofString "IOError")) (.str (.ofString "IOError") 152) (.type "OSError"), DictEntry.mk (PyData.keyHash P (.ofString "open")) (.str (.ofString "open") 153) (.builtin "open"), DictEntry.mk (PyData.keyHash P (.ofString "quit")) (.str (.ofString "quit") 154) (.builtin "builtins.quit#opaque"), DictEntry.mk (PyData.keyHash P (.ofString "exit")) (.str (.ofString "exit") 155) (.builtin "builtins.exit#opaque"), DictEntry.mk (PyData.keyHash P (.ofString "copyright")) (.str (.ofString "copyright") 156) (.builtin "builtins.copyright#opaque"), DictEntry.mk (PyData.keyHash P (.ofString "credits")) (.str (.ofString "credits") 157) (.builtin "builtins.credits#opaque"), DictEntry.mk (PyData.keyHash P (.ofString "license")) (.str (.ofString "license") 158) (.builtin "builtins.license#opaque"), DictEntry.mk (PyData.keyHash P (.ofString "help")) (.str (.ofString "help") 159) (.builtin "builtins.help#opaque")] 159) #[]
noncomputable def o_190 (P : Params) : Obj := Obj.mk .none none (Data.fields #[.int 2 0, .int 0 0, .ref 37, .int 7 0, .int 0 0, .ref 49, .int 13 0, .int 0 0, .ref 61, .int 20 0, .int 0 0, .ref 68, .int 82 0, .int 0 0, .ref 75, .int 112 0, .int 0 0, .ref 82, .int 119 0, .int 0 0, .ref 106]) #[]
noncomputable def o_189 (P : Params) : Obj := Obj.mk (.type "dict") none (Data.dict #[DictEntry.mk (PyData.keyHash P (.ofString "__name__")) (.str (.ofString "__name__") 165) (.str (.ofString "cpy313.graphlib") 527), DictEntry.mk (PyData.keyHash P (.ofString "__doc__")) (.str (.ofString "__doc__") 166) .none, DictEntry.mk (PyData.keyHash P (.ofString "__package__")) (.str (.ofString "__package__") 167) .none, DictEntry.mk (PyData.keyHash P (.ofString "__loader__")) (.str (.ofString "__loader__") 168) (.builtin "__main__.__loader__#opaque"), DictEntry.mk (PyData.keyHash P (.ofString "__spec__")) (.str (.ofString "__spec__") 169) .none, DictEntry.mk (PyData.keyHash P (.ofString "__annotations__")) (.str (.ofString "__annotations__") 170) (.ref 6), DictEntry.mk (PyData.keyHash P (.ofString "__builtins__")) (.str (.ofString "__builtins__") 171) (.ref 4), DictEntry.mk (PyData.keyHash P (.ofString "__file__")) (.str (.ofString "__file__") 173) (.str (.ofString "/claim/cut.py") 172), DictEntry.mk (PyData.keyHash P (.ofString "__cached__")) (.str (.ofString "__cached__") 174) .none, DictEntry.mk (PyData.keyHash P (.ofString "_sre")) (.str (.ofString "_sre") 275) (.ref 12), DictEntry.mk (PyData.keyHash P (.ofString "_wall")) (.str (.ofString "_wall") 288) (.ref 38), DictEntry.mk (PyData.keyHash P (.ofString "_twin_re_1")) (.str (.ofString "_twin_re_1") 328) (.ref 43), DictEntry.mk (PyData.keyHash P (.ofString "translate")) (.str (.ofString "translate") 337) (.ref 50), DictEntry.mk (PyData.keyHash P (.ofString "_special_chars_map")) (.str (.ofString "_special_chars_map") 485) (.ref 52), DictEntry.mk (PyData.keyHash P (.ofString "escape")) (.str (.ofString "escape") 492) (.ref 62), DictEntry.mk (PyData.keyHash P (.ofString "_translate")) (.str (.ofString "_translate") 513) (.ref 69), DictEntry.mk (PyData.keyHash P (.ofString "_join_translated_parts")) (.str (.ofString "_join_translated_parts") 526) (.ref 76), DictEntry.mk (PyData.keyHash P (.ofString "_NODE_OUT")) (.str (.ofString "_NODE_OUT") 531) (.int (-1) 530), DictEntry.mk (PyData.keyHash P (.ofString "_NODE_DONE")) (.str (.ofString "_NODE_DONE") 534) (.int (-2) 533), DictEntry.mk (PyData.keyHash P (.ofString "_NodeInfo")) (.str (.ofString "_NodeInfo") 571) (.ref 95), DictEntry.mk (PyData.keyHash P (.ofString "CycleError")) (.str (.ofString "CycleError") 589) (.ref 110)] 21) #[]
noncomputable def o_76 (P : Params) : Obj := Obj.mk .none none (Data.fields #[.int 2 0, .int 0 0, .ref 37, .int 7 0, .int 0 0, .ref 49]) #[]
noncomputable def o_96 (P : Params) : Obj := Obj.mk (.type "dict") none (Data.dict #[DictEntry.mk (PyData.keyHash P (.ofString "__name__")) (.str (.ofString "__name__") 165) (.str (.ofString "re") 338), DictEntry.mk (PyData.keyHash P (.ofString "__doc__")) (.str (.ofString "__doc__") 166) .none, DictEntry.mk (PyData.keyHash P (.ofString "__package__")) (.str (.ofString "__package__") 167) .none, DictEntry.mk (PyData.keyHash P (.ofString "__loader__")) (.str (.ofString "__loader__") 168) (.builtin "__main__.__loader__#opaque"), DictEntry.mk (PyData.keyHash P (.ofString "__spec__")) (.str (.ofString "__spec__") 169) .none, DictEntry.mk (PyData.keyHash P (.ofString "__annotations__")) (.str (.ofString "__annotations__") 170) (.ref 6), DictEntry.mk (PyData.keyHash P (.ofString "__builtins__")) (.str (.ofString "__builtins__") 171) (.ref 4), DictEntry.mk (PyData.keyHash P (.ofString "__file__")) (.str (.ofString "__file__") 173) (.str (.ofString "/claim/cut.py") 172), DictEntry.mk (PyData.keyHash P (.ofString "__cached__")) (.str (.ofString "__cached__") 174) .none, DictEntry.mk (PyData.keyHash P (.ofString "_sre")) (.str (.ofString "_sre") 275) (.ref 12), DictEntry.mk (PyData.keyHash P (.ofString "_wall")) (.str (.ofString "_wall") 288) (.ref 38), DictEntry.mk (PyData.keyHash P (.ofString "_twin_re_1")) (.str (.ofString "_twin_re_1") 328) (.ref 43), DictEntry.mk (PyData.keyHash P (.ofString "translate")) (.str (.ofString "translate") 337) (.ref 50), DictEntry.mk (PyData.keyHash P (.ofString "_special_chars_map")) (.str (.ofString "_special_chars_map") 485) (.ref 52)] 14) #[]
noncomputable def o_75 (P : Params) : Obj := Obj.mk (.type "dict") none (Data.dict #[DictEntry.mk (PyData.keyHash P (.ofString "__name__")) (.str (.ofString "__name__") 165) (.str (.ofString "re") 338), DictEntry.mk (PyData.keyHash P (.ofString "__doc__")) (.str (.ofString "__doc__") 166) .none, DictEntry.mk (PyData.keyHash P (.ofString "__package__")) (.str (.ofString "__package__") 167) .none, DictEntry.mk (PyData.keyHash P (.ofString "__loader__")) (.str (.ofString "__loader__") 168) (.builtin "__main__.__loader__#opaque"), DictEntry.mk (PyData.keyHash P (.ofString "__spec__")) (.str (.ofString "__spec__") 169) .none, DictEntry.mk (PyData.keyHash P (.ofString "__annotations__")) (.str (.ofString "__annotations__") 170) (.ref 6), DictEntry.mk (PyData.keyHash P (.ofString "__builtins__")) (.str (.ofString "__builtins__") 171) (.ref 4), DictEntry.mk (PyData.keyHash P (.ofString "__file__")) (.str (.ofString "__file__") 173) (.str (.ofString "/claim/cut.py") 172), DictEntry.mk (PyData.keyHash P (.ofString "__cached__")) (.str (.ofString "__cached__") 174) .none, DictEntry.mk (PyData.keyHash P (.ofString "_sre")) (.str (.ofString "_sre") 275) (.ref 12), DictEntry.mk (PyData.keyHash P (.ofString "_wall")) (.str (.ofString "_wall") 288) (.ref 38), DictEntry.mk (PyData.keyHash P (.ofString "_twin_re_1")) (.str (.ofString "_twin_re_1") 328) (.ref 43), DictEntry.mk (PyData.keyHash P (.ofString "translate")) (.str (.ofString "translate") 337) (.ref 50)] 13) #[]
noncomputable def o_70 (P : Params) : Obj := Obj.mk .none none (Data.fields #[]) #[]
noncomputable def o_44 (P : Params) : Obj := Obj.mk (.type "dict") none (Data.dict #[DictEntry.mk (PyData.keyHash P (.ofString "__name__")) (.str (.ofString "__name__") 165) (.str (.ofString "__main__") 164), DictEntry.mk (PyData.keyHash P (.ofString "__doc__")) (.str (.ofString "__doc__") 166) .none, DictEntry.mk (PyData.keyHash P (.ofString "__package__")) (.str (.ofString "__package__") 167) .none, DictEntry.mk (PyData.keyHash P (.ofString "__loader__")) (.str (.ofString "__loader__") 168) (.builtin "__main__.__loader__#opaque"), DictEntry.mk (PyData.keyHash P (.ofString "__spec__")) (.str (.ofString "__spec__") 169) .none, DictEntry.mk (PyData.keyHash P (.ofString "__annotations__")) (.str (.ofString "__annotations__") 170) (.ref 6), DictEntry.mk (PyData.keyHash P (.ofString "__builtins__")) (.str (.ofString "__builtins__") 171) (.ref 4), DictEntry.mk (PyData.keyHash P (.ofString "__file__")) (.str (.ofString "__file__") 173) (.str (.ofString "/claim/cut.py") 172), DictEntry.mk (PyData.keyHash P (.ofString "__cached__")) (.str (.ofString "__cached__") 174) .none, DictEntry.mk (PyData.keyHash P (.ofString "_sre")) (.str (.ofString "_sre") 275) (.ref 12)] 10) #[]
noncomputable abbrev fo_377 : Option Stmt := mb[46]?
noncomputable def o_377 (P : Params) : Obj := Obj.mk (.type "function") none (Data.func (FuncData.mk (.ofString "law") (.ofString "law") (fnP fo_377).1 (FuncBody.stmts (fnP fo_377).2.1) (fnP fo_377).2.2 3 [] .none .none .none (.str (.ofString "law_rx0025_01") 801) none (.ref 280) .none 0)) #[]
noncomputable def o_376 (P : Params) : Obj := Obj.mk (.type "code") none (Data.fields #[.str (.ofString "law") 841, .str (.ofString "law") 842, .str (.ofString "/claim/cut.py") 843, .int 309 0, .int 1 0, .int 0 0, .int 0 0, .int 3 0, .ref 277, .bool true, .int 276 0, .ref 278, .none, .none, .none, .ref 279, .int 844 0, .int 309 0, .str (.ofString "/claim/cut.py") 845]) #[]
noncomputable abbrev fo_375 : Option Stmt := mb[46]?
noncomputable def o_375 (P : Params) : Obj := Obj.mk .none none (Data.func (FuncData.mk (.ofString "law") (.ofString "law") (fnP fo_375).1 (FuncBody.stmts (fnP fo_375).2.1) (fnP fo_375).2.2 0 [] .none .none .none .none none .none .none 0)) #[]
noncomputable def o_374 (P : Params) : Obj := Obj.mk .none none (Data.fields #[]) #[]
noncomputable def o_373 (P : Params) : Obj := Obj.mk (.type "tuple") none (Data.seq #[]) #[]
noncomputable abbrev fo_372 : Option Stmt := mb[45]?
noncomputable def o_372 (P : Params) : Obj := Obj.mk (.type "function") none (Data.func (FuncData.mk (.ofString "_law_rounds") (.ofString "_law_rounds") (fnP fo_372).1 (FuncBody.stmts (fnP fo_372).2.1) (fnP fo_372).2.2 3 [] .none .none .none (.str (.ofString "law_rx0025_01") 801) none (.ref 275) .none 0)) #[]
noncomputable def o_371 (P : Params) : Obj := Obj.mk (.type "code") none (Data.fields #[.str (.ofString "_law_rounds") 835, .str (.ofString "_law_rounds") 836, .str (.ofString "/claim/cut.py") 837, .int 298 0, .int 1 0, .int 0 0, .int 0 0, .int 3 0, .ref 272, .bool true, .int 276 0, .ref 273, .none, .none, .none, .ref 274, .int 838 0, .int 298 0, .str (.ofString "/claim/cut.py") 839]) #[]
noncomputable abbrev fo_370 : Option Stmt := mb[45]?
noncomputable def o_370 (P : Params) : Obj := Obj.mk .none none (Data.func (FuncData.mk (.ofString "_law_rounds") (.ofString "_law_rounds") (fnP fo_370).1 (FuncBody.stmts (fnP fo_370).2.1) (fnP fo_370).2.2 0 [] .none .none .none .none none .none .none 0)) #[]
noncomputable def o_369 (P : Params) : Obj := Obj.mk .none none (Data.fields #[]) #[]
noncomputable def o_368 (P : Params) : Obj := Obj.mk (.type "tuple") none (Data.seq #[]) #[]
noncomputable abbrev fo_367 : Option Stmt := mb[44]?
noncomputable def o_367 (P : Params) : Obj := Obj.mk (.type "function") none (Data.func (FuncData.mk (.ofString "_law_fits") (.ofString "_law_fits") (fnP fo_367).1 (FuncBody.stmts (fnP fo_367).2.1) (fnP fo_367).2.2 3 [] .none .none .none (.str (.ofString "law_rx0025_01") 801) none (.ref 270) .none 0)) #[]
noncomputable def o_366 (P : Params) : Obj := Obj.mk (.type "code") none (Data.fields #[.str (.ofString "_law_fits") 824, .str (.ofString "_law_fits") 825, .str (.ofString "/claim/cut.py") 826, .int 283 0, .int 2 0, .int 0 0, .int 0 0, .int 3 0, .ref 265, .bool true, .int 276 0, .ref 266, .none, .ref 267, .ref 268, .ref 269, .int 832 0, .int 283 0, .str (.ofString "/claim/cut.py") 833]) #[]
noncomputable abbrev fo_365 : Option Stmt := mb[44]?
noncomputable def o_365 (P : Params) : Obj := Obj.mk .none none (Data.func (FuncData.mk (.ofString "_law_fits") (.ofString "_law_fits") (fnP fo_365).1 (FuncBody.stmts (fnP fo_365).2.1) (fnP fo_365).2.2 0 [] .none .none .none .none none .none .none 0)) #[]
noncomputable def o_364 (P : Params) : Obj := Obj.mk (.type "tuple") none (Data.seq #[]) #[]
noncomputable def o_363 (P : Params) : Obj := Obj.mk (.type "tuple") none (Data.seq #[.str (.ofString "made") 827, .str (.ofString "row") 828, .str (.ofString "text") 829, .str (.ofString "place") 830, .str (.ofString "sign") 831]) #[]
noncomputable def o_362 (P : Params) : Obj := Obj.mk .none none (Data.fields #[]) #[]
noncomputable def o_361 (P : Params) : Obj := Obj.mk (.type "tuple") none (Data.seq #[]) #[]
noncomputable abbrev fo_360 : Option Stmt := mb[43]?
noncomputable def o_360 (P : Params) : Obj := Obj.mk (.type "function") none (Data.func (FuncData.mk (.ofString "_law_written") (.ofString "_law_written") (fnP fo_360).1 (FuncBody.stmts (fnP fo_360).2.1) (fnP fo_360).2.2 3 [] .none .none .none (.str (.ofString "law_rx0025_01") 801) none (.ref 263) .none 0)) #[]
noncomputable def o_359 (P : Params) : Obj := Obj.mk (.type "code") none (Data.fields #[.str (.ofString "_law_written") 813, .str (.ofString "_law_written") 814, .str (.ofString "/claim/cut.py") 815, .int 277 0, .int 1 0, .int 0 0, .int 0 0, .int 3 0, .ref 258, .bool true, .int 276 0, .ref 259, .none, .ref 260, .ref 261, .ref 262, .int 821 0, .int 277 0, .str (.ofString "/claim/cut.py") 822]) #[]
noncomputable abbrev fo_358 : Option Stmt := mb[43]?
noncomputable def o_358 (P : Params) : Obj := Obj.mk .none none (Data.func (FuncData.mk (.ofString "_law_written") (.ofString "_law_written") (fnP fo_358).1 (FuncBody.stmts (fnP fo_358).2.1) (fnP fo_358).2.2 0 [] .none .none .none .none none .none .none 0)) #[]
noncomputable def o_357 (P : Params) : Obj := Obj.mk (.type "tuple") none (Data.seq #[]) #[]
noncomputable def o_356 (P : Params) : Obj := Obj.mk (.type "tuple") none (Data.seq #[.str (.ofString "held") 816, .str (.ofString "row") 817, .str (.ofString "right") 818, .str (.ofString "above") 819, .str (.ofString "signs") 820]) #[]
noncomputable def o_355 (P : Params) : Obj := Obj.mk .none none (Data.fields #[]) #[]
noncomputable def o_354 (P : Params) : Obj := Obj.mk (.type "tuple") none (Data.seq #[]) #[]
noncomputable abbrev fo_353 : Option Stmt := mb[42]?
noncomputable def o_353 (P : Params) : Obj := Obj.mk (.type "function") none (Data.func (FuncData.mk (.ofString "_law_pattern") (.ofString "_law_pattern") (fnP fo_353).1 (FuncBody.stmts (fnP fo_353).2.1) (fnP fo_353).2.2 3 [] .none .none .none (.str (.ofString "law_rx0025_01") 801) none (.ref 256) .none 0)) #[]
noncomputable def o_352 (P : Params) : Obj := Obj.mk (.type "code") none (Data.fields #[.str (.ofString "_law_pattern") 803, .str (.ofString "_law_pattern") 804, .str (.ofString "/claim/cut.py") 805, .int 270 0, .int 1 0, .int 0 0, .int 0 0, .int 3 0, .ref 251, .bool true, .int 276 0, .ref 252, .none, .ref 253, .ref 254, .ref 255, .int 810 0, .int 270 0, .str (.ofString "/claim/cut.py") 811]) #[]
noncomputable abbrev fo_351 : Option Stmt := mb[42]?
noncomputable def o_351 (P : Params) : Obj := Obj.mk .none none (Data.func (FuncData.mk (.ofString "_law_pattern") (.ofString "_law_pattern") (fnP fo_351).1 (FuncBody.stmts (fnP fo_351).2.1) (fnP fo_351).2.2 0 [] .none .none .none .none none .none .none 0)) #[]
noncomputable def o_350 (P : Params) : Obj := Obj.mk (.type "tuple") none (Data.seq #[]) #[]
noncomputable def o_349 (P : Params) : Obj := Obj.mk (.type "tuple") none (Data.seq #[.str (.ofString "numbers") 806, .str (.ofString "places") 807, .str (.ofString "x") 808, .str (.ofString "sign") 809]) #[]
noncomputable def o_348 (P : Params) : Obj := Obj.mk .none none (Data.fields #[]) #[]
noncomputable def o_347 (P : Params) : Obj := Obj.mk (.type "tuple") none (Data.seq #[]) #[]
noncomputable abbrev fo_346 : Option Stmt := mb[40]?
noncomputable def o_346 (P : Params) : Obj := Obj.mk (.type "function") none (Data.func (FuncData.mk (.ofString "filemode") (.ofString "filemode") (fnP fo_346).1 (FuncBody.stmts (fnP fo_346).2.1) (fnP fo_346).2.2 3 [] .none .none .none (.str (.ofString "cpy313.stat") 709) none (.ref 249) .none 0)) #[]
noncomputable def o_345 (P : Params) : Obj := Obj.mk (.type "code") none (Data.fields #[.str (.ofString "filemode") 789, .str (.ofString "filemode") 790, .str (.ofString "/claim/cut.py") 791, .int 252 0, .int 1 0, .int 0 0, .int 0 0, .int 3 0, .ref 244, .bool true, .int 276 0, .ref 245, .none, .ref 246, .ref 247, .ref 248, .int 798 0, .int 252 0, .str (.ofString "/claim/cut.py") 799]) #[]
noncomputable abbrev fo_344 : Option Stmt := mb[40]?
noncomputable def o_344 (P : Params) : Obj := Obj.mk .none none (Data.func (FuncData.mk (.ofString "filemode") (.ofString "filemode") (fnP fo_344).1 (FuncBody.stmts (fnP fo_344).2.1) (fnP fo_344).2.2 0 [] .none .none .none .none none .none .none 0)) #[]
noncomputable def o_343 (P : Params) : Obj := Obj.mk (.type "tuple") none (Data.seq #[]) #[]
noncomputable def o_342 (P : Params) : Obj := Obj.mk (.type "tuple") none (Data.seq #[.str (.ofString "mode") 792, .str (.ofString "perm") 793, .str (.ofString "index") 794, .str (.ofString "table") 795, .str (.ofString "bit") 796, .str (.ofString "char") 797]) #[]
noncomputable def o_341 (P : Params) : Obj := Obj.mk .none none (Data.fields #[]) #[]
noncomputable def o_340 (P : Params) : Obj := Obj.mk (.type "tuple") none (Data.seq #[]) #[]
noncomputable def o_337 (P : Params) : Obj := Obj.mk (.type "tuple") none (Data.seq #[.ref 218, .ref 220, .ref 222, .ref 226, .ref 228, .ref 230, .ref 234, .ref 236, .ref 238, .ref 242]) #[]
noncomputable def o_336 (P : Params) : Obj := Obj.mk (.type "tuple") none (Data.seq #[.ref 239, .ref 240, .ref 241]) #[]
noncomputable def o_335 (P : Params) : Obj := Obj.mk (.type "tuple") none (Data.seq #[.int 1 761, .str (.ofString "x") 787]) #[]
noncomputable def o_334 (P : Params) : Obj := Obj.mk (.type "tuple") none (Data.seq #[.int 512 743, .str (.ofString "T") 786]) #[]
noncomputable def o_333 (P : Params) : Obj := Obj.mk (.type "tuple") none (Data.seq #[.int 513 784, .str (.ofString "t") 785]) #[]
noncomputable def o_332 (P : Params) : Obj := Obj.mk (.type "tuple") none (Data.seq #[.ref 237]) #[]
noncomputable def o_331 (P : Params) : Obj := Obj.mk (.type "tuple") none (Data.seq #[.int 2 759, .str (.ofString "w") 783]) #[]
noncomputable def o_330 (P : Params) : Obj := Obj.mk (.type "tuple") none (Data.seq #[.ref 235]) #[]
noncomputable def o_329 (P : Params) : Obj := Obj.mk (.type "tuple") none (Data.seq #[.int 4 757, .str (.ofString "r") 782]) #[]
noncomputable def o_328 (P : Params) : Obj := Obj.mk (.type "tuple") none (Data.seq #[.ref 231, .ref 232, .ref 233]) #[]
noncomputable def o_327 (P : Params) : Obj := Obj.mk (.type "tuple") none (Data.seq #[.int 8 755, .str (.ofString "x") 781]) #[]
noncomputable def o_326 (P : Params) : Obj := Obj.mk (.type "tuple") none (Data.seq #[.int 1024 741, .str (.ofString "S") 780]) #[]
noncomputable def o_325 (P : Params) : Obj := Obj.mk (.type "tuple") none (Data.seq #[.int 1032 778, .str (.ofString "s") 779]) #[]
noncomputable def o_324 (P : Params) : Obj := Obj.mk (.type "tuple") none (Data.seq #[.ref 229]) #[]
noncomputable def o_323 (P : Params) : Obj := Obj.mk (.type "tuple") none (Data.seq #[.int 16 753, .str (.ofString "w") 777]) #[]
noncomputable def o_322 (P : Params) : Obj := Obj.mk (.type "tuple") none (Data.seq #[.ref 227]) #[]
noncomputable def o_321 (P : Params) : Obj := Obj.mk (.type "tuple") none (Data.seq #[.int 32 751, .str (.ofString "r") 776]) #[]
noncomputable def o_320 (P : Params) : Obj := Obj.mk (.type "tuple") none (Data.seq #[.ref 223, .ref 224, .ref 225]) #[]
noncomputable def o_319 (P : Params) : Obj := Obj.mk (.type "tuple") none (Data.seq #[.int 64 749, .str (.ofString "x") 775]) #[]
noncomputable def o_318 (P : Params) : Obj := Obj.mk (.type "tuple") none (Data.seq #[.int 2048 739, .str (.ofString "S") 774]) #[]
noncomputable def o_317 (P : Params) : Obj := Obj.mk (.type "tuple") none (Data.seq #[.int 2112 772, .str (.ofString "s") 773]) #[]
noncomputable def o_316 (P : Params) : Obj := Obj.mk (.type "tuple") none (Data.seq #[.ref 221]) #[]
noncomputable def o_315 (P : Params) : Obj := Obj.mk (.type "tuple") none (Data.seq #[.int 128 747, .str (.ofString "w") 771]) #[]
noncomputable def o_314 (P : Params) : Obj := Obj.mk (.type "tuple") none (Data.seq #[.ref 219]) #[]
noncomputable def o_313 (P : Params) : Obj := Obj.mk (.type "tuple") none (Data.seq #[.int 256 745, .str (.ofString "r") 770]) #[]
noncomputable def o_312 (P : Params) : Obj := Obj.mk (.type "tuple") none (Data.seq #[.ref 211, .ref 212, .ref 213, .ref 214, .ref 215, .ref 216, .ref 217]) #[]
noncomputable def o_311 (P : Params) : Obj := Obj.mk (.type "tuple") none (Data.seq #[.int 4096 733, .str (.ofString "p") 769]) #[]
noncomputable def o_310 (P : Params) : Obj := Obj.mk (.type "tuple") none (Data.seq #[.int 8192 727, .str (.ofString "c") 768]) #[]
noncomputable def o_309 (P : Params) : Obj := Obj.mk (.type "tuple") none (Data.seq #[.int 16384 725, .str (.ofString "d") 767]) #[]
noncomputable def o_308 (P : Params) : Obj := Obj.mk (.type "tuple") none (Data.seq #[.int 24576 729, .str (.ofString "b") 766]) #[]
noncomputable def o_307 (P : Params) : Obj := Obj.mk (.type "tuple") none (Data.seq #[.int 32768 731, .str (.ofString "-") 765]) #[]
noncomputable def o_306 (P : Params) : Obj := Obj.mk (.type "tuple") none (Data.seq #[.int 49152 737, .str (.ofString "s") 764]) #[]
noncomputable def o_305 (P : Params) : Obj := Obj.mk (.type "tuple") none (Data.seq #[.int 40960 735, .str (.ofString "l") 763]) #[]
noncomputable abbrev fo_304 : Option Stmt := mb[19]?
noncomputable def o_304 (P : Params) : Obj := Obj.mk (.type "function") none (Data.func (FuncData.mk (.ofString "S_IFMT") (.ofString "S_IFMT") (fnP fo_304).1 (FuncBody.stmts (fnP fo_304).2.1) (fnP fo_304).2.2 3 [] .none .none .none (.str (.ofString "cpy313.stat") 709) none (.ref 209) .none 0)) #[]
noncomputable def o_303 (P : Params) : Obj := Obj.mk (.type "code") none (Data.fields #[.str (.ofString "S_IFMT") 718, .str (.ofString "S_IFMT") 719, .str (.ofString "/claim/cut.py") 720, .int 230 0, .int 1 0, .int 0 0, .int 0 0, .int 3 0, .ref 204, .bool true, .int 276 0, .ref 205, .none, .ref 206, .ref 207, .ref 208, .int 722 0, .int 230 0, .str (.ofString "/claim/cut.py") 723]) #[]
noncomputable abbrev fo_302 : Option Stmt := mb[19]?
noncomputable def o_302 (P : Params) : Obj := Obj.mk .none none (Data.func (FuncData.mk (.ofString "S_IFMT") (.ofString "S_IFMT") (fnP fo_302).1 (FuncBody.stmts (fnP fo_302).2.1) (fnP fo_302).2.2 0 [] .none .none .none .none none .none .none 0)) #[]
noncomputable def o_301 (P : Params) : Obj := Obj.mk (.type "tuple") none (Data.seq #[]) #[]
noncomputable def o_300 (P : Params) : Obj := Obj.mk (.type "tuple") none (Data.seq #[.str (.ofString "mode") 721]) #[]
noncomputable def o_299 (P : Params) : Obj := Obj.mk .none none (Data.fields #[]) #[]
noncomputable def o_298 (P : Params) : Obj := Obj.mk (.type "tuple") none (Data.seq #[]) #[]
noncomputable abbrev fo_297 : Option Stmt := mb[18]?
noncomputable def o_297 (P : Params) : Obj := Obj.mk (.type "function") none (Data.func (FuncData.mk (.ofString "S_IMODE") (.ofString "S_IMODE") (fnP fo_297).1 (FuncBody.stmts (fnP fo_297).2.1) (fnP fo_297).2.2 3 [] .none .none .none (.str (.ofString "cpy313.stat") 709) none (.ref 202) .none 0)) #[]
noncomputable def o_296 (P : Params) : Obj := Obj.mk (.type "code") none (Data.fields #[.str (.ofString "S_IMODE") 711, .str (.ofString "S_IMODE") 712, .str (.ofString "/claim/cut.py") 713, .int 228 0, .int 1 0, .int 0 0, .int 0 0, .int 3 0, .ref 197, .bool true, .int 276 0, .ref 198, .none, .ref 199, .ref 200, .ref 201, .int 715 0, .int 228 0, .str (.ofString "/claim/cut.py") 716]) #[]
noncomputable abbrev fo_295 : Option Stmt := mb[18]?
noncomputable def o_295 (P : Params) : Obj := Obj.mk .none none (Data.func (FuncData.mk (.ofString "S_IMODE") (.ofString "S_IMODE") (fnP fo_295).1 (FuncBody.stmts (fnP fo_295).2.1) (fnP fo_295).2.2 0 [] .none .none .none .none none .none .none 0)) #[]
noncomputable def o_294 (P : Params) : Obj := Obj.mk (.type "tuple") none (Data.seq #[]) #[]
noncomputable def o_293 (P : Params) : Obj := Obj.mk (.type "tuple") none (Data.seq #[.str (.ofString "mode") 714]) #[]
noncomputable def o_292 (P : Params) : Obj := Obj.mk .none none (Data.fields #[]) #[]
noncomputable def o_291 (P : Params) : Obj := Obj.mk (.type "tuple") none (Data.seq #[]) #[]
noncomputable def o_339 (P : Params) : Obj := Obj.mk .none none (Data.fields #[.int 2 0, .int 0 0, .ref 37, .int 7 0, .int 0 0, .ref 49, .int 13 0, .int 0 0, .ref 61, .int 20 0, .int 0 0, .ref 68, .int 82 0, .int 0 0, .ref 75, .int 112 0, .int 0 0, .ref 82, .int 119 0, .int 0 0, .ref 106, .int 121 0, .int 0 0, .ref 119, .int 228 0, .int 0 0, .ref 202, .int 230 0, .int 0 0, .ref 209, .int 252 0, .int 0 0, .ref 249, .int 270 0, .int 0 0, .ref 256, .int 277 0, .int 0 0, .ref 263, .int 283 0, .int 0 0, .ref 270, .int 298 0, .int 0 0, .ref 275, .int 309 0, .int 0 0, .ref 280]) #[]
noncomputable def o_338 (P : Params) : Obj := Obj.mk (.type "dict") none (Data.dict #[DictEntry.mk (PyData.keyHash P (.ofString "__name__")) (.str (.ofString "__name__") 165) (.str (.ofString "law_rx0025_01") 801), DictEntry.mk (PyData.keyHash P (.ofString "__doc__")) (.str (.ofString "__doc__") 166) .none, DictEntry.mk (PyData.keyHash P (.ofString "__package__")) (.str (.ofString "__package__") 167) .none, DictEntry.mk (PyData.keyHash P (.ofString "__loader__")) (.str (.ofString "__loader__") 168) (.builtin "__main__.__loader__#opaque"), DictEntry.mk (PyData.keyHash P (.ofString "__spec__")) (.str (.ofString "__spec__") 169) .none, DictEntry.mk (PyData.keyHash P (.ofString "__annotations__")) (.str (.ofString "__annotations__") 170) (.ref 6), DictEntry.mk (PyData.keyHash P (.ofString "__builtins__")) (.str (.ofString "__builtins__") 171) (.ref 4), DictEntry.mk (PyData.keyHash P (.ofString "__file__")) (.str (.ofString "__file__") 173) (.str (.ofString "/claim/cut.py") 172), DictEntry.mk (PyData.keyHash P (.ofString "__cached__")) (.str (.ofString "__cached__") 174) .none, DictEntry.mk (PyData.keyHash P (.ofString "_sre")) (.str (.ofString "_sre") 275) (.ref 12), DictEntry.mk (PyData.keyHash P (.ofString "_wall")) (.str (.ofString "_wall") 288) (.ref 38), DictEntry.mk (PyData.keyHash P (.ofString "_twin_re_1")) (.str (.ofString "_twin_re_1") 328) (.ref 43), DictEntry.mk (PyData.keyHash P (.ofString "translate")) (.str (.ofString "translate") 337) (.ref 50), DictEntry.mk (PyData.keyHash P (.ofString "_special_chars_map")) (.str (.ofString "_special_chars_map") 485) (.ref 52), DictEntry.mk (PyData.keyHash P (.ofString "escape")) (.str (.ofString "escape") 492) (.ref 62), DictEntry.mk (PyData.keyHash P (.ofString "_translate")) (.str (.ofString "_translate") 513) (.ref 69), DictEntry.mk (PyData.keyHash P (.ofString "_join_translated_parts")) (.str (.ofString "_join_translated_parts") 526) (.ref 76), DictEntry.mk (PyData.keyHash P (.ofString "_NODE_OUT")) (.str (.ofString "_NODE_OUT") 531) (.int (-1) 530), DictEntry.mk (PyData.keyHash P (.ofString "_NODE_DONE")) (.str (.ofString "_NODE_DONE") 534) (.int (-2) 533), DictEntry.mk (PyData.keyHash P (.ofString "_NodeInfo")) (.str (.ofString "_NodeInfo") 571) (.ref 95), DictEntry.mk (PyData.keyHash P (.ofString "CycleError")) (.str (.ofString "CycleError") 589) (.ref 110), DictEntry.mk (PyData.keyHash P (.ofString "TopologicalSorter")) (.str (.ofString "TopologicalSorter") 708) (.ref 192), DictEntry.mk (PyData.keyHash P (.ofString "S_IMODE")) (.str (.ofString "S_IMODE") 717) (.ref 203), DictEntry.mk (PyData.keyHash P (.ofString "S_IFMT")) (.str (.ofString "S_IFMT") 724) (.ref 210), DictEntry.mk (PyData.keyHash P (.ofString "S_IFDIR")) (.str (.ofString "S_IFDIR") 726) (.int 16384 725), DictEntry.mk (PyData.keyHash P (.ofString "S_IFCHR")) (.str (.ofString "S_IFCHR") 728) (.int 8192 727), DictEntry.mk (PyData.keyHash P (.ofString "S_IFBLK")) (.str (.ofString "S_IFBLK") 730) (.int 24576 729), DictEntry.mk (PyData.keyHash P (.ofString "S_IFREG")) (.str (.ofString "S_IFREG") 732) (.int 32768 731), DictEntry.mk (PyData.keyHash P (.ofString "S_IFIFO")) (.str (.ofString "S_IFIFO") 734) (.int 4096 733), DictEntry.mk (PyData.keyHash P (.ofString "S_IFLNK")) (.str (.ofString "S_IFLNK") 736) (.int 40960 735), DictEntry.mk (PyData.keyHash P (.ofString "S_IFSOCK")) (.str (.ofString "S_IFSOCK") 738) (.int 49152 737), DictEntry.mk (PyData.keyHash P (.ofString "S_ISUID")) (.str (.ofString "S_ISUID") 740) (.int 2048 739), DictEntry.mk (PyData.keyHash P (.ofString "S_ISGID")) (.str (.ofString "S_ISGID") 742) (.int 1024 741), DictEntry.mk (PyData.keyHash P (.ofString "S_ISVTX")) (.str (.ofString "S_ISVTX") 744) (.int 512 743), DictEntry.mk (PyData.keyHash P (.ofString "S_IRUSR")) (.str (.ofString "S_IRUSR") 746) (.int 256 745), DictEntry.mk (PyData.keyHash P (.ofString "S_IWUSR")) (.str (.ofString "S_IWUSR") 748) (.int 128 747), DictEntry.mk (PyData.keyHash P (.ofString "S_IXUSR")) (.str (.ofString "S_IXUSR") 750) (.int 64 749), DictEntry.mk (PyData.keyHash P (.ofString "S_IRGRP")) (.str (.ofString "S_IRGRP") 752) (.int 32 751), DictEntry.mk (PyData.keyHash P (.ofString "S_IWGRP")) (.str (.ofString "S_IWGRP") 754) (.int 16 753), DictEntry.mk (PyData.keyHash P (.ofString "S_IXGRP")) (.str (.ofString "S_IXGRP") 756) (.int 8 755), DictEntry.mk (PyData.keyHash P (.ofString "S_IROTH")) (.str (.ofString "S_IROTH") 758) (.int 4 757), DictEntry.mk (PyData.keyHash P (.ofString "S_IWOTH")) (.str (.ofString "S_IWOTH") 760) (.int 2 759), DictEntry.mk (PyData.keyHash P (.ofString "S_IXOTH")) (.str (.ofString "S_IXOTH") 762) (.int 1 761), DictEntry.mk (PyData.keyHash P (.ofString "_filemode_table")) (.str (.ofString "_filemode_table") 788) (.ref 243), DictEntry.mk (PyData.keyHash P (.ofString "filemode")) (.str (.ofString "filemode") 800) (.ref 250), DictEntry.mk (PyData.keyHash P (.ofString "_law_pattern")) (.str (.ofString "_law_pattern") 812) (.ref 257), DictEntry.mk (PyData.keyHash P (.ofString "_law_written")) (.str (.ofString "_law_written") 823) (.ref 264), DictEntry.mk (PyData.keyHash P (.ofString "_law_fits")) (.str (.ofString "_law_fits") 834) (.ref 271), DictEntry.mk (PyData.keyHash P (.ofString "_law_rounds")) (.str (.ofString "_law_rounds") 840) (.ref 276), DictEntry.mk (PyData.keyHash P (.ofString "law")) (.str (.ofString "law") 846) (.ref 281)] 50) #[]
noncomputable def heap_68 (P : Params) : Heap := ⟨⟨[o_41 P, o_42 P, o_43 P, o_44 P, o_45 P, o_46 P, o_47 P, o_48 P, o_49 P, o_50 P, o_51 P, o_52 P, o_53 P, o_54 P, o_55 P, o_56 P, o_57 P, o_58 P, o_59 P, o_60 P, o_61 P, o_62 P, o_63 P, o_64 P, o_65 P, o_66 P, o_67 P, o_68 P]⟩, lf⟩
noncomputable def heap_288 (P : Params) : Heap := ⟨⟨[o_41 P, o_42 P, o_43 P, o_204 P, o_45 P, o_46 P, o_47 P, o_48 P, o_49 P, o_50 P, o_51 P, o_52 P, o_53 P, o_54 P, o_55 P, o_56 P, o_57 P, o_58 P, o_59 P, o_60 P, o_61 P, o_62 P, o_63 P, o_64 P, o_65 P, o_66 P, o_67 P, o_68 P, o_69 P, o_205 P, o_71 P, o_72 P, o_77 P, o_78 P, o_79 P, o_80 P, o_81 P, o_82 P, o_83 P, o_84 P, o_85 P, o_86 P, o_87 P, o_88 P, o_89 P, o_90 P, o_91 P, o_92 P, o_93 P, o_94 P, o_95 P, o_97 P, o_98 P, o_99 P, o_100 P, o_101 P, o_142 P, o_143 P, o_144 P, o_145 P, o_146 P, o_147 P, o_148 P, o_149 P, o_150 P, o_151 P, o_152 P, o_153 P, o_154 P, o_155 P, o_156 P, o_157 P, o_158 P, o_159 P, o_160 P, o_161 P, o_162 P, o_165 P, o_166 P, o_167 P, o_168 P, o_169 P, o_170 P, o_171 P, o_172 P, o_173 P, o_174 P, o_175 P, o_176 P, o_177 P, o_178 P, o_179 P, o_180 P, o_181 P, o_182 P, o_183 P, o_184 P, o_185 P, o_186 P, o_187 P, o_188 P, o_191 P, o_192 P, o_193 P, o_194 P, o_195 P, o_196 P, o_197 P, o_198 P, o_199 P, o_200 P, o_201 P, o_202 P, o_203 P, o_206 P, o_207 P, o_208 P, o_209 P, o_210 P, o_211 P, o_212 P, o_213 P, o_214 P, o_215 P, o_216 P, o_217 P, o_218 P, o_219 P, o_220 P, o_221 P, o_222 P, o_223 P, o_224 P, o_225 P, o_226 P, o_227 P, o_228 P, o_229 P, o_230 P, o_231 P, o_232 P, o_233 P, o_234 P, o_235 P, o_236 P, o_237 P, o_238 P, o_239 P, o_240 P, o_241 P, o_242 P, o_243 P, o_244 P, o_245 P, o_246 P, o_247 P, o_248 P, o_249 P, o_250 P, o_251 P, o_252 P, o_253 P, o_254 P, o_255 P, o_256 P, o_257 P, o_258 P, o_259 P, o_260 P, o_261 P, o_262 P, o_263 P, o_264 P, o_265 P, o_266 P, o_267 P, o_268 P, o_269 P, o_270 P, o_271 P, o_272 P, o_273 P, o_274 P, o_275 P, o_276 P, o_277 P, o_278 P, o_279 P, o_280 P, o_281 P, o_282 P, o_283 P, o_284 P, o_285 P, o_286 P, o_287 P, o_288 P]⟩, lf⟩
noncomputable def heap_203 (P : Params) : Heap := ⟨⟨[o_41 P, o_42 P, o_43 P, o_189 P, o_45 P, o_46 P, o_47 P, o_48 P, o_49 P, o_50 P, o_51 P, o_52 P, o_53 P, o_54 P, o_55 P, o_56 P, o_57 P, o_58 P, o_59 P, o_60 P, o_61 P, o_62 P, o_63 P, o_64 P, o_65 P, o_66 P, o_67 P, o_68 P, o_69 P, o_190 P, o_71 P, o_72 P, o_77 P, o_78 P, o_79 P, o_80 P, o_81 P, o_82 P, o_83 P, o_84 P, o_85 P, o_86 P, o_87 P, o_88 P, o_89 P, o_90 P, o_91 P, o_92 P, o_93 P, o_94 P, o_95 P, o_97 P, o_98 P, o_99 P, o_100 P, o_101 P, o_142 P, o_143 P, o_144 P, o_145 P, o_146 P, o_147 P, o_148 P, o_149 P, o_150 P, o_151 P, o_152 P, o_153 P, o_154 P, o_155 P, o_156 P, o_157 P, o_158 P, o_159 P, o_160 P, o_161 P, o_162 P, o_165 P, o_166 P, o_167 P, o_168 P, o_169 P, o_170 P, o_171 P, o_172 P, o_173 P, o_174 P, o_175 P, o_176 P, o_177 P, o_178 P, o_179 P, o_180 P, o_181 P, o_182 P, o_183 P, o_184 P, o_185 P, o_186 P, o_187 P, o_188 P, o_191 P, o_192 P, o_193 P, o_194 P, o_195 P, o_196 P, o_197 P, o_198 P, o_199 P, o_200 P, o_201 P, o_202 P, o_203 P]⟩, lf⟩
noncomputable def heap_101 (P : Params) : Heap := ⟨⟨[o_41 P, o_42 P, o_43 P, o_96 P, o_45 P, o_46 P, o_47 P, o_48 P, o_49 P, o_50 P, o_51 P, o_52 P, o_53 P, o_54 P, o_55 P, o_56 P, o_57 P, o_58 P, o_59 P, o_60 P, o_61 P, o_62 P, o_63 P, o_64 P, o_65 P, o_66 P, o_67 P, o_68 P, o_69 P, o_76 P, o_71 P, o_72 P, o_77 P, o_78 P, o_79 P, o_80 P, o_81 P, o_82 P, o_83 P, o_84 P, o_85 P, o_86 P, o_87 P, o_88 P, o_89 P, o_90 P, o_91 P, o_92 P, o_93 P, o_94 P, o_95 P, o_97 P, o_98 P, o_99 P, o_100 P, o_101 P]⟩, lf⟩
noncomputable def heap_95 (P : Params) : Heap := ⟨⟨[o_41 P, o_42 P, o_43 P, o_75 P, o_45 P, o_46 P, o_47 P, o_48 P, o_49 P, o_50 P, o_51 P, o_52 P, o_53 P, o_54 P, o_55 P, o_56 P, o_57 P, o_58 P, o_59 P, o_60 P, o_61 P, o_62 P, o_63 P, o_64 P, o_65 P, o_66 P, o_67 P, o_68 P, o_69 P, o_76 P, o_71 P, o_72 P, o_77 P, o_78 P, o_79 P, o_80 P, o_81 P, o_82 P, o_83 P, o_84 P, o_85 P, o_86 P, o_87 P, o_88 P, o_89 P, o_90 P, o_91 P, o_92 P, o_93 P, o_94 P, o_95 P]⟩, lf⟩
noncomputable def heap_72 (P : Params) : Heap := ⟨⟨[o_41 P, o_42 P, o_43 P, o_44 P, o_45 P, o_46 P, o_47 P, o_48 P, o_49 P, o_50 P, o_51 P, o_52 P, o_53 P, o_54 P, o_55 P, o_56 P, o_57 P, o_58 P, o_59 P, o_60 P, o_61 P, o_62 P, o_63 P, o_64 P, o_65 P, o_66 P, o_67 P, o_68 P, o_69 P, o_70 P, o_71 P, o_72 P]⟩, lf⟩
noncomputable def heap_378 (P : Params) : Heap := ⟨⟨[o_41 P, o_42 P, o_43 P, o_338 P, o_45 P, o_46 P, o_47 P, o_48 P, o_49 P, o_50 P, o_51 P, o_52 P, o_53 P, o_54 P, o_55 P, o_56 P, o_57 P, o_58 P, o_59 P, o_60 P, o_61 P, o_62 P, o_63 P, o_64 P, o_65 P, o_66 P, o_67 P, o_68 P, o_69 P, o_339 P, o_71 P, o_72 P, o_77 P, o_78 P, o_79 P, o_80 P, o_81 P, o_82 P, o_83 P, o_84 P, o_85 P, o_86 P, o_87 P, o_88 P, o_89 P, o_90 P, o_91 P, o_92 P, o_93 P, o_94 P, o_95 P, o_97 P, o_98 P, o_99 P, o_100 P, o_101 P, o_142 P, o_143 P, o_144 P, o_145 P, o_146 P, o_147 P, o_148 P, o_149 P, o_150 P, o_151 P, o_152 P, o_153 P, o_154 P, o_155 P, o_156 P, o_157 P, o_158 P, o_159 P, o_160 P, o_161 P, o_162 P, o_165 P, o_166 P, o_167 P, o_168 P, o_169 P, o_170 P, o_171 P, o_172 P, o_173 P, o_174 P, o_175 P, o_176 P, o_177 P, o_178 P, o_179 P, o_180 P, o_181 P, o_182 P, o_183 P, o_184 P, o_185 P, o_186 P, o_187 P, o_188 P, o_191 P, o_192 P, o_193 P, o_194 P, o_195 P, o_196 P, o_197 P, o_198 P, o_199 P, o_200 P, o_201 P, o_202 P, o_203 P, o_206 P, o_207 P, o_208 P, o_209 P, o_210 P, o_211 P, o_212 P, o_213 P, o_214 P, o_215 P, o_216 P, o_217 P, o_218 P, o_219 P, o_220 P, o_221 P, o_222 P, o_223 P, o_224 P, o_225 P, o_226 P, o_227 P, o_228 P, o_229 P, o_230 P, o_231 P, o_232 P, o_233 P, o_234 P, o_235 P, o_236 P, o_237 P, o_238 P, o_239 P, o_240 P, o_241 P, o_242 P, o_243 P, o_244 P, o_245 P, o_246 P, o_247 P, o_248 P, o_249 P, o_250 P, o_251 P, o_252 P, o_253 P, o_254 P, o_255 P, o_256 P, o_257 P, o_258 P, o_259 P, o_260 P, o_261 P, o_262 P, o_263 P, o_264 P, o_265 P, o_266 P, o_267 P, o_268 P, o_269 P, o_270 P, o_271 P, o_272 P, o_273 P, o_274 P, o_275 P, o_276 P, o_277 P, o_278 P, o_279 P, o_280 P, o_281 P, o_282 P, o_283 P, o_284 P, o_285 P, o_286 P, o_287 P, o_288 P, o_291 P, o_292 P, o_293 P, o_294 P, o_295 P, o_296 P, o_297 P, o_298 P, o_299 P, o_300 P, o_301 P, o_302 P, o_303 P, o_304 P, o_305 P, o_306 P, o_307 P, o_308 P, o_309 P, o_310 P, o_311 P, o_312 P, o_313 P, o_314 P, o_315 P, o_316 P, o_317 P, o_318 P, o_319 P, o_320 P, o_321 P, o_322 P, o_323 P, o_324 P, o_325 P, o_326 P, o_327 P, o_328 P, o_329 P, o_330 P, o_331 P, o_332 P, o_333 P, o_334 P, o_335 P, o_336 P, o_337 P, o_340 P, o_341 P, o_342 P, o_343 P, o_344 P, o_345 P, o_346 P, o_347 P, o_348 P, o_349 P, o_350 P, o_351 P, o_352 P, o_353 P, o_354 P, o_355 P, o_356 P, o_357 P, o_358 P, o_359 P, o_360 P, o_361 P, o_362 P, o_363 P, o_364 P, o_365 P, o_366 P, o_367 P, o_368 P, o_369 P, o_370 P, o_371 P, o_372 P, o_373 P, o_374 P, o_375 P, o_376 P, o_377 P]⟩, lf⟩
noncomputable def HK (P : Params) : Frag := [(2, o_43 P), (3, o_338 P), (32, o_77 P), (34, o_79 P), (35, o_80 P), (37, o_82 P), (38, o_83 P), (42, o_87 P), (43, o_88 P), (44, o_89 P), (46, o_91 P), (47, o_92 P), (49, o_94 P), (50, o_95 P), (52, o_98 P), (56, o_142 P), (58, o_144 P), (59, o_145 P), (61, o_147 P), (62, o_148 P), (63, o_149 P), (65, o_151 P), (66, o_152 P), (68, o_154 P), (69, o_155 P), (70, o_156 P), (72, o_158 P), (73, o_159 P), (75, o_161 P), (76, o_162 P), (84, o_172 P), (85, o_173 P), (87, o_175 P), (88, o_176 P), (90, o_178 P), (91, o_179 P), (92, o_180 P), (94, o_182 P), (95, o_183 P), (96, o_184 P), (97, o_185 P), (98, o_186 P), (101, o_191 P), (108, o_198 P), (109, o_199 P), (110, o_200 P), (111, o_201 P), (121, o_213 P), (122, o_214 P), (124, o_216 P), (125, o_217 P), (127, o_219 P), (128, o_220 P), (129, o_221 P), (131, o_223 P), (132, o_224 P), (134, o_226 P), (135, o_227 P), (136, o_228 P), (138, o_230 P), (139, o_231 P), (141, o_233 P), (142, o_234 P), (143, o_235 P), (146, o_238 P), (147, o_239 P), (148, o_240 P), (150, o_242 P), (151, o_243 P), (153, o_245 P), (154, o_246 P), (155, o_247 P), (157, o_249 P), (158, o_250 P), (160, o_252 P), (161, o_253 P), (162, o_254 P), (164, o_256 P), (165, o_257 P), (167, o_259 P), (168, o_260 P), (169, o_261 P), (171, o_263 P), (172, o_264 P), (174, o_266 P), (175, o_267 P), (176, o_268 P), (178, o_270 P), (179, o_271 P), (181, o_273 P), (182, o_274 P), (183, o_275 P), (185, o_277 P), (186, o_278 P), (188, o_280 P), (189, o_281 P), (190, o_282 P), (191, o_283 P), (192, o_284 P), (193, o_285 P), (194, o_286 P), (197, o_291 P), (199, o_293 P), (200, o_294 P), (202, o_296 P), (203, o_297 P), (204, o_298 P), (206, o_300 P), (207, o_301 P), (209, o_303 P), (210, o_304 P), (211, o_305 P), (212, o_306 P), (213, o_307 P), (214, o_308 P), (215, o_309 P), (216, o_310 P), (217, o_311 P), (218, o_312 P), (219, o_313 P), (220, o_314 P), (221, o_315 P), (222, o_316 P), (223, o_317 P), (224, o_318 P), (225, o_319 P), (226, o_320 P), (227, o_321 P), (228, o_322 P), (229, o_323 P), (230, o_324 P), (231, o_325 P), (232, o_326 P), (233, o_327 P), (234, o_328 P), (235, o_329 P), (236, o_330 P), (237, o_331 P), (238, o_332 P), (239, o_333 P), (240, o_334 P), (241, o_335 P), (242, o_336 P), (243, o_337 P), (244, o_340 P), (246, o_342 P), (247, o_343 P), (249, o_345 P), (250, o_346 P), (251, o_347 P), (253, o_349 P), (254, o_350 P), (256, o_352 P), (257, o_353 P), (258, o_354 P), (260, o_356 P), (261, o_357 P), (263, o_359 P), (264, o_360 P), (265, o_361 P), (267, o_363 P), (268, o_364 P), (270, o_366 P), (271, o_367 P), (272, o_368 P), (275, o_371 P), (276, o_372 P), (277, o_373 P), (280, o_376 P), (281, o_377 P)]
noncomputable def HA : List Addr := [2, 3, 32, 34, 35, 37, 38, 42, 43, 44, 46, 47, 49, 50, 52, 56, 58, 59, 61, 62, 63, 65, 66, 68, 69, 70, 72, 73, 75, 76, 84, 85, 87, 88, 90, 91, 92, 94, 95, 96, 97, 98, 101, 108, 109, 110, 111, 121, 122, 124, 125, 127, 128, 129, 131, 132, 134, 135, 136, 138, 139, 141, 142, 143, 146, 147, 148, 150, 151, 153, 154, 155, 157, 158, 160, 161, 162, 164, 165, 167, 168, 169, 171, 172, 174, 175, 176, 178, 179, 181, 182, 183, 185, 186, 188, 189, 190, 191, 192, 193, 194, 197, 199, 200, 202, 203, 204, 206, 207, 209, 210, 211, 212, 213, 214, 215, 216, 217, 218, 219, 220, 221, 222, 223, 224, 225, 226, 227, 228, 229, 230, 231, 232, 233, 234, 235, 236, 237, 238, 239, 240, 241, 242, 243, 244, 246, 247, 249, 250, 251, 253, 254, 256, 257, 258, 260, 261, 263, 264, 265, 267, 268, 270, 271, 272, 275, 276, 277, 280, 281]
theorem HAe (P : Params) : HA = (HK P).map (·.1) := rfl
noncomputable def hookK : Hook where
  α := List (Option Obj)
  obs := fun s => HA.map s.heap.get?
  val := fun w => (HK w.params).map fun p => some p.2
  says := fun w h => (HK w.params).In h
  of := fun w s x => Frag.in_of (HAe _) x
  keeps := fun w h h' x k => Frag.In.keeps x k
noncomputable def view : Program := { rw0.prog with main := { rw0.prog.main with body := [0, 1, 3, 4, 6, 7, 9, 10, 12, 13, 14, 15, 16, 18, 19, 20, 21, 22, 23, 24, 25, 26, 27, 28, 29, 30, 31, 32, 33, 34, 35, 36, 37, 38, 39, 40, 42, 43, 44, 45, 46].filterMap fun i : Nat => mb[i]? } }
noncomputable def loose : List PySem.Str := ["_twin_re_1", "_special_chars_map", "_NodeInfo", "_filemode_table"]
abbrev OQ (w : World) : Prop := (fencedOpening treeTable rw0.row.prog w 6386).map (fun s => (s.heap, s.gens, s.drawn, s.toks)) = some (heap_68 w.params, #[], {}, 276)
theorem open_ (w : World) : OQ w := by
  unfold OQ fencedOpening; rw [Fast.te10274390034422433532, Fast.te14289696077712309145, Fast.te14364793385576792824, Fast.te1435165496053646825]; kernel_rfl
theorem size_ (w : World) : ((heap_68 w.params).isNs mainGlobals && (#[] : Array GenState).size == 0, (heap_68 w.params).objs.size, (heap_68 w.params).nsMap mainGlobals "__annotations__") = (true, 28, some (.ref 6)) := by kernel_rfl
noncomputable abbrev bb : List Stmt := behindTheImports rw0.row.prog
noncomputable def envE : Env := { scope := rw0.row.prog.main.scope, locals := mainNs, globals := mainNs, cells := [], code := .ref 30, frame := some 31 }
noncomputable abbrev cE : Code := .body bb envE
noncomputable abbrev b1 : List Stmt := bb.take 5
noncomputable abbrev b2 : List Stmt := (bb.drop 5).take 1
noncomputable abbrev b3 : List Stmt := (bb.drop 5).drop 1
noncomputable abbrev b4 : List Stmt := b3.take 9
noncomputable abbrev b5 : List Stmt := (b3.drop 9).take 1
noncomputable abbrev b6 : List Stmt := (b3.drop 9).drop 1
theorem hb : bb = b1 ++ (b2 ++ (b4 ++ (b5 ++ b6))) := by rw [List.take_append_drop, List.take_append_drop, List.take_append_drop, List.take_append_drop]
abbrev p0 : Pos := ⟨0, 0, 0, 0⟩
abbrev tF : List Frame := [topFrame p0]
theorem hq1 (w : World) : (fun os => topGo treeTable rw0.row.prog w 28 (some (.ref 6)) 12 ⟨heap_68 w.params, #[], {}, 276, os⟩ (topStub rw0.row.prog)) = fun os => some (⟨heap_72 w.params, #[], {}, 282, os⟩, ⟨denote treeTable cE, cE, p0, tF⟩) := by kernel_rfl
theorem hq2 (w : World) : (fun os => segRun treeTable rw0.row.prog w 28 (some (.ref 6)) 1 1 ⟨heap_72 w.params, #[], {}, 282, os⟩ (blockOf bb envE cE p0 tF)) = fun os => some (.next, ⟨heap_72 w.params, #[], {}, 282, os⟩, cE, p0) := by kernel_rfl
theorem hq3 (w : World) : (fun os => segRun treeTable rw0.row.prog w 28 (some (.ref 6)) 1 160 ⟨heap_72 w.params, #[], {}, 282, os⟩ (piecesOf b1 envE cE p0 tF)) = fun os => some (.next, ⟨heap_95 w.params, #[], {}, 340, os⟩, cE, ⟨11, 0, 11, 8⟩) := by
  rw [Fast.te14374325043358763698, Fast.te14364793385576792824]; kernel_rfl
abbrev MQ (w : World) : Prop := (fun os => segRun treeTable rw0.row.prog w 28 (some (.ref 6)) 1 1253 ⟨heap_95 w.params, #[], {}, 340, os⟩ (piecesOf b2 envE cE ⟨11, 0, 11, 8⟩ tF)) = fun os => some (.next, ⟨heap_101 w.params, #[], {}, 486, os⟩, cE, ⟨12, 0, 12, 18⟩)
theorem lq1 (w : World) : MQ ((w.withFollow "special-get-raises" false).withFollow "comprehension-iter-twice" false) := by
  unfold MQ; rw [Fast.te14374325043358763698, Fast.te14364793385576792824]; kernel_rfl
theorem lq2 (w : World) : MQ ((w.withFollow "special-get-raises" true).withFollow "comprehension-iter-twice" false) := by
  unfold MQ; rw [Fast.te14374325043358763698, Fast.te14364793385576792824]; kernel_rfl
theorem lq3 (w : World) : MQ ((w.withFollow "special-get-raises" false).withFollow "comprehension-iter-twice" true) := by
  unfold MQ; rw [Fast.te14374325043358763698, Fast.te14364793385576792824]; kernel_rfl
theorem lq4 (w : World) : MQ ((w.withFollow "special-get-raises" true).withFollow "comprehension-iter-twice" true) := by
  unfold MQ; rw [Fast.te14374325043358763698, Fast.te14364793385576792824]; kernel_rfl
theorem hq4 (w : World) : MQ w :=
  byRow2 (P := MQ) "comprehension-iter-twice" (fun w => byRow2 (P := fun w => MQ (w.withFollow "comprehension-iter-twice" false)) "special-get-raises" lq1 lq2 w)
    (fun w => byRow2 (P := fun w => MQ (w.withFollow "comprehension-iter-twice" true)) "special-get-raises" lq3 lq4 w) w
theorem hq5 (w : World) : (fun os => segRun treeTable rw0.row.prog w 28 (some (.ref 6)) 1 603 ⟨heap_101 w.params, #[], {}, 486, os⟩ (piecesOf b4 envE cE ⟨12, 0, 12, 18⟩ tF)) = fun os => some (.next, ⟨heap_203 w.params, #[], {}, 590, os⟩, cE, ⟨119, 0, 120, 8⟩) := by
  rw [Fast.te14374325043358763698, Fast.te14364793385576792824]; kernel_rfl
theorem hq6 (w : World) : (fun os => segRun treeTable rw0.row.prog w 28 (some (.ref 6)) 1 528 ⟨heap_203 w.params, #[], {}, 590, os⟩ (piecesOf b5 envE cE ⟨119, 0, 120, 8⟩ tF)) = fun os => some (.next, ⟨heap_288 w.params, #[], {}, 709, os⟩, cE, ⟨121, 0, 226, 16⟩) := by
  rw [Fast.te14374325043358763698, Fast.te14364793385576792824]; kernel_rfl
theorem hq7 (w : World) : (fun os => topRun treeTable rw0.row.prog w 28 (some (.ref 6)) 596 ⟨heap_288 w.params, #[], {}, 709, os⟩ (restOf b6 envE cE ⟨121, 0, 226, 16⟩ tF)) = fun os => some ⟨heap_378 w.params, #[], {}, 847, os⟩ := by
  rw [Fast.te14082659384304107361, Fast.te14364793385576792824]; kernel_rfl
theorem run_ (w : World) (os : OsState) : topRun treeTable rw0.row.prog w 28 (some (.ref 6)) 3153 ⟨heap_68 w.params, #[], {}, 276, os⟩ (topStub rw0.row.prog) = some ⟨heap_378 w.params, #[], {}, 847, os⟩ :=
  go_top (n := 12) (N := 3141) (congrFun (hq1 w) os) (piece_block (n := 1) (N := 3140) (congrFun (hq2 w) os)
    ((congrArg (fun b => topRun treeTable rw0.row.prog w 28 (some (.ref 6)) 3140 ⟨heap_72 w.params, #[], {}, 282, os⟩ (restOf b envE cE p0 tF)) hb).trans
      (piece_app (n := 160) (N := 2980) (congrFun (hq3 w) os) (piece_app (n := 1253) (N := 1727) (congrFun (hq4 w) os)
        (piece_app (n := 603) (N := 1124) (congrFun (hq5 w) os) (piece_app (n := 528) (N := 596) (congrFun (hq6 w) os) (congrFun (hq7 w) os)))))))
abbrev sE (w : World) (os : OsState) : Shared := ⟨heap_378 w.params, #[], {}, 847, os⟩
noncomputable abbrev oS (w : World) (os : OsState) := openSeen view loose (importedModules rw0.row.prog.main.body) (fun s => xlAt view [] s && recOk (RowW.records rw0.row.toRowW) s) true (sE w os)
theorem v0 (w : World) : (fun os => (staticsOk (importedModules rw0.row.prog.main.body) (heap_68 w.params) (heap_378 w.params) && namesBound rw0.row.prog (heap_378 w.params) && gensDone (sE w os) && laidKept (heap_68 w.params) (heap_378 w.params))) = fun _ => true := by kernel_rfl
theorem v1 (w : World) : (fun os => seen ((recsOf view).map (·.name)) (ownsOf view) [] { sE w os with gens := #[] }) = fun _ => expectedOf view := by kernel_rfl
theorem v2 (w : World) : (fun os => (sE w os).heap.bltView) = fun _ => bltViewBooted := by kernel_rfl
theorem v3 (w : World) : (fun os => (sE w os).heap.keysOk (looseW view loose) ((recsOf view).map (·.name)) ((litsOf view).map (·.1)) ((clssOf view (looseW view loose)).map (·.name)) && (sE w os).heap.accountedOkI (importedModules rw0.row.prog.main.body) && (sE w os).heap.isNs mainGlobals && (sE w os).heap.isNs builtinsNs && tablesOk view (sE w os).heap && (xlAt view [] (sE w os) && recOk (RowW.records rw0.row.toRowW) (sE w os)) && (sE w os).gens.size == 0) = fun _ => true := by kernel_rfl
theorem v4 (w : World) : (fun os => (tabsOk view (sE w os), pinSeenD view (drecsOf view) (sE w os), plainSeenE view (looseW view loose) (sE w os), plainSeenD view loose (sE w os), wideSeen view (sE w os), clsSeenW view loose (sE w os))) = fun _ => (true, pinGoodD (drecsOf view), plainGoodE view (looseW view loose), plainGoodD view loose, wideGood view, clsGoodW view loose) := by kernel_rfl
theorem v5 (w : World) : (fun os => hookK.obs (sE w os)) = fun _ => hookK.val w := by kernel_rfl
theorem looks_ (w : World) : (fun os => ((staticsOk (importedModules rw0.row.prog.main.body) (heap_68 w.params) (heap_378 w.params) && namesBound rw0.row.prog (heap_378 w.params) && gensDone (sE w os) && laidKept (heap_68 w.params) (heap_378 w.params)), oS w os, hookK.obs (sE w os))) = fun _ => (true, openGood view loose, hookK.val w) :=
  funext fun os => looks_pair (congrFun (v0 w) os) (looks_pair (looks_pair (congrFun (v1 w) os) (looks_pair (congrFun (v2 w) os) (looks_pair (congrFun (v3 w) os) (congrFun (v4 w) os)))) (congrFun (v5 w) os))
theorem left : LeftO rw0.row.prog view loose (fun s => xlAt view [] s && recOk (RowW.records rw0.row.toRowW) s) hookK.obs hookK.val 6386 :=
  LeftO.of_pieces open_ size_ run_ (by decide) looks_
theorem said : rw0.wellSaid = true := by
  unfold OpenLaw.wellSaid OpenRow.wellSaid OpenRow.partSaid looksOpen
  simp only [Bool.and_eq_true]
  repeat' apply And.intro
  all_goals first | (rw [Fast.te8326940854005059898]; decide +kernel) | (rw [Fast.te17119622794617984870]; decide +kernel) | decide +kernel
end
end Mine
end
section
set_option tactic.hygienic false
open PySem PySem.W PyProof.Rows
namespace Mine
theorem noS {α : Type} {x : α} {P : Prop} (e : (none : Option α) = some x) : P := by cases e
theorem noN {α : Type} {x : α} {P : Prop} (e : some x = none) : P := by cases e
theorem noF {P : Prop} (e : false = true) : P := by cases e
theorem noT {P : Prop} (e : true = false) : P := by cases e
theorem prI {α β : Type} {a a' : α} {b b' : β} (e : some (a, b) = some (a', b')) : a = a' ∧ b = b' := by cases e; exact ⟨rfl, rfl⟩
theorem prJ {α β : Type} {a a' : α} {b b' : β} (e : some (a, b) = some (a', b')) : a' = a ∧ b' = b := by cases e; exact ⟨rfl, rfl⟩
theorem prS {α β : Type} {a a' : α} {b b' : β} (e : (a, b) = (a', b')) : a' = a ∧ b' = b := by cases e; exact ⟨rfl, rfl⟩
theorem prK {α β : Type} {a a' : α} {b b' : β} (e : (a, b) = (a', b')) : a = a' ∧ b = b' := by cases e; exact ⟨rfl, rfl⟩
theorem soI {α : Type} {a a' : α} (e : some a = some a') : a = a' := by cases e; rfl
theorem soJ {α : Type} {a a' : α} (e : some a = some a') : a' = a := by obtain rfl := soI e; rfl
noncomputable abbrev Le (h h' : Heap) : Prop := ∀ b o, h.get? b = some o → h'.get? b = some o
theorem Le.refl (h : Heap) : Le h h := fun _ _ e => e
theorem Le.trans {a b c : Heap} (x : Le a b) (y : Le b c) : Le a c := fun _ _ e => y _ _ (x _ _ e)
theorem Le.push (h : Heap) (o : Obj) : Le h (h.push o) := fun _ _ e => Heap.get?_push_of_some _ e
theorem get_size (h : Heap) : h.get? h.objs.size = none := by
  cases e : h.get? h.objs.size with
  | none => rfl
  | some o => exact absurd (Heap.lt_size e) (Nat.lt_irrefl _)
structure Cx where
  prog : Program
  w : World
  K : Frag
  b0 : Heap
  mg : Str → Option Value
  mb : Str → Option Value
  tp : Program
  lo : List Str
  rows : Nat → Str
  nn : Nat
  inK : K.In b0
  top : TopRead tp lo mg mb b0
  inj : ∀ i j, i < nn → j < nn → rows i = rows j → i = j
noncomputable abbrev Cx.M (c : Cx) : Model := model c.prog c.w
noncomputable abbrev Cx.si (c : Cx) : KeyKind c.prog c.w Int := PySem.intKind c.prog c.w
noncomputable abbrev Cx.ss (c : Cx) : KeyKind c.prog c.w Str := PySem.strKind c.prog c.w
inductive PV where
  | none
  | bool (b : Bool)
  | int (i : Int)
  | str (s : Str)
  | node (n : Nat)
  | lst (xs : List PV)
  | tup (xs : List PV)
  | rng (lo hi : Int)
  | ref (i : Nat)
  | val (v : Value)
  | meth (id : String) (self : PV)
  | view (i : Nat)
inductive Cell where
  | list (xs : List PV)
  | dint (es : List (Int × PV))
  | dnod (es : List (Nat × PV))
  | snod (xs : List Nat)
  | inst (C : Addr) (di : Nat)
  | ns (fs : List (Option PV))
  | slot (C : Addr) (fs : List (Option PV))
  | iter (l : Nat) (i : Nat)
  | obj
  | dead
  | lock (cl : Cell)
mutual
inductive VR (c : Cx) (X : List Addr) (h : Heap) (μ : List Addr) : PV → Value → Prop
  | none : VR c X h μ .none .none
  | bool (b : Bool) : VR c X h μ (.bool b) (.bool b)
  | int (i : Int) (t : Tok) : VR c X h μ (.int i) (.int i t)
  | str (s : Str) (t : Tok) : VR c X h μ (.str s) (.str s t)
  | node (n : Nat) (t : Tok) : n < c.nn → VR c X h μ (.node n) (.str (c.rows n) t)
  | lst {xs a vs} : h.IsList a vs.toArray → a ∉ X → VRs c X h μ xs vs → VR c X h μ (.lst xs) (.ref a)
  | tup {xs a vs} : IsTup h a vs.toArray → a ∉ X → VRs c X h μ xs vs → VR c X h μ (.tup xs) (.ref a)
  | rng {a lo hi t u v} : IsRange h a lo hi 1 t u v → a ∉ X → VR c X h μ (.rng lo hi) (.ref a)
  | ref {i : Nat} {a : Addr} : μ[i]? = some a → VR c X h μ (.ref i) (.ref a)
  | val (v : Value) : VR c X h μ (.val v) v
  | view {i : Nat} {a d : Addr} : μ[i]? = some d → h.get? a = some { cls := .type "dict_values", data := .fields #[.ref d] } → a ∉ X → VR c X h μ (.view i) (.ref a)
  | meth {T id q d v} : (T = "builtin_function_or_method" ∨ T = "method-wrapper") → h.get? q = some { cls := .type T, data := .fields #[.builtin id, v] } → q ∉ X → VR c X h μ d v → VR c X h μ (.meth id d) (.ref q)
inductive VRs (c : Cx) (X : List Addr) (h : Heap) (μ : List Addr) : List PV → List Value → Prop
  | nil : VRs c X h μ [] []
  | cons {d v ds vs} : VR c X h μ d v → VRs c X h μ ds vs → VRs c X h μ (d :: ds) (v :: vs)
end
structure Mv (X : List Addr) (h : Heap) (μ : List Addr) (X' : List Addr) (h' : Heap) (μ' : List Addr) : Prop where
  kp : ∀ b o, h.get? b = some o → b ∉ X → h'.get? b = some o ∧ b ∉ X'
  pre : μ <+: μ'
theorem Mv.refl (X h μ) : Mv X h μ X h μ := ⟨fun _ _ e n => ⟨e, n⟩, List.prefix_refl _⟩
theorem Mv.trans {X h μ X' h' μ' X'' h'' μ''} (a : Mv X h μ X' h' μ') (b : Mv X' h' μ' X'' h'' μ'') : Mv X h μ X'' h'' μ'' :=
  ⟨fun x o e n => let ⟨e', n'⟩ := a.kp x o e n; b.kp x o e' n', a.pre.trans b.pre⟩
theorem Mv.le {X h h' μ} (l : Le h h') : Mv X h μ X h' μ := ⟨fun b o e n => ⟨l b o e, n⟩, List.prefix_refl _⟩
theorem pre_get {α : Type} {l l' : List α} (p : l <+: l') {i : Nat} {a : α} (e : l[i]? = some a) : l'[i]? = some a := by
  obtain ⟨t, rfl⟩ := p
  rw [List.getElem?_append_left (List.getElem?_eq_some_iff.mp e).1]; exact e
section
variable {c : Cx} {X X' : List Addr} {h h' : Heap} {μ μ' : List Addr}
theorem VRs.ind {m : List PV → List Value → Prop} (n : m [] []) (k : ∀ {d v ds vs}, VR c X h μ d v → VRs c X h μ ds vs → m ds vs → m (d :: ds) (v :: vs)) {ds vs} (r : VRs c X h μ ds vs) : m ds vs :=
  VRs.rec (motive_1 := fun _ _ _ => True) (motive_2 := fun ds vs _ => m ds vs) trivial (fun _ => trivial) (fun _ _ => trivial) (fun _ _ => trivial) (fun _ _ _ => trivial) (fun _ _ _ _ => trivial) (fun _ _ _ _ => trivial) (fun _ _ => trivial) (fun _ => trivial) (fun _ => trivial) (fun _ _ _ => trivial) (fun _ _ _ _ _ => trivial) n (fun a b _ => k a b) r
theorem VR.mv (m : Mv X h μ X' h' μ') {d : PV} {v : Value} (r : VR c X h μ d v) : VR c X' h' μ' d v := by
  refine VR.rec (motive_1 := fun d v _ => VR c X' h' μ' d v) (motive_2 := fun ds vs _ => VRs c X' h' μ' ds vs) .none .bool .int .str .node ?_ ?_ ?_ (fun e => .ref (pre_get m.pre e)) .val ?_ ?_ .nil (fun _ _ => .cons) r
  · intro xs a vs e n _ ih
    obtain ⟨o, eo, r1⟩ := e
    obtain ⟨e', n'⟩ := m.kp _ _ eo n
    exact .lst ⟨o, e', r1⟩ n' ih
  · intro xs a vs e n _ ih
    obtain ⟨o, eo, r1⟩ := e
    obtain ⟨e', n'⟩ := m.kp _ _ eo n
    exact .tup ⟨o, e', r1⟩ n' ih
  · intro a lo hi t u v e n
    exact .rng (m.kp _ _ e n).1 (m.kp _ _ e n).2
  · intro i a d e g n
    exact .view (pre_get m.pre e) (m.kp _ _ g n).1 (m.kp _ _ g n).2
  · intro T id q d v hT e n _ ih
    exact .meth hT (m.kp _ _ e n).1 (m.kp _ _ e n).2 ih
theorem VRs.mv (m : Mv X h μ X' h' μ') {ds : List PV} {vs : List Value} (r : VRs c X h μ ds vs) : VRs c X' h' μ' ds vs := r.ind (m := VRs c X' h' μ') .nil fun a _ => .cons (a.mv m)
theorem VR.le (l : Le h h') {d v} (r : VR c X h μ d v) : VR c X h' μ d v := r.mv (.le l)
theorem VRs.le (l : Le h h') {d v} (r : VRs c X h μ d v) : VRs c X h' μ d v := r.mv (.le l)
theorem VRs.length {ds : List PV} {vs : List Value} (r : VRs c X h μ ds vs) : ds.length = vs.length := r.ind (m := fun ds vs => ds.length = vs.length) rfl fun _ _ => congrArg Nat.succ
theorem VRs.app {ds es : List PV} {vs us : List Value} (r : VRs c X h μ ds vs) (b : VRs c X h μ es us) : VRs c X h μ (ds ++ es) (vs ++ us) := r.ind (m := fun ds vs => VRs c X h μ (ds ++ es) (vs ++ us)) b fun a _ => .cons a
theorem VRs.get {ds : List PV} {vs : List Value} {i : Nat} {d : PV} (r : VRs c X h μ ds vs) : ds[i]? = some d → ∃ v, vs[i]? = some v ∧ VR c X h μ d v :=
  r.ind (m := fun ds vs => ∀ i d, ds[i]? = some d → ∃ v, vs[i]? = some v ∧ VR c X h μ d v) (fun _ _ e => noS e) (fun a _ ih i d e => by
    cases i with
    | zero => obtain rfl := soJ e; exact ⟨_, rfl, a⟩
    | succ i => exact ih i d e) i d
theorem VRs.getv {ds : List PV} {vs : List Value} {i : Nat} {v : Value} (r : VRs c X h μ ds vs) : vs[i]? = some v → ∃ d, ds[i]? = some d ∧ VR c X h μ d v :=
  r.ind (m := fun ds vs => ∀ i v, vs[i]? = some v → ∃ d, ds[i]? = some d ∧ VR c X h μ d v) (fun _ _ e => noS e) (fun a _ ih i d e => by
    cases i with
    | zero => obtain rfl := soJ e; exact ⟨_, rfl, a⟩
    | succ i => exact ih i d e) i v
theorem VRs.take {ds : List PV} {vs : List Value} (n : Nat) (r : VRs c X h μ ds vs) : VRs c X h μ (ds.take n) (vs.take n) :=
  r.ind (m := fun ds vs => ∀ n, VRs c X h μ (ds.take n) (vs.take n)) (fun n => by rw [List.take_nil, List.take_nil]; exact .nil) (fun a _ ih n => by
    cases n with
    | zero => exact .nil
    | succ n => exact .cons a (ih n)) n
theorem VRs.drop {ds : List PV} {vs : List Value} (n : Nat) (r : VRs c X h μ ds vs) : VRs c X h μ (ds.drop n) (vs.drop n) :=
  r.ind (m := fun ds vs => ∀ n, VRs c X h μ (ds.drop n) (vs.drop n)) (fun n => by rw [List.drop_nil, List.drop_nil]; exact .nil) (fun a b ih n => by
    cases n with
    | zero => exact .cons a b
    | succ n => exact ih n) n
theorem VRs.set {ds : List PV} {vs : List Value} (n : Nat) {d v} (r : VRs c X h μ ds vs) (q : VR c X h μ d v) : VRs c X h μ (ds.set n d) (vs.set n v) :=
  r.ind (m := fun ds vs => ∀ n, VRs c X h μ (ds.set n d) (vs.set n v)) (fun _ => .nil) (fun a b ih n => by
    cases n with
    | zero => exact .cons q b
    | succ n => exact .cons a (ih n)) n
theorem VRs.one {d v} (r : VR c X h μ d v) : VRs c X h μ [d] [v] := .cons r .nil
end
noncomputable def soNames : List Str := ["_node2info", "_ready_nodes", "_npassedout", "_nfinished"]
noncomputable def CR (c : Cx) (X : List Addr) (h : Heap) (μ : List Addr) (a : Addr) : Cell → Prop
  | .list xs => ∃ vs, h.PlainList a vs.toArray ∧ VRs c X h μ xs vs
  | .dint es => ∃ vs, h.DictOf c.si a ((es.map (·.1)).zip vs) ∧ VRs c X h μ (es.map (·.2)) vs
  | .dnod es => (∀ e ∈ es, e.1 < c.nn) ∧ ∃ vs, h.DictOf c.ss a ((es.map fun e => c.rows e.1).zip vs) ∧ VRs c X h μ (es.map (·.2)) vs
  | .snod xs => (∀ x ∈ xs, x < c.nn) ∧ ∃ S, h.SetOf c.ss a S xs.length ∧ ∀ k, S k = true ↔ ∃ x ∈ xs, c.rows x = k
  | .inst C di => ∃ dx, μ[di]? = some dx ∧ h.get? a = some (instObj C dx)
  | .ns fs => ∃ es n, h.get? a = some (dictOf es n) ∧ es.length + fs.countP (·.isNone) ≤ 100 ∧ (∀ nm, nm ∉ soNames → getL nm es = some none) ∧ ∀ (j : Nat) (nm : Str), soNames[j]? = some nm →
      match (fs[j]?).join with
      | some d => ∃ v, getL nm es = some (some v) ∧ handedIn v = true ∧ VR c X h μ d v
      | none => getL nm es = some none
  | .slot C fs => ∃ sl dx, h.get? a = some ⟨.ref C, some dx, .plain, sl⟩ ∧ h.get? dx = some emptyDict ∧ dx ∉ X ∧ ∀ (j : Nat) (d : PV), (fs[j]?).join = some d → ∃ v, (sl[j]?).join = some v ∧ VR c X h μ d v
  | .iter l i => ∃ b, μ[l]? = some b ∧ h.get? a = some { cls := .type "list_iterator", data := .fields #[.ref b, .int i 0] }
  | .obj => ∃ o, h.get? a = some o ∧ o.cls = .type "object"
  | .dead => True
  | .lock cl => CR c X h μ a cl
theorem CR.mv {c : Cx} {X X' : List Addr} {h h' : Heap} {μ μ' : List Addr} (m : Mv X h μ X' h' μ') {a : Addr} (ka : ∀ o, h.get? a = some o → h'.get? a = some o) {cl : Cell} : CR c X h μ a cl → CR c X' h' μ' a cl := by
  induction cl with
  | list xs => rintro ⟨vs, e, r⟩; exact ⟨vs, e.at fun o => ka o, r.mv m⟩
  | dint es => rintro ⟨vs, ⟨o, x, y, q, z⟩, r⟩; exact ⟨vs, ⟨o, x, y, ka o q, z⟩, r.mv m⟩
  | dnod es => rintro ⟨b, vs, ⟨o, x, y, q, z⟩, r⟩; exact ⟨b, vs, ⟨o, x, y, ka o q, z⟩, r.mv m⟩
  | snod xs => rintro ⟨b, S, ⟨o, x, y, t, q, z⟩, r⟩; exact ⟨b, S, ⟨o, x, y, t, ka o q, z⟩, r⟩
  | inst C di => rintro ⟨dx, e, r⟩; exact ⟨dx, pre_get m.pre e, ka _ r⟩
  | ns fs =>
    rintro ⟨es, n, e, l, z, r⟩
    refine ⟨es, n, ka _ e, l, z, fun j nm q => ?_⟩
    have := r j nm q
    revert this
    cases (fs[j]?).join with
    | none => exact id
    | some d => rintro ⟨v, x, y, z⟩; exact ⟨v, x, y, z.mv m⟩
  | slot C fs =>
    rintro ⟨sl, dx, e, f, n, r⟩
    refine ⟨sl, dx, ka _ e, (m.kp _ _ f n).1, (m.kp _ _ f n).2, fun j d q => ?_⟩
    obtain ⟨v, x, y⟩ := r j d q
    exact ⟨v, x, y.mv m⟩
  | iter l i => rintro ⟨b, e, r⟩; exact ⟨b, pre_get m.pre e, ka _ r⟩
  | obj => rintro ⟨o, e, r⟩; exact ⟨o, ka _ e, r⟩
  | dead => exact fun _ => trivial
  | lock cl ih => exact ih
structure Lx where
  envs : List Env
  lk : List (Addr × Obj)
noncomputable def Lx.fa (fl : Lx) : List Addr := fl.envs.filterMap (·.frame)
noncomputable def NT (o : Obj) : Prop := ∀ xs n, o.data = .seq xs n → o.cls ≠ .type "tuple"
structure Inv (c : Cx) (fl : Lx) (X μ : List Addr) (h : Heap) (σ : List Cell) : Prop where
  base : ∀ b o, c.b0.get? b = some o → h.get? b = some o ∧ b ∉ X
  own : ∀ a ∈ X, ∃ o, h.get? a = some o ∧ NT o
  len : μ.length = σ.length
  nod : μ.Nodup
  sub : ∀ a ∈ μ, a ∈ X
  nsy : ∀ a ∈ μ, (a == sysModules) = false
  cel : ∀ (i : Nat) (a : Addr) (cl : Cell), μ[i]? = some a → σ[i]? = some cl → CR c X h μ a cl
  fr : h.FunFrames c.b0 fl.envs
  faX : ∀ b ∈ fl.fa, b ∈ X
  faμ : ∀ b ∈ fl.fa, b ∉ μ
  lk : ∀ p ∈ fl.lk, h.get? p.1 = some p.2 ∧ ∃ (j : Nat) (cl : Cell), μ[j]? = some p.1 ∧ σ[j]? = some (.lock cl)
  lkc : ∀ (j : Nat) (cl : Cell) (a : Addr), σ[j]? = some (.lock cl) → μ[j]? = some a → ∃ o, (a, o) ∈ fl.lk
theorem Inv.fresh {c fl X μ h σ} (I : Inv c fl X μ h σ) : h.objs.size ∉ X := fun m => by
  obtain ⟨x, e, _⟩ := I.own _ m; exact absurd (Heap.lt_size e) (Nat.lt_irrefl _)
structure Step (fa pr X μ : List Addr) (h : Heap) (X' μ' : List Addr) (h' : Heap) : Prop where
  kp : ∀ b o, h.get? b = some o → b ∉ pr → b ∉ μ → b ∉ fa → h'.get? b = some o
  kf : ∀ b o, h.get? b = some o → b ∉ pr → b ∉ μ → ∃ sl, h'.get? b = some { o with slots := sl }
  nf : ∀ b o, h.get? b = some o → ∃ o', h'.get? b = some o' ∧ ((∀ vs, o.data ≠ .fields vs) → ∀ vs, o'.data ≠ .fields vs)
  subX : ∀ b ∈ X, b ∈ X'
  newX : ∀ b ∈ X', b ∈ X ∨ h.get? b = none
  pre : μ <+: μ'
  newμ : ∀ b ∈ μ', b ∈ μ ∨ h.get? b = none
theorem Step.le {fa pr X μ h h'} (l : Le h h') : Step fa pr X μ h X μ h' where
  kp := fun b o e _ _ _ => l b o e
  kf := fun b o e _ _ => ⟨o.slots, l b o e⟩
  nf := fun b o e => ⟨o, l b o e, id⟩
  subX := fun b m => m
  newX := fun b m => .inl m
  pre := List.prefix_refl _
  newμ := fun b m => .inl m
theorem Step.gone {fa pr X μ h X' μ' h'} (a : Step fa pr X μ h X' μ' h') {b : Addr} (e : h'.get? b = none) : h.get? b = none := by
  cases q : h.get? b with
  | none => rfl
  | some o => obtain ⟨o', e', _⟩ := a.nf b o q; rw [e] at e'; exact noS e'
theorem Step.trans {fa pr X μ h X' μ' h' X'' μ'' h''} (a : Step fa pr X μ h X' μ' h') (b : Step fa pr X' μ' h' X'' μ'' h'') : Step fa pr X μ h X'' μ'' h'' where
  kp := fun x o e p m n => by
    have e' := a.kp x o e p m n
    have nm : x ∉ μ' := fun q => (a.newμ x q).elim m fun q => by rw [q] at e; exact noS e
    exact b.kp x o e' p nm n
  kf := fun x o e p m => by
    obtain ⟨sl, e'⟩ := a.kf x o e p m
    have nm : x ∉ μ' := fun q => (a.newμ x q).elim m fun q => by rw [q] at e; exact noS e
    obtain ⟨sl', e''⟩ := b.kf x _ e' p nm
    exact ⟨sl', e''⟩
  nf := fun x o e => let ⟨o', e', n'⟩ := a.nf x o e; let ⟨o'', e'', n''⟩ := b.nf x o' e'; ⟨o'', e'', fun q => n'' (n' q)⟩
  subX := fun x m => b.subX x (a.subX x m)
  newX := fun x m => (b.newX x m).elim (a.newX x) fun q => .inr (a.gone q)
  pre := a.pre.trans b.pre
  newμ := fun x m => (b.newμ x m).elim (a.newμ x) fun q => .inr (a.gone q)
theorem Step.mv {fa pr X μ h X' μ' h'} (a : Step fa pr X μ h X' μ' h') (p : ∀ b ∈ pr, b ∈ X) (m : ∀ b ∈ μ, b ∈ X) (f : ∀ b ∈ fa, b ∈ X) : Mv X h μ X' h' μ' :=
  ⟨fun b o e n => ⟨a.kp b o e (fun q => n (p b q)) (fun q => n (m b q)) (fun q => n (f b q)), fun q => (a.newX b q).elim n fun q => by rw [q] at e; exact noS e⟩, a.pre⟩
theorem Step.out {fa fa' pr pr' X μ h X' μ' h'} (a : Step fa' pr' X μ h X' μ' h') (p : ∀ b ∈ pr', b ∈ pr ∨ h.get? b = none) (f : ∀ b ∈ fa', b ∈ fa ∨ h.get? b = none) : Step fa pr X μ h X' μ' h' where
  kp := fun x o e q m n => a.kp x o e (fun z => (p x z).elim q fun z => by rw [z] at e; exact noS e) m (fun z => (f x z).elim n fun z => by rw [z] at e; exact noS e)
  kf := fun x o e q m => a.kf x o e (fun z => (p x z).elim q fun z => by rw [z] at e; exact noS e) m
  nf := a.nf
  subX := a.subX
  newX := a.newX
  pre := a.pre
  newμ := a.newμ
theorem Step.hide {fa pr X μ h a} (n : h.get? a = none) : Step fa pr X μ h (a :: X) μ h where
  kp := fun _ _ e _ _ _ => e
  kf := fun _ o e _ _ => ⟨o.slots, e⟩
  nf := fun _ o e => ⟨o, e, id⟩
  subX := fun _ m => .tail _ m
  newX := fun b m => (List.mem_cons.mp m).elim (fun q => .inr (q ▸ n)) .inl
  pre := List.prefix_refl _
  newμ := fun b m => .inl m
theorem Inv.sz {c fl X μ h σ} (I : Inv c fl X μ h σ) : (h.objs.size == sysModules) = false := by
  obtain ⟨o, _, _, e, _⟩ := c.top.g
  have := Heap.lt_size (I.base _ _ e).1
  have h3 : (mainGlobals : Nat) = 3 := rfl
  have h1 : (sysModules : Nat) = 1 := rfl
  rw [h3] at this
  rw [beq_eq_false_iff_ne, h1]
  intro z
  rw [z] at this
  exact absurd this (by decide)
theorem Inv.le {c fl X μ h h' σ} (I : Inv c fl X μ h σ) (l : Le h h') : Inv c fl X μ h' σ where
  base := fun b o e => ⟨l b o (I.base b o e).1, (I.base b o e).2⟩
  own := fun a m => let ⟨o, e, n⟩ := I.own a m; ⟨o, l a o e, n⟩
  len := I.len
  nod := I.nod
  sub := I.sub
  nsy := I.nsy
  cel := fun i a cl e q => (I.cel i a cl e q).mv (.le l) fun o => l a o
  fr := I.fr.of_keeps fun b o e _ => ⟨o, l b o e, rfl⟩
  faX := I.faX
  faμ := I.faμ
  lk := fun p m => ⟨l _ _ (I.lk p m).1, (I.lk p m).2⟩
  lkc := I.lkc
noncomputable def VRi (c : Cx) (X : List Addr) (h : Heap) (μ : List Addr) (d : PV) (v : Value) : Prop := match d with
  | .none => v = .none
  | .bool b => v = .bool b
  | .int i => ∃ t, v = .int i t
  | .str x => ∃ t, v = .str x t
  | .node n => n < c.nn ∧ ∃ t, v = .str (c.rows n) t
  | .lst xs => ∃ a vs, v = .ref a ∧ h.IsList a vs.toArray ∧ a ∉ X ∧ VRs c X h μ xs vs
  | .tup xs => ∃ a vs, v = .ref a ∧ IsTup h a vs.toArray ∧ a ∉ X ∧ VRs c X h μ xs vs
  | .rng lo hi => ∃ a t u w, v = .ref a ∧ IsRange h a lo hi 1 t u w ∧ a ∉ X
  | .ref i => ∃ a, v = .ref a ∧ μ[i]? = some a
  | .val u => v = u
  | .meth id d => ∃ q T u, v = .ref q ∧ (T = "builtin_function_or_method" ∨ T = "method-wrapper") ∧ h.get? q = some { cls := .type T, data := .fields #[.builtin id, u] } ∧ q ∉ X ∧ VR c X h μ d u
  | .view i => ∃ a d, v = .ref a ∧ μ[i]? = some d ∧ h.get? a = some { cls := .type "dict_values", data := .fields #[.ref d] } ∧ a ∉ X
theorem VR.inv {c : Cx} {X μ : List Addr} {h : Heap} {d : PV} {v : Value} (r : VR c X h μ d v) : VRi c X h μ d v := by
  cases r with
  | none => exact rfl
  | bool => exact rfl
  | int => exact ⟨_, rfl⟩
  | str => exact ⟨_, rfl⟩
  | node n t l => exact ⟨l, _, rfl⟩
  | lst a b d => exact ⟨_, _, rfl, a, b, d⟩
  | tup a b d => exact ⟨_, _, rfl, a, b, d⟩
  | rng a b => exact ⟨_, _, _, _, rfl, a, b⟩
  | ref e => exact ⟨_, rfl, e⟩
  | val => exact rfl
  | meth a b d e => exact ⟨_, _, _, rfl, a, b, d, e⟩
  | view a b d => exact ⟨_, _, rfl, a, b, d⟩
theorem VR.int_inv {c : Cx} {X μ : List Addr} {h : Heap} {i : Int} {v : Value} (r : VR c X h μ (.int i) v) : ∃ t, v = .int i t := r.inv
theorem VR.str_inv {c : Cx} {X μ : List Addr} {h : Heap} {i : Str} {v : Value} (r : VR c X h μ (.str i) v) : ∃ t, v = .str i t := r.inv
theorem VR.none_inv {c : Cx} {X μ : List Addr} {h : Heap} {v : Value} (r : VR c X h μ .none v) : v = .none := r.inv
theorem VR.bool_inv {c : Cx} {X μ : List Addr} {h : Heap} {b : Bool} {v : Value} (r : VR c X h μ (.bool b) v) : v = .bool b := r.inv
theorem VR.node_inv {c : Cx} {X μ : List Addr} {h : Heap} {n : Nat} {v : Value} (r : VR c X h μ (.node n) v) : n < c.nn ∧ ∃ t, v = .str (c.rows n) t := r.inv
theorem VR.ref_inv {c : Cx} {X μ : List Addr} {h : Heap} {i : Nat} {v : Value} (r : VR c X h μ (.ref i) v) : ∃ a, v = .ref a ∧ μ[i]? = some a := r.inv
theorem VR.lst_inv {c : Cx} {X μ : List Addr} {h : Heap} {xs : List PV} {v : Value} (r : VR c X h μ (.lst xs) v) : ∃ a vs, v = .ref a ∧ h.IsList a vs.toArray ∧ a ∉ X ∧ VRs c X h μ xs vs := r.inv
theorem VR.tup_inv {c : Cx} {X μ : List Addr} {h : Heap} {xs : List PV} {v : Value} (r : VR c X h μ (.tup xs) v) : ∃ a vs, v = .ref a ∧ IsTup h a vs.toArray ∧ a ∉ X ∧ VRs c X h μ xs vs := r.inv
end Mine
end
section
set_option tactic.hygienic false
open PySem PySem.W PyProof.Rows PySem.Calls
namespace Mine
structure SC where
  names : List (Str × NameKind)
  slots : List Str
noncomputable abbrev priv (env : Env) : List Addr := env.locals :: env.cells.map (·.2)
structure FrS (c : Cx) (C : SC) (env : Env) (X μ : List Addr) (h : Heap) (ρ : List (Option PV)) : Prop where
  kind : env.scope.kind = .function
  names : env.scope.names = C.names
  glob : env.globals = mainGlobals
  blt : env.builtins = builtinsNs
  len : ρ.length = C.slots.length
  pX : ∀ a ∈ priv env, a ∈ X ∧ a ∉ μ
  nod : (priv env).Nodup
  loc : ∃ m, h.Ns env.locals m ∧ ∀ (i : Nat) x d, C.slots[i]? = some x → C.names.lookup x = some .local → (ρ[i]?).join = some d → ∃ v, m x = some v ∧ VR c X h μ d v
  cel : ∀ x, C.names.lookup x = some .cell ∨ C.names.lookup x = some .free → ∃ a o cv, env.cells.lookup x = some a ∧ h.get? a = some o ∧ o.data = .cell cv ∧
    ∀ (i : Nat) d, C.slots[i]? = some x → (ρ[i]?).join = some d → ∃ v, cv = some v ∧ VR c X h μ d v
structure St where
  ρ : List (Option PV)
  σ : List Cell
structure Lv where
  n : Nat
  q : Bool
structure Calm (lv : Lv) (A : Around) (fl : Lx) : Prop where
  hd : lv.q = true → A.handled = none
  dp : A.depth + lv.n < recursionLimit
  un : A.units + 4 * lv.n + 100 < cLine
  fr : A.frames = some fl.envs
theorem Ns.slots {h h' : Heap} {a : Addr} {m} (n : h.Ns a m) (k : ∀ o, h.get? a = some o → ∃ sl, h'.get? a = some { o with slots := sl }) : h'.Ns a m := by
  obtain ⟨o, es, ep, e, d, r⟩ := n
  obtain ⟨sl, e'⟩ := k o e
  exact ⟨_, es, ep, e', d, r⟩
theorem lookup_mem {x : Str} {a : Addr} : ∀ {l : List (Str × Addr)}, l.lookup x = some a → a ∈ l.map (·.2)
  | (y, b) :: r, e => by
    rw [List.lookup_cons] at e
    cases hx : x == y with
    | true => rw [hx] at e; obtain rfl := soJ e; exact .head _
    | false => rw [hx] at e; exact .tail _ (lookup_mem e)
section
variable {c : Cx} {C : SC} {env : Env} {X X' μ μ' : List Addr} {h h' : Heap} {ρ : List (Option PV)}
theorem FrS.keep (F : FrS c C env X μ h ρ) (k : ∀ a ∈ priv env, ∀ o, h.get? a = some o → ∃ sl, h'.get? a = some { o with slots := sl }) (m : Mv X h μ X' h' μ')
    (p : ∀ a ∈ priv env, a ∈ X' ∧ a ∉ μ') : FrS c C env X' μ' h' ρ where
  kind := F.kind
  names := F.names
  glob := F.glob
  blt := F.blt
  len := F.len
  pX := p
  nod := F.nod
  loc := by
    obtain ⟨mm, n, r⟩ := F.loc
    exact ⟨mm, Ns.slots n (k _ (.head _)), fun i x d e1 e2 e3 => let ⟨v, a, b⟩ := r i x d e1 e2 e3; ⟨v, a, b.mv m⟩⟩
  cel := fun x q => by
    obtain ⟨a, o, cv, e, g, d, r⟩ := F.cel x q
    obtain ⟨sl, g'⟩ := k a (.tail _ (lookup_mem e)) o g
    exact ⟨a, _, cv, e, g', d, fun i d e1 e2 => let ⟨v, a, b⟩ := r i d e1 e2; ⟨v, a, b.mv m⟩⟩
theorem FrS.le (F : FrS c C env X μ h ρ) (l : Le h h') : FrS c C env X μ h' ρ :=
  F.keep (fun a _ o e => ⟨o.slots, l a o e⟩) (.le l) F.pX
theorem FrS.step {fa pr : List Addr} (F : FrS c C env X μ h ρ) (s : Step fa pr X μ h X' μ' h') (hp : ∀ a ∈ pr, a ∈ X ∧ a ∉ priv env) (hm : ∀ a ∈ μ, a ∈ X) (hf : ∀ a ∈ fa, a ∈ X) (ex : ∀ a ∈ priv env, ∃ o, h.get? a = some o) :
    FrS c C env X' μ' h' ρ :=
  F.keep (fun a m o e => s.kf a o e (fun q => (hp a q).2 m) (F.pX a m).2) (s.mv (fun b q => (hp b q).1) hm hf)
    fun a m => ⟨s.subX a (F.pX a m).1, fun q => (s.newμ a q).elim (F.pX a m).2 fun q => let ⟨o, e⟩ := ex a m; by rw [q] at e; exact noS e⟩
end
noncomputable abbrev Co := St → Option (PV × List Cell)
noncomputable abbrev Ct := St → Option (Bool × List Cell)
noncomputable def Ev (c : Cx) (lv : Lv) (C : SC) (e : Expr) (f : Co) : Prop :=
  ∀ A fl env X μ (s : Shared) st d σ' (Q : Value → Shared → Prop) (E : Value → Shared → Prop), Calm lv A fl → Inv c fl X μ s.heap st.σ → FrS c C env X μ s.heap st.ρ → f st = some (d, σ') →
    (∀ v h' tk X' μ', Step fl.fa [] X μ s.heap X' μ' h' → Inv c fl X' μ' h' σ' → VR c X' h' μ' d v → Q v { s with heap := h', toks := tk }) →
    wpAny c.M A (eval e env) Q E s
noncomputable def Et (c : Cx) (lv : Lv) (C : SC) (e : Expr) (f : Ct) : Prop :=
  ∀ A fl env X μ (s : Shared) st b σ' (Q : Bool → Shared → Prop) (E : Value → Shared → Prop), Calm lv A fl → Inv c fl X μ s.heap st.σ → FrS c C env X μ s.heap st.ρ → f st = some (b, σ') →
    (∀ h' tk X' μ', Step fl.fa [] X μ s.heap X' μ' h' → Inv c fl X' μ' h' σ' → Q b { s with heap := h', toks := tk }) →
    wpAny c.M A (isTrue e env (eval e env)) Q E s
noncomputable def Ap (c : Cx) (lv : Lv) (f : Value) (g : List PV → List Cell → Option (PV × List Cell)) : Prop :=
  ∀ A fl X μ (s : Shared) σ ds vs d σ' (Q : Value → Shared → Prop) (E : Value → Shared → Prop), Calm lv A fl → Inv c fl X μ s.heap σ → VRs c X s.heap μ ds vs → g ds σ = some (d, σ') →
    (∀ v h' tk X' μ', Step fl.fa [] X μ s.heap X' μ' h' → Inv c fl X' μ' h' σ' → VR c X' h' μ' d v → Q v { s with heap := h', toks := tk }) →
    wpAny c.M A (call f vs []) Q E s
noncomputable def Op1 (c : Cx) (lv : Lv) (t : Value → Sem Value) (op : List Cell → PV → Option PV) : Prop :=
  ∀ A fl X μ (s : Shared) σ v1 d1 d (Q : Value → Shared → Prop) (E : Value → Shared → Prop), Calm lv A fl → Inv c fl X μ s.heap σ → VR c X s.heap μ d1 v1 → op σ d1 = some d →
    (∀ v h' tk, Le s.heap h' → VR c X h' μ d v → Q v { s with heap := h', toks := tk }) → wpAny c.M A (t v1) Q E s
noncomputable def Op2 (c : Cx) (lv : Lv) (t : Value → Value → Sem Value) (op : List Cell → PV → PV → Option PV) : Prop :=
  ∀ A fl X μ (s : Shared) σ v1 v2 d1 d2 d (Q : Value → Shared → Prop) (E : Value → Shared → Prop), Calm lv A fl → Inv c fl X μ s.heap σ → VR c X s.heap μ d1 v1 → VR c X s.heap μ d2 v2 → op σ d1 d2 = some d →
    (∀ v h' tk, Le s.heap h' → VR c X h' μ d v → Q v { s with heap := h', toks := tk }) → wpAny c.M A (t v1 v2) Q E s
noncomputable def TrOk (c : Cx) (lv : Lv) (tr : List Cell → PV → Option Bool) : Prop :=
  ∀ A fl X μ (s : Shared) σ v d b (Q : Bool → Shared → Prop) (E : Value → Shared → Prop), Calm lv A fl → Inv c fl X μ s.heap σ → VR c X s.heap μ d v → tr σ d = some b →
    (∀ tk, Q b { s with toks := tk }) → wpAny c.M A (truthy v) Q E s
section
variable {c : Cx} {lv : Lv} {C : SC}
theorem Inv.exX {fl X μ h σ} (I : Inv c fl X μ h σ) {env ρ} (F : FrS c C env X μ h ρ) : ∀ a ∈ priv env, ∃ o, h.get? a = some o := fun a m => let ⟨o, e, _⟩ := I.own a (F.pX a m).1; ⟨o, e⟩
theorem Step.mv0 {fa X μ X' μ' h h' fl σ} (S : Step fa [] X μ h X' μ' h') (I : Inv c fl X μ h σ) (e : fa = fl.fa) : Mv X h μ X' h' μ' := S.mv (fun _ m => nomatch m) I.sub (e ▸ I.faX)
theorem FrS.ex {env X μ X' μ' h h' fl σ ρ} (F : FrS c C env X μ h ρ) (I : Inv c fl X μ h σ) (S : Step fl.fa [] X μ h X' μ' h') : FrS c C env X' μ' h' ρ :=
  F.step S (fun _ m => nomatch m) I.sub I.faX (I.exX F)
theorem Step.wk {fa pr X μ X' μ' h h'} (S : Step fa [] X μ h X' μ' h') : Step fa pr X μ h X' μ' h' := ⟨fun b o e _ m f => S.kp b o e (fun z => nomatch z) m f, fun b o e _ m => S.kf b o e (fun z => nomatch z) m, S.nf, S.subX, S.newX, S.pre, S.newμ⟩
theorem privX {env X μ h ρ} (F : FrS c C env X μ h ρ) : ∀ b ∈ priv env, b ∈ X := fun b m => (F.pX b m).1
noncomputable def cVal (d : PV) : Co := fun st => some (d, st.σ)
noncomputable def cLoc (i : Nat) : Co := fun st => (st.ρ[i]?).join.map fun d => (d, st.σ)
noncomputable def cBin (op : List Cell → PV → PV → Option PV) (f g : Co) : Co := fun st =>
  (f st).bind fun (a, σ1) => (g ⟨st.ρ, σ1⟩).bind fun (b, σ2) => (op σ2 a b).map fun r => (r, σ2)
noncomputable def cUn (op : List Cell → PV → Option PV) (f : Co) : Co := fun st => (f st).bind fun (a, σ1) => (op σ1 a).map fun r => (r, σ1)
theorem bind_some {α β : Type} {x : Option α} {f : α → Option β} {b : β} (e : x.bind f = some b) : ∃ a, x = some a ∧ f a = some b := by
  cases x with
  | none => exact noS e
  | some a => exact ⟨a, rfl, e⟩
theorem map_some {α β : Type} {x : Option α} {f : α → β} {b : β} (e : x.map f = some b) : ∃ a, x = some a ∧ f a = b := by
  cases x with
  | none => exact noS e
  | some a => exact ⟨a, rfl, Option.some.inj e⟩
theorem R_int (i : Int) (k pos) : Ev c lv C (.Constant (.int i) k pos) (cVal (.int i)) := by
  intro A fl env X μ s st d σ' Q E ca I F e q
  obtain ⟨rfl, rfl⟩ := prI e
  exact wpAny_Constant_int (q _ s.heap _ X μ (.le (.refl _)) I (.int i _))
theorem R_str (i : Str) (k pos) : Ev c lv C (.Constant (.str i) k pos) (cVal (.str i)) := by
  intro A fl env X μ s st d σ' Q E ca I F e q
  obtain ⟨rfl, rfl⟩ := prI e
  exact wpAny_Constant_str (q _ s.heap _ X μ (.le (.refl _)) I (.str i _))
theorem R_bool (i : Bool) (k pos) : Ev c lv C (.Constant (.bool i) k pos) (cVal (.bool i)) := by
  intro A fl env X μ s st d σ' Q E ca I F e q
  obtain ⟨rfl, rfl⟩ := prI e
  exact fun _ _ _ => (q _ s.heap s.toks X μ (.le (.refl _)) I (.bool i))
theorem R_none (k pos) : Ev c lv C (.Constant .none k pos) (cVal .none) := by
  intro A fl env X μ s st d σ' Q E ca I F e q
  obtain ⟨rfl, rfl⟩ := prI e
  exact fun _ _ _ => (q _ s.heap s.toks X μ (.le (.refl _)) I .none)
theorem FrS.kindOf {env X μ h ρ} (F : FrS c C env X μ h ρ) (x : Str) : env.kindOf x = C.names.lookup x := by unfold Env.kindOf; rw [F.names]
theorem load_slot {A : Around} {env X μ ρ} {s : Shared} {x : Str} {i : Nat} {d : PV} {Q : Value → Shared → Prop} {E} (F : FrS c C env X μ s.heap ρ) (hs : C.slots[i]? = some x)
    (hk : C.names.lookup x = some .local ∨ C.names.lookup x = some .cell ∨ (C.names.lookup x = some .free ∧ (x == ("__classdict__" : Str)) = false)) (e : (ρ[i]?).join = some d)
    (q : ∀ v, VR c X s.heap μ d v → Q v s) : wpAny c.M A (loadName env x) Q E s := by
  rcases hk with hk | hk | ⟨hk, hn⟩
  · obtain ⟨m, n, r⟩ := F.loc
    obtain ⟨v, a, b⟩ := r i x d hs hk e
    exact wpAny_loadName_local F.kind ((F.kindOf x).trans hk) n a (q v b)
  · obtain ⟨a, o, cv, e1, g, dd, r⟩ := F.cel x (.inl hk)
    obtain ⟨v, rfl, b⟩ := r i d hs e
    exact wpAny_loadName_cell F.kind ((F.kindOf x).trans hk) e1 ⟨o, g, dd⟩ (q v b)
  · obtain ⟨a, o, cv, e1, g, dd, r⟩ := F.cel x (.inr hk)
    obtain ⟨v, rfl, b⟩ := r i d hs e
    exact wpAny_loadName_free F.kind ((F.kindOf x).trans hk) e1 ⟨o, g, dd⟩ (q v b) hn
noncomputable def slotKind (C : SC) (i : Nat) (x : Str) : Bool :=
  C.slots[i]? == some x && (x == ("__debug__" : Str)) == false && (x == ("__classdict__" : Str)) == false && (C.names.lookup x == some .local || C.names.lookup x == some .cell || C.names.lookup x == some .free)
theorem slotKind_of {i : Nat} {x : Str} (h : slotKind C i x = true) : C.slots[i]? = some x ∧ (x == ("__debug__" : Str)) = false ∧
    (C.names.lookup x = some .local ∨ C.names.lookup x = some .cell ∨ (C.names.lookup x = some .free ∧ (x == ("__classdict__" : Str)) = false)) := by
  simp only [slotKind, Bool.and_eq_true, Bool.or_eq_true, beq_iff_eq] at h
  obtain ⟨⟨⟨h1, h2⟩, h3⟩, h4⟩ := h
  exact ⟨h1, h2, h4.elim (fun h => h.elim .inl (fun h => .inr (.inl h))) fun h => .inr (.inr ⟨h, h3⟩)⟩
theorem R_loc (i : Nat) (x : Str) (pos) (h : slotKind C i x = true) : Ev c lv C (.Name x pos) (cLoc i) := by
  intro A fl env X μ s st d σ' Q E ca I F e q
  obtain ⟨hs, hd, hk⟩ := slotKind_of h
  obtain ⟨d', e1, e2⟩ := map_some e
  obtain ⟨rfl, rfl⟩ := prS e2
  exact wpAny_Name (load_slot F hs hk e1 fun v r => q v s.heap s.toks X μ (.le (.refl _)) I r) hd
noncomputable def Gl (c : Cx) (C : SC) (x : Str) (v : Value) : Prop := C.names.lookup x = some .globalImplicit ∧ (x == ("__debug__" : Str)) = false ∧ (nsIn c.K mainGlobals x = some (some v) ∨ (nsIn c.K mainGlobals x = some none ∧ bootBuiltins x = some v ∧ x ≠ "__name__"))
theorem load_glob {A : Around} {env X μ fl σ ρ} {s : Shared} {x : Str} {v : Value} {Q : Value → Shared → Prop} {E} (F : FrS c C env X μ s.heap ρ) (I : Inv c fl X μ s.heap σ) (g : Gl c C x v) (q : Q v s) (pos) :
    wpAny c.M A (eval (.Name x pos) env) Q E s := by
  obtain ⟨hk, hd, g⟩ := g
  have l : Le c.b0 s.heap := fun b o e => (I.base b o e).1
  refine Name_function_global F.kind ((F.kindOf x).trans hk) ?_ hd
  rcases g with g | ⟨g, b, n⟩
  · refine loadGlobal_global (mg := c.mg) ?_ (mg_of c.inK c.top.g g) q
    rw [F.glob]; exact c.top.g.keeps l
  · refine loadGlobal_builtin (mg := c.mg) (mb := c.mb) ?_ (mg_none_of c.inK c.top.g g) ?_ ((c.top.builtins x n).trans b) q
    · rw [F.glob]; exact c.top.g.keeps l
    · rw [F.blt]; exact c.top.b.keeps l
theorem R_glob (x : Str) (v : Value) (d : PV) (pos) (h : Gl c C x v) (r : ∀ X μ h, (∀ b o, c.b0.get? b = some o → h.get? b = some o ∧ b ∉ X) → VR c X h μ d v) : Ev c lv C (.Name x pos) (cVal d) := by
  intro A fl env X μ s st d σ' Q E ca I F e q
  obtain ⟨rfl, rfl⟩ := prI e
  exact load_glob F I h (q v s.heap s.toks X μ (.le (.refl _)) I (r _ _ _ I.base)) pos
theorem R_gval (x : Str) (v : Value) (pos) (h : Gl c C x v) : Ev c lv C (.Name x pos) (cVal (.val v)) := R_glob x v _ pos h fun _ _ _ _ => .val v
theorem R_gint (x : Str) (i : Int) (t : Tok) (pos) (h : Gl c C x (.int i t)) : Ev c lv C (.Name x pos) (cVal (.int i)) := R_glob x _ _ pos h fun _ _ _ _ => .int i t
theorem R_bin {l r : Expr} {f g : Co} {o : Operator} {op} (pos) (h1 : Ev c lv C l f) (h2 : Ev c lv C r g) (h3 : Op2 c lv (binaryOp o) op) : Ev c lv C (.BinOp l o r pos) (cBin op f g) := by
  intro A fl env X μ s st d σ' Q E ca I F e q
  obtain ⟨⟨d1, σ1⟩, e1, e⟩ := bind_some e
  obtain ⟨⟨d2, σ2⟩, e2, e⟩ := bind_some e
  obtain ⟨r, e3, e⟩ := map_some e
  obtain ⟨rfl, rfl⟩ := prS e
  refine wpAny_BinOp (h1 A fl env X μ s st d1 σ1 _ _ ca I F e1 fun v1 h' tk X' μ' S1 I1 r1 => ?_)
  refine h2 A fl env X' μ' _ ⟨st.ρ, σ1⟩ d2 σ' _ _ ca I1 (F.ex I S1) e2 fun v2 h'' tk' X'' μ'' S2 I2 r2 => ?_
  refine h3 A fl X'' μ'' _ σ' v1 v2 d1 d2 d _ _ ca I2 (r1.mv (S2.mv0 I1 rfl)) r2 e3 fun v h3' tk3 l r3 => ?_
  exact q v h3' tk3 X'' μ'' ((S1.trans S2).trans (.le l)) (I2.le l) r3
theorem R_cmp {l r : Expr} {f g : Co} {o : CmpOp} {op} (pos) (h1 : Ev c lv C l f) (h2 : Ev c lv C r g) (h3 : Op2 c lv (compareOp o) op) (hm : behindInMarks o r = false) : Ev c lv C (.Compare l [o] [r] pos) (cBin op f g) := by
  intro A fl env X μ s st d σ' Q E ca I F e q
  obtain ⟨⟨d1, σ1⟩, e1, e⟩ := bind_some e
  obtain ⟨⟨d2, σ2⟩, e2, e⟩ := bind_some e
  obtain ⟨r, e3, e⟩ := map_some e
  obtain ⟨rfl, rfl⟩ := prS e
  refine wpAny_Compare1 (h1 A fl env X μ s st d1 σ1 _ _ ca I F e1 fun v1 h' tk X' μ' S1 I1 r1 => ?_) hm
  refine h2 A fl env X' μ' _ ⟨st.ρ, σ1⟩ d2 σ' _ _ ca I1 (F.ex I S1) e2 fun v2 h'' tk' X'' μ'' S2 I2 r2 => ?_
  refine h3 A fl X'' μ'' _ σ' v1 v2 d1 d2 d _ _ ca I2 (r1.mv (S2.mv0 I1 rfl)) r2 e3 fun v h3' tk3 l r3 => ?_
  exact q v h3' tk3 X'' μ'' ((S1.trans S2).trans (.le l)) (I2.le l) r3
theorem R_un {l : Expr} {f : Co} {o : UnaryOp} {op} (pos) (h1 : Ev c lv C l f) (h3 : Op1 c lv (unaryOp o) op) : Ev c lv C (.UnaryOp o l pos) (cUn op f) := by
  intro A fl env X μ s st d σ' Q E ca I F e q
  obtain ⟨⟨d1, σ1⟩, e1, e⟩ := bind_some e
  obtain ⟨r, e3, e⟩ := map_some e
  obtain ⟨rfl, rfl⟩ := prS e
  refine wpAny_UnaryOp (h1 A fl env X μ s st d1 σ' _ _ ca I F e1 fun v1 h' tk X' μ' S1 I1 r1 => ?_)
  refine h3 A fl X' μ' _ σ' v1 d1 d _ _ ca I1 r1 e3 fun v h3' tk3 l r3 => ?_
  exact q v h3' tk3 X' μ' (S1.trans (.le l)) (I1.le l) r3
noncomputable def cTr (tr : List Cell → PV → Option Bool) (f : Co) : Ct := fun st => (f st).bind fun (a, σ1) => (tr σ1 a).map fun b => (b, σ1)
noncomputable def cNot (f : Ct) : Ct := fun st => (f st).map fun (b, σ1) => (!b, σ1)
noncomputable def cAnd (f g : Ct) : Ct := fun st => (f st).bind fun (b, σ1) => if b then g ⟨st.ρ, σ1⟩ else some (false, σ1)
noncomputable def cOr (f g : Ct) : Ct := fun st => (f st).bind fun (b, σ1) => if b then some (true, σ1) else g ⟨st.ρ, σ1⟩
noncomputable def cCmp (op : List Cell → PV → PV → Option Bool) (f g : Co) : Ct := fun st => (f st).bind fun (a, σ1) => (g ⟨st.ρ, σ1⟩).bind fun (b, σ2) => (op σ2 a b).map fun r => (r, σ2)
noncomputable def plainTest : Expr → Bool
  | .UnaryOp .Not .. | .BoolOp .. | .IfExp .. | .Compare .. => false
  | _ => true
set_option tactic.hygienic true in
theorem isTrue_plain' {e : Expr} (h : plainTest e = true) (env : Env) (whole : Sem Value) : isTrue e env whole = (do let v ← whole; standAt e.pos; holding [v] (truthy v)) := by
  cases e <;> first | rfl | (simp [plainTest] at h) | skip
  rename_i op x pos
  cases op <;> first | rfl | (simp [plainTest] at h)
theorem T_val {e : Expr} {f : Co} {tr} (h : Ev c lv C e f) (ht : TrOk c lv tr) (hp : plainTest e = true) : Et c lv C e (cTr tr f) := by
  intro A fl env X μ s st b σ' Q E ca I F e q
  obtain ⟨⟨d1, σ1⟩, e1, e⟩ := bind_some e
  obtain ⟨r, e3, e⟩ := map_some e
  obtain ⟨rfl, rfl⟩ := prS e
  refine wpAny_isTrue_value (h A fl env X μ s st d1 σ' _ _ ca I F e1 fun v1 h' tk X' μ' S1 I1 r1 => ?_) (isTrue_plain' hp _ _)
  exact ht A fl X' μ' _ σ' v1 d1 b _ _ ca I1 r1 e3 fun tk' => q h' tk' X' μ' S1 I1
theorem T_not {e : Expr} {f : Ct} (pos) (h : Et c lv C e f) : Et c lv C (.UnaryOp .Not e pos) (cNot f) := by
  intro A fl env X μ s st b σ' Q E ca I F e q
  obtain ⟨⟨b1, σ1⟩, e1, e⟩ := map_some e
  obtain ⟨rfl, rfl⟩ := prS e
  exact wpAny_isTrue_Not (h A fl env X μ s st b1 σ' _ _ ca I F e1 q)
theorem T_and {x y : Expr} {f g : Ct} (pos) (h1 : Et c lv C x f) (h2 : Et c lv C y g) : Et c lv C (.BoolOp .And [x, y] pos) (cAnd f g) := by
  intro A fl env X μ s st b σ' Q E ca I F e q
  obtain ⟨⟨b1, σ1⟩, e1, e⟩ := bind_some e
  refine wpAny_isTrue_BoolOp (wpAny_allTrue_And_cons (h1 A fl env X μ s st b1 σ1 _ _ ca I F e1 fun h' tk X' μ' S1 I1 => ?_))
  cases b1 with
  | false => obtain ⟨rfl, rfl⟩ := prI e; exact q h' tk X' μ' S1 I1
  | true =>
    refine wpAny_allTrue_And_cons (h2 A fl env X' μ' _ ⟨st.ρ, σ1⟩ b σ' _ _ ca I1 (F.ex I S1) e fun h'' tk X'' μ'' S2 I2 => ?_)
    cases b with
    | false => exact q _ _ X'' μ'' (S1.trans S2) I2
    | true => exact wpAny_allTrue_And_nil (q _ _ X'' μ'' (S1.trans S2) I2)
theorem T_or {x y : Expr} {f g : Ct} (pos) (h1 : Et c lv C x f) (h2 : Et c lv C y g) : Et c lv C (.BoolOp .Or [x, y] pos) (cOr f g) := by
  intro A fl env X μ s st b σ' Q E ca I F e q
  obtain ⟨⟨b1, σ1⟩, e1, e⟩ := bind_some e
  refine wpAny_isTrue_BoolOp (wpAny_allTrue_Or_cons (h1 A fl env X μ s st b1 σ1 _ _ ca I F e1 fun h' tk X' μ' S1 I1 => ?_))
  cases b1 with
  | true => obtain ⟨rfl, rfl⟩ := prI e; exact q h' tk X' μ' S1 I1
  | false =>
    refine wpAny_allTrue_Or_cons (h2 A fl env X' μ' _ ⟨st.ρ, σ1⟩ b σ' _ _ ca I1 (F.ex I S1) e fun h'' tk X'' μ'' S2 I2 => ?_)
    cases b with
    | true => exact q _ _ X'' μ'' (S1.trans S2) I2
    | false => exact wpAny_allTrue_Or_nil (q _ _ X'' μ'' (S1.trans S2) I2)
noncomputable def Cm (c : Cx) (lv : Lv) (o : CmpOp) (op : List Cell → PV → PV → Option Bool) : Prop := Op2 c lv (compareOp o) (fun σ a b => (op σ a b).map .bool)
theorem T_cmp {l r : Expr} {f g : Co} {o : CmpOp} {op} (pos) (h1 : Ev c lv C l f) (h2 : Ev c lv C r g) (h3 : Cm c lv o op) (hm : behindInMarks o r = false) : Et c lv C (.Compare l [o] [r] pos) (cCmp op f g) := by
  intro A fl env X μ s st b σ' Q E ca I F e q
  obtain ⟨⟨d1, σ1⟩, e1, e⟩ := bind_some e
  obtain ⟨⟨d2, σ2⟩, e2, e⟩ := bind_some e
  obtain ⟨r, e3, e⟩ := map_some e
  obtain ⟨rfl, rfl⟩ := prS e
  refine wpAny_isTrue_Compare1 (h1 A fl env X μ s st d1 σ1 _ _ ca I F e1 fun v1 h' tk X' μ' S1 I1 r1 => ?_) hm
  refine h2 A fl env X' μ' _ ⟨st.ρ, σ1⟩ d2 σ' _ _ ca I1 (F.ex I S1) e2 fun v2 h'' tk' X'' μ'' S2 I2 r2 => ?_
  refine h3 A fl X'' μ'' _ σ' v1 v2 d1 d2 (.bool b) _ _ ca I2 (r1.mv (S2.mv0 I1 rfl)) r2 (by show Option.map _ _ = _; rw [e3]; rfl) fun v h3' tk3 l r3 => ?_
  cases r3
  exact wpAny_truthy_bool (q h3' tk3 X'' μ'' ((S1.trans S2).trans (.le l)) (I2.le l))
theorem R_cmpb {l r : Expr} {f g : Co} {o : CmpOp} {op} (pos) (h1 : Ev c lv C l f) (h2 : Ev c lv C r g) (h3 : Cm c lv o op) (hm : behindInMarks o r = false) : Ev c lv C (.Compare l [o] [r] pos) (cBin (fun σ a b => (op σ a b).map .bool) f g) :=
  R_cmp pos h1 h2 h3 hm
end
end Mine
end
section
set_option tactic.hygienic false
open PySem PySem.W PyProof.Rows PySem.Calls
namespace Mine
theorem FunFrames.nf {h h' base : Heap} (k : ∀ b o, h.get? b = some o → ∃ o', h'.get? b = some o' ∧ ((∀ vs, o.data ≠ .fields vs) → ∀ vs, o'.data ≠ .fields vs)) : ∀ {l : List Env},
    h.FunFrames base l → h'.FunFrames base l
  | [], _ => trivial
  | env :: r, ⟨hk, ⟨L, o, hf, hn, ho, hd⟩, hr⟩ =>
    let ⟨o', ho', hd'⟩ := k L o ho
    ⟨hk, ⟨L, o', hf, hn, ho', hd' hd⟩, FunFrames.nf k hr⟩
theorem Step.same {fa pr X μ : List Addr} {h h' : Heap} {a : Addr} (s : Heap.SameBut a h h') (m : a ∈ pr ∨ a ∈ μ) (nf : ∀ o, h.get? a = some o → ∃ o', h'.get? a = some o' ∧ ((∀ vs, o.data ≠ .fields vs) → ∀ vs, o'.data ≠ .fields vs)) :
    Step fa pr X μ h X μ h' where
  kp := fun b o e p q _ => (s.2 b (fun z => m.elim (fun m => p (z ▸ m)) fun m => q (z ▸ m))).trans e
  kf := fun b o e p q => ⟨o.slots, (s.2 b (fun z => m.elim (fun m => p (z ▸ m)) fun m => q (z ▸ m))).trans e⟩
  nf := fun b o e => by
    by_cases z : b = a
    · subst z; exact nf o e
    · exact ⟨o, (s.2 b z).trans e, id⟩
  subX := fun _ m => m
  newX := fun _ m => .inl m
  pre := List.prefix_refl _
  newμ := fun _ m => .inl m
theorem Step.new {fa pr X μ : List Addr} {h h' : Heap} {a : Addr} (l : Le h h') (n : h.get? a = none) : Step fa pr X μ h (a :: X) (μ ++ [a]) h' where
  kp := fun b o e _ _ _ => l b o e
  kf := fun b o e _ _ => ⟨o.slots, l b o e⟩
  nf := fun b o e => ⟨o, l b o e, id⟩
  subX := fun _ m => .tail _ m
  newX := fun b m => (List.mem_cons.mp m).elim (fun q => .inr (q ▸ n)) .inl
  pre := List.prefix_append _ _
  newμ := fun b m => (List.mem_append.mp m).elim .inl fun q => .inr (by rw [List.mem_singleton.mp q]; exact n)
section
variable {c : Cx} {fl : Lx} {X X' μ μ' pr : List Addr} {h h' : Heap} {σ σ' : List Cell}
theorem Inv.step (I : Inv c fl X μ h σ) (S : Step fl.fa pr X μ h X' μ' h') (hp : ∀ b ∈ pr, b ∈ X) (own : ∀ a ∈ X', ∃ o, h'.get? a = some o ∧ NT o) (len : μ'.length = σ'.length) (nod : μ'.Nodup) (sub : ∀ a ∈ μ', a ∈ X') (nsy : ∀ a ∈ μ', (a == sysModules) = false)
    (cel : ∀ (i : Nat) (a : Addr) (cl : Cell), μ'[i]? = some a → σ'[i]? = some cl → CR c X' h' μ' a cl)
    (lk : ∀ p ∈ fl.lk, h'.get? p.1 = some p.2 ∧ ∃ (j : Nat) (cl : Cell), μ'[j]? = some p.1 ∧ σ'[j]? = some (.lock cl))
    (lkc : ∀ (j : Nat) (cl : Cell) (a : Addr), σ'[j]? = some (.lock cl) → μ'[j]? = some a → ∃ o, (a, o) ∈ fl.lk) : Inv c fl X' μ' h' σ' where
  base := fun b o e => (S.mv hp I.sub I.faX).kp b o (I.base b o e).1 (I.base b o e).2
  own := own
  len := len
  nod := nod
  sub := sub
  nsy := nsy
  cel := cel
  fr := FunFrames.nf S.nf I.fr
  faX := fun b m => S.subX b (I.faX b m)
  faμ := fun b m q => (S.newμ b q).elim (I.faμ b m) fun z => by obtain ⟨o, e, _⟩ := I.own b (I.faX b m); rw [z] at e; exact noS e
  lk := lk
  lkc := lkc
theorem idx_ne {l : List Addr} (n : l.Nodup) {i j : Nat} {a b : Addr} (e : l[i]? = some a) (q : l[j]? = some b) (ij : i ≠ j) : a ≠ b := fun z => ij (by
  subst z
  exact (List.getElem?_inj (List.getElem?_eq_some_iff.mp e).1 n).mp (e.trans q.symm))
theorem Inv.ex (I : Inv c fl X μ h σ) {a : Addr} (m : a ∈ X) : ∃ o, h.get? a = some o := let ⟨o, e, _⟩ := I.own a m; ⟨o, e⟩
theorem Inv.same {a : Addr} (I : Inv c fl X μ h σ) (S : Step fl.fa pr X μ h X μ h') (hp : ∀ b ∈ pr, b ∈ X) (s : Heap.SameBut a h h') (n : a ∉ μ) (ex : ∃ o, h'.get? a = some o ∧ NT o) : Inv c fl X μ h' σ :=
  I.step S hp (fun b m => by
    by_cases z : b = a
    · exact z ▸ ex
    · obtain ⟨o, e, nt⟩ := I.own b m; exact ⟨o, (s.2 b z).trans e, nt⟩) I.len I.nod I.sub I.nsy
    (fun i b cl e q => (I.cel i b cl e q).mv (S.mv hp I.sub I.faX) fun o g => (s.2 b (fun z => n (z ▸ List.mem_of_getElem? e))).trans g)
    (fun p m => by
      obtain ⟨e, j, cl, e1, e2⟩ := I.lk p m
      exact ⟨(s.2 _ (fun z => n (z ▸ List.mem_of_getElem? e1))).trans e, j, cl, e1, e2⟩) I.lkc
theorem Inv.upd {a : Addr} {i : Nat} {cl : Cell} (I : Inv c fl X μ h σ) (S : Step fl.fa pr X μ h X μ h') (hp : ∀ b ∈ pr, b ∈ X) (s : Heap.SameBut a h h') (ha : μ[i]? = some a) (nl : ∀ cl', σ[i]? ≠ some (.lock cl')) (ncl : ∀ cl', cl ≠ .lock cl') (ex : ∃ o, h'.get? a = some o ∧ NT o) (r : CR c X h' μ a cl) :
    Inv c fl X μ h' (σ.set i cl) :=
  I.step S hp (fun b m => by
    by_cases z : b = a
    · exact z ▸ ex
    · obtain ⟨o, e, nt⟩ := I.own b m; exact ⟨o, (s.2 b z).trans e, nt⟩) (by rw [List.length_set]; exact I.len) I.nod I.sub I.nsy
    (fun j b cl' e q => by
      by_cases ij : i = j
      · subst ij
        rw [ha] at e; obtain rfl := soJ e
        rw [List.getElem?_set_self' ] at q
        cases hq : σ[i]? with
        | none => rw [hq] at q; exact noS q
        | some z => rw [hq] at q; obtain rfl := soJ q; exact r
      · rw [List.getElem?_set_ne ij] at q
        exact (I.cel j b cl' e q).mv (S.mv hp I.sub I.faX) fun o g => (s.2 b (Ne.symm (idx_ne I.nod ha e ij))).trans g)
    (fun p m => by
      obtain ⟨e, j, cl', e1, e2⟩ := I.lk p m
      have ij : i ≠ j := fun z => nl cl' (z ▸ e2)
      exact ⟨(s.2 _ (Ne.symm (idx_ne I.nod ha e1 ij))).trans e, j, cl', e1, by rw [List.getElem?_set_ne ij]; exact e2⟩)
    fun j cl' b e1 e2 => by
      by_cases ij : i = j
      · subst ij
        rw [List.getElem?_set_self'] at e1
        cases hq : σ[i]? with
        | none => rw [hq] at e1; exact noS e1
        | some z => rw [hq] at e1; exact absurd (Option.some.inj e1) (ncl cl')
      · rw [List.getElem?_set_ne ij] at e1; exact I.lkc j cl' b e1 e2
theorem Inv.new {a : Addr} {cl : Cell} (I : Inv c fl X μ h σ) (l : Le h h') (n : h.get? a = none) (ex : ∃ o, h'.get? a = some o ∧ NT o) (ncl : ∀ cl', cl ≠ .lock cl') (ns : (a == sysModules) = false) (r : CR c (a :: X) h' (μ ++ [a]) a cl) : Inv c fl (a :: X) (μ ++ [a]) h' (σ ++ [cl]) := by
  have S : Step fl.fa [] X μ h (a :: X) (μ ++ [a]) h' := .new l n
  have nX : a ∉ X := fun m => by obtain ⟨o, e⟩ := I.ex m; rw [n] at e; exact noS e
  have nμ : a ∉ μ := fun m => nX (I.sub a m)
  refine I.step S (fun _ m => nomatch m) (fun b m => ?_) (by simp [I.len]) ?_ (fun b m => ?_) (fun b m => (List.mem_append.mp m).elim (I.nsy b) fun q => by rw [List.mem_singleton.mp q]; exact ns) (fun j b cl' e q => ?_) (fun p m => ?_) fun j cl' b e1 e2 => ?_
  · rcases List.mem_cons.mp m with rfl | m
    · exact ex
    · obtain ⟨o, e, nt⟩ := I.own b m; exact ⟨o, l b o e, nt⟩
  · exact List.nodup_append.mpr ⟨I.nod, by simp, fun x hx y hy => by rw [List.mem_singleton.mp hy]; rintro rfl; exact nμ hx⟩
  · rcases List.mem_append.mp m with m | m
    · exact .tail _ (I.sub b m)
    · rw [List.mem_singleton.mp m]; exact .head _
  · by_cases hj : j < μ.length
    · rw [List.getElem?_append_left hj] at e
      rw [List.getElem?_append_left (I.len ▸ hj)] at q
      exact (I.cel j b cl' e q).mv (S.mv (fun _ m => nomatch m) I.sub I.faX) fun o g => l b o g
    · have hj' : j = μ.length := by
        have := (List.getElem?_eq_some_iff.mp e).1
        rw [List.length_append, List.length_singleton] at this
        lia
      subst hj'
      rw [List.getElem?_append_right (Nat.le_refl _)] at e
      rw [I.len, List.getElem?_append_right (Nat.le_refl _)] at q
      simp at e q
      subst e; subst q; exact r
  · obtain ⟨e, j, cl', e1, e2⟩ := I.lk p m
    exact ⟨l _ _ e, j, cl', pre_get (List.prefix_append _ _) e1, pre_get (List.prefix_append _ _) e2⟩
  · by_cases hj : j < σ.length
    · rw [List.getElem?_append_left hj] at e1
      rw [List.getElem?_append_left (I.len ▸ hj)] at e2
      exact I.lkc j cl' b e1 e2
    · rw [List.getElem?_append_right (Nat.not_lt.mp hj)] at e1
      cases hk : j - σ.length with
      | zero => rw [hk] at e1; exact absurd (Option.some.inj e1) (ncl cl')
      | succ k => rw [hk] at e1; exact noS e1
theorem Inv.hides (I : Inv c fl X μ h σ) {ws : List Addr} (l : Le h h') (n : ∀ a ∈ ws, h.get? a = none ∧ ∃ o, h'.get? a = some o ∧ NT o) : Step fl.fa pr X μ h (ws ++ X) μ h' ∧ Inv c fl (ws ++ X) μ h' σ := by
  have S : ∀ pr, Step fl.fa pr X μ h (ws ++ X) μ h' := fun pr =>
    { kp := fun b o e _ _ _ => l b o e
      kf := fun b o e _ _ => ⟨o.slots, l b o e⟩
      nf := fun b o e => ⟨o, l b o e, id⟩
      subX := fun _ m => List.mem_append_right _ m
      newX := fun b m => (List.mem_append.mp m).elim (fun q => .inr (n b q).1) .inl
      pre := List.prefix_refl _
      newμ := fun b m => .inl m }
  exact ⟨S pr, I.step (S []) (fun _ m => nomatch m) (fun b m => by
    rcases List.mem_append.mp m with m | m
    · exact (n b m).2
    · obtain ⟨o, e, nt⟩ := I.own b m; exact ⟨o, l b o e, nt⟩) I.len I.nod (fun b m => List.mem_append_right _ (I.sub b m)) I.nsy
    (fun j b cl' e q => (I.cel j b cl' e q).mv ((S []).mv (fun _ m => nomatch m) I.sub I.faX) fun o g => l b o g)
    (fun p m => ⟨l _ _ (I.lk p m).1, (I.lk p m).2⟩) I.lkc⟩
theorem Inv.lock {j : Nat} {a : Addr} {o : Obj} {cl : Cell} (I : Inv c fl X μ h σ) (ha : μ[j]? = some a) (ho : h.get? a = some o) (hc : σ[j]? = some cl) (nl : ∀ cl', cl ≠ .lock cl') :
    Inv c { fl with lk := (a, o) :: fl.lk } X μ h (σ.set j (.lock cl)) where
  base := I.base
  own := I.own
  len := by rw [List.length_set]; exact I.len
  nod := I.nod
  sub := I.sub
  nsy := I.nsy
  cel := fun i b cl' e q => by
    by_cases ij : j = i
    · subst ij
      rw [ha] at e; obtain rfl := soI e
      rw [List.getElem?_set_self', hc] at q
      obtain rfl := soI q
      exact I.cel j a cl ha hc
    · rw [List.getElem?_set_ne ij] at q
      exact I.cel i b cl' e q
  fr := I.fr
  faX := I.faX
  faμ := I.faμ
  lk := fun p m => by
    rcases List.mem_cons.mp m with rfl | m
    · exact ⟨ho, j, cl, ha, by rw [List.getElem?_set_self', hc]; rfl⟩
    · obtain ⟨e, i, cl', e1, e2⟩ := I.lk p m
      have ij : j ≠ i := fun z => by subst z; rw [hc] at e2; obtain rfl := soI e2; exact nl cl' rfl
      exact ⟨e, i, cl', e1, by rw [List.getElem?_set_ne ij]; exact e2⟩
  lkc := fun i cl' b e1 e2 => by
    by_cases ij : j = i
    · subst ij
      rw [ha] at e2; obtain rfl := soI e2
      exact ⟨o, .head _⟩
    · rw [List.getElem?_set_ne ij] at e1
      obtain ⟨o', m⟩ := I.lkc i cl' b e1 e2
      exact ⟨o', .tail _ m⟩
theorem Inv.unlock {j : Nat} {a : Addr} {o : Obj} {cl : Cell} {lk : List (Addr × Obj)} (I : Inv c { fl with lk := (a, o) :: fl.lk } X μ h σ) (ha : μ[j]? = some a) (hc : σ[j]? = some (.lock cl)) (nl : ∀ p ∈ fl.lk, p.1 ≠ a) (ncl : ∀ cl', cl ≠ .lock cl') :
    Inv c fl X μ h (σ.set j cl) where
  base := I.base
  own := I.own
  len := by rw [List.length_set]; exact I.len
  nod := I.nod
  sub := I.sub
  nsy := I.nsy
  cel := fun i b cl' e q => by
    by_cases ij : j = i
    · subst ij
      rw [ha] at e; obtain rfl := soI e
      rw [List.getElem?_set_self', hc] at q
      obtain rfl := soI q
      exact (show CR c X h μ a cl from I.cel j a (.lock cl) ha hc)
    · rw [List.getElem?_set_ne ij] at q
      exact I.cel i b cl' e q
  fr := I.fr
  faX := I.faX
  faμ := I.faμ
  lk := fun p m => by
    obtain ⟨e, i, cl', e1, e2⟩ := I.lk p (.tail _ m)
    have ij : j ≠ i := fun z => by subst z; rw [ha] at e1; obtain rfl := soI e1; exact nl p m rfl
    exact ⟨e, i, cl', e1, by rw [List.getElem?_set_ne ij]; exact e2⟩
  lkc := fun i cl' b e1 e2 => by
    by_cases ij : j = i
    · subst ij
      rw [List.getElem?_set_self', hc] at e1
      exact absurd (Option.some.inj e1) (ncl cl')
    · rw [List.getElem?_set_ne ij] at e1
      obtain ⟨o', m⟩ := I.lkc i cl' b e1 e2
      rcases List.mem_cons.mp m with q | m
      · obtain ⟨rfl, rfl⟩ := prS q; exact absurd rfl (idx_ne I.nod ha e2 ij)
      · exact ⟨o', m⟩
theorem Inv.lkne {j : Nat} {a : Addr} {cl : Cell} (I : Inv c fl X μ h σ) (ha : μ[j]? = some a) (hc : σ[j]? = some cl) (nl : ∀ cl', cl ≠ .lock cl') : ∀ p ∈ fl.lk, p.1 ≠ a := fun p m z => by
  obtain ⟨e, i, cl', e1, e2⟩ := I.lk p m
  have ij : i = j := by
    apply Classical.byContradiction
    intro ne
    exact idx_ne I.nod e1 ha ne z
  subst ij
  rw [hc] at e2; obtain rfl := soJ e2; exact nl cl' rfl
theorem Inv.at {i : Nat} {a : Addr} (I : Inv c fl X μ h σ) (e : μ[i]? = some a) : ∃ cl, σ[i]? = some cl ∧ CR c X h μ a cl := by
  have hi : i < σ.length := by rw [← I.len]; exact (List.getElem?_eq_some_iff.mp e).1
  exact ⟨σ[i], List.getElem?_eq_getElem hi, I.cel i _ _ e (List.getElem?_eq_getElem hi)⟩
end
inductive Fl where
  | next | brk | cont
  | ret (d : PV)
noncomputable def FlR (c : Cx) (X : List Addr) (h : Heap) (μ : List Addr) : Fl → Flow → Prop
  | .next, .next => True
  | .brk, .brk => True
  | .cont, .cont => True
  | .ret d, .ret v => VR c X h μ d v
  | _, _ => False
noncomputable abbrev Cs := St → Option (Fl × St)
noncomputable def Tp (fl : Lx) (env : Env) : Prop := fl.envs.head? = some env
noncomputable def Xs (c : Cx) (lv : Lv) (C : SC) (t : Env → Sem Flow) (f : Cs) : Prop :=
  ∀ A fl env X μ (s : Shared) st r st' (Q : Flow → Shared → Prop) (E : Value → Shared → Prop), Tp fl env → Calm lv A fl → Inv c fl X μ s.heap st.σ → FrS c C env X μ s.heap st.ρ → f st = some (r, st') →
    (∀ w h' tk X' μ', Step fl.fa (priv env) X μ s.heap X' μ' h' → Inv c fl X' μ' h' st'.σ → FrS c C env X' μ' h' st'.ρ → FlR c X' h' μ' r w → Q w { s with heap := h', toks := tk }) →
    wpAny c.M A (t env) Q E s
noncomputable def cSkip : Cs := fun st => some (.next, st)
noncomputable def cSeq (f g : Cs) : Cs := fun st => (f st).bind fun (r, s1) => match r with
  | .next => g s1
  | r => some (r, s1)
noncomputable def St.put (st : St) (i : Nat) (d : PV) : Option St := if i < st.ρ.length then some { st with ρ := st.ρ.set i (some d) } else none
noncomputable def cSet (i : Nat) (f : Co) : Cs := fun st => (f st).bind fun (d, σ1) => (St.put ⟨st.ρ, σ1⟩ i d).map fun s2 => (.next, s2)
noncomputable def cIf (t : Ct) (f g : Cs) : Cs := fun st => (t st).bind fun (b, σ1) => if b then f ⟨st.ρ, σ1⟩ else g ⟨st.ρ, σ1⟩
noncomputable def cRet (f : Co) : Cs := fun st => (f st).map fun (d, σ1) => (.ret d, ⟨st.ρ, σ1⟩)
noncomputable def cDo (f : Co) : Cs := fun st => (f st).map fun (_, σ1) => (.next, ⟨st.ρ, σ1⟩)
noncomputable def cFl (r : Fl) : Cs := fun st => some (r, st)
section
variable {c : Cx} {lv : Lv} {C : SC}
theorem S_nil : Xs c lv C (execs []) cSkip := by
  intro A fl env X μ s st r st' Q E tp ca I F e q
  obtain ⟨rfl, rfl⟩ := prI e
  exact wpAny_execs_nil (q .next s.heap s.toks X μ (.le (.refl _)) I F trivial)
theorem S_cons {st₀ : Stmt} {rest : List Stmt} {f g : Cs} (h1 : Xs c lv C (exec st₀) f) (h2 : Xs c lv C (execs rest) g) : Xs c lv C (execs (st₀ :: rest)) (cSeq f g) := by
  intro A fl env X μ s st r st' Q E tp ca I F e q
  obtain ⟨⟨r1, s1⟩, e1, e⟩ := bind_some e
  refine wpAny_execs_cons (h1 A fl env X μ s st r1 s1 _ _ tp ca I F e1 fun w h' tk X' μ' S1 I1 F1 rr => ?_)
  cases r1 <;> cases w <;> first | exact rr.elim | skip
  · exact h2 A fl env X' μ' _ s1 r st' _ _ tp ca I1 F1 e fun w h'' tk' X'' μ'' S2 I2 F2 rr => q w h'' tk' X'' μ'' (S1.trans S2) I2 F2 rr
  all_goals (obtain ⟨rfl, rfl⟩ := prI e; exact q _ h' tk X' μ' S1 I1 F1 rr)
theorem S_one {st₀ : Stmt} {f : Cs} (h1 : Xs c lv C (exec st₀) f) : Xs c lv C (execs [st₀]) f := by
  intro A fl env X μ s st r st' Q E tp ca I F e q
  refine wpAny_execs_cons (h1 A fl env X μ s st r st' _ _ tp ca I F e fun w h' tk X' μ' S1 I1 F1 rr => ?_)
  cases w <;> first | exact wpAny_execs_nil (q _ h' tk X' μ' S1 I1 F1 rr) | exact q _ h' tk X' μ' S1 I1 F1 rr
theorem get_set_self {α : Type} {l : List α} {i : Nat} {a : α} (h : i < l.length) : (l.set i a)[i]? = some a := by simp [h]
theorem store_slot {A : Around} {fl env X μ} {s : Shared} {st st' : St} {x : Str} {i : Nat} {d : PV} {v : Value} {Q : Unit → Shared → Prop} {E} (I : Inv c fl X μ s.heap st.σ) (F : FrS c C env X μ s.heap st.ρ) (nd : C.slots.Nodup) (hs : C.slots[i]? = some x)
    (hk : C.names.lookup x = some .local ∨ C.names.lookup x = some .cell) (r : VR c X s.heap μ d v) (e : st.put i d = some st')
    (q : ∀ h' tk b, b ∈ priv env → (b = env.locals ∨ env.cells.lookup x = some b) → (∀ pr, b ∈ pr → Step fl.fa pr X μ s.heap X μ h') → Inv c fl X μ h' st'.σ → FrS c C env X μ h' st'.ρ → Q () { s with heap := h', toks := tk }) : wpAny c.M A (storeName env x v) Q E s := by
  unfold St.put at e
  split at e
  · rename_i hi
    obtain rfl := soJ e
    have other : ∀ (j : Nat) y, C.slots[j]? = some y → j ≠ i → y ≠ x := fun j y hy ji z => by
      subst z
      exact ji ((List.getElem?_inj (List.getElem?_eq_some_iff.mp hy).1 nd).mp (hy.trans hs.symm))
    rcases hk with hk | hk
    · obtain ⟨m, n, rr⟩ := F.loc
      refine wpAny_storeName_local ((F.kindOf x).trans hk) n (fun h' hn hsb => ?_) (by rw [F.kind]; rfl)
      have S' : ∀ pr, env.locals ∈ pr → Step fl.fa pr X μ s.heap X μ h' := fun pr m => .same hsb (.inl m) fun o _ => by
        obtain ⟨o', es, ep, e', d', _⟩ := hn
        exact ⟨o', e', fun _ vs z => by rw [d'] at z; cases z⟩
      have S := S' (priv env) (.head _)
      have I' : Inv c fl X μ h' st.σ := I.same S (privX F) hsb (F.pX _ (.head _)).2 (let ⟨o', _, _, e', d', _⟩ := hn; ⟨o', e', fun xs n z => by rw [d'] at z; cases z⟩)
      have M := S.mv (privX F) I.sub I.faX
      refine q h' _ env.locals (.head _) (.inl rfl) S' I' ⟨F.kind, F.names, F.glob, F.blt, by rw [List.length_set]; exact F.len, F.pX, F.nod, ⟨_, hn, fun j y d' hy hl hd => ?_⟩, fun y hy => ?_⟩
      · by_cases ji : j = i
        · subst ji
          rw [hs] at hy; obtain rfl := soJ hy
          rw [get_set_self hi] at hd
          obtain rfl := soJ hd
          exact ⟨v, by simp, r.mv M⟩
        · rw [List.getElem?_set_ne (Ne.symm ji)] at hd
          obtain ⟨v', a, b⟩ := rr j y d' hy hl hd
          exact ⟨v', by simp [other j y hy ji, a], b.mv M⟩
      · obtain ⟨a, o, cv, e1, g, dd, k⟩ := F.cel y hy
        have ne : a ≠ env.locals := fun z => by
          have := F.nod
          rw [priv, List.nodup_cons] at this
          exact this.1 (z ▸ lookup_mem e1)
        refine ⟨a, o, cv, e1, (hsb.2 a ne).trans g, dd, fun j d' hj hd => ?_⟩
        have ji : j ≠ i := fun z => by
          subst z
          rw [hs] at hj; obtain rfl := soJ hj
          rcases hy with hy | hy <;> rw [hk] at hy <;> cases hy
        rw [List.getElem?_set_ne (Ne.symm ji)] at hd
        obtain ⟨v', a, b⟩ := k j d' hj hd
        exact ⟨v', a, b.mv M⟩
    · obtain ⟨a, o, cv, e1, g, dd, k⟩ := F.cel x (.inl hk)
      refine wpAny_storeName_cell F.kind ((F.kindOf x).trans hk) e1 ⟨o, g, dd⟩ (fun h' hc hsb => ?_)
      obtain ⟨o', ho', hd'⟩ := hc
      have hap : a ∈ priv env := .tail _ (lookup_mem e1)
      have S' : ∀ pr, a ∈ pr → Step fl.fa pr X μ s.heap X μ h' := fun pr m => .same hsb (.inl m) fun _ _ => ⟨o', ho', fun _ vs z => by rw [hd'] at z; cases z⟩
      have S := S' (priv env) hap
      have I' : Inv c fl X μ h' st.σ := I.same S (privX F) hsb (F.pX _ hap).2 ⟨o', ho', fun xs n z => by rw [hd'] at z; cases z⟩
      have M := S.mv (privX F) I.sub I.faX
      have nl : env.locals ≠ a := fun z => by
        have := F.nod
        rw [priv, List.nodup_cons] at this
        exact this.1 (z ▸ lookup_mem e1)
      refine q h' _ a hap (.inr e1) S' I' ⟨F.kind, F.names, F.glob, F.blt, by rw [List.length_set]; exact F.len, F.pX, F.nod, ?_, fun y hy => ?_⟩
      · obtain ⟨m, n, rr⟩ := F.loc
        refine ⟨m, n.sameBut hsb nl, fun j y d' hy hl hd => ?_⟩
        have ji : j ≠ i := fun z => by
          subst z
          rw [hs] at hy; obtain rfl := soJ hy
          rw [hk] at hl; cases hl
        rw [List.getElem?_set_ne (Ne.symm ji)] at hd
        obtain ⟨v', a, b⟩ := rr j y d' hy hl hd
        exact ⟨v', a, b.mv M⟩
      · by_cases yx : y = x
        · subst yx
          refine ⟨a, o', some v, e1, ho', hd', fun j d' hj hd => ⟨v, rfl, ?_⟩⟩
          have ji : j = i := (List.getElem?_inj (List.getElem?_eq_some_iff.mp hj).1 nd).mp (hj.trans hs.symm)
          subst ji
          rw [get_set_self hi] at hd
          obtain rfl := soJ hd
          exact r.mv M
        · obtain ⟨a', o'', cv', e1', g', dd', k'⟩ := F.cel y hy
          have ne : a' ≠ a := fun z => by
            subst z
            have hn : (env.cells.map (·.2)).Nodup := (List.nodup_cons.mp F.nod).2
            have key : ∀ {l : List (Str × Addr)} {y x : Str} {a : Addr}, (l.map (·.2)).Nodup → y ≠ x → l.lookup y = some a → l.lookup x = some a → False := by
              intro l
              induction l with
              | nil => intro y x a _ _ e _; simp at e
              | cons p r ih =>
                obtain ⟨n, b⟩ := p
                intro y x a nd yx ey ex
                rw [List.map_cons, List.nodup_cons] at nd
                rw [List.lookup_cons] at ey ex
                cases h1 : y == n with
                | true =>
                  rw [h1] at ey
                  obtain rfl := soJ ey
                  cases h2 : x == n with
                  | true => exact yx ((beq_iff_eq.mp h1).trans (beq_iff_eq.mp h2).symm)
                  | false => rw [h2] at ex; exact nd.1 (lookup_mem ex)
                | false =>
                  rw [h1] at ey
                  cases h2 : x == n with
                  | true => rw [h2] at ex; obtain rfl := soJ ex; exact nd.1 (lookup_mem ey)
                  | false => rw [h2] at ex; exact ih nd.2 yx ey ex
            exact key hn yx e1' e1
          refine ⟨a', o'', cv', e1', (hsb.2 a' ne).trans g', dd', fun j d' hj hd => ?_⟩
          have ji : j ≠ i := fun z => by subst z; rw [hs] at hj; obtain rfl := soJ hj; exact yx rfl
          rw [List.getElem?_set_ne (Ne.symm ji)] at hd
          obtain ⟨v', a, b⟩ := k' j d' hj hd
          exact ⟨v', a, b.mv M⟩
  · exact noS e
noncomputable def storeKind (C : SC) (i : Nat) (x : Str) : Bool := C.slots[i]? == some x && decide C.slots.Nodup && (C.names.lookup x == some .local || C.names.lookup x == some .cell)
theorem storeKind_of {i : Nat} {x : Str} (h : storeKind C i x = true) : C.slots[i]? = some x ∧ C.slots.Nodup ∧ (C.names.lookup x = some .local ∨ C.names.lookup x = some .cell) := by
  simp only [storeKind, Bool.and_eq_true, Bool.or_eq_true, beq_iff_eq, decide_eq_true_eq] at h
  exact ⟨h.1.1, h.1.2, h.2⟩
theorem S_set {x : Str} {i : Nat} {value : Expr} {f : Co} (px pos) (h : Ev c lv C value f) (k : storeKind C i x = true) (hs : ∀ env, swapsWith value (some (.Name x px)) pos.line env = pure false) : Xs c lv C (exec (.Assign [.Name x px] value pos)) (cSet i f) := by
  intro A fl env X μ s st r st' Q E tp ca I F e q
  obtain ⟨⟨d1, σ1⟩, e1, e⟩ := bind_some e
  obtain ⟨s2, e2, e⟩ := map_some e
  obtain ⟨rfl, rfl⟩ := prS e
  obtain ⟨hs1, hn, hk⟩ := storeKind_of k
  refine wpAny_Assign_Name (h A fl env X μ s st d1 σ1 _ _ ca I F e1 fun v h' tk X' μ' S1 I1 r1 => ?_) (hs env)
  exact store_slot (st := ⟨st.ρ, σ1⟩) I1 (F.ex I S1) hn hs1 hk r1 e2 fun h'' tk' b m _ S2 I2 F2 => q .next h'' tk' X' μ' (S1.wk.trans (S2 _ m)) I2 F2 trivial
theorem S_if {t : Expr} {b o : List Stmt} {g : Ct} {f1 f2 : Cs} (pos) (h : Et c lv C t g) (h1 : Xs c lv C (execs b) f1) (h2 : Xs c lv C (execs o) f2) : Xs c lv C (exec (.If t b o pos)) (cIf g f1 f2) := by
  intro A fl env X μ s st r st' Q E tp ca I F e q
  obtain ⟨⟨b1, σ1⟩, e1, e⟩ := bind_some e
  refine wpAny_If (h A fl env X μ s st b1 σ1 _ _ ca I F e1 fun h' tk X' μ' S1 I1 => ?_)
  cases b1 with
  | true => exact h1 A fl env X' μ' _ ⟨st.ρ, σ1⟩ r st' _ _ tp ca I1 (F.ex I S1) e fun w h'' tk' X'' μ'' S2 I2 F2 rr => q w h'' tk' X'' μ'' (S1.wk.trans S2) I2 F2 rr
  | false => exact h2 A fl env X' μ' _ ⟨st.ρ, σ1⟩ r st' _ _ tp ca I1 (F.ex I S1) e fun w h'' tk' X'' μ'' S2 I2 F2 rr => q w h'' tk' X'' μ'' (S1.wk.trans S2) I2 F2 rr
theorem S_ret {e : Expr} {f : Co} (pos) (h : Ev c lv C e f) : Xs c lv C (exec (.Return (some e) pos)) (cRet f) := by
  intro A fl env X μ s st r st' Q E tp ca I F e q
  obtain ⟨⟨d1, σ1⟩, e1, e⟩ := map_some e
  obtain ⟨rfl, rfl⟩ := prS e
  exact wpAny_Return_some (h A fl env X μ s st d1 σ1 _ _ ca I F e1 fun v h' tk X' μ' S1 I1 r1 => q _ h' tk X' μ' S1.wk I1 (F.ex I S1) r1)
theorem S_do {e : Expr} {f : Co} (pos) (h : Ev c lv C e f) (hs : ∀ env, swapsWith e none pos.line env = pure false) : Xs c lv C (exec (.Expr e pos)) (cDo f) := by
  intro A fl env X μ s st r st' Q E tp ca I F e q
  obtain ⟨⟨d1, σ1⟩, e1, e⟩ := map_some e
  obtain ⟨rfl, rfl⟩ := prS e
  exact wpAny_Expr_any (h A fl env X μ s st d1 σ1 _ _ ca I F e1 fun v h' tk X' μ' S1 I1 r1 => q _ h' tk X' μ' S1.wk I1 (F.ex I S1) trivial) (by simp [interactive, F.kind]) (hs env)
theorem S_brk (pos) : Xs c lv C (exec (.Break pos)) (cFl .brk) := by
  intro A fl env X μ s st r st' Q E tp ca I F e q
  obtain ⟨rfl, rfl⟩ := prI e
  exact wpAny_Break (q .brk s.heap s.toks X μ (.le (.refl _)) I F trivial)
theorem S_cont (pos) : Xs c lv C (exec (.Continue pos)) (cFl .cont) := by
  intro A fl env X μ s st r st' Q E tp ca I F e q
  obtain ⟨rfl, rfl⟩ := prI e
  exact wpAny_Continue (q .cont s.heap s.toks X μ (.le (.refl _)) I F trivial)
noncomputable def cAssert (t : Ct) : Cs := fun st => (t st).bind fun (b, σ1) => if b then some (.next, ⟨st.ρ, σ1⟩) else none
theorem S_assert {e : Expr} {msg : Option Expr} {f : Ct} (pos) (h : Et c lv C e f) : Xs c lv C (exec (.Assert e msg pos)) (cAssert f) := by
  intro A fl env X μ s st r st' Q E tp ca I F e q
  obtain ⟨⟨b1, σ1⟩, e1, e⟩ := bind_some e
  cases b1 with
  | false => exact noS e
  | true =>
    obtain ⟨rfl, rfl⟩ := prI e
    show wpAny c.M A (do standAt pos; if ← isTrue _ env (eval _ env) then pure .next else _) Q E s
    refine wpAny_bind (wpAny_standAt (wpAny_bind (h A fl env X μ s st true σ1 _ _ ca I F e1 fun h' tk X' μ' S1 I1 => ?_)))
    exact wpAny_pure (q .next h' tk X' μ' S1.wk I1 (F.ex I S1) trivial)
end
end Mine
end
section
set_option tactic.hygienic false
open PySem PySem.W PyProof.Rows PySem.Calls
namespace Mine
noncomputable def ItOk (c : Cx) (lv : Lv) (target : Expr) (itm : List Cell → PV → Option (List PV)) : Prop :=
  ∀ A fl X μ (s : Shared) σ v d ds (Q : Value → Shared → Prop) (E : Value → Shared → Prop), Calm lv A fl → Inv c fl X μ s.heap σ → VR c X s.heap μ d v → itm σ d = some ds →
    (∀ I h' tk fp wr P Md StP, Le s.heap h' → (∀ b ∈ wr, s.heap.get? b = none) → (∀ i h, StP i h → ∀ b ∈ wr, ∃ o, h.get? b = some o ∧ NT o) → KTurns c.prog c.w A target I fp wr ds.length P Md StP → StP 0 h' →
      (∀ b ∈ fp, b ∈ wr ∨ ∃ o, s.heap.get? b = some o ∧ (b ∉ X ∨ (b, o) ∈ fl.lk)) →
      (∀ i u h'' X'' μ'' σ'', i < ds.length → P i u h'' → Mv X s.heap μ X'' h'' μ'' → Inv c fl X'' μ'' h'' σ'' → ∃ d, ds[i]? = some d ∧ VR c X'' h'' μ'' d u) → Q (.ref I) { s with heap := h', toks := tk }) →
    wpAny c.M A (pyIter v) Q E s
noncomputable abbrev Asg := PV → St → Option St
noncomputable def As (c : Cx) (lv : Lv) (C : SC) (target : Expr) (f : Asg) : Prop :=
  ∀ A fl env X μ (s : Shared) st d v st' (Q : Unit → Shared → Prop) (E : Value → Shared → Prop), Calm lv A fl → Inv c fl X μ s.heap st.σ → FrS c C env X μ s.heap st.ρ → VR c X s.heap μ d v → f d st = some st' →
    (∀ h' tk X' μ', Step fl.fa (priv env) X μ s.heap X' μ' h' → Inv c fl X' μ' h' st'.σ → FrS c C env X' μ' h' st'.ρ → Q () { s with heap := h', toks := tk }) →
    wpAny c.M A (assign target env v) Q E s
noncomputable def forGo (asg : Asg) (body : Cs) : List PV → St → Option (Option Fl × St)
  | [], st => some (none, st)
  | d :: ds, st => (asg d st).bind fun s1 => (body s1).bind fun (r, s2) => match r with
    | .next => forGo asg body ds s2
    | .cont => forGo asg body ds s2
    | .brk => some (some .next, s2)
    | .ret d => some (some (.ret d), s2)
noncomputable def Cell.isLock : Cell → Bool
  | .lock _ => true
  | _ => false
noncomputable def cellOfV : PV → Option Nat
  | .ref j => some j
  | .view j => some j
  | _ => none
noncomputable def lockD (d : PV) (st : St) : Option St := match cellOfV d with
  | some j => match st.σ[j]? with
    | some cl => if cl.isLock then none else some { st with σ := st.σ.set j (.lock cl) }
    | none => none
  | none => some st
noncomputable def unlockD (d : PV) (st : St) : Option St := match cellOfV d with
  | some j => match st.σ[j]? with
    | some (.lock cl) => if cl.isLock then none else some { st with σ := st.σ.set j cl }
    | _ => none
  | none => some st
noncomputable def cFor (itm : List Cell → PV → Option (List PV)) (fi : Co) (asg : Asg) (body orelse : Cs) : Cs := fun st =>
  (fi st).bind fun (d, σ1) => (lockD d ⟨st.ρ, σ1⟩).bind fun s2 => (itm s2.σ d).bind fun ds => (forGo asg body ds s2).bind fun (r, s3) => (unlockD d s3).bind fun s4 => match r with
    | none => orelse s4
    | some r => some (r, s4)
theorem isLock_of {cl : Cell} (h : cl.isLock = false) : ∀ cl', cl ≠ .lock cl' := fun cl' z => by subst z; exact noT h
section
variable {c : Cx} {lv : Lv} {C : SC}
set_option tactic.hygienic true in
theorem lock_use {fl : Lx} {X μ : List Addr} {h : Heap} {st st' : St} {d : PV} {v : Value} (I : Inv c fl X μ h st.σ) (r : VR c X h μ d v) (e : lockD d st = some st') :
    st'.ρ = st.ρ ∧ ∃ fl', fl'.envs = fl.envs ∧ Inv c fl' X μ h st'.σ ∧ ∀ X' μ' h' st2 st3, μ <+: μ' → Inv c fl' X' μ' h' st2.σ → unlockD d st2 = some st3 → st3.ρ = st2.ρ ∧ Inv c fl X' μ' h' st3.σ := by
  unfold lockD at e
  cases hd : cellOfV d with
  | some j =>
    rw [hd] at e
    dsimp only at e
    have ha : ∃ a, μ[j]? = some a := by
      cases d <;> first | (exact noS hd; done) | skip
      · obtain rfl := soJ hd; cases r with | ref ha => exact ⟨_, ha⟩
      · obtain rfl := soJ hd; cases r with | view ha _ _ => exact ⟨_, ha⟩
    obtain ⟨a, ha⟩ := ha
    obtain ⟨cl, hc, cr⟩ := I.at ha
    rw [hc] at e
    dsimp only at e
    split at e
    · exact noS e
    · rename_i hl
      obtain rfl := soJ e
      have nl := isLock_of (by simpa using hl)
      obtain ⟨o, ho⟩ := I.ex (I.sub a (List.mem_of_getElem? ha))
      refine ⟨rfl, { fl with lk := (a, o) :: fl.lk }, rfl, I.lock ha ho hc nl, fun X' μ' h' st2 st3 p I2 e2 => ?_⟩
      unfold unlockD at e2
      rw [hd] at e2
      dsimp only at e2
      split at e2
      · rename_i cl2 hc2
        split at e2
        · exact noS e2
        · rename_i hl2
          obtain rfl := soJ e2
          exact ⟨rfl, I2.unlock (lk := fl.lk) (pre_get p ha) hc2 (I.lkne ha hc nl) (isLock_of (by simpa using hl2))⟩
      · exact noS e2
  | none =>
    rw [hd] at e
    obtain rfl := soJ e
    refine ⟨rfl, fl, rfl, I, fun X' μ' h' st2 st3 _ I2 e2 => ?_⟩
    unfold unlockD at e2
    rw [hd] at e2
    obtain rfl := soJ e2
    exact ⟨rfl, I2⟩
theorem Calm.lk {A : Around} {fl fl' : Lx} (ca : Calm lv A fl) (e : fl'.envs = fl.envs) : Calm lv A fl' := ⟨ca.hd, ca.dp, ca.un, ca.fr.trans (by rw [e])⟩
theorem FunFrames.nf' {h h' base : Heap} : ∀ {l : List Env}, (∀ b ∈ l.filterMap (·.frame), ∀ o, h.get? b = some o → ∃ o', h'.get? b = some o' ∧ ((∀ vs, o.data ≠ .fields vs) → ∀ vs, o'.data ≠ .fields vs)) →
    h.FunFrames base l → h'.FunFrames base l
  | [], _, _ => trivial
  | env :: r, k, ⟨hk, ⟨L, o, hf, hn, ho, hd⟩, hr⟩ =>
    let ⟨o', ho', hd'⟩ := k L (List.mem_filterMap.mpr ⟨env, .head _, hf⟩) o ho
    ⟨hk, ⟨L, o', hf, hn, ho', hd' hd⟩, FunFrames.nf' (fun b m => k b (by
      obtain ⟨e, he, q⟩ := List.mem_filterMap.mp m
      exact List.mem_filterMap.mpr ⟨e, .tail _ he, q⟩)) hr⟩
structure Wr (fl : Lx) (env : Env) (wr X μ : List Addr) (h h' : Heap) : Prop where
  kp : ∀ b o, b ∉ wr → h.get? b = some o → h'.get? b = some o
  inX : ∀ b ∈ wr, b ∈ X
  nμ : ∀ b ∈ wr, b ∉ μ
  np : ∀ b ∈ wr, b ∉ priv env
  nf : ∀ b ∈ wr, b ∉ fl.fa
theorem Wr.mv {fl env wr X μ h h' X'} (w : Wr fl env wr X μ h h') (sub : ∀ b ∈ X', b ∈ X) : Mv X h μ X' h' μ :=
  ⟨fun b o e n => ⟨w.kp b o (fun q => n (w.inX b q)) e, fun q => n (sub b q)⟩, List.prefix_refl _⟩
theorem Wr.step {fl env wr X μ h h' X₀ μ₀ h₀} (w : Wr fl env wr X μ h h') {X'} (S : Step fl.fa (priv env) X₀ μ₀ h₀ X μ h) (n : ∀ b ∈ wr, h₀.get? b = none) (s1 : ∀ b ∈ X', b ∈ X) (s2 : ∀ b ∈ X₀, b ∈ X') : Step fl.fa (priv env) X₀ μ₀ h₀ X' μ h' where
  kp := fun b o e p m f => w.kp b o (fun q => by rw [n b q] at e; exact noS e) (S.kp b o e p m f)
  kf := fun b o e p m => let ⟨sl, e'⟩ := S.kf b o e p m; ⟨sl, w.kp b _ (fun q => by rw [n b q] at e; exact noS e) e'⟩
  nf := fun b o e => let ⟨o', e', q⟩ := S.nf b o e; ⟨o', w.kp b o' (fun q => by rw [n b q] at e; exact noS e) e', q⟩
  subX := s2
  newX := fun b m => S.newX b (s1 b m)
  pre := S.pre
  newμ := S.newμ
theorem Wr.inv {c fl env wr X μ h h' σ X'} (w : Wr fl env wr X μ h h') (I : Inv c fl X μ h σ) (s1 : ∀ b ∈ X', b ∈ X) (s2 : ∀ b ∈ X, b ∉ wr → b ∈ X') (ex : ∀ b ∈ X', b ∈ wr → ∃ o, h'.get? b = some o ∧ NT o) : Inv c fl X' μ h' σ where
  base := fun b o e => let ⟨e', n⟩ := I.base b o e; ⟨w.kp b o (fun q => n (w.inX b q)) e', fun q => n (s1 b q)⟩
  own := fun a m => by
    by_cases q : a ∈ wr
    · exact ex a m q
    · obtain ⟨o, e, nt⟩ := I.own a (s1 a m); exact ⟨o, w.kp a o q e, nt⟩
  len := I.len
  nod := I.nod
  sub := fun a m => s2 a (I.sub a m) fun q => w.nμ a q m
  nsy := I.nsy
  cel := fun i a cl e q => (I.cel i a cl e q).mv (w.mv s1) fun o g => w.kp a o (fun z => w.nμ a z (List.mem_of_getElem? e)) g
  fr := FunFrames.nf' (fun b m o e => ⟨o, w.kp b o (fun q => w.nf b q m) e, id⟩) I.fr
  faX := fun b m => s2 b (I.faX b m) fun q => w.nf b q m
  faμ := I.faμ
  lk := fun p m => by
    obtain ⟨e, j, cl, e1, e2⟩ := I.lk p m
    exact ⟨w.kp _ _ (fun z => w.nμ _ z (List.mem_of_getElem? e1)) e, j, cl, e1, e2⟩
  lkc := I.lkc
theorem Wr.fr {c C fl env wr X μ h h' ρ X'} (w : Wr fl env wr X μ h h') (F : FrS c C env X μ h ρ) (s1 : ∀ b ∈ X', b ∈ X) (s2 : ∀ b ∈ X, b ∉ wr → b ∈ X') : FrS c C env X' μ h' ρ :=
  F.keep (fun a m o e => ⟨o.slots, w.kp a o (fun q => w.np a q m) e⟩) (w.mv s1) fun a m => ⟨s2 a (F.pX a m).1 fun q => w.np a q m, (F.pX a m).2⟩
inductive LpI (c : Cx) (fl : Lx) (C : SC) (env : Env) (fb : Cs) (asg : Asg) (X₀ μ₀ : List Addr) (h₀ : Heap) (wr : List Addr) (ds : List PV) (StP : Nat → Heap → Prop) (r : Option Fl) (stF : St) (s : Shared) : Nat → Shared → Prop
  | mk (h' tk X' μ' st' i) : Step fl.fa (priv env) X₀ μ₀ h₀ X' μ' h' → Inv c fl X' μ' h' st'.σ → FrS c C env X' μ' h' st'.ρ → (∀ b ∈ wr, b ∈ X') → (∀ b ∈ wr, b ∉ μ') → StP i h' → i ≤ ds.length → forGo asg fb (ds.drop i) st' = some (r, stF) →
    LpI c fl C env fb asg X₀ μ₀ h₀ wr ds StP r stF s (ds.length + 1 - i) { s with heap := h', toks := tk }
theorem none_out {h : Heap} {l : List Addr} {m : List Addr} (hn : ∀ b ∈ l, h.get? b = none) (hs : ∀ b ∈ m, ∃ o, h.get? b = some o) : ∀ b ∈ l, b ∉ m := fun b x q => by obtain ⟨o, e⟩ := hs b q; rw [hn b x] at e; exact noS e
theorem Step.old {fa pr X μ h X' μ' h'} (S : Step fa pr X μ h X' μ' h') {l : List Addr} (hs : ∀ b ∈ l, ∃ o, h.get? b = some o) (m : ∀ b ∈ l, b ∈ X') : ∀ b ∈ l, b ∈ X := fun b x => (S.newX b (m b x)).elim id fun q => by obtain ⟨o, e⟩ := hs b x; rw [q] at e; exact noS e
theorem Step.outμ {fa pr X μ h X' μ' h'} (S : Step fa pr X μ h X' μ' h') {l : List Addr} (hs : ∀ b ∈ l, ∃ o, h.get? b = some o) (m : ∀ b ∈ l, b ∉ μ) : ∀ b ∈ l, b ∉ μ' := fun b x q => (S.newμ b q).elim (m b x) fun z => by obtain ⟨o, e⟩ := hs b x; rw [z] at e; exact noS e
theorem fp_keep {fl : Lx} {fp wr pr : List Addr} {X₀ μ₀ h₀ Xa μa ha Xb μb hb σa σb pr'} (hfp : ∀ b ∈ fp, b ∈ wr ∨ ∃ o, h₀.get? b = some o ∧ (b ∉ X₀ ∨ (b, o) ∈ fl.lk)) (nfw : ∀ b ∈ wr, b ∉ fl.fa) (Sa : Step fl.fa pr' X₀ μ₀ h₀ Xa μa ha) (Ia : Inv c fl Xa μa ha σa) (wμa : ∀ b ∈ wr, b ∉ μa)
    (Sab : Step fl.fa pr Xa μa ha Xb μb hb) (Ib : Inv c fl Xb μb hb σb) (npw : ∀ b ∈ wr, b ∉ pr) (hpX : ∀ b ∈ pr, b ∈ Xa) : ∀ b ∈ fp, ∀ o, ha.get? b = some o → hb.get? b = some o := by
  intro b hb' o e
  rcases hfp b hb' with q | ⟨o₀, e₀, q | q⟩
  · exact Sab.kp b o e (npw b q) (wμa b q) (nfw b q)
  · have nb : b ∉ Xa := fun z => (Sa.newX b z).elim q fun z => by rw [z] at e₀; cases e₀
    exact Sab.kp b o e (fun z => nb (hpX b z)) (fun z => nb (Ia.sub b z)) (fun z => nb (Ia.faX b z))
  · exact (Ib.lk _ q).1.trans ((Ia.lk _ q).1.symm.trans e)
theorem drop_go {asg : Asg} {fb : Cs} {ds : List PV} {i : Nat} {d : PV} {st st' : St} {r : Option Fl} (hd : ds[i]? = some d) (e : forGo asg fb (ds.drop i) st = some (r, st')) :
    ∃ s1 r2 s2, asg d st = some s1 ∧ fb s1 = some (r2, s2) ∧ (match r2 with | .next => forGo asg fb (ds.drop (i + 1)) s2 | .cont => forGo asg fb (ds.drop (i + 1)) s2 | .brk => some (some .next, s2) | .ret d => some (some (.ret d), s2)) = some (r, st') := by
  obtain ⟨hi, rfl⟩ := List.getElem?_eq_some_iff.mp hd
  rw [List.drop_eq_getElem_cons hi] at e
  obtain ⟨s1, e1, e⟩ := bind_some e
  obtain ⟨⟨r2, s2⟩, e2, e⟩ := bind_some e
  exact ⟨s1, r2, s2, e1, e2, e⟩
theorem lp_lt {n i : Nat} (h : i < n) : n + 1 - (i + 1) < n + 1 - i := Nat.sub_lt_sub_left (Nat.lt_succ_of_lt h) (Nat.lt_succ_self i)
theorem keep_wr {X wr : List Addr} : (∀ b ∈ X.filter (fun b => decide (b ∉ wr)), b ∈ X ∧ b ∉ wr) ∧ ∀ b ∈ X, b ∉ wr → b ∈ X.filter (fun b => decide (b ∉ wr)) :=
  ⟨fun b m => ⟨(List.mem_filter.mp m).1, of_decide_eq_true (List.mem_filter.mp m).2⟩, fun b m n => List.mem_filter.mpr ⟨m, decide_eq_true n⟩⟩
theorem for_loop {A : Around} {fl : Lx} {env : Env} {target : Expr} {body orelse : List Stmt} {asg : Asg} {fb : Cs} {X₀ μ₀ : List Addr} {h₀ : Heap} {I : Addr} {fp wr : List Addr} {ds : List PV} {P Md : Nat → Value → Heap → Prop} {StP : Nat → Heap → Prop}
    {R : Result → Shared → Prop} {s : Shared} {X₁ μ₁ : List Addr} {st : St} {r : Option Fl} {stF : St}
    (tp : Tp fl env) (ca : Calm lv A fl) (ha : As c lv C target asg) (hb : Xs c lv C (execs body) fb) (W : KTurns c.prog c.w A target I fp wr ds.length P Md StP)
    (hwr : ∀ b ∈ wr, h₀.get? b = none) (hsx : ∀ i h, StP i h → ∀ b ∈ wr, ∃ o, h.get? b = some o ∧ NT o)
    (hp0 : ∀ b ∈ priv env, ∃ o, h₀.get? b = some o) (hf0 : ∀ b ∈ fl.fa, ∃ o, h₀.get? b = some o) (hX0 : ∀ b ∈ X₀, ∃ o, h₀.get? b = some o) (hm0 : ∀ b ∈ μ₀, b ∈ X₀)
    (hfp : ∀ b ∈ fp, b ∈ wr ∨ ∃ o, h₀.get? b = some o ∧ (b ∉ X₀ ∨ (b, o) ∈ fl.lk))
    (hit : ∀ i u h'' X'' μ'' σ'', i < ds.length → P i u h'' → Mv X₀ h₀ μ₀ X'' h'' μ'' → Inv c fl X'' μ'' h'' σ'' → ∃ d, ds[i]? = some d ∧ VR c X'' h'' μ'' d u)
    (S₁ : Step fl.fa (priv env) X₀ μ₀ h₀ X₁ μ₁ s.heap) (hwX : ∀ b ∈ wr, b ∈ X₁) (hwμ : ∀ b ∈ wr, b ∉ μ₁)
    (I₁ : Inv c fl X₁ μ₁ s.heap st.σ) (F₁ : FrS c C env X₁ μ₁ s.heap st.ρ) (st0 : StP 0 s.heap) (hgo : forGo asg fb ds st = some (r, stF))
    (hend : ∀ h' tk X' μ', Step fl.fa (priv env) X₀ μ₀ h₀ X' μ' h' → Inv c fl X' μ' h' stF.σ → FrS c C env X' μ' h' stF.ρ →
      match r with
      | none => wpAny c.M A (execs orelse env) (fun f s₃ => R (.ok f) s₃) (fun _ _ => False) { s with heap := h', toks := tk }
      | some r => ∀ w, FlR c X' h' μ' r w → R (.ok w) { s with heap := h', toks := tk }) :
    codeAny c.M A (.forLoop target (.ref I) body orelse env) R s := by
  have npw := none_out hwr hp0
  have nfw := none_out hwr hf0
  have nXw := none_out hwr hX0
  refine codeAny_forLoop_any (LpI c fl C env fb asg X₀ μ₀ h₀ wr ds StP r stF s) ?_ (ds.length + 1) (.mk s.heap s.toks X₁ μ₁ st 0 S₁ I₁ F₁ hwX hwμ st0 (Nat.zero_le _) hgo)
  rintro k s' ⟨h', tk, X', μ', st', i, S', I', F', wX, wμ, hst, hi, hg⟩
  have pX := privX F'
  by_cases hlt : i < ds.length
  · refine W.item i _ _ _ hlt hst fun v h₁ tk₁ hMd hk₁ => ?_
    refine W.go i v _ _ _ hMd fun h₂ hP hst₂ hk₂ => ?_
    have w : Wr fl env wr X' μ' h' h₂ := ⟨fun b o n e => hk₂ b o n (hk₁ b o n e), wX, wμ, npw, nfw⟩
    have S2 := w.step S' hwr (fun _ m => m) S'.subX
    have I2 := w.inv I' (fun _ m => m) (fun _ m _ => m) (fun b _ q => hsx _ _ hst₂ b q)
    have F2 := w.fr F' (fun _ m => m) (fun _ m _ => m)
    obtain ⟨d, hd, rd⟩ := hit i v h₂ X' μ' st'.σ hlt hP (S2.mv (S'.old hp0 pX) hm0 (S'.old hf0 I'.faX)) I2
    obtain ⟨s1, r2, s2, e1, e2, hg⟩ := drop_go hd hg
    refine ha A fl env X' μ' _ st' d v s1 _ _ ca I2 F2 rd e1 fun h3 tk3 X3 μ3 S3 I3 F3 => ?_
    refine hb A fl env X3 μ3 _ s1 r2 s2 _ _ tp ca I3 F3 e2 fun wf h4 tk4 X4 μ4 S4 I4 F4 rr => ?_
    have S24 := S3.trans S4
    have S04 := S2.trans S24
    have again : forGo asg fb (ds.drop (i + 1)) s2 = some (r, stF) → ∃ m, m < ds.length + 1 - i ∧ LpI c fl C env fb asg X₀ μ₀ h₀ wr ds StP r stF s m { s with heap := h4, toks := tk4 } := fun hg =>
      ⟨_, lp_lt hlt, .mk h4 tk4 X4 μ4 s2 (i + 1) S04 I4 F4 (fun b m => S24.subX b (wX b m)) (S24.outμ (fun b m => I2.ex (wX b m)) wμ) (W.frame _ _ _ hst₂ (fp_keep hfp nfw S2 I2 wμ S24 I4 npw pX)) hlt hg⟩
    cases r2 with
    | next => cases wf with
      | next => exact again hg
      | brk => exact rr.elim
      | cont => exact rr.elim
      | ret _ => exact rr.elim
    | cont => cases wf with
      | cont => exact again hg
      | brk => exact rr.elim
      | next => exact rr.elim
      | ret _ => exact rr.elim
    | brk => cases wf with
      | brk => obtain ⟨rfl, rfl⟩ := prI hg; exact hend h4 tk4 X4 μ4 S04 I4 F4 .next trivial
      | next => exact rr.elim
      | cont => exact rr.elim
      | ret _ => exact rr.elim
    | ret _ => cases wf with
      | ret _ => obtain ⟨rfl, rfl⟩ := prI hg; exact hend h4 tk4 X4 μ4 S04 I4 F4 _ rr
      | brk => exact rr.elim
      | next => exact rr.elim
      | cont => exact rr.elim
  · rw [List.drop_eq_nil_of_le (Nat.le_of_not_lt hlt)] at hg
    obtain ⟨rfl, rfl⟩ := Prod.mk.inj (Option.some.inj hg)
    refine W.done _ _ _ (Nat.le_antisymm hi (Nat.le_of_not_lt hlt) ▸ hst) fun h₁ tk₁ hk₁ => ?_
    have w : Wr fl env wr X' μ' h' h₁ := ⟨hk₁, wX, wμ, npw, nfw⟩
    have s1 : ∀ b ∈ X'.filter (fun b => decide (b ∉ wr)), b ∈ X' := fun b m => (keep_wr.1 b m).1
    have S2 := w.step S' hwr s1 fun b m => keep_wr.2 b (S'.subX b m) fun q => nXw b q m
    exact wpAny_mono (hend h₁ tk₁ _ μ' S2 (w.inv I' s1 keep_wr.2 fun b m q => absurd q (keep_wr.1 b m).2) (w.fr F' s1 keep_wr.2)) (fun _ _ x => x) fun _ _ x => x.elim
theorem S_for {target iter : Expr} {body orelse : List Stmt} {itm} {fi : Co} {asg : Asg} {fb fo : Cs} (pos) (h1 : Ev c lv C iter fi) (h2 : ItOk c lv target itm) (h3 : As c lv C target asg) (h4 : Xs c lv C (execs body) fb) (h5 : Xs c lv C (execs orelse) fo)
    (hs : ∀ env x, foldedSetIterable iter env x = pure x) : Xs c lv C (exec (.For target iter body orelse pos)) (cFor itm fi asg fb fo) := by
  intro A fl env X μ s st r st' Q E tp ca I F e q
  obtain ⟨⟨d, σ1⟩, e1, e⟩ := bind_some e
  obtain ⟨s2, e2, e⟩ := bind_some e
  obtain ⟨ds, e3, e⟩ := bind_some e
  obtain ⟨⟨r3, s3⟩, e4, e⟩ := bind_some e
  obtain ⟨s4, e5, e⟩ := bind_some e
  refine wpAny_For (h1 A fl env X μ s st d σ1 _ _ ca I F e1 fun v h₁ tk₁ X₁ μ₁ S1 I1 r1 => ?_) (hs env)
  obtain ⟨hρ, fl', hfl, I2, un⟩ := lock_use (st := ⟨st.ρ, σ1⟩) I1 r1 e2
  have hfa : fl'.fa = fl.fa := by unfold Lx.fa; rw [hfl]
  have ca' : Calm lv A fl' := ca.lk hfl
  refine h2 A fl' X₁ μ₁ _ s2.σ v d ds _ _ ca' I2 r1 e3 fun It h₂ tk₂ fp wr P Md StP l hwr hsx W hst hfp hit => ?_
  have I2' : Inv c fl' X₁ μ₁ h₁ s2.σ := I2
  have F2 : FrS c C env X₁ μ₁ h₁ s2.ρ := hρ ▸ (F.ex I S1)
  have hid := I2'.hides (pr := priv env) l (ws := wr) fun a m => ⟨hwr a m, hsx _ _ hst a m⟩
  have F3 : FrS c C env (wr ++ X₁) μ₁ h₂ s2.ρ := F2.keep (fun a m o e => ⟨o.slots, l a o e⟩) (hid.1.mv (privX F2) I2'.sub I2'.faX) fun a m => ⟨List.mem_append_right _ (F2.pX a m).1, (F2.pX a m).2⟩
  refine for_loop (lv := lv) (C := C) (asg := asg) (fb := fb) (X₀ := X₁) (μ₀ := μ₁) (h₀ := h₁) (st := s2) (r := r3) (stF := s3) (by unfold Tp; rw [hfl]; exact tp) ca' h3 h4 W hwr hsx (fun b m => I2'.ex (F2.pX b m).1) (fun b m => I2'.ex (I2'.faX b m)) (fun b m => I2'.ex m) I2'.sub hfp hit hid.1
    (fun b m => List.mem_append_left _ m) (fun b m q => by obtain ⟨o, e⟩ := I2'.ex (I2'.sub b q); rw [hwr b m] at e; exact noS e) hid.2 F3 hst e4 fun h₃ tk₃ X₃ μ₃ S3 I3 F3' => ?_
  obtain ⟨hρ4, I4⟩ := un X₃ μ₃ h₃ s3 s4 S3.pre I3 e5
  have F4 : FrS c C env X₃ μ₃ h₃ s4.ρ := hρ4 ▸ F3'
  have S03 : Step fl.fa (priv env) X μ s.heap X₃ μ₃ h₃ := S1.wk.trans (hfa ▸ S3)
  cases r3 with
  | none => exact h5 A fl env X₃ μ₃ _ s4 r st' _ _ tp ca I4 F4 e fun w h5 tk5 X5 μ5 S5 I5 F5 rr => q w h5 tk5 X5 μ5 (S03.trans S5) I5 F5 rr
  | some r3 =>
    obtain ⟨rfl, rfl⟩ := prI e
    exact fun w rr => q w h₃ tk₃ X₃ μ₃ S03 I4 F4 rr
end
end Mine
end
section
set_option tactic.hygienic false
open PySem PySem.W PyProof.Rows PySem.Calls
namespace Mine
noncomputable def whGo (t : Ct) (body : Cs) : Nat → St → Option (Option Fl × St)
  | 0, _ => none
  | n + 1, st => (t st).bind fun (b, σ1) => if b then (body ⟨st.ρ, σ1⟩).bind fun (r, s2) => match r with
      | .next => whGo t body n s2
      | .cont => whGo t body n s2
      | .brk => some (some .next, s2)
      | .ret d => some (some (.ret d), s2)
    else some (none, ⟨st.ρ, σ1⟩)
noncomputable def cWhile (n : Nat) (t : Ct) (body orelse : Cs) : Cs := fun st => (whGo t body n st).bind fun (r, s1) => match r with
  | none => orelse s1
  | some r => some (r, s1)
section
variable {c : Cx} {lv : Lv} {C : SC}
theorem S_while {t : Expr} {body orelse : List Stmt} {n : Nat} {ft : Ct} {fb fo : Cs} (pos) (h1 : Et c lv C t ft) (h2 : Xs c lv C (execs body) fb) (h3 : Xs c lv C (execs orelse) fo) : Xs c lv C (exec (.While t body orelse pos)) (cWhile n ft fb fo) := by
  intro A fl env X μ s st r st' Q E tp ca I F e q
  obtain ⟨⟨r1, s1⟩, e1, e⟩ := bind_some e
  refine wpAny_While ?_
  refine codeAny_whileLoop (fun k s' => ∃ h' tk X' μ' st2, s' = { s with heap := h', toks := tk } ∧ Step fl.fa (priv env) X μ s.heap X' μ' h' ∧ Inv c fl X' μ' h' st2.σ ∧ FrS c C env X' μ' h' st2.ρ ∧ whGo ft fb k st2 = some (r1, s1)) ?_ n
    ⟨s.heap, s.toks, X, μ, st, rfl, .le (.refl _), I, F, e1⟩
  rintro k s' ⟨h', tk, X', μ', st2, rfl, S2, I2, F2, hg⟩
  cases k with
  | zero => exact noS hg
  | succ k =>
    unfold whGo at hg
    obtain ⟨⟨b, σ3⟩, e3, hg⟩ := bind_some hg
    refine h1 A fl env X' μ' _ st2 b σ3 _ _ ca I2 F2 e3 fun g3 tk3 X3 μ3 S3 I3 => ?_
    have F3 := F2.ex I2 S3
    cases b with
    | true =>
      obtain ⟨⟨r4, s4⟩, e4, hg⟩ := bind_some hg
      refine h2 A fl env X3 μ3 _ ⟨st2.ρ, σ3⟩ r4 s4 _ _ tp ca I3 F3 e4 fun w h4 tk4 X4 μ4 S4 I4 F4 rr => ?_
      have S04 := (S2.trans S3.wk).trans S4
      cases r4 <;> cases w <;> first | exact rr.elim | skip
      · exact ⟨k, Nat.lt_succ_self _, h4, tk4, X4, μ4, s4, rfl, S04, I4, F4, hg⟩
      · obtain ⟨rfl, rfl⟩ := prI hg
        obtain ⟨rfl, rfl⟩ := prI e
        exact q .next h4 tk4 X4 μ4 S04 I4 F4 trivial
      · exact ⟨k, Nat.lt_succ_self _, h4, tk4, X4, μ4, s4, rfl, S04, I4, F4, hg⟩
      · obtain ⟨rfl, rfl⟩ := prI hg
        obtain ⟨rfl, rfl⟩ := prI e
        exact q _ h4 tk4 X4 μ4 S04 I4 F4 rr
    | false =>
      obtain ⟨rfl, rfl⟩ := prI hg
      refine wpAny_mono (h3 A fl env X3 μ3 _ ⟨st2.ρ, σ3⟩ r st' (fun f s' => Q f s') (fun _ _ => False) tp ca I3 F3 e fun w h4 tk4 X4 μ4 S4 I4 F4 rr => q w h4 tk4 X4 μ4 ((S2.trans S3.wk).trans S4) I4 F4 rr) (fun _ _ x => x) fun _ _ x => x.elim
end
noncomputable def BindsOk (c : Cx) (fd : FuncData) (names : List Str) (bd : List PV → Option (List PV)) : Prop :=
  ∀ A X μ (s : Shared) ds vs ds' (Q : List (Str × Value) → Shared → Prop) (E : Value → Shared → Prop), Le c.b0 s.heap → s.heap.objs.size ∉ X → VRs c X s.heap μ ds vs → bd ds = some ds' →
    (∀ h' tk ws, Le s.heap h' → VRs c X h' μ ds' ws → Q (names.zip ws) { s with heap := h', toks := tk }) → wpAny c.M A (bindArgs fd ⟨vs, []⟩) Q E s
noncomputable def cFn (m : Nat) (bd : List PV → Option (List PV)) (f : Cs) : List PV → List Cell → Option (PV × List Cell) := fun ds σ =>
  (bd ds).bind fun ds' => (f ⟨ds'.map some ++ List.replicate (m - ds'.length) none, σ⟩).map fun (r, st) => ((match r with | .ret d => d | _ => .none), st.σ)
theorem bindL_out (k : Str → Option NameKind) : ∀ (ns : List Str) (ws : List Value) (m : Str → Option Value) (x : Str), x ∉ ns → bindL k (ns.zip ws) m x = m x
  | [], _, _, _, _ => rfl
  | n :: ns, [], _, _, _ => rfl
  | n :: ns, w :: ws, m, x, h => by
    rw [List.zip_cons_cons, bindL, bindL_out k ns ws _ x fun q => h (.tail _ q)]
    split
    · exact if_neg fun z => h (by rw [z]; exact .head _)
    · rfl
theorem bindL_get (k : Str → Option NameKind) : ∀ (ns : List Str) (ws : List Value) (m : Str → Option Value) (i : Nat) (x : Str) (v : Value), ns.Nodup → ns[i]? = some x → ws[i]? = some v → k x = some .local → bindL k (ns.zip ws) m x = some v
  | [], _, _, _, _, _, _, h, _, _ => by simp at h
  | _ :: _, [], _, _, _, _, _, _, h, _ => by simp at h
  | n :: ns, w :: ws, m, 0, x, v, nd, h1, h2, hk => by
    obtain rfl := soI h1; obtain rfl := soI h2
    rw [List.zip_cons_cons, bindL, bindL_out k ns ws _ n (List.nodup_cons.mp nd).1, if_pos hk, if_pos rfl]
  | n :: ns, w :: ws, m, i + 1, x, v, nd, h1, h2, hk => by
    rw [List.zip_cons_cons, bindL]
    exact bindL_get k ns ws _ i x v (List.nodup_cons.mp nd).2 (by simpa using h1) (by simpa using h2) hk
theorem bindC_out (k : Str → Option NameKind) : ∀ (ns : List Str) (ws : List Value) (m : Str → Option Value) (x : Str), x ∉ ns → bindC k (ns.zip ws) m x = m x
  | [], _, _, _, _ => rfl
  | n :: ns, [], _, _, _ => rfl
  | n :: ns, w :: ws, m, x, h => by
    rw [List.zip_cons_cons, bindC, bindC_out k ns ws _ x fun q => h (.tail _ q)]
    split
    · rfl
    · exact if_neg fun z => h (by rw [z]; exact .head _)
theorem bindC_get (k : Str → Option NameKind) : ∀ (ns : List Str) (ws : List Value) (m : Str → Option Value) (i : Nat) (x : Str) (v : Value), ns.Nodup → ns[i]? = some x → ws[i]? = some v → k x ≠ some .local → bindC k (ns.zip ws) m x = some v
  | [], _, _, _, _, _, _, h, _, _ => by simp at h
  | _ :: _, [], _, _, _, _, _, _, h, _ => by simp at h
  | n :: ns, w :: ws, m, 0, x, v, nd, h1, h2, hk => by
    obtain rfl := soI h1; obtain rfl := soI h2
    rw [List.zip_cons_cons, bindC, bindC_out k ns ws _ n (List.nodup_cons.mp nd).1, if_neg hk, if_pos rfl]
  | n :: ns, w :: ws, m, i + 1, x, v, nd, h1, h2, hk => by
    rw [List.zip_cons_cons, bindC]
    exact bindC_get k ns ws _ i x v (List.nodup_cons.mp nd).2 (by simpa using h1) (by simpa using h2) hk
theorem join_ρ {ds : List PV} {k i : Nat} {d : PV} (e : ((ds.map some ++ List.replicate k none)[i]?).join = some d) : ds[i]? = some d := by
  by_cases h : i < ds.length
  · rw [List.getElem?_append_left (by simpa using h), List.getElem?_map] at e
    cases hd : ds[i]? with
    | none => rw [hd] at e; exact noS e
    | some x => rw [hd] at e; obtain rfl := soJ e; rfl
  · rw [List.getElem?_append_right (by simpa using h), List.getElem?_replicate] at e
    split at e <;> exact noS e
theorem lookup_pair {y : Str} {a : Addr} : ∀ {l : List (Str × Addr)}, l.lookup y = some a → (y, a) ∈ l
  | (z, b) :: r, e => by
    rw [List.lookup_cons] at e
    cases hx : y == z with
    | true => rw [hx] at e; obtain rfl := soJ e; rw [beq_iff_eq.mp hx]; exact .head _
    | false => rw [hx] at e; exact .tail _ (lookup_pair e)
theorem mem_lookup {a : Addr} : ∀ {l : List (Str × Addr)}, a ∈ l.map (·.2) → (l.map (·.1)).Nodup → ∃ x, l.lookup x = some a
  | (y, b) :: r, m, nd => by
    rw [List.map_cons] at m
    rcases List.mem_cons.mp m with q | m
    · exact ⟨y, by rw [List.lookup_cons]; simp [q]⟩
    · rw [List.map_cons, List.nodup_cons] at nd
      obtain ⟨x, e⟩ := mem_lookup m nd.2
      have ne : (x == y) = false := by
        cases h : x == y with
        | false => rfl
        | true => exact absurd (beq_iff_eq.mp h ▸ List.mem_map.mpr ⟨_, lookup_pair e, rfl⟩) nd.1
      exact ⟨x, by rw [List.lookup_cons, ne]; exact e⟩
theorem lookup_free {x : Str} {k : NameKind} : ∀ {l : List (Str × NameKind)}, l.lookup x = some k → ∃ p ∈ l, p.2 = k
  | (y, b) :: r, e => by
    rw [List.lookup_cons] at e
    cases hx : x == y with
    | true => rw [hx] at e; obtain rfl := soJ e; exact ⟨_, .head _, rfl⟩
    | false => rw [hx] at e; obtain ⟨p, m, q⟩ := lookup_free e; exact ⟨p, .tail _ m, q⟩
set_option maxHeartbeats 1000000 in
noncomputable def ApC (c : Cx) (lv : Lv) (f : Value) (g : List PV → List Cell → Option (PV × List Cell)) : Prop :=
  ∀ A fl X μ (s : Shared) σ ds vs d σ' (Q : Value → Shared → Prop) (E : Value → Shared → Prop), Calm lv A fl → Inv c fl X μ s.heap σ → VRs c X s.heap μ ds vs → g ds σ = some (d, σ') →
    (∀ v h' tk X' μ', Step fl.fa [] X μ s.heap X' μ' h' → Inv c fl X' μ' h' σ' → VR c X' h' μ' d v → Q v { s with heap := h', toks := tk }) →
    codeAny c.M A (.call f ⟨vs, []⟩) (fun r s' => match r with | .ok (.ret v) => Q v s' | .ok _ => False | .error e => E e s') s
theorem ApC.ap {c : Cx} {lv : Lv} {f : Value} {g} (h : ApC c lv f g) : Ap c lv f g := fun A fl X μ s σ ds vs d σ' Q E ca I rs e q => wpAny_call (h A fl X μ s σ ds vs d σ' Q E ca I rs e q)
theorem fn_apc {c : Cx} {n : Nat} {q : Bool} {a : Addr} {name qual : Str} {params : Arguments} {body : List Stmt} {scope : Scope} {dV kV doc pm cdv ct oc : Value} {an od : Option Addr} {osl : Array (Option Value)} {C : SC} {f : Cs} {np : Nat} {bd : List PV → Option (List PV)}
    (ho : c.K.lookup a = some ⟨oc, od, .func (fnOf name qual params body scope dV kV doc pm an cdv ct), osl⟩) (hcd : codeIn c.K cdv qual = true) (hC : C.names = scope.names) (hnd : C.slots.Nodup) (hnp : np ≤ C.slots.length)
    (hpk : ∀ x ∈ C.slots.take np, scope.names.lookup x = some .local ∨ scope.names.lookup x = some .cell) (hcn : ((cellsFrom 0 scope.names []).map (·.1)).Nodup) (hnf : ∀ x ∈ scope.names, x.2 ≠ .free)
    (hb : BindsOk c (fnOf name qual params body scope dV kV doc pm an cdv ct) (C.slots.take np) bd) (hlen : ∀ ds ds', bd ds = some ds' → ds'.length = np) (hbody : Xs c ⟨n, q⟩ C (execs body) f)
    (hco : scope.isCoroutine = false) (hgen : scope.isGenerator = false) (hk : scope.kind = .function) : ApC c ⟨n + 1, q⟩ (.ref a) (cFn C.slots.length bd f) := by
  intro A fl X μ s σ ds vs d σ' Q E ca I rs e qq
  obtain ⟨ds', e1, e⟩ := bind_some e
  obtain ⟨⟨r, stF⟩, e2, e⟩ := map_some e
  have l0 : Le c.b0 s.heap := fun b o e => (I.base b o e).1
  have cdp : A.depth + (n + 1) < recursionLimit := ca.dp
  have cun : A.units + 4 * (n + 1) + 100 < cLine := ca.un
  refine codeAny_call_function (by lia) (l0 _ _ (c.inK _ _ ho)) rfl hco hgen rfl (codeRec_of (c.inK.keeps l0) hcd) ?_
  refine hb _ X μ s ds vs ds' _ _ l0 I.fresh rs e1 fun h₁ tk₁ ws l1 rs1 => ?_
  have I1 := I.le l1
  have hlw : ws.length = np := by rw [← rs1.length]; exact hlen ds ds' e1
  have htl : (C.slots.take np).length = np := by rw [List.length_take]; lia
  refine wpAny_newFunctionEnv_cells hk (fun x m => ?_) fun env' he s' x => ?_
  · have hx : x.1 ∈ C.slots.take np := (List.of_mem_zip (a := x.1) (b := x.2) m).1
    rcases hpk x.1 hx with z | z
    · exact .inl z
    · exact .inr ⟨z, cellsFrom_some _ _ _ (.inl z)⟩
  have hkind : ∀ y, env'.kindOf y = C.names.lookup y := fun y => by rw [he]; show scope.names.lookup y = _; rw [hC]
  have hloc : env'.locals = h₁.objs.size := by rw [he]; rfl
  have hcells : env'.cells = cellsFrom (h₁.objs.size + 1) scope.names [] := by rw [he]; rfl
  have hframe : env'.frame = some env'.locals := by rw [he]; rfl
  have hek : env'.scope.kind = .function := by rw [he]; exact hk
  obtain ⟨h₂, tk₂, rfl, keep⟩ := x.done
  have l2 : Le h₁ h₂ := keep
  have hcn' : (env'.cells.map (·.1)).Nodup := by rw [hcells, cellsFrom_names scope.names (h₁.objs.size + 1) 0 [] [] rfl]; exact hcn
  have new : ∀ b ∈ priv env', h₁.get? b = none ∧ ∃ o, h₂.get? b = some o ∧ NT o ∧ ∀ vs, o.data ≠ .fields vs := fun b m => by
    rcases List.mem_cons.mp m with rfl | m
    · refine ⟨by rw [hloc]; exact get_size _, ?_⟩
      obtain ⟨o, es, ep, g, d, _⟩ := x.toInCall.ns
      exact ⟨o, g, fun xs n z => by rw [d] at z; (cases z), fun vs z => by rw [d] at z; cases z⟩
    · obtain ⟨y, hy⟩ := mem_lookup m hcn'
      have hm : (y, b) ∈ env'.cells := lookup_pair hy
      have ab := x.above y b hm
      refine ⟨?_, ?_⟩
      · cases g : h₁.get? b with
        | none => rfl
        | some o => have := Heap.lt_size g; rw [hloc] at ab; exact absurd this (Nat.not_lt.mpr (Nat.le_of_lt ab))
      · obtain ⟨o, g, d⟩ := x.cell y b hy
        exact ⟨o, g, fun xs n z => by rw [d] at z; (cases z), fun vs z => by rw [d] at z; cases z⟩
  have hnod : (priv env').Nodup := by
    rw [priv, List.nodup_cons]
    refine ⟨fun m => ?_, ?_⟩
    · obtain ⟨p, hp, e⟩ := List.mem_map.mp m
      have := x.above p.1 p.2 hp
      rw [e] at this
      exact Nat.lt_irrefl _ this
    · rw [List.nodup_iff_pairwise_ne, List.pairwise_map]
      exact x.apart
  refine ⟨(c.top.nolimit.keeps l0).keeps fun b o e => l2 b o (l1 b o e), codeAny_func ?_⟩
  have hid := (I1.hides (pr := ([] : List Addr)) l2 (ws := priv env') fun b m => ⟨(new b m).1, let ⟨o, g, nt, _⟩ := (new b m).2; ⟨o, g, nt⟩⟩)
  have hfa : ({ fl with envs := env' :: fl.envs } : Lx).fa = env'.locals :: fl.fa := by
    show (env' :: fl.envs).filterMap _ = _
    rw [List.filterMap_cons, hframe]; rfl
  have I2 : Inv c { fl with envs := env' :: fl.envs } (priv env' ++ X) μ h₂ σ :=
    { hid.2 with
      fr := by
        refine Heap.FunFrames.cons (by rw [hek]; decide) hframe x.toInCall.ns ?_ hid.2.fr
        cases g : c.b0.get? env'.locals with
        | none => rfl
        | some o =>
          have := (new env'.locals (.head _)).1
          rw [l1 _ _ (l0 _ _ g)] at this; exact noN this
      faX := fun b m => by
        rw [hfa] at m
        rcases List.mem_cons.mp m with rfl | m
        · exact .head _
        · exact List.mem_append_right _ (I1.faX b m)
      faμ := fun b m z => by
        rw [hfa] at m
        rcases List.mem_cons.mp m with rfl | m
        · obtain ⟨o, g⟩ := I1.ex (I1.sub _ z)
          rw [(new env'.locals (.head _)).1] at g; exact noS g
        · exact I1.faμ b m z }
  have nX : ∀ b ∈ priv env', b ∉ μ := fun b m z => by
    obtain ⟨o, g⟩ := I1.ex (I1.sub b z)
    rw [(new b m).1] at g; exact noS g
  have F2 : FrS c C env' (priv env' ++ X) μ h₂ (ds'.map some ++ List.replicate (C.slots.length - ds'.length) none) := by
    have M := hid.1.mv (fun _ m => nomatch m) I1.sub I1.faX
    have get : ∀ (i : Nat) y d', C.slots[i]? = some y → ((ds'.map some ++ List.replicate (C.slots.length - ds'.length) none)[i]?).join = some d' → ∃ v, (C.slots.take np)[i]? = some y ∧ ws[i]? = some v ∧ VR c (priv env' ++ X) h₂ μ d' v := fun i y d' hy hd => by
      have hd' := join_ρ hd
      obtain ⟨v, hv, rv⟩ := rs1.get hd'
      have hi : i < np := by rw [← hlw]; exact (List.getElem?_eq_some_iff.mp hv).1
      exact ⟨v, by rw [List.getElem?_take, if_pos hi]; exact hy, hv, rv.mv M⟩
    have ndt : (C.slots.take np).Nodup := hnd.sublist (List.take_sublist _ _)
    refine ⟨hek, by rw [he]; exact hC.symm, by rw [he]; rfl, by rw [he]; rfl, by rw [List.length_append, List.length_map, List.length_replicate, hlen ds ds' e1]; lia, fun b m => ⟨List.mem_append_left _ m, nX b m⟩, hnod, ⟨_, x.toInCall.ns, fun i y d' hy hl hd => ?_⟩, fun y hy => ?_⟩
    · obtain ⟨v, h1, h2, rv⟩ := get i y d' hy hd
      exact ⟨v, bindL_get _ _ _ _ i y v ndt h1 h2 ((hkind y).trans hl), rv⟩
    · have hyc : C.names.lookup y = some .cell := hy.elim id fun z => by
        rw [hC] at z
        obtain ⟨p, hp, e⟩ := lookup_free z
        exact absurd e (hnf p hp)
      have : (env'.cells.lookup y).isSome = true := by rw [hcells]; exact cellsFrom_some _ _ _ (.inl (hC ▸ hyc))
      obtain ⟨b, hb'⟩ := Option.isSome_iff_exists.mp this
      obtain ⟨o, g, dd⟩ := x.cell y b hb'
      refine ⟨b, o, _, hb', g, dd, fun i d' hs hd => ?_⟩
      obtain ⟨v, h1, h2, rv⟩ := get i y d' hs hd
      exact ⟨v, bindC_get _ _ _ _ i y v ndt h1 h2 (by rw [hkind y, hyc]; decide), rv⟩
  have ca' : Calm ⟨n, q⟩ (A.deeper env') { fl with envs := env' :: fl.envs } :=
    ⟨ca.hd, by show A.depth + 1 + n < _; lia, by show A.units + 3 + 4 * n + 100 < _; lia, Around.frames_deeper ca.fr⟩
  refine wpAny_mono (hbody (A.deeper env') _ env' (priv env' ++ X) μ _ _ r stF (fun fl s' => match (Except.ok (.ret (match fl with | .ret v => v | _ => Value.none)) : Result) with | .ok (.ret v) => Q v s' | .ok _ => False | .error e => E e s') (fun _ _ => False) (by unfold Tp; rfl) ca' I2 F2 e2 fun w h3 tk3 X3 μ3 S3 I3 F3 rr => ?_)
    (fun _ _ y => y) fun _ _ y => y.elim
  have S0 : Step ({ fl with envs := env' :: fl.envs } : Lx).fa (priv env') X μ s.heap X3 μ3 h3 := by
    refine Step.trans ?_ S3
    exact { kp := fun b o e _ _ _ => l2 b o (l1 b o e)
            kf := fun b o e _ _ => ⟨o.slots, l2 b o (l1 b o e)⟩
            nf := fun b o e => ⟨o, l2 b o (l1 b o e), id⟩
            subX := fun b m => List.mem_append_right _ m
            newX := fun b m => (List.mem_append.mp m).elim (fun m => .inr (by
              cases g : s.heap.get? b with
              | none => rfl
              | some o => have := (new b m).1; rw [l1 b o g] at this; exact noN this)) .inl
            pre := List.prefix_refl _
            newμ := fun b m => .inl m }
  have fresh : ∀ b ∈ priv env', s.heap.get? b = none := fun b m => by
    cases g : s.heap.get? b with
    | none => rfl
    | some o => have := (new b m).1; rw [l1 b o g] at this; exact noN this
  have S1 : Step fl.fa [] X μ s.heap X3 μ3 h3 := S0.out (fun b m => .inr (fresh b m)) fun b m => by
    rw [hfa] at m
    rcases List.mem_cons.mp m with rfl | m
    · exact .inr (fresh _ (.head _))
    · exact .inl m
  have I4 : Inv c fl X3 μ3 h3 stF.σ :=
    { I3 with
      fr := I3.fr.2.2
      faX := fun b m => I3.faX b (by rw [hfa]; exact .tail _ m)
      faμ := fun b m => I3.faμ b (by rw [hfa]; exact .tail _ m) }
  obtain ⟨rfl, rfl⟩ := prS e
  cases r <;> cases w <;> first | exact rr.elim | exact qq _ h3 tk3 X3 μ3 S1 I4 .none | exact qq _ h3 tk3 X3 μ3 S1 I4 rr
end Mine
end
section
set_option tactic.hygienic false
open PySem PySem.W PyProof.Rows PySem.Calls
namespace Mine
noncomputable abbrev Cl := St → Option (List PV × List Cell)
noncomputable def Evs (c : Cx) (lv : Lv) (C : SC) (es : List Expr) (f : Cl) : Prop :=
  ∀ A fl env X μ (s : Shared) st ds σ' (pos : Pos) (Q : List Value → Shared → Prop) (E : Value → Shared → Prop), Calm lv A fl → Inv c fl X μ s.heap st.σ → FrS c C env X μ s.heap st.ρ → f st = some (ds, σ') →
    (∀ vs h' tk X' μ', Step fl.fa [] X μ s.heap X' μ' h' → Inv c fl X' μ' h' σ' → VRs c X' h' μ' ds vs → Q vs { s with heap := h', toks := tk }) →
    wpAny c.M A (spliced (backTo pos (starEach es env))) Q E s
noncomputable def lNil : Cl := fun st => some ([], st.σ)
noncomputable def lCons (f : Co) (g : Cl) : Cl := fun st => (f st).bind fun (d, σ1) => (g ⟨st.ρ, σ1⟩).map fun (ds, σ2) => (d :: ds, σ2)
noncomputable def seqOf (σ : List Cell) : PV → Option (List PV)
  | .lst xs => some xs
  | .tup xs => some xs
  | .ref j => match σ[j]? with
    | some (.list xs) => some xs
    | _ => none
  | _ => none
noncomputable def lStar (f : Co) (g : Cl) : Cl := fun st => (f st).bind fun (d, σ1) => (seqOf σ1 d).bind fun xs => if xs.length ≤ 4096 then (g ⟨st.ρ, σ1⟩).map fun (ds, σ2) => (xs ++ ds, σ2) else none
set_option tactic.hygienic true in
theorem seqOf_seq {c : Cx} {fl X μ σ} {h : Heap} {d : PV} {v : Value} {xs : List PV} (I : Inv c fl X μ h σ) (r : VR c X h μ d v) (e : seqOf σ d = some xs) :
    ∃ a o vs n T, v = .ref a ∧ (T = "list" ∨ T = "tuple") ∧ h.get? a = some o ∧ o.cls = .type T ∧ o.data = .seq vs.toArray n ∧ VRs c X h μ xs vs := by
  cases d <;> first | (exact noS e; done) | skip
  · obtain rfl := soJ e
    cases r with | lst e n rs => obtain ⟨o, g, hc, n, hd⟩ := e; exact ⟨_, o, _, n, "list", rfl, .inl rfl, g, hc, hd, rs⟩
  · obtain rfl := soJ e
    cases r with | tup e n rs => obtain ⟨o, g, hc, n, hd⟩ := e; exact ⟨_, o, _, n, "tuple", rfl, .inr rfl, g, hc, hd, rs⟩
  · rename_i j
    cases r with | ref ha =>
    rename_i a
    obtain ⟨cl, hc, cr⟩ := I.at ha
    unfold seqOf at e
    dsimp only at e
    rw [hc] at e
    cases cl <;> first | (exact noS e; done) | skip
    obtain rfl := soJ e
    obtain ⟨vs, ⟨n, g⟩, rs⟩ := cr
    exact ⟨a, _, vs, n, "list", rfl, .inl rfl, g, rfl, rfl, rs⟩
section
variable {c : Cx} {lv : Lv} {C : SC}
theorem E_nil : Evs c lv C [] lNil := by
  intro A fl env X μ s st ds σ' pos Q E ca I F e q
  obtain ⟨rfl, rfl⟩ := prI e
  exact spliced_nil (q [] s.heap s.toks X μ (.le (.refl _)) I .nil)
theorem E_cons {x : Expr} {r : List Expr} {f : Co} {g : Cl} (h1 : Ev c lv C x f) (h2 : Evs c lv C r g) (he : ∀ env, starEach (x :: r) env = (false, eval x env) :: starEach r env) : Evs c lv C (x :: r) (lCons f g) := by
  intro A fl env X μ s st ds σ' pos Q E ca I F e q
  obtain ⟨⟨d1, σ1⟩, e1, e⟩ := bind_some e
  obtain ⟨⟨d2, σ2⟩, e2, e⟩ := map_some e
  obtain ⟨rfl, rfl⟩ := prS e
  rw [he]
  refine spliced_cons (h1 A fl env X μ s st d1 σ1 _ _ ca I F e1 fun v1 h' tk X' μ' S1 I1 r1 => ?_)
  refine h2 A fl env X' μ' _ ⟨st.ρ, σ1⟩ d2 σ' pos _ _ ca I1 (F.ex I S1) e2 fun vs h'' tk' X'' μ'' S2 I2 r2 => ?_
  exact q _ h'' tk' X'' μ'' (S1.trans S2) I2 (.cons (r1.mv (S2.mv0 I1 rfl)) r2)
theorem star_of {A : Around} {fl : Lx} {X μ : List Addr} {s : Shared} {σ : List Cell} {d : PV} {v : Value} {xs : List PV} {Q : List Value → Shared → Prop} {E} (I : Inv c fl X μ s.heap σ) (r : VR c X s.heap μ d v) (e : seqOf σ d = some xs) (hz : xs.length ≤ 4096)
    (q : ∀ vs h', Le s.heap h' → VRs c X h' μ xs vs → Q vs { s with heap := h' }) : StarOf c.M A E v Q s := by
  obtain ⟨a, o, vs, n, T, rfl, hT, g, hc, hd, rs⟩ := seqOf_seq I r e
  have hT' : s.TypeIs (.ref a) T := ⟨o, g, hc⟩
  have z : wpAny c.M A (collect (.ref a)) Q E s := by
    refine wpAny_collect_seq a hT g hc hd (fun h' hk => q vs h' hk (rs.le hk)) ?_
    rw [List.size_toArray, ← rs.length]
    exact Nat.le_trans hz (by decide)
  unfold StarOf notIterableAtAll
  rcases hT with rfl | rfl
  · exact wpAny_bind (wpAny_specialOf hT' PySem.F.slot_list_iter.lookup (wpAny_pure ⟨rfl, z⟩))
  · exact wpAny_bind (wpAny_specialOf hT' PySem.F.slot_tuple_iter.lookup (wpAny_pure ⟨rfl, z⟩))
theorem E_star {x : Expr} {p : Pos} {r : List Expr} {f : Co} {g : Cl} (h1 : Ev c lv C x f) (h2 : Evs c lv C r g) : Evs c lv C (.Starred x p :: r) (lStar f g) := by
  intro A fl env X μ s st ds σ' pos Q E ca I F e q
  obtain ⟨⟨d1, σ1⟩, e1, e⟩ := bind_some e
  obtain ⟨xs, e2, e⟩ := bind_some e
  split at e
  · rename_i hz
    obtain ⟨⟨d2, σ2⟩, e3, e⟩ := map_some e
    obtain ⟨rfl, rfl⟩ := prS e
    refine items_star (h1 A fl env X μ s st d1 σ1 _ _ ca I F e1 fun v1 h' tk X' μ' S1 I1 r1 => ?_) (by rfl)
    refine star_of I1 r1 e2 hz fun us h2' l rs => ?_
    refine h2 A fl env X' μ' _ ⟨st.ρ, σ1⟩ d2 σ' pos _ _ ca (I1.le l) ((F.ex I S1).le l) e3 fun vs h'' tk' X'' μ'' S2 I2 r2 => ?_
    exact q _ h'' tk' X'' μ'' ((S1.trans (.le l)).trans S2) I2 ((rs.mv (S2.mv0 (I1.le l) rfl)).app r2)
  · exact noS e
theorem callWith_any {M : Model} {A : Around} {E : Value → Shared → Prop} {s : Shared} {pos : Pos} {f : Value} {first : List Value} {args : List (Bool × Sem Value)} {Q : Value → Shared → Prop}
    (h : wpAny M A (evalArgs f true args []) (fun a s₁ => a.kw = [] ∧ (∀ R : Keeper → Shared → Prop, (∀ k, R k s₁) → wpAny M A (keeperOf f) R E s₁) ∧ wpAny M A (call f (first ++ a.pos) []) Q E s₁) E s) :
    wpAny M A (callWith pos f first args []) Q E s := by
  unfold callWith
  refine wpAny_bind (wpAny_holding (wpAny_mono h (fun a s₁ h₁ => wpAny_bind (wpAny_standAt ?_)) fun _ _ x => x))
  obtain ⟨kw, hk, hc⟩ := h₁
  rw [kw]
  have tail : ∀ {t : Sem Value}, wpAny M A t Q E s₁ → wpAny M A (t >>= fun r => holding [r] point >>= fun _ => pure r) Q E s₁ :=
    fun ht => wpAny_bind (wpAny_mono ht (fun r s₂ hr => wpAny_bind (wpAny_holding (wpAny_point (wpAny_pure hr)))) fun _ _ x => x)
  have marked (mk : Value) : wpAny M A (callMarked mk f (first ++ a.pos) []) Q E s₁ := by unfold callMarked; exact Calls.wpAny_keep hc
  refine wpAny_bind (hk _ fun k => ?_)
  have op : ∀ l, wpAny M A (operate l (call f (first ++ a.pos) [])) Q E s₁ := fun l => wpAny_operating hc
  cases k <;> (dsimp only; split) <;> first | exact tail (marked _) | exact tail (op _) | exact tail hc | (split <;> first | exact tail (marked _) | exact tail (op _) | exact tail hc)
end
end Mine
end
section
set_option tactic.hygienic false
open PySem PySem.W PyProof.Rows PySem.Calls
namespace Mine
section
variable {c : Cx} {lv : Lv} {C : SC}
theorem A_name {x : Str} {i : Nat} (px) (k : storeKind C i x = true) : As c lv C (.Name x px) (fun d st => st.put i d) := by
  intro A fl env X μ s st d v st' Q E ca I F r e q
  obtain ⟨hs, hn, hk⟩ := storeKind_of k
  exact wpAny_assign_Name (store_slot I F hn hs hk r e fun h' tk b m _ S I' F' => q h' tk X μ (S _ m) I' F')
noncomputable def Asl (c : Cx) (lv : Lv) (C : SC) (ts : List Expr) (f : List PV → St → Option St) : Prop :=
  ∀ A fl env X μ (s : Shared) st ds vs st' (Q : Unit → Shared → Prop) (E : Value → Shared → Prop), Calm lv A fl → Inv c fl X μ s.heap st.σ → FrS c C env X μ s.heap st.ρ → VRs c X s.heap μ ds vs → f ds st = some st' →
    (∀ h' tk X' μ', Step fl.fa (priv env) X μ s.heap X' μ' h' → Inv c fl X' μ' h' st'.σ → FrS c C env X' μ' h' st'.ρ → Q () { s with heap := h', toks := tk }) →
    wpAny c.M A (assignInOrder ((assignEach ts env).map (·.2)) vs) Q E s
noncomputable def aNil : List PV → St → Option St
  | [], st => some st
  | _, _ => none
noncomputable def aCons (f : Asg) (g : List PV → St → Option St) : List PV → St → Option St
  | d :: ds, st => (f d st).bind (g ds)
  | [], _ => none
theorem Asl_nil : Asl c lv C [] aNil := by
  intro A fl env X μ s st ds vs st' Q E ca I F r e q
  cases ds with
  | nil => obtain rfl := soJ e; exact assignInOrder_nil (q s.heap s.toks X μ (.le (.refl _)) I F)
  | cons _ _ => exact noS e
theorem Asl_cons {t : Expr} {r : List Expr} {f : Asg} {g} (h1 : As c lv C t f) (h2 : Asl c lv C r g) (he : ∀ env, assignEach (t :: r) env = (false, assign t env) :: assignEach r env) : Asl c lv C (t :: r) (aCons f g) := by
  intro A fl env X μ s st ds vs st' Q E ca I F rr e q
  cases rr with
  | nil => exact noS e
  | cons r1 r2 =>
    obtain ⟨s1, e1, e2⟩ := bind_some e
    rw [he]
    refine assignInOrder_cons (h1 A fl env X μ s st _ _ s1 _ _ ca I F r1 e1 fun h' tk X' μ' S1 I1 F1 => ?_)
    exact h2 A fl env X' μ' _ s1 _ _ st' _ _ ca I1 F1 (r2.mv (S1.mv (privX F) I.sub I.faX)) e2 fun h'' tk' X'' μ'' S2 I2 F2 => q h'' tk' X'' μ'' (S1.trans S2) I2 F2
noncomputable def aTup (n : Nat) (f : List PV → St → Option St) : Asg := fun d st => match d with
  | .tup ds => if ds.length = n then f ds st else none
  | _ => none
set_option tactic.hygienic true in
theorem A_tup {ts : List Expr} {f} (k pos) (n : Nat) (hq : lv.q = true) (h : Asl c lv C ts f) (hst : ∀ env, (assignEach ts env).findIdx? (·.1) = none ∧ (assignEach ts env).length = n) : As c lv C (.Tuple ts k pos) (aTup n f) := by
  intro A fl env X μ s st d v st' Q E ca I F r e q
  cases d <;> first | (exact noS e; done) | skip
  rename_i ds
  unfold aTup at e
  dsimp only at e
  split at e
  · rename_i hl
    cases r with | tup ht n' rs =>
    rename_i a vs
    refine assign_Tuple_tuple (ca.hd hq) ht (by rw [(hst env).2, List.size_toArray, ← rs.length, hl]) (hst env).1 fun h' ex => ?_
    have l : Le s.heap h' := fun b o e => ex b o (fun z => by rw [z, get_size] at e; exact noS e) e
    exact h A fl env X μ _ st ds vs st' _ _ ca (I.le l) (F.le l) (rs.le l) e fun h'' tk' X'' μ'' S2 I2 F2 => q h'' tk' X'' μ'' (Step.trans (.le l) S2) I2 F2
  · exact noS e
noncomputable def cAsg (f : Asg) (v : Co) : Cs := fun st => (v st).bind fun (d, σ1) => (f d ⟨st.ρ, σ1⟩).map fun s2 => (.next, s2)
theorem S_tup {elts : List Expr} {k tpos value pos} {f : Asg} {v : Co} (h1 : Ev c lv C value v) (h2 : As c lv C (.Tuple elts k tpos) f) (hs : ∀ env, swapsWithSole [.Tuple elts k tpos] value pos.line env = pure false)
    (hw : ∀ env, env.scope.kind = .function → env.scope.names = C.names → swappedStores [.Tuple elts k tpos] value env = pure none) : Xs c lv C (exec (.Assign [.Tuple elts k tpos] value pos)) (cAsg f v) := by
  intro A fl env X μ s st r st' Q E tp ca I F e q
  obtain ⟨⟨d1, σ1⟩, e1, e⟩ := bind_some e
  obtain ⟨s2, e2, e⟩ := map_some e
  obtain ⟨rfl, rfl⟩ := prS e
  refine Assign_Tuple (h1 A fl env X μ s st d1 σ1 _ _ ca I F e1 fun v h' tk X' μ' S1 I1 r1 => ?_) (hs env) (hw env F.kind F.names)
  exact h2 A fl env X' μ' _ ⟨st.ρ, σ1⟩ d1 v st' _ _ ca I1 (F.ex I S1) r1 e2 fun h'' tk' X'' μ'' S2 I2 F2 => q .next h'' tk' X'' μ'' (S1.wk.trans S2) I2 F2 trivial
noncomputable def cSwap (i j : Nat) (v : Co) : Cs := fun st => (v st).bind fun (d, σ1) => match d with
  | .tup [a, b] => (St.put ⟨st.ρ, σ1⟩ j b).bind fun s2 => (s2.put i a).map fun s3 => (.next, s3)
  | _ => none
set_option tactic.hygienic true in
theorem S_swap {elts : List Expr} {k tpos value pos} {x y : Str} {i j : Nat} {v : Co} (hq : lv.q = true) (h1 : Ev c lv C value v) (k1 : storeKind C i x = true) (k2 : storeKind C j y = true) (hs : ∀ env, swapsWithSole [.Tuple elts k tpos] value pos.line env = pure false)
    (hw : ∀ env, env.scope.kind = .function → env.scope.names = C.names → swappedStores [.Tuple elts k tpos] value env = pure (some [x, y])) : Xs c lv C (exec (.Assign [.Tuple elts k tpos] value pos)) (cSwap i j v) := by
  intro A fl env X μ s st r st' Q E tp ca I F e q
  obtain ⟨⟨d1, σ1⟩, e1, e⟩ := bind_some e
  dsimp only at e
  split at e
  · rename_i a b
    obtain ⟨s2, e2, e⟩ := bind_some e
    obtain ⟨s3, e3, e⟩ := map_some e
    obtain ⟨rfl, rfl⟩ := prS e
    obtain ⟨hs1, hn, hk1⟩ := storeKind_of k1
    obtain ⟨hs2, _, hk2⟩ := storeKind_of k2
    refine Assign_Tuple_swapped (names := [x, y]) (h1 A fl env X μ s st _ σ1 _ _ ca I F e1 fun v h' tk X' μ' S1 I1 r1 => ?_) (hs env) (hw env F.kind F.names)
    cases r1 with | tup ht nn rs =>
    rename_i t vs
    have F1 := F.ex I S1
    cases rs with | cons ra rs =>
    cases rs with | cons rb rs =>
    cases rs
    rename_i va vb
    show wpAny c.M A (unpackItems (.ref t) (#[va, vb] : Array Value).size none) _ E _
    refine unpackItems_tuple (items := #[va, vb]) (ca.hd hq) ht fun h2 ex => ?_
    have l : Le h' h2 := fun b o e => ex b o (fun z => by rw [z] at e; have := get_size h'; rw [this] at e; exact noS e) e
    replace ra := ra.le l
    replace rb := rb.le l
    show wpAny c.M A (assignInOrder [fun v => bindName env y v, fun v => bindName env x v] [vb, va]) _ E _
    refine assignInOrder_cons (bindName_ (store_slot (st := ⟨st.ρ, σ1⟩) (I1.le l) (F1.le l) hn hs2 hk2 rb e2 fun h3 tk3 b3 m3 _ S3 I3 F3 => ?_))
    have M3 := (S3 _ m3).mv (privX (F1.le l)) (I1.le l).sub I1.faX
    refine assignInOrder_cons (bindName_ (store_slot I3 F3 hn hs1 hk1 (ra.mv M3) e3 fun h4 tk4 b4 m4 _ S4 I4 F4 => assignInOrder_nil ?_))
    exact q .next h4 tk4 X' μ' (((S1.wk.trans (.le l)).trans (S3 _ m3)).trans (S4 _ m4)) I4 F4 trivial
  · exact noS e
noncomputable def Kp (c : Cx) (f : Value) : Prop := (∃ id, f = .builtin id) ∨ (∃ T, f = .type T) ∨ keepIn c.K f = true
theorem Kp.ok {f : Value} (hk : Kp c f) {A : Around} {s : Shared} {E : Value → Shared → Prop} (l : Le c.b0 s.heap) (R : Keeper → Shared → Prop) (q : ∀ k, R k s) : wpAny c.M A (keeperOf f) R E s := by
  rcases hk with ⟨id, rfl⟩ | ⟨T, rfl⟩ | hk
  · exact wpAny_pure (q _)
  · exact wpAny_pure (q _)
  · obtain ⟨k, _, L⟩ := keeps_K (M := c.M) hk s.heap (c.inK.keeps l)
    exact L.here (q k)
noncomputable def Ags (c : Cx) (lv : Lv) (C : SC) (es : List Expr) (f : Cl) : Prop :=
  ∀ A fl env X μ (s : Shared) st ds σ' (pos : Pos) (g : Value) (Q : Args → Shared → Prop) (E : Value → Shared → Prop), Calm lv A fl → Inv c fl X μ s.heap st.σ → FrS c C env X μ s.heap st.ρ → f st = some (ds, σ') →
    (∀ vs h' tk X' μ', Step fl.fa [] X μ s.heap X' μ' h' → Inv c fl X' μ' h' σ' → VRs c X' h' μ' ds vs → Q ⟨vs, []⟩ { s with heap := h', toks := tk }) →
    wpAny c.M A (evalArgs g true (backTo pos (starEach es env)) []) Q E s
theorem G_nil : Ags c lv C [] lNil := by
  intro A fl env X μ s st ds σ' pos g Q E ca I F e q
  obtain ⟨rfl, rfl⟩ := prI e
  exact evalArgs_nil3 (q [] s.heap s.toks X μ (.le (.refl _)) I .nil)
theorem G_plain {x : Expr} {r : List Expr} {f : Cl} (h : Evs c lv C (x :: r) f) (he : ∀ env, starEach (x :: r) env = (false, eval x env) :: starEach r env) : Ags c lv C (x :: r) f := by
  intro A fl env X μ s st ds σ' pos g Q E ca I F e q
  have z := h A fl env X μ s st ds σ' pos (fun vs => Q ⟨vs, []⟩) E ca I F e q
  rw [he] at z ⊢
  exact evalArgs_plain z
theorem G_star {x : Expr} {p : Pos} {f : Co} (h : Ev c lv C x f) : Ags c lv C [.Starred x p] (lStar f lNil) := by
  intro A fl env X μ s st ds σ' pos g Q E ca I F e q
  obtain ⟨⟨d1, σ1⟩, e1, e⟩ := bind_some e
  obtain ⟨xs, e2, e⟩ := bind_some e
  split at e
  · rename_i hz
    obtain ⟨⟨d2, σ2⟩, e3, e⟩ := map_some e
    obtain ⟨rfl, rfl⟩ := prI e3
    obtain ⟨rfl, rfl⟩ := prK e
    refine ks_lone (h A fl env X μ s st d1 σ1 _ _ ca I F e1 fun v1 h' tk X' μ' S1 I1 r1 => ?_)
    refine star_of I1 r1 e2 hz fun us h2' l rs => ?_
    exact q us h2' tk X' μ' (S1.trans (.le l)) (I1.le l) (by rw [List.append_nil]; exact rs)
  · exact noS e
noncomputable def cCall (g : List PV → List Cell → Option (PV × List Cell)) (fs : Cl) : Co := fun st => (fs st).bind fun (ds, σ1) => g ds σ1
theorem R_call {x : Str} {v : Value} {g} {args : List Expr} {fs : Cl} (np pos) (hg : Gl c C x v) (hk : Kp c v) (ha : Ap c lv v g) (hs : Ags c lv C args fs) : Ev c lv C (.Call (.Name x np) args [] pos) (cCall g fs) := by
  intro A fl env X μ s st d σ' Q E ca I F e q
  obtain ⟨⟨ds, σ1⟩, e1, e⟩ := bind_some e
  refine wpAny_Call_NameR (load_glob F I hg ?_ np)
  refine callWith_any (hs A fl env X μ s st ds σ1 pos v _ _ ca I F e1 fun vs h' tk X' μ' S1 I1 rs => ⟨rfl, fun R q' => hk.ok (fun b o e => (I1.base b o e).1) R q', ?_⟩)
  exact ha A fl X' μ' _ σ1 ds vs d σ' _ _ ca I1 rs e fun v h'' tk' X'' μ'' S2 I2 r2 => q v h'' tk' X'' μ'' (S1.trans S2) I2 r2
noncomputable def cLst (fs : Cl) : Co := fun st => (fs st).bind fun (ds, σ1) => if ds.length ≤ 4096 then some (.lst ds, σ1) else none
noncomputable def cTup (fs : Cl) : Co := fun st => (fs st).bind fun (ds, σ1) => if ds.length ≤ 4096 then some (.tup ds, σ1) else none
noncomputable def cLstO (fs : Cl) : Co := fun st => (fs st).bind fun (ds, σ1) => if ds.length ≤ 4096 then some (.ref σ1.length, σ1 ++ [.list ds]) else none
theorem R_list {es : List Expr} {fs : Cl} (pos) (h : Evs c lv C es fs) : Ev c lv C (.List es pos) (cLst fs) := by
  intro A fl env X μ s st d σ' Q E ca I F e q
  obtain ⟨⟨ds, σ1⟩, e1, e⟩ := bind_some e
  dsimp only at e
  split at e
  · rename_i hz
    obtain ⟨rfl, rfl⟩ := prJ e
    refine wpAny_List (h A fl env X μ s st ds σ' pos _ _ ca I F e1 fun vs h' tk X' μ' S1 I1 rs => ⟨by rw [← rs.length]; exact Nat.le_trans hz (by decide), ?_⟩)
    have l := Le.push h' { cls := .type "list", data := .seq vs.toArray }
    exact q _ _ tk X' μ' (S1.trans (.le l)) (I1.le l) (.lst ⟨_, Heap.get?_push_size _ rfl, rfl, _, rfl⟩ I1.fresh (rs.le l))
  · exact noS e
theorem R_tuple {es : List Expr} {fs : Cl} (k pos) (h : Evs c lv C es fs) : Ev c lv C (.Tuple es k pos) (cTup fs) := by
  intro A fl env X μ s st d σ' Q E ca I F e q
  obtain ⟨⟨ds, σ1⟩, e1, e⟩ := bind_some e
  dsimp only at e
  split at e
  · rename_i hz
    obtain ⟨rfl, rfl⟩ := prJ e
    refine wpAny_Tuple (h A fl env X μ s st ds σ' pos _ _ ca I F e1 fun vs h' tk X' μ' S1 I1 rs => ⟨by rw [← rs.length]; exact Nat.le_trans hz (by decide), ?_⟩)
    have l := Le.push h' { cls := .type "tuple", data := .seq vs.toArray }
    exact q _ _ tk X' μ' (S1.trans (.le l)) (I1.le l) (.tup ⟨_, Heap.get?_push_size _ rfl, rfl, _, rfl⟩ I1.fresh (rs.le l))
  · exact noS e
theorem new_cell {fl X μ h o σ cl} (I : Inv c fl X μ h σ) (nf : o.isFreed = false) (nt : NT o) (ncl : ∀ cl', cl ≠ .lock cl') (r : CR c (h.objs.size :: X) (h.push o) (μ ++ [h.objs.size]) h.objs.size cl) :
    Step fl.fa [] X μ h (h.objs.size :: X) (μ ++ [h.objs.size]) (h.push o) ∧ Inv c fl (h.objs.size :: X) (μ ++ [h.objs.size]) (h.push o) (σ ++ [cl]) ∧ VR c (h.objs.size :: X) (h.push o) (μ ++ [h.objs.size]) (.ref σ.length) (.ref h.objs.size) :=
  ⟨.new (.push _ _) (get_size _), I.new (.push _ _) (get_size _) ⟨o, Heap.get?_push_size _ nf, nt⟩ ncl I.sz r, .ref (by rw [← I.len]; simp)⟩
theorem R_listO {es : List Expr} {fs : Cl} (pos) (h : Evs c lv C es fs) : Ev c lv C (.List es pos) (cLstO fs) := by
  intro A fl env X μ s st d σ' Q E ca I F e q
  obtain ⟨⟨ds, σ1⟩, e1, e⟩ := bind_some e
  dsimp only at e
  split at e
  · rename_i hz
    obtain ⟨rfl, rfl⟩ := prI e
    refine wpAny_List (h A fl env X μ s st ds σ1 pos _ _ ca I F e1 fun vs h' tk X' μ' S1 I1 rs => ⟨by rw [← rs.length]; exact Nat.le_trans hz (by decide), ?_⟩)
    obtain ⟨S2, I2, r2⟩ := new_cell (cl := .list ds) (o := { cls := .type "list", data := .seq vs.toArray }) I1 rfl (fun _ _ _ z => by simp at z) (fun _ z => by cases z) ⟨vs, ⟨_, Heap.get?_push_size _ rfl⟩, rs.mv ((Step.new (fa := fl.fa) (pr := []) (Le.push _ _) (get_size _)).mv0 I1 rfl)⟩
    exact q _ _ tk _ _ (S1.trans S2) I2 r2
  · exact noS e
end
end Mine
end
section
set_option tactic.hygienic false
open PySem PySem.W PyProof.Rows PySem.Calls
namespace Mine
noncomputable def closL (cells : List (Str × Addr)) : List (Str × NameKind) → List (Str × Addr) → List (Str × Addr)
  | [], acc => acc
  | (n, k) :: r, acc => if k == .free then closL cells r ((n, (cells.lookup n).getD 0) :: acc) else closL cells r acc
theorem closureFor_is {scope : Scope} {env : Env} (h : ∀ p ∈ scope.names, p.2 = .free → (env.cells.lookup p.1).isSome = true) : closureFor scope env = pure (closL env.cells scope.names []) := by
  have key : ∀ (names : List (Str × NameKind)) (acc : List (Str × Addr)), (∀ p ∈ names, p.2 = .free → (env.cells.lookup p.1).isSome = true) →
      (forIn names acc fun (x : Str × NameKind) (r : List (Str × Addr)) => (if (x.2 == NameKind.free) = true then (do let a ← cellOf env x.1; pure (ForInStep.yield ((x.1, a) :: r))) else pure (ForInStep.yield r) : Sem (ForInStep (List (Str × Addr))))) = pure (closL env.cells names acc) := by
    intro names
    induction names with
    | nil => intro acc _; rw [List.forIn_nil]; rfl
    | cons p r ih =>
      obtain ⟨n, k⟩ := p
      intro acc hh
      rw [List.forIn_cons]
      unfold closL
      cases hk : k == NameKind.free with
      | false => simp only [Bool.false_eq_true, if_false]; exact ih acc fun p m => hh p (.tail _ m)
      | true =>
        have hs := hh (n, k) (.head _) (beq_iff_eq.mp hk)
        obtain ⟨a, ha⟩ := Option.isSome_iff_exists.mp hs
        simp only [if_true, ha, Option.getD_some]
        have hc : cellOf env n = pure a := by unfold cellOf; rw [ha]
        rw [hc]
        exact ih _ fun p m => hh p (.tail _ m)
  simp only [closureFor]
  have := key scope.names [] h
  exact (congrArg (fun t => t >>= fun s => pure s) this).trans rfl
theorem cellsFrom_app : ∀ (names : List (Str × NameKind)) (n : Nat) (acc : List (Str × Addr)), cellsFrom n names acc = cellsFrom n names [] ++ acc
  | [], _, _ => rfl
  | (y, k) :: r, n, acc => by
    unfold cellsFrom
    split
    · rw [cellsFrom_app r (n + 1) ((y, n) :: acc), cellsFrom_app r (n + 1) [(y, n)], List.append_assoc]; rfl
    · exact cellsFrom_app r n acc
theorem mem_cellsFrom : ∀ (names : List (Str × NameKind)) (n : Nat) (y : Str) (a : Addr), (y, a) ∈ cellsFrom n names [] → (y, NameKind.cell) ∈ names
  | [], _, _, _, m => nomatch m
  | (z, k) :: r, n, y, a, m => by
    unfold cellsFrom at m
    split at m
    · rename_i hk
      rw [cellsFrom_app] at m
      rcases List.mem_append.mp m with m | m
      · exact .tail _ (mem_cellsFrom r _ y a m)
      · cases List.mem_singleton.mp m
        rw [← beq_iff_eq.mp hk]; exact .head _
    · exact .tail _ (mem_cellsFrom r _ y a m)
theorem lookup_mem_kind {y : Str} {k : NameKind} : ∀ {l : List (Str × NameKind)}, (l.map (·.1)).Nodup → (y, k) ∈ l → l.lookup y = some k
  | (z, b) :: r, nd, m => by
    rw [List.map_cons, List.nodup_cons] at nd
    rw [List.lookup_cons]
    rcases List.mem_cons.mp m with q | m
    · obtain ⟨rfl, rfl⟩ := prS q; simp
    · have : (y == z) = false := by
        cases h : y == z with
        | false => rfl
        | true => exact absurd (beq_iff_eq.mp h ▸ List.mem_map.mpr ⟨_, m, rfl⟩) nd.1
      rw [this]; exact lookup_mem_kind nd.2 m
theorem lookup_kind_mem {y : Str} {k : NameKind} : ∀ {l : List (Str × NameKind)}, l.lookup y = some k → (y, k) ∈ l
  | (z, b) :: r, e => by
    rw [List.lookup_cons] at e
    cases hx : y == z with
    | true => rw [hx] at e; obtain rfl := soJ e; rw [beq_iff_eq.mp hx]; exact .head _
    | false => rw [hx] at e; exact .tail _ (lookup_kind_mem e)
theorem closL_out (cells : List (Str × Addr)) (y : Str) : ∀ (names : List (Str × NameKind)) (acc : List (Str × Addr)), y ∉ names.map (·.1) → (closL cells names acc).lookup y = acc.lookup y
  | [], _, _ => rfl
  | (z, k) :: r, acc, h => by
    have hr : y ∉ r.map (·.1) := fun q => h (.tail _ q)
    unfold closL
    split
    · rw [closL_out cells y r _ hr, List.lookup_cons]
      have : (y == z) = false := by
        cases q : y == z with
        | false => rfl
        | true => exact absurd (beq_iff_eq.mp q ▸ .head _) h
      rw [this]
    · exact closL_out cells y r acc hr
theorem closL_get (cells : List (Str × Addr)) (y : Str) : ∀ (names : List (Str × NameKind)) (acc : List (Str × Addr)), (names.map (·.1)).Nodup → (y, NameKind.free) ∈ names → (closL cells names acc).lookup y = some ((cells.lookup y).getD 0)
  | (z, k) :: r, acc, nd, m => by
    rw [List.map_cons, List.nodup_cons] at nd
    unfold closL
    rcases List.mem_cons.mp m with q | m
    · obtain ⟨rfl, rfl⟩ := prK q
      rw [if_pos (by decide), closL_out cells y r _ nd.1, List.lookup_cons]
      simp
    · split
      · exact closL_get cells y r _ nd.2 m
      · exact closL_get cells y r _ nd.2 m
theorem mem_closL (cells : List (Str × Addr)) : ∀ (names : List (Str × NameKind)) (acc : List (Str × Addr)) (p : Str × Addr), p ∈ closL cells names acc → p ∈ acc ∨ ((p.1, NameKind.free) ∈ names ∧ p.2 = (cells.lookup p.1).getD 0)
  | [], _, _, m => .inl m
  | (z, k) :: r, acc, p, m => by
    unfold closL at m
    split at m
    · rename_i hk
      rcases mem_closL cells r _ p m with q | ⟨q, e⟩
      · rcases List.mem_cons.mp q with q | q
        · subst q; exact .inr ⟨by rw [← beq_iff_eq.mp hk]; exact .head _, rfl⟩
        · exact .inl q
      · exact .inr ⟨.tail _ q, e⟩
    · rcases mem_closL cells r _ p m with q | ⟨q, e⟩
      · exact .inl q
      · exact .inr ⟨.tail _ q, e⟩
theorem closL_keys (cells : List (Str × Addr)) : ∀ (names : List (Str × NameKind)) (acc : List (Str × Addr)), (names.map (·.1)).Nodup → (acc.map (·.1)).Nodup → (∀ y ∈ acc.map (·.1), y ∉ names.map (·.1)) → ((closL cells names acc).map (·.1)).Nodup
  | [], _, _, h, _ => h
  | (z, k) :: r, acc, nd, h, dj => by
    rw [List.map_cons, List.nodup_cons] at nd
    unfold closL
    split
    · refine closL_keys cells r _ nd.2 ?_ fun y m => ?_
      · rw [List.map_cons, List.nodup_cons]
        exact ⟨fun q => dj z q (.head _), h⟩
      · rw [List.map_cons] at m
        rcases List.mem_cons.mp m with q | m
        · subst q; exact nd.1
        · exact fun q => dj y m (.tail _ q)
    · exact closL_keys cells r _ nd.2 h fun y m q => dj y m (.tail _ q)
theorem lookup_inj {l : List (Str × Addr)} (nd : (l.map (·.2)).Nodup) {x y : Str} {a : Addr} (ex : l.lookup x = some a) (ey : l.lookup y = some a) : x = y := by
  induction l with
  | nil => simp at ex
  | cons p r ih =>
    obtain ⟨n, b⟩ := p
    rw [List.map_cons, List.nodup_cons] at nd
    rw [List.lookup_cons] at ey ex
    cases h1 : y == n with
    | true =>
      rw [h1] at ey
      obtain rfl := soJ ey
      cases h2 : x == n with
      | true => exact (beq_iff_eq.mp h2).trans (beq_iff_eq.mp h1).symm
      | false => rw [h2] at ex; exact absurd (lookup_mem ex) nd.1
    | false =>
      rw [h1] at ey
      cases h2 : x == n with
      | true => rw [h2] at ex; obtain rfl := soJ ex; exact absurd (lookup_mem ey) nd.1
      | false => rw [h2] at ex; exact ih nd.2 ex ey
theorem lookup_app {β : Type} {y : Str} : ∀ (l r : List (Str × β)), (l ++ r).lookup y = (l.lookup y).or (r.lookup y)
  | [], _ => rfl
  | (z, b) :: l, r => by
    rw [List.cons_append, List.lookup_cons, List.lookup_cons]
    cases y == z with
    | true => rfl
    | false => exact lookup_app l r
noncomputable def compNames (C : SC) (names : List (Str × NameKind)) : List (Str × NameKind) := names.map fun p => if p.2 == .free && C.names.lookup p.1 == some .cell then (p.1, .cell) else p
noncomputable def compOk (C : SC) (names : List (Str × NameKind)) (x : Str) : Bool :=
  decide (names.map (·.1)).Nodup && names.all (fun p => !(p.2 == .free) || (C.names.lookup p.1 == some .cell || C.names.lookup p.1 == some .free))
  && C.slots.all (fun y => names.lookup y != some .local && names.lookup y != some .cell) && decide (C.slots ++ [x]).Nodup && (names.lookup x == some .local || names.lookup x == some .cell)
noncomputable abbrev compC (C : SC) (names : List (Str × NameKind)) (x : Str) : SC := ⟨compNames C names, C.slots ++ [x]⟩
theorem compNames_lookup (C : SC) (y : Str) : ∀ names : List (Str × NameKind), (compNames C names).lookup y = (names.lookup y).map fun k => if k == .free && C.names.lookup y == some .cell then .cell else k
  | [] => rfl
  | (z, k) :: r => by
    have ih := compNames_lookup C y r
    unfold compNames at ih ⊢
    have hd : (if (k == NameKind.free && C.names.lookup z == some NameKind.cell) = true then (z, NameKind.cell) else (z, k)) = (z, if (k == NameKind.free && C.names.lookup z == some NameKind.cell) = true then NameKind.cell else k) := by split <;> rfl
    rw [List.map_cons, List.lookup_cons]
    dsimp only
    rw [hd, List.lookup_cons]
    cases h : y == z with
    | true => rw [beq_iff_eq.mp h]; rfl
    | false => exact ih
theorem pushCells_le (h : Heap) (names : List (Str × NameKind)) : Le h (pushCells h names) := pushCells_keeps names h
set_option maxHeartbeats 1000000 in
theorem comp_env {c : Cx} {C : SC} {A : Around} {env : Env} {fl : Lx} {X μ : List Addr} {s : Shared} {σ : List Cell} {ρ : List (Option PV)} {scope : Scope} {x : Str} {Q : Env → Shared → Prop} {E : Value → Shared → Prop}
    (F : FrS c C env X μ s.heap ρ) (I : Inv c fl X μ s.heap σ) (hk : scope.kind = .function) (ok : compOk C scope.names x = true)
    (q : ∀ cenv h' ws, Le s.heap h' → cenv.locals ∈ ws → (∀ a ∈ ws, s.heap.get? a = none ∧ ∃ o, h'.get? a = some o ∧ NT o) → h'.Ns cenv.locals (fun _ => none) → (∀ b ∈ priv cenv, b ∈ ws ∨ b ∈ priv env) → (∀ b, cenv.cells.lookup x = some b → b ∈ ws) →
      (∀ pr, Step fl.fa pr X μ s.heap (ws ++ X) μ h') → Inv c fl (ws ++ X) μ h' σ → FrS c C env (ws ++ X) μ h' ρ → FrS c (compC C scope.names x) { cenv with scope := relabel scope env } (ws ++ X) μ h' (ρ ++ [none]) → Q cenv { s with heap := h' }) :
    closureFor scope env = pure (closL env.cells scope.names []) ∧ wpAny c.M A (newFunctionEnv scope env.globals (closL env.cells scope.names []) [] env.qual none .none (some env)) Q E s := by
  simp only [compOk, Bool.and_eq_true, decide_eq_true_eq, List.all_eq_true, Bool.or_eq_true, Bool.not_eq_true', bne_iff_ne, beq_iff_eq, beq_eq_false_iff_ne] at ok
  obtain ⟨⟨⟨⟨nd, fr⟩, sl⟩, sn⟩, hx⟩ := ok
  have cellOf : ∀ y, (y, NameKind.free) ∈ scope.names → ∃ a o cv, env.cells.lookup y = some a ∧ s.heap.get? a = some o ∧ o.data = .cell cv ∧ ∀ (i : Nat) d, C.slots[i]? = some y → (ρ[i]?).join = some d → ∃ v, cv = some v ∧ VR c X s.heap μ d v := fun y m =>
    F.cel y ((fr _ m).elim (fun z => absurd rfl z) id)
  refine ⟨closureFor_is fun p m e => ?_, ?_⟩
  · obtain ⟨a, _, _, e1, _⟩ := cellOf p.1 (by rw [← e]; exact m)
    rw [e1]; rfl
  simp only [newFunctionEnv, Option.isSome_some, if_true]
  refine wpAny_bind (wpAny_alloc ?_)
  generalize hC0 : s.heap.objs.size = C0
  generalize hH3 : s.heap.push { cls := .type "dict", data := .dict #[] } = H3
  have hsz : H3.objs.size = C0 + 1 := by rw [← hH3, Heap.size_push, hC0]
  refine wpAny_bind (wpAny_layCells _ (fun name kind cells => by cases hkc : kind == NameKind.cell <;> simp [hkc]) _ _ _ _ ?_)
  have okc := cellsFrom_ok scope.names H3 (C0 + 1) [] ⟨fun _ _ hm => (nomatch hm), List.Pairwise.nil⟩ (by rw [hsz]; exact Nat.le_refl _)
  dsimp only
  rw [hsz] at okc ⊢
  generalize hncl : cellsFrom (C0 + 1) scope.names [] = ncl at okc
  rw [cellsFrom_app, hncl]
  generalize hH4 : pushCells H3 scope.names = H4 at okc
  have l3 : Le s.heap H3 := hH3 ▸ Le.push _ _
  have l4 : Le H3 H4 := hH4 ▸ pushCells_le _ _
  have l : Le s.heap H4 := l3.trans l4
  refine wpAny_bind ?_
  rw [List.forIn_nil]
  refine wpAny_pure (wpAny_pure ?_)
  have hcl3 : H3.get? C0 = some { cls := .type "dict", data := .dict #[] } := by rw [← hH3, ← hC0]; exact Heap.get?_push_size _ rfl
  have above : ∀ p ∈ ncl, C0 < p.2 := fun p m => (okc.empty p.1 p.2 m).2
  have fresh : ∀ a, C0 ≤ a → s.heap.get? a = none := fun a h => by
    cases g : s.heap.get? a with
    | none => rfl
    | some o => have := Heap.lt_size g; rw [hC0] at this; exact absurd h (Nat.not_le.mpr this)
  have new : ∀ a ∈ C0 :: ncl.map (·.2), s.heap.get? a = none ∧ ∃ o, H4.get? a = some o ∧ NT o := fun a m => by
    rcases List.mem_cons.mp m with rfl | m
    · exact ⟨fresh _ (Nat.le_refl _), _, l4 _ _ hcl3, fun _ _ z => by cases z⟩
    · obtain ⟨p, hp, rfl⟩ := List.mem_map.mp m
      obtain ⟨o, g, d⟩ := (okc.empty p.1 p.2 hp).1
      exact ⟨fresh _ (Nat.le_of_lt (above p hp)), o, g, fun xs n z => by rw [d] at z; cases z⟩
  have hid := fun pr => I.hides (pr := pr) l (ws := C0 :: ncl.map (·.2)) new
  have M := (hid []).1.mv0 I rfl
  have clmem : ∀ p ∈ closL env.cells scope.names [], (p.1, NameKind.free) ∈ scope.names ∧ env.cells.lookup p.1 = some p.2 := fun p m => by
    rcases mem_closL _ _ _ p m with z | ⟨z, e⟩
    · cases z
    · obtain ⟨a, _, _, e1, _⟩ := cellOf p.1 z
      rw [e1] at e
      exact ⟨z, by rw [e1, e]; rfl⟩
  have cladr : ∀ p ∈ closL env.cells scope.names [], p.2 ∈ env.cells.map (·.2) := fun p m => lookup_mem (clmem p m).2
  have nolk : ∀ y, (y, NameKind.cell) ∉ scope.names → ncl.lookup y = none := fun y n => by
    cases g : ncl.lookup y with
    | none => rfl
    | some a => exact absurd (mem_cellsFrom _ _ y a (hncl ▸ lookup_pair g)) n
  have envnd : (env.cells.map (·.2)).Nodup := (List.nodup_cons.mp F.nod).2
  refine q _ H4 (C0 :: ncl.map (·.2)) l (.head _) new ((Heap.Ns.new s.heap (.type "dict")) |> fun z => by rw [hH3, hC0] at z; exact z.keeps l4) (fun b m => ?_) (fun b e => ?_) (fun pr => (hid pr).1) (hid []).2
    (F.keep (fun a _ o e => ⟨o.slots, l a o e⟩) M fun a m => ⟨List.mem_append_right _ (F.pX a m).1, (F.pX a m).2⟩) ?_
  · rcases List.mem_cons.mp m with rfl | m
    · exact .inl (.head _)
    · dsimp only at m
      rw [List.map_append] at m
      rcases List.mem_append.mp m with m | m
      · exact .inl (.tail _ m)
      · obtain ⟨p, hp, rfl⟩ := List.mem_map.mp m
        exact .inr (.tail _ (cladr p hp))
  · dsimp only at e
    rw [lookup_app] at e
    cases g : ncl.lookup x with
    | some a => rw [g] at e; obtain rfl := soJ e; exact .tail _ (lookup_mem g)
    | none =>
      rw [g] at e
      have := (clmem _ (lookup_pair e)).1
      have z := lookup_mem_kind nd this
      dsimp only at z
      rcases hx with hx | hx <;> rw [hx] at z <;> cases z
  · have privm : ∀ a ∈ C0 :: (ncl ++ closL env.cells scope.names []).map (·.2), a ∈ (C0 :: ncl.map (·.2)) ∨ a ∈ env.cells.map (·.2) := fun b m => by
      rcases List.mem_cons.mp m with rfl | m
      · exact .inl (.head _)
      · rw [List.map_append] at m
        rcases List.mem_append.mp m with m | m
        · exact .inl (.tail _ m)
        · obtain ⟨p, hp, rfl⟩ := List.mem_map.mp m
          exact .inr (cladr p hp)
    have lkc : ∀ y, (compNames C scope.names).lookup y = some .cell ∨ (compNames C scope.names).lookup y = some .free → (y, NameKind.cell) ∈ scope.names ∨ (y, NameKind.free) ∈ scope.names := fun y h => by
      rw [compNames_lookup] at h
      cases g : scope.names.lookup y with
      | none => rw [g] at h; rcases h with h | h <;> exact noS h
      | some k =>
        rw [g] at h
        have hm := lookup_kind_mem g
        cases k <;> first | exact .inl hm | exact .inr hm | (exfalso; rcases h with h | h <;> simp at h)
    refine ⟨hk, ?_, F.glob, F.blt, by rw [List.length_append, List.length_append, F.len]; rfl, fun a m => ?_, ?_, ⟨fun _ => none, (Heap.Ns.new s.heap (.type "dict")) |> fun z => by rw [hH3, hC0] at z; exact z.keeps l4, fun i y d hy hl hd => ?_⟩, fun y hy => ?_⟩
    · show (scope.names.map fun (n, k) => if (k == .free && env.scope.kind == .function && env.kindOf n == some .cell) then (n, NameKind.cell) else (n, k)) = compNames C scope.names
      unfold compNames
      refine List.map_congr_left fun p _ => ?_
      obtain ⟨n, k⟩ := p
      simp only [F.kind, F.kindOf]
      simp
    · rcases privm a m with z | z
      · exact ⟨List.mem_append_left _ z, fun zμ => by obtain ⟨o, g⟩ := I.ex (I.sub a zμ); rw [(new a z).1] at g; exact noS g⟩
      · exact ⟨List.mem_append_right _ (F.pX a (.tail _ z)).1, (F.pX a (.tail _ z)).2⟩
    · show (C0 :: (ncl ++ closL env.cells scope.names []).map (·.2)).Nodup
      have exC : ∀ p ∈ closL env.cells scope.names [], p.2 < C0 := fun p m => by
        obtain ⟨o, g⟩ := I.ex (F.pX p.2 (.tail _ (cladr p m))).1
        have := Heap.lt_size g; rw [hC0] at this; exact this
      rw [List.nodup_cons, List.map_append, List.nodup_append]
      refine ⟨fun m => ?_, ?_, ?_, fun a ha b hb z => ?_⟩
      · rcases List.mem_append.mp m with m | m
        · obtain ⟨p, hp, e⟩ := List.mem_map.mp m
          have := above p hp; rw [e] at this; exact Nat.lt_irrefl _ this
        · obtain ⟨p, hp, e⟩ := List.mem_map.mp m
          have := exC p hp; rw [e] at this; exact Nat.lt_irrefl _ this
      · rw [List.nodup_iff_pairwise_ne, List.pairwise_map]; exact okc.apart
      · have kn := closL_keys env.cells scope.names [] nd List.nodup_nil (fun _ m => nomatch m)
        rw [List.nodup_iff_pairwise_ne, List.pairwise_map] at kn ⊢
        refine List.Pairwise.imp_of_mem (fun {p r} hp hr ne z => ne ?_) kn
        exact lookup_inj envnd (clmem p hp).2 (z ▸ (clmem r hr).2)
      · obtain ⟨p, hp, e⟩ := List.mem_map.mp ha
        obtain ⟨r, hr, e'⟩ := List.mem_map.mp hb
        have h1 := above p hp
        have h2 := exC r hr
        rw [e] at h1; rw [e', ← z] at h2
        exact Nat.lt_irrefl _ (Nat.lt_trans h1 h2)
    · exfalso
      by_cases hi : i < C.slots.length
      · rw [List.getElem?_append_left hi] at hy
        have := sl y (List.mem_of_getElem? hy)
        rw [compNames_lookup] at hl
        cases g : scope.names.lookup y with
        | none => rw [g] at hl; exact noS hl
        | some k =>
          rw [g] at hl this
          cases k <;> first | exact this.1 rfl | (exfalso; simp at hl; done) | (exfalso; simp only [Option.map_some] at hl; split at hl <;> cases hl)
      · rw [List.getElem?_append_right (by rw [F.len]; exact Nat.not_lt.mp hi)] at hd
        cases hj : i - ρ.length with
        | zero => rw [hj] at hd; exact noS hd
        | succ j => rw [hj] at hd; exact noS hd
    · rcases lkc y hy with m | m
      · obtain ⟨a, ha⟩ := Option.isSome_iff_exists.mp (cellsFrom_some (x := y) scope.names (C0 + 1) [] (.inl (lookup_mem_kind nd m)))
        rw [hncl] at ha
        obtain ⟨o, g, d⟩ := (okc.empty y a (lookup_pair ha)).1
        refine ⟨a, o, none, by rw [lookup_app, ha]; rfl, g, d, fun i d' hs hd => ?_⟩
        exfalso
        by_cases hi : i < C.slots.length
        · rw [List.getElem?_append_left hi] at hs
          exact (sl y (List.mem_of_getElem? hs)).2 (lookup_mem_kind nd m)
        · rw [List.getElem?_append_right (by rw [F.len]; exact Nat.not_lt.mp hi)] at hd
          cases hj : i - ρ.length with
          | zero => rw [hj] at hd; exact noS hd
          | succ j => rw [hj] at hd; exact noS hd
      · obtain ⟨a, o, cv, e1, g, d, r⟩ := cellOf y m
        have nc : (y, NameKind.cell) ∉ scope.names := fun z => by
          have h1 := lookup_mem_kind nd z
          have h2 := lookup_mem_kind nd m
          rw [h1] at h2; cases h2
        refine ⟨a, o, cv, by rw [lookup_app, nolk y nc, closL_get _ y _ _ nd m, e1]; rfl, l _ _ g, d, fun i d' hs hd => ?_⟩
        by_cases hi : i < C.slots.length
        · rw [List.getElem?_append_left hi] at hs
          rw [List.getElem?_append_left (by rw [F.len]; exact hi)] at hd
          obtain ⟨v, a1, a2⟩ := r i d' hs hd
          exact ⟨v, a1, a2.mv M⟩
        · exfalso
          rw [List.getElem?_append_right (by rw [F.len]; exact Nat.not_lt.mp hi)] at hd
          cases hj : i - ρ.length with
          | zero => rw [hj] at hd; exact noS hd
          | succ j => rw [hj] at hd; exact noS hd
end Mine
end
section
set_option tactic.hygienic false
open PySem PySem.W PyProof.Rows PySem.Calls
namespace Mine
noncomputable def notOwner (n : String) : Bool := !["enumerate", "zip", "dict_itemiterator", "dict_reverseitemiterator", "odict_iterator", "itertools.zip_longest", "itertools.pairwise"].contains n
noncomputable def ItW (c : Cx) (lv : Lv) (itm : List Cell → PV → Option (List PV)) : Prop :=
  ∀ A fl X μ (s : Shared) σ v d ds (Q : Value → Shared → Prop) (E : Value → Shared → Prop), Calm lv A fl → Inv c fl X μ s.heap σ → VR c X s.heap μ d v → itm σ d = some ds →
    (∀ I h' tk fp wr P StP, Le s.heap h' → (∀ b ∈ wr, s.heap.get? b = none) → (∀ i h, StP i h → ∀ b ∈ wr, ∃ o, h.get? b = some o ∧ NT o) → Walks c.prog c.w A I fp wr ds.length P StP → StP 0 h' →
      (∀ b ∈ fp, b ∈ wr ∨ ∃ o, s.heap.get? b = some o ∧ (b ∉ X ∨ (b, o) ∈ fl.lk)) →
      (∀ i u, P i u → ∃ d, ds[i]? = some d ∧ VR c X s.heap μ d u) → (∀ i h, StP i h → ∃ n o, h.get? I = some o ∧ o.cls = .type n ∧ notOwner n = true) → Q (.ref I) { s with heap := h', toks := tk }) →
    wpAny c.M A (pyIter v) Q E s
theorem notOwner_go {M : Model} {A : Around} {target : Expr} {I : Addr} {v : Value} {s : Shared} {Q : Unit → Shared → Prop} {E} {n : String} {o : Obj} (g : s.heap.get? I = some o) (hc : o.cls = .type n) (hn : notOwner n = true) (q : Q () s) :
    wpAny M A (letOwnedTupleGo target (.ref I) v) Q E s := by
  have core : wpAny M A (do
      let (.ref r, .ref a) := ((Value.ref I), v) | return
      let o ← load r
      match o.cls, o.data with
      | .type n, .fields vs =>
        if ["enumerate", "zip", "dict_itemiterator", "dict_reverseitemiterator", "odict_iterator", "itertools.zip_longest", "itertools.pairwise"].contains n && vs[0]? == some (rawInt a) then
          rule "for.unpacks-the-owned-tuple"
          updateField r 0 .none
      | _, _ => pure ()) Q E s := by
    cases v <;> first | exact wpAny_pure q | skip
    refine wpAny_bind (wpAny_load g ?_)
    rw [hc]
    cases o.data <;> first | exact wpAny_pure q | skip
    dsimp only
    have : ["enumerate", "zip", "dict_itemiterator", "dict_reverseitemiterator", "odict_iterator", "itertools.zip_longest", "itertools.pairwise"].contains n = false := by simpa [notOwner] using hn
    rw [this, Bool.false_and]
    exact wpAny_pure q
  unfold letOwnedTupleGo
  cases target <;> first | exact core | exact wpAny_pure q
theorem ItW.ok {c : Cx} {lv : Lv} {itm} (h : ItW c lv itm) (target : Expr) : ItOk c lv target itm := by
  intro A fl X μ s σ v d ds Q E ca I r e q
  refine h A fl X μ s σ v d ds Q E ca I r e fun It h' tk fp wr P StP l hwr hsx W st0 hfp hit nit => ?_
  refine q It h' tk fp wr _ _ StP l hwr hsx (KTurns.ofWalks W fun i v s Q E st q => ?_) st0 hfp fun i u h'' X'' μ'' σ'' hi hP m _ => ?_
  · obtain ⟨n, o, g, hc, hn⟩ := nit i _ st
    exact notOwner_go g hc hn q
  · obtain ⟨d, e1, r1⟩ := hit i u hP
    exact ⟨d, e1, r1.mv m⟩
noncomputable def Tm (c : Cx) (lv : Lv) (C : SC) (ifs : List Expr) (f : Ct) : Prop :=
  ∀ A fl env X μ (s : Shared) st b σ' (Q : Bool → Shared → Prop) (E : Value → Shared → Prop), Calm lv A fl → Inv c fl X μ s.heap st.σ → FrS c C env X μ s.heap st.ρ → f st = some (b, σ') →
    (∀ h' tk X' μ', Step fl.fa [] X μ s.heap X' μ' h' → Inv c fl X' μ' h' σ' → Q b { s with heap := h', toks := tk }) →
    wpAny c.M A (forIn ifs true fun c r => if r = true then do let ok ← isTrue c env (eval c env); pure (ForInStep.yield ok) else pure (ForInStep.yield r)) Q E s
noncomputable def tAll : Ct := fun st => some (true, st.σ)
theorem Tm_nil {c lv C} : Tm c lv C [] tAll := by
  intro A fl env X μ s st b σ' Q E ca I F e q
  obtain ⟨rfl, rfl⟩ := prI e
  exact wpAny_tests_nil (q s.heap s.toks X μ (.le (.refl _)) I)
theorem Tm_one {c lv C} {t : Expr} {f : Ct} (h : Et c lv C t f) : Tm c lv C [t] f := by
  intro A fl env X μ s st b σ' Q E ca I F e q
  exact wpAny_tests_one (h A fl env X μ s st b σ' Q E ca I F e q)
noncomputable abbrev Emit := Cell → St → Option (Cell × List Cell)
noncomputable def Em (c : Cx) (lv : Lv) (C : SC) (T : Around → Env → Addr → (Value → Shared → Prop) → (Shared → Prop) → Shared → Prop) (em : Emit) : Prop :=
  ∀ A fl env X μ (s : Shared) st D acc acc' σ' (Q : Shared → Prop) (E : Value → Shared → Prop), Calm lv A fl → Inv c fl X μ s.heap st.σ → FrS c C env X μ s.heap st.ρ → CR c X s.heap μ D acc → D ∈ X → D ∉ μ → D ∉ priv env → D ∉ fl.fa → em acc st = some (acc', σ') →
    (∀ h' tk X' μ', Step fl.fa [D] X μ s.heap X' μ' h' → Inv c fl X' μ' h' σ' → CR c X' h' μ' D acc' → Q { s with heap := h', toks := tk }) → T A env D E Q s
noncomputable def emList (fe : Co) : Emit := fun acc st => match acc with
  | .list rs => (fe st).bind fun (r, σ') => if rs.length ≤ 4096 then some (.list (rs ++ [r]), σ') else none
  | _ => none
noncomputable abbrev TList (c : Cx) (elt : Expr) (A : Around) (env : Env) (D : Addr) (E : Value → Shared → Prop) (Q : Shared → Prop) (s : Shared) : Prop :=
  wpAny c.M A (eval elt env) (fun x s₄ => wpAny c.M A (call (.builtin "list.append") [.ref D, x]) (fun _ s₅ => Q s₅) E s₄) E s
theorem Step.mvD {fl : Lx} {D : Addr} {X μ X' μ' : List Addr} {h h' : Heap} {c : Cx} {σ : List Cell} (S : Step fl.fa [D] X μ h X' μ' h') (I : Inv c fl X μ h σ) (m : D ∈ X) : Mv X h μ X' h' μ' :=
  S.mv (fun b q => by rw [List.mem_singleton.mp q]; exact m) I.sub I.faX
set_option tactic.hygienic true in
theorem Em_list {c : Cx} {lv : Lv} {C : SC} {elt : Expr} {fe : Co} (h : Ev c lv C elt fe) : Em c lv C (TList c elt) (emList fe) := by
  intro A fl env X μ s st D acc acc' σ' Q E ca I F cr hX hm hp hf e q
  cases acc <;> first | (exact noS e; done) | skip
  rename_i rs
  obtain ⟨⟨r, σ1⟩, e1, e⟩ := bind_some e
  dsimp only at e
  split at e
  · rename_i hz
    obtain ⟨rfl, rfl⟩ := prJ e
    refine h A fl env X μ s st r σ' _ _ ca I F e1 fun v h' tk X' μ' S1 I1 r1 => ?_
    obtain ⟨vs, pl, rs1⟩ := cr
    have pl1 : h'.PlainList D vs.toArray := pl.at fun o e => S1.kp D o e (fun z => nomatch z) hm hf
    have hm1 : D ∉ μ' := fun z => (S1.newμ D z).elim hm fun z => by obtain ⟨n, g⟩ := pl; rw [z] at g; exact noS g
    refine wpAny_list_append_plain pl1 (fun h2 hl2 sb => ?_) (by rw [List.size_toArray, ← rs1.length]; exact Nat.le_trans hz (by decide))
    obtain ⟨n1, g1⟩ := pl1
    obtain ⟨n2, g2⟩ := hl2
    have S2 : Step fl.fa [D] X' μ' h' X' μ' h2 := .same sb (.inl (.head _)) fun o _ => ⟨_, g2, fun _ vs z => by cases z⟩
    have hX' := S1.subX D hX
    have I2 : Inv c fl X' μ' h2 σ' := I1.same S2 (fun b m => by rw [List.mem_singleton.mp m]; exact hX') sb hm1 ⟨_, g2, fun _ _ _ z => by simp at z⟩
    have M := S2.mvD I1 hX'
    refine q h2 tk X' μ' (S1.wk.trans S2) I2 ⟨vs ++ [v], ⟨n2, by simpa using g2⟩, ((rs1.mv (S1.mv0 I rfl)).mv M).app (.one (r1.mv M))⟩
  · exact noS e
noncomputable def compGo (ft : Ct) (em : Emit) (ρ : List (Option PV)) : List PV → Cell → List Cell → Option (Cell × List Cell)
  | [], acc, σ => some (acc, σ)
  | d :: ds, acc, σ => (ft ⟨ρ ++ [some d], σ⟩).bind fun (b, σ1) => if b then (em acc ⟨ρ ++ [some d], σ1⟩).bind fun (acc', σ2) => compGo ft em ρ ds acc' σ2 else compGo ft em ρ ds acc σ1
theorem Wr.step' {fl env wr X μ h h' X₀ μ₀ h₀ pr} (w : Wr fl env wr X μ h h') {X'} (S : Step fl.fa pr X₀ μ₀ h₀ X μ h) (n : ∀ b ∈ wr, h₀.get? b = none) (s1 : ∀ b ∈ X', b ∈ X) (s2 : ∀ b ∈ X₀, b ∈ X') : Step fl.fa pr X₀ μ₀ h₀ X' μ h' where
  kp := fun b o e p m f => w.kp b o (fun q => by rw [n b q] at e; exact noS e) (S.kp b o e p m f)
  kf := fun b o e p m => let ⟨sl, e'⟩ := S.kf b o e p m; ⟨sl, w.kp b _ (fun q => by rw [n b q] at e; exact noS e) e'⟩
  nf := fun b o e => let ⟨o', e', q⟩ := S.nf b o e; ⟨o', w.kp b o' (fun q => by rw [n b q] at e; exact noS e) e', q⟩
  subX := s2
  newX := fun b m => S.newX b (s1 b m)
  pre := S.pre
  newμ := S.newμ
theorem Step.behind {fa pr X₀ μ₀ h₀ X μ h X' μ' h'} {b : Addr} (S : Step fa pr X₀ μ₀ h₀ X μ h) (T : Step fa [b] X μ h X' μ' h') (n : h₀.get? b = none) : Step fa pr X₀ μ₀ h₀ X' μ' h' where
  kp := fun x o e p m f => T.kp x o (S.kp x o e p m f) (fun z => by rw [List.mem_singleton.mp z] at e; rw [n] at e; exact noS e) (fun z => (S.newμ x z).elim m fun z => by rw [z] at e; exact noS e) f
  kf := fun x o e p m => by
    obtain ⟨sl, e'⟩ := S.kf x o e p m
    obtain ⟨sl', e''⟩ := T.kf x _ e' (fun z => by rw [List.mem_singleton.mp z] at e; rw [n] at e; exact noS e) (fun z => (S.newμ x z).elim m fun z => by rw [z] at e; exact noS e)
    exact ⟨sl', e''⟩
  nf := fun x o e => let ⟨o', e', n'⟩ := S.nf x o e; let ⟨o'', e'', n''⟩ := T.nf x o' e'; ⟨o'', e'', fun q => n'' (n' q)⟩
  subX := fun x m => T.subX x (S.subX x m)
  newX := fun x m => (T.newX x m).elim (S.newX x) fun q => .inr (S.gone q)
  pre := S.pre.trans T.pre
  newμ := fun x m => (T.newμ x m).elim (S.newμ x) fun q => .inr (S.gone q)
inductive CompInv (c : Cx) (fl : Lx) (C' : SC) (cenv : Env) (ft : Ct) (em : Emit) (ρ : List (Option PV)) (X₀ μ₀ : List Addr) (h₀ : Heap) (wr : List Addr) (D : Addr) (ds : List PV) (StP : Nat → Heap → Prop) (accF : Cell) (σF : List Cell) (s₀ : Shared) : Nat → Shared → Prop
  | mk (h' tk X' μ' σ' z i acc) : Step fl.fa [] X₀ μ₀ h₀ X' μ' h' → Inv c fl X' μ' h' σ' → FrS c C' cenv X' μ' h' (ρ ++ [z]) → (∀ b ∈ wr, b ∈ X') → (∀ b ∈ wr, b ∉ μ') → CR c X' h' μ' D acc → D ∈ X' → D ∉ μ' → StP i h' → i ≤ ds.length → compGo ft em ρ (ds.drop i) acc σ' = some (accF, σF) →
    CompInv c fl C' cenv ft em ρ X₀ μ₀ h₀ wr D ds StP accF σF s₀ (ds.length + 1 - i) { s₀ with heap := h', toks := tk }
theorem drop_comp {ft : Ct} {em : Emit} {ρ : List (Option PV)} {ds : List PV} {i : Nat} {d : PV} {acc : Cell} {σ : List Cell} {r} (hd : ds[i]? = some d) (e : compGo ft em ρ (ds.drop i) acc σ = some r) :
    ∃ b σ1, ft ⟨ρ ++ [some d], σ⟩ = some (b, σ1) ∧ (if b then (em acc ⟨ρ ++ [some d], σ1⟩).bind fun (acc', σ2) => compGo ft em ρ (ds.drop (i + 1)) acc' σ2 else compGo ft em ρ (ds.drop (i + 1)) acc σ1) = some r := by
  obtain ⟨hi, rfl⟩ := List.getElem?_eq_some_iff.mp hd
  rw [List.drop_eq_getElem_cons hi] at e
  obtain ⟨⟨b, σ1⟩, e1, e⟩ := bind_some e
  exact ⟨b, σ1, e1, e⟩
theorem put_last {ρ : List (Option PV)} {z : Option PV} {σ : List Cell} {d : PV} : St.put ⟨ρ ++ [z], σ⟩ ρ.length d = some ⟨ρ ++ [some d], σ⟩ := by
  unfold St.put
  rw [if_pos (by simp)]
  simp
theorem CR.own {c : Cx} {fl : Lx} {X μ : List Addr} {h h' : Heap} {σ : List Cell} {b D : Addr} {cl : Cell} (cr : CR c X h μ D cl) (I : Inv c fl X μ h σ) (S : Step fl.fa [b] X μ h X μ h') (hb : b ∈ X) (n : D ≠ b) (Dμ : D ∉ μ) (Df : D ∉ fl.fa) : CR c X h' μ D cl :=
  cr.mv (S.mvD I hb) fun o e => S.kp D o e (fun z => n (List.mem_singleton.mp z)) Dμ Df
set_option maxHeartbeats 1000000 in
theorem comp_turn {c : Cx} {lv : Lv} {C' : SC} {A : Around} {fl : Lx} {cenv : Env} {x : Str} {px : Pos} {ifs : List Expr} {T} {ft : Ct} {em : Emit} {ρ : List (Option PV)} {X₀ μ₀ : List Addr} {h₀ : Heap} {I D : Addr} {fp wr : List Addr} {ds : List PV} {P : Nat → Value → Prop} {StP : Nat → Heap → Prop}
    {accF : Cell} {σF : List Cell} {s₀ : Shared} {R : Result → Shared → Prop}
    (ca : Calm lv A fl) (ht : Tm c lv C' ifs ft) (he : Em c lv C' T em) (W : Walks c.prog c.w A I fp wr ds.length P StP) (hk : storeKind C' ρ.length x = true)
    (hwr : ∀ b ∈ wr, h₀.get? b = none) (hsx : ∀ i h, StP i h → ∀ b ∈ wr, ∃ o, h.get? b = some o ∧ NT o) (hwp : ∀ b ∈ wr, b ∉ priv cenv) (hwD : D ∉ wr) (hDp : D ∉ priv cenv) (hD0 : h₀.get? D = none)
    (hb0 : ∀ b, (b = cenv.locals ∨ cenv.cells.lookup x = some b) → h₀.get? b = none)
    (hf0 : ∀ b ∈ fl.fa, ∃ o, h₀.get? b = some o) (hX0 : ∀ b ∈ X₀, ∃ o, h₀.get? b = some o) (hm0 : ∀ b ∈ μ₀, b ∈ X₀) (hfX0 : ∀ b ∈ fl.fa, b ∈ X₀)
    (hfp : ∀ b ∈ fp, b ∈ wr ∨ ∃ o, h₀.get? b = some o ∧ (b ∉ X₀ ∨ (b, o) ∈ fl.lk)) (hit : ∀ i u, P i u → ∃ d, ds[i]? = some d ∧ VR c X₀ h₀ μ₀ d u)
    (hend : ∀ h' tk X' μ', Step fl.fa [] X₀ μ₀ h₀ X' μ' h' → Inv c fl X' μ' h' σF → CR c X' h' μ' D accF → D ∈ X' → D ∉ μ' → cenv.locals ∈ X' → cenv.locals ∉ μ' → (∃ m, h'.Ns cenv.locals m) → R (.ok .next) { s₀ with heap := h', toks := tk })
    (n : Nat) (s : Shared) (hI : CompInv c fl C' cenv ft em ρ X₀ μ₀ h₀ wr D ds StP accF σF s₀ n s) :
    wpAny c.M A (pyNext (.ref I)) (fun r s₁ => match r with
      | none => R (.ok .next) s₁
      | some v => wpAny c.M A (assign (.Name x px) cenv v) (fun _ s₂ =>
          wpAny c.M A (forIn ifs true fun c r => if r = true then do let ok ← isTrue c cenv (eval c cenv); pure (ForInStep.yield ok) else pure (ForInStep.yield r)) (fun ok s₃ =>
            if ok = true then T A cenv D (notedBy c.M A cenv fun e s' => R (.error e) s') (fun s₅ => ∃ m, m < n ∧ CompInv c fl C' cenv ft em ρ X₀ μ₀ h₀ wr D ds StP accF σF s₀ m s₅) s₃
            else ∃ m, m < n ∧ CompInv c fl C' cenv ft em ρ X₀ μ₀ h₀ wr D ds StP accF σF s₀ m s₃) (notedBy c.M A cenv fun e s' => R (.error e) s') s₂) (notedBy c.M A cenv fun e s' => R (.error e) s') s₁) (notedBy c.M A cenv fun e s' => R (.error e) s') s := by
  obtain ⟨h', tk, X', μ', σ', z, i, acc, S', I', F', wX, wμ, cr, DX, Dμ, hst, hi, hg⟩ := hI
  have nfw := none_out hwr hf0
  have Df : D ∉ fl.fa := fun q => by obtain ⟨o, e⟩ := hf0 D q; rw [hD0] at e; exact noS e
  by_cases hlt : i < ds.length
  · refine W.item i _ _ _ hlt hst fun v h₁ tk₁ hP hst₁ hk₁ => ?_
    have w : Wr fl cenv wr X' μ' h' h₁ := ⟨hk₁, wX, wμ, hwp, nfw⟩
    have S1 := w.step' S' hwr (fun _ m => m) S'.subX
    have I1 := w.inv I' (fun _ m => m) (fun _ m _ => m) (fun b _ q => hsx _ _ hst₁ b q)
    have F1 := w.fr F' (fun _ m => m) (fun _ m _ => m)
    have cr1 : CR c X' h₁ μ' D acc := cr.mv (w.mv fun _ m => m) fun o e => hk₁ D o hwD e
    obtain ⟨d, hd, rd⟩ := hit i v hP
    obtain ⟨b, σ1, e1, hg⟩ := drop_comp hd hg
    obtain ⟨hs1, hn, hk1⟩ := storeKind_of hk
    refine wpAny_assign_Name (store_slot (st := ⟨ρ ++ [z], σ'⟩) I1 F1 hn hs1 hk1 (rd.mv (S1.mv (fun _ m => nomatch m) hm0 hfX0)) put_last fun h₂ tk₂ b₂ m₂ o₂ S₂ I2 F2 => ?_)
    have S2 := S₂ [b₂] (.head _)
    have X2 : b₂ ∈ X' := (F1.pX b₂ m₂).1
    have n2 := hb0 b₂ o₂
    have S02 := S1.behind S2 n2
    have cr2 := cr1.own I1 S2 X2 (fun z => hDp (z ▸ m₂)) Dμ Df
    have hst2 : StP (i + 1) h₂ := W.frame _ _ _ hst₁ (fp_keep hfp nfw S1 I1 wμ S2 I2 (fun b m q => hwp b m (List.mem_singleton.mp q ▸ m₂)) fun b m => List.mem_singleton.mp m ▸ X2)
    refine ht A fl cenv X' μ' _ ⟨ρ ++ [some d], σ'⟩ b σ1 _ _ ca I2 F2 e1 fun h₃ tk₃ X₃ μ₃ S3 I3 => ?_
    have S03 := S02.trans S3
    have F3 := F2.ex I2 S3
    have oX : ∀ b ∈ X', ∃ o, h₂.get? b = some o := fun b m => I2.ex m
    have Dμ3 : D ∉ μ₃ := S3.outμ (l := [D]) (fun b m => oX b (List.mem_singleton.mp m ▸ DX)) (fun b m => List.mem_singleton.mp m ▸ Dμ) D (.head _)
    have cr3 : CR c X₃ h₃ μ₃ D acc := cr2.mv (S3.mv0 I2 rfl) fun o e => S3.kp D o e (fun z => nomatch z) Dμ Df
    have wX3 : ∀ b ∈ wr, b ∈ X₃ := fun b m => S3.subX b (wX b m)
    have wμ3 := S3.outμ (fun b m => oX b (wX b m)) wμ
    have hst3 : StP (i + 1) h₃ := W.frame _ _ _ hst2 (fp_keep hfp nfw S02 I2 wμ S3 I3 (fun _ _ q => nomatch q) fun _ q => nomatch q)
    have DX3 := S3.subX D DX
    cases b with
    | false => exact ⟨_, lp_lt hlt, .mk h₃ tk₃ X₃ μ₃ σ1 (some d) (i + 1) acc S03 I3 F3 wX3 wμ3 cr3 DX3 Dμ3 hst3 hlt hg⟩
    | true =>
      obtain ⟨⟨acc', σ2⟩, e2, hg⟩ := bind_some hg
      refine he A fl cenv X₃ μ₃ _ ⟨ρ ++ [some d], σ1⟩ D acc acc' σ2 _ _ ca I3 F3 cr3 DX3 Dμ3 hDp Df e2 fun h₄ tk₄ X₄ μ₄ S4 I4 cr4 => ?_
      have oX : ∀ b ∈ X₃, ∃ o, h₃.get? b = some o := fun b m => I3.ex m
      exact ⟨_, lp_lt hlt, .mk h₄ tk₄ X₄ μ₄ σ2 (some d) (i + 1) acc' (S03.behind S4 hD0) I4 (F3.step S4 (fun a m => List.mem_singleton.mp m ▸ ⟨DX3, hDp⟩) I3.sub I3.faX (I3.exX F3)) (fun b m => S4.subX b (wX3 b m)) (S4.outμ (fun b m => oX b (wX3 b m)) wμ3) cr4 (S4.subX D DX3)
        (S4.outμ (l := [D]) (fun b m => oX b (List.mem_singleton.mp m ▸ DX3)) (fun b m => List.mem_singleton.mp m ▸ Dμ3) D (.head _))
        (W.frame _ _ _ hst3 (fp_keep hfp nfw S03 I3 wμ3 S4 I4 (fun b m q => hwD (List.mem_singleton.mp q ▸ m)) fun b m => List.mem_singleton.mp m ▸ DX3)) hlt hg⟩
  · rw [List.drop_eq_nil_of_le (Nat.le_of_not_lt hlt)] at hg
    obtain ⟨rfl, rfl⟩ := Prod.mk.inj (Option.some.inj hg)
    refine W.done _ _ _ (Nat.le_antisymm hi (Nat.le_of_not_lt hlt) ▸ hst) fun h₁ tk₁ hk₁ => ?_
    have w : Wr fl cenv wr X' μ' h' h₁ := ⟨hk₁, wX, wμ, hwp, nfw⟩
    have s1 : ∀ b ∈ X'.filter (fun b => decide (b ∉ wr)), b ∈ X' := fun b m => (keep_wr.1 b m).1
    have F2 := w.fr F' s1 keep_wr.2
    obtain ⟨m, hm, _⟩ := F2.loc
    exact hend h₁ tk₁ _ μ' (w.step' S' hwr s1 fun b m => keep_wr.2 b (S'.subX b m) fun q => none_out hwr hX0 b q m) (w.inv I' s1 keep_wr.2 fun b m q => absurd q (keep_wr.1 b m).2) (cr.mv (w.mv s1) fun o e => hk₁ D o hwD e) (keep_wr.2 D DX hwD) Dμ (F2.pX _ (.head _)).1 (F2.pX _ (.head _)).2 ⟨m, hm⟩
end Mine
end
section
set_option tactic.hygienic false
open PySem PySem.W PyProof.Rows PySem.Calls
namespace Mine
noncomputable def compRun (itm : List Cell → PV → Option (List PV)) (fi : Co) (ft : Ct) (em : Emit) (acc0 : Cell) (st : St) : Option (Cell × List Cell) :=
  (fi st).bind fun (d, σ1) => (lockD d ⟨st.ρ, σ1⟩).bind fun s2 => (itm s2.σ d).bind fun ds => if ds.length ≤ 4096 then (compGo ft em st.ρ ds acc0 s2.σ).bind fun (acc, σ3) => (unlockD d ⟨st.ρ, σ3⟩).map fun s4 => (acc, s4.σ) else none
structure CompEnd (c : Cx) (fl : Lx) (C : SC) (env : Env) (X μ : List Addr) (h : Heap) (ρ : List (Option PV)) (acc : Cell) (σ' : List Cell) (D C0 : Addr) (X' μ' : List Addr) (h' : Heap) : Prop where
  S : Step fl.fa [] X μ h X' μ' h'
  I : Inv c fl X' μ' h' σ'
  F : FrS c C env X' μ' h' ρ
  cr : CR c X' h' μ' D acc
  DX : D ∈ X'
  Dμ : D ∉ μ'
  D0 : h.get? D = none
  CX : C0 ∈ X'
  Cμ : C0 ∉ μ'
  C00 : h.get? C0 = none
  ne : D ≠ C0
  ns : ∃ m, h'.Ns C0 m
  Ds : (D == sysModules) = false
set_option maxHeartbeats 1000000 in
theorem comp_core {c : Cx} {lv : Lv} {C : SC} {A : Around} {fl : Lx} {env : Env} {X μ : List Addr} {s : Shared} {st : St} {acc : Cell} {σ' : List Cell} {e : Expr} {iter : Expr} {x : Str} {px : Pos} {ifs : List Expr} {scope : Scope} {pos : Pos} {itm} {fi : Co} {ft : Ct} {em : Emit} {acc0 : Cell} {o0 : Obj} {T}
    {newAcc : Sem Value} {use : Option (Value → Sem Unit)} {Q : Value → Shared → Prop} {E : Value → Shared → Prop}
    (hq : lv.q = true) (hcl : clausesOf e = [⟨.Name x px, iter, ifs, 0⟩])
    (hna : ∀ (s : Shared) (Q : Value → Shared → Prop) (E : Value → Shared → Prop), Q (.ref s.heap.objs.size) { s with heap := s.heap.push o0 } → wpAny c.M A newAcc Q E s)
    (ho0 : o0.isFreed = false) (hnt : NT o0) (hcr : ∀ X h μ D, h.get? D = some o0 → CR c X h μ D acc0)
    (hstart : ∀ (R : Result → Shared → Prop) (s : Shared) it D env, codeAny c.M A (.compLoop e 0 it (.ref D) env) R s → wpAny c.M A (pyIter it) (fun it' s' => codeAny c.M A (.compLoop e 0 it' (.ref D) env) R s') (notedBy c.M A env fun x s' => R (.error x) s') s → codeAny c.M A (.compStart e 0 it (.ref D) env) R s)
    (hloop : ∀ (R : Result → Shared → Prop) (s : Shared) (it : Value) (D : Addr) (env : Env) (I : Nat → Shared → Prop) (turn : ∀ n s, I n s → wpAny c.M A (pyNext it) (fun r s₁ => match r with
      | none => R (.ok .next) s₁
      | some v => wpAny c.M A (assign (.Name x px) env v) (fun _ s₂ =>
          wpAny c.M A (forIn ifs true fun c r => if r = true then do let ok ← isTrue c env (eval c env); pure (ForInStep.yield ok) else pure (ForInStep.yield r)) (fun ok s₃ =>
            if ok = true then T A env D (notedBy c.M A env fun e s' => R (.error e) s') (fun s₅ => ∃ m, m < n ∧ I m s₅) s₃
            else ∃ m, m < n ∧ I m s₃) (notedBy c.M A env fun e s' => R (.error e) s') s₂) (notedBy c.M A env fun e s' => R (.error e) s') s₁) (notedBy c.M A env fun e s' => R (.error e) s') s) (n : Nat), I n s → codeAny c.M A (.compLoop e 0 it (.ref D) env) R s)
    (h1 : Ev c lv C iter fi) (h2 : ItW c lv itm) (h3 : Tm c lv (compC C scope.names x) ifs ft) (h4 : Em c lv (compC C scope.names x) T em)
    (hs : ∀ env x, foldedSetIterable iter env x = pure x) (hk : scope.kind = .function) (ok : compOk C scope.names x = true) (hsk : storeKind (compC C scope.names x) C.slots.length x = true)
    (ca : Calm lv A fl) (I : Inv c fl X μ s.heap st.σ) (F : FrS c C env X μ s.heap st.ρ) (run : compRun itm fi ft em acc0 st = some (acc, σ'))
    (fin : ∀ D C0 h' tk X' μ', CompEnd c fl C env X μ s.heap st.ρ acc σ' D C0 X' μ' h' → compPost c.M A E use Q (.ref D) C0 (.ok .next) { s with heap := h', toks := tk }) :
    wpAny c.M A (comprehension e scope env pos newAcc false (eval iter env) use) Q E s := by
  obtain ⟨⟨d, σ1⟩, e1, run⟩ := bind_some run
  obtain ⟨s2, e2, run⟩ := bind_some run
  obtain ⟨ds, e3, run⟩ := bind_some run
  dsimp only at run
  split at run
  case isFalse => exact noS run
  rename_i hz
  obtain ⟨⟨accF, σ3⟩, e4, run⟩ := bind_some run
  obtain ⟨s4, e5, run⟩ := map_some run
  obtain ⟨rfl, rfl⟩ := prK run
  have ok' := ok
  simp only [compOk, Bool.and_eq_true, decide_eq_true_eq] at ok'
  have nd := ok'.1.1.1.1
  refine wpAny_comprehension_free hcl (hs env) (comp_env (Q := fun _ _ => True) (E := fun _ _ => True) (A := A) F I hk ok fun _ _ _ _ _ _ _ _ _ _ _ _ _ => trivial).1 hk (fun y m e => lookup_mem_kind nd (by rw [← e]; exact m))
    (h1 A fl env X μ s st d σ1 _ _ ca I F e1 fun v h₁ tk₁ X₁ μ₁ S1 I1 r1 => ?_)
  have F1 := F.ex I S1
  obtain ⟨hρ, fl', hfl, I2, un⟩ := lock_use (st := ⟨st.ρ, σ1⟩) I1 r1 e2
  have hfa : fl'.fa = fl.fa := by unfold Lx.fa; rw [hfl]
  have ca' : Calm lv A fl' := ca.lk hfl
  refine h2 A fl' X₁ μ₁ _ s2.σ v d ds _ _ ca' I2 r1 e3 fun It h₂ tk₂ fp wr P StP l hwr hsx W hst hfp hit nit => ?_
  have I2' : Inv c fl' X₁ μ₁ h₁ s2.σ := I2
  have hid := fun pr => I2'.hides (pr := pr) l (ws := wr) fun a m => ⟨hwr a m, hsx _ _ hst a m⟩
  have F2 : FrS c C env (wr ++ X₁) μ₁ h₂ st.ρ := F1.keep (fun a m o e => ⟨o.slots, l a o e⟩) ((hid []).1.mv0 I2' rfl) fun a m => ⟨List.mem_append_right _ (F1.pX a m).1, (F1.pX a m).2⟩
  refine hna _ _ _ ?_
  dsimp only
  have hDs := (hid []).2.sz
  generalize hD : h₂.objs.size = D at hDs
  have l3 : Le h₂ (h₂.push o0) := Le.push _ _
  have gD : (h₂.push o0).get? D = some o0 := hD ▸ Heap.get?_push_size _ ho0
  have nD : h₂.get? D = none := hD ▸ get_size _
  generalize h₂.push o0 = h₃ at l3 gD
  have I3 := (hid []).2
  have hidD := fun pr => I3.hides (pr := pr) l3 (ws := [D]) fun a m => by rw [List.mem_singleton.mp m]; exact ⟨nD, o0, gD, hnt⟩
  have F3 : FrS c C env ([D] ++ (wr ++ X₁)) μ₁ h₃ st.ρ := F2.keep (fun a m o e => ⟨o.slots, l3 a o e⟩) ((hidD []).1.mv0 I3 rfl) fun a m => ⟨List.mem_append_right _ (F2.pX a m).1, (F2.pX a m).2⟩
  refine (comp_env F3 (hidD []).2 hk ok fun cenv h₄ ws l4 hC hws hns hpr hxb hS4 I4 F4o F4 => ?_).2
  have nD1 : h₁.get? D = none := by
    cases g : h₁.get? D with
    | none => rfl
    | some o => rw [l D o g] at nD; exact noN nD
  have n4 : ∀ a ∈ ws, h₁.get? a = none ∧ h₂.get? a = none := fun a m => by
    have z := (hws a m).1
    refine ⟨?_, ?_⟩
    · cases g : h₁.get? a with
      | none => rfl
      | some o => rw [l3 a o (l a o g)] at z; exact noN z
    · cases g : h₂.get? a with
      | none => rfl
      | some o => rw [l3 a o g] at z; exact noN z
  have S04 : Step fl'.fa [] X₁ μ₁ h₁ (ws ++ ([D] ++ (wr ++ X₁))) μ₁ h₄ := ((hid []).1.trans (hidD []).1).trans (hS4 [])
  have wrp : ∀ b ∈ wr, b ∉ priv { cenv with scope := relabel scope env } := fun b m q => by
    rcases hpr b q with q | q
    · have := (n4 b q).2
      obtain ⟨o, g, _⟩ := hsx _ _ hst b m
      rw [this] at g; exact noS g
    · obtain ⟨o, g⟩ := I2'.ex (F1.pX b q).1
      rw [hwr b m] at g; exact noS g
  have DXp : D ∉ priv { cenv with scope := relabel scope env } := fun q => by
    rcases hpr D q with q | q
    · have := (hws D q).1; rw [gD] at this; exact noN this
    · obtain ⟨o, g⟩ := I2'.ex (F1.pX D q).1
      rw [nD1] at g; exact noS g
  have loop : codeAny c.M A (.compLoop e 0 (.ref It) (.ref D) { cenv with scope := relabel scope env }) (compPost c.M A E use Q (.ref D) cenv.locals) { s with heap := h₄, toks := tk₂ } := by
    refine hloop _ _ _ _ _ (CompInv c fl' (compC C scope.names x) { cenv with scope := relabel scope env } ft em st.ρ X₁ μ₁ h₁ wr D ds StP accF σ3 { s with heap := h₁, toks := tk₁ }) (comp_turn (lv := lv) (fp := fp) (P := P) ca' h3 h4 W (by rw [F.len]; exact hsk) hwr hsx wrp
      (fun q => by obtain ⟨o, g, _⟩ := hsx _ _ hst D q; rw [nD] at g; exact noS g) DXp nD1
      (fun b q => (q.elim (fun q => q ▸ (n4 _ hC).1) fun q => (n4 b (hxb b q)).1)) (fun b m => I2'.ex (I2'.faX b m)) (fun b m => I2'.ex m) I2'.sub I2'.faX hfp hit fun h₅ tk₅ X₅ μ₅ S5 I5 cr5 DX5 Dμ5 CX5 Cμ5 ns5 => ?_)
      (ds.length + 1) (.mk h₄ tk₂ _ μ₁ s2.σ none 0 acc0 S04 I4 F4 (fun b m => List.mem_append_right _ (List.mem_append_right _ (List.mem_append_left _ m))) (none_out hwr fun b q => I2'.ex (I2'.sub b q))
        (hcr _ _ _ _ (l4 D o0 gD)) (List.mem_append_right _ (List.mem_append_left _ (.head _))) (fun q => by obtain ⟨o, g⟩ := I2'.ex (I2'.sub D q); rw [nD1] at g; exact noS g) (W.frame _ _ _ hst fun b _ o g => l4 b o (l3 b o g)) (Nat.zero_le _) e4)
    obtain ⟨_, I6⟩ := un X₅ μ₅ h₅ ⟨st.ρ, σ3⟩ s4 S5.pre I5 e5
    have S06 : Step fl.fa [] X μ s.heap X₅ μ₅ h₅ := S1.trans (hfa ▸ S5)
    refine fin D cenv.locals h₅ tk₅ X₅ μ₅ ⟨S06, I6, F.ex I S06, cr5, DX5, Dμ5, S1.gone nD1, CX5, Cμ5, S1.gone (n4 _ hC).1, fun q => (by rw [q] at gD; have := (hws _ hC).1; rw [gD] at this; exact noN this), ns5, hDs⟩
  exact hstart _ _ _ _ _ loop (W.self 0 _ _ _ (W.frame _ _ _ hst fun b _ o g => l4 b o (l3 b o g)) loop)
theorem Inv.adopt {c : Cx} {fl : Lx} {X μ : List Addr} {h : Heap} {σ : List Cell} {D : Addr} {cl : Cell} (I : Inv c fl X μ h σ) (DX : D ∈ X) (Dμ : D ∉ μ) (Df : D ∉ fl.fa) (ncl : ∀ cl', cl ≠ .lock cl') (ns : (D == sysModules) = false) (cr : CR c X h μ D cl) : Inv c fl X (μ ++ [D]) h (σ ++ [cl]) where
  base := I.base
  own := I.own
  len := by simp [I.len]
  nod := List.nodup_append.mpr ⟨I.nod, by simp, fun x hx y hy => by rw [List.mem_singleton.mp hy]; rintro rfl; exact Dμ hx⟩
  sub := fun b m => (List.mem_append.mp m).elim (I.sub b) fun q => by rw [List.mem_singleton.mp q]; exact DX
  nsy := fun b m => (List.mem_append.mp m).elim (I.nsy b) fun q => by rw [List.mem_singleton.mp q]; exact ns
  cel := fun j b cl' e q => by
    have M : Mv X h μ X h (μ ++ [D]) := ⟨fun b o e n => ⟨e, n⟩, List.prefix_append _ _⟩
    by_cases hj : j < μ.length
    · rw [List.getElem?_append_left hj] at e
      rw [List.getElem?_append_left (I.len ▸ hj)] at q
      exact (I.cel j b cl' e q).mv M fun _ g => g
    · have hj' : j = μ.length := by
        have := (List.getElem?_eq_some_iff.mp e).1
        rw [List.length_append, List.length_singleton] at this
        lia
      subst hj'
      rw [List.getElem?_append_right (Nat.le_refl _)] at e
      rw [I.len, List.getElem?_append_right (Nat.le_refl _)] at q
      simp at e q
      subst e; subst q; exact cr.mv M fun _ g => g
  fr := I.fr
  faX := I.faX
  faμ := fun b m z => (List.mem_append.mp z).elim (I.faμ b m) fun z => Df (by rw [← List.mem_singleton.mp z]; exact m)
  lk := fun p m => let ⟨e, j, cl', e1, e2⟩ := I.lk p m; ⟨e, j, cl', pre_get (List.prefix_append _ _) e1, pre_get (List.prefix_append _ _) e2⟩
  lkc := fun j cl' b e1 e2 => by
    by_cases hj : j < σ.length
    · rw [List.getElem?_append_left hj] at e1
      rw [List.getElem?_append_left (I.len ▸ hj)] at e2
      exact I.lkc j cl' b e1 e2
    · rw [List.getElem?_append_right (Nat.not_lt.mp hj)] at e1
      cases hk : j - σ.length with
      | zero => rw [hk] at e1; exact absurd (Option.some.inj e1) (ncl cl')
      | succ k => rw [hk] at e1; exact noS e1
section
variable {c : Cx} {fl : Lx} {C : SC} {env : Env} {X μ X' μ' : List Addr} {h h' h'' : Heap} {ρ : List (Option PV)} {σ σ' : List Cell} {D C0 : Addr}
theorem CompEnd.value {rs : List PV} (e : CompEnd c fl C env X μ h ρ (.list rs) σ' D C0 X' μ' h') (sb : Heap.SameBut C0 h' h'') (I : Inv c fl X μ h σ) (F : FrS c C env X μ h ρ) :
    ∃ X'', Step fl.fa [] X μ h X'' μ' h'' ∧ Inv c fl X'' μ' h'' σ' ∧ VR c X'' h'' μ' (.lst rs) (.ref D) := by
  have n0 : ∀ b ∈ [C0, D], h.get? b = none := fun b m => by
    rcases List.mem_cons.mp m with rfl | m
    · exact e.C00
    · rw [List.mem_singleton.mp m]; exact e.D0
  have w : Wr fl env [C0, D] X' μ' h' h'' := ⟨fun b o n g => (sb.2 b (fun z => n (z ▸ .head _))).trans g, fun b m => by
      rcases List.mem_cons.mp m with rfl | m
      · exact e.CX
      · rw [List.mem_singleton.mp m]; exact e.DX, fun b m => by
      rcases List.mem_cons.mp m with rfl | m
      · exact e.Cμ
      · rw [List.mem_singleton.mp m]; exact e.Dμ, fun b m q => (by obtain ⟨o, g⟩ := I.ex (F.pX b q).1; rw [n0 b m] at g; exact noS g), fun b m q => (by obtain ⟨o, g⟩ := I.ex (I.faX b q); rw [n0 b m] at g; exact noS g)⟩
  have s1 : ∀ b ∈ X'.filter (fun b => decide (b ∉ [C0, D])), b ∈ X' := fun b m => (List.mem_filter.mp m).1
  have s2 : ∀ b ∈ X', b ∉ [C0, D] → b ∈ X'.filter (fun b => decide (b ∉ [C0, D])) := fun b m n => List.mem_filter.mpr ⟨m, by simpa using n⟩
  have nD : D ∉ X'.filter (fun b => decide (b ∉ [C0, D])) := fun m => by
    have := (List.mem_filter.mp m).2
    simp at this
  obtain ⟨vs, ⟨n, g⟩, rs'⟩ := e.cr
  refine ⟨_, w.step' e.S n0 s1 fun b m => s2 b (e.S.subX b m) fun q => (by obtain ⟨o, g⟩ := I.ex m; rw [n0 b q] at g; exact noS g), w.inv e.I s1 s2 fun b m q => absurd q (by simpa using (List.mem_filter.mp m).2),
    .lst ⟨_, (sb.2 D e.ne).trans g, rfl, n, rfl⟩ nD (rs'.mv (w.mv s1))⟩
theorem CompEnd.cell {acc : Cell} (e : CompEnd c fl C env X μ h ρ acc σ' D C0 X' μ' h') (sb : Heap.SameBut C0 h' h'') (ncl : ∀ cl', acc ≠ .lock cl') (I : Inv c fl X μ h σ) (F : FrS c C env X μ h ρ) :
    ∃ X'', Step fl.fa [] X μ h X'' (μ' ++ [D]) h'' ∧ Inv c fl X'' (μ' ++ [D]) h'' (σ' ++ [acc]) ∧ VR c X'' h'' (μ' ++ [D]) (.ref σ'.length) (.ref D) := by
  have I1 := e.I.adopt e.DX e.Dμ (fun q => by obtain ⟨o, g⟩ := I.ex (I.faX _ q); rw [e.D0] at g; exact noS g) ncl e.Ds e.cr
  have S1 : Step fl.fa [] X μ h X' (μ' ++ [D]) h' := { e.S with
    pre := e.S.pre.trans (List.prefix_append _ _)
    newμ := fun b m => (List.mem_append.mp m).elim (e.S.newμ b) fun q => .inr (by rw [List.mem_singleton.mp q]; exact e.D0) }
  have n0 : ∀ b ∈ [C0], h.get? b = none := fun b m => by rw [List.mem_singleton.mp m]; exact e.C00
  have w : Wr fl env [C0] X' (μ' ++ [D]) h' h'' := ⟨fun b o n g => (sb.2 b (fun z => n (z ▸ .head _))).trans g, fun b m => by rw [List.mem_singleton.mp m]; exact e.CX,
    fun b m q => by
      rw [List.mem_singleton.mp m] at q
      rcases List.mem_append.mp q with q | q
      · exact e.Cμ q
      · exact e.ne (List.mem_singleton.mp q).symm,
    fun b m q => (by obtain ⟨o, g⟩ := I.ex (F.pX b q).1; rw [n0 b m] at g; exact noS g), fun b m q => (by obtain ⟨o, g⟩ := I.ex (I.faX b q); rw [n0 b m] at g; exact noS g)⟩
  have s1 : ∀ b ∈ X'.filter (fun b => decide (b ∉ [C0])), b ∈ X' := fun b m => (List.mem_filter.mp m).1
  have s2 : ∀ b ∈ X', b ∉ [C0] → b ∈ X'.filter (fun b => decide (b ∉ [C0])) := fun b m n => List.mem_filter.mpr ⟨m, by simpa using n⟩
  exact ⟨_, w.step' S1 n0 s1 fun b m => s2 b (e.S.subX b m) fun q => (by obtain ⟨o, g⟩ := I.ex m; rw [n0 b q] at g; exact noS g), w.inv I1 s1 s2 fun b m q => absurd q (by simpa using (List.mem_filter.mp m).2),
    .ref (by rw [← e.I.len]; simp)⟩
end
section
variable {c : Cx} {fl : Lx} {C : SC} {env : Env} {X μ X' μ' : List Addr} {h h' h'' : Heap} {ρ : List (Option PV)} {σ σ' : List Cell} {D C0 : Addr}
theorem CompEnd.rel {rs : List PV} (e : CompEnd c fl C env X μ h ρ (.list rs) σ' D C0 X' μ' h') (I : Inv c fl X μ h σ) (F : FrS c C env X μ h ρ) :
    ∃ X'', Step fl.fa [] X μ h X'' μ' h' ∧ Inv c fl X'' μ' h' σ' ∧ VR c X'' h' μ' (.lst rs) (.ref D) ∧ C0 ∈ X'' := by
  have n0 : ∀ b ∈ [D], h.get? b = none := fun b m => by rw [List.mem_singleton.mp m]; exact e.D0
  have w : Wr fl env [D] X' μ' h' h' := ⟨fun b o n g => g, fun b m => by rw [List.mem_singleton.mp m]; exact e.DX, fun b m => by rw [List.mem_singleton.mp m]; exact e.Dμ,
    fun b m q => (by obtain ⟨o, g⟩ := I.ex (F.pX b q).1; rw [n0 b m] at g; exact noS g), fun b m q => (by obtain ⟨o, g⟩ := I.ex (I.faX b q); rw [n0 b m] at g; exact noS g)⟩
  have s1 : ∀ b ∈ X'.filter (fun b => decide (b ∉ [D])), b ∈ X' := fun b m => (List.mem_filter.mp m).1
  have s2 : ∀ b ∈ X', b ∉ [D] → b ∈ X'.filter (fun b => decide (b ∉ [D])) := fun b m n => List.mem_filter.mpr ⟨m, by simpa using n⟩
  have nD : D ∉ X'.filter (fun b => decide (b ∉ [D])) := fun m => by
    have := (List.mem_filter.mp m).2
    simp at this
  obtain ⟨vs, ⟨n, g⟩, rs'⟩ := e.cr
  exact ⟨_, w.step' e.S n0 s1 fun b m => s2 b (e.S.subX b m) fun q => (by obtain ⟨o, g⟩ := I.ex m; rw [n0 b q] at g; exact noS g), w.inv e.I s1 s2 fun b m q => absurd q (by simpa using (List.mem_filter.mp m).2),
    .lst ⟨_, g, rfl, n, rfl⟩ nD (rs'.mv (w.mv s1)), s2 C0 e.CX fun q => e.ne (List.mem_singleton.mp q).symm⟩
theorem drop_block {pr : List Addr} {ρ' : List (Option PV)} (S : Step fl.fa pr X μ h X' μ' h') (I : Inv c fl X' μ' h' σ) (F : FrS c C env X' μ' h' ρ') (C00 : h.get? C0 = none) (CX : C0 ∈ X') (Cμ : C0 ∉ μ') (np : C0 ∉ priv env) (nf : C0 ∉ fl.fa) (hX : ∀ b ∈ X, ∃ o, h.get? b = some o) (sb : Heap.SameBut C0 h' h'') :
    ∃ X'', Step fl.fa pr X μ h X'' μ' h'' ∧ Inv c fl X'' μ' h'' σ ∧ FrS c C env X'' μ' h'' ρ' := by
  have w : Wr fl env [C0] X' μ' h' h'' := ⟨fun b o n g => (sb.2 b (fun z => n (z ▸ .head _))).trans g, fun b m => by rw [List.mem_singleton.mp m]; exact CX, fun b m => by rw [List.mem_singleton.mp m]; exact Cμ, fun b m => by rw [List.mem_singleton.mp m]; exact np, fun b m => by rw [List.mem_singleton.mp m]; exact nf⟩
  have s1 : ∀ b ∈ X'.filter (fun b => decide (b ∉ [C0])), b ∈ X' := fun b m => (List.mem_filter.mp m).1
  have s2 : ∀ b ∈ X', b ∉ [C0] → b ∈ X'.filter (fun b => decide (b ∉ [C0])) := fun b m n => List.mem_filter.mpr ⟨m, by simpa using n⟩
  have n0 : ∀ b ∈ [C0], h.get? b = none := fun b m => by rw [List.mem_singleton.mp m]; exact C00
  exact ⟨_, w.step' S n0 s1 fun b m => s2 b (S.subX b m) fun q => (by obtain ⟨o, g⟩ := hX b m; rw [n0 b q] at g; exact noS g), w.inv I s1 s2 fun b m q => absurd q (by simpa using (List.mem_filter.mp m).2), w.fr F s1 s2⟩
end
noncomputable def cComp (itm : List Cell → PV → Option (List PV)) (fi : Co) (ft : Ct) (fe : Co) : Co := fun st => (compRun itm fi ft (emList fe) (.list []) st).bind fun (acc, σ') => match acc with
  | .list rs => some (.lst rs, σ')
  | _ => none
noncomputable def cCompO (itm : List Cell → PV → Option (List PV)) (fi : Co) (ft : Ct) (fe : Co) : Co := fun st => (compRun itm fi ft (emList fe) (.list []) st).bind fun (acc, σ') => if acc.isLock then none else some (.ref σ'.length, σ' ++ [acc])
section
variable {c : Cx} {lv : Lv} {C : SC}
theorem comp_list {A : Around} {fl : Lx} {env : Env} {X μ : List Addr} {s : Shared} {st : St} {acc : Cell} {σ' : List Cell} {elt iter : Expr} {x : Str} {px : Pos} {ifs : List Expr} {scope : Scope} {pos pos' : Pos} {itm} {fi : Co} {ft : Ct} {fe : Co}
    {use : Option (Value → Sem Unit)} {Q : Value → Shared → Prop} {E : Value → Shared → Prop}
    (hq : lv.q = true) (h1 : Ev c lv C iter fi) (h2 : ItW c lv itm) (h3 : Tm c lv (compC C scope.names x) ifs ft) (h4 : Ev c lv (compC C scope.names x) elt fe)
    (hs : ∀ env x, foldedSetIterable iter env x = pure x) (hk : scope.kind = .function) (ok : compOk C scope.names x = true) (hsk : storeKind (compC C scope.names x) C.slots.length x = true)
    (ca : Calm lv A fl) (I : Inv c fl X μ s.heap st.σ) (F : FrS c C env X μ s.heap st.ρ) (run : compRun itm fi ft (emList fe) (.list []) st = some (acc, σ'))
    (fin : ∀ D C0 h' tk X' μ', CompEnd c fl C env X μ s.heap st.ρ acc σ' D C0 X' μ' h' → compPost c.M A E use Q (.ref D) C0 (.ok .next) { s with heap := h', toks := tk }) :
    wpAny c.M A (comprehension (.ListComp elt [⟨.Name x px, iter, ifs, 0⟩] scope pos) scope env pos' (newList []) false (eval iter env) use) Q E s :=
  comp_core (acc0 := .list []) (o0 := { cls := .type "list", data := .seq ([] : List Value).toArray }) (T := fun A env D E Q s => TList c elt A env D E Q s) hq rfl (fun s Q E q => wpAny_newList q) rfl (fun _ _ _ z => by simp at z) (fun X h μ D g => ⟨[], ⟨_, g⟩, .nil⟩)
    (fun R s it D env a b => codeAny_compStart_list a b) (fun R s it D env I turn n h => codeAny_compLoop_tests I turn n h) h1 h2 h3 (Em_list h4) hs hk ok hsk ca I F run fin
theorem R_comp {elt iter : Expr} {x : Str} {ifs : List Expr} {scope : Scope} {itm} {fi : Co} {ft : Ct} {fe : Co} (px pos) (hq : lv.q = true) (h1 : Ev c lv C iter fi) (h2 : ItW c lv itm) (h3 : Tm c lv (compC C scope.names x) ifs ft) (h4 : Ev c lv (compC C scope.names x) elt fe)
    (hs : ∀ env x, foldedSetIterable iter env x = pure x) (hk : scope.kind = .function) (ok : compOk C scope.names x = true) (hsk : storeKind (compC C scope.names x) C.slots.length x = true) :
    Ev c lv C (.ListComp elt [⟨.Name x px, iter, ifs, 0⟩] scope pos) (cComp itm fi ft fe) := by
  intro A fl env X μ s st d σ' Q E ca I F e q
  obtain ⟨⟨acc, σ1⟩, e1, e⟩ := bind_some e
  cases acc <;> first | (exact noS e; done) | skip
  obtain ⟨rfl, rfl⟩ := prI e
  rw [eval_ListComp]
  refine comp_list hq h1 h2 h3 h4 hs hk ok hsk ca I F e1 fun D C0 h' tk X' μ' en => ?_
  obtain ⟨m, hm⟩ := en.ns
  refine ⟨m, hm, fun h'' sb => ?_⟩
  obtain ⟨X'', S2, I2, r2⟩ := en.value sb I F
  exact q _ h'' tk X'' μ' S2 I2 r2
theorem R_compO {elt iter : Expr} {x : Str} {ifs : List Expr} {scope : Scope} {itm} {fi : Co} {ft : Ct} {fe : Co} (px pos) (hq : lv.q = true) (h1 : Ev c lv C iter fi) (h2 : ItW c lv itm) (h3 : Tm c lv (compC C scope.names x) ifs ft) (h4 : Ev c lv (compC C scope.names x) elt fe)
    (hs : ∀ env x, foldedSetIterable iter env x = pure x) (hk : scope.kind = .function) (ok : compOk C scope.names x = true) (hsk : storeKind (compC C scope.names x) C.slots.length x = true) :
    Ev c lv C (.ListComp elt [⟨.Name x px, iter, ifs, 0⟩] scope pos) (cCompO itm fi ft fe) := by
  intro A fl env X μ s st d σ' Q E ca I F e q
  obtain ⟨⟨acc, σ1⟩, e1, e⟩ := bind_some e
  dsimp only at e
  split at e
  case isTrue => exact noS e
  rename_i hl
  obtain ⟨rfl, rfl⟩ := prI e
  rw [eval_ListComp]
  refine comp_list hq h1 h2 h3 h4 hs hk ok hsk ca I F e1 fun D C0 h' tk X' μ' en => ?_
  obtain ⟨m, hm⟩ := en.ns
  refine ⟨m, hm, fun h'' sb => ?_⟩
  obtain ⟨X'', S2, I2, r2⟩ := en.cell sb (isLock_of (by simpa using hl)) I F
  exact q _ h'' tk X'' _ S2 I2 r2
theorem S_comp {elt iter : Expr} {x y : Str} {i : Nat} {ifs : List Expr} {scope : Scope} {itm} {fi : Co} {ft : Ct} {fe : Co} (px pos py spos) (hq : lv.q = true) (h1 : Ev c lv C iter fi) (h2 : ItW c lv itm) (h3 : Tm c lv (compC C scope.names x) ifs ft) (h4 : Ev c lv (compC C scope.names x) elt fe)
    (hs : ∀ env x, foldedSetIterable iter env x = pure x) (hk : scope.kind = .function) (ok : compOk C scope.names x = true) (hsk : storeKind (compC C scope.names x) C.slots.length x = true) (k : storeKind C i y = true)
    (hw : ∀ env, env.scope.kind = .function → env.scope.names = C.names → swapsWith (.ListComp elt [⟨.Name x px, iter, ifs, 0⟩] scope pos) (some (.Name y py)) spos.line env = pure true) :
    Xs c lv C (exec (.Assign [.Name y py] (.ListComp elt [⟨.Name x px, iter, ifs, 0⟩] scope pos) spos)) (cSet i (cComp itm fi ft fe)) := by
  intro A fl env X μ s st r st' Q E tp ca I F e q
  obtain ⟨⟨d1, σ1⟩, e1, e⟩ := bind_some e
  obtain ⟨s2, e2, e⟩ := map_some e
  obtain ⟨rfl, rfl⟩ := prS e
  obtain ⟨⟨acc, σ2⟩, e3, e1⟩ := bind_some e1
  cases acc <;> first | (exact noS e1; done) | skip
  obtain ⟨rfl, rfl⟩ := prJ e1
  rename_i rs
  obtain ⟨hs1, hn, hk1⟩ := storeKind_of k
  rw [exec_Assign_Name_used _ _ _ _ (hw env F.kind F.names)]
  refine wpAny_bind (wpAny_standAt (wpAny_bind ?_))
  show wpAny c.M A (do let _ ← comprehension (.ListComp elt [⟨.Name x px, iter, ifs, 0⟩] scope pos) scope env _ (newList []) false (eval iter env) (some (assign (.Name y py) env))) _ _ s
  refine wpAny_bind (comp_list (use := some (assign (.Name y py) env)) hq h1 h2 h3 h4 hs hk ok hsk ca I F e3 fun D C0 h' tk X' μ' en => ?_)
  obtain ⟨X2, S2, I2, r2, cX⟩ := en.rel I F
  have F2 := F.ex I S2
  have nC : C0 ∉ priv env := fun q => by obtain ⟨o, g⟩ := I.ex (F.pX C0 q).1; rw [en.C00] at g; exact noS g
  have nf : C0 ∉ fl.fa := fun q => by obtain ⟨o, g⟩ := I.ex (I.faX C0 q); rw [en.C00] at g; exact noS g
  show wpAny c.M A (assign (.Name y py) env (.ref D)) _ _ _
  refine wpAny_assign_Name (store_slot (st := ⟨st.ρ, σ1⟩) I2 F2 hn hs1 hk1 r2 e2 fun h3 tk3 b3 m3 _ S3 I3 F3 => ?_)
  have keepC : ∀ o, h'.get? C0 = some o → h3.get? C0 = some o := fun o g => (S3 [b3] (.head _)).kp C0 o g (fun z => nC (List.mem_singleton.mp z ▸ m3)) en.Cμ nf
  obtain ⟨m, hm⟩ := en.ns
  refine ⟨m, hm.at' keepC, fun h'' sb => ?_⟩
  obtain ⟨X4, S4, I4, F4⟩ := drop_block (S2.wk.trans (S3 (priv env) m3)) I3 F3 en.C00 cX en.Cμ nC nf (fun b m => I.ex m) sb
  exact wpAny_pure (wpAny_pure (q .next h'' _ X4 μ' S4 I4 F4 trivial))
end
end Mine
end
section
set_option tactic.hygienic false
open PySem PySem.W PyProof.Rows PySem.Calls
namespace Mine
noncomputable def items (σ : List Cell) : PV → Option (List PV)
  | .lst xs => some xs
  | .tup xs => some xs
  | .str s => some (s.cps.toList.map fun ch => .str ⟨#[ch]⟩)
  | .rng lo hi => if -1000000 ≤ lo ∧ lo ≤ 1000000 ∧ -1000000 ≤ hi ∧ hi ≤ 1000000 then some ((List.range (hi - lo).toNat).map fun (i : Nat) => PV.int (lo + (i : Int))) else none
  | .ref j => match σ[j]? with
    | some (.lock (.list xs)) => some xs
    | some (.lock (.dnod es)) => some (es.map fun e => .node e.1)
    | _ => none
  | .view j => match σ[j]? with
    | some (.lock (.dnod es)) => some (es.map (·.2))
    | _ => none
  | _ => none
theorem isTup_isTuple {h : Heap} {a : Addr} {xs : Array Value} (x : IsTup h a xs) : h.IsTuple a xs := x
theorem rsmall {lo hi : Int} (h : -1000000 ≤ lo ∧ lo ≤ 1000000 ∧ -1000000 ≤ hi ∧ hi ≤ 1000000) : Builtin.Range.small lo hi 1 = true := by
  unfold Builtin.Range.small
  rw [rangeSize_nat]
  simp only [Builtin.Range.rangeFitsLong, Bool.and_eq_true, Bool.or_eq_true, decide_eq_true_eq]
  refine ⟨⟨⟨⟨?_, ?_⟩, ?_⟩, ?_⟩, ?_⟩ <;> first | omega | (simp; omega) | (right; simp; omega)
section
variable {c : Cx} {lv : Lv}
set_option tactic.hygienic true in
theorem key_view {P : Program} {w : World} {s : Str} {v : Value} (h : (PySem.strKind P w).is s v = true) : ∃ t, v = .str s t := by
  cases v <;> first | (simp [PySem.strKind, Value.isStrOf] at h; done) | skip
  rename_i x t
  simp [PySem.strKind, Value.isStrOf] at h
  exact ⟨t, by rw [h]⟩
set_option tactic.hygienic true in
inductive ItS (σ : List Cell) : PV → List PV → Prop
  | lst xs : ItS σ (.lst xs) xs
  | tup xs : ItS σ (.tup xs) xs
  | str (x : Str) : ItS σ (.str x) (x.cps.toList.map fun ch => .str ⟨#[ch]⟩)
  | rng {lo hi : Int} : (-1000000 ≤ lo ∧ lo ≤ 1000000 ∧ -1000000 ≤ hi ∧ hi ≤ 1000000) → ItS σ (.rng lo hi) ((List.range (hi - lo).toNat).map fun (i : Nat) => PV.int (lo + (i : Int)))
  | ref {j xs} : σ[j]? = some (.lock (.list xs)) → ItS σ (.ref j) xs
  | keys {j} {es : List (Nat × PV)} : σ[j]? = some (.lock (.dnod es)) → ItS σ (.ref j) (es.map fun e => .node e.1)
  | vals {j} {es : List (Nat × PV)} : σ[j]? = some (.lock (.dnod es)) → ItS σ (.view j) (es.map (·.2))
theorem items_sh {σ : List Cell} {d : PV} {ds : List PV} (e : items σ d = some ds) : ItS σ d ds := by
  cases d with
  | lst xs => exact Option.some.inj e ▸ .lst xs
  | tup xs => exact Option.some.inj e ▸ .tup xs
  | str x => exact Option.some.inj e ▸ .str x
  | rng lo hi =>
    have e' : (if -1000000 ≤ lo ∧ lo ≤ 1000000 ∧ -1000000 ≤ hi ∧ hi ≤ 1000000 then some ((List.range (hi - lo).toNat).map fun (i : Nat) => PV.int (lo + (i : Int))) else none) = some ds := e
    by_cases h : -1000000 ≤ lo ∧ lo ≤ 1000000 ∧ -1000000 ≤ hi ∧ hi ≤ 1000000
    · rw [if_pos h] at e'; exact Option.some.inj e' ▸ .rng h
    · rw [if_neg h] at e'; exact noS e'
  | ref j =>
    unfold items at e
    dsimp only at e
    cases hc : σ[j]? with
    | none => rw [hc] at e; exact noS e
    | some cl =>
      rw [hc] at e
      cases cl with
      | lock cl => cases cl with
        | list xs => exact Option.some.inj e ▸ .ref hc
        | dnod es => exact Option.some.inj e ▸ .keys hc
        | _ => exact noS e
      | _ => exact noS e
  | view j =>
    unfold items at e
    dsimp only at e
    cases hc : σ[j]? with
    | none => rw [hc] at e; exact noS e
    | some cl =>
      rw [hc] at e
      cases cl with
      | lock cl => cases cl with
        | dnod es => exact Option.some.inj e ▸ .vals hc
        | _ => exact noS e
      | _ => exact noS e
  | _ => exact noS e
noncomputable def ItQ (c : Cx) (A : Around) (fl : Lx) (X μ : List Addr) (s : Shared) (ds : List PV) (Q : Value → Shared → Prop) : Prop :=
  ∀ I h' tk fp wr P StP, Le s.heap h' → (∀ b ∈ wr, s.heap.get? b = none) → (∀ i h, StP i h → ∀ b ∈ wr, ∃ o, h.get? b = some o ∧ NT o) → Walks c.prog c.w A I fp wr ds.length P StP → StP 0 h' →
      (∀ b ∈ fp, b ∈ wr ∨ ∃ o, s.heap.get? b = some o ∧ (b ∉ X ∨ (b, o) ∈ fl.lk)) →
      (∀ i u, P i u → ∃ d, ds[i]? = some d ∧ VR c X s.heap μ d u) → (∀ i h, StP i h → ∃ n o, h.get? I = some o ∧ o.cls = .type n ∧ notOwner n = true) → Q (.ref I) { s with heap := h', toks := tk }
noncomputable abbrev Fo (h : Heap) (a : Addr) (n : String) : Prop := ∃ o, h.get? a = some o ∧ o.cls = .type n ∧ ∃ vs, o.data = .fields vs
theorem fo_of {h : Heap} {a : Addr} {n : String} {vs} : (∃ o, h.get? a = some o ∧ o.cls = .type n ∧ o.data = .fields vs) → Fo h a n := fun ⟨o, g, hc, hd⟩ => ⟨o, g, hc, vs, hd⟩
theorem ItQ.use {A : Around} {fl : Lx} {X μ : List Addr} {s : Shared} {ds : List PV} {Q : Value → Shared → Prop} {o : Obj} {n : String} {fp : List Addr} {P StP} (q : ItQ c A fl X μ s ds Q) (hn : notOwner n = true) (st : ∀ i h, StP i h → Fo h s.heap.objs.size n)
    (W : Walks c.prog c.w A s.heap.objs.size fp [s.heap.objs.size] ds.length P StP) (st0 : StP 0 (s.heap.push o)) (hfp : ∀ b ∈ fp, b ∈ [s.heap.objs.size] ∨ ∃ o, s.heap.get? b = some o ∧ (b ∉ X ∨ (b, o) ∈ fl.lk)) (hit : ∀ i u, P i u → ∃ d, ds[i]? = some d ∧ VR c X s.heap μ d u) :
    Q (.ref s.heap.objs.size) { s with heap := s.heap.push o } :=
  q _ _ s.toks fp _ P StP (Le.push _ _) (fun b m => by rw [List.mem_singleton.mp m]; exact get_size _) (fun i h z b m => by
    rw [List.mem_singleton.mp m]
    obtain ⟨o, g, _, vs, hd⟩ := st i h z
    exact ⟨o, g, fun _ _ z => by rw [hd] at z; cases z⟩) W st0 hfp hit fun i h z => by
    obtain ⟨o, g, hc, _⟩ := st i h z
    exact ⟨n, o, g, hc, hn⟩
section
variable {A : Around} {fl : Lx} {X μ : List Addr} {s : Shared} {σ : List Cell} {Q : Value → Shared → Prop} {E : Value → Shared → Prop}
theorem fp_two {a : Addr} (hfa : ∃ o, s.heap.get? a = some o ∧ (a ∉ X ∨ (a, o) ∈ fl.lk)) : ∀ b ∈ [s.heap.objs.size, a], b ∈ [s.heap.objs.size] ∨ ∃ o, s.heap.get? b = some o ∧ (b ∉ X ∨ (b, o) ∈ fl.lk) := fun b m => by
  cases m with
  | head => exact .inl (.head _)
  | tail _ m => rw [List.mem_singleton.mp m]; exact .inr hfa
theorem ne_size {a : Addr} (hfa : ∃ o, s.heap.get? a = some o ∧ (a ∉ X ∨ (a, o) ∈ fl.lk)) : a ≠ s.heap.objs.size := fun z => by
  obtain ⟨o, g, _⟩ := hfa
  rw [z, get_size] at g; exact noS g
theorem it_str (hh : A.handled = none) (x : Str) (t : Tok) (q : ItQ c A fl X μ s (x.cps.toList.map fun ch => .str ⟨#[ch]⟩) Q) : wpAny c.M A (pyIter (.str x t)) Q E s := by
  have hlen : (x.cps.toList.map fun ch => PV.str ⟨#[ch]⟩).length = x.cps.size := by rw [List.length_map, Array.length_toList]
  have hP : ∀ i u, SignAt x i u → ∃ d, (x.cps.toList.map fun ch => PV.str ⟨#[ch]⟩)[i]? = some d ∧ VR c X s.heap μ d u := fun i u ⟨ch, tk, e1, e2⟩ => by
    subst e2
    exact ⟨_, by rw [List.getElem?_map, Array.getElem?_toList, e1]; rfl, .str _ _⟩
  cases ha : x.cps.all (· < 128) with
  | false => exact wpAny_pyIter_wide ha (q.use (n := "str_iterator") (by decide) (fun i h st => by exact fo_of st) (hlen ▸ Walks.strWide hh _ x t) ⟨_, Heap.get?_push_size _ rfl, rfl, rfl⟩ (fun b m => .inl m) hP)
  | true => exact wpAny_pyIter_ascii ha (q.use (n := "str_ascii_iterator") (by decide) (fun i h st => by exact fo_of st) (hlen ▸ Walks.strAscii hh _ x t) ⟨_, Heap.get?_push_size _ rfl, rfl, rfl⟩ (fun b m => .inl m) hP)
theorem vs_len {ds : List PV} {vs : List Value} (rs : VRs c X s.heap μ ds vs) : vs.toArray.size = ds.length := by rw [List.size_toArray]; exact rs.length.symm
theorem vs_get {ds : List PV} {vs : List Value} (rs : VRs c X s.heap μ ds vs) (i : Nat) (u : Value) (e : vs.toArray[i]? = some u) : ∃ d, ds[i]? = some d ∧ VR c X s.heap μ d u := rs.getv (by rw [← List.getElem?_toArray]; exact e)
theorem it_lst (hh : A.handled = none) {a : Addr} {ds : List PV} {vs : List Value} (hl : s.heap.IsList a vs.toArray) (rs : VRs c X s.heap μ ds vs) (hfa : ∃ o, s.heap.get? a = some o ∧ (a ∉ X ∨ (a, o) ∈ fl.lk)) (q : ItQ c A fl X μ s ds Q) : wpAny c.M A (pyIter (.ref a)) Q E s :=
  wpAny_pyIter_list hl (q.use (n := "list_iterator") (by decide) (fun i h st => by exact fo_of st.1) (vs_len rs ▸ Walks.list hh s.heap.objs.size a (ne_size hfa) vs.toArray) ⟨⟨_, Heap.get?_push_size _ rfl, rfl, rfl⟩, hl.push _⟩ (fp_two hfa) (vs_get rs))
theorem it_tup (hh : A.handled = none) {a : Addr} {ds : List PV} {vs : List Value} (hl : IsTup s.heap a vs.toArray) (rs : VRs c X s.heap μ ds vs) (hfa : ∃ o, s.heap.get? a = some o ∧ (a ∉ X ∨ (a, o) ∈ fl.lk)) (q : ItQ c A fl X μ s ds Q) : wpAny c.M A (pyIter (.ref a)) Q E s :=
  iter_tuple hl (q.use (n := "tuple_iterator") (by decide) (fun i h st => by exact fo_of st.1) (vs_len rs ▸ Walks.tuple hh s.heap.objs.size a (ne_size hfa) vs.toArray) ⟨⟨_, Heap.get?_push_size _ rfl, rfl, rfl⟩, hl.push _⟩ (fp_two hfa) (vs_get rs))
theorem it_rng (hh : A.handled = none) {a : Addr} {lo hi : Int} {t u w : Tok} (hr : IsRange s.heap a lo hi 1 t u w) (hb : -1000000 ≤ lo ∧ lo ≤ 1000000 ∧ -1000000 ≤ hi ∧ hi ≤ 1000000) (q : ItQ c A fl X μ s ((List.range (hi - lo).toNat).map fun (i : Nat) => PV.int (lo + (i : Int))) Q) :
    wpAny c.M A (pyIter (.ref a)) Q E s := by
  have W0 := LCg.range_walks (prog := c.prog) (w := c.w) (I := s.heap.objs.size) hh lo (hi - lo).toNat
  have W : Walks c.prog c.w A s.heap.objs.size [s.heap.objs.size] [s.heap.objs.size] (hi - lo).toNat (fun i v => i < (hi - lo).toNat ∧ ∃ t, v = .int (lo + (i : Int)) t) (fun i h => IsRangeIter h s.heap.objs.size (lo + (i : Nat) * 1) (((hi - lo).toNat : Int) - (i : Nat)) 1) :=
    { W0 with item := fun i s Q E hi' st hQ => W0.item i s Q E hi' st fun v h' tk hP => hQ v h' tk ⟨hi', hP⟩ }
  have hlen : ((List.range (hi - lo).toNat).map fun (i : Nat) => PV.int (lo + (i : Int))).length = (hi - lo).toNat := by rw [List.length_map, List.length_range]
  refine wpAny_pyIter_range hr (rsmall hb) (q.use (n := "range_iterator") (by decide) (fun i h st => ⟨_, st, rfl, _, rfl⟩) (hlen ▸ W) ?_ (fun b m => .inl m) fun i u ⟨hi', t, e⟩ => ?_)
  · show (s.heap.push _).get? _ = some _
    rw [Heap.get?_push_size _ rfl, rangeSize_nat lo hi]
    simp [rawInt]
  · subst e
    exact ⟨.int (lo + (i : Int)), by rw [List.getElem?_map, List.getElem?_range (hlen ▸ hi')]; rfl, .int _ _⟩
theorem it_keys (hh : A.handled = none) {a : Addr} {es : List (Nat × PV)} {o : Obj} (hsys : (a == sysModules) = false) (cr : CR c X s.heap μ a (.dnod es)) (go : s.heap.get? a = some o) (hlk : (a, o) ∈ fl.lk) (q : ItQ c A fl X μ s (es.map fun e => .node e.1) Q) : wpAny c.M A (pyIter (.ref a)) Q E s := by
  obtain ⟨hnn, vs, hp, rs⟩ := cr
  obtain ⟨ep, hd⟩ := hp.dictAt
  have hfa : ∃ o, s.heap.get? a = some o ∧ (a ∉ X ∨ (a, o) ∈ fl.lk) := ⟨o, go, .inr hlk⟩
  have hz : ((es.map fun e => c.rows e.1).zip vs).length = (es.map fun e => PV.node e.1).length := by rw [List.length_zip, List.length_map, List.length_map, ← rs.length, List.length_map, Nat.min_self]
  have W := Walks.dictKeys (prog := c.prog) (w := c.w) (knd := c.ss) hh s.heap.objs.size a (ne_size hfa) ((es.map fun e => c.rows e.1).zip vs) ep
  rw [hz] at W
  refine wpAny_pyIter_dict (knd := c.ss) hsys hd (q.use (n := "dict_keyiterator") (by decide) (fun i h st => by exact fo_of st.1) W ⟨⟨_, Heap.get?_push_size _ rfl, rfl, by rw [hz]; rfl⟩, hd.push _⟩ (fp_two hfa) fun i u e => ?_)
  obtain ⟨k, x, e1, e2⟩ := e
  obtain ⟨t, rfl⟩ := key_view e2
  have := (List.getElem?_zip_eq_some.mp e1).1
  rw [List.getElem?_map] at this
  obtain ⟨p, he, rfl⟩ := map_some this
  exact ⟨.node p.1, by rw [List.getElem?_map, he]; rfl, .node _ _ (hnn p (List.mem_of_getElem? he))⟩
theorem it_vals (hh : A.handled = none) {a d : Addr} {es : List (Nat × PV)} {o : Obj} (hv : s.heap.get? a = some { cls := .type "dict_values", data := .fields #[.ref d] }) (cr : CR c X s.heap μ d (.dnod es)) (go : s.heap.get? d = some o) (hlk : (d, o) ∈ fl.lk) (q : ItQ c A fl X μ s (es.map (·.2)) Q) : wpAny c.M A (pyIter (.ref a)) Q E s := by
  obtain ⟨hnn, vs, hp, rs⟩ := cr
  obtain ⟨ep, hd⟩ := hp.dictAt
  have hfa : ∃ o, s.heap.get? d = some o ∧ (d ∉ X ∨ (d, o) ∈ fl.lk) := ⟨o, go, .inr hlk⟩
  have hz : ((es.map fun e => c.rows e.1).zip vs).length = (es.map (·.2)).length := by rw [List.length_zip, List.length_map, List.length_map, ← rs.length, List.length_map, Nat.min_self]
  have W := Walks.dictValues (prog := c.prog) (w := c.w) (knd := c.ss) hh s.heap.objs.size d (ne_size hfa) ((es.map fun e => c.rows e.1).zip vs) ep
  rw [hz] at W
  refine wpAny_pyIter_values (knd := c.ss) ⟨_, hv, rfl, rfl⟩ hd (q.use (n := "dict_valueiterator") (by decide) (fun i h st => by exact fo_of st.1) W ⟨⟨_, Heap.get?_push_size _ rfl, rfl, by rw [hz]; rfl⟩, hd.push _⟩ (fp_two hfa) fun i u e => ?_)
  obtain ⟨k, e1⟩ := e
  exact rs.getv (List.getElem?_zip_eq_some.mp e1).2
theorem Inv.lko {j : Nat} {a : Addr} {cl : Cell} (I : Inv c fl X μ s.heap σ) (ha : μ[j]? = some a) (hc : σ[j]? = some (.lock cl)) : CR c X s.heap μ a cl ∧ ∃ o, s.heap.get? a = some o ∧ (a, o) ∈ fl.lk := by
  obtain ⟨o, m⟩ := I.lkc j cl a hc ha
  exact ⟨(show CR c X s.heap μ a cl from I.cel j a (.lock cl) ha hc), o, (I.lk _ m).1, m⟩
end
theorem items_ok (hq : lv.q = true) : ItW c lv items := by
  intro A fl X μ s σ v d ds Q E ca I r e q
  have hh := ca.hd hq
  have q : ItQ c A fl X μ s ds Q := q
  cases items_sh e with
  | lst _ =>
    obtain ⟨a, vs, rfl, hl, nX, rs⟩ := r.lst_inv
    have hl' := hl
    obtain ⟨o, g, _⟩ := hl'
    exact it_lst hh hl rs ⟨o, g, .inl nX⟩ q
  | tup _ =>
    obtain ⟨a, vs, rfl, hl, nX, rs⟩ := r.tup_inv
    have hl' := hl
    obtain ⟨o, g, _⟩ := hl'
    exact it_tup hh hl rs ⟨o, g, .inl nX⟩ q
  | str x => obtain ⟨t, rfl⟩ := r.str_inv; exact it_str hh x t q
  | rng hb => cases r with | rng hr nX => exact it_rng hh hr hb q
  | ref hc =>
    obtain ⟨a, rfl, ha⟩ := r.ref_inv
    obtain ⟨⟨vs, hp, rs⟩, o, go, hlk⟩ := I.lko ha hc
    exact it_lst hh hp.isList rs ⟨o, go, .inr hlk⟩ q
  | keys hc =>
    obtain ⟨a, rfl, ha⟩ := r.ref_inv
    obtain ⟨cr, o, go, hlk⟩ := I.lko ha hc
    exact it_keys hh (I.nsy a (List.mem_of_getElem? ha)) cr go hlk q
  | vals hc => cases r with
    | view ha hv nX =>
      obtain ⟨cr, o, go, hlk⟩ := I.lko ha hc
      exact it_vals hh hv cr go hlk q
end
end Mine
end
section
set_option tactic.hygienic false
open PySem PySem.W PyProof.Rows PySem.Calls
namespace Mine
section
variable {c : Cx} {lv : Lv}
noncomputable def oAdd (σ : List Cell) : PV → PV → Option PV
  | .int a, .int b => some (.int (a + b))
  | .str a, .str b => if a.length + b.length ≤ 1000000 then some (.str (a ++ b)) else none
  | .lst a, .lst b => if a.length + b.length ≤ 4096 then some (.lst (a ++ b)) else none
  | _, _ => none
theorem oAdd_sh {σ : List Cell} {d1 d2 d : PV} (e : oAdd σ d1 d2 = some d) : (∃ a b, d1 = .int a ∧ d2 = .int b ∧ d = .int (a + b)) ∨ (∃ a b, d1 = .str a ∧ d2 = .str b ∧ a.length + b.length ≤ 1000000 ∧ d = .str (a ++ b)) ∨
    ∃ a b, d1 = .lst a ∧ d2 = .lst b ∧ a.length + b.length ≤ 4096 ∧ d = .lst (a ++ b) := by
  unfold oAdd at e
  split at e
  · exact .inl ⟨_, _, rfl, rfl, (Option.some.inj e).symm⟩
  · split at e
    · rename_i h; exact .inr (.inl ⟨_, _, rfl, rfl, h, (Option.some.inj e).symm⟩)
    · exact noS e
  · split at e
    · rename_i h; exact .inr (.inr ⟨_, _, rfl, rfl, h, (Option.some.inj e).symm⟩)
    · exact noS e
  · exact noS e
theorem add_ok : Op2 c lv (binaryOp .Add) oAdd := by
  intro A fl X μ s σ v1 v2 d1 d2 d Q E ca I r1 r2 e q
  rcases oAdd_sh e with ⟨a, b, rfl, rfl, rfl⟩ | ⟨a, b, rfl, rfl, hz, rfl⟩ | ⟨xs, ys, rfl, rfl, hz, rfl⟩
  · obtain ⟨t, rfl⟩ := r1.int_inv
    obtain ⟨u, rfl⟩ := r2.int_inv
    exact add_int (q _ s.heap _ (.refl _) (.int _ _))
  · obtain ⟨t, rfl⟩ := r1.str_inv
    obtain ⟨u, rfl⟩ := r2.str_inv
    exact add_str (fun t' tk => q _ s.heap tk (.refl _) (.str _ _)) (Nat.le_trans hz (by decide))
  · obtain ⟨a, vs, rfl, hl, nX, rs⟩ := r1.lst_inv
    obtain ⟨b, ws, rfl, hb, nY, rs2⟩ := r2.lst_inv
    obtain ⟨⟨cls, dd, data, sl⟩, ho, hc, n, hd⟩ := id hl
    obtain ⟨⟨cls2, dd2, data2, sl2⟩, ho2, hc2, n2, hd2⟩ := id hb
    simp only at hc hd hc2 hd2
    subst hc hd hc2 hd2
    have ee : vs.toArray ++ ws.toArray = (vs ++ ws).toArray := by simp
    have hz2 : vs.toArray.size + ws.toArray.size ≤ sizeLine := by
      rw [List.size_toArray, List.size_toArray, ← rs.length, ← rs2.length]; exact Nat.le_trans hz (by decide)
    refine concat_meets ⟨_, ho, rfl⟩ ⟨_, ho2, rfl⟩ noFill_list_add seq_list_add PySem.F.slot_list_add PySem.F.entry_list_add (PySem.F.args_list_add_2 _ _) (list_addW a b vs.toArray ws.toArray n n2 dd dd2 sl sl2 hz2) ⟨ho, ho2, ?_⟩
    rw [ee]
    have l := Le.push s.heap { cls := .type "list", data := .seq (vs ++ ws).toArray }
    exact q _ _ s.toks l (.lst ⟨_, Heap.get?_push_size _ rfl, rfl, _, rfl⟩ I.fresh ((rs.le l).app (rs2.le l)))
noncomputable def oInt (f : Int → Int → Option Int) (σ : List Cell) : PV → PV → Option PV
  | .int a, .int b => (f a b).map .int
  | _, _ => none
noncomputable def oSub := oInt fun a b => some (a - b)
noncomputable def oMul := oInt fun a b => if a.natAbs < 2 ^ 60 ∧ b.natAbs < 2 ^ 60 then some (a * b) else none
noncomputable def oDiv := oInt fun a b => if b ≠ 0 ∧ Builtin.divisionGoesByPylong a b = false then some (a.fdiv b) else none
noncomputable def oMod := oInt fun a b => if b ≠ 0 then some (a.fmod b) else none
noncomputable def oPow := oInt fun a b => if 0 ≤ b ∧ b ≤ 1000 ∧ a.natAbs < 2 ^ 64 then some (a ^ b.toNat) else none
noncomputable def oAnd := oInt fun a b => some (Builtin.bitAnd a b)
noncomputable def oXor := oInt fun a b => some (Builtin.bitXor a b)
theorem oInt_sh {f : Int → Int → Option Int} {σ : List Cell} {d1 d2 d : PV} (e : oInt f σ d1 d2 = some d) : ∃ a b r, d1 = .int a ∧ d2 = .int b ∧ f a b = some r ∧ d = .int r := by
  unfold oInt at e
  split at e
  · obtain ⟨r, e1, rfl⟩ := map_some e; exact ⟨_, _, r, rfl, rfl, e1, rfl⟩
  · exact noS e
theorem oInt_ok {t : Value → Value → Sem Value} {f : Int → Int → Option Int}
    (h : ∀ A (s : Shared) a b i j r (Q : Value → Shared → Prop) (E : Value → Shared → Prop), f a b = some r → Q (.int r s.toks) { s with toks := s.toks + 1 } → wpAny c.M A (t (.int a i) (.int b j)) Q E s) : Op2 c lv t (oInt f) := by
  intro A fl X μ s σ v1 v2 d1 d2 d Q E ca I r1 r2 e q
  obtain ⟨a, b, r, rfl, rfl, e1, rfl⟩ := oInt_sh e
  obtain ⟨i, rfl⟩ := r1.int_inv
  obtain ⟨j, rfl⟩ := r2.int_inv
  exact h A s _ _ _ _ r Q E e1 (q _ s.heap _ (.refl _) (.int _ _))
theorem sub_ok : Op2 c lv (binaryOp .Sub) oSub := oInt_ok fun A s a b i j r Q E e q => by obtain rfl := soJ e; exact sub_int q
theorem isub_ok : Op2 c lv (inplaceOp .Sub) oSub := oInt_ok fun A s a b i j r Q E e q => by obtain rfl := soJ e; exact isub_int q
noncomputable def oAddI := oInt fun a b => some (a + b)
theorem iadd_ok : Op2 c lv (inplaceOp .Add) oAddI := oInt_ok fun A s a b i j r Q E e q => by obtain rfl := soJ e; exact iadd_int q
theorem mulfit {a : Int} (h : a.natAbs < 2 ^ 60) : Builtin.Int.intBits a ≤ 64 := by
  unfold Builtin.Int.intBits
  split
  · exact Nat.zero_le _
  · rename_i h0
    have : a.natAbs.log2 < 60 := (Nat.log2_lt (by simpa using h0)).mpr h
    exact Nat.le_trans (Nat.succ_le_of_lt this) (by decide)
theorem mul_ok : Op2 c lv (binaryOp .Mult) oMul := oInt_ok fun A s a b i j r Q E e q => by
  split at e
  · rename_i h; obtain rfl := soJ e; exact mul_int q (IntMulOk.of_left (mulfit h.1))
  · exact noS e
theorem div_ok : Op2 c lv (binaryOp .FloorDiv) oDiv := oInt_ok fun A s a b i j r Q E e q => by
  split at e
  · rename_i h; obtain rfl := soJ e; exact floordiv_int h.1 q (.inl h.2)
  · exact noS e
theorem mod_ok : Op2 c lv (binaryOp .Mod) oMod := oInt_ok fun A s a b i j r Q E e q => by
  split at e
  · rename_i h; obtain rfl := soJ e; exact mod_int h q
  · exact noS e
theorem pow_ok : Op2 c lv (binaryOp .Pow) oPow := oInt_ok fun A s a b i j r Q E e q => by
  split at e
  · rename_i h; obtain rfl := soJ e; exact pow_int_small h.1 (by lia) h.2.2 q
  · exact noS e
theorem and_ok : Op2 c lv (binaryOp .BitAnd) oAnd := oInt_ok fun A s a b i j r Q E e q => by obtain rfl := soJ e; exact and_int q
theorem xor_ok : Op2 c lv (binaryOp .BitXor) oXor := oInt_ok fun A s a b i j r Q E e q => by obtain rfl := soJ e; exact xor_int q
noncomputable def oNeg (σ : List Cell) : PV → Option PV
  | .int a => some (.int (-a))
  | _ => none
theorem neg_ok : Op1 c lv (unaryOp .USub) oNeg := by
  intro A fl X μ s σ v1 d1 d Q E ca I r1 e q
  have sh : ∃ a, d1 = .int a ∧ d = .int (-a) := by
    clear q r1
    unfold oNeg at e
    split at e
    · exact ⟨_, rfl, (Option.some.inj e).symm⟩
    · exact noS e
  obtain ⟨a, rfl, rfl⟩ := sh
  obtain ⟨i, rfl⟩ := r1.int_inv
  exact neg_int (q _ s.heap _ (.refl _) (.int _ _))
noncomputable def tr (σ : List Cell) : PV → Option Bool
  | .none => some false
  | .bool b => some b
  | .lst xs => if xs.length ≤ 4096 then some (!xs.isEmpty) else none
  | .ref j => match σ[j]? with
    | some (.list xs) => if xs.length ≤ 4096 then some (!xs.isEmpty) else none
    | _ => none
  | _ => none
theorem vs_empty {X h μ} {xs : List PV} {vs : List Value} (r : VRs c X h μ xs vs) : (!vs.toArray.isEmpty) = !xs.isEmpty := by
  cases r <;> simp
theorem tr_sh {σ : List Cell} {d : PV} {b : Bool} (e : tr σ d = some b) : (d = .none ∧ b = false) ∨ d = .bool b ∨ (∃ xs, d = .lst xs ∧ xs.length ≤ 4096 ∧ b = !xs.isEmpty) ∨
    ∃ j xs, d = .ref j ∧ σ[j]? = some (.list xs) ∧ xs.length ≤ 4096 ∧ b = !xs.isEmpty := by
  unfold tr at e
  split at e
  · exact .inl ⟨rfl, (Option.some.inj e).symm⟩
  · rw [Option.some.inj e]; exact .inr (.inl rfl)
  · split at e
    · rename_i h; exact .inr (.inr (.inl ⟨_, rfl, h, (Option.some.inj e).symm⟩))
    · exact noS e
  · split at e
    · rename_i z
      split at e
      · rename_i h; exact .inr (.inr (.inr ⟨_, _, rfl, z, h, (Option.some.inj e).symm⟩))
      · exact noS e
    · exact noS e
  · exact noS e
theorem tr_ok : TrOk c lv tr := by
  intro A fl X μ s σ v d b Q E ca I r e q
  rcases tr_sh e with ⟨rfl, rfl⟩ | rfl | ⟨xs, rfl, hz, rfl⟩ | ⟨j, xs, rfl, hc, hz, rfl⟩
  · cases r.none_inv; exact wpAny_pure (q s.toks)
  · cases r.bool_inv; exact wpAny_truthy_bool (q s.toks)
  · obtain ⟨a, vs, rfl, hl, nX, rs⟩ := r.lst_inv
    refine wpAny_truthy_list hl (by rw [List.size_toArray, ← rs.length]; lia) ?_
    rw [vs_empty rs]
    exact q _
  · obtain ⟨a, rfl, ha⟩ := r.ref_inv
    obtain ⟨cl, hc', cr⟩ := I.at ha
    cases Option.some.inj (hc.symm.trans hc')
    obtain ⟨vs, hp, rs⟩ := cr
    refine wpAny_truthy_list hp.isList (by rw [List.size_toArray, ← rs.length]; lia) ?_
    rw [vs_empty rs]
    exact q _
end
end Mine
end
section
set_option tactic.hygienic false
open PySem PySem.W PyProof.Rows PySem.Calls
namespace Mine
mutual
noncomputable def toPD : PV → Option PyData
  | .none => some .none
  | .bool b => some (.bool b)
  | .int i => some (.int i)
  | .str s => some (.str s)
  | .lst xs => (toPDs xs).map .list
  | .tup xs => (toPDs xs).map .tuple
  | _ => none
noncomputable def toPDs : List PV → Option (List PyData)
  | [] => some []
  | x :: xs => (toPD x).bind fun d => (toPDs xs).map fun ds => d :: ds
end
section
variable {c : Cx} {lv : Lv} {X μ : List Addr} {h : Heap}
theorem VR.reads_all {d : PV} {v : Value} (r : VR c X h μ d v) : ∀ p, toPD d = some p → ∃ as, Reads h v p as := by
  refine VR.rec (motive_1 := fun d v _ => ∀ p, toPD d = some p → ∃ as, Reads h v p as) (motive_2 := fun ds vs _ => ∀ ps, toPDs ds = some ps → ∃ as, ReadsAll h vs ps as) ?_ ?_ ?_ ?_ (fun _ _ _ _ e => noS e) ?_ ?_ (fun _ _ _ e => noS e) (fun _ _ e => noS e) (fun _ _ e => noS e) (fun _ _ _ _ e => noS e) (fun _ _ _ _ _ _ e => noS e) ?_ ?_ r
  · exact fun p e => soI e ▸ ⟨_, .none⟩
  · exact fun b p e => soI e ▸ ⟨_, .bool b⟩
  · exact fun i t p e => soI e ▸ ⟨_, .int i t⟩
  · exact fun s t p e => soI e ▸ ⟨_, .str s t⟩
  · intro xs a vs hl n _ ih p e
    unfold toPD at e
    obtain ⟨ps, e1, e2⟩ := map_some e
    subst e2
    obtain ⟨as, r⟩ := ih ps e1
    obtain ⟨o, g, hc, k, hd⟩ := hl
    exact ⟨_, .list g hc hd (by rw [List.toList_toArray]; exact r)⟩
  · intro xs a vs hl n _ ih p e
    unfold toPD at e
    obtain ⟨ps, e1, e2⟩ := map_some e
    subst e2
    obtain ⟨as, r⟩ := ih ps e1
    obtain ⟨o, g, hc, k, hd⟩ := hl
    exact ⟨_, .tuple g hc hd (by rw [List.toList_toArray]; exact r)⟩
  · exact fun ps e => soI e ▸ ⟨_, .nil⟩
  · intro d v ds vs _ _ iha ihb ps e
    unfold toPDs at e
    obtain ⟨p, e1, e⟩ := bind_some e
    obtain ⟨ps', e2, e3⟩ := map_some e
    subst e3
    obtain ⟨_, r1⟩ := iha _ e1
    obtain ⟨_, r2⟩ := ihb _ e2
    exact ⟨_, .cons r1 r2⟩
theorem VR.reads {d : PV} {v : Value} {p : PyData} (r : VR c X h μ d v) (e : toPD d = some p) : ∃ as, Reads h v p as := r.reads_all p e
theorem VRs.reads {ds : List PV} {vs : List Value} {ps : List PyData} (r : VRs c X h μ ds vs) : toPDs ds = some ps → ∃ as, ReadsAll h vs ps as :=
  r.ind (m := fun ds vs => ∀ ps, toPDs ds = some ps → ∃ as, ReadsAll h vs ps as) (fun ps e => soI e ▸ ⟨_, .nil⟩) (fun a _ ih ps e => by
    unfold toPDs at e
    obtain ⟨p, e1, e⟩ := bind_some e
    obtain ⟨ps', e2, e3⟩ := map_some e
    subst e3
    obtain ⟨_, r1⟩ := a.reads e1
    obtain ⟨_, r2⟩ := ih _ e2
    exact ⟨_, .cons r1 r2⟩) ps
noncomputable def pdOf (σ : List Cell) : PV → Option PyData
  | .ref j => match σ[j]? with
    | some (.list xs) => (toPDs xs).map .list
    | _ => none
  | d => toPD d
theorem pdOf_reads {fl σ} {d : PV} {v : Value} {p : PyData} (I : Inv c fl X μ h σ) (r : VR c X h μ d v) (e : pdOf σ d = some p) : ∃ as, Reads h v p as := by
  by_cases hd : ∃ j, d = .ref j
  · obtain ⟨j, rfl⟩ := hd
    cases r with | ref ha =>
    obtain ⟨cl, hc, cr⟩ := I.at ha
    unfold pdOf at e
    dsimp only at e
    rw [hc] at e
    cases cl <;> first | (exact noS e; done) | skip
    obtain ⟨ps, e1, e2⟩ := map_some e
    subst e2
    obtain ⟨vs, ⟨n, g⟩, rs⟩ := cr
    obtain ⟨as, r⟩ := rs.reads e1
    exact ⟨_, .list g rfl rfl (by simpa using r)⟩
  · have e' : toPD d = some p := by
      rw [← e]; cases d <;> first | rfl | exact (hd ⟨_, rfl⟩).elim
    exact r.reads e'
noncomputable def eqv2 (σ : List Cell) : PV → PV → Option Bool
  | .node a, .node b => some (decide (a = b))
  | a, b => (pdOf σ a).bind fun p => (pdOf σ b).bind fun q => if SeqAt.shaped p = true ∧ SeqAt.shaped q = true then some (PyData.eqv p q) else none
noncomputable def nev2 (σ : List Cell) (a b : PV) : Option Bool := (eqv2 σ a b).map (!·)
theorem Calm.room {A fl} (ca : Calm lv A fl) : A.units + 64 < cLine := by have := ca.un; lia
theorem rows_eq {i j : Nat} (hi : i < c.nn) (hj : j < c.nn) : (c.rows i == c.rows j) = decide (i = j) := by
  by_cases h : i = j
  · subst h; simp
  · rw [decide_eq_false h, beq_eq_false_iff_ne]
    exact fun z => h (c.inj i j hi hj z)
set_option tactic.hygienic true in
theorem eqv2_shape {σ : List Cell} {a b : PV} {r : Bool} (e : eqv2 σ a b = some r) : (∃ i j, a = .node i ∧ b = .node j ∧ r = decide (i = j)) ∨ ∃ p q, pdOf σ a = some p ∧ pdOf σ b = some q ∧ SeqAt.shaped p = true ∧ SeqAt.shaped q = true ∧ r = PyData.eqv p q := by
  by_cases h : ∃ i j, a = .node i ∧ b = .node j
  · obtain ⟨i, j, rfl, rfl⟩ := h
    obtain rfl := soJ e
    exact .inl ⟨i, j, rfl, rfl, rfl⟩
  · have e' : ((pdOf σ a).bind fun p => (pdOf σ b).bind fun q => if SeqAt.shaped p = true ∧ SeqAt.shaped q = true then some (PyData.eqv p q) else none) = some r := by
      rw [← e]
      unfold eqv2
      split
      · rename_i i j; exact absurd ⟨_, _, rfl, rfl⟩ h
      · rfl
    obtain ⟨p, e1, e'⟩ := bind_some e'
    obtain ⟨q, e2, e'⟩ := bind_some e'
    split at e'
    · rename_i hs; obtain rfl := soJ e'; exact .inr ⟨p, q, e1, e2, hs.1, hs.2, rfl⟩
    · exact noS e'
end
section
variable {c : Cx} {lv : Lv}
theorem eq_ok : Cm c lv .Eq eqv2 := by
  intro A fl X μ s σ v1 v2 d1 d2 d Q E ca I r1 r2 e q
  obtain ⟨r, e1, e2⟩ := map_some e
  subst e2
  rcases eqv2_shape e1 with ⟨i, j, rfl, rfl, rfl⟩ | ⟨p, p', h1, h2, s1, s2, rfl⟩
  · cases r1 with | node _ t1 l1 =>
    cases r2 with | node _ t2 l2 =>
    refine eq_str ?_
    rw [rows_eq (by assumption) (by assumption)]
    exact q _ s.heap s.toks (.refl _) (.bool _)
  · obtain ⟨as, R1⟩ := pdOf_reads I r1 h1
    obtain ⟨bs, R2⟩ := pdOf_reads I r2 h2
    exact SeqAt.compareEq_shaped R1 R2 s1 s2 ca.room (q _ s.heap s.toks (.refl _) (.bool _))
theorem ne_ok : Cm c lv .NotEq nev2 := by
  intro A fl X μ s σ v1 v2 d1 d2 d Q E ca I r1 r2 e q
  obtain ⟨r0, e0, e2⟩ := map_some e
  subst e2
  unfold nev2 at e0
  obtain ⟨r, e1, e2⟩ := map_some e0
  subst e2
  rcases eqv2_shape e1 with ⟨i, j, rfl, rfl, rfl⟩ | ⟨p, p', h1, h2, s1, s2, rfl⟩
  · cases r1 with | node _ t1 l1 =>
    cases r2 with | node _ t2 l2 =>
    refine ne_str ?_
    unfold bne
    rw [rows_eq (by assumption) (by assumption)]
    exact q _ s.heap s.toks (.refl _) (.bool _)
  · obtain ⟨as, R1⟩ := pdOf_reads I r1 h1
    obtain ⟨bs, R2⟩ := pdOf_reads I r2 h2
    exact SeqAt.compareNe_shaped R1 R2 s1 s2 ca.room (q _ s.heap s.toks (.refl _) (.bool _))
end
end Mine
end
section
set_option tactic.hygienic false
open PySem PySem.W PyProof.Rows PySem.Calls
namespace Mine
noncomputable def strsOf : List PV → Option (List Str)
  | [] => some []
  | .str s :: r => (strsOf r).map (s :: ·)
  | _ => none
noncomputable def intsOf : List PV → Option (List Int)
  | [] => some []
  | .int s :: r => (intsOf r).map (s :: ·)
  | _ => none
noncomputable def in2 (σ : List Cell) : PV → PV → Option Bool
  | .str s, .lst xs => (strsOf xs).map fun l => l.any (· == s)
  | .int s, .lst xs => (intsOf xs).map fun l => l.any (· == s)
  | .node n, .ref j => match σ[j]? with
    | some (.snod xs) => some (xs.contains n)
    | some (.dnod es) => some ((es.map (·.1)).contains n)
    | _ => none
  | _, _ => none
noncomputable def nin2 (σ : List Cell) (a b : PV) : Option Bool := (in2 σ a b).map (!·)
section
variable {c : Cx} {lv : Lv} {X μ : List Addr} {h : Heap}
theorem strs_ind {m : List Value → List Str → Prop} (n : m [] []) (k : ∀ s t vs l, m vs l → m (.str s t :: vs) (s :: l)) {xs : List PV} {vs : List Value} {l : List Str} (r : VRs c X h μ xs vs) : strsOf xs = some l → m vs l :=
  r.ind (m := fun xs vs => ∀ l, strsOf xs = some l → m vs l) (fun l e => soI e ▸ n) (fun {d v ds vs} a _ ih l e => by
    cases d with
    | str s =>
      obtain ⟨t, rfl⟩ := a.str_inv
      unfold strsOf at e
      obtain ⟨l', e1, e2⟩ := map_some e
      subst e2
      exact k s t vs l' (ih l' e1)
    | _ => exact noS e) l
theorem ints_ind {m : List Value → List Int → Prop} (n : m [] []) (k : ∀ s t vs l, m vs l → m (.int s t :: vs) (s :: l)) {xs : List PV} {vs : List Value} {l : List Int} (r : VRs c X h μ xs vs) : intsOf xs = some l → m vs l :=
  r.ind (m := fun xs vs => ∀ l, intsOf xs = some l → m vs l) (fun l e => soI e ▸ n) (fun {d v ds vs} a _ ih l e => by
    cases d with
    | int s =>
      obtain ⟨t, rfl⟩ := a.int_inv
      unfold intsOf at e
      obtain ⟨l', e1, e2⟩ := map_some e
      subst e2
      exact k s t vs l' (ih l' e1)
    | _ => exact noS e) l
theorem strs_any {s : Str} {xs : List PV} {vs : List Value} {l : List Str} (r : VRs c X h μ xs vs) (e : strsOf xs = some l) :
    vs.any (fun v => match v with | .str a _ => a == s | _ => false) = l.any (· == s) ∧ ∀ y ∈ vs, ∃ a t, y = .str a t :=
  strs_ind (m := fun vs l => vs.any (fun v => match v with | .str a _ => a == s | _ => false) = l.any (· == s) ∧ ∀ y ∈ vs, ∃ a t, y = .str a t) ⟨rfl, fun _ m => nomatch m⟩
    (fun s' t vs l ih => ⟨by rw [List.any_cons, List.any_cons, ih.1], fun y m => (List.mem_cons.mp m).elim (fun z => ⟨_, _, z⟩) (ih.2 y)⟩) r e
theorem ints_any {s : Int} {xs : List PV} {vs : List Value} {l : List Int} (r : VRs c X h μ xs vs) (e : intsOf xs = some l) :
    vs.any (fun v => match v with | .int a _ => a == s | _ => false) = l.any (· == s) ∧ ∀ y ∈ vs, ∃ a t, y = .int a t :=
  ints_ind (m := fun vs l => vs.any (fun v => match v with | .int a _ => a == s | _ => false) = l.any (· == s) ∧ ∀ y ∈ vs, ∃ a t, y = .int a t) ⟨rfl, fun _ m => nomatch m⟩
    (fun s' t vs l ih => ⟨by rw [List.any_cons, List.any_cons, ih.1], fun y m => (List.mem_cons.mp m).elim (fun z => ⟨_, _, z⟩) (ih.2 y)⟩) r e
theorem val_some {K : Type} [DecidableEq K] {k : K} : ∀ {ks : List K} {vs : List Value}, ks.length = vs.length → (valueAt (ks.zip vs) k).isSome = ks.contains k
  | [], _, _ => rfl
  | a :: r, [], e => by cases e
  | a :: r, v :: vs, e => by
    have := val_some (k := k) (ks := r) (vs := vs) (Nat.succ.inj e)
    rw [List.zip_cons_cons, List.contains_cons, ← this]
    unfold valueAt
    rw [List.find?_cons]
    by_cases h : a = k
    · subst h; simp
    · have h' : ¬ k = a := fun z => h z.symm
      simp [h, h']
theorem rows_contains {xs : List Nat} (hn : ∀ x ∈ xs, x < c.nn) {n : Nat} (hl : n < c.nn) : (xs.map c.rows).contains (c.rows n) = xs.contains n := by
  rw [Bool.eq_iff_iff, List.contains_iff_mem, List.contains_iff_mem, List.mem_map]
  constructor
  · rintro ⟨x, m, e⟩; exact c.inj x n (hn x m) hl e ▸ m
  · exact fun m => ⟨n, m, rfl⟩
theorem in2_sh {σ : List Cell} {d1 d2 : PV} {b : Bool} (e : in2 σ d1 d2 = some b) : (∃ i xs l, d1 = .int i ∧ d2 = .lst xs ∧ intsOf xs = some l ∧ l.any (· == i) = b) ∨ (∃ i xs l, d1 = .str i ∧ d2 = .lst xs ∧ strsOf xs = some l ∧ l.any (· == i) = b) ∨
    (∃ n j es, d1 = .node n ∧ d2 = .ref j ∧ σ[j]? = some (.dnod es) ∧ b = (es.map (·.1)).contains n) ∨ ∃ n j es, d1 = .node n ∧ d2 = .ref j ∧ σ[j]? = some (.snod es) ∧ b = es.contains n := by
  unfold in2 at e
  split at e
  · obtain ⟨l, e1, e2⟩ := map_some e; exact .inr (.inl ⟨_, _, l, rfl, rfl, e1, e2⟩)
  · obtain ⟨l, e1, e2⟩ := map_some e; exact .inl ⟨_, _, l, rfl, rfl, e1, e2⟩
  · split at e
    · rename_i z; exact .inr (.inr (.inr ⟨_, _, _, rfl, rfl, z, (Option.some.inj e).symm⟩))
    · rename_i z; exact .inr (.inr (.inl ⟨_, _, _, rfl, rfl, z, (Option.some.inj e).symm⟩))
    · exact noS e
  · exact noS e
theorem any_lst {A : Around} {s : Shared} {a : Addr} {vs : List Value} {f : Value → Bool} {v : Value} {b : Bool} {E : Value → Shared → Prop} (hl : s.heap.IsList a vs.toArray) (he : ∀ y, y ∈ vs → SeqAt.EqAt A.in1 s y v (f y)) (hb : vs.any f = b) :
    (∀ Q : Value → Shared → Prop, (∀ tk, Q (.bool b) { s with toks := tk }) → wpAny c.M A (compareOp .In v (.ref a)) Q E s) ∧
    (∀ Q : Value → Shared → Prop, (∀ tk, Q (.bool (!b)) { s with toks := tk }) → wpAny c.M A (compareOp .NotIn v (.ref a)) Q E s) := by
  have he' : ∀ y, y ∈ vs.toArray → SeqAt.EqAt A.in1 s y v (f y) := fun y m => he y (by simpa using m)
  have hb' : vs.toArray.any f = b := by rw [← hb, List.any_toArray]
  exact ⟨fun Q q => SeqAt.in_listAt _ hl he' (by rw [hb']; exact q s.toks), fun Q q => SeqAt.notIn_listAt _ hl he' (by rw [hb']; exact q s.toks)⟩
theorem in2_ok {fl σ} {A : Around} {s : Shared} {v1 v2 : Value} {d1 d2 : PV} {b : Bool} {E : Value → Shared → Prop} (I : Inv c fl X μ s.heap σ) (r1 : VR c X s.heap μ d1 v1) (r2 : VR c X s.heap μ d2 v2) (e : in2 σ d1 d2 = some b) :
    (∀ Q : Value → Shared → Prop, (∀ tk, Q (.bool b) { s with toks := tk }) → wpAny c.M A (compareOp .In v1 v2) Q E s) ∧
    ((∃ xs, d2 = .lst xs) → ∀ Q : Value → Shared → Prop, (∀ tk, Q (.bool (!b)) { s with toks := tk }) → wpAny c.M A (compareOp .NotIn v1 v2) Q E s) := by
  rcases in2_sh e with ⟨i, xs, l, rfl, rfl, e1, e2⟩ | ⟨i, xs, l, rfl, rfl, e1, e2⟩ | ⟨n, j, es, rfl, rfl, hc, rfl⟩ | ⟨n, j, es, rfl, rfl, hc, rfl⟩
  · obtain ⟨t, rfl⟩ := r1.int_inv
    obtain ⟨a, vs, rfl, hl, nX, rs⟩ := r2.lst_inv
    obtain ⟨h1, h2⟩ := ints_any (s := i) rs e1
    have z := any_lst (c := c) (A := A) (E := E) (v := .int i t) hl (fun y m => by obtain ⟨a, u, rfl⟩ := h2 y m; exact SeqAt.EqAt.int_int _ _ _ _) (h1.trans e2)
    exact ⟨z.1, fun _ => z.2⟩
  · obtain ⟨t, rfl⟩ := r1.str_inv
    obtain ⟨a, vs, rfl, hl, nX, rs⟩ := r2.lst_inv
    obtain ⟨h1, h2⟩ := strs_any (s := i) rs e1
    have z := any_lst (c := c) (A := A) (E := E) (v := .str i t) hl (fun y m => by obtain ⟨a, u, rfl⟩ := h2 y m; exact SeqAt.EqAt.str_str _ _ _ _) (h1.trans e2)
    exact ⟨z.1, fun _ => z.2⟩
  · obtain ⟨hn, t, rfl⟩ := r1.node_inv
    obtain ⟨a, rfl, ha⟩ := r2.ref_inv
    refine ⟨fun Q q => ?_, fun ⟨xs, z⟩ => nomatch z⟩
    obtain ⟨cl, hc', cr⟩ := I.at ha
    cases Option.some.inj (hc.symm.trans hc')
    have hk : c.ss.is (c.rows n) (.str (c.rows n) t) = true := by simp [PySem.strKind, Value.isStrOf]
    obtain ⟨hb, vs, hd, rs⟩ := cr
    refine wpAny_in_of hk (I.nsy a (List.mem_of_getElem? ha)) hd.mapOf ?_
    rw [val_some (by have := rs.length; simpa using this)]
    have := rows_contains (c := c) (xs := es.map (·.1)) (by simpa using fun a b c => hb _ c) hn
    rw [List.map_map] at this
    have z : (es.map fun e => c.rows e.1).contains (c.rows n) = (es.map (·.1)).contains n := this
    rw [z]
    exact q _
  · obtain ⟨hn, t, rfl⟩ := r1.node_inv
    obtain ⟨a, rfl, ha⟩ := r2.ref_inv
    refine ⟨fun Q q => ?_, fun ⟨xs, z⟩ => nomatch z⟩
    obtain ⟨cl, hc', cr⟩ := I.at ha
    cases Option.some.inj (hc.symm.trans hc')
    have hk : c.ss.is (c.rows n) (.str (c.rows n) t) = true := by simp [PySem.strKind, Value.isStrOf]
    obtain ⟨hb, S, hs, hS⟩ := cr
    refine wpAny_inSet_of hk rfl hs ?_
    have z : S (c.rows n) = es.contains n := by
      rw [Bool.eq_iff_iff, hS, List.contains_iff_mem]
      exact ⟨fun ⟨x, m, e⟩ => c.inj x n (hb x m) hn e ▸ m, fun m => ⟨n, m, rfl⟩⟩
    rw [z]
    exact q _
theorem in_ok : Cm c lv .In in2 := by
  intro A fl X μ s σ v1 v2 d1 d2 d Q E ca I r1 r2 e q
  obtain ⟨b, e1, e2⟩ := map_some e
  subst e2
  exact (in2_ok I r1 r2 e1).1 _ fun tk => q _ s.heap tk (.refl _) (.bool _)
noncomputable def ninL (σ : List Cell) (a b : PV) : Option Bool := match b with
  | .lst xs => (in2 σ a (.lst xs)).map (!·)
  | _ => none
theorem notIn_ok : Cm c lv .NotIn ninL := by
  intro A fl X μ s σ v1 v2 d1 d2 d Q E ca I r1 r2 e q
  obtain ⟨b, e1, e2⟩ := map_some e
  subst e2
  have sh : ∃ xs b', d2 = .lst xs ∧ in2 σ d1 d2 = some b' ∧ (!b') = b := by
    clear q r1 r2
    unfold ninL at e1
    split at e1
    · obtain ⟨b', e3, e4⟩ := map_some e1; exact ⟨_, b', rfl, e3, e4⟩
    · exact noS e1
  obtain ⟨xs, b', rfl, e3, rfl⟩ := sh
  exact (in2_ok I r1 r2 e3).2 ⟨_, rfl⟩ _ fun tk => q _ s.heap tk (.refl _) (.bool _)
noncomputable def isNone : PV → Option Bool
  | .none => some true
  | .val _ => none
  | _ => some false
theorem isNone_val {d v b} (r : VR c X h μ d v) (e : isNone d = some b) : (v == Value.none) = b := by
  cases r <;> cases e <;> rfl
noncomputable def is2 (σ : List Cell) : PV → PV → Option Bool
  | a, .none => isNone a
  | .str _, .ref _ => some false
  | _, _ => none
noncomputable def nis2 (σ : List Cell) (a b : PV) : Option Bool := (is2 σ a b).map (!·)
theorem is2_sh {σ : List Cell} {d1 d2 : PV} {b : Bool} (e : is2 σ d1 d2 = some b) : (d2 = .none ∧ isNone d1 = some b) ∨ ∃ x j, d1 = .str x ∧ d2 = .ref j ∧ b = false := by
  unfold is2 at e
  split at e
  · exact .inl ⟨rfl, e⟩
  · exact .inr ⟨_, _, rfl, rfl, (Option.some.inj e).symm⟩
  · exact noS e
theorem is_ok : Cm c lv .Is is2 := by
  intro A fl X μ s σ v1 v2 d1 d2 d Q E ca I r1 r2 e q
  obtain ⟨b, e1, rfl⟩ := map_some e
  rcases is2_sh e1 with ⟨rfl, e2⟩ | ⟨x, j, rfl, rfl, rfl⟩
  · cases r2.none_inv
    exact is_none (by rw [isNone_val r1 e2]; exact q _ s.heap s.toks (.refl _) (.bool _))
  · obtain ⟨t, rfl⟩ := r1.str_inv
    obtain ⟨a, rfl, ha⟩ := r2.ref_inv
    exact wpAny_is_plain rfl (q _ s.heap s.toks (.refl _) (.bool _))
theorem isNot_ok : Cm c lv .IsNot nis2 := by
  intro A fl X μ s σ v1 v2 d1 d2 d Q E ca I r1 r2 e q
  obtain ⟨b, e1, rfl⟩ := map_some e
  obtain ⟨b', e3, rfl⟩ := map_some e1
  rcases is2_sh e3 with ⟨rfl, e2⟩ | ⟨x, j, rfl, rfl, rfl⟩
  · cases r2.none_inv
    exact isNot_none (by rw [isNone_val r1 e2]; exact q _ s.heap s.toks (.refl _) (.bool _))
  · obtain ⟨t, rfl⟩ := r1.str_inv
    obtain ⟨a, rfl, ha⟩ := r2.ref_inv
    exact wpAny_isNot_plain rfl (q _ s.heap s.toks (.refl _) (.bool _))
noncomputable def lt2 (σ : List Cell) : PV → PV → Option Bool
  | .int a, .int b => some (decide (a < b))
  | _, _ => none
theorem lt_ok : Cm c lv .Lt lt2 := by
  intro A fl X μ s σ v1 v2 d1 d2 d Q E ca I r1 r2 e q
  have sh : ∃ a b, d1 = .int a ∧ d2 = .int b ∧ d = .bool (decide (a < b)) := by
    clear q r1 r2
    obtain ⟨r, e1, rfl⟩ := map_some e
    unfold lt2 at e1
    split at e1
    · exact ⟨_, _, rfl, rfl, by rw [Option.some.inj e1]⟩
    · exact noS e1
  obtain ⟨a, b, rfl, rfl, rfl⟩ := sh
  obtain ⟨t, rfl⟩ := r1.int_inv
  obtain ⟨u, rfl⟩ := r2.int_inv
  exact lt_int (q _ s.heap s.toks (.refl _) (.bool _))
end
end Mine
end
section
set_option tactic.hygienic false
open PySem PySem.W PyProof.Rows PySem.Calls
namespace Mine
section
variable {prog : Program} {w : World} {A : Around} {E : Value → Shared → Prop} {s : Shared}
theorem sub_tail {value slice : Expr} {o i : Value} {T id : String} {Q : Value → Shared → Prop} (hT : s.TypeIs o T)
    (hl : typeLookup (.type T) "__getitem__" = pure (some (.builtin id))) (h : wpAny (model prog w) A (getItem o i) Q E s) :
    wpAny (model prog w) A (subscriptTail value slice o i) Q E s := by
  have hs : ∃ l, subscripted slice false o i = operate l (getItem o i) := by
    unfold subscripted
    split
    · exact ⟨_, rfl⟩
    · rename_i e; exact noF e
    · exact ⟨_, rfl⟩
  obtain ⟨l, hs⟩ := hs
  unfold subscriptTail
  refine wpAny_bind ?_
  rw [getitemInPython_of_ne hT.not_modules]
  refine wpAny_bind (wpAny_specialOf hT hl ?_)
  have fin : wpAny (model prog w) A (subscripted slice false o i) (fun r s₃ => wpAny (model prog w) A (letTemporaryGo value o r >>= fun _ => pure r) Q E s₃) E s := by
    rw [hs]
    exact wpAny_operating (wpAny_mono h (fun r s₃ h₃ => wpAny_bind (wpAny_letTemporaryGo (wpAny_pure h₃))) fun _ _ x => x)
  first
    | exact wpAny_pure (wpAny_bind fin)
    | exact wpAny_bind (wpAny_pure (wpAny_bind fin))
    | exact wpAny_bind fin
end
noncomputable def peek : Option Cell → Option Cell
  | some (.lock cl) => some cl
  | x => x
noncomputable def fits (k : Int) : Bool := decide (-(2 ^ 63) ≤ k) && decide (k < 2 ^ 63)
noncomputable def idxL (xs : List PV) (k : Int) : Option PV :=
  if fits k then (if 0 ≤ k then xs[k.toNat]? else if -(xs.length : Int) ≤ k then xs[(k + xs.length).toNat]? else none) else none
noncomputable def idxS (s : Str) (k : Int) : Option PV :=
  if (decide (k < -(2 ^ 63 : Int)) || decide (k ≥ 2 ^ 63)) = false then ((seqIndex? k s.length).bind (s.cps[·]?)).map fun c => .str ⟨#[c]⟩ else none
noncomputable def assoc {K : Type} [DecidableEq K] : List (K × PV) → K → Option PV
  | [], _ => none
  | (a, v) :: r, k => if a = k then some v else assoc r k
noncomputable def oGet (σ : List Cell) : PV → PV → Option PV
  | .lst xs, .int k => idxL xs k
  | .str s, .int k => idxS s k
  | .ref j, .int k => match peek σ[j]? with
    | some (.list xs) => idxL xs k
    | some (.dint es) => assoc es k
    | _ => none
  | .ref j, .node k => match peek σ[j]? with
    | some (.dnod es) => assoc es k
    | _ => none
  | _, _ => none
section
variable {c : Cx} {lv : Lv} {C : SC} {X μ : List Addr} {h : Heap}
theorem peek_at {fl σ} {i : Nat} {a : Addr} {cl : Cell} (I : Inv c fl X μ h σ) (e : μ[i]? = some a) (p : peek σ[i]? = some cl) : CR c X h μ a cl := by
  obtain ⟨cl', e1, cr⟩ := I.at e
  rw [e1] at p
  unfold peek at p
  split at p
  · rename_i z; obtain rfl := soJ z; obtain rfl := soJ p; exact cr
  · obtain rfl := soJ p; exact cr
theorem assoc_zip {K : Type} [DecidableEq K] {k : K} {d : PV} : ∀ {es : List (K × PV)} {vs : List Value}, VRs c X h μ (es.map (·.2)) vs → assoc es k = some d → ∃ v, valueAt ((es.map (·.1)).zip vs) k = some v ∧ VR c X h μ d v
  | [], _, _, e => by exact noS e
  | (a, d') :: r, vs, rs, e => by
    cases rs with | @cons _ v _ vs x y =>
    unfold assoc at e
    by_cases q : a = k
    · rw [if_pos q] at e
      obtain rfl := soJ e
      refine ⟨v, ?_, x⟩
      simp [valueAt, q]
    · rw [if_neg q] at e
      obtain ⟨u, e1, e2⟩ := assoc_zip y e
      refine ⟨u, ?_, e2⟩
      rw [← e1]
      simp [valueAt, q]
theorem assoc_nod {n : Nat} {d : PV} {es : List (Nat × PV)} {vs : List Value} (b : ∀ e ∈ es, e.1 < c.nn) (hn : n < c.nn) (rs : VRs c X h μ (es.map (·.2)) vs) (e : assoc es n = some d) :
    ∃ v, valueAt ((es.map fun e => c.rows e.1).zip vs) (c.rows n) = some v ∧ VR c X h μ d v := by
  have e' : assoc (es.map fun e => (c.rows e.1, e.2)) (c.rows n) = some d := by
    clear rs
    induction es with
    | nil => exact noS e
    | cons x r ih =>
      obtain ⟨a, d'⟩ := x
      simp only [assoc, List.map_cons] at e ⊢
      by_cases q : a = n
      · rw [if_pos q] at e; rw [if_pos (by rw [q])]; exact e
      · rw [if_neg q] at e
        rw [if_neg (fun z => q (c.inj _ _ (b _ (.head _)) hn z))]
        exact ih (fun e m => b e (.tail _ m)) e
  have := assoc_zip (vs := vs) (by rw [List.map_map]; exact rs) e'
  rw [List.map_map] at this
  exact this
theorem idxL_ok {A : Around} {s : Shared} {xs : List PV} {vs : List Value} {a : Addr} {k : Int} {t : Tok} {d : PV} {Q : Value → Shared → Prop} {E} (hl : s.heap.IsList a vs.toArray) (rs : VRs c X s.heap μ xs vs) (e : idxL xs k = some d)
    (q : ∀ v, VR c X s.heap μ d v → Q v s) : wpAny c.M A (getItem (.ref a) (.int k t)) Q E s := by
  unfold idxL at e
  split at e
  case isFalse => exact noS e
  rename_i hf
  simp only [fits, Bool.and_eq_true, decide_eq_true_eq] at hf
  split at e
  · rename_i h0
    obtain ⟨v, e1, r⟩ := rs.get e
    exact wpAny_getItem_list hl h0 hf.2 (by simpa using e1) (q v r)
  · rename_i h0
    split at e
    case isFalse => exact noS e
    rename_i h1
    obtain ⟨v, e1, r⟩ := rs.get e
    have hz : (vs.toArray.size : Int) = xs.length := by rw [List.size_toArray, rs.length]
    exact wpAny_getItem_list_neg hl (by lia) (by lia) hf.1 (by rw [hz]; simpa using e1) (q v r)
theorem oGet_sh {σ : List Cell} {d1 d2 d : PV} (e : oGet σ d1 d2 = some d) : (∃ x k, d1 = .str x ∧ d2 = .int k ∧ idxS x k = some d) ∨ (∃ xs k, d1 = .lst xs ∧ d2 = .int k ∧ idxL xs k = some d) ∨
    (∃ j k xs, d1 = .ref j ∧ d2 = .int k ∧ peek σ[j]? = some (.list xs) ∧ idxL xs k = some d) ∨ (∃ j k es, d1 = .ref j ∧ d2 = .int k ∧ peek σ[j]? = some (.dint es) ∧ assoc es k = some d) ∨
    ∃ j k es, d1 = .ref j ∧ d2 = .node k ∧ peek σ[j]? = some (.dnod es) ∧ assoc es k = some d := by
  unfold oGet at e
  split at e
  · exact .inr (.inl ⟨_, _, rfl, rfl, e⟩)
  · exact .inl ⟨_, _, rfl, rfl, e⟩
  · split at e
    · rename_i z; exact .inr (.inr (.inl ⟨_, _, _, rfl, rfl, z, e⟩))
    · rename_i z; exact .inr (.inr (.inr (.inl ⟨_, _, _, rfl, rfl, z, e⟩)))
    · exact noS e
  · split at e
    · rename_i z; exact .inr (.inr (.inr (.inr ⟨_, _, _, rfl, rfl, z, e⟩)))
    · exact noS e
  · exact noS e
theorem get_ok (value slice : Expr) : Op2 c lv (subscriptTail value slice) oGet := by
  intro A fl X μ s σ v1 v2 d1 d2 d Q E ca I r1 r2 e q
  rcases oGet_sh e with ⟨x, k, rfl, rfl, e'⟩ | ⟨xs, k, rfl, rfl, e'⟩ | ⟨j, k, xs, rfl, rfl, hp, e'⟩ | ⟨j, k, es, rfl, rfl, hp, e'⟩ | ⟨j, n, es, rfl, rfl, hp, e'⟩
  · obtain ⟨t, rfl⟩ := r1.str_inv
    obtain ⟨u, rfl⟩ := r2.int_inv
    unfold idxS at e'
    split at e'
    case isFalse => exact noS e'
    rename_i hf
    obtain ⟨ch, e1, rfl⟩ := map_some e'
    exact sub_tail (typeIs_str s x t) F.slot_str_getitem.lookup (getItem_str hf e1 (q _ s.heap _ (.refl _) (.str _ _)))
  · obtain ⟨a, vs, rfl, hl, nX, rs⟩ := r1.lst_inv
    obtain ⟨u, rfl⟩ := r2.int_inv
    exact sub_tail hl.typeIs slot_list_getitem.lookup (idxL_ok hl rs e' fun v r => q v s.heap s.toks (.refl _) r)
  · obtain ⟨a, rfl, ha⟩ := r1.ref_inv
    obtain ⟨u, rfl⟩ := r2.int_inv
    obtain ⟨vs, hl, rs⟩ := peek_at I ha hp
    exact sub_tail hl.isList.typeIs slot_list_getitem.lookup (idxL_ok hl.isList rs e' fun v r => q v s.heap s.toks (.refl _) r)
  · obtain ⟨a, rfl, ha⟩ := r1.ref_inv
    obtain ⟨u, rfl⟩ := r2.int_inv
    obtain ⟨vs, hd, rs⟩ := peek_at I ha hp
    obtain ⟨v, e1, r⟩ := assoc_zip rs e'
    exact sub_tail hd.typeIs slot_dict_getitem.lookup (wpAny_getItem_of (k := k) (by simp [PySem.intKind, Value.isInt]) hd.mapOf e1 (q v s.heap _ (.refl _) r))
  · obtain ⟨a, rfl, ha⟩ := r1.ref_inv
    obtain ⟨hn, u, rfl⟩ := r2.node_inv
    obtain ⟨b, vs, hd, rs⟩ := peek_at I ha hp
    obtain ⟨v, e1, r⟩ := assoc_nod b hn rs e'
    exact sub_tail hd.typeIs slot_dict_getitem.lookup (wpAny_getItem_of (k := c.rows n) (by simp [PySem.strKind, Value.isStrOf]) hd.mapOf e1 (q v s.heap _ (.refl _) r))
theorem R_sub {value slice : Expr} {f g : Co} (pos) (h1 : Ev c lv C value f) (h2 : Ev c lv C slice g) : Ev c lv C (.Subscript value slice pos) (cBin oGet f g) := by
  intro A fl env X μ s st d σ' Q E ca I F e q
  obtain ⟨⟨d1, σ1⟩, e1, e⟩ := bind_some e
  obtain ⟨⟨d2, σ2⟩, e2, e⟩ := bind_some e
  obtain ⟨r, e3, e⟩ := map_some e
  obtain ⟨rfl, rfl⟩ := prS e
  refine Subscript_ (h1 A fl env X μ s st d1 σ1 _ _ ca I F e1 fun v1 h' tk X' μ' S1 I1 r1 => ?_)
  refine h2 A fl env X' μ' _ ⟨st.ρ, σ1⟩ d2 σ' _ _ ca I1 (F.ex I S1) e2 fun v2 h'' tk' X'' μ'' S2 I2 r2 => ?_
  refine get_ok _ _ A fl X'' μ'' _ σ' v1 v2 d1 d2 d _ _ ca I2 (r1.mv (S2.mv0 I1 rfl)) r2 e3 fun v h3' tk3 l r3 => ?_
  exact q v h3' tk3 X'' μ'' ((S1.trans S2).trans (.le l)) (I2.le l) r3
noncomputable abbrev Cp := St → Option (Option Int × List Cell)
noncomputable def EvP (c : Cx) (lv : Lv) (C : SC) (x : Option Expr) (f : Cp) : Prop :=
  ∀ A fl env X μ (s : Shared) st k σ' (Q : Value → Shared → Prop) (E : Value → Shared → Prop), Calm lv A fl → Inv c fl X μ s.heap st.σ → FrS c C env X μ s.heap st.ρ → f st = some (k, σ') →
    (∀ p : Option (Int × Tok), p.map (·.1) = k → ∀ h' tk X' μ', Step fl.fa [] X μ s.heap X' μ' h' → Inv c fl X' μ' h' σ' → Q (partValue p) { s with heap := h', toks := tk }) →
    wpAny c.M A (evalPart x env) Q E s
noncomputable def pNone : Cp := fun st => some (none, st.σ)
noncomputable def pSome (f : Co) : Cp := fun st => (f st).bind fun (d, σ1) => match d with | .int k => some (some k, σ1) | _ => none
theorem P_none : EvP c lv C none pNone := by
  intro A fl env X μ s st k σ' Q E ca I F e q
  obtain ⟨rfl, rfl⟩ := prI e
  rw [evalPart_none]
  exact wpAny_pure (q none rfl s.heap s.toks X μ (.le (.refl _)) I)
theorem P_some {x : Expr} {f : Co} (h : Ev c lv C x f) : EvP c lv C (some x) (pSome f) := by
  intro A fl env X μ s st k σ' Q E ca I F e q
  obtain ⟨⟨d, σ1⟩, e1, e⟩ := bind_some e
  dsimp only at e
  split at e
  case h_2 => exact noS e
  obtain ⟨rfl, rfl⟩ := prJ e
  rw [evalPart_some]
  refine h A fl env X μ s st _ σ' _ _ ca I F e1 fun v h' tk X' μ' S1 I1 r1 => ?_
  cases r1 with | int _ t => exact q (some (_, t)) rfl h' tk X' μ' S1 I1
theorem part_is {p : Option (Int × Tok)} : IsPart (partValue p) (p.map (·.1)) := by
  cases p with
  | none => exact .none
  | some p => exact .int _ _
noncomputable def lslice (lo hi : Option Int) (xs : List PV) : List PV :=
  (sliceRange (sliceBounds lo hi none xs.length).1 (sliceBounds lo hi none xs.length).2.1 (sliceBounds lo hi none xs.length).2.2).filterMap (xs[·]?)
noncomputable def sslice (lo hi : Option Int) (x : Str) : Str :=
  if (Builtin.Str.strSliceIndices lo hi 1 x.length).length == x.length then x else ⟨((Builtin.Str.strSliceIndices lo hi 1 x.length).filterMap (x.cps[·]?)).toArray⟩
noncomputable def oSlc (lo hi : Option Int) : PV → Option PV
  | .lst xs => if xs.length ≤ 4096 then some (.lst (lslice lo hi xs)) else none
  | .str s => if s.length ≤ 4096 then some (.str (sslice lo hi s)) else none
  | _ => none
noncomputable def cSlc (f : Co) (g1 g2 : Cp) : Co := fun st => (f st).bind fun (d, σ1) => (g1 ⟨st.ρ, σ1⟩).bind fun (lo, σ2) => (g2 ⟨st.ρ, σ2⟩).bind fun (hi, σ3) => (oSlc lo hi d).map fun r => (r, σ3)
theorem VRs.pick {xs : List PV} {vs : List Value} (r : VRs c X h μ xs vs) : ∀ is : List Nat, VRs c X h μ (is.filterMap (xs[·]?)) (is.filterMap (vs[·]?))
  | [] => .nil
  | i :: is => by
    rw [List.filterMap_cons, List.filterMap_cons]
    cases e : xs[i]? with
    | none =>
      have : vs[i]? = none := by rw [List.getElem?_eq_none_iff] at e ⊢; rw [← r.length]; exact e
      rw [this]; exact VRs.pick r is
    | some d =>
      obtain ⟨v, e1, x⟩ := r.get e
      rw [e1]; exact .cons x (VRs.pick r is)
set_option tactic.hygienic true in
theorem R_slice {value : Expr} {l u : Option Expr} {f : Co} {g1 g2 : Cp} (p pos) (h1 : Ev c lv C value f) (h2 : EvP c lv C l g1) (h3 : EvP c lv C u g2) : Ev c lv C (.Subscript value (.Slice l u none p) pos) (cSlc f g1 g2) := by
  intro A fl env X μ s st d σ' Q E ca I F e q
  obtain ⟨⟨d1, σ1⟩, e1, ea⟩ := bind_some e
  obtain ⟨⟨lo, σ2⟩, e2, eb⟩ := bind_some ea
  obtain ⟨⟨hi, σ3⟩, e3, ec⟩ := bind_some eb
  obtain ⟨r, e4, ed⟩ := map_some ec
  clear e ea eb ec
  obtain ⟨rfl, rfl⟩ := prS ed
  refine Subscript_ (h1 A fl env X μ s st d1 σ1 _ _ ca I F e1 fun v1 h' tk X' μ' S1 I1 r1 => ?_)
  refine wpAny_Slice (h2 A fl env X' μ' _ ⟨st.ρ, σ1⟩ lo σ2 _ _ ca I1 (F.ex I S1) e2 fun p2 z2 h'' tk' X'' μ'' S2 I2 => ?_)
  refine h3 A fl env X'' μ'' _ ⟨st.ρ, σ2⟩ hi σ' _ _ ca I2 ((F.ex I S1).ex I1 S2) e3 fun p3 z3 h3' tk3 X3 μ3 S3 I3 => ?_
  rw [evalPart_none]
  refine wpAny_pure ?_
  have S12 := (S1.trans S2).trans S3
  have r1' := r1.mv ((S2.trans S3).mv0 I1 rfl)
  have lp := Le.push h3' { cls := .type "slice", data := .fields #[partValue p2, partValue p3, .none] }
  have hn := Heap.get?_push_size h3' (o := { cls := .type "slice", data := .fields #[partValue p2, partValue p3, .none] }) rfl
  cases r1' <;> first | (exact noS e4; done) | skip
  · rename_i x t
    unfold oSlc at e4
    dsimp only at e4
    split at e4
    case isFalse => exact noS e4
    rename_i hz
    obtain rfl := soJ e4
    refine sub_tail (typeIs_str _ x t) PySem.F.slot_str_getitem.lookup (wpAny_getItem_str_slice (l := p2) (u := p3) (st := none) ⟨_, hn, rfl, rfl⟩ rfl ?_)
    unfold sliceMade slicePicked
    have w0 : ((Option.map (fun x : Int × Tok => x.1) none).getD 1 == (1 : Int)) = true := rfl
    rw [w0, Bool.true_and, z2, z3]
    have w1 : ((Option.map (fun x : Int × Tok => x.1) none).getD (1 : Int)) = 1 := rfl
    rw [w1]
    refine post_val_or_made (fun _ => Nat.le_trans (List.length_filterMap_le _ _) (Nat.le_trans (indices_len_le _ _ _) (Nat.le_trans hz (by decide)))) fun t' k => ?_
    exact q _ _ k X3 μ3 (S12.trans (.le lp)) (I3.le lp) (.str _ _)
  · rename_i xs a vs hl nX rs
    unfold oSlc at e4
    dsimp only at e4
    split at e4
    case isFalse => exact noS e4
    rename_i hz
    obtain rfl := soJ e4
    have hl' := hl.push { cls := .type "slice", data := .fields #[partValue p2, partValue p3, .none] }
    have z : vs.length = xs.length := rs.length.symm
    refine sub_tail hl'.typeIs slot_list_getitem.lookup (wpAny_getItem_list_slice hl' ⟨_, hn, rfl, rfl⟩ part_is part_is .none (by simp) ?_ (by rw [List.size_toArray, z]; exact Nat.le_trans hz (by decide)))
    have l2 := lp.trans (Le.push _ { cls := .type "list", data := .seq (slicePick vs.toArray (p2.map (·.1)) (p3.map (·.1)) none) })
    refine q _ _ tk3 X3 μ3 (S12.trans (.le l2)) (I3.le l2) (.lst (vs := (slicePick vs.toArray (p2.map (·.1)) (p3.map (·.1)) none).toList) ⟨_, Heap.get?_push_size _ rfl, rfl, _, rfl⟩ (I3.le lp).fresh ?_)
    have w : VRs c X3 h3' μ3 (lslice lo hi xs) (slicePick vs.toArray (p2.map (·.1)) (p3.map (·.1)) none).toList := by
      subst z2 z3
      unfold slicePick lslice
      rw [List.size_toArray, z]
      simpa using rs.pick _
    exact w.le l2
end
end Mine
end
section
set_option tactic.hygienic false
open PySem PySem.W PyProof.Rows PySem.Calls
namespace Mine
section
variable {c : Cx} {fl : Lx} {X μ : List Addr} {h h' : Heap} {σ : List Cell}
theorem upd_cell {j : Nat} {a : Addr} {cl0 cl : Cell} (I : Inv c fl X μ h σ) (ha : μ[j]? = some a) (hc : σ[j]? = some cl0) (nl : ∀ cl', cl0 ≠ .lock cl') (ncl : ∀ cl', cl ≠ .lock cl') (s : Heap.SameBut a h h') {o' : Obj} (g' : h'.get? a = some o')
    (nf : ∀ vs, o'.data ≠ .fields vs) (nt : NT o') (r : Mv X h μ X h' μ → CR c X h' μ a cl) : Step fl.fa [] X μ h X μ h' ∧ Inv c fl X μ h' (σ.set j cl) := by
  have S : Step fl.fa [] X μ h X μ h' := .same s (.inr (List.mem_of_getElem? ha)) fun o _ => ⟨o', g', fun _ => nf⟩
  exact ⟨S, I.upd S (fun _ m => nomatch m) s ha (fun cl' z => nl cl' (Option.some.inj (hc.symm.trans z))) ncl ⟨o', g', nt⟩ (r (S.mv0 I rfl))⟩
theorem upd_list {j : Nat} {a : Addr} {cl0 : Cell} {xs : List PV} {vs : List Value} (I : Inv c fl X μ h σ) (ha : μ[j]? = some a) (hc : σ[j]? = some cl0) (nl : ∀ cl', cl0 ≠ .lock cl') (s : Heap.SameBut a h h') (g' : h'.PlainList a vs.toArray)
    (r : VRs c X h μ xs vs) : Step fl.fa [] X μ h X μ h' ∧ Inv c fl X μ h' (σ.set j (.list xs)) := by
  obtain ⟨n, e⟩ := id g'
  exact upd_cell I ha hc nl (fun _ z => nomatch z) s e (fun _ z => nomatch z) (fun _ _ _ z => by simp at z) fun M => ⟨vs, g', r.mv M⟩
end
noncomputable abbrev Fn := List PV → List Cell → Option (PV × List Cell)
noncomputable def m0 (f : List Cell → Option (PV × List Cell)) : Fn := fun ds σ => match ds with
  | [] => f σ
  | _ => none
noncomputable def m1 (f : List Cell → PV → Option (PV × List Cell)) : Fn := fun ds σ => match ds with
  | [a] => f σ a
  | _ => none
noncomputable def m2 (f : List Cell → PV → PV → Option (PV × List Cell)) : Fn := fun ds σ => match ds with
  | [a, b] => f σ a b
  | _ => none
section
variable {c : Cx} {lv : Lv} {C : SC}
theorem Ap.m0 {g : Value} {f} (h : ∀ A fl X μ (s : Shared) σ d σ' (Q : Value → Shared → Prop) (E : Value → Shared → Prop), Calm lv A fl → Inv c fl X μ s.heap σ → f σ = some (d, σ') →
    (∀ v h' tk X' μ', Step fl.fa [] X μ s.heap X' μ' h' → Inv c fl X' μ' h' σ' → VR c X' h' μ' d v → Q v { s with heap := h', toks := tk }) → wpAny c.M A (call g [] []) Q E s) : Ap c lv g (m0 f) := by
  intro A fl X μ s σ ds vs d σ' Q E ca I rs e q
  cases rs with
  | nil => exact h A fl X μ s σ d σ' Q E ca I e q
  | cons => exact noS e
theorem Ap.m1 {g : Value} {f} (h : ∀ A fl X μ (s : Shared) σ v1 d1 d σ' (Q : Value → Shared → Prop) (E : Value → Shared → Prop), Calm lv A fl → Inv c fl X μ s.heap σ → VR c X s.heap μ d1 v1 → f σ d1 = some (d, σ') →
    (∀ v h' tk X' μ', Step fl.fa [] X μ s.heap X' μ' h' → Inv c fl X' μ' h' σ' → VR c X' h' μ' d v → Q v { s with heap := h', toks := tk }) → wpAny c.M A (call g [v1] []) Q E s) : Ap c lv g (m1 f) := by
  intro A fl X μ s σ ds vs d σ' Q E ca I rs e q
  cases rs with
  | nil => exact noS e
  | cons r1 rs => cases rs with
    | nil => exact h A fl X μ s σ _ _ d σ' Q E ca I r1 e q
    | cons => exact noS e
theorem Ap.m2 {g : Value} {f} (h : ∀ A fl X μ (s : Shared) σ v1 v2 d1 d2 d σ' (Q : Value → Shared → Prop) (E : Value → Shared → Prop), Calm lv A fl → Inv c fl X μ s.heap σ → VR c X s.heap μ d1 v1 → VR c X s.heap μ d2 v2 → f σ d1 d2 = some (d, σ') →
    (∀ v h' tk X' μ', Step fl.fa [] X μ s.heap X' μ' h' → Inv c fl X' μ' h' σ' → VR c X' h' μ' d v → Q v { s with heap := h', toks := tk }) → wpAny c.M A (call g [v1, v2] []) Q E s) : Ap c lv g (m2 f) := by
  intro A fl X μ s σ ds vs d σ' Q E ca I rs e q
  cases rs with
  | nil => exact noS e
  | cons r1 rs => cases rs with
    | nil => exact noS e
    | cons r2 rs => cases rs with
      | nil => exact h A fl X μ s σ _ _ _ _ d σ' Q E ca I r1 r2 e q
      | cons => exact noS e
noncomputable def listOf (σ : List Cell) : PV → Option (Nat × List PV)
  | .ref j => match σ[j]? with
    | some (.list xs) => if xs.length ≤ 4096 then some (j, xs) else none
    | _ => none
  | _ => none
set_option tactic.hygienic true in
theorem listOf_is {fl X μ h σ} {d : PV} {v : Value} {j xs} (I : Inv c fl X μ h σ) (r : VR c X h μ d v) (e : listOf σ d = some (j, xs)) : d = .ref j ∧ ∃ a vs, v = .ref a ∧ μ[j]? = some a ∧ σ[j]? = some (.list xs) ∧ h.PlainList a vs.toArray ∧ VRs c X h μ xs vs ∧ vs.length ≤ 4096 := by
  unfold listOf at e
  split at e
  · rename_i i
    cases r with | ref ha =>
    obtain ⟨cl, hc, cr⟩ := I.at ha
    rw [hc] at e
    split at e
    · rename_i z; obtain rfl := soJ z
      split at e
      · rename_i hz
        obtain ⟨rfl, rfl⟩ := prI e
        obtain ⟨vs, p, rs⟩ := cr
        exact ⟨rfl, _, vs, rfl, ha, hc, p, rs, rs.length ▸ hz⟩
      · exact noS e
    · exact noS e
  · exact noS e
noncomputable def gAppend : Fn := m2 fun σ a x => (listOf σ a).map fun (j, xs) => (.none, σ.set j (.list (xs ++ [x])))
theorem append_ap : Ap c lv (.builtin "list.append") gAppend := .m2 fun A fl X μ s σ v1 v2 d1 d2 d σ' Q E ca I r1 r2 e q => by
  obtain ⟨⟨j, xs⟩, e1, e2⟩ := map_some e
  obtain ⟨rfl, rfl⟩ := prS e2
  obtain ⟨rfl, a, vs, rfl, ha, hc, p, rs, hz⟩ := listOf_is I r1 e1
  refine wpAny_list_append_plain p (fun h' p' sb => ?_) (by rw [List.size_toArray]; exact Nat.le_trans hz (by decide))
  obtain ⟨S, I'⟩ := upd_list (vs := vs ++ [v2]) I ha hc (fun _ z => nomatch z) sb (by simpa using p') (rs.app (.one r2))
  exact q .none h' s.toks X μ S I' .none
noncomputable def gClear : Fn := m1 fun σ a => (listOf σ a).map fun (j, xs) => (.none, σ.set j (.list []))
theorem clear_ap : Ap c lv (.builtin "list.clear") gClear := .m1 fun A fl X μ s σ v1 d1 d σ' Q E ca I r1 e q => by
  obtain ⟨⟨j, xs⟩, e1, e2⟩ := map_some e
  obtain ⟨rfl, rfl⟩ := prS e2
  obtain ⟨rfl, a, vs, rfl, ha, hc, p, rs, hz⟩ := listOf_is I r1 e1
  obtain ⟨n, g⟩ := id p
  refine call_meets PySem.F.slot_list_clear p.isList.typeIs PySem.F.entry_list_clear (PySem.F.args_list_clear_1 _) (AutoSeq1.list_clear_list_0 a vs.toArray n (by rw [List.size_toArray]; exact Nat.le_trans hz (by decide))) ⟨g, ?_⟩
  have g' := Heap.get?_update_self (Obj.mapSeq fun _ => #[]) g rfl
  obtain ⟨S, I'⟩ := upd_list (vs := []) I ha hc (fun _ z => nomatch z) (Heap.SameBut.update ..) ⟨_, g'⟩ .nil
  exact q .none _ s.toks X μ S I' .none
noncomputable def gPop : Fn := m1 fun σ a => (listOf σ a).bind fun (j, xs) => (xs[xs.length - 1]?).map fun y => (y, σ.set j (.list (xs.take (xs.length - 1))))
theorem pop_ap : Ap c lv (.builtin "list.pop") gPop := .m1 fun A fl X μ s σ v1 d1 d σ' Q E ca I r1 e q => by
  obtain ⟨⟨j, xs⟩, e1, e2⟩ := bind_some e
  obtain ⟨y, e3, e4⟩ := map_some e2
  obtain ⟨rfl, rfl⟩ := prS e4
  obtain ⟨rfl, a, vs, rfl, ha, hc, p, rs, hz⟩ := listOf_is I r1 e1
  obtain ⟨n, g⟩ := id p
  obtain ⟨v, e5, r⟩ := rs.get e3
  have hl := rs.length
  refine call_meets PySem.F.slot_list_pop p.isList.typeIs PySem.F.entry_list_pop (PySem.F.args_list_pop_1 _) (MeetsSeq.list_pop_last a vs.toArray n v (by rw [List.size_toArray, ← hl]; simpa using e5) (by rw [List.size_toArray]; exact Nat.le_trans hz (by decide))) ⟨g, ?_⟩
  have g' := Heap.get?_update_self (Obj.mapSeq fun xs => xs.eraseIdxIfInBounds (vs.toArray.size - 1)) g rfl
  have z : vs.toArray.eraseIdxIfInBounds (vs.toArray.size - 1) = (vs.take (xs.length - 1)).toArray := by
    have h0 : vs.length - 1 < vs.length := by
      rcases Nat.eq_zero_or_pos vs.length with h0 | h0
      · rw [hl, h0] at e5
        simp [List.length_eq_zero_iff.mp h0] at e5
      · lia
    apply Array.ext'
    rw [Array.eraseIdxIfInBounds, dif_pos (by simpa using h0)]
    simp only [Array.toList_eraseIdx, List.size_toArray, hl]
    rw [List.eraseIdx_eq_take_drop_succ, List.drop_eq_nil_of_le (by lia)]
    simp
  have g2 : (s.heap.update a (Obj.mapSeq fun xs => xs.eraseIdxIfInBounds (vs.toArray.size - 1))).PlainList a (vs.take (xs.length - 1)).toArray := by
    rw [← z]; exact ⟨_, g'⟩
  obtain ⟨S, I'⟩ := upd_list (vs := vs.take (xs.length - 1)) I ha hc (fun _ z => nomatch z) (Heap.SameBut.update ..) g2 (rs.take _)
  exact q v _ s.toks X μ S I' (r.mv (S.mv0 I rfl))
noncomputable def gCount : Fn := m2 fun σ a x => (listOf σ a).bind fun (j, xs) => match x with
  | .str y => (strsOf xs).map fun l => (.int (l.countP (· == y) : Nat), σ)
  | _ => none
theorem strs_count {X μ h} {s : Str} {xs : List PV} {vs : List Value} {l : List Str} (r : VRs c X h μ xs vs) (e : strsOf xs = some l) :
    vs.countP (fun v => match v with | .str a _ => a == s | _ => false) = l.countP (· == s) :=
  strs_ind (m := fun vs l => vs.countP (fun v => match v with | .str a _ => a == s | _ => false) = l.countP (· == s)) rfl (fun s' t vs l ih => by rw [List.countP_cons, List.countP_cons, ih]) r e
set_option tactic.hygienic true in
theorem count_ap : Ap c lv (.builtin "list.count") gCount := .m2 fun A fl X μ s σ v1 v2 d1 d2 d σ' Q E ca I r1 r2 e q => by
  obtain ⟨⟨j, xs⟩, e1, e2⟩ := bind_some e
  dsimp only at e2
  split at e2
  · obtain ⟨l, e3, e4⟩ := map_some e2
    obtain ⟨rfl, rfl⟩ := prS e4
    obtain ⟨rfl, a, vs, rfl, ha, hc, p, rs, hz⟩ := listOf_is I r1 e1
    obtain ⟨n, g⟩ := id p
    cases r2 with | str _ t =>
    rename_i y
    refine call_meets PySem.F.slot_list_count p.isList.typeIs PySem.F.entry_list_count (PySem.F.args_list_count_2 _ _) (SeqAt.list_countAt a vs.toArray n none #[] _ (fun v => match v with | .str a _ => a == y | _ => false)) ⟨g, fun v m => ?_, ?_⟩
    · obtain ⟨b, u, rfl⟩ := (strs_any (s := y) rs e3).2 v (by simpa using m)
      exact SeqAt.EqAt.str_str _ _ _ _
    · rw [show vs.toArray.toList = vs from rfl, strs_count rs e3]
      exact q _ s.heap _ X μ (.le (.refl _)) I (.int _ _)
  · exact noS e2
end
end Mine
end
section
set_option tactic.hygienic false
open PySem PySem.W PyProof.Rows PySem.Calls
set_option maxRecDepth 100000
open Builtin Builtin.Str
namespace Mine
section
variable {c : Cx} {lv : Lv} {C : SC}
noncomputable def Mt (c : Cx) (lv : Lv) (name : Str) (ok : List Cell → PV → Bool) (g : Fn) : Prop :=
  ∀ A fl X μ (s : Shared) σ ov d pl (Q : Value × List Value → Shared → Prop) (E : Value → Shared → Prop), Calm lv A fl → Inv c fl X μ s.heap σ → VR c X s.heap μ d ov → ok σ d = true →
    (∀ f, Kp c f → Ap c lv f g → Q (f, [ov]) s) → wpAny c.M A (getMethod ov name pl) Q E s
noncomputable def cMeth (ok : List Cell → PV → Bool) (g : Fn) (f : Co) (fs : Cl) : Co := fun st => (f st).bind fun (d, σ1) => if ok σ1 d = true then (fs ⟨st.ρ, σ1⟩).bind fun (ds, σ2) => g (d :: ds) σ2 else none
theorem R_meth {o : Expr} {name : Str} {args : List Expr} {ok g} {f : Co} {fs : Cl} (apos pos : Pos) (hb : ∀ env, attributeBase o name env (eval o env) = eval o env)
    (hf : ∀ env, (backTo pos (starEach args env)).all (fun x => !x.1) = true) (hn : args.length < 29) (hl : (apos.endLine == pos.line) = true)
    (h : Ev c lv C o f) (hm : Mt c lv name ok g) (hs : Ags c lv C args fs) : Ev c lv C (.Call (.Attribute o name apos) args [] pos) (cMeth ok g f fs) := by
  intro A fl env X μ s st d σ' Q E ca I F e q
  obtain ⟨⟨d1, σ1⟩, e1, e⟩ := bind_some e
  dsimp only at e
  split at e
  case isFalse => exact noS e
  rename_i hok
  obtain ⟨⟨ds, σ2⟩, e2, e⟩ := bind_some e
  rw [arm_eval_Call, hb]
  refine wpAny_bind (h A fl env X μ s st d1 σ1 _ _ ca I F e1 fun v1 h' tk X' μ' S1 I1 r1 => ?_)
  refine wpAny_bind (wpAny_standAt ?_)
  have hform : methodCallForm (args.length + ([] : List Keyword).length) (backTo pos (starEach args env)) (backToKw pos (keywordEach [] env)) = true := by
    unfold methodCallForm
    rw [hf]
    have : (backToKw pos (keywordEach [] env)) = [] := rfl
    rw [this]
    simp
    lia
  have hpos : methodCallPos true o env apos pos = pure pos := by unfold methodCallPos; simp [hl]
  unfold methodCall
  rw [hform]
  refine wpAny_bind (wpAny_holding (hm A fl X' μ' _ σ1 v1 d1 _ _ _ ca I1 r1 hok fun f hk ha => ?_))
  refine wpAny_bind (wpAny_of_eq hpos ?_)
  refine callWith_any (hs A fl env X' μ' _ ⟨st.ρ, σ1⟩ ds σ2 pos f _ _ ca I1 (F.ex I S1) e2 fun vs h'' tk' X'' μ'' S2 I2 rs => ⟨rfl, fun R q' => hk.ok (fun b o e => (I2.base b o e).1) R q', ?_⟩)
  exact ha A fl X'' μ'' _ σ2 (d1 :: ds) (v1 :: vs) d σ' _ _ ca I2 (.cons (r1.mv (S2.mv0 I1 rfl)) rs) e fun v h3 tk3 X3 μ3 S3 I3 r3 => q v h3 tk3 X3 μ3 ((S1.trans S2).trans S3) I3 r3
noncomputable def isList (σ : List Cell) (d : PV) : Bool := (listOf σ d).isSome
theorem Mt.list {name : Str} {id : String} {g} (slot : Slot "list" name id) (ty : typeOf (.builtin id) = pure (.type "method_descriptor")) (ha : Ap c lv (.builtin id) g) : Mt c lv name isList g := by
  intro A fl X μ s σ ov d pl Q E ca I r ok q
  unfold isList at ok
  cases e : listOf σ d with
  | none => rw [e] at ok; exact noF ok
  | some p =>
    obtain ⟨rfl, a, vs, rfl, hm, hc, hp, rs, hz⟩ := listOf_is I r e
    exact getMethod_builtin hp.isList.typeIs PySem.F.plainAttrs_list slot ty (fun b eb => by cases eb; obtain ⟨n, g⟩ := hp; exact ⟨_, g, rfl⟩) (q _ (.inl ⟨_, rfl⟩) ha)
noncomputable def isStr (σ : List Cell) : PV → Bool
  | .str _ => true
  | _ => false
theorem Mt.str {name : Str} {id : String} {g} (slot : Slot "str" name id) (ty : typeOf (.builtin id) = pure (.type "method_descriptor")) (ha : Ap c lv (.builtin id) g) : Mt c lv name isStr g := by
  intro A fl X μ s σ ov d pl Q E ca I r ok q
  cases r <;> first | (exact noF ok; done) | skip
  exact getMethod_builtin (typeIs_str _ _ _) PySem.F.plainAttrs_str slot ty (fun _ eb => nomatch eb) (q _ (.inl ⟨_, rfl⟩) ha)
noncomputable def isDnod (σ : List Cell) : PV → Bool
  | .ref j => match σ[j]? with
    | some (.dnod _) => true
    | _ => false
  | _ => false
set_option tactic.hygienic true in
theorem Mt.dnod {name : Str} {id : String} {g} (slot : Slot "dict" name id) (ty : typeOf (.builtin id) = pure (.type "method_descriptor")) (ha : Ap c lv (.builtin id) g) : Mt c lv name isDnod g := by
  intro A fl X μ s σ ov d pl Q E ca I r ok q
  cases r <;> first | (exact noF ok; done) | skip
  rename_i j a hm
  obtain ⟨cl, hc, cr⟩ := I.at hm
  unfold isDnod at ok
  dsimp only at ok
  rw [hc] at ok
  cases cl <;> first | (exact noF ok; done) | skip
  obtain ⟨b, vs, hd, rs⟩ := cr
  exact getMethod_builtin hd.typeIs PySem.F.plainAttrs_dict slot ty (fun b eb => by cases eb; obtain ⟨o, es, ep, g, ex, _⟩ := hd; exact ⟨_, g, ex.2.1⟩) (q _ (.inl ⟨_, rfl⟩) ha)
noncomputable def isSnod (σ : List Cell) : PV → Bool
  | .ref j => match σ[j]? with
    | some (.snod _) => true
    | _ => false
  | _ => false
set_option tactic.hygienic true in
theorem Mt.snod {name : Str} {id : String} {g} (slot : Slot "set" name id) (ty : typeOf (.builtin id) = pure (.type "method_descriptor")) (ha : Ap c lv (.builtin id) g) : Mt c lv name isSnod g := by
  intro A fl X μ s σ ov d pl Q E ca I r ok q
  cases r <;> first | (exact noF ok; done) | skip
  rename_i j a hm
  obtain ⟨cl, hc, cr⟩ := I.at hm
  unfold isSnod at ok
  dsimp only at ok
  rw [hc] at ok
  cases cl <;> first | (exact noF ok; done) | skip
  obtain ⟨b, S, hd, rs⟩ := cr
  exact getMethod_builtin hd.typeIs PySem.F.plainAttrs_set slot ty hd.noDict (q _ (.inl ⟨_, rfl⟩) ha)
theorem M_append : Mt c lv "append" isList gAppend := .list PySem.F.slot_list_append PySem.F.type_list_append append_ap
theorem M_clear : Mt c lv "clear" isList gClear := .list PySem.F.slot_list_clear PySem.F.type_list_clear clear_ap
theorem M_pop : Mt c lv "pop" isList gPop := .list PySem.F.slot_list_pop PySem.F.type_list_pop pop_ap
theorem M_count : Mt c lv "count" isList gCount := .list PySem.F.slot_list_count PySem.F.type_list_count count_ap
noncomputable def gAlnum : Fn := m1 fun σ a => match a with
  | .str x => some (.bool (x.length > 0 && x.cps.all Unicode.isAlnum), σ)
  | _ => none
theorem alnum_ap : Ap c lv (.builtin "str.isalnum") gAlnum := .m1 fun A fl X μ s σ v1 d1 d σ' Q E ca I r1 e q => by
  cases r1 <;> first | (exact noS e; done) | skip
  obtain ⟨rfl, rfl⟩ := prI e
  exact call_gives PySem.F.slot_str_isalnum (typeIs_str _ _ _) PySem.F.entry_str_isalnum (PySem.F.args_str_isalnum_1 _) (gives_str_isalnum _ _) (show (Made.val _).post _ _ from q _ s.heap s.toks X μ (.le (.refl _)) I (.bool _))
theorem M_alnum : Mt c lv "isalnum" isStr gAlnum := .str PySem.F.slot_str_isalnum PySem.F.type_str_isalnum alnum_ap
noncomputable def seqOf' (σ : List Cell) : PV → Option (List PV)
  | .lst xs => some xs
  | .ref j => match σ[j]? with
    | some (.list xs) => some xs
    | _ => none
  | _ => none
set_option tactic.hygienic true in
theorem seqOf'_is {fl X μ h σ} {d : PV} {v : Value} {xs} (I : Inv c fl X μ h σ) (r : VR c X h μ d v) (e : seqOf' σ d = some xs) : ∃ a vs, v = .ref a ∧ h.IsList a vs.toArray ∧ VRs c X h μ xs vs := by
  cases r <;> first | (exact noS e; done) | skip
  · rename_i xs a vs hl nX rs; obtain rfl := soJ e; exact ⟨_, _, rfl, hl, rs⟩
  · rename_i j a ha
    obtain ⟨cl, hc, cr⟩ := I.at ha
    unfold seqOf' at e
    dsimp only at e
    rw [hc] at e
    cases cl <;> first | (exact noS e; done) | skip
    obtain rfl := soJ e
    obtain ⟨vs, hp, rs⟩ := cr
    exact ⟨_, _, rfl, hp.isList, rs⟩
theorem strs_vals {X μ h} {xs : List PV} {vs : List Value} {l : List Str} (r : VRs c X h μ xs vs) (e : strsOf xs = some l) : ∃ ps : List (Str × Tok), vs = strValues ps ∧ ps.map (·.1) = l :=
  strs_ind (m := fun vs l => ∃ ps : List (Str × Tok), vs = strValues ps ∧ ps.map (·.1) = l) ⟨[], rfl, rfl⟩ (fun s t vs l ih => by
    obtain ⟨ps, e1, e2⟩ := ih
    exact ⟨(s, t) :: ps, congrArg (Value.str s t :: ·) e1, congrArg (s :: ·) e2⟩) r e
noncomputable def gJoin : Fn := m2 fun σ a b => match a with
  | .str sep => (seqOf' σ b).bind fun xs => (strsOf xs).bind fun l => if (l.map (·.length)).sum + l.length * sep.length ≤ 4096 then some (.str (Str.join sep l), σ) else none
  | _ => none
theorem join_fold (sep : Str) : ∀ (l : List Str) (n : Nat), l.foldl (fun a p => a + p.length + sep.length) n = n + ((l.map (·.length)).sum + l.length * sep.length)
  | [], n => by simp
  | x :: r, n => by rw [List.foldl_cons, join_fold sep r]; simp only [List.map_cons, List.sum_cons, List.length_cons, Nat.add_mul, Nat.one_mul]; lia
set_option tactic.hygienic true in
theorem join_ap : Ap c lv (.builtin "str.join") gJoin := .m2 fun A fl X μ s σ v1 v2 d1 d2 d σ' Q E ca I r1 r2 e q => by
  cases r1 <;> first | (exact noS e; done) | skip
  rename_i sep t
  obtain ⟨xs, e1, e⟩ := bind_some e
  obtain ⟨l, e2, e⟩ := bind_some e
  split at e
  case isFalse => exact noS e
  rename_i hz
  obtain ⟨rfl, rfl⟩ := prI e
  obtain ⟨a, vs, rfl, hl, rs⟩ := seqOf'_is I r2 e1
  obtain ⟨ps, rfl, rfl⟩ := strs_vals rs e2
  have hfold : tooLong ((ps.map (·.1)).toArray.foldl (· + ·.length + sep.length) 0) = false := by
    rw [List.foldl_toArray, join_fold]
    have : sizeLine = 16777216 := by decide
    simp only [tooLong, decide_eq_false_iff_not]
    lia
  refine call_meets PySem.F.slot_str_join (typeIs_str _ _ _) PySem.F.entry_str_join (PySem.F.args_str_join_2 _ _) (meets_str_join_list sep t a ps hfold) ⟨hl, ?_⟩
  have hg : ∀ ps' : List (Str × Tok), ps' = ps → (joinMade sep ps').post (fun v s' => Q v s') s := by
    intro ps' hps
    have : Str.join sep (ps'.map (·.1)) = Str.join sep (ps.map (·.1)) := by rw [hps]
    unfold joinMade
    split
    · refine q _ s.heap s.toks X μ (.le (.refl _)) I ?_
      rw [← this, ← PySem.StrLaws.glued_eq_join]
      exact .str _ _
    · refine ⟨?_, q _ s.heap _ X μ (.le (.refl _)) I ?_⟩
      · rw [size_glued]
        rw [← hps] at hz
        refine Nat.le_trans ?_ (Nat.le_trans hz (by decide))
        rw [List.length_map] at *
        exact Nat.add_le_add_left (Nat.mul_le_mul_right _ (Nat.sub_le _ _)) _
      · rw [← this, ← PySem.StrLaws.glued_eq_join]
        exact .str _ _
  exact hg ps rfl
theorem M_join : Mt c lv "join" isStr gJoin := .str PySem.F.slot_str_join PySem.F.type_str_join join_ap
end
end Mine
end
section
set_option tactic.hygienic false
open PySem PySem.W PyProof.Rows PySem.Calls
set_option maxRecDepth 100000
open Builtin Builtin.Str
namespace Mine
section
variable {c : Cx} {lv : Lv} {C : SC}
noncomputable def dnodOf (σ : List Cell) : PV → Option (Nat × List (Nat × PV))
  | .ref j => match σ[j]? with
    | some (.dnod es) => some (j, es)
    | _ => none
  | _ => none
set_option tactic.hygienic true in
theorem dnodOf_is {fl X μ h σ} {d : PV} {v : Value} {j es} (I : Inv c fl X μ h σ) (r : VR c X h μ d v) (e : dnodOf σ d = some (j, es)) : d = .ref j ∧ ∃ a, v = .ref a ∧ μ[j]? = some a ∧ σ[j]? = some (.dnod es) ∧ CR c X h μ a (.dnod es) := by
  unfold dnodOf at e
  split at e
  · rename_i i
    cases r with | ref ha =>
    obtain ⟨cl, hc, cr⟩ := I.at ha
    rw [hc] at e
    split at e
    · rename_i z; obtain rfl := soJ z; obtain ⟨rfl, rfl⟩ := prI e; exact ⟨rfl, _, rfl, ha, hc, cr⟩
    · exact noS e
  · exact noS e
theorem assoc_none {es : List (Nat × PV)} {n : Nat} {vs : List Value} (b : ∀ e ∈ es, e.1 < c.nn) (hn : n < c.nn) (hl : es.length = vs.length) (e : assoc es n = none) : valueAt ((es.map fun e => c.rows e.1).zip vs) (c.rows n) = none := by
  have e' : (es.map (·.1)).contains n = false := by
    clear b hl
    induction es with
    | nil => rfl
    | cons x r ih =>
      obtain ⟨a, d⟩ := x
      unfold assoc at e
      split at e
      · exact noN e
      · rename_i hne
        have hne' : ¬ n = a := fun z => hne z.symm
        simp only [List.map_cons, List.contains_cons, ih e]
        simp [hne']
  have h2 := rows_contains (c := c) (xs := es.map (·.1)) (by simpa using fun a x m => b _ m) hn
  rw [List.map_map, e'] at h2
  have h3 := val_some (k := c.rows n) (ks := es.map fun e => c.rows e.1) (vs := vs) (by simpa using hl)
  rw [show (es.map fun e => c.rows e.1).contains (c.rows n) = false from h2] at h3
  cases hv : valueAt ((es.map fun e => c.rows e.1).zip vs) (c.rows n) with
  | none => rfl
  | some v => rw [hv] at h3; exact noT h3
noncomputable def gGet : Fn := m2 fun σ a b => (dnodOf σ a).bind fun (j, es) => match b with
  | .node n => some ((assoc es n).getD .none, σ)
  | _ => none
set_option tactic.hygienic true in
theorem get_ap : Ap c lv (.builtin "dict.get") gGet := .m2 fun A fl X μ s σ v1 v2 d1 d2 d σ' Q E ca I r1 r2 e q => by
  obtain ⟨⟨j, es⟩, e1, e2⟩ := bind_some e
  clear e
  have e := e2
  clear e2
  obtain ⟨rfl, a, rfl, ha, hc, b, vs, hd, rs⟩ := dnodOf_is I r1 e1
  cases r2 <;> first | (exact noS e; done) | skip
  rename_i n t hn
  obtain ⟨rfl, rfl⟩ := prI e
  refine call_meetsIn PySem.F.slot_dict_get hd.typeIs PySem.F.entry_dict_get (PySem.F.args_dict_get_2 _ _) (meets_dict_get c.ss a (k := c.rows n) (by simp [PySem.strKind, Value.isStrOf]) (I.nsy a (List.mem_of_getElem? ha))) ⟨_, hd.mapOf, ?_⟩
  refine q _ s.heap _ X μ (.le (.refl _)) I ?_
  cases hx : assoc es n with
  | none =>
    rw [assoc_none b hn (by have := rs.length; simpa using this) hx]
    exact .none
  | some x =>
    obtain ⟨v, e3, r⟩ := assoc_nod b hn rs hx
    rw [e3]
    exact r
theorem M_get : Mt c lv "get" isDnod gGet := .dnod PySem.F.slot_dict_get PySem.F.type_dict_get get_ap
noncomputable def gValues : Fn := m1 fun σ a => (dnodOf σ a).map fun (j, es) => (.view j, σ)
theorem values_ap : Ap c lv (.builtin "dict.values") gValues := .m1 fun A fl X μ s σ v1 d1 d σ' Q E ca I r1 e q => by
  obtain ⟨⟨j, es⟩, e1, e2⟩ := map_some e
  clear e
  obtain ⟨rfl, a, rfl, ha, hc, b, vs, hd, rs⟩ := dnodOf_is I r1 e1
  obtain ⟨rfl, rfl⟩ := prS e2
  refine call_meetsIn PySem.F.slot_dict_values hd.typeIs PySem.F.entry_dict_values (PySem.F.args_dict_values_1 _) (meets_dict_values c.ss a (I.nsy a (List.mem_of_getElem? ha))) ⟨⟨_, hd⟩, ?_⟩
  have l := Le.push s.heap { cls := .type "dict_values", data := .fields #[.ref a] }
  exact q _ _ s.toks X μ (.le l) (I.le l) (.view ha (Heap.get?_push_size _ rfl) I.fresh)
theorem M_values : Mt c lv "values" isDnod gValues := .dnod PySem.F.slot_dict_values PySem.F.type_dict_values values_ap
noncomputable def gAdd : Fn := m2 fun σ a b => match a with
  | .ref j => match σ[j]? with
    | some (.snod xs) => match b with
      | .node n => if xs.length ≤ 256 then some (.none, σ.set j (.snod (if xs.contains n then xs else n :: xs))) else none
      | _ => none
    | _ => none
  | _ => none
set_option tactic.hygienic true in
theorem add_ap : Ap c lv (.builtin "set.add") gAdd := .m2 fun A fl X μ s σ v1 v2 d1 d2 d σ' Q E ca I r1 r2 e q => by
  cases r1 <;> first | (exact noS e; done) | skip
  rename_i j a ha
  obtain ⟨cl, hc, cr⟩ := I.at ha
  dsimp only at e
  rw [hc] at e
  cases cl <;> first | (exact noS e; done) | skip
  cases r2 <;> first | (exact noS e; done) | skip
  rename_i xs n t hn
  dsimp only at e
  split at e
  case isFalse => exact noS e
  rename_i hz
  cases e
  obtain ⟨b, S, hs, hS⟩ := cr
  have hSn : S (c.rows n) = xs.contains n := by
    rw [Bool.eq_iff_iff, hS, List.contains_iff_mem]
    exact ⟨fun ⟨x, m, e⟩ => c.inj x n (b x m) hn e ▸ m, fun m => ⟨n, m, rfl⟩⟩
  refine call_set_add (k := c.rows n) (knd := c.ss) (by simp [PySem.strKind, Value.isStrOf]) rfl hs (Nat.lt_of_le_of_lt (Nat.succ_le_succ hz) (by decide)) fun h' sb hs' => ?_
  rw [hSn] at hs'
  obtain ⟨o, es, ep, tb, g, ex, hd, rest⟩ := id hs'
  obtain ⟨S2, I2⟩ := upd_cell (cl := .snod (if xs.contains n then xs else n :: xs)) I ha hc (fun _ z => nomatch z) (fun _ z => nomatch z) sb g (fun _ z => by rw [hd] at z; cases z) (fun _ _ z => by rw [hd] at z; cases z) fun M => by
    by_cases hx : xs.contains n = true
    · rw [if_pos hx]
      rw [if_pos hx] at hs'
      refine ⟨b, _, hs', fun k => ?_⟩
      rw [Bool.or_eq_true, hS, decide_eq_true_eq]
      exact ⟨fun z => z.elim id fun z => ⟨n, List.contains_iff_mem.mp hx, z.symm⟩, .inl⟩
    · rw [if_neg hx]
      rw [if_neg hx] at hs'
      refine ⟨fun x m => (List.mem_cons.mp m).elim (fun z => z ▸ hn) (b x), _, hs', fun k => ?_⟩
      rw [Bool.or_eq_true, hS, decide_eq_true_eq]
      constructor
      · rintro (⟨x, m, e⟩ | e)
        · exact ⟨x, .tail _ m, e⟩
        · exact ⟨n, .head _, e.symm⟩
      · rintro ⟨x, m, e⟩
        rcases List.mem_cons.mp m with rfl | m
        · exact .inr e.symm
        · exact .inl ⟨x, m, e⟩
  exact q .none h' _ X μ S2 I2 .none
theorem M_sadd : Mt c lv "add" isSnod gAdd := .snod PySem.F.slot_set_add PySem.F.type_set_add add_ap
noncomputable def gSet : Fn := m0 fun σ => some (.ref σ.length, σ ++ [.snod []])
theorem set_ap : Ap c lv (.type "set") gSet := .m0 fun A fl X μ s σ d σ' Q E ca I e q => by
  obtain ⟨rfl, rfl⟩ := prI e
  refine call_set_0 fun led => ?_
  obtain ⟨S2, I2, r2⟩ := new_cell (cl := .snod []) (o := { cls := .type "set", dict := none, data := .set #[] 0 (.fresh 0 0 led) }) I rfl (fun _ _ z => by cases z) (fun _ z => by cases z) ⟨(fun _ m => nomatch m), fun _ => false, ⟨_, #[], 0, _, Heap.get?_push_size _ rfl, ⟨rfl, rfl, rfl⟩, rfl, (fun _ m => nomatch m), (fun k => by simp), by decide, by cases led <;> rfl, rfl⟩, fun k => by simp⟩
  exact q _ _ s.toks _ _ S2 I2 r2
noncomputable def gLen : Fn := m1 fun σ a => match a with
  | .str x => if x.length ≤ 4096 then some (.int x.length, σ) else none
  | .lst xs => if xs.length ≤ 4096 then some (.int xs.length, σ) else none
  | .tup xs => if xs.length ≤ 4096 then some (.int xs.length, σ) else none
  | d => (listOf σ d).map fun (j, xs) => (.int xs.length, σ)
set_option tactic.hygienic true in
theorem len_ap : Ap c lv (.builtin "len") gLen := .m1 fun A fl X μ s σ v1 d1 d σ' Q E ca I r1 e q => by
  have big : ∀ {n : Nat}, n ≤ 4096 → ¬ (n : Int) ≥ 2 ^ 63 := fun h => by omega
  cases r1 <;> first | (exact noS e; done) | skip
  · dsimp only at e
    split at e
    · rename_i hz; obtain ⟨rfl, rfl⟩ := prI e
      exact len_str (big hz) (q _ s.heap _ X μ (.le (.refl _)) I (.int _ _))
    · exact noS e
  · rename_i xs a vs hl nX rs
    dsimp only at e
    split at e
    · rename_i hz; obtain ⟨rfl, rfl⟩ := prI e
      have hlen := rs.length
      refine call_len_list hl (by rw [List.size_toArray]; lia) ?_
      rw [List.size_toArray, ← hlen]
      exact q _ s.heap _ X μ (.le (.refl _)) I (.int _ _)
    · exact noS e
  · rename_i xs a vs hl nX rs
    dsimp only at e
    split at e
    · rename_i hz; obtain ⟨rfl, rfl⟩ := prI e
      have hlen := rs.length
      refine len_tuple hl (by rw [List.size_toArray]; lia) ?_
      rw [List.size_toArray, ← hlen]
      exact q _ s.heap _ X μ (.le (.refl _)) I (.int _ _)
    · exact noS e
  · obtain ⟨⟨j, xs⟩, e1, e2⟩ := map_some e
    obtain ⟨rfl, rfl⟩ := prS e2
    rename_i ha
    obtain ⟨z, a, vs, hv, ha, hc, p, rs, hz⟩ := listOf_is I (VR.ref ha) e1
    cases hv
    have hlen := rs.length
    refine call_len_list p.isList (by rw [List.size_toArray]; lia) ?_
    rw [List.size_toArray, ← hlen]
    exact q _ s.heap _ X μ (.le (.refl _)) I (.int _ _)
noncomputable def gRange : Fn := fun ds σ => match ds with
  | [.int n] => some (.rng 0 n, σ)
  | [.int a, .int b] => some (.rng a b, σ)
  | _ => none
set_option tactic.hygienic true in
theorem range_ap : Ap c lv (.type "range") gRange := by
  intro A fl X μ s σ ds vs d σ' Q E ca I rs e q
  unfold gRange at e
  split at e
  · obtain ⟨rfl, rfl⟩ := prI e
    cases rs with | cons r1 rs =>
    cases rs
    cases r1 with | int _ t =>
    rename_i n
    have l := Le.push s.heap { cls := .type "range", data := .fields #[.int 0 s.toks, .int n t, .int 1 (s.toks + 1)] }
    exact call_range_1 (q _ _ _ X μ (.le l) (I.le l) (.rng (IsRange.new ..) I.fresh))
  · obtain ⟨rfl, rfl⟩ := prI e
    cases rs with | cons r1 rs =>
    cases rs with | cons r2 rs =>
    cases rs
    cases r1 with | int _ t =>
    cases r2 with | int _ u =>
    rename_i a b
    have l := Le.push s.heap { cls := .type "range", data := .fields #[.int a t, .int b u, .int 1 s.toks] }
    exact call_range_2 (q _ _ _ X μ (.le l) (I.le l) (.rng (IsRange.new ..) I.fresh))
  · exact noS e
noncomputable def gIsStr : Fn := m2 fun σ a b => match a, b with
  | .str _, .val (.type "str") => some (.bool true, σ)
  | _, _ => none
theorem isinstance_ap : Ap c lv (.builtin "isinstance") gIsStr := .m2 fun A fl X μ s σ v1 v2 d1 d2 d σ' Q E ca I r1 r2 e q => by
  split at e
  · obtain ⟨rfl, rfl⟩ := prI e
    cases r1
    cases r2
    exact IsiPair.str_str (q _ s.heap s.toks X μ (.le (.refl _)) I (.bool _))
  · exact noS e
noncomputable def gTuple : Fn := m1 fun σ a => (listOf σ a).map fun (j, xs) => (.tup xs, σ)
theorem tuple_ap : Ap c lv (.type "tuple") gTuple := .m1 fun A fl X μ s σ v1 d1 d σ' Q E ca I r1 e q => by
  obtain ⟨⟨j, xs⟩, e1, e2⟩ := map_some e
  obtain ⟨rfl, rfl⟩ := prS e2
  obtain ⟨rfl, a, vs, rfl, ha, hc, p, rs, hz⟩ := listOf_is I r1 e1
  refine call_tuple_list p.isList (fun h' l => ?_) (by rw [List.size_toArray]; exact Nat.le_trans hz (by decide))
  have l2 : Le s.heap (h'.push { cls := .type "tuple", data := .seq vs.toArray }) := Le.trans l (.push _ _)
  exact q _ _ s.toks X μ (.le l2) (I.le l2) (.tup ⟨_, Heap.get?_push_size _ rfl, rfl, _, rfl⟩ (I.le l).fresh (rs.le l2))
noncomputable def gIter : Fn := m1 fun σ a => (listOf σ a).map fun (j, xs) => (.ref σ.length, σ ++ [.iter j 0])
theorem iter_ap : Ap c lv (.builtin "iter") gIter := .m1 fun A fl X μ s σ v1 d1 d σ' Q E ca I r1 e q => by
  obtain ⟨⟨j, xs⟩, e1, e2⟩ := map_some e
  obtain ⟨rfl, rfl⟩ := prS e2
  obtain ⟨rfl, a, vs, rfl, ha, hc, p, rs, hz⟩ := listOf_is I r1 e1
  refine call_function_entry (by decide +kernel) (by decide +kernel) kdk_entry_iter (kdk_args_iter _) ?_
  unfold Builtin.«iter»
  refine wpAny_bind (m := someArgs "iter" 1 2 _) (wpAny_of_eq (a := [Value.ref a]) (by first | rfl | kernel_rfl!) ?_)
  show wpAny _ _ (pyIter (.ref a) >>= _) _ _ _
  refine wpAny_bind (wpAny_pyIter_list p.isList ?_)
  obtain ⟨S2, I2, r2⟩ := new_cell (cl := .iter j 0) (o := { cls := .type "list_iterator", data := .fields #[.ref a, .int 0 0] }) I rfl (fun _ _ z => by cases z) (fun _ z => by cases z) ⟨a, by rw [List.getElem?_append_left (List.getElem?_eq_some_iff.mp ha).1]; exact ha, Heap.get?_push_size _ rfl⟩
  exact wpAny_pure ⟨_, rfl, q _ _ s.toks _ _ S2 I2 r2⟩
end
end Mine
end
section
set_option tactic.hygienic false
open PySem PySem.W PyProof.Rows PySem.Calls
set_option maxRecDepth 100000
open Builtin Builtin.Str
namespace Mine
noncomputable def ins {α : Type} (lt : α → α → Bool) (x : α) : List α → List α
  | [] => [x]
  | y :: r => if lt y x then y :: ins lt x r else x :: y :: r
noncomputable def isort {α : Type} (lt : α → α → Bool) : List α → List α
  | [] => []
  | x :: r => ins lt x (isort lt r)
theorem ins_perm {α : Type} (lt : α → α → Bool) (x : α) : ∀ l, (ins lt x l).Perm (x :: l)
  | [] => .refl _
  | y :: r => by
    unfold ins
    split
    · exact ((ins_perm lt x r).cons y).trans (.swap x y r)
    · exact .refl _
theorem isort_perm {α : Type} (lt : α → α → Bool) : ∀ l, (isort lt l).Perm l
  | [] => .refl _
  | x :: r => (ins_perm lt x _).trans ((isort_perm lt r).cons x)
structure Ord {α : Type} (lt : α → α → Bool) (P : α → Prop) : Prop where
  as : ∀ a b, P a → P b → lt a b = true → lt b a = false
  tr : ∀ a b c, P a → P b → P c → lt b a = false → lt c b = false → lt c a = false
theorem ins_sorted {α : Type} {lt : α → α → Bool} {P : α → Prop} (o : Ord lt P) (x : α) (px : P x) : ∀ l, (∀ a ∈ l, P a) → l.Pairwise (fun a b => lt b a = false) → (ins lt x l).Pairwise (fun a b => lt b a = false)
  | [], _, _ => by simp [ins]
  | y :: r, p, h => by
    obtain ⟨h1, h2⟩ := List.pairwise_cons.mp h
    unfold ins
    split
    · rename_i hy
      refine List.pairwise_cons.mpr ⟨fun z m => ?_, ins_sorted o x px r (fun a m => p a (.tail _ m)) h2⟩
      rcases List.mem_cons.mp ((ins_perm lt x r).mem_iff.mp m) with rfl | m
      · exact o.as _ _ (p _ (.head _)) px hy
      · exact h1 z m
    · rename_i hy
      have hy : lt y x = false := by simpa using hy
      refine List.pairwise_cons.mpr ⟨fun z m => ?_, h⟩
      rcases List.mem_cons.mp m with rfl | m
      · exact hy
      · exact o.tr x y z px (p _ (.head _)) (p _ (.tail _ m)) hy (h1 z m)
theorem isort_sorted {α : Type} {lt : α → α → Bool} {P : α → Prop} (o : Ord lt P) : ∀ l : List α, (∀ a ∈ l, P a) → (isort lt l).Pairwise (fun a b => lt b a = false)
  | [], _ => .nil
  | x :: r, p => ins_sorted o x (p x (.head _)) _ (fun a m => p a (.tail _ ((isort_perm lt r).mem_iff.mp m))) (isort_sorted o r fun a m => p a (.tail _ m))
noncomputable def ltS (a b : Str) : Bool := decide (a.cps.toList < b.cps.toList)
theorem ordS : Ord ltS fun _ => True where
  as := fun a b _ _ h => by
    simp only [ltS, decide_eq_true_eq, decide_eq_false_iff_not] at *
    exact List.lt_asymm h
  tr := fun a b c _ _ _ h1 h2 => by
    simp only [ltS, decide_eq_false_iff_not, List.not_lt] at *
    exact List.le_trans h1 h2
theorem Str.ext0 {a b : Str} (h : a.cps.toList = b.cps.toList) : a = b := by
  cases a with | mk a => cases b with | mk b => exact congrArg Str.mk (Array.toList_inj.mp h)
theorem perm_eq : ∀ {l l' : List Str}, l.Perm l' → l.Pairwise (fun a b => ltS b a = false) → l'.Pairwise (fun a b => ltS b a = false) → l = l' := by
  intro l l' h h1 h2
  refine List.Perm.eq_of_pairwise (le := fun a b => ltS b a = false) (fun a b _ _ x y => ?_) h1 h2 h
  simp only [ltS, decide_eq_false_iff_not, List.not_lt] at x y
  exact Str.ext0 (List.le_antisymm x y)
theorem sortedS_pw : ∀ {l : List Str}, sortedS l = true → l.Pairwise (fun a b => ltS b a = false)
  | [], _ => .nil
  | x :: r, h => by
    have : ∀ (r : List Str) (p : Str), risingS p r = true → (p :: r).Pairwise (fun a b => ltS b a = false) := by
      intro r
      induction r with
      | nil => intro p _; simp
      | cons y r ih =>
        intro p hp
        simp only [risingS, Bool.and_eq_true, Bool.not_eq_true', ltCps_eq] at hp
        have h2 := ih y hp.2
        refine List.pairwise_cons.mpr ⟨fun z m => ?_, h2⟩
        rcases List.mem_cons.mp m with rfl | m
        · exact hp.1
        · exact ordS.tr p y z trivial trivial trivial hp.1 ((List.pairwise_cons.mp h2).1 z m)
    exact this r x h
theorem sorted_is {l l' : List Str} (h : l'.Perm l) (s : sortedS l' = true) : l' = isort ltS l :=
  perm_eq (h.trans (isort_perm ltS l).symm) (sortedS_pw s) (isort_sorted ordS l fun _ _ => trivial)
structure NodeOrd (c : Cx) (lt : Nat → Nat → Bool) : Prop where
  is : ∀ i j, i < c.nn → j < c.nn → ltS (c.rows i) (c.rows j) = lt i j
theorem NodeOrd.ord {c : Cx} {lt} (o : NodeOrd c lt) : Ord lt fun i => i < c.nn where
  as := fun a b pa pb h => by rw [← o.is _ _ pb pa]; rw [← o.is _ _ pa pb] at h; exact ordS.as _ _ trivial trivial h
  tr := fun a b d pa pb pd h1 h2 => by rw [← o.is _ _ pd pa]; rw [← o.is _ _ pb pa] at h1; rw [← o.is _ _ pd pb] at h2; exact ordS.tr _ _ _ trivial trivial trivial h1 h2
theorem NodeOrd.sort {c : Cx} {lt} (o : NodeOrd c lt) {ns : List Nat} (b : ∀ n ∈ ns, n < c.nn) : isort ltS (ns.map c.rows) = (isort lt ns).map c.rows := by
  refine perm_eq ((isort_perm ltS _).trans ((isort_perm lt ns).map c.rows).symm) (isort_sorted ordS _ fun _ _ => trivial) ?_
  have h := isort_sorted o.ord ns b
  rw [List.pairwise_map]
  refine h.imp_of_mem fun {i j} mi mj hij => ?_
  rw [o.is _ _ (b _ ((isort_perm lt ns).mem_iff.mp mj)) (b _ ((isort_perm lt ns).mem_iff.mp mi))]
  exact hij
section
variable {prog : Program} {w : World} {A : Around} {E : Value → Shared → Prop} {s : Shared}
theorem sorted_any {l : Addr} {T : String} {o : Obj} {n : Nat} {vs : List Value} {ss : List Str} {Q : Value → Shared → Prop} (hT : T = "list" ∨ T = "tuple") (ho : s.heap.get? l = some o) (hc : o.cls = .type T) (hd : o.data = .seq vs.toArray n) (hS : StrsAre vs ss) (h64 : vs.length < 64)
    (h : ∀ (h' : Heap) a (out : List Value), Le s.heap h' → s.heap.get? a = none → h'.IsList a out.toArray → StrsAre out (isort ltS ss) → Q (.ref a) { s with heap := h' }) :
    wpAny (model prog w) A (call (.builtin "sorted") [.ref l]) Q E s := by
  refine Calls.call_function_entry kind_sorted plain_sorted entry_sorted (args_sorted1 _) ?_
  unfold Builtin.«sorted»
  refine wpAny_bind (m := checkCount "sorted" 1 1 _) (wpAny_pure ?_)
  refine wpAny_bind (wpAny_collect_seq l hT ho hc hd (fun h1 k1 => ?_) (by rw [List.size_toArray, sizeLine_eq]; omega))
  rw [show vs.toArray.toList = vs from rfl]
  refine wpAny_bind (wpAny_newList ?_)
  have hoL : (h1.push (seqObj "list" vs.toArray 0)).get? h1.objs.size = some (seqObj "list" vs.toArray 0) := Heap.get?_push_size _ rfl
  refine wpAny_bind (wpAny_holding (wpAny_call_entry (s := { s with heap := h1.push (seqObj "list" vs.toArray 0) }) slot_list_sort ⟨_, hoL, rfl⟩ entry_list_sort (list_sort_treeK strKind_oneLt hoL hS.keysOf (fun v₁ v₂ rest e => keyKind_strs (by rw [← e]; exact hS)) h64 fun st' hp hs => ⟨_, rfl, ?_⟩) (args_list_sort _)))
  obtain ⟨ss', p1, p2, p3⟩ := sorted_out_str hS hp hs
  refine wpAny_pure ⟨_, rfl, ?_⟩
  obtain ⟨e, he⟩ := sortedHeap_at (out := (arrOf st').map (·.2)) (vs := vs) hoL
  refine h _ _ ((arrOf st').map (·.2)).toList (fun b ob hb => ?_) ?_ ⟨_, he, rfl, _, rfl⟩ (sorted_is p2 p3 ▸ p1)
  · have hb1 := k1 b ob hb
    rw [sortedHeap_old (Nat.ne_of_lt (Heap.lt_size hb1)) (by rw [size_push']; exact Nat.lt_succ_of_lt (Heap.lt_size hb1))]
    exact Heap.get?_push_of_some _ hb1
  · cases hx : s.heap.get? h1.objs.size with
    | none => rfl
    | some ob => exact absurd (Heap.lt_size (k1 _ _ hx)) (Nat.lt_irrefl _)
end
section
variable {c : Cx} {lv : Lv} {C : SC}
theorem ints_vals {X μ h} {xs : List PV} {vs : List Value} {l : List Int} (r : VRs c X h μ xs vs) (e : intsOf xs = some l) : IntsAre vs l := ints_ind (m := IntsAre) .nil (fun _ _ _ _ => .cons _ _) r e
noncomputable def nodesOf : List PV → Option (List Nat)
  | [] => some []
  | .node n :: r => (nodesOf r).map (n :: ·)
  | _ => none
theorem strs_are {X μ h} {xs : List PV} {vs : List Value} {l : List Str} (r : VRs c X h μ xs vs) (e : strsOf xs = some l) : StrsAre vs l := strs_ind (m := StrsAre) .nil (fun _ _ _ _ => .cons _ _) r e
theorem strs_back {X μ h} {vs : List Value} {l : List Str} (s : StrsAre vs l) : VRs c X h μ (l.map .str) vs := by
  induction s with
  | nil => exact .nil
  | cons _ _ _ ih => exact .cons (.str _ _) ih
theorem nodes_are {X μ h} {xs : List PV} {vs : List Value} {l : List Nat} (r : VRs c X h μ xs vs) : nodesOf xs = some l → StrsAre vs (l.map c.rows) ∧ ∀ n ∈ l, n < c.nn :=
  r.ind (m := fun xs vs => ∀ l, nodesOf xs = some l → StrsAre vs (l.map c.rows) ∧ ∀ n ∈ l, n < c.nn) (fun l e => soI e ▸ ⟨.nil, fun _ m => nomatch m⟩) (fun {d v ds vs} a _ ih l e => by
    cases d with
    | node n =>
      obtain ⟨hn, t, rfl⟩ := a.node_inv
      unfold nodesOf at e
      obtain ⟨l', e1, e2⟩ := map_some e
      subst e2
      exact ⟨.cons _ _ (ih l' e1).1, fun x m => (List.mem_cons.mp m).elim (fun z => z ▸ hn) ((ih l' e1).2 x)⟩
    | _ => exact noS e) l
theorem nodes_back {X μ h} {vs : List Value} {l : List Nat} (z : StrsAre vs (l.map c.rows)) (b : ∀ n ∈ l, n < c.nn) : VRs c X h μ (l.map .node) vs := by
  induction l generalizing vs with
  | nil => cases z; exact .nil
  | cons n l ih => cases z with | cons _ t z => exact .cons (.node _ _ (b n (.head _))) (ih z fun x m => b x (.tail _ m))
noncomputable def gSorted (lt : Nat → Nat → Bool) : Fn := m1 fun σ a => match a with
  | .lst xs => if xs.length < 64 then (strsOf xs).map fun l => (.lst ((isort ltS l).map .str), σ) else none
  | .tup xs => if xs.length < 64 then (nodesOf xs).map fun l => (.lst ((isort lt l).map .node), σ) else none
  | _ => none
set_option tactic.hygienic true in
theorem sorted_ap {lt : Nat → Nat → Bool} (o : NodeOrd c lt) : Ap c lv (.builtin "sorted") (gSorted lt) := .m1 fun A fl X μ s σ v1 d1 d σ' Q E ca I r1 e q => by
  cases r1 <;> first | (exact noS e; done) | skip
  · rename_i xs a vs hl nX rs
    dsimp only at e
    split at e
    case isFalse => exact noS e
    rename_i hz
    obtain ⟨l, e1, e2⟩ := map_some e
    obtain ⟨rfl, rfl⟩ := prS e2
    obtain ⟨ob, ho, hc, n, hd⟩ := id hl
    refine sorted_any (.inl rfl) ho hc hd (strs_are rs e1) (by rw [← rs.length]; exact hz) fun h' a' out le na hl' hs => ?_
    exact q _ h' s.toks X μ (.le le) (I.le le) (.lst hl' (fun m => by obtain ⟨o, e, _⟩ := I.own _ m; rw [na] at e; exact noS e) (strs_back hs))
  · rename_i xs a vs hl nX rs
    dsimp only at e
    split at e
    case isFalse => exact noS e
    rename_i hz
    obtain ⟨l, e1, e2⟩ := map_some e
    obtain ⟨rfl, rfl⟩ := prS e2
    obtain ⟨ob, ho, hc, n, hd⟩ := id hl
    obtain ⟨h1, h2⟩ := nodes_are rs e1
    refine sorted_any (.inr rfl) ho hc hd h1 (by rw [← rs.length]; exact hz) fun h' a' out le na hl' hs => ?_
    rw [o.sort h2] at hs
    exact q _ h' s.toks X μ (.le le) (I.le le) (.lst hl' (fun m => by obtain ⟨o, e, _⟩ := I.own _ m; rw [na] at e; exact noS e) (nodes_back hs fun n m => h2 n ((isort_perm lt l).mem_iff.mp m)))
end
end Mine
end
section
set_option tactic.hygienic false
open PySem PySem.W PyProof.Rows PySem.Calls
open Builtin Builtin.ObjectAttr
set_option maxRecDepth 100000
namespace Mine
section
variable {prog : Program} {w : World} {A : Around} {E : Value → Shared → Prop} {s : Shared}
theorem find_b {Q : Found → Shared → Prop} {T id gid : String} {a : Addr} {ob : Obj} {name : Str} (hx : s.heap.get? a = some ob) (hcT : ob.cls = .type T) (hd : ob.dict = none) (hnc : ∀ c, ob.data ≠ .cls c) (h1 : typeLookup (.type T) name = pure (some (.builtin id)))
    (h2 : specialOf (.builtin id) "__get__" = pure (some (.builtin gid))) (h3 : specialOf (.builtin id) "__set__" = pure none) (h4 : specialOf (.builtin id) "__delete__" = pure none)
    (hc : (["__module__", "__name__", "__qualname__", "__doc__", "__annotations__"] : List Str).contains name = false) (h : Q (.bind (.builtin gid) (.builtin id)) s) : wpAny (model prog w) A (find (.ref a) (.type T) name) Q E s := by
  unfold find
  refine wpAny_bind (wpAny_of_eq h1 (wpAny_bind (wpAny_of_eq (show getOf (some (.builtin id)) = _ from h2) ?_)))
  have e : dataDescriptor? (some (.builtin id)) (some (.builtin gid)) = pure none := by
    show (takesStores (.builtin id) >>= _) = _
    unfold takesStores
    rw [h3, h4]
    rfl
  refine wpAny_bind (wpAny_of_eq e ?_)
  show wpAny _ _ (ownThenClass _ _ _ _) _ _ _
  unfold ownThenClass
  refine wpAny_bind ?_
  have : wpAny (model prog w) A (inOwnDict name (.ref a)) (fun r s' => r = none ∧ s' = s) E s := by
    obtain ⟨oc, od, odat, osl⟩ := ob
    dsimp only at hd hnc hcT
    subst hd hcT
    unfold inOwnDict ObjectAttr.ownDict
    refine wpAny_bind (wpAny_bind (wpAny_loadPart hx ?_))
    cases odat <;> first | exact absurd rfl (hnc _) | (unfold instanceDict; refine wpAny_bind (wpAny_loadPart hx ?_); exact wpAny_pure (wpAny_pure ⟨rfl, rfl⟩))
  refine wpAny_mono this (fun r s' z => ?_) fun _ _ z => z
  obtain ⟨rfl, rfl⟩ := z
  refine wpAny_bind ?_
  unfold copiedAttributeGuard
  rw [hc]
  exact wpAny_pure (wpAny_bind (wpAny_rule (wpAny_pure h)))
theorem sp_of {id T : String} {n : Str} {r : Option Value} (ht : typeOf (.builtin id) = pure (.type T)) (hl : typeLookup (.type T) n = pure r) : specialOf (.builtin id) n = pure r := by
  unfold specialOf; rw [ht]; exact hl
end
end Mine
namespace Mine
section
variable {prog : Program} {w : World} {A : Around} {E : Value → Shared → Prop} {s : Shared}
theorem run_mdget {P : Fin → Shared → Prop} {a : Addr} (hT : s.TypeIs (.ref a) "list") (h : P (.done (.ret (.ref s.heap.objs.size))) { s with heap := s.heap.push { cls := .type "builtin_function_or_method", data := .fields #[.builtin "list.append", .ref a] } }) :
    wpAny (model prog w) A (Builtin.«method_descriptor.__get__» ⟨[.builtin "list.append", .ref a, .type "list"], []⟩) P E s := by
  unfold Builtin.«method_descriptor.__get__»
  refine wpAny_bind (wpAny_of_eq (a := (.builtin "list.append", some (.ref a), some (.type "list"))) (by kernel_rfl) ?_)
  dsimp only
  rw [if_neg (by decide +kernel)]
  refine wpAny_bind ?_
  refine wpAny_bind (wpAny_of_eq (a := (("append" : Str), Value.type "list")) (by kernel_rfl) ?_)
  dsimp only
  refine wpAny_bind (wpAny_isInstance hT PySem.F.sub_list_list ?_)
  refine wpAny_pure ?_
  exact wpAny_bind (wpAny_newObj_type (wpAny_pure h))
theorem run_wdget {P : Fin → Shared → Prop} {a : Addr} (hT : s.TypeIs (.ref a) "list_iterator") (h : P (.done (.ret (.ref s.heap.objs.size))) { s with heap := s.heap.push { cls := .type "method-wrapper", data := .fields #[.builtin "list_iterator.__next__", .ref a] } }) :
    wpAny (model prog w) A (Builtin.«wrapper_descriptor.__get__» ⟨[.builtin "list_iterator.__next__", .ref a, .type "list_iterator"], []⟩) P E s := by
  unfold Builtin.«wrapper_descriptor.__get__»
  refine wpAny_bind (wpAny_of_eq (a := (.builtin "list_iterator.__next__", some (.ref a), some (.type "list_iterator"))) (by kernel_rfl) ?_)
  dsimp only
  refine wpAny_bind ?_
  refine wpAny_bind (wpAny_of_eq (a := (("__next__" : Str), Value.type "list_iterator")) (by kernel_rfl) ?_)
  dsimp only
  refine wpAny_bind (wpAny_isInstance (b := true) hT (by rw [isSubtype_type]; kernel_rfl) ?_)
  refine wpAny_pure ?_
  exact wpAny_bind (wpAny_newObj_type (wpAny_pure h))
theorem slot_mdget : Slot "method_descriptor" "__get__" "method_descriptor.__get__" :=
  .of (owner := "method_descriptor") (n := "__get__") (by rw [typeLookup_type, builtinLookup_eq_fast]; kernel_rfl) (by decide +kernel) (by decide +kernel) (by decide +kernel)
    (by first | exact .inl (by decide +kernel) | exact .inr (by decide +kernel)) (by rw [isSubtype_type]; kernel_rfl)
theorem slot_wdget : Slot "wrapper_descriptor" "__get__" "wrapper_descriptor.__get__" :=
  .of (owner := "wrapper_descriptor") (n := "__get__") (by rw [typeLookup_type, builtinLookup_eq_fast]; kernel_rfl) (by decide +kernel) (by decide +kernel) (by decide +kernel)
    (by first | exact .inl (by decide +kernel) | exact .inr (by decide +kernel)) (by rw [isSubtype_type]; kernel_rfl)
theorem entry_mdget : entryFor table "method_descriptor.__get__" = some Builtin.«method_descriptor.__get__» := entryFor_of_tree (by kernel_rfl)
theorem entry_wdget : entryFor table "wrapper_descriptor.__get__" = some Builtin.«wrapper_descriptor.__get__» := entryFor_of_tree (by kernel_rfl)
theorem args_mdget (a b c : Value) : argsOk "method_descriptor.__get__" ⟨[a, b, c], []⟩ := by unfold argsOk; kernel_rfl
theorem args_wdget (a b c : Value) : argsOk "wrapper_descriptor.__get__" ⟨[a, b, c], []⟩ := by unfold argsOk; kernel_rfl
theorem type_lnext : typeOf (.builtin "list_iterator.__next__") = pure (.type "wrapper_descriptor") := by show builtinType _ = _; rw [builtinType_eq_fast]; kernel_rfl
theorem meets_ga (a : Addr) (ob : Obj) (T id gid bt : String) (name : Str) (u : Tok) (B : Builtin) (hcT : ob.cls = .type T) (hd : ob.dict = none) (hnc : ∀ c, ob.data ≠ .cls c) (h1 : typeLookup (.type T) name = pure (some (.builtin id)))
    (h2 : specialOf (.builtin id) "__get__" = pure (some (.builtin gid))) (h3 : specialOf (.builtin id) "__set__" = pure none) (h4 : specialOf (.builtin id) "__delete__" = pure none)
    (hc : (["__module__", "__name__", "__qualname__", "__doc__", "__annotations__"] : List Str).contains name = false)
    (hg : ∀ (prog : Program) (w : World) (A : Around) (E : Value → Shared → Prop) (s : Shared) (Q : Value → Shared → Prop), s.TypeIs (.ref a) T → Q (.ref s.heap.objs.size) { s with heap := s.heap.push { cls := .type bt, data := .fields #[.builtin id, .ref a] } } →
      wpAny (model prog w) A (call (.builtin gid) [.builtin id, .ref a, .type T]) Q E s) :
    Meets (Builtin.«object.__getattribute__» ⟨[.ref a, .str name u], []⟩) (fun A R s => s.heap.get? a = some ob ∧
    R (.ok (.ret (.ref s.heap.objs.size))) { s with heap := s.heap.push { cls := .type bt, data := .fields #[.builtin id, .ref a] } }) :=
  Meets.of_wp fun prog w A R s hs => by
    obtain ⟨hx, hs⟩ := hs
    have hT : s.TypeIs (.ref a) T := ⟨_, hx, hcT⟩
    unfold Builtin.«object.__getattribute__»
    refine wpAny_bind (wpAny_pure ?_)
    refine wpAny_bind (wpAny_pure (wpAny_bind (wpAny_typeOf hT (wpAny_bind (find_b hx hcT hd hnc h1 h2 h3 h4 hc ?_)))))
    show wpAny _ _ (bindTo _ _ _ _) _ _ _
    unfold bindTo
    exact wpAny_bind (wpAny_holding (hg _ _ _ _ _ _ hT (wpAny_pure ⟨_, rfl, hs⟩)))
theorem getAttr_b {Q : Value → Shared → Prop} {a : Addr} {ob : Obj} {T id gid bt ga : String} {name : Str} (hx : s.heap.get? a = some ob) (hcT : ob.cls = .type T) (hd : ob.dict = none) (hnc : ∀ c, ob.data ≠ .cls c) (h1 : typeLookup (.type T) name = pure (some (.builtin id)))
    (h2 : specialOf (.builtin id) "__get__" = pure (some (.builtin gid))) (h3 : specialOf (.builtin id) "__set__" = pure none) (h4 : specialOf (.builtin id) "__delete__" = pure none)
    (hc : (["__module__", "__name__", "__qualname__", "__doc__", "__annotations__"] : List Str).contains name = false)
    (hg : ∀ (prog : Program) (w : World) (A : Around) (E : Value → Shared → Prop) (s : Shared) (Q : Value → Shared → Prop), s.TypeIs (.ref a) T → Q (.ref s.heap.objs.size) { s with heap := s.heap.push { cls := .type bt, data := .fields #[.builtin id, .ref a] } } →
      wpAny (model prog w) A (call (.builtin gid) [.builtin id, .ref a, .type T]) Q E s)
    (sl : Slot T "__getattribute__" ga) (en : entryFor table ga = some Builtin.«object.__getattribute__») (ar : ∀ a b, argsOk ga ⟨[a, b], []⟩)
    (h : Q (.ref s.heap.objs.size) { s with heap := s.heap.push { cls := .type bt, data := .fields #[.builtin id, .ref a] }, toks := s.toks + 1 }) :
    wpAny (model prog w) A (getAttr (.ref a) name true) Q E s := by
  obtain ⟨oc, od, odat, osl⟩ := ob
  dsimp only at hcT hd
  subst hcT hd
  obtain ⟨hp, g, d, tk, os⟩ := s
  have hT : ∀ tk', (⟨hp, g, d, tk', os⟩ : Shared).TypeIs (.ref a) T := fun _ => ⟨_, hx, rfl⟩
  have f3 := sl.lookup
  have f4 := sl.bind (.ref a)
  unfold getAttr getAttrBy
  repeat (any_goals (first | assumption | exact hT _ | ((with_reducible show wpAny _ _ (call (Value.builtin ga) _ _) _ _ _); refine call_meets sl (hT _) en (ar _ _) (meets_ga a _ T id gid bt name _ Builtin.«object.__getattribute__» rfl rfl hnc h1 h2 h3 h4 hc hg) ⟨hx, ?_⟩) | wp_step))
  exact wpAny_pure h
theorem lk_md (n : Str) (r : Option Value) (h : typeLookup (.type "method_descriptor") n = pure r) : specialOf (.builtin "list.append") n = pure r := sp_of PySem.F.type_list_append h
theorem getAttr_append {Q : Value → Shared → Prop} {a : Addr} {vs : Array Value} (hl : s.heap.PlainList a vs)
    (h : Q (.ref s.heap.objs.size) { s with heap := s.heap.push { cls := .type "builtin_function_or_method", data := .fields #[.builtin "list.append", .ref a] }, toks := s.toks + 1 }) : wpAny (model prog w) A (getAttr (.ref a) "append" true) Q E s := by
  obtain ⟨n, hx⟩ := hl
  refine getAttr_b (T := "list") (id := "list.append") (gid := "method_descriptor.__get__") (bt := "builtin_function_or_method") hx rfl rfl (fun _ z => nomatch z) PySem.F.slot_list_append.lookup
    (lk_md _ _ slot_mdget.lookup) (lk_md _ _ (by rw [typeLookup_type, builtinLookup_eq_fast]; kernel_rfl)) (lk_md _ _ (by rw [typeLookup_type, builtinLookup_eq_fast]; kernel_rfl)) (by decide +kernel) (fun prog w A E s Q hT hq => ?_)
    PySem.F.slot_list_getattribute am_entry_list_getattribute PySem.F.args_list_getattribute_2 h
  refine wpAny_call_entry slot_mdget (show typeOf (.builtin "list.append") = _ from PySem.F.type_list_append) entry_mdget (run_mdget hT ⟨_, rfl, hq⟩) (args_mdget _ _ _)
end
end Mine
end
section
set_option tactic.hygienic false
open PySem PySem.W PyProof.Rows PySem.Calls
open Builtin Builtin.ObjectAttr
set_option maxRecDepth 100000
namespace Mine
section
variable {prog : Program} {w : World} {A : Around} {E : Value → Shared → Prop} {s : Shared}
theorem slot_lnga : Slot "list_iterator" "__getattribute__" "object.__getattribute__" :=
  .of (owner := "object") (n := "__getattribute__") (by rw [typeLookup_type, builtinLookup_eq_fast]; kernel_rfl) (by decide +kernel) (by decide +kernel) (by decide +kernel)
    (by first | exact .inl (by decide +kernel) | exact .inr (by decide +kernel)) (by rw [isSubtype_type]; kernel_rfl)
theorem lk_wd (n : Str) (r : Option Value) (h : typeLookup (.type "wrapper_descriptor") n = pure r) : specialOf (.builtin "list_iterator.__next__") n = pure r := sp_of type_lnext h
theorem getAttr_lnext {Q : Value → Shared → Prop} {a : Addr} {fs : Array Value} (hx : s.heap.get? a = some { cls := .type "list_iterator", data := .fields fs })
    (h : Q (.ref s.heap.objs.size) { s with heap := s.heap.push { cls := .type "method-wrapper", data := .fields #[.builtin "list_iterator.__next__", .ref a] }, toks := s.toks + 1 }) : wpAny (model prog w) A (getAttr (.ref a) "__next__" true) Q E s := by
  refine getAttr_b (T := "list_iterator") (id := "list_iterator.__next__") (gid := "wrapper_descriptor.__get__") (bt := "method-wrapper") hx rfl rfl (fun _ z => nomatch z) slot_listiter_next.lookup
    (lk_wd _ _ slot_wdget.lookup) (lk_wd _ _ (by rw [typeLookup_type, builtinLookup_eq_fast]; kernel_rfl)) (lk_wd _ _ (by rw [typeLookup_type, builtinLookup_eq_fast]; kernel_rfl)) (by decide +kernel) (fun prog w A E s Q hT hq => ?_)
    slot_lnga PySem.F.entry_object_getattribute PySem.F.args_object_getattribute_2 h
  refine wpAny_call_entry slot_wdget (show typeOf (.builtin "list_iterator.__next__") = _ from type_lnext) entry_wdget (run_wdget hT ⟨_, rfl, hq⟩) (args_wdget _ _ _)
end
end Mine
end
section
set_option tactic.hygienic false
open PySem PySem.W PyProof.Rows PySem.Calls
open Builtin Builtin.ObjectAttr
set_option maxRecDepth 100000
namespace Mine
theorem sig_app : Manifest.signature? "list.append" = some ⟨.oneArg, "list.append", "append", .self, [⟨"object", .posOnly, true⟩]⟩ := by kernel_rfl
theorem sig_ln : Manifest.signature? "list_iterator.__next__" = some ⟨.exact, "wrapper __next__", "", .self, []⟩ := by kernel_rfl
theorem kind_app : builtinKind "list.append" = some .method := by decide +kernel
theorem kind_ln : builtinKind "list_iterator.__next__" = some .slot := by decide +kernel
section
variable {prog : Program} {w : World} {A : Around} {E : Value → Shared → Prop} {s : Shared}
theorem check_app {a : Addr} {x : Value} {Q : Unit → Shared → Prop}  {vs : Array Value} (hl : s.heap.PlainList a vs) (h : Q () s) : wpAny (model prog w) A (checkBoundCall "list.append" ⟨[.ref a, x], []⟩) Q E s := by
  have hT := hl.isList.typeIs
  obtain ⟨n, g⟩ := hl
  unfold checkBoundCall
  rw [sig_app, kind_app]
  dsimp only
  rw [if_neg (by decide +kernel)]
  refine wpAny_bind (wpAny_isInstance (b := false) hT (by rw [isSubtype_type]; kernel_rfl) ?_)
  rw [if_neg (by decide +kernel)]
  refine wpAny_bind (m := isType (.ref a)) ?_
  unfold isType
  dsimp only
  refine wpAny_bind (wpAny_loadPart g (wpAny_pure ?_))
  dsimp only
  rw [if_neg (by decide)]
  refine wpAny_bind (wpAny_typeOf hT ?_)
  exact wpAny_of_eq (a := ()) (by kernel_rfl) h
theorem call_bound {q : Addr} {T id : String} {B : Builtin} {v : Value} {args : List Value} {Q : Value → Shared → Prop} (hT : T = "builtin_function_or_method" ∨ T = "method-wrapper") (hq : s.heap.get? q = some { cls := .type T, data := .fields #[.builtin id, v] })
    (hc : ∀ R : Unit → Shared → Prop, R () s → wpAny (model prog w) A.in1 (checkBoundCall id ⟨v :: args, []⟩) R E s) (qt : plainId id = true) (en : entryFor table id = some B)
    (h : wpAny (model prog w) A.in1 (B ⟨v :: args, []⟩) (fun fin s' => ∃ r, fin = .done (.ret r) ∧ Q r s') E s) : wpAny (model prog w) A (call (.ref q) args) Q E s := by
  refine wpAny_call (codeAny_of_tree ?_)
  show wpAny _ A.in1 (callAny (.ref q) ⟨args, []⟩) _ _ s
  simp only [callAny]
  refine wpAny_bind (wpAny_load hq ?_)
  dsimp only
  have hcls : (Value.type T == Value.type "method" || Value.type T == Value.type "builtin_function_or_method" || Value.type T == Value.type "method-wrapper") = true := by rcases hT with rfl | rfl <;> decide
  have hnm : (Value.type T != Value.type "method") = true := by rcases hT with rfl | rfl <;> decide
  rw [if_pos hcls]
  refine KFB.if_so hnm ?_
  refine wpAny_bind (hc _ ?_)
  refine wpAny_bind (wpAny_pure (wpAny_pure ⟨plainId_quiet qt _, codeAny_builtin en ?_⟩))
  rw [Around.under_plainId qt _]
  exact wpAny_mono h (fun fin s' z => by obtain ⟨r, rfl, z⟩ := z; exact z) fun _ _ z => z
theorem check_ln {a : Addr} : checkBoundCall "list_iterator.__next__" ⟨[.ref a], []⟩ = pure () := by
  unfold checkBoundCall
  rw [sig_ln, kind_ln]
  dsimp only
  rw [if_pos (by decide +kernel)]
  kernel_rfl
end
end Mine
end
section
set_option tactic.hygienic false
open PySem PySem.W PyProof.Rows PySem.Calls
open Builtin Builtin.ObjectAttr
set_option maxRecDepth 100000
namespace Mine
section
variable {c : Cx} {lv : Lv} {C : SC}
noncomputable def At (c : Cx) (lv : Lv) (name : Str) (op : List Cell → PV → Option PV) : Prop :=
  ∀ A fl X μ (s : Shared) σ ov d r (Q : Value → Shared → Prop) (E : Value → Shared → Prop), Calm lv A fl → Inv c fl X μ s.heap σ → VR c X s.heap μ d ov → op σ d = some r →
    (∀ v h' tk, Le s.heap h' → VR c X h' μ r v → Q v { s with heap := h', toks := tk }) → wpAny c.M A (getAttr ov name true) Q E s
theorem R_attr {o : Expr} {name : Str} {f : Co} {op} (pos : Pos) (hb : ∀ env, attributeBase o name env (eval o env) = eval o env) (h : Ev c lv C o f) (ha : At c lv name op) : Ev c lv C (.Attribute o name pos) (cUn op f) := by
  intro A fl env X μ s st d σ' Q E ca I F e q
  obtain ⟨⟨d1, σ1⟩, e1, e⟩ := bind_some e
  obtain ⟨r, e3, e⟩ := map_some e
  obtain ⟨rfl, rfl⟩ := prS e
  rw [arm_eval_Attribute, hb]
  refine wpAny_bind (h A fl env X μ s st d1 σ' _ _ ca I F e1 fun v1 h' tk X' μ' S1 I1 r1 => wpAny_bind (wpAny_standAt (wpAny_bind (wpAny_holding ?_))))
  refine ha A fl X' μ' _ σ' v1 d1 d _ _ ca I1 r1 e3 fun v h3' tk3 l r3 => ?_
  exact wpAny_bind (wpAny_letTemporaryGo (wpAny_pure (q v h3' tk3 X' μ' (S1.trans (.le l)) (I1.le l) r3)))
noncomputable def aApp (σ : List Cell) (d : PV) : Option PV := (listOf σ d).map fun _ => .meth "list.append" d
theorem At_append : At c lv "append" aApp := by
  intro A fl X μ s σ ov d r Q E ca I r1 e q
  obtain ⟨⟨j, xs⟩, e1, e2⟩ := map_some e
  subst e2
  obtain ⟨rfl, a, vs, rfl, ha, hc, p, rs, hz⟩ := listOf_is I r1 e1
  have l := Le.push s.heap { cls := .type "builtin_function_or_method", data := .fields #[.builtin "list.append", .ref a] }
  exact getAttr_append p (q _ _ _ l (.meth (.inl rfl) (Heap.get?_push_size _ rfl) I.fresh (.ref ha)))
noncomputable def iterOf (σ : List Cell) : PV → Option (Nat × Nat × Nat)
  | .ref j => match σ[j]? with
    | some (.iter l i) => some (j, l, i)
    | _ => none
  | _ => none
set_option tactic.hygienic true in
theorem iterOf_is {fl X μ h σ} {d : PV} {v : Value} {j l i} (I : Inv c fl X μ h σ) (r : VR c X h μ d v) (e : iterOf σ d = some (j, l, i)) : d = .ref j ∧ ∃ a b, v = .ref a ∧ μ[j]? = some a ∧ σ[j]? = some (.iter l i) ∧ μ[l]? = some b ∧ h.get? a = some { cls := .type "list_iterator", data := .fields #[.ref b, .int i 0] } := by
  unfold iterOf at e
  split at e
  · rename_i k
    cases r with | ref ha =>
    obtain ⟨cl, hc, cr⟩ := I.at ha
    rw [hc] at e
    split at e
    · rename_i z; obtain rfl := soJ z; cases e
      obtain ⟨b, e1, e2⟩ := cr
      exact ⟨rfl, _, b, rfl, ha, hc, e1, e2⟩
    · exact noS e
  · exact noS e
noncomputable def aNext (σ : List Cell) (d : PV) : Option PV := (iterOf σ d).map fun _ => .meth "list_iterator.__next__" d
noncomputable def ApB (c : Cx) (lv : Lv) (id : String) (g : Fn) : Prop :=
  ∀ A fl X μ (s : Shared) σ T q v d ds vs r σ' (Q : Value → Shared → Prop) (E : Value → Shared → Prop), Calm lv A fl → Inv c fl X μ s.heap σ → (T = "builtin_function_or_method" ∨ T = "method-wrapper") → s.heap.get? q = some { cls := .type T, data := .fields #[.builtin id, v] } →
    VR c X s.heap μ d v → VRs c X s.heap μ ds vs → g (d :: ds) σ = some (r, σ') →
    (∀ v h' tk X' μ', Step fl.fa [] X μ s.heap X' μ' h' → Inv c fl X' μ' h' σ' → VR c X' h' μ' r v → Q v { s with heap := h', toks := tk }) →
    wpAny c.M A (call (.ref q) vs []) Q E s
theorem keeper_bound {A : Around} {s : Shared} {E : Value → Shared → Prop} {q : Addr} {T id : String} {v : Value} {R : Keeper → Shared → Prop} (hT : T = "builtin_function_or_method" ∨ T = "method-wrapper") (hq : s.heap.get? q = some { cls := .type T, data := .fields #[.builtin id, v] }) (h : ∀ k, R k s) :
    wpAny c.M A (keeperOf (.ref q)) R E s := by
  unfold keeperOf
  refine wpAny_bind (wpAny_load hq ?_)
  dsimp only
  rw [if_pos (by rcases hT with rfl | rfl <;> decide)]
  exact wpAny_pure (h _)
theorem At_next : At c lv "__next__" aNext := by
  intro A fl X μ s σ ov d r Q E ca I r1 e q
  obtain ⟨⟨j, l, i⟩, e1, e2⟩ := map_some e
  subst e2
  obtain ⟨rfl, a, b, rfl, ha, hc, hb, g⟩ := iterOf_is I r1 e1
  have l := Le.push s.heap { cls := .type "method-wrapper", data := .fields #[.builtin "list_iterator.__next__", .ref a] }
  exact getAttr_lnext g (q _ _ _ l (.meth (.inr rfl) (Heap.get?_push_size _ rfl) I.fresh (.ref ha)))
theorem append_b : ApB c lv "list.append" gAppend := by
  intro A fl X μ s σ T q v d ds vs r σ' Q E ca I hT hq r1 rs e k
  cases rs with
  | nil => exact noS e
  | @cons d2 v2 _ _ r2 rs => cases rs with
    | cons => exact noS e
    | nil =>
      obtain ⟨⟨j, xs⟩, e1, e2⟩ := map_some e
      obtain ⟨rfl, rfl⟩ := prS e2
      obtain ⟨rfl, a, vs, rfl, ha, hc, p, rs, hz⟩ := listOf_is I r1 e1
      refine call_bound hT hq (fun R hR => check_app p hR) PySem.F.slot_list_append.plain entry_list_append ?_
      obtain ⟨n, g⟩ := id p
      show wpAny _ _ (updateSeq a (·.push v2) >>= fun _ => ret .none) _ _ s
      refine wpAny_bind (wpAny_updateSeq g rfl ?_ (hz := by rw [List.size_toArray]; exact Nat.le_trans hz (by decide)))
      have g' := Heap.get?_update_self (Obj.mapSeq (·.push v2)) g rfl
      obtain ⟨S, I'⟩ := upd_list (vs := vs ++ [v2]) I ha hc (fun _ z => nomatch z) (Heap.SameBut.update ..) ⟨n + 1, by rw [g']; simp [Obj.mapSeq]⟩ (rs.app (.one r2))
      exact wpAny_pure ⟨_, rfl, k .none _ s.toks X μ S I' .none⟩
noncomputable def callB (id : String) (g : Fn) (fs : Cl) (ρ : List (Option PV)) (σ1 : List Cell) : PV → Option (PV × List Cell)
  | .meth i d0 => if i = id then (fs ⟨ρ, σ1⟩).bind fun (ds, σ2) => g (d0 :: ds) σ2 else none
  | _ => none
noncomputable def cCallB (id : String) (g : Fn) (f : Co) (fs : Cl) : Co := fun st => (f st).bind fun (d, σ1) => callB id g fs st.ρ σ1 d
set_option tactic.hygienic true in
theorem callB_core {id : String} {g : Fn} {args : List Expr} {fs : Cl} {A fl env X μ} {s : Shared} {ρ σ1 d v d' σ' pos} {Q : Value → Shared → Prop} {E : Value → Shared → Prop} (hg : ApB c lv id g) (hs : Ags c lv C args fs) (ca : Calm lv A fl) (I : Inv c fl X μ s.heap σ1) (F : FrS c C env X μ s.heap ρ)
    (r : VR c X s.heap μ d v) (e : callB id g fs ρ σ1 d = some (d', σ'))
    (q : ∀ v h' tk X' μ', Step fl.fa [] X μ s.heap X' μ' h' → Inv c fl X' μ' h' σ' → VR c X' h' μ' d' v → Q v { s with heap := h', toks := tk }) : wpAny c.M A (callWith pos v [] (backTo pos (starEach args env)) []) Q E s := by
  cases r <;> first | (exact noS e; done) | skip
  rename_i T i a d0 v0 hT ha nX r0
  unfold callB at e
  dsimp only at e
  split at e
  case isFalse => exact noS e
  rename_i hid
  subst hid
  obtain ⟨⟨ds, σ2⟩, e2, e3⟩ := bind_some e
  refine callWith_any (hs A fl env X μ _ ⟨ρ, σ1⟩ ds σ2 pos _ _ _ ca I F e2 fun vs h'' tk' X'' μ'' S2 I2 rs => ?_)
  have M2 := S2.mv0 I rfl
  have ha' := (M2.kp _ _ ha nX).1
  refine ⟨rfl, fun R q' => keeper_bound hT ha' q', ?_⟩
  exact hg A fl X'' μ'' _ σ2 T a v0 d0 ds vs d' σ' _ _ ca I2 hT ha' (r0.mv M2) rs e3 fun v h3 tk3 X3 μ3 S3 I3 r3 => q v h3 tk3 X3 μ3 (S2.trans S3) I3 r3
theorem R_callB {x : Str} {i : Nat} {id : String} {g : Fn} {args : List Expr} {fs : Cl} (np pos) (hk : slotKind C i x = true) (hg : ApB c lv id g) (hs : Ags c lv C args fs) : Ev c lv C (.Call (.Name x np) args [] pos) (cCallB id g (cLoc i) fs) := by
  intro A fl env X μ s st d σ' Q E ca I F e q
  obtain ⟨⟨d1, σ1⟩, e1, e2⟩ := bind_some e
  refine wpAny_Call_NameR (R_loc i x np hk A fl env X μ s st d1 σ1 _ _ ca I F e1 fun v1 h' tk X' μ' S1 I1 r1 => ?_)
  exact callB_core hg hs ca I1 (F.ex I S1) r1 e2 fun v h3 tk3 X3 μ3 S3 I3 r3 => q v h3 tk3 X3 μ3 (S1.trans S3) I3 r3
end
end Mine
end
section
set_option tactic.hygienic false
open PySem PySem.W PyProof.Rows PySem.Calls
open Builtin Builtin.ObjectAttr Builtin.Getset_descriptor
set_option maxHeartbeats 4000000
set_option maxRecDepth 100000
namespace Mine
theorem beqS {a b : Str} : (a == b) = true ↔ a = b := beq_iff_eq
theorem isStr_of {v : Value} {n : Str} (h : v.isStr n = true) : ∃ t, v = .str n t := by
  cases v <;> first | (exact noF h; done) | skip
  exact ⟨_, by rw [show _ = n from beqS.mp h]⟩
theorem getL_put_self {n : Str} {hsh : Int} {t : Tok} {v : Value} : ∀ {es : List DictEntry}, getL n (putL n hsh (.str n t) v es) = some (some v)
  | [] => by simp [putL, getL, Value.isStr]
  | e :: r => by
    unfold putL
    by_cases h : e.key.isStr n = true
    · rw [if_pos h]
      unfold getL
      rw [List.find?_cons]
      simp [h]
    · rw [if_neg h]
      have ih := getL_put_self (n := n) (hsh := hsh) (t := t) (v := v) (es := r)
      have h' : e.key.isStr n = false := by simpa using h
      unfold getL at ih ⊢
      rw [List.find?_cons]
      simp only [h']
      cases hf : (putL n hsh (.str n t) v r).find? (·.key.isStr n) with
      | none =>
        rw [hf] at ih
        simp only at ih
        split at ih <;> cases ih
      | some x => rw [hf] at ih; exact ih
theorem getL_put_other {n m : Str} {hsh : Int} {t : Tok} {v : Value} (hnm : n ≠ m) : ∀ {es : List DictEntry}, getL m (putL n hsh (.str n t) v es) = getL m es := by
  have find : ∀ es : List DictEntry, ((putL n hsh (.str n t) v es).find? (·.key.isStr m)) = es.find? (·.key.isStr m) ∧ (putL n hsh (.str n t) v es).any (·.refKey) = es.any (·.refKey) := by
    intro es
    induction es with
    | nil =>
      unfold putL
      have : (n == m) = false := by simpa using hnm
      exact ⟨by simp [Value.isStr, this], by simp [DictEntry.refKey]⟩
    | cons e r ih =>
      unfold putL
      by_cases h : e.key.isStr n = true
      · rw [if_pos h]
        obtain ⟨t', ht⟩ := isStr_of h
        have : (n == m) = false := by simpa using hnm
        refine ⟨?_, by simp [DictEntry.refKey]⟩
        rw [List.find?_cons, List.find?_cons]
        simp [ht, Value.isStr, this]
      · rw [if_neg h]
        refine ⟨?_, ?_⟩
        · rw [List.find?_cons, List.find?_cons, ih.1]
        · rw [List.any_cons, List.any_cons, ih.2]
  intro es
  unfold getL
  rw [(find es).1, (find es).2]
theorem putL_len {n : Str} {hsh : Int} {k v : Value} : ∀ {es : List DictEntry}, (putL n hsh k v es).length ≤ es.length + 1
  | [] => by simp [putL]
  | e :: r => by
    unfold putL
    split
    · simp
    · simpa using putL_len (es := r)
section
variable {prog : Program} {w : World} {A : Around} {E : Value → Shared → Prop} {s : Shared} {K : Frag}
set_option tactic.hygienic true in
theorem osa_dict0 {x C dx : Addr} {ox : Obj} {es : List DictEntry} {n : Nat} {name : Str} {tk : Tok} {v : Value} {R : Result → Shared → Prop} (X : K.In s.heap) (I : InstAt s.heap x ox C (some (dictOf es n))) (hd : ox.dict = some dx)
    (hp : plainOver K C = true) (ht : takerIn K C name = some none) (hh : (clsIn K C).any (·.hasDict) = true) (hl : (getL name es).isSome = true) (hz : es.length ≤ 900)
    (h : R (.ok (.ret .none)) { s with heap := s.heap.update dx (Obj.putName name (PyData.keyHash w.params name) (.str name s.toks) v), toks := s.toks + 1 }) :
    codeAny (model prog w) A (.call (.builtin "object.__setattr__") ⟨[.ref x, .str name tk, v], []⟩) R s := by
  refine osa_open X I hp ht fun b => ?_
  obtain ⟨cd, hc, hd'⟩ := any_some hh
  obtain ⟨hx, hcl, hn, hdd⟩ := I
  obtain ⟨oc, odi, oda, osl⟩ := ox
  dsimp only at hcl hd hdd
  subst hcl hd
  have D : s.heap.get? dx = some (dictOf es n) := hdd
  refine wpAny_bind (wpAny_pure (wpAny_bind (wpAny_bind (wpAny_loadPart hx (wpAny_bind ((looks_clsIn X hc).here ?_))))))
  rw [hd']
  refine wpAny_pure (a := some dx) (wpAny_bind (wpAny_pure (wpAny_bind ?_)))
  unfold nsSet
  refine wpAny_bind (wpAny_bind (wpAny_askSetting (wpAny_pure (wpAny_bind (wpAny_mkText (wpAny_bind (wpAny_loadPart D ?_)))))))
  dsimp only
  have c : (!es.toArray.any (·.key.isStr name) && es.toArray.any (·.refKey)) = false := by
    rw [← Array.any_toList, ← Array.any_toList]
    unfold getL at hl
    split at hl
    · rename_i en he
      rw [show es.toArray.toList = es from rfl, List.any_eq_true.mpr ⟨en, List.mem_of_find?_eq_some he, List.find?_some he⟩]; rfl
    · split at hl
      · exact noF hl
      · rename_i z; rw [Bool.not_eq_true] at z; rw [show es.toArray.toList = es from rfl, z, Bool.and_false]
  rw [aRefKeyMayBeTheName_at, c]
  have e := putName_dict name (PyData.keyHash w.params name) (.str name s.toks) v es n
  have D' : (s.heap.update dx (Obj.putName name (PyData.keyHash w.params name) (.str name s.toks) v)).get? dx = some (dictOf (putL name (PyData.keyHash w.params name) (.str name s.toks) v es) (putN name es n)) := by
    rw [← e]; exact Heap.get?_update_self _ D (by rw [e]; rfl)
  refine wpAny_updatePart D ?_
  refine wpAny_bind (wpAny_lookBehind D' (pastItsLine_dict (by rw [List.size_toArray, sizeLine_eq]; have := putL_len (n := name) (hsh := PyData.keyHash w.params name) (k := .str name s.toks) (v := v) (es := es); lia)) ?_)
  exact wpAny_pure h
theorem set_dict0 {x C dx : Addr} {ox : Obj} {es : List DictEntry} {n : Nat} {name : Str} {v : Value} {Q : Unit → Shared → Prop} (X : K.In s.heap) (I : InstAt s.heap x ox C (some (dictOf es n))) (hd : ox.dict = some dx)
    (hs : findIn K (.ref C) "__setattr__" = some (some (.builtin "object.__setattr__"))) (hp : plainOver K C = true) (ht : takerIn K C name = some none) (hh : (clsIn K C).any (·.hasDict) = true) (hl : (getL name es).isSome = true) (hz : es.length ≤ 900)
    (h : ∀ h' hsh tk, Heap.SameBut dx s.heap h' → h'.get? dx = some (dictOf (putL name hsh (.str name tk) v es) (putN name es n)) → Q () { s with heap := h', toks := s.toks + 2 }) :
    wpAny (model prog w) A (setAttr (.ref x) name v) Q E s := by
  refine set_plain X I hs (osa_dict0 (s := { s with toks := s.toks + 1 }) X I hd hp ht hh hl hz ?_)
  have D : s.heap.get? dx = some (dictOf es n) := by
    have := I.dict
    rw [hd] at this
    exact this
  have e := putName_dict name (PyData.keyHash w.params name) (.str name (s.toks + 1)) v es n
  exact h _ _ _ (Heap.SameBut.update ..) (by rw [← e]; exact Heap.get?_update_self _ D (by rw [e]; rfl))
theorem slot_setC {x C p : Addr} {i : Nat} {ox : Obj} {od : Option Obj} {v : Value} {R : Result → Shared → Prop} (X : K.In s.heap) (I : InstAt s.heap x ox C od) (hp : slotIn K p C = some i) (hi : i < 1000)
    (h : R (.ok (.ret .none)) { s with heap := s.heap.update x fun o => { o with slots := (o.slots ++ Array.replicate (i + 1 - o.slots.size) none).setIfInBounds i (some v) } }) :
    codeAny (model prog w) A (.call (.builtin "member_descriptor.__set__") ⟨[.ref p, .ref x, v], []⟩) R s := by
  obtain ⟨n, tn, owner, behind, tb, d, sl, cd, ho, hc, hm, hb, rfl⟩ := slot_of X hp
  obtain ⟨hh, g, dr, t, os⟩ := s
  have L0 := I.type (M := model prog w)
  have L1 := looks_mroIn (M := model prog w) X hm
  have L2 : Looks (model prog w) hh (Slots.slotNamesOf (.ref C)) cd.slotNames := (looks_clsIn X hc).andThen .now
  have hx := I.at_
  dsimp only at ho hx L0 L1
  have f0 := looks_field (M := model prog w) ho 0 (v := .str n tn) rfl
  have f1 := looks_field (M := model prog w) ho 1 (v := owner) rfl
  have f3 := looks_field (M := model prog w) ho 3 (v := .builtin "proto.slot#set") rfl
  have f4 := looks_field (M := model prog w) ho 4 (v := .int behind tb) rfl
  refine codeAny_call_builtin KF.slot_mset.plain KF.entry_mset (KF.slot_mset.check _ _ _ _ _ _ _ _ ⟨_, ho, rfl⟩ (KF.args_mset _ _ _) ?_)
  unfold Builtin.«member_descriptor.__set__» descrSet descrStoreThrough descrCheckInstance descrNameAndClass isInstance
  have f5 : Looks (model prog w) hh (descrItself (.ref p)) [.ref p] := ((Looks.ld (part := none) ho).andThen .now).andThen (Looks.of_pure (by kernel_rfl))
  repeat lk
  refine ⟨Code.quiet_builtin _ (by decide +kernel), codeAny_builtin KF.entry_slotset ?_⟩
  unfold Builtin.«proto.slot#set» Slots.target
  repeat lk
  rw [if_neg hb]
  refine wpAny_pure (wpAny_bind ?_)
  unfold setSlotAt
  dsimp only
  rw [if_neg (by rw [sizeLine_eq]; lia)]
  exact wpAny_updatePart hx (wpAny_pure h)
theorem slot_set0 {x C p : Addr} {i : Nat} {ox : Obj} {od : Option Obj} {name : Str} {v : Value} {Q : Unit → Shared → Prop} (X : K.In s.heap) (I : InstAt s.heap x ox C od) (hnf : ox.data = .plain)
    (hs : findIn K (.ref C) "__setattr__" = some (some (.builtin "object.__setattr__"))) (hp : plainOver K C = true) (ht : takerIn K C name = some (some (.ref p))) (hT : typeIn K (.ref p) = some (.type "member_descriptor")) (hi : slotIn K p C = some i) (hz : i < 1000)
    (h : ∀ h', Heap.SameBut x s.heap h' → h'.get? x = some { ox with slots := (ox.slots ++ Array.replicate (i + 1 - ox.slots.size) none).setIfInBounds i (some v) } → Q () { s with heap := h', toks := s.toks + 1 }) :
    wpAny (model prog w) A (setAttr (.ref x) name v) Q E s :=
  set_plain X I hs (osa_descr (s := { s with toks := s.toks + 1 }) KF.slot_mset X I hp ht hT (slot_setC (s := { s with toks := s.toks + 1 }) X I hi hz
    (h _ (Heap.SameBut.update ..) (Heap.get?_update_self _ I.at_ (by unfold Obj.isFreed; rw [hnf])))))
theorem get_own0 {expr : Bool} {x C : Addr} {ox : Obj} {es : List DictEntry} {n : Nat} {name : Str} {v : Value} {attr : Option Value} {Q : Value → Shared → Prop} (X : K.In s.heap) (I : InstAt s.heap x ox C (some (dictOf es n))) (hg : plainGet K C name = true) (hh : hasDictIn K C = true)
    (ha : findIn K (.ref C) name = some attr) (hn : noGet K attr = true) (hl : getL name es = some (some v)) (hv : handedIn v = true) (h : Q v { s with toks := s.toks + 1 }) :
    wpAny (model prog w) A (getAttr (.ref x) name expr) Q E s :=
  get_value X I (plainGet_of hg).1 (findObj_own hh ha hn hl) hv h
theorem get_slot0 {expr : Bool} {x C p : Addr} {i : Nat} {ox od : Obj} {name : Str} {v : Value} {Q : Value → Shared → Prop} (X : K.In s.heap) (I : InstAt s.heap x ox C (some od)) (hg : plainGet K C name = true) (hc : isClsIn K C = true)
    (ha : findIn K (.ref C) name = some (some (.ref p))) (hn : specialIn K (.ref p) "__get__" = some (some (.builtin "member_descriptor.__get__"))) (ht : takesIn K (.ref p) = some true) (hp : slotIn K p C = some i)
    (hv : (ox.slots[i]?).join = some v) (hh : handedIn v = true) (h : Q v { s with toks := s.toks + 1 }) : wpAny (model prog w) A (getAttr (.ref x) name expr) Q E s :=
  get_bind X I (plainGet_of hg).1 (findObj_data hc ha hn ht) (plainGet_of hg).2 (wpAny_call (slot_get (s := { s with toks := s.toks + 1 }) X I hp hv (handed_on hh h)))
end
end Mine
end
section
set_option tactic.hygienic false
open PySem PySem.W PyProof.Rows PySem.Calls
open Builtin Builtin.ObjectAttr
set_option maxRecDepth 100000
namespace Mine
noncomputable def hasK {K : Type} [DecidableEq K] : List (K × PV) → K → Bool
  | [], _ => false
  | (a, _) :: r, k => if a = k then true else hasK r k
noncomputable def repl {K : Type} [DecidableEq K] : List (K × PV) → K → PV → List (K × PV)
  | [], _, _ => []
  | (a, x) :: r, k, v => (a, if a = k then v else x) :: repl r k v
noncomputable def dput {K : Type} [DecidableEq K] (es : List (K × PV)) (k : K) (v : PV) : List (K × PV) := if hasK es k then repl es k v else es ++ [(k, v)]
noncomputable def ddel {K : Type} [DecidableEq K] : List (K × PV) → K → List (K × PV)
  | [], _ => []
  | (a, x) :: r, k => if a = k then ddel r k else (a, x) :: ddel r k
section
variable {c : Cx} {X μ : List Addr} {h : Heap} {K K' : Type} [DecidableEq K] [DecidableEq K'] {key : K → K'}
theorem has_any {k : K} : ∀ {es : List (K × PV)} {vs : List Value}, es.length = vs.length → (∀ e ∈ es, key e.1 = key k → e.1 = k) → (((es.map fun e => key e.1).zip vs).any fun kv => kv.1 = key k) = hasK es k
  | [], _, _, _ => rfl
  | (a, x) :: r, [], e, _ => by cases e
  | (a, x) :: r, v :: vs, e, i => by
    have ih := has_any (k := k) (es := r) (vs := vs) (Nat.succ.inj e) fun e m => i e (.tail _ m)
    rw [List.map_cons, List.zip_cons_cons, List.any_cons, ih]
    have hk : hasK ((a, x) :: r) k = if a = k then true else hasK r k := rfl
    rw [hk]
    by_cases q : a = k
    · simp [q]
    · have q' : ¬ key a = key k := fun z => q (i _ (.head _) z)
      simp [q, q']
theorem repl_ok {k : K} {d : PV} {v : Value} (r0 : VR c X h μ d v) : ∀ {es : List (K × PV)} {vs : List Value}, VRs c X h μ (es.map (·.2)) vs → (∀ e ∈ es, key e.1 = key k → e.1 = k) →
    ∃ vs', (((es.map fun e => key e.1).zip vs).map fun kv => if kv.1 = key k then (kv.1, v) else kv) = ((repl es k d).map fun e => key e.1).zip vs' ∧ VRs c X h μ ((repl es k d).map (·.2)) vs'
  | [], _, .nil, _ => ⟨[], rfl, .nil⟩
  | (a, x) :: r, _, .cons (vs := vs) (v := u) r1 rs, i => by
    obtain ⟨vs', e1, e2⟩ := repl_ok r0 rs fun e m => i e (.tail _ m)
    by_cases q : a = k
    · refine ⟨v :: vs', ?_, ?_⟩
      · rw [List.map_cons, List.zip_cons_cons, List.map_cons, e1]
        simp [repl, q]
      · simp only [repl, q, if_true, List.map_cons]
        exact .cons r0 e2
    · have q' : ¬ key a = key k := fun z => q (i _ (.head _) z)
      refine ⟨u :: vs', ?_, ?_⟩
      · rw [List.map_cons, List.zip_cons_cons, List.map_cons, e1]
        simp [repl, q, q']
      · simp only [repl, q, if_false, List.map_cons]
        exact .cons r1 e2
theorem put_ok {k : K} {d : PV} {v : Value} {es : List (K × PV)} {vs : List Value} (r0 : VR c X h μ d v) (rs : VRs c X h μ (es.map (·.2)) vs) (i : ∀ e ∈ es, key e.1 = key k → e.1 = k) :
    ∃ vs', stored ((es.map fun e => key e.1).zip vs) (key k) v = ((dput es k d).map fun e => key e.1).zip vs' ∧ VRs c X h μ ((dput es k d).map (·.2)) vs' := by
  have hl : es.length = vs.length := by have := rs.length; simpa using this
  unfold stored dput
  rw [has_any hl i]
  cases hasK es k with
  | true => exact repl_ok r0 rs i
  | false =>
    refine ⟨vs ++ [v], ?_, ?_⟩
    · simp only [Bool.false_eq_true, if_false, List.map_append, List.map_cons, List.map_nil]
      rw [List.zip_append (by simpa using hl)]
      rfl
    · simp only [Bool.false_eq_true, if_false, List.map_append, List.map_cons, List.map_nil]
      exact rs.app (.one r0)
theorem del_ok {k : K} : ∀ {es : List (K × PV)} {vs : List Value}, VRs c X h μ (es.map (·.2)) vs → (∀ e ∈ es, key e.1 = key k → e.1 = k) →
    ∃ vs', without ((es.map fun e => key e.1).zip vs) (key k) = ((ddel es k).map fun e => key e.1).zip vs' ∧ VRs c X h μ ((ddel es k).map (·.2)) vs'
  | [], _, .nil, _ => ⟨[], rfl, .nil⟩
  | (a, x) :: r, _, .cons (vs := vs) (v := u) r1 rs, i => by
    obtain ⟨vs', e1, e2⟩ := del_ok (k := k) rs fun e m => i e (.tail _ m)
    unfold without at e1 ⊢
    by_cases q : a = k
    · refine ⟨vs', ?_, ?_⟩
      · rw [List.map_cons, List.zip_cons_cons, List.filter_cons]
        simpa [ddel, q] using e1
      · simpa [ddel, q] using e2
    · have q' : ¬ key a = key k := fun z => q (i _ (.head _) z)
      refine ⟨u :: vs', ?_, ?_⟩
      · rw [List.map_cons, List.zip_cons_cons, List.filter_cons]
        simpa [ddel, q, q'] using e1
      · simp only [ddel, q, if_false, List.map_cons]
        exact .cons r1 e2
theorem put_keys {P : K → Prop} {k : K} {d : PV} {es : List (K × PV)} (h : ∀ e ∈ es, P e.1) (hk : P k) : ∀ e ∈ dput es k d, P e.1 := by
  unfold dput
  split
  · have : ∀ es : List (K × PV), (∀ e ∈ es, P e.1) → ∀ e ∈ repl es k d, P e.1 := by
      intro es
      induction es with
      | nil => intro _ e m; cases m
      | cons x r ih =>
        intro h e m
        obtain ⟨a, y⟩ := x
        rcases List.mem_cons.mp m with rfl | m
        · exact h (a, y) (.head _)
        · exact ih (fun e m => h e (.tail _ m)) e m
    exact this es h
  · intro e m
    rcases List.mem_append.mp m with m | m
    · exact h e m
    · rw [List.mem_singleton.mp m]; exact hk
theorem del_keys {P : K → Prop} {k : K} : ∀ {es : List (K × PV)}, (∀ e ∈ es, P e.1) → ∀ e ∈ ddel es k, P e.1
  | [], _, e, m => nomatch m
  | (a, x) :: r, h, e, m => by
    unfold ddel at m
    split at m
    · exact del_keys (fun e m => h e (.tail _ m)) e m
    · rcases List.mem_cons.mp m with rfl | m
      · exact h _ (.head _)
      · exact del_keys (fun e m => h e (.tail _ m)) e m
end
section
variable {c : Cx} {lv : Lv} {C : SC}
theorem upd_dnod {fl X μ h h' σ} {j : Nat} {a : Addr} {cl0 : Cell} {es : List (Nat × PV)} {vs : List Value} (I : Inv c fl X μ h σ) (ha : μ[j]? = some a) (hc : σ[j]? = some cl0) (nl : ∀ cl', cl0 ≠ .lock cl') (s : Heap.SameBut a h h') (b : ∀ e ∈ es, e.1 < c.nn)
    (g' : h'.DictOf c.ss a ((es.map fun e => c.rows e.1).zip vs)) (r : VRs c X h μ (es.map (·.2)) vs) : Step fl.fa [] X μ h X μ h' ∧ Inv c fl X μ h' (σ.set j (.dnod es)) := by
  obtain ⟨o, es', ep, e, ex, hd, rest⟩ := id g'
  exact upd_cell I ha hc nl (fun _ z => nomatch z) s e (fun _ z => by rw [hd] at z; cases z) (fun _ _ z => by rw [hd] at z; cases z) fun M => ⟨b, vs, g', r.mv M⟩
theorem wpAny_setItem_plain {A : Around} {E : Value → Shared → Prop} {s : Shared} {l : Addr} {items : Array Value} {k : Int} {t : Tok} {v : Value} {Q : Unit → Shared → Prop} (hl : s.heap.PlainList l items)
    (h0 : 0 ≤ k) (hfit : k < 2 ^ 63) (hn : k < items.size)
    (hQ : ∀ h', h'.PlainList l (items.setIfInBounds k.toNat v) → Heap.SameBut l s.heap h' → Q () { s with heap := h' }) :
    wpAny c.M A (setItem (.ref l) (.int k t) v) Q E s := by
  have hT := hl.isList.typeIs
  obtain ⟨ne, ho⟩ := hl
  unfold setItem
  try with_reducible refine wpAny_holding ?_
  first | refine wpAny_bind (wpAny_pure ?_) | skip
  refine wpAny_bind (wpAny_sequenceKey hT (by decide) ?_)
  refine wpAny_bind (wpAny_callSpecial?_slot (name := Str.ofString "__setitem__") hT slot_list_setitem
    (wpAny_call_entry slot_list_setitem hT entry_list_setitem ?_ (args_list_setitem _ _ _)))
  show wpAny _ _ (Builtin.List.listSubscript? (.int k t) >>= _) _ _ s
  refine wpAny_bind (wpAny_listSubscript_int (fitsIndex_of h0 hfit) ?_)
  clear hfit
  obtain ⟨j, rfl⟩ := Int.eq_ofNat_of_zero_le h0
  have hj : j < items.size := by lia
  have hx' : items[j]? = some items[j] := Array.getElem?_eq_getElem hj
  show wpAny _ _ ((seqItemAt l j >>= fun r => pure (r.map (j, ·))) >>= _) _ _ s
  refine wpAny_bind (wpAny_bind (wpAny_seqItemAt ho rfl (wpAny_pure ?_)))
  rw [hx']
  show wpAny _ _ (setSeqItemAt l j v >>= _) _ _ s
  have hfin := Heap.get?_update_self (Obj.mapSeq (·.setIfInBounds j v)) ho rfl
  have hQ' : Q () { s with heap := s.heap.update l (Obj.mapSeq (·.setIfInBounds j v)) } := hQ _ ⟨_, hfin⟩ (Heap.SameBut.update ..)
  refine wpAny_bind (wpAny_setSeqItemAt ho rfl ?_)
  first
    | exact wpAny_bind (wpAny_pure (wpAny_pure ⟨.none, rfl, wpAny_pure hQ'⟩))
    | exact wpAny_pure ⟨.none, rfl, wpAny_pure hQ'⟩
noncomputable def Sti (c : Cx) (lv : Lv) (op : List Cell → PV → PV → PV → Option (List Cell)) : Prop :=
  ∀ A fl X μ (s : Shared) σ ov iv v d1 d2 d3 σ' (Q : Unit → Shared → Prop) (E : Value → Shared → Prop), Calm lv A fl → Inv c fl X μ s.heap σ → VR c X s.heap μ d1 ov → VR c X s.heap μ d2 iv → VR c X s.heap μ d3 v → op σ d1 d2 d3 = some σ' →
    (∀ h' tk, Step fl.fa [] X μ s.heap X μ h' → Inv c fl X μ h' σ' → Q () { s with heap := h', toks := tk }) → wpAny c.M A (setItem ov iv v) Q E s
noncomputable def oSet (σ : List Cell) (o i v : PV) : Option (List Cell) := match i with
  | .int k => (listOf σ o).bind fun (j, xs) => if 0 ≤ k ∧ k < xs.length then some (σ.set j (.list (xs.set k.toNat v))) else none
  | .node n => (dnodOf σ o).bind fun (j, es) => if es.length ≤ 256 then some (σ.set j (.dnod (dput es n v))) else none
  | _ => none
set_option tactic.hygienic true in
theorem set_ok : Sti c lv oSet := by
  intro A fl X μ s σ ov iv v d1 d2 d3 σ' Q E ca I r1 r2 r3 e q
  cases r2 <;> first | (exact noS e; done) | skip
  · rename_i k t
    obtain ⟨⟨j, xs⟩, e1, e2⟩ := bind_some e
    clear e
    dsimp only at e2
    split at e2
    case isFalse => exact noS e2
    rename_i hk
    obtain rfl := soJ e2
    obtain ⟨rfl, a, vs, rfl, ha, hc, p, rs, hz⟩ := listOf_is I r1 e1
    have hlen := rs.length
    refine wpAny_setItem_plain p hk.1 (by lia) (by rw [List.size_toArray]; lia) fun h' p' sb => ?_
    obtain ⟨S, I'⟩ := upd_list (vs := vs.set k.toNat v) I ha hc (fun _ z => nomatch z) sb (by simpa using p') (rs.set _ r3)
    exact q h' s.toks S I'
  · rename_i n t hn
    obtain ⟨⟨j, es⟩, e1, e2⟩ := bind_some e
    clear e
    dsimp only at e2
    split at e2
    case isFalse => exact noS e2
    rename_i hk
    obtain rfl := soJ e2
    obtain ⟨rfl, a, rfl, ha, hc, b, vs, hd, rs⟩ := dnodOf_is I r1 e1
    obtain ⟨vs', e3, rs'⟩ := put_ok (key := c.rows) (k := n) r3 rs fun e m z => c.inj _ _ (b e m) hn z
    refine wpAny_setItem_pairs (knd := c.ss) (k := c.rows n) (by simp [PySem.strKind, Value.isStrOf]) hd (fun h' hd' sb => ?_) (by rw [List.length_zip]; refine Nat.le_trans (Nat.min_le_left _ _) ?_; rw [List.length_map]; exact Nat.le_trans hk (by decide))
    rw [e3] at hd'
    obtain ⟨S, I'⟩ := upd_dnod I ha hc (fun _ z => nomatch z) sb (put_keys (P := (· < c.nn)) b hn) hd' rs'
    exact q h' _ S I'
noncomputable def oDel (σ : List Cell) (o i : PV) : Option (List Cell) := match i with
  | .node n => (dnodOf σ o).bind fun (j, es) => if es.length ≤ 256 ∧ hasK es n = true then some (σ.set j (.dnod (ddel es n))) else none
  | _ => none
set_option tactic.hygienic true in
theorem del_item {A fl X μ} {s : Shared} {σ ov iv d1 d2 σ'} {Q : Unit → Shared → Prop} {E : Value → Shared → Prop} (I : Inv c fl X μ s.heap σ) (r1 : VR c X s.heap μ d1 ov) (r2 : VR c X s.heap μ d2 iv) (e : oDel σ d1 d2 = some σ')
    (q : ∀ h' tk, Step fl.fa [] X μ s.heap X μ h' → Inv c fl X μ h' σ' → Q () { s with heap := h', toks := tk }) : wpAny c.M A (delItem ov iv) Q E s := by
  cases r2 <;> first | (exact noS e; done) | skip
  rename_i n t hn
  obtain ⟨⟨j, es⟩, e1, e2⟩ := bind_some e
  clear e
  dsimp only at e2
  split at e2
  case isFalse => exact noS e2
  rename_i hk
  obtain rfl := soJ e2
  obtain ⟨rfl, a, rfl, ha, hc, b, vs, hd, rs⟩ := dnodOf_is I r1 e1
  have hl : es.length = vs.length := by have := rs.length; simpa using this
  have inj : ∀ e ∈ es, c.rows e.1 = c.rows n → e.1 = n := fun e m z => c.inj _ _ (b e m) hn z
  obtain ⟨vs', e3, rs'⟩ := del_ok (key := c.rows) (k := n) rs inj
  refine wpAny_delItem_slot hd.typeIs (by decide) PySem.F.slot_dict_delitem
    (call_meetsIn PySem.F.slot_dict_delitem hd.typeIs PySem.F.entry_dict_delitem (PySem.F.args_dict_delitem_2 _ _) (meets_dict_delitem_pairs (knd := c.ss) (k := c.rows n) a (by simp [PySem.strKind, Value.isStrOf]))
      ⟨_, hd, by rw [List.length_zip]; refine Nat.le_trans (Nat.min_le_left _ _) ?_; rw [List.length_map]; exact Nat.le_trans hk.1 (by decide), ?_, fun h' hd' sb => ?_⟩)
  · have ha := has_any (key := c.rows) (k := n) hl inj
    rw [hk.2] at ha
    unfold valueAt
    rw [Option.isSome_map, List.find?_isSome]
    obtain ⟨x, m, z⟩ := List.any_eq_true.mp ha
    exact ⟨x, m, z⟩
  · rw [e3] at hd'
    obtain ⟨S, I'⟩ := upd_dnod I ha hc (fun _ z => nomatch z) sb (del_keys (P := (· < c.nn)) b) hd' rs'
    exact q h' _ S I'
end
end Mine
end
section
set_option tactic.hygienic false
open PySem PySem.W PyProof.Rows PySem.Calls
open Builtin Builtin.ObjectAttr
set_option maxRecDepth 100000
namespace Mine
section
variable {c : Cx} {lv : Lv} {C : SC}
noncomputable def Tgs (c : Cx) (lv : Lv) (C : SC) (ts : List Expr) (f : Asg) : Prop :=
  ∀ A fl env X μ (s : Shared) st d v st' (Q : Unit → Shared → Prop) (E : Value → Shared → Prop), Calm lv A fl → Inv c fl X μ s.heap st.σ → FrS c C env X μ s.heap st.ρ → VR c X s.heap μ d v → f d st = some st' →
    (∀ h' tk X' μ', Step fl.fa (priv env) X μ s.heap X' μ' h' → Inv c fl X' μ' h' st'.σ → FrS c C env X' μ' h' st'.ρ → Q () { s with heap := h', toks := tk }) →
    wpAny c.M A (assignAll v (ts.map fun t v => assign t env v)) Q E s
theorem Tg_one {t : Expr} {f : Asg} (h : As c lv C t f) : Tgs c lv C [t] f := fun A fl env X μ s st d v st' Q E ca I F r e q => h A fl env X μ s st d v st' Q E ca I F r e q
noncomputable def aSeq (f g : Asg) : Asg := fun d st => (f d st).bind (g d)
theorem Tg_cons {t u : Expr} {r : List Expr} {f g : Asg} (h : As c lv C t f) (h2 : Tgs c lv C (u :: r) g) : Tgs c lv C (t :: u :: r) (aSeq f g) := by
  intro A fl env X μ s st d v st' Q E ca I F r e q
  obtain ⟨s1, e1, e2⟩ := bind_some e
  show wpAny c.M A (holding [v] (assign t env v) >>= fun _ => assignAll v _) Q E s
  refine wpAny_bind (wpAny_holding (h A fl env X μ s st d v s1 _ _ ca I F r e1 fun h' tk X' μ' S1 I1 F1 => ?_))
  exact h2 A fl env X' μ' _ s1 d v st' _ _ ca I1 F1 (r.mv (S1.mv (privX F) I.sub I.faX)) e2 fun h3 tk3 X3 μ3 S3 I3 F3 => q h3 tk3 X3 μ3 (S1.trans S3) I3 F3
theorem S_asg {ts : List Expr} {value pos} {f : Asg} {v : Co} (h1 : Ev c lv C value v) (h2 : Tgs c lv C ts f) (hs : ∀ env, env.scope.kind = .function → env.scope.names = C.names → swapsWithSole ts value pos.line env = pure false)
    (hw : ∀ env, env.scope.kind = .function → env.scope.names = C.names → swappedStores ts value env = pure none) (he : ∀ env, (assignEach ts env).map (·.2) = ts.map fun t v => assign t env v) : Xs c lv C (exec (.Assign ts value pos)) (cAsg f v) := by
  intro A fl env X μ s st r st' Q E tp ca I F e q
  obtain ⟨⟨d1, σ1⟩, e1, e⟩ := bind_some e
  obtain ⟨s2, e2, e⟩ := map_some e
  obtain ⟨rfl, rfl⟩ := prS e
  rw [arm_exec_Assign, hs env F.kind F.names]
  refine wpAny_bind (wpAny_standAt (wpAny_bind (wpAny_pure ?_)))
  refine wpAny_bind (h1 A fl env X μ s st d1 σ1 _ _ ca I F e1 fun v h' tk X' μ' S1 I1 r1 => ?_)
  rw [hw env F.kind F.names, he]
  refine wpAny_bind (wpAny_pure ?_)
  unfold assignStores
  refine wpAny_bind (h2 A fl env X' μ' _ ⟨st.ρ, σ1⟩ d1 v st' _ _ ca I1 (F.ex I S1) r1 e2 fun h'' tk' X'' μ'' S2 I2 F2 => ?_)
  exact wpAny_pure (q .next h'' tk' X'' μ'' (S1.wk.trans S2) I2 F2 trivial)
noncomputable def aSub (op : List Cell → PV → PV → PV → Option (List Cell)) (f g : Co) : Asg := fun d st => (f st).bind fun (a, σ1) => (g ⟨st.ρ, σ1⟩).bind fun (b, σ2) => (op σ2 a b d).map fun σ3 => ⟨st.ρ, σ3⟩
theorem A_sub {o i : Expr} {f g : Co} {op} (pos) (h1 : Ev c lv C o f) (h2 : Ev c lv C i g) (h3 : Sti c lv op) : As c lv C (.Subscript o i pos) (aSub op f g) := by
  intro A fl env X μ s st d v st' Q E ca I F r e q
  obtain ⟨⟨a, σ1⟩, e1, ea⟩ := bind_some e
  obtain ⟨⟨b, σ2⟩, e2, eb⟩ := bind_some ea
  obtain ⟨σ3, e3, ec⟩ := map_some eb
  subst ec
  rw [arm_assign_Subscript]
  refine wpAny_bind (wpAny_holding (h1 A fl env X μ s st a σ1 _ _ ca I F e1 fun v1 h' tk X' μ' S1 I1 r1 => ?_))
  refine wpAny_bind (wpAny_holding (h2 A fl env X' μ' _ ⟨st.ρ, σ1⟩ b σ2 _ _ ca I1 (F.ex I S1) e2 fun v2 h'' tk' X'' μ'' S2 I2 r2 => ?_))
  refine wpAny_bind (wpAny_standAt (wpAny_bind (wpAny_holding ?_)))
  have M2 := S2.mv0 I1 rfl
  have F2 := (F.ex I S1).ex I1 S2
  refine h3 A fl X'' μ'' _ σ2 v1 v2 v a b d σ3 _ _ ca I2 (r1.mv M2) r2 ((r.mv (S1.mv0 I rfl)).mv M2) e3 fun h3' tk3 S3 I3 => ?_
  exact wpAny_release (q h3' tk3 X'' μ'' ((S1.trans S2).trans S3).wk I3 (F2.ex I2 S3))
noncomputable def Sta (c : Cx) (lv : Lv) (name : Str) (op : List Cell → PV → PV → Option (List Cell)) : Prop :=
  ∀ A fl X μ (s : Shared) σ ov v d1 d3 σ' (Q : Unit → Shared → Prop) (E : Value → Shared → Prop), Calm lv A fl → Inv c fl X μ s.heap σ → VR c X s.heap μ d1 ov → VR c X s.heap μ d3 v → op σ d1 d3 = some σ' →
    (∀ h' tk, Step fl.fa [] X μ s.heap X μ h' → Inv c fl X μ h' σ' → Q () { s with heap := h', toks := tk }) → wpAny c.M A (setAttr ov name v) Q E s
noncomputable def aAttr (op : List Cell → PV → PV → Option (List Cell)) (f : Co) : Asg := fun d st => (f st).bind fun (a, σ1) => (op σ1 a d).map fun σ3 => ⟨st.ρ, σ3⟩
theorem A_attr {o : Expr} {name : Str} {f : Co} {op} (pos) (h1 : Ev c lv C o f) (h3 : Sta c lv name op) : As c lv C (.Attribute o name pos) (aAttr op f) := by
  intro A fl env X μ s st d v st' Q E ca I F r e q
  obtain ⟨⟨a, σ1⟩, e1, ea⟩ := bind_some e
  obtain ⟨σ3, e3, ec⟩ := map_some ea
  subst ec
  rw [arm_assign_Attribute]
  refine wpAny_bind (wpAny_holding (h1 A fl env X μ s st a σ1 _ _ ca I F e1 fun v1 h' tk X' μ' S1 I1 r1 => ?_))
  refine wpAny_bind (wpAny_standAt (wpAny_bind (wpAny_holding ?_)))
  refine h3 A fl X' μ' _ σ1 v1 v a d σ3 _ _ ca I1 r1 (r.mv (S1.mv0 I rfl)) e3 fun h3' tk3 S3 I3 => ?_
  exact wpAny_release (q h3' tk3 X' μ' (S1.trans S3).wk I3 ((F.ex I S1).ex I1 S3))
noncomputable def cAugN (i : Nat) (op : List Cell → PV → PV → Option PV) (f : Co) : Cs := fun st => ((st.ρ[i]?).join).bind fun a => (f st).bind fun (b, σ1) => (op σ1 a b).bind fun r => (St.put ⟨st.ρ, σ1⟩ i r).map fun s2 => (.next, s2)
theorem S_augN {x : Str} {i : Nat} {o : Operator} {value : Expr} {f : Co} {op} (npos pos) (k1 : slotKind C i x = true) (k2 : storeKind C i x = true) (h : Ev c lv C value f) (ho : Op2 c lv (inplaceOp o) op) : Xs c lv C (exec (.AugAssign (.Name x npos) o value pos)) (cAugN i op f) := by
  intro A fl env X μ s st r st' Q E tp ca I F e q
  obtain ⟨a, e0, ea⟩ := bind_some e
  obtain ⟨⟨b, σ1⟩, e1, eb⟩ := bind_some ea
  obtain ⟨d, e2, ec⟩ := bind_some eb
  obtain ⟨s2, e3, ed⟩ := map_some ec
  obtain ⟨rfl, rfl⟩ := prS ed
  obtain ⟨hs, hd, hk⟩ := slotKind_of k1
  obtain ⟨hs1, hn, hk1⟩ := storeKind_of k2
  rw [arm_exec_AugAssign]
  refine wpAny_bind (wpAny_standAt (wpAny_bind (load_slot F hs hk e0 fun v0 r0 => ?_)))
  refine wpAny_bind (wpAny_holding (h A fl env X μ s st b σ1 _ _ ca I F e1 fun v1 h' tk X' μ' S1 I1 r1 => ?_))
  refine wpAny_bind (wpAny_standAt (wpAny_bind (wpAny_operating (ho A fl X' μ' _ σ1 v0 v1 a b d _ _ ca I1 (r0.mv (S1.mv0 I rfl)) r1 e2 fun v h3' tk3 l r3 => ?_))))
  refine wpAny_bind (wpAny_standAt (wpAny_bind (bindName_ (store_slot (st := ⟨st.ρ, σ1⟩) (I1.le l) ((F.ex I S1).le l) hn hs1 hk1 r3 e3 fun h4 tk4 b4 m4 _ S4 I4 F4 => ?_))))
  exact wpAny_pure (q .next h4 tk4 X' μ' ((S1.wk.trans (.le l)).trans (S4 _ m4)) I4 F4 trivial)
noncomputable def cAugA (get : List Cell → PV → Option PV) (set : List Cell → PV → PV → Option (List Cell)) (op : List Cell → PV → PV → Option PV) (fo f : Co) : Cs := fun st =>
  (fo st).bind fun (o, σ1) => (get σ1 o).bind fun a => (f ⟨st.ρ, σ1⟩).bind fun (b, σ2) => (op σ2 a b).bind fun r => (set σ2 o r).map fun σ3 => (.next, ⟨st.ρ, σ3⟩)
theorem S_augA {o value : Expr} {name : Str} {oper : Operator} {fo f : Co} {get set op} (tpos pos) (h1 : Ev c lv C o fo) (hg : At c lv name get) (h2 : Ev c lv C value f) (ho : Op2 c lv (inplaceOp oper) op) (hs : Sta c lv name set) :
    Xs c lv C (exec (.AugAssign (.Attribute o name tpos) oper value pos)) (cAugA get set op fo f) := by
  intro A fl env X μ s st r st' Q E tp ca I F e q
  obtain ⟨⟨od, σ1⟩, e0, ea⟩ := bind_some e
  obtain ⟨a, e1, eb⟩ := bind_some ea
  obtain ⟨⟨b, σ2⟩, e2, ec⟩ := bind_some eb
  obtain ⟨d, e3, ed⟩ := bind_some ec
  obtain ⟨σ3, e4, ee⟩ := map_some ed
  obtain ⟨rfl, rfl⟩ := prS ee
  rw [arm_exec_AugAssign_2]
  refine wpAny_bind (wpAny_standAt (wpAny_bind (h1 A fl env X μ s st od σ1 _ _ ca I F e0 fun ov h' tk X' μ' S1 I1 r1 => ?_)))
  refine wpAny_bind (wpAny_holding (wpAny_bind (wpAny_standAt (wpAny_bind ?_))))
  refine hg A fl X' μ' _ σ1 ov od a _ _ ca I1 r1 e1 fun va h2' tk2 l2 r2 => ?_
  refine wpAny_bind (wpAny_holding (h2 A fl env X' μ' _ ⟨st.ρ, σ1⟩ b σ2 _ _ ca (I1.le l2) ((F.ex I S1).le l2) e2 fun vb h3' tk3 X3 μ3 S3 I3 r3 => ?_))
  have M3 := S3.mv0 (I1.le l2) rfl
  refine wpAny_bind (wpAny_standAt (wpAny_operating (ho A fl X3 μ3 _ σ2 va vb a b d _ _ ca I3 (r2.mv M3) r3 e3 fun vd h4' tk4 l4 r4 => ?_)))
  refine wpAny_bind (wpAny_standAt (wpAny_bind (wpAny_holding ?_)))
  refine hs A fl X3 μ3 _ σ2 ov vd od d σ3 _ _ ca (I3.le l4) (((r1.le l2).mv M3).le l4) r4 e4 fun h5 tk5 S5 I5 => ?_
  have Sa : Step fl.fa [] X μ s.heap X3 μ3 h4' := ((S1.trans (.le l2)).trans S3).trans (.le l4)
  exact wpAny_bind (wpAny_release (wpAny_pure (q .next h5 tk5 X3 μ3 (Sa.trans S5).wk I5 (((F.ex I Sa)).ex (I3.le l4) S5) trivial)))
noncomputable def cDel (f g : Co) : Cs := fun st => (f st).bind fun (a, σ1) => (g ⟨st.ρ, σ1⟩).bind fun (b, σ2) => (oDel σ2 a b).map fun σ3 => (.next, ⟨st.ρ, σ3⟩)
theorem S_del {o i : Expr} {f g : Co} (p pos) (h1 : Ev c lv C o f) (h2 : Ev c lv C i g) : Xs c lv C (exec (.Delete [.Subscript o i p] pos)) (cDel f g) := by
  intro A fl env X μ s st r st' Q E tp ca I F e q
  obtain ⟨⟨a, σ1⟩, e1, ea⟩ := bind_some e
  obtain ⟨⟨b, σ2⟩, e2, eb⟩ := bind_some ea
  obtain ⟨σ3, e3, ec⟩ := map_some eb
  obtain ⟨rfl, rfl⟩ := prS ec
  have main : wpAny c.M A (delete (.Subscript o i p) env) (fun _ s1 => wpAny c.M A (deleteEach [] env) (fun _ => Q .next) E s1) E s := by
    refine delete_Subscript (h1 A fl env X μ s st a σ1 _ _ ca I F e1 fun v1 h' tk X' μ' S1 I1 r1 => ?_)
    refine h2 A fl env X' μ' _ ⟨st.ρ, σ1⟩ b σ2 _ _ ca I1 (F.ex I S1) e2 fun v2 h'' tk' X'' μ'' S2 I2 r2 => ?_
    refine del_item I2 (r1.mv (S2.mv0 I1 rfl)) r2 e3 fun h3 tk3 S3 I3 => ?_
    exact wpAny_deleteEach_nil (q .next h3 tk3 X'' μ'' ((S1.trans S2).trans S3).wk I3 (((F.ex I S1).ex I1 S2).ex I2 S3) trivial)
  exact wpAny_Delete (wpAny_deleteEach_cons main)
end
end Mine
end
section
set_option tactic.hygienic false
open PySem PySem.W PyProof.Rows PySem.Calls
open Builtin Builtin.ObjectAttr
set_option maxRecDepth 100000
namespace Mine
structure DCls (c : Cx) (C : Addr) : Prop where
  ga : findIn c.K (.ref C) "__getattribute__" = some (some (.builtin "object.__getattribute__"))
  gt : findIn c.K (.ref C) "__getattr__" = some none
  dict : hasDictIn c.K C = true
  sa : findIn c.K (.ref C) "__setattr__" = some (some (.builtin "object.__setattr__"))
  over : plainOver c.K C = true
structure DAttr (c : Cx) (C : Addr) (nm : Str) (j : Nat) : Prop where
  idx : soNames[j]? = some nm
  get : findIn c.K (.ref C) nm = some none
  take : takerIn c.K C nm = some none
structure SAttr (c : Cx) (C : Addr) (nm : Str) (j : Nat) (p : Addr) : Prop where
  ga : findIn c.K (.ref C) "__getattribute__" = some (some (.builtin "object.__getattribute__"))
  gt : findIn c.K (.ref C) "__getattr__" = some none
  cls : isClsIn c.K C = true
  get : findIn c.K (.ref C) nm = some (some (.ref p))
  sg : specialIn c.K (.ref p) "__get__" = some (some (.builtin "member_descriptor.__get__"))
  ti : takesIn c.K (.ref p) = some true
  slot : slotIn c.K p C = some j
  small : j < 8
  sa : findIn c.K (.ref C) "__setattr__" = some (some (.builtin "object.__setattr__"))
  over : plainOver c.K C = true
  take : takerIn c.K C nm = some (some (.ref p))
  ty : typeIn c.K (.ref p) = some (.type "member_descriptor")
noncomputable def isVal : PV → Bool
  | .val _ => true
  | _ => false
section
variable {c : Cx} {lv : Lv} {X μ : List Addr} {h : Heap}
theorem handed {d : PV} {v : Value} (r : VR c X h μ d v) (n : isVal d = false) : handedIn v = true := by
  cases r <;> first | rfl | (exact noT n)
theorem Inv.K {fl σ} (I : Inv c fl X μ h σ) : c.K.In h := c.inK.keeps fun b o e => (I.base b o e).1
theorem putL_len_eq {n : Str} {hsh : Int} {k v : Value} : ∀ {es : List DictEntry}, (∃ x, getL n es = some (some x)) → (putL n hsh k v es).length = es.length
  | [], ⟨x, e⟩ => by simp [getL] at e
  | e :: r, ⟨x, hx⟩ => by
    unfold putL
    by_cases h : e.key.isStr n = true
    · rw [if_pos h]; rfl
    · rw [if_neg h]
      have h' : e.key.isStr n = false := by simpa using h
      rw [List.length_cons, List.length_cons, putL_len_eq]
      refine ⟨x, ?_⟩
      unfold getL at hx ⊢
      rw [List.find?_cons] at hx
      simp only [h'] at hx
      split at hx
      · rename_i z; rw [z]; exact hx
      · split at hx <;> cases hx
theorem soN_inj {j k : Nat} {nm : Str} (h1 : soNames[j]? = some nm) (h2 : soNames[k]? = some nm) : j = k :=
  (List.getElem?_inj (List.getElem?_eq_some_iff.mp h1).1 (by decide)).mp (h1.trans h2.symm)
noncomputable def nsOf (C : Addr) (σ : List Cell) : PV → Option (Nat × List (Option PV))
  | .ref x => match σ[x]? with
    | some (.inst C' di) => if C' = C then (match σ[di]? with
      | some (.ns fs) => some (di, fs)
      | _ => none) else none
    | _ => none
  | _ => none
set_option tactic.hygienic true in
theorem nsOf_is {fl σ} {C : Addr} {d : PV} {v : Value} {di fs} (I : Inv c fl X μ h σ) (r : VR c X h μ d v) (e : nsOf C σ d = some (di, fs)) : ∃ x dx es n, v = .ref x ∧ μ[di]? = some dx ∧ σ[di]? = some (.ns fs) ∧ h.get? x = some (instObj C dx) ∧
    h.get? dx = some (dictOf es n) ∧ es.length + fs.countP (·.isNone) ≤ 100 ∧ (∀ nm, nm ∉ soNames → getL nm es = some none) ∧ ∀ (j : Nat) (nm : Str), soNames[j]? = some nm → match (fs[j]?).join with
      | some d => ∃ v, getL nm es = some (some v) ∧ handedIn v = true ∧ VR c X h μ d v
      | none => getL nm es = some none := by
  unfold nsOf at e
  split at e
  case h_2 => exact noS e
  rename_i x0
  cases r with | ref ha =>
  obtain ⟨cl, hc, cr⟩ := I.at ha
  rw [hc] at e
  split at e
  case h_2 => exact noS e
  rename_i C' di' hz
  obtain rfl := soJ hz
  split at e
  case isFalse => exact noS e
  rename_i hC
  subst hC
  obtain ⟨dx, hm, g⟩ := cr
  obtain ⟨cl2, hc2, cr2⟩ := I.at hm
  rw [hc2] at e
  split at e
  case h_2 => exact noS e
  rename_i fs' hz2
  obtain rfl := soJ hz2
  obtain ⟨rfl, rfl⟩ := prI e
  obtain ⟨es, n, g2, l2, z2, r2⟩ := cr2
  exact ⟨_, dx, es, n, rfl, hm, hc2, g, g2, l2, z2, r2⟩
noncomputable def aInst (C : Addr) (j : Nat) (σ : List Cell) (d : PV) : Option PV := (nsOf C σ d).bind fun (_, fs) => (fs[j]?).join
theorem At_inst {C : Addr} {nm : Str} {j : Nat} (D : DCls c C) (a : DAttr c C nm j) : At c lv nm (aInst C j) := by
  intro A fl X μ s σ ov d r Q E ca I r1 e q
  obtain ⟨⟨di, fs⟩, e1, e2⟩ := bind_some e
  obtain ⟨x, dx, es, n, rfl, hm, hc, g, g2, l, z, f⟩ := nsOf_is I r1 e1
  have f1 := f j nm a.idx
  dsimp only at e2
  rw [e2] at f1
  obtain ⟨v, h1, h2, h3⟩ := f1
  refine get_own0 I.K ⟨g, rfl, rfl, g2⟩ (by unfold plainGet; rw [D.ga, D.gt]; rfl) D.dict a.get rfl h1 h2 ?_
  exact q v s.heap _ (.refl _) h3
noncomputable def sInst (C : Addr) (j : Nat) (σ : List Cell) (o d : PV) : Option (List Cell) := (nsOf C σ o).bind fun (di, fs) => if isVal d = false ∧ fs.length = 4 then some (σ.set di (.ns (fs.set j (some d)))) else none
theorem Sta_inst {C : Addr} {nm : Str} {j : Nat} (D : DCls c C) (a : DAttr c C nm j) : Sta c lv nm (sInst C j) := by
  intro A fl X μ s σ ov v d1 d3 σ' Q E ca I r1 r3 e q
  obtain ⟨⟨di, fs⟩, e1, e2⟩ := bind_some e
  clear e
  dsimp only at e2
  split at e2
  case isFalse => exact noS e2
  rename_i hv
  obtain rfl := soJ e2
  obtain ⟨x, dx, es, n, rfl, hm, hc, g, g2, l, z, f⟩ := nsOf_is I r1 e1
  have hl : (getL nm es).isSome = true := by
    have f1 := f j nm a.idx
    split at f1
    · obtain ⟨v, h1, _⟩ := f1; rw [h1]; rfl
    · rw [f1]; rfl
  refine set_dict0 I.K ⟨g, rfl, rfl, g2⟩ rfl D.sa D.over a.take D.dict hl (by lia) fun h' hsh tk sb g' => ?_
  have hj : j < fs.length := by
    have := (List.getElem?_eq_some_iff.mp a.idx).1
    rw [hv.2]; exact this
  obtain ⟨S2, I2⟩ := upd_cell (cl := .ns (fs.set j (some d3))) I hm hc (fun _ z => nomatch z) (fun _ z => nomatch z) sb g' (fun _ z => nomatch z) (fun _ _ z => nomatch z) fun M => by
    refine ⟨_, _, g', ?_, fun nm' hn' => (getL_put_other (fun y => hn' (by rw [← y]; exact List.mem_of_getElem? a.idx))).trans (z nm' hn'), fun k nm' hk => ?_⟩
    · rw [List.countP_set hj]
      cases hx : (fs[j]?).join with
      | some y =>
        have f1 := f j nm a.idx
        rw [hx] at f1
        obtain ⟨v', h1, _⟩ := f1
        rw [putL_len_eq ⟨v', h1⟩]
        have : (fs[j]).isNone = false := by
          rw [List.getElem?_eq_getElem hj] at hx
          cases hy : fs[j] with
          | none => rw [hy] at hx; exact noS hx
          | some _ => rfl
        simp [this]
        exact l
      | none =>
        have : (fs[j]).isNone = true := by
          rw [List.getElem?_eq_getElem hj] at hx
          cases hy : fs[j] with
          | none => rfl
          | some _ => rw [hy] at hx; exact noN hx
        have hp : 0 < fs.countP (·.isNone) := List.countP_pos_iff.mpr ⟨fs[j], List.getElem_mem hj, this⟩
        have hl2 := putL_len (n := nm) (hsh := hsh) (k := .str nm tk) (v := v) (es := es)
        simp [this]
        lia
    · by_cases hkj : k = j
      · subst hkj
        have : nm' = nm := Option.some.inj (hk.symm.trans a.idx)
        subst this
        have e3 : ((fs.set k (some d3))[k]?).join = some d3 := by simp [hj]
        rw [e3]
        exact ⟨v, getL_put_self, handed r3 hv.1, r3.mv M⟩
      · have hne : nm ≠ nm' := fun z => hkj (soN_inj hk (z ▸ a.idx))
        rw [List.getElem?_set_ne (Ne.symm hkj), getL_put_other hne]
        have f1 := f k nm' hk
        revert f1
        cases (fs[k]?).join with
        | none => exact id
        | some y => rintro ⟨v', h1, h2, h3⟩; exact ⟨v', h1, h2, h3.mv M⟩
  exact q h' _ S2 I2
noncomputable def slotOf (C : Addr) (σ : List Cell) : PV → Option (Nat × List (Option PV))
  | .ref x => match σ[x]? with
    | some (.slot C' fs) => if C' = C then some (x, fs) else none
    | _ => none
  | _ => none
set_option tactic.hygienic true in
theorem slotOf_is {fl σ} {C : Addr} {d : PV} {v : Value} {x fs} (I : Inv c fl X μ h σ) (r : VR c X h μ d v) (e : slotOf C σ d = some (x, fs)) : d = .ref x ∧ ∃ a sl dx, v = .ref a ∧ μ[x]? = some a ∧ σ[x]? = some (.slot C fs) ∧ h.get? a = some ⟨.ref C, some dx, .plain, sl⟩ ∧
    h.get? dx = some emptyDict ∧ dx ∉ X ∧ ∀ (j : Nat) (d : PV), (fs[j]?).join = some d → ∃ v, (sl[j]?).join = some v ∧ VR c X h μ d v := by
  unfold slotOf at e
  split at e
  case h_2 => exact noS e
  rename_i x0
  cases r with | ref ha =>
  obtain ⟨cl, hc, cr⟩ := I.at ha
  rw [hc] at e
  split at e
  case h_2 => exact noS e
  rename_i C' fs' hz
  obtain rfl := soJ hz
  split at e
  case isFalse => exact noS e
  rename_i hC
  subst hC
  obtain ⟨rfl, rfl⟩ := prI e
  obtain ⟨sl, dx, g, g2, n, f⟩ := cr
  exact ⟨rfl, _, sl, dx, rfl, ha, hc, g, g2, n, f⟩
noncomputable def aSlot (C : Addr) (j : Nat) (σ : List Cell) (d : PV) : Option PV := (slotOf C σ d).bind fun (_, fs) => ((fs[j]?).join).bind fun r => if isVal r then none else some r
theorem At_slot {C p : Addr} {nm : Str} {j : Nat} (a : SAttr c C nm j p) : At c lv nm (aSlot C j) := by
  intro A fl X μ s σ ov d r Q E ca I r1 e q
  obtain ⟨⟨x, fs⟩, e1, e2⟩ := bind_some e
  obtain ⟨y, e3, e4⟩ := bind_some e2
  split at e4
  · exact noS e4
  rename_i hv
  obtain rfl := soJ e4
  obtain ⟨rfl, ad, sl, dx, rfl, hm, hc, g, g2, n, f⟩ := slotOf_is I r1 e1
  obtain ⟨v, h1, h2⟩ := f j _ e3
  refine get_slot0 (od := emptyDict) I.K ⟨g, rfl, rfl, g2⟩ (by unfold plainGet; rw [a.ga, a.gt]; rfl) a.cls a.get a.sg a.ti a.slot h1 (handed h2 (by simpa using hv)) ?_
  exact q v s.heap _ (.refl _) h2
noncomputable def sSlot (C : Addr) (j : Nat) (σ : List Cell) (o d : PV) : Option (List Cell) := (slotOf C σ o).bind fun (x, fs) => if fs.length = 3 then some (σ.set x (.slot C (fs.set j (some d)))) else none
theorem slots_get {sl : Array (Option Value)} {j k : Nat} {v : Value} : ((((sl ++ Array.replicate (j + 1 - sl.size) none).setIfInBounds j (some v))[k]?).join) = if k = j then some v else (sl[k]?).join := by
  by_cases h : k = j
  · subst h
    rw [if_pos rfl, Array.getElem?_setIfInBounds_self_of_lt (by simp; omega)]
    rfl
  · rw [if_neg h, Array.getElem?_setIfInBounds_ne (Ne.symm h)]
    by_cases hk : k < sl.size
    · rw [Array.getElem?_append_left hk]
    · rw [Array.getElem?_append_right (by lia), Array.getElem?_eq_none (xs := sl) (by lia), Array.getElem?_replicate]
      split <;> rfl
theorem Sta_slot {C p : Addr} {nm : Str} {j : Nat} (a : SAttr c C nm j p) : Sta c lv nm (sSlot C j) := by
  intro A fl X μ s σ ov v d1 d3 σ' Q E ca I r1 r3 e q
  obtain ⟨⟨x, fs⟩, e1, e2⟩ := bind_some e
  clear e
  dsimp only at e2
  split at e2
  case isFalse => exact noS e2
  rename_i hfs
  obtain rfl := soJ e2
  obtain ⟨rfl, ad, sl, dx, rfl, hm, hc, g, g2, n, f⟩ := slotOf_is I r1 e1
  refine slot_set0 (od := some emptyDict) I.K ⟨g, rfl, rfl, g2⟩ rfl a.sa a.over a.take a.ty a.slot (Nat.lt_of_lt_of_le a.small (by decide)) fun h' sb g' => ?_
  obtain ⟨S2, I2⟩ := upd_cell (cl := .slot C (fs.set j (some d3))) I hm hc (fun _ z => nomatch z) (fun _ z => nomatch z) sb g' (fun _ z => nomatch z) (fun _ _ z => nomatch z) fun M => by
    refine ⟨_, dx, g', (M.kp _ _ g2 n).1, (M.kp _ _ g2 n).2, fun k d hk => ?_⟩
    rw [slots_get]
    by_cases hkj : k = j
    · subst hkj
      rw [if_pos rfl]
      have hlt : k < fs.length := by
        rcases Nat.lt_or_ge k fs.length with z | z
        · exact z
        · rw [List.getElem?_eq_none (by simpa using z)] at hk; exact noS hk
      have : ((fs.set k (some d3))[k]?).join = some d3 := by simp [hlt]
      rw [this] at hk
      obtain rfl := soJ hk
      exact ⟨v, rfl, r3.mv M⟩
    · rw [if_neg hkj]
      rw [List.getElem?_set_ne (Ne.symm hkj)] at hk
      obtain ⟨v', h1, h2⟩ := f k d hk
      exact ⟨v', h1, h2.mv M⟩
  exact q h' _ S2 I2
end
end Mine
end
section
set_option tactic.hygienic false
open PySem PySem.W PyProof.Rows PySem.Calls
open Builtin Builtin.ObjectAttr
set_option maxRecDepth 100000
namespace Mine
section
variable {c : Cx} {lv : Lv} {C : SC}
noncomputable def isInst (D : Addr) (σ : List Cell) (d : PV) : Bool := (nsOf D σ d).isSome
structure DMeth (c : Cx) (D : Addr) (nm : Str) (f : Addr) : Prop where
  get : findIn c.K (.ref D) nm = some (some (.ref f))
  fn : isFn c.K (.ref f) = true
  no : nm ∉ soNames
  keep : keepIn c.K (.ref f) = true
  hg : specialIn c.K (.ref f) "__get__" = some (some (.builtin "function.__get__"))
  ti : takesIn c.K (.ref f) = some false
  cp : copiedNames.contains nm = false
  ob : (c.K.lookup f).isSome = true
theorem Mt.inst {D f : Addr} {nm : Str} {g} (d : DCls c D) (m : DMeth c D nm f) (ha : Ap c lv (.ref f) g) : Mt c lv nm (isInst D) g := by
  intro A fl X μ s σ ov dd pl Q E ca I r ok q
  unfold isInst at ok
  cases e : nsOf D σ dd with
  | none => rw [e] at ok; exact noF ok
  | some p =>
    obtain ⟨di, fs⟩ := p
    obtain ⟨x, dx, es, n, rfl, hm, hc, gg, g2, l, z, _⟩ := nsOf_is I r e
    exact method_fn (od := some (dictOf es n)) I.K ⟨gg, rfl, rfl, g2⟩ d.ga d.gt m.get (beq_iff_eq.mp m.fn) (by show (lookIn nm (dictOf es n)).map _ = _; rw [lookIn_dict, z nm m.no]; rfl) (q _ (.inr (.inr m.keep)) ha)
noncomputable def cMethS (D : Addr) (g : Fn) (f : Co) (fs : Cl) : Co := fun st => (f st).bind fun (d, σ1) => if isInst D σ1 d = true then (fs ⟨st.ρ, σ1⟩).bind fun (ds, σ2) => g (d :: ds) σ2 else none
theorem R_methS {o : Expr} {nm : Str} {args : List Expr} {D fa : Addr} {g} {f : Co} {fs : Cl} (apos pos : Pos) (hb : ∀ env, attributeBase o nm env (eval o env) = eval o env)
    (hf : ∀ env, (backTo pos (starEach args env)).all (fun x => !x.1) = false) (dc : DCls c D) (m : DMeth c D nm fa) (ha : ApC c lv (.ref fa) g)
    (h : Ev c lv C o f) (hs : Ags c lv C args fs) : Ev c lv C (.Call (.Attribute o nm apos) args [] pos) (cMethS D g f fs) := by
  intro A fl env X μ s st d σ' Q E ca I F e q
  obtain ⟨⟨d1, σ1⟩, e1, ea⟩ := bind_some e
  dsimp only at ea
  split at ea
  case isFalse => exact noS ea
  rename_i hok
  obtain ⟨⟨ds, σ2⟩, e2, eb⟩ := bind_some ea
  rw [arm_eval_Call, hb]
  refine wpAny_bind (h A fl env X μ s st d1 σ1 _ _ ca I F e1 fun v1 h' tk X' μ' S1 I1 r1 => ?_)
  refine wpAny_bind (wpAny_standAt ?_)
  have hform : methodCallForm (args.length + ([] : List Keyword).length) (backTo pos (starEach args env)) (backToKw pos (keywordEach [] env)) = false := by
    unfold methodCallForm
    rw [hf]
    rfl
  unfold methodCall
  rw [hform]
  unfold isInst at hok
  cases e5 : nsOf D σ1 d1 with
  | none => rw [e5] at hok; exact noF hok
  | some p =>
    obtain ⟨di, fs'⟩ := p
    obtain ⟨x, dx, es, n, rfl, hm, hc, gg, g2, l, z, _⟩ := nsOf_is I1 r1 e5
    have hfind : findObj c.K D (some (dictOf es n)) nm = some (.bind (.builtin "function.__get__") (.ref fa)) := findObj_fn dc.dict m.get m.hg m.ti m.cp (by rw [lookIn_dict, z nm m.no])
    unfold calleeOf
    rw [if_neg (by decide)]
    have lp : Le h' (h'.push (methodObj (.ref fa) (.ref x))) := .push _ _
    refine wpAny_bind (wpAny_holding (wpAny_bind (get_bind (s := { s with heap := h', toks := tk }) I1.K ⟨gg, rfl, rfl, g2⟩ dc.ga hfind dc.gt
      (wpAny_call (fn_get (s := { heap := h', gens := s.gens, drawn := s.drawn, toks := tk + 1, os := s.os }) I1.K (beq_iff_eq.mp m.fn) (handed_on rfl (wpAny_pure ?_)))))))
    refine wpAny_bind (wpAny_pure ?_)
    have hq : (h'.push (methodObj (.ref fa) (.ref x))).get? h'.objs.size = some (methodObj (.ref fa) (.ref x)) := Heap.get?_push_size _ rfl
    refine callWith_any (hs A fl env X' μ' _ ⟨st.ρ, σ1⟩ ds σ2 pos _ _ _ ca (I1.le lp) ((F.ex I S1).le lp) e2 fun vs h'' tk' X'' μ'' S2 I2 rs => ?_)
    have M2 := S2.mv0 (I1.le lp) rfl
    have hq2 := (M2.kp _ _ hq I1.fresh).1
    refine ⟨rfl, fun R q' => ?_, ?_⟩
    · obtain ⟨of, hof⟩ := Option.isSome_iff_exists.mp m.ob
      unfold keeperOf
      refine wpAny_bind (wpAny_load hq2 ?_)
      dsimp only
      rw [if_neg (by decide)]
      show wpAny _ _ (do return match (← load fa).data with | .func _ => Keeper.boundFrame | _ => .caller) _ _ _
      exact wpAny_bind (wpAny_load (I2.K _ _ hof) (wpAny_pure (q' _)))
    · refine wpAny_call (method_call hq2 ?_)
      exact ha A fl X'' μ'' _ σ2 (d1 :: ds) (.ref x :: vs) d σ' _ _ ca I2 (.cons ((r1.le lp).mv M2) rs) eb fun v h3 tk3 X3 μ3 S3 I3 r3 => q v h3 tk3 X3 μ3 (((S1.trans (.le lp)).trans S2).trans S3) I3 r3
end
end Mine
end
section
set_option tactic.hygienic false
open PySem PySem.W PyProof.Rows PySem.Calls
open Builtin Builtin.ObjectAttr
set_option maxRecDepth 100000
namespace Mine
section
variable {c : Cx} {C : SC}
structure Makes1 (c : Cx) (D fI : Addr) : Prop where
  mak : makesIn c.K D = true
  init : findIn c.K (.ref D) "__init__" = some (some (.ref fI))
  fn : isFn c.K (.ref fI) = true
theorem Calm.make {n : Nat} {q : Bool} {A : Around} {fl : Lx} {D : Addr} {vals : List Value} (ca : Calm ⟨n + 1, q⟩ A fl) : Calm ⟨n, q⟩ (A.under (.builtin "type.__call__" ⟨.ref D :: vals, []⟩)) fl where
  hd := fun z => ca.hd z
  dp := by
    have := ca.dp
    show A.depth + 1 + n < _
    have : A.depth + (n + 1) < recursionLimit := this
    lia
  un := by
    have := ca.un
    show A.units + 1 + 4 * n + 100 < _
    have : A.units + 4 * (n + 1) + 100 < cLine := this
    lia
  fr := ca.fr
noncomputable def gNew (D : Addr) (g : Fn) : Fn := fun ds σ => (g (.ref (σ.length + 1) :: ds) (σ ++ [.ns [none, none, none, none]] ++ [.inst D σ.length])).bind fun (r, σ2) => match r with
  | .none => some (.ref (σ.length + 1), σ2)
  | _ => none
theorem new_ap {n : Nat} {q : Bool} {D fI : Addr} {g} (m : Makes1 c D fI) (ha : ApC c ⟨n, q⟩ (.ref fI) g) : Ap c ⟨n + 1, q⟩ (.ref D) (gNew D g) := by
  intro A fl X μ s σ ds vs d σ' Q E ca I rs e k
  obtain ⟨⟨r, σ2⟩, e1, e2⟩ := bind_some e
  clear e
  dsimp only at e2
  split at e2
  case h_2 => exact noS e2
  obtain ⟨rfl, rfl⟩ := prJ e2
  obtain ⟨hh, gg, dr, t, os⟩ := s
  replace I : Inv c fl X μ hh σ := I
  replace rs : VRs c X hh μ ds vs := rs
  have hsz : (hh.push emptyDict).objs.size = hh.objs.size + 1 := Heap.size_push _ _
  obtain ⟨S1, I1, r1⟩ := new_cell (cl := .ns [none, none, none, none]) (o := emptyDict) I rfl (fun _ _ z => by cases z) (fun _ z => by cases z) ⟨[], 0, Heap.get?_push_size _ rfl, by decide, fun _ _ => rfl, fun j nm h => by
    have hj := (List.getElem?_eq_some_iff.mp h).1
    have : (([none, none, none, none] : List (Option PV))[j]?).join = none := by
      rcases j with _ | _ | _ | _ | j <;> first | rfl | (exfalso; simp [soNames] at hj)
    rw [this]; rfl⟩
  have hμ : (μ ++ [hh.objs.size])[σ.length]? = some hh.objs.size := by rw [← I.len]; simp
  obtain ⟨S2, I2, r2⟩ := new_cell (cl := .inst D σ.length) (o := instObj D hh.objs.size) I1 rfl (fun _ _ z => by cases z) (fun _ z => by cases z) ⟨hh.objs.size, by rw [List.getElem?_append_left (List.getElem?_eq_some_iff.mp hμ).1]; exact hμ, Heap.get?_push_size _ rfl⟩
  rw [hsz] at S2 I2 r2
  have S12 := S1.trans S2
  have M := S12.mv0 I rfl
  refine wpAny_call (make_core (makes_of I.K m.mak) (looks_findIn I.K m.init) (fun self => bind_fn I.K self (beq_iff_eq.mp m.fn)) (.inl rfl) ?_)
  have hl : (σ ++ [Cell.ns [none, none, none, none]]).length = σ.length + 1 := by simp
  rw [hl] at r2
  refine codeAny_mono (ha _ fl _ _ ⟨(hh.push emptyDict).push (instObj D hh.objs.size), gg, dr, t, os⟩ _ _ (.ref (hh.objs.size + 1) :: vs) .none σ' (fun v s' => v = .none ∧ Q (.ref (hh.objs.size + 1)) s') E ca.make I2 (.cons r2 (rs.mv M)) e1 fun v h3 tk3 X3 μ3 S3 I3 r3 => ?_) fun r s' z => ?_
  · cases r3
    exact ⟨rfl, k _ h3 tk3 X3 μ3 (S12.trans S3) I3 (r2.mv (S3.mv0 I2 rfl))⟩
  · rcases r with e | (v | _ | _ | _) <;> first | exact z | exact z.elim
noncomputable def gNewS (D : Addr) (g : Fn) : Fn := fun ds σ => (g (.ref σ.length :: ds) (σ ++ [.slot D [none, none, none]])).bind fun (r, σ2) => match r with
  | .none => some (.ref σ.length, σ2)
  | _ => none
theorem newS_ap {n : Nat} {q : Bool} {D fI : Addr} {g} (m : Makes1 c D fI) (ha : ApC c ⟨n, q⟩ (.ref fI) g) : Ap c ⟨n + 1, q⟩ (.ref D) (gNewS D g) := by
  intro A fl X μ s σ ds vs d σ' Q E ca I rs e k
  obtain ⟨⟨r, σ2⟩, e1, e2⟩ := bind_some e
  clear e
  dsimp only at e2
  split at e2
  case h_2 => exact noS e2
  obtain ⟨rfl, rfl⟩ := prJ e2
  obtain ⟨hh, gg, dr, t, os⟩ := s
  replace I : Inv c fl X μ hh σ := I
  replace rs : VRs c X hh μ ds vs := rs
  have hsz : (hh.push emptyDict).objs.size = hh.objs.size + 1 := Heap.size_push _ _
  have l1 : Le hh (hh.push emptyDict) := .push _ _
  have I1 := I.le l1
  have hd : ((hh.push emptyDict).push (instObj D hh.objs.size)).get? hh.objs.size = some emptyDict := Heap.get?_push_of_some _ (Heap.get?_push_size _ rfl)
  obtain ⟨S2, I2, r2⟩ := new_cell (cl := .slot D [none, none, none]) (o := instObj D hh.objs.size) I1 rfl (fun _ _ z => by cases z) (fun _ z => by cases z) ⟨#[], hh.objs.size, Heap.get?_push_size _ rfl, hd, fun z => by
    rw [hsz] at z
    rcases List.mem_cons.mp z with z | z
    · exact absurd z (Nat.ne_of_lt (Nat.lt_succ_self _))
    · exact I.fresh z, fun j d h => by
    exfalso
    rcases j with _ | _ | _ | j <;> simp at h⟩
  rw [hsz] at S2 I2 r2
  have S12 := (Step.le (fa := fl.fa) (pr := []) (X := X) (μ := μ) l1).trans S2
  have M := S12.mv0 I rfl
  refine wpAny_call (make_core (makes_of I.K m.mak) (looks_findIn I.K m.init) (fun self => bind_fn I.K self (beq_iff_eq.mp m.fn)) (.inl rfl) ?_)
  refine codeAny_mono (ha _ fl _ _ ⟨(hh.push emptyDict).push (instObj D hh.objs.size), gg, dr, t, os⟩ _ _ (.ref (hh.objs.size + 1) :: vs) .none σ' (fun v s' => v = .none ∧ Q (.ref (hh.objs.size + 1)) s') E ca.make I2 (.cons r2 (rs.mv M)) e1 fun v h3 tk3 X3 μ3 S3 I3 r3 => ?_) fun r s' z => ?_
  · cases r3
    exact ⟨rfl, k _ h3 tk3 X3 μ3 (S12.trans S3) I3 (r2.mv (S3.mv0 I2 rfl))⟩
  · rcases r with e | (v | _ | _ | _) <;> first | exact z | exact z.elim
end
end Mine
end
section
set_option tactic.hygienic false
open PySem PySem.W PyProof.Rows PySem.Calls
open Builtin Builtin.ObjectAttr Builtin.Str
set_option maxRecDepth 100000
namespace Mine
section
variable {c : Cx} {lv : Lv} {C : SC}
noncomputable def cOrV (f g : Co) : Co := fun st => (f st).bind fun (d, σ1) => match d with
  | .bool true => some (.bool true, σ1)
  | .bool false => g ⟨st.ρ, σ1⟩
  | _ => none
set_option tactic.hygienic true in
theorem R_or {x y : Expr} {f g : Co} (pos) (h1 : Ev c lv C x f) (h2 : Ev c lv C y g) : Ev c lv C (.BoolOp .Or [x, y] pos) (cOrV f g) := by
  intro A fl env X μ s st d σ' Q E ca I F e q
  obtain ⟨⟨d1, σ1⟩, e1, ea⟩ := bind_some e
  refine BoolOp_or (h1 A fl env X μ s st d1 σ1 _ _ ca I F e1 fun v1 h' tk X' μ' S1 I1 r1 => ?_)
  cases r1 <;> first | (exact noS ea; done) | skip
  rename_i b
  refine wpAny_truthy_bool ?_
  cases b with
  | true => obtain ⟨rfl, rfl⟩ := prI ea; exact q _ h' tk X' μ' S1 I1 (.bool true)
  | false => exact BoolOp_one (h2 A fl env X' μ' _ ⟨st.ρ, σ1⟩ d σ' _ _ ca I1 (F.ex I S1) ea fun v2 h2' tk2 X2 μ2 S2 I2 r2 => q v2 h2' tk2 X2 μ2 (S1.trans S2) I2 r2)
noncomputable def cIfW (i : Nat) (f : Co) (fb fo : Cs) : Cs := fun st => (f st).bind fun (d, σ1) => (St.put ⟨st.ρ, σ1⟩ i d).bind fun s2 => (isNone d).bind fun b => if b then fb s2 else fo s2
theorem S_ifW {x : Str} {i : Nat} {e : Expr} {body orelse : List Stmt} {f : Co} {fb fo : Cs} (np p1 k p2 p3 pos) (h : Ev c lv C e f) (ks : storeKind C i x = true) (h1 : Xs c lv C (execs body) fb) (h2 : Xs c lv C (execs orelse) fo) :
    Xs c lv C (exec (.If (.Compare (.NamedExpr (.Name x np) e p1) [.Is] [.Constant .none k p2] p3) body orelse pos)) (cIfW i f fb fo) := by
  intro A fl env X μ s st r st' Q E tp ca I F e q
  obtain ⟨⟨d, σ1⟩, e1, ea⟩ := bind_some e
  obtain ⟨s2, e2, eb⟩ := bind_some ea
  obtain ⟨b, e3, ec⟩ := bind_some eb
  obtain ⟨hs1, hn, hk⟩ := storeKind_of ks
  refine wpAny_If (wpAny_isTrue_Compare1 (wpAny_NamedExpr (h A fl env X μ s st d σ1 _ _ ca I F e1 fun v h' tk X' μ' S1 I1 r1 => ?_)) rfl)
  refine wpAny_assign_Name (store_slot (st := ⟨st.ρ, σ1⟩) I1 (F.ex I S1) hn hs1 hk r1 e2 fun h2' tk2 b2 m2 _ S2 I2 F2 => ?_)
  have S12 := S1.wk.trans (S2 _ m2)
  have r2 := r1.mv ((S2 _ m2).mv (privX (F.ex I S1)) I1.sub I1.faX)
  refine R_none k p2 (C := C) A fl env X' μ' _ s2 .none s2.σ _ _ ca I2 F2 rfl fun v3 h3 tk3 X3 μ3 S3 I3 r3 => ?_
  cases r3
  refine is_none ?_
  rw [isNone_val r2 e3]
  refine wpAny_truthy_bool ?_
  have F3 := F2.ex I2 S3
  cases b with
  | true => exact h1 A fl env X3 μ3 _ s2 r st' _ _ tp ca I3 F3 ec fun w h4 tk4 X4 μ4 S4 I4 F4 rr => q w h4 tk4 X4 μ4 ((S12.trans S3.wk).trans S4) I4 F4 rr
  | false => exact h2 A fl env X3 μ3 _ s2 r st' _ _ tp ca I3 F3 ec fun w h4 tk4 X4 μ4 S4 I4 F4 rr => q w h4 tk4 X4 μ4 ((S12.trans S3.wk).trans S4) I4 F4 rr
noncomputable def cFs (a : Str) (f : Co) (b : Str) : Co := fun st => (f st).bind fun (d, σ1) => match d with
  | .str x => if a.length + x.length + b.length ≤ 4096 then some (.str (a ++ x ++ b), σ1) else none
  | _ => none
set_option tactic.hygienic true in
theorem R_fstr {a b : Str} {e : Expr} {f : Co} (k1 p1 p2 k3 p3 pos) (h : Ev c lv C e f) : Ev c lv C (.JoinedStr [.Constant (.str a) k1 p1, .FormattedValue e (-1) none p2, .Constant (.str b) k3 p3] pos) (cFs a f b) := by
  intro A fl env X μ s st d σ' Q E ca I F e q
  obtain ⟨⟨d1, σ1⟩, e1, ea⟩ := bind_some e
  dsimp only at ea
  split at ea
  case h_2 => exact noS ea
  rename_i x
  split at ea
  case isFalse => exact noS ea
  rename_i hz
  obtain ⟨rfl, rfl⟩ := prJ ea
  have big : sizeLine = 16777216 := by decide
  refine JoinedStr_many (joinParts_cons (wpAny_Constant_str ?_))
  refine ⟨by rw [strLen_append, big]; have : (Str.empty).length = 0 := rfl; lia, joinParts_cons (FormattedValue_plain (h A fl env X μ _ st (.str x) σ' _ _ ca I F e1 fun v h' tk X' μ' S1 I1 r1 => ?_))⟩
  cases r1 with | str _ t =>
  have l0 : (Str.empty).length = 0 := rfl
  refine wpAny_formatField_str ?_ ?_ (by rw [big]; lia)
  all_goals
    refine ⟨by rw [strLen_append, strLen_append, big]; lia, joinParts_cons (wpAny_Constant_str ⟨by rw [strLen_append, strLen_append, strLen_append, big]; lia, joinParts_nil ?_ (by rw [strLen_append, strLen_append, strLen_append, big]; lia)⟩)⟩
    rw [PySem.Str.empty_append]
    exact q _ h' _ X' μ' S1 I1 (.str _ _)
theorem meets_bool_list (l : Addr) : Meets (Builtin.«bool.__new__» ⟨[.type "bool", .ref l], []⟩) (fun _ R s => ∃ items, s.heap.IsList l items ∧ (items.size : Int) < 2 ^ 63 ∧ R (.ok (.ret (.bool (!items.isEmpty)))) { s with toks := s.toks + 1 + 1 }) :=
  Meets.of_wp fun prog w A R s hs => by
    obtain ⟨items, hl, hz, hq⟩ := hs
    have f1 := PySem.F.conv_sub_bool
    unfold Builtin.«bool.__new__»
    refine wpAny_bind (wpAny_pure ?_)
    refine wpAny_bind (wpAny_of_eq f1 ?_)
    refine wpAny_bind (wpAny_of_eq (a := [Value.ref l]) rfl ?_)
    exact wpAny_bind (wpAny_truthy_list hl hz (wpAny_pure ⟨_, rfl, hq⟩))
noncomputable def gBool : Fn := m1 fun σ a => (listOf σ a).map fun (_, xs) => (.bool (!xs.isEmpty), σ)
theorem bool_ap : Ap c lv (.type "bool") gBool := .m1 fun A fl X μ s σ v1 d1 d σ' Q E ca I r1 e q => by
  obtain ⟨⟨j, xs⟩, e1, e2⟩ := map_some e
  obtain ⟨rfl, rfl⟩ := prS e2
  obtain ⟨rfl, a, vs, rfl, ha, hc, p, rs, hz⟩ := listOf_is I r1 e1
  refine call_bool_1 (meets_bool_list a) ⟨_, p.isList, by rw [List.size_toArray]; lia, rfl, ?_⟩
  rw [vs_empty rs]
  exact q _ s.heap _ X μ (.le (.refl _)) I (.bool _)
end
end Mine
end
section
set_option tactic.hygienic false
open PySem PySem.W PyProof.Rows PySem.Calls
set_option maxRecDepth 100000
namespace Mine
section
variable {prog : Program} {w : World} {A : Around} {E : Value → Shared → Prop} {s : Shared}
theorem nextOf_tuple_item {it t : Addr} {i : Nat} {items} {x : Value} {Q : Value → Shared → Prop} (hit : s.heap.IsTupleIter it t i) (ht : s.heap.IsTuple t items) (hx : items[i]? = some x)
    (hQ : ∀ h', h'.IsTupleIter it t (i + 1) → Heap.SameBut it s.heap h' → Q x { s with heap := h' }) :
    wpAny (model prog w) A (Builtin.SmallTypes.nextOf (.ref it)) Q E s := by
  obtain ⟨o, ho, hc, hd⟩ := id hit
  obtain ⟨ol, hol, _, nl, hdl⟩ := ht
  unfold Builtin.SmallTypes.nextOf
  refine wpAny_bind (wpAny_callSpecial?_slot (name := Str.ofString "__next__") hit.typeIs PySem.F.slot_tuple_iterator_next
    (wpAny_call_entry PySem.F.slot_tuple_iterator_next hit.typeIs PySem.F.entry_tuple_iterator_next ?_ (PySem.F.args_tuple_iterator_next_1 _)))
  show wpAny _ _ (field (.ref it) 0 >>= _) _ _ s
  refine wpAny_bind (wpAny_field ho hd (x := .ref t) rfl ?_)
  show wpAny _ _ (if (Value.ref t == Value.none) = true then _ else _) _ _ s
  rw [if_neg (show ¬ ((Value.ref t == Value.none) = true) from Bool.false_ne_true)]
  show wpAny _ _ (field (.ref it) 1 >>= _) _ _ s
  refine wpAny_bind (wpAny_field ho hd (x := .int i 0) rfl ?_)
  show wpAny _ _ (seqItems? (.ref t) >>= _) _ _ s
  refine wpAny_bind (wpAny_seqItems hol hdl ?_)
  simp only [Int.toNat_natCast, hx]
  refine wpAny_bind (wpAny_setField ho hd (by simp) (wpAny_pure ⟨x, rfl, wpAny_pure (hQ _ ?_ (Heap.SameBut.update ..))⟩))
  exact ⟨_, Heap.get?_update_self _ ho (Obj.isFreed_of_fields (Obj.data_mapFields hd _)), (Obj.cls_mapFields ..).trans hc, by
    rw [Obj.data_mapFields hd]; simp [rawInt]⟩
theorem nextOf_tuple_end {it t : Addr} {i : Nat} {items} {Q : Value → Shared → Prop} (hh : A.handled = none)
    (hit : s.heap.IsTupleIter it t i) (ht : s.heap.IsTuple t items) (hx : items[i]? = none)
    (hE : ∀ h' e, Heap.ExtBut it s.heap h' → (∃ o, h'.get? e = some o ∧ o.cls = .type "StopIteration") → E (.ref e) { s with heap := h' }) :
    wpAny (model prog w) A (Builtin.SmallTypes.nextOf (.ref it)) Q E s := by
  obtain ⟨o, ho, hc, hd⟩ := id hit
  obtain ⟨ol, hol, _, nl, hdl⟩ := ht
  unfold Builtin.SmallTypes.nextOf
  refine wpAny_bind (wpAny_callSpecial?_slot (name := Str.ofString "__next__") hit.typeIs PySem.F.slot_tuple_iterator_next
    (wpAny_call_entry PySem.F.slot_tuple_iterator_next hit.typeIs PySem.F.entry_tuple_iterator_next ?_ (PySem.F.args_tuple_iterator_next_1 _)))
  show wpAny _ _ (field (.ref it) 0 >>= _) _ _ s
  refine wpAny_bind (wpAny_field ho hd (x := .ref t) rfl ?_)
  show wpAny _ _ (if (Value.ref t == Value.none) = true then _ else _) _ _ s
  rw [if_neg (show ¬ ((Value.ref t == Value.none) = true) from Bool.false_ne_true)]
  show wpAny _ _ (field (.ref it) 1 >>= _) _ _ s
  refine wpAny_bind (wpAny_field ho hd (x := .int i 0) rfl ?_)
  show wpAny _ _ (seqItems? (.ref t) >>= _) _ _ s
  refine wpAny_bind (wpAny_seqItems hol hdl ?_)
  simp only [Int.toNat_natCast, hx]
  refine wpAny_bind (wpAny_rule (wpAny_bind (wpAny_setField ho hd (by simp) ?_)))
  show wpAny _ _ (newExc (.type "StopIteration") [] >>= _) _ _ _
  refine wpAny_bind ?_
  simp only [newExc, newTuple]
  refine wpAny_bind (wpAny_newObj_type ?_ (by size_fits))
  refine wpAny_bind (m := firstArgMember _ _) (wpAny_of_eq (a := Value.none) (by first | rfl | (simp only [firstArgMember]; rfl)) ?_)
  refine wpAny_newObj_type ?_ (by size_fits)
  simp only [raiseNew]
  refine wpAny_bind (wpAny_handled ?_)
  first | rw [show A.in1.handled = none from hh] | rw [hh]
  refine wpAny_bind (wpAny_pure (wpAny_throw ?_))
  exact hE _ _ (((Heap.SameBut.update ..).extBut.push _).push _) ⟨_, Heap.get?_push_size _ rfl, rfl⟩
theorem Draws.tuple (hh : A.handled = none) (it l : Addr) (hne : l ≠ it) (items : Array Value) :
    Draws prog w A it [it, l] items.size (fun i v => items[i]? = some v) (fun i h => h.IsTupleIter it l i ∧ h.IsTuple l items) where
  live := fun _ _ st => let ⟨o, ho, _⟩ := st.1; ⟨o, ho⟩
  frame := fun _ _ _ st hk => ⟨st.1.at fun o e => hk it (by simp) o e, st.2.at fun o e => hk l (by simp) o e⟩
  item := fun i s Q E hi st hQ => by
    refine nextOf_tuple_item st.1 st.2 (x := items[i]) (by simp [hi]) fun h' hit' hs' => ?_
    exact hQ _ h' s.toks (by simp [hi]) ⟨hit', st.2.extBut hs'.extBut hne⟩ hs'
  done := fun s Q E st hE => nextOf_tuple_end hh st.1 st.2 (by simp) hE
set_option tactic.hygienic true in
theorem meets_enumerate_newT (l : Addr) (items : Array Value) (n : Nat) (dct : Option Addr) (sl : Array (Option Value)) :
    Meets (Builtin.«enumerate.__new__» ⟨[.type "enumerate", .ref l], []⟩) (fun _ R s => s.heap.get? l = some { cls := .type "tuple", dict := dct, data := .seq items n, slots := sl } ∧
      R (.ok (.ret (.ref (s.heap.push { cls := .type "tuple_iterator", data := .fields #[.ref l, .int 0 0] }).objs.size)))
        { s with heap := (s.heap.push { cls := .type "tuple_iterator", data := .fields #[.ref l, .int 0 0] }).push { cls := .type "enumerate", data := .fields #[.none, .bool false, .ref s.heap.objs.size, rawInt 0, .none, .none] } }) :=
  .of_wp fun prog w A R s h => by
    obtain ⟨hp, g, d, tk, os⟩ := s; obtain ⟨hl, h⟩ := h
    have hsub := sub_enumerate
    have hL : IsTup (Shared.heap ⟨hp, g, d, tk, os⟩) l items := ⟨_, hl, rfl, n, rfl⟩
    wp_walk using AutoSeq1.wpAny_loadPart' hl
    refine wpAny_stack_any fun st => wpAny_pure ?_
    split
    · rename_i c _ _ _ _ _
      cases (c == Value.type "enumerate")
      · wp_walk using AutoSeq1.wpAny_loadPart' hl, iter_tuple hL
        exact ⟨_, rfl, h⟩
      · wp_walk using AutoSeq1.wpAny_loadPart' hl, iter_tuple hL
        exact ⟨_, rfl, h⟩
    · wp_walk using AutoSeq1.wpAny_loadPart' hl, iter_tuple hL
      exact ⟨_, rfl, h⟩
theorem call_enumerate_tuple {l : Addr} {items : Array Value} {Q : Value → Shared → Prop} (hL : s.heap.IsTuple l items)
    (h : ∀ h', IsEnum h' (s.heap.objs.size + 1) s.heap.objs.size 0 .none → h'.IsTupleIter s.heap.objs.size l 0 → h'.objs.size = s.heap.objs.size + 2 →
      (∀ b o, s.heap.get? b = some o → h'.get? b = some o) → Q (.ref (s.heap.objs.size + 1)) { s with heap := h' }) :
    wpAny (model prog w) A (call (.type "enumerate") [.ref l]) Q E s := by
  obtain ⟨⟨c, dct, dt, sl⟩, hl, hc, n, hd⟩ := hL
  replace hc : c = .type "tuple" := hc
  replace hd : dt = .seq items n := hd
  subst hc hd
  refine callType_new PySem.F.called_enumerate (by decide) (PySem.F.typeCall_enumerate_1 _) (PySem.F.newCall_enumerate_1 _) (fun obj => PySem.F.args_object_init_2 obj _) PySem.F.entry_enumerate_new
    (meets_enumerate_newT l items n dct sl) ⟨hl, ?_⟩
  have hz : (s.heap.push { cls := .type "tuple_iterator", data := .fields #[.ref l, .int 0 0] }).objs.size = s.heap.objs.size + 1 := Heap.size_push ..
  show _ ∧ _
  rw [hz]
  have he : IsEnum ((s.heap.push { cls := .type "tuple_iterator", data := .fields #[.ref l, .int 0 0] }).push
      { cls := .type "enumerate", data := .fields #[.none, .bool false, .ref s.heap.objs.size, rawInt 0, .none, .none] }) (s.heap.objs.size + 1) s.heap.objs.size 0 .none := by
    have := Heap.get?_push_size (s.heap.push { cls := .type "tuple_iterator", data := .fields #[.ref l, .int 0 0] })
      (o := { cls := .type "enumerate", data := .fields #[.none, .bool false, .ref s.heap.objs.size, rawInt 0, .none, .none] }) rfl
    rw [hz] at this; exact this
  refine ⟨⟨_, he, rfl⟩, h _ he ⟨_, Heap.get?_push_of_some _ (Heap.get?_push_size _ rfl), rfl, rfl⟩ (by rw [Heap.size_push, hz]) fun b o x => Heap.get?_push_of_some _ (Heap.get?_push_of_some _ x)⟩
end
end Mine
end
section
set_option tactic.hygienic false
open PySem PySem.W PyProof.Rows PySem.Calls
set_option maxRecDepth 100000
namespace Mine
noncomputable def enumP : Nat → List PV → List PV
  | _, [] => []
  | i, d :: ds => .tup [.int i, d] :: enumP (i + 1) ds
theorem enumP_len : ∀ (i : Nat) (ds : List PV), (enumP i ds).length = ds.length
  | _, [] => rfl
  | i, _ :: ds => by rw [enumP, List.length_cons, List.length_cons, enumP_len]
theorem enumP_get : ∀ (i : Nat) (ds : List PV) (j : Nat) (d : PV), ds[j]? = some d → (enumP i ds)[j]? = some (.tup [.int ((i + j : Nat) : Int), d])
  | _, [], _, _, e => by simp at e
  | i, x :: ds, 0, d, e => by obtain rfl := soJ e; rfl
  | i, x :: ds, j + 1, d, e => by
    have := enumP_get (i + 1) ds j d (by simpa using e)
    rw [enumP, List.getElem?_cons_succ, this]
    congr 4
    lia
noncomputable def cEnum (fi : Co) (asg : Asg) (fb fo : Cs) : Cs := fun st => (fi st).bind fun (d, σ1) => match d with
  | .tup ds => (forGo asg fb (enumP 0 ds) ⟨st.ρ, σ1⟩).bind fun (r3, s3) => match r3 with
    | none => fo s3
    | some r => some (r, s3)
  | _ => none
section
variable {c : Cx} {lv : Lv} {C : SC}
set_option tactic.hygienic true in
theorem S_enum {elts : List Expr} {kt : Nat} {tpos np cpos pos : Pos} {x : Expr} {body orelse : List Stmt} {fi : Co} {asg : Asg} {fb fo : Cs} (hq : lv.q = true) (hg : Gl c C "enumerate" (.type "enumerate")) (h1 : Ev c lv C x fi)
    (hx : ∀ env, starEach [x] env = (false, eval x env) :: starEach [] env) (h3 : As c lv C (.Tuple elts kt tpos) asg) (h4 : Xs c lv C (execs body) fb) (h5 : Xs c lv C (execs orelse) fo)
    (hs : ∀ env v, foldedSetIterable (.Call (.Name "enumerate" np) [x] [] cpos) env v = pure v) : Xs c lv C (exec (.For (.Tuple elts kt tpos) (.Call (.Name "enumerate" np) [x] [] cpos) body orelse pos)) (cEnum fi asg fb fo) := by
  intro A fl env X μ s st r st' Q E tp ca I F e q
  obtain ⟨⟨d, σ1⟩, e1, e2⟩ := bind_some e
  clear e
  dsimp only at e2
  split at e2
  case h_2 => exact noS e2
  rename_i ds
  obtain ⟨⟨r3, s3⟩, e4, e5⟩ := bind_some e2
  have hh : A.handled = none := ca.hd hq
  have hs1 := G_plain (E_cons h1 E_nil hx) hx
  have e6 : lCons fi lNil st = some ([.tup ds], σ1) := by simp [lCons, lNil, e1]
  refine wpAny_For (wpAny_Call_NameR (load_glob F I hg (callWith_any (hs1 A fl env X μ s st [.tup ds] σ1 cpos _ _ _ ca I F e6 fun vs h₁ tk₁ X₁ μ₁ S1 I1 rs => ⟨rfl, fun R q' => wpAny_pure (q' _), ?_⟩)) np)) (hs env)
  cases rs with | cons r1 rs =>
  cases rs
  cases r1 with | @tup _ a vs hl nX rs =>
  refine call_enumerate_tuple hl fun h₂ he hit hsz l => ?_
  refine wpAny_pyIter_enum he ?_
  have fr0 : h₁.get? h₁.objs.size = none := get_size _
  have fr1 : h₁.get? (h₁.objs.size + 1) = none := by
    cases hx1 : h₁.get? (h₁.objs.size + 1) with
    | none => rfl
    | some o => exact absurd (Heap.lt_size hx1) (Nat.not_lt.mpr (Nat.le_succ _))
  obtain ⟨oa, ga, ca1, na, da⟩ := id hl
  have ha1 : a ≠ h₁.objs.size := fun z => by rw [z, fr0] at ga; exact noS ga
  have ha2 : a ≠ h₁.objs.size + 1 := fun z => by rw [z, fr1] at ga; exact noS ga
  have W := KTurns.ofWalksU (elts := elts) (k := kt) (pos := tpos) (WalksT.enumerateD (prog := c.prog) (w := c.w) (A := A) (Draws.tuple (A := A.in1) hh h₁.objs.size a ha1 vs.toArray) (h₁.objs.size + 1) (Nat.succ_ne_self _)
    (by simp only [List.mem_cons, List.not_mem_nil, or_false, not_or]; exact ⟨Nat.succ_ne_self _, fun z => ha2 z.symm⟩) (by simp)).toU
  have hzz : vs.toArray.size = (enumP 0 ds).length := by rw [enumP_len, List.size_toArray, rs.length]
  rw [hzz] at W
  have hwr : ∀ b ∈ [h₁.objs.size + 1, h₁.objs.size], h₁.get? b = none := fun b m => by
    rcases List.mem_cons.mp m with rfl | m
    · exact fr1
    · rw [List.mem_singleton.mp m]; exact fr0
  have hst0 : (∃ old, IsEnum h₂ (h₁.objs.size + 1) h₁.objs.size ((0 : Nat) : Int) old) ∧ h₂.IsTupleIter h₁.objs.size a 0 ∧ h₂.IsTuple a vs.toArray := ⟨⟨_, he⟩, hit, ⟨oa, l _ _ ga, ca1, na, da⟩⟩
  have hsx : ∀ (i : Nat) (h : Heap), ((∃ old, IsEnum h (h₁.objs.size + 1) h₁.objs.size (i : Int) old) ∧ h.IsTupleIter h₁.objs.size a i ∧ h.IsTuple a vs.toArray) → ∀ b ∈ [h₁.objs.size + 1, h₁.objs.size], ∃ o, h.get? b = some o ∧ NT o := fun i h st b m => by
    obtain ⟨⟨old, e1⟩, ⟨o2, g2, c2, d2⟩, _⟩ := st
    rcases List.mem_cons.mp m with rfl | m
    · exact ⟨_, e1, fun _ _ z => by cases z⟩
    · rw [List.mem_singleton.mp m]; exact ⟨o2, g2, fun _ _ z => by rw [d2] at z; cases z⟩
  have F1 : FrS c C env X₁ μ₁ h₁ st.ρ := F.ex I S1
  have hid := I1.hides (pr := priv env) l (ws := [h₁.objs.size + 1, h₁.objs.size]) fun a m => ⟨hwr a m, hsx 0 h₂ hst0 a m⟩
  have F3 : FrS c C env ([h₁.objs.size + 1, h₁.objs.size] ++ X₁) μ₁ h₂ st.ρ := F1.keep (fun a m o e => ⟨o.slots, l a o e⟩) (hid.1.mv (privX F1) I1.sub I1.faX) fun a m => ⟨List.mem_append_right _ (F1.pX a m).1, (F1.pX a m).2⟩
  refine for_loop (lv := lv) (C := C) (asg := asg) (fb := fb) (X₀ := X₁) (μ₀ := μ₁) (h₀ := h₁) (st := ⟨st.ρ, σ1⟩) (r := r3) (stF := s3) tp ca h3 h4 W hwr hsx (fun b m => I1.ex (F1.pX b m).1) (fun b m => I1.ex (I1.faX b m)) (fun b m => I1.ex m) I1.sub ?_ ?_ hid.1
    (fun b m => List.mem_append_left _ m) (fun b m q => by obtain ⟨o, e⟩ := I1.ex (I1.sub b q); rw [hwr b m] at e; exact noS e) hid.2 F3 hst0 e4 fun h₃ tk₃ X₃ μ₃ S3 I3 F3' => ?_
  · intro b m
    rcases List.mem_cons.mp m with rfl | m
    · exact .inl (.head _)
    · rcases List.mem_cons.mp m with rfl | m
      · exact .inl (.tail _ (.head _))
      · rw [List.mem_singleton.mp m]; exact .inr ⟨oa, ga, .inl nX⟩
  · rintro i u h'' X'' μ'' σ'' hi ⟨T, vals, rfl, ⟨t, y, hy, rfl⟩, hT⟩ M I''
    have hy' : vs[i]? = some y := by simpa using hy
    obtain ⟨d, hd, rd⟩ := rs.getv hy'
    refine ⟨.tup [.int (i : Int), d], by have := enumP_get 0 ds i d hd; simpa using this, .tup (vs := [.int i t, y]) hT (fun m => ?_) (.cons (.int _ _) (.one (rd.mv M)))⟩
    obtain ⟨o1, g1, nt⟩ := I''.own _ m
    obtain ⟨o2, g2, c2, n2, d2⟩ := hT
    rw [g1] at g2
    obtain rfl := soJ g2
    exact nt _ _ d2 c2
  · have S03 : Step fl.fa (priv env) X μ s.heap X₃ μ₃ h₃ := S1.wk.trans S3
    cases r3 with
    | none => exact h5 A fl env X₃ μ₃ _ s3 r st' _ _ tp ca I3 F3' e5 fun w h5 tk5 X5 μ5 S5 I5 F5 rr => q w h5 tk5 X5 μ5 (S03.trans S5) I5 F5 rr
    | some r3 =>
      obtain ⟨rfl, rfl⟩ := prI e5
      exact fun w rr => q w h₃ tk₃ X₃ μ₃ S03 I3 F3' rr
end
end Mine
end
section
set_option tactic.hygienic false
open PySem PySem.W PyProof.Rows PySem.Calls
set_option maxRecDepth 100000
namespace Mine
theorem ob_mro : mroOf (.type "object") = pure [.type "object"] := by rw [mroOf_type]; kernel_rfl
theorem ob_lk : typeLookup (.type "object") "__new__" = pure (some (.builtin "object.__new__")) := by rw [typeLookup_type, builtinLookup_eq_fast]; kernel_rfl
theorem ob_slot : Slot "object" "__init__" "object.__init__" :=
  .of (owner := "object") (n := "__init__") (by rw [typeLookup_type, builtinLookup_eq_fast]; kernel_rfl) (by decide +kernel) (by decide +kernel) (by decide +kernel)
    (by first | exact .inl (by decide +kernel) | exact .inr (by decide +kernel)) (by rw [isSubtype_type]; kernel_rfl)
theorem ob_made : Bind.madeBy (.type "object") = pure (some "object.__new__") := madeBy_type ob_mro ob_lk (by decide +kernel)
theorem ob_called : TypeCalled "object" "object.__new__" "object.__init__" :=
  ⟨by decide +kernel, by decide +kernel, ⟨_, _, ob_mro⟩, ob_made, by decide +kernel, by rw [isSubtype_type]; kernel_rfl, ob_slot⟩
theorem ob_type : checkTypeCall "object" ⟨[], []⟩ = pure () := by kernel_rfl
theorem ob_new : checkBuiltinCall "object.__new__" ⟨[.type "object"], []⟩ = pure () := by kernel_rfl
theorem ob_args (a : Value) : argsOk "object.__init__" ⟨[a], []⟩ := by unfold argsOk; kernel_rfl
theorem ob_meets : Meets (Builtin.«object.__new__» ⟨[.type "object"], []⟩) (fun _ R s => R (.ok (.ret (.ref s.heap.objs.size))) { s with heap := s.heap.push { cls := .type "object", data := .plain } }) :=
  .of_wp fun prog w A R s h => by
    obtain ⟨hp, g, d, tk, os⟩ := s
    unfold Builtin.«object.__new__»
    have h1 : isType (.type "object") = pure true := by first | rfl | kernel_rfl
    refine wpAny_bind (wpAny_of_eq h1 ?_)
    simp only [Bool.not_true, Bool.false_eq_true, if_false]
    rw [if_neg (by decide +kernel)]
    refine wpAny_bind (wpAny_of_eq (a := ()) (by kernel_rfl) ?_)
    rw [if_neg (by simp), if_neg (by decide +kernel)]
    refine wpAny_bind (wpAny_pure ?_)
    refine wpAny_bind (wpAny_newObj_type ?_)
    rw [if_neg (by decide +kernel)]
    exact wpAny_pure ⟨_, rfl, h⟩
section
variable {c : Cx} {lv : Lv} {C : SC}
noncomputable def gObj : Fn := m0 fun σ => some (.ref σ.length, σ ++ [.obj])
theorem obj_ap : Ap c lv (.type "object") gObj := .m0 fun A fl X μ s σ d σ' Q E ca I e q => by
  cases e
  obtain ⟨S2, I2, r2⟩ := new_cell (cl := .obj) (o := { cls := .type "object", data := .plain }) I rfl (fun _ _ z => by cases z) (fun _ z => by cases z) ⟨_, Heap.get?_push_size _ rfl, rfl⟩
  refine callType_meets ob_called ob_type ob_new PySem.F.entry_object_new PySem.F.entry_object_init ob_meets (Q₁ := fun v s' => v = .ref s.heap.objs.size ∧ s' = { s with heap := s.heap.push { cls := .type "object", data := .plain } }) ⟨rfl, rfl⟩ fun obj s₁ z => ?_
  obtain ⟨rfl, rfl⟩ := z
  refine ⟨⟨_, Heap.get?_push_size _ rfl, rfl⟩, ob_args _, (fun _ R s => R (.ok (.ret .none)) s), ?_, rfl, q _ _ s.toks _ _ S2 I2 r2⟩
  exact Meets.of_wp fun prog w A R s hs => by
    rw [oi_run]
    exact wpAny_pure ⟨_, rfl, hs⟩
end
end Mine
end
section
set_option tactic.hygienic false
open PySem PySem.W PyProof.Rows PySem.Calls
set_option maxRecDepth 100000
namespace Mine
noncomputable abbrev TDict (c : Cx) (kx vx : Expr) (A : Around) (env : Env) (D : Addr) (E : Value → Shared → Prop) (Q : Shared → Prop) (s : Shared) : Prop :=
  wpAny c.M A (eval kx env) (fun kv s₄ => wpAny c.M A (eval vx env) (fun vv s₅ => wpAny c.M A (dictSet D kv vv) (fun _ s₆ => Q s₆) E s₅) E s₄) E s
noncomputable def emDict (fk fv : Co) : Emit := fun acc st => match acc with
  | .dint es => (fk st).bind fun (k, σ1) => (fv ⟨st.ρ, σ1⟩).bind fun (v, σ2) => match k with
    | .int k => if es.length ≤ 4096 then some (.dint (dput es k v), σ2) else none
    | _ => none
  | _ => none
theorem DictOf.at {P : Program} {w : World} {K : Type} [DecidableEq K] {knd : KeyKind P w K} {h h' : Heap} {a : Addr} {kvs} (x : h.DictOf knd a kvs) (k : ∀ o, h.get? a = some o → h'.get? a = some o) : h'.DictOf knd a kvs :=
  let ⟨o, y, z, q, r⟩ := x; ⟨o, y, z, k _ q, r⟩
set_option tactic.hygienic true in
theorem Em_dict {c : Cx} {lv : Lv} {C : SC} {kx vx : Expr} {fk fv : Co} (h1 : Ev c lv C kx fk) (h2 : Ev c lv C vx fv) : Em c lv C (TDict c kx vx) (emDict fk fv) := by
  intro A fl env X μ s st D acc acc' σ' Q E ca I F cr hX hm hp hf e q
  cases acc <;> first | (exact noS e; done) | skip
  rename_i es
  obtain ⟨⟨k, σ1⟩, e1, ea⟩ := bind_some e
  obtain ⟨⟨v, σ2⟩, e2, eb⟩ := bind_some ea
  dsimp only at eb
  split at eb
  case h_2 => exact noS eb
  rename_i k
  split at eb
  case isFalse => exact noS eb
  rename_i hz
  obtain ⟨rfl, rfl⟩ := prJ eb
  refine h1 A fl env X μ s st (.int k) σ1 _ _ ca I F e1 fun v1 h' tk X' μ' S1 I1 r1 => ?_
  refine h2 A fl env X' μ' _ ⟨st.ρ, σ1⟩ v σ' _ _ ca I1 (F.ex I S1) e2 fun v2 h'' tk' X'' μ'' S2 I2 r2 => ?_
  have S12 := S1.trans S2
  cases r1 with | int _ t =>
  obtain ⟨vs, hd, rs⟩ := cr
  have hd1 : h''.DictOf c.si D ((es.map (·.1)).zip vs) := DictOf.at hd fun o e => S12.kp D o e (fun z => nomatch z) hm hf
  have hm1 : D ∉ μ'' := fun z => (S12.newμ D z).elim hm fun z => by obtain ⟨o, _, _, g, _⟩ := hd; rw [z] at g; exact noS g
  obtain ⟨vs', e3, rs'⟩ := put_ok (key := fun x : Int => x) (k := k) r2 (rs.mv (S12.mv0 I rfl)) fun e m z => z
  refine wpAny_dictSet_pairs (knd := c.si) (k := k) (by simp [PySem.intKind, Value.isInt]) hd1 (fun h3 hd3 sb => ?_) (by rw [List.length_zip]; refine Nat.le_trans (Nat.min_le_left _ _) ?_; rw [List.length_map]; exact Nat.le_trans hz (by decide))
  rw [e3] at hd3
  obtain ⟨o3, es3, ep3, g3, ex3, d3, rest3⟩ := id hd3
  have S3 : Step fl.fa [D] X'' μ'' h'' X'' μ'' h3 := .same sb (.inl (.head _)) fun o _ => ⟨_, g3, fun _ vs z => by rw [d3] at z; cases z⟩
  have hX' := S12.subX D hX
  have I3 : Inv c fl X'' μ'' h3 σ' := I2.same S3 (fun b m => by rw [List.mem_singleton.mp m]; exact hX') sb hm1 ⟨_, g3, fun _ _ z => by rw [d3] at z; cases z⟩
  exact q h3 _ X'' μ'' (S12.wk.trans S3) I3 ⟨vs', hd3, rs'.mv (S3.mvD I2 hX')⟩
section
variable {c : Cx} {lv : Lv} {C : SC}
noncomputable def cDComp (itm : List Cell → PV → Option (List PV)) (fi : Co) (ft : Ct) (fk fv : Co) : Co := fun st => (compRun itm fi ft (emDict fk fv) (.dint []) st).bind fun (acc, σ') => if acc.isLock then none else some (.ref σ'.length, σ' ++ [acc])
theorem R_dcomp {kx vx iter : Expr} {x : Str} {ifs : List Expr} {scope : Scope} {itm} {fi : Co} {ft : Ct} {fk fv : Co} (px pos) (hq : lv.q = true) (h1 : Ev c lv C iter fi) (h2 : ItW c lv itm) (h3 : Tm c lv (compC C scope.names x) ifs ft) (h4 : Ev c lv (compC C scope.names x) kx fk) (h5 : Ev c lv (compC C scope.names x) vx fv)
    (hs : ∀ env x, foldedSetIterable iter env x = pure x) (hk : scope.kind = .function) (ok : compOk C scope.names x = true) (hsk : storeKind (compC C scope.names x) C.slots.length x = true) :
    Ev c lv C (.DictComp kx vx [⟨.Name x px, iter, ifs, 0⟩] scope pos) (cDComp itm fi ft fk fv) := by
  intro A fl env X μ s st d σ' Q E ca I F e q
  obtain ⟨⟨acc, σ1⟩, e1, e2⟩ := bind_some e
  clear e
  dsimp only at e2
  split at e2
  · exact noS e2
  rename_i hlk
  obtain ⟨rfl, rfl⟩ := prI e2
  rw [arm_eval_DictComp]
  refine comp_core (acc0 := .dint []) (o0 := { cls := .type "dict", data := .dict #[] }) (T := fun A env D E Q s => TDict c kx vx A env D E Q s) (e := .DictComp kx vx [⟨.Name x px, iter, ifs, 0⟩] scope pos) hq rfl (fun s Q E q => ?_) rfl (fun _ _ z => by cases z) (fun X h μ D g => ⟨[], ⟨_, #[], 0, g, ⟨rfl, rfl, rfl⟩, rfl, (fun _ he => by simp at he), Pairs.nil, List.nodup_nil⟩, .nil⟩)
    (fun R s it D env a b => codeAny_compStart_dict a b) (fun R s it D env I turn n h => codeAny_compLoop_testsD I turn n h) h1 h2 h3 (Em_dict h4 h5) hs hk ok hsk ca I F e1 fun D C0 h' tk X' μ' en => ?_
  · exact wpAny_newObj_type q
  obtain ⟨m, hm⟩ := en.ns
  refine ⟨m, hm, fun h'' sb => ?_⟩
  obtain ⟨X'', S2, I2, r2⟩ := en.cell sb (fun cl' z => by subst z; simp [Cell.isLock] at hlk) I F
  exact q _ h'' tk X'' _ S2 I2 r2
noncomputable abbrev Cd := St → Option (List (Int × PV) × List Cell)
noncomputable def EvD (c : Cx) (lv : Lv) (C : SC) (keys : List (Option Expr)) (vals : List Expr) (pos : Pos) (f : Cd) : Prop :=
  ∀ A fl env X μ (s : Shared) st es σ' (Q : List (Value × Value) → Shared → Prop) (E : Value → Shared → Prop), Calm lv A fl → Inv c fl X μ s.heap st.σ → FrS c C env X μ s.heap st.ρ → f st = some (es, σ') →
    (∀ prs kvs h' tk X' μ', Step fl.fa [] X μ s.heap X' μ' h' → Inv c fl X' μ' h' σ' → Carries c.si prs (es.map (·.1) |>.zip kvs) → VRs c X' h' μ' (es.map (·.2)) kvs → Q prs { s with heap := h', toks := tk }) →
    wpAny c.M A (evalPairs (pairTrees keys vals env pos)) Q E s
noncomputable def dNil : Cd := fun st => some ([], st.σ)
noncomputable def dCons (k : Int) (f : Co) (g : Cd) : Cd := fun st => (f st).bind fun (d, σ1) => (g ⟨st.ρ, σ1⟩).map fun (es, σ2) => ((k, d) :: es, σ2)
theorem D_nil (pos) : EvD c lv C [] [] pos dNil := by
  intro A fl env X μ s st es σ' Q E ca I F e q
  obtain ⟨rfl, rfl⟩ := prI e
  exact pairTrees_nil_walk (q [] [] s.heap s.toks X μ (.le (.refl _)) I trivial .nil)
theorem D_cons {k : Int} {ks : List (Option Expr)} {v : Expr} {vs : List Expr} {f : Co} {g : Cd} (kk p pos) (h1 : Ev c lv C v f) (h2 : EvD c lv C ks vs pos g) : EvD c lv C (some (.Constant (.int k) kk p) :: ks) (v :: vs) pos (dCons k f g) := by
  intro A fl env X μ s st es σ' Q E ca I F e q
  obtain ⟨⟨d, σ1⟩, e1, ea⟩ := bind_some e
  obtain ⟨⟨es', σ2⟩, e2, eb⟩ := map_some ea
  obtain ⟨rfl, rfl⟩ := prS eb
  refine pairTrees_cons_walk (R_int k kk p (C := C) A fl env X μ s st (.int k) st.σ _ _ ca I F rfl fun v0 h0 tk0 X0 μ0 S0 I0 r0 => ?_)
  refine h1 A fl env X0 μ0 _ st d σ1 _ _ ca I0 (F.ex I S0) e1 fun v1 h' tk X' μ' S1 I1 r1 => ?_
  refine h2 A fl env X' μ' _ ⟨st.ρ, σ1⟩ es' σ' _ _ ca I1 ((F.ex I S0).ex I0 S1) e2 fun prs kvs h'' tk' X'' μ'' S2 I2 hc rs => ?_
  cases r0 with | int _ t =>
  exact q _ (v1 :: kvs) h'' tk' X'' μ'' ((S0.trans S1).trans S2) I2 ⟨by simp [PySem.intKind, Value.isInt], rfl, hc⟩ (.cons (r1.mv (S2.mv0 I1 rfl)) rs)
theorem merged_id {K : Type} [DecidableEq K] : ∀ (more kvs : List (K × Value)), ((kvs ++ more).map (·.1)).Nodup → merged kvs more = kvs ++ more
  | [], kvs, _ => by simp [merged]
  | x :: r, kvs, h => by
    have hx : stored kvs x.1 x.2 = kvs ++ [x] := by
      unfold stored
      rw [if_neg]
      intro z
      obtain ⟨y, m, e⟩ := List.any_eq_true.mp z
      rw [List.map_append, List.nodup_append] at h
      exact h.2.2 y.1 (List.mem_map_of_mem m) x.1 (by simp) (by simpa using e)
    have := merged_id r (kvs ++ [x]) (by simpa using h)
    unfold merged at this ⊢
    rw [List.foldl_cons, hx, this, List.append_assoc]
    rfl
noncomputable def cDict (f : Cd) : Co := fun st => (f st).bind fun (es, σ1) => if (es.map (·.1)).Nodup then some (.ref σ1.length, σ1 ++ [.dint es]) else none
theorem R_dict {keys : List (Option Expr)} {vals : List Expr} {f : Cd} (pos) (hall : keys.all (·.isSome) = true) (hl : keys.length = vals.length) (h0 : keys ≠ []) (hlen : keys.length ≤ 15) (h : EvD c lv C keys vals pos f) : Ev c lv C (.Dict keys vals pos) (cDict f) := by
  intro A fl env X μ s st d σ' Q E ca I F e q
  obtain ⟨⟨es, σ1⟩, e1, e2⟩ := bind_some e
  clear e
  dsimp only at e2
  split at e2
  case isFalse => exact noS e2
  rename_i hnd
  obtain ⟨rfl, rfl⟩ := prI e2
  have l := Le.push s.heap { cls := .type "dict", data := .dict #[] }
  have hD : (s.heap.push { cls := .type "dict", data := .dict #[] }).get? s.heap.objs.size = some { cls := .type "dict", data := .dict #[] } := Heap.get?_push_size _ rfl
  have hsys := I.sz
  have hid := I.hides (pr := []) l (ws := [s.heap.objs.size]) fun a m => by
    rw [List.mem_singleton.mp m]; exact ⟨get_size _, _, hD, fun _ _ z => by cases z⟩
  have F1 : FrS c C env ([s.heap.objs.size] ++ X) μ (s.heap.push { cls := .type "dict", data := .dict #[] }) st.ρ := F.keep (fun a m o e => ⟨o.slots, l a o e⟩) (hid.1.mv (fun _ m => nomatch m) I.sub I.faX) fun a m => ⟨List.mem_append_right _ (F.pX a m).1, (F.pX a m).2⟩
  refine wpAny_Dict_walk (knd := c.si) hall hl h0 hlen (h A fl env ([s.heap.objs.size] ++ X) μ _ st es σ1 _ _ ca hid.2 F1 e1 fun prs kvs h' tk X' μ' S1 I1 hc rs => ?_)
  have nX : s.heap.objs.size ∉ X := I.fresh
  have DX : s.heap.objs.size ∈ X' := S1.subX _ (List.mem_append_left _ (.head _))
  have nμ : s.heap.objs.size ∉ μ := fun z => nX (I.sub _ z)
  have nf : s.heap.objs.size ∉ fl.fa := fun z => nX (I.faX _ z)
  have Dμ : s.heap.objs.size ∉ μ' := fun z => (S1.newμ _ z).elim nμ fun z => by rw [hD] at z; exact noN z
  have g' := S1.kp _ _ hD (fun z => nomatch z) nμ nf
  refine ⟨_, hc, ⟨_, #[], 0, g', ⟨rfl, rfl, rfl⟩, rfl, (fun _ he => by simp at he), Pairs.nil, List.nodup_nil⟩, fun h3 hd3 sb => ?_⟩
  have hlen2 : (es.map (·.1)).length = kvs.length := by have := rs.length; simpa using this
  rw [merged_id _ [] (by rw [List.nil_append, List.map_fst_zip (Nat.le_of_eq hlen2)]; exact hnd), List.nil_append] at hd3
  obtain ⟨o3, es3, ep3, g3, ex3, d3, rest3⟩ := id hd3
  have S3 : Step fl.fa [s.heap.objs.size] X' μ' h' X' μ' h3 := .same sb (.inl (.head _)) fun o _ => ⟨_, g3, fun _ vs z => by rw [d3] at z; cases z⟩
  have I3 : Inv c fl X' μ' h3 σ1 := I1.same S3 (fun b m => by rw [List.mem_singleton.mp m]; exact DX) sb Dμ ⟨_, g3, fun _ _ z => by rw [d3] at z; cases z⟩
  have I4 := I3.adopt (cl := .dint es) DX Dμ nf (fun _ z => nomatch z) hsys ⟨kvs, hd3, rs.mv (S3.mvD I1 DX)⟩
  have S13 := (hid.1.trans S1).behind S3 (get_size _)
  have S4 : Step fl.fa [] X μ s.heap X' (μ' ++ [s.heap.objs.size]) h3 := ⟨S13.kp, S13.kf, S13.nf, S13.subX, S13.newX, S13.pre.trans (List.prefix_append _ _), fun b m => (List.mem_append.mp m).elim (S13.newμ b) fun z => .inr (by rw [List.mem_singleton.mp z]; exact get_size _)⟩
  exact q _ h3 _ X' _ S4 I4 (.ref (by rw [← I1.len]; simp))
end
end Mine
end
section
set_option tactic.hygienic false
open PySem PySem.W PyProof.Rows PySem.Calls
set_option maxRecDepth 100000
namespace Mine
section
variable {prog : Program} {w : World} {A : Around} {E : Value → Shared → Prop} {s : Shared}
theorem next_item {it l : Addr} {i : Nat} {items : Array Value} {x : Value} {Q : Value → Shared → Prop} (ho : s.heap.get? it = some { cls := .type "list_iterator", data := .fields #[.ref l, .int i 0] }) (hl : s.heap.IsList l items) (hx : items[i]? = some x)
    (hQ : ∀ h', h'.get? it = some { cls := .type "list_iterator", data := .fields #[.ref l, .int (i + 1 : Nat) 0] } → Heap.SameBut it s.heap h' → Q x { s with heap := h' }) :
    wpAny (model prog w) A (Builtin.«list_iterator.__next__» ⟨[.ref it], []⟩) (fun fin s' => ∃ r, fin = .done (.ret r) ∧ Q r s') E s := by
  obtain ⟨ol, hol, _, nl, hdl⟩ := hl
  show wpAny _ _ (field (.ref it) 0 >>= _) _ _ s
  refine wpAny_bind (wpAny_field ho rfl (x := .ref l) rfl ?_)
  show wpAny _ _ (if (Value.ref l == Value.none) = true then _ else _) _ _ s
  rw [if_neg (show ¬ ((Value.ref l == Value.none) = true) from Bool.false_ne_true)]
  show wpAny _ _ (field (.ref it) 1 >>= _) _ _ s
  refine wpAny_bind (wpAny_field ho rfl (x := .int i 0) rfl ?_)
  show wpAny _ _ (seqItems? (.ref l) >>= _) _ _ s
  refine wpAny_bind (wpAny_seqItems hol hdl ?_)
  simp only [Int.toNat_natCast, hx]
  refine wpAny_bind (wpAny_setField ho rfl (by simp) (wpAny_pure ⟨x, rfl, hQ _ ?_ (Heap.SameBut.update ..)⟩))
  have := Heap.get?_update_self (Obj.mapFields (·.setIfInBounds 1 (rawInt ((i : Int) + 1)))) ho (by rfl)
  exact this
theorem next_end {it l : Addr} {i : Nat} {items : Array Value} {Q : Value → Shared → Prop} (hh : A.handled = none) (ho : s.heap.get? it = some { cls := .type "list_iterator", data := .fields #[.ref l, .int i 0] }) (hl : s.heap.IsList l items) (hx : items[i]? = none)
    (hE : ∀ h' e oe vs, Heap.ExtBut it s.heap h' → (∃ o, h'.get? it = some o ∧ NT o ∧ ∃ us, o.data = .fields us) → s.heap.get? e = none → h'.get? e = some oe → oe.cls = .type "StopIteration" → oe.data = .fields vs → vs[1]? = some .none → E (.ref e) { s with heap := h' }) :
    wpAny (model prog w) A (Builtin.«list_iterator.__next__» ⟨[.ref it], []⟩) (fun fin s' => ∃ r, fin = .done (.ret r) ∧ Q r s') E s := by
  obtain ⟨ol, hol, _, nl, hdl⟩ := hl
  show wpAny _ _ (field (.ref it) 0 >>= _) _ _ s
  refine wpAny_bind (wpAny_field ho rfl (x := .ref l) rfl ?_)
  show wpAny _ _ (if (Value.ref l == Value.none) = true then _ else _) _ _ s
  rw [if_neg (show ¬ ((Value.ref l == Value.none) = true) from Bool.false_ne_true)]
  show wpAny _ _ (field (.ref it) 1 >>= _) _ _ s
  refine wpAny_bind (wpAny_field ho rfl (x := .int i 0) rfl ?_)
  show wpAny _ _ (seqItems? (.ref l) >>= _) _ _ s
  refine wpAny_bind (wpAny_seqItems hol hdl ?_)
  simp only [Int.toNat_natCast, hx]
  refine wpAny_bind (wpAny_rule (wpAny_bind (wpAny_setField ho rfl (by simp) ?_)))
  show wpAny _ _ (newExc (.type "StopIteration") [] >>= _) _ _ _
  refine wpAny_bind ?_
  simp only [newExc, newTuple]
  refine wpAny_bind (wpAny_newObj_type ?_ (by size_fits))
  refine wpAny_bind (m := firstArgMember _ _) (wpAny_of_eq (a := Value.none) (by first | rfl | (simp only [firstArgMember]; rfl)) ?_)
  refine wpAny_newObj_type ?_ (by size_fits)
  simp only [raiseNew]
  refine wpAny_bind (wpAny_handled ?_)
  first | rw [show A.in1.handled = none from hh] | rw [hh]
  refine wpAny_bind (wpAny_pure (wpAny_throw ?_))
  have hit := Heap.get?_update_self (Obj.mapFields (·.setIfInBounds 0 .none)) ho (by rfl)
  refine hE _ _ _ _ (((Heap.SameBut.update ..).extBut.push _).push _) ⟨_, Heap.get?_push_of_some _ (Heap.get?_push_of_some _ hit), (fun _ _ z => by cases z), _, rfl⟩ ?_ (Heap.get?_push_size _ rfl) rfl rfl (by rw [Array.getElem?_append_left (by show 1 < 6; decide)]; rfl)
  cases hz : s.heap.get? ((s.heap.update it (Obj.mapFields (·.setIfInBounds 0 Value.none))).push { cls := .type "tuple", data := .seq ([] : List Value).toArray }).objs.size with
  | none => rfl
  | some o =>
    have := Heap.lt_size hz
    rw [Heap.size_push, Heap.size_update] at this
    exact absurd this (Nat.not_lt.mpr (Nat.le_succ _))
theorem note_first {M : Model} {base : Heap} {env : Env} {outer : List Env} {L e : Addr} {oe : Obj} {vs : Array Value} {Q : Unit → Shared → Prop}
    (hfr : A.frames = some (env :: outer)) (hl : s.heap.FunFrames base (env :: outer)) (hf : env.frame = some L)
    (he : s.heap.get? e = some oe) (hd : oe.data = .fields vs) (h1 : vs[1]? = some .none)
    (h : ∀ h' T oe', (∀ b o, s.heap.get? b = some o → b ≠ e → b ∉ (env :: outer).filterMap (·.frame) → h'.get? b = some o) → (∀ b o, s.heap.get? b = some o → b ≠ e → ∃ sl, h'.get? b = some { o with slots := sl }) →
      h'.get? e = some oe' → oe'.cls = oe.cls → (∃ vs', oe'.data = .fields vs' ∧ vs'[1]? = some (.ref T)) → s.heap.get? T = none → T ≠ e → (∃ oT ts, h'.get? T = some oT ∧ oT.data = .fields ts ∧ 3 < ts.size) → Q () { s with heap := h' }) :
    wpAny M A (noteFrame (.ref e) env) (fun _ s' => wpAny M A (setFlight (.ref e) none) Q E s') E s := by
  have hsz : 1 < vs.size := (Array.getElem?_eq_some_iff.mp h1).1
  have hene : e ∉ (env :: outer).filterMap (·.frame) := fun hm => by
    obtain ⟨_, o, ho, hnf⟩ := hl.mem hm
    rw [he] at ho; injection ho with ho; subst ho; exact hnf vs hd
  unfold noteFrame
  simp only [hf]
  refine wpAny_bind (wpAny_field he hd h1 ?_)
  rw [if_neg (by decide)]
  refine wpAny_bind (wpAny_frameOf_fun hfr hl hf fun h₁ hs₁ => ?_)
  refine wpAny_bind (wpAny_entryPlaceOf fun pl hpl => ?_)
  unfold EntryCells.newEntry newFields
  refine wpAny_bind (wpAny_newObj_type ?_ (hpl.sizeOk5 _ _ _ _ _))
  have he₁ : h₁.get? e = some oe := (hs₁.2.1 e hene).trans he
  have he₂ := Heap.get?_push_of_some (h := h₁) { cls := .type "traceback", dict := none, data := .fields ([Value.none, .ref L, .none, rawInt L, .none] ++ (if pl.isEmpty then List.replicate 6 Value.none else pl)).toArray } he₁
  refine wpAny_setField he₂ hd hsz ?_
  have hTe : h₁.objs.size ≠ e := Nat.ne_of_gt (Heap.lt_size he₁)
  have hd₃ := Obj.data_mapFields hd (·.setIfInBounds 1 (Value.ref h₁.objs.size))
  have he₃ := Heap.get?_update_self (Obj.mapFields (·.setIfInBounds 1 (Value.ref h₁.objs.size))) he₂ (Obj.isFreed_of_fields hd₃)
  have hT₃ := (Heap.get?_update_other (h₁.push { cls := .type "traceback", dict := none, data := .fields ([Value.none, .ref L, .none, rawInt L, .none] ++ (if pl.isEmpty then List.replicate 6 Value.none else pl)).toArray })
    (Obj.mapFields (·.setIfInBounds 1 (Value.ref h₁.objs.size))) (Ne.symm hTe)).trans (Heap.get?_push_size h₁ rfl)
  unfold setFlight
  refine wpAny_bind (wpAny_field he₃ hd₃ (x := .ref h₁.objs.size) (by simp [hsz]) ?_)
  rw [if_pos (show (Value.ref h₁.objs.size != Value.none) = true from by simp)]
  have hTnew : s.heap.get? h₁.objs.size = none := by
    rw [hs₁.1]; exact get_size _
  refine wpAny_setField hT₃ rfl (by simp only [List.size_toArray, List.length_append, List.length_cons, List.length_nil] <;> lia) (h _ h₁.objs.size (Obj.mapFields (·.setIfInBounds 1 (Value.ref h₁.objs.size)) oe) (fun b o hb hbe hbf => ?_) (fun b o hb hbe => ?_) ?_ (Obj.cls_mapFields _ _) ⟨_, hd₃, by simp [hsz]⟩ hTnew hTe ⟨_, _, Heap.get?_update_self _ hT₃ (Obj.isFreed_of_fields (Obj.data_mapFields rfl _)), Obj.data_mapFields rfl _, by simp only [Array.size_setIfInBounds, List.size_toArray, List.length_append, List.length_cons, List.length_nil] <;> lia⟩)
  · have hb1 : h₁.get? b = some o := (hs₁.2.1 b hbf).trans hb
    have hbT : h₁.objs.size ≠ b := Nat.ne_of_gt (Heap.lt_size hb1)
    rw [Heap.get?_update_other _ _ hbT, Heap.get?_update_other _ _ (Ne.symm hbe)]
    exact Heap.get?_push_of_some _ hb1
  · obtain ⟨sl, hb1⟩ := hs₁.2.2 b o hb
    have hbT : h₁.objs.size ≠ b := Nat.ne_of_gt (Heap.lt_size hb1)
    refine ⟨sl, ?_⟩
    rw [Heap.get?_update_other _ _ hbT, Heap.get?_update_other _ _ (Ne.symm hbe)]
    exact Heap.get?_push_of_some _ hb1
  · rw [Heap.get?_update_other _ _ hTe]; exact he₃
theorem flight_again {M : Model} {e T : Addr} {oe : Obj} {vs : Array Value} {oT : Obj} {ts : Array Value} {Q : Unit → Shared → Prop} (he : s.heap.get? e = some oe) (hd : oe.data = .fields vs) (h1 : vs[1]? = some (.ref T)) (hT : s.heap.get? T = some oT) (hdT : oT.data = .fields ts) (h3 : 3 < ts.size)
    (h : ∀ h', Heap.SameBut T s.heap h' → Q () { s with heap := h' }) : wpAny M A (setFlight (.ref e) none) Q E s := by
  unfold setFlight
  refine wpAny_bind (wpAny_field he hd h1 ?_)
  rw [if_pos (show (Value.ref T != Value.none) = true from by simp)]
  exact wpAny_setField hT hdT h3 (h _ (Heap.SameBut.update ..))
end
section
variable {c : Cx} {lv : Lv} {C : SC}
theorem upd_iter {fl X μ h h' σ} {j : Nat} {a : Addr} {o o' : Obj} {us us' : Array Value} {cl0 cl : Cell} (I : Inv c fl X μ h σ) (ha : μ[j]? = some a) (hc : σ[j]? = some cl0) (nl : ∀ cl', cl0 ≠ .lock cl') (ncl : ∀ cl', cl ≠ .lock cl') (s : Heap.SameBut a h h') (g : h.get? a = some o) (d : o.data = .fields us) (g' : h'.get? a = some o') (d' : o'.data = .fields us')
    (r : Mv X h μ X h' μ → CR c X h' μ a cl) : Step fl.fa [] X μ h X μ h' ∧ Inv c fl X μ h' (σ.set j cl) := by
  have S : Step fl.fa [] X μ h X μ h' := .same s (.inr (List.mem_of_getElem? ha)) fun o1 e1 => ⟨o', g', fun z => by rw [g] at e1; obtain rfl := soJ e1; exact absurd d (z _)⟩
  exact ⟨S, I.upd S (fun _ m => nomatch m) s ha (fun cl' z => nl cl' (Option.some.inj (hc.symm.trans z))) ncl ⟨o', g', fun _ _ z => by rw [d'] at z; cases z⟩ (r (S.mv0 I rfl))⟩
theorem Inv.dies {fl X μ h h' σ} {j : Nat} {a : Addr} {cl0 : Cell} (I : Inv c fl X μ h σ) (S : Step fl.fa [] X μ h X μ h') (ha : μ[j]? = some a) (hc : σ[j]? = some cl0) (nl : ∀ cl', cl0 ≠ .lock cl')
    (kp : ∀ b o, h.get? b = some o → b ≠ a → b ∉ fl.fa → h'.get? b = some o) (ks : ∀ b o, h.get? b = some o → b ≠ a → ∃ sl, h'.get? b = some { o with slots := sl }) (ex : ∃ o, h'.get? a = some o ∧ NT o) : Inv c fl X μ h' (σ.set j .dead) :=
  I.step S (fun _ m => nomatch m) (fun b m => by
    by_cases z : b = a
    · exact z ▸ ex
    · obtain ⟨o, e, nt⟩ := I.own b m
      obtain ⟨sl, e'⟩ := ks b o e z
      exact ⟨_, e', nt⟩) (by rw [List.length_set]; exact I.len) I.nod I.sub I.nsy
    (fun i b cl' e q => by
      by_cases ij : j = i
      · subst ij
        rw [List.getElem?_set_self'] at q
        cases hq : σ[j]? with
        | none => rw [hq] at q; exact noS q
        | some z => rw [hq] at q; obtain rfl := soJ q; exact trivial
      · rw [List.getElem?_set_ne ij] at q
        exact (I.cel i b cl' e q).mv (S.mv (fun _ m => nomatch m) I.sub I.faX) fun o g => kp b o g (Ne.symm (idx_ne I.nod ha e ij)) fun z => I.faμ b z (List.mem_of_getElem? e))
    (fun p m => by
      obtain ⟨e, i, cl', e1, e2⟩ := I.lk p m
      have ij : j ≠ i := fun z => nl cl' (Option.some.inj (hc.symm.trans (z ▸ e2)))
      exact ⟨kp _ _ e (Ne.symm (idx_ne I.nod ha e1 ij)) fun z => I.faμ _ z (List.mem_of_getElem? e1), i, cl', e1, by rw [List.getElem?_set_ne ij]; exact e2⟩)
    (fun i cl' b e1 e2 => by
      by_cases ij : j = i
      · subst ij
        rw [List.getElem?_set_self'] at e1
        cases hq : σ[j]? with
        | none => rw [hq] at e1; exact noS e1
        | some z => rw [hq] at e1; cases e1
      · rw [List.getElem?_set_ne ij] at e1; exact I.lkc i cl' b e1 e2)
noncomputable def cTry (i : Nat) (fc : Co) (fh : Cs) : Cs := fun st => (fc st).bind fun (d, σ1) => match d with
  | .meth id r => if id = "list_iterator.__next__" then (iterOf σ1 r).bind fun (j, l, k) => match σ1[l]? with
      | some (.list xs) => match xs[k]? with
        | some y => (St.put ⟨st.ρ, σ1.set j (.iter l (k + 1))⟩ i y).map fun s2 => (.brk, s2)
        | none => fh ⟨st.ρ, σ1.set j .dead⟩
      | _ => none
    else none
  | _ => none
theorem sub_stop_base : isSubtype (.type "StopIteration") (.type "BaseException") = pure true := by rw [isSubtype_type]; kernel_rfl
theorem sub_stop_meta : isSubtype (.type ((Manifest.find? "StopIteration").elim "type" fun x => x.metatype)) (.type "tuple") = pure false := by kernel_rfl
set_option tactic.hygienic true in
set_option maxHeartbeats 1000000 in
theorem S_try {x : Str} {i : Nat} {b₀ : Stmt} {suite : List Stmt} {callee : Expr} {fc : Co} {fh : Cs} (np ap cp bp tp2 hp pos : Pos) (hq : lv.q = true) (hg : Gl c C "StopIteration" (.type "StopIteration")) (h1 : Ev c lv C callee fc)
    (he : ∀ env, eval (.Call callee [] [] cp) env = (do callWith cp (← eval callee env) [] (backTo cp (starEach [] env)) (backToKw cp (keywordEach [] env)))) (ks : storeKind C i x = true) (hs : ∀ env, swapsWith (.Call callee [] [] cp) (some (.Name x np)) ap.line env = pure false)
    (h2 : Xs c ⟨lv.n, false⟩ C (execs (b₀ :: suite)) fh) :
    Xs c lv C (exec (.Try [.Assign [.Name x np] (.Call callee [] [] cp) ap, .Break bp] [.ExceptHandler (some (.Name "StopIteration" tp2)) none (b₀ :: suite) hp] [] [] pos)) (cTry i fc fh) := by
  intro A fl env X μ s st r st' Q E tp ca I F e q
  obtain ⟨⟨d, σ1⟩, e1, ea⟩ := bind_some e
  clear e
  dsimp only at ea
  split at ea
  case h_2 => exact noS ea
  rename_i id r0
  split at ea
  case isFalse => exact noS ea
  rename_i hid
  subst hid
  obtain ⟨⟨j, l, k⟩, e2, eb⟩ := bind_some ea
  clear ea
  dsimp only at eb
  split at eb
  case h_2 => exact noS eb
  rename_i xs hl
  have hh : A.handled = none := ca.hd hq
  obtain ⟨hs1, hn, hk⟩ := storeKind_of ks
  obtain ⟨outer, hout⟩ : ∃ outer, fl.envs = env :: outer := by
    unfold Tp at tp
    cases hx : fl.envs with
    | nil => rw [hx] at tp; exact noS tp
    | cons a b => rw [hx] at tp; obtain rfl := soJ tp; exact ⟨b, rfl⟩
  have hfr : A.frames = some (env :: outer) := hout ▸ ca.fr
  refine wpAny_Try_except (wpAny_execs_cons (wpAny_Assign_Name (Call_ (h1 A fl env X μ s st _ σ1 _ _ ca I F e1 fun v1 h' tk X' μ' S1 I1 r1 => ?_) (he env)) (hs env)))
  cases r1 with | @meth T _ q0 _ v0 hT hq0 nq r1 =>
  obtain ⟨rfl, a, b, rfl, ha, hc, hb, g⟩ := iterOf_is I1 r1 e2
  obtain ⟨cl2, hc2, cr2⟩ := I1.at hb
  rw [hl] at hc2
  obtain rfl := soJ hc2
  obtain ⟨vs, pl, rs⟩ := cr2
  refine callWith_any (evalArgs_nil3 ⟨rfl, fun R q' => keeper_bound hT hq0 q', ?_⟩)
  refine call_bound hT hq0 (fun R hR => wpAny_of_eq check_ln hR) (by decide +kernel) entry_listiter_next ?_
  cases hx : xs[k]? with
  | some y =>
    rw [hx] at eb
    obtain ⟨s2, e3, e4⟩ := map_some eb
    obtain ⟨rfl, rfl⟩ := prS e4
    obtain ⟨u, hu, ru⟩ := rs.get hx
    refine next_item g pl.isList (by simpa using hu) fun h2 g2 sb => ?_
    obtain ⟨S2, I2⟩ := upd_iter (cl := .iter l (k + 1)) I1 ha hc (fun _ z => nomatch z) (fun _ z => nomatch z) sb g rfl g2 rfl (fun M => ⟨b, pre_get M.pre hb, g2⟩)
    have M2 := S2.mv0 I1 rfl
    refine store_slot (st := ⟨st.ρ, σ1.set j (.iter l (k + 1))⟩) I2 ((F.ex I S1).ex I1 S2) hn hs1 hk (ru.mv M2) e3 fun h4 tk4 b4 m4 _ S4 I4 F4 => ?_
    refine wpAny_execs_cons (wpAny_Break ?_)
    exact q .brk h4 tk4 X' μ' ((S1.wk.trans S2.wk).trans (S4 _ m4)) I4 F4 trivial
  | none =>
    rw [hx] at eb
    have hx2 : vs.toArray[k]? = none := by
      have := rs.length
      rw [List.getElem?_eq_none_iff] at hx
      rw [List.getElem?_toArray, List.getElem?_eq_none_iff]; lia
    refine next_end hh g pl.isList hx2 fun h3 ex oe us ext hit enew eg ecls edat e1none => ?_
    have hea : ex ≠ a := fun z => by rw [z, g] at enew; exact noN enew
    have fr3 : h3.FunFrames c.b0 fl.envs := FunFrames.nf (fun b o e => by
      by_cases z : b = a
      · subst z
        obtain ⟨o3, g3, _, us, d3⟩ := hit
        rw [g] at e
        obtain rfl := soJ e
        exact ⟨o3, g3, fun z => absurd rfl (z _)⟩
      · exact ⟨o, ext b o z e, id⟩) I1.fr
    have go : ∀ hX : Heap, (∀ b o, h'.get? b = some o → b ≠ a → b ∉ fl.fa → hX.get? b = some o) → (∀ b o, h'.get? b = some o → b ≠ a → ∃ sl, hX.get? b = some { o with slots := sl }) → (∃ o, hX.get? a = some o ∧ NT o) → Step fl.fa [] X' μ' h' X' μ' hX ∧ Inv c fl X' μ' hX (σ1.set j .dead) := fun hX k1 k2 k3 => by
      have aμ : a ∈ μ' := List.mem_of_getElem? ha
      have S : Step fl.fa [] X' μ' h' X' μ' hX := {
        kp := fun b o e _ m f => k1 b o e (fun z => m (z ▸ aμ)) f
        kf := fun b o e _ m => k2 b o e (fun z => m (z ▸ aμ))
        nf := fun b o e => by
          by_cases z : b = a
          · subst z
            obtain ⟨o3, g3, _⟩ := k3
            rw [g] at e
            obtain rfl := soJ e
            exact ⟨o3, g3, fun z => absurd rfl (z _)⟩
          · obtain ⟨sl, g3⟩ := k2 b o e z
            exact ⟨_, g3, id⟩
        subX := fun _ m => m
        newX := fun _ m => .inl m
        pre := List.prefix_refl _
        newμ := fun _ m => .inl m }
      exact ⟨S, I1.dies S ha hc (fun _ z => nomatch z) k1 k2 k3⟩
    obtain ⟨L, hL⟩ : ∃ L, env.frame = some L := by
      have := I1.fr
      rw [hout] at this
      obtain ⟨_, ⟨L, _, hL, _⟩, _⟩ := this
      exact ⟨L, hL⟩
    have hfa : (env :: outer).filterMap (·.frame) = fl.fa := by unfold Lx.fa; rw [hout]
    refine note_first (base := c.b0) (outer := outer) hfr (hout ▸ fr3) hL eg edat e1none fun h4 Tb oe' kp4 ks4 ge4 cls4 dd4 Tn Te tt => ?_
    obtain ⟨us', d4, t4⟩ := dd4
    obtain ⟨oT, ts, gT, dT, z3⟩ := tt
    rw [hfa] at kp4
    have old : ∀ b o, h'.get? b = some o → b ≠ ex := fun b o e z => by rw [z, enew] at e; exact noS e
    obtain ⟨o3, g3, nt3, us3, d3⟩ := hit
    have ha4 : ∃ o, h4.get? a = some o ∧ NT o := by
      obtain ⟨sl, g4⟩ := ks4 a o3 g3 (Ne.symm hea)
      exact ⟨_, g4, nt3⟩
    obtain ⟨S4, I4⟩ := go h4 (fun b o e n f => kp4 b o (ext b o n e) (old b o e) f) (fun b o e n => ks4 b o (ext b o n e) (old b o e)) ha4
    have Fa := (F.ex I S1)
    refine wpAny_handleBy_builtin (X := "StopIteration") (T := "StopIteration") (b := true) sub_stop_base sub_stop_meta isSubtype_stop ?_
    refine load_glob (Fa.ex I1 S4) I4 hg ⟨rfl, ⟨oe', ge4, cls4.trans ecls⟩, ?_⟩ tp2
    simp only [if_true]
    refine flight_again ge4 d4 t4 gT dT z3 fun h5 sb5 => ?_
    have oldT : ∀ b o, h'.get? b = some o → b ≠ a → b ≠ Tb := fun b o e n z => by rw [z] at e n; rw [ext _ _ n e] at Tn; cases Tn
    have haT : a ≠ Tb := fun z => by rw [← z, g3] at Tn; cases Tn
    obtain ⟨S5, I5⟩ := go h5 (fun b o e n f => (sb5.2 b (oldT b o e n)).trans (kp4 b o (ext b o n e) (old b o e) f)) (fun b o e n => by
      obtain ⟨sl, z⟩ := ks4 b o (ext b o n e) (old b o e)
      exact ⟨sl, (sb5.2 b (oldT b o e n)).trans z⟩) (by obtain ⟨o, z, nt⟩ := ha4; exact ⟨o, (sb5.2 a haT).trans z, nt⟩)
    refine h2 (A.mark (some (.ref ex))) fl env X' μ' _ ⟨st.ρ, σ1.set j .dead⟩ r st' _ _ tp ⟨(fun z => by exact noF z), ca.dp, ca.un, ca.fr⟩ I5 (Fa.ex I1 S5) eb fun w h6 tk6 X6 μ6 S6 I6 F6 rr => ?_
    exact q w h6 tk6 X6 μ6 ((S1.wk.trans S5.wk).trans S6) I6 F6 rr
end
end Mine
end
section
set_option tactic.hygienic false
open PySem PySem.W PyProof.Rows PySem.Calls
set_option maxRecDepth 100000
namespace Mine
noncomputable def bd (n : Nat) : List PV → Option (List PV) := fun ds => if ds.length = n then some ds else none
theorem binds_n {c : Cx} {fd : FuncData} {names : List Str} {n : Nat} (h : ∀ vs : List Value, vs.length = n → bindArgs fd ⟨vs, []⟩ = pure (names.zip vs)) : BindsOk c fd names (bd n) := by
  intro A X μ s ds vs ds' Q E l f rs e q
  unfold bd at e
  split at e
  case isFalse => exact noS e
  rename_i hn
  obtain rfl := soJ e
  rw [h vs (by rw [← rs.length]; exact hn)]
  exact wpAny_pure (q s.heap s.toks vs (.refl _) rs)
theorem bd_len {n : Nat} : ∀ ds ds', bd n ds = some ds' → ds'.length = n := by
  intro ds ds' e
  unfold bd at e
  split at e
  · obtain rfl := soJ e; assumption
  · exact noS e
noncomputable abbrev KK (c : Cx) : Prop := c.K = HK c.w.params
end Mine
end
section
set_option tactic.hygienic false
open PySem PySem.W PyProof.Rows PySem.Calls
set_option maxRecDepth 100000
namespace Mine
noncomputable def cNone : Cs := fun _ => none
theorem S_none {c : Cx} {lv : Lv} {C : SC} {t : Env → Sem Flow} : Xs c lv C t cNone := by
  intro A fl env X μ s st r st' Q E tp ca I F e
  exact noS e
section
variable {c : Cx} {lv : Lv} {C : SC}
noncomputable def cEDict : Co := fun st => some (.ref st.σ.length, st.σ ++ [.dnod []])
theorem R_edict (pos) : Ev c lv C (.Dict [] [] pos) cEDict := by
  intro A fl env X μ s st d σ' Q E ca I F e q
  obtain ⟨rfl, rfl⟩ := prI e
  refine wpAny_Dict_empty ?_
  obtain ⟨S2, I2, r2⟩ := new_cell (cl := .dnod []) (o := { cls := .type "dict", data := .dict #[] }) I rfl (fun _ _ z => by cases z) (fun _ z => by cases z)
    ⟨(fun _ m => nomatch m), [], Heap.DictOf.new _, .nil⟩
  exact q _ _ s.toks _ _ S2 I2 r2
noncomputable def gSumA : Fn := m1 fun σ a => match a with
  | .lst xs => (intsOf xs).map fun l => (.int l.sum, σ)
  | _ => none
set_option tactic.hygienic true in
theorem sumA_ap (hq : lv.q = true) : Ap c lv (.builtin "sum") gSumA := .m1 fun A fl X μ s σ v1 d1 d σ' Q E ca I r1 e q => by
  cases r1 <;> first | (exact noS e; done) | skip
  obtain ⟨l, e1, e2⟩ := map_some e
  clear e
  rename_i xs a vs hl nX rs
  obtain ⟨rfl, rfl⟩ := prS e2
  have hi := ints_vals rs e1
  have hlen := hi.length
  have hh : A.in1.handled = none := ca.hd hq
  have fresh : s.heap.get? s.heap.objs.size = none := get_size _
  have hne : a ≠ s.heap.objs.size := fun z => by obtain ⟨o, g, _⟩ := hl; rw [z, fresh] at g; exact noS g
  refine call_sum_walkG (wpAny_pyIter_list hl ⟨_, _, _, _, _, _, fun i => l.getD i 0, rfl, Walks.list hh s.heap.objs.size a hne vs.toArray, ⟨⟨_, Heap.get?_push_size _ rfl, rfl, rfl⟩, hl.push _⟩, fun b m => ?_, fun i v e => ?_, fun h' tk t' k => ?_⟩)
  · show b < (s.heap.push _).objs.size
    rw [Heap.size_push]
    rcases List.mem_cons.mp m with rfl | m
    · exact Nat.lt_succ_self _
    · rw [List.mem_singleton.mp m]; obtain ⟨o, g, _⟩ := hl; exact Nat.lt_succ_of_lt (Heap.lt_size g)
  · have e' : vs[i]? = some v := by simpa using e
    have hi' : i < l.length := by rw [← hlen]; exact (List.getElem?_eq_some_iff.mp e').1
    obtain ⟨t, ht⟩ := hi.get i _ (List.getElem?_eq_getElem hi')
    rw [ht] at e'
    obtain rfl := soJ e'
    exact ⟨t, by dsimp only; rw [List.getD_eq_getElem?_getD, List.getElem?_eq_getElem hi']; rfl⟩
  · rw [preSum_getD, List.size_toArray, hlen, List.take_of_length_le (Nat.le_refl _)]
    have l2 : Le s.heap h' := fun b o e => k b o (fun m => by rw [List.mem_singleton.mp m, fresh] at e; exact noS e) (Heap.get?_push_of_some _ e)
    exact q _ h' tk X μ (.le l2) (I.le l2) (.int _ _)
end
end Mine
end
section
set_option tactic.hygienic false
open PySem PySem.W PyProof.Rows PySem.Calls
set_option maxRecDepth 100000
namespace Mine
section
variable {c : Cx} {lv : Lv} {C : SC}
noncomputable def keysOk (es : List DictEntry) : Bool := es.all fun e => match e.key with
  | .int k _ => e.hash == hashInt k
  | _ => false
set_option tactic.hygienic true in
theorem keysOf_ok {es : Array DictEntry} (h : keysOk es.toList = true) : KeysOf c.si es := by
  intro e m
  have := List.all_eq_true.mp h e (by simpa using m)
  cases hk : e.key <;> rw [hk] at this <;> first | (exact noF this; done) | skip
  rename_i k t
  exact ⟨k, by simp [PySem.intKind, PySem.Value.isInt], by simpa [PySem.intKind] using this⟩
noncomputable def Esc (c : Cx) : Prop := ∃ o es ep, c.K.lookup 52 = some o ∧ o.ExactDict ∧ o.data = .dict es ep ∧ keysOk es.toList = true ∧
  (∃ t, findBy PySem.Value.isInt es 45 = some (.str ⟨#[92, 45]⟩ t)) ∧ findBy PySem.Value.isInt es 114 = none ∧ findBy PySem.Value.isInt es 119 = none ∧ findBy PySem.Value.isInt es 120 = none
theorem esc_of (hK : KK c) : Esc c := by
  refine ⟨_, _, _, by rw [hK]; rfl, ⟨rfl, rfl, rfl⟩, rfl, by kernel_rfl, ⟨399, by kernel_rfl⟩, by kernel_rfl, by kernel_rfl, by kernel_rfl⟩
theorem Esc.map (x : Esc c) {h : Heap} (k : c.K.In h) : ∃ f, h.MapOf c.si 52 f ∧ (∃ t, f 45 = some (.str ⟨#[92, 45]⟩ t)) ∧ f 114 = none ∧ f 119 = none ∧ f 120 = none := by
  obtain ⟨o, es, ep, e1, e2, e3, e4, e5, e6, e7, e8⟩ := x
  exact ⟨fun k => findBy PySem.Value.isInt es k, ⟨o, es, ep, k _ _ e1, e2, e3, keysOf_ok e4, fun _ => rfl⟩, e5, e6, e7, e8⟩
theorem sub_key_lookup : isSubtype (.type "KeyError") (.type "LookupError") = pure true := by rw [isSubtype_type]; kernel_rfl
open Builtin.Str in
theorem look_keep {A : Around} {s : Shared} {f : Int → Option Value} {ch : Nat} {Q : Mapped → Shared → Prop} {E} (hh : A.handled = none) (hm : s.heap.MapOf c.si 52 f) (hv : f (ch : Int) = none)
    (q : ∀ h' tk, Le s.heap h' → Q .keep { s with heap := h', toks := tk }) : wpAny c.M A (tableLookup (.ref 52) ch) Q E s := by
  unfold tableLookup
  refine wpAny_bind (wpAny_attempt (wpAny_bind (wpAny_mkInt ?_)))
  refine wpAny_getItem_missing_of (knd := c.si) (k := (ch : Int)) (by simp [PySem.intKind, PySem.Value.isInt]) (by decide) hh hm hv fun h' e ne => ?_
  obtain ⟨ob, t, g, hc, hd⟩ := ne.there
  refine wpAny_bind (wpAny_isInstance (T := "KeyError") ⟨ob, g, hc⟩ sub_key_lookup ?_)
  exact wpAny_bind (wpAny_rule (wpAny_pure (q h' _ ne.keeps)))
open Builtin.Str in
theorem look_text {A : Around} {s : Shared} {f : Int → Option Value} {ch : Nat} {x : Str} {t : Tok} {Q : Mapped → Shared → Prop} {E} (hm : s.heap.MapOf c.si 52 f) (hv : f (ch : Int) = some (.str x t))
    (q : ∀ tk, Q (.text x) { s with toks := tk }) : wpAny c.M A (tableLookup (.ref 52) ch) Q E s := by
  unfold tableLookup
  refine wpAny_bind (wpAny_attempt (wpAny_bind (wpAny_mkInt ?_)))
  refine wpAny_getItem_of (knd := c.si) (k := (ch : Int)) (by simp [PySem.intKind, PySem.Value.isInt]) hm hv ?_
  exact wpAny_pure (q _)
noncomputable def trOf (s : Str) : Option Str := if s = ⟨#[45]⟩ then some ⟨#[92, 45]⟩ else if s = ⟨#[114]⟩ ∨ s = ⟨#[119]⟩ ∨ s = ⟨#[120]⟩ then some s else none
noncomputable def gTrans : Fn := m2 fun σ a b => match a, b with
  | .str s, .val (.ref 52) => (trOf s).map fun r => (.str r, σ)
  | _, _ => none
theorem run_letter {A : Around} {s : Shared} {f : Int → Option Value} {ch : Nat} {t : Tok} {Q : Value → Shared → Prop} {E} (hh : A.handled = none) (hm : s.heap.MapOf c.si 52 f) (hv : f (ch : Int) = none) (h128 : ch < 128)
    (q : ∀ h' tk u, Le s.heap h' → Q (.str ⟨#[ch]⟩ u) { s with heap := h', toks := tk }) :
    wpAny c.M A (Builtin.«str.translate» ⟨[.str ⟨#[ch]⟩ t, .ref 52], []⟩) (fun fin s' => ∃ v, fin = .done (.ret v) ∧ Q v s') E s := by
  unfold Builtin.«str.translate»
  refine wpAny_bind (wpAny_of_eq (show Builtin.Str.strOneArg "translate" ⟨[.str ⟨#[ch]⟩ t, .ref 52], []⟩ = pure (.str ⟨#[ch]⟩ t, ⟨#[ch]⟩, .ref 52) from rfl) ?_)
  dsimp only
  rw [if_neg (by simp [Str.length])]
  refine wpAny_bind ?_
  rw [← Array.forIn_toList]
  simp only [List.forIn_cons, List.forIn_nil]
  refine wpAny_bind ?_
  rw [if_neg (by decide)]
  have h1 : ((#[ch] : Array Nat).all fun x => decide (x < 128)) = true := by simp [h128]
  rw [h1, if_pos rfl]
  show wpAny _ _ (Builtin.Str.tableLookup (.ref 52) ch >>= _) _ _ _
  refine wpAny_bind (look_keep hh hm hv fun h' tk le => ?_)
  dsimp only
  refine wpAny_bind (wpAny_pure ?_)
  refine wpAny_pure (wpAny_pure ?_)
  rw [if_neg (by show ¬ Builtin.Str.tooLong 1 = true; decide)]
  unfold retStr
  refine wpAny_bind (wpAny_mkStr (x := ⟨#[ch]⟩) ?_ (by show (1 : Nat) ≤ sizeLine; decide))
  exact wpAny_pure ⟨_, rfl, q h' _ _ le⟩
theorem run_minus {A : Around} {s : Shared} {f : Int → Option Value} {t u : Tok} {Q : Value → Shared → Prop} {E} (hm : s.heap.MapOf c.si 52 f) (hv : f 45 = some (.str ⟨#[92, 45]⟩ u))
    (q : ∀ tk u, Q (.str ⟨#[92, 45]⟩ u) { s with toks := tk }) :
    wpAny c.M A (Builtin.«str.translate» ⟨[.str ⟨#[45]⟩ t, .ref 52], []⟩) (fun fin s' => ∃ v, fin = .done (.ret v) ∧ Q v s') E s := by
  unfold Builtin.«str.translate»
  refine wpAny_bind (wpAny_of_eq (show Builtin.Str.strOneArg "translate" ⟨[.str ⟨#[45]⟩ t, .ref 52], []⟩ = pure (.str ⟨#[45]⟩ t, ⟨#[45]⟩, .ref 52) from rfl) ?_)
  dsimp only
  rw [if_neg (by decide)]
  refine wpAny_bind ?_
  rw [← Array.forIn_toList]
  simp only [List.forIn_cons, List.forIn_nil]
  refine wpAny_bind ?_
  rw [if_neg (by decide)]
  have h1 : ((#[45] : Array Nat).all fun x => decide (x < 128)) = true := by simp
  rw [h1, if_pos rfl]
  show wpAny _ _ (Builtin.Str.tableLookup (.ref 52) 45 >>= _) _ _ _
  refine wpAny_bind (look_text (ch := 45) hm hv fun tk => ?_)
  dsimp only
  rw [if_neg (by decide)]
  refine wpAny_bind (wpAny_pure ?_)
  refine wpAny_bind (wpAny_rule ?_)
  rw [if_neg (by decide)]
  refine wpAny_bind (look_text (ch := 45) (f := f) (hm : (_ : Shared).heap.MapOf c.si 52 f) hv fun tk' => ?_)
  dsimp only
  refine wpAny_pure (wpAny_pure ?_)
  rw [if_neg (by decide)]
  unfold retStr
  refine wpAny_bind (wpAny_mkStr ?_)
  exact wpAny_pure ⟨_, rfl, q _ _⟩
set_option tactic.hygienic true in
theorem trans_ap (x : Esc c) (hq : lv.q = true) : Ap c lv (.builtin "str.translate") gTrans := .m2 fun A fl X μ s σ v1 v2 d1 d2 d σ' Q E ca I r1 r2 e q => by
  cases r1 <;> first | (exact noS e; done) | skip
  rename_i w t
  cases r2 <;> first | (exact noS e; done) | skip
  split at e
  case h_2 => exact noS e
  rename_i w' h1 h2
  cases h1
  obtain ⟨r, e1, e2⟩ := map_some e
  obtain ⟨rfl, rfl⟩ := prS e2
  cases h2
  obtain ⟨f, hm, ⟨u, h45⟩, h114, h119, h120⟩ := x.map (I.K)
  have hh : A.in1.handled = none := ca.hd hq
  refine wpAny_call_entry PySem.F.slot_str_translate (typeIs_str _ _ _) PySem.F.entry_str_translate ?_ (PySem.F.args_str_translate_2 _ _)
  unfold trOf at e1
  split at e1
  · rename_i hw
    obtain rfl := soI e1
    subst hw
    exact run_minus hm h45 fun tk u => q _ s.heap tk X μ (.le (.refl _)) I (.str _ _)
  · split at e1
    case isFalse => exact noS e1
    rename_i hw
    obtain rfl := soI e1
    have go : ∀ ch : Nat, f (ch : Int) = none → ch < 128 → w = ⟨#[ch]⟩ → wpAny c.M A.in1 (Builtin.«str.translate» ⟨[.str w t, .ref 52], []⟩) (fun fin s' => ∃ v, fin = .done (.ret v) ∧ Q v s') E s := fun ch hv hl hw => by
      subst hw
      exact run_letter (ch := ch) (c := c) (E := E) (Q := Q) (t := t) hh hm hv hl fun h' tk u le => q _ h' tk X μ (.le le) (I.le le) (.str _ _)
    rcases hw with hw | hw | hw
    · exact go 114 h114 (by decide) hw
    · exact go 119 h119 (by decide) hw
    · exact go 120 h120 (by decide) hw
theorem M_trans (x : Esc c) (hq : lv.q = true) : Mt c lv "translate" isStr gTrans := .str PySem.F.slot_str_translate PySem.F.type_str_translate (trans_ap x hq)
end
end Mine
end
section
set_option tactic.hygienic false
open PySem PySem.W PyProof.Rows PySem.Calls
set_option maxRecDepth 100000
namespace Mine
noncomputable def swB (names : List (Str × NameKind)) (value t : Expr) : Bool :=
  match (match value with
    | .ListComp _ _ s _ | .SetComp _ _ s _ | .DictComp _ _ _ s _ => some s
    | _ => none) with
  | none => false
  | some scope => match t with
    | .Name t pos => names.lookup t == some .local && pos.line == value.pos.line && !(scope.names.any fun (n, k) => n == t && (k == .local || k == .cell))
    | _ => false
theorem blockKind_of {env : Env} (hk : env.scope.kind = .function) : env.blockKind = .function := by
  unfold Env.blockKind; rw [hk]; rfl
theorem sw_is {names : List (Str × NameKind)} {value t : Expr} {line : Nat} {b : Bool} (h : swB names value t = b) : ∀ env : Env, env.scope.kind = .function → env.scope.names = names → swapsWithSole [t] value line env = pure b := by
  intro env hk hn
  subst h
  have hb := blockKind_of hk
  show swapsWith value (some t) line env = _
  unfold swapsWith swB
  cases value <;> try rfl
  all_goals
    cases t <;> try rfl
    show pure _ = pure _
    congr 1
    simp [hb, Env.kindOf, hn]
theorem sw_is1 {names : List (Str × NameKind)} {value : Expr} {x : Str} {px : Pos} {line : Nat} {b : Bool} (h : swB names value (.Name x px) = b) : ∀ env : Env, env.scope.kind = .function → env.scope.names = names → swapsWith value (some (.Name x px)) line env = pure b := sw_is (line := line) h
noncomputable def isNm : Expr → Option (Str × Pos)
  | .Name id pos => some (id, pos)
  | _ => none
noncomputable def ssB (names : List (Str × NameKind)) (ts vs : List Expr) : Option (Option (List Str)) :=
    if (!(ts.length == 2 || ts.length == 3) || vs.length != ts.length) = true then some none else
    if (vs.any fun | .Starred .. => true | _ => false) = true then some none else
    let line := (ts.head?.map (·.pos.line)).getD 0
    let ns := ts.filterMap fun
      | .Name id pos => if names.lookup id == some .local && pos.line == line then some id else none
      | _ => none
    if (ns.length != ts.length || ns.eraseDups.length != ns.length) = true then some none else
    if vs.all (foldedForSure 8) = true then some none else
    if vs.all (constantsAlone 8) = true then none else some (some ns)
theorem ss_is {names : List (Str × NameKind)} {ts vs : List Expr} {k k' p p'} {r : Option (List Str)} (h : ssB names ts vs = some r) : ∀ env : Env, env.scope.kind = .function → env.scope.names = names → swappedStores [.Tuple ts k p] (.Tuple vs k' p') env = pure r := by
  intro env hk hn
  have hb := blockKind_of hk
  unfold swappedStores
  unfold ssB at h
  dsimp only at h ⊢
  have hbb : (env.blockKind != ScopeKind.function) = false := by rw [hb]; rfl
  rw [hbb, Bool.or_false]
  have hkf : ∀ x, env.kindOf x = names.lookup x := fun x => by unfold Env.kindOf; rw [hn]
  simp only [hkf]
  split at h
  · rename_i h1; rw [if_pos h1]; obtain rfl := soJ h; rfl
  rename_i h1; rw [if_neg h1]
  split at h
  · rename_i h2; obtain rfl := soJ h; split <;> first | rfl | (rename_i h3; exact absurd h2 h3)
  rename_i h2
  split
  · rename_i h3; exact absurd h3 h2
  split at h
  · rename_i h3; obtain rfl := soJ h; split <;> first | rfl | (rename_i h4; exact absurd h3 h4)
  rename_i h3
  split
  · rename_i h4; exact absurd h4 h3
  split at h
  · rename_i h4; rw [if_pos h4]; obtain rfl := soJ h; rfl
  rename_i h4; rw [if_neg h4]
  split at h
  · exact noS h
  rename_i h5; rw [if_neg h5]; obtain rfl := soJ h; rfl
section
variable {c : Cx} (hK : KK c)
include hK
theorem dcls : DCls c 192 := ⟨by rw [hK]; kernel_rfl, by rw [hK]; kernel_rfl, by rw [hK]; kernel_rfl, by rw [hK]; kernel_rfl, by rw [hK]; kernel_rfl⟩
theorem da0 : DAttr c 192 "_node2info" 0 := ⟨rfl, by rw [hK]; kernel_rfl, by rw [hK]; kernel_rfl⟩
theorem da1 : DAttr c 192 "_ready_nodes" 1 := ⟨rfl, by rw [hK]; kernel_rfl, by rw [hK]; kernel_rfl⟩
theorem da2 : DAttr c 192 "_npassedout" 2 := ⟨rfl, by rw [hK]; kernel_rfl, by rw [hK]; kernel_rfl⟩
theorem da3 : DAttr c 192 "_nfinished" 3 := ⟨rfl, by rw [hK]; kernel_rfl, by rw [hK]; kernel_rfl⟩
theorem sa_node : SAttr c 95 "node" 0 96 := ⟨by rw [hK]; kernel_rfl, by rw [hK]; kernel_rfl, by rw [hK]; kernel_rfl, by rw [hK]; kernel_rfl, by rw [hK]; kernel_rfl, by rw [hK]; kernel_rfl, by rw [hK]; kernel_rfl, by decide, by rw [hK]; kernel_rfl, by rw [hK]; kernel_rfl, by rw [hK]; kernel_rfl, by rw [hK]; kernel_rfl⟩
theorem sa_np : SAttr c 95 "npredecessors" 1 97 := ⟨by rw [hK]; kernel_rfl, by rw [hK]; kernel_rfl, by rw [hK]; kernel_rfl, by rw [hK]; kernel_rfl, by rw [hK]; kernel_rfl, by rw [hK]; kernel_rfl, by rw [hK]; kernel_rfl, by decide, by rw [hK]; kernel_rfl, by rw [hK]; kernel_rfl, by rw [hK]; kernel_rfl, by rw [hK]; kernel_rfl⟩
theorem sa_succ : SAttr c 95 "successors" 2 98 := ⟨by rw [hK]; kernel_rfl, by rw [hK]; kernel_rfl, by rw [hK]; kernel_rfl, by rw [hK]; kernel_rfl, by rw [hK]; kernel_rfl, by rw [hK]; kernel_rfl, by rw [hK]; kernel_rfl, by decide, by rw [hK]; kernel_rfl, by rw [hK]; kernel_rfl, by rw [hK]; kernel_rfl, by rw [hK]; kernel_rfl⟩
theorem dm_gni : DMeth c 192 "_get_nodeinfo" 135 := ⟨by rw [hK]; kernel_rfl, by rw [hK]; kernel_rfl, by decide, by rw [hK]; kernel_rfl, by rw [hK]; kernel_rfl, by rw [hK]; kernel_rfl, by kernel_rfl, by rw [hK]; kernel_rfl⟩
theorem dm_add : DMeth c 192 "add" 142 := ⟨by rw [hK]; kernel_rfl, by rw [hK]; kernel_rfl, by decide, by rw [hK]; kernel_rfl, by rw [hK]; kernel_rfl, by rw [hK]; kernel_rfl, by kernel_rfl, by rw [hK]; kernel_rfl⟩
theorem dm_prep : DMeth c 192 "prepare" 147 := ⟨by rw [hK]; kernel_rfl, by rw [hK]; kernel_rfl, by decide, by rw [hK]; kernel_rfl, by rw [hK]; kernel_rfl, by rw [hK]; kernel_rfl, by kernel_rfl, by rw [hK]; kernel_rfl⟩
theorem dm_ready : DMeth c 192 "get_ready" 154 := ⟨by rw [hK]; kernel_rfl, by rw [hK]; kernel_rfl, by decide, by rw [hK]; kernel_rfl, by rw [hK]; kernel_rfl, by rw [hK]; kernel_rfl, by kernel_rfl, by rw [hK]; kernel_rfl⟩
theorem dm_act : DMeth c 192 "is_active" 161 := ⟨by rw [hK]; kernel_rfl, by rw [hK]; kernel_rfl, by decide, by rw [hK]; kernel_rfl, by rw [hK]; kernel_rfl, by rw [hK]; kernel_rfl, by kernel_rfl, by rw [hK]; kernel_rfl⟩
theorem dm_done : DMeth c 192 "done" 175 := ⟨by rw [hK]; kernel_rfl, by rw [hK]; kernel_rfl, by decide, by rw [hK]; kernel_rfl, by rw [hK]; kernel_rfl, by rw [hK]; kernel_rfl, by kernel_rfl, by rw [hK]; kernel_rfl⟩
theorem dm_fc : DMeth c 192 "_find_cycle" 182 := ⟨by rw [hK]; kernel_rfl, by rw [hK]; kernel_rfl, by decide, by rw [hK]; kernel_rfl, by rw [hK]; kernel_rfl, by rw [hK]; kernel_rfl, by kernel_rfl, by rw [hK]; kernel_rfl⟩
theorem mk_so : Makes1 c 192 128 := ⟨by rw [hK]; kernel_rfl, by rw [hK]; kernel_rfl, by rw [hK]; kernel_rfl⟩
theorem mk_ni : Makes1 c 95 91 := ⟨by rw [hK]; kernel_rfl, by rw [hK]; kernel_rfl, by rw [hK]; kernel_rfl⟩
end
end Mine
end
section
set_option tactic.hygienic false
open PySem PySem.W PyProof.Rows PySem.Calls
set_option maxRecDepth 100000
namespace Mine
structure W (p : Prop) : Prop where
  h : p
theorem R_int' {c : Cx} {lv : Lv} {C : SC} (i : Int) (k pos) : W (Ev c lv C (.Constant (.int i) k pos) (cVal (.int i))) := ⟨R_int i k pos⟩
theorem R_str' {c : Cx} {lv : Lv} {C : SC} (i : Str) (k pos) : W (Ev c lv C (.Constant (.str i) k pos) (cVal (.str i))) := ⟨R_str i k pos⟩
theorem R_bool' {c : Cx} {lv : Lv} {C : SC} (i : Bool) (k pos) : W (Ev c lv C (.Constant (.bool i) k pos) (cVal (.bool i))) := ⟨R_bool i k pos⟩
theorem R_none' {c : Cx} {lv : Lv} {C : SC} (k pos) : W (Ev c lv C (.Constant .none k pos) (cVal .none)) := ⟨R_none k pos⟩
theorem R_loc' {c : Cx} {lv : Lv} {C : SC} (i : Nat) (x : Str) (pos) (h : slotKind C i x = true) : W (Ev c lv C (.Name x pos) (cLoc i)) := ⟨R_loc i x pos h⟩
theorem R_gval' {c : Cx} {lv : Lv} {C : SC} (x : Str) (v : Value) (pos) (h : Gl c C x v) : W (Ev c lv C (.Name x pos) (cVal (.val v))) := ⟨R_gval x v pos h⟩
theorem R_gint' {c : Cx} {lv : Lv} {C : SC} (x : Str) (i : Int) (t : Tok) (pos) (h : Gl c C x (.int i t)) : W (Ev c lv C (.Name x pos) (cVal (.int i))) := ⟨R_gint x i t pos h⟩
theorem R_glob' {c : Cx} {lv : Lv} {C : SC} (x : Str) (v : Value) (d : PV) (pos) (h : Gl c C x v) (r : ∀ X μ h, (∀ b o, c.b0.get? b = some o → h.get? b = some o ∧ b ∉ X) → VR c X h μ d v) : W (Ev c lv C (.Name x pos) (cVal d)) := ⟨R_glob x v d pos h r⟩
theorem R_bin' {c : Cx} {lv : Lv} {C : SC} {l r : Expr} {f g : Co} {o : Operator} {op} (pos) (h1 : W (Ev c lv C l f)) (h2 : W (Ev c lv C r g)) (h3 : W (Op2 c lv (binaryOp o) op)) : W (Ev c lv C (.BinOp l o r pos) (cBin op f g)) := ⟨R_bin pos h1.h h2.h h3.h⟩
theorem R_cmpb' {c : Cx} {lv : Lv} {C : SC} {l r : Expr} {f g : Co} {o : CmpOp} {op} (pos) (h1 : W (Ev c lv C l f)) (h2 : W (Ev c lv C r g)) (h3 : W (Cm c lv o op)) (hm : behindInMarks o r = false) : W (Ev c lv C (.Compare l [o] [r] pos) (cBin (fun σ a b => (op σ a b).map .bool) f g)) := ⟨R_cmpb pos h1.h h2.h h3.h hm⟩
theorem R_un' {c : Cx} {lv : Lv} {C : SC} {l : Expr} {f : Co} {o : UnaryOp} {op} (pos) (h1 : W (Ev c lv C l f)) (h3 : W (Op1 c lv (unaryOp o) op)) : W (Ev c lv C (.UnaryOp o l pos) (cUn op f)) := ⟨R_un pos h1.h h3.h⟩
theorem R_or' {c : Cx} {lv : Lv} {C : SC} {x y : Expr} {f g : Co} (pos) (h1 : W (Ev c lv C x f)) (h2 : W (Ev c lv C y g)) : W (Ev c lv C (.BoolOp .Or [x, y] pos) (cOrV f g)) := ⟨R_or pos h1.h h2.h⟩
theorem R_sub' {c : Cx} {lv : Lv} {C : SC} {value slice : Expr} {f g : Co} (pos) (h1 : W (Ev c lv C value f)) (h2 : W (Ev c lv C slice g)) : W (Ev c lv C (.Subscript value slice pos) (cBin oGet f g)) := ⟨R_sub pos h1.h h2.h⟩
theorem R_slice' {c : Cx} {lv : Lv} {C : SC} {value : Expr} {l u : Option Expr} {f : Co} {g1 g2 : Cp} (p pos) (h1 : W (Ev c lv C value f)) (h2 : W (EvP c lv C l g1)) (h3 : W (EvP c lv C u g2)) : W (Ev c lv C (.Subscript value (.Slice l u none p) pos) (cSlc f g1 g2)) := ⟨R_slice p pos h1.h h2.h h3.h⟩
theorem R_listO' {c : Cx} {lv : Lv} {C : SC} {es : List Expr} {fs : Cl} (pos) (h : W (Evs c lv C es fs)) : W (Ev c lv C (.List es pos) (cLstO fs)) := ⟨R_listO pos h.h⟩
theorem R_list' {c : Cx} {lv : Lv} {C : SC} {es : List Expr} {fs : Cl} (pos) (h : W (Evs c lv C es fs)) : W (Ev c lv C (.List es pos) (cLst fs)) := ⟨R_list pos h.h⟩
theorem R_tuple' {c : Cx} {lv : Lv} {C : SC} {es : List Expr} {fs : Cl} (k pos) (h : W (Evs c lv C es fs)) : W (Ev c lv C (.Tuple es k pos) (cTup fs)) := ⟨R_tuple k pos h.h⟩
theorem R_comp' {c : Cx} {lv : Lv} {C : SC} {elt iter : Expr} {x : Str} {ifs : List Expr} {scope : Scope} {itm} {fi : Co} {ft : Ct} {fe : Co} (px pos) (hq : lv.q = true) (h1 : W (Ev c lv C iter fi)) (h2 : W (ItW c lv itm)) (h3 : W (Tm c lv (compC C scope.names x) ifs ft)) (h4 : W (Ev c lv (compC C scope.names x) elt fe)) (hs : ∀ env x, foldedSetIterable iter env x = pure x) (hk : scope.kind = .function) (ok : compOk C scope.names x = true) (hsk : storeKind (compC C scope.names x) C.slots.length x = true) : W (Ev c lv C (.ListComp elt [⟨.Name x px, iter, ifs, 0⟩] scope pos) (cComp itm fi ft fe)) := ⟨R_comp px pos hq h1.h h2.h h3.h h4.h hs hk ok hsk⟩
theorem R_compO' {c : Cx} {lv : Lv} {C : SC} {elt iter : Expr} {x : Str} {ifs : List Expr} {scope : Scope} {itm} {fi : Co} {ft : Ct} {fe : Co} (px pos) (hq : lv.q = true) (h1 : W (Ev c lv C iter fi)) (h2 : W (ItW c lv itm)) (h3 : W (Tm c lv (compC C scope.names x) ifs ft)) (h4 : W (Ev c lv (compC C scope.names x) elt fe)) (hs : ∀ env x, foldedSetIterable iter env x = pure x) (hk : scope.kind = .function) (ok : compOk C scope.names x = true) (hsk : storeKind (compC C scope.names x) C.slots.length x = true) : W (Ev c lv C (.ListComp elt [⟨.Name x px, iter, ifs, 0⟩] scope pos) (cCompO itm fi ft fe)) := ⟨R_compO px pos hq h1.h h2.h h3.h h4.h hs hk ok hsk⟩
theorem R_dcomp' {c : Cx} {lv : Lv} {C : SC} {kx vx iter : Expr} {x : Str} {ifs : List Expr} {scope : Scope} {itm} {fi : Co} {ft : Ct} {fk fv : Co} (px pos) (hq : lv.q = true) (h1 : W (Ev c lv C iter fi)) (h2 : W (ItW c lv itm)) (h3 : W (Tm c lv (compC C scope.names x) ifs ft)) (h4 : W (Ev c lv (compC C scope.names x) kx fk)) (h5 : W (Ev c lv (compC C scope.names x) vx fv)) (hs : ∀ env x, foldedSetIterable iter env x = pure x) (hk : scope.kind = .function) (ok : compOk C scope.names x = true) (hsk : storeKind (compC C scope.names x) C.slots.length x = true) : W (Ev c lv C (.DictComp kx vx [⟨.Name x px, iter, ifs, 0⟩] scope pos) (cDComp itm fi ft fk fv)) := ⟨R_dcomp px pos hq h1.h h2.h h3.h h4.h h5.h hs hk ok hsk⟩
theorem R_edict' {c : Cx} {lv : Lv} {C : SC} (pos) : W (Ev c lv C (.Dict [] [] pos) cEDict) := ⟨R_edict pos⟩
theorem R_dict' {c : Cx} {lv : Lv} {C : SC} {keys : List (Option Expr)} {vals : List Expr} {f : Cd} (pos) (hall : keys.all (·.isSome) = true) (hl : keys.length = vals.length) (h0 : keys ≠ []) (hlen : keys.length ≤ 15) (h : W (EvD c lv C keys vals pos f)) : W (Ev c lv C (.Dict keys vals pos) (cDict f)) := ⟨R_dict pos hall hl h0 hlen h.h⟩
theorem R_fstr' {c : Cx} {lv : Lv} {C : SC} {a b : Str} {e : Expr} {f : Co} (k1 p1 p2 k3 p3 pos) (h : W (Ev c lv C e f)) : W (Ev c lv C (.JoinedStr [.Constant (.str a) k1 p1, .FormattedValue e (-1) none p2, .Constant (.str b) k3 p3] pos) (cFs a f b)) := ⟨R_fstr k1 p1 p2 k3 p3 pos h.h⟩
theorem R_attr' {c : Cx} {lv : Lv} {C : SC} {o : Expr} {name : Str} {f : Co} {op} (pos : Pos) (hb : ∀ env, attributeBase o name env (eval o env) = eval o env) (h : W (Ev c lv C o f)) (ha : W (At c lv name op)) : W (Ev c lv C (.Attribute o name pos) (cUn op f)) := ⟨R_attr pos hb h.h ha.h⟩
theorem R_callB' {c : Cx} {lv : Lv} {C : SC} {x : Str} {i : Nat} {id : String} {g : Fn} {args : List Expr} {fs : Cl} (np pos) (hk : slotKind C i x = true) (hg : W (ApB c lv id g)) (hs : W (Ags c lv C args fs)) : W (Ev c lv C (.Call (.Name x np) args [] pos) (cCallB id g (cLoc i) fs)) := ⟨R_callB np pos hk hg.h hs.h⟩
theorem R_call' {c : Cx} {lv : Lv} {C : SC} {x : Str} {v : Value} {g} {args : List Expr} {fs : Cl} (np pos) (hg : Gl c C x v) (hk : Kp c v) (ha : W (Ap c lv v g)) (hs : W (Ags c lv C args fs)) : W (Ev c lv C (.Call (.Name x np) args [] pos) (cCall g fs)) := ⟨R_call np pos hg hk ha.h hs.h⟩
theorem R_methS' {c : Cx} {lv : Lv} {C : SC} {o : Expr} {nm : Str} {args : List Expr} {D fa : Addr} {g} {f : Co} {fs : Cl} (apos pos : Pos) (hb : ∀ env, attributeBase o nm env (eval o env) = eval o env) (hf : ∀ env, (backTo pos (starEach args env)).all (fun x => !x.1) = false) (dc : DCls c D) (m : DMeth c D nm fa) (ha : W (ApC c lv (.ref fa) g)) (h : W (Ev c lv C o f)) (hs : W (Ags c lv C args fs)) : W (Ev c lv C (.Call (.Attribute o nm apos) args [] pos) (cMethS D g f fs)) := ⟨R_methS apos pos hb hf dc m ha.h h.h hs.h⟩
theorem R_meth' {c : Cx} {lv : Lv} {C : SC} {o : Expr} {name : Str} {args : List Expr} {ok g} {f : Co} {fs : Cl} (apos pos : Pos) (hb : ∀ env, attributeBase o name env (eval o env) = eval o env) (hf : ∀ env, (backTo pos (starEach args env)).all (fun x => !x.1) = true) (hn : args.length < 29) (hl : (apos.endLine == pos.line) = true) (h : W (Ev c lv C o f)) (hm : W (Mt c lv name ok g)) (hs : W (Ags c lv C args fs)) : W (Ev c lv C (.Call (.Attribute o name apos) args [] pos) (cMeth ok g f fs)) := ⟨R_meth apos pos hb hf hn hl h.h hm.h hs.h⟩
theorem T_val' {c : Cx} {lv : Lv} {C : SC} {e : Expr} {f : Co} {tr} (h : W (Ev c lv C e f)) (ht : W (TrOk c lv tr)) (hp : plainTest e = true) : W (Et c lv C e (cTr tr f)) := ⟨T_val h.h ht.h hp⟩
theorem T_not' {c : Cx} {lv : Lv} {C : SC} {e : Expr} {f : Ct} (pos) (h : W (Et c lv C e f)) : W (Et c lv C (.UnaryOp .Not e pos) (cNot f)) := ⟨T_not pos h.h⟩
theorem T_and' {c : Cx} {lv : Lv} {C : SC} {x y : Expr} {f g : Ct} (pos) (h1 : W (Et c lv C x f)) (h2 : W (Et c lv C y g)) : W (Et c lv C (.BoolOp .And [x, y] pos) (cAnd f g)) := ⟨T_and pos h1.h h2.h⟩
theorem T_or' {c : Cx} {lv : Lv} {C : SC} {x y : Expr} {f g : Ct} (pos) (h1 : W (Et c lv C x f)) (h2 : W (Et c lv C y g)) : W (Et c lv C (.BoolOp .Or [x, y] pos) (cOr f g)) := ⟨T_or pos h1.h h2.h⟩
theorem T_cmp' {c : Cx} {lv : Lv} {C : SC} {l r : Expr} {f g : Co} {o : CmpOp} {op} (pos) (h1 : W (Ev c lv C l f)) (h2 : W (Ev c lv C r g)) (h3 : W (Cm c lv o op)) (hm : behindInMarks o r = false) : W (Et c lv C (.Compare l [o] [r] pos) (cCmp op f g)) := ⟨T_cmp pos h1.h h2.h h3.h hm⟩
theorem E_nil' {c : Cx} {lv : Lv} {C : SC} : W (Evs c lv C [] lNil) := ⟨E_nil⟩
theorem E_cons' {c : Cx} {lv : Lv} {C : SC} {x : Expr} {r : List Expr} {f : Co} {g : Cl} (h1 : W (Ev c lv C x f)) (h2 : W (Evs c lv C r g)) (he : ∀ env, starEach (x :: r) env = (false, eval x env) :: starEach r env) : W (Evs c lv C (x :: r) (lCons f g)) := ⟨E_cons h1.h h2.h he⟩
theorem E_star' {c : Cx} {lv : Lv} {C : SC} {x : Expr} {p : Pos} {r : List Expr} {f : Co} {g : Cl} (h1 : W (Ev c lv C x f)) (h2 : W (Evs c lv C r g)) : W (Evs c lv C (.Starred x p :: r) (lStar f g)) := ⟨E_star h1.h h2.h⟩
theorem G_nil' {c : Cx} {lv : Lv} {C : SC} : W (Ags c lv C [] lNil) := ⟨G_nil⟩
theorem G_star' {c : Cx} {lv : Lv} {C : SC} {x : Expr} {p : Pos} {f : Co} (h : W (Ev c lv C x f)) : W (Ags c lv C [.Starred x p] (lStar f lNil)) := ⟨G_star h.h⟩
theorem G_plain' {c : Cx} {lv : Lv} {C : SC} {x : Expr} {r : List Expr} {f : Cl} (h : W (Evs c lv C (x :: r) f)) (he : ∀ env, starEach (x :: r) env = (false, eval x env) :: starEach r env) : W (Ags c lv C (x :: r) f) := ⟨G_plain h.h he⟩
theorem P_none' {c : Cx} {lv : Lv} {C : SC} : W (EvP c lv C none pNone) := ⟨P_none⟩
theorem P_some' {c : Cx} {lv : Lv} {C : SC} {x : Expr} {f : Co} (h : W (Ev c lv C x f)) : W (EvP c lv C (some x) (pSome f)) := ⟨P_some h.h⟩
theorem D_nil' {c : Cx} {lv : Lv} {C : SC} (pos) : W (EvD c lv C [] [] pos dNil) := ⟨D_nil pos⟩
theorem D_cons' {c : Cx} {lv : Lv} {C : SC} {k : Int} {ks : List (Option Expr)} {v : Expr} {vs : List Expr} {f : Co} {g : Cd} (kk p pos) (h1 : W (Ev c lv C v f)) (h2 : W (EvD c lv C ks vs pos g)) : W (EvD c lv C (some (.Constant (.int k) kk p) :: ks) (v :: vs) pos (dCons k f g)) := ⟨D_cons kk p pos h1.h h2.h⟩
theorem Tm_nil' {c lv C} : W (Tm c lv C [] tAll) := ⟨Tm_nil⟩
theorem Tm_one' {c lv C} {t : Expr} {f : Ct} (h : W (Et c lv C t f)) : W (Tm c lv C [t] f) := ⟨Tm_one h.h⟩
theorem A_name' {c : Cx} {lv : Lv} {C : SC} {x : Str} {i : Nat} (px) (k : storeKind C i x = true) : W (As c lv C (.Name x px) (fun d st => st.put i d)) := ⟨A_name px k⟩
theorem A_tup' {c : Cx} {lv : Lv} {C : SC} {ts : List Expr} {f} (k pos) (n : Nat) (hq : lv.q = true) (h : W (Asl c lv C ts f)) (hst : ∀ env, (assignEach ts env).findIdx? (·.1) = none ∧ (assignEach ts env).length = n) : W (As c lv C (.Tuple ts k pos) (aTup n f)) := ⟨A_tup k pos n hq h.h hst⟩
theorem A_sub' {c : Cx} {lv : Lv} {C : SC} {o i : Expr} {f g : Co} {op} (pos) (h1 : W (Ev c lv C o f)) (h2 : W (Ev c lv C i g)) (h3 : W (Sti c lv op)) : W (As c lv C (.Subscript o i pos) (aSub op f g)) := ⟨A_sub pos h1.h h2.h h3.h⟩
theorem A_attr' {c : Cx} {lv : Lv} {C : SC} {o : Expr} {name : Str} {f : Co} {op} (pos) (h1 : W (Ev c lv C o f)) (h3 : W (Sta c lv name op)) : W (As c lv C (.Attribute o name pos) (aAttr op f)) := ⟨A_attr pos h1.h h3.h⟩
theorem Asl_nil' {c : Cx} {lv : Lv} {C : SC} : W (Asl c lv C [] aNil) := ⟨Asl_nil⟩
theorem Asl_cons' {c : Cx} {lv : Lv} {C : SC} {t : Expr} {r : List Expr} {f : Asg} {g} (h1 : W (As c lv C t f)) (h2 : W (Asl c lv C r g)) (he : ∀ env, assignEach (t :: r) env = (false, assign t env) :: assignEach r env) : W (Asl c lv C (t :: r) (aCons f g)) := ⟨Asl_cons h1.h h2.h he⟩
theorem Tg_one' {c : Cx} {lv : Lv} {C : SC} {t : Expr} {f : Asg} (h : W (As c lv C t f)) : W (Tgs c lv C [t] f) := ⟨Tg_one h.h⟩
theorem Tg_cons' {c : Cx} {lv : Lv} {C : SC} {t u : Expr} {r : List Expr} {f g : Asg} (h : W (As c lv C t f)) (h2 : W (Tgs c lv C (u :: r) g)) : W (Tgs c lv C (t :: u :: r) (aSeq f g)) := ⟨Tg_cons h.h h2.h⟩
theorem S_nil' {c : Cx} {lv : Lv} {C : SC} : W (Xs c lv C (execs []) cSkip) := ⟨S_nil⟩
theorem S_cons' {c : Cx} {lv : Lv} {C : SC} {st₀ : Stmt} {rest : List Stmt} {f g : Cs} (h1 : W (Xs c lv C (exec st₀) f)) (h2 : W (Xs c lv C (execs rest) g)) : W (Xs c lv C (execs (st₀ :: rest)) (cSeq f g)) := ⟨S_cons h1.h h2.h⟩
theorem S_one' {c : Cx} {lv : Lv} {C : SC} {st₀ : Stmt} {f : Cs} (h1 : W (Xs c lv C (exec st₀) f)) : W (Xs c lv C (execs [st₀]) f) := ⟨S_one h1.h⟩
theorem S_none' {c : Cx} {lv : Lv} {C : SC} {t : Env → Sem Flow} : W (Xs c lv C t cNone) := ⟨S_none⟩
theorem S_set' {c : Cx} {lv : Lv} {C : SC} {x : Str} {i : Nat} {value : Expr} {f : Co} (px pos) (h : W (Ev c lv C value f)) (k : storeKind C i x = true) (hs : ∀ env, swapsWith value (some (.Name x px)) pos.line env = pure false) : W (Xs c lv C (exec (.Assign [.Name x px] value pos)) (cSet i f)) := ⟨S_set px pos h.h k hs⟩
theorem S_comp' {c : Cx} {lv : Lv} {C : SC} {elt iter : Expr} {x y : Str} {i : Nat} {ifs : List Expr} {scope : Scope} {itm} {fi : Co} {ft : Ct} {fe : Co} (px pos py spos) (hq : lv.q = true) (h1 : W (Ev c lv C iter fi)) (h2 : W (ItW c lv itm)) (h3 : W (Tm c lv (compC C scope.names x) ifs ft)) (h4 : W (Ev c lv (compC C scope.names x) elt fe)) (hs : ∀ env x, foldedSetIterable iter env x = pure x) (hk : scope.kind = .function) (ok : compOk C scope.names x = true) (hsk : storeKind (compC C scope.names x) C.slots.length x = true) (k : storeKind C i y = true) (hw : ∀ env, env.scope.kind = .function → env.scope.names = C.names → swapsWith (.ListComp elt [⟨.Name x px, iter, ifs, 0⟩] scope pos) (some (.Name y py)) spos.line env = pure true) : W (Xs c lv C (exec (.Assign [.Name y py] (.ListComp elt [⟨.Name x px, iter, ifs, 0⟩] scope pos) spos)) (cSet i (cComp itm fi ft fe))) := ⟨S_comp px pos py spos hq h1.h h2.h h3.h h4.h hs hk ok hsk k hw⟩
theorem S_asg' {c : Cx} {lv : Lv} {C : SC} {ts : List Expr} {value pos} {f : Asg} {v : Co} (h1 : W (Ev c lv C value v)) (h2 : W (Tgs c lv C ts f)) (hs : ∀ env, env.scope.kind = .function → env.scope.names = C.names → swapsWithSole ts value pos.line env = pure false) (hw : ∀ env, env.scope.kind = .function → env.scope.names = C.names → swappedStores ts value env = pure none) (he : ∀ env, (assignEach ts env).map (·.2) = ts.map fun t v => assign t env v) : W (Xs c lv C (exec (.Assign ts value pos)) (cAsg f v)) := ⟨S_asg h1.h h2.h hs hw he⟩
theorem S_swap' {c : Cx} {lv : Lv} {C : SC} {elts : List Expr} {k tpos value pos} {x y : Str} {i j : Nat} {v : Co} (hq : lv.q = true) (h1 : W (Ev c lv C value v)) (k1 : storeKind C i x = true) (k2 : storeKind C j y = true) (hs : ∀ env, swapsWithSole [.Tuple elts k tpos] value pos.line env = pure false) (hw : ∀ env, env.scope.kind = .function → env.scope.names = C.names → swappedStores [.Tuple elts k tpos] value env = pure (some [x, y])) : W (Xs c lv C (exec (.Assign [.Tuple elts k tpos] value pos)) (cSwap i j v)) := ⟨S_swap hq h1.h k1 k2 hs hw⟩
theorem S_tup' {c : Cx} {lv : Lv} {C : SC} {elts : List Expr} {k tpos value pos} {f : Asg} {v : Co} (h1 : W (Ev c lv C value v)) (h2 : W (As c lv C (.Tuple elts k tpos) f)) (hs : ∀ env, swapsWithSole [.Tuple elts k tpos] value pos.line env = pure false) (hw : ∀ env, env.scope.kind = .function → env.scope.names = C.names → swappedStores [.Tuple elts k tpos] value env = pure none) : W (Xs c lv C (exec (.Assign [.Tuple elts k tpos] value pos)) (cAsg f v)) := ⟨S_tup h1.h h2.h hs hw⟩
theorem S_augN' {c : Cx} {lv : Lv} {C : SC} {x : Str} {i : Nat} {o : Operator} {value : Expr} {f : Co} {op} (npos pos) (k1 : slotKind C i x = true) (k2 : storeKind C i x = true) (h : W (Ev c lv C value f)) (ho : W (Op2 c lv (inplaceOp o) op)) : W (Xs c lv C (exec (.AugAssign (.Name x npos) o value pos)) (cAugN i op f)) := ⟨S_augN npos pos k1 k2 h.h ho.h⟩
theorem S_augA' {c : Cx} {lv : Lv} {C : SC} {o value : Expr} {name : Str} {oper : Operator} {fo f : Co} {get set op} (tpos pos) (h1 : W (Ev c lv C o fo)) (hg : W (At c lv name get)) (h2 : W (Ev c lv C value f)) (ho : W (Op2 c lv (inplaceOp oper) op)) (hs : W (Sta c lv name set)) : W (Xs c lv C (exec (.AugAssign (.Attribute o name tpos) oper value pos)) (cAugA get set op fo f)) := ⟨S_augA tpos pos h1.h hg.h h2.h ho.h hs.h⟩
theorem S_ifW' {c : Cx} {lv : Lv} {C : SC} {x : Str} {i : Nat} {e : Expr} {body orelse : List Stmt} {f : Co} {fb fo : Cs} (np p1 k p2 p3 pos) (h : W (Ev c lv C e f)) (ks : storeKind C i x = true) (h1 : W (Xs c lv C (execs body) fb)) (h2 : W (Xs c lv C (execs orelse) fo)) : W (Xs c lv C (exec (.If (.Compare (.NamedExpr (.Name x np) e p1) [.Is] [.Constant .none k p2] p3) body orelse pos)) (cIfW i f fb fo)) := ⟨S_ifW np p1 k p2 p3 pos h.h ks h1.h h2.h⟩
theorem S_if' {c : Cx} {lv : Lv} {C : SC} {t : Expr} {b o : List Stmt} {g : Ct} {f1 f2 : Cs} (pos) (h : W (Et c lv C t g)) (h1 : W (Xs c lv C (execs b) f1)) (h2 : W (Xs c lv C (execs o) f2)) : W (Xs c lv C (exec (.If t b o pos)) (cIf g f1 f2)) := ⟨S_if pos h.h h1.h h2.h⟩
theorem S_while' {c : Cx} {lv : Lv} {C : SC} {t : Expr} {body orelse : List Stmt} {n : Nat} {ft : Ct} {fb fo : Cs} (pos) (h1 : W (Et c lv C t ft)) (h2 : W (Xs c lv C (execs body) fb)) (h3 : W (Xs c lv C (execs orelse) fo)) : W (Xs c lv C (exec (.While t body orelse pos)) (cWhile n ft fb fo)) := ⟨S_while pos h1.h h2.h h3.h⟩
theorem S_enum' {c : Cx} {lv : Lv} {C : SC} {elts : List Expr} {kt : Nat} {tpos np cpos pos : Pos} {x : Expr} {body orelse : List Stmt} {fi : Co} {asg : Asg} {fb fo : Cs} (hq : lv.q = true) (hg : Gl c C "enumerate" (.type "enumerate")) (h1 : W (Ev c lv C x fi)) (hx : ∀ env, starEach [x] env = (false, eval x env) :: starEach [] env) (h3 : W (As c lv C (.Tuple elts kt tpos) asg)) (h4 : W (Xs c lv C (execs body) fb)) (h5 : W (Xs c lv C (execs orelse) fo)) (hs : ∀ env v, foldedSetIterable (.Call (.Name "enumerate" np) [x] [] cpos) env v = pure v) : W (Xs c lv C (exec (.For (.Tuple elts kt tpos) (.Call (.Name "enumerate" np) [x] [] cpos) body orelse pos)) (cEnum fi asg fb fo)) := ⟨S_enum hq hg h1.h hx h3.h h4.h h5.h hs⟩
theorem S_for' {c : Cx} {lv : Lv} {C : SC} {target iter : Expr} {body orelse : List Stmt} {itm} {fi : Co} {asg : Asg} {fb fo : Cs} (pos) (h1 : W (Ev c lv C iter fi)) (h2 : W (ItOk c lv target itm)) (h3 : W (As c lv C target asg)) (h4 : W (Xs c lv C (execs body) fb)) (h5 : W (Xs c lv C (execs orelse) fo)) (hs : ∀ env x, foldedSetIterable iter env x = pure x) : W (Xs c lv C (exec (.For target iter body orelse pos)) (cFor itm fi asg fb fo)) := ⟨S_for pos h1.h h2.h h3.h h4.h h5.h hs⟩
theorem S_ret' {c : Cx} {lv : Lv} {C : SC} {e : Expr} {f : Co} (pos) (h : W (Ev c lv C e f)) : W (Xs c lv C (exec (.Return (some e) pos)) (cRet f)) := ⟨S_ret pos h.h⟩
theorem S_do' {c : Cx} {lv : Lv} {C : SC} {e : Expr} {f : Co} (pos) (h : W (Ev c lv C e f)) (hs : ∀ env, swapsWith e none pos.line env = pure false) : W (Xs c lv C (exec (.Expr e pos)) (cDo f)) := ⟨S_do pos h.h hs⟩
theorem S_brk' {c : Cx} {lv : Lv} {C : SC} (pos) : W (Xs c lv C (exec (.Break pos)) (cFl .brk)) := ⟨S_brk pos⟩
theorem S_cont' {c : Cx} {lv : Lv} {C : SC} (pos) : W (Xs c lv C (exec (.Continue pos)) (cFl .cont)) := ⟨S_cont pos⟩
theorem S_assert' {c : Cx} {lv : Lv} {C : SC} {e : Expr} {msg : Option Expr} {f : Ct} (pos) (h : W (Et c lv C e f)) : W (Xs c lv C (exec (.Assert e msg pos)) (cAssert f)) := ⟨S_assert pos h.h⟩
theorem S_del' {c : Cx} {lv : Lv} {C : SC} {o i : Expr} {f g : Co} (p pos) (h1 : W (Ev c lv C o f)) (h2 : W (Ev c lv C i g)) : W (Xs c lv C (exec (.Delete [.Subscript o i p] pos)) (cDel f g)) := ⟨S_del p pos h1.h h2.h⟩
theorem S_try' {c : Cx} {lv : Lv} {C : SC} {x : Str} {i : Nat} {b₀ : Stmt} {suite : List Stmt} {callee : Expr} {fc : Co} {fh : Cs} (np ap cp bp tp2 hp pos : Pos) (hq : lv.q = true) (hg : Gl c C "StopIteration" (.type "StopIteration")) (h1 : W (Ev c lv C callee fc)) (he : ∀ env, eval (.Call callee [] [] cp) env = (do callWith cp (← eval callee env) [] (backTo cp (starEach [] env)) (backToKw cp (keywordEach [] env)))) (ks : storeKind C i x = true) (hs : ∀ env, swapsWith (.Call callee [] [] cp) (some (.Name x np)) ap.line env = pure false) (h2 : W (Xs c ⟨lv.n, false⟩ C (execs (b₀ :: suite)) fh)) : W (Xs c lv C (exec (.Try [.Assign [.Name x np] (.Call callee [] [] cp) ap, .Break bp] [.ExceptHandler (some (.Name "StopIteration" tp2)) none (b₀ :: suite) hp] [] [] pos)) (cTry i fc fh)) := ⟨S_try np ap cp bp tp2 hp pos hq hg h1.h he ks hs h2.h⟩
theorem add_ok' {c : Cx} {lv : Lv} : W (Op2 c lv (binaryOp .Add) oAdd) := ⟨add_ok⟩
theorem sub_ok' {c : Cx} {lv : Lv} : W (Op2 c lv (binaryOp .Sub) oSub) := ⟨sub_ok⟩
theorem mul_ok' {c : Cx} {lv : Lv} : W (Op2 c lv (binaryOp .Mult) oMul) := ⟨mul_ok⟩
theorem div_ok' {c : Cx} {lv : Lv} : W (Op2 c lv (binaryOp .FloorDiv) oDiv) := ⟨div_ok⟩
theorem mod_ok' {c : Cx} {lv : Lv} : W (Op2 c lv (binaryOp .Mod) oMod) := ⟨mod_ok⟩
theorem pow_ok' {c : Cx} {lv : Lv} : W (Op2 c lv (binaryOp .Pow) oPow) := ⟨pow_ok⟩
theorem and_ok' {c : Cx} {lv : Lv} : W (Op2 c lv (binaryOp .BitAnd) oAnd) := ⟨and_ok⟩
theorem xor_ok' {c : Cx} {lv : Lv} : W (Op2 c lv (binaryOp .BitXor) oXor) := ⟨xor_ok⟩
theorem iadd_ok' {c : Cx} {lv : Lv} : W (Op2 c lv (inplaceOp .Add) oAddI) := ⟨iadd_ok⟩
theorem isub_ok' {c : Cx} {lv : Lv} : W (Op2 c lv (inplaceOp .Sub) oSub) := ⟨isub_ok⟩
theorem neg_ok' {c : Cx} {lv : Lv} : W (Op1 c lv (unaryOp .USub) oNeg) := ⟨neg_ok⟩
theorem eq_ok' {c : Cx} {lv : Lv} : W (Cm c lv .Eq eqv2) := ⟨eq_ok⟩
theorem ne_ok' {c : Cx} {lv : Lv} : W (Cm c lv .NotEq nev2) := ⟨ne_ok⟩
theorem in_ok' {c : Cx} {lv : Lv} : W (Cm c lv .In in2) := ⟨in_ok⟩
theorem notIn_ok' {c : Cx} {lv : Lv} : W (Cm c lv .NotIn ninL) := ⟨notIn_ok⟩
theorem is_ok' {c : Cx} {lv : Lv} : W (Cm c lv .Is is2) := ⟨is_ok⟩
theorem isNot_ok' {c : Cx} {lv : Lv} : W (Cm c lv .IsNot nis2) := ⟨isNot_ok⟩
theorem lt_ok' {c : Cx} {lv : Lv} : W (Cm c lv .Lt lt2) := ⟨lt_ok⟩
theorem tr_ok' {c : Cx} {lv : Lv} : W (TrOk c lv tr) := ⟨tr_ok⟩
theorem set_ok' {c : Cx} {lv : Lv} : W (Sti c lv oSet) := ⟨set_ok⟩
theorem items_ok' {c : Cx} {lv : Lv} (hq : lv.q = true) : W (ItW c lv items) := ⟨items_ok hq⟩
theorem ItW_ok' {c : Cx} {lv : Lv} {itm} (h : W (ItW c lv itm)) (target : Expr) : W (ItOk c lv target itm) := ⟨ItW.ok h.h target⟩
theorem M_append' {c : Cx} {lv : Lv} : W (Mt c lv "append" isList gAppend) := ⟨M_append⟩
theorem M_clear' {c : Cx} {lv : Lv} : W (Mt c lv "clear" isList gClear) := ⟨M_clear⟩
theorem M_pop' {c : Cx} {lv : Lv} : W (Mt c lv "pop" isList gPop) := ⟨M_pop⟩
theorem M_count' {c : Cx} {lv : Lv} : W (Mt c lv "count" isList gCount) := ⟨M_count⟩
theorem M_alnum' {c : Cx} {lv : Lv} : W (Mt c lv "isalnum" isStr gAlnum) := ⟨M_alnum⟩
theorem M_join' {c : Cx} {lv : Lv} : W (Mt c lv "join" isStr gJoin) := ⟨M_join⟩
theorem M_get' {c : Cx} {lv : Lv} : W (Mt c lv "get" isDnod gGet) := ⟨M_get⟩
theorem M_values' {c : Cx} {lv : Lv} : W (Mt c lv "values" isDnod gValues) := ⟨M_values⟩
theorem M_sadd' {c : Cx} {lv : Lv} : W (Mt c lv "add" isSnod gAdd) := ⟨M_sadd⟩
theorem M_trans' {c : Cx} {lv : Lv} (x : Esc c) (hq : lv.q = true) : W (Mt c lv "translate" isStr gTrans) := ⟨M_trans x hq⟩
theorem Mt_inst' {c : Cx} {lv : Lv} {D f : Addr} {nm : Str} {g} (d : DCls c D) (m : DMeth c D nm f) (ha : W (Ap c lv (.ref f) g)) : W (Mt c lv nm (isInst D) g) := ⟨Mt.inst d m ha.h⟩
theorem At_append' {c : Cx} {lv : Lv} : W (At c lv "append" aApp) := ⟨At_append⟩
theorem At_next' {c : Cx} {lv : Lv} : W (At c lv "__next__" aNext) := ⟨At_next⟩
theorem At_inst' {c : Cx} {lv : Lv} {C : Addr} {nm : Str} {j : Nat} (D : DCls c C) (a : DAttr c C nm j) : W (At c lv nm (aInst C j)) := ⟨At_inst D a⟩
theorem At_slot' {c : Cx} {lv : Lv} {C p : Addr} {nm : Str} {j : Nat} (a : SAttr c C nm j p) : W (At c lv nm (aSlot C j)) := ⟨At_slot a⟩
theorem Sta_inst' {c : Cx} {lv : Lv} {C : Addr} {nm : Str} {j : Nat} (D : DCls c C) (a : DAttr c C nm j) : W (Sta c lv nm (sInst C j)) := ⟨Sta_inst D a⟩
theorem Sta_slot' {c : Cx} {lv : Lv} {C p : Addr} {nm : Str} {j : Nat} (a : SAttr c C nm j p) : W (Sta c lv nm (sSlot C j)) := ⟨Sta_slot a⟩
theorem append_b' {c : Cx} {lv : Lv} : W (ApB c lv "list.append" gAppend) := ⟨append_b⟩
theorem len_ap' {c : Cx} {lv : Lv} : W (Ap c lv (.builtin "len") gLen) := ⟨len_ap⟩
theorem range_ap' {c : Cx} {lv : Lv} : W (Ap c lv (.type "range") gRange) := ⟨range_ap⟩
theorem sumA_ap' {c : Cx} {lv : Lv} (hq : lv.q = true) : W (Ap c lv (.builtin "sum") gSumA) := ⟨sumA_ap hq⟩
theorem isinstance_ap' {c : Cx} {lv : Lv} : W (Ap c lv (.builtin "isinstance") gIsStr) := ⟨isinstance_ap⟩
theorem tuple_ap' {c : Cx} {lv : Lv} : W (Ap c lv (.type "tuple") gTuple) := ⟨tuple_ap⟩
theorem iter_ap' {c : Cx} {lv : Lv} : W (Ap c lv (.builtin "iter") gIter) := ⟨iter_ap⟩
theorem set_ap' {c : Cx} {lv : Lv} : W (Ap c lv (.type "set") gSet) := ⟨set_ap⟩
theorem bool_ap' {c : Cx} {lv : Lv} : W (Ap c lv (.type "bool") gBool) := ⟨bool_ap⟩
theorem obj_ap' {c : Cx} {lv : Lv} : W (Ap c lv (.type "object") gObj) := ⟨obj_ap⟩
theorem sorted_ap' {c : Cx} {lv : Lv} {lt : Nat → Nat → Bool} (o : NodeOrd c lt) : W (Ap c lv (.builtin "sorted") (gSorted lt)) := ⟨sorted_ap o⟩
theorem ApC_ap' {c : Cx} {lv : Lv} {f : Value} {g} (h : W (ApC c lv f g)) : W (Ap c lv f g) := ⟨ApC.ap h.h⟩
theorem fn_apc' {c : Cx} {n : Nat} {q : Bool} {a : Addr} {name qual : Str} {params : Arguments} {body : List Stmt} {scope : Scope} {dV kV doc pm cdv ct oc : Value} {an od : Option Addr} {osl : Array (Option Value)} {C : SC} {f : Cs} {np : Nat} {bd : List PV → Option (List PV)} (ho : c.K.lookup a = some ⟨oc, od, .func (fnOf name qual params body scope dV kV doc pm an cdv ct), osl⟩) (hcd : codeIn c.K cdv qual = true) (hC : C.names = scope.names) (hnd : C.slots.Nodup) (hnp : np ≤ C.slots.length) (hpk : ∀ x ∈ C.slots.take np, scope.names.lookup x = some .local ∨ scope.names.lookup x = some .cell) (hcn : ((cellsFrom 0 scope.names []).map (·.1)).Nodup) (hnf : ∀ x ∈ scope.names, x.2 ≠ .free) (hb : BindsOk c (fnOf name qual params body scope dV kV doc pm an cdv ct) (C.slots.take np) bd) (hlen : ∀ ds ds', bd ds = some ds' → ds'.length = np) (hbody : W (Xs c ⟨n, q⟩ C (execs body) f)) (hco : scope.isCoroutine = false) (hgen : scope.isGenerator = false) (hk : scope.kind = .function) : W (ApC c ⟨n + 1, q⟩ (.ref a) (cFn C.slots.length bd f)) := ⟨fn_apc ho hcd hC hnd hnp hpk hcn hnf hb hlen hbody.h hco hgen hk⟩
end Mine
end
section
set_option tactic.hygienic false
open PySem PySem.W PyProof.Rows PySem.Calls
set_option maxRecDepth 100000
set_option maxHeartbeats 0
namespace Mine
noncomputable def D_imode : Cs := cRet (cBin oAnd (cLoc 0) (cVal (.int 4095)))
noncomputable abbrev F_imode : Fn := cFn 1 (bd 1) (D_imode )
theorem imode_apc {c : Cx} (hK : KK c) (n : Nat) : W (ApC c ⟨n + 1, true⟩ (.ref 203) (F_imode )) := by
  refine' fn_apc' (C := ⟨_, [Str.ofString "mode"]⟩) (np := 1) (bd := bd 1) (by rw [hK]; rfl) (by rw [hK]; kernel_rfl) rfl (by decide) (by decide) ?h1 ?h2 ?h3 (binds_n ?h4) bd_len ?h5 rfl rfl rfl
  case h1 => decide
  case h2 => decide
  case h3 => decide
  case h4 => intro vs hv; match vs, hv with | [_], _ => rfl
  case h5 => exact S_one' (S_ret' _ (R_bin' _ (R_loc' 0 _ _ (by kernel_rfl)) (R_int' _ _ _) and_ok'))
noncomputable def D_ifmt : Cs := cRet (cBin oAnd (cLoc 0) (cVal (.int 61440)))
noncomputable abbrev F_ifmt : Fn := cFn 1 (bd 1) (D_ifmt )
theorem ifmt_apc {c : Cx} (hK : KK c) (n : Nat) : W (ApC c ⟨n + 1, true⟩ (.ref 210) (F_ifmt )) := by
  refine' fn_apc' (C := ⟨_, [Str.ofString "mode"]⟩) (np := 1) (bd := bd 1) (by rw [hK]; rfl) (by rw [hK]; kernel_rfl) rfl (by decide) (by decide) ?h1 ?h2 ?h3 (binds_n ?h4) bd_len ?h5 rfl rfl rfl
  case h1 => decide
  case h2 => decide
  case h3 => decide
  case h4 => intro vs hv; match vs, hv with | [_], _ => rfl
  case h5 => exact S_one' (S_ret' _ (R_bin' _ (R_loc' 0 _ _ (by kernel_rfl)) (R_int' _ _ _) and_ok'))
noncomputable def D_pattern : Cs := cSeq (cSet 1 (cLstO (lCons (cVal (.str (Str.ofString "?"))) (lCons (cVal (.str (Str.ofString "-"))) (lCons (cVal (.str (Str.ofString "x"))) (lCons (cVal (.str (Str.ofString "-"))) (lCons (cVal (.str (Str.ofString "?"))) (lCons (cVal (.str (Str.ofString "-"))) (lCons (cVal (.str (Str.ofString "r"))) (lCons (cVal (.str (Str.ofString "-"))) (lCons (cVal (.str (Str.ofString "?"))) (lNil)))))))))))) (cSeq (cFor items (cLoc 0) (fun d st => st.put 2 d) (cSeq (cSet 3 (cBin oGet (cLst (lCons (cVal (.str (Str.ofString "-"))) (lCons (cBin oGet (cVal (.str (Str.ofString "rwx"))) (cBin oMod (cBin oMod (cLoc 2) (cVal (.int 9))) (cVal (.int 3)))) (lCons (cVal (.str (Str.ofString "?"))) (lNil))))) (cBin oMod (cBin oDiv (cLoc 2) (cVal (.int 9))) (cVal (.int 3))))) (cIf (cOr (cCmp nev2 (cLoc 3) (cVal (.str (Str.ofString "?")))) (cCmp lt2 (cMeth isList gCount (cLoc 1) (lCons (cVal (.str (Str.ofString "?"))) (lNil))) (cVal (.int 4)))) (cAsg (aSub oSet (cLoc 1) (cBin oMod (cLoc 2) (cVal (.int 9)))) (cLoc 3)) (cSkip))) (cSkip)) (cRet (cLoc 1)))
noncomputable abbrev F_pattern : Fn := cFn 4 (bd 1) (D_pattern )
theorem pattern_apc {c : Cx} (hK : KK c) (n : Nat) : W (ApC c ⟨n + 1, true⟩ (.ref 257) (F_pattern )) := by
  refine' fn_apc' (C := ⟨_, [Str.ofString "numbers", Str.ofString "places", Str.ofString "x", Str.ofString "sign"]⟩) (np := 1) (bd := bd 1) (by rw [hK]; rfl) (by rw [hK]; kernel_rfl) rfl (by decide) (by decide) ?h1 ?h2 ?h3 (binds_n ?h4) bd_len ?h5 rfl rfl rfl
  case h1 => decide
  case h2 => decide
  case h3 => decide
  case h4 => intro vs hv; match vs, hv with | [_], _ => rfl
  case h5 => exact S_cons' (S_set' (i := 1) _ _ (R_listO' _ (E_cons' (R_str' _ _ _) (E_cons' (R_str' _ _ _) (E_cons' (R_str' _ _ _) (E_cons' (R_str' _ _ _) (E_cons' (R_str' _ _ _) (E_cons' (R_str' _ _ _) (E_cons' (R_str' _ _ _) (E_cons' (R_str' _ _ _) (E_cons' (R_str' _ _ _) (E_nil') (fun _ => rfl)) (fun _ => rfl)) (fun _ => rfl)) (fun _ => rfl)) (fun _ => rfl)) (fun _ => rfl)) (fun _ => rfl)) (fun _ => rfl)) (fun _ => rfl))) (by kernel_rfl) (fun _ => rfl)) (S_cons' (S_for' _ (R_loc' 0 _ _ (by kernel_rfl)) (ItW_ok' (items_ok' rfl) _) (A_name' (i := 2) _ (by kernel_rfl)) (S_cons' (S_set' (i := 3) _ _ (R_sub' _ (R_list' _ (E_cons' (R_str' _ _ _) (E_cons' (R_sub' _ (R_str' _ _ _) (R_bin' _ (R_bin' _ (R_loc' 2 _ _ (by kernel_rfl)) (R_int' _ _ _) mod_ok') (R_int' _ _ _) mod_ok')) (E_cons' (R_str' _ _ _) (E_nil') (fun _ => rfl)) (fun _ => rfl)) (fun _ => rfl))) (R_bin' _ (R_bin' _ (R_loc' 2 _ _ (by kernel_rfl)) (R_int' _ _ _) div_ok') (R_int' _ _ _) mod_ok')) (by kernel_rfl) (fun _ => rfl)) (S_one' (S_if' _ (T_or' _ (T_cmp' _ (R_loc' 3 _ _ (by kernel_rfl)) (R_str' _ _ _) ne_ok' rfl) (T_cmp' _ (R_meth' _ _ (fun _ => rfl) (fun _ => rfl) (by decide) rfl (R_loc' 1 _ _ (by kernel_rfl)) M_count' (G_plain' (E_cons' (R_str' _ _ _) (E_nil') (fun _ => rfl)) (fun _ => rfl))) (R_int' _ _ _) lt_ok' rfl)) (S_one' (S_asg' (R_loc' 3 _ _ (by kernel_rfl)) (Tg_one' (A_sub' _ (R_loc' 1 _ _ (by kernel_rfl)) (R_bin' _ (R_loc' 2 _ _ (by kernel_rfl)) (R_int' _ _ _) mod_ok') set_ok')) (fun _ _ _ => rfl) (fun _ _ _ => rfl) (fun _ => rfl))) (S_nil')))) (S_nil') (fun _ _ => rfl)) (S_one' (S_ret' _ (R_loc' 1 _ _ (by kernel_rfl)))))
noncomputable def D_written : Cs := cSeq (cSet 1 (cBin oGet (cDict (dCons 4 (cVal (.str (Str.ofString "d"))) (dCons 8 (cVal (.str (Str.ofString "-"))) (dCons 6 (cVal (.str (Str.ofString "b"))) (dCons 10 (cVal (.str (Str.ofString "l"))) (dCons 12 (cVal (.str (Str.ofString "s"))) (dNil))))))) (cBin oDiv (cLoc 0) (cVal (.int 4096))))) (cSeq (cFor items (cLst (lCons (cTup (lCons (cVal (.int 64)) (lCons (cVal (.int 2048)) (lCons (cVal (.str (Str.ofString "-xSs"))) (lNil))))) (lCons (cTup (lCons (cVal (.int 8)) (lCons (cVal (.int 1024)) (lCons (cVal (.str (Str.ofString "-xSs"))) (lNil))))) (lCons (cTup (lCons (cVal (.int 1)) (lCons (cVal (.int 512)) (lCons (cVal (.str (Str.ofString "-xTt"))) (lNil))))) (lNil))))) (aTup 3 (aCons (fun d st => st.put 2 d) (aCons (fun d st => st.put 3 d) (aCons (fun d st => st.put 4 d) (aNil))))) (cSeq (cSet 1 (cBin oAdd (cBin oAdd (cLoc 1) (cBin oGet (cVal (.str (Str.ofString "-r"))) (cBin oMod (cBin oDiv (cBin oDiv (cLoc 0) (cLoc 2)) (cVal (.int 4))) (cVal (.int 2))))) (cBin oGet (cVal (.str (Str.ofString "-w"))) (cBin oMod (cBin oDiv (cBin oDiv (cLoc 0) (cLoc 2)) (cVal (.int 2))) (cVal (.int 2)))))) (cSet 1 (cBin oAdd (cLoc 1) (cBin oGet (cLoc 4) (cBin oAdd (cBin oMod (cBin oDiv (cLoc 0) (cLoc 2)) (cVal (.int 2))) (cBin oMul (cVal (.int 2)) (cBin oMod (cBin oDiv (cLoc 0) (cLoc 3)) (cVal (.int 2))))))))) (cSkip)) (cRet (cLoc 1)))
noncomputable abbrev F_written : Fn := cFn 5 (bd 1) (D_written )
theorem written_apc {c : Cx} (hK : KK c) (n : Nat) : W (ApC c ⟨n + 1, true⟩ (.ref 264) (F_written )) := by
  refine' fn_apc' (C := ⟨_, [Str.ofString "held", Str.ofString "row", Str.ofString "right", Str.ofString "above", Str.ofString "signs"]⟩) (np := 1) (bd := bd 1) (by rw [hK]; rfl) (by rw [hK]; kernel_rfl) rfl (by decide) (by decide) ?h1 ?h2 ?h3 (binds_n ?h4) bd_len ?h5 rfl rfl rfl
  case h1 => decide
  case h2 => decide
  case h3 => decide
  case h4 => intro vs hv; match vs, hv with | [_], _ => rfl
  case h5 => exact S_cons' (S_set' (i := 1) _ _ (R_sub' _ (R_dict' _ (by rfl) (by rfl) (by simp) (by decide) (D_cons' _ _ _ (R_str' _ _ _) (D_cons' _ _ _ (R_str' _ _ _) (D_cons' _ _ _ (R_str' _ _ _) (D_cons' _ _ _ (R_str' _ _ _) (D_cons' _ _ _ (R_str' _ _ _) (D_nil' _))))))) (R_bin' _ (R_loc' 0 _ _ (by kernel_rfl)) (R_int' _ _ _) div_ok')) (by kernel_rfl) (fun _ => rfl)) (S_cons' (S_for' _ (R_list' _ (E_cons' (R_tuple' _ _ (E_cons' (R_int' _ _ _) (E_cons' (R_int' _ _ _) (E_cons' (R_str' _ _ _) (E_nil') (fun _ => rfl)) (fun _ => rfl)) (fun _ => rfl))) (E_cons' (R_tuple' _ _ (E_cons' (R_int' _ _ _) (E_cons' (R_int' _ _ _) (E_cons' (R_str' _ _ _) (E_nil') (fun _ => rfl)) (fun _ => rfl)) (fun _ => rfl))) (E_cons' (R_tuple' _ _ (E_cons' (R_int' _ _ _) (E_cons' (R_int' _ _ _) (E_cons' (R_str' _ _ _) (E_nil') (fun _ => rfl)) (fun _ => rfl)) (fun _ => rfl))) (E_nil') (fun _ => rfl)) (fun _ => rfl)) (fun _ => rfl))) (ItW_ok' (items_ok' rfl) _) (A_tup' _ _ 3 rfl (Asl_cons' (A_name' (i := 2) _ (by kernel_rfl)) (Asl_cons' (A_name' (i := 3) _ (by kernel_rfl)) (Asl_cons' (A_name' (i := 4) _ (by kernel_rfl)) (Asl_nil') (fun _ => rfl)) (fun _ => rfl)) (fun _ => rfl)) (fun _ => ⟨rfl, rfl⟩)) (S_cons' (S_set' (i := 1) _ _ (R_bin' _ (R_bin' _ (R_loc' 1 _ _ (by kernel_rfl)) (R_sub' _ (R_str' _ _ _) (R_bin' _ (R_bin' _ (R_bin' _ (R_loc' 0 _ _ (by kernel_rfl)) (R_loc' 2 _ _ (by kernel_rfl)) div_ok') (R_int' _ _ _) div_ok') (R_int' _ _ _) mod_ok')) add_ok') (R_sub' _ (R_str' _ _ _) (R_bin' _ (R_bin' _ (R_bin' _ (R_loc' 0 _ _ (by kernel_rfl)) (R_loc' 2 _ _ (by kernel_rfl)) div_ok') (R_int' _ _ _) div_ok') (R_int' _ _ _) mod_ok')) add_ok') (by kernel_rfl) (fun _ => rfl)) (S_one' (S_set' (i := 1) _ _ (R_bin' _ (R_loc' 1 _ _ (by kernel_rfl)) (R_sub' _ (R_loc' 4 _ _ (by kernel_rfl)) (R_bin' _ (R_bin' _ (R_bin' _ (R_loc' 0 _ _ (by kernel_rfl)) (R_loc' 2 _ _ (by kernel_rfl)) div_ok') (R_int' _ _ _) mod_ok') (R_bin' _ (R_int' _ _ _) (R_bin' _ (R_bin' _ (R_loc' 0 _ _ (by kernel_rfl)) (R_loc' 3 _ _ (by kernel_rfl)) div_ok') (R_int' _ _ _) mod_ok') mul_ok') add_ok')) add_ok') (by kernel_rfl) (fun _ => rfl)))) (S_nil') (fun _ _ => rfl)) (S_one' (S_ret' _ (R_loc' 1 _ _ (by kernel_rfl)))))
noncomputable def D_fits : Cs := cSeq (cIf (cOr (cCmp nev2 (cSlc (cLoc 0) (pNone) (pSome (cVal (.int 4)))) (cVal (.str (Str.ofString "(?s:")))) (cCmp nev2 (cSlc (cLoc 0) (pSome (cUn oNeg (cVal (.int 3)))) (pNone)) (cVal (.str (Str.ofString ")\\Z"))))) (cRet (cVal (.bool false))) (cSkip)) (cSeq (cSwap 2 3 (cTup (lCons (cSlc (cLoc 0) (pSome (cVal (.int 4))) (pSome (cUn oNeg (cVal (.int 3))))) (lCons (cVal (.int 0)) (lNil))))) (cSeq (cFor items (cLoc 1) (fun d st => st.put 4 d) (cSeq (cIf (cCmp eqv2 (cLoc 3) (cCall (gLen) (lCons (cLoc 2) (lNil)))) (cRet (cVal (.bool false))) (cSkip)) (cSeq (cIf (cAnd (cCmp eqv2 (cBin oGet (cLoc 2) (cLoc 3)) (cVal (.str (Str.ofString "\\")))) (cNot (cTr tr (cMeth isStr gAlnum (cBin oGet (cLoc 2) (cBin oAdd (cLoc 3) (cVal (.int 1)))) (lNil))))) (cSet 3 (cBin oAdd (cLoc 3) (cVal (.int 1)))) (cIf (cCmp eqv2 (cBin oGet (cLoc 2) (cLoc 3)) (cVal (.str (Str.ofString ".")))) (cSet 4 (cVal (.str (Str.ofString ".")))) (cSkip))) (cSeq (cIf (cCmp nev2 (cBin oGet (cLoc 2) (cLoc 3)) (cLoc 4)) (cRet (cVal (.bool false))) (cSkip)) (cSet 3 (cBin oAdd (cLoc 3) (cVal (.int 1))))))) (cSkip)) (cRet (cBin (fun σ a b => (eqv2 σ a b).map .bool) (cLoc 3) (cCall (gLen) (lCons (cLoc 2) (lNil)))))))
noncomputable abbrev F_fits : Fn := cFn 5 (bd 2) (D_fits )
theorem fits_apc {c : Cx} (hK : KK c) (n : Nat) : W (ApC c ⟨n + 1, true⟩ (.ref 271) (F_fits )) := by
  refine' fn_apc' (C := ⟨_, [Str.ofString "made", Str.ofString "row", Str.ofString "text", Str.ofString "place", Str.ofString "sign"]⟩) (np := 2) (bd := bd 2) (by rw [hK]; rfl) (by rw [hK]; kernel_rfl) rfl (by decide) (by decide) ?h1 ?h2 ?h3 (binds_n ?h4) bd_len ?h5 rfl rfl rfl
  case h1 => decide
  case h2 => decide
  case h3 => decide
  case h4 => intro vs hv; match vs, hv with | [_, _], _ => rfl
  case h5 => exact S_cons' (S_if' _ (T_or' _ (T_cmp' _ (R_slice' _ _ (R_loc' 0 _ _ (by kernel_rfl)) (P_none') (P_some' (R_int' _ _ _))) (R_str' _ _ _) ne_ok' rfl) (T_cmp' _ (R_slice' _ _ (R_loc' 0 _ _ (by kernel_rfl)) (P_some' (R_un' _ (R_int' _ _ _) neg_ok')) (P_none')) (R_str' _ _ _) ne_ok' rfl)) (S_one' (S_ret' _ (R_bool' _ _ _))) (S_nil')) (S_cons' (S_swap' (x := Str.ofString "text") (y := Str.ofString "place") (i := 2) (j := 3) rfl (R_tuple' _ _ (E_cons' (R_slice' _ _ (R_loc' 0 _ _ (by kernel_rfl)) (P_some' (R_int' _ _ _)) (P_some' (R_un' _ (R_int' _ _ _) neg_ok'))) (E_cons' (R_int' _ _ _) (E_nil') (fun _ => rfl)) (fun _ => rfl))) (by kernel_rfl) (by kernel_rfl) (fun _ => rfl) (ss_is (by kernel_rfl))) (S_cons' (S_for' _ (R_loc' 1 _ _ (by kernel_rfl)) (ItW_ok' (items_ok' rfl) _) (A_name' (i := 4) _ (by kernel_rfl)) (S_cons' (S_if' _ (T_cmp' _ (R_loc' 3 _ _ (by kernel_rfl)) (R_call' (v := .builtin "len") (g := gLen) _ _ ⟨by kernel_rfl, by kernel_rfl, .inr ⟨by rw [hK]; kernel_rfl, by kernel_rfl, by decide⟩⟩ (.inl ⟨_, rfl⟩) len_ap' (G_plain' (E_cons' (R_loc' 2 _ _ (by kernel_rfl)) (E_nil') (fun _ => rfl)) (fun _ => rfl))) eq_ok' rfl) (S_one' (S_ret' _ (R_bool' _ _ _))) (S_nil')) (S_cons' (S_if' _ (T_and' _ (T_cmp' _ (R_sub' _ (R_loc' 2 _ _ (by kernel_rfl)) (R_loc' 3 _ _ (by kernel_rfl))) (R_str' _ _ _) eq_ok' rfl) (T_not' _ (T_val' (R_meth' _ _ (fun _ => rfl) (fun _ => rfl) (by decide) rfl (R_sub' _ (R_loc' 2 _ _ (by kernel_rfl)) (R_bin' _ (R_loc' 3 _ _ (by kernel_rfl)) (R_int' _ _ _) add_ok')) M_alnum' (G_nil')) tr_ok' rfl))) (S_one' (S_set' (i := 3) _ _ (R_bin' _ (R_loc' 3 _ _ (by kernel_rfl)) (R_int' _ _ _) add_ok') (by kernel_rfl) (fun _ => rfl))) (S_one' (S_if' _ (T_cmp' _ (R_sub' _ (R_loc' 2 _ _ (by kernel_rfl)) (R_loc' 3 _ _ (by kernel_rfl))) (R_str' _ _ _) eq_ok' rfl) (S_one' (S_set' (i := 4) _ _ (R_str' _ _ _) (by kernel_rfl) (fun _ => rfl))) (S_nil')))) (S_cons' (S_if' _ (T_cmp' _ (R_sub' _ (R_loc' 2 _ _ (by kernel_rfl)) (R_loc' 3 _ _ (by kernel_rfl))) (R_loc' 4 _ _ (by kernel_rfl)) ne_ok' rfl) (S_one' (S_ret' _ (R_bool' _ _ _))) (S_nil')) (S_one' (S_set' (i := 3) _ _ (R_bin' _ (R_loc' 3 _ _ (by kernel_rfl)) (R_int' _ _ _) add_ok') (by kernel_rfl) (fun _ => rfl)))))) (S_nil') (fun _ _ => rfl)) (S_one' (S_ret' _ (R_cmpb' _ (R_loc' 3 _ _ (by kernel_rfl)) (R_call' (v := .builtin "len") (g := gLen) _ _ ⟨by kernel_rfl, by kernel_rfl, .inr ⟨by rw [hK]; kernel_rfl, by kernel_rfl, by decide⟩⟩ (.inl ⟨_, rfl⟩) len_ap' (G_plain' (E_cons' (R_loc' 2 _ _ (by kernel_rfl)) (E_nil') (fun _ => rfl)) (fun _ => rfl))) eq_ok' rfl)))))
end Mine
end
section
set_option tactic.hygienic false
open PySem PySem.W PyProof.Rows PySem.Calls
set_option maxRecDepth 100000
namespace Mine
theorem wpAny_loadK {α : Type} {M : Model} {A : Around} {E : Value → Shared → Prop} {s : Shared} {a : Addr} {o : Obj} {k : Obj → Sem α} {Q : α → Shared → Prop} (ho : s.heap.get? a = some o) (h : wpAny M A (k o) Q E s) :
    wpAny M A (Sem.load a none k) Q E s := by
  have : Sem.load a none k = (load a >>= k) := rfl
  rw [this]
  exact wpAny_bind (wpAny_load ho h)
noncomputable def bdN (n : Nat) : List PV → Option (List PV) := fun ds => if ds.length = n then some (ds ++ [.none]) else none
theorem bdN_len {n : Nat} : ∀ ds ds', bdN n ds = some ds' → ds'.length = n + 1 := by
  intro ds ds' e
  unfold bdN at e
  split at e
  · obtain rfl := soJ e; simp [*]
  · exact noS e
theorem binds_d {c : Cx} {fd : FuncData} {names : List Str} {n : Nat} {a : Addr} {o : Obj} (ho : c.K.lookup a = some o)
    (h : ∀ vs : List Value, vs.length = n → ∃ k, bindArgs fd ⟨vs, []⟩ = Sem.load a none k ∧ k o = pure (names.zip (vs ++ [.none]))) : BindsOk c fd names (bdN n) := by
  intro A X μ s ds vs ds' Q E l f rs e q
  unfold bdN at e
  split at e
  case isFalse => exact noS e
  rename_i hn
  obtain rfl := soJ e
  obtain ⟨k, e1, e2⟩ := h vs (by rw [← rs.length]; exact hn)
  rw [e1]
  refine wpAny_loadK (l _ _ (c.inK _ _ ho)) ?_
  rw [e2]
  exact wpAny_pure (q s.heap s.toks _ (.refl _) (rs.app (.one .none)))
noncomputable def bdV (n : Nat) : List PV → Option (List PV) := fun ds => if n ≤ ds.length ∧ ds.length ≤ 4096 then some (ds.take n ++ [.tup (ds.drop n)]) else none
theorem bdV_len {n : Nat} : ∀ ds ds', bdV n ds = some ds' → ds'.length = n + 1 := by
  intro ds ds' e
  unfold bdV at e
  split at e
  · obtain rfl := soJ e; simp; lia
  · exact noS e
theorem binds_v {c : Cx} {fd : FuncData} {names : List Str} {n : Nat}
    (h : ∀ vs : List Value, n ≤ vs.length → bindArgs fd ⟨vs, []⟩ = (newTuple (vs.drop n) >>= fun t => pure (names.zip (vs.take n ++ [t])))) : BindsOk c fd names (bdV n) := by
  intro A X μ s ds vs ds' Q E l f rs e q
  unfold bdV at e
  split at e
  case isFalse => exact noS e
  rename_i hn
  obtain rfl := soJ e
  rw [h vs (by rw [← rs.length]; exact hn.1)]
  refine wpAny_bind ?_
  unfold newTuple
  refine wpAny_newObj_type (wpAny_pure ?_) (hd := by have := rs.length; show (List.drop n vs).toArray.size ≤ _; rw [List.size_toArray, List.length_drop]; refine Nat.le_trans (Nat.sub_le _ _) (Nat.le_trans (this ▸ hn.2) (by decide)))
  have le := Le.push s.heap { cls := .type "tuple", data := .seq (vs.drop n).toArray }
  exact q _ s.toks _ le (((rs.take n).le le).app (.one (.tup ⟨_, Heap.get?_push_size _ rfl, rfl, _, rfl⟩ f ((rs.drop n).le le))))
end Mine
end
section
set_option tactic.hygienic false
open PySem PySem.W PyProof.Rows PySem.Calls
set_option maxRecDepth 100000
set_option maxHeartbeats 0
namespace Mine
noncomputable def FTL : List (List (Int × Str)) := [[(40960, (Str.ofString "l")), (49152, (Str.ofString "s")), (32768, (Str.ofString "-")), (24576, (Str.ofString "b")), (16384, (Str.ofString "d")), (8192, (Str.ofString "c")), (4096, (Str.ofString "p"))], [(256, (Str.ofString "r"))], [(128, (Str.ofString "w"))], [(2112, (Str.ofString "s")), (2048, (Str.ofString "S")), (64, (Str.ofString "x"))], [(32, (Str.ofString "r"))], [(16, (Str.ofString "w"))], [(1032, (Str.ofString "s")), (1024, (Str.ofString "S")), (8, (Str.ofString "x"))], [(4, (Str.ofString "r"))], [(2, (Str.ofString "w"))], [(513, (Str.ofString "t")), (512, (Str.ofString "T")), (1, (Str.ofString "x"))]]
noncomputable def FT : PV := .tup (FTL.map fun r => .tup (r.map fun p => .tup [.int p.1, .str p.2]))
theorem vr_tup {c : Cx} {X μ : List Addr} {h : Heap} {a : Addr} {o : Obj} {vs : List Value} {n : Nat} {xs : List PV} (hb : ∀ b o, c.b0.get? b = some o → h.get? b = some o ∧ b ∉ X) (ho : c.K.lookup a = some o) (rs : VRs c X h μ xs vs) (hc : o.cls = .type "tuple")
    (hd : o.data = .seq vs.toArray n) : VR c X h μ (.tup xs) (.ref a) := .tup ⟨o, (hb a o (c.inK _ _ ho)).1, hc, n, hd⟩ (hb a o (c.inK _ _ ho)).2 rs
theorem ft_vr {c : Cx} (hK : KK c) : ∀ X μ h, (∀ b o, c.b0.get? b = some o → h.get? b = some o ∧ b ∉ X) → VR c X h μ FT (.ref 243) := fun X μ h hb => vr_tup (a := 243) hb (by rw [hK]; rfl) (.cons (vr_tup (a := 218) hb (by rw [hK]; rfl) (.cons (vr_tup (a := 211) hb (by rw [hK]; rfl) (.cons (.int 40960 _) (.cons (.str (Str.ofString "l") _) (.nil))) (by rfl) (by rfl)) (.cons (vr_tup (a := 212) hb (by rw [hK]; rfl) (.cons (.int 49152 _) (.cons (.str (Str.ofString "s") _) (.nil))) (by rfl) (by rfl)) (.cons (vr_tup (a := 213) hb (by rw [hK]; rfl) (.cons (.int 32768 _) (.cons (.str (Str.ofString "-") _) (.nil))) (by rfl) (by rfl)) (.cons (vr_tup (a := 214) hb (by rw [hK]; rfl) (.cons (.int 24576 _) (.cons (.str (Str.ofString "b") _) (.nil))) (by rfl) (by rfl)) (.cons (vr_tup (a := 215) hb (by rw [hK]; rfl) (.cons (.int 16384 _) (.cons (.str (Str.ofString "d") _) (.nil))) (by rfl) (by rfl)) (.cons (vr_tup (a := 216) hb (by rw [hK]; rfl) (.cons (.int 8192 _) (.cons (.str (Str.ofString "c") _) (.nil))) (by rfl) (by rfl)) (.cons (vr_tup (a := 217) hb (by rw [hK]; rfl) (.cons (.int 4096 _) (.cons (.str (Str.ofString "p") _) (.nil))) (by rfl) (by rfl)) (.nil)))))))) (by rfl) (by rfl)) (.cons (vr_tup (a := 220) hb (by rw [hK]; rfl) (.cons (vr_tup (a := 219) hb (by rw [hK]; rfl) (.cons (.int 256 _) (.cons (.str (Str.ofString "r") _) (.nil))) (by rfl) (by rfl)) (.nil)) (by rfl) (by rfl)) (.cons (vr_tup (a := 222) hb (by rw [hK]; rfl) (.cons (vr_tup (a := 221) hb (by rw [hK]; rfl) (.cons (.int 128 _) (.cons (.str (Str.ofString "w") _) (.nil))) (by rfl) (by rfl)) (.nil)) (by rfl) (by rfl)) (.cons (vr_tup (a := 226) hb (by rw [hK]; rfl) (.cons (vr_tup (a := 223) hb (by rw [hK]; rfl) (.cons (.int 2112 _) (.cons (.str (Str.ofString "s") _) (.nil))) (by rfl) (by rfl)) (.cons (vr_tup (a := 224) hb (by rw [hK]; rfl) (.cons (.int 2048 _) (.cons (.str (Str.ofString "S") _) (.nil))) (by rfl) (by rfl)) (.cons (vr_tup (a := 225) hb (by rw [hK]; rfl) (.cons (.int 64 _) (.cons (.str (Str.ofString "x") _) (.nil))) (by rfl) (by rfl)) (.nil)))) (by rfl) (by rfl)) (.cons (vr_tup (a := 228) hb (by rw [hK]; rfl) (.cons (vr_tup (a := 227) hb (by rw [hK]; rfl) (.cons (.int 32 _) (.cons (.str (Str.ofString "r") _) (.nil))) (by rfl) (by rfl)) (.nil)) (by rfl) (by rfl)) (.cons (vr_tup (a := 230) hb (by rw [hK]; rfl) (.cons (vr_tup (a := 229) hb (by rw [hK]; rfl) (.cons (.int 16 _) (.cons (.str (Str.ofString "w") _) (.nil))) (by rfl) (by rfl)) (.nil)) (by rfl) (by rfl)) (.cons (vr_tup (a := 234) hb (by rw [hK]; rfl) (.cons (vr_tup (a := 231) hb (by rw [hK]; rfl) (.cons (.int 1032 _) (.cons (.str (Str.ofString "s") _) (.nil))) (by rfl) (by rfl)) (.cons (vr_tup (a := 232) hb (by rw [hK]; rfl) (.cons (.int 1024 _) (.cons (.str (Str.ofString "S") _) (.nil))) (by rfl) (by rfl)) (.cons (vr_tup (a := 233) hb (by rw [hK]; rfl) (.cons (.int 8 _) (.cons (.str (Str.ofString "x") _) (.nil))) (by rfl) (by rfl)) (.nil)))) (by rfl) (by rfl)) (.cons (vr_tup (a := 236) hb (by rw [hK]; rfl) (.cons (vr_tup (a := 235) hb (by rw [hK]; rfl) (.cons (.int 4 _) (.cons (.str (Str.ofString "r") _) (.nil))) (by rfl) (by rfl)) (.nil)) (by rfl) (by rfl)) (.cons (vr_tup (a := 238) hb (by rw [hK]; rfl) (.cons (vr_tup (a := 237) hb (by rw [hK]; rfl) (.cons (.int 2 _) (.cons (.str (Str.ofString "w") _) (.nil))) (by rfl) (by rfl)) (.nil)) (by rfl) (by rfl)) (.cons (vr_tup (a := 242) hb (by rw [hK]; rfl) (.cons (vr_tup (a := 239) hb (by rw [hK]; rfl) (.cons (.int 513 _) (.cons (.str (Str.ofString "t") _) (.nil))) (by rfl) (by rfl)) (.cons (vr_tup (a := 240) hb (by rw [hK]; rfl) (.cons (.int 512 _) (.cons (.str (Str.ofString "T") _) (.nil))) (by rfl) (by rfl)) (.cons (vr_tup (a := 241) hb (by rw [hK]; rfl) (.cons (.int 1 _) (.cons (.str (Str.ofString "x") _) (.nil))) (by rfl) (by rfl)) (.nil)))) (by rfl) (by rfl)) (.nil))))))))))) (by rfl) (by rfl)
noncomputable def D_filemode : Cs := cSeq (cSet 1 (cLstO (lNil))) (cSeq (cEnum (cVal FT) (aTup 2 (aCons (fun d st => st.put 2 d) (aCons (fun d st => st.put 3 d) (aNil)))) (cFor items (cLoc 3) (aTup 2 (aCons (fun d st => st.put 4 d) (aCons (fun d st => st.put 5 d) (aNil)))) (cIf (cCmp eqv2 (cLoc 2) (cVal (.int 0))) (cIf (cCmp eqv2 (cCall (F_ifmt) (lCons (cLoc 0) (lNil))) (cLoc 4)) (cSeq (cDo (cMeth isList gAppend (cLoc 1) (lCons (cLoc 5) (lNil)))) (cFl .brk)) (cSkip)) (cIf (cCmp eqv2 (cBin oAnd (cLoc 0) (cLoc 4)) (cLoc 4)) (cSeq (cDo (cMeth isList gAppend (cLoc 1) (lCons (cLoc 5) (lNil)))) (cFl .brk)) (cSkip))) (cIf (cCmp eqv2 (cLoc 2) (cVal (.int 0))) (cDo (cMeth isList gAppend (cLoc 1) (lCons (cVal (.str (Str.ofString "?"))) (lNil)))) (cDo (cMeth isList gAppend (cLoc 1) (lCons (cVal (.str (Str.ofString "-"))) (lNil)))))) (cSkip)) (cRet (cMeth isStr gJoin (cVal (.str (Str.ofString ""))) (lCons (cLoc 1) (lNil)))))
noncomputable abbrev F_filemode : Fn := cFn 6 (bd 1) (D_filemode )
theorem filemode_apc {c : Cx} (hK : KK c) (n : Nat) : W (ApC c ⟨n + 2, true⟩ (.ref 250) (F_filemode )) := by
  refine' fn_apc' (C := ⟨_, [Str.ofString "mode", Str.ofString "perm", Str.ofString "index", Str.ofString "table", Str.ofString "bit", Str.ofString "char"]⟩) (np := 1) (bd := bd 1) (by rw [hK]; rfl) (by rw [hK]; kernel_rfl) rfl (by decide) (by decide) ?h1 ?h2 ?h3 (binds_n ?h4) bd_len ?h5 rfl rfl rfl
  case h1 => decide
  case h2 => decide
  case h3 => decide
  case h4 => intro vs hv; match vs, hv with | [_], _ => rfl
  case h5 => exact S_cons' (S_set' (i := 1) _ _ (R_listO' _ (E_nil')) (by kernel_rfl) (fun _ => rfl)) (S_cons' (S_enum' rfl ⟨by kernel_rfl, by kernel_rfl, .inr ⟨by rw [hK]; kernel_rfl, by kernel_rfl, by decide⟩⟩ (R_glob' _ (.ref 243) FT _ ⟨by kernel_rfl, by kernel_rfl, .inl (by rw [hK]; rfl)⟩ (ft_vr hK)) (fun _ => rfl) (A_tup' _ _ 2 rfl (Asl_cons' (A_name' (i := 2) _ (by kernel_rfl)) (Asl_cons' (A_name' (i := 3) _ (by kernel_rfl)) (Asl_nil') (fun _ => rfl)) (fun _ => rfl)) (fun _ => ⟨rfl, rfl⟩)) (S_one' (S_for' _ (R_loc' 3 _ _ (by kernel_rfl)) (ItW_ok' (items_ok' rfl) _) (A_tup' _ _ 2 rfl (Asl_cons' (A_name' (i := 4) _ (by kernel_rfl)) (Asl_cons' (A_name' (i := 5) _ (by kernel_rfl)) (Asl_nil') (fun _ => rfl)) (fun _ => rfl)) (fun _ => ⟨rfl, rfl⟩)) (S_one' (S_if' _ (T_cmp' _ (R_loc' 2 _ _ (by kernel_rfl)) (R_int' _ _ _) eq_ok' rfl) (S_one' (S_if' _ (T_cmp' _ (R_call' (v := .ref 210) (g := F_ifmt) _ _ ⟨by kernel_rfl, by kernel_rfl, .inl (by rw [hK]; rfl)⟩ (.inr (.inr (by rw [hK]; kernel_rfl))) (ApC_ap' (ifmt_apc hK _)) (G_plain' (E_cons' (R_loc' 0 _ _ (by kernel_rfl)) (E_nil') (fun _ => rfl)) (fun _ => rfl))) (R_loc' 4 _ _ (by kernel_rfl)) eq_ok' rfl) (S_cons' (S_do' _ (R_meth' _ _ (fun _ => rfl) (fun _ => rfl) (by decide) rfl (R_loc' 1 _ _ (by kernel_rfl)) M_append' (G_plain' (E_cons' (R_loc' 5 _ _ (by kernel_rfl)) (E_nil') (fun _ => rfl)) (fun _ => rfl))) (fun _ => rfl)) (S_one' (S_brk' _))) (S_nil'))) (S_one' (S_if' _ (T_cmp' _ (R_bin' _ (R_loc' 0 _ _ (by kernel_rfl)) (R_loc' 4 _ _ (by kernel_rfl)) and_ok') (R_loc' 4 _ _ (by kernel_rfl)) eq_ok' rfl) (S_cons' (S_do' _ (R_meth' _ _ (fun _ => rfl) (fun _ => rfl) (by decide) rfl (R_loc' 1 _ _ (by kernel_rfl)) M_append' (G_plain' (E_cons' (R_loc' 5 _ _ (by kernel_rfl)) (E_nil') (fun _ => rfl)) (fun _ => rfl))) (fun _ => rfl)) (S_one' (S_brk' _))) (S_nil'))))) (S_one' (S_if' _ (T_cmp' _ (R_loc' 2 _ _ (by kernel_rfl)) (R_int' _ _ _) eq_ok' rfl) (S_one' (S_do' _ (R_meth' _ _ (fun _ => rfl) (fun _ => rfl) (by decide) rfl (R_loc' 1 _ _ (by kernel_rfl)) M_append' (G_plain' (E_cons' (R_str' _ _ _) (E_nil') (fun _ => rfl)) (fun _ => rfl))) (fun _ => rfl))) (S_one' (S_do' _ (R_meth' _ _ (fun _ => rfl) (fun _ => rfl) (by decide) rfl (R_loc' 1 _ _ (by kernel_rfl)) M_append' (G_plain' (E_cons' (R_str' _ _ _) (E_nil') (fun _ => rfl)) (fun _ => rfl))) (fun _ => rfl))))) (fun _ _ => rfl))) (S_nil') (fun _ _ => rfl)) (S_one' (S_ret' _ (R_meth' _ _ (fun _ => rfl) (fun _ => rfl) (by decide) rfl (R_str' _ _ _) M_join' (G_plain' (E_cons' (R_loc' 1 _ _ (by kernel_rfl)) (E_nil') (fun _ => rfl)) (fun _ => rfl))))))
noncomputable def D_escape : Cs := cIf (cTr tr (cCall (gIsStr) (lCons (cLoc 0) (lCons (cVal (.val (.type "str"))) (lNil))))) (cRet (cMeth isStr gTrans (cLoc 0) (lCons (cVal (.val (.ref 52))) (lNil)))) (cNone)
noncomputable abbrev F_escape : Fn := cFn 1 (bd 1) (D_escape )
theorem escape_apc {c : Cx} (hK : KK c) (n : Nat) : W (ApC c ⟨n + 1, true⟩ (.ref 62) (F_escape )) := by
  refine' fn_apc' (C := ⟨_, [Str.ofString "pattern"]⟩) (np := 1) (bd := bd 1) (by rw [hK]; rfl) (by rw [hK]; kernel_rfl) rfl (by decide) (by decide) ?h1 ?h2 ?h3 (binds_n ?h4) bd_len ?h5 rfl rfl rfl
  case h1 => decide
  case h2 => decide
  case h3 => decide
  case h4 => intro vs hv; match vs, hv with | [_], _ => rfl
  case h5 => exact S_one' (S_if' _ (T_val' (R_call' (v := .builtin "isinstance") (g := gIsStr) _ _ ⟨by kernel_rfl, by kernel_rfl, .inr ⟨by rw [hK]; kernel_rfl, by kernel_rfl, by decide⟩⟩ (.inl ⟨_, rfl⟩) isinstance_ap' (G_plain' (E_cons' (R_loc' 0 _ _ (by kernel_rfl)) (E_cons' (R_gval' _ (.type "str") _ ⟨by kernel_rfl, by kernel_rfl, .inr ⟨by rw [hK]; kernel_rfl, by kernel_rfl, by decide⟩⟩) (E_nil') (fun _ => rfl)) (fun _ => rfl)) (fun _ => rfl))) tr_ok' rfl) (S_one' (S_ret' _ (R_meth' _ _ (fun _ => rfl) (fun _ => rfl) (by decide) rfl (R_loc' 0 _ _ (by kernel_rfl)) (M_trans' (esc_of hK) rfl) (G_plain' (E_cons' (R_gval' _ (.ref 52) _ ⟨by kernel_rfl, by kernel_rfl, .inl (by rw [hK]; rfl)⟩) (E_nil') (fun _ => rfl)) (fun _ => rfl))))) (S_none'))
noncomputable def D_trans : Cs := cSeq (cSet 3 (cLstO (lNil))) (cSeq (cSet 4 (cUn aApp (cLoc 3))) (cSeq (cSwap 5 6 (cTup (lCons (cVal (.int 0)) (lCons (cCall (gLen) (lCons (cLoc 0) (lNil))) (lNil))))) (cSeq (cWhile 1000 (cCmp lt2 (cLoc 5) (cLoc 6)) (cSeq (cSet 7 (cBin oGet (cLoc 0) (cLoc 5))) (cSeq (cSet 5 (cBin oAdd (cLoc 5) (cVal (.int 1)))) (cIf (cCmp eqv2 (cLoc 7) (cVal (.str (Str.ofString "*")))) (cNone) (cIf (cCmp eqv2 (cLoc 7) (cVal (.str (Str.ofString "?")))) (cDo (cCallB "list.append" gAppend (cLoc 4) (lCons (cLoc 2) (lNil)))) (cIf (cCmp eqv2 (cLoc 7) (cVal (.str (Str.ofString "[")))) (cNone) (cDo (cCallB "list.append" gAppend (cLoc 4) (lCons (cCall (F_escape) (lCons (cLoc 7) (lNil))) (lNil))))))))) (cSkip)) (cSeq (cAssert (cCmp eqv2 (cLoc 5) (cLoc 6))) (cRet (cLoc 3))))))
noncomputable abbrev F_trans : Fn := cFn 13 (bd 3) (D_trans )
theorem trans_apc {c : Cx} (hK : KK c) (n : Nat) : W (ApC c ⟨n + 2, true⟩ (.ref 69) (F_trans )) := by
  refine' fn_apc' (C := ⟨_, [Str.ofString "pat", Str.ofString "STAR", Str.ofString "QUESTION_MARK", Str.ofString "res", Str.ofString "add", Str.ofString "i", Str.ofString "n", Str.ofString "c", Str.ofString "j", Str.ofString "stuff", Str.ofString "chunks", Str.ofString "k", Str.ofString "chunk"]⟩) (np := 3) (bd := bd 3) (by rw [hK]; rfl) (by rw [hK]; kernel_rfl) rfl (by decide) (by decide) ?h1 ?h2 ?h3 (binds_n ?h4) bd_len ?h5 rfl rfl rfl
  case h1 => decide
  case h2 => decide
  case h3 => decide
  case h4 => intro vs hv; match vs, hv with | [_, _, _], _ => rfl
  case h5 => exact S_cons' (S_set' (i := 3) _ _ (R_listO' _ (E_nil')) (by kernel_rfl) (fun _ => rfl)) (S_cons' (S_set' (i := 4) _ _ (R_attr' _ (fun _ => rfl) (R_loc' 3 _ _ (by kernel_rfl)) At_append') (by kernel_rfl) (fun _ => rfl)) (S_cons' (S_swap' (x := Str.ofString "i") (y := Str.ofString "n") (i := 5) (j := 6) rfl (R_tuple' _ _ (E_cons' (R_int' _ _ _) (E_cons' (R_call' (v := .builtin "len") (g := gLen) _ _ ⟨by kernel_rfl, by kernel_rfl, .inr ⟨by rw [hK]; kernel_rfl, by kernel_rfl, by decide⟩⟩ (.inl ⟨_, rfl⟩) len_ap' (G_plain' (E_cons' (R_loc' 0 _ _ (by kernel_rfl)) (E_nil') (fun _ => rfl)) (fun _ => rfl))) (E_nil') (fun _ => rfl)) (fun _ => rfl))) (by kernel_rfl) (by kernel_rfl) (fun _ => rfl) (ss_is (by kernel_rfl))) (S_cons' (S_while' _ (T_cmp' _ (R_loc' 5 _ _ (by kernel_rfl)) (R_loc' 6 _ _ (by kernel_rfl)) lt_ok' rfl) (S_cons' (S_set' (i := 7) _ _ (R_sub' _ (R_loc' 0 _ _ (by kernel_rfl)) (R_loc' 5 _ _ (by kernel_rfl))) (by kernel_rfl) (fun _ => rfl)) (S_cons' (S_set' (i := 5) _ _ (R_bin' _ (R_loc' 5 _ _ (by kernel_rfl)) (R_int' _ _ _) add_ok') (by kernel_rfl) (fun _ => rfl)) (S_one' (S_if' _ (T_cmp' _ (R_loc' 7 _ _ (by kernel_rfl)) (R_str' _ _ _) eq_ok' rfl) (S_none') (S_one' (S_if' _ (T_cmp' _ (R_loc' 7 _ _ (by kernel_rfl)) (R_str' _ _ _) eq_ok' rfl) (S_one' (S_do' _ (R_callB' (i := 4) (id := "list.append") (g := gAppend) _ _ (by kernel_rfl) append_b' (G_plain' (E_cons' (R_loc' 2 _ _ (by kernel_rfl)) (E_nil') (fun _ => rfl)) (fun _ => rfl))) (fun _ => rfl))) (S_one' (S_if' _ (T_cmp' _ (R_loc' 7 _ _ (by kernel_rfl)) (R_str' _ _ _) eq_ok' rfl) (S_none') (S_one' (S_do' _ (R_callB' (i := 4) (id := "list.append") (g := gAppend) _ _ (by kernel_rfl) append_b' (G_plain' (E_cons' (R_call' (v := .ref 62) (g := F_escape) _ _ ⟨by kernel_rfl, by kernel_rfl, .inl (by rw [hK]; rfl)⟩ (.inr (.inr (by rw [hK]; kernel_rfl))) (ApC_ap' (escape_apc hK _)) (G_plain' (E_cons' (R_loc' 7 _ _ (by kernel_rfl)) (E_nil') (fun _ => rfl)) (fun _ => rfl))) (E_nil') (fun _ => rfl)) (fun _ => rfl))) (fun _ => rfl))))))))))) (S_nil')) (S_cons' (S_assert' _ (T_cmp' _ (R_loc' 5 _ _ (by kernel_rfl)) (R_loc' 6 _ _ (by kernel_rfl)) eq_ok' rfl)) (S_one' (S_ret' _ (R_loc' 3 _ _ (by kernel_rfl))))))))
noncomputable def D_joinp : Cs := cSeq (cSet 2 (cLstO (lNil))) (cSeq (cSet 3 (cUn aApp (cLoc 2))) (cSeq (cSwap 4 5 (cTup (lCons (cVal (.int 0)) (lCons (cCall (gLen) (lCons (cLoc 0) (lNil))) (lNil))))) (cSeq (cWhile 1000 (cAnd (cCmp lt2 (cLoc 4) (cLoc 5)) (cCmp nis2 (cBin oGet (cLoc 0) (cLoc 4)) (cLoc 1))) (cSeq (cDo (cCallB "list.append" gAppend (cLoc 3) (lCons (cBin oGet (cLoc 0) (cLoc 4)) (lNil)))) (cAugN 4 oAddI (cVal (.int 1)))) (cSkip)) (cSeq (cWhile 1000 (cCmp lt2 (cLoc 4) (cLoc 5)) (cNone) (cSkip)) (cSeq (cAssert (cCmp eqv2 (cLoc 4) (cLoc 5))) (cSeq (cSet 2 (cMeth isStr gJoin (cVal (.str (Str.ofString ""))) (lCons (cLoc 2) (lNil)))) (cRet (cFs (Str.ofString "(?s:") (cLoc 2) (Str.ofString ")\\Z")))))))))
noncomputable abbrev F_joinp : Fn := cFn 7 (bd 2) (D_joinp )
theorem joinp_apc {c : Cx} (hK : KK c) (n : Nat) : W (ApC c ⟨n + 1, true⟩ (.ref 76) (F_joinp )) := by
  refine' fn_apc' (C := ⟨_, [Str.ofString "inp", Str.ofString "STAR", Str.ofString "res", Str.ofString "add", Str.ofString "i", Str.ofString "n", Str.ofString "fixed"]⟩) (np := 2) (bd := bd 2) (by rw [hK]; rfl) (by rw [hK]; kernel_rfl) rfl (by decide) (by decide) ?h1 ?h2 ?h3 (binds_n ?h4) bd_len ?h5 rfl rfl rfl
  case h1 => decide
  case h2 => decide
  case h3 => decide
  case h4 => intro vs hv; match vs, hv with | [_, _], _ => rfl
  case h5 => exact S_cons' (S_set' (i := 2) _ _ (R_listO' _ (E_nil')) (by kernel_rfl) (fun _ => rfl)) (S_cons' (S_set' (i := 3) _ _ (R_attr' _ (fun _ => rfl) (R_loc' 2 _ _ (by kernel_rfl)) At_append') (by kernel_rfl) (fun _ => rfl)) (S_cons' (S_swap' (x := Str.ofString "i") (y := Str.ofString "n") (i := 4) (j := 5) rfl (R_tuple' _ _ (E_cons' (R_int' _ _ _) (E_cons' (R_call' (v := .builtin "len") (g := gLen) _ _ ⟨by kernel_rfl, by kernel_rfl, .inr ⟨by rw [hK]; kernel_rfl, by kernel_rfl, by decide⟩⟩ (.inl ⟨_, rfl⟩) len_ap' (G_plain' (E_cons' (R_loc' 0 _ _ (by kernel_rfl)) (E_nil') (fun _ => rfl)) (fun _ => rfl))) (E_nil') (fun _ => rfl)) (fun _ => rfl))) (by kernel_rfl) (by kernel_rfl) (fun _ => rfl) (ss_is (by kernel_rfl))) (S_cons' (S_while' _ (T_and' _ (T_cmp' _ (R_loc' 4 _ _ (by kernel_rfl)) (R_loc' 5 _ _ (by kernel_rfl)) lt_ok' rfl) (T_cmp' _ (R_sub' _ (R_loc' 0 _ _ (by kernel_rfl)) (R_loc' 4 _ _ (by kernel_rfl))) (R_loc' 1 _ _ (by kernel_rfl)) isNot_ok' rfl)) (S_cons' (S_do' _ (R_callB' (i := 3) (id := "list.append") (g := gAppend) _ _ (by kernel_rfl) append_b' (G_plain' (E_cons' (R_sub' _ (R_loc' 0 _ _ (by kernel_rfl)) (R_loc' 4 _ _ (by kernel_rfl))) (E_nil') (fun _ => rfl)) (fun _ => rfl))) (fun _ => rfl)) (S_one' (S_augN' (i := 4) _ _ (by kernel_rfl) (by kernel_rfl) (R_int' _ _ _) iadd_ok'))) (S_nil')) (S_cons' (S_while' _ (T_cmp' _ (R_loc' 4 _ _ (by kernel_rfl)) (R_loc' 5 _ _ (by kernel_rfl)) lt_ok' rfl) (S_none') (S_nil')) (S_cons' (S_assert' _ (T_cmp' _ (R_loc' 4 _ _ (by kernel_rfl)) (R_loc' 5 _ _ (by kernel_rfl)) eq_ok' rfl)) (S_cons' (S_set' (i := 2) _ _ (R_meth' _ _ (fun _ => rfl) (fun _ => rfl) (by decide) rfl (R_str' _ _ _) M_join' (G_plain' (E_cons' (R_loc' 2 _ _ (by kernel_rfl)) (E_nil') (fun _ => rfl)) (fun _ => rfl))) (by kernel_rfl) (fun _ => rfl)) (S_one' (S_ret' _ (R_fstr' _ _ _ _ _ _ (R_loc' 2 _ _ (by kernel_rfl)))))))))))
noncomputable def D_translate : Cs := cSeq (cSet 1 (cCall (gObj) (lNil))) (cSeq (cSet 2 (cCall (F_trans) (lCons (cLoc 0) (lCons (cLoc 1) (lCons (cVal (.str (Str.ofString "."))) (lNil)))))) (cRet (cCall (F_joinp) (lCons (cLoc 2) (lCons (cLoc 1) (lNil))))))
noncomputable abbrev F_translate : Fn := cFn 3 (bd 1) (D_translate )
theorem translate_apc {c : Cx} (hK : KK c) (n : Nat) : W (ApC c ⟨n + 3, true⟩ (.ref 50) (F_translate )) := by
  refine' fn_apc' (C := ⟨_, [Str.ofString "pat", Str.ofString "STAR", Str.ofString "parts"]⟩) (np := 1) (bd := bd 1) (by rw [hK]; rfl) (by rw [hK]; kernel_rfl) rfl (by decide) (by decide) ?h1 ?h2 ?h3 (binds_n ?h4) bd_len ?h5 rfl rfl rfl
  case h1 => decide
  case h2 => decide
  case h3 => decide
  case h4 => intro vs hv; match vs, hv with | [_], _ => rfl
  case h5 => exact S_cons' (S_set' (i := 1) _ _ (R_call' (v := .type "object") (g := gObj) _ _ ⟨by kernel_rfl, by kernel_rfl, .inr ⟨by rw [hK]; kernel_rfl, by kernel_rfl, by decide⟩⟩ (.inr (.inl ⟨_, rfl⟩)) obj_ap' (G_nil')) (by kernel_rfl) (fun _ => rfl)) (S_cons' (S_set' (i := 2) _ _ (R_call' (v := .ref 69) (g := F_trans) _ _ ⟨by kernel_rfl, by kernel_rfl, .inl (by rw [hK]; rfl)⟩ (.inr (.inr (by rw [hK]; kernel_rfl))) (ApC_ap' (trans_apc hK _)) (G_plain' (E_cons' (R_loc' 0 _ _ (by kernel_rfl)) (E_cons' (R_loc' 1 _ _ (by kernel_rfl)) (E_cons' (R_str' _ _ _) (E_nil') (fun _ => rfl)) (fun _ => rfl)) (fun _ => rfl)) (fun _ => rfl))) (by kernel_rfl) (fun _ => rfl)) (S_one' (S_ret' _ (R_call' (v := .ref 76) (g := F_joinp) _ _ ⟨by kernel_rfl, by kernel_rfl, .inl (by rw [hK]; rfl)⟩ (.inr (.inr (by rw [hK]; kernel_rfl))) (ApC_ap' (joinp_apc hK _)) (G_plain' (E_cons' (R_loc' 2 _ _ (by kernel_rfl)) (E_cons' (R_loc' 1 _ _ (by kernel_rfl)) (E_nil') (fun _ => rfl)) (fun _ => rfl)) (fun _ => rfl))))))
end Mine
end
section
set_option tactic.hygienic false
open PySem PySem.W PyProof.Rows PySem.Calls
set_option maxRecDepth 100000
set_option maxHeartbeats 0
namespace Mine
noncomputable def D_ninit : Cs := cSeq (cAsg (aAttr (sSlot 95 0) (cLoc 0)) (cLoc 1)) (cSeq (cAsg (aAttr (sSlot 95 1) (cLoc 0)) (cVal (.int 0))) (cAsg (aAttr (sSlot 95 2) (cLoc 0)) (cLstO (lNil))))
noncomputable abbrev F_ninit : Fn := cFn 2 (bd 2) (D_ninit )
theorem ninit_apc {c : Cx} (hK : KK c) (n : Nat) : W (ApC c ⟨n + 1, true⟩ (.ref 91) (F_ninit )) := by
  refine' fn_apc' (C := ⟨_, [Str.ofString "self", Str.ofString "node"]⟩) (np := 2) (bd := bd 2) (by rw [hK]; rfl) (by rw [hK]; kernel_rfl) rfl (by decide) (by decide) ?h1 ?h2 ?h3 (binds_n ?h4) bd_len ?h5 rfl rfl rfl
  case h1 => decide
  case h2 => decide
  case h3 => decide
  case h4 => intro vs hv; match vs, hv with | [_, _], _ => rfl
  case h5 => exact S_cons' (S_asg' (R_loc' 1 _ _ (by kernel_rfl)) (Tg_one' (A_attr' _ (R_loc' 0 _ _ (by kernel_rfl)) (Sta_slot' (sa_node hK)))) (fun _ _ _ => rfl) (fun _ _ _ => rfl) (fun _ => rfl)) (S_cons' (S_asg' (R_int' _ _ _) (Tg_one' (A_attr' _ (R_loc' 0 _ _ (by kernel_rfl)) (Sta_slot' (sa_np hK)))) (fun _ _ _ => rfl) (fun _ _ _ => rfl) (fun _ => rfl)) (S_one' (S_asg' (R_listO' _ (E_nil')) (Tg_one' (A_attr' _ (R_loc' 0 _ _ (by kernel_rfl)) (Sta_slot' (sa_succ hK)))) (fun _ _ _ => rfl) (fun _ _ _ => rfl) (fun _ => rfl))))
noncomputable def D_sinit : Cs := cSeq (cAsg (aAttr (sInst 192 0) (cLoc 0)) (cEDict)) (cSeq (cAsg (aAttr (sInst 192 1) (cLoc 0)) (cVal .none)) (cSeq (cAsg (aAttr (sInst 192 2) (cLoc 0)) (cVal (.int 0))) (cSeq (cAsg (aAttr (sInst 192 3) (cLoc 0)) (cVal (.int 0))) (cIf (cCmp nis2 (cLoc 1) (cVal .none)) (cNone) (cSkip)))))
noncomputable abbrev F_sinit : Fn := cFn 4 (bdN 1) (D_sinit )
theorem sinit_apc {c : Cx} (hK : KK c) (n : Nat) : W (ApC c ⟨n + 1, true⟩ (.ref 128) (F_sinit )) := by
  refine' fn_apc' (C := ⟨_, [Str.ofString "self", Str.ofString "graph", Str.ofString "node", Str.ofString "predecessors"]⟩) (np := 2) (bd := bdN 1) (by rw [hK]; rfl) (by rw [hK]; kernel_rfl) rfl (by decide) (by decide) ?h1 ?h2 ?h3 (binds_d (a := 121) (by rw [hK]; rfl) ?h4) bdN_len ?h5 rfl rfl rfl
  case h1 => decide
  case h2 => decide
  case h3 => decide
  case h4 => intro vs hv; match vs, hv with | [_], _ => exact ⟨_, rfl, rfl⟩
  case h5 => exact S_cons' (S_asg' (R_edict' _) (Tg_one' (A_attr' _ (R_loc' 0 _ _ (by kernel_rfl)) (Sta_inst' (dcls hK) (da0 hK)))) (fun _ _ _ => rfl) (fun _ _ _ => rfl) (fun _ => rfl)) (S_cons' (S_asg' (R_none' _ _) (Tg_one' (A_attr' _ (R_loc' 0 _ _ (by kernel_rfl)) (Sta_inst' (dcls hK) (da1 hK)))) (fun _ _ _ => rfl) (fun _ _ _ => rfl) (fun _ => rfl)) (S_cons' (S_asg' (R_int' _ _ _) (Tg_one' (A_attr' _ (R_loc' 0 _ _ (by kernel_rfl)) (Sta_inst' (dcls hK) (da2 hK)))) (fun _ _ _ => rfl) (fun _ _ _ => rfl) (fun _ => rfl)) (S_cons' (S_asg' (R_int' _ _ _) (Tg_one' (A_attr' _ (R_loc' 0 _ _ (by kernel_rfl)) (Sta_inst' (dcls hK) (da3 hK)))) (fun _ _ _ => rfl) (fun _ _ _ => rfl) (fun _ => rfl)) (S_one' (S_if' _ (T_cmp' _ (R_loc' 1 _ _ (by kernel_rfl)) (R_none' _ _) isNot_ok' rfl) (S_none') (S_nil'))))))
theorem node_ap {c : Cx} (hK : KK c) (n : Nat) : W (Ap c ⟨n + 2, true⟩ (.ref 95) (gNewS 95 F_ninit)) := ⟨newS_ap (mk_ni hK) (ninit_apc hK n).h⟩
theorem sorter_ap {c : Cx} (hK : KK c) (n : Nat) : W (Ap c ⟨n + 2, true⟩ (.ref 192) (gNew 192 F_sinit)) := ⟨new_ap (mk_so hK) (sinit_apc hK n).h⟩
noncomputable def D_gni : Cs := cSeq (cIfW 2 (cMeth isDnod gGet (cUn (aInst 192 0) (cLoc 0)) (lCons (cLoc 1) (lNil))) (cAsg (aSeq (aSub oSet (cUn (aInst 192 0) (cLoc 0)) (cLoc 1)) (fun d st => st.put 2 d)) (cCall (gNewS 95 F_ninit) (lCons (cLoc 1) (lNil)))) (cSkip)) (cRet (cLoc 2))
noncomputable abbrev F_gni : Fn := cFn 3 (bd 2) (D_gni )
theorem gni_apc {c : Cx} (hK : KK c) (n : Nat) : W (ApC c ⟨n + 3, true⟩ (.ref 135) (F_gni )) := by
  refine' fn_apc' (C := ⟨_, [Str.ofString "self", Str.ofString "node", Str.ofString "result"]⟩) (np := 2) (bd := bd 2) (by rw [hK]; rfl) (by rw [hK]; kernel_rfl) rfl (by decide) (by decide) ?h1 ?h2 ?h3 (binds_n ?h4) bd_len ?h5 rfl rfl rfl
  case h1 => decide
  case h2 => decide
  case h3 => decide
  case h4 => intro vs hv; match vs, hv with | [_, _], _ => rfl
  case h5 => exact S_cons' (S_ifW' (i := 2) _ _ _ _ _ _ (R_meth' _ _ (fun _ => rfl) (fun _ => rfl) (by decide) rfl (R_attr' _ (fun _ => rfl) (R_loc' 0 _ _ (by kernel_rfl)) (At_inst' (dcls hK) (da0 hK))) M_get' (G_plain' (E_cons' (R_loc' 1 _ _ (by kernel_rfl)) (E_nil') (fun _ => rfl)) (fun _ => rfl))) (by kernel_rfl) (S_one' (S_asg' (R_call' (v := .ref 95) (g := gNewS 95 F_ninit) _ _ ⟨by kernel_rfl, by kernel_rfl, .inl (by rw [hK]; rfl)⟩ (.inr (.inr (by rw [hK]; kernel_rfl))) (node_ap hK _) (G_plain' (E_cons' (R_loc' 1 _ _ (by kernel_rfl)) (E_nil') (fun _ => rfl)) (fun _ => rfl))) (Tg_cons' (A_sub' _ (R_attr' _ (fun _ => rfl) (R_loc' 0 _ _ (by kernel_rfl)) (At_inst' (dcls hK) (da0 hK))) (R_loc' 1 _ _ (by kernel_rfl)) set_ok') (Tg_one' (A_name' (i := 2) _ (by kernel_rfl)))) (fun _ _ _ => rfl) (fun _ _ _ => rfl) (fun _ => rfl))) (S_nil')) (S_one' (S_ret' _ (R_loc' 2 _ _ (by kernel_rfl))))
noncomputable def D_add : Cs := cSeq (cIf (cCmp nis2 (cUn (aInst 192 1) (cLoc 0)) (cVal .none)) (cNone) (cSkip)) (cSeq (cSet 3 (cMeth (isInst 192) (F_gni) (cLoc 0) (lCons (cLoc 1) (lNil)))) (cSeq (cAugA (aSlot 95 1) (sSlot 95 1) oAddI (cLoc 3) (cCall (gLen) (lCons (cLoc 2) (lNil)))) (cFor items (cLoc 2) (fun d st => st.put 4 d) (cSeq (cSet 5 (cMeth (isInst 192) (F_gni) (cLoc 0) (lCons (cLoc 4) (lNil)))) (cDo (cMeth isList gAppend (cUn (aSlot 95 2) (cLoc 5)) (lCons (cLoc 1) (lNil))))) (cSkip))))
noncomputable abbrev F_add : Fn := cFn 6 (bdV 2) (D_add )
theorem add_apc {c : Cx} (hK : KK c) (n : Nat) : W (ApC c ⟨n + 4, true⟩ (.ref 142) (F_add )) := by
  refine' fn_apc' (C := ⟨_, [Str.ofString "self", Str.ofString "node", Str.ofString "predecessors", Str.ofString "nodeinfo", Str.ofString "pred", Str.ofString "pred_info"]⟩) (np := 3) (bd := bdV 2) (by rw [hK]; rfl) (by rw [hK]; kernel_rfl) rfl (by decide) (by decide) ?h1 ?h2 ?h3 (binds_v ?h4) bdV_len ?h5 rfl rfl rfl
  case h1 => decide
  case h2 => decide
  case h3 => decide
  case h4 => intro vs hv; have hp : (fnP fo_234).1 = ⟨[], [_, _], some _, [], [], none, []⟩ := rfl; match vs, hv with | [], hv => (simp at hv) | [_], hv => (simp at hv) | _ :: _ :: _, _ => (unfold bindArgs; simp only [hp, fnOf, Option.isNone_some, Bool.and_false, Bool.false_eq_true, if_false]; rfl)
  case h5 => exact S_cons' (S_if' _ (T_cmp' _ (R_attr' _ (fun _ => rfl) (R_loc' 0 _ _ (by kernel_rfl)) (At_inst' (dcls hK) (da1 hK))) (R_none' _ _) isNot_ok' rfl) (S_one' (S_none')) (S_nil')) (S_cons' (S_set' (i := 3) _ _ (R_meth' (g := F_gni) _ _ (fun _ => rfl) (fun _ => rfl) (by decide) rfl (R_loc' 0 _ _ (by kernel_rfl)) (Mt_inst' (dcls hK) (dm_gni hK) (ApC_ap' (gni_apc hK _))) (G_plain' (E_cons' (R_loc' 1 _ _ (by kernel_rfl)) (E_nil') (fun _ => rfl)) (fun _ => rfl))) (by kernel_rfl) (fun _ => rfl)) (S_cons' (S_augA' _ _ (R_loc' 3 _ _ (by kernel_rfl)) (At_slot' (sa_np hK)) (R_call' (v := .builtin "len") (g := gLen) _ _ ⟨by kernel_rfl, by kernel_rfl, .inr ⟨by rw [hK]; kernel_rfl, by kernel_rfl, by decide⟩⟩ (.inl ⟨_, rfl⟩) len_ap' (G_plain' (E_cons' (R_loc' 2 _ _ (by kernel_rfl)) (E_nil') (fun _ => rfl)) (fun _ => rfl))) iadd_ok' (Sta_slot' (sa_np hK))) (S_one' (S_for' _ (R_loc' 2 _ _ (by kernel_rfl)) (ItW_ok' (items_ok' rfl) _) (A_name' (i := 4) _ (by kernel_rfl)) (S_cons' (S_set' (i := 5) _ _ (R_meth' (g := F_gni) _ _ (fun _ => rfl) (fun _ => rfl) (by decide) rfl (R_loc' 0 _ _ (by kernel_rfl)) (Mt_inst' (dcls hK) (dm_gni hK) (ApC_ap' (gni_apc hK _))) (G_plain' (E_cons' (R_loc' 4 _ _ (by kernel_rfl)) (E_nil') (fun _ => rfl)) (fun _ => rfl))) (by kernel_rfl) (fun _ => rfl)) (S_one' (S_do' _ (R_meth' _ _ (fun _ => rfl) (fun _ => rfl) (by decide) rfl (R_attr' _ (fun _ => rfl) (R_loc' 5 _ _ (by kernel_rfl)) (At_slot' (sa_succ hK))) M_append' (G_plain' (E_cons' (R_loc' 1 _ _ (by kernel_rfl)) (E_nil') (fun _ => rfl)) (fun _ => rfl))) (fun _ => rfl)))) (S_nil') (fun _ _ => rfl)))))
noncomputable def D_fc : Cs := cSeq (cSet 1 (cUn (aInst 192 0) (cLoc 0))) (cSeq (cSet 2 (cLstO (lNil))) (cSeq (cSet 3 (cLstO (lNil))) (cSeq (cSet 4 (cCall (gSet) (lNil))) (cSeq (cSet 5 (cEDict)) (cSeq (cFor items (cLoc 1) (fun d st => st.put 6 d) (cSeq (cIf (cCmp in2 (cLoc 6) (cLoc 4)) (cFl .cont) (cSkip)) (cWhile 1000 (cTr tr (cVal (.bool true))) (cSeq (cIf (cCmp in2 (cLoc 6) (cLoc 4)) (cIf (cCmp in2 (cLoc 6) (cLoc 5)) (cNone) (cSkip)) (cSeq (cDo (cMeth isSnod gAdd (cLoc 4) (lCons (cLoc 6) (lNil)))) (cSeq (cDo (cMeth isList gAppend (cLoc 3) (lCons (cUn aNext (cCall (gIter) (lCons (cUn (aSlot 95 2) (cBin oGet (cLoc 1) (cLoc 6))) (lNil)))) (lNil)))) (cSeq (cAsg (aSub oSet (cLoc 5) (cLoc 6)) (cCall (gLen) (lCons (cLoc 2) (lNil)))) (cDo (cMeth isList gAppend (cLoc 2) (lCons (cLoc 6) (lNil)))))))) (cWhile 1000 (cTr tr (cLoc 2)) (cTry 6 (cBin oGet (cLoc 3) (cUn oNeg (cVal (.int 1)))) (cSeq (cDel (cLoc 5) (cMeth isList gPop (cLoc 2) (lNil))) (cDo (cMeth isList gPop (cLoc 3) (lNil))))) (cFl .brk))) (cSkip))) (cSkip)) (cRet (cVal .none)))))))
noncomputable abbrev F_fc : Fn := cFn 7 (bd 1) (D_fc )
theorem fc_apc {c : Cx} (hK : KK c) (n : Nat) : W (ApC c ⟨n + 1, true⟩ (.ref 182) (F_fc )) := by
  refine' fn_apc' (C := ⟨_, [Str.ofString "self", Str.ofString "n2i", Str.ofString "stack", Str.ofString "itstack", Str.ofString "seen", Str.ofString "node2stacki", Str.ofString "node"]⟩) (np := 1) (bd := bd 1) (by rw [hK]; rfl) (by rw [hK]; kernel_rfl) rfl (by decide) (by decide) ?h1 ?h2 ?h3 (binds_n ?h4) bd_len ?h5 rfl rfl rfl
  case h1 => decide
  case h2 => decide
  case h3 => decide
  case h4 => intro vs hv; match vs, hv with | [_], _ => rfl
  case h5 => exact S_cons' (S_set' (i := 1) _ _ (R_attr' _ (fun _ => rfl) (R_loc' 0 _ _ (by kernel_rfl)) (At_inst' (dcls hK) (da0 hK))) (by kernel_rfl) (fun _ => rfl)) (S_cons' (S_set' (i := 2) _ _ (R_listO' _ (E_nil')) (by kernel_rfl) (fun _ => rfl)) (S_cons' (S_set' (i := 3) _ _ (R_listO' _ (E_nil')) (by kernel_rfl) (fun _ => rfl)) (S_cons' (S_set' (i := 4) _ _ (R_call' (v := .type "set") (g := gSet) _ _ ⟨by kernel_rfl, by kernel_rfl, .inr ⟨by rw [hK]; kernel_rfl, by kernel_rfl, by decide⟩⟩ (.inr (.inl ⟨_, rfl⟩)) set_ap' (G_nil')) (by kernel_rfl) (fun _ => rfl)) (S_cons' (S_set' (i := 5) _ _ (R_edict' _) (by kernel_rfl) (fun _ => rfl)) (S_cons' (S_for' _ (R_loc' 1 _ _ (by kernel_rfl)) (ItW_ok' (items_ok' rfl) _) (A_name' (i := 6) _ (by kernel_rfl)) (S_cons' (S_if' _ (T_cmp' _ (R_loc' 6 _ _ (by kernel_rfl)) (R_loc' 4 _ _ (by kernel_rfl)) in_ok' rfl) (S_one' (S_cont' _)) (S_nil')) (S_one' (S_while' _ (T_val' (R_bool' _ _ _) tr_ok' rfl) (S_cons' (S_if' _ (T_cmp' _ (R_loc' 6 _ _ (by kernel_rfl)) (R_loc' 4 _ _ (by kernel_rfl)) in_ok' rfl) (S_one' (S_if' _ (T_cmp' _ (R_loc' 6 _ _ (by kernel_rfl)) (R_loc' 5 _ _ (by kernel_rfl)) in_ok' rfl) (S_none') (S_nil'))) (S_cons' (S_do' _ (R_meth' _ _ (fun _ => rfl) (fun _ => rfl) (by decide) rfl (R_loc' 4 _ _ (by kernel_rfl)) M_sadd' (G_plain' (E_cons' (R_loc' 6 _ _ (by kernel_rfl)) (E_nil') (fun _ => rfl)) (fun _ => rfl))) (fun _ => rfl)) (S_cons' (S_do' _ (R_meth' _ _ (fun _ => rfl) (fun _ => rfl) (by decide) rfl (R_loc' 3 _ _ (by kernel_rfl)) M_append' (G_plain' (E_cons' (R_attr' _ (fun _ => rfl) (R_call' (v := .builtin "iter") (g := gIter) _ _ ⟨by kernel_rfl, by kernel_rfl, .inr ⟨by rw [hK]; kernel_rfl, by kernel_rfl, by decide⟩⟩ (.inl ⟨_, rfl⟩) iter_ap' (G_plain' (E_cons' (R_attr' _ (fun _ => rfl) (R_sub' _ (R_loc' 1 _ _ (by kernel_rfl)) (R_loc' 6 _ _ (by kernel_rfl))) (At_slot' (sa_succ hK))) (E_nil') (fun _ => rfl)) (fun _ => rfl))) At_next') (E_nil') (fun _ => rfl)) (fun _ => rfl))) (fun _ => rfl)) (S_cons' (S_asg' (R_call' (v := .builtin "len") (g := gLen) _ _ ⟨by kernel_rfl, by kernel_rfl, .inr ⟨by rw [hK]; kernel_rfl, by kernel_rfl, by decide⟩⟩ (.inl ⟨_, rfl⟩) len_ap' (G_plain' (E_cons' (R_loc' 2 _ _ (by kernel_rfl)) (E_nil') (fun _ => rfl)) (fun _ => rfl))) (Tg_one' (A_sub' _ (R_loc' 5 _ _ (by kernel_rfl)) (R_loc' 6 _ _ (by kernel_rfl)) set_ok')) (fun _ _ _ => rfl) (fun _ _ _ => rfl) (fun _ => rfl)) (S_one' (S_do' _ (R_meth' _ _ (fun _ => rfl) (fun _ => rfl) (by decide) rfl (R_loc' 2 _ _ (by kernel_rfl)) M_append' (G_plain' (E_cons' (R_loc' 6 _ _ (by kernel_rfl)) (E_nil') (fun _ => rfl)) (fun _ => rfl))) (fun _ => rfl))))))) (S_one' (S_while' _ (T_val' (R_loc' 2 _ _ (by kernel_rfl)) tr_ok' rfl) (S_one' (S_try' (i := 6) _ _ _ _ _ _ _ rfl ⟨by kernel_rfl, by kernel_rfl, .inr ⟨by rw [hK]; kernel_rfl, by kernel_rfl, by decide⟩⟩ (R_sub' _ (R_loc' 3 _ _ (by kernel_rfl)) (R_un' _ (R_int' _ _ _) neg_ok')) (fun _ => rfl) (by kernel_rfl) (fun _ => rfl) (S_cons' (S_del' _ _ (R_loc' 5 _ _ (by kernel_rfl)) (R_meth' _ _ (fun _ => rfl) (fun _ => rfl) (by decide) rfl (R_loc' 2 _ _ (by kernel_rfl)) M_pop' (G_nil'))) (S_one' (S_do' _ (R_meth' _ _ (fun _ => rfl) (fun _ => rfl) (by decide) rfl (R_loc' 3 _ _ (by kernel_rfl)) M_pop' (G_nil')) (fun _ => rfl)))))) (S_one' (S_brk' _))))) (S_nil')))) (S_nil') (fun _ _ => rfl)) (S_one' (S_ret' _ (R_none' _ _))))))))
noncomputable def D_prep : Cs := cSeq (cIf (cCmp nis2 (cUn (aInst 192 1) (cLoc 0)) (cVal .none)) (cNone) (cSkip)) (cSeq (cAsg (aAttr (sInst 192 1) (cLoc 0)) (cCompO items (cMeth isDnod gValues (cUn (aInst 192 0) (cLoc 0)) (lNil)) (cCmp eqv2 (cUn (aSlot 95 1) (cLoc 2)) (cVal (.int 0))) (cUn (aSlot 95 0) (cLoc 2)))) (cSeq (cSet 1 (cMeth (isInst 192) (F_fc) (cLoc 0) (lNil))) (cIf (cTr tr (cLoc 1)) (cNone) (cSkip))))
noncomputable abbrev F_prep : Fn := cFn 2 (bd 1) (D_prep )
theorem prep_apc {c : Cx} (hK : KK c) (n : Nat) : W (ApC c ⟨n + 2, true⟩ (.ref 147) (F_prep )) := by
  refine' fn_apc' (C := ⟨_, [Str.ofString "self", Str.ofString "cycle"]⟩) (np := 1) (bd := bd 1) (by rw [hK]; rfl) (by rw [hK]; kernel_rfl) rfl (by decide) (by decide) ?h1 ?h2 ?h3 (binds_n ?h4) bd_len ?h5 rfl rfl rfl
  case h1 => decide
  case h2 => decide
  case h3 => decide
  case h4 => intro vs hv; match vs, hv with | [_], _ => rfl
  case h5 => exact S_cons' (S_if' _ (T_cmp' _ (R_attr' _ (fun _ => rfl) (R_loc' 0 _ _ (by kernel_rfl)) (At_inst' (dcls hK) (da1 hK))) (R_none' _ _) isNot_ok' rfl) (S_one' (S_none')) (S_nil')) (S_cons' (S_asg' (R_compO' _ _ rfl (R_meth' _ _ (fun _ => rfl) (fun _ => rfl) (by decide) rfl (R_attr' _ (fun _ => rfl) (R_loc' 0 _ _ (by kernel_rfl)) (At_inst' (dcls hK) (da0 hK))) M_values' (G_nil')) (items_ok' rfl) (Tm_one' (T_cmp' _ (R_attr' _ (fun _ => rfl) (R_loc' 2 _ _ (by kernel_rfl)) (At_slot' (sa_np hK))) (R_int' _ _ _) eq_ok' rfl)) (R_attr' _ (fun _ => rfl) (R_loc' 2 _ _ (by kernel_rfl)) (At_slot' (sa_node hK))) (fun _ _ => rfl) rfl (by kernel_rfl) (by kernel_rfl)) (Tg_one' (A_attr' _ (R_loc' 0 _ _ (by kernel_rfl)) (Sta_inst' (dcls hK) (da1 hK)))) (fun _ _ _ => rfl) (fun _ _ _ => rfl) (fun _ => rfl)) (S_cons' (S_set' (i := 1) _ _ (R_meth' (g := F_fc) _ _ (fun _ => rfl) (fun _ => rfl) (by decide) rfl (R_loc' 0 _ _ (by kernel_rfl)) (Mt_inst' (dcls hK) (dm_fc hK) (ApC_ap' (fc_apc hK _))) (G_nil')) (by kernel_rfl) (fun _ => rfl)) (S_one' (S_if' _ (T_val' (R_loc' 1 _ _ (by kernel_rfl)) tr_ok' rfl) (S_one' (S_none')) (S_nil')))))
noncomputable def D_ready : Cs := cSeq (cIf (cCmp is2 (cUn (aInst 192 1) (cLoc 0)) (cVal .none)) (cNone) (cSkip)) (cSeq (cSet 1 (cCall (gTuple) (lCons (cUn (aInst 192 1) (cLoc 0)) (lNil)))) (cSeq (cSet 2 (cUn (aInst 192 0) (cLoc 0))) (cSeq (cFor items (cLoc 1) (fun d st => st.put 3 d) (cAsg (aAttr (sSlot 95 1) (cBin oGet (cLoc 2) (cLoc 3))) (cVal (.int (-1)))) (cSkip)) (cSeq (cDo (cMeth isList gClear (cUn (aInst 192 1) (cLoc 0)) (lNil))) (cSeq (cAugA (aInst 192 2) (sInst 192 2) oAddI (cLoc 0) (cCall (gLen) (lCons (cLoc 1) (lNil)))) (cRet (cLoc 1)))))))
noncomputable abbrev F_ready : Fn := cFn 4 (bd 1) (D_ready )
theorem ready_apc {c : Cx} (hK : KK c) (n : Nat) : W (ApC c ⟨n + 1, true⟩ (.ref 154) (F_ready )) := by
  refine' fn_apc' (C := ⟨_, [Str.ofString "self", Str.ofString "result", Str.ofString "n2i", Str.ofString "node"]⟩) (np := 1) (bd := bd 1) (by rw [hK]; rfl) (by rw [hK]; kernel_rfl) rfl (by decide) (by decide) ?h1 ?h2 ?h3 (binds_n ?h4) bd_len ?h5 rfl rfl rfl
  case h1 => decide
  case h2 => decide
  case h3 => decide
  case h4 => intro vs hv; match vs, hv with | [_], _ => rfl
  case h5 => exact S_cons' (S_if' _ (T_cmp' _ (R_attr' _ (fun _ => rfl) (R_loc' 0 _ _ (by kernel_rfl)) (At_inst' (dcls hK) (da1 hK))) (R_none' _ _) is_ok' rfl) (S_one' (S_none')) (S_nil')) (S_cons' (S_set' (i := 1) _ _ (R_call' (v := .type "tuple") (g := gTuple) _ _ ⟨by kernel_rfl, by kernel_rfl, .inr ⟨by rw [hK]; kernel_rfl, by kernel_rfl, by decide⟩⟩ (.inr (.inl ⟨_, rfl⟩)) tuple_ap' (G_plain' (E_cons' (R_attr' _ (fun _ => rfl) (R_loc' 0 _ _ (by kernel_rfl)) (At_inst' (dcls hK) (da1 hK))) (E_nil') (fun _ => rfl)) (fun _ => rfl))) (by kernel_rfl) (fun _ => rfl)) (S_cons' (S_set' (i := 2) _ _ (R_attr' _ (fun _ => rfl) (R_loc' 0 _ _ (by kernel_rfl)) (At_inst' (dcls hK) (da0 hK))) (by kernel_rfl) (fun _ => rfl)) (S_cons' (S_for' _ (R_loc' 1 _ _ (by kernel_rfl)) (ItW_ok' (items_ok' rfl) _) (A_name' (i := 3) _ (by kernel_rfl)) (S_one' (S_asg' (R_gint' _ _ 530 _ ⟨by kernel_rfl, by kernel_rfl, .inl (by rw [hK]; rfl)⟩) (Tg_one' (A_attr' _ (R_sub' _ (R_loc' 2 _ _ (by kernel_rfl)) (R_loc' 3 _ _ (by kernel_rfl))) (Sta_slot' (sa_np hK)))) (fun _ _ _ => rfl) (fun _ _ _ => rfl) (fun _ => rfl))) (S_nil') (fun _ _ => rfl)) (S_cons' (S_do' _ (R_meth' _ _ (fun _ => rfl) (fun _ => rfl) (by decide) rfl (R_attr' _ (fun _ => rfl) (R_loc' 0 _ _ (by kernel_rfl)) (At_inst' (dcls hK) (da1 hK))) M_clear' (G_nil')) (fun _ => rfl)) (S_cons' (S_augA' _ _ (R_loc' 0 _ _ (by kernel_rfl)) (At_inst' (dcls hK) (da2 hK)) (R_call' (v := .builtin "len") (g := gLen) _ _ ⟨by kernel_rfl, by kernel_rfl, .inr ⟨by rw [hK]; kernel_rfl, by kernel_rfl, by decide⟩⟩ (.inl ⟨_, rfl⟩) len_ap' (G_plain' (E_cons' (R_loc' 1 _ _ (by kernel_rfl)) (E_nil') (fun _ => rfl)) (fun _ => rfl))) iadd_ok' (Sta_inst' (dcls hK) (da2 hK))) (S_one' (S_ret' _ (R_loc' 1 _ _ (by kernel_rfl)))))))))
noncomputable def D_act : Cs := cSeq (cIf (cCmp is2 (cUn (aInst 192 1) (cLoc 0)) (cVal .none)) (cNone) (cSkip)) (cRet (cOrV (cBin (fun σ a b => (lt2 σ a b).map .bool) (cUn (aInst 192 3) (cLoc 0)) (cUn (aInst 192 2) (cLoc 0))) (cCall (gBool) (lCons (cUn (aInst 192 1) (cLoc 0)) (lNil)))))
noncomputable abbrev F_act : Fn := cFn 1 (bd 1) (D_act )
theorem act_apc {c : Cx} (hK : KK c) (n : Nat) : W (ApC c ⟨n + 1, true⟩ (.ref 161) (F_act )) := by
  refine' fn_apc' (C := ⟨_, [Str.ofString "self"]⟩) (np := 1) (bd := bd 1) (by rw [hK]; rfl) (by rw [hK]; kernel_rfl) rfl (by decide) (by decide) ?h1 ?h2 ?h3 (binds_n ?h4) bd_len ?h5 rfl rfl rfl
  case h1 => decide
  case h2 => decide
  case h3 => decide
  case h4 => intro vs hv; match vs, hv with | [_], _ => rfl
  case h5 => exact S_cons' (S_if' _ (T_cmp' _ (R_attr' _ (fun _ => rfl) (R_loc' 0 _ _ (by kernel_rfl)) (At_inst' (dcls hK) (da1 hK))) (R_none' _ _) is_ok' rfl) (S_one' (S_none')) (S_nil')) (S_one' (S_ret' _ (R_or' _ (R_cmpb' _ (R_attr' _ (fun _ => rfl) (R_loc' 0 _ _ (by kernel_rfl)) (At_inst' (dcls hK) (da3 hK))) (R_attr' _ (fun _ => rfl) (R_loc' 0 _ _ (by kernel_rfl)) (At_inst' (dcls hK) (da2 hK))) lt_ok' rfl) (R_call' (v := .type "bool") (g := gBool) _ _ ⟨by kernel_rfl, by kernel_rfl, .inr ⟨by rw [hK]; kernel_rfl, by kernel_rfl, by decide⟩⟩ (.inr (.inl ⟨_, rfl⟩)) bool_ap' (G_plain' (E_cons' (R_attr' _ (fun _ => rfl) (R_loc' 0 _ _ (by kernel_rfl)) (At_inst' (dcls hK) (da1 hK))) (E_nil') (fun _ => rfl)) (fun _ => rfl))))))
noncomputable def D_done : Cs := cSeq (cIf (cCmp is2 (cUn (aInst 192 1) (cLoc 0)) (cVal .none)) (cNone) (cSkip)) (cSeq (cSet 2 (cUn (aInst 192 0) (cLoc 0))) (cFor items (cLoc 1) (fun d st => st.put 3 d) (cSeq (cIfW 4 (cMeth isDnod gGet (cLoc 2) (lCons (cLoc 3) (lNil))) (cNone) (cSkip)) (cSeq (cSet 5 (cUn (aSlot 95 1) (cLoc 4))) (cSeq (cIf (cCmp nev2 (cLoc 5) (cVal (.int (-1)))) (cNone) (cSkip)) (cSeq (cAsg (aAttr (sSlot 95 1) (cLoc 4)) (cVal (.int (-2)))) (cSeq (cFor items (cUn (aSlot 95 2) (cLoc 4)) (fun d st => st.put 6 d) (cSeq (cSet 7 (cBin oGet (cLoc 2) (cLoc 6))) (cSeq (cAugA (aSlot 95 1) (sSlot 95 1) oSub (cLoc 7) (cVal (.int 1))) (cIf (cCmp eqv2 (cUn (aSlot 95 1) (cLoc 7)) (cVal (.int 0))) (cDo (cMeth isList gAppend (cUn (aInst 192 1) (cLoc 0)) (lCons (cLoc 6) (lNil)))) (cSkip)))) (cSkip)) (cAugA (aInst 192 3) (sInst 192 3) oAddI (cLoc 0) (cVal (.int 1)))))))) (cSkip)))
noncomputable abbrev F_done : Fn := cFn 8 (bdV 1) (D_done )
theorem done_apc {c : Cx} (hK : KK c) (n : Nat) : W (ApC c ⟨n + 1, true⟩ (.ref 175) (F_done )) := by
  refine' fn_apc' (C := ⟨_, [Str.ofString "self", Str.ofString "nodes", Str.ofString "n2i", Str.ofString "node", Str.ofString "nodeinfo", Str.ofString "stat", Str.ofString "successor", Str.ofString "successor_info"]⟩) (np := 2) (bd := bdV 1) (by rw [hK]; rfl) (by rw [hK]; kernel_rfl) rfl (by decide) (by decide) ?h1 ?h2 ?h3 (binds_v ?h4) bdV_len ?h5 rfl rfl rfl
  case h1 => decide
  case h2 => decide
  case h3 => decide
  case h4 => intro vs hv; have hp : (fnP fo_267).1 = ⟨[], [_], some _, [], [], none, []⟩ := rfl; match vs, hv with | [], hv => (simp at hv) | _ :: _, _ => (unfold bindArgs; simp only [hp, fnOf, Option.isNone_some, Bool.and_false, Bool.false_eq_true, if_false]; rfl)
  case h5 => exact S_cons' (S_if' _ (T_cmp' _ (R_attr' _ (fun _ => rfl) (R_loc' 0 _ _ (by kernel_rfl)) (At_inst' (dcls hK) (da1 hK))) (R_none' _ _) is_ok' rfl) (S_one' (S_none')) (S_nil')) (S_cons' (S_set' (i := 2) _ _ (R_attr' _ (fun _ => rfl) (R_loc' 0 _ _ (by kernel_rfl)) (At_inst' (dcls hK) (da0 hK))) (by kernel_rfl) (fun _ => rfl)) (S_one' (S_for' _ (R_loc' 1 _ _ (by kernel_rfl)) (ItW_ok' (items_ok' rfl) _) (A_name' (i := 3) _ (by kernel_rfl)) (S_cons' (S_ifW' (i := 4) _ _ _ _ _ _ (R_meth' _ _ (fun _ => rfl) (fun _ => rfl) (by decide) rfl (R_loc' 2 _ _ (by kernel_rfl)) M_get' (G_plain' (E_cons' (R_loc' 3 _ _ (by kernel_rfl)) (E_nil') (fun _ => rfl)) (fun _ => rfl))) (by kernel_rfl) (S_one' (S_none')) (S_nil')) (S_cons' (S_set' (i := 5) _ _ (R_attr' _ (fun _ => rfl) (R_loc' 4 _ _ (by kernel_rfl)) (At_slot' (sa_np hK))) (by kernel_rfl) (fun _ => rfl)) (S_cons' (S_if' _ (T_cmp' _ (R_loc' 5 _ _ (by kernel_rfl)) (R_gint' _ _ 530 _ ⟨by kernel_rfl, by kernel_rfl, .inl (by rw [hK]; rfl)⟩) ne_ok' rfl) (S_none') (S_nil')) (S_cons' (S_asg' (R_gint' _ _ 533 _ ⟨by kernel_rfl, by kernel_rfl, .inl (by rw [hK]; rfl)⟩) (Tg_one' (A_attr' _ (R_loc' 4 _ _ (by kernel_rfl)) (Sta_slot' (sa_np hK)))) (fun _ _ _ => rfl) (fun _ _ _ => rfl) (fun _ => rfl)) (S_cons' (S_for' _ (R_attr' _ (fun _ => rfl) (R_loc' 4 _ _ (by kernel_rfl)) (At_slot' (sa_succ hK))) (ItW_ok' (items_ok' rfl) _) (A_name' (i := 6) _ (by kernel_rfl)) (S_cons' (S_set' (i := 7) _ _ (R_sub' _ (R_loc' 2 _ _ (by kernel_rfl)) (R_loc' 6 _ _ (by kernel_rfl))) (by kernel_rfl) (fun _ => rfl)) (S_cons' (S_augA' _ _ (R_loc' 7 _ _ (by kernel_rfl)) (At_slot' (sa_np hK)) (R_int' _ _ _) isub_ok' (Sta_slot' (sa_np hK))) (S_one' (S_if' _ (T_cmp' _ (R_attr' _ (fun _ => rfl) (R_loc' 7 _ _ (by kernel_rfl)) (At_slot' (sa_np hK))) (R_int' _ _ _) eq_ok' rfl) (S_one' (S_do' _ (R_meth' _ _ (fun _ => rfl) (fun _ => rfl) (by decide) rfl (R_attr' _ (fun _ => rfl) (R_loc' 0 _ _ (by kernel_rfl)) (At_inst' (dcls hK) (da1 hK))) M_append' (G_plain' (E_cons' (R_loc' 6 _ _ (by kernel_rfl)) (E_nil') (fun _ => rfl)) (fun _ => rfl))) (fun _ => rfl))) (S_nil'))))) (S_nil') (fun _ _ => rfl)) (S_one' (S_augA' _ _ (R_loc' 0 _ _ (by kernel_rfl)) (At_inst' (dcls hK) (da3 hK)) (R_int' _ _ _) iadd_ok' (Sta_inst' (dcls hK) (da3 hK))))))))) (S_nil') (fun _ _ => rfl))))
end Mine
end
section
set_option tactic.hygienic false
open PySem PySem.W PyProof.Rows PySem.Calls
set_option maxRecDepth 100000
namespace Mine
mutual
noncomputable def PV.clo : PV → Bool
  | .none => true
  | .bool _ => true
  | .int _ => true
  | .str _ => true
  | .node _ => true
  | .rng _ _ => true
  | .val _ => true
  | .lst xs => PVs.clo xs
  | .tup xs => PVs.clo xs
  | _ => false
noncomputable def PVs.clo : List PV → Bool
  | [] => true
  | x :: xs => PV.clo x && PVs.clo xs
end
section
variable {c : Cx} {X : List Addr} {h : Heap} {μ μ' : List Addr}
theorem VR.clo {d : PV} {v : Value} (r : VR c X h μ d v) : PV.clo d = true → VR c X h μ' d v := by
  refine VR.rec (motive_1 := fun d v _ => PV.clo d = true → VR c X h μ' d v) (motive_2 := fun ds vs _ => PVs.clo ds = true → VRs c X h μ' ds vs) (fun _ => .none) (fun b _ => .bool b) (fun i t _ => .int i t) (fun s t _ => .str s t) (fun n t l _ => .node n t l)
    (fun e n _ ih q => .lst e n (ih q)) (fun e n _ ih q => .tup e n (ih q)) (fun e n _ => .rng e n) (fun _ q => noF q) (fun v _ => .val v) (fun _ _ _ q => noF q) (fun _ _ _ _ _ q => noF q) (fun _ => .nil) ?_ r
  intro d v ds vs _ _ iha ihb q
  have q' : (PV.clo d && PVs.clo ds) = true := q
  rw [Bool.and_eq_true] at q'
  exact .cons (iha q'.1) (ihb q'.2)
theorem VRs.clo {ds : List PV} {vs : List Value} (r : VRs c X h μ ds vs) : PVs.clo ds = true → VRs c X h μ' ds vs :=
  r.ind (m := fun ds vs => PVs.clo ds = true → VRs c X h μ' ds vs) (fun _ => .nil) fun {d v ds vs} a _ ih q => by
    have q' : (PV.clo d && PVs.clo ds) = true := q
    rw [Bool.and_eq_true] at q'
    exact .cons (a.clo q'.1) (ih q'.2)
end
noncomputable def freeze (σ : List Cell) (d : PV) : Option PV := if d.clo = true then some d else match d with
  | .ref j => match σ[j]? with
    | some (.list xs) => if PVs.clo xs = true then some (.lst xs) else none
    | _ => none
  | _ => none
noncomputable def gFresh (g : Fn) : Fn := fun ds σ => if PVs.clo ds = true ∧ σ.all (fun cl => !cl.isLock) = true then (g ds []).bind fun (d, σ1) => (freeze σ1 d).map fun d' => (d', σ) else none
set_option tactic.hygienic true in
theorem fresh_ap {c : Cx} {lv : Lv} {f : Value} {g : Fn} (h : Ap c lv f g) : Ap c lv f (gFresh g) := by
  intro A fl X μ s σ ds vs d σ' Q E ca I rs e q
  unfold gFresh at e
  split at e
  case isFalse => exact noS e
  rename_i hc
  obtain ⟨⟨d0, σ1⟩, e1, e⟩ := bind_some e
  obtain ⟨d', e2, e⟩ := map_some e
  cases e
  have noL : ∀ (j : Nat) (cl : Cell), σ[j]? ≠ some (.lock cl) := fun j cl z => by
    have := List.all_eq_true.mp hc.2 _ (List.mem_of_getElem? z)
    simp [Cell.isLock] at this
  have noK : ∀ p, p ∉ fl.lk := fun p m => by
    obtain ⟨_, j, cl, _, e2⟩ := I.lk p m
    exact noL j cl e2
  have I0 : Inv c fl X [] s.heap [] := {
    base := I.base
    own := I.own
    len := rfl
    nod := List.nodup_nil
    sub := fun _ m => nomatch m
    nsy := fun _ m => nomatch m
    cel := fun i a cl e _ => by simp at e
    fr := I.fr
    faX := I.faX
    faμ := fun _ _ m => nomatch m
    lk := fun p m => absurd m (noK p)
    lkc := fun j cl a e _ => by simp at e }
  refine h A fl X [] s [] ds vs d0 σ1 Q E ca I0 (rs.clo hc.1) e1 fun v h' tk X' μ1 S I1 r1 => ?_
  have fin : ∀ X'', (∀ b ∈ X, b ∈ X'') → (∀ b ∈ X'', b ∈ X') → VR c X'' h' μ d v → Q v { s with heap := h', toks := tk } := fun X'' up dn r => by
    have S' : Step fl.fa [] X μ s.heap X'' μ h' := {
      kp := fun b o e p _ f => S.kp b o e p (fun z => nomatch z) f
      kf := fun b o e p _ => S.kf b o e p (fun z => nomatch z)
      nf := S.nf
      subX := up
      newX := fun b m => S.newX b (dn b m)
      pre := List.prefix_refl _
      newμ := fun b m => .inl m }
    refine q v h' tk X'' μ S' ?_ r
    exact {
      base := fun b o e => ⟨(I1.base b o e).1, fun z => (I1.base b o e).2 (dn b z)⟩
      own := fun a m => I1.own a (dn a m)
      len := I.len
      nod := I.nod
      sub := fun a m => up a (I.sub a m)
      nsy := I.nsy
      cel := fun i a cl e z => (I.cel i a cl e z).mv (S'.mv (fun _ m => nomatch m) I.sub I.faX) fun o g => S.kp a o g (fun z => nomatch z) (fun z => nomatch z) fun z => I.faμ a z (List.mem_of_getElem? e)
      fr := I1.fr
      faX := fun b m => up b (I.faX b m)
      faμ := I.faμ
      lk := fun p m => absurd m (noK p)
      lkc := fun j cl a e _ => absurd e (noL j cl) }
  unfold freeze at e2
  split at e2
  · rename_i hcl
    obtain rfl := soJ e2
    exact fin X' S.subX (fun _ m => m) (r1.clo hcl)
  · cases r1 <;> first | (exact noS e2; done) | skip
    rename_i j a ha hneg
    dsimp only at e2
    split at e2
    case h_2 => exact noS e2
    rename_i xs hx
    split at e2
    case isFalse => exact noS e2
    rename_i hcl
    obtain rfl := soJ e2
    obtain ⟨us, hp, rr⟩ := I1.cel j a (.list xs) ha hx
    have hnew : s.heap.get? a = none := (S.newμ a (List.mem_of_getElem? ha)).elim (fun z => nomatch z) id
    refine fin (X'.filter fun b => b != a) (fun b m => List.mem_filter.mpr ⟨S.subX b m, ?_⟩) (fun b m => (List.mem_filter.mp m).1) ?_
    · obtain ⟨o, g, _⟩ := I.own b m
      rw [bne_iff_ne]
      rintro rfl
      rw [hnew] at g; exact noS g
    · have m : Mv X' h' μ1 (X'.filter fun b => b != a) h' μ1 := ⟨fun b o e n => ⟨e, fun z => n (List.mem_filter.mp z).1⟩, List.prefix_refl _⟩
      exact .lst hp.isList (fun z => by have := (List.mem_filter.mp z).2; simp at this) ((rr.mv m).clo hcl)
mutual
noncomputable def enc (rows : Nat → Str) : PV → PV
  | .node n => .str (rows n)
  | .lst xs => .lst (encs rows xs)
  | d => d
noncomputable def encs (rows : Nat → Str) : List PV → List PV
  | [] => []
  | x :: xs => enc rows x :: encs rows xs
end
section
variable {c : Cx} {X : List Addr} {h : Heap} {μ : List Addr}
theorem VR.enc {d : PV} {v : Value} (r : VR c X h μ d v) : VR c X h μ (enc c.rows d) v := by
  refine VR.rec (motive_1 := fun d v _ => VR c X h μ (Mine.enc c.rows d) v) (motive_2 := fun ds vs _ => VRs c X h μ (encs c.rows ds) vs) ?_ ?_ ?_ ?_ ?_ ?_ ?_ ?_ ?_ ?_ ?_ ?_ ?_ ?_ r
  · exact .none
  · exact .bool
  · exact .int
  · exact .str
  · exact fun n t _ => .str _ t
  · exact fun e n _ ih => .lst e n ih
  · exact fun e n r _ => .tup e n r
  · exact .rng
  · exact .ref
  · exact fun v => .val v
  · exact .view
  · exact fun hT e n r _ => .meth hT e n r
  · exact .nil
  · exact fun _ _ => .cons
end
noncomputable def decL (dec : Str → Option Nat) : List PV → Option (List PV)
  | [] => some []
  | .str s :: r => (dec s).bind fun n => (decL dec r).map (.node n :: ·)
  | _ => none
structure DecOk (c : Cx) (dec : Str → Option Nat) : Prop where
  ok : ∀ s n, dec s = some n → n < c.nn ∧ c.rows n = s
theorem VRs.dec {c : Cx} {X : List Addr} {h : Heap} {μ : List Addr} {dec} (D : DecOk c dec) {xs ys : List PV} {vs : List Value} (r : VRs c X h μ xs vs) : decL dec xs = some ys → VRs c X h μ ys vs :=
  r.ind (m := fun xs vs => ∀ ys, decL dec xs = some ys → VRs c X h μ ys vs) (fun ys e => soI e ▸ .nil) (fun {d v ds vs} a _ ih ys e => by
    cases d with
    | str s =>
      obtain ⟨t, rfl⟩ := a.str_inv
      unfold decL at e
      obtain ⟨n, e1, e⟩ := bind_some e
      obtain ⟨ys', e2, e⟩ := map_some e
      subst e
      obtain ⟨hn, hs⟩ := D.ok _ _ e1
      exact .cons (by rw [← hs]; exact .node n _ hn) (ih _ e2)
    | _ => exact noS e) ys
noncomputable def dec1 (dec : Str → Option Nat) : PV → Option PV
  | .lst xs => (decL dec xs).map .lst
  | _ => none
set_option tactic.hygienic true in
theorem VR.dec1 {c : Cx} {X : List Addr} {h : Heap} {μ : List Addr} {dec} (D : DecOk c dec) {d d' : PV} {v : Value} (r : VR c X h μ d v) (e : dec1 dec d = some d') : VR c X h μ d' v := by
  cases r <;> first | (exact noS e; done) | skip
  rename_i hl n rs
  obtain ⟨ys, e1, e⟩ := map_some e
  subst e
  exact .lst hl n (rs.dec D e1)
noncomputable def gRows (rows : Nat → Str) (dec : Str → Option Nat) (g : Fn) : Fn := m1 fun σ a => (dec1 dec a).bind fun b => (g [b] σ).map fun (d, σ') => (enc rows d, σ')
theorem rows_ap {c : Cx} {lv : Lv} {f : Value} {g : Fn} {dec} (D : DecOk c dec) (h : Ap c lv f g) : Ap c lv f (gRows c.rows dec g) := .m1 fun A fl X μ s σ v1 d1 d σ' Q E ca I r1 e q => by
  obtain ⟨b, e1, e⟩ := bind_some e
  obtain ⟨⟨d0, σ0⟩, e2, e⟩ := map_some e
  obtain ⟨rfl, rfl⟩ := prS e
  exact h A fl X μ s σ [b] [v1] d0 σ' Q E ca I (.one (r1.dec1 D e1)) e2 fun v h' tk X' μ' S I' r => q v h' tk X' μ' S I' r.enc
section
variable {c : Cx} {lv : Lv} {C : SC}
noncomputable def cEnc (rows : Nat → Str) (f : Co) : Co := fun st => (f st).map fun (d, σ) => (enc rows d, σ)
noncomputable def cDec (dec : Str → Option Nat) (f : Co) : Co := fun st => (f st).bind fun (d, σ) => (dec1 dec d).map fun d' => (d', σ)
theorem R_enc {e : Expr} {f : Co} (h : W (Ev c lv C e f)) : W (Ev c lv C e (cEnc c.rows f)) := ⟨by
  intro A fl env X μ s st d σ' Q E ca I F e q
  obtain ⟨⟨d0, σ0⟩, e1, e⟩ := map_some e
  obtain ⟨rfl, rfl⟩ := prS e
  exact h.h A fl env X μ s st d0 σ' Q E ca I F e1 fun v h' tk X' μ' S I' r => q v h' tk X' μ' S I' r.enc⟩
theorem R_dec {e : Expr} {f : Co} {dec} (D : DecOk c dec) (h : W (Ev c lv C e f)) : W (Ev c lv C e (cDec dec f)) := ⟨by
  intro A fl env X μ s st d σ' Q E ca I F e q
  obtain ⟨⟨d0, σ0⟩, e1, e⟩ := bind_some e
  obtain ⟨d1, e2, e⟩ := map_some e
  obtain ⟨rfl, rfl⟩ := prS e
  exact h.h A fl env X μ s st d0 σ' Q E ca I F e1 fun v h' tk X' μ' S I' r => q v h' tk X' μ' S I' (r.dec1 D e2)⟩
noncomputable def cForget (i : Nat) (f : Cs) : Cs := fun st => (f st).map fun (r, s1) => (r, ⟨s1.ρ.set i none, s1.σ⟩)
theorem FrS.forget {env X μ h ρ} (F : FrS c C env X μ h ρ) (i : Nat) : FrS c C env X μ h (ρ.set i none) where
  kind := F.kind
  names := F.names
  glob := F.glob
  blt := F.blt
  len := by rw [List.length_set]; exact F.len
  pX := F.pX
  nod := F.nod
  loc := by
    obtain ⟨m, n, r⟩ := F.loc
    refine ⟨m, n, fun j x d e1 e2 e3 => r j x d e1 e2 ?_⟩
    by_cases ij : i = j
    · subst ij
      rw [List.getElem?_set_self'] at e3
      cases hz : ρ[i]? <;> rw [hz] at e3 <;> exact noS e3
    · rw [List.getElem?_set_ne ij] at e3; exact e3
  cel := fun x q => by
    obtain ⟨a, o, cv, e, g, d, r⟩ := F.cel x q
    refine ⟨a, o, cv, e, g, d, fun j d' e1 e3 => r j d' e1 ?_⟩
    by_cases ij : i = j
    · subst ij
      rw [List.getElem?_set_self'] at e3
      cases hz : ρ[i]? <;> rw [hz] at e3 <;> exact noS e3
    · rw [List.getElem?_set_ne ij] at e3; exact e3
theorem S_forget {t : Env → Sem Flow} {f : Cs} (i : Nat) (h : W (Xs c lv C t f)) : W (Xs c lv C t (cForget i f)) := ⟨by
  intro A fl env X μ s st r st' Q E tp ca I F e q
  obtain ⟨⟨r0, s1⟩, e1, e⟩ := map_some e
  obtain ⟨rfl, rfl⟩ := prS e
  exact h.h A fl env X μ s st r s1 Q E tp ca I F e1 fun w h' tk X' μ' S I' F' z => q w h' tk X' μ' S I' (F'.forget i) z⟩
theorem S_weak {t : Env → Sem Flow} {f g : Cs} (h : W (Xs c lv C t f)) (w : ∀ st r, g st = some r → f st = some r) : W (Xs c lv C t g) := ⟨by
  intro A fl env X μ s st r st' Q E tp ca I F e q
  exact h.h A fl env X μ s st r st' Q E tp ca I F (w _ _ e) q⟩
theorem fresh_ap' {f : Value} {g : Fn} (h : W (Ap c lv f g)) : W (Ap c lv f (gFresh g)) := ⟨fresh_ap h.h⟩
theorem rows_ap' {f : Value} {g : Fn} {dec} (D : DecOk c dec) (h : W (Ap c lv f g)) : W (Ap c lv f (gRows c.rows dec g)) := ⟨rows_ap D h.h⟩
end
end Mine
end
section
set_option tactic.hygienic false
open PySem PySem.W PyProof.Rows PySem.Calls
set_option maxRecDepth 100000
set_option maxHeartbeats 0
namespace Mine
noncomputable def D_rbody (rows : Nat → Str) (dec : Str → Option Nat) : Cs := cSeq (cSet 4 (cComp items (cCall (gRange) (lCons (cVal (.int 1)) (lCons (cVal (.int 10)) (lNil)))) (cCmp nev2 (cBin oGet (cEnc rows (cLoc 3)) (cLoc 6)) (cVal (.str (Str.ofString "-")))) (cBin oAdd (cBin oAdd (cSlc (cEnc rows (cLoc 3)) (pNone) (pSome (cLoc 6))) (cVal (.str (Str.ofString "-")))) (cSlc (cEnc rows (cLoc 3)) (pSome (cBin oAdd (cLoc 6) (cVal (.int 1)))) (pNone))))) (cDo (cMethS 192 (F_add) (cLoc 1) (lCons (cLoc 3) (lStar (cDec dec (cComp items (cLoc 4) (cCmp in2 (cLoc 6) (cEnc rows (cLoc 0))) (cLoc 6))) (lNil)))))
noncomputable def cBody (nn : Nat) (pr : Nat → List Nat) : Cs := fun st => if st.ρ.length = 6 then
  ((st.ρ[0]?).join).bind fun rw => match rw with
  | .lst xs => (nodesOf xs).bind fun l => if (List.range nn).all (fun i => l.contains i) = true then
      ((st.ρ[3]?).join).bind fun d => match d with
        | .node n => if n < nn then (((st.ρ[1]?).join).bind fun so => if isInst 192 st.σ so = true then (F_add (so :: .node n :: (pr n).map .node) st.σ).map fun (_, σ') => (.next, ⟨st.ρ.set 4 none, σ'⟩) else none) else none
        | _ => none
     else none
  | _ => none
  else none
noncomputable def D_rounds (lt : Nat → Nat → Bool) (nn : Nat) (pr : Nat → List Nat) : Cs := cSeq (cSwap 1 2 (cTup (lCons (cCall (gNew 192 F_sinit) (lNil)) (lCons (cLstO (lNil)) (lNil))))) (cSeq (cFor items (cLoc 0) (fun d st => st.put 3 d) (cBody nn pr) (cSkip)) (cSeq (cDo (cMeth (isInst 192) (F_prep) (cLoc 1) (lNil))) (cSeq (cWhile 1000 (cTr tr (cMeth (isInst 192) (F_act) (cLoc 1) (lNil))) (cSeq (cSet 5 (cMeth (isInst 192) (F_ready) (cLoc 1) (lNil))) (cSeq (cDo (cMethS 192 (F_done) (cLoc 1) (lStar (cLoc 5) lNil))) (cDo (cMeth isList gAppend (cLoc 2) (lCons (cCall ((gSorted lt)) (lCons (cLoc 5) (lNil))) (lNil)))))) (cSkip)) (cRet (cLoc 2)))))
noncomputable abbrev F_rounds (lt : Nat → Nat → Bool) (nn : Nat) (pr : Nat → List Nat) : Fn := cFn 6 (bd 1) (D_rounds lt nn pr)
theorem rounds_apc {c : Cx} (hK : KK c) {lt : Nat → Nat → Bool} (ho : NodeOrd c lt) {dec : Str → Option Nat} (D : DecOk c dec) {nn : Nat} {pr : Nat → List Nat} (hw : ∀ st r, cBody nn pr st = some r → cForget 4 (D_rbody c.rows dec) st = some r) (n : Nat) : W (ApC c ⟨n + 5, true⟩ (.ref 276) (F_rounds lt nn pr)) := by
  refine' fn_apc' (C := ⟨_, [Str.ofString "rows", Str.ofString "sorter", Str.ofString "rounds", Str.ofString "row", Str.ofString "less", Str.ofString "ready"]⟩) (np := 1) (bd := bd 1) (by rw [hK]; rfl) (by rw [hK]; kernel_rfl) rfl (by decide) (by decide) ?h1 ?h2 ?h3 (binds_n ?h4) bd_len ?h5 rfl rfl rfl
  case h1 => decide
  case h2 => decide
  case h3 => decide
  case h4 => intro vs hv; match vs, hv with | [_], _ => rfl
  case h5 => exact S_cons' (S_swap' (x := Str.ofString "sorter") (y := Str.ofString "rounds") (i := 1) (j := 2) rfl (R_tuple' _ _ (E_cons' (R_call' (v := .ref 192) (g := gNew 192 F_sinit) _ _ ⟨by kernel_rfl, by kernel_rfl, .inl (by rw [hK]; rfl)⟩ (.inr (.inr (by rw [hK]; kernel_rfl))) (sorter_ap hK _) (G_nil')) (E_cons' (R_listO' _ (E_nil')) (E_nil') (fun _ => rfl)) (fun _ => rfl))) (by kernel_rfl) (by kernel_rfl) (fun _ => rfl) (ss_is (by kernel_rfl))) (S_cons' (S_for' _ (R_loc' 0 _ _ (by kernel_rfl)) (ItW_ok' (items_ok' rfl) _) (A_name' (i := 3) _ (by kernel_rfl)) (S_weak (S_forget 4 (S_cons' (S_comp' (i := 4) _ _ _ _ rfl (R_call' (v := .type "range") (g := gRange) _ _ ⟨by kernel_rfl, by kernel_rfl, .inr ⟨by rw [hK]; kernel_rfl, by kernel_rfl, by decide⟩⟩ (.inr (.inl ⟨_, rfl⟩)) range_ap' (G_plain' (E_cons' (R_int' _ _ _) (E_cons' (R_int' _ _ _) (E_nil') (fun _ => rfl)) (fun _ => rfl)) (fun _ => rfl))) (items_ok' rfl) (Tm_one' (T_cmp' _ (R_sub' _ (R_enc (R_loc' 3 _ _ (by kernel_rfl))) (R_loc' 6 _ _ (by kernel_rfl))) (R_str' _ _ _) ne_ok' rfl)) (R_bin' _ (R_bin' _ (R_slice' _ _ (R_enc (R_loc' 3 _ _ (by kernel_rfl))) (P_none') (P_some' (R_loc' 6 _ _ (by kernel_rfl)))) (R_str' _ _ _) add_ok') (R_slice' _ _ (R_enc (R_loc' 3 _ _ (by kernel_rfl))) (P_some' (R_bin' _ (R_loc' 6 _ _ (by kernel_rfl)) (R_int' _ _ _) add_ok')) (P_none')) add_ok') (fun _ _ => rfl) rfl (by kernel_rfl) (by kernel_rfl) (by kernel_rfl) (sw_is1 (by kernel_rfl))) (S_one' (S_do' _ (R_methS' (g := F_add) _ _ (fun _ => rfl) (fun _ => rfl) (dcls hK) (dm_add hK) (add_apc hK _) (R_loc' 1 _ _ (by kernel_rfl)) (G_plain' (E_cons' (R_loc' 3 _ _ (by kernel_rfl)) (E_star' (R_dec D (R_comp' _ _ rfl (R_loc' 4 _ _ (by kernel_rfl)) (items_ok' rfl) (Tm_one' (T_cmp' _ (R_loc' 6 _ _ (by kernel_rfl)) (R_enc (R_loc' 0 _ _ (by kernel_rfl))) in_ok' rfl)) (R_loc' 6 _ _ (by kernel_rfl)) (fun _ _ => rfl) rfl (by kernel_rfl) (by kernel_rfl))) (E_nil')) (fun _ => rfl)) (fun _ => rfl))) (fun _ => rfl))))) hw) (S_nil') (fun _ _ => rfl)) (S_cons' (S_do' _ (R_meth' (g := F_prep) _ _ (fun _ => rfl) (fun _ => rfl) (by decide) rfl (R_loc' 1 _ _ (by kernel_rfl)) (Mt_inst' (dcls hK) (dm_prep hK) (ApC_ap' (prep_apc hK _))) (G_nil')) (fun _ => rfl)) (S_cons' (S_while' _ (T_val' (R_meth' (g := F_act) _ _ (fun _ => rfl) (fun _ => rfl) (by decide) rfl (R_loc' 1 _ _ (by kernel_rfl)) (Mt_inst' (dcls hK) (dm_act hK) (ApC_ap' (act_apc hK _))) (G_nil')) tr_ok' rfl) (S_cons' (S_set' (i := 5) _ _ (R_meth' (g := F_ready) _ _ (fun _ => rfl) (fun _ => rfl) (by decide) rfl (R_loc' 1 _ _ (by kernel_rfl)) (Mt_inst' (dcls hK) (dm_ready hK) (ApC_ap' (ready_apc hK _))) (G_nil')) (by kernel_rfl) (fun _ => rfl)) (S_cons' (S_do' _ (R_methS' (g := F_done) _ _ (fun _ => rfl) (fun _ => rfl) (dcls hK) (dm_done hK) (done_apc hK _) (R_loc' 1 _ _ (by kernel_rfl)) (G_star' (R_loc' 5 _ _ (by kernel_rfl)))) (fun _ => rfl)) (S_one' (S_do' _ (R_meth' _ _ (fun _ => rfl) (fun _ => rfl) (by decide) rfl (R_loc' 2 _ _ (by kernel_rfl)) M_append' (G_plain' (E_cons' (R_call' (v := .builtin "sorted") (g := (gSorted lt)) _ _ ⟨by kernel_rfl, by kernel_rfl, .inr ⟨by rw [hK]; kernel_rfl, by kernel_rfl, by decide⟩⟩ (.inl ⟨_, rfl⟩) (sorted_ap' ho) (G_plain' (E_cons' (R_loc' 5 _ _ (by kernel_rfl)) (E_nil') (fun _ => rfl)) (fun _ => rfl))) (E_nil') (fun _ => rfl)) (fun _ => rfl))) (fun _ => rfl))))) (S_nil')) (S_one' (S_ret' _ (R_loc' 2 _ _ (by kernel_rfl)))))))
noncomputable def D_law (rows : Nat → Str) (dec : Str → Option Nat) (lt : Nat → Nat → Bool) (nn : Nat) (pr : Nat → List Nat) : Cs := cSeq (cSet 1 (cCall (gFresh F_pattern) (lCons (cSlc (cLoc 0) (pNone) (pSome (cVal (.int 6)))) (lNil)))) (cSeq (cAsg (fun d st => st.put 2 d) (cComp items (cCall (gRange) (lCons (cVal (.int 9)) (lNil))) (cCmp eqv2 (cBin oGet (cLoc 1) (cLoc 15)) (cVal (.str (Str.ofString "?")))) (cBin oPow (cVal (.int 2)) (cBin oSub (cVal (.int 8)) (cLoc 15))))) (cSeq (cSet 3 (cComp items (cCall (gRange) (lCons (cVal (.int 9)) (lNil))) (cCmp nev2 (cBin oGet (cLoc 1) (cLoc 15)) (cVal (.str (Str.ofString "?")))) (cBin oPow (cVal (.int 2)) (cBin oSub (cVal (.int 8)) (cLoc 15))))) (cSeq (cSet 4 (cBin oAdd (cVal (.int 32768)) (cCall (gSumA) (lCons (cComp items (cCall (gRange) (lCons (cVal (.int 9)) (lNil))) (cCmp in2 (cBin oGet (cLoc 1) (cLoc 15)) (cLst (lCons (cVal (.str (Str.ofString "r"))) (lCons (cVal (.str (Str.ofString "w"))) (lCons (cVal (.str (Str.ofString "x"))) (lNil)))))) (cBin oPow (cVal (.int 2)) (cBin oSub (cVal (.int 8)) (cLoc 15)))) (lNil))))) (cSeq (cAsg (fun d st => st.put 5 d) (cComp items (cCall (gRange) (lCons (cBin oPow (cVal (.int 2)) (cCall (gLen) (lCons (cLoc 2) (lNil)))) (lNil))) (tAll) (cBin oAdd (cLoc 4) (cCall (gSumA) (lCons (cComp items (cCall (gRange) (lCons (cCall (gLen) (lCons (cLoc 2) (lNil))) (lNil))) (cCmp eqv2 (cBin oMod (cBin oDiv (cLoc 15) (cBin oPow (cVal (.int 2)) (cLoc 16))) (cVal (.int 2))) (cVal (.int 1))) (cBin oGet (cLoc 2) (cLoc 16))) (lNil)))))) (cSeq (cSet 6 (cBin oAdd (cBin oAdd (cComp items (cLoc 3) (tAll) (cBin oXor (cLoc 4) (cLoc 15))) (cComp items (cLst (lCons (cVal (.int 512)) (lCons (cVal (.int 1024)) (lCons (cVal (.int 2048)) (lNil))))) (tAll) (cBin oAdd (cLoc 4) (cLoc 15)))) (cComp items (cLst (lCons (cVal (.int 4)) (lCons (cVal (.int 6)) (lCons (cVal (.int 10)) (lCons (cVal (.int 12)) (lNil)))))) (tAll) (cBin oAdd (cBin oSub (cLoc 4) (cVal (.int 32768))) (cBin oMul (cLoc 15) (cVal (.int 4096))))))) (cSeq (cSet 7 (cBin oMod (cCall (gSumA) (lCons (cSlc (cLoc 0) (pNone) (pSome (cVal (.int 6)))) (lNil))) (cVal (.int 5)))) (cSeq (cSet 8 (cBin oAdd (cSlc (cBin oAdd (cLoc 5) (cLoc 6)) (pSome (cLoc 7)) (pNone)) (cSlc (cBin oAdd (cLoc 5) (cLoc 6)) (pNone) (pSome (cLoc 7))))) (cSeq (cAsg (fun d st => st.put 9 d) (cDComp items (cLoc 8) (tAll) (cLoc 15) (cCall (gFresh F_filemode) (lCons (cLoc 15) (lNil))))) (cSeq (cIf (cCmp nev2 (cComp items (cLoc 8) (tAll) (cLst (lCons (cBin oGet (cLoc 9) (cLoc 15)) (lCons (cCall (F_ifmt) (lCons (cLoc 15) (lNil))) (lCons (cCall (F_imode) (lCons (cLoc 15) (lNil))) (lNil)))))) (cComp items (cLoc 8) (tAll) (cLst (lCons (cCall (gFresh F_written) (lCons (cLoc 15) (lNil))) (lCons (cBin oSub (cLoc 15) (cBin oMod (cLoc 15) (cVal (.int 4096)))) (lCons (cBin oMod (cLoc 15) (cVal (.int 4096))) (lNil))))))) (cRet (cVal (.bool false))) (cSkip)) (cSeq (cSet 10 (cBin oAdd (cVal (.str (Str.ofString "-"))) (cMeth isStr gJoin (cVal (.str (Str.ofString ""))) (lCons (cLoc 1) (lNil))))) (cSeq (cAsg (aTup 2 (aCons (fun d st => st.put 11 d) (aCons (fun d st => st.put 12 d) (aNil)))) (cTup (lCons (cCall (gFresh F_translate) (lCons (cLoc 10) (lNil))) (lCons (cComp items (cLoc 8) (tAll) (cBin oGet (cLoc 9) (cLoc 15))) (lNil))))) (cSeq (cIf (cCmp nev2 (cComp items (cLoc 12) (tAll) (cCall (gFresh F_fits) (lCons (cLoc 11) (lCons (cLoc 15) (lNil))))) (cComp items (cLoc 12) (tAll) (cBin (fun σ a b => (eqv2 σ a b).map .bool) (cComp items (cCall (gRange) (lCons (cVal (.int 10)) (lNil))) (cCmp ninL (cBin oGet (cLoc 10) (cLoc 16)) (cLst (lCons (cVal (.str (Str.ofString "?"))) (lCons (cBin oGet (cLoc 15) (cLoc 16)) (lNil))))) (cLoc 16)) (cLst (lNil))))) (cRet (cVal (.bool false))) (cSkip)) (cSeq (cAsg (fun d st => st.put 13 d) (cComp items (cLoc 5) (tAll) (cCall (gSumA) (lCons (cComp items (cLoc 2) (cCmp eqv2 (cBin oMod (cBin oDiv (cLoc 15) (cLoc 16)) (cVal (.int 2))) (cVal (.int 1))) (cVal (.int 1))) (lNil))))) (cSeq (cSet 14 (cComp items (cCall (gRange) (lCons (cBin oAdd (cCall (gLen) (lCons (cLoc 2) (lNil))) (cVal (.int 1))) (lNil))) (tAll) (cCall ((gSorted lt)) (lCons (cComp items (cCall (gRange) (lCons (cCall (gLen) (lCons (cLoc 5) (lNil))) (lNil))) (cCmp eqv2 (cBin oGet (cLoc 13) (cLoc 16)) (cLoc 15)) (cBin oGet (cLoc 9) (cBin oGet (cLoc 5) (cLoc 16)))) (lNil))))) (cRet (cBin (fun σ a b => (eqv2 σ a b).map .bool) (cCall (gRows rows dec (gFresh (F_rounds lt nn pr))) (lCons (cComp items (cLoc 8) (cCmp in2 (cLoc 15) (cLoc 5)) (cBin oGet (cLoc 9) (cLoc 15))) (lNil))) (cLoc 14)))))))))))))))))
noncomputable abbrev F_law (rows : Nat → Str) (dec : Str → Option Nat) (lt : Nat → Nat → Bool) (nn : Nat) (pr : Nat → List Nat) : Fn := cFn 15 (bd 1) (D_law rows dec lt nn pr)
theorem law_apc {c : Cx} (hK : KK c) {lt : Nat → Nat → Bool} (ho : NodeOrd c lt) {dec : Str → Option Nat} (D : DecOk c dec) {nn : Nat} {pr : Nat → List Nat} (hw : ∀ st r, cBody nn pr st = some r → cForget 4 (D_rbody c.rows dec) st = some r) (n : Nat) : W (ApC c ⟨n + 6, true⟩ (.ref 281) (F_law c.rows dec lt nn pr)) := by
  refine' fn_apc' (C := ⟨_, [Str.ofString "script", Str.ofString "places", Str.ofString "bits", Str.ofString "shut", Str.ofString "base", Str.ofString "free", Str.ofString "more", Str.ofString "turn", Str.ofString "held", Str.ofString "written", Str.ofString "pattern", Str.ofString "made", Str.ofString "rows", Str.ofString "many", Str.ofString "rounds"]⟩) (np := 1) (bd := bd 1) (by rw [hK]; rfl) (by rw [hK]; kernel_rfl) rfl (by decide) (by decide) ?h1 ?h2 ?h3 (binds_n ?h4) bd_len ?h5 rfl rfl rfl
  case h1 => decide
  case h2 => decide
  case h3 => decide
  case h4 => intro vs hv; match vs, hv with | [_], _ => rfl
  case h5 => exact S_cons' (S_set' (i := 1) _ _ (R_call' (v := .ref 257) (g := gFresh F_pattern) _ _ ⟨by kernel_rfl, by kernel_rfl, .inl (by rw [hK]; rfl)⟩ (.inr (.inr (by rw [hK]; kernel_rfl))) (fresh_ap' (ApC_ap' (pattern_apc hK _))) (G_plain' (E_cons' (R_slice' _ _ (R_loc' 0 _ _ (by kernel_rfl)) (P_none') (P_some' (R_int' _ _ _))) (E_nil') (fun _ => rfl)) (fun _ => rfl))) (by kernel_rfl) (fun _ => rfl)) (S_cons' (S_asg' (R_comp' _ _ rfl (R_call' (v := .type "range") (g := gRange) _ _ ⟨by kernel_rfl, by kernel_rfl, .inr ⟨by rw [hK]; kernel_rfl, by kernel_rfl, by decide⟩⟩ (.inr (.inl ⟨_, rfl⟩)) range_ap' (G_plain' (E_cons' (R_int' _ _ _) (E_nil') (fun _ => rfl)) (fun _ => rfl))) (items_ok' rfl) (Tm_one' (T_cmp' _ (R_sub' _ (R_loc' 1 _ _ (by kernel_rfl)) (R_loc' 15 _ _ (by kernel_rfl))) (R_str' _ _ _) eq_ok' rfl)) (R_bin' _ (R_int' _ _ _) (R_bin' _ (R_int' _ _ _) (R_loc' 15 _ _ (by kernel_rfl)) sub_ok') pow_ok') (fun _ _ => rfl) rfl (by kernel_rfl) (by kernel_rfl)) (Tg_one' (A_name' (i := 2) _ (by kernel_rfl))) (sw_is (by kernel_rfl)) (fun _ _ _ => rfl) (fun _ => rfl)) (S_cons' (S_comp' (i := 3) _ _ _ _ rfl (R_call' (v := .type "range") (g := gRange) _ _ ⟨by kernel_rfl, by kernel_rfl, .inr ⟨by rw [hK]; kernel_rfl, by kernel_rfl, by decide⟩⟩ (.inr (.inl ⟨_, rfl⟩)) range_ap' (G_plain' (E_cons' (R_int' _ _ _) (E_nil') (fun _ => rfl)) (fun _ => rfl))) (items_ok' rfl) (Tm_one' (T_cmp' _ (R_sub' _ (R_loc' 1 _ _ (by kernel_rfl)) (R_loc' 15 _ _ (by kernel_rfl))) (R_str' _ _ _) ne_ok' rfl)) (R_bin' _ (R_int' _ _ _) (R_bin' _ (R_int' _ _ _) (R_loc' 15 _ _ (by kernel_rfl)) sub_ok') pow_ok') (fun _ _ => rfl) rfl (by kernel_rfl) (by kernel_rfl) (by kernel_rfl) (sw_is1 (by kernel_rfl))) (S_cons' (S_set' (i := 4) _ _ (R_bin' _ (R_int' _ _ _) (R_call' (v := .builtin "sum") (g := gSumA) _ _ ⟨by kernel_rfl, by kernel_rfl, .inr ⟨by rw [hK]; kernel_rfl, by kernel_rfl, by decide⟩⟩ (.inl ⟨_, rfl⟩) (sumA_ap' rfl) (G_plain' (E_cons' (R_comp' _ _ rfl (R_call' (v := .type "range") (g := gRange) _ _ ⟨by kernel_rfl, by kernel_rfl, .inr ⟨by rw [hK]; kernel_rfl, by kernel_rfl, by decide⟩⟩ (.inr (.inl ⟨_, rfl⟩)) range_ap' (G_plain' (E_cons' (R_int' _ _ _) (E_nil') (fun _ => rfl)) (fun _ => rfl))) (items_ok' rfl) (Tm_one' (T_cmp' _ (R_sub' _ (R_loc' 1 _ _ (by kernel_rfl)) (R_loc' 15 _ _ (by kernel_rfl))) (R_list' _ (E_cons' (R_str' _ _ _) (E_cons' (R_str' _ _ _) (E_cons' (R_str' _ _ _) (E_nil') (fun _ => rfl)) (fun _ => rfl)) (fun _ => rfl))) in_ok' rfl)) (R_bin' _ (R_int' _ _ _) (R_bin' _ (R_int' _ _ _) (R_loc' 15 _ _ (by kernel_rfl)) sub_ok') pow_ok') (fun _ _ => rfl) rfl (by kernel_rfl) (by kernel_rfl)) (E_nil') (fun _ => rfl)) (fun _ => rfl))) add_ok') (by kernel_rfl) (fun _ => rfl)) (S_cons' (S_asg' (R_comp' _ _ rfl (R_call' (v := .type "range") (g := gRange) _ _ ⟨by kernel_rfl, by kernel_rfl, .inr ⟨by rw [hK]; kernel_rfl, by kernel_rfl, by decide⟩⟩ (.inr (.inl ⟨_, rfl⟩)) range_ap' (G_plain' (E_cons' (R_bin' _ (R_int' _ _ _) (R_call' (v := .builtin "len") (g := gLen) _ _ ⟨by kernel_rfl, by kernel_rfl, .inr ⟨by rw [hK]; kernel_rfl, by kernel_rfl, by decide⟩⟩ (.inl ⟨_, rfl⟩) len_ap' (G_plain' (E_cons' (R_loc' 2 _ _ (by kernel_rfl)) (E_nil') (fun _ => rfl)) (fun _ => rfl))) pow_ok') (E_nil') (fun _ => rfl)) (fun _ => rfl))) (items_ok' rfl) (Tm_nil') (R_bin' _ (R_loc' 4 _ _ (by kernel_rfl)) (R_call' (v := .builtin "sum") (g := gSumA) _ _ ⟨by kernel_rfl, by kernel_rfl, .inr ⟨by rw [hK]; kernel_rfl, by kernel_rfl, by decide⟩⟩ (.inl ⟨_, rfl⟩) (sumA_ap' rfl) (G_plain' (E_cons' (R_comp' _ _ rfl (R_call' (v := .type "range") (g := gRange) _ _ ⟨by kernel_rfl, by kernel_rfl, .inr ⟨by rw [hK]; kernel_rfl, by kernel_rfl, by decide⟩⟩ (.inr (.inl ⟨_, rfl⟩)) range_ap' (G_plain' (E_cons' (R_call' (v := .builtin "len") (g := gLen) _ _ ⟨by kernel_rfl, by kernel_rfl, .inr ⟨by rw [hK]; kernel_rfl, by kernel_rfl, by decide⟩⟩ (.inl ⟨_, rfl⟩) len_ap' (G_plain' (E_cons' (R_loc' 2 _ _ (by kernel_rfl)) (E_nil') (fun _ => rfl)) (fun _ => rfl))) (E_nil') (fun _ => rfl)) (fun _ => rfl))) (items_ok' rfl) (Tm_one' (T_cmp' _ (R_bin' _ (R_bin' _ (R_loc' 15 _ _ (by kernel_rfl)) (R_bin' _ (R_int' _ _ _) (R_loc' 16 _ _ (by kernel_rfl)) pow_ok') div_ok') (R_int' _ _ _) mod_ok') (R_int' _ _ _) eq_ok' rfl)) (R_sub' _ (R_loc' 2 _ _ (by kernel_rfl)) (R_loc' 16 _ _ (by kernel_rfl))) (fun _ _ => rfl) rfl (by kernel_rfl) (by kernel_rfl)) (E_nil') (fun _ => rfl)) (fun _ => rfl))) add_ok') (fun _ _ => rfl) rfl (by kernel_rfl) (by kernel_rfl)) (Tg_one' (A_name' (i := 5) _ (by kernel_rfl))) (sw_is (by kernel_rfl)) (fun _ _ _ => rfl) (fun _ => rfl)) (S_cons' (S_set' (i := 6) _ _ (R_bin' _ (R_bin' _ (R_comp' _ _ rfl (R_loc' 3 _ _ (by kernel_rfl)) (items_ok' rfl) (Tm_nil') (R_bin' _ (R_loc' 4 _ _ (by kernel_rfl)) (R_loc' 15 _ _ (by kernel_rfl)) xor_ok') (fun _ _ => rfl) rfl (by kernel_rfl) (by kernel_rfl)) (R_comp' _ _ rfl (R_list' _ (E_cons' (R_int' _ _ _) (E_cons' (R_int' _ _ _) (E_cons' (R_int' _ _ _) (E_nil') (fun _ => rfl)) (fun _ => rfl)) (fun _ => rfl))) (items_ok' rfl) (Tm_nil') (R_bin' _ (R_loc' 4 _ _ (by kernel_rfl)) (R_loc' 15 _ _ (by kernel_rfl)) add_ok') (fun _ _ => rfl) rfl (by kernel_rfl) (by kernel_rfl)) add_ok') (R_comp' _ _ rfl (R_list' _ (E_cons' (R_int' _ _ _) (E_cons' (R_int' _ _ _) (E_cons' (R_int' _ _ _) (E_cons' (R_int' _ _ _) (E_nil') (fun _ => rfl)) (fun _ => rfl)) (fun _ => rfl)) (fun _ => rfl))) (items_ok' rfl) (Tm_nil') (R_bin' _ (R_bin' _ (R_loc' 4 _ _ (by kernel_rfl)) (R_int' _ _ _) sub_ok') (R_bin' _ (R_loc' 15 _ _ (by kernel_rfl)) (R_int' _ _ _) mul_ok') add_ok') (fun _ _ => rfl) rfl (by kernel_rfl) (by kernel_rfl)) add_ok') (by kernel_rfl) (fun _ => rfl)) (S_cons' (S_set' (i := 7) _ _ (R_bin' _ (R_call' (v := .builtin "sum") (g := gSumA) _ _ ⟨by kernel_rfl, by kernel_rfl, .inr ⟨by rw [hK]; kernel_rfl, by kernel_rfl, by decide⟩⟩ (.inl ⟨_, rfl⟩) (sumA_ap' rfl) (G_plain' (E_cons' (R_slice' _ _ (R_loc' 0 _ _ (by kernel_rfl)) (P_none') (P_some' (R_int' _ _ _))) (E_nil') (fun _ => rfl)) (fun _ => rfl))) (R_int' _ _ _) mod_ok') (by kernel_rfl) (fun _ => rfl)) (S_cons' (S_set' (i := 8) _ _ (R_bin' _ (R_slice' _ _ (R_bin' _ (R_loc' 5 _ _ (by kernel_rfl)) (R_loc' 6 _ _ (by kernel_rfl)) add_ok') (P_some' (R_loc' 7 _ _ (by kernel_rfl))) (P_none')) (R_slice' _ _ (R_bin' _ (R_loc' 5 _ _ (by kernel_rfl)) (R_loc' 6 _ _ (by kernel_rfl)) add_ok') (P_none') (P_some' (R_loc' 7 _ _ (by kernel_rfl)))) add_ok') (by kernel_rfl) (fun _ => rfl)) (S_cons' (S_asg' (R_dcomp' _ _ rfl (R_loc' 8 _ _ (by kernel_rfl)) (items_ok' rfl) (Tm_nil') (R_loc' 15 _ _ (by kernel_rfl)) (R_call' (v := .ref 250) (g := gFresh F_filemode) _ _ ⟨by kernel_rfl, by kernel_rfl, .inl (by rw [hK]; rfl)⟩ (.inr (.inr (by rw [hK]; kernel_rfl))) (fresh_ap' (ApC_ap' (filemode_apc hK _))) (G_plain' (E_cons' (R_loc' 15 _ _ (by kernel_rfl)) (E_nil') (fun _ => rfl)) (fun _ => rfl))) (fun _ _ => rfl) rfl (by kernel_rfl) (by kernel_rfl)) (Tg_one' (A_name' (i := 9) _ (by kernel_rfl))) (sw_is (by kernel_rfl)) (fun _ _ _ => rfl) (fun _ => rfl)) (S_cons' (S_if' _ (T_cmp' _ (R_comp' _ _ rfl (R_loc' 8 _ _ (by kernel_rfl)) (items_ok' rfl) (Tm_nil') (R_list' _ (E_cons' (R_sub' _ (R_loc' 9 _ _ (by kernel_rfl)) (R_loc' 15 _ _ (by kernel_rfl))) (E_cons' (R_call' (v := .ref 210) (g := F_ifmt) _ _ ⟨by kernel_rfl, by kernel_rfl, .inl (by rw [hK]; rfl)⟩ (.inr (.inr (by rw [hK]; kernel_rfl))) (ApC_ap' (ifmt_apc hK _)) (G_plain' (E_cons' (R_loc' 15 _ _ (by kernel_rfl)) (E_nil') (fun _ => rfl)) (fun _ => rfl))) (E_cons' (R_call' (v := .ref 203) (g := F_imode) _ _ ⟨by kernel_rfl, by kernel_rfl, .inl (by rw [hK]; rfl)⟩ (.inr (.inr (by rw [hK]; kernel_rfl))) (ApC_ap' (imode_apc hK _)) (G_plain' (E_cons' (R_loc' 15 _ _ (by kernel_rfl)) (E_nil') (fun _ => rfl)) (fun _ => rfl))) (E_nil') (fun _ => rfl)) (fun _ => rfl)) (fun _ => rfl))) (fun _ _ => rfl) rfl (by kernel_rfl) (by kernel_rfl)) (R_comp' _ _ rfl (R_loc' 8 _ _ (by kernel_rfl)) (items_ok' rfl) (Tm_nil') (R_list' _ (E_cons' (R_call' (v := .ref 264) (g := gFresh F_written) _ _ ⟨by kernel_rfl, by kernel_rfl, .inl (by rw [hK]; rfl)⟩ (.inr (.inr (by rw [hK]; kernel_rfl))) (fresh_ap' (ApC_ap' (written_apc hK _))) (G_plain' (E_cons' (R_loc' 15 _ _ (by kernel_rfl)) (E_nil') (fun _ => rfl)) (fun _ => rfl))) (E_cons' (R_bin' _ (R_loc' 15 _ _ (by kernel_rfl)) (R_bin' _ (R_loc' 15 _ _ (by kernel_rfl)) (R_int' _ _ _) mod_ok') sub_ok') (E_cons' (R_bin' _ (R_loc' 15 _ _ (by kernel_rfl)) (R_int' _ _ _) mod_ok') (E_nil') (fun _ => rfl)) (fun _ => rfl)) (fun _ => rfl))) (fun _ _ => rfl) rfl (by kernel_rfl) (by kernel_rfl)) ne_ok' rfl) (S_one' (S_ret' _ (R_bool' _ _ _))) (S_nil')) (S_cons' (S_set' (i := 10) _ _ (R_bin' _ (R_str' _ _ _) (R_meth' _ _ (fun _ => rfl) (fun _ => rfl) (by decide) rfl (R_str' _ _ _) M_join' (G_plain' (E_cons' (R_loc' 1 _ _ (by kernel_rfl)) (E_nil') (fun _ => rfl)) (fun _ => rfl))) add_ok') (by kernel_rfl) (fun _ => rfl)) (S_cons' (S_tup' (R_tuple' _ _ (E_cons' (R_call' (v := .ref 50) (g := gFresh F_translate) _ _ ⟨by kernel_rfl, by kernel_rfl, .inl (by rw [hK]; rfl)⟩ (.inr (.inr (by rw [hK]; kernel_rfl))) (fresh_ap' (ApC_ap' (translate_apc hK _))) (G_plain' (E_cons' (R_loc' 10 _ _ (by kernel_rfl)) (E_nil') (fun _ => rfl)) (fun _ => rfl))) (E_cons' (R_comp' _ _ rfl (R_loc' 8 _ _ (by kernel_rfl)) (items_ok' rfl) (Tm_nil') (R_sub' _ (R_loc' 9 _ _ (by kernel_rfl)) (R_loc' 15 _ _ (by kernel_rfl))) (fun _ _ => rfl) rfl (by kernel_rfl) (by kernel_rfl)) (E_nil') (fun _ => rfl)) (fun _ => rfl))) (A_tup' _ _ 2 rfl (Asl_cons' (A_name' (i := 11) _ (by kernel_rfl)) (Asl_cons' (A_name' (i := 12) _ (by kernel_rfl)) (Asl_nil') (fun _ => rfl)) (fun _ => rfl)) (fun _ => ⟨rfl, rfl⟩)) (fun _ => rfl) (ss_is (by kernel_rfl))) (S_cons' (S_if' _ (T_cmp' _ (R_comp' _ _ rfl (R_loc' 12 _ _ (by kernel_rfl)) (items_ok' rfl) (Tm_nil') (R_call' (v := .ref 271) (g := gFresh F_fits) _ _ ⟨by kernel_rfl, by kernel_rfl, .inl (by rw [hK]; rfl)⟩ (.inr (.inr (by rw [hK]; kernel_rfl))) (fresh_ap' (ApC_ap' (fits_apc hK _))) (G_plain' (E_cons' (R_loc' 11 _ _ (by kernel_rfl)) (E_cons' (R_loc' 15 _ _ (by kernel_rfl)) (E_nil') (fun _ => rfl)) (fun _ => rfl)) (fun _ => rfl))) (fun _ _ => rfl) rfl (by kernel_rfl) (by kernel_rfl)) (R_comp' _ _ rfl (R_loc' 12 _ _ (by kernel_rfl)) (items_ok' rfl) (Tm_nil') (R_cmpb' _ (R_comp' _ _ rfl (R_call' (v := .type "range") (g := gRange) _ _ ⟨by kernel_rfl, by kernel_rfl, .inr ⟨by rw [hK]; kernel_rfl, by kernel_rfl, by decide⟩⟩ (.inr (.inl ⟨_, rfl⟩)) range_ap' (G_plain' (E_cons' (R_int' _ _ _) (E_nil') (fun _ => rfl)) (fun _ => rfl))) (items_ok' rfl) (Tm_one' (T_cmp' _ (R_sub' _ (R_loc' 10 _ _ (by kernel_rfl)) (R_loc' 16 _ _ (by kernel_rfl))) (R_list' _ (E_cons' (R_str' _ _ _) (E_cons' (R_sub' _ (R_loc' 15 _ _ (by kernel_rfl)) (R_loc' 16 _ _ (by kernel_rfl))) (E_nil') (fun _ => rfl)) (fun _ => rfl))) notIn_ok' rfl)) (R_loc' 16 _ _ (by kernel_rfl)) (fun _ _ => rfl) rfl (by kernel_rfl) (by kernel_rfl)) (R_list' _ (E_nil')) eq_ok' rfl) (fun _ _ => rfl) rfl (by kernel_rfl) (by kernel_rfl)) ne_ok' rfl) (S_one' (S_ret' _ (R_bool' _ _ _))) (S_nil')) (S_cons' (S_asg' (R_comp' _ _ rfl (R_loc' 5 _ _ (by kernel_rfl)) (items_ok' rfl) (Tm_nil') (R_call' (v := .builtin "sum") (g := gSumA) _ _ ⟨by kernel_rfl, by kernel_rfl, .inr ⟨by rw [hK]; kernel_rfl, by kernel_rfl, by decide⟩⟩ (.inl ⟨_, rfl⟩) (sumA_ap' rfl) (G_plain' (E_cons' (R_comp' _ _ rfl (R_loc' 2 _ _ (by kernel_rfl)) (items_ok' rfl) (Tm_one' (T_cmp' _ (R_bin' _ (R_bin' _ (R_loc' 15 _ _ (by kernel_rfl)) (R_loc' 16 _ _ (by kernel_rfl)) div_ok') (R_int' _ _ _) mod_ok') (R_int' _ _ _) eq_ok' rfl)) (R_int' _ _ _) (fun _ _ => rfl) rfl (by kernel_rfl) (by kernel_rfl)) (E_nil') (fun _ => rfl)) (fun _ => rfl))) (fun _ _ => rfl) rfl (by kernel_rfl) (by kernel_rfl)) (Tg_one' (A_name' (i := 13) _ (by kernel_rfl))) (sw_is (by kernel_rfl)) (fun _ _ _ => rfl) (fun _ => rfl)) (S_cons' (S_comp' (i := 14) _ _ _ _ rfl (R_call' (v := .type "range") (g := gRange) _ _ ⟨by kernel_rfl, by kernel_rfl, .inr ⟨by rw [hK]; kernel_rfl, by kernel_rfl, by decide⟩⟩ (.inr (.inl ⟨_, rfl⟩)) range_ap' (G_plain' (E_cons' (R_bin' _ (R_call' (v := .builtin "len") (g := gLen) _ _ ⟨by kernel_rfl, by kernel_rfl, .inr ⟨by rw [hK]; kernel_rfl, by kernel_rfl, by decide⟩⟩ (.inl ⟨_, rfl⟩) len_ap' (G_plain' (E_cons' (R_loc' 2 _ _ (by kernel_rfl)) (E_nil') (fun _ => rfl)) (fun _ => rfl))) (R_int' _ _ _) add_ok') (E_nil') (fun _ => rfl)) (fun _ => rfl))) (items_ok' rfl) (Tm_nil') (R_call' (v := .builtin "sorted") (g := (gSorted lt)) _ _ ⟨by kernel_rfl, by kernel_rfl, .inr ⟨by rw [hK]; kernel_rfl, by kernel_rfl, by decide⟩⟩ (.inl ⟨_, rfl⟩) (sorted_ap' ho) (G_plain' (E_cons' (R_comp' _ _ rfl (R_call' (v := .type "range") (g := gRange) _ _ ⟨by kernel_rfl, by kernel_rfl, .inr ⟨by rw [hK]; kernel_rfl, by kernel_rfl, by decide⟩⟩ (.inr (.inl ⟨_, rfl⟩)) range_ap' (G_plain' (E_cons' (R_call' (v := .builtin "len") (g := gLen) _ _ ⟨by kernel_rfl, by kernel_rfl, .inr ⟨by rw [hK]; kernel_rfl, by kernel_rfl, by decide⟩⟩ (.inl ⟨_, rfl⟩) len_ap' (G_plain' (E_cons' (R_loc' 5 _ _ (by kernel_rfl)) (E_nil') (fun _ => rfl)) (fun _ => rfl))) (E_nil') (fun _ => rfl)) (fun _ => rfl))) (items_ok' rfl) (Tm_one' (T_cmp' _ (R_sub' _ (R_loc' 13 _ _ (by kernel_rfl)) (R_loc' 16 _ _ (by kernel_rfl))) (R_loc' 15 _ _ (by kernel_rfl)) eq_ok' rfl)) (R_sub' _ (R_loc' 9 _ _ (by kernel_rfl)) (R_sub' _ (R_loc' 5 _ _ (by kernel_rfl)) (R_loc' 16 _ _ (by kernel_rfl)))) (fun _ _ => rfl) rfl (by kernel_rfl) (by kernel_rfl)) (E_nil') (fun _ => rfl)) (fun _ => rfl))) (fun _ _ => rfl) rfl (by kernel_rfl) (by kernel_rfl) (by kernel_rfl) (sw_is1 (by kernel_rfl))) (S_one' (S_ret' _ (R_cmpb' _ (R_call' (v := .ref 276) (g := gRows c.rows dec (gFresh (F_rounds lt nn pr))) _ _ ⟨by kernel_rfl, by kernel_rfl, .inl (by rw [hK]; rfl)⟩ (.inr (.inr (by rw [hK]; kernel_rfl))) (rows_ap' D (fresh_ap' (ApC_ap' (rounds_apc hK ho D hw _)))) (G_plain' (E_cons' (R_comp' _ _ rfl (R_loc' 8 _ _ (by kernel_rfl)) (items_ok' rfl) (Tm_one' (T_cmp' _ (R_loc' 15 _ _ (by kernel_rfl)) (R_loc' 5 _ _ (by kernel_rfl)) in_ok' rfl)) (R_sub' _ (R_loc' 9 _ _ (by kernel_rfl)) (R_loc' 15 _ _ (by kernel_rfl))) (fun _ _ => rfl) rfl (by kernel_rfl) (by kernel_rfl)) (E_nil') (fun _ => rfl)) (fun _ => rfl))) (R_loc' 14 _ _ (by kernel_rfl)) eq_ok' rfl)))))))))))))))))
end Mine
end
section
set_option tactic.hygienic false
open PySem PySem.W PyProof.Rows
set_option maxRecDepth 100000
set_option maxHeartbeats 8000000
namespace Mine
structure Plain (l : List Int) where
  rows : Nat → Str
  dec : Str → Option Nat
  lt : Nat → Nat → Bool
  nn : Nat
  pr : Nat → List Nat
  inj : ∀ i j, i < nn → j < nn → rows i = rows j → i = j
  ord : ∀ i j, i < nn → j < nn → ltS (rows i) (rows j) = lt i j
  dok : ∀ s n, dec s = some n → n < nn ∧ rows n = s
  hw : ∀ st r, cBody nn pr st = some r → cForget 4 (D_rbody rows dec) st = some r
  out : ∃ σ', F_law rows dec lt nn pr [.lst (l.map .int)] [] = some (.bool true, σ')
theorem ints_vr {c : Cx} {X μ : List Addr} {h : Heap} : ∀ {vs : List Value} {l : List Int}, IntsAre vs l → VRs c X h μ (l.map .int) vs
  | _, _, .nil => .nil
  | _, _, .cons i t r => .cons (.int i t) (ints_vr r)
theorem join {prog : Program} {w : World} {tp : Program} {lo : List Str} {mg mb : Str → Option Value} {s₁ : Shared} {a : Addr} {vs : List Value} {l : List Int} {Q : Result → Shared → Prop}
    (inK : (HK w.params).In s₁.heap) (top : TopRead tp lo mg mb s₁.heap) (hL : s₁.heap.IsList a vs.toArray) (hI : IntsAre vs l) (P : Plain l)
    (q : ∀ h' tk, (∀ b o, s₁.heap.get? b = some o → h'.get? b = some o) → Q (.ok (.ret (.bool true))) { s₁ with heap := h', toks := tk }) :
    codeAny (model prog w) callerA (.call (.ref 281) ⟨[.ref a], []⟩) Q s₁ := by
  let c : Cx := ⟨prog, w, HK w.params, s₁.heap, mg, mb, tp, lo, P.rows, P.nn, inK, top, P.inj⟩
  have ap := (law_apc (c := c) rfl (lt := P.lt) ⟨P.ord⟩ (dec := P.dec) ⟨P.dok⟩ (nn := P.nn) (pr := P.pr) P.hw 0).h
  obtain ⟨σ', out⟩ := P.out
  have I : Inv c ⟨[], []⟩ [] [] s₁.heap [] := {
    base := fun b o e => ⟨e, fun m => nomatch m⟩
    own := fun _ m => nomatch m
    len := rfl
    nod := List.nodup_nil
    sub := fun _ m => nomatch m
    nsy := fun _ m => nomatch m
    cel := fun i a cl e _ => by simp at e
    fr := trivial
    faX := fun _ m => nomatch m
    faμ := fun _ m => nomatch m
    lk := fun _ m => nomatch m
    lkc := fun j cl a e _ => by simp at e }
  have ca : Calm ⟨0 + 6, true⟩ callerA ⟨[], []⟩ := ⟨fun _ => rfl, by decide, by decide, rfl⟩
  refine codeAny_mono (ap callerA ⟨[], []⟩ [] [] s₁ [] [.lst (l.map .int)] [.ref a] (.bool true) σ' (fun v s' => Q (.ok (.ret v)) s') (fun _ _ => False) ca I (.one (.lst hL (fun m => nomatch m) (ints_vr hI))) out fun v h' tk X' μ' S I' r => ?_) fun r s' hr => ?_
  · cases r
    exact q h' tk fun b o e => S.kp b o e (fun m => nomatch m) (fun m => nomatch m) (fun m => nomatch m)
  · match r, hr with
    | .ok (.ret v), hr => exact hr
set_option tactic.hygienic true in
theorem cw_of (P : ∀ l : List Int, l.length ≤ 63 → Plain l) : PySem.Challenge.rw_rx0025_01.Holds := by
  w_on
  refine holds_law said fun sd => ?_
  refine holds_open (q := view) (loose := loose) (Xt := fun s => xlAt view [] s && recOk (RowW.records rw0.row.toRowW) s) (XP := XL view []) (Yf := Hook.obs hookK) (Ya := Hook.val hookK) (YP := Hook.says hookK) (N := 6386) left (Hook.of hookK) (Hook.keeps hookK) (fun s e => xl_of s (Bool.and_eq_true_iff.mp e).1) XL.keeps (by rfl) (by rfl) (by rfl) (fun s e => recFacts_of (Bool.and_eq_true_iff.mp e).2) (by rfl) (by first | assumption | decide +kernel) (by decide +kernel) ⟨rfl, rfl, rfl, rfl, rfl, by decide +kernel⟩ ?hw ?hc
  case hw => w_witness2
  case hc =>
    intro w s₀ s₁ mg mb G Y fa o pm cd doc dV kV ho hd hcd hD hmg hg args vals as hpre hlay hrd hwl hlo
    have KX : (HK w.params).In s₁.heap := Y
    refine Ground.open G ?_
    intro T B D TE TW
    have hfa : Value.ref fa = .ref 281 := Option.some.inj (hmg.symm.trans (mg_of KX (Top.g T) (by rfl)))
    cases hfa
    clear B D TE TW ho hd hcd hD hmg Y
    wrow_args hpre hlay hrd hwl hlo
    all_goals (first | refine callC_kw (enter_call ?_) | refine enter_call ?_)
    rename_i l _ _ _ _ _ _ _ _ _ _ hL _ _ _ hI _ hle _
    refine join KX (topRead_of T) hL hI (P l (by lia)) fun h' tk keep => ?_
    refine GoodW.toG ⟨.inl ⟨_, .bool true, [], rfl, fun _ => rfl, .bool true, by first | rfl | kernel_rfl | wrow_post, fun z => ?_⟩, keep, rfl, hg⟩
    exact ⟨List.nodup_nil, fun _ m => nomatch m⟩
end Mine
end
section
set_option tactic.hygienic false
open PySem PySem.W PyProof.Rows
namespace Mine
noncomputable def ltN : Nat → Nat → Nat → Bool
  | 0, _, _ => false
  | m + 1, i, j => if i % 2 = j % 2 then ltN m (i / 2) (j / 2) else decide (i % 2 < j % 2)
noncomputable def prN (m n : Nat) : List Nat := ((List.range m).filter fun j => n / 2 ^ j % 2 = 1).map fun j => n - 2 ^ j
noncomputable def popN : Nat → Nat → Nat
  | 0, _ => 0
  | m + 1, n => n % 2 + popN m (n / 2)
noncomputable def rotL (m t : Nat) : List Nat := (List.range (2 ^ m)).drop t ++ (List.range (2 ^ m)).take t
noncomputable def levN (m lev : Nat) : List Nat := (List.range (2 ^ m)).filter fun n => popN m n = lev
noncomputable def runR (m t : Nat) : Option PV := ((F_rounds (ltN m) (2 ^ m) (prN m)) [.lst ((rotL m t).map .node)] []).bind fun (d, σ) => freeze σ d
noncomputable def expR (m : Nat) : PV := .lst ((List.range (m + 1)).map fun lev => .lst ((isort (ltN m) (levN m lev)).map .node))
set_option maxRecDepth 100000
end Mine
end
section
set_option tactic.hygienic false
open PySem PySem.W PyProof.Rows
set_option maxRecDepth 100000
namespace Mine
noncomputable abbrev Pat := List (Option Bool)
noncomputable def letterC (k : Nat) : Nat := if k % 3 = 0 then 114 else if k % 3 = 1 then 119 else 120
noncomputable def sgnC (k : Nat) : Option Bool → Nat
  | none => 63
  | some false => 45
  | some true => letterC k
noncomputable def chS (c : Nat) : Str := ⟨#[c]⟩
noncomputable def plcC : Nat → Pat → List Nat
  | _, [] => []
  | k, x :: r => sgnC k x :: plcC (k + 1) r
noncomputable def wL (f : Option Bool → Bool) : Pat → List Nat
  | [] => []
  | x :: r => if f x = true then 2 ^ r.length :: wL f r else wL f r
noncomputable def bitsL (p : Pat) : List Nat := wL (·.isNone) p
noncomputable def shutL (p : Pat) : List Nat := wL (·.isSome) p
noncomputable def baseL (p : Pat) : Nat := (wL (· == some true) p).sum
noncomputable def numL : List Bool → Nat
  | [] => 0
  | b :: r => (if b then 2 ^ r.length else 0) + numL r
noncomputable def fill : Pat → Nat → List Bool
  | [], _ => []
  | none :: r, n => (n % 2 == 1) :: fill r (n / 2)
  | some x :: r, n => x :: fill r n
noncomputable def selSum : List Nat → Nat → Nat
  | [], _ => 0
  | b :: r, n => (if n % 2 = 1 then b else 0) + selSum r (n / 2)
noncomputable def freeN (p : Pat) (n : Nat) : Nat := 32768 + numL (fill p n)
theorem fill_len : ∀ (p : Pat) (n : Nat), (fill p n).length = p.length
  | [], _ => rfl
  | none :: r, n => by simp [fill, fill_len r]
  | some x :: r, n => by simp [fill, fill_len r]
theorem plcC_len : ∀ (p : Pat) (k : Nat), (plcC k p).length = p.length
  | [], _ => rfl
  | x :: r, k => by simp [plcC, plcC_len r]
theorem plcC_get : ∀ (p : Pat) (k i : Nat), (plcC k p)[i]? = (p[i]?).map (sgnC (k + i))
  | [], _, _ => by simp [plcC]
  | x :: r, k, 0 => by simp [plcC]
  | x :: r, k, i + 1 => by
    simp only [plcC, List.getElem?_cons_succ]
    rw [plcC_get r (k + 1) i, show k + 1 + i = k + (i + 1) by lia]
theorem plcC_set : ∀ (p : Pat) (k i : Nat) (v : Option Bool), (plcC k p).set i (sgnC (k + i) v) = plcC k (p.set i v)
  | [], _, _, _ => by simp [plcC]
  | x :: r, k, 0, v => by simp [plcC]
  | x :: r, k, i + 1, v => by
    simp only [plcC, List.set_cons_succ]
    rw [show k + (i + 1) = k + 1 + i by lia, plcC_set r (k + 1) i v]
theorem wL_len (f : Option Bool → Bool) : ∀ p : Pat, (wL f p).length = p.countP f
  | [] => rfl
  | x :: r => by
    unfold wL
    split
    · rename_i h; simp [wL_len f r, h]
    · rename_i h; simp [wL_len f r, h]
theorem num_lt : ∀ b : List Bool, numL b < 2 ^ b.length
  | [] => by simp [numL]
  | b :: r => by
    have := num_lt r
    simp only [numL, List.length_cons, Nat.pow_succ]
    split <;> lia
theorem num_fill : ∀ (p : Pat) (n : Nat), numL (fill p n) = baseL p + selSum (bitsL p) n
  | [], _ => rfl
  | none :: r, n => by
    have := num_fill r (n / 2)
    simp only [fill, numL, fill_len, this, baseL, bitsL, wL]
    simp [selSum]
    by_cases h : n % 2 = 1 <;> simp [h] <;> lia
  | some true :: r, n => by
    have := num_fill r n
    simp only [fill, numL, fill_len, this, baseL, bitsL, wL]
    simp
    lia
  | some false :: r, n => by
    have := num_fill r n
    simp only [fill, numL, fill_len, this, baseL, bitsL, wL]
    simp
theorem fill_pop (U : Nat) : ∀ (p : Pat) (U n : Nat), ((bitsL p).countP fun w => (U * 2 ^ p.length + numL (fill p n)) / w % 2 == 1) = popN (bitsL p).length n
  | [], _, _ => rfl
  | none :: r, U, n => by
    have hl := num_lt (fill r (n / 2))
    rw [fill_len] at hl
    have ih := fill_pop U r (2 * U + n % 2) (n / 2)
    have e : U * 2 ^ (r.length + 1) + numL (fill (none :: r) n) = (2 * U + n % 2) * 2 ^ r.length + numL (fill r (n / 2)) := by
      simp only [fill, numL, fill_len, Nat.pow_succ]
      have h2 : n % 2 = 0 ∨ n % 2 = 1 := by lia
      rcases h2 with h2 | h2 <;> simp [h2, Nat.add_mul] <;> rw [Nat.mul_comm (2 ^ r.length) 2, ← Nat.mul_assoc, Nat.mul_comm U 2]
      lia
    have d : ((2 * U + n % 2) * 2 ^ r.length + numL (fill r (n / 2))) / 2 ^ r.length = 2 * U + n % 2 := by
      rw [Nat.mul_comm, Nat.mul_add_div (Nat.two_pow_pos _), Nat.div_eq_of_lt hl]; lia
    show ((2 ^ r.length :: bitsL r).countP _) = popN ((bitsL r).length + 1) n
    rw [List.countP_cons]
    simp only [List.length_cons, e, d, ih, popN]
    have h2 : n % 2 = 0 ∨ n % 2 = 1 := by lia
    rcases h2 with h2 | h2 <;> simp [h2] <;> lia
  | some x :: r, U, n => by
    have ih := fill_pop U r (2 * U + if x then 1 else 0) n
    have e : U * 2 ^ (r.length + 1) + numL (fill (some x :: r) n) = (2 * U + if x then 1 else 0) * 2 ^ r.length + numL (fill r n) := by
      simp only [fill, numL, fill_len, Nat.pow_succ]
      cases x <;> simp [Nat.add_mul] <;> rw [Nat.mul_comm (2 ^ r.length) 2, ← Nat.mul_assoc, Nat.mul_comm U 2]
      lia
    show ((bitsL r).countP _) = popN (bitsL r).length n
    simp only [List.length_cons, e]
    exact ih
theorem range_wL (f : Option Bool → Bool) : ∀ p : Pat, ((List.range p.length).filter fun k => (p[k]?).any f).map (fun k => 2 ^ (p.length - 1 - k)) = wL f p
  | [] => rfl
  | x :: r => by
    have ih := range_wL f r
    rw [List.length_cons, List.range_succ_eq_map, List.filter_cons, List.filter_map]
    have e : (List.map Nat.succ (List.filter ((fun k => ((x :: r)[k]?).any f) ∘ Nat.succ) (List.range r.length))).map (fun k => 2 ^ (r.length + 1 - 1 - k)) = wL f r := by
      rw [← ih, List.map_map]
      have e2 : ((fun k => ((x :: r)[k]?).any f) ∘ Nat.succ) = fun k => (r[k]?).any f := by funext k; simp
      rw [e2]
      refine List.map_congr_left fun k _ => ?_
      show 2 ^ (r.length + 1 - 1 - (k + 1)) = 2 ^ (r.length - 1 - k)
      congr 1; lia
    unfold wL
    by_cases h : f x = true
    · rw [if_pos (by simpa using h), if_pos h, List.map_cons, e]; simp
    · rw [if_neg (by simpa using h), if_neg h, e]
theorem sel_sum : ∀ (B : List Nat) (k : Nat), (((List.range B.length).filter fun j => k / 2 ^ j % 2 == 1).map fun j => (B[j]?).getD 0).sum = selSum B k
  | [], _ => rfl
  | b :: r, k => by
    have ih := sel_sum r (k / 2)
    rw [List.length_cons, List.range_succ_eq_map, List.filter_cons, List.filter_map]
    have e : ((List.map Nat.succ (List.filter ((fun j => k / 2 ^ j % 2 == 1) ∘ Nat.succ) (List.range r.length))).map fun j => ((b :: r)[j]?).getD 0).sum = selSum r (k / 2) := by
      rw [← ih, List.map_map]
      have e2 : ((fun j => k / 2 ^ j % 2 == 1) ∘ Nat.succ) = fun j => (k / 2) / 2 ^ j % 2 == 1 := by
        funext j
        show (k / 2 ^ (j + 1) % 2 == 1) = _
        rw [Nat.pow_succ, Nat.mul_comm, ← Nat.div_div_eq_div_mul]
      rw [e2]
      congr 1
    unfold selSum
    by_cases h : k % 2 = 1
    · rw [if_pos (by simpa using h), if_pos h, List.map_cons, List.sum_cons, e]; simp
    · rw [if_neg (by simpa using h), if_neg h, e]; simp
theorem sel_zero : ∀ B : List Nat, selSum B 0 = 0
  | [] => rfl
  | b :: r => by simp [selSum, sel_zero r]
theorem freeN_eq (p : Pat) (n : Nat) : freeN p n = 32768 + baseL p + selSum (bitsL p) n := by rw [freeN, num_fill]; lia
theorem free_zero (p : Pat) : freeN p 0 = 32768 + baseL p := by rw [freeN_eq, sel_zero]; rfl
theorem wL_pow (f : Option Bool → Bool) : ∀ (p : Pat) (w : Nat), w ∈ wL f p → ∃ i, i < p.length ∧ w = 2 ^ i
  | [], w, m => nomatch m
  | x :: r, w, m => by
    unfold wL at m
    split at m
    · rcases List.mem_cons.mp m with rfl | m
      · exact ⟨r.length, by simp, rfl⟩
      · obtain ⟨i, h, e⟩ := wL_pow f r w m; exact ⟨i, by simp; lia, e⟩
    · obtain ⟨i, h, e⟩ := wL_pow f r w m; exact ⟨i, by simp; lia, e⟩
theorem fill_step (x : Option Bool) (r : Pat) (U n : Nat) : ∃ b n', (∀ y, x = some y → b = (if y then 1 else 0) ∧ n' = n) ∧ U * 2 ^ (r.length + 1) + numL (fill (x :: r) n) = (2 * U + b) * 2 ^ r.length + numL (fill r n') := by
  cases x with
  | none =>
    refine ⟨n % 2, n / 2, (fun y z => nomatch z), ?_⟩
    simp only [fill, numL, fill_len, Nat.pow_succ]
    have h2 : n % 2 = 0 ∨ n % 2 = 1 := by lia
    rcases h2 with h2 | h2 <;> simp [h2, Nat.add_mul] <;> rw [Nat.mul_comm (2 ^ r.length) 2, ← Nat.mul_assoc, Nat.mul_comm U 2]
    lia
  | some x =>
    refine ⟨if x then 1 else 0, n, fun y z => by obtain rfl := soJ z; exact ⟨rfl, rfl⟩, ?_⟩
    simp only [fill, numL, fill_len, Nat.pow_succ]
    cases x <;> simp [Nat.add_mul] <;> rw [Nat.mul_comm (2 ^ r.length) 2, ← Nat.mul_assoc, Nat.mul_comm U 2]
    lia
theorem shut_bit : ∀ (p : Pat) (w : Nat), w ∈ shutL p → ∃ b, ∀ U n, (U * 2 ^ p.length + numL (fill p n)) / w % 2 = b
  | [], w, m => nomatch m
  | x :: r, w, m => by
    have tail : w ∈ shutL r → ∃ b, ∀ U n, (U * 2 ^ (x :: r).length + numL (fill (x :: r) n)) / w % 2 = b := fun m => by
      obtain ⟨b, h⟩ := shut_bit r w m
      refine ⟨b, fun U n => ?_⟩
      obtain ⟨b', n', _, e⟩ := fill_step x r U n
      rw [List.length_cons, e, h]
    unfold shutL wL at m
    split at m
    · rename_i hx
      rcases List.mem_cons.mp m with rfl | m
      · cases x with
        | none => simp at hx
        | some y =>
          refine ⟨if y then 1 else 0, fun U n => ?_⟩
          obtain ⟨b', n', hb, e⟩ := fill_step (some y) r U n
          obtain ⟨rfl, rfl⟩ := hb y rfl
          have hl := num_lt (fill r n')
          rw [fill_len] at hl
          rw [List.length_cons, e, Nat.mul_comm, Nat.mul_add_div (Nat.two_pow_pos _), Nat.div_eq_of_lt hl]
          cases y <;> simp <;> lia
      · exact tail m
    · exact tail m
theorem free_shut {p : Pat} (hp : p.length = 9) {w : Nat} (m : w ∈ shutL p) : ∃ b, ∀ n, freeN p n / w % 2 = b := by
  obtain ⟨b, h⟩ := shut_bit p w m
  refine ⟨b, fun n => ?_⟩
  have := h 64 n
  rw [hp] at this
  exact this
theorem free_lt {p : Pat} (hp : p.length = 9) (n : Nat) : 32768 ≤ freeN p n ∧ freeN p n < 33280 := by
  have := num_lt (fill p n)
  rw [fill_len, hp] at this
  unfold freeN
  exact ⟨by lia, by lia⟩
theorem or_and_xor : ∀ (n x y : Nat), x < n → x ||| y = (x &&& y) + (x ^^^ y)
  | 0, x, y, h => absurd h (Nat.not_lt_zero _)
  | n + 1, x, y, h => by
    by_cases hx : x = 0
    · subst hx; simp
    have ih := or_and_xor n (x / 2) (y / 2) (by lia)
    have d : ∀ z : Nat, z = 2 * (z / 2) + z % 2 := fun z => by lia
    rw [d (x ||| y), d (x &&& y), d (x ^^^ y)]
    rw [Nat.or_div_two, Nat.and_div_two, Nat.xor_div_two, ih]
    have hm : (x ||| y) % 2 = (x &&& y) % 2 + (x ^^^ y) % 2 := by
      have a1 := @Nat.or_mod_two_eq_one x y
      have a2 := @Nat.and_mod_two_eq_one x y
      have a3 := @Nat.xor_mod_two_eq_one x y
      have hx2 : x % 2 = 0 ∨ x % 2 = 1 := by lia
      have hy2 : y % 2 = 0 ∨ y % 2 = 1 := by lia
      have b1 : (x ||| y) % 2 = 0 ∨ (x ||| y) % 2 = 1 := by lia
      have b2 : (x &&& y) % 2 = 0 ∨ (x &&& y) % 2 = 1 := by lia
      have b3 : (x ^^^ y) % 2 = 0 ∨ (x ^^^ y) % 2 = 1 := by lia
      rcases hx2 with hx2 | hx2 <;> rcases hy2 with hy2 | hy2 <;> rw [hx2, hy2] at a1 a2 a3 <;> simp only [Nat.zero_ne_one, Nat.reduceEqDiff, or_self, or_true, true_or, and_self, and_false, false_and, iff_true, iff_false, not_true, not_false_eq_true, ne_eq] at a1 a2 a3 <;> lia
    lia
theorem bitXor_nat (x y : Nat) : Builtin.bitXor (x : Int) (y : Int) = ((x ^^^ y : Nat) : Int) := by
  have e := or_and_xor (x + 1) x y (Nat.lt_succ_self _)
  have a : Builtin.bitAnd (x : Int) (y : Int) = ((x &&& y : Nat) : Int) := by
    unfold Builtin.bitAnd
    simp
  have o : Builtin.bitOr (x : Int) (y : Int) = ((x ||| y : Nat) : Int) := by
    unfold Builtin.bitOr Builtin.bitAnd Builtin.bitNot
    have h1 : decide (0 ≤ -(x : Int) - 1) = false := by simp; lia
    have h2 : decide (0 ≤ -(y : Int) - 1) = false := by simp; lia
    rw [h1, h2]
    have t : ∀ z : Nat, (-(-(z : Int) - 1) - 1).toNat = z := fun z => by lia
    simp only [t]
    lia
  unfold Builtin.bitXor
  rw [a, o, e]
  lia
theorem bitAnd_nat (x y : Nat) : Builtin.bitAnd (x : Int) (y : Int) = ((x &&& y : Nat) : Int) := by
  unfold Builtin.bitAnd
  simp
theorem xor_facts {x i : Nat} (hx : x / 4096 = 8) (hi : i < 9) : (x ^^^ 2 ^ i) / 4096 = 8 ∧ ∀ y, y / 2 ^ i % 2 = x / 2 ^ i % 2 → x ^^^ 2 ^ i ≠ y := by
  constructor
  · have h1 : (x ^^^ 2 ^ i) >>> 12 = x >>> 12 ^^^ (2 ^ i) >>> 12 := Nat.shiftRight_xor_distrib
    rw [Nat.shiftRight_eq_div_pow, Nat.shiftRight_eq_div_pow, Nat.shiftRight_eq_div_pow] at h1
    have h2 : 2 ^ i / 2 ^ 12 = 0 := Nat.div_eq_of_lt (Nat.pow_lt_pow_right (by decide) (by lia))
    rw [show (4096 : Nat) = 2 ^ 12 from rfl] at hx ⊢
    rw [h1, h2, hx]; rfl
  · rintro y e rfl
    have t : (x ^^^ 2 ^ i).testBit i = !(x.testBit i) := by rw [Nat.testBit_xor, Nat.testBit_two_pow_self]; simp
    rw [Nat.testBit_eq_decide_div_mod_eq, Nat.testBit_eq_decide_div_mod_eq, e] at t
    cases h : decide (x / 2 ^ i % 2 = 1) <;> rw [h] at t <;> cases t
end Mine
end
section
set_option tactic.hygienic false
open PySem PySem.W PyProof.Rows
set_option maxRecDepth 100000
namespace Mine
noncomputable abbrev Val (f : Co) (ρ : List (Option PV)) (σ : List Cell) (d : PV) : Prop := f ⟨ρ, σ⟩ = some (d, σ)
noncomputable abbrev Vals (f : Cl) (ρ : List (Option PV)) (σ : List Cell) (d : List PV) : Prop := f ⟨ρ, σ⟩ = some (d, σ)
noncomputable abbrev TVal (f : Ct) (ρ : List (Option PV)) (σ : List Cell) (b : Bool) : Prop := f ⟨ρ, σ⟩ = some (b, σ)
section
variable {ρ : List (Option PV)} {σ : List Cell}
theorem v_val (d : PV) : Val (cVal d) ρ σ d := rfl
theorem v_loc {i : Nat} {d : PV} (h : ρ[i]? = some (some d)) : Val (cLoc i) ρ σ d := by show Option.map _ (ρ[i]?).join = _; rw [h]; rfl
theorem v_bin {op} {f g : Co} {a b r : PV} (h1 : Val f ρ σ a) (h2 : Val g ρ σ b) (h3 : op σ a b = some r) : Val (cBin op f g) ρ σ r := by
  show Option.bind (f ⟨ρ, σ⟩) _ = _
  rw [h1]; show Option.bind (g ⟨ρ, σ⟩) _ = _; rw [h2]; show Option.map _ (op σ a b) = _; rw [h3]; rfl
theorem v_un {op} {f : Co} {a r : PV} (h1 : Val f ρ σ a) (h3 : op σ a = some r) : Val (cUn op f) ρ σ r := by
  show Option.bind (f ⟨ρ, σ⟩) _ = _
  rw [h1]; show Option.map _ (op σ a) = _; rw [h3]; rfl
theorem vs_nil : Vals lNil ρ σ [] := rfl
theorem vs_cons {f : Co} {g : Cl} {a : PV} {r : List PV} (h1 : Val f ρ σ a) (h2 : Vals g ρ σ r) : Vals (lCons f g) ρ σ (a :: r) := by
  show Option.bind (f ⟨ρ, σ⟩) _ = _
  rw [h1]; show Option.map _ (g ⟨ρ, σ⟩) = _; rw [h2]; rfl
theorem v_call {g : Fn} {fs : Cl} {ds : List PV} {d : PV} (h1 : Vals fs ρ σ ds) (h2 : g ds σ = some (d, σ)) : Val (cCall g fs) ρ σ d := by
  show Option.bind (fs ⟨ρ, σ⟩) _ = _
  rw [h1]; exact h2
theorem v_lst {fs : Cl} {ds : List PV} (h1 : Vals fs ρ σ ds) (hl : ds.length ≤ 4096) : Val (cLst fs) ρ σ (.lst ds) := by
  show Option.bind (fs ⟨ρ, σ⟩) _ = _
  rw [h1]; exact if_pos hl
theorem v_tup {fs : Cl} {ds : List PV} (h1 : Vals fs ρ σ ds) (hl : ds.length ≤ 4096) : Val (cTup fs) ρ σ (.tup ds) := by
  show Option.bind (fs ⟨ρ, σ⟩) _ = _
  rw [h1]; exact if_pos hl
theorem v_meth {ok} {g : Fn} {f : Co} {fs : Cl} {o : PV} {ds : List PV} {d : PV} (h1 : Val f ρ σ o) (hok : ok σ o = true) (h2 : Vals fs ρ σ ds) (h3 : g (o :: ds) σ = some (d, σ)) : Val (cMeth ok g f fs) ρ σ d := by
  show Option.bind (f ⟨ρ, σ⟩) _ = _
  rw [h1]; show (if ok σ o = true then _ else _) = _; rw [if_pos hok]; show Option.bind (fs ⟨ρ, σ⟩) _ = _; rw [h2]; exact h3
theorem t_all : TVal tAll ρ σ true := rfl
theorem t_cmp {op} {f g : Co} {a b : PV} {r : Bool} (h1 : Val f ρ σ a) (h2 : Val g ρ σ b) (h3 : op σ a b = some r) : TVal (cCmp op f g) ρ σ r := by
  show Option.bind (f ⟨ρ, σ⟩) _ = _
  rw [h1]; show Option.bind (g ⟨ρ, σ⟩) _ = _; rw [h2]; show Option.map _ (op σ a b) = _; rw [h3]; rfl
theorem t_tr {t} {f : Co} {a : PV} {b : Bool} (h1 : Val f ρ σ a) (h2 : t σ a = some b) : TVal (cTr t f) ρ σ b := by
  show Option.bind (f ⟨ρ, σ⟩) _ = _
  rw [h1]; show Option.map _ (t σ a) = _; rw [h2]; rfl
theorem t_not {f : Ct} {b : Bool} (h : TVal f ρ σ b) : TVal (cNot f) ρ σ (!b) := by show Option.map _ (f ⟨ρ, σ⟩) = _; rw [h]; rfl
theorem t_and_f {f g : Ct} (h : TVal f ρ σ false) : TVal (cAnd f g) ρ σ false := by show Option.bind (f ⟨ρ, σ⟩) _ = _; rw [h]; rfl
theorem t_and_t {f g : Ct} {b : Bool} (h : TVal f ρ σ true) (h2 : TVal g ρ σ b) : TVal (cAnd f g) ρ σ b := by show Option.bind (f ⟨ρ, σ⟩) _ = _; rw [h]; exact h2
theorem t_or_f {f g : Ct} {b : Bool} (h : TVal f ρ σ false) (h2 : TVal g ρ σ b) : TVal (cOr f g) ρ σ b := by show Option.bind (f ⟨ρ, σ⟩) _ = _; rw [h]; exact h2
theorem t_or_t {f g : Ct} (h : TVal f ρ σ true) : TVal (cOr f g) ρ σ true := by show Option.bind (f ⟨ρ, σ⟩) _ = _; rw [h]; rfl
theorem comp_go {α : Type} {enc : α → PV} {ft : Ct} {fe : Co} {p : α → Bool} {g : α → PV} : ∀ (l : List α) (acc : List PV), acc.length + l.length ≤ 4096 →
    (∀ x ∈ l, TVal ft (ρ ++ [some (enc x)]) σ (p x)) → (∀ x ∈ l, p x = true → Val fe (ρ ++ [some (enc x)]) σ (g x)) →
    compGo ft (emList fe) ρ (l.map enc) (.list acc) σ = some (.list (acc ++ (l.filter p).map g), σ)
  | [], acc, _, _, _ => by simp [compGo]
  | x :: r, acc, hl, ht, he => by
    rw [List.length_cons] at hl
    have e1 := ht x (.head _)
    show Option.bind (ft ⟨ρ ++ [some (enc x)], σ⟩) _ = _
    rw [e1]
    show (if p x = true then _ else _) = _
    by_cases hp : p x = true
    · rw [if_pos hp]
      have e2 := he x (.head _) hp
      show Option.bind (Option.bind (fe ⟨ρ ++ [some (enc x)], σ⟩) _) _ = _
      rw [e2]
      show Option.bind (if acc.length ≤ 4096 then _ else _) _ = _
      rw [if_pos (by lia)]
      show compGo ft (emList fe) ρ (r.map enc) (.list (acc ++ [g x])) σ = _
      rw [comp_go r (acc ++ [g x]) (by simp; lia) (fun y m => ht y (.tail _ m)) (fun y m => he y (.tail _ m)), List.filter_cons, if_pos hp]
      simp
    · rw [if_neg hp, comp_go r acc (by lia) (fun y m => ht y (.tail _ m)) (fun y m => he y (.tail _ m)), List.filter_cons, if_neg hp]
theorem v_comp {α : Type} {l : List α} {enc : α → PV} {fi : Co} {ft : Ct} {fe : Co} {d : PV} {p : α → Bool} {g : α → PV} (h1 : Val fi ρ σ d) (hc : cellOfV d = none) (h2 : items σ d = some (l.map enc)) (hl : l.length ≤ 4096)
    (ht : ∀ x ∈ l, TVal ft (ρ ++ [some (enc x)]) σ (p x)) (he : ∀ x ∈ l, p x = true → Val fe (ρ ++ [some (enc x)]) σ (g x)) : Val (cComp items fi ft fe) ρ σ (.lst ((l.filter p).map g)) := by
  show Option.bind (Option.bind (fi ⟨ρ, σ⟩) _) _ = _
  rw [h1]
  have hlk : lockD d ⟨ρ, σ⟩ = some ⟨ρ, σ⟩ := by unfold lockD; rw [hc]
  have hul : unlockD d ⟨ρ, σ⟩ = some ⟨ρ, σ⟩ := by unfold unlockD; rw [hc]
  show Option.bind (Option.bind (lockD d ⟨ρ, σ⟩) _) _ = _
  rw [hlk]
  show Option.bind (Option.bind (items σ d) _) _ = _
  rw [h2]
  show Option.bind (if (l.map enc).length ≤ 4096 then _ else _) _ = _
  rw [if_pos (by rw [List.length_map]; exact hl)]
  show Option.bind (Option.bind (compGo ft (emList fe) ρ (l.map enc) (.list []) σ) _) _ = _
  rw [comp_go l [] (by simpa using hl) ht he]
  show Option.bind (Option.map _ (unlockD d ⟨ρ, σ⟩)) _ = _
  rw [hul]
  simp
theorem items_rng {n : Nat} (h : n ≤ 4096) : items σ (.rng 0 n) = some ((List.range n).map fun (k : Nat) => PV.int k) := by
  show (if _ then _ else _) = _
  rw [if_pos (by lia)]
  have : ((n : Int) - 0).toNat = n := by lia
  rw [this]
  congr 1
  refine List.map_congr_left fun k _ => ?_
  congr 1
  lia
theorem v_compR {n : Nat} {fi : Co} {ft : Ct} {fe : Co} {p : Nat → Bool} {g : Nat → PV} (hn : n ≤ 4096) (h1 : Val fi ρ σ (.rng 0 n))
    (ht : ∀ k, k < n → TVal ft (ρ ++ [some (.int k)]) σ (p k)) (he : ∀ k, k < n → p k = true → Val fe (ρ ++ [some (.int k)]) σ (g k)) : Val (cComp items fi ft fe) ρ σ (.lst (((List.range n).filter p).map g)) :=
  v_comp h1 rfl (items_rng hn) (by simpa using hn) (fun k m => ht k (List.mem_range.mp m)) fun k m => he k (List.mem_range.mp m)
theorem v_rng {fs : Cl} {n : Nat} (h : Vals fs ρ σ [.int n]) : Val (cCall gRange fs) ρ σ (.rng 0 n) := v_call h rfl
theorem v_compL {α : Type} {l : List α} {enc : α → PV} {fi : Co} {ft : Ct} {fe : Co} {p : α → Bool} {g : α → PV} (h1 : Val fi ρ σ (.lst (l.map enc))) (hl : l.length ≤ 4096)
    (ht : ∀ x ∈ l, TVal ft (ρ ++ [some (enc x)]) σ (p x)) (he : ∀ x ∈ l, p x = true → Val fe (ρ ++ [some (enc x)]) σ (g x)) : Val (cComp items fi ft fe) ρ σ (.lst ((l.filter p).map g)) :=
  v_comp h1 rfl rfl hl ht he
theorem v_mapL {α : Type} {l : List α} {enc : α → PV} {fi : Co} {fe : Co} {g : α → PV} (h1 : Val fi ρ σ (.lst (l.map enc))) (hl : l.length ≤ 4096)
    (he : ∀ x ∈ l, Val fe (ρ ++ [some (enc x)]) σ (g x)) : Val (cComp items fi tAll fe) ρ σ (.lst (l.map g)) := by
  have := v_compL (p := fun _ => true) (ft := tAll) h1 hl (fun _ _ => t_all) fun x m _ => he x m
  rwa [List.filter_eq_self.mpr fun _ _ => rfl] at this
theorem v_mapR {n : Nat} {fi : Co} {fe : Co} {g : Nat → PV} (hn : n ≤ 4096) (h1 : Val fi ρ σ (.rng 0 n)) (he : ∀ k, k < n → Val fe (ρ ++ [some (.int k)]) σ (g k)) : Val (cComp items fi tAll fe) ρ σ (.lst ((List.range n).map g)) := by
  have := v_compR (p := fun _ => true) (ft := tAll) hn h1 (fun _ _ => t_all) fun x m _ => he x m
  rwa [List.filter_eq_self.mpr fun _ _ => rfl] at this
theorem v_slc {f : Co} {g1 g2 : Cp} {d r : PV} {lo hi : Option Int} (h1 : Val f ρ σ d) (h2 : g1 ⟨ρ, σ⟩ = some (lo, σ)) (h3 : g2 ⟨ρ, σ⟩ = some (hi, σ)) (h4 : oSlc lo hi d = some r) : Val (cSlc f g1 g2) ρ σ r := by
  show Option.bind (f ⟨ρ, σ⟩) _ = _
  rw [h1]; show Option.bind (g1 ⟨ρ, σ⟩) _ = _; rw [h2]; show Option.bind (g2 ⟨ρ, σ⟩) _ = _; rw [h3]; show Option.map _ (oSlc lo hi d) = _; rw [h4]; rfl
theorem p_none : pNone ⟨ρ, σ⟩ = some (none, σ) := rfl
theorem p_some {f : Co} {k : Int} (h : Val f ρ σ (.int k)) : pSome f ⟨ρ, σ⟩ = some (some k, σ) := by show Option.bind (f ⟨ρ, σ⟩) _ = _; rw [h]; rfl
theorem r_seq {f g : Cs} {st s1 : St} {r} (h1 : f st = some (.next, s1)) (h2 : g s1 = r) : cSeq f g st = r := by show Option.bind (f st) _ = _; rw [h1]; exact h2
theorem r_seqR {f g : Cs} {st s1 : St} {d : PV} (h1 : f st = some (.ret d, s1)) : cSeq f g st = some (.ret d, s1) := by show Option.bind (f st) _ = _; rw [h1]; rfl
theorem r_set {i : Nat} {f : Co} {d : PV} (h : Val f ρ σ d) (hi : i < ρ.length) : cSet i f ⟨ρ, σ⟩ = some (.next, ⟨ρ.set i (some d), σ⟩) := by
  show Option.bind (f ⟨ρ, σ⟩) _ = _
  rw [h]; show Option.map _ (if _ then _ else _) = _; rw [if_pos hi]; rfl
theorem put_ok' {i : Nat} {d : PV} (hi : i < ρ.length) : St.put ⟨ρ, σ⟩ i d = some ⟨ρ.set i (some d), σ⟩ := by unfold St.put; rw [if_pos hi]
theorem r_asg {i : Nat} {f : Co} {d : PV} (h : Val f ρ σ d) (hi : i < ρ.length) : cAsg (fun d st => st.put i d) f ⟨ρ, σ⟩ = some (.next, ⟨ρ.set i (some d), σ⟩) := by
  show Option.bind (f ⟨ρ, σ⟩) _ = _
  rw [h]; show Option.map _ (St.put ⟨ρ, σ⟩ i d) = _; rw [put_ok' hi]; rfl
theorem r_ifT {t : Ct} {f g : Cs} {r} (h : TVal t ρ σ true) (h2 : f ⟨ρ, σ⟩ = r) : cIf t f g ⟨ρ, σ⟩ = r := by show Option.bind (t ⟨ρ, σ⟩) _ = _; rw [h]; exact h2
theorem r_ifF {t : Ct} {f g : Cs} {r} (h : TVal t ρ σ false) (h2 : g ⟨ρ, σ⟩ = r) : cIf t f g ⟨ρ, σ⟩ = r := by show Option.bind (t ⟨ρ, σ⟩) _ = _; rw [h]; exact h2
theorem r_ret {f : Co} {d : PV} (h : Val f ρ σ d) : cRet f ⟨ρ, σ⟩ = some (.ret d, ⟨ρ, σ⟩) := by show Option.map _ (f ⟨ρ, σ⟩) = _; rw [h]; rfl
theorem r_do {f : Co} {d : PV} {σ' : List Cell} (h : f ⟨ρ, σ⟩ = some (d, σ')) : cDo f ⟨ρ, σ⟩ = some (.next, ⟨ρ, σ'⟩) := by show Option.map _ (f ⟨ρ, σ⟩) = _; rw [h]; rfl
end
section
variable {σ : List Cell}
theorem shaped_int (a : Int) : SeqAt.shaped (.int a) = true := by rfl
noncomputable def okS (a : Str) : Prop := PyData.canLay0 (.str a) = true
theorem shaped_str {a : Str} (h : okS a) : SeqAt.shaped (.str a) = true := by unfold SeqAt.shaped; rw [h]; rfl
theorem eq_int (a b : Int) : eqv2 σ (.int a) (.int b) = some (a == b) := by
  show (if SeqAt.shaped (.int a) = true ∧ SeqAt.shaped (.int b) = true then some (PyData.eqv (.int a) (.int b)) else none) = _
  rw [if_pos ⟨shaped_int a, shaped_int b⟩]; rfl
theorem eq_str {a b : Str} (ha : okS a) (hb : okS b) : eqv2 σ (.str a) (.str b) = some (a == b) := by
  have h := shaped_str ha
  have h' := shaped_str hb
  show (if SeqAt.shaped (.str a) = true ∧ SeqAt.shaped (.str b) = true then some (PyData.eqv (.str a) (.str b)) else none) = _
  rw [if_pos ⟨h, h'⟩]; rfl
theorem ne_str {a b : Str} (ha : okS a) (hb : okS b) : nev2 σ (.str a) (.str b) = some (!(a == b)) := by unfold nev2; rw [eq_str ha hb]; rfl
theorem eq_self {a : PV} {d : PyData} (hn : ∀ n, a ≠ .node n) (h : pdOf σ a = some d) (hs : SeqAt.shaped d = true) : eqv2 σ a a = some true := by
  have e : eqv2 σ a a = (pdOf σ a).bind fun p => (pdOf σ a).bind fun q => if SeqAt.shaped p = true ∧ SeqAt.shaped q = true then some (PyData.eqv p q) else none := by
    cases a <;> first | rfl | exact absurd rfl (hn _)
  rw [e, h]
  show (if SeqAt.shaped d = true ∧ SeqAt.shaped d = true then some (PyData.eqv d d) else none) = _
  rw [if_pos ⟨hs, hs⟩, SeqAt.eqv_refl d (SeqAt.canLay_of_shaped hs)]
end
theorem fresh_run {g : Fn} {ds : List PV} {σ σ1 : List Cell} {d d' : PV} (h1 : PVs.clo ds = true) (h2 : σ.all (fun cl => !cl.isLock) = true) (h3 : g ds [] = some (d, σ1)) (h4 : freeze σ1 d = some d') : gFresh g ds σ = some (d', σ) := by
  unfold gFresh
  rw [if_pos ⟨h1, h2⟩, h3]
  show Option.map _ (freeze σ1 d) = _
  rw [h4]; rfl
theorem fn_run {m n : Nat} {f : Cs} {ds : List PV} {σ : List Cell} {d : PV} {st : St} (hn : ds.length = n) (h : f ⟨ds.map some ++ List.replicate (m - n) none, σ⟩ = some (.ret d, st)) : cFn m (bd n) f ds σ = some (d, st.σ) := by
  unfold cFn bd
  rw [if_pos hn]
  show Option.map _ (f ⟨ds.map some ++ List.replicate (m - ds.length) none, σ⟩) = _
  rw [hn, h]; rfl
end Mine
end
section
set_option tactic.hygienic false
open PySem PySem.W PyProof.Rows
set_option maxRecDepth 100000
namespace Mine
theorem v_append {ρ : List (Option PV)} {σ : List Cell} {o f : Co} {j : Nat} {cs : List PV} {x : PV} (hσ : σ[j]? = some (.list cs)) (hl : cs.length ≤ 4096) (h1 : Val o ρ σ (.ref j)) (h2 : Val f ρ σ x) :
    cMeth isList gAppend o (lCons f lNil) ⟨ρ, σ⟩ = some (.none, σ.set j (.list (cs ++ [x]))) := by
  have hlo : listOf σ (.ref j) = some (j, cs) := by
    show (match σ[j]? with | some (.list xs) => if xs.length ≤ 4096 then some (j, xs) else none | _ => none) = _
    rw [hσ]; exact if_pos hl
  show Option.bind (o ⟨ρ, σ⟩) _ = _
  rw [h1]
  show (if (listOf σ (.ref j)).isSome = true then _ else _) = _
  rw [hlo, if_pos (by rfl)]
  show Option.bind (lCons f lNil ⟨ρ, σ⟩) _ = _
  rw [vs_cons h2 vs_nil]
  show Option.map _ (listOf σ (.ref j)) = _
  rw [hlo]; rfl
noncomputable def hitF (i : Nat) (m b : Int) : Bool := if i = 0 then Builtin.bitAnd m 61440 == b else Builtin.bitAnd m b == b
noncomputable def pickF (i : Nat) (m : Int) (E : List (Int × Str)) : Str := match E.find? fun e => hitF i m e.1 with
  | some e => e.2
  | none => if i = 0 then Str.ofString "?" else Str.ofString "-"
noncomputable def fmIn : Cs := cIf (cCmp eqv2 (cLoc 2) (cVal (.int 0))) (cIf (cCmp eqv2 (cCall (F_ifmt) (lCons (cLoc 0) (lNil))) (cLoc 4)) (cSeq (cDo (cMeth isList gAppend (cLoc 1) (lCons (cLoc 5) (lNil)))) (cFl .brk)) (cSkip)) (cIf (cCmp eqv2 (cBin oAnd (cLoc 0) (cLoc 4)) (cLoc 4)) (cSeq (cDo (cMeth isList gAppend (cLoc 1) (lCons (cLoc 5) (lNil)))) (cFl .brk)) (cSkip))
noncomputable def fmElse : Cs := cIf (cCmp eqv2 (cLoc 2) (cVal (.int 0))) (cDo (cMeth isList gAppend (cLoc 1) (lCons (cVal (.str (Str.ofString "?"))) (lNil)))) (cDo (cMeth isList gAppend (cLoc 1) (lCons (cVal (.str (Str.ofString "-"))) (lNil))))
noncomputable def fmAsg : Asg := aTup 2 (aCons (fun d st => st.put 4 d) (aCons (fun d st => st.put 5 d) (aNil)))
noncomputable def fmAsg2 : Asg := aTup 2 (aCons (fun d st => st.put 2 d) (aCons (fun d st => st.put 3 d) (aNil)))
noncomputable def fmOut : Cs := cFor items (cLoc 3) fmAsg fmIn fmElse
theorem D_filemode_eq : D_filemode = cSeq (cSet 1 (cLstO (lNil))) (cSeq (cEnum (cVal FT) fmAsg2 fmOut (cSkip)) (cRet (cMeth isStr gJoin (cVal (.str (Str.ofString ""))) (lCons (cLoc 1) (lNil))))) := rfl
noncomputable abbrev fmR (m : Int) (i : Nat) (T x4 x5 : Option PV) : List (Option PV) := [some (.int m), some (.ref 0), some (.int i), T, x4, x5]
noncomputable def encE (e : Int × Str) : PV := .tup [.int e.1, .str e.2]
noncomputable def encR (E : List (Int × Str)) : PV := .tup (E.map encE)
theorem i0 (i : Nat) : ((i : Int) == 0) = decide (i = 0) := by
  by_cases h : i = 0
  · subst h; rfl
  · rw [decide_eq_false h, beq_eq_false_iff_ne]; lia
theorem fm_turn {m : Int} {i : Nat} {T : Option PV} {b : Int} {s : Str} {cs : List PV} (hl : cs.length ≤ 4096) :
    fmIn ⟨fmR m i T (some (.int b)) (some (.str s)), [.list cs]⟩ = if hitF i m b = true then some (.brk, ⟨fmR m i T (some (.int b)) (some (.str s)), [.list (cs ++ [.str s])]⟩) else some (.next, ⟨fmR m i T (some (.int b)) (some (.str s)), [.list cs]⟩) := by
  have t0 : TVal (cCmp eqv2 (cLoc 2) (cVal (.int 0))) (fmR m i T (some (.int b)) (some (.str s))) [.list cs] (decide (i = 0)) := t_cmp (v_loc rfl) (v_val _) (by rw [eq_int, i0])
  have app : ∀ {g : Cs}, cSeq (cDo (cMeth isList gAppend (cLoc 1) (lCons (cLoc 5) (lNil)))) (cFl .brk) ⟨fmR m i T (some (.int b)) (some (.str s)), [.list cs]⟩ = some (.brk, ⟨fmR m i T (some (.int b)) (some (.str s)), [.list (cs ++ [.str s])]⟩) :=
    r_seq (r_do (v_append (j := 0) rfl hl (v_loc rfl) (v_loc rfl))) rfl
  unfold fmIn hitF
  by_cases hi : i = 0
  · rw [if_pos hi]
    rw [decide_eq_true hi] at t0
    refine r_ifT t0 ?_
    have t1 : TVal (cCmp eqv2 (cCall (F_ifmt) (lCons (cLoc 0) (lNil))) (cLoc 4)) (fmR m i T (some (.int b)) (some (.str s))) [.list cs] (Builtin.bitAnd m 61440 == b) := t_cmp (v_call (vs_cons (v_loc rfl) vs_nil) rfl) (v_loc rfl) (eq_int _ _)
    cases hb : (Builtin.bitAnd m 61440 == b)
    · rw [hb] at t1; rw [if_neg (by decide)]; exact r_ifF t1 rfl
    · rw [hb] at t1; rw [if_pos rfl]; exact r_ifT t1 (app (g := cSkip))
  · rw [if_neg hi]
    rw [decide_eq_false hi] at t0
    refine r_ifF t0 ?_
    have t1 : TVal (cCmp eqv2 (cBin oAnd (cLoc 0) (cLoc 4)) (cLoc 4)) (fmR m i T (some (.int b)) (some (.str s))) [.list cs] (Builtin.bitAnd m b == b) := t_cmp (v_bin (v_loc rfl) (v_loc rfl) rfl) (v_loc rfl) (eq_int _ _)
    cases hb : (Builtin.bitAnd m b == b)
    · rw [hb] at t1; rw [if_neg (by decide)]; exact r_ifF t1 rfl
    · rw [hb] at t1; rw [if_pos rfl]; exact r_ifT t1 (app (g := cSkip))
theorem fm_in {m : Int} {i : Nat} {T : Option PV} {cs : List PV} (hl : cs.length ≤ 4096) : ∀ (E : List (Int × Str)) (x4 x5 : Option PV), ∃ y4 y5, forGo fmAsg fmIn (E.map encE) ⟨fmR m i T x4 x5, [.list cs]⟩ =
    match E.find? fun e => hitF i m e.1 with
    | some e => some (some .next, ⟨fmR m i T y4 y5, [.list (cs ++ [.str e.2])]⟩)
    | none => some (none, ⟨fmR m i T y4 y5, [.list cs]⟩)
  | [], x4, x5 => ⟨x4, x5, rfl⟩
  | (b, s) :: r, x4, x5 => by
    have step : forGo fmAsg fmIn (((b, s) :: r).map encE) ⟨fmR m i T x4 x5, [.list cs]⟩ = (fmIn ⟨fmR m i T (some (.int b)) (some (.str s)), [.list cs]⟩).bind fun (rr, s2) => match rr with
      | .next => forGo fmAsg fmIn (r.map encE) s2
      | .cont => forGo fmAsg fmIn (r.map encE) s2
      | .brk => some (some .next, s2)
      | .ret d => some (some (.ret d), s2) := rfl
    rw [step, fm_turn hl, List.find?_cons]
    cases hb : hitF i m b
    · obtain ⟨y4, y5, h⟩ := fm_in hl r (some (.int b)) (some (.str s))
      refine ⟨y4, y5, ?_⟩
      rw [if_neg (by decide)]
      exact h
    · exact ⟨_, _, by rw [if_pos rfl]; rfl⟩
theorem fm_out {m : Int} {i : Nat} {E : List (Int × Str)} {x4 x5 : Option PV} {cs : List PV} (hl : cs.length ≤ 4096) : ∃ y4 y5, fmOut ⟨fmR m i (some (encR E)) x4 x5, [.list cs]⟩ = some (.next, ⟨fmR m i (some (encR E)) y4 y5, [.list (cs ++ [.str (pickF i m E)])]⟩) := by
  obtain ⟨y4, y5, h⟩ := fm_in (m := m) (i := i) (T := some (encR E)) hl E x4 x5
  refine ⟨y4, y5, ?_⟩
  have e : fmOut ⟨fmR m i (some (encR E)) x4 x5, [.list cs]⟩ = (forGo fmAsg fmIn (E.map encE) ⟨fmR m i (some (encR E)) x4 x5, [.list cs]⟩).bind fun (r, s3) => (unlockD (encR E) s3).bind fun s4 => match r with
    | none => fmElse s4
    | some r => some (r, s4) := rfl
  rw [e, h]
  unfold pickF
  cases hf : E.find? fun e => hitF i m e.1 with
  | some e => rfl
  | none =>
    show fmElse ⟨fmR m i (some (encR E)) y4 y5, [.list cs]⟩ = _
    have t0 : TVal (cCmp eqv2 (cLoc 2) (cVal (.int 0))) (fmR m i (some (encR E)) y4 y5) [.list cs] (decide (i = 0)) := t_cmp (v_loc rfl) (v_val _) (by rw [eq_int, i0])
    unfold fmElse
    by_cases hi : i = 0
    · rw [decide_eq_true hi] at t0
      refine r_ifT t0 ?_
      dsimp only
      rw [if_pos hi]
      exact r_do (v_append (j := 0) rfl hl (v_loc rfl) (v_val _))
    · rw [decide_eq_false hi] at t0
      refine r_ifF t0 ?_
      dsimp only
      rw [if_neg hi]
      exact r_do (v_append (j := 0) rfl hl (v_loc rfl) (v_val _))
noncomputable def picks (m : Int) : Nat → List (List (Int × Str)) → List Str
  | _, [] => []
  | i, E :: r => pickF i m E :: picks m (i + 1) r
theorem fm_all {m : Int} : ∀ (R : List (List (Int × Str))) (i : Nat) (x2 T x4 x5 : Option PV) (cs : List PV), cs.length + R.length ≤ 4096 → ∃ y2 U y4 y5, forGo fmAsg2 fmOut (enumP i (R.map encR)) ⟨[some (.int m), some (.ref 0), x2, T, x4, x5], [.list cs]⟩ =
    some (none, ⟨[some (.int m), some (.ref 0), y2, U, y4, y5], [.list (cs ++ (picks m i R).map .str)]⟩)
  | [], i, x2, T, x4, x5, cs, _ => ⟨x2, T, x4, x5, by simp [picks, enumP, forGo]⟩
  | E :: r, i, x2, T, x4, x5, cs, h => by
    rw [List.length_cons] at h
    obtain ⟨y4, y5, e⟩ := fm_out (m := m) (i := i) (E := E) (x4 := x4) (x5 := x5) (cs := cs) (by lia)
    obtain ⟨z2, U, z4, z5, f⟩ := fm_all (m := m) r (i + 1) (some (.int i)) (some (encR E)) y4 y5 (cs ++ [.str (pickF i m E)]) (by simp; lia)
    refine ⟨z2, U, z4, z5, ?_⟩
    have step : forGo fmAsg2 fmOut (enumP i ((E :: r).map encR)) ⟨[some (.int m), some (.ref 0), x2, T, x4, x5], [.list cs]⟩ = (fmOut ⟨fmR m i (some (encR E)) x4 x5, [.list cs]⟩).bind fun (rr, s2) => match rr with
      | .next => forGo fmAsg2 fmOut (enumP (i + 1) (r.map encR)) s2
      | .cont => forGo fmAsg2 fmOut (enumP (i + 1) (r.map encR)) s2
      | .brk => some (some .next, s2)
      | .ret d => some (some (.ret d), s2) := rfl
    rw [step, e]
    show forGo fmAsg2 fmOut (enumP (i + 1) (r.map encR)) _ = _
    rw [f]
    simp [picks]
noncomputable def fmS (m : Int) : Str := Str.join (Str.ofString "") (picks m 0 FTL)
theorem strsOf_map : ∀ l : List Str, strsOf (l.map .str) = some l
  | [] => rfl
  | x :: r => by show Option.map _ (strsOf (r.map .str)) = _; rw [strsOf_map r]; rfl
theorem v_join {ρ : List (Option PV)} {σ : List Cell} {f o : Co} {sep : Str} {d : PV} {l : List Str} (ho : Val o ρ σ (.str sep)) (h : Val f ρ σ d) (hs : seqOf' σ d = some (l.map .str)) (hl : (l.map (·.length)).sum + l.length * sep.length ≤ 4096) :
    Val (cMeth isStr gJoin o (lCons f lNil)) ρ σ (.str (Str.join sep l)) := by
  refine v_meth ho rfl (vs_cons h vs_nil) ?_
  show Option.bind (seqOf' σ d) _ = _
  rw [hs]
  show Option.bind (strsOf (l.map .str)) _ = _
  rw [strsOf_map]
  exact if_pos hl
set_option tactic.hygienic true in
theorem pick_len {i : Nat} {m : Int} {E : List (Int × Str)} (h : ∀ e ∈ E, e.2.length = 1) : (pickF i m E).length = 1 := by
  unfold pickF
  split
  · rename_i e he; exact h _ (List.mem_of_find?_eq_some he)
  · split <;> rfl
theorem picks_len {m : Int} : ∀ (R : List (List (Int × Str))) (i : Nat), (∀ E ∈ R, ∀ e ∈ E, e.2.length = 1) → (picks m i R).length = R.length ∧ ((picks m i R).map (·.length)).sum = R.length
  | [], _, _ => ⟨rfl, rfl⟩
  | E :: r, i, h => by
    obtain ⟨a, b⟩ := picks_len (m := m) r (i + 1) fun E m => h E (.tail _ m)
    refine ⟨by simp [picks, a], ?_⟩
    simp only [picks, List.map_cons, List.sum_cons, b, pick_len (h E (.head _)), List.length_cons]
    lia
theorem FTL_one : ∀ E ∈ FTL, ∀ e ∈ E, e.2.length = 1 := by decide
theorem filemode_run (m : Int) : ∃ σ', F_filemode [.int m] [] = some (.str (fmS m), σ') := by
  obtain ⟨y2, U, y4, y5, h⟩ := fm_all (m := m) FTL 0 none none none none [] (by decide)
  refine ⟨[.list ([] ++ (picks m 0 FTL).map .str)], ?_⟩
  refine fn_run (st := ⟨[some (.int m), some (.ref 0), y2, U, y4, y5], [.list ([] ++ (picks m 0 FTL).map .str)]⟩) rfl ?_
  rw [D_filemode_eq]
  refine r_seq (s1 := ⟨[some (.int m), some (.ref 0), none, none, none, none], [.list []]⟩) rfl ?_
  refine r_seq (s1 := ⟨[some (.int m), some (.ref 0), y2, U, y4, y5], [.list ([] ++ (picks m 0 FTL).map .str)]⟩) ?_ ?_
  · have e : cEnum (cVal FT) fmAsg2 fmOut (cSkip) ⟨[some (.int m), some (.ref 0), none, none, none, none], [.list []]⟩ = (forGo fmAsg2 fmOut (enumP 0 (FTL.map encR)) ⟨[some (.int m), some (.ref 0), none, none, none, none], [.list []]⟩).bind fun (r3, s3) => match r3 with
      | none => cSkip s3
      | some r => some (r, s3) := rfl
    rw [e, h]; rfl
  · obtain ⟨a, b⟩ := picks_len (m := m) FTL 0 FTL_one
    exact r_ret (v_join (v_val _) (v_loc rfl) rfl (by rw [a, b]; decide))
theorem filemode_fresh (m : Int) {σ : List Cell} (hσ : σ.all (fun cl => !cl.isLock) = true) : gFresh F_filemode [.int m] σ = some (.str (fmS m), σ) := by
  obtain ⟨σ', h⟩ := filemode_run m
  exact fresh_run rfl hσ h rfl
end Mine
end
section
set_option tactic.hygienic false
open PySem PySem.W PyProof.Rows
set_option maxRecDepth 100000
namespace Mine
noncomputable def ofL (l : List Nat) : Str := ⟨l.toArray⟩
theorem ofL_app (a b : List Nat) : ofL a ++ ofL b = ofL (a ++ b) := by
  show (⟨a.toArray ++ b.toArray⟩ : Str) = ⟨(a ++ b).toArray⟩
  simp
theorem chS_ofL (c : Nat) : chS c = ofL [c] := rfl
theorem join_ofL : ∀ l : List Nat, Str.join (Str.ofString "") (l.map chS) = ofL l
  | [] => rfl
  | [c] => rfl
  | c :: d :: r => by
    have ih := join_ofL (d :: r)
    show chS c ++ Str.ofString "" ++ Str.join (Str.ofString "") ((d :: r).map chS) = _
    rw [ih, chS_ofL, show Str.ofString "" = ofL [] from rfl, ofL_app, ofL_app]; rfl
theorem fdivN (a b : Nat) : (a : Int).fdiv (b : Int) = ((a / b : Nat) : Int) := (Int.ofNat_fdiv a b).symm
theorem fmodN (a b : Nat) : (a : Int).fmod (b : Int) = ((a % b : Nat) : Int) := (Int.ofNat_fmod a b).symm
theorem and_pow (m e : Nat) : m &&& 2 ^ e = if m / 2 ^ e % 2 = 1 then 2 ^ e else 0 := by
  apply Nat.eq_of_testBit_eq
  intro i
  rw [Nat.testBit_and, Nat.testBit_two_pow]
  have h := @Nat.testBit_eq_decide_div_mod_eq e m
  by_cases hi : e = i
  · subst hi
    split
    · rename_i hh; rw [h, decide_eq_true hh]; simp
    · rename_i hh; rw [h, decide_eq_false hh]; simp
  · split <;> simp [hi, Nat.testBit_two_pow]
theorem beqN (a b : Nat) : (((a : Nat) : Int) == ((b : Nat) : Int)) = decide (a = b) := by
  by_cases h : a = b
  · subst h; simp
  · rw [decide_eq_false h, beq_eq_false_iff_ne]; lia
theorem hit1 (m e : Nat) : (Builtin.bitAnd (m : Int) ((2 ^ e : Nat) : Int) == ((2 ^ e : Nat) : Int)) = decide (m / 2 ^ e % 2 = 1) := by
  rw [bitAnd_nat, beqN, and_pow]
  have := Nat.two_pow_pos e
  split
  · rename_i h; simp [h]
  · rename_i h
    rw [decide_eq_false h, decide_eq_false]; lia
theorem hit2 {a b d : Nat} (e f m : Nat) (ha : a = 2 ^ e) (hb : b = 2 ^ f) (hd : d = a ||| b) (h1 : a ||| 0 ≠ d) (h2 : 0 ||| b ≠ d) (h3 : d ≠ 0) : (Builtin.bitAnd (m : Int) (d : Int) == (d : Int)) = decide (m / a % 2 = 1 ∧ m / b % 2 = 1) := by
  rw [bitAnd_nat, beqN]
  have q : m &&& d = (if m / a % 2 = 1 then a else 0) ||| (if m / b % 2 = 1 then b else 0) := by
    rw [hd, Nat.and_or_distrib_left]
    conv => lhs; rw [ha, hb, and_pow, and_pow]
    rw [← ha, ← hb]
  rw [q]
  by_cases x : m / a % 2 = 1 <;> by_cases y : m / b % 2 = 1 <;> simp only [x, y, if_true, if_false, true_and, and_true, and_false, false_and, decide_true, decide_false]
  · rw [← hd]; simp
  · simpa using h1
  · simpa using h2
  · simpa using fun z => h3 z.symm
theorem ifmt_nat (m : Nat) (h : m < 65536) : m &&& 61440 = m - m % 4096 := by
  have e : m - m % 4096 = (m / 4096) * 2 ^ 12 := by lia
  rw [e]
  apply Nat.eq_of_testBit_eq
  intro i
  rw [Nat.testBit_and, show (61440 : Nat) = 15 * 2 ^ 12 from rfl, Nat.testBit_mul_two_pow, Nat.testBit_mul_two_pow]
  by_cases hi : 12 ≤ i
  · simp only [hi, decide_true, Bool.true_and]
    have hm : (m / 4096).testBit (i - 12) = m.testBit i := by
      rw [show m / 4096 = m >>> 12 from (Nat.shiftRight_eq_div_pow m 12).symm, Nat.testBit_shiftRight]; congr 1; lia
    rw [hm]
    by_cases h16 : i < 16
    · have : i - 12 = 0 ∨ i - 12 = 1 ∨ i - 12 = 2 ∨ i - 12 = 3 := by lia
      rcases this with z | z | z | z <;> rw [z] <;> first | (simp; done) | (simp; intro _; decide)
    · have : m.testBit i = false := Nat.testBit_lt_two_pow (Nat.lt_of_lt_of_le h (by show 2 ^ 16 ≤ 2 ^ i; exact Nat.pow_le_pow_right (by decide) (by lia)))
      rw [this]; rfl
  · simp [hi]
noncomputable def sg4 (s : List Nat) (x y : Nat) : Nat := (s[x + 2 * y]?).getD 0
noncomputable def trio (m R A : Nat) (s : List Nat) : List Nat := [if m / R / 4 % 2 = 1 then 114 else 45, if m / R / 2 % 2 = 1 then 119 else 45, sg4 s (m / R % 2) (m / A % 2)]
noncomputable def sXS : List Nat := [45, 120, 83, 115]
noncomputable def sXT : List Nat := [45, 120, 84, 116]
noncomputable def kC (k : Nat) : Nat := if k = 4 then 100 else if k = 8 then 45 else if k = 6 then 98 else if k = 10 then 108 else 115
noncomputable def rowL (m : Nat) : List Nat := kC (m / 4096) :: (trio m 64 2048 sXS ++ trio m 8 1024 sXS ++ trio m 1 512 sXT)
noncomputable def goodK (k : Nat) : Prop := k = 4 ∨ k = 6 ∨ k = 8 ∨ k = 10 ∨ k = 12
theorem pick1 (m e i c : Nat) (s : Str) (hi : i ≠ 0) (hs : s = chS c) {b : Int} (hb : b = ((2 ^ e : Nat) : Int)) : pickF i m [(b, s)] = chS (if m / 2 ^ e % 2 = 1 then c else 45) := by
  subst hs; subst hb
  have h : hitF i m ((2 ^ e : Nat) : Int) = decide (m / 2 ^ e % 2 = 1) := by unfold hitF; rw [if_neg hi, hit1]
  unfold pickF
  rw [List.find?_cons, h]
  by_cases x : m / 2 ^ e % 2 = 1
  · rw [decide_eq_true x, if_pos x]
  · rw [decide_eq_false x, if_neg x]; dsimp only [List.find?_nil]; rw [if_neg hi]; rfl
theorem pick3 {a b d : Nat} (e f m i c1 c2 c3 : Nat) (hi : i ≠ 0) (ha : a = 2 ^ e) (hb : b = 2 ^ f) (hd : d = a ||| b) (h1 : a ||| 0 ≠ d) (h2 : 0 ||| b ≠ d) (h3 : d ≠ 0) :
    pickF i m [((d : Int), chS c1), ((b : Int), chS c2), ((a : Int), chS c3)] = chS (sg4 [45, c3, c2, c1] (m / a % 2) (m / b % 2)) := by
  have g1 : hitF i m (d : Int) = decide (m / a % 2 = 1 ∧ m / b % 2 = 1) := by unfold hitF; rw [if_neg hi]; exact hit2 e f m ha hb hd h1 h2 h3
  have g2 : hitF i m (b : Int) = decide (m / b % 2 = 1) := by unfold hitF; rw [if_neg hi, hb, hit1, ← hb]
  have g3 : hitF i m (a : Int) = decide (m / a % 2 = 1) := by unfold hitF; rw [if_neg hi, ha, hit1, ← ha]
  unfold pickF
  rw [List.find?_cons, g1, List.find?_cons, g2, List.find?_cons, g3, List.find?_nil]
  have xa : m / a % 2 = 0 ∨ m / a % 2 = 1 := by lia
  have xb : m / b % 2 = 0 ∨ m / b % 2 = 1 := by lia
  rcases xa with xa | xa <;> rcases xb with xb | xb <;> simp [xa, xb, hi, sg4] <;> rfl
theorem pick0 (m : Nat) (hm : goodK (m / 4096)) : pickF 0 m [((40960 : Int), chS 108), (49152, chS 115), (32768, chS 45), (24576, chS 98), (16384, chS 100), (8192, chS 99), (4096, chS 112)] = chS (kC (m / 4096)) := by
  have h : Builtin.bitAnd (m : Int) 61440 = ((m / 4096 * 4096 : Nat) : Int) := by
    rw [show (61440 : Int) = ((61440 : Nat) : Int) from rfl, bitAnd_nat, ifmt_nat m (by rcases hm with h | h | h | h | h <;> lia)]
    congr 1; lia
  unfold pickF hitF
  simp only [if_pos rfl, h]
  rcases hm with h | h | h | h | h <;> rw [h] <;> rfl
theorem fmS_is (m : Nat) (hm : goodK (m / 4096)) : fmS m = ofL (rowL m) := by
  have e : picks (m : Int) 0 FTL = (rowL m).map chS := by
    have t : trio m 64 2048 sXS ++ trio m 8 1024 sXS ++ trio m 1 512 sXT = [if m / 2 ^ 8 % 2 = 1 then 114 else 45, if m / 2 ^ 7 % 2 = 1 then 119 else 45, sg4 sXS (m / 64 % 2) (m / 2048 % 2), if m / 2 ^ 5 % 2 = 1 then 114 else 45, if m / 2 ^ 4 % 2 = 1 then 119 else 45, sg4 sXS (m / 8 % 2) (m / 1024 % 2), if m / 2 ^ 2 % 2 = 1 then 114 else 45, if m / 2 ^ 1 % 2 = 1 then 119 else 45, sg4 sXT (m / 1 % 2) (m / 512 % 2)] := by
      simp only [trio, List.cons_append, List.nil_append, Nat.div_div_eq_div_mul]
    unfold rowL
    rw [t]
    show [pickF 0 m _, pickF 1 m _, pickF 2 m _, pickF 3 m _, pickF 4 m _, pickF 5 m _, pickF 6 m _, pickF 7 m _, pickF 8 m _, pickF 9 m _] = _
    rw [show pickF 0 (m : Int) [(40960, Str.ofString "l"), (49152, Str.ofString "s"), (32768, Str.ofString "-"), (24576, Str.ofString "b"), (16384, Str.ofString "d"), (8192, Str.ofString "c"), (4096, Str.ofString "p")] = _ from pick0 m hm]
    rw [pick1 m 8 1 114 _ (by decide) (by rfl) (by rfl), pick1 m 7 2 119 _ (by decide) (by rfl) (by rfl), pick1 m 5 4 114 _ (by decide) (by rfl) (by rfl), pick1 m 4 5 119 _ (by decide) (by rfl) (by rfl), pick1 m 2 7 114 _ (by decide) (by rfl) (by rfl), pick1 m 1 8 119 _ (by decide) (by rfl) (by rfl)]
    rw [show pickF 3 (m : Int) [(2112, Str.ofString "s"), (2048, Str.ofString "S"), (64, Str.ofString "x")] = _ from pick3 (a := 64) (b := 2048) (d := 2112) 6 11 m 3 115 83 120 (by decide) (by decide) (by decide) (by decide) (by decide) (by decide) (by decide)]
    rw [show pickF 6 (m : Int) [(1032, Str.ofString "s"), (1024, Str.ofString "S"), (8, Str.ofString "x")] = _ from pick3 (a := 8) (b := 1024) (d := 1032) 3 10 m 6 115 83 120 (by decide) (by decide) (by decide) (by decide) (by decide) (by decide) (by decide)]
    rw [show pickF 9 (m : Int) [(513, Str.ofString "t"), (512, Str.ofString "T"), (1, Str.ofString "x")] = _ from pick3 (a := 1) (b := 512) (d := 513) 0 9 m 9 116 84 120 (by decide) (by decide) (by decide) (by decide) (by decide) (by decide) (by decide)]
    rfl
  unfold fmS
  rw [e, join_ofL]
section
variable {σ : List Cell}
theorem divN (a b : Nat) (h0 : b ≠ 0) (h1 : b < 1073741824) : oDiv σ (.int a) (.int b) = some (.int ((a / b : Nat) : Int)) := by
  show Option.map _ (if _ then _ else _) = _
  rw [if_pos ⟨by lia, PyProof.noPylong_small (by lia)⟩, fdivN]; rfl
theorem modN (a b : Nat) (h0 : b ≠ 0) : oMod σ (.int a) (.int b) = some (.int ((a % b : Nat) : Int)) := by
  show Option.map _ (if _ then _ else _) = _
  rw [if_pos (by lia), fmodN]; rfl
theorem mulN (a b : Nat) (h0 : a < 1000000) (h1 : b < 1000000) : oMul σ (.int a) (.int b) = some (.int ((a * b : Nat) : Int)) := by
  show Option.map _ (if _ then _ else _) = _
  rw [if_pos ⟨by lia, by lia⟩]; simp
theorem addN (a b : Nat) : oAdd σ (.int a) (.int b) = some (.int ((a + b : Nat) : Int)) := by
  show some (PV.int (a + b)) = _; simp
theorem addS (a b : List Nat) (h : a.length + b.length ≤ 1000000) : oAdd σ (.str (ofL a)) (.str (ofL b)) = some (.str (ofL (a ++ b))) := by
  show (if (ofL a).length + (ofL b).length ≤ 1000000 then _ else _) = _
  rw [if_pos (by simpa [ofL, Str.length] using h), ofL_app]
theorem idx2 (a b q : Nat) : idxS (ofL [a, b]) ((q % 2 : Nat) : Int) = some (.str (ofL [if q % 2 = 1 then b else a])) := by
  have x : q % 2 = 0 ∨ q % 2 = 1 := by lia
  rcases x with x | x <;> rw [x] <;> rfl
theorem idx4 (a b c d x y : Nat) : idxS (ofL [a, b, c, d]) ((x % 2 + 2 * (y % 2) : Nat) : Int) = some (.str (ofL [sg4 [a, b, c, d] (x % 2) (y % 2)])) := by
  have h : x % 2 = 0 ∨ x % 2 = 1 := by lia
  have h' : y % 2 = 0 ∨ y % 2 = 1 := by lia
  rcases h with h | h <;> rcases h' with h' | h' <;> rw [h, h'] <;> rfl
end
theorem b_bin {ρ : List (Option PV)} {σ σ1 : List Cell} {op} {f g : Co} {a b r : PV} (h1 : f ⟨ρ, σ⟩ = some (a, σ1)) (h2 : Val g ρ σ1 b) (h3 : op σ1 a b = some r) : cBin op f g ⟨ρ, σ⟩ = some (r, σ1) := by
  show Option.bind (f ⟨ρ, σ⟩) _ = _
  rw [h1]; show Option.bind (g ⟨ρ, σ1⟩) _ = _; rw [h2]; show Option.map _ (op σ1 a b) = _; rw [h3]; rfl
theorem b_set {ρ : List (Option PV)} {σ σ1 : List Cell} {i : Nat} {f : Co} {d : PV} (h : f ⟨ρ, σ⟩ = some (d, σ1)) (hi : i < ρ.length) : cSet i f ⟨ρ, σ⟩ = some (.next, ⟨ρ.set i (some d), σ1⟩) := by
  show Option.bind (f ⟨ρ, σ⟩) _ = _
  rw [h]; show Option.map _ (if _ then _ else _) = _; rw [if_pos hi]; rfl
theorem b_asg {ρ : List (Option PV)} {σ σ1 : List Cell} {i : Nat} {f : Co} {d : PV} (h : f ⟨ρ, σ⟩ = some (d, σ1)) (hi : i < ρ.length) : cAsg (fun d st => st.put i d) f ⟨ρ, σ⟩ = some (.next, ⟨ρ.set i (some d), σ1⟩) := by
  show Option.bind (f ⟨ρ, σ⟩) _ = _
  rw [h]; show Option.map _ (St.put ⟨ρ, σ1⟩ i d) = _; rw [put_ok' hi]; rfl
theorem for_cons {asg : Asg} {body : Cs} {d : PV} {ds : List PV} {st s1 s2 : St} {r} (h1 : asg d st = some s1) (h2 : body s1 = some (.next, s2)) (h3 : forGo asg body ds s2 = r) : forGo asg body (d :: ds) st = r := by
  show Option.bind (asg d st) _ = _
  rw [h1]; show Option.bind (body s1) _ = _; rw [h2]; exact h3
theorem r_for {ρ : List (Option PV)} {σ : List Cell} {fi : Co} {asg : Asg} {body orelse : Cs} {d : PV} {ds : List PV} {s3 : St} {r} (h1 : Val fi ρ σ d) (hc : cellOfV d = none) (h2 : items σ d = some ds) (h3 : forGo asg body ds ⟨ρ, σ⟩ = some (none, s3)) (h4 : orelse s3 = r) :
    cFor items fi asg body orelse ⟨ρ, σ⟩ = r := by
  have hlk : lockD d ⟨ρ, σ⟩ = some ⟨ρ, σ⟩ := by unfold lockD; rw [hc]
  have hul : unlockD d s3 = some s3 := by unfold unlockD; rw [hc]
  show Option.bind (fi ⟨ρ, σ⟩) _ = _
  rw [h1]; show Option.bind (lockD d ⟨ρ, σ⟩) _ = _; rw [hlk]; show Option.bind (items σ d) _ = _; rw [h2]; show Option.bind (forGo asg body ds ⟨ρ, σ⟩) _ = _; rw [h3]
  show Option.bind (unlockD d s3) _ = _; rw [hul]; exact h4
theorem r_forR {ρ : List (Option PV)} {σ : List Cell} {fi : Co} {asg : Asg} {body orelse : Cs} {d v : PV} {ds : List PV} {s3 : St} (h1 : Val fi ρ σ d) (hc : cellOfV d = none) (h2 : items σ d = some ds) (h3 : forGo asg body ds ⟨ρ, σ⟩ = some (some (.ret v), s3)) :
    cFor items fi asg body orelse ⟨ρ, σ⟩ = some (.ret v, s3) := by
  have hlk : lockD d ⟨ρ, σ⟩ = some ⟨ρ, σ⟩ := by unfold lockD; rw [hc]
  have hul : unlockD d s3 = some s3 := by unfold unlockD; rw [hc]
  show Option.bind (fi ⟨ρ, σ⟩) _ = _
  rw [h1]; show Option.bind (lockD d ⟨ρ, σ⟩) _ = _; rw [hlk]; show Option.bind (items σ d) _ = _; rw [h2]; show Option.bind (forGo asg body ds ⟨ρ, σ⟩) _ = _; rw [h3]
  show Option.bind (unlockD d s3) _ = _; rw [hul]; rfl
noncomputable def wA : Asg := aTup 3 (aCons (fun d st => st.put 2 d) (aCons (fun d st => st.put 3 d) (aCons (fun d st => st.put 4 d) (aNil))))
noncomputable def wB1 : Co := cBin oAdd (cBin oAdd (cLoc 1) (cBin oGet (cVal (.str (Str.ofString "-r"))) (cBin oMod (cBin oDiv (cBin oDiv (cLoc 0) (cLoc 2)) (cVal (.int 4))) (cVal (.int 2))))) (cBin oGet (cVal (.str (Str.ofString "-w"))) (cBin oMod (cBin oDiv (cBin oDiv (cLoc 0) (cLoc 2)) (cVal (.int 2))) (cVal (.int 2))))
noncomputable def wB2 : Co := cBin oAdd (cLoc 1) (cBin oGet (cLoc 4) (cBin oAdd (cBin oMod (cBin oDiv (cLoc 0) (cLoc 2)) (cVal (.int 2))) (cBin oMul (cVal (.int 2)) (cBin oMod (cBin oDiv (cLoc 0) (cLoc 3)) (cVal (.int 2))))))
noncomputable def wB : Cs := cSeq (cSet 1 wB1) (cSet 1 wB2)
noncomputable def wD : Co := cDict (dCons 4 (cVal (.str (Str.ofString "d"))) (dCons 8 (cVal (.str (Str.ofString "-"))) (dCons 6 (cVal (.str (Str.ofString "b"))) (dCons 10 (cVal (.str (Str.ofString "l"))) (dCons 12 (cVal (.str (Str.ofString "s"))) (dNil))))))
noncomputable def wL3 : Co := cLst (lCons (cTup (lCons (cVal (.int 64)) (lCons (cVal (.int 2048)) (lCons (cVal (.str (Str.ofString "-xSs"))) (lNil))))) (lCons (cTup (lCons (cVal (.int 8)) (lCons (cVal (.int 1024)) (lCons (cVal (.str (Str.ofString "-xSs"))) (lNil))))) (lCons (cTup (lCons (cVal (.int 1)) (lCons (cVal (.int 512)) (lCons (cVal (.str (Str.ofString "-xTt"))) (lNil))))) (lNil))))
theorem D_written_eq : D_written = cSeq (cSet 1 (cBin oGet wD (cBin oDiv (cLoc 0) (cVal (.int 4096))))) (cSeq (cFor items wL3 wA wB (cSkip)) (cRet (cLoc 1))) := rfl
theorem wB_run {m R A : Nat} {r : List Nat} {σ : List Cell} (a b c d : Nat) (hr : r.length ≤ 100) (hR : R ≠ 0 ∧ R < 10000) (hA : A ≠ 0 ∧ A < 10000) :
    wB ⟨[some (.int m), some (.str (ofL r)), some (.int R), some (.int A), some (.str (ofL [a, b, c, d]))], σ⟩ = some (.next, ⟨[some (.int m), some (.str (ofL (r ++ trio m R A [a, b, c, d]))), some (.int R), some (.int A), some (.str (ofL [a, b, c, d]))], σ⟩) := by
  have q : Val (cBin oDiv (cLoc 0) (cLoc 2)) [some (.int m), some (.str (ofL r)), some (.int R), some (.int A), some (.str (ofL [a, b, c, d]))] σ (.int ((m / R : Nat) : Int)) := v_bin (v_loc rfl) (v_loc rfl) (divN m R hR.1 (by lia))
  have h1 : Val wB1 [some (.int m), some (.str (ofL r)), some (.int R), some (.int A), some (.str (ofL [a, b, c, d]))] σ (.str (ofL (r ++ [if m / R / 4 % 2 = 1 then 114 else 45] ++ [if m / R / 2 % 2 = 1 then 119 else 45]))) :=
    v_bin (v_bin (v_loc rfl) (v_bin (v_val _) (v_bin (v_bin q (v_val _) (divN _ 4 (by decide) (by decide))) (v_val _) (modN _ 2 (by decide))) (idx2 45 114 _)) (addS _ _ (by simp; lia)))
      (v_bin (v_val _) (v_bin (v_bin q (v_val _) (divN _ 2 (by decide) (by decide))) (v_val _) (modN _ 2 (by decide))) (idx2 45 119 _)) (addS _ _ (by simp; lia))
  refine r_seq (r_set h1 (by simp)) ?_
  have q' : Val (cBin oDiv (cLoc 0) (cLoc 2)) [some (.int m), some (.str (ofL (r ++ [if m / R / 4 % 2 = 1 then 114 else 45] ++ [if m / R / 2 % 2 = 1 then 119 else 45]))), some (.int R), some (.int A), some (.str (ofL [a, b, c, d]))] σ (.int ((m / R : Nat) : Int)) := v_bin (v_loc rfl) (v_loc rfl) (divN m R hR.1 (by lia))
  have q2 : Val (cBin oDiv (cLoc 0) (cLoc 3)) [some (.int m), some (.str (ofL (r ++ [if m / R / 4 % 2 = 1 then 114 else 45] ++ [if m / R / 2 % 2 = 1 then 119 else 45]))), some (.int R), some (.int A), some (.str (ofL [a, b, c, d]))] σ (.int ((m / A : Nat) : Int)) := v_bin (v_loc rfl) (v_loc rfl) (divN m A hA.1 (by lia))
  have h2 : Val wB2 [some (.int m), some (.str (ofL (r ++ [if m / R / 4 % 2 = 1 then 114 else 45] ++ [if m / R / 2 % 2 = 1 then 119 else 45]))), some (.int R), some (.int A), some (.str (ofL [a, b, c, d]))] σ (.str (ofL (r ++ [if m / R / 4 % 2 = 1 then 114 else 45] ++ [if m / R / 2 % 2 = 1 then 119 else 45] ++ [sg4 [a, b, c, d] (m / R % 2) (m / A % 2)]))) :=
    v_bin (v_loc rfl) (v_bin (v_loc rfl) (v_bin (v_bin q' (v_val _) (modN _ 2 (by decide))) (v_bin (v_val _) (v_bin q2 (v_val _) (modN _ 2 (by decide))) (mulN 2 _ (by decide) (by lia))) (addN _ _)) (idx4 a b c d _ _)) (addS _ _ (by simp; lia))
  have e : r ++ trio m R A [a, b, c, d] = r ++ [if m / R / 4 % 2 = 1 then 114 else 45] ++ [if m / R / 2 % 2 = 1 then 119 else 45] ++ [sg4 [a, b, c, d] (m / R % 2) (m / A % 2)] := by simp [trio]
  rw [e]
  exact r_set h2 (by simp)
theorem written_run (m : Nat) (hm : goodK (m / 4096)) : ∃ σ', F_written [.int m] [] = some (.str (ofL (rowL m)), σ') := by
  refine ⟨[.dint [(4, .str (Str.ofString "d")), (8, .str (Str.ofString "-")), (6, .str (Str.ofString "b")), (10, .str (Str.ofString "l")), (12, .str (Str.ofString "s"))]], ?_⟩
  refine fn_run (st := ⟨[some (.int m), some (.str (ofL (rowL m))), some (.int 1), some (.int 512), some (.str (Str.ofString "-xTt"))], _⟩) rfl ?_
  rw [D_written_eq]
  refine r_seq (s1 := ⟨[some (.int m), some (.str (ofL [kC (m / 4096)])), none, none, none], [.dint [(4, .str (Str.ofString "d")), (8, .str (Str.ofString "-")), (6, .str (Str.ofString "b")), (10, .str (Str.ofString "l")), (12, .str (Str.ofString "s"))]]⟩) ?_ ?_
  · have q : Val (cBin oDiv (cLoc 0) (cVal (.int 4096))) [some (.int m), none, none, none, none] [.dint [(4, .str (Str.ofString "d")), (8, .str (Str.ofString "-")), (6, .str (Str.ofString "b")), (10, .str (Str.ofString "l")), (12, .str (Str.ofString "s"))]] (.int ((m / 4096 : Nat) : Int)) := v_bin (v_loc rfl) (v_val _) (divN m 4096 (by decide) (by decide))
    have e : cBin oGet wD (cBin oDiv (cLoc 0) (cVal (.int 4096))) ⟨[some (.int m), none, none, none, none], []⟩ = some (.str (ofL [kC (m / 4096)]), [.dint [(4, .str (Str.ofString "d")), (8, .str (Str.ofString "-")), (6, .str (Str.ofString "b")), (10, .str (Str.ofString "l")), (12, .str (Str.ofString "s"))]]) := by
      refine b_bin (a := .ref 0) ?_ q ?_
      · show (if (([(4, .str (Str.ofString "d")), (8, .str (Str.ofString "-")), (6, .str (Str.ofString "b")), (10, .str (Str.ofString "l")), (12, .str (Str.ofString "s"))] : List (Int × PV)).map (·.1)).Nodup then some (PV.ref 0, [Cell.dint [(4, .str (Str.ofString "d")), (8, .str (Str.ofString "-")), (6, .str (Str.ofString "b")), (10, .str (Str.ofString "l")), (12, .str (Str.ofString "s"))]]) else none) = _
        rw [if_pos (by decide)]
      · rcases hm with h | h | h | h | h <;> rw [h] <;> rfl
    exact b_set e (by simp)
  · refine r_seq (s1 := ⟨[some (.int m), some (.str (ofL (rowL m))), some (.int 1), some (.int 512), some (.str (Str.ofString "-xTt"))], _⟩) ?_ (r_ret (v_loc rfl))
    have b1 := wB_run (m := m) (R := 64) (A := 2048) (r := [kC (m / 4096)]) (σ := [.dint [(4, .str (Str.ofString "d")), (8, .str (Str.ofString "-")), (6, .str (Str.ofString "b")), (10, .str (Str.ofString "l")), (12, .str (Str.ofString "s"))]]) 45 120 83 115 (by simp) (by decide) (by decide)
    have b2 := wB_run (m := m) (R := 8) (A := 1024) (r := [kC (m / 4096)] ++ trio m 64 2048 sXS) (σ := [.dint [(4, .str (Str.ofString "d")), (8, .str (Str.ofString "-")), (6, .str (Str.ofString "b")), (10, .str (Str.ofString "l")), (12, .str (Str.ofString "s"))]]) 45 120 83 115 (by simp [trio]) (by decide) (by decide)
    have b3 := wB_run (m := m) (R := 1) (A := 512) (r := [kC (m / 4096)] ++ trio m 64 2048 sXS ++ trio m 8 1024 sXS) (σ := [.dint [(4, .str (Str.ofString "d")), (8, .str (Str.ofString "-")), (6, .str (Str.ofString "b")), (10, .str (Str.ofString "l")), (12, .str (Str.ofString "s"))]]) 45 120 84 116 (by simp [trio]) (by decide) (by decide)
    have e : rowL m = [kC (m / 4096)] ++ trio m 64 2048 sXS ++ trio m 8 1024 sXS ++ trio m 1 512 sXT := by simp [rowL]
    rw [e]
    exact r_for (d := .lst [.tup [.int 64, .int 2048, .str (ofL [45, 120, 83, 115])], .tup [.int 8, .int 1024, .str (ofL [45, 120, 83, 115])], .tup [.int 1, .int 512, .str (ofL [45, 120, 84, 116])]]) rfl rfl rfl
      (for_cons rfl b1 (for_cons rfl b2 (for_cons rfl b3 rfl))) rfl
theorem written_fresh (m : Nat) (hm : goodK (m / 4096)) {σ : List Cell} (hσ : σ.all (fun cl => !cl.isLock) = true) : gFresh F_written [.int m] σ = some (.str (ofL (rowL m)), σ) := by
  obtain ⟨σ', h⟩ := written_run m hm
  exact fresh_run rfl hσ h rfl
theorem filemode_row (m : Nat) (hm : goodK (m / 4096)) {σ : List Cell} (hσ : σ.all (fun cl => !cl.isLock) = true) : gFresh F_filemode [.int m] σ = some (.str (ofL (rowL m)), σ) := by
  rw [filemode_fresh m hσ, fmS_is m hm]
end Mine
end
section
set_option tactic.hygienic false
open PySem PySem.W PyProof.Rows
set_option maxRecDepth 100000
namespace Mine
noncomputable def sL (l : List Nat) : List PV := l.map fun c => .str (chS c)
theorem clo_ints : ∀ l : List Int, PVs.clo (l.map .int) = true
  | [] => rfl
  | x :: r => by simp [PVs.clo, PV.clo, clo_ints r]
theorem clo_sL : ∀ l : List Nat, PVs.clo (sL l) = true
  | [] => rfl
  | x :: r => by simp [sL, PVs.clo, PV.clo]; exact clo_sL r
theorem strsOf_sL (l : List Nat) : strsOf (sL l) = some (l.map chS) := by
  have : sL l = (l.map chS).map .str := by simp [sL]
  rw [this, strsOf_map]
theorem okN {c : Nat} (h : c < 1114112) : okS (chS c) := by
  show (#[c] : Array Nat).all (· < 0x110000) = true
  simp [h]
theorem chS_inj {a b : Nat} : (chS a == chS b) = decide (a = b) := by
  by_cases h : a = b
  · subst h; simp
  · rw [decide_eq_false h]
    cases q : (chS a == chS b)
    · rfl
    · exact absurd (by have := beqS.mp q; simpa [chS] using this) h
theorem sgnC_lt (k : Nat) (x : Option Bool) : sgnC k x < 128 := by
  unfold sgnC letterC
  split <;> first | decide | skip
  split <;> first | decide | (split <;> decide)
theorem sgnC_q (k : Nat) (x : Option Bool) : (sgnC k x = 63) ↔ x = none := by
  cases x with
  | none => simp [sgnC]
  | some b => cases b <;> simp [sgnC, letterC] <;> (split <;> first | decide | (split <;> decide))
theorem count_plc : ∀ (p : Pat) (k : Nat), ((plcC k p).map chS).countP (· == chS 63) = p.countP (·.isNone)
  | [], _ => rfl
  | x :: r, k => by
    simp only [plcC, List.map_cons, List.countP_cons, count_plc r (k + 1), chS_inj]
    cases x with
    | none => simp [sgnC]
    | some b => have := sgnC_q k (some b); simp at this; simp [this]
theorem countP_set_le (f : Option Bool → Bool) (a : Option Bool) : ∀ (p : Pat) (i : Nat), (p.set i a).countP f ≤ p.countP f + if f a = true then 1 else 0
  | [], _ => by simp
  | x :: r, 0 => by simp [List.countP_cons]
  | x :: r, i + 1 => by
    have := countP_set_le f a r i
    simp only [List.set_cons_succ, List.countP_cons]
    lia
theorem r_asgSub {ρ : List (Option PV)} {σ σ' : List Cell} {op} {v f g : Co} {d a b : PV} (h0 : Val v ρ σ d) (h1 : Val f ρ σ a) (h2 : Val g ρ σ b) (h3 : op σ a b d = some σ') : cAsg (aSub op f g) v ⟨ρ, σ⟩ = some (.next, ⟨ρ, σ'⟩) := by
  show Option.bind (v ⟨ρ, σ⟩) _ = _
  rw [h0]; show Option.map _ (Option.bind (f ⟨ρ, σ⟩) _) = _
  rw [h1]; show Option.map _ (Option.bind (g ⟨ρ, σ⟩) _) = _
  rw [h2]; show Option.map _ (Option.map _ (op σ a b d)) = _
  rw [h3]; rfl
noncomputable def pSign : Co := cBin oGet (cLst (lCons (cVal (.str (Str.ofString "-"))) (lCons (cBin oGet (cVal (.str (Str.ofString "rwx"))) (cBin oMod (cBin oMod (cLoc 2) (cVal (.int 9))) (cVal (.int 3)))) (lCons (cVal (.str (Str.ofString "?"))) (lNil))))) (cBin oMod (cBin oDiv (cLoc 2) (cVal (.int 9))) (cVal (.int 3)))
noncomputable def pBody : Cs := cSeq (cSet 3 pSign) (cIf (cOr (cCmp nev2 (cLoc 3) (cVal (.str (Str.ofString "?")))) (cCmp lt2 (cMeth isList gCount (cLoc 1) (lCons (cVal (.str (Str.ofString "?"))) (lNil))) (cVal (.int 4)))) (cAsg (aSub oSet (cLoc 1) (cBin oMod (cLoc 2) (cVal (.int 9)))) (cLoc 3)) (cSkip))
theorem D_pattern_eq : D_pattern = cSeq (cSet 1 (cLstO (lCons (cVal (.str (Str.ofString "?"))) (lCons (cVal (.str (Str.ofString "-"))) (lCons (cVal (.str (Str.ofString "x"))) (lCons (cVal (.str (Str.ofString "-"))) (lCons (cVal (.str (Str.ofString "?"))) (lCons (cVal (.str (Str.ofString "-"))) (lCons (cVal (.str (Str.ofString "r"))) (lCons (cVal (.str (Str.ofString "-"))) (lCons (cVal (.str (Str.ofString "?"))) (lNil)))))))))))) (cSeq (cFor items (cLoc 0) (fun d st => st.put 2 d) pBody (cSkip)) (cRet (cLoc 1))) := rfl
noncomputable def pV (s : Nat) : Option Bool := if s = 0 then some false else if s = 1 then some true else none
theorem oModI {σ : List Cell} (x : Int) (b : Int) (h : b ≠ 0) : oMod σ (.int x) (.int b) = some (.int (x.fmod b)) := by
  show Option.map _ (if _ then _ else _) = _
  rw [if_pos h]; rfl
theorem oDivI {σ : List Cell} (x : Int) (b : Int) (h : b ≠ 0) (h2 : b.natAbs < 1073741824) : oDiv σ (.int x) (.int b) = some (.int (x.fdiv b)) := by
  show Option.map _ (if _ then _ else _) = _
  rw [if_pos ⟨h, PyProof.noPylong_small h2⟩]; rfl
theorem pSign_run {N : Option PV} {x : Int} {y : Option PV} {σ : List Cell} {i s : Nat} (hi : x.fmod 9 = (i : Int)) (hs : (x.fdiv 9).fmod 3 = (s : Int)) (h3 : s < 3) : Val pSign [N, some (.ref 0), some (.int x), y] σ (.str (chS (sgnC i (pV s)))) := by
  have m : i % 3 = 0 ∨ i % 3 = 1 ∨ i % 3 = 2 := by lia
  have a : Val (cBin oGet (cVal (.str (Str.ofString "rwx"))) (cBin oMod (cBin oMod (cLoc 2) (cVal (.int 9))) (cVal (.int 3)))) [N, some (.ref 0), some (.int x), y] σ (.str (chS (letterC i))) := by
    refine v_bin (v_val _) (v_bin (v_bin (v_loc rfl) (v_val _) (oModI x 9 (by decide))) (v_val _) (by rw [hi]; exact modN i 3 (by decide))) ?_
    unfold letterC
    rcases m with m | m | m <;> rw [m] <;> rfl
  refine v_bin (v_lst (vs_cons (v_val _) (vs_cons a (vs_cons (v_val _) vs_nil))) (by simp)) (v_bin (v_bin (v_loc rfl) (v_val _) (oDivI x 9 (by decide) (by decide))) (v_val _) (by rw [oModI _ _ (by decide), hs])) ?_
  have : s = 0 ∨ s = 1 ∨ s = 2 := by lia
  rcases this with z | z | z <;> rw [z] <;> rfl
theorem pat_turn {N : Option PV} {x : Int} {y : Option PV} {p : Pat} (hp : p.length = 9) (hq : p.countP (·.isNone) ≤ 4) : ∃ (p' : Pat) (y' : Option PV), p'.length = 9 ∧ p'.countP (·.isNone) ≤ 4 ∧
    pBody ⟨[N, some (.ref 0), some (.int x), y], [.list (sL (plcC 0 p))]⟩ = some (.next, ⟨[N, some (.ref 0), some (.int x), y'], [.list (sL (plcC 0 p'))]⟩) := by
  obtain ⟨i, hi⟩ : ∃ i : Nat, x.fmod 9 = (i : Int) := ⟨(x.fmod 9).toNat, by have := Int.fmod_nonneg_of_pos x (show (0 : Int) < 9 by decide); lia⟩
  have hi9 : i < 9 := by have := Int.fmod_lt_of_pos x (show (0 : Int) < 9 by decide); lia
  obtain ⟨s, hs⟩ : ∃ s : Nat, (x.fdiv 9).fmod 3 = (s : Int) := ⟨((x.fdiv 9).fmod 3).toNat, by have := Int.fmod_nonneg_of_pos (x.fdiv 9) (show (0 : Int) < 3 by decide); lia⟩
  have hs3 : s < 3 := by have := Int.fmod_lt_of_pos (x.fdiv 9) (show (0 : Int) < 3 by decide); lia
  have e1 := pSign_run (N := N) (y := y) (σ := [.list (sL (plcC 0 p))]) hi hs hs3
  have hlen : (sL (plcC 0 p)).length = 9 := by simp [sL, plcC_len, hp]
  have stored : cAsg (aSub oSet (cLoc 1) (cBin oMod (cLoc 2) (cVal (.int 9)))) (cLoc 3) ⟨[N, some (.ref 0), some (.int x), some (.str (chS (sgnC i (pV s))))], [.list (sL (plcC 0 p))]⟩ = some (.next, ⟨[N, some (.ref 0), some (.int x), some (.str (chS (sgnC i (pV s))))], [.list (sL (plcC 0 (p.set i (pV s))))]⟩) := by
    have o : oSet [.list (sL (plcC 0 p))] (.ref 0) (.int i) (.str (chS (sgnC i (pV s)))) = some [.list (sL (plcC 0 (p.set i (pV s))))] := by
      have hlo : listOf [.list (sL (plcC 0 p))] (.ref 0) = some (0, sL (plcC 0 p)) := by
        show (if (sL (plcC 0 p)).length ≤ 4096 then some (0, sL (plcC 0 p)) else none) = _
        rw [if_pos (by lia)]
      show Option.bind (listOf [.list (sL (plcC 0 p))] (.ref 0)) _ = _
      rw [hlo]
      show (if (0 : Int) ≤ (i : Int) ∧ (i : Int) < ((sL (plcC 0 p)).length : Nat) then _ else _) = _
      rw [if_pos ⟨by lia, by lia⟩]
      show some [Cell.list ((sL (plcC 0 p)).set (i : Int).toNat (.str (chS (sgnC i (pV s)))))] = _
      congr 3
      rw [← plcC_set p 0 i]
      simp [sL, List.map_set]
    have m : Val (cBin oMod (cLoc 2) (cVal (.int 9))) [N, some (.ref 0), some (.int x), some (.str (chS (sgnC i (pV s))))] [.list (sL (plcC 0 p))] (.int i) := v_bin (v_loc rfl) (v_val _) (by rw [oModI _ _ (by decide), hi])
    exact r_asgSub (v_loc rfl) (v_loc rfl) m o
  have okq : okS (Str.ofString "?") := show okS (chS 63) from okN (by decide)
  have t1 : TVal (cCmp nev2 (cLoc 3) (cVal (.str (Str.ofString "?")))) [N, some (.ref 0), some (.int x), some (.str (chS (sgnC i (pV s))))] [.list (sL (plcC 0 p))] (!decide (pV s = none)) := t_cmp (v_loc rfl) (v_val _) (by
    rw [ne_str (okN (Nat.lt_of_lt_of_le (sgnC_lt _ _) (by decide))) okq, show Str.ofString "?" = chS 63 from rfl, chS_inj]
    congr 2
    exact decide_eq_decide.mpr (sgnC_q i (pV s)))
  have t2 : TVal (cCmp lt2 (cMeth isList gCount (cLoc 1) (lCons (cVal (.str (Str.ofString "?"))) (lNil))) (cVal (.int 4))) [N, some (.ref 0), some (.int x), some (.str (chS (sgnC i (pV s))))] [.list (sL (plcC 0 p))] (decide (p.countP (·.isNone) < 4)) := by
    have hlo : listOf [.list (sL (plcC 0 p))] (.ref 0) = some (0, sL (plcC 0 p)) := by
      show (if (sL (plcC 0 p)).length ≤ 4096 then some (0, sL (plcC 0 p)) else none) = _
      rw [if_pos (by lia)]
    have g : gCount [.ref 0, .str (Str.ofString "?")] [.list (sL (plcC 0 p))] = some (.int (p.countP (·.isNone) : Nat), [.list (sL (plcC 0 p))]) := by
      show Option.bind (listOf [.list (sL (plcC 0 p))] (.ref 0)) _ = _
      rw [hlo]
      show Option.map _ (strsOf (sL (plcC 0 p))) = _
      rw [strsOf_sL]
      show some (PV.int (((plcC 0 p).map chS).countP (· == chS 63) : Nat), _) = _
      rw [count_plc]
    refine t_cmp (v_meth (v_loc rfl) (by show (listOf _ _).isSome = true; rw [hlo]; rfl) (vs_cons (v_val _) vs_nil) g) (v_val _) ?_
    show some (decide _) = _
    congr 1
    exact decide_eq_decide.mpr (by lia)
  have hset : (p.set i (pV s)).length = 9 := by simp [hp]
  have hcnt := countP_set_le (·.isNone) (pV s) p i
  by_cases hv : pV s = none
  · rw [decide_eq_true hv] at t1
    by_cases hc : p.countP (·.isNone) < 4
    · rw [decide_eq_true hc] at t2
      refine ⟨p.set i (pV s), some (.str (chS (sgnC i (pV s)))), hset, ?_, ?_⟩
      · rw [hv] at hcnt ⊢; simp at hcnt; lia
      · exact r_seq (r_set e1 (by simp)) (r_ifT (t_or_f t1 t2) stored)
    · rw [decide_eq_false hc] at t2
      exact ⟨p, some (.str (chS (sgnC i (pV s)))), hp, hq, r_seq (r_set e1 (by simp)) (r_ifF (t_or_f t1 t2) rfl)⟩
  · rw [decide_eq_false hv] at t1
    refine ⟨p.set i (pV s), some (.str (chS (sgnC i (pV s)))), hset, ?_, ?_⟩
    · cases hz : pV s with
      | none => exact absurd hz hv
      | some b => rw [hz] at hcnt; simp at hcnt; lia
    · exact r_seq (r_set e1 (by simp)) (r_ifT (t_or_t t1) stored)
theorem pat_go {N : Option PV} : ∀ (l : List Int) (x y : Option PV) (p : Pat), p.length = 9 → p.countP (·.isNone) ≤ 4 → ∃ (p' : Pat) (x' y' : Option PV), p'.length = 9 ∧ p'.countP (·.isNone) ≤ 4 ∧
    forGo (fun d st => st.put 2 d) pBody (l.map .int) ⟨[N, some (.ref 0), x, y], [.list (sL (plcC 0 p))]⟩ = some (none, ⟨[N, some (.ref 0), x', y'], [.list (sL (plcC 0 p'))]⟩)
  | [], x, y, p, hp, hq => ⟨p, x, y, hp, hq, rfl⟩
  | z :: r, x, y, p, hp, hq => by
    obtain ⟨p1, y1, hp1, hq1, e1⟩ := pat_turn (N := N) (x := z) (y := y) hp hq
    obtain ⟨p2, x2, y2, hp2, hq2, e2⟩ := pat_go (N := N) r (some (.int z)) y1 p1 hp1 hq1
    exact ⟨p2, x2, y2, hp2, hq2, for_cons rfl e1 e2⟩
theorem pattern_fresh (l : List Int) {σ : List Cell} (hσ : σ.all (fun cl => !cl.isLock) = true) : ∃ p : Pat, p.length = 9 ∧ p.countP (·.isNone) ≤ 4 ∧ gFresh F_pattern [.lst (l.map .int)] σ = some (.lst (sL (plcC 0 p)), σ) := by
  obtain ⟨p, x', y', hp, hq, e⟩ := pat_go (N := some (.lst (l.map .int))) l none none [none, some false, some true, some false, none, some false, some true, some false, none] rfl (by decide)
  refine ⟨p, hp, hq, fresh_run (d := .ref 0) (σ1 := [.list (sL (plcC 0 p))]) (by simp [PVs.clo, PV.clo, clo_ints]) hσ ?_ ?_⟩
  · refine fn_run (st := ⟨[some (.lst (l.map .int)), some (.ref 0), x', y'], [.list (sL (plcC 0 p))]⟩) rfl ?_
    rw [D_pattern_eq]
    exact r_seq (b_set (d := .ref 0) (σ1 := [.list (sL (plcC 0 [none, some false, some true, some false, none, some false, some true, some false, none]))]) rfl (by simp)) (r_seq (r_for (v_loc rfl) rfl rfl e rfl) (r_ret (v_loc rfl)))
  · show (if PVs.clo (sL (plcC 0 p)) = true then some (PV.lst (sL (plcC 0 p))) else none) = _
    rw [if_pos (clo_sL _)]
end Mine
end
section
set_option tactic.hygienic false
open PySem PySem.W PyProof.Rows
set_option maxRecDepth 100000
namespace Mine
theorem idxN {cs : List Nat} {k c : Nat} (h : cs[k]? = some c) (hl : cs.length ≤ 4096) : idxS (ofL cs) (k : Int) = some (.str (ofL [c])) := by
  have hk : k < cs.length := (List.getElem?_eq_some_iff.mp h).1
  have h1 : seqIndex? (k : Int) (ofL cs).length = some k := by
    unfold seqIndex?
    have : (ofL cs).length = cs.length := by simp [ofL, Str.length]
    rw [this]
    have hn : ¬ ((k : Int) < 0) := by lia
    simp [hn, hk]
  unfold idxS
  rw [if_pos (by simp; lia), h1]
  show Option.map _ ((ofL cs).cps[k]?) = _
  have : (ofL cs).cps[k]? = some c := by simpa [ofL] using h
  rw [this]; rfl
theorem v_callB {ρ : List (Option PV)} {σ : List Cell} {i j : Nat} {f : Co} {x : PV} {cs : List PV} (h1 : ρ[i]? = some (some (.meth "list.append" (.ref j)))) (hσ : σ[j]? = some (.list cs)) (hl : cs.length ≤ 4096) (h2 : Val f ρ σ x) :
    cCallB "list.append" gAppend (cLoc i) (lCons f lNil) ⟨ρ, σ⟩ = some (.none, σ.set j (.list (cs ++ [x]))) := by
  have hlo : listOf σ (.ref j) = some (j, cs) := by
    show (match σ[j]? with | some (.list xs) => if xs.length ≤ 4096 then some (j, xs) else none | _ => none) = _
    rw [hσ]; exact if_pos hl
  show Option.bind (cLoc i ⟨ρ, σ⟩) _ = _
  rw [v_loc h1]
  show (if "list.append" = "list.append" then Option.bind (lCons f lNil ⟨ρ, σ⟩) (fun (ds, σ2) => gAppend (.ref j :: ds) σ2) else none) = _
  rw [if_pos rfl, vs_cons h2 vs_nil]
  show Option.map _ (listOf σ (.ref j)) = _
  rw [hlo]; rfl
theorem okL {l : List Nat} (h : ∀ c ∈ l, c < 1114112) : okS (ofL l) := by
  show (l.toArray).all (· < 0x110000) = true
  simpa [List.all_eq_true] using h
theorem ofL_beq (a b : List Nat) : (ofL a == ofL b) = decide (a = b) := by
  by_cases h : a = b
  · subst h; simp
  · rw [decide_eq_false h]
    cases q : (ofL a == ofL b)
    · rfl
    · exact absurd (by have := beqS.mp q; simpa [ofL] using this) h
noncomputable def pieceL (c : Nat) : List Nat := if c = 63 then [46] else if c = 45 then [92, 45] else [c]
noncomputable def goodC (c : Nat) : Prop := c = 45 ∨ c = 63 ∨ c = 114 ∨ c = 119 ∨ c = 120
noncomputable def psL (l : List Nat) : List PV := l.map fun c => .str (ofL (pieceL c))
theorem esc_run {c : Nat} (h : goodC c) (h2 : c ≠ 63) (σ : List Cell) : F_escape [.str (ofL [c])] σ = some (.str (ofL (pieceL c)), σ) := by
  have t : trOf (ofL [c]) = some (ofL (pieceL c)) := by
    rcases h with h | h | h | h | h
    · subst h; rfl
    · exact absurd h h2
    · subst h; rfl
    · subst h; rfl
    · subst h; rfl
  refine fn_run (st := ⟨[some (.str (ofL [c]))], σ⟩) rfl ?_
  refine r_ifT (t_tr (v_call (vs_cons (v_loc rfl) (vs_cons (v_val _) vs_nil)) rfl) rfl) (r_ret (v_meth (v_loc rfl) rfl (vs_cons (v_val _) vs_nil) ?_))
  show Option.map _ (trOf (ofL [c])) = _
  rw [t]; rfl
theorem b_do {ρ : List (Option PV)} {σ σ' : List Cell} {f : Co} {d : PV} (h : f ⟨ρ, σ⟩ = some (d, σ')) : cDo f ⟨ρ, σ⟩ = some (.next, ⟨ρ, σ'⟩) := r_do h
noncomputable def tT : Ct := cCmp lt2 (cLoc 5) (cLoc 6)
noncomputable def tB : Cs := cSeq (cSet 7 (cBin oGet (cLoc 0) (cLoc 5))) (cSeq (cSet 5 (cBin oAdd (cLoc 5) (cVal (.int 1)))) (cIf (cCmp eqv2 (cLoc 7) (cVal (.str (Str.ofString "*")))) (cNone) (cIf (cCmp eqv2 (cLoc 7) (cVal (.str (Str.ofString "?")))) (cDo (cCallB "list.append" gAppend (cLoc 4) (lCons (cLoc 2) (lNil)))) (cIf (cCmp eqv2 (cLoc 7) (cVal (.str (Str.ofString "[")))) (cNone) (cDo (cCallB "list.append" gAppend (cLoc 4) (lCons (cCall (F_escape) (lCons (cLoc 7) (lNil))) (lNil))))))))
theorem D_trans_eq : D_trans = cSeq (cSet 3 (cLstO (lNil))) (cSeq (cSet 4 (cUn aApp (cLoc 3))) (cSeq (cSwap 5 6 (cTup (lCons (cVal (.int 0)) (lCons (cCall (gLen) (lCons (cLoc 0) (lNil))) (lNil))))) (cSeq (cWhile 1000 tT tB (cSkip)) (cSeq (cAssert (cCmp eqv2 (cLoc 5) (cLoc 6))) (cRet (cLoc 3)))))) := rfl
noncomputable abbrev tR (cs : List Nat) (i n : Nat) (c : Option PV) : List (Option PV) := [some (.str (ofL cs)), some (.ref 0), some (.str (ofL [46])), some (.ref 1), some (.meth "list.append" (.ref 1)), some (.int i), some (.int n), c, none, none, none, none, none]
theorem eq_chL {σ : List Cell} {a b : Nat} (ha : a < 128) (hb : b < 128) : eqv2 σ (.str (ofL [a])) (.str (ofL [b])) = some (decide (a = b)) := by
  rw [eq_str (okL (by simp; lia)) (okL (by simp; lia)), ofL_beq]
  congr 1
  exact decide_eq_decide.mpr (by simp)
theorem goodC_lt {c : Nat} (h : goodC c) : c < 128 := by rcases h with h | h | h | h | h <;> lia
theorem wh_step {t : Ct} {b : Cs} {n : Nat} {ρ : List (Option PV)} {σ : List Cell} {s2 : St} {r} (h1 : TVal t ρ σ true) (h2 : b ⟨ρ, σ⟩ = some (.next, s2)) (h3 : whGo t b n s2 = r) : whGo t b (n + 1) ⟨ρ, σ⟩ = r := by
  show Option.bind (t ⟨ρ, σ⟩) _ = _
  rw [h1]; show Option.bind (b ⟨ρ, σ⟩) _ = _; rw [h2]; exact h3
theorem wh_end {t : Ct} {b : Cs} {n : Nat} {ρ : List (Option PV)} {σ : List Cell} (h1 : TVal t ρ σ false) : whGo t b (n + 1) ⟨ρ, σ⟩ = some (none, ⟨ρ, σ⟩) := by
  show Option.bind (t ⟨ρ, σ⟩) _ = _
  rw [h1]; rfl
theorem r_while {t : Ct} {b o : Cs} {n : Nat} {st s1 : St} {r} (h1 : whGo t b n st = some (none, s1)) (h2 : o s1 = r) : cWhile n t b o st = r := by
  show Option.bind (whGo t b n st) _ = _
  rw [h1]; exact h2
theorem r_assert {ρ : List (Option PV)} {σ : List Cell} {t : Ct} (h : TVal t ρ σ true) : cAssert t ⟨ρ, σ⟩ = some (.next, ⟨ρ, σ⟩) := by
  show Option.bind (t ⟨ρ, σ⟩) _ = _
  rw [h]; rfl
theorem r_swap {ρ : List (Option PV)} {σ σ' : List Cell} {i j : Nat} {v : Co} {a b : PV} (h : v ⟨ρ, σ⟩ = some (.tup [a, b], σ')) (hi : i < ρ.length) (hj : j < ρ.length) : cSwap i j v ⟨ρ, σ⟩ = some (.next, ⟨(ρ.set j (some b)).set i (some a), σ'⟩) := by
  show Option.bind (v ⟨ρ, σ⟩) _ = _
  rw [h]
  show Option.bind (St.put ⟨ρ, σ'⟩ j b) _ = _
  rw [put_ok' hj]
  show Option.map _ (St.put ⟨ρ.set j (some b), σ'⟩ i a) = _
  rw [put_ok' (by simpa using hi)]; rfl
theorem ltN' {σ : List Cell} (a b : Nat) : lt2 σ (.int a) (.int b) = some (decide (a < b)) := by
  show some (decide _) = _
  congr 1
  exact decide_eq_decide.mpr (by lia)
theorem t_turn {cs : List Nat} {i n c : Nat} {c0 : Option PV} {ps : List PV} (hc : goodC c) (hi : cs[i]? = some c) (hl : cs.length ≤ 4096) (hp : ps.length ≤ 4096) :
    tB ⟨tR cs i n c0, [.obj, .list ps]⟩ = some (.next, ⟨tR cs (i + 1) n (some (.str (ofL [c]))), [.obj, .list (ps ++ [.str (ofL (pieceL c))])]⟩) := by
  have hlt := goodC_lt hc
  refine r_seq (r_set (v_bin (v_loc rfl) (v_loc rfl) (idxN hi hl)) (by simp)) ?_
  refine r_seq (r_set (v_bin (v_loc rfl) (v_val _) (addN i 1)) (by simp)) ?_
  show cIf _ _ _ ⟨tR cs (i + 1) n (some (.str (ofL [c]))), [.obj, .list ps]⟩ = _
  have n1 : TVal (cCmp eqv2 (cLoc 7) (cVal (.str (Str.ofString "*")))) (tR cs (i + 1) n (some (.str (ofL [c])))) [.obj, .list ps] false := t_cmp (v_loc rfl) (v_val _) (by
    rw [show Str.ofString "*" = ofL [42] from rfl, eq_chL hlt (by decide), decide_eq_false]; rcases hc with h | h | h | h | h <;> lia)
  have n3 : TVal (cCmp eqv2 (cLoc 7) (cVal (.str (Str.ofString "[")))) (tR cs (i + 1) n (some (.str (ofL [c])))) [.obj, .list ps] false := t_cmp (v_loc rfl) (v_val _) (by
    rw [show Str.ofString "[" = ofL [91] from rfl, eq_chL hlt (by decide), decide_eq_false]; rcases hc with h | h | h | h | h <;> lia)
  have n2 : TVal (cCmp eqv2 (cLoc 7) (cVal (.str (Str.ofString "?")))) (tR cs (i + 1) n (some (.str (ofL [c])))) [.obj, .list ps] (decide (c = 63)) := t_cmp (v_loc rfl) (v_val _) (by
    rw [show Str.ofString "?" = ofL [63] from rfl, eq_chL hlt (by decide)])
  refine r_ifF n1 ?_
  by_cases h63 : c = 63
  · rw [decide_eq_true h63] at n2
    refine r_ifT n2 ?_
    have : pieceL c = [46] := by unfold pieceL; rw [if_pos h63]
    rw [this]
    exact r_do (v_callB (j := 1) rfl rfl hp (v_loc rfl))
  · rw [decide_eq_false h63] at n2
    refine r_ifF n2 (r_ifF n3 ?_)
    exact r_do (v_callB (j := 1) rfl rfl hp (v_call (vs_cons (v_loc rfl) vs_nil) (esc_run hc h63 _)))
theorem t_loop {cs : List Nat} (hg : ∀ c ∈ cs, goodC c) (hl : cs.length ≤ 100) : ∀ (k i : Nat) (c0 : Option PV) (ps : List PV) (fuel : Nat), cs.length = i + k → ps.length = i → k < fuel → ∃ c1, whGo tT tB fuel ⟨tR cs i cs.length c0, [.obj, .list ps]⟩ =
    some (none, ⟨tR cs cs.length cs.length c1, [.obj, .list (ps ++ psL (cs.drop i))]⟩)
  | 0, i, c0, ps, fuel, h, hp, hf => by
    cases fuel with
    | zero => lia
    | succ fuel =>
      have hi : i = cs.length := by lia
      subst hi
      refine ⟨c0, ?_⟩
      have w := wh_end (t := tT) (b := tB) (n := fuel) (ρ := tR cs cs.length cs.length c0) (σ := [.obj, .list ps]) (t_cmp (v_loc rfl) (v_loc rfl) (by rw [ltN', decide_eq_false (Nat.lt_irrefl _)]))
      rw [w]
      simp [psL]
  | k + 1, i, c0, ps, fuel, h, hp, hf => by
    cases fuel with
    | zero => lia
    | succ fuel =>
      have hi : i < cs.length := by lia
      have hget := List.getElem?_eq_getElem hi
      obtain ⟨c1, e⟩ := t_loop hg hl k (i + 1) (some (.str (ofL [cs[i]]))) (ps ++ [.str (ofL (pieceL cs[i]))]) fuel (by lia) (by simp [hp]) (by lia)
      refine ⟨c1, ?_⟩
      refine wh_step (t_cmp (v_loc rfl) (v_loc rfl) (by rw [ltN', decide_eq_true hi])) (t_turn (hg _ (List.getElem_mem hi)) hget (by lia) (by lia)) ?_
      rw [e]
      have : psL (cs.drop i) = .str (ofL (pieceL cs[i])) :: psL (cs.drop (i + 1)) := by
        rw [List.drop_eq_getElem_cons hi]; rfl
      rw [this]; simp
theorem trans_run {cs : List Nat} (hg : ∀ c ∈ cs, goodC c) (hl : cs.length ≤ 100) : F_trans [.str (ofL cs), .ref 0, .str (ofL [46])] [.obj] = some (.ref 1, [.obj, .list (psL cs)]) := by
  obtain ⟨c1, e⟩ := t_loop hg hl cs.length 0 none [] 1000 (by lia) rfl (by lia)
  refine fn_run (st := ⟨tR cs cs.length cs.length c1, [.obj, .list (psL cs)]⟩) rfl ?_
  rw [D_trans_eq]
  refine r_seq (b_set (d := .ref 1) (σ1 := [.obj, .list []]) rfl (by simp)) ?_
  refine r_seq (r_set (d := .meth "list.append" (.ref 1)) rfl (by simp)) ?_
  have hlen : gLen [.str (ofL cs)] [.obj, .list []] = some (.int (cs.length : Nat), [.obj, .list []]) := by
    show (if (ofL cs).length ≤ 4096 then some (PV.int (ofL cs).length, _) else none) = _
    rw [if_pos (by simp [ofL, Str.length]; lia)]; simp [ofL, Str.length]
  refine r_seq (r_swap (v_tup (vs_cons (v_val _) (vs_cons (v_call (vs_cons (v_loc rfl) vs_nil) hlen) vs_nil)) (by simp)) (by simp) (by simp)) ?_
  refine r_seq (r_while e rfl) ?_
  exact r_seq (r_assert (t_cmp (v_loc rfl) (v_loc rfl) (by rw [eq_int]; simp))) (r_ret (v_loc rfl))
noncomputable def jT : Ct := cAnd (cCmp lt2 (cLoc 4) (cLoc 5)) (cCmp nis2 (cBin oGet (cLoc 0) (cLoc 4)) (cLoc 1))
noncomputable def jB : Cs := cSeq (cDo (cCallB "list.append" gAppend (cLoc 3) (lCons (cBin oGet (cLoc 0) (cLoc 4)) (lNil)))) (cAugN 4 oAddI (cVal (.int 1)))
theorem D_joinp_eq : D_joinp = cSeq (cSet 2 (cLstO (lNil))) (cSeq (cSet 3 (cUn aApp (cLoc 2))) (cSeq (cSwap 4 5 (cTup (lCons (cVal (.int 0)) (lCons (cCall (gLen) (lCons (cLoc 0) (lNil))) (lNil))))) (cSeq (cWhile 1000 jT jB (cSkip)) (cSeq (cWhile 1000 (cCmp lt2 (cLoc 4) (cLoc 5)) (cNone) (cSkip)) (cSeq (cAssert (cCmp eqv2 (cLoc 4) (cLoc 5))) (cSeq (cSet 2 (cMeth isStr gJoin (cVal (.str (Str.ofString ""))) (lCons (cLoc 2) (lNil)))) (cRet (cFs (Str.ofString "(?s:") (cLoc 2) (Str.ofString ")\\Z"))))))))) := rfl
noncomputable abbrev jR (i n : Nat) : List (Option PV) := [some (.ref 1), some (.ref 0), some (.ref 2), some (.meth "list.append" (.ref 2)), some (.int i), some (.int n), none]
theorem idxLN {xs : List PV} {k : Nat} {d : PV} (h : xs[k]? = some d) (hl : xs.length ≤ 4096) : idxL xs (k : Int) = some d := by
  have hk := (List.getElem?_eq_some_iff.mp h).1
  unfold idxL fits
  rw [if_pos (by simp; lia), if_pos (by lia)]
  simpa using h
theorem r_aug {ρ : List (Option PV)} {σ : List Cell} {i : Nat} {op} {f : Co} {a b r : PV} (h0 : ρ[i]? = some (some a)) (h1 : Val f ρ σ b) (h2 : op σ a b = some r) : cAugN i op f ⟨ρ, σ⟩ = some (.next, ⟨ρ.set i (some r), σ⟩) := by
  have hi : i < ρ.length := (List.getElem?_eq_some_iff.mp h0).1
  show Option.bind (ρ[i]?).join _ = _
  rw [h0]
  show Option.bind (f ⟨ρ, σ⟩) _ = _
  rw [h1]
  show Option.bind (op σ a b) _ = _
  rw [h2]
  show Option.map _ (St.put ⟨ρ, σ⟩ i r) = _
  rw [put_ok' hi]; rfl
theorem j_loop {xs : List Str} (hl : xs.length ≤ 100) : ∀ (k i : Nat) (ps : List PV) (fuel : Nat), xs.length = i + k → ps.length = i → k < fuel → whGo jT jB fuel ⟨jR i xs.length, [.obj, .list (xs.map .str), .list ps]⟩ =
    some (none, ⟨jR xs.length xs.length, [.obj, .list (xs.map .str), .list (ps ++ (xs.drop i).map .str)]⟩)
  | 0, i, ps, fuel, h, hp, hf => by
    cases fuel with
    | zero => lia
    | succ fuel =>
      have hi : i = xs.length := by lia
      subst hi
      have w := wh_end (t := jT) (b := jB) (n := fuel) (ρ := jR xs.length xs.length) (σ := [.obj, .list (xs.map .str), .list ps]) (t_and_f (t_cmp (v_loc rfl) (v_loc rfl) (by rw [ltN', decide_eq_false (Nat.lt_irrefl _)])))
      rw [w]
      simp
  | k + 1, i, ps, fuel, h, hp, hf => by
    cases fuel with
    | zero => lia
    | succ fuel =>
      have hi : i < xs.length := by lia
      have hget : (xs.map PV.str)[i]? = some (.str xs[i]) := by simp [hi]
      have hv : ∀ ρ4, Val (cBin oGet (cLoc 0) (cLoc 4)) (jR i ρ4) [.obj, .list (xs.map .str), .list ps] (.str xs[i]) := fun ρ4 => v_bin (v_loc rfl) (v_loc rfl) (idxLN hget (by simp; lia))
      have e := j_loop hl k (i + 1) (ps ++ [.str xs[i]]) fuel (by lia) (by simp [hp]) (by lia)
      refine wh_step (t_and_t (t_cmp (v_loc rfl) (v_loc rfl) (by rw [ltN', decide_eq_true hi])) (t_cmp (hv _) (v_loc rfl) rfl)) (r_seq (r_do (v_callB (j := 2) rfl rfl (by lia) (hv _))) (r_aug (a := .int i) (r := .int ((i + 1 : Nat) : Int)) rfl (v_val (.int 1)) (by show some (PV.int ((i : Int) + 1)) = _; simp))) ?_
      refine Eq.trans e ?_
      have : (xs.drop i).map PV.str = .str xs[i] :: (xs.drop (i + 1)).map .str := by rw [List.drop_eq_getElem_cons hi]; rfl
      rw [this]; simp
theorem flat_len {cs : List Nat} : ((cs.map pieceL).map (·.length)).sum ≤ 2 * cs.length := by
  induction cs with
  | nil => simp
  | cons c r ih =>
    simp only [List.map_cons, List.sum_cons, List.length_cons]
    have : (pieceL c).length ≤ 2 := by unfold pieceL; split <;> first | simp | (split <;> simp)
    lia
theorem join_flat : ∀ ls : List (List Nat), Str.join (Str.ofString "") (ls.map ofL) = ofL ls.flatten
  | [] => rfl
  | [c] => by simp [Str.join]
  | c :: d :: r => by
    have ih := join_flat (d :: r)
    show ofL c ++ Str.ofString "" ++ Str.join (Str.ofString "") ((d :: r).map ofL) = _
    rw [ih, show Str.ofString "" = ofL [] from rfl, ofL_app, ofL_app]; simp
noncomputable def txtL (cs : List Nat) : List Nat := (cs.map pieceL).flatten
noncomputable def madeL (cs : List Nat) : List Nat := [40, 63, 115, 58] ++ txtL cs ++ [41, 92, 90]
theorem txt_len (cs : List Nat) : (txtL cs).length ≤ 2 * cs.length := by unfold txtL; rw [List.length_flatten]; exact flat_len
theorem joinp_run {cs : List Nat} (hl : cs.length ≤ 100) : ∃ σ', F_joinp [.ref 1, .ref 0] [.obj, .list (psL cs)] = some (.str (ofL (madeL cs)), σ') := by
  have hps : psL cs = (cs.map fun c => ofL (pieceL c)).map .str := by simp [psL]
  have hxl : (cs.map fun c => ofL (pieceL c)).length = cs.length := by simp
  have e := j_loop (xs := cs.map fun c => ofL (pieceL c)) (by simpa using hl) cs.length 0 [] 1000 (by simp) rfl (by lia)
  rw [hxl] at e
  refine ⟨[.obj, .list (psL cs), .list ([] ++ (cs.map fun c => ofL (pieceL c)).map .str)], ?_⟩
  rw [hps]
  refine fn_run (st := ⟨[some (.ref 1), some (.ref 0), some (.str (ofL (txtL cs))), some (.meth "list.append" (.ref 2)), some (.int cs.length), some (.int cs.length), none], _⟩) rfl ?_
  rw [D_joinp_eq]
  refine r_seq (b_set (d := .ref 2) (σ1 := [.obj, .list ((cs.map fun c => ofL (pieceL c)).map .str), .list []]) rfl (by simp)) ?_
  refine r_seq (r_set (d := .meth "list.append" (.ref 2)) rfl (by simp)) ?_
  have hlen : gLen [.ref 1] [.obj, .list ((cs.map fun c => ofL (pieceL c)).map .str), .list []] = some (.int (cs.length : Nat), [.obj, .list ((cs.map fun c => ofL (pieceL c)).map .str), .list []]) := by
    show Option.map _ (if ((cs.map fun c => ofL (pieceL c)).map PV.str).length ≤ 4096 then _ else none) = _
    rw [if_pos (by simp; lia)]
    simp
  refine r_seq (r_swap (v_tup (vs_cons (v_val _) (vs_cons (v_call (vs_cons (v_loc rfl) vs_nil) hlen) vs_nil)) (by simp)) (by simp) (by simp)) ?_
  refine r_seq (r_while e rfl) ?_
  refine r_seq (r_while (wh_end (n := 999) (t_cmp (v_loc rfl) (v_loc rfl) (by rw [ltN', decide_eq_false (Nat.lt_irrefl _)]))) rfl) ?_
  refine r_seq (r_assert (t_cmp (v_loc rfl) (v_loc rfl) (by rw [eq_int]; simp))) ?_
  have hj : Str.join (Str.ofString "") (cs.map fun c => ofL (pieceL c)) = ofL (txtL cs) := by
    rw [show (cs.map fun c => ofL (pieceL c)) = (cs.map pieceL).map ofL by simp]
    exact join_flat _
  have hsum : ((cs.map fun c => ofL (pieceL c)).map (·.length)).sum + (cs.map fun c => ofL (pieceL c)).length * (Str.ofString "").length ≤ 4096 := by
    have h1 : (cs.map fun c => ofL (pieceL c)).map (·.length) = (cs.map pieceL).map (·.length) := by simp [ofL, Str.length]
    rw [h1]
    have := flat_len (cs := cs)
    have h0 : (Str.ofString "").length = 0 := rfl
    rw [h0]; lia
  refine r_seq (r_set (d := .str (ofL (txtL cs))) (by rw [← hj]; exact v_join (v_val _) (v_loc rfl) rfl hsum) (by simp)) ?_
  refine r_ret ?_
  show Option.bind (cLoc 2 ⟨_, _⟩) _ = _
  rw [v_loc (d := .str (ofL (txtL cs))) rfl]
  have := txt_len cs
  show (if (ofL [40, 63, 115, 58]).length + (ofL (txtL cs)).length + (ofL [41, 92, 90]).length ≤ 4096 then _ else _) = _
  rw [if_pos (by simp [ofL, Str.length]; lia)]
  show some (PV.str (ofL [40, 63, 115, 58] ++ ofL (txtL cs) ++ ofL [41, 92, 90]), _) = _
  rw [ofL_app, ofL_app]; rfl
theorem translate_fresh {cs : List Nat} (hg : ∀ c ∈ cs, goodC c) (hl : cs.length ≤ 100) {σ : List Cell} (hσ : σ.all (fun cl => !cl.isLock) = true) : gFresh F_translate [.str (ofL cs)] σ = some (.str (ofL (madeL cs)), σ) := by
  obtain ⟨σ', h⟩ := joinp_run hl
  refine fresh_run (d := .str (ofL (madeL cs))) (σ1 := σ') rfl hσ ?_ rfl
  refine fn_run (st := ⟨[some (.str (ofL cs)), some (.ref 0), some (.ref 1)], σ'⟩) rfl ?_
  refine r_seq (b_set (d := .ref 0) (σ1 := [.obj]) rfl (by simp)) ?_
  refine r_seq (b_set (d := .ref 1) (σ1 := [.obj, .list (psL cs)]) ?_ (by simp)) ?_
  · show Option.bind (lCons (cLoc 0) (lCons (cLoc 1) (lCons (cVal (.str (Str.ofString "."))) (lNil))) ⟨_, _⟩) _ = _
    rw [vs_cons (a := .str (ofL cs)) (v_loc rfl) (vs_cons (a := .ref 0) (v_loc rfl) (vs_cons (v_val _) vs_nil))]
    exact trans_run hg hl
  · show Option.map _ (Option.bind (lCons (cLoc 2) (lCons (cLoc 1) (lNil)) ⟨_, _⟩) _) = _
    rw [vs_cons (a := .ref 1) (v_loc rfl) (vs_cons (a := .ref 0) (v_loc rfl) vs_nil)]
    show Option.map _ (F_joinp [.ref 1, .ref 0] [.obj, .list (psL cs)]) = _
    rw [h]; rfl
end Mine
end
section
set_option tactic.hygienic false
open PySem PySem.W PyProof.Rows
set_option maxRecDepth 100000
namespace Mine
theorem picks_drop (l : List Nat) : ∀ n a, a + n ≤ l.length → ((List.range n).map (fun k => a + k)).filterMap (l[·]?) = (l.drop a).take n
  | 0, _, _ => by simp
  | n + 1, a, h => by
    have hlt : a + n < l.length := by lia
    rw [List.range_succ, List.map_append, List.filterMap_append, picks_drop l n a (by lia), List.take_add_one, List.getElem?_drop]
    simp [List.getElem?_eq_getElem hlt]
theorem sslice_nat {l : List Nat} {lo hi : Option Int} {a b : Nat} (h : Builtin.Str.strSliceIndices lo hi 1 l.length = (List.range (b - a)).map (fun k => a + k)) (hab : a ≤ b) (hb : b ≤ l.length) : sslice lo hi (ofL l) = ofL ((l.drop a).take (b - a)) := by
  have hl : (ofL l).length = l.length := by simp [ofL, Str.length]
  unfold sslice
  rw [hl, h]
  split
  · rename_i hh
    have : b - a = l.length := by simpa using hh
    have ha : a = 0 := by lia
    subst ha
    rw [this]; simp
  · have e : (fun k : Nat => (ofL l).cps[k]?) = (l[·]?) := by funext k; simp [ofL]
    show (⟨(List.filterMap (fun k => (ofL l).cps[k]?) _).toArray⟩ : Str) = _
    rw [e, picks_drop l (b - a) a (by lia)]
    rfl
theorem slc_lo {l : List Nat} {a : Nat} (h : a ≤ l.length) (hl : l.length ≤ 4096) : oSlc (some (a : Int)) none (.str (ofL l)) = some (.str (ofL (l.drop a))) := by
  have hh : (ofL l).length = l.length := by simp [ofL, Str.length]
  show (if (ofL l).length ≤ 4096 then _ else _) = _
  rw [if_pos (by lia), sslice_nat (a := a) (b := l.length) (by rw [StrLaws.sliceIdx_none_hi]; exact StrLaws.strSliceIndices_plain h (Nat.le_refl _)) h (Nat.le_refl _), List.take_of_length_le (by simp)]
theorem slc_hi {l : List Nat} {b : Nat} (h : b ≤ l.length) (hl : l.length ≤ 4096) : oSlc none (some (b : Int)) (.str (ofL l)) = some (.str (ofL (l.take b))) := by
  have hh : (ofL l).length = l.length := by simp [ofL, Str.length]
  show (if (ofL l).length ≤ 4096 then _ else _) = _
  rw [if_pos (by lia), sslice_nat (a := 0) (b := b) (by rw [StrLaws.sliceIdx_none_lo]; exact StrLaws.strSliceIndices_plain (a := 0) (Nat.zero_le _) h) (Nat.zero_le _) h]; rfl
theorem slc_neg {l : List Nat} {a : Nat} (h : a ≤ l.length) (h0 : 0 < a) (hl : l.length ≤ 4096) : oSlc (some (-(a : Int))) none (.str (ofL l)) = some (.str (ofL (l.drop (l.length - a)))) := by
  have hh : (ofL l).length = l.length := by simp [ofL, Str.length]
  show (if (ofL l).length ≤ 4096 then _ else _) = _
  rw [if_pos (by lia), sslice_nat (a := l.length - a) (b := l.length) (by
    rw [StrLaws.sliceIdx_none_hi, StrLaws.sliceIdx_neg_lo _ _ (by lia) (by lia), show -(a : Int) + (l.length : Int) = ((l.length - a : Nat) : Int) by lia]
    exact StrLaws.strSliceIndices_plain (by lia) (Nat.le_refl _)) (by lia) (Nat.le_refl _), List.take_of_length_le (by simp)]
theorem slc_mid {l : List Nat} {a b : Nat} (h : a + b ≤ l.length) (h0 : 0 < b) (hl : l.length ≤ 4096) : oSlc (some (a : Int)) (some (-(b : Int))) (.str (ofL l)) = some (.str (ofL ((l.drop a).take (l.length - b - a)))) := by
  have hh : (ofL l).length = l.length := by simp [ofL, Str.length]
  show (if (ofL l).length ≤ 4096 then _ else _) = _
  rw [if_pos (by lia), sslice_nat (a := a) (b := l.length - b) (by
    rw [StrLaws.sliceIdx_neg_hi _ _ (by lia) (by lia), show -(b : Int) + (l.length : Int) = ((l.length - b : Nat) : Int) by lia]
    exact StrLaws.strSliceIndices_plain (by lia) (by lia)) (by lia) (by lia)]
noncomputable def mt : List Nat → List Nat → Bool
  | c :: cs, r :: rs => (c == 63 || c == r) && mt cs rs
  | _, _ => true
noncomputable def fB : Cs := cSeq (cIf (cCmp eqv2 (cLoc 3) (cCall (gLen) (lCons (cLoc 2) (lNil)))) (cRet (cVal (.bool false))) (cSkip)) (cSeq (cIf (cAnd (cCmp eqv2 (cBin oGet (cLoc 2) (cLoc 3)) (cVal (.str (Str.ofString "\\")))) (cNot (cTr tr (cMeth isStr gAlnum (cBin oGet (cLoc 2) (cBin oAdd (cLoc 3) (cVal (.int 1)))) (lNil))))) (cSet 3 (cBin oAdd (cLoc 3) (cVal (.int 1)))) (cIf (cCmp eqv2 (cBin oGet (cLoc 2) (cLoc 3)) (cVal (.str (Str.ofString ".")))) (cSet 4 (cVal (.str (Str.ofString ".")))) (cSkip))) (cSeq (cIf (cCmp nev2 (cBin oGet (cLoc 2) (cLoc 3)) (cLoc 4)) (cRet (cVal (.bool false))) (cSkip)) (cSet 3 (cBin oAdd (cLoc 3) (cVal (.int 1))))))
theorem D_fits_eq : D_fits = cSeq (cIf (cOr (cCmp nev2 (cSlc (cLoc 0) (pNone) (pSome (cVal (.int 4)))) (cVal (.str (Str.ofString "(?s:")))) (cCmp nev2 (cSlc (cLoc 0) (pSome (cUn oNeg (cVal (.int 3)))) (pNone)) (cVal (.str (Str.ofString ")\\Z"))))) (cRet (cVal (.bool false))) (cSkip)) (cSeq (cSwap 2 3 (cTup (lCons (cSlc (cLoc 0) (pSome (cVal (.int 4))) (pSome (cUn oNeg (cVal (.int 3))))) (lCons (cVal (.int 0)) (lNil))))) (cSeq (cFor items (cLoc 1) (fun d st => st.put 4 d) fB (cSkip)) (cRet (cBin (fun σ a b => (eqv2 σ a b).map .bool) (cLoc 3) (cCall (gLen) (lCons (cLoc 2) (lNil))))))) := rfl
noncomputable abbrev fR (M R : PV) (T : List Nat) (q : Nat) (s : PV) : List (Option PV) := [some M, some R, some (.str (ofL T)), some (.int q), some s]
theorem alnum_minus : gAlnum [.str (ofL [45])] [] = some (.bool false, []) := by kernel_rfl
theorem ne_chL {σ : List Cell} {a b : Nat} (ha : a < 128) (hb : b < 128) : nev2 σ (.str (ofL [a])) (.str (ofL [b])) = some (!decide (a = b)) := by
  unfold nev2; rw [eq_chL ha hb]; rfl
theorem len_ofL {σ : List Cell} {T : List Nat} (h : T.length ≤ 4096) : gLen [.str (ofL T)] σ = some (.int (T.length : Nat), σ) := by
  show (if (ofL T).length ≤ 4096 then some (PV.int (ofL T).length, _) else none) = _
  rw [if_pos (by simpa [ofL, Str.length] using h)]; simp [ofL, Str.length]
theorem eqIN {σ : List Cell} (a b : Nat) : eqv2 σ (.int a) (.int b) = some (decide (a = b)) := by rw [eq_int, beqN]
theorem f_tail {M R : PV} {T : List Nat} {q a b : Nat} (hT : T[q]? = some a) (hl : T.length ≤ 4096) (ha : a < 128) (hb : b < 128) : cSeq (cIf (cCmp nev2 (cBin oGet (cLoc 2) (cLoc 3)) (cLoc 4)) (cRet (cVal (.bool false))) (cSkip)) (cSet 3 (cBin oAdd (cLoc 3) (cVal (.int 1)))) ⟨fR M R T q (.str (ofL [b])), []⟩ =
    if a = b then some (.next, ⟨fR M R T (q + 1) (.str (ofL [b])), []⟩) else some (.ret (.bool false), ⟨fR M R T q (.str (ofL [b])), []⟩) := by
  have t : TVal (cCmp nev2 (cBin oGet (cLoc 2) (cLoc 3)) (cLoc 4)) (fR M R T q (.str (ofL [b]))) [] (!decide (a = b)) := t_cmp (v_bin (v_loc rfl) (v_loc rfl) (idxN hT hl)) (v_loc rfl) (ne_chL ha hb)
  by_cases h : a = b
  · rw [if_pos h]
    rw [decide_eq_true h] at t
    exact r_seq (r_ifF t rfl) (r_set (v_bin (v_loc rfl) (v_val _) (addN q 1)) (by simp))
  · rw [if_neg h]
    rw [decide_eq_false h] at t
    exact r_seqR (r_ifT t (r_ret (v_val _)))
theorem f_turn {M R : PV} {A B : List Nat} {c r : Nat} (hc : goodC c) (hr : r < 128) (hl : (A ++ pieceL c ++ B).length ≤ 4096) : ∃ s' q', fB ⟨fR M R (A ++ pieceL c ++ B) A.length (.str (ofL [r])), []⟩ =
    if (c == 63 || c == r) = true then some (.next, ⟨fR M R (A ++ pieceL c ++ B) (A ++ pieceL c).length s', []⟩) else some (.ret (.bool false), ⟨fR M R (A ++ pieceL c ++ B) q' s', []⟩) := by
  generalize hT : A ++ pieceL c ++ B = T at *
  have hne : 0 < (pieceL c).length := by unfold pieceL; split <;> first | simp | (split <;> simp)
  have hTl : T.length = A.length + (pieceL c).length + B.length := by rw [← hT]; simp; lia
  have get0 : ∀ k, k < (pieceL c).length → T[A.length + k]? = (pieceL c)[k]? := fun k hk => by
    rw [← hT, List.append_assoc, List.getElem?_append_right (by lia), show A.length + k - A.length = k by lia, List.getElem?_append_left hk]
  have t0 : TVal (cCmp eqv2 (cLoc 3) (cCall (gLen) (lCons (cLoc 2) (lNil)))) (fR M R T A.length (.str (ofL [r]))) [] false := t_cmp (v_loc rfl) (v_call (vs_cons (v_loc rfl) vs_nil) (len_ofL hl)) (by rw [eqIN, decide_eq_false (by lia)])
  by_cases h45 : c = 45
  · have hp : pieceL c = [92, 45] := by rw [h45]; rfl
    have g0 : T[A.length]? = some 92 := by have := get0 0 (by rw [hp]; decide); rw [hp] at this; simpa using this
    have g1 : T[A.length + 1]? = some 45 := by have := get0 1 (by rw [hp]; decide); rw [hp] at this; simpa using this
    have t1 : TVal (cCmp eqv2 (cBin oGet (cLoc 2) (cLoc 3)) (cVal (.str (Str.ofString "\\")))) (fR M R T A.length (.str (ofL [r]))) [] true := t_cmp (v_bin (v_loc rfl) (v_loc rfl) (idxN g0 hl)) (v_val _) (by rw [show Str.ofString "\\" = ofL [92] from rfl, eq_chL (by decide) (by decide), decide_eq_true rfl])
    have t2 : TVal (cNot (cTr tr (cMeth isStr gAlnum (cBin oGet (cLoc 2) (cBin oAdd (cLoc 3) (cVal (.int 1)))) (lNil)))) (fR M R T A.length (.str (ofL [r]))) [] true := t_not (b := false) (t_tr (a := .bool false) (v_meth (o := .str (ofL [45])) (v_bin (v_loc rfl) (v_bin (v_loc rfl) (v_val _) (addN A.length 1)) (idxN g1 hl)) rfl vs_nil alnum_minus) rfl)
    have tail := f_tail (M := M) (R := R) (b := r) g1 hl (by decide) hr
    refine ⟨.str (ofL [r]), A.length + 1, ?_⟩
    refine (r_seq (r_ifF t0 rfl) (r_seq (r_ifT (t_and_t t1 t2) (r_set (v_bin (v_loc rfl) (v_val _) (addN A.length 1)) (by simp))) tail)).trans ?_
    have e : (A ++ pieceL c).length = A.length + 1 + 1 := by rw [hp]; simp
    rw [e, h45]
    by_cases h : (45 : Nat) = r
    · rw [if_pos h, if_pos (by simp [h])]
    · rw [if_neg h, if_neg (by simp [h])]
  · by_cases h63 : c = 63
    · have hp : pieceL c = [46] := by rw [h63]; rfl
      have g0 : T[A.length]? = some 46 := by have := get0 0 (by rw [hp]; decide); rw [hp] at this; simpa using this
      have t1 : TVal (cCmp eqv2 (cBin oGet (cLoc 2) (cLoc 3)) (cVal (.str (Str.ofString "\\")))) (fR M R T A.length (.str (ofL [r]))) [] false := t_cmp (v_bin (v_loc rfl) (v_loc rfl) (idxN g0 hl)) (v_val _) (by rw [show Str.ofString "\\" = ofL [92] from rfl, eq_chL (by decide) (by decide), decide_eq_false (by decide)])
      have t2 : TVal (cCmp eqv2 (cBin oGet (cLoc 2) (cLoc 3)) (cVal (.str (Str.ofString ".")))) (fR M R T A.length (.str (ofL [r]))) [] true := t_cmp (v_bin (v_loc rfl) (v_loc rfl) (idxN g0 hl)) (v_val _) (by rw [show Str.ofString "." = ofL [46] from rfl, eq_chL (by decide) (by decide), decide_eq_true rfl])
      have tail := f_tail (M := M) (R := R) (b := 46) g0 hl (by decide) (by decide)
      refine ⟨.str (ofL [46]), 0, ?_⟩
      refine (r_seq (r_ifF t0 rfl) (r_seq (r_ifF (t_and_f t1) (r_ifT t2 (r_set (v_val (.str (ofL [46]))) (by simp)))) tail)).trans ?_
      have e : (A ++ pieceL c).length = A.length + 1 := by rw [hp]; simp
      rw [e, h63, if_pos rfl, if_pos (by rfl)]
    · have hp : pieceL c = [c] := by unfold pieceL; rw [if_neg h63, if_neg h45]
      have hlt := goodC_lt hc
      have g0 : T[A.length]? = some c := by have := get0 0 (by rw [hp]; simp); rw [hp] at this; simpa using this
      have t1 : TVal (cCmp eqv2 (cBin oGet (cLoc 2) (cLoc 3)) (cVal (.str (Str.ofString "\\")))) (fR M R T A.length (.str (ofL [r]))) [] false := t_cmp (v_bin (v_loc rfl) (v_loc rfl) (idxN g0 hl)) (v_val _) (by rw [show Str.ofString "\\" = ofL [92] from rfl, eq_chL hlt (by decide), decide_eq_false (by rcases hc with h | h | h | h | h <;> lia)])
      have t2 : TVal (cCmp eqv2 (cBin oGet (cLoc 2) (cLoc 3)) (cVal (.str (Str.ofString ".")))) (fR M R T A.length (.str (ofL [r]))) [] false := t_cmp (v_bin (v_loc rfl) (v_loc rfl) (idxN g0 hl)) (v_val _) (by rw [show Str.ofString "." = ofL [46] from rfl, eq_chL hlt (by decide), decide_eq_false (by rcases hc with h | h | h | h | h <;> lia)])
      have tail := f_tail (M := M) (R := R) (b := r) g0 hl hlt hr
      refine ⟨.str (ofL [r]), A.length, ?_⟩
      refine (r_seq (r_ifF t0 rfl) (r_seq (r_ifF (t_and_f t1) (r_ifF t2 rfl)) tail)).trans ?_
      have e : (A ++ pieceL c).length = A.length + 1 := by rw [hp]; simp
      rw [e]
      by_cases h : c = r
      · rw [if_pos h, if_pos (by simp [h])]
      · rw [if_neg h, if_neg (by simp [h, h63])]
theorem for_ret {asg : Asg} {body : Cs} {d v : PV} {ds : List PV} {st s1 s2 : St} (h1 : asg d st = some s1) (h2 : body s1 = some (.ret v, s2)) : forGo asg body (d :: ds) st = some (some (.ret v), s2) := by
  show Option.bind (asg d st) _ = _
  rw [h1]; show Option.bind (body s1) _ = _; rw [h2]; rfl
theorem f_loop {M R : PV} : ∀ (cs rs A : List Nat) (s : Option PV) (T : List Nat), cs.length = rs.length → (∀ c ∈ cs, goodC c) → (∀ r ∈ rs, r < 128) → T = A ++ txtL cs → T.length ≤ 4096 → ∃ (s' : Option PV) (st' : St),
    forGo (fun d st => st.put 4 d) fB (rs.map fun ch => .str ⟨#[ch]⟩) ⟨[some M, some R, some (.str (ofL T)), some (.int A.length), s], []⟩ =
    if mt cs rs = true then some (none, ⟨[some M, some R, some (.str (ofL T)), some (.int T.length), s'], []⟩) else some (some (.ret (.bool false)), st')
  | [], [], A, s, T, _, _, _, hT, _ => by
    have : T = A := by rw [hT]; simp [txtL]
    subst this
    exact ⟨s, ⟨[], []⟩, rfl⟩
  | [], _ :: _, _, _, _, h, _, _, _, _ => by simp at h
  | _ :: _, [], _, _, _, h, _, _, _, _ => by simp at h
  | c :: cs, r :: rs, A, s, T, h, hc, hr, hT, hl => by
    have hT' : T = A ++ pieceL c ++ txtL cs := by rw [hT]; simp [txtL]
    obtain ⟨s1, q1, e1⟩ := f_turn (M := M) (R := R) (A := A) (B := txtL cs) (hc c (.head _)) (hr r (.head _)) (by rw [← hT']; exact hl)
    rw [← hT'] at e1
    by_cases hm : (c == 63 || c == r) = true
    · rw [if_pos hm] at e1
      obtain ⟨s2, st2, e2⟩ := f_loop (M := M) (R := R) cs rs (A ++ pieceL c) (some s1) T (by simpa using h) (fun c m => hc c (.tail _ m)) (fun r m => hr r (.tail _ m)) hT' hl
      refine ⟨s2, st2, ?_⟩
      have : mt (c :: cs) (r :: rs) = mt cs rs := by simp [mt, hm]
      rw [this]
      exact for_cons rfl e1 e2
    · rw [if_neg hm] at e1
      refine ⟨none, ⟨fR M R T q1 s1, []⟩, ?_⟩
      have : mt (c :: cs) (r :: rs) = false := by simp [mt]; intro z; exact absurd (by simpa using z) hm
      rw [this]
      exact for_ret rfl e1
theorem fits_fresh {cs rs : List Nat} (hlen : cs.length = rs.length) (hl : cs.length ≤ 100) (hc : ∀ c ∈ cs, goodC c) (hr : ∀ r ∈ rs, r < 128) {σ : List Cell} (hσ : σ.all (fun cl => !cl.isLock) = true) :
    gFresh F_fits [.str (ofL (madeL cs)), .str (ofL rs)] σ = some (.bool (mt cs rs), σ) := by
  have htl := txt_len cs
  have hml : (madeL cs).length = 7 + (txtL cs).length := by simp [madeL]; lia
  obtain ⟨s', st', e⟩ := f_loop (M := .str (ofL (madeL cs))) (R := .str (ofL rs)) cs rs [] none (txtL cs) hlen hc hr rfl (by lia)
  have pre : (madeL cs).take 4 = [40, 63, 115, 58] := by simp [madeL]
  have post : (madeL cs).drop ((madeL cs).length - 3) = [41, 92, 90] := by
    rw [hml, show 7 + (txtL cs).length - 3 = ([40, 63, 115, 58] ++ txtL cs).length by simp; lia]
    unfold madeL; rw [List.drop_left]
  have mid : ((madeL cs).drop 4).take ((madeL cs).length - 3 - 4) = txtL cs := by
    rw [hml, show 7 + (txtL cs).length - 3 - 4 = (txtL cs).length by lia]
    simp [madeL]
  have neg3 : ∀ ρ σ, Val (cUn oNeg (cVal (.int 3))) ρ σ (.int (-((3 : Nat) : Int))) := fun ρ σ => v_un (v_val _) rfl
  have it : items [] (.str (ofL rs)) = some (rs.map fun ch => .str ⟨#[ch]⟩) := rfl
  have run : ∃ σ1, F_fits [.str (ofL (madeL cs)), .str (ofL rs)] [] = some (.bool (mt cs rs), σ1) := by
    have c1 : TVal (cOr (cCmp nev2 (cSlc (cLoc 0) (pNone) (pSome (cVal (.int 4)))) (cVal (.str (Str.ofString "(?s:")))) (cCmp nev2 (cSlc (cLoc 0) (pSome (cUn oNeg (cVal (.int 3)))) (pNone)) (cVal (.str (Str.ofString ")\\Z"))))) [some (.str (ofL (madeL cs))), some (.str (ofL rs)), none, none, none] [] false := by
      refine t_or_f (t_cmp (v_slc (v_loc rfl) p_none (p_some (v_val (.int ((4 : Nat) : Int)))) (slc_hi (b := 4) (by lia) (by lia))) (v_val _) ?_) (t_cmp (v_slc (v_loc rfl) (p_some (neg3 _ _)) p_none (slc_neg (a := 3) (by lia) (by decide) (by lia))) (v_val _) ?_)
      · rw [pre, show Str.ofString "(?s:" = ofL [40, 63, 115, 58] from rfl, ne_str (okL (by decide)) (okL (by decide)), ofL_beq]; rfl
      · rw [post, show Str.ofString ")\\Z" = ofL [41, 92, 90] from rfl, ne_str (okL (by decide)) (okL (by decide)), ofL_beq]; rfl
    have c2 : Val (cTup (lCons (cSlc (cLoc 0) (pSome (cVal (.int 4))) (pSome (cUn oNeg (cVal (.int 3))))) (lCons (cVal (.int 0)) (lNil)))) [some (.str (ofL (madeL cs))), some (.str (ofL rs)), none, none, none] [] (.tup [.str (ofL (txtL cs)), .int 0]) :=
      v_tup (vs_cons (by have := slc_mid (l := madeL cs) (a := 4) (b := 3) (by lia) (by decide) (by lia); rw [mid] at this; exact v_slc (v_loc rfl) (p_some (v_val (.int ((4 : Nat) : Int)))) (p_some (neg3 _ _)) this) (vs_cons (v_val _) vs_nil)) (by simp)
    by_cases hm : mt cs rs = true
    · rw [if_pos hm] at e
      refine ⟨[], fn_run (st := ⟨[some (.str (ofL (madeL cs))), some (.str (ofL rs)), some (.str (ofL (txtL cs))), some (.int (txtL cs).length), s'], []⟩) rfl ?_⟩
      rw [D_fits_eq]
      refine r_seq (r_ifF c1 rfl) (r_seq (r_swap c2 (by simp) (by simp)) (r_seq (r_for (v_loc rfl) rfl it e rfl) (r_ret ?_)))
      rw [hm]
      exact v_bin (v_loc rfl) (v_call (vs_cons (v_loc rfl) vs_nil) (len_ofL (by lia))) (by rw [eqIN, decide_eq_true rfl]; rfl)
    · rw [if_neg hm] at e
      refine ⟨st'.σ, fn_run (st := st') rfl ?_⟩
      rw [D_fits_eq]
      have hm' : mt cs rs = false := by simpa using hm
      rw [hm']
      exact r_seq (r_ifF c1 rfl) (r_seq (r_swap c2 (by simp) (by simp)) (r_seqR (r_forR (v_loc rfl) rfl it e)))
  obtain ⟨σ1, h⟩ := run
  exact fresh_run rfl hσ h rfl
end Mine
end
section
set_option tactic.hygienic false
open PySem PySem.W PyProof.Rows
set_option maxRecDepth 100000
namespace Mine
noncomputable def rowB : Nat → List Bool → List Nat
  | _, [] => []
  | k, b :: r => (if b then letterC k else 45) :: rowB (k + 1) r
noncomputable def allB : Nat → List (List Bool)
  | 0 => [[]]
  | n + 1 => (allB n).map (true :: ·) ++ (allB n).map (false :: ·)
theorem mem_allB : ∀ (b : List Bool), b ∈ allB b.length
  | [] => .head _
  | true :: r => List.mem_append_left _ (List.mem_map_of_mem (mem_allB r))
  | false :: r => List.mem_append_right _ (List.mem_map_of_mem (mem_allB r))
theorem rowL_all : ∀ b ∈ allB 9, rowL (32768 + numL b) = 45 :: rowB 0 b := by decide +kernel
theorem rowL_num {b : List Bool} (h : b.length = 9) : rowL (32768 + numL b) = 45 :: rowB 0 b := rowL_all b (h ▸ mem_allB b)
theorem letter_ne (k : Nat) : 45 < letterC k := by unfold letterC; split <;> first | decide | (split <;> decide)
theorem rowB_len : ∀ (b : List Bool) (k : Nat), (rowB k b).length = b.length
  | [], _ => rfl
  | _ :: r, k => by simp [rowB, rowB_len r]
theorem rowB_get : ∀ (b : List Bool) (k i : Nat), (rowB k b)[i]? = (b[i]?).map fun x => if x then letterC (k + i) else 45
  | [], _, _ => by simp [rowB]
  | x :: r, k, 0 => by simp [rowB]
  | x :: r, k, i + 1 => by simp only [rowB, List.getElem?_cons_succ]; rw [rowB_get r (k + 1) i, show k + 1 + i = k + (i + 1) by lia]
theorem rowB_clear : ∀ (b : List Bool) (k i : Nat), (rowB k b).set i 45 = rowB k (b.set i false)
  | [], _, _ => by simp [rowB]
  | x :: r, k, 0 => by simp [rowB]
  | x :: r, k, i + 1 => by simp [rowB, rowB_clear r (k + 1) i]
theorem rowB_inj : ∀ (a b : List Bool) (k : Nat), rowB k a = rowB k b → a = b
  | [], [], _, _ => rfl
  | [], _ :: _, _, h => by simp [rowB] at h
  | _ :: _, [], _, h => by simp [rowB] at h
  | x :: a, y :: b, k, h => by
    simp only [rowB, List.cons.injEq] at h
    have hl := letter_ne k
    have hxy : x = y := by
      cases x <;> cases y <;> simp at h <;> first | rfl | lia
    rw [hxy, rowB_inj a b (k + 1) h.2]
noncomputable def nQ (p : Pat) : Nat := p.countP (·.isNone)
theorem bits_len (p : Pat) : (bitsL p).length = nQ p := wL_len _ p
noncomputable def jOf (p : Pat) (i : Nat) : Nat := (p.take i).countP (·.isNone)
theorem fill_get : ∀ (p : Pat) (n i : Nat), (fill p n)[i]? = (p[i]?).map fun v => match v with | some b => b | none => n / 2 ^ jOf p i % 2 == 1
  | [], _, _ => by simp [fill]
  | none :: r, n, 0 => by simp [fill, jOf]
  | some b :: r, n, 0 => by simp [fill]
  | none :: r, n, i + 1 => by
    simp only [fill, List.getElem?_cons_succ]
    rw [fill_get r (n / 2) i]
    have : ∀ j : Nat, n / 2 ^ (j + 1) = n / 2 / 2 ^ j := fun j => by rw [Nat.pow_succ, Nat.mul_comm, ← Nat.div_div_eq_div_mul]
    simp [jOf, this]
  | some b :: r, n, i + 1 => by
    simp only [fill, List.getElem?_cons_succ]
    rw [fill_get r n i]
    simp [jOf]
theorem two_le_bit {n j : Nat} (h : n / 2 ^ j % 2 = 1) : 2 ^ j ≤ n := by
  rcases Nat.lt_or_ge n (2 ^ j) with hl | hl
  · rw [Nat.div_eq_of_lt hl] at h; simp at h
  · exact hl
theorem fill_clear : ∀ (p : Pat) (n i : Nat), p[i]? = some none → n / 2 ^ jOf p i % 2 = 1 → (fill p n).set i false = fill p (n - 2 ^ jOf p i)
  | [], _, _, h, _ => by simp at h
  | none :: r, n, 0, _, h => by
    simp [jOf] at h
    have h1 : (n - 1) % 2 = 0 := by lia
    have h2 : (n - 1) / 2 = n / 2 := by lia
    simp [fill, jOf, h1, h2]
  | some b :: r, n, 0, h, _ => by simp at h
  | none :: r, n, i + 1, h, hb => by
    have hj : jOf (none :: r) (i + 1) = jOf r i + 1 := by simp [jOf]
    rw [hj] at hb ⊢
    have hd : n / 2 ^ (jOf r i + 1) = n / 2 / 2 ^ jOf r i := by rw [Nat.pow_succ, Nat.mul_comm, ← Nat.div_div_eq_div_mul]
    rw [hd] at hb
    have le := two_le_bit hb
    have ih := fill_clear r (n / 2) i (by simpa using h) hb
    have hp : 2 ^ (jOf r i + 1) = 2 * 2 ^ jOf r i := by rw [Nat.pow_succ, Nat.mul_comm]
    have h1 : (n - 2 ^ (jOf r i + 1)) % 2 = n % 2 := by rw [hp]; omega
    have h2 : (n - 2 ^ (jOf r i + 1)) / 2 = n / 2 - 2 ^ jOf r i := by rw [hp]; lia
    simp only [fill, List.set_cons_succ, ih, h1, h2]
  | some b :: r, n, i + 1, h, hb => by
    have hj : jOf (some b :: r) (i + 1) = jOf r i := by simp [jOf]
    rw [hj] at hb ⊢
    simp only [fill, List.set_cons_succ, fill_clear r n i (by simpa using h) hb]
theorem fill_inj : ∀ (p : Pat) (i j : Nat), i < 2 ^ nQ p → j < 2 ^ nQ p → fill p i = fill p j → i = j
  | [], i, j, hi, hj, _ => by simp [nQ] at hi hj; lia
  | none :: r, i, j, hi, hj, h => by
    simp only [fill, List.cons.injEq] at h
    have e : nQ (none :: r) = nQ r + 1 := by simp [nQ]
    rw [e, Nat.pow_succ] at hi hj
    have := fill_inj r (i / 2) (j / 2) (by lia) (by lia) h.2
    have h1 : (i % 2 = 1) ↔ (j % 2 = 1) := by
      have := h.1
      by_cases x : i % 2 = 1 <;> by_cases y : j % 2 = 1 <;> simp [x, y] at this ⊢
    lia
  | some b :: r, i, j, hi, hj, h => by
    simp only [fill, List.cons.injEq] at h
    have e : nQ (some b :: r) = nQ r := by simp [nQ]
    rw [e] at hi hj
    exact fill_inj r i j hi hj h.2
noncomputable def rowsP (p : Pat) (n : Nat) : Str := ofL (rowL (freeN p n))
theorem rows_is {p : Pat} (hp : p.length = 9) (n : Nat) : rowsP p n = ofL (45 :: rowB 0 (fill p n)) := by
  unfold rowsP freeN
  rw [rowL_num (by rw [fill_len, hp])]
theorem ofL_inj {a b : List Nat} (h : ofL a = ofL b) : a = b := by simpa [ofL] using h
theorem rows_inj {p : Pat} (hp : p.length = 9) (i j : Nat) (hi : i < 2 ^ nQ p) (hj : j < 2 ^ nQ p) (h : rowsP p i = rowsP p j) : i = j := by
  rw [rows_is hp, rows_is hp] at h
  have := ofL_inj h
  simp only [List.cons.injEq, true_and] at this
  exact fill_inj p i j hi hj (rowB_inj _ _ _ this)
theorem row_lt : ∀ (p : Pat) (k i j : Nat), decide (rowB k (fill p i) < rowB k (fill p j)) = ltN (nQ p) i j
  | [], k, i, j => by simp [fill, rowB, nQ, ltN]
  | none :: r, k, i, j => by
    have ih := row_lt r (k + 1) (i / 2) (j / 2)
    have e : nQ (none :: r) = nQ r + 1 := by simp [nQ]
    have hl := letter_ne k
    have hi : i % 2 = 0 ∨ i % 2 = 1 := by lia
    have hj : j % 2 = 0 ∨ j % 2 = 1 := by lia
    rw [e]
    unfold ltN
    rw [← ih]
    rcases hi with hi | hi <;> rcases hj with hj | hj <;> simp [fill, rowB, hi, hj, List.cons_lt_cons_iff] <;> lia
  | some b :: r, k, i, j => by
    have ih := row_lt r (k + 1) i j
    have e : nQ (some b :: r) = nQ r := by simp [nQ]
    rw [e, ← ih]
    simp [fill, rowB, List.cons_lt_cons_iff]
theorem rows_ord {p : Pat} (hp : p.length = 9) (i j : Nat) : ltS (rowsP p i) (rowsP p j) = ltN (nQ p) i j := by
  rw [rows_is hp, rows_is hp, ← row_lt p 0 i j]
  unfold ltS ofL
  exact decide_eq_decide.mpr (by simp [List.cons_lt_cons_iff])
noncomputable def decP (p : Pat) (s : Str) : Option Nat := (List.range (2 ^ nQ p)).find? fun n => rowsP p n == s
theorem dec_ok {p : Pat} (s : Str) (n : Nat) (h : decP p s = some n) : n < 2 ^ nQ p ∧ rowsP p n = s :=
  ⟨List.mem_range.mp (List.mem_of_find?_eq_some h), beqS.mp (by have := List.find?_some h; simpa using this)⟩
theorem dec_rows {p : Pat} (hp : p.length = 9) {n : Nat} (hn : n < 2 ^ nQ p) : decP p (rowsP p n) = some n := by
  cases h : decP p (rowsP p n) with
  | some k =>
    obtain ⟨hk, e⟩ := dec_ok _ _ h
    rw [rows_inj hp k n hk hn e]
  | none =>
    have := List.find?_eq_none.mp h n (List.mem_range.mpr hn)
    simp at this
theorem filter_map {α β : Type} (q : α → Bool) (g : α → β) : ∀ l : List α, (l.filter q).map g = l.filterMap fun x => if q x = true then some (g x) else none
  | [] => rfl
  | x :: r => by
    have ih := filter_map q g r
    rw [List.filter_cons, List.filterMap_cons]
    by_cases h : q x = true
    · rw [if_pos h, if_pos h, List.map_cons, ih]
    · rw [if_neg h, if_neg h, ih]
theorem range_none {β : Type} : ∀ (p : Pat) (g : Nat → Option β), (List.range p.length).filterMap (fun i => if p[i]? = some none then g (jOf p i) else none) = (List.range (nQ p)).filterMap g
  | [], _ => by simp [nQ]
  | none :: r, g => by
    have ih := range_none r fun j => g (j + 1)
    have e : nQ (none :: r) = nQ r + 1 := by simp [nQ]
    rw [List.length_cons, e, List.range_succ_eq_map, List.range_succ_eq_map, List.filterMap_cons, List.filterMap_cons, List.filterMap_map, List.filterMap_map]
    have e1 : ((fun i => if (none :: r)[i]? = some none then g (jOf (none :: r) i) else none) ∘ Nat.succ) = fun i => if r[i]? = some none then g (jOf r i + 1) else none := by
      funext i
      simp [jOf]
    rw [e1, ih]
    simp [jOf]
    rfl
  | some b :: r, g => by
    have ih := range_none r g
    have e : nQ (some b :: r) = nQ r := by simp [nQ]
    rw [List.length_cons, e, List.range_succ_eq_map, List.filterMap_cons, List.filterMap_map]
    have e1 : ((fun i => if (some b :: r)[i]? = some none then g (jOf (some b :: r) i) else none) ∘ Nat.succ) = fun i => if r[i]? = some none then g (jOf r i) else none := by
      funext i
      simp [jOf]
    rw [e1, ih]
    simp
end Mine
end
section
set_option tactic.hygienic false
open PySem PySem.W PyProof.Rows
set_option maxRecDepth 100000
namespace Mine
theorem join_get {ρ : List (Option PV)} {i : Nat} {d : PV} (h : (ρ[i]?).join = some d) : ρ[i]? = some (some d) := by
  cases hz : ρ[i]? with
  | none => rw [hz] at h; exact noS h
  | some x => rw [hz] at h; show some x = _; rw [show x = some d from h]
theorem v_enc {rows : Nat → Str} {f : Co} {ρ : List (Option PV)} {σ : List Cell} {d : PV} (h : Val f ρ σ d) : Val (cEnc rows f) ρ σ (enc rows d) := by show Option.map _ (f ⟨ρ, σ⟩) = _; rw [h]; rfl
theorem v_dec {dec : Str → Option Nat} {f : Co} {ρ : List (Option PV)} {σ : List Cell} {d d' : PV} (h : Val f ρ σ d) (h2 : dec1 dec d = some d') : Val (cDec dec f) ρ σ d' := by
  show Option.bind (f ⟨ρ, σ⟩) _ = _; rw [h]; show Option.map _ (dec1 dec d) = _; rw [h2]; rfl
theorem enc_node (rows : Nat → Str) (n : Nat) : enc rows (.node n) = .str (rows n) := by unfold enc; rfl
theorem enc_lst (rows : Nat → Str) (xs : List PV) : enc rows (.lst xs) = .lst (encs rows xs) := by conv => lhs; unfold enc
set_option tactic.hygienic true in
theorem encs_nodes (rows : Nat → Str) : ∀ (xs : List PV) (l : List Nat), nodesOf xs = some l → strsOf (encs rows xs) = some (l.map rows)
  | [], l, h => by obtain rfl := soJ h; unfold encs; rfl
  | x :: r, l, h => by
    cases x <;> first | (exact noS h; done) | skip
    rename_i n
    unfold nodesOf at h
    obtain ⟨l', e, rfl⟩ := map_some h
    unfold encs
    rw [enc_node]
    show Option.map _ (strsOf (encs rows r)) = _
    rw [encs_nodes rows r l' e]; rfl
theorem decL_map {α : Type} {dec : Str → Option Nat} {s : α → Str} {g : α → Nat} : ∀ l : List α, (∀ i ∈ l, dec (s i) = some (g i)) → decL dec (l.map fun i => .str (s i)) = some (l.map fun i => .node (g i))
  | [], _ => rfl
  | x :: r, h => by
    have ih := decL_map (dec := dec) (s := s) (g := g) r fun i m => h i (.tail _ m)
    show Option.bind (dec (s x)) _ = _
    rw [h x (.head _)]
    show Option.map _ (decL dec (r.map fun i => .str (s i))) = _
    rw [ih]; rfl
theorem fmap_congr {α β : Type} {f g : α → Option β} : ∀ l : List α, (∀ x ∈ l, f x = g x) → l.filterMap f = l.filterMap g
  | [], _ => rfl
  | x :: r, h => by rw [List.filterMap_cons, List.filterMap_cons, h x (.head _), fmap_congr r fun y m => h y (.tail _ m)]
theorem items_one {σ : List Cell} : items σ (.rng 1 10) = some ((List.range 9).map fun i : Nat => PV.int (1 + (i : Int))) := by
  show (if (-1000000 : Int) ≤ 1 ∧ (1 : Int) ≤ 1000000 ∧ (-1000000 : Int) ≤ 10 ∧ (10 : Int) ≤ 1000000 then some ((List.range (10 - 1 : Int).toNat).map fun i : Nat => PV.int (1 + (i : Int))) else none) = _
  rw [if_pos (by decide)]
  rfl
section
variable {p : Pat} (hp : p.length = 9)
include hp
noncomputable def rowR (p : Pat) (n : Nat) : List Nat := 45 :: rowB 0 (fill p n)
theorem rowR_len (n : Nat) : (rowR p n).length = 10 := by simp [rowR, rowB_len, fill_len, hp]
theorem rowR_get (n i : Nat) (hi : i < 9) : ∃ b, (fill p n)[i]? = some b ∧ (rowR p n)[i + 1]? = some (if b then letterC i else 45) := by
  have hl : i < (fill p n).length := by rw [fill_len, hp]; exact hi
  refine ⟨(fill p n)[i], List.getElem?_eq_getElem hl, ?_⟩
  unfold rowR
  rw [List.getElem?_cons_succ, rowB_get, List.getElem?_eq_getElem hl]
  simp
theorem rowR_set (n i : Nat) : (rowR p n).set (i + 1) 45 = 45 :: rowB 0 ((fill p n).set i false) := by
  unfold rowR
  rw [List.set_cons_succ, rowB_clear]
theorem less_open {n i : Nat} (h : p[i]? = some none) (hb : n / 2 ^ jOf p i % 2 = 1) : ofL ((rowR p n).set (i + 1) 45) = rowsP p (n - 2 ^ jOf p i) := by
  rw [rowR_set hp, fill_clear p n i h hb, ← rows_is hp]
theorem less_shut {n i k : Nat} (hi : i < 9) (h : p[i]? = some (some true)) : ofL ((rowR p n).set (i + 1) 45) ≠ rowsP p k := by
  intro z
  rw [rowR_set hp, rows_is hp] at z
  have := ofL_inj z
  simp only [List.cons.injEq, true_and] at this
  have := rowB_inj _ _ _ this
  have hk := fill_get p k i
  rw [h] at hk
  rw [← this, List.getElem?_set_self (by rw [fill_len, hp]; exact hi)] at hk
  simp at hk
noncomputable def q1 (p : Pat) (n i : Nat) : Bool := !decide (((rowR p n)[i + 1]?).getD 0 = 45)
noncomputable def q2 (p : Pat) (l : List Nat) (n i : Nat) : Bool := (l.map (rowsP p)).any (· == ofL ((rowR p n).set (i + 1) 45))
theorem q_open {n i : Nat} {l : List Nat} (hi : i < 9) (hn : n < 2 ^ nQ p) (hl : ∀ k, k < 2 ^ nQ p → k ∈ l) : (q1 p n i && q2 p l n i) = (if p[i]? = some none then decide (n / 2 ^ jOf p i % 2 = 1) else false) := by
  obtain ⟨b, hb, hg⟩ := rowR_get hp n i hi
  have hf := fill_get p n i
  rw [hb] at hf
  have hne := letter_ne i
  have e1 : q1 p n i = b := by
    unfold q1; rw [hg]
    cases b <;> simp; lia
  have hpi : i < p.length := by lia
  rw [List.getElem?_eq_getElem hpi] at hf ⊢
  rw [e1]
  cases hv : p[i] with
  | none =>
    rw [hv] at hf
    rw [if_pos rfl]
    simp at hf
    rw [hf]
    by_cases hbit : n / 2 ^ jOf p i % 2 = 1
    · have : q2 p l n i = true := by
        unfold q2
        refine List.any_eq_true.mpr ⟨rowsP p (n - 2 ^ jOf p i), List.mem_map_of_mem (hl _ (Nat.lt_of_le_of_lt (Nat.sub_le _ _) hn)), ?_⟩
        rw [less_open hp (by rw [List.getElem?_eq_getElem hpi, hv]) hbit]; simp
      rw [this]; simp [hbit]
    · simp [hbit]
  | some x =>
    rw [hv] at hf
    simp at hf
    rw [if_neg (by simp), hf]
    cases x with
    | false => rfl
    | true =>
      have : q2 p l n i = false := by
        unfold q2
        rw [List.any_eq_false]
        intro s ms hs
        obtain ⟨k, _, rfl⟩ := List.mem_map.mp ms
        exact less_shut hp hi (by rw [List.getElem?_eq_getElem hpi, hv]) (beqS.mp hs).symm
      rw [this]; rfl
theorem preds_is {n : Nat} {l : List Nat} (hn : n < 2 ^ nQ p) (hl : ∀ k, k < 2 ^ nQ p → k ∈ l) :
    (((List.range 9).filter (q1 p n)).filter (q2 p l n)).map (fun i => n - 2 ^ jOf p i) = prN (nQ p) n := by
  rw [List.filter_filter, filter_map, prN, filter_map]
  rw [← range_none p fun j => if decide (n / 2 ^ j % 2 = 1) = true then some (n - 2 ^ j) else none, hp]
  refine fmap_congr _ fun i m => ?_
  have hi : i < 9 := List.mem_range.mp m
  have := q_open hp hi hn hl
  rw [Bool.and_comm] at this
  rw [this]
  by_cases h : p[i]? = some none
  · rw [if_pos h, if_pos h]
  · rw [if_neg h, if_neg h]; rfl
end
theorem rowC_lt (n i : Nat) {p : Pat} (hp : p.length = 9) (hi : i < 9) : ∃ c, (rowR p n)[i + 1]? = some c ∧ c < 128 := by
  obtain ⟨b, _, h⟩ := rowR_get hp n i hi
  refine ⟨_, h, ?_⟩
  unfold letterC
  split <;> first | decide | skip
  split <;> first | decide | (split <;> decide)
set_option tactic.hygienic true in
theorem hw_ok {p : Pat} (hp : p.length = 9) : ∀ st r, cBody (2 ^ nQ p) (prN (nQ p)) st = some r → cForget 4 (D_rbody (rowsP p) (decP p)) st = some r := by
  rintro ⟨ρ, σ⟩ r e
  unfold cBody at e
  dsimp only at e
  split at e
  case isFalse => exact noS e
  rename_i hl6
  obtain ⟨rw0, e0, e⟩ := bind_some e
  cases rw0 <;> first | (exact noS e; done) | skip
  rename_i xs
  obtain ⟨l, e1, e⟩ := bind_some e
  split at e
  case isFalse => exact noS e
  rename_i hall
  obtain ⟨d, e3, e⟩ := bind_some e
  cases d <;> first | (exact noS e; done) | skip
  rename_i n
  dsimp only at e
  split at e
  case isFalse => exact noS e
  rename_i hn
  obtain ⟨so, e4, e⟩ := bind_some e
  split at e
  case isFalse => exact noS e
  rename_i hin
  obtain ⟨⟨d', σ'⟩, e5, e⟩ := map_some e
  subst e
  have l0 := join_get e0
  have l3 := join_get e3
  have l1 := join_get e4
  have hmem : ∀ k, k < 2 ^ nQ p → k ∈ l := fun k hk => by simpa using List.all_eq_true.mp hall k (List.mem_range.mpr hk)
  have hR : rowsP p n = ofL (rowR p n) := rows_is hp n
  have hRl := rowR_len hp n
  have at6 : ∀ x : PV, (ρ ++ [some x])[6]? = some (some x) := fun x => by rw [List.getElem?_append_right (by lia), hl6]; rfl
  have row3 : ∀ x : PV, Val (cEnc (rowsP p) (cLoc 3)) (ρ ++ [some x]) σ (.str (ofL (rowR p n))) := fun x => by
    have := v_enc (rows := rowsP p) (v_loc (σ := σ) (show (ρ ++ [some x])[3]? = some (some (.node n)) by rw [List.getElem?_append_left (by lia)]; exact l3))
    rwa [enc_node, hR] at this
  have k6 : ∀ i : Nat, Val (cLoc 6) (ρ ++ [some (PV.int (1 + (i : Int)))]) σ (.int ((i + 1 : Nat) : Int)) := fun i => by
    have := v_loc (σ := σ) (at6 (PV.int (1 + (i : Int))))
    rwa [show (1 : Int) + (i : Int) = ((i + 1 : Nat) : Int) by lia] at this ⊢
  have S1 : Val (cComp items (cCall (gRange) (lCons (cVal (.int 1)) (lCons (cVal (.int 10)) (lNil)))) (cCmp nev2 (cBin oGet (cEnc (rowsP p) (cLoc 3)) (cLoc 6)) (cVal (.str (Str.ofString "-")))) (cBin oAdd (cBin oAdd (cSlc (cEnc (rowsP p) (cLoc 3)) (pNone) (pSome (cLoc 6))) (cVal (.str (Str.ofString "-")))) (cSlc (cEnc (rowsP p) (cLoc 3)) (pSome (cBin oAdd (cLoc 6) (cVal (.int 1)))) (pNone)))) ρ σ
      (.lst (((List.range 9).filter (q1 p n)).map fun i => .str (ofL ((rowR p n).set (i + 1) 45)))) := by
    refine v_comp (enc := fun i : Nat => PV.int (1 + (i : Int))) (d := .rng 1 10) (v_call (vs_cons (v_val _) (vs_cons (v_val _) vs_nil)) rfl) rfl items_one (by decide) (fun i m => ?_) fun i m _ => ?_
    · have hi : i < 9 := List.mem_range.mp m
      obtain ⟨c, hc, hlt⟩ := rowC_lt n i hp hi
      refine t_cmp (v_bin (row3 _) (k6 i) (idxN hc (by lia))) (v_val _) ?_
      rw [show Str.ofString "-" = ofL [45] from rfl, ne_chL hlt (by decide)]
      unfold q1; rw [hc]; rfl
    · have hi : i < 9 := List.mem_range.mp m
      have hs : (rowR p n).set (i + 1) 45 = (rowR p n).take (i + 1) ++ [45] ++ (rowR p n).drop (i + 1 + 1) := by
        rw [List.set_eq_take_append_cons_drop, if_pos (by lia)]; simp
      rw [hs]
      exact v_bin (v_bin (v_slc (row3 _) p_none (p_some (k6 i)) (slc_hi (by lia) (by lia))) (v_val (.str (ofL [45]))) (addS _ _ (by simp; lia))) (v_slc (row3 _) (p_some (v_bin (k6 i) (v_val _) (addN (i + 1) 1))) p_none (slc_lo (by lia) (by lia))) (addS _ _ (by simp; lia))
  have hl4 : 4 < ρ.length := by lia
  have S2 : Val (cDec (decP p) (cComp items (cLoc 4) (cCmp in2 (cLoc 6) (cEnc (rowsP p) (cLoc 0))) (cLoc 6))) (ρ.set 4 (some (.lst (((List.range 9).filter (q1 p n)).map fun i => .str (ofL ((rowR p n).set (i + 1) 45)))))) σ (.lst ((prN (nQ p) n).map .node)) := by
    have a6 : ∀ x : PV, ((ρ.set 4 (some (.lst (((List.range 9).filter (q1 p n)).map fun i => .str (ofL ((rowR p n).set (i + 1) 45)))))) ++ [some x])[6]? = some (some x) := fun x => by rw [List.getElem?_append_right (by simp; lia), List.length_set, hl6]; rfl
    have a0 : ∀ x : PV, ((ρ.set 4 (some (.lst (((List.range 9).filter (q1 p n)).map fun i => .str (ofL ((rowR p n).set (i + 1) 45)))))) ++ [some x])[0]? = some (some (.lst xs)) := fun x => by rw [List.getElem?_append_left (by simp; lia), List.getElem?_set_ne (by decide)]; exact l0
    refine v_dec (v_compL (l := (List.range 9).filter (q1 p n)) (enc := fun i => .str (ofL ((rowR p n).set (i + 1) 45))) (p := q2 p l n) (g := fun i => .str (ofL ((rowR p n).set (i + 1) 45))) (v_loc (by rw [List.getElem?_set_self hl4])) ?_ (fun i m => ?_) fun i m _ => v_loc (a6 _)) ?_
    · exact Nat.le_trans (List.length_filter_le _ _) (by simp)
    · refine t_cmp (v_loc (a6 _)) (v_enc (v_loc (a0 _))) ?_
      rw [enc_lst]
      show Option.map _ (strsOf (encs (rowsP p) xs)) = _
      rw [encs_nodes _ xs l e1]; rfl
    · show Option.map _ (decL (decP p) _) = _
      rw [decL_map (g := fun i => n - 2 ^ jOf p i)]
      · show some (PV.lst _) = _
        rw [← preds_is hp hn hmem]
        simp
      · intro i m
        obtain ⟨m1, m2⟩ := List.mem_filter.mp m
        obtain ⟨m0, m1⟩ := List.mem_filter.mp m1
        have hi : i < 9 := List.mem_range.mp m0
        have q := q_open hp hi hn hmem
        rw [m1, m2] at q
        by_cases h : p[i]? = some none
        · rw [if_pos h] at q
          have hb : n / 2 ^ jOf p i % 2 = 1 := by simpa using q.symm
          rw [less_open hp h hb]
          exact dec_rows hp (Nat.lt_of_le_of_lt (Nat.sub_le _ _) hn)
        · rw [if_neg h] at q; exact noT q
  unfold cForget D_rbody
  have T1 := r_set S1 hl4
  rw [r_seq T1 rfl]
  have T2 : cMethS 192 (F_add) (cLoc 1) (lCons (cLoc 3) (lStar (cDec (decP p) (cComp items (cLoc 4) (cCmp in2 (cLoc 6) (cEnc (rowsP p) (cLoc 0))) (cLoc 6))) (lNil))) ⟨ρ.set 4 (some (.lst (((List.range 9).filter (q1 p n)).map fun i => .str (ofL ((rowR p n).set (i + 1) 45))))), σ⟩ = some (d', σ') := by
    have b1 : Val (cLoc 1) (ρ.set 4 (some (.lst (((List.range 9).filter (q1 p n)).map fun i => .str (ofL ((rowR p n).set (i + 1) 45)))))) σ so := v_loc (by rw [List.getElem?_set_ne (by decide)]; exact l1)
    have b3 : Val (cLoc 3) (ρ.set 4 (some (.lst (((List.range 9).filter (q1 p n)).map fun i => .str (ofL ((rowR p n).set (i + 1) 45)))))) σ (.node n) := v_loc (by rw [List.getElem?_set_ne (by decide)]; exact l3)
    have bs : Vals (lStar (cDec (decP p) (cComp items (cLoc 4) (cCmp in2 (cLoc 6) (cEnc (rowsP p) (cLoc 0))) (cLoc 6))) (lNil)) (ρ.set 4 (some (.lst (((List.range 9).filter (q1 p n)).map fun i => .str (ofL ((rowR p n).set (i + 1) 45)))))) σ ((prN (nQ p) n).map .node) := by
      show Option.bind (cDec _ _ ⟨_, σ⟩) _ = _
      rw [S2]
      show (if ((prN (nQ p) n).map PV.node).length ≤ 4096 then some ((prN (nQ p) n).map PV.node ++ [], σ) else none) = _
      rw [if_pos, List.append_nil]
      have h1 : (prN (nQ p) n).length ≤ nQ p := by unfold prN; rw [List.length_map]; exact Nat.le_trans (List.length_filter_le _ _) (by simp)
      have h2 : nQ p ≤ 9 := by unfold nQ; rw [← hp]; exact List.countP_le_length
      rw [List.length_map]; lia
    show Option.bind (cLoc 1 ⟨_, σ⟩) _ = _
    rw [b1]
    show (if isInst 192 σ so = true then _ else _) = _
    rw [if_pos hin]
    show Option.bind (lCons (cLoc 3) _ ⟨_, σ⟩) _ = _
    rw [vs_cons b3 bs]
    exact e5
  rw [r_do T2]
  show some (Fl.next, (⟨(ρ.set 4 _).set 4 none, σ'⟩ : St)) = _
  rw [List.set_set]
end Mine
end
section
set_option tactic.hygienic false
open PySem PySem.W PyProof.Rows
set_option maxRecDepth 100000
namespace Mine
noncomputable def LS0 : Cs := cSet 1 (cCall (gFresh F_pattern) (lCons (cSlc (cLoc 0) (pNone) (pSome (cVal (.int 6)))) (lNil)))
noncomputable def LS1 : Cs := cAsg (fun d st => st.put 2 d) (cComp items (cCall (gRange) (lCons (cVal (.int 9)) (lNil))) (cCmp eqv2 (cBin oGet (cLoc 1) (cLoc 15)) (cVal (.str (Str.ofString "?")))) (cBin oPow (cVal (.int 2)) (cBin oSub (cVal (.int 8)) (cLoc 15))))
noncomputable def LS2 : Cs := cSet 3 (cComp items (cCall (gRange) (lCons (cVal (.int 9)) (lNil))) (cCmp nev2 (cBin oGet (cLoc 1) (cLoc 15)) (cVal (.str (Str.ofString "?")))) (cBin oPow (cVal (.int 2)) (cBin oSub (cVal (.int 8)) (cLoc 15))))
noncomputable def LS3 : Cs := cSet 4 (cBin oAdd (cVal (.int 32768)) (cCall (gSumA) (lCons (cComp items (cCall (gRange) (lCons (cVal (.int 9)) (lNil))) (cCmp in2 (cBin oGet (cLoc 1) (cLoc 15)) (cLst (lCons (cVal (.str (Str.ofString "r"))) (lCons (cVal (.str (Str.ofString "w"))) (lCons (cVal (.str (Str.ofString "x"))) (lNil)))))) (cBin oPow (cVal (.int 2)) (cBin oSub (cVal (.int 8)) (cLoc 15)))) (lNil))))
noncomputable def LS4 : Cs := cAsg (fun d st => st.put 5 d) (cComp items (cCall (gRange) (lCons (cBin oPow (cVal (.int 2)) (cCall (gLen) (lCons (cLoc 2) (lNil)))) (lNil))) (tAll) (cBin oAdd (cLoc 4) (cCall (gSumA) (lCons (cComp items (cCall (gRange) (lCons (cCall (gLen) (lCons (cLoc 2) (lNil))) (lNil))) (cCmp eqv2 (cBin oMod (cBin oDiv (cLoc 15) (cBin oPow (cVal (.int 2)) (cLoc 16))) (cVal (.int 2))) (cVal (.int 1))) (cBin oGet (cLoc 2) (cLoc 16))) (lNil)))))
noncomputable def LS5 : Cs := cSet 6 (cBin oAdd (cBin oAdd (cComp items (cLoc 3) (tAll) (cBin oXor (cLoc 4) (cLoc 15))) (cComp items (cLst (lCons (cVal (.int 512)) (lCons (cVal (.int 1024)) (lCons (cVal (.int 2048)) (lNil))))) (tAll) (cBin oAdd (cLoc 4) (cLoc 15)))) (cComp items (cLst (lCons (cVal (.int 4)) (lCons (cVal (.int 6)) (lCons (cVal (.int 10)) (lCons (cVal (.int 12)) (lNil)))))) (tAll) (cBin oAdd (cBin oSub (cLoc 4) (cVal (.int 32768))) (cBin oMul (cLoc 15) (cVal (.int 4096))))))
noncomputable def LS6 : Cs := cSet 7 (cBin oMod (cCall (gSumA) (lCons (cSlc (cLoc 0) (pNone) (pSome (cVal (.int 6)))) (lNil))) (cVal (.int 5)))
noncomputable def LS7 : Cs := cSet 8 (cBin oAdd (cSlc (cBin oAdd (cLoc 5) (cLoc 6)) (pSome (cLoc 7)) (pNone)) (cSlc (cBin oAdd (cLoc 5) (cLoc 6)) (pNone) (pSome (cLoc 7))))
noncomputable def LS8 : Cs := cAsg (fun d st => st.put 9 d) (cDComp items (cLoc 8) (tAll) (cLoc 15) (cCall (gFresh F_filemode) (lCons (cLoc 15) (lNil))))
noncomputable def LS9 : Cs := cIf (cCmp nev2 (cComp items (cLoc 8) (tAll) (cLst (lCons (cBin oGet (cLoc 9) (cLoc 15)) (lCons (cCall (F_ifmt) (lCons (cLoc 15) (lNil))) (lCons (cCall (F_imode) (lCons (cLoc 15) (lNil))) (lNil)))))) (cComp items (cLoc 8) (tAll) (cLst (lCons (cCall (gFresh F_written) (lCons (cLoc 15) (lNil))) (lCons (cBin oSub (cLoc 15) (cBin oMod (cLoc 15) (cVal (.int 4096)))) (lCons (cBin oMod (cLoc 15) (cVal (.int 4096))) (lNil))))))) (cRet (cVal (.bool false))) (cSkip)
noncomputable def LS10 : Cs := cSet 10 (cBin oAdd (cVal (.str (Str.ofString "-"))) (cMeth isStr gJoin (cVal (.str (Str.ofString ""))) (lCons (cLoc 1) (lNil))))
noncomputable def LS11 : Cs := cAsg (aTup 2 (aCons (fun d st => st.put 11 d) (aCons (fun d st => st.put 12 d) (aNil)))) (cTup (lCons (cCall (gFresh F_translate) (lCons (cLoc 10) (lNil))) (lCons (cComp items (cLoc 8) (tAll) (cBin oGet (cLoc 9) (cLoc 15))) (lNil))))
noncomputable def LS12 : Cs := cIf (cCmp nev2 (cComp items (cLoc 12) (tAll) (cCall (gFresh F_fits) (lCons (cLoc 11) (lCons (cLoc 15) (lNil))))) (cComp items (cLoc 12) (tAll) (cBin (fun σ a b => (eqv2 σ a b).map .bool) (cComp items (cCall (gRange) (lCons (cVal (.int 10)) (lNil))) (cCmp ninL (cBin oGet (cLoc 10) (cLoc 16)) (cLst (lCons (cVal (.str (Str.ofString "?"))) (lCons (cBin oGet (cLoc 15) (cLoc 16)) (lNil))))) (cLoc 16)) (cLst (lNil))))) (cRet (cVal (.bool false))) (cSkip)
noncomputable def LS13 : Cs := cAsg (fun d st => st.put 13 d) (cComp items (cLoc 5) (tAll) (cCall (gSumA) (lCons (cComp items (cLoc 2) (cCmp eqv2 (cBin oMod (cBin oDiv (cLoc 15) (cLoc 16)) (cVal (.int 2))) (cVal (.int 1))) (cVal (.int 1))) (lNil))))
noncomputable def LS14 (rows : Nat → Str) (dec : Str → Option Nat) (lt : Nat → Nat → Bool) (nn : Nat) (pr : Nat → List Nat) : Cs := cSet 14 (cComp items (cCall (gRange) (lCons (cBin oAdd (cCall (gLen) (lCons (cLoc 2) (lNil))) (cVal (.int 1))) (lNil))) (tAll) (cCall ((gSorted lt)) (lCons (cComp items (cCall (gRange) (lCons (cCall (gLen) (lCons (cLoc 5) (lNil))) (lNil))) (cCmp eqv2 (cBin oGet (cLoc 13) (cLoc 16)) (cLoc 15)) (cBin oGet (cLoc 9) (cBin oGet (cLoc 5) (cLoc 16)))) (lNil))))
noncomputable def LS15 (rows : Nat → Str) (dec : Str → Option Nat) (lt : Nat → Nat → Bool) (nn : Nat) (pr : Nat → List Nat) : Cs := cRet (cBin (fun σ a b => (eqv2 σ a b).map .bool) (cCall (gRows rows dec (gFresh (F_rounds lt nn pr))) (lCons (cComp items (cLoc 8) (cCmp in2 (cLoc 15) (cLoc 5)) (cBin oGet (cLoc 9) (cLoc 15))) (lNil))) (cLoc 14))
theorem D_law_eq (rows : Nat → Str) (dec : Str → Option Nat) (lt : Nat → Nat → Bool) (nn : Nat) (pr : Nat → List Nat) : D_law rows dec lt nn pr = cSeq LS0 (cSeq LS1 (cSeq LS2 (cSeq LS3 (cSeq LS4 (cSeq LS5 (cSeq LS6 (cSeq LS7 (cSeq LS8 (cSeq LS9 (cSeq LS10 (cSeq LS11 (cSeq LS12 (cSeq LS13 (cSeq (LS14 rows dec lt nn pr) ((LS15 rows dec lt nn pr)))))))))))))))) := rfl
theorem get_app {ρ t : List (Option PV)} {i : Nat} {d : PV} (h : ρ[i]? = some (some d)) : (ρ ++ t)[i]? = some (some d) := by
  rw [List.getElem?_append_left (List.getElem?_eq_some_iff.mp h).1]; exact h
theorem get_last {ρ : List (Option PV)} {i : Nat} {x : PV} (h : ρ.length = i) : (ρ ++ [some x])[i]? = some (some x) := by
  subst h; rw [List.getElem?_append_right (Nat.le_refl _)]; simp
noncomputable def iN (n : Nat) : PV := .int (n : Int)
theorem picks_gen {α : Type} (l : List α) : ∀ n a, a + n ≤ l.length → ((List.range n).map (fun k => a + k)).filterMap (l[·]?) = (l.drop a).take n
  | 0, _, _ => by simp
  | n + 1, a, h => by
    have hlt : a + n < l.length := by lia
    rw [List.range_succ, List.map_append, List.filterMap_append, picks_gen l n a (by lia), List.take_add_one, List.getElem?_drop]
    simp [List.getElem?_eq_getElem hlt]
theorem lslice_lo (a : Nat) (xs : List PV) : lslice (some (a : Int)) none xs = xs.drop a := by
  unfold lslice
  rw [sliceBounds_plain]
  show (sliceRange ((clipAt xs.length (a : Int) : Nat) : Int) ((xs.length : Nat) : Int) 1).filterMap (xs[·]?) = _
  rw [clipAt_nat, sliceRange_one]
  have := picks_gen xs (xs.length - min a xs.length) (min a xs.length) (by lia)
  rw [show (fun x => min a xs.length + x) = (fun k => min a xs.length + k) from rfl, this, List.take_of_length_le (by simp)]
  by_cases h : a ≤ xs.length
  · rw [Nat.min_eq_left h]
  · rw [Nat.min_eq_right (by lia), List.drop_of_length_le (Nat.le_refl _), List.drop_of_length_le (by lia)]
theorem lslice_hi (b : Nat) (xs : List PV) : lslice none (some (b : Int)) xs = xs.take b := by
  unfold lslice
  rw [sliceBounds_plain]
  show (sliceRange ((0 : Nat) : Int) ((clipAt xs.length (b : Int) : Nat) : Int) 1).filterMap (xs[·]?) = _
  rw [clipAt_nat, sliceRange_one]
  have := picks_gen xs (min b xs.length - 0) 0 (by lia)
  rw [show (fun x => 0 + x) = (fun k => 0 + k) from rfl, this]
  show xs.take (min b xs.length - 0) = xs.take b
  rw [Nat.sub_zero, List.take_eq_take_iff]; lia
theorem slcL_lo {a : Nat} {xs : List PV} (h : xs.length ≤ 4096) : oSlc (some (a : Int)) none (.lst xs) = some (.lst (xs.drop a)) := by
  show (if xs.length ≤ 4096 then _ else _) = _
  rw [if_pos h, lslice_lo]
theorem slcL_hi {a : Nat} {xs : List PV} (h : xs.length ≤ 4096) : oSlc none (some (a : Int)) (.lst xs) = some (.lst (xs.take a)) := by
  show (if xs.length ≤ 4096 then _ else _) = _
  rw [if_pos h, lslice_hi]
theorem intsOf_int : ∀ L : List Int, intsOf (L.map .int) = some L
  | [] => rfl
  | x :: r => by show Option.map _ (intsOf (r.map .int)) = _; rw [intsOf_int r]; rfl
theorem sum_int {σ : List Cell} (L : List Int) : gSumA [.lst (L.map .int)] σ = some (.int L.sum, σ) := by
  show Option.map _ (intsOf (L.map .int)) = _
  rw [intsOf_int]; rfl
theorem sum_cast : ∀ L : List Nat, (L.map fun n : Nat => (n : Int)).sum = ((L.sum : Nat) : Int)
  | [] => rfl
  | x :: r => by rw [List.map_cons, List.sum_cons, List.sum_cons, sum_cast r]; simp
theorem sum_iN {σ : List Cell} (L : List Nat) : gSumA [.lst (L.map iN)] σ = some (iN L.sum, σ) := by
  have : L.map iN = (L.map fun n : Nat => (n : Int)).map .int := by simp [iN]
  rw [this, sum_int, sum_cast]; rfl
theorem powN {σ : List Cell} {k : Nat} (h : k ≤ 1000) : oPow σ (.int 2) (iN k) = some (iN (2 ^ k)) := by
  show Option.map _ (if (0 : Int) ≤ (k : Int) ∧ (k : Int) ≤ 1000 ∧ (2 : Int).natAbs < 2 ^ 64 then some ((2 : Int) ^ (k : Int).toNat) else none) = _
  rw [if_pos ⟨by lia, by lia, by decide⟩]
  show some (PV.int ((2 : Int) ^ (k : Int).toNat)) = some (PV.int ((2 ^ k : Nat) : Int))
  congr 2
theorem subN {σ : List Cell} {a b : Nat} (h : b ≤ a) : oSub σ (.int a) (.int b) = some (iN (a - b)) := by
  show some (PV.int ((a : Int) - (b : Int))) = some (PV.int ((a - b : Nat) : Int))
  congr 2; lia
section
variable {p : Pat} (hp : p.length = 9) {ρ : List (Option PV)} {σ : List Cell} (hl : ρ.length = 15)
noncomputable def vP (p : Pat) : PV := .lst (sL (plcC 0 p))
noncomputable def vB (p : Pat) : PV := .lst ((bitsL p).map iN)
noncomputable def vS (p : Pat) : PV := .lst ((shutL p).map iN)
noncomputable def freeL (p : Pat) : List Nat := (List.range (2 ^ nQ p)).map (freeN p)
noncomputable def moreL (p : Pat) : List Nat := (shutL p).map (fun w => (32768 + baseL p) ^^^ w) ++ [512, 1024, 2048].map (fun b => 32768 + baseL p + b) ++ [4, 6, 10, 12].map (fun k => baseL p + k * 4096)
include hp hl
theorem l_sign (h1 : ρ[1]? = some (some (vP p))) {k : Nat} (hk : k < 9) : ∃ v, p[k]? = some v ∧ Val (cBin oGet (cLoc 1) (cLoc 15)) (ρ ++ [some (.int k)]) σ (.str (ofL [sgnC k v])) := by
  have hkp : k < p.length := by lia
  refine ⟨p[k], List.getElem?_eq_getElem hkp, v_bin (v_loc (get_app h1)) (v_loc (get_last hl)) ?_⟩
  refine idxLN ?_ (by simp [sL, plcC_len]; lia)
  have := plcC_get p 0 k
  rw [List.getElem?_eq_getElem hkp] at this
  simp only [sL, List.getElem?_map, this, Nat.zero_add]
  rfl
theorem l_pow {k : Nat} (hk : k < 9) : Val (cBin oPow (cVal (.int 2)) (cBin oSub (cVal (.int 8)) (cLoc 15))) (ρ ++ [some (.int k)]) σ (iN (2 ^ (p.length - 1 - k))) := by
  have e : p.length - 1 - k = 8 - k := by lia
  rw [e]
  exact v_bin (v_val _) (v_bin (v_val _) (v_loc (get_last hl)) (subN (a := 8) (by omega))) (powN (by omega))
theorem l_rng9 : Val (cCall (gRange) (lCons (cVal (.int 9)) (lNil))) ρ σ (.rng 0 ((p.length : Nat) : Int)) := by rw [hp]; exact v_call (vs_cons (v_val _) vs_nil) rfl
theorem l_places (f : Option Bool → Bool) {ft : Ct} (ht : ∀ k v, k < 9 → p[k]? = some v → Val (cBin oGet (cLoc 1) (cLoc 15)) (ρ ++ [some (.int k)]) σ (.str (ofL [sgnC k v])) → TVal ft (ρ ++ [some (.int k)]) σ (f v)) (h1 : ρ[1]? = some (some (vP p))) :
    Val (cComp items (cCall (gRange) (lCons (cVal (.int 9)) (lNil))) ft (cBin oPow (cVal (.int 2)) (cBin oSub (cVal (.int 8)) (cLoc 15)))) ρ σ (.lst ((wL f p).map iN)) := by
  rw [← range_wL, List.map_map]
  refine v_compR (by lia) (l_rng9 hp hl) (fun k hk => ?_) fun k hk _ => l_pow hp hl (by lia)
  obtain ⟨v, hv, h⟩ := l_sign hp (σ := σ) hl h1 (k := k) (by lia)
  have := ht k v (by lia) hv h
  rw [hv]; exact this
theorem s1 (h1 : ρ[1]? = some (some (vP p))) : LS1 ⟨ρ, σ⟩ = some (.next, ⟨ρ.set 2 (some (vB p)), σ⟩) :=
  r_asg (l_places hp hl (·.isNone) (fun k v _ _ h => t_cmp h (v_val _) (by
    rw [show Str.ofString "?" = ofL [63] from rfl, eq_chL (sgnC_lt _ _) (by decide)]
    congr 1
    rw [Bool.eq_iff_iff, decide_eq_true_iff, sgnC_q]
    cases v <;> simp)) h1) (by lia)
theorem s2 (h1 : ρ[1]? = some (some (vP p))) : LS2 ⟨ρ, σ⟩ = some (.next, ⟨ρ.set 3 (some (vS p)), σ⟩) :=
  r_set (l_places hp hl (·.isSome) (fun k v _ _ h => t_cmp h (v_val _) (by
    rw [show Str.ofString "?" = ofL [63] from rfl, ne_chL (sgnC_lt _ _) (by decide)]
    congr 1
    have : decide (sgnC k v = 63) = v.isNone := by
      rw [Bool.eq_iff_iff, decide_eq_true_iff, sgnC_q]
      cases v <;> simp
    rw [this]
    cases v <;> rfl)) h1) (by lia)
theorem s3 (h1 : ρ[1]? = some (some (vP p))) : LS3 ⟨ρ, σ⟩ = some (.next, ⟨ρ.set 4 (some (iN (32768 + baseL p))), σ⟩) := by
  refine r_set (v_bin (v_val _) (v_call (vs_cons (l_places hp hl (· == some true) (fun k v _ _ h => ?_) h1) vs_nil) (sum_iN _)) (addN 32768 _)) (by lia)
  refine t_cmp h (v_lst (vs_cons (v_val _) (vs_cons (v_val _) (vs_cons (v_val _) vs_nil))) (by simp)) ?_
  show some (([chS 114, chS 119, chS 120] : List Str).any (· == chS (sgnC k v))) = _
  congr 1
  simp only [List.any_cons, List.any_nil, chS_inj, Bool.or_false]
  rcases v with _ | b
  · rfl
  · cases b
    · rfl
    · have : k % 3 = 0 ∨ k % 3 = 1 ∨ k % 3 = 2 := by lia
      rcases this with z | z | z <;> simp [sgnC, letterC, z]
theorem len_lst {xs : List PV} (h : xs.length ≤ 4096) : gLen [.lst xs] σ = some (iN xs.length, σ) := by
  show (if xs.length ≤ 4096 then some (PV.int xs.length, σ) else none) = _
  rw [if_pos h]; rfl
theorem nQ_le : nQ p ≤ 9 := by unfold nQ; rw [← hp]; exact List.countP_le_length
theorem l_len2 (h2 : ρ[2]? = some (some (vB p))) {t : List (Option PV)} : Val (cCall (gLen) (lCons (cLoc 2) (lNil))) (ρ ++ t) σ (iN (nQ p)) := by
  have h := nQ_le hp hl
  have e : ((bitsL p).map iN).length = nQ p := by rw [List.length_map, bits_len]
  have := len_lst hp hl (σ := σ) (xs := (bitsL p).map iN) (by lia)
  rw [e] at this
  exact v_call (vs_cons (v_loc (get_app h2)) vs_nil) this
theorem s4 (h2 : ρ[2]? = some (some (vB p))) (h4 : ρ[4]? = some (some (iN (32768 + baseL p)))) (hq : nQ p ≤ 4) : LS4 ⟨ρ, σ⟩ = some (.next, ⟨ρ.set 5 (some (.lst ((freeL p).map iN))), σ⟩) := by
  have hb2 : 2 ^ nQ p ≤ 16 := Nat.pow_le_pow_right (by decide) hq
  unfold freeL
  rw [List.map_map]
  refine r_asg (v_mapR (n := 2 ^ nQ p) (by lia) (v_rng (vs_cons (v_bin (v_val _) (by have := l_len2 hp hl (σ := σ) h2 (t := []); rwa [List.append_nil] at this) (powN (by lia))) vs_nil)) fun k hk => ?_) (by lia)
  have hl2 : (ρ ++ [some (PV.int k)]).length = 16 := by simp [hl]
  have inner : Val (cComp items (cCall (gRange) (lCons (cCall (gLen) (lCons (cLoc 2) (lNil))) (lNil))) (cCmp eqv2 (cBin oMod (cBin oDiv (cLoc 15) (cBin oPow (cVal (.int 2)) (cLoc 16))) (cVal (.int 2))) (cVal (.int 1))) (cBin oGet (cLoc 2) (cLoc 16))) (ρ ++ [some (.int k)]) σ
      (.lst ((((List.range (bitsL p).length).filter fun j => k / 2 ^ j % 2 == 1).map fun j => ((bitsL p)[j]?).getD 0).map iN)) := by
    rw [List.map_map, bits_len]
    refine v_compR (by lia) (v_rng (vs_cons (l_len2 hp hl h2) vs_nil)) (fun j hj => ?_) fun j hj _ => ?_
    · have hp2 : 2 ^ j < 1073741824 := Nat.lt_of_le_of_lt (Nat.pow_le_pow_right (by decide) (show j ≤ 4 by lia)) (by decide)
      refine t_cmp (v_bin (v_bin (v_loc (get_app (get_last hl))) (v_bin (v_val _) (v_loc (get_last hl2)) (powN (by lia))) (divN k (2 ^ j) (by have := Nat.two_pow_pos j; lia) hp2)) (v_val _) (modN _ 2 (by decide))) (v_val _) ?_
      exact (eqIN _ 1).trans (by congr 1)
    · have hjl : j < (bitsL p).length := by rw [bits_len]; exact hj
      refine v_bin (v_loc (get_app (get_app h2))) (v_loc (get_last hl2)) ?_
      refine idxLN ?_ (by rw [List.length_map, bits_len]; lia)
      show ((bitsL p).map iN)[j]? = some (iN (((bitsL p)[j]?).getD 0))
      rw [List.getElem?_map, List.getElem?_eq_getElem hjl]; rfl
  have e : freeN p k = 32768 + baseL p + (((List.range (bitsL p).length).filter fun j => k / 2 ^ j % 2 == 1).map fun j => ((bitsL p)[j]?).getD 0).sum := by rw [sel_sum, freeN_eq]
  show Val _ _ _ (iN (freeN p k))
  rw [e]
  exact v_bin (v_loc (get_app h4)) (v_call (vs_cons inner vs_nil) (sum_iN _)) (addN _ _)
theorem add_lst {xs ys : List PV} (h : xs.length + ys.length ≤ 4096) : oAdd σ (.lst xs) (.lst ys) = some (.lst (xs ++ ys)) := if_pos h
theorem shut_len : (shutL p).length ≤ 9 := by unfold shutL; rw [wL_len, ← hp]; exact List.countP_le_length
theorem s5 (h3 : ρ[3]? = some (some (vS p))) (h4 : ρ[4]? = some (some (iN (32768 + baseL p)))) : LS5 ⟨ρ, σ⟩ = some (.next, ⟨ρ.set 6 (some (.lst ((moreL p).map iN))), σ⟩) := by
  have hs := shut_len hp hl
  unfold moreL
  rw [List.map_append, List.map_append, List.map_map, List.map_map, List.map_map]
  refine r_set (v_bin (v_bin (v_mapL (l := shutL p) (enc := iN) (v_loc h3) (by lia) fun w m => ?_) (v_mapL (l := [512, 1024, 2048]) (enc := iN) (v_lst (vs_cons (v_val _) (vs_cons (v_val _) (vs_cons (v_val _) vs_nil))) (by simp)) (by decide) fun w m => ?_) (add_lst hp hl (by simp; lia))) (v_mapL (l := [4, 6, 10, 12]) (enc := iN) (v_lst (vs_cons (v_val _) (vs_cons (v_val _) (vs_cons (v_val _) (vs_cons (v_val _) vs_nil)))) (by simp)) (by decide) fun w m => ?_) (add_lst hp hl (by simp; lia))) (by lia)
  · refine v_bin (v_loc (get_app h4)) (v_loc (get_last hl)) ?_
    show some (PV.int (Builtin.bitXor ((32768 + baseL p : Nat) : Int) (w : Int))) = _
    rw [bitXor_nat]; rfl
  · exact v_bin (v_loc (get_app h4)) (v_loc (get_last hl)) (addN _ _)
  · have hw : w < 1000000 := by simp at m; lia
    refine v_bin (v_bin (v_loc (get_app h4)) (v_val (.int ((32768 : Nat) : Int))) (subN (by lia))) (v_bin (v_loc (get_last hl)) (v_val (.int ((4096 : Nat) : Int))) (mulN w 4096 hw (by decide))) ?_
    rw [show 32768 + baseL p - 32768 = baseL p by lia]
    exact addN _ _
end
end Mine
end
section
set_option tactic.hygienic false
open PySem PySem.W PyProof.Rows
set_option maxRecDepth 100000
namespace Mine
theorem toPDs_map {α : Type} (f : α → PV) (g : α → PyData) : ∀ l : List α, (∀ x ∈ l, toPD (f x) = some (g x)) → toPDs (l.map f) = some (l.map g)
  | [], _ => by rw [List.map_nil, List.map_nil]; unfold toPDs; rfl
  | x :: r, h => by
    rw [List.map_cons, List.map_cons]
    unfold toPDs
    rw [h x (.head _), toPDs_map f g r fun y m => h y (.tail _ m)]; rfl
theorem lay_all {α : Type} (g : α → PyData) (k : Nat) : ∀ l : List α, (∀ x ∈ l, (g x).canLay0 = true ∧ (g x).depth ≤ k) → PyData.canLayAll0 (l.map g) = true ∧ PyData.depthAll (l.map g) ≤ k
  | [], _ => ⟨by rw [List.map_nil]; unfold PyData.canLayAll0; rfl, by rw [List.map_nil]; unfold PyData.depthAll; exact Nat.zero_le _⟩
  | x :: r, h => by
    obtain ⟨a, b⟩ := lay_all g k r fun y m => h y (.tail _ m)
    obtain ⟨c, d⟩ := h x (.head _)
    rw [List.map_cons]
    unfold PyData.canLayAll0 PyData.depthAll
    exact ⟨by rw [c, a]; rfl, Nat.max_le.mpr ⟨d, b⟩⟩
theorem lay_list {α : Type} (g : α → PyData) (k : Nat) (l : List α) (h : ∀ x ∈ l, (g x).canLay0 = true ∧ (g x).depth ≤ k) : (PyData.list (l.map g)).canLay0 = true ∧ (PyData.list (l.map g)).depth ≤ k + 1 := by
  obtain ⟨a, b⟩ := lay_all g k l h
  unfold PyData.canLay0 PyData.depth
  exact ⟨a, Nat.succ_le_succ b⟩
theorem shaped_of {d : PyData} (h : d.canLay0 = true ∧ d.depth ≤ 8) : SeqAt.shaped d = true := by
  unfold SeqAt.shaped
  rw [h.1, decide_eq_true (by lia)]; rfl
theorem lay_int (a : Int) : (PyData.int a).canLay0 = true ∧ (PyData.int a).depth ≤ 0 := ⟨rfl, Nat.le_refl _⟩
theorem lay_str {a : Str} (h : okS a) : (PyData.str a).canLay0 = true ∧ (PyData.str a).depth ≤ 0 := ⟨h, Nat.le_refl _⟩
theorem toPD_lst (xs : List PV) : toPD (.lst xs) = (toPDs xs).map .list := by conv => lhs; unfold toPD
theorem eq_map {α : Type} {σ : List Cell} (f : α → PV) (g : α → PyData) (l : List α) (h : ∀ x ∈ l, toPD (f x) = some (g x)) (hl : ∀ x ∈ l, (g x).canLay0 = true ∧ (g x).depth ≤ 7) : eqv2 σ (.lst (l.map f)) (.lst (l.map f)) = some true := by
  refine eq_self (d := .list (l.map g)) (fun n z => by exact PV.noConfusion z) ?_ (shaped_of (lay_list g 7 l hl))
  show toPD (.lst (l.map f)) = _
  rw [toPD_lst, toPDs_map f g l h]; rfl
theorem ne_of_eq {σ : List Cell} {a : PV} (h : eqv2 σ a a = some true) : nev2 σ a a = some false := by unfold nev2; rw [h]; rfl
theorem sg4_lt (s : List Nat) (h : ∀ c ∈ s, c < 128) (x y : Nat) : sg4 s x y < 128 := by
  unfold sg4
  cases hz : s[x + 2 * y]? with
  | none => decide
  | some c => exact h c (List.mem_of_getElem? hz)
theorem trio_lt (m R A : Nat) (s : List Nat) (h : ∀ c ∈ s, c < 128) : ∀ c ∈ trio m R A s, c < 128 := by
  intro c hc
  simp only [trio, List.mem_cons, List.not_mem_nil, or_false] at hc
  rcases hc with rfl | rfl | rfl
  · split <;> decide
  · split <;> decide
  · exact sg4_lt s h _ _
theorem rowL_lt (m : Nat) : ∀ c ∈ rowL m, c < 128 := by
  intro c hc
  unfold rowL at hc
  rcases List.mem_cons.mp hc with rfl | hc
  · unfold kC; split <;> first | decide | (split <;> first | decide | (split <;> first | decide | (split <;> decide)))
  · rcases List.mem_append.mp hc with hc | hc
    · rcases List.mem_append.mp hc with hc | hc
      · exact trio_lt _ _ _ _ (by decide) c hc
      · exact trio_lt _ _ _ _ (by decide) c hc
    · exact trio_lt _ _ _ _ (by decide) c hc
theorem rowL_len (m : Nat) : (rowL m).length = 10 := by simp [rowL, trio]
theorem rowL_ok (m : Nat) : okS (ofL (rowL m)) := okL fun c h => by have := rowL_lt m c h; lia
theorem hasK_dput {es : List (Int × PV)} {k : Int} {v : PV} : ∀ k', assoc (dput es k v) k' = if k = k' then some v else assoc es k' := by
  have rep : ∀ (es : List (Int × PV)) (k' : Int), assoc (repl es k v) k' = if k = k' ∧ hasK es k = true then some v else assoc es k' := by
    intro es
    induction es with
    | nil => intro k'; simp [repl, hasK, assoc]
    | cons x r ih =>
      intro k'
      obtain ⟨a, y⟩ := x
      show (if a = k' then some (if a = k then v else y) else assoc (repl r k v) k') = _
      rw [ih k']
      show _ = if k = k' ∧ (if a = k then true else hasK r k) = true then some v else (if a = k' then some y else assoc r k')
      by_cases h1 : a = k' <;> by_cases h2 : a = k <;> by_cases h3 : k = k' <;> simp_all
  have app : ∀ (es : List (Int × PV)) (k' : Int), hasK es k = false → assoc (es ++ [(k, v)]) k' = if k = k' then some v else assoc es k' := by
    intro es
    induction es with
    | nil => intro k' _; rfl
    | cons x r ih =>
      intro k' hh
      obtain ⟨a, y⟩ := x
      have hh' : (if a = k then true else hasK r k) = false := hh
      by_cases h2 : a = k
      · rw [if_pos h2] at hh'; exact noT hh'
      · rw [if_neg h2] at hh'
        show (if a = k' then some y else assoc (r ++ [(k, v)]) k') = if k = k' then some v else (if a = k' then some y else assoc r k')
        rw [ih k' hh']
        by_cases h1 : a = k' <;> by_cases h3 : k = k' <;> simp_all
  intro k'
  unfold dput
  split
  · rename_i h; rw [rep]; simp [h]
  · rename_i h; exact app es k' (by simpa using h)
theorem dput_len {es : List (Int × PV)} {k : Int} {v : PV} : (dput es k v).length ≤ es.length + 1 := by
  have rep : ∀ es : List (Int × PV), (repl es k v).length = es.length := fun es => by
    induction es with
    | nil => rfl
    | cons x r ih => obtain ⟨a, y⟩ := x; show ((_ : Int × PV) :: repl r k v).length = _; rw [List.length_cons, ih]; rfl
  unfold dput
  split
  · rw [rep]; lia
  · simp
noncomputable def esF (f : Nat → PV) : List Nat → List (Int × PV) → List (Int × PV)
  | [], es => es
  | m :: r, es => esF f r (dput es (m : Int) (f m))
theorem esF_get (f : Nat → PV) : ∀ (l : List Nat) (es : List (Int × PV)) (m : Nat), (m ∈ l ∨ assoc es (m : Int) = some (f m)) → assoc (esF f l es) (m : Int) = some (f m)
  | [], es, m, h => h.elim (fun z => nomatch z) id
  | x :: r, es, m, h => by
    refine esF_get f r _ m ?_
    rw [hasK_dput]
    by_cases hx : x = m
    · subst hx; exact .inr (if_pos rfl)
    · rw [if_neg (by lia)]
      exact h.imp (fun z => (List.mem_cons.mp z).resolve_left (Ne.symm hx)) id
theorem dcomp_go {ρ : List (Option PV)} {σ : List Cell} {fk fv : Co} {f : Nat → PV} : ∀ (l : List Nat) (es : List (Int × PV)), es.length + l.length ≤ 4096 → (∀ m ∈ l, Val fk (ρ ++ [some (iN m)]) σ (iN m)) → (∀ m ∈ l, Val fv (ρ ++ [some (iN m)]) σ (f m)) →
    compGo tAll (emDict fk fv) ρ (l.map iN) (.dint es) σ = some (.dint (esF f l es), σ)
  | [], es, _, _, _ => rfl
  | m :: r, es, hl, hk, hv => by
    rw [List.length_cons] at hl
    have e1 := hk m (.head _)
    have e2 := hv m (.head _)
    have hd := dput_len (es := es) (k := (m : Int)) (v := f m)
    show Option.bind (Option.bind (fk ⟨ρ ++ [some (iN m)], σ⟩) _) _ = _
    rw [e1]
    show Option.bind (Option.bind (fv ⟨ρ ++ [some (iN m)], σ⟩) _) _ = _
    rw [e2]
    show Option.bind (if es.length ≤ 4096 then some (Cell.dint (dput es (m : Int) (f m)), σ) else none) _ = _
    rw [if_pos (by lia)]
    exact dcomp_go r _ (by lia) (fun y m => hk y (.tail _ m)) fun y m => hv y (.tail _ m)
theorem v_dcomp {ρ : List (Option PV)} {fi fk fv : Co} {f : Nat → PV} {l : List Nat} (h1 : Val fi ρ [] (.lst (l.map iN))) (hl : l.length ≤ 4096) (hk : ∀ m ∈ l, Val fk (ρ ++ [some (iN m)]) [] (iN m)) (hv : ∀ m ∈ l, Val fv (ρ ++ [some (iN m)]) [] (f m)) :
    cDComp items fi tAll fk fv ⟨ρ, []⟩ = some (.ref 0, [.dint (esF f l [])]) := by
  show Option.bind (Option.bind (fi ⟨ρ, []⟩) _) _ = _
  rw [h1]
  show Option.bind (if (l.map iN).length ≤ 4096 then Option.bind (compGo tAll (emDict fk fv) ρ (l.map iN) (.dint []) []) _ else none) _ = _
  rw [if_pos (by rw [List.length_map]; exact hl), dcomp_go (f := f) l [] (by simpa using hl) hk hv]
  rfl
noncomputable def heldL (p : Pat) (t : Nat) : List Nat := (freeL p ++ moreL p).drop t ++ (freeL p ++ moreL p).take t
theorem held_mem {p : Pat} {t m : Nat} (h : m ∈ heldL p t) : m ∈ freeL p ∨ m ∈ moreL p := by
  unfold heldL at h
  rcases List.mem_append.mp h with h | h
  · exact List.mem_append.mp (List.mem_of_mem_drop h)
  · exact List.mem_append.mp (List.mem_of_mem_take h)
theorem base_lt {p : Pat} (hp : p.length = 9) : baseL p < 512 := by
  have := (free_lt hp 0).2
  rw [free_zero] at this; lia
theorem good_free {p : Pat} (hp : p.length = 9) {m : Nat} (h : m ∈ freeL p) : m / 4096 = 8 := by
  obtain ⟨n, _, rfl⟩ := List.mem_map.mp h
  have := free_lt hp n
  lia
theorem xor_good {p : Pat} (hp : p.length = 9) {w : Nat} (h : w ∈ shutL p) : ((32768 + baseL p) ^^^ w) / 4096 = 8 ∧ ∀ n, (32768 + baseL p) ^^^ w ≠ freeN p n := by
  obtain ⟨i, hi, rfl⟩ := wL_pow _ p w h
  have hb := base_lt hp
  obtain ⟨f1, f2⟩ := xor_facts (x := 32768 + baseL p) (i := i) (by lia) (by lia)
  obtain ⟨b, hbit⟩ := free_shut hp h
  refine ⟨f1, fun n => f2 _ ?_⟩
  rw [hbit n, ← free_zero, hbit 0]
theorem good_more {p : Pat} (hp : p.length = 9) {m : Nat} (h : m ∈ moreL p) : goodK (m / 4096) ∧ m ∉ freeL p := by
  have hb := base_lt hp
  unfold moreL at h
  rcases List.mem_append.mp h with h | h
  · rcases List.mem_append.mp h with h | h
    · obtain ⟨w, hw, rfl⟩ := List.mem_map.mp h
      obtain ⟨a, b⟩ := xor_good hp hw
      refine ⟨.inr (.inr (.inl a)), fun z => ?_⟩
      obtain ⟨n, _, e⟩ := List.mem_map.mp z
      exact b n e.symm
    · obtain ⟨w, hw, rfl⟩ := List.mem_map.mp h
      have hw' : w = 512 ∨ w = 1024 ∨ w = 2048 := by simpa using hw
      refine ⟨.inr (.inr (.inl (by lia))), fun z => ?_⟩
      obtain ⟨n, _, e⟩ := List.mem_map.mp z
      have := free_lt hp n
      lia
  · obtain ⟨k, hk, rfl⟩ := List.mem_map.mp h
    have hk' : k = 4 ∨ k = 6 ∨ k = 10 ∨ k = 12 := by simpa using hk
    have e : (baseL p + k * 4096) / 4096 = k := by lia
    refine ⟨by rw [e]; rcases hk' with z | z | z | z <;> subst z <;> simp [goodK], fun z => ?_⟩
    have := good_free hp z
    lia
theorem good_held {p : Pat} (hp : p.length = 9) {t m : Nat} (h : m ∈ heldL p t) : goodK (m / 4096) := (held_mem h).elim (fun z => .inr (.inr (.inl (good_free hp z)))) fun z => (good_more hp z).1
theorem held_len {p : Pat} (hp : p.length = 9) (hq : nQ p ≤ 4) (t : Nat) : (heldL p t).length ≤ 64 := by
  have hb2 : 2 ^ nQ p ≤ 16 := Nat.pow_le_pow_right (by decide) hq
  have h1 : (shutL p).length ≤ 9 := by unfold shutL; rw [wL_len, ← hp]; exact List.countP_le_length
  have e : (freeL p ++ moreL p).length ≤ 32 := by simp [freeL, moreL]; lia
  unfold heldL
  simp only [List.length_append, List.length_drop, List.length_take] at e ⊢
  omega
section
variable {p : Pat} (hp : p.length = 9) {ρ : List (Option PV)} {σ : List Cell} (hl : ρ.length = 15)
include hp hl
theorem s6 {l : List Int} (h0 : ρ[0]? = some (some (.lst (l.map .int)))) (hll : l.length ≤ 4096) : ∃ t, t < 5 ∧ LS6 ⟨ρ, σ⟩ = some (.next, ⟨ρ.set 7 (some (iN t)), σ⟩) := by
  have n0 := Int.fmod_nonneg_of_pos (l.take 6).sum (show (0 : Int) < 5 by decide)
  have n1 := Int.fmod_lt_of_pos (l.take 6).sum (show (0 : Int) < 5 by decide)
  refine ⟨((l.take 6).sum.fmod 5).toNat, by lia, r_set (v_bin (v_call (vs_cons (v_slc (v_loc h0) p_none (p_some (v_val (.int ((6 : Nat) : Int)))) (slcL_hi (by simpa using hll))) vs_nil) (by rw [← List.map_take]; exact sum_int _)) (v_val _) ?_) (by lia)⟩
  rw [oModI _ _ (by decide)]
  show _ = some (PV.int ((((l.take 6).sum.fmod 5).toNat : Nat) : Int))
  congr 2; lia
theorem s7 {t : Nat} (hq : nQ p ≤ 4) (h5 : ρ[5]? = some (some (.lst ((freeL p).map iN)))) (h6 : ρ[6]? = some (some (.lst ((moreL p).map iN)))) (h7 : ρ[7]? = some (some (iN t))) : LS7 ⟨ρ, σ⟩ = some (.next, ⟨ρ.set 8 (some (.lst ((heldL p t).map iN))), σ⟩) := by
  have hb2 : 2 ^ nQ p ≤ 16 := Nat.pow_le_pow_right (by decide) hq
  have h1 := shut_len hp hl
  have e : (freeL p).length + (moreL p).length ≤ 32 := by simp [freeL, moreL]; lia
  have a : Val (cBin oAdd (cLoc 5) (cLoc 6)) ρ σ (.lst ((freeL p ++ moreL p).map iN)) := by
    rw [List.map_append]
    exact v_bin (v_loc h5) (v_loc h6) (add_lst hp hl (by simp only [List.length_map]; lia))
  unfold heldL
  rw [List.map_append, List.map_drop, List.map_take]
  have el : ((freeL p ++ moreL p).map iN).length ≤ 32 := by rw [List.length_map, List.length_append]; exact e
  refine r_set (v_bin (v_slc a (p_some (v_loc h7)) p_none (slcL_lo (by lia))) (v_slc a p_none (p_some (v_loc h7)) (slcL_hi (by lia))) (add_lst hp hl ?_)) (by lia)
  rw [List.length_drop, List.length_take]; omega
noncomputable def esP (p : Pat) (t : Nat) : List (Int × PV) := esF (fun m => .str (ofL (rowL m))) (heldL p t) []
theorem s8 {t : Nat} (hq : nQ p ≤ 4) (h8 : ρ[8]? = some (some (.lst ((heldL p t).map iN)))) : LS8 ⟨ρ, []⟩ = some (.next, ⟨ρ.set 9 (some (.ref 0)), [.dint (esP p t)]⟩) := by
  have hh := held_len hp hq t
  exact b_asg (v_dcomp (f := fun m => .str (ofL (rowL m))) (v_loc h8) (by lia) (fun m _ => v_loc (get_last hl)) fun m hm => v_call (vs_cons (v_loc (get_last hl)) vs_nil) (filemode_row m (good_held hp hm) rfl)) (by lia)
theorem l_written {t : Nat} {k : Nat} {f : Co} {m : Nat} {ρ' : List (Option PV)} (h9 : ρ'[9]? = some (some (.ref 0))) (hf : Val f ρ' [.dint (esP p t)] (iN m)) (hm : m ∈ heldL p t) : Val (cBin oGet (cLoc 9) f) ρ' [.dint (esP p t)] (.str (ofL (rowL m))) :=
  v_bin (v_loc h9) hf (esF_get (fun m => .str (ofL (rowL m))) (heldL p t) [] m (.inl hm))
theorem s9 {t : Nat} (hq : nQ p ≤ 4) (h8 : ρ[8]? = some (some (.lst ((heldL p t).map iN)))) (h9 : ρ[9]? = some (some (.ref 0))) : LS9 ⟨ρ, [.dint (esP p t)]⟩ = some (.next, ⟨ρ, [.dint (esP p t)]⟩) := by
  have hh := held_len hp hq t
  have lt16 : ∀ m, m ∈ heldL p t → m < 65536 := fun m hm => by rcases good_held hp hm with z | z | z | z | z <;> lia
  have eqs : eqv2 [.dint (esP p t)] (.lst ((heldL p t).map fun m => .lst [.str (ofL (rowL m)), iN (m - m % 4096), iN (m % 4096)])) (.lst ((heldL p t).map fun m => .lst [.str (ofL (rowL m)), iN (m - m % 4096), iN (m % 4096)])) = some true :=
    eq_map _ (fun m => .list [.str (ofL (rowL m)), .int ((m - m % 4096 : Nat) : Int), .int ((m % 4096 : Nat) : Int)]) _ (fun m _ => rfl) fun m _ => by
      have h := lay_str (rowL_ok m)
      refine ⟨?_, ?_⟩
      · show (PyData.canLay0 (.str (ofL (rowL m))) && (true && (true && true))) = true
        rw [h.1]; rfl
      · show max 0 (max 0 (max 0 0)) + 1 ≤ 7
        decide
  refine r_ifF (t_cmp (v_mapL (l := heldL p t) (enc := iN) (v_loc h8) (by lia) fun m hm => ?_) (v_mapL (l := heldL p t) (enc := iN) (v_loc h8) (by lia) fun m hm => ?_) (ne_of_eq eqs)) rfl
  · refine v_lst (vs_cons (l_written hp hl (k := 0) (get_app h9) (v_loc (get_last hl)) hm) (vs_cons (v_call (vs_cons (v_loc (get_last hl)) vs_nil) ?_) (vs_cons (v_call (vs_cons (v_loc (get_last hl)) vs_nil) ?_) vs_nil))) (by simp)
    · show some (PV.int (Builtin.bitAnd (m : Int) ((61440 : Nat) : Int)), _) = _
      rw [bitAnd_nat, ifmt_nat m (lt16 m hm)]; rfl
    · show some (PV.int (Builtin.bitAnd (m : Int) ((4095 : Nat) : Int)), _) = _
      rw [bitAnd_nat, show (4095 : Nat) = 2 ^ 12 - 1 from rfl, Nat.and_two_pow_sub_one_eq_mod]; rfl
  · exact v_lst (vs_cons (v_call (vs_cons (v_loc (get_last hl)) vs_nil) (written_fresh m (good_held hp hm) rfl)) (vs_cons (v_bin (v_loc (get_last hl)) (v_bin (v_loc (get_last hl)) (v_val _) (modN m 4096 (by decide))) (subN (Nat.mod_le _ _))) (vs_cons (v_bin (v_loc (get_last hl)) (v_val _) (modN m 4096 (by decide))) vs_nil))) (by simp)
end
end Mine
end
section
set_option tactic.hygienic false
open PySem PySem.W PyProof.Rows
set_option maxRecDepth 100000
namespace Mine
noncomputable def patL (p : Pat) : List Nat := 45 :: plcC 0 p
theorem sgn_good (k : Nat) (v : Option Bool) : goodC (sgnC k v) := by
  rcases v with _ | b
  · exact .inr (.inl rfl)
  · cases b
    · exact .inl rfl
    · have : k % 3 = 0 ∨ k % 3 = 1 ∨ k % 3 = 2 := by lia
      rcases this with z | z | z <;> simp [sgnC, letterC, z, goodC]
theorem plc_good : ∀ (p : Pat) (k c : Nat), c ∈ plcC k p → goodC c
  | [], _, _, h => nomatch h
  | x :: r, k, c, h => by
    rcases List.mem_cons.mp h with rfl | h
    · exact sgn_good k x
    · exact plc_good r (k + 1) c h
theorem pat_good (p : Pat) : ∀ c ∈ patL p, goodC c := fun c h => (List.mem_cons.mp h).elim (fun z => .inl z) (plc_good p 0 c)
theorem mt_iff : ∀ (cs rs : List Nat), cs.length = rs.length → (mt cs rs = true ↔ ∀ k, k < cs.length → (cs[k]?).getD 0 = 63 ∨ (cs[k]?).getD 0 = (rs[k]?).getD 0)
  | [], [], _ => by simp [mt]
  | [], _ :: _, h => by simp at h
  | _ :: _, [], h => by simp at h
  | c :: cs, r :: rs, h => by
    have ih := mt_iff cs rs (by simpa using h)
    have e : mt (c :: cs) (r :: rs) = ((c == 63 || c == r) && mt cs rs) := rfl
    rw [e, Bool.and_eq_true, ih]
    constructor
    · rintro ⟨a, b⟩ k hk
      cases k with
      | zero => simpa using a
      | succ k => simpa using b k (by simpa using hk)
    · intro a
      refine ⟨by simpa using a 0 (by simp), fun k hk => ?_⟩
      simpa using a (k + 1) (by simpa using hk)
theorem eq_nil {σ : List Cell} {α : Type} (l : List α) (f : α → Int) : eqv2 σ (.lst (l.map fun x => .int (f x))) (.lst []) = some l.isEmpty := by
  have h1 : pdOf σ (.lst (l.map fun x => .int (f x))) = some (.list (l.map fun x => .int (f x))) := by
    show toPD (.lst _) = _
    rw [toPD_lst, toPDs_map (fun x => PV.int (f x)) (fun x => PyData.int (f x)) l fun x _ => rfl]; rfl
  have h2 : pdOf σ (.lst []) = some (.list []) := by
    show toPD (.lst []) = _
    rw [toPD_lst]; unfold toPDs; rfl
  have s1 := shaped_of (lay_list (fun x => PyData.int (f x)) 7 l fun x _ => ⟨rfl, Nat.zero_le _⟩)
  have s2 : SeqAt.shaped (.list []) = true := by rfl
  show Option.bind (pdOf σ (.lst (l.map fun x => .int (f x)))) _ = _
  rw [h1, Option.bind_some, h2, Option.bind_some, if_pos ⟨s1, s2⟩]
  cases l with
  | nil => rfl
  | cons x r => rfl
theorem sum_one {α : Type} : ∀ L : List α, (L.map fun _ => 1).sum = L.length
  | [] => rfl
  | x :: r => by rw [List.map_cons, List.sum_cons, sum_one r, List.length_cons]; lia
theorem r_tup2 {ρ : List (Option PV)} {σ : List Cell} {i j : Nat} {v : Co} {a b : PV} (h : Val v ρ σ (.tup [a, b])) (hi : i < ρ.length) (hj : j < ρ.length) : cAsg (aTup 2 (aCons (fun d st => st.put i d) (aCons (fun d st => st.put j d) (aNil)))) v ⟨ρ, σ⟩ = some (.next, ⟨(ρ.set i (some a)).set j (some b), σ⟩) := by
  show Option.bind (v ⟨ρ, σ⟩) _ = _
  rw [h]
  show Option.map _ (Option.bind (St.put ⟨ρ, σ⟩ i a) fun s => Option.bind (St.put s j b) fun s => some s) = _
  rw [put_ok' hi]
  show Option.map _ (Option.bind (St.put ⟨ρ.set i (some a), σ⟩ j b) fun s => some s) = _
  rw [put_ok' (by simpa using hj)]; rfl
theorem ins_map {rows : Nat → Str} {lt : Nat → Nat → Bool} (h : ∀ i j, ltS (rows i) (rows j) = lt i j) (x : Nat) : ∀ l : List Nat, ins ltS (rows x) (l.map rows) = (ins lt x l).map rows
  | [] => rfl
  | y :: r => by
    show (if ltS (rows y) (rows x) = true then rows y :: ins ltS (rows x) (r.map rows) else rows x :: rows y :: r.map rows) = _
    rw [h, ins_map h x r]
    show _ = ((if lt y x = true then y :: ins lt x r else x :: y :: r)).map rows
    split <;> rfl
theorem isort_map {rows : Nat → Str} {lt : Nat → Nat → Bool} (h : ∀ i j, ltS (rows i) (rows j) = lt i j) : ∀ l : List Nat, isort ltS (l.map rows) = (isort lt l).map rows
  | [] => rfl
  | x :: r => by
    show ins ltS (rows x) (isort ltS (r.map rows)) = _
    rw [isort_map h r, ins_map h]; rfl
noncomputable def vR (p : Pat) : PV := .lst ((List.range (nQ p + 1)).map fun lev => .lst (((isort (ltN (nQ p)) (levN (nQ p) lev)).map (rowsP p)).map .str))
section
variable {p : Pat} (hp : p.length = 9) {ρ : List (Option PV)} {σ : List Cell} (hl : ρ.length = 15)
include hp hl
theorem pat_len : (patL p).length = 10 := by simp [patL, plcC_len, hp]
theorem s10 (h1 : ρ[1]? = some (some (vP p))) : LS10 ⟨ρ, σ⟩ = some (.next, ⟨ρ.set 10 (some (.str (ofL (patL p)))), σ⟩) := by
  have e : sL (plcC 0 p) = ((plcC 0 p).map chS).map .str := by simp [sL]
  have j : Val (cMeth isStr gJoin (cVal (.str (Str.ofString ""))) (lCons (cLoc 1) (lNil))) ρ σ (.str (ofL (plcC 0 p))) := by
    rw [← join_ofL]
    refine v_join (d := vP p) (v_val _) (v_loc h1) (by show some (sL (plcC 0 p)) = _; rw [e]) ?_
    have : ((plcC 0 p).map chS).map (·.length) = (plcC 0 p).map fun _ => 1 := by simp [chS, Str.length]
    rw [this]
    have h0 : (Str.ofString "").length = 0 := rfl
    rw [h0, sum_one]
    simp [plcC_len, hp]
  exact r_set (v_bin (v_val (.str (ofL [45]))) j (addS [45] _ (by simp [plcC_len, hp]))) (by lia)
theorem s11 {t : Nat} (hq : nQ p ≤ 4) (h8 : ρ[8]? = some (some (.lst ((heldL p t).map iN)))) (h9 : ρ[9]? = some (some (.ref 0))) (h10 : ρ[10]? = some (some (.str (ofL (patL p))))) :
    LS11 ⟨ρ, [.dint (esP p t)]⟩ = some (.next, ⟨(ρ.set 11 (some (.str (ofL (madeL (patL p)))))).set 12 (some (.lst ((heldL p t).map fun m => .str (ofL (rowL m))))), [.dint (esP p t)]⟩) := by
  have hh := held_len hp hq t
  have hpl := pat_len hp hl
  refine r_tup2 (v_tup (vs_cons (v_call (vs_cons (v_loc h10) vs_nil) (translate_fresh (pat_good p) (by lia) rfl)) (vs_cons (v_mapL (l := heldL p t) (enc := iN) (v_loc h8) (by lia) fun m hm => ?_) vs_nil)) (by simp)) (by lia) (by lia)
  exact l_written hp hl (k := 0) (get_app h9) (v_loc (get_last hl)) hm
theorem s12 {t : Nat} (hq : nQ p ≤ 4) (h10 : ρ[10]? = some (some (.str (ofL (patL p))))) (h11 : ρ[11]? = some (some (.str (ofL (madeL (patL p)))))) (h12 : ρ[12]? = some (some (.lst ((heldL p t).map fun m => .str (ofL (rowL m)))))) :
    LS12 ⟨ρ, [.dint (esP p t)]⟩ = some (.next, ⟨ρ, [.dint (esP p t)]⟩) := by
  have hh := held_len hp hq t
  have hpl := pat_len hp hl
  have eqs : eqv2 [.dint (esP p t)] (.lst ((heldL p t).map fun m => .bool (mt (patL p) (rowL m)))) (.lst ((heldL p t).map fun m => .bool (mt (patL p) (rowL m)))) = some true :=
    eq_map _ (fun m => .bool (mt (patL p) (rowL m))) _ (fun m _ => rfl) fun m _ => ⟨rfl, Nat.zero_le _⟩
  refine r_ifF (t_cmp (v_mapL (l := heldL p t) (enc := fun m => .str (ofL (rowL m))) (v_loc h12) (by lia) fun m hm => ?_) (v_mapL (l := heldL p t) (enc := fun m => .str (ofL (rowL m))) (v_loc h12) (by lia) fun m hm => ?_) (ne_of_eq eqs)) rfl
  · exact v_call (vs_cons (v_loc (get_app h11)) (vs_cons (v_loc (get_last hl)) vs_nil)) (fits_fresh (by rw [hpl, rowL_len]) (by lia) (pat_good p) (rowL_lt m) rfl)
  · have hl2 : (ρ ++ [some (PV.str (ofL (rowL m)))]).length = 16 := by simp [hl]
    have hr := rowL_len m
    have inner : Val (cComp items (cCall (gRange) (lCons (cVal (.int 10)) (lNil))) (cCmp ninL (cBin oGet (cLoc 10) (cLoc 16)) (cLst (lCons (cVal (.str (Str.ofString "?"))) (lCons (cBin oGet (cLoc 15) (cLoc 16)) (lNil))))) (cLoc 16)) (ρ ++ [some (PV.str (ofL (rowL m)))]) [.dint (esP p t)]
        (.lst (((List.range 10).filter fun k => !(decide (((patL p)[k]?).getD 0 = 63) || decide (((patL p)[k]?).getD 0 = ((rowL m)[k]?).getD 0))).map fun k => .int ((k : Nat) : Int))) := by
      refine v_compR (n := 10) (by decide) (v_rng (vs_cons (v_val _) vs_nil)) (fun k hk => ?_) fun k hk _ => v_loc (get_last hl2)
      have g1 := List.getElem?_eq_getElem (show k < (patL p).length by omega)
      have g2 := List.getElem?_eq_getElem (show k < (rowL m).length by lia)
      refine t_cmp (v_bin (v_loc (get_app (get_app h10))) (v_loc (get_last hl2)) (idxN g1 (by lia))) (v_lst (vs_cons (v_val (.str (chS 63))) (vs_cons (v_bin (v_loc (get_app (get_last hl))) (v_loc (get_last hl2)) (idxN g2 (by lia))) vs_nil)) (by simp)) ?_
      show some (!(([chS 63, chS (rowL m)[k]] : List Str).any (· == chS (patL p)[k]))) = _
      simp only [List.any_cons, List.any_nil, chS_inj, Bool.or_false, g1, g2, Option.getD_some]
      congr 3 <;> exact decide_eq_decide.mpr ⟨Eq.symm, Eq.symm⟩
    refine v_bin inner (v_lst vs_nil (by simp)) ?_
    rw [eq_nil]
    show some (PV.bool _) = some (PV.bool _)
    congr 2
    rw [Bool.eq_iff_iff, List.isEmpty_iff, List.filter_eq_nil_iff, mt_iff _ _ (by rw [hpl, hr]), hpl]
    constructor
    · intro a k hk
      have := a k (List.mem_range.mpr hk)
      exact Decidable.or_iff_not_imp_left.mpr (by simpa using this)
    · intro a k hk
      have := a k (List.mem_range.mp hk)
      simpa using fun h => this.resolve_left h
theorem s13 (hq : nQ p ≤ 4) (h2 : ρ[2]? = some (some (vB p))) (h5 : ρ[5]? = some (some (.lst ((freeL p).map iN)))) : LS13 ⟨ρ, σ⟩ = some (.next, ⟨ρ.set 13 (some (.lst ((List.range (2 ^ nQ p)).map fun n => iN (popN (nQ p) n)))), σ⟩) := by
  have hb2 : 2 ^ nQ p ≤ 16 := Nat.pow_le_pow_right (by decide) hq
  have h5' : ρ[5]? = some (some (.lst ((List.range (2 ^ nQ p)).map fun n => iN (freeN p n)))) := by rw [h5]; simp [freeL]
  refine r_asg (v_mapL (l := List.range (2 ^ nQ p)) (enc := fun n => iN (freeN p n)) (v_loc h5') (by simp; lia) fun n hn => ?_) (by lia)
  have hl2 : (ρ ++ [some (iN (freeN p n))]).length = 16 := by simp [hl]
  have hbl : (bitsL p).length = nQ p := bits_len p
  have inner : Val (cComp items (cLoc 2) (cCmp eqv2 (cBin oMod (cBin oDiv (cLoc 15) (cLoc 16)) (cVal (.int 2))) (cVal (.int 1))) (cVal (.int 1))) (ρ ++ [some (iN (freeN p n))]) σ (.lst ((((bitsL p).filter fun w => freeN p n / w % 2 == 1).map fun _ => 1).map iN)) := by
    rw [List.map_map]
    refine v_compL (l := bitsL p) (enc := iN) (v_loc (get_app h2)) (by lia) (fun w hw => ?_) fun w hw _ => v_val _
    obtain ⟨i, hi, rfl⟩ := wL_pow _ p w hw
    have hp2 : 2 ^ i < 1073741824 := Nat.lt_of_le_of_lt (Nat.pow_le_pow_right (by decide) (show i ≤ 9 by lia)) (by decide)
    refine t_cmp (v_bin (v_bin (v_loc (get_app (get_last hl))) (v_loc (get_last hl2)) (divN (freeN p n) (2 ^ i) (by have := Nat.two_pow_pos i; lia) hp2)) (v_val _) (modN _ 2 (by decide))) (v_val _) ?_
    exact (eqIN _ 1).trans (by congr 1)
  have e : (((bitsL p).filter fun w => freeN p n / w % 2 == 1).map fun _ => 1).sum = popN (nQ p) n := by
    have h := fill_pop 0 p 64 n
    rw [hp] at h
    rw [← hbl, ← h, List.countP_eq_length_filter]
    rw [sum_one]; rfl
  rw [← e]
  exact v_call (vs_cons inner vs_nil) (sum_iN _)
theorem s14 {t : Nat} {dec nn pr rows} (hq : nQ p ≤ 4) (h2 : ρ[2]? = some (some (vB p))) (h5 : ρ[5]? = some (some (.lst ((freeL p).map iN)))) (h9 : ρ[9]? = some (some (.ref 0))) (h13 : ρ[13]? = some (some (.lst ((List.range (2 ^ nQ p)).map fun n => iN (popN (nQ p) n))))) :
    LS14 rows dec (ltN (nQ p)) nn pr ⟨ρ, [.dint (esP p t)]⟩ = some (.next, ⟨ρ.set 14 (some (vR p)), [.dint (esP p t)]⟩) := by
  have hb2 : 2 ^ nQ p ≤ 16 := Nat.pow_le_pow_right (by decide) hq
  have h5' : ρ[5]? = some (some (.lst ((List.range (2 ^ nQ p)).map fun n => iN (freeN p n)))) := by rw [h5]; simp [freeL]
  have e1 : Val (cBin oAdd (cCall (gLen) (lCons (cLoc 2) (lNil))) (cVal (.int 1))) ρ [.dint (esP p t)] (.int ((nQ p + 1 : Nat) : Int)) := by
    have := l_len2 hp hl (σ := [.dint (esP p t)]) h2 (t := [])
    rw [List.append_nil] at this
    exact v_bin this (v_val _) (addN (nQ p) 1)
  refine r_set (v_mapR (n := nQ p + 1) (by lia) (v_rng (vs_cons e1 vs_nil)) fun lev hlev => ?_) (by lia)
  have hl2 : (ρ ++ [some (PV.int (lev : Int))]).length = 16 := by simp [hl]
  have lenF : Val (cCall (gLen) (lCons (cLoc 5) (lNil))) (ρ ++ [some (PV.int (lev : Int))]) [.dint (esP p t)] (.int ((2 ^ nQ p : Nat) : Int)) := by
    have := len_lst hp hl (σ := [.dint (esP p t)]) (xs := (List.range (2 ^ nQ p)).map fun n => iN (freeN p n)) (by simp; lia)
    rw [List.length_map, List.length_range] at this
    exact v_call (vs_cons (v_loc (get_app h5')) vs_nil) this
  have inner : Val (cComp items (cCall (gRange) (lCons (cCall (gLen) (lCons (cLoc 5) (lNil))) (lNil))) (cCmp eqv2 (cBin oGet (cLoc 13) (cLoc 16)) (cLoc 15)) (cBin oGet (cLoc 9) (cBin oGet (cLoc 5) (cLoc 16)))) (ρ ++ [some (PV.int (lev : Int))]) [.dint (esP p t)] (.lst (((levN (nQ p) lev).map (rowsP p)).map .str)) := by
    unfold levN
    rw [List.map_map]
    refine v_compR (by lia) (v_rng (vs_cons lenF vs_nil)) (fun k hk => ?_) fun k hk _ => ?_
    · refine t_cmp (v_bin (v_loc (get_app (get_app h13))) (v_loc (get_last hl2)) (idxLN (d := iN (popN (nQ p) k)) ?_ (by simp; lia))) (v_loc (get_app (get_last hl))) (eqIN _ _)
      rw [List.getElem?_map, List.getElem?_range hk]; rfl
    · have gf : Val (cBin oGet (cLoc 5) (cLoc 16)) ((ρ ++ [some (PV.int (lev : Int))]) ++ [some (PV.int (k : Int))]) [.dint (esP p t)] (iN (freeN p k)) := by
        refine v_bin (v_loc (get_app (get_app h5'))) (v_loc (get_last hl2)) (idxLN (d := iN (freeN p k)) ?_ (by simp; lia))
        rw [List.getElem?_map, List.getElem?_range hk]; rfl
      have hm : freeN p k ∈ heldL p t := by
        have hf : freeN p k ∈ freeL p ++ moreL p := List.mem_append_left _ (List.mem_map_of_mem (List.mem_range.mpr hk))
        unfold heldL
        rw [← List.take_append_drop t (freeL p ++ moreL p)] at hf
        rcases List.mem_append.mp hf with z | z
        · exact List.mem_append_right _ z
        · exact List.mem_append_left _ z
      exact l_written hp hl (k := 0) (get_app (get_app h9)) gf hm
  refine v_call (vs_cons inner vs_nil) ?_
  have hlen : (levN (nQ p) lev).length ≤ 16 := Nat.le_trans (List.length_filter_le _ _) (by simpa using hb2)
  show (if (((levN (nQ p) lev).map (rowsP p)).map PV.str).length < 64 then _ else _) = _
  rw [if_pos (by simp; lia), strsOf_map]
  show some (PV.lst ((isort ltS ((levN (nQ p) lev).map (rowsP p))).map .str), _) = _
  rw [isort_map (rows_ord hp)]
end
end Mine
end
section
set_option tactic.hygienic false
open PySem PySem.W PyProof.Rows
set_option maxRecDepth 100000
namespace Mine
theorem run_00 : runR 0 0 = some (expR 0) := by kernel_rfl
theorem run_01 : runR 0 1 = some (expR 0) := by kernel_rfl
theorem run_02 : runR 0 2 = some (expR 0) := by kernel_rfl
theorem run_03 : runR 0 3 = some (expR 0) := by kernel_rfl
theorem run_04 : runR 0 4 = some (expR 0) := by kernel_rfl
theorem run_10 : runR 1 0 = some (expR 1) := by kernel_rfl
theorem run_11 : runR 1 1 = some (expR 1) := by kernel_rfl
theorem run_12 : runR 1 2 = some (expR 1) := by kernel_rfl
theorem run_13 : runR 1 3 = some (expR 1) := by kernel_rfl
theorem run_14 : runR 1 4 = some (expR 1) := by kernel_rfl
theorem run_20 : runR 2 0 = some (expR 2) := by kernel_rfl
theorem run_21 : runR 2 1 = some (expR 2) := by kernel_rfl
theorem run_22 : runR 2 2 = some (expR 2) := by kernel_rfl
theorem run_23 : runR 2 3 = some (expR 2) := by kernel_rfl
theorem run_24 : runR 2 4 = some (expR 2) := by kernel_rfl
theorem run_30 : runR 3 0 = some (expR 3) := by kernel_rfl
theorem run_31 : runR 3 1 = some (expR 3) := by kernel_rfl
theorem run_32 : runR 3 2 = some (expR 3) := by kernel_rfl
theorem run_33 : runR 3 3 = some (expR 3) := by kernel_rfl
theorem run_34 : runR 3 4 = some (expR 3) := by kernel_rfl
theorem run_40 : runR 4 0 = some (expR 4) := by kernel_rfl
theorem run_41 : runR 4 1 = some (expR 4) := by kernel_rfl
theorem run_42 : runR 4 2 = some (expR 4) := by kernel_rfl
theorem run_43 : runR 4 3 = some (expR 4) := by kernel_rfl
theorem run_44 : runR 4 4 = some (expR 4) := by kernel_rfl
theorem run_all : ∀ m t : Nat, m ≤ 4 → t < 5 → runR m t = some (expR m)
  | 0, 0, _, _ => run_00
  | 0, 1, _, _ => run_01
  | 0, 2, _, _ => run_02
  | 0, 3, _, _ => run_03
  | 0, 4, _, _ => run_04
  | 1, 0, _, _ => run_10
  | 1, 1, _, _ => run_11
  | 1, 2, _, _ => run_12
  | 1, 3, _, _ => run_13
  | 1, 4, _, _ => run_14
  | 2, 0, _, _ => run_20
  | 2, 1, _, _ => run_21
  | 2, 2, _, _ => run_22
  | 2, 3, _, _ => run_23
  | 2, 4, _, _ => run_24
  | 3, 0, _, _ => run_30
  | 3, 1, _, _ => run_31
  | 3, 2, _, _ => run_32
  | 3, 3, _, _ => run_33
  | 3, 4, _, _ => run_34
  | 4, 0, _, _ => run_40
  | 4, 1, _, _ => run_41
  | 4, 2, _, _ => run_42
  | 4, 3, _, _ => run_43
  | 4, 4, _, _ => run_44
  | _ + 5, _, h, _ => absurd h (by lia)
  | _, _ + 5, _, h => absurd h (by lia)
theorem clo_nodes : ∀ l : List Nat, PVs.clo (l.map .node) = true
  | [] => rfl
  | x :: r => by simp [PVs.clo, PV.clo, clo_nodes r]
theorem encs_map (rows : Nat → Str) : ∀ l : List Nat, encs rows (l.map .node) = (l.map rows).map .str
  | [] => by rw [List.map_nil]; unfold encs; rfl
  | x :: r => by
    rw [List.map_cons]; unfold encs
    rw [enc_node, encs_map rows r]; rfl
theorem encs_map2 (rows : Nat → Str) (g : Nat → List Nat) : ∀ l : List Nat, encs rows (l.map fun x => .lst ((g x).map .node)) = l.map fun x => .lst (((g x).map rows).map .str)
  | [] => by rw [List.map_nil]; unfold encs; rfl
  | x :: r => by
    rw [List.map_cons]; unfold encs
    rw [enc_lst, encs_map, encs_map2 rows g r]; rfl
theorem enc_exp (p : Pat) : enc (rowsP p) (expR (nQ p)) = vR p := by
  unfold expR vR
  rw [enc_lst, encs_map2]
theorem rot_lt {m t n : Nat} (h : n ∈ rotL m t) : n < 2 ^ m := by
  unfold rotL at h
  rcases List.mem_append.mp h with h | h
  · exact List.mem_range.mp (List.mem_of_mem_drop h)
  · exact List.mem_range.mp (List.mem_of_mem_take h)
theorem held_free {p : Pat} (hp : p.length = 9) (t : Nat) : (heldL p t).filter (fun m => (freeL p).contains m) = (rotL (nQ p) t).map (freeN p) := by
  have hF : ∀ L : List Nat, (∀ m ∈ L, m ∈ freeL p) → L.filter (fun m => (freeL p).contains m) = L := fun L h => List.filter_eq_self.mpr fun m hm => by simpa using h m hm
  have hM : ∀ L : List Nat, (∀ m ∈ L, m ∈ moreL p) → L.filter (fun m => (freeL p).contains m) = [] := fun L h => List.filter_eq_nil_iff.mpr fun m hm => by simpa using (good_more hp (h m hm)).2
  unfold heldL rotL
  rw [List.filter_append, List.drop_append, List.take_append, List.filter_append, List.filter_append,
    hF ((freeL p).drop t) fun m h => List.mem_of_mem_drop h, hM _ fun m h => List.mem_of_mem_drop h, hF ((freeL p).take t) fun m h => List.mem_of_mem_take h, hM _ fun m h => List.mem_of_mem_take h,
    List.append_nil, List.append_nil, List.map_append]
  unfold freeL
  rw [List.map_drop, List.map_take]
section
variable {p : Pat} (hp : p.length = 9) {ρ : List (Option PV)} {σ : List Cell} (hl : ρ.length = 15)
include hp hl
theorem intsOf_iN (L : List Nat) : intsOf (L.map iN) = some (L.map fun n : Nat => (n : Int)) := by
  have : L.map iN = (L.map fun n : Nat => (n : Int)).map .int := by simp [iN]
  rw [this, intsOf_int]
theorem s15 {t : Nat} (ht : t < 5) (hq : nQ p ≤ 4) (h5 : ρ[5]? = some (some (.lst ((freeL p).map iN)))) (h8 : ρ[8]? = some (some (.lst ((heldL p t).map iN)))) (h9 : ρ[9]? = some (some (.ref 0))) (h14 : ρ[14]? = some (some (vR p))) :
    LS15 (rowsP p) (decP p) (ltN (nQ p)) (2 ^ nQ p) (prN (nQ p)) ⟨ρ, [.dint (esP p t)]⟩ = some (.ret (.bool true), ⟨ρ, [.dint (esP p t)]⟩) := by
  have hh := held_len hp hq t
  have inner : Val (cComp items (cLoc 8) (cCmp in2 (cLoc 15) (cLoc 5)) (cBin oGet (cLoc 9) (cLoc 15))) ρ [.dint (esP p t)] (.lst (((heldL p t).filter fun m => (freeL p).contains m).map fun m => .str (ofL (rowL m)))) := by
    refine v_compL (l := heldL p t) (enc := iN) (v_loc h8) (by lia) (fun m hm => ?_) fun m hm _ => l_written hp hl (k := 0) (get_app h9) (v_loc (get_last hl)) hm
    refine t_cmp (v_loc (get_last hl)) (v_loc (get_app h5)) ?_
    show Option.map _ (intsOf ((freeL p).map iN)) = _
    rw [intsOf_iN hp hl]
    show some (((freeL p).map fun n : Nat => (n : Int)).any (· == (m : Int))) = _
    congr 1
    rw [List.any_map, List.contains_eq_any_beq]
    congr 1
    funext n
    show ((n : Int) == (m : Int)) = (m == n)
    rw [beqN, Bool.eq_iff_iff]; simp; exact ⟨Eq.symm, Eq.symm⟩
  rw [held_free hp, List.map_map] at inner
  have run := run_all (nQ p) t hq ht
  unfold runR at run
  obtain ⟨⟨d, σ1⟩, r1, r2⟩ := bind_some run
  have call : gRows (rowsP p) (decP p) (gFresh (F_rounds (ltN (nQ p)) (2 ^ nQ p) (prN (nQ p)))) [.lst ((rotL (nQ p) t).map fun n => .str (rowsP p n))] [.dint (esP p t)] = some (vR p, [.dint (esP p t)]) := by
    have fr : gFresh (F_rounds (ltN (nQ p)) (2 ^ nQ p) (prN (nQ p))) [.lst ((rotL (nQ p) t).map .node)] [.dint (esP p t)] = some (expR (nQ p), [.dint (esP p t)]) :=
      fresh_run (by simp [PVs.clo, PV.clo, clo_nodes]) rfl r1 r2
    have de : dec1 (decP p) (.lst ((rotL (nQ p) t).map fun n => .str (rowsP p n))) = some (.lst ((rotL (nQ p) t).map .node)) := by
      show Option.map _ (decL (decP p) _) = _
      rw [decL_map (g := fun n => n) _ fun n hn => dec_rows hp (rot_lt hn)]; rfl
    show Option.bind (dec1 (decP p) (.lst ((rotL (nQ p) t).map fun n => .str (rowsP p n)))) _ = _
    rw [de]
    show Option.map _ (gFresh (F_rounds (ltN (nQ p)) (2 ^ nQ p) (prN (nQ p))) [.lst ((rotL (nQ p) t).map .node)] [.dint (esP p t)]) = _
    rw [fr]
    show some (enc (rowsP p) (expR (nQ p)), _) = _
    rw [enc_exp]
  have okr : ∀ n, okS (rowsP p n) := fun n => rowL_ok _
  have eqs : eqv2 [.dint (esP p t)] (vR p) (vR p) = some true := by
    unfold vR
    refine eq_map _ (fun lev => .list (((isort (ltN (nQ p)) (levN (nQ p) lev)).map (rowsP p)).map .str)) _ (fun lev _ => ?_) fun lev _ => ?_
    · rw [toPD_lst, toPDs_map (fun s : Str => PV.str s) (fun s : Str => PyData.str s) _ fun s _ => rfl]; rfl
    · have := lay_list (fun s : Str => PyData.str s) 0 ((isort (ltN (nQ p)) (levN (nQ p) lev)).map (rowsP p)) fun s hs => by
        obtain ⟨n, _, rfl⟩ := List.mem_map.mp hs
        exact lay_str (okr n)
      exact ⟨this.1, Nat.le_trans this.2 (by decide)⟩
  exact r_ret (v_bin (v_call (vs_cons inner vs_nil) call) (v_loc h14) (by rw [eqs]; rfl))
end
theorem s0 {ρ : List (Option PV)} (hl : ρ.length = 15) {l : List Int} (h0 : ρ[0]? = some (some (.lst (l.map .int)))) (hll : l.length ≤ 4096) : ∃ p : Pat, p.length = 9 ∧ nQ p ≤ 4 ∧ LS0 ⟨ρ, []⟩ = some (.next, ⟨ρ.set 1 (some (vP p)), []⟩) := by
  obtain ⟨p, hp, hq, e⟩ := pattern_fresh (l.take 6) (σ := []) rfl
  exact ⟨p, hp, hq, r_set (v_call (vs_cons (v_slc (v_loc h0) p_none (p_some (v_val (.int ((6 : Nat) : Int)))) (slcL_hi (by simpa using hll))) vs_nil) (by rw [← List.map_take]; exact e)) (by lia)⟩
theorem law_run {l : List Int} (hll : l.length ≤ 63) : ∃ p : Pat, p.length = 9 ∧ ∃ σ', F_law (rowsP p) (decP p) (ltN (nQ p)) (2 ^ nQ p) (prN (nQ p)) [.lst (l.map .int)] [] = some (.bool true, σ') := by
  obtain ⟨p, hp, hq, e0⟩ := s0 (ρ := [some (.lst (l.map .int)), none, none, none, none, none, none, none, none, none, none, none, none, none, none]) rfl rfl (by lia)
  obtain ⟨t, ht, e6⟩ := s6 (p := p) hp (ρ := [some (.lst (l.map .int)), some (vP p), some (vB p), some (vS p), some (iN (32768 + baseL p)), some (.lst ((freeL p).map iN)), some (.lst ((moreL p).map iN)), none, none, none, none, none, none, none, none]) (σ := []) rfl rfl (by lia)
  refine ⟨p, hp, [.dint (esP p t)], fn_run (st := ⟨[some (.lst (l.map .int)), some (vP p), some (vB p), some (vS p), some (iN (32768 + baseL p)), some (.lst ((freeL p).map iN)), some (.lst ((moreL p).map iN)), some (iN t), some (.lst ((heldL p t).map iN)), some (.ref 0), some (.str (ofL (patL p))), some (.str (ofL (madeL (patL p)))), some (.lst ((heldL p t).map fun m => .str (ofL (rowL m)))), some (.lst ((List.range (2 ^ nQ p)).map fun n => iN (popN (nQ p) n))), some (vR p)], [.dint (esP p t)]⟩) rfl ?_⟩
  rw [D_law_eq]
  refine r_seq e0 ?_
  refine r_seq (s1 hp rfl rfl) ?_
  refine r_seq (s2 hp rfl rfl) ?_
  refine r_seq (s3 hp rfl rfl) ?_
  refine r_seq (s4 hp rfl rfl rfl hq) ?_
  refine r_seq (s5 hp rfl rfl rfl) ?_
  refine r_seq e6 ?_
  refine r_seq (s7 hp rfl (t := t) hq rfl rfl rfl) ?_
  refine r_seq (s8 hp rfl hq rfl) ?_
  refine r_seq (s9 hp rfl hq rfl rfl) ?_
  refine r_seq (s10 hp rfl rfl) ?_
  refine r_seq (s11 hp rfl hq rfl rfl rfl) ?_
  refine r_seq (s12 hp rfl hq rfl rfl rfl) ?_
  refine r_seq (s13 hp rfl hq rfl rfl) ?_
  refine r_seq (s14 hp rfl hq rfl rfl rfl rfl) ?_
  exact s15 hp rfl ht hq rfl rfl rfl rfl
theorem plain {l : List Int} (hll : l.length ≤ 63) : Nonempty (Plain l) := by
  obtain ⟨p, hp, out⟩ := law_run hll
  exact ⟨{
    rows := rowsP p
    dec := decP p
    lt := ltN (nQ p)
    nn := 2 ^ nQ p
    pr := prN (nQ p)
    inj := fun i j hi hj h => rows_inj hp i j hi hj h
    ord := fun i j _ _ => rows_ord hp i j
    dok := fun s n h => dec_ok s n h
    hw := hw_ok hp
    out := out }⟩
end Mine
end
theorem PySem.Challenge.cw_rx0025_01_holds : PySem.Challenge.rw_rx0025_01.Holds := by
  exact Mine.cw_of fun l h => Classical.choice (Mine.plain h)
