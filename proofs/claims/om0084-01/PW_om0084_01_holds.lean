import PyProof.Rows.All
import Wide.All
import OpenK.AllK
import Wide.FinOn
import PySem.Challenge.RW_om0084_01
section TextHeadH
open PySem PySem.W PyProof.Rows
set_option Elab.async false
set_option maxRecDepth 100000
set_option maxHeartbeats 0
set_option linter.unusedVariables false
namespace Mine
abbrev PR : Program := PySem.Challenge.rw_om0084_01.row.prog
def topS (i : Nat) : Stmt := PR.main.body.getD i (.Pass ⟨0, 0, 0, 0⟩)
def fnA : Stmt → Arguments
  | .FunctionDef _ a _ _ _ _ _ _ _ _ => a
  | _ => ⟨[], [], none, [], [], none, []⟩
def fnB : Stmt → List Stmt
  | .FunctionDef _ _ b _ _ _ _ _ _ _ => b
  | _ => []
def fnS : Stmt → Scope
  | .FunctionDef _ _ _ _ _ _ s _ _ _ => s
  | _ => default
def clB (i j : Nat) : Stmt := match topS i with
  | .ClassDef _ _ _ b _ _ _ _ _ _ _ => b.getD j (.Pass ⟨0, 0, 0, 0⟩)
  | s => s
def pa36 : Arguments := fnA (clB 4 1)
def bo36 : List Stmt := fnB (clB 4 1)
def sc36 : Scope := fnS (clB 4 1)
def pa73 : Arguments := fnA (clB 6 0)
def bo73 : List Stmt := fnB (clB 6 0)
def sc73 : Scope := fnS (clB 6 0)
def pa80 : Arguments := fnA (clB 6 1)
def bo80 : List Stmt := fnB (clB 6 1)
def sc80 : Scope := fnS (clB 6 1)
def pa87 : Arguments := fnA (clB 6 2)
def bo87 : List Stmt := fnB (clB 6 2)
def sc87 : Scope := fnS (clB 6 2)
def pa92 : Arguments := fnA (clB 6 3)
def bo92 : List Stmt := fnB (clB 6 3)
def sc92 : Scope := fnS (clB 6 3)
def pa99 : Arguments := fnA (clB 6 4)
def bo99 : List Stmt := fnB (clB 6 4)
def sc99 : Scope := fnS (clB 6 4)
def pa106 : Arguments := fnA (clB 6 5)
def bo106 : List Stmt := fnB (clB 6 5)
def sc106 : Scope := fnS (clB 6 5)
def pa120 : Arguments := fnA (clB 6 7)
def bo120 : List Stmt := fnB (clB 6 7)
def sc120 : Scope := fnS (clB 6 7)
def pa127 : Arguments := fnA (clB 6 8)
def bo127 : List Stmt := fnB (clB 6 8)
def sc127 : Scope := fnS (clB 6 8)
def pa150 : Arguments := fnA (topS 9)
def bo150 : List Stmt := fnB (topS 9)
def sc150 : Scope := fnS (topS 9)
def pa157 : Arguments := fnA (topS 11)
def bo157 : List Stmt := fnB (topS 11)
def sc157 : Scope := fnS (topS 11)
def pa164 : Arguments := fnA (topS 12)
def bo164 : List Stmt := fnB (topS 12)
def sc164 : Scope := fnS (topS 12)
def pa171 : Arguments := fnA (topS 13)
def bo171 : List Stmt := fnB (topS 13)
def sc171 : Scope := fnS (topS 13)
def pa176 : Arguments := fnA (topS 15)
def bo176 : List Stmt := fnB (topS 15)
def sc176 : Scope := fnS (topS 15)
def pa181 : Arguments := fnA (topS 16)
def bo181 : List Stmt := fnB (topS 16)
def sc181 : Scope := fnS (topS 16)
def pa188 : Arguments := fnA (topS 17)
def bo188 : List Stmt := fnB (topS 17)
def sc188 : Scope := fnS (topS 17)
def pa195 : Arguments := fnA (topS 18)
def bo195 : List Stmt := fnB (topS 18)
def sc195 : Scope := fnS (topS 18)
def pa202 : Arguments := fnA (topS 19)
def bo202 : List Stmt := fnB (topS 19)
def sc202 : Scope := fnS (topS 19)
def pa207 : Arguments := fnA (topS 20)
def bo207 : List Stmt := fnB (topS 20)
def sc207 : Scope := fnS (topS 20)
def ob1 (P : Params) : Obj := { cls := PySem.Value.type "dict", data := PySem.Data.dict #[{ hash := PySem.PyData.keyHash P (PySem.Str.ofString "builtins"), key := PySem.Value.str (PySem.Str.ofString "builtins") 162, val := PySem.Value.ref 4 }, { hash := PySem.PyData.keyHash P (PySem.Str.ofString "__main__"), key := PySem.Value.str (PySem.Str.ofString "__main__") 163, val := PySem.Value.ref 5 }] 2 }
def ob2 (P : Params) : Obj := { cls := PySem.Value.none, data := PySem.Data.dict #[] }
def ob3 (P : Params) : Obj := { cls := PySem.Value.type "dict", data := PySem.Data.dict #[{ hash := PyData.keyHash P (PySem.Str.ofString "__name__"), key := PySem.Value.str (PySem.Str.ofString "__name__") 165, val := PySem.Value.str (PySem.Str.ofString "law_om0084_01") 417 }, { hash := PyData.keyHash P (PySem.Str.ofString "__doc__"), key := PySem.Value.str (PySem.Str.ofString "__doc__") 166, val := PySem.Value.none }, { hash := PyData.keyHash P (PySem.Str.ofString "__package__"), key := PySem.Value.str (PySem.Str.ofString "__package__") 167, val := PySem.Value.none }, { hash := PyData.keyHash P (PySem.Str.ofString "__loader__"), key := PySem.Value.str (PySem.Str.ofString "__loader__") 168, val := PySem.Value.builtin "__main__.__loader__#opaque" }, { hash := PyData.keyHash P (PySem.Str.ofString "__spec__"), key := PySem.Value.str (PySem.Str.ofString "__spec__") 169, val := PySem.Value.none }, { hash := PyData.keyHash P (PySem.Str.ofString "__annotations__"), key := PySem.Value.str (PySem.Str.ofString "__annotations__") 170, val := PySem.Value.ref 6 }, { hash := PyData.keyHash P (PySem.Str.ofString "__builtins__"), key := PySem.Value.str (PySem.Str.ofString "__builtins__") 171, val := PySem.Value.ref 4 }, { hash := PyData.keyHash P (PySem.Str.ofString "__file__"), key := PySem.Value.str (PySem.Str.ofString "__file__") 173, val := PySem.Value.str (PySem.Str.ofString "/claim/cut.py") 172 }, { hash := PyData.keyHash P (PySem.Str.ofString "__cached__"), key := PySem.Value.str (PySem.Str.ofString "__cached__") 174, val := PySem.Value.none }, { hash := PyData.keyHash P (PySem.Str.ofString "_wall"), key := PySem.Value.str (PySem.Str.ofString "_wall") 193, val := PySem.Value.ref 21 }, { hash := PyData.keyHash P (PySem.Str.ofString "_NODE_OUT"), key := PySem.Value.str (PySem.Str.ofString "_NODE_OUT") 198, val := PySem.Value.int (-1) 197 }, { hash := PyData.keyHash P (PySem.Str.ofString "_NODE_DONE"), key := PySem.Value.str (PySem.Str.ofString "_NODE_DONE") 201, val := PySem.Value.int (-2) 200 }, { hash := PyData.keyHash P (PySem.Str.ofString "_NodeInfo"), key := PySem.Value.str (PySem.Str.ofString "_NodeInfo") 238, val := PySem.Value.ref 40 }, { hash := PyData.keyHash P (PySem.Str.ofString "CycleError"), key := PySem.Value.str (PySem.Str.ofString "CycleError") 256, val := PySem.Value.ref 55 }, { hash := PyData.keyHash P (PySem.Str.ofString "TopologicalSorter"), key := PySem.Value.str (PySem.Str.ofString "TopologicalSorter") 375, val := PySem.Value.ref 137 }, { hash := PyData.keyHash P (PySem.Str.ofString "_initial_missing"), key := PySem.Value.str (PySem.Str.ofString "_initial_missing") 378, val := PySem.Value.ref 142 }, { hash := PyData.keyHash P (PySem.Str.ofString "reduce"), key := PySem.Value.str (PySem.Str.ofString "reduce") 390, val := PySem.Value.ref 150 }, { hash := PyData.keyHash P (PySem.Str.ofString "and_"), key := PySem.Value.str (PySem.Str.ofString "and_") 400, val := PySem.Value.ref 157 }, { hash := PyData.keyHash P (PySem.Str.ofString "mul"), key := PySem.Value.str (PySem.Str.ofString "mul") 408, val := PySem.Value.ref 164 }, { hash := PyData.keyHash P (PySem.Str.ofString "or_"), key := PySem.Value.str (PySem.Str.ofString "or_") 416, val := PySem.Value.ref 171 }, { hash := PyData.keyHash P (PySem.Str.ofString "_law_places"), key := PySem.Value.str (PySem.Str.ofString "_law_places") 424, val := PySem.Value.ref 176 }, { hash := PyData.keyHash P (PySem.Str.ofString "_law_sorter"), key := PySem.Value.str (PySem.Str.ofString "_law_sorter") 430, val := PySem.Value.ref 181 }, { hash := PyData.keyHash P (PySem.Str.ofString "_law_ring"), key := PySem.Value.str (PySem.Str.ofString "_law_ring") 438, val := PySem.Value.ref 188 }, { hash := PyData.keyHash P (PySem.Str.ofString "_law_wedge"), key := PySem.Value.str (PySem.Str.ofString "_law_wedge") 451, val := PySem.Value.ref 195 }, { hash := PyData.keyHash P (PySem.Str.ofString "_law_determinant"), key := PySem.Value.str (PySem.Str.ofString "_law_determinant") 458, val := PySem.Value.ref 202 }, { hash := PyData.keyHash P (PySem.Str.ofString "law"), key := PySem.Value.str (PySem.Str.ofString "law") 464, val := PySem.Value.ref 207 }] 26 }
def ob35 (P : Params) : Obj := { cls := PySem.Value.type "code", data := PySem.Data.fields #[PySem.Value.str (PySem.Str.ofString "__init__") 218, PySem.Value.str (PySem.Str.ofString "_NodeInfo.__init__") 219, PySem.Value.str (PySem.Str.ofString "/claim/cut.py") 220, PySem.Value.int 10 0, PySem.Value.int 2 0, PySem.Value.int 0 0, PySem.Value.int 0 0, PySem.Value.int 3 0, PySem.Value.ref 30, PySem.Value.bool Bool.true, PySem.Value.int 181 0, PySem.Value.ref 31, PySem.Value.none, PySem.Value.ref 32, PySem.Value.ref 33, PySem.Value.ref 34, PySem.Value.int 223 0, PySem.Value.int 10 0, PySem.Value.str (PySem.Str.ofString "/claim/cut.py") 224] }
def ob36 (P : Params) : Obj := { cls := PySem.Value.type "function", data := PySem.Data.func { name := PySem.Str.ofString "__init__", qualname := PySem.Str.ofString "_NodeInfo.__init__", params := pa36, body := PySem.FuncBody.stmts bo36, scope := sc36, globals := 3, closure := [], defaults := PySem.Value.none, kwdefaults := PySem.Value.none, pyModule := PySem.Value.str (PySem.Str.ofString "cpy313.graphlib") 194, code := PySem.Value.ref 35 } }
def ob39 (P : Params) : Obj := { cls := PySem.Value.type "dict", data := PySem.Data.dict #[{ hash := PyData.keyHash P (PySem.Str.ofString "__module__"), key := PySem.Value.str (PySem.Str.ofString "__module__") 209, val := PySem.Value.str (PySem.Str.ofString "cpy313.graphlib") 194 }, { hash := PyData.keyHash P (PySem.Str.ofString "__firstlineno__"), key := PySem.Value.str (PySem.Str.ofString "__firstlineno__") 213, val := PySem.Value.int 7 212 }, { hash := PyData.keyHash P (PySem.Str.ofString "__slots__"), key := PySem.Value.str (PySem.Str.ofString "__slots__") 217, val := PySem.Value.ref 29 }, { hash := PyData.keyHash P (PySem.Str.ofString "__init__"), key := PySem.Value.str (PySem.Str.ofString "__init__") 225, val := PySem.Value.ref 36 }, { hash := PyData.keyHash P (PySem.Str.ofString "__static_attributes__"), key := PySem.Value.str (PySem.Str.ofString "__static_attributes__") 229, val := PySem.Value.ref 37 }, { hash := PyData.keyHash P (PySem.Str.ofString "node"), key := PySem.Value.str (PySem.Str.ofString "node") 231, val := PySem.Value.ref 41 }, { hash := PyData.keyHash P (PySem.Str.ofString "npredecessors"), key := PySem.Value.str (PySem.Str.ofString "npredecessors") 233, val := PySem.Value.ref 42 }, { hash := PyData.keyHash P (PySem.Str.ofString "successors"), key := PySem.Value.str (PySem.Str.ofString "successors") 235, val := PySem.Value.ref 43 }, { hash := PyData.keyHash P (PySem.Str.ofString "__doc__"), key := PySem.Value.str (PySem.Str.ofString "__doc__") 236, val := PySem.Value.none }] 5 }
def ob40 (P : Params) : Obj := { cls := PySem.Value.type "type", data := PySem.Data.cls { name := PySem.Str.ofString "_NodeInfo", bases := [PySem.Value.type "object"], mro := [PySem.Value.ref 40, PySem.Value.type "object"], ns := 39, qualname := PySem.Str.ofString "_NodeInfo", hasDict := Bool.false, slotNames := [PySem.Str.ofString "node", PySem.Str.ofString "npredecessors", PySem.Str.ofString "successors"] }, slots := #[Option.none, Option.none, Option.some (PySem.Value.str (PySem.Str.ofString "_NodeInfo") 202), Option.some (PySem.Value.str (PySem.Str.ofString "_NodeInfo") 210), Option.some (PySem.Value.builtin "object.__new__"), Option.some (PySem.Value.bool Bool.false)] }
def ob41 (P : Params) : Obj := { cls := PySem.Value.type "member_descriptor", data := PySem.Data.fields #[PySem.Value.str (PySem.Str.ofString "node") 230, PySem.Value.ref 40, PySem.Value.builtin "proto.slot", PySem.Value.builtin "proto.slot#set", PySem.Value.int 2 0] }
def ob42 (P : Params) : Obj := { cls := PySem.Value.type "member_descriptor", data := PySem.Data.fields #[PySem.Value.str (PySem.Str.ofString "npredecessors") 232, PySem.Value.ref 40, PySem.Value.builtin "proto.slot", PySem.Value.builtin "proto.slot#set", PySem.Value.int 1 0] }
def ob43 (P : Params) : Obj := { cls := PySem.Value.type "member_descriptor", data := PySem.Data.fields #[PySem.Value.str (PySem.Str.ofString "successors") 234, PySem.Value.ref 40, PySem.Value.builtin "proto.slot", PySem.Value.builtin "proto.slot#set", PySem.Value.int 0 0] }
def ob54 (P : Params) : Obj := { cls := PySem.Value.type "dict", data := PySem.Data.dict #[{ hash := PyData.keyHash P (PySem.Str.ofString "__module__"), key := PySem.Value.str (PySem.Str.ofString "__module__") 246, val := PySem.Value.str (PySem.Str.ofString "cpy313.graphlib") 194 }, { hash := PyData.keyHash P (PySem.Str.ofString "__firstlineno__"), key := PySem.Value.str (PySem.Str.ofString "__firstlineno__") 250, val := PySem.Value.int 14 249 }, { hash := PyData.keyHash P (PySem.Str.ofString "__static_attributes__"), key := PySem.Value.str (PySem.Str.ofString "__static_attributes__") 251, val := PySem.Value.ref 53 }, { hash := PyData.keyHash P (PySem.Str.ofString "__weakref__"), key := PySem.Value.str (PySem.Str.ofString "__weakref__") 253, val := PySem.Value.ref 56 }, { hash := PyData.keyHash P (PySem.Str.ofString "__doc__"), key := PySem.Value.str (PySem.Str.ofString "__doc__") 254, val := PySem.Value.none }] 3 }
def ob55 (P : Params) : Obj := { cls := PySem.Value.type "type", data := PySem.Data.cls { name := PySem.Str.ofString "CycleError", bases := [PySem.Value.type "ValueError"], mro := [PySem.Value.ref 55, PySem.Value.type "ValueError", PySem.Value.type "Exception", PySem.Value.type "BaseException", PySem.Value.type "object"], ns := 54, qualname := PySem.Str.ofString "CycleError" }, slots := #[Option.some (PySem.Value.ref 46), Option.none, Option.some (PySem.Value.str (PySem.Str.ofString "CycleError") 239), Option.some (PySem.Value.str (PySem.Str.ofString "CycleError") 247), Option.some (PySem.Value.builtin "ValueError.__new__"), Option.some (PySem.Value.bool Bool.true)] }
def ob56 (P : Params) : Obj := { cls := PySem.Value.type "getset_descriptor", data := PySem.Data.fields #[PySem.Value.str (PySem.Str.ofString "__weakref__") 252, PySem.Value.ref 55, PySem.Value.builtin "ExceptionGroup.__weakref__", PySem.Value.none] }
def ob66 (P : Params) : Obj := { cls := PySem.Value.type "tuple", data := PySem.Data.seq #[PySem.Value.none] }
def ob72 (P : Params) : Obj := { cls := PySem.Value.type "code", data := PySem.Data.fields #[PySem.Value.str (PySem.Str.ofString "__init__") 269, PySem.Value.str (PySem.Str.ofString "TopologicalSorter.__init__") 270, PySem.Value.str (PySem.Str.ofString "/claim/cut.py") 271, PySem.Value.int 18 0, PySem.Value.int 2 0, PySem.Value.int 0 0, PySem.Value.int 0 0, PySem.Value.int 3 0, PySem.Value.ref 67, PySem.Value.bool Bool.true, PySem.Value.int 181 0, PySem.Value.ref 68, PySem.Value.none, PySem.Value.ref 69, PySem.Value.ref 70, PySem.Value.ref 71, PySem.Value.int 276 0, PySem.Value.int 18 0, PySem.Value.str (PySem.Str.ofString "/claim/cut.py") 277] }
def ob73 (P : Params) : Obj := { cls := PySem.Value.type "function", data := PySem.Data.func { name := PySem.Str.ofString "__init__", qualname := PySem.Str.ofString "TopologicalSorter.__init__", params := pa73, body := PySem.FuncBody.stmts bo73, scope := sc73, globals := 3, closure := [], defaults := PySem.Value.ref 66, kwdefaults := PySem.Value.none, pyModule := PySem.Value.str (PySem.Str.ofString "cpy313.graphlib") 194, code := PySem.Value.ref 72 } }
def ob79 (P : Params) : Obj := { cls := PySem.Value.type "code", data := PySem.Data.fields #[PySem.Value.str (PySem.Str.ofString "_get_nodeinfo") 279, PySem.Value.str (PySem.Str.ofString "TopologicalSorter._get_nodeinfo") 280, PySem.Value.str (PySem.Str.ofString "/claim/cut.py") 281, PySem.Value.int 27 0, PySem.Value.int 2 0, PySem.Value.int 0 0, PySem.Value.int 0 0, PySem.Value.int 3 0, PySem.Value.ref 74, PySem.Value.bool Bool.true, PySem.Value.int 181 0, PySem.Value.ref 75, PySem.Value.none, PySem.Value.ref 76, PySem.Value.ref 77, PySem.Value.ref 78, PySem.Value.int 285 0, PySem.Value.int 27 0, PySem.Value.str (PySem.Str.ofString "/claim/cut.py") 286] }
def ob80 (P : Params) : Obj := { cls := PySem.Value.type "function", data := PySem.Data.func { name := PySem.Str.ofString "_get_nodeinfo", qualname := PySem.Str.ofString "TopologicalSorter._get_nodeinfo", params := pa80, body := PySem.FuncBody.stmts bo80, scope := sc80, globals := 3, closure := [], defaults := PySem.Value.none, kwdefaults := PySem.Value.none, pyModule := PySem.Value.str (PySem.Str.ofString "cpy313.graphlib") 194, code := PySem.Value.ref 79 } }
def ob86 (P : Params) : Obj := { cls := PySem.Value.type "code", data := PySem.Data.fields #[PySem.Value.str (PySem.Str.ofString "add") 288, PySem.Value.str (PySem.Str.ofString "TopologicalSorter.add") 289, PySem.Value.str (PySem.Str.ofString "/claim/cut.py") 290, PySem.Value.int 32 0, PySem.Value.int 2 0, PySem.Value.int 0 0, PySem.Value.int 0 0, PySem.Value.int 7 0, PySem.Value.ref 81, PySem.Value.bool Bool.true, PySem.Value.int 181 0, PySem.Value.ref 82, PySem.Value.none, PySem.Value.ref 83, PySem.Value.ref 84, PySem.Value.ref 85, PySem.Value.int 297 0, PySem.Value.int 32 0, PySem.Value.str (PySem.Str.ofString "/claim/cut.py") 298] }
def ob87 (P : Params) : Obj := { cls := PySem.Value.type "function", data := PySem.Data.func { name := PySem.Str.ofString "add", qualname := PySem.Str.ofString "TopologicalSorter.add", params := pa87, body := PySem.FuncBody.stmts bo87, scope := sc87, globals := 3, closure := [], defaults := PySem.Value.none, kwdefaults := PySem.Value.none, pyModule := PySem.Value.str (PySem.Str.ofString "cpy313.graphlib") 194, code := PySem.Value.ref 86 } }
def ob91 (P : Params) : Obj := { cls := PySem.Value.type "code", data := PySem.Data.fields #[PySem.Value.str (PySem.Str.ofString "prepare") 300, PySem.Value.str (PySem.Str.ofString "TopologicalSorter.prepare") 301, PySem.Value.str (PySem.Str.ofString "/claim/cut.py") 302, PySem.Value.int 41 0, PySem.Value.int 1 0, PySem.Value.int 0 0, PySem.Value.int 0 0, PySem.Value.int 3 0, PySem.Value.ref 88, PySem.Value.bool Bool.true, PySem.Value.int 181 0, PySem.Value.ref 89, PySem.Value.none, PySem.Value.none, PySem.Value.none, PySem.Value.ref 90, PySem.Value.int 303 0, PySem.Value.int 41 0, PySem.Value.str (PySem.Str.ofString "/claim/cut.py") 304] }
def ob92 (P : Params) : Obj := { cls := PySem.Value.type "function", data := PySem.Data.func { name := PySem.Str.ofString "prepare", qualname := PySem.Str.ofString "TopologicalSorter.prepare", params := pa92, body := PySem.FuncBody.stmts bo92, scope := sc92, globals := 3, closure := [], defaults := PySem.Value.none, kwdefaults := PySem.Value.none, pyModule := PySem.Value.str (PySem.Str.ofString "cpy313.graphlib") 194, code := PySem.Value.ref 91 } }
def ob98 (P : Params) : Obj := { cls := PySem.Value.type "code", data := PySem.Data.fields #[PySem.Value.str (PySem.Str.ofString "get_ready") 306, PySem.Value.str (PySem.Str.ofString "TopologicalSorter.get_ready") 307, PySem.Value.str (PySem.Str.ofString "/claim/cut.py") 308, PySem.Value.int 49 0, PySem.Value.int 1 0, PySem.Value.int 0 0, PySem.Value.int 0 0, PySem.Value.int 3 0, PySem.Value.ref 93, PySem.Value.bool Bool.true, PySem.Value.int 181 0, PySem.Value.ref 94, PySem.Value.none, PySem.Value.ref 95, PySem.Value.ref 96, PySem.Value.ref 97, PySem.Value.int 313 0, PySem.Value.int 49 0, PySem.Value.str (PySem.Str.ofString "/claim/cut.py") 314] }
def ob99 (P : Params) : Obj := { cls := PySem.Value.type "function", data := PySem.Data.func { name := PySem.Str.ofString "get_ready", qualname := PySem.Str.ofString "TopologicalSorter.get_ready", params := pa99, body := PySem.FuncBody.stmts bo99, scope := sc99, globals := 3, closure := [], defaults := PySem.Value.none, kwdefaults := PySem.Value.none, pyModule := PySem.Value.str (PySem.Str.ofString "cpy313.graphlib") 194, code := PySem.Value.ref 98 } }
def ob105 (P : Params) : Obj := { cls := PySem.Value.type "code", data := PySem.Data.fields #[PySem.Value.str (PySem.Str.ofString "is_active") 316, PySem.Value.str (PySem.Str.ofString "TopologicalSorter.is_active") 317, PySem.Value.str (PySem.Str.ofString "/claim/cut.py") 318, PySem.Value.int 60 0, PySem.Value.int 1 0, PySem.Value.int 0 0, PySem.Value.int 0 0, PySem.Value.int 3 0, PySem.Value.ref 100, PySem.Value.bool Bool.true, PySem.Value.int 181 0, PySem.Value.ref 101, PySem.Value.none, PySem.Value.ref 102, PySem.Value.ref 103, PySem.Value.ref 104, PySem.Value.int 320 0, PySem.Value.int 60 0, PySem.Value.str (PySem.Str.ofString "/claim/cut.py") 321] }
def ob106 (P : Params) : Obj := { cls := PySem.Value.type "function", data := PySem.Data.func { name := PySem.Str.ofString "is_active", qualname := PySem.Str.ofString "TopologicalSorter.is_active", params := pa106, body := PySem.FuncBody.stmts bo106, scope := sc106, globals := 3, closure := [], defaults := PySem.Value.none, kwdefaults := PySem.Value.none, pyModule := PySem.Value.str (PySem.Str.ofString "cpy313.graphlib") 194, code := PySem.Value.ref 105 } }
def ob119 (P : Params) : Obj := { cls := PySem.Value.type "code", data := PySem.Data.fields #[PySem.Value.str (PySem.Str.ofString "done") 330, PySem.Value.str (PySem.Str.ofString "TopologicalSorter.done") 331, PySem.Value.str (PySem.Str.ofString "/claim/cut.py") 332, PySem.Value.int 68 0, PySem.Value.int 1 0, PySem.Value.int 0 0, PySem.Value.int 0 0, PySem.Value.int 7 0, PySem.Value.ref 114, PySem.Value.bool Bool.true, PySem.Value.int 181 0, PySem.Value.ref 115, PySem.Value.none, PySem.Value.ref 116, PySem.Value.ref 117, PySem.Value.ref 118, PySem.Value.int 341 0, PySem.Value.int 68 0, PySem.Value.str (PySem.Str.ofString "/claim/cut.py") 342] }
def ob120 (P : Params) : Obj := { cls := PySem.Value.type "function", data := PySem.Data.func { name := PySem.Str.ofString "done", qualname := PySem.Str.ofString "TopologicalSorter.done", params := pa120, body := PySem.FuncBody.stmts bo120, scope := sc120, globals := 3, closure := [], defaults := PySem.Value.none, kwdefaults := PySem.Value.none, pyModule := PySem.Value.str (PySem.Str.ofString "cpy313.graphlib") 194, code := PySem.Value.ref 119 } }
def ob126 (P : Params) : Obj := { cls := PySem.Value.type "code", data := PySem.Data.fields #[PySem.Value.str (PySem.Str.ofString "_find_cycle") 344, PySem.Value.str (PySem.Str.ofString "TopologicalSorter._find_cycle") 345, PySem.Value.str (PySem.Str.ofString "/claim/cut.py") 346, PySem.Value.int 91 0, PySem.Value.int 1 0, PySem.Value.int 0 0, PySem.Value.int 0 0, PySem.Value.int 3 0, PySem.Value.ref 121, PySem.Value.bool Bool.true, PySem.Value.int 181 0, PySem.Value.ref 122, PySem.Value.none, PySem.Value.ref 123, PySem.Value.ref 124, PySem.Value.ref 125, PySem.Value.int 354 0, PySem.Value.int 91 0, PySem.Value.str (PySem.Str.ofString "/claim/cut.py") 355] }
def ob127 (P : Params) : Obj := { cls := PySem.Value.type "function", data := PySem.Data.func { name := PySem.Str.ofString "_find_cycle", qualname := PySem.Str.ofString "TopologicalSorter._find_cycle", params := pa127, body := PySem.FuncBody.stmts bo127, scope := sc127, globals := 3, closure := [], defaults := PySem.Value.none, kwdefaults := PySem.Value.none, pyModule := PySem.Value.str (PySem.Str.ofString "cpy313.graphlib") 194, code := PySem.Value.ref 126 } }
def ob136 (P : Params) : Obj := { cls := PySem.Value.type "dict", data := PySem.Data.dict #[{ hash := PyData.keyHash P (PySem.Str.ofString "__module__"), key := PySem.Value.str (PySem.Str.ofString "__module__") 264, val := PySem.Value.str (PySem.Str.ofString "cpy313.graphlib") 194 }, { hash := PyData.keyHash P (PySem.Str.ofString "__firstlineno__"), key := PySem.Value.str (PySem.Str.ofString "__firstlineno__") 268, val := PySem.Value.int 16 267 }, { hash := PyData.keyHash P (PySem.Str.ofString "__init__"), key := PySem.Value.str (PySem.Str.ofString "__init__") 278, val := PySem.Value.ref 73 }, { hash := PyData.keyHash P (PySem.Str.ofString "_get_nodeinfo"), key := PySem.Value.str (PySem.Str.ofString "_get_nodeinfo") 287, val := PySem.Value.ref 80 }, { hash := PyData.keyHash P (PySem.Str.ofString "add"), key := PySem.Value.str (PySem.Str.ofString "add") 299, val := PySem.Value.ref 87 }, { hash := PyData.keyHash P (PySem.Str.ofString "prepare"), key := PySem.Value.str (PySem.Str.ofString "prepare") 305, val := PySem.Value.ref 92 }, { hash := PyData.keyHash P (PySem.Str.ofString "get_ready"), key := PySem.Value.str (PySem.Str.ofString "get_ready") 315, val := PySem.Value.ref 99 }, { hash := PyData.keyHash P (PySem.Str.ofString "is_active"), key := PySem.Value.str (PySem.Str.ofString "is_active") 322, val := PySem.Value.ref 106 }, { hash := PyData.keyHash P (PySem.Str.ofString "__bool__"), key := PySem.Value.str (PySem.Str.ofString "__bool__") 329, val := PySem.Value.ref 113 }, { hash := PyData.keyHash P (PySem.Str.ofString "done"), key := PySem.Value.str (PySem.Str.ofString "done") 343, val := PySem.Value.ref 120 }, { hash := PyData.keyHash P (PySem.Str.ofString "_find_cycle"), key := PySem.Value.str (PySem.Str.ofString "_find_cycle") 356, val := PySem.Value.ref 127 }, { hash := PyData.keyHash P (PySem.Str.ofString "static_order"), key := PySem.Value.str (PySem.Str.ofString "static_order") 363, val := PySem.Value.ref 134 }, { hash := PyData.keyHash P (PySem.Str.ofString "__static_attributes__"), key := PySem.Value.str (PySem.Str.ofString "__static_attributes__") 368, val := PySem.Value.ref 135 }, { hash := PyData.keyHash P (PySem.Str.ofString "__dict__"), key := PySem.Value.str (PySem.Str.ofString "__dict__") 370, val := PySem.Value.ref 138 }, { hash := PyData.keyHash P (PySem.Str.ofString "__weakref__"), key := PySem.Value.str (PySem.Str.ofString "__weakref__") 372, val := PySem.Value.ref 139 }, { hash := PyData.keyHash P (PySem.Str.ofString "__doc__"), key := PySem.Value.str (PySem.Str.ofString "__doc__") 373, val := PySem.Value.none }] 4 }
def ob137 (P : Params) : Obj := { cls := PySem.Value.type "type", data := PySem.Data.cls { name := PySem.Str.ofString "TopologicalSorter", bases := [PySem.Value.type "object"], mro := [PySem.Value.ref 137, PySem.Value.type "object"], ns := 136, qualname := PySem.Str.ofString "TopologicalSorter" }, slots := #[Option.none, Option.none, Option.some (PySem.Value.str (PySem.Str.ofString "TopologicalSorter") 257), Option.some (PySem.Value.str (PySem.Str.ofString "TopologicalSorter") 265), Option.some (PySem.Value.builtin "object.__new__"), Option.some (PySem.Value.bool Bool.true)] }
def ob138 (P : Params) : Obj := { cls := PySem.Value.type "getset_descriptor", data := PySem.Data.fields #[PySem.Value.str (PySem.Str.ofString "__dict__") 369, PySem.Value.ref 137, PySem.Value.builtin "function.__dict__", PySem.Value.builtin "function.__dict__#set"] }
def ob139 (P : Params) : Obj := { cls := PySem.Value.type "getset_descriptor", data := PySem.Data.fields #[PySem.Value.str (PySem.Str.ofString "__weakref__") 371, PySem.Value.ref 137, PySem.Value.builtin "ExceptionGroup.__weakref__", PySem.Value.none] }
def ob142 (P : Params) : Obj := { cls := PySem.Value.type "object" }
def ob143 (P : Params) : Obj := { cls := PySem.Value.type "tuple", data := PySem.Data.seq #[PySem.Value.ref 142] }
def ob149 (P : Params) : Obj := { cls := PySem.Value.type "code", data := PySem.Data.fields #[PySem.Value.str (PySem.Str.ofString "reduce") 379, PySem.Value.str (PySem.Str.ofString "reduce") 380, PySem.Value.str (PySem.Str.ofString "/claim/cut.py") 381, PySem.Value.int 124 0, PySem.Value.int 3 0, PySem.Value.int 0 0, PySem.Value.int 0 0, PySem.Value.int 3 0, PySem.Value.ref 144, PySem.Value.bool Bool.true, PySem.Value.int 181 0, PySem.Value.ref 145, PySem.Value.none, PySem.Value.ref 146, PySem.Value.ref 147, PySem.Value.ref 148, PySem.Value.int 388 0, PySem.Value.int 124 0, PySem.Value.str (PySem.Str.ofString "/claim/cut.py") 389] }
def ob150 (P : Params) : Obj := { cls := PySem.Value.type "function", data := PySem.Data.func { name := PySem.Str.ofString "reduce", qualname := PySem.Str.ofString "reduce", params := pa150, body := PySem.FuncBody.stmts bo150, scope := sc150, globals := 3, closure := [], defaults := PySem.Value.ref 143, kwdefaults := PySem.Value.none, pyModule := PySem.Value.str (PySem.Str.ofString "cpy313.functools") 376, code := PySem.Value.ref 149 } }
def ob156 (P : Params) : Obj := { cls := PySem.Value.type "code", data := PySem.Data.fields #[PySem.Value.str (PySem.Str.ofString "and_") 393, PySem.Value.str (PySem.Str.ofString "and_") 394, PySem.Value.str (PySem.Str.ofString "/claim/cut.py") 395, PySem.Value.int 137 0, PySem.Value.int 2 0, PySem.Value.int 0 0, PySem.Value.int 0 0, PySem.Value.int 3 0, PySem.Value.ref 151, PySem.Value.bool Bool.true, PySem.Value.int 181 0, PySem.Value.ref 152, PySem.Value.none, PySem.Value.ref 153, PySem.Value.ref 154, PySem.Value.ref 155, PySem.Value.int 398 0, PySem.Value.int 137 0, PySem.Value.str (PySem.Str.ofString "/claim/cut.py") 399] }
def ob157 (P : Params) : Obj := { cls := PySem.Value.type "function", data := PySem.Data.func { name := PySem.Str.ofString "and_", qualname := PySem.Str.ofString "and_", params := pa157, body := PySem.FuncBody.stmts bo157, scope := sc157, globals := 3, closure := [], defaults := PySem.Value.none, kwdefaults := PySem.Value.none, pyModule := PySem.Value.str (PySem.Str.ofString "cpy313.operator") 391, code := PySem.Value.ref 156 } }
def ob163 (P : Params) : Obj := { cls := PySem.Value.type "code", data := PySem.Data.fields #[PySem.Value.str (PySem.Str.ofString "mul") 401, PySem.Value.str (PySem.Str.ofString "mul") 402, PySem.Value.str (PySem.Str.ofString "/claim/cut.py") 403, PySem.Value.int 139 0, PySem.Value.int 2 0, PySem.Value.int 0 0, PySem.Value.int 0 0, PySem.Value.int 3 0, PySem.Value.ref 158, PySem.Value.bool Bool.true, PySem.Value.int 181 0, PySem.Value.ref 159, PySem.Value.none, PySem.Value.ref 160, PySem.Value.ref 161, PySem.Value.ref 162, PySem.Value.int 406 0, PySem.Value.int 139 0, PySem.Value.str (PySem.Str.ofString "/claim/cut.py") 407] }
def ob164 (P : Params) : Obj := { cls := PySem.Value.type "function", data := PySem.Data.func { name := PySem.Str.ofString "mul", qualname := PySem.Str.ofString "mul", params := pa164, body := PySem.FuncBody.stmts bo164, scope := sc164, globals := 3, closure := [], defaults := PySem.Value.none, kwdefaults := PySem.Value.none, pyModule := PySem.Value.str (PySem.Str.ofString "cpy313.operator") 391, code := PySem.Value.ref 163 } }
def ob170 (P : Params) : Obj := { cls := PySem.Value.type "code", data := PySem.Data.fields #[PySem.Value.str (PySem.Str.ofString "or_") 409, PySem.Value.str (PySem.Str.ofString "or_") 410, PySem.Value.str (PySem.Str.ofString "/claim/cut.py") 411, PySem.Value.int 141 0, PySem.Value.int 2 0, PySem.Value.int 0 0, PySem.Value.int 0 0, PySem.Value.int 3 0, PySem.Value.ref 165, PySem.Value.bool Bool.true, PySem.Value.int 181 0, PySem.Value.ref 166, PySem.Value.none, PySem.Value.ref 167, PySem.Value.ref 168, PySem.Value.ref 169, PySem.Value.int 414 0, PySem.Value.int 141 0, PySem.Value.str (PySem.Str.ofString "/claim/cut.py") 415] }
def ob171 (P : Params) : Obj := { cls := PySem.Value.type "function", data := PySem.Data.func { name := PySem.Str.ofString "or_", qualname := PySem.Str.ofString "or_", params := pa171, body := PySem.FuncBody.stmts bo171, scope := sc171, globals := 3, closure := [], defaults := PySem.Value.none, kwdefaults := PySem.Value.none, pyModule := PySem.Value.str (PySem.Str.ofString "cpy313.operator") 391, code := PySem.Value.ref 170 } }
def ob175 (P : Params) : Obj := { cls := PySem.Value.type "code", data := PySem.Data.fields #[PySem.Value.str (PySem.Str.ofString "_law_places") 419, PySem.Value.str (PySem.Str.ofString "_law_places") 420, PySem.Value.str (PySem.Str.ofString "/claim/cut.py") 421, PySem.Value.int 144 0, PySem.Value.int 1 0, PySem.Value.int 0 0, PySem.Value.int 0 0, PySem.Value.int 3 0, PySem.Value.ref 172, PySem.Value.bool Bool.true, PySem.Value.int 181 0, PySem.Value.ref 173, PySem.Value.none, PySem.Value.none, PySem.Value.none, PySem.Value.ref 174, PySem.Value.int 422 0, PySem.Value.int 144 0, PySem.Value.str (PySem.Str.ofString "/claim/cut.py") 423] }
def ob176 (P : Params) : Obj := { cls := PySem.Value.type "function", data := PySem.Data.func { name := PySem.Str.ofString "_law_places", qualname := PySem.Str.ofString "_law_places", params := pa176, body := PySem.FuncBody.stmts bo176, scope := sc176, globals := 3, closure := [], defaults := PySem.Value.none, kwdefaults := PySem.Value.none, pyModule := PySem.Value.str (PySem.Str.ofString "law_om0084_01") 417, code := PySem.Value.ref 175 } }
def ob180 (P : Params) : Obj := { cls := PySem.Value.type "code", data := PySem.Data.fields #[PySem.Value.str (PySem.Str.ofString "_law_sorter") 425, PySem.Value.str (PySem.Str.ofString "_law_sorter") 426, PySem.Value.str (PySem.Str.ofString "/claim/cut.py") 427, PySem.Value.int 146 0, PySem.Value.int 2 0, PySem.Value.int 0 0, PySem.Value.int 0 0, PySem.Value.int 3 0, PySem.Value.ref 177, PySem.Value.bool Bool.true, PySem.Value.int 181 0, PySem.Value.ref 178, PySem.Value.none, PySem.Value.none, PySem.Value.none, PySem.Value.ref 179, PySem.Value.int 428 0, PySem.Value.int 146 0, PySem.Value.str (PySem.Str.ofString "/claim/cut.py") 429] }
def ob181 (P : Params) : Obj := { cls := PySem.Value.type "function", data := PySem.Data.func { name := PySem.Str.ofString "_law_sorter", qualname := PySem.Str.ofString "_law_sorter", params := pa181, body := PySem.FuncBody.stmts bo181, scope := sc181, globals := 3, closure := [], defaults := PySem.Value.none, kwdefaults := PySem.Value.none, pyModule := PySem.Value.str (PySem.Str.ofString "law_om0084_01") 417, code := PySem.Value.ref 180 } }
def ob187 (P : Params) : Obj := { cls := PySem.Value.type "code", data := PySem.Data.fields #[PySem.Value.str (PySem.Str.ofString "_law_ring") 431, PySem.Value.str (PySem.Str.ofString "_law_ring") 432, PySem.Value.str (PySem.Str.ofString "/claim/cut.py") 433, PySem.Value.int 154 0, PySem.Value.int 1 0, PySem.Value.int 0 0, PySem.Value.int 0 0, PySem.Value.int 3 0, PySem.Value.ref 182, PySem.Value.bool Bool.true, PySem.Value.int 181 0, PySem.Value.ref 183, PySem.Value.none, PySem.Value.ref 184, PySem.Value.ref 185, PySem.Value.ref 186, PySem.Value.int 436 0, PySem.Value.int 154 0, PySem.Value.str (PySem.Str.ofString "/claim/cut.py") 437] }
def ob188 (P : Params) : Obj := { cls := PySem.Value.type "function", data := PySem.Data.func { name := PySem.Str.ofString "_law_ring", qualname := PySem.Str.ofString "_law_ring", params := pa188, body := PySem.FuncBody.stmts bo188, scope := sc188, globals := 3, closure := [], defaults := PySem.Value.none, kwdefaults := PySem.Value.none, pyModule := PySem.Value.str (PySem.Str.ofString "law_om0084_01") 417, code := PySem.Value.ref 187 } }
def ob194 (P : Params) : Obj := { cls := PySem.Value.type "code", data := PySem.Data.fields #[PySem.Value.str (PySem.Str.ofString "_law_wedge") 439, PySem.Value.str (PySem.Str.ofString "_law_wedge") 440, PySem.Value.str (PySem.Str.ofString "/claim/cut.py") 441, PySem.Value.int 160 0, PySem.Value.int 2 0, PySem.Value.int 0 0, PySem.Value.int 0 0, PySem.Value.int 3 0, PySem.Value.ref 189, PySem.Value.bool Bool.true, PySem.Value.int 181 0, PySem.Value.ref 190, PySem.Value.none, PySem.Value.ref 191, PySem.Value.ref 192, PySem.Value.ref 193, PySem.Value.int 449 0, PySem.Value.int 160 0, PySem.Value.str (PySem.Str.ofString "/claim/cut.py") 450] }
def ob195 (P : Params) : Obj := { cls := PySem.Value.type "function", data := PySem.Data.func { name := PySem.Str.ofString "_law_wedge", qualname := PySem.Str.ofString "_law_wedge", params := pa195, body := PySem.FuncBody.stmts bo195, scope := sc195, globals := 3, closure := [], defaults := PySem.Value.none, kwdefaults := PySem.Value.none, pyModule := PySem.Value.str (PySem.Str.ofString "law_om0084_01") 417, code := PySem.Value.ref 194 } }
def ob201 (P : Params) : Obj := { cls := PySem.Value.type "code", data := PySem.Data.fields #[PySem.Value.str (PySem.Str.ofString "_law_determinant") 452, PySem.Value.str (PySem.Str.ofString "_law_determinant") 453, PySem.Value.str (PySem.Str.ofString "/claim/cut.py") 454, PySem.Value.int 171 0, PySem.Value.int 1 0, PySem.Value.int 0 0, PySem.Value.int 0 0, PySem.Value.int 3 0, PySem.Value.ref 196, PySem.Value.bool Bool.true, PySem.Value.int 181 0, PySem.Value.ref 197, PySem.Value.none, PySem.Value.ref 198, PySem.Value.ref 199, PySem.Value.ref 200, PySem.Value.int 456 0, PySem.Value.int 171 0, PySem.Value.str (PySem.Str.ofString "/claim/cut.py") 457] }
def ob202 (P : Params) : Obj := { cls := PySem.Value.type "function", data := PySem.Data.func { name := PySem.Str.ofString "_law_determinant", qualname := PySem.Str.ofString "_law_determinant", params := pa202, body := PySem.FuncBody.stmts bo202, scope := sc202, globals := 3, closure := [], defaults := PySem.Value.none, kwdefaults := PySem.Value.none, pyModule := PySem.Value.str (PySem.Str.ofString "law_om0084_01") 417, code := PySem.Value.ref 201 } }
def ob206 (P : Params) : Obj := { cls := PySem.Value.type "code", data := PySem.Data.fields #[PySem.Value.str (PySem.Str.ofString "law") 459, PySem.Value.str (PySem.Str.ofString "law") 460, PySem.Value.str (PySem.Str.ofString "/claim/cut.py") 461, PySem.Value.int 173 0, PySem.Value.int 1 0, PySem.Value.int 0 0, PySem.Value.int 0 0, PySem.Value.int 3 0, PySem.Value.ref 203, PySem.Value.bool Bool.true, PySem.Value.int 181 0, PySem.Value.ref 204, PySem.Value.none, PySem.Value.none, PySem.Value.none, PySem.Value.ref 205, PySem.Value.int 462 0, PySem.Value.int 173 0, PySem.Value.str (PySem.Str.ofString "/claim/cut.py") 463] }
def ob207 (P : Params) : Obj := { cls := PySem.Value.type "function", data := PySem.Data.func { name := PySem.Str.ofString "law", qualname := PySem.Str.ofString "law", params := pa207, body := PySem.FuncBody.stmts bo207, scope := sc207, globals := 3, closure := [], defaults := PySem.Value.none, kwdefaults := PySem.Value.none, pyModule := PySem.Value.str (PySem.Str.ofString "law_om0084_01") 417, code := PySem.Value.ref 206 } }
def K0 (P : Params) : Frag := [(1, ob1 P), (2, ob2 P), (3, ob3 P), (35, ob35 P), (36, ob36 P), (39, ob39 P), (40, ob40 P), (41, ob41 P), (42, ob42 P), (43, ob43 P), (54, ob54 P), (55, ob55 P), (56, ob56 P), (66, ob66 P), (72, ob72 P), (73, ob73 P), (79, ob79 P), (80, ob80 P), (86, ob86 P), (87, ob87 P), (91, ob91 P), (92, ob92 P), (98, ob98 P), (99, ob99 P), (105, ob105 P), (106, ob106 P), (119, ob119 P), (120, ob120 P), (126, ob126 P), (127, ob127 P), (136, ob136 P), (137, ob137 P), (138, ob138 P), (139, ob139 P), (142, ob142 P), (143, ob143 P), (149, ob149 P), (150, ob150 P), (156, ob156 P), (157, ob157 P), (163, ob163 P), (164, ob164 P), (170, ob170 P), (171, ob171 P), (175, ob175 P), (176, ob176 P), (180, ob180 P), (181, ob181 P), (187, ob187 P), (188, ob188 P), (194, ob194 P), (195, ob195 P), (201, ob201 P), (202, ob202 P), (206, ob206 P), (207, ob207 P)]
def as0 : List Addr := [1, 2, 3, 35, 36, 39, 40, 41, 42, 43, 54, 55, 56, 66, 72, 73, 79, 80, 86, 87, 91, 92, 98, 99, 105, 106, 119, 120, 126, 127, 136, 137, 138, 139, 142, 143, 149, 150, 156, 157, 163, 164, 170, 171, 175, 176, 180, 181, 187, 188, 194, 195, 201, 202, 206, 207]
def qV : Program := { PR with main := { PR.main with body := [topS 0, topS 2, topS 3, topS 4, topS 5, topS 6, topS 8, topS 11, topS 12, topS 13, topS 15, topS 16, topS 17, topS 18, topS 19, topS 20] } }
def loose0 : List PySem.Str := [PySem.Str.ofString "_NodeInfo", PySem.Str.ofString "_initial_missing", PySem.Str.ofString "reduce"]
theorem as0_eq (P : Params) : as0 = (K0 P).map (·.1) := by kernel_rfl
def H0 : Hook := kHook K0 as0 as0_eq
theorem said0 : (PySem.Challenge.rw_om0084_01).wellSaid = true := by
  unfold OpenLaw.wellSaid
  unfold OpenRow.wellSaid OpenRow.partSaid looksOpen
  repeat' (with_reducible refine look_both ?_ ?_)
  all_goals decide +kernel
def pa21 : Arguments := fnA (topS 0)
def bo21 : List Stmt := fnB (topS 0)
def sc21 : Scope := fnS (topS 0)
def pa113 : Arguments := fnA (clB 6 6)
def bo113 : List Stmt := fnB (clB 6 6)
def sc113 : Scope := fnS (clB 6 6)
def pa134 : Arguments := fnA (clB 6 9)
def bo134 : List Stmt := fnB (clB 6 9)
def sc134 : Scope := fnS (clB 6 9)
def zo0 (P : Params) : Obj := { cls := PySem.Value.type "tuple", data := PySem.Data.seq #[] }
def zo1 (P : Params) : Obj := { cls := PySem.Value.none, data := PySem.Data.fields #[] }
def zo2 (P : Params) : Obj := { cls := PySem.Value.type "code", data := PySem.Data.fields #[PySem.Value.str (PySem.Str.ofString "<module>") 182, PySem.Value.str (PySem.Str.ofString "<module>") 183, PySem.Value.str (PySem.Str.ofString "/claim/cut.py") 184, PySem.Value.int 1 0, PySem.Value.int 0 0, PySem.Value.int 0 0, PySem.Value.int 0 0, PySem.Value.int 0 0, PySem.Value.ref 11, PySem.Value.bool Bool.false, PySem.Value.int 181 0, PySem.Value.ref 12, PySem.Value.none, PySem.Value.none, PySem.Value.none, PySem.Value.none, PySem.Value.int 185 0, PySem.Value.int 1 0, PySem.Value.str (PySem.Str.ofString "/claim/cut.py") 186] }
def zo3 (P : Params) : Obj := { cls := PySem.Value.type "frame", slots := #[Option.some (PySem.Value.ref 13), Option.some (PySem.Value.ref 3), Option.some (PySem.Value.ref 3), Option.none, Option.some (PySem.Value.str (PySem.Str.ofString "__main__") 164), Option.none, Option.some (PySem.Value.ref 0)] }
def zo4 (P : Params) : Obj := { cls := PySem.Value.type "dict", data := PySem.Data.dict #[{ hash := PySem.PyData.keyHash P (PySem.Str.ofString "__name__"), key := PySem.Value.str (PySem.Str.ofString "__name__") 165, val := PySem.Value.str (PySem.Str.ofString "cpy313.graphlib") 194 }, { hash := PySem.PyData.keyHash P (PySem.Str.ofString "__doc__"), key := PySem.Value.str (PySem.Str.ofString "__doc__") 166, val := PySem.Value.none }, { hash := PySem.PyData.keyHash P (PySem.Str.ofString "__package__"), key := PySem.Value.str (PySem.Str.ofString "__package__") 167, val := PySem.Value.none }, { hash := PySem.PyData.keyHash P (PySem.Str.ofString "__loader__"), key := PySem.Value.str (PySem.Str.ofString "__loader__") 168, val := PySem.Value.builtin "__main__.__loader__#opaque" }, { hash := PySem.PyData.keyHash P (PySem.Str.ofString "__spec__"), key := PySem.Value.str (PySem.Str.ofString "__spec__") 169, val := PySem.Value.none }, { hash := PySem.PyData.keyHash P (PySem.Str.ofString "__annotations__"), key := PySem.Value.str (PySem.Str.ofString "__annotations__") 170, val := PySem.Value.ref 6 }, { hash := PySem.PyData.keyHash P (PySem.Str.ofString "__builtins__"), key := PySem.Value.str (PySem.Str.ofString "__builtins__") 171, val := PySem.Value.ref 4 }, { hash := PySem.PyData.keyHash P (PySem.Str.ofString "__file__"), key := PySem.Value.str (PySem.Str.ofString "__file__") 173, val := PySem.Value.str (PySem.Str.ofString "/claim/cut.py") 172 }, { hash := PySem.PyData.keyHash P (PySem.Str.ofString "__cached__"), key := PySem.Value.str (PySem.Str.ofString "__cached__") 174, val := PySem.Value.none }, { hash := PySem.PyData.keyHash P (PySem.Str.ofString "_wall"), key := PySem.Value.str (PySem.Str.ofString "_wall") 193, val := PySem.Value.ref 21 }, { hash := PySem.PyData.keyHash P (PySem.Str.ofString "_NODE_OUT"), key := PySem.Value.str (PySem.Str.ofString "_NODE_OUT") 198, val := PySem.Value.int (-1) 197 }, { hash := PySem.PyData.keyHash P (PySem.Str.ofString "_NODE_DONE"), key := PySem.Value.str (PySem.Str.ofString "_NODE_DONE") 201, val := PySem.Value.int (-2) 200 }, { hash := PySem.PyData.keyHash P (PySem.Str.ofString "_NodeInfo"), key := PySem.Value.str (PySem.Str.ofString "_NodeInfo") 238, val := PySem.Value.ref 40 }, { hash := PySem.PyData.keyHash P (PySem.Str.ofString "CycleError"), key := PySem.Value.str (PySem.Str.ofString "CycleError") 256, val := PySem.Value.ref 55 }] 14 }
def zo5 (P : Params) : Obj := { cls := PySem.Value.none, data := PySem.Data.fields #[PySem.Value.int 1 0, PySem.Value.int 0 0, PySem.Value.ref 20, PySem.Value.int 7 0, PySem.Value.int 0 0, PySem.Value.ref 27, PySem.Value.int 14 0, PySem.Value.int 0 0, PySem.Value.ref 51] }
def zo6 (P : Params) : Obj := { cls := PySem.Value.type "tuple", data := PySem.Data.seq #[] }
def zo7 (P : Params) : Obj := { cls := PySem.Value.none, data := PySem.Data.fields #[] }
def zo8 (P : Params) : Obj := { cls := PySem.Value.type "tuple", data := PySem.Data.seq #[PySem.Value.str (PySem.Str.ofString "k") 190] }
def zo9 (P : Params) : Obj := { cls := PySem.Value.type "tuple", data := PySem.Data.seq #[] }
def zo10 (P : Params) : Obj := { cls := PySem.Value.none, data := PySem.Data.func { name := PySem.Str.ofString "_wall", qualname := PySem.Str.ofString "_wall", params := pa21, body := PySem.FuncBody.stmts bo21, scope := sc21, globals := 0, closure := [], defaults := PySem.Value.none, kwdefaults := PySem.Value.none } }
def zo11 (P : Params) : Obj := { cls := PySem.Value.type "code", data := PySem.Data.fields #[PySem.Value.str (PySem.Str.ofString "_wall") 187, PySem.Value.str (PySem.Str.ofString "_wall") 188, PySem.Value.str (PySem.Str.ofString "/claim/cut.py") 189, PySem.Value.int 1 0, PySem.Value.int 1 0, PySem.Value.int 0 0, PySem.Value.int 0 0, PySem.Value.int 3 0, PySem.Value.ref 15, PySem.Value.bool Bool.true, PySem.Value.int 181 0, PySem.Value.ref 16, PySem.Value.none, PySem.Value.ref 17, PySem.Value.ref 18, PySem.Value.ref 19, PySem.Value.int 191 0, PySem.Value.int 1 0, PySem.Value.str (PySem.Str.ofString "/claim/cut.py") 192] }
def zo12 (P : Params) : Obj := { cls := PySem.Value.type "function", data := PySem.Data.func { name := PySem.Str.ofString "_wall", qualname := PySem.Str.ofString "_wall", params := pa21, body := PySem.FuncBody.stmts bo21, scope := sc21, globals := 3, closure := [], defaults := PySem.Value.none, kwdefaults := PySem.Value.none, pyModule := PySem.Value.str (PySem.Str.ofString "__main__") 164, code := PySem.Value.ref 20 } }
def zo13 (P : Params) : Obj := { cls := PySem.Value.type "tuple", data := PySem.Data.seq #[] }
def zo14 (P : Params) : Obj := { cls := PySem.Value.type "builtin_function_or_method", data := PySem.Data.fields #[PySem.Value.builtin "type.__prepare__", PySem.Value.type "type"] }
def zo15 (P : Params) : Obj := { cls := PySem.Value.type "dict", data := PySem.Data.dict #[{ hash := PySem.PyData.keyHash P (PySem.Str.ofString "__module__"), key := PySem.Value.str (PySem.Str.ofString "__module__") 209, val := PySem.Value.str (PySem.Str.ofString "cpy313.graphlib") 194 }, { hash := PySem.PyData.keyHash P (PySem.Str.ofString "__qualname__"), key := PySem.Value.str (PySem.Str.ofString "__qualname__") 211, val := PySem.Value.str (PySem.Str.ofString "_NodeInfo") 210 }, { hash := PySem.PyData.keyHash P (PySem.Str.ofString "__firstlineno__"), key := PySem.Value.str (PySem.Str.ofString "__firstlineno__") 213, val := PySem.Value.int 7 212 }, { hash := PySem.PyData.keyHash P (PySem.Str.ofString "__slots__"), key := PySem.Value.str (PySem.Str.ofString "__slots__") 217, val := PySem.Value.ref 29 }, { hash := PySem.PyData.keyHash P (PySem.Str.ofString "__init__"), key := PySem.Value.str (PySem.Str.ofString "__init__") 225, val := PySem.Value.ref 36 }, { hash := PySem.PyData.keyHash P (PySem.Str.ofString "__static_attributes__"), key := PySem.Value.str (PySem.Str.ofString "__static_attributes__") 229, val := PySem.Value.ref 37 }] 6 }
def zo16 (P : Params) : Obj := { cls := PySem.Value.type "tuple", data := PySem.Data.seq #[] }
def zo17 (P : Params) : Obj := { cls := PySem.Value.none, data := PySem.Data.fields #[PySem.Value.int 10 0, PySem.Value.int 4 0, PySem.Value.ref 35] }
def zo18 (P : Params) : Obj := { cls := PySem.Value.type "code", data := PySem.Data.fields #[PySem.Value.str (PySem.Str.ofString "_NodeInfo") 204, PySem.Value.str (PySem.Str.ofString "_NodeInfo") 205, PySem.Value.str (PySem.Str.ofString "/claim/cut.py") 206, PySem.Value.int 7 0, PySem.Value.int 0 0, PySem.Value.int 0 0, PySem.Value.int 0 0, PySem.Value.int 0 0, PySem.Value.ref 25, PySem.Value.bool Bool.false, PySem.Value.int 181 0, PySem.Value.ref 26, PySem.Value.none, PySem.Value.none, PySem.Value.none, PySem.Value.none, PySem.Value.int 207 0, PySem.Value.int 7 0, PySem.Value.str (PySem.Str.ofString "/claim/cut.py") 208] }
def zo19 (P : Params) : Obj := { cls := PySem.Value.type "frame", slots := #[Option.some (PySem.Value.ref 27), Option.some (PySem.Value.ref 3), Option.some (PySem.Value.ref 24), Option.none, Option.some (PySem.Value.str (PySem.Str.ofString "cpy313.graphlib") 194), Option.none, Option.some (PySem.Value.ref 0)] }
def zo20 (P : Params) : Obj := { cls := PySem.Value.type "tuple", data := PySem.Data.seq #[PySem.Value.str (PySem.Str.ofString "node") 214, PySem.Value.str (PySem.Str.ofString "npredecessors") 215, PySem.Value.str (PySem.Str.ofString "successors") 216] }
def zo21 (P : Params) : Obj := { cls := PySem.Value.type "tuple", data := PySem.Data.seq #[] }
def zo22 (P : Params) : Obj := { cls := PySem.Value.none, data := PySem.Data.fields #[] }
def zo23 (P : Params) : Obj := { cls := PySem.Value.type "tuple", data := PySem.Data.seq #[PySem.Value.str (PySem.Str.ofString "self") 221, PySem.Value.str (PySem.Str.ofString "node") 222] }
def zo24 (P : Params) : Obj := { cls := PySem.Value.type "tuple", data := PySem.Data.seq #[] }
def zo25 (P : Params) : Obj := { cls := PySem.Value.none, data := PySem.Data.func { name := PySem.Str.ofString "__init__", qualname := PySem.Str.ofString "_NodeInfo.__init__", params := pa36, body := PySem.FuncBody.stmts bo36, scope := sc36, globals := 0, closure := [], defaults := PySem.Value.none, kwdefaults := PySem.Value.none } }
def zo28 (P : Params) : Obj := { cls := PySem.Value.type "tuple", data := PySem.Data.seq #[PySem.Value.str (PySem.Str.ofString "node") 226, PySem.Value.str (PySem.Str.ofString "npredecessors") 227, PySem.Value.str (PySem.Str.ofString "successors") 228] }
def zo29 (P : Params) : Obj := { cls := PySem.Value.type "list", data := PySem.Data.seq #[PySem.Value.str (PySem.Str.ofString "node") 214, PySem.Value.str (PySem.Str.ofString "npredecessors") 215, PySem.Value.str (PySem.Str.ofString "successors") 216] 1 }
def zo35 (P : Params) : Obj := { cls := PySem.Value.type "super", data := PySem.Data.fields #[PySem.Value.ref 40, PySem.Value.ref 40, PySem.Value.ref 40] }
def zo36 (P : Params) : Obj := { cls := PySem.Value.type "builtin_function_or_method", data := PySem.Data.fields #[PySem.Value.builtin "object.__init_subclass__", PySem.Value.ref 40] }
def zo37 (P : Params) : Obj := { cls := PySem.Value.type "tuple", data := PySem.Data.seq #[PySem.Value.type "ValueError"] }
def zo38 (P : Params) : Obj := { cls := PySem.Value.type "builtin_function_or_method", data := PySem.Data.fields #[PySem.Value.builtin "type.__prepare__", PySem.Value.type "type"] }
def zo39 (P : Params) : Obj := { cls := PySem.Value.type "dict", data := PySem.Data.dict #[{ hash := PySem.PyData.keyHash P (PySem.Str.ofString "__module__"), key := PySem.Value.str (PySem.Str.ofString "__module__") 246, val := PySem.Value.str (PySem.Str.ofString "cpy313.graphlib") 194 }, { hash := PySem.PyData.keyHash P (PySem.Str.ofString "__qualname__"), key := PySem.Value.str (PySem.Str.ofString "__qualname__") 248, val := PySem.Value.str (PySem.Str.ofString "CycleError") 247 }, { hash := PySem.PyData.keyHash P (PySem.Str.ofString "__firstlineno__"), key := PySem.Value.str (PySem.Str.ofString "__firstlineno__") 250, val := PySem.Value.int 14 249 }, { hash := PySem.PyData.keyHash P (PySem.Str.ofString "__static_attributes__"), key := PySem.Value.str (PySem.Str.ofString "__static_attributes__") 251, val := PySem.Value.ref 53 }] 4 }
def zo40 (P : Params) : Obj := { cls := PySem.Value.type "tuple", data := PySem.Data.seq #[] }
def zo41 (P : Params) : Obj := { cls := PySem.Value.none, data := PySem.Data.fields #[] }
def zo42 (P : Params) : Obj := { cls := PySem.Value.type "code", data := PySem.Data.fields #[PySem.Value.str (PySem.Str.ofString "CycleError") 241, PySem.Value.str (PySem.Str.ofString "CycleError") 242, PySem.Value.str (PySem.Str.ofString "/claim/cut.py") 243, PySem.Value.int 14 0, PySem.Value.int 0 0, PySem.Value.int 0 0, PySem.Value.int 0 0, PySem.Value.int 0 0, PySem.Value.ref 49, PySem.Value.bool Bool.false, PySem.Value.int 181 0, PySem.Value.ref 50, PySem.Value.none, PySem.Value.none, PySem.Value.none, PySem.Value.none, PySem.Value.int 244 0, PySem.Value.int 14 0, PySem.Value.str (PySem.Str.ofString "/claim/cut.py") 245] }
def zo43 (P : Params) : Obj := { cls := PySem.Value.type "frame", slots := #[Option.some (PySem.Value.ref 51), Option.some (PySem.Value.ref 3), Option.some (PySem.Value.ref 48), Option.none, Option.some (PySem.Value.str (PySem.Str.ofString "cpy313.graphlib") 194), Option.none, Option.some (PySem.Value.ref 0)] }
def zo44 (P : Params) : Obj := { cls := PySem.Value.type "tuple", data := PySem.Data.seq #[] }
def zo48 (P : Params) : Obj := { cls := PySem.Value.type "super", data := PySem.Data.fields #[PySem.Value.ref 55, PySem.Value.ref 55, PySem.Value.ref 55] }
def zo49 (P : Params) : Obj := { cls := PySem.Value.type "builtin_function_or_method", data := PySem.Data.fields #[PySem.Value.builtin "object.__init_subclass__", PySem.Value.ref 55] }
def zo50 (P : Params) : Obj := { cls := PySem.Value.type "dict", data := PySem.Data.dict #[{ hash := PySem.PyData.keyHash P (PySem.Str.ofString "__name__"), key := PySem.Value.str (PySem.Str.ofString "__name__") 165, val := PySem.Value.str (PySem.Str.ofString "cpy313.graphlib") 194 }, { hash := PySem.PyData.keyHash P (PySem.Str.ofString "__doc__"), key := PySem.Value.str (PySem.Str.ofString "__doc__") 166, val := PySem.Value.none }, { hash := PySem.PyData.keyHash P (PySem.Str.ofString "__package__"), key := PySem.Value.str (PySem.Str.ofString "__package__") 167, val := PySem.Value.none }, { hash := PySem.PyData.keyHash P (PySem.Str.ofString "__loader__"), key := PySem.Value.str (PySem.Str.ofString "__loader__") 168, val := PySem.Value.builtin "__main__.__loader__#opaque" }, { hash := PySem.PyData.keyHash P (PySem.Str.ofString "__spec__"), key := PySem.Value.str (PySem.Str.ofString "__spec__") 169, val := PySem.Value.none }, { hash := PySem.PyData.keyHash P (PySem.Str.ofString "__annotations__"), key := PySem.Value.str (PySem.Str.ofString "__annotations__") 170, val := PySem.Value.ref 6 }, { hash := PySem.PyData.keyHash P (PySem.Str.ofString "__builtins__"), key := PySem.Value.str (PySem.Str.ofString "__builtins__") 171, val := PySem.Value.ref 4 }, { hash := PySem.PyData.keyHash P (PySem.Str.ofString "__file__"), key := PySem.Value.str (PySem.Str.ofString "__file__") 173, val := PySem.Value.str (PySem.Str.ofString "/claim/cut.py") 172 }, { hash := PySem.PyData.keyHash P (PySem.Str.ofString "__cached__"), key := PySem.Value.str (PySem.Str.ofString "__cached__") 174, val := PySem.Value.none }, { hash := PySem.PyData.keyHash P (PySem.Str.ofString "_wall"), key := PySem.Value.str (PySem.Str.ofString "_wall") 193, val := PySem.Value.ref 21 }, { hash := PySem.PyData.keyHash P (PySem.Str.ofString "_NODE_OUT"), key := PySem.Value.str (PySem.Str.ofString "_NODE_OUT") 198, val := PySem.Value.int (-1) 197 }, { hash := PySem.PyData.keyHash P (PySem.Str.ofString "_NODE_DONE"), key := PySem.Value.str (PySem.Str.ofString "_NODE_DONE") 201, val := PySem.Value.int (-2) 200 }, { hash := PySem.PyData.keyHash P (PySem.Str.ofString "_NodeInfo"), key := PySem.Value.str (PySem.Str.ofString "_NodeInfo") 238, val := PySem.Value.ref 40 }, { hash := PySem.PyData.keyHash P (PySem.Str.ofString "CycleError"), key := PySem.Value.str (PySem.Str.ofString "CycleError") 256, val := PySem.Value.ref 55 }, { hash := PySem.PyData.keyHash P (PySem.Str.ofString "TopologicalSorter"), key := PySem.Value.str (PySem.Str.ofString "TopologicalSorter") 375, val := PySem.Value.ref 137 }] 15 }
def zo51 (P : Params) : Obj := { cls := PySem.Value.none, data := PySem.Data.fields #[PySem.Value.int 1 0, PySem.Value.int 0 0, PySem.Value.ref 20, PySem.Value.int 7 0, PySem.Value.int 0 0, PySem.Value.ref 27, PySem.Value.int 14 0, PySem.Value.int 0 0, PySem.Value.ref 51, PySem.Value.int 16 0, PySem.Value.int 0 0, PySem.Value.ref 64] }
def zo52 (P : Params) : Obj := { cls := PySem.Value.type "tuple", data := PySem.Data.seq #[] }
def zo53 (P : Params) : Obj := { cls := PySem.Value.type "builtin_function_or_method", data := PySem.Data.fields #[PySem.Value.builtin "type.__prepare__", PySem.Value.type "type"] }
def zo54 (P : Params) : Obj := { cls := PySem.Value.type "dict", data := PySem.Data.dict #[{ hash := PySem.PyData.keyHash P (PySem.Str.ofString "__module__"), key := PySem.Value.str (PySem.Str.ofString "__module__") 264, val := PySem.Value.str (PySem.Str.ofString "cpy313.graphlib") 194 }, { hash := PySem.PyData.keyHash P (PySem.Str.ofString "__qualname__"), key := PySem.Value.str (PySem.Str.ofString "__qualname__") 266, val := PySem.Value.str (PySem.Str.ofString "TopologicalSorter") 265 }, { hash := PySem.PyData.keyHash P (PySem.Str.ofString "__firstlineno__"), key := PySem.Value.str (PySem.Str.ofString "__firstlineno__") 268, val := PySem.Value.int 16 267 }, { hash := PySem.PyData.keyHash P (PySem.Str.ofString "__init__"), key := PySem.Value.str (PySem.Str.ofString "__init__") 278, val := PySem.Value.ref 73 }, { hash := PySem.PyData.keyHash P (PySem.Str.ofString "_get_nodeinfo"), key := PySem.Value.str (PySem.Str.ofString "_get_nodeinfo") 287, val := PySem.Value.ref 80 }, { hash := PySem.PyData.keyHash P (PySem.Str.ofString "add"), key := PySem.Value.str (PySem.Str.ofString "add") 299, val := PySem.Value.ref 87 }, { hash := PySem.PyData.keyHash P (PySem.Str.ofString "prepare"), key := PySem.Value.str (PySem.Str.ofString "prepare") 305, val := PySem.Value.ref 92 }, { hash := PySem.PyData.keyHash P (PySem.Str.ofString "get_ready"), key := PySem.Value.str (PySem.Str.ofString "get_ready") 315, val := PySem.Value.ref 99 }, { hash := PySem.PyData.keyHash P (PySem.Str.ofString "is_active"), key := PySem.Value.str (PySem.Str.ofString "is_active") 322, val := PySem.Value.ref 106 }, { hash := PySem.PyData.keyHash P (PySem.Str.ofString "__bool__"), key := PySem.Value.str (PySem.Str.ofString "__bool__") 329, val := PySem.Value.ref 113 }, { hash := PySem.PyData.keyHash P (PySem.Str.ofString "done"), key := PySem.Value.str (PySem.Str.ofString "done") 343, val := PySem.Value.ref 120 }, { hash := PySem.PyData.keyHash P (PySem.Str.ofString "_find_cycle"), key := PySem.Value.str (PySem.Str.ofString "_find_cycle") 356, val := PySem.Value.ref 127 }, { hash := PySem.PyData.keyHash P (PySem.Str.ofString "static_order"), key := PySem.Value.str (PySem.Str.ofString "static_order") 363, val := PySem.Value.ref 134 }, { hash := PySem.PyData.keyHash P (PySem.Str.ofString "__static_attributes__"), key := PySem.Value.str (PySem.Str.ofString "__static_attributes__") 368, val := PySem.Value.ref 135 }] 14 }
def zo55 (P : Params) : Obj := { cls := PySem.Value.type "tuple", data := PySem.Data.seq #[] }
def zo56 (P : Params) : Obj := { cls := PySem.Value.none, data := PySem.Data.fields #[PySem.Value.int 18 0, PySem.Value.int 4 0, PySem.Value.ref 72, PySem.Value.int 27 0, PySem.Value.int 4 0, PySem.Value.ref 79, PySem.Value.int 32 0, PySem.Value.int 4 0, PySem.Value.ref 86, PySem.Value.int 41 0, PySem.Value.int 4 0, PySem.Value.ref 91, PySem.Value.int 49 0, PySem.Value.int 4 0, PySem.Value.ref 98, PySem.Value.int 60 0, PySem.Value.int 4 0, PySem.Value.ref 105, PySem.Value.int 65 0, PySem.Value.int 4 0, PySem.Value.ref 112, PySem.Value.int 68 0, PySem.Value.int 4 0, PySem.Value.ref 119, PySem.Value.int 91 0, PySem.Value.int 4 0, PySem.Value.ref 126, PySem.Value.int 120 0, PySem.Value.int 4 0, PySem.Value.ref 133] }
def zo57 (P : Params) : Obj := { cls := PySem.Value.type "code", data := PySem.Data.fields #[PySem.Value.str (PySem.Str.ofString "TopologicalSorter") 259, PySem.Value.str (PySem.Str.ofString "TopologicalSorter") 260, PySem.Value.str (PySem.Str.ofString "/claim/cut.py") 261, PySem.Value.int 16 0, PySem.Value.int 0 0, PySem.Value.int 0 0, PySem.Value.int 0 0, PySem.Value.int 0 0, PySem.Value.ref 62, PySem.Value.bool Bool.false, PySem.Value.int 181 0, PySem.Value.ref 63, PySem.Value.none, PySem.Value.none, PySem.Value.none, PySem.Value.none, PySem.Value.int 262 0, PySem.Value.int 16 0, PySem.Value.str (PySem.Str.ofString "/claim/cut.py") 263] }
def zo58 (P : Params) : Obj := { cls := PySem.Value.type "frame", slots := #[Option.some (PySem.Value.ref 64), Option.some (PySem.Value.ref 3), Option.some (PySem.Value.ref 61), Option.none, Option.some (PySem.Value.str (PySem.Str.ofString "cpy313.graphlib") 194), Option.none, Option.some (PySem.Value.ref 0)] }
def zo60 (P : Params) : Obj := { cls := PySem.Value.type "tuple", data := PySem.Data.seq #[] }
def zo61 (P : Params) : Obj := { cls := PySem.Value.none, data := PySem.Data.fields #[] }
def zo62 (P : Params) : Obj := { cls := PySem.Value.type "tuple", data := PySem.Data.seq #[PySem.Value.str (PySem.Str.ofString "self") 272, PySem.Value.str (PySem.Str.ofString "graph") 273, PySem.Value.str (PySem.Str.ofString "node") 274, PySem.Value.str (PySem.Str.ofString "predecessors") 275] }
def zo63 (P : Params) : Obj := { cls := PySem.Value.type "tuple", data := PySem.Data.seq #[] }
def zo64 (P : Params) : Obj := { cls := PySem.Value.none, data := PySem.Data.func { name := PySem.Str.ofString "__init__", qualname := PySem.Str.ofString "TopologicalSorter.__init__", params := pa73, body := PySem.FuncBody.stmts bo73, scope := sc73, globals := 0, closure := [], defaults := PySem.Value.none, kwdefaults := PySem.Value.none } }
def zo67 (P : Params) : Obj := { cls := PySem.Value.type "tuple", data := PySem.Data.seq #[] }
def zo68 (P : Params) : Obj := { cls := PySem.Value.none, data := PySem.Data.fields #[] }
def zo69 (P : Params) : Obj := { cls := PySem.Value.type "tuple", data := PySem.Data.seq #[PySem.Value.str (PySem.Str.ofString "self") 282, PySem.Value.str (PySem.Str.ofString "node") 283, PySem.Value.str (PySem.Str.ofString "result") 284] }
def zo70 (P : Params) : Obj := { cls := PySem.Value.type "tuple", data := PySem.Data.seq #[] }
def zo71 (P : Params) : Obj := { cls := PySem.Value.none, data := PySem.Data.func { name := PySem.Str.ofString "_get_nodeinfo", qualname := PySem.Str.ofString "TopologicalSorter._get_nodeinfo", params := pa80, body := PySem.FuncBody.stmts bo80, scope := sc80, globals := 0, closure := [], defaults := PySem.Value.none, kwdefaults := PySem.Value.none } }
def zo74 (P : Params) : Obj := { cls := PySem.Value.type "tuple", data := PySem.Data.seq #[] }
def zo75 (P : Params) : Obj := { cls := PySem.Value.none, data := PySem.Data.fields #[] }
def zo76 (P : Params) : Obj := { cls := PySem.Value.type "tuple", data := PySem.Data.seq #[PySem.Value.str (PySem.Str.ofString "self") 291, PySem.Value.str (PySem.Str.ofString "node") 292, PySem.Value.str (PySem.Str.ofString "predecessors") 293, PySem.Value.str (PySem.Str.ofString "nodeinfo") 294, PySem.Value.str (PySem.Str.ofString "pred") 295, PySem.Value.str (PySem.Str.ofString "pred_info") 296] }
def zo77 (P : Params) : Obj := { cls := PySem.Value.type "tuple", data := PySem.Data.seq #[] }
def zo78 (P : Params) : Obj := { cls := PySem.Value.none, data := PySem.Data.func { name := PySem.Str.ofString "add", qualname := PySem.Str.ofString "TopologicalSorter.add", params := pa87, body := PySem.FuncBody.stmts bo87, scope := sc87, globals := 0, closure := [], defaults := PySem.Value.none, kwdefaults := PySem.Value.none } }
def zo81 (P : Params) : Obj := { cls := PySem.Value.type "tuple", data := PySem.Data.seq #[] }
def zo82 (P : Params) : Obj := { cls := PySem.Value.none, data := PySem.Data.fields #[] }
def zo83 (P : Params) : Obj := { cls := PySem.Value.none, data := PySem.Data.func { name := PySem.Str.ofString "prepare", qualname := PySem.Str.ofString "TopologicalSorter.prepare", params := pa92, body := PySem.FuncBody.stmts bo92, scope := sc92, globals := 0, closure := [], defaults := PySem.Value.none, kwdefaults := PySem.Value.none } }
def zo86 (P : Params) : Obj := { cls := PySem.Value.type "tuple", data := PySem.Data.seq #[] }
def zo87 (P : Params) : Obj := { cls := PySem.Value.none, data := PySem.Data.fields #[] }
def zo88 (P : Params) : Obj := { cls := PySem.Value.type "tuple", data := PySem.Data.seq #[PySem.Value.str (PySem.Str.ofString "self") 309, PySem.Value.str (PySem.Str.ofString "result") 310, PySem.Value.str (PySem.Str.ofString "n2i") 311, PySem.Value.str (PySem.Str.ofString "node") 312] }
def zo89 (P : Params) : Obj := { cls := PySem.Value.type "tuple", data := PySem.Data.seq #[] }
def zo90 (P : Params) : Obj := { cls := PySem.Value.none, data := PySem.Data.func { name := PySem.Str.ofString "get_ready", qualname := PySem.Str.ofString "TopologicalSorter.get_ready", params := pa99, body := PySem.FuncBody.stmts bo99, scope := sc99, globals := 0, closure := [], defaults := PySem.Value.none, kwdefaults := PySem.Value.none } }
def zo93 (P : Params) : Obj := { cls := PySem.Value.type "tuple", data := PySem.Data.seq #[] }
def zo94 (P : Params) : Obj := { cls := PySem.Value.none, data := PySem.Data.fields #[] }
def zo95 (P : Params) : Obj := { cls := PySem.Value.type "tuple", data := PySem.Data.seq #[PySem.Value.str (PySem.Str.ofString "self") 319] }
def zo96 (P : Params) : Obj := { cls := PySem.Value.type "tuple", data := PySem.Data.seq #[] }
def zo97 (P : Params) : Obj := { cls := PySem.Value.none, data := PySem.Data.func { name := PySem.Str.ofString "is_active", qualname := PySem.Str.ofString "TopologicalSorter.is_active", params := pa106, body := PySem.FuncBody.stmts bo106, scope := sc106, globals := 0, closure := [], defaults := PySem.Value.none, kwdefaults := PySem.Value.none } }
def zo100 (P : Params) : Obj := { cls := PySem.Value.type "tuple", data := PySem.Data.seq #[] }
def zo101 (P : Params) : Obj := { cls := PySem.Value.none, data := PySem.Data.fields #[] }
def zo102 (P : Params) : Obj := { cls := PySem.Value.type "tuple", data := PySem.Data.seq #[PySem.Value.str (PySem.Str.ofString "self") 326] }
def zo103 (P : Params) : Obj := { cls := PySem.Value.type "tuple", data := PySem.Data.seq #[] }
def zo104 (P : Params) : Obj := { cls := PySem.Value.none, data := PySem.Data.func { name := PySem.Str.ofString "__bool__", qualname := PySem.Str.ofString "TopologicalSorter.__bool__", params := pa113, body := PySem.FuncBody.stmts bo113, scope := sc113, globals := 0, closure := [], defaults := PySem.Value.none, kwdefaults := PySem.Value.none } }
def zo105 (P : Params) : Obj := { cls := PySem.Value.type "code", data := PySem.Data.fields #[PySem.Value.str (PySem.Str.ofString "__bool__") 323, PySem.Value.str (PySem.Str.ofString "TopologicalSorter.__bool__") 324, PySem.Value.str (PySem.Str.ofString "/claim/cut.py") 325, PySem.Value.int 65 0, PySem.Value.int 1 0, PySem.Value.int 0 0, PySem.Value.int 0 0, PySem.Value.int 3 0, PySem.Value.ref 107, PySem.Value.bool Bool.true, PySem.Value.int 181 0, PySem.Value.ref 108, PySem.Value.none, PySem.Value.ref 109, PySem.Value.ref 110, PySem.Value.ref 111, PySem.Value.int 327 0, PySem.Value.int 65 0, PySem.Value.str (PySem.Str.ofString "/claim/cut.py") 328] }
def zo106 (P : Params) : Obj := { cls := PySem.Value.type "function", data := PySem.Data.func { name := PySem.Str.ofString "__bool__", qualname := PySem.Str.ofString "TopologicalSorter.__bool__", params := pa113, body := PySem.FuncBody.stmts bo113, scope := sc113, globals := 3, closure := [], defaults := PySem.Value.none, kwdefaults := PySem.Value.none, pyModule := PySem.Value.str (PySem.Str.ofString "cpy313.graphlib") 194, code := PySem.Value.ref 112 } }
def zo107 (P : Params) : Obj := { cls := PySem.Value.type "tuple", data := PySem.Data.seq #[] }
def zo108 (P : Params) : Obj := { cls := PySem.Value.none, data := PySem.Data.fields #[] }
def zo109 (P : Params) : Obj := { cls := PySem.Value.type "tuple", data := PySem.Data.seq #[PySem.Value.str (PySem.Str.ofString "self") 333, PySem.Value.str (PySem.Str.ofString "nodes") 334, PySem.Value.str (PySem.Str.ofString "n2i") 335, PySem.Value.str (PySem.Str.ofString "node") 336, PySem.Value.str (PySem.Str.ofString "nodeinfo") 337, PySem.Value.str (PySem.Str.ofString "stat") 338, PySem.Value.str (PySem.Str.ofString "successor") 339, PySem.Value.str (PySem.Str.ofString "successor_info") 340] }
def zo110 (P : Params) : Obj := { cls := PySem.Value.type "tuple", data := PySem.Data.seq #[] }
def zo111 (P : Params) : Obj := { cls := PySem.Value.none, data := PySem.Data.func { name := PySem.Str.ofString "done", qualname := PySem.Str.ofString "TopologicalSorter.done", params := pa120, body := PySem.FuncBody.stmts bo120, scope := sc120, globals := 0, closure := [], defaults := PySem.Value.none, kwdefaults := PySem.Value.none } }
def zo114 (P : Params) : Obj := { cls := PySem.Value.type "tuple", data := PySem.Data.seq #[] }
def zo115 (P : Params) : Obj := { cls := PySem.Value.none, data := PySem.Data.fields #[] }
def zo116 (P : Params) : Obj := { cls := PySem.Value.type "tuple", data := PySem.Data.seq #[PySem.Value.str (PySem.Str.ofString "self") 347, PySem.Value.str (PySem.Str.ofString "n2i") 348, PySem.Value.str (PySem.Str.ofString "stack") 349, PySem.Value.str (PySem.Str.ofString "itstack") 350, PySem.Value.str (PySem.Str.ofString "seen") 351, PySem.Value.str (PySem.Str.ofString "node2stacki") 352, PySem.Value.str (PySem.Str.ofString "node") 353] }
def zo117 (P : Params) : Obj := { cls := PySem.Value.type "tuple", data := PySem.Data.seq #[] }
def zo118 (P : Params) : Obj := { cls := PySem.Value.none, data := PySem.Data.func { name := PySem.Str.ofString "_find_cycle", qualname := PySem.Str.ofString "TopologicalSorter._find_cycle", params := pa127, body := PySem.FuncBody.stmts bo127, scope := sc127, globals := 0, closure := [], defaults := PySem.Value.none, kwdefaults := PySem.Value.none } }
def zo121 (P : Params) : Obj := { cls := PySem.Value.type "tuple", data := PySem.Data.seq #[] }
def zo122 (P : Params) : Obj := { cls := PySem.Value.none, data := PySem.Data.fields #[] }
def zo123 (P : Params) : Obj := { cls := PySem.Value.type "tuple", data := PySem.Data.seq #[PySem.Value.str (PySem.Str.ofString "self") 360] }
def zo124 (P : Params) : Obj := { cls := PySem.Value.type "tuple", data := PySem.Data.seq #[] }
def zo125 (P : Params) : Obj := { cls := PySem.Value.none, data := PySem.Data.func { name := PySem.Str.ofString "static_order", qualname := PySem.Str.ofString "TopologicalSorter.static_order", params := pa134, body := PySem.FuncBody.stmts bo134, scope := sc134, globals := 0, closure := [], defaults := PySem.Value.none, kwdefaults := PySem.Value.none } }
def zo126 (P : Params) : Obj := { cls := PySem.Value.type "code", data := PySem.Data.fields #[PySem.Value.str (PySem.Str.ofString "static_order") 357, PySem.Value.str (PySem.Str.ofString "TopologicalSorter.static_order") 358, PySem.Value.str (PySem.Str.ofString "/claim/cut.py") 359, PySem.Value.int 120 0, PySem.Value.int 1 0, PySem.Value.int 0 0, PySem.Value.int 0 0, PySem.Value.int 3 0, PySem.Value.ref 128, PySem.Value.bool Bool.true, PySem.Value.int 181 0, PySem.Value.ref 129, PySem.Value.none, PySem.Value.ref 130, PySem.Value.ref 131, PySem.Value.ref 132, PySem.Value.int 361 0, PySem.Value.int 120 0, PySem.Value.str (PySem.Str.ofString "/claim/cut.py") 362] }
def zo127 (P : Params) : Obj := { cls := PySem.Value.type "function", data := PySem.Data.func { name := PySem.Str.ofString "static_order", qualname := PySem.Str.ofString "TopologicalSorter.static_order", params := pa134, body := PySem.FuncBody.stmts bo134, scope := sc134, globals := 3, closure := [], defaults := PySem.Value.none, kwdefaults := PySem.Value.none, pyModule := PySem.Value.str (PySem.Str.ofString "cpy313.graphlib") 194, code := PySem.Value.ref 133 } }
def zo128 (P : Params) : Obj := { cls := PySem.Value.type "tuple", data := PySem.Data.seq #[PySem.Value.str (PySem.Str.ofString "_nfinished") 364, PySem.Value.str (PySem.Str.ofString "_node2info") 365, PySem.Value.str (PySem.Str.ofString "_npassedout") 366, PySem.Value.str (PySem.Str.ofString "_ready_nodes") 367] }
def zo133 (P : Params) : Obj := { cls := PySem.Value.type "super", data := PySem.Data.fields #[PySem.Value.ref 137, PySem.Value.ref 137, PySem.Value.ref 137] }
def zo134 (P : Params) : Obj := { cls := PySem.Value.type "builtin_function_or_method", data := PySem.Data.fields #[PySem.Value.builtin "object.__init_subclass__", PySem.Value.ref 137] }
def zo136 (P : Params) : Obj := { cls := PySem.Value.none, data := PySem.Data.fields #[PySem.Value.int 1 0, PySem.Value.int 0 0, PySem.Value.ref 20, PySem.Value.int 7 0, PySem.Value.int 0 0, PySem.Value.ref 27, PySem.Value.int 14 0, PySem.Value.int 0 0, PySem.Value.ref 51, PySem.Value.int 16 0, PySem.Value.int 0 0, PySem.Value.ref 64, PySem.Value.int 124 0, PySem.Value.int 0 0, PySem.Value.ref 149, PySem.Value.int 137 0, PySem.Value.int 0 0, PySem.Value.ref 156, PySem.Value.int 139 0, PySem.Value.int 0 0, PySem.Value.ref 163, PySem.Value.int 141 0, PySem.Value.int 0 0, PySem.Value.ref 170, PySem.Value.int 144 0, PySem.Value.int 0 0, PySem.Value.ref 175, PySem.Value.int 146 0, PySem.Value.int 0 0, PySem.Value.ref 180, PySem.Value.int 154 0, PySem.Value.int 0 0, PySem.Value.ref 187, PySem.Value.int 160 0, PySem.Value.int 0 0, PySem.Value.ref 194, PySem.Value.int 171 0, PySem.Value.int 0 0, PySem.Value.ref 201, PySem.Value.int 173 0, PySem.Value.int 0 0, PySem.Value.ref 206] }
def zo139 (P : Params) : Obj := { cls := PySem.Value.type "tuple", data := PySem.Data.seq #[] }
def zo140 (P : Params) : Obj := { cls := PySem.Value.none, data := PySem.Data.fields #[] }
def zo141 (P : Params) : Obj := { cls := PySem.Value.type "tuple", data := PySem.Data.seq #[PySem.Value.str (PySem.Str.ofString "function") 382, PySem.Value.str (PySem.Str.ofString "sequence") 383, PySem.Value.str (PySem.Str.ofString "initial") 384, PySem.Value.str (PySem.Str.ofString "it") 385, PySem.Value.str (PySem.Str.ofString "value") 386, PySem.Value.str (PySem.Str.ofString "element") 387] }
def zo142 (P : Params) : Obj := { cls := PySem.Value.type "tuple", data := PySem.Data.seq #[] }
def zo143 (P : Params) : Obj := { cls := PySem.Value.none, data := PySem.Data.func { name := PySem.Str.ofString "reduce", qualname := PySem.Str.ofString "reduce", params := pa150, body := PySem.FuncBody.stmts bo150, scope := sc150, globals := 0, closure := [], defaults := PySem.Value.none, kwdefaults := PySem.Value.none } }
def zo146 (P : Params) : Obj := { cls := PySem.Value.type "tuple", data := PySem.Data.seq #[] }
def zo147 (P : Params) : Obj := { cls := PySem.Value.none, data := PySem.Data.fields #[] }
def zo148 (P : Params) : Obj := { cls := PySem.Value.type "tuple", data := PySem.Data.seq #[PySem.Value.str (PySem.Str.ofString "a") 396, PySem.Value.str (PySem.Str.ofString "b") 397] }
def zo149 (P : Params) : Obj := { cls := PySem.Value.type "tuple", data := PySem.Data.seq #[] }
def zo150 (P : Params) : Obj := { cls := PySem.Value.none, data := PySem.Data.func { name := PySem.Str.ofString "and_", qualname := PySem.Str.ofString "and_", params := pa157, body := PySem.FuncBody.stmts bo157, scope := sc157, globals := 0, closure := [], defaults := PySem.Value.none, kwdefaults := PySem.Value.none } }
def zo153 (P : Params) : Obj := { cls := PySem.Value.type "tuple", data := PySem.Data.seq #[] }
def zo154 (P : Params) : Obj := { cls := PySem.Value.none, data := PySem.Data.fields #[] }
def zo155 (P : Params) : Obj := { cls := PySem.Value.type "tuple", data := PySem.Data.seq #[PySem.Value.str (PySem.Str.ofString "a") 404, PySem.Value.str (PySem.Str.ofString "b") 405] }
def zo156 (P : Params) : Obj := { cls := PySem.Value.type "tuple", data := PySem.Data.seq #[] }
def zo157 (P : Params) : Obj := { cls := PySem.Value.none, data := PySem.Data.func { name := PySem.Str.ofString "mul", qualname := PySem.Str.ofString "mul", params := pa164, body := PySem.FuncBody.stmts bo164, scope := sc164, globals := 0, closure := [], defaults := PySem.Value.none, kwdefaults := PySem.Value.none } }
def zo160 (P : Params) : Obj := { cls := PySem.Value.type "tuple", data := PySem.Data.seq #[] }
def zo161 (P : Params) : Obj := { cls := PySem.Value.none, data := PySem.Data.fields #[] }
def zo162 (P : Params) : Obj := { cls := PySem.Value.type "tuple", data := PySem.Data.seq #[PySem.Value.str (PySem.Str.ofString "a") 412, PySem.Value.str (PySem.Str.ofString "b") 413] }
def zo163 (P : Params) : Obj := { cls := PySem.Value.type "tuple", data := PySem.Data.seq #[] }
def zo164 (P : Params) : Obj := { cls := PySem.Value.none, data := PySem.Data.func { name := PySem.Str.ofString "or_", qualname := PySem.Str.ofString "or_", params := pa171, body := PySem.FuncBody.stmts bo171, scope := sc171, globals := 0, closure := [], defaults := PySem.Value.none, kwdefaults := PySem.Value.none } }
def zo167 (P : Params) : Obj := { cls := PySem.Value.type "tuple", data := PySem.Data.seq #[] }
def zo168 (P : Params) : Obj := { cls := PySem.Value.none, data := PySem.Data.fields #[] }
def zo169 (P : Params) : Obj := { cls := PySem.Value.none, data := PySem.Data.func { name := PySem.Str.ofString "_law_places", qualname := PySem.Str.ofString "_law_places", params := pa176, body := PySem.FuncBody.stmts bo176, scope := sc176, globals := 0, closure := [], defaults := PySem.Value.none, kwdefaults := PySem.Value.none } }
def zo172 (P : Params) : Obj := { cls := PySem.Value.type "tuple", data := PySem.Data.seq #[] }
def zo173 (P : Params) : Obj := { cls := PySem.Value.none, data := PySem.Data.fields #[] }
def zo174 (P : Params) : Obj := { cls := PySem.Value.none, data := PySem.Data.func { name := PySem.Str.ofString "_law_sorter", qualname := PySem.Str.ofString "_law_sorter", params := pa181, body := PySem.FuncBody.stmts bo181, scope := sc181, globals := 0, closure := [], defaults := PySem.Value.none, kwdefaults := PySem.Value.none } }
def zo177 (P : Params) : Obj := { cls := PySem.Value.type "tuple", data := PySem.Data.seq #[] }
def zo178 (P : Params) : Obj := { cls := PySem.Value.none, data := PySem.Data.fields #[] }
def zo179 (P : Params) : Obj := { cls := PySem.Value.type "tuple", data := PySem.Data.seq #[PySem.Value.str (PySem.Str.ofString "sorter") 434, PySem.Value.str (PySem.Str.ofString "refused") 435] }
def zo180 (P : Params) : Obj := { cls := PySem.Value.type "tuple", data := PySem.Data.seq #[] }
def zo181 (P : Params) : Obj := { cls := PySem.Value.none, data := PySem.Data.func { name := PySem.Str.ofString "_law_ring", qualname := PySem.Str.ofString "_law_ring", params := pa188, body := PySem.FuncBody.stmts bo188, scope := sc188, globals := 0, closure := [], defaults := PySem.Value.none, kwdefaults := PySem.Value.none } }
def zo184 (P : Params) : Obj := { cls := PySem.Value.type "tuple", data := PySem.Data.seq #[] }
def zo185 (P : Params) : Obj := { cls := PySem.Value.none, data := PySem.Data.fields #[] }
def zo186 (P : Params) : Obj := { cls := PySem.Value.type "tuple", data := PySem.Data.seq #[PySem.Value.str (PySem.Str.ofString "forms") 442, PySem.Value.str (PySem.Str.ofString "row") 443, PySem.Value.str (PySem.Str.ofString "told") 444, PySem.Value.str (PySem.Str.ofString "used") 445, PySem.Value.str (PySem.Str.ofString "worth") 446, PySem.Value.str (PySem.Str.ofString "j") 447, PySem.Value.str (PySem.Str.ofString "now") 448] }
def zo187 (P : Params) : Obj := { cls := PySem.Value.type "tuple", data := PySem.Data.seq #[] }
def zo188 (P : Params) : Obj := { cls := PySem.Value.none, data := PySem.Data.func { name := PySem.Str.ofString "_law_wedge", qualname := PySem.Str.ofString "_law_wedge", params := pa195, body := PySem.FuncBody.stmts bo195, scope := sc195, globals := 0, closure := [], defaults := PySem.Value.none, kwdefaults := PySem.Value.none } }
def zo191 (P : Params) : Obj := { cls := PySem.Value.type "tuple", data := PySem.Data.seq #[] }
def zo192 (P : Params) : Obj := { cls := PySem.Value.none, data := PySem.Data.fields #[] }
def zo193 (P : Params) : Obj := { cls := PySem.Value.type "tuple", data := PySem.Data.seq #[PySem.Value.str (PySem.Str.ofString "rows") 455] }
def zo194 (P : Params) : Obj := { cls := PySem.Value.type "tuple", data := PySem.Data.seq #[] }
def zo195 (P : Params) : Obj := { cls := PySem.Value.none, data := PySem.Data.func { name := PySem.Str.ofString "_law_determinant", qualname := PySem.Str.ofString "_law_determinant", params := pa202, body := PySem.FuncBody.stmts bo202, scope := sc202, globals := 0, closure := [], defaults := PySem.Value.none, kwdefaults := PySem.Value.none } }
def zo198 (P : Params) : Obj := { cls := PySem.Value.type "tuple", data := PySem.Data.seq #[] }
def zo199 (P : Params) : Obj := { cls := PySem.Value.none, data := PySem.Data.fields #[] }
def zo200 (P : Params) : Obj := { cls := PySem.Value.none, data := PySem.Data.func { name := PySem.Str.ofString "law", qualname := PySem.Str.ofString "law", params := pa207, body := PySem.FuncBody.stmts bo207, scope := sc207, globals := 0, closure := [], defaults := PySem.Value.none, kwdefaults := PySem.Value.none } }
noncomputable def hp_a (P : Params) : Heap := Heap.mk (Array.mk [PySem.W.boot_o_0 P, PySem.W.boot_o_1 P, PySem.W.boot_o_2 P, PySem.W.boot_o_3 P, PySem.W.boot_o_4 P, PySem.W.boot_o_5 P, PySem.W.boot_o_6 P, PySem.W.boot_o_7 P, PySem.W.boot_o_8 P, PySem.W.boot_o_9 P, PySem.W.boot_o_10 P, zo0 P, zo1 P, zo2 P, zo3 P]) { }
noncomputable def sh_a (w : World) (os : OsState) : Shared := Shared.mk (hp_a w.params) (Array.mk []) { } 187 os
noncomputable def hp_f (P : Params) : Heap := Heap.mk (Array.mk [PySem.W.boot_o_0 P, PySem.W.boot_o_1 P, PySem.W.boot_o_2 P, ob3 P, PySem.W.boot_o_4 P, PySem.W.boot_o_5 P, PySem.W.boot_o_6 P, PySem.W.boot_o_7 P, PySem.W.boot_o_8 P, PySem.W.boot_o_9 P, PySem.W.boot_o_10 P, zo0 P, zo136 P, zo2 P, zo3 P, zo6 P, zo7 P, zo8 P, zo9 P, zo10 P, zo11 P, zo12 P, zo13 P, zo14 P, zo15 P, zo16 P, zo17 P, zo18 P, zo19 P, zo20 P, zo21 P, zo22 P, zo23 P, zo24 P, zo25 P, ob35 P, ob36 P, zo28 P, zo29 P, ob39 P, ob40 P, ob41 P, ob42 P, ob43 P, zo35 P, zo36 P, zo37 P, zo38 P, zo39 P, zo40 P, zo41 P, zo42 P, zo43 P, zo44 P, ob54 P, ob55 P, ob56 P, zo48 P, zo49 P, zo52 P, zo53 P, zo54 P, zo55 P, zo56 P, zo57 P, zo58 P, ob66 P, zo60 P, zo61 P, zo62 P, zo63 P, zo64 P, ob72 P, ob73 P, zo67 P, zo68 P, zo69 P, zo70 P, zo71 P, ob79 P, ob80 P, zo74 P, zo75 P, zo76 P, zo77 P, zo78 P, ob86 P, ob87 P, zo81 P, zo82 P, zo83 P, ob91 P, ob92 P, zo86 P, zo87 P, zo88 P, zo89 P, zo90 P, ob98 P, ob99 P, zo93 P, zo94 P, zo95 P, zo96 P, zo97 P, ob105 P, ob106 P, zo100 P, zo101 P, zo102 P, zo103 P, zo104 P, zo105 P, zo106 P, zo107 P, zo108 P, zo109 P, zo110 P, zo111 P, ob119 P, ob120 P, zo114 P, zo115 P, zo116 P, zo117 P, zo118 P, ob126 P, ob127 P, zo121 P, zo122 P, zo123 P, zo124 P, zo125 P, zo126 P, zo127 P, zo128 P, ob136 P, ob137 P, ob138 P, ob139 P, zo133 P, zo134 P, ob142 P, ob143 P, zo139 P, zo140 P, zo141 P, zo142 P, zo143 P, ob149 P, ob150 P, zo146 P, zo147 P, zo148 P, zo149 P, zo150 P, ob156 P, ob157 P, zo153 P, zo154 P, zo155 P, zo156 P, zo157 P, ob163 P, ob164 P, zo160 P, zo161 P, zo162 P, zo163 P, zo164 P, ob170 P, ob171 P, zo167 P, zo168 P, zo169 P, ob175 P, ob176 P, zo172 P, zo173 P, zo174 P, ob180 P, ob181 P, zo177 P, zo178 P, zo179 P, zo180 P, zo181 P, ob187 P, ob188 P, zo184 P, zo185 P, zo186 P, zo187 P, zo188 P, ob194 P, ob195 P, zo191 P, zo192 P, zo193 P, zo194 P, zo195 P, ob201 P, ob202 P, zo198 P, zo199 P, zo200 P, ob206 P, ob207 P]) { }
noncomputable def sh_f (w : World) (os : OsState) : Shared := Shared.mk (hp_f w.params) (Array.mk []) { } 465 os
noncomputable def tr_b (P : Params) : BT := (.node (PySem.W.boot_o_0 P) (.node (PySem.W.boot_o_1 P) (.node (PySem.W.boot_o_3 P) (.node (PySem.W.boot_o_7 P) .nil .nil) (.node (zo0 P) .nil .nil)) (.node (PySem.W.boot_o_5 P) (.node (PySem.W.boot_o_9 P) .nil .nil) (.node (zo2 P) .nil .nil))) (.node (PySem.W.boot_o_2 P) (.node (PySem.W.boot_o_4 P) (.node (PySem.W.boot_o_8 P) .nil .nil) (.node (zo1 P) .nil .nil)) (.node (PySem.W.boot_o_6 P) (.node (PySem.W.boot_o_10 P) .nil .nil) (.node (zo3 P) .nil .nil))))
noncomputable def sh_b (w : World) (os : OsState) : SharedT := SharedT.mk (tr_b w.params) 15 { } (Array.mk []) { } 187 os
noncomputable def tr_g0 (P : Params) : BT := (.node (PySem.W.boot_o_0 P) (.node (PySem.W.boot_o_1 P) (.node (zo4 P) (.node (PySem.W.boot_o_7 P) (.node (zo6 P) (.node (zo22 P) .nil .nil) (.node (zo38 P) .nil .nil)) (.node (zo14 P) (.node (ob39 P) .nil .nil) (.node (ob55 P) .nil .nil))) (.node (zo0 P) (.node (zo10 P) (.node (ob35 P) .nil .nil) (.node (zo42 P) .nil .nil)) (.node (zo18 P) (.node (ob43 P) .nil .nil) .nil))) (.node (PySem.W.boot_o_5 P) (.node (PySem.W.boot_o_9 P) (.node (zo8 P) (.node (zo24 P) .nil .nil) (.node (zo40 P) .nil .nil)) (.node (zo16 P) (.node (ob41 P) .nil .nil) (.node (zo48 P) .nil .nil))) (.node (zo2 P) (.node (zo12 P) (.node (zo28 P) .nil .nil) (.node (zo44 P) .nil .nil)) (.node (zo20 P) (.node (zo36 P) .nil .nil) .nil)))) (.node (PySem.W.boot_o_2 P) (.node (PySem.W.boot_o_4 P) (.node (PySem.W.boot_o_8 P) (.node (zo7 P) (.node (zo23 P) .nil .nil) (.node (zo39 P) .nil .nil)) (.node (zo15 P) (.node (ob40 P) .nil .nil) (.node (ob56 P) .nil .nil))) (.node (zo5 P) (.node (zo11 P) (.node (ob36 P) .nil .nil) (.node (zo43 P) .nil .nil)) (.node (zo19 P) (.node (zo35 P) .nil .nil) .nil))) (.node (PySem.W.boot_o_6 P) (.node (PySem.W.boot_o_10 P) (.node (zo9 P) (.node (zo25 P) .nil .nil) (.node (zo41 P) .nil .nil)) (.node (zo17 P) (.node (ob42 P) .nil .nil) (.node (zo49 P) .nil .nil))) (.node (zo3 P) (.node (zo13 P) (.node (zo29 P) .nil .nil) (.node (ob54 P) .nil .nil)) (.node (zo21 P) (.node (zo37 P) .nil .nil) .nil)))))
noncomputable def sh_g0 (w : World) (os : OsState) : SharedT := SharedT.mk (tr_g0 w.params) 59 { } (Array.mk []) { } 257 os
noncomputable def tr_g1 (P : Params) : BT := (.node (PySem.W.boot_o_0 P) (.node (PySem.W.boot_o_1 P) (.node (zo50 P) (.node (PySem.W.boot_o_7 P) (.node (zo6 P) (.node (zo22 P) (.node (zo56 P) (.node (ob127 P) .nil .nil) .nil) (.node (zo88 P) .nil .nil)) (.node (zo38 P) (.node (ob79 P) .nil .nil) (.node (zo104 P) .nil .nil))) (.node (zo14 P) (.node (ob39 P) (.node (zo64 P) (.node (zo128 P) .nil .nil) .nil) (.node (zo96 P) .nil .nil)) (.node (ob55 P) (.node (ob87 P) .nil .nil) (.node (ob119 P) .nil .nil)))) (.node (zo0 P) (.node (zo10 P) (.node (ob35 P) (.node (zo60 P) (.node (zo124 P) .nil .nil) .nil) (.node (ob99 P) .nil .nil)) (.node (zo42 P) (.node (zo76 P) .nil .nil) (.node (zo108 P) .nil .nil))) (.node (zo18 P) (.node (ob43 P) (.node (zo68 P) (.node (ob139 P) .nil .nil) .nil) (.node (zo100 P) .nil .nil)) (.node (zo52 P) (.node (ob91 P) .nil .nil) (.node (zo116 P) .nil .nil))))) (.node (PySem.W.boot_o_5 P) (.node (PySem.W.boot_o_9 P) (.node (zo8 P) (.node (zo24 P) (.node (zo58 P) (.node (zo122 P) .nil .nil) .nil) (.node (zo90 P) .nil .nil)) (.node (zo40 P) (.node (zo74 P) .nil .nil) (.node (zo106 P) .nil .nil))) (.node (zo16 P) (.node (ob41 P) (.node (ob73 P) (.node (ob137 P) .nil .nil) .nil) (.node (ob105 P) .nil .nil)) (.node (zo48 P) (.node (zo82 P) .nil .nil) (.node (zo114 P) .nil .nil)))) (.node (zo2 P) (.node (zo12 P) (.node (zo28 P) (.node (zo62 P) (.node (zo126 P) .nil .nil) .nil) (.node (zo94 P) .nil .nil)) (.node (zo44 P) (.node (zo78 P) .nil .nil) (.node (zo110 P) .nil .nil))) (.node (zo20 P) (.node (zo36 P) (.node (zo70 P) (.node (zo134 P) .nil .nil) .nil) (.node (zo102 P) .nil .nil)) (.node (zo54 P) (.node (zo86 P) .nil .nil) (.node (zo118 P) .nil .nil)))))) (.node (PySem.W.boot_o_2 P) (.node (PySem.W.boot_o_4 P) (.node (PySem.W.boot_o_8 P) (.node (zo7 P) (.node (zo23 P) (.node (zo57 P) (.node (zo121 P) .nil .nil) .nil) (.node (zo89 P) .nil .nil)) (.node (zo39 P) (.node (ob80 P) .nil .nil) (.node (zo105 P) .nil .nil))) (.node (zo15 P) (.node (ob40 P) (.node (ob72 P) (.node (ob136 P) .nil .nil) .nil) (.node (zo97 P) .nil .nil)) (.node (ob56 P) (.node (zo81 P) .nil .nil) (.node (ob120 P) .nil .nil)))) (.node (zo51 P) (.node (zo11 P) (.node (ob36 P) (.node (zo61 P) (.node (zo125 P) .nil .nil) .nil) (.node (zo93 P) .nil .nil)) (.node (zo43 P) (.node (zo77 P) .nil .nil) (.node (zo109 P) .nil .nil))) (.node (zo19 P) (.node (zo35 P) (.node (zo69 P) (.node (zo133 P) .nil .nil) .nil) (.node (zo101 P) .nil .nil)) (.node (zo53 P) (.node (ob92 P) .nil .nil) (.node (zo117 P) .nil .nil))))) (.node (PySem.W.boot_o_6 P) (.node (PySem.W.boot_o_10 P) (.node (zo9 P) (.node (zo25 P) (.node (ob66 P) (.node (zo123 P) .nil .nil) .nil) (.node (ob98 P) .nil .nil)) (.node (zo41 P) (.node (zo75 P) .nil .nil) (.node (zo107 P) .nil .nil))) (.node (zo17 P) (.node (ob42 P) (.node (zo67 P) (.node (ob138 P) .nil .nil) .nil) (.node (ob106 P) .nil .nil)) (.node (zo49 P) (.node (zo83 P) .nil .nil) (.node (zo115 P) .nil .nil)))) (.node (zo3 P) (.node (zo13 P) (.node (zo29 P) (.node (zo63 P) (.node (zo127 P) .nil .nil) .nil) (.node (zo95 P) .nil .nil)) (.node (ob54 P) (.node (ob86 P) .nil .nil) (.node (zo111 P) .nil .nil))) (.node (zo21 P) (.node (zo37 P) (.node (zo71 P) .nil .nil) (.node (zo103 P) .nil .nil)) (.node (zo55 P) (.node (zo87 P) .nil .nil) (.node (ob126 P) .nil .nil)))))))
noncomputable def sh_g1 (w : World) (os : OsState) : SharedT := SharedT.mk (tr_g1 w.params) 142 { } (Array.mk []) { } 376 os
noncomputable def tr_g2 (P : Params) : BT := (.node (PySem.W.boot_o_0 P) (.node (PySem.W.boot_o_1 P) (.node (ob3 P) (.node (PySem.W.boot_o_7 P) (.node (zo6 P) (.node (zo22 P) (.node (zo56 P) (.node (ob127 P) .nil .nil) (.node (zo186 P) .nil .nil)) (.node (zo88 P) (.node (zo154 P) .nil .nil) .nil)) (.node (zo38 P) (.node (ob79 P) (.node (ob143 P) .nil .nil) (.node (ob207 P) .nil .nil)) (.node (zo104 P) (.node (ob175 P) .nil .nil) .nil))) (.node (zo14 P) (.node (ob39 P) (.node (zo64 P) (.node (zo128 P) .nil .nil) (.node (zo194 P) .nil .nil)) (.node (zo96 P) (.node (zo162 P) .nil .nil) .nil)) (.node (ob55 P) (.node (ob87 P) (.node (zo146 P) .nil .nil) .nil) (.node (ob119 P) (.node (zo178 P) .nil .nil) .nil)))) (.node (zo0 P) (.node (zo10 P) (.node (ob35 P) (.node (zo60 P) (.node (zo124 P) .nil .nil) (.node (ob195 P) .nil .nil)) (.node (ob99 P) (.node (ob163 P) .nil .nil) .nil)) (.node (zo42 P) (.node (zo76 P) (.node (zo142 P) .nil .nil) .nil) (.node (zo108 P) (.node (zo174 P) .nil .nil) .nil))) (.node (zo18 P) (.node (ob43 P) (.node (zo68 P) (.node (ob139 P) .nil .nil) (.node (zo198 P) .nil .nil)) (.node (zo100 P) (.node (ob171 P) .nil .nil) .nil)) (.node (zo52 P) (.node (ob91 P) (.node (zo150 P) .nil .nil) .nil) (.node (zo116 P) (.node (ob187 P) .nil .nil) .nil))))) (.node (PySem.W.boot_o_5 P) (.node (PySem.W.boot_o_9 P) (.node (zo8 P) (.node (zo24 P) (.node (zo58 P) (.node (zo122 P) .nil .nil) (.node (zo188 P) .nil .nil)) (.node (zo90 P) (.node (zo156 P) .nil .nil) .nil)) (.node (zo40 P) (.node (zo74 P) (.node (zo140 P) .nil .nil) .nil) (.node (zo106 P) (.node (zo172 P) .nil .nil) .nil))) (.node (zo16 P) (.node (ob41 P) (.node (ob73 P) (.node (ob137 P) .nil .nil) (.node (ob201 P) .nil .nil)) (.node (ob105 P) (.node (zo164 P) .nil .nil) .nil)) (.node (zo48 P) (.node (zo82 P) (.node (zo148 P) .nil .nil) .nil) (.node (zo114 P) (.node (zo180 P) .nil .nil) .nil)))) (.node (zo2 P) (.node (zo12 P) (.node (zo28 P) (.node (zo62 P) (.node (zo126 P) .nil .nil) (.node (zo192 P) .nil .nil)) (.node (zo94 P) (.node (zo160 P) .nil .nil) .nil)) (.node (zo44 P) (.node (zo78 P) (.node (ob149 P) .nil .nil) .nil) (.node (zo110 P) (.node (ob181 P) .nil .nil) .nil))) (.node (zo20 P) (.node (zo36 P) (.node (zo70 P) (.node (zo134 P) .nil .nil) (.node (zo200 P) .nil .nil)) (.node (zo102 P) (.node (zo168 P) .nil .nil) .nil)) (.node (zo54 P) (.node (zo86 P) (.node (ob157 P) .nil .nil) .nil) (.node (zo118 P) (.node (zo184 P) .nil .nil) .nil)))))) (.node (PySem.W.boot_o_2 P) (.node (PySem.W.boot_o_4 P) (.node (PySem.W.boot_o_8 P) (.node (zo7 P) (.node (zo23 P) (.node (zo57 P) (.node (zo121 P) .nil .nil) (.node (zo187 P) .nil .nil)) (.node (zo89 P) (.node (zo155 P) .nil .nil) .nil)) (.node (zo39 P) (.node (ob80 P) (.node (zo139 P) .nil .nil) .nil) (.node (zo105 P) (.node (ob176 P) .nil .nil) .nil))) (.node (zo15 P) (.node (ob40 P) (.node (ob72 P) (.node (ob136 P) .nil .nil) (.node (zo195 P) .nil .nil)) (.node (zo97 P) (.node (zo163 P) .nil .nil) .nil)) (.node (ob56 P) (.node (zo81 P) (.node (zo147 P) .nil .nil) .nil) (.node (ob120 P) (.node (zo179 P) .nil .nil) .nil)))) (.node (zo136 P) (.node (zo11 P) (.node (ob36 P) (.node (zo61 P) (.node (zo125 P) .nil .nil) (.node (zo191 P) .nil .nil)) (.node (zo93 P) (.node (ob164 P) .nil .nil) .nil)) (.node (zo43 P) (.node (zo77 P) (.node (zo143 P) .nil .nil) .nil) (.node (zo109 P) (.node (ob180 P) .nil .nil) .nil))) (.node (zo19 P) (.node (zo35 P) (.node (zo69 P) (.node (zo133 P) .nil .nil) (.node (zo199 P) .nil .nil)) (.node (zo101 P) (.node (zo167 P) .nil .nil) .nil)) (.node (zo53 P) (.node (ob92 P) (.node (ob156 P) .nil .nil) .nil) (.node (zo117 P) (.node (ob188 P) .nil .nil) .nil))))) (.node (PySem.W.boot_o_6 P) (.node (PySem.W.boot_o_10 P) (.node (zo9 P) (.node (zo25 P) (.node (ob66 P) (.node (zo123 P) .nil .nil) (.node (ob194 P) .nil .nil)) (.node (ob98 P) (.node (zo157 P) .nil .nil) .nil)) (.node (zo41 P) (.node (zo75 P) (.node (zo141 P) .nil .nil) .nil) (.node (zo107 P) (.node (zo173 P) .nil .nil) .nil))) (.node (zo17 P) (.node (ob42 P) (.node (zo67 P) (.node (ob138 P) .nil .nil) (.node (ob202 P) .nil .nil)) (.node (ob106 P) (.node (ob170 P) .nil .nil) .nil)) (.node (zo49 P) (.node (zo83 P) (.node (zo149 P) .nil .nil) .nil) (.node (zo115 P) (.node (zo181 P) .nil .nil) .nil)))) (.node (zo3 P) (.node (zo13 P) (.node (zo29 P) (.node (zo63 P) (.node (zo127 P) .nil .nil) (.node (zo193 P) .nil .nil)) (.node (zo95 P) (.node (zo161 P) .nil .nil) .nil)) (.node (ob54 P) (.node (ob86 P) (.node (ob150 P) .nil .nil) .nil) (.node (zo111 P) (.node (zo177 P) .nil .nil) .nil))) (.node (zo21 P) (.node (zo37 P) (.node (zo71 P) (.node (ob142 P) .nil .nil) (.node (ob206 P) .nil .nil)) (.node (zo103 P) (.node (zo169 P) .nil .nil) .nil)) (.node (zo55 P) (.node (zo87 P) (.node (zo153 P) .nil .nil) .nil) (.node (ob126 P) (.node (zo185 P) .nil .nil) .nil)))))))
noncomputable def sh_g2 (w : World) (os : OsState) : SharedT := SharedT.mk (tr_g2 w.params) 208 { } (Array.mk []) { } 465 os
def an0 : Option Value := Option.some (PySem.Value.ref 6)
def en0 : Env := { scope := PR.main.scope, locals := mainNs, globals := mainNs, cells := [], code := PySem.Value.ref 13, frame := some 14 }
def co0 : Code := Code.body (behindTheImports PR) en0
def po0 : Pos := { line := 0, col := 0, endLine := 0, endCol := 0 }
def fp0 : Pos := { line := 0, col := 0, endLine := 0, endCol := 0 }
def pb0 : Pos := { line := 0, col := 0, endLine := 0, endCol := 0 }
noncomputable def s00 (w : World) (os : OsState) : Shared := Shared.mk (boot_heap w.params) (Array.mk []) boot_drawn boot_toks os
def gr0 : List Stmt := [topS 0, topS 1, topS 2, topS 3, topS 4, topS 5]
def pg0 : Pos := { line := 14, col := 0, endLine := 15, endCol := 8 }
def gr1 : List Stmt := [topS 6]
def pg1 : Pos := { line := 16, col := 0, endLine := 121, endCol := 16 }
def gr2 : List Stmt := [topS 7, topS 8, topS 9, topS 10, topS 11, topS 12, topS 13, topS 14, topS 15, topS 16, topS 17, topS 18, topS 19, topS 20]
def pg2 : Pos := { line := 173, col := 0, endLine := 222, endCol := 56 }
theorem pc_pre (w : World) : (fun os => topGo treeTable PR w 11 an0 12 (s00 w os) (topStub PR)) = fun os => some (sh_a w os, Thread.mk (denote treeTable co0) co0 po0 [topFrame fp0]) := by kernel_rfl
theorem pc_blk (w : World) : (fun os => segRun treeTable PR w 11 an0 1 1 (sh_a w os) (blockOf (behindTheImports PR) en0 co0 po0 [topFrame fp0])) = fun os => some (Flow.next, (sh_b w os).abs, co0, pb0) := by kernel_rfl
theorem pc_0 (w : World) : (fun os => segRunT treeTable PR w 11 an0 1 516 (sh_b w os) (piecesOf gr0 en0 co0 pb0 [topFrame fp0])) = fun os => some (Flow.next, sh_g0 w os, co0, pg0) := by kernel_rfl
theorem pc_1 (w : World) : (fun os => segRunT treeTable PR w 11 an0 1 528 (sh_g0 w os) (piecesOf gr1 en0 co0 pg0 [topFrame fp0])) = fun os => some (Flow.next, sh_g1 w os, co0, pg1) := by kernel_rfl
theorem pc_2 (w : World) : (fun os => segRunT treeTable PR w 11 an0 1 353 (sh_g1 w os) (piecesOf gr2 en0 co0 pg1 [topFrame fp0])) = fun os => some (Flow.next, sh_g2 w os, co0, pg2) := by kernel_rfl
theorem pc_fin (w : World) : (fun os => topRun treeTable PR w 11 an0 2 (sh_g2 w os).abs (Thread.mk (doneF Flow.next) co0 pg2 [topFrame fp0])) = fun os => some (sh_f w os) := by kernel_rfl
theorem pc_body : behindTheImports PR = (gr0 ++ (gr1 ++ (gr2 ++ []))) := by kernel_rfl
theorem pc_rest (w : World) (os : OsState) : topRun treeTable PR w 11 an0 (516 + (528 + (353 + 2))) (sh_b w os).abs (restOf (behindTheImports PR) en0 co0 pb0 [topFrame fp0]) = some (sh_f w os) := by
  rw [pc_body]
  exact piece_app (segRun_of (congrFun (pc_0 w) os)) (piece_app (segRun_of (congrFun (pc_1 w) os)) (piece_app (segRun_of (congrFun (pc_2 w) os)) (congrFun (pc_fin w) os)))
theorem pc_run (w : World) (os : OsState) : topRun treeTable PR w 11 an0 (12 + (1 + (516 + (528 + (353 + 2))))) (s00 w os) (topStub PR) = some (sh_f w os) :=
  go_top (congrFun (pc_pre w) os) (piece_block (b := behindTheImports PR) (congrFun (pc_blk w) os) (pc_rest w os))
theorem pc_size (w : World) : ((boot_heap w.params).isNs mainGlobals && (Array.mk [] : Array GenState).size == 0, (boot_heap w.params).objs.size, (boot_heap w.params).nsMap mainGlobals "__annotations__") = (true, 11, an0) := by kernel_rfl
theorem left0 : LeftO PR qV loose0 (fun s => xlAt qV [] s && recOk (RowW.records PySem.Challenge.rw_om0084_01.row.toRowW) s) (Hook.obs H0) (Hook.val H0) 2914 :=
  LeftO.of_pieces (boot_open (by kernel_rfl) (by decide) (fun _ => by kernel_rfl)) pc_size pc_run (by decide) (fun w => by kernel_rfl)
end Mine
end TextHeadH
section TextSL1
open PySem PySem.W PySem.Spec PySem.Calls PyProof.Rows
set_option Elab.async false
set_option maxRecDepth 100000
namespace Mine
abbrev KH (w : World) : Frag := K0 w.params
abbrev Cell := Addr × (Obj → Prop)

structure St (h₀ : Heap) (cs : List Cell) (h : Heap) : Prop where
  keep : ∀ b o, h₀.get? b = some o → h.get? b = some o
  held : ∀ c ∈ cs, ∃ o, h.get? c.1 = some o ∧ c.2 o
  new : ∀ c ∈ cs, h₀.get? c.1 = none
  nd : (cs.map (·.1)).Nodup

section
variable {h₀ h h' : Heap} {cs cs' : List Cell} {a : Addr} {P P' : Obj → Prop} {o : Obj} {c : Cell}

theorem St.nil (k : ∀ b o, h₀.get? b = some o → h.get? b = some o) : St h₀ [] h :=
  ⟨k, fun _ h => (nomatch h), fun _ h => (nomatch h), List.nodup_nil⟩
theorem St.keeps (S : St h₀ cs h) (k : ∀ b o, h.get? b = some o → h'.get? b = some o) : St h₀ cs h' :=
  ⟨fun b o e => k b o (S.keep b o e), fun c hc => let ⟨o, e, p⟩ := S.held c hc; ⟨o, k _ _ e, p⟩, S.new, S.nd⟩
theorem St.fresh (S : St h₀ cs h) : h₀.get? h.objs.size = none := by
  cases q : h₀.get? h.objs.size with
  | none => rfl
  | some o => exact absurd (Heap.lt_size (S.keep _ _ q)) (Nat.lt_irrefl _)
theorem St.add (S : St h₀ cs h) (k : ∀ b o, h.get? b = some o → h'.get? b = some o) (hn : h.get? a = none) (ho : h'.get? a = some o) (hP : P o) : St h₀ ((a, P) :: cs) h' := by
  have S' := S.keeps k
  refine ⟨S'.keep, fun c hc => ?_, fun c hc => ?_, ?_⟩
  · rcases List.mem_cons.mp hc with rfl | hc
    · exact ⟨o, ho, hP⟩
    · exact S'.held c hc
  · rcases List.mem_cons.mp hc with rfl | hc
    · cases q : h₀.get? a with
      | none => rfl
      | some o' => have := S.keep _ _ q; rw [hn] at this; cases this
    · exact S'.new c hc
  · refine List.nodup_cons.mpr ⟨fun hm => ?_, S.nd⟩
    obtain ⟨c, hc, e⟩ := List.mem_map.mp hm
    obtain ⟨o', e', _⟩ := S.held c hc
    rw [e, hn] at e'; cases e'
theorem get?_size_none (h : Heap) : h.get? h.objs.size = none := by
  cases q : h.get? h.objs.size with
  | none => rfl
  | some o => exact absurd (Heap.lt_size q) (Nat.lt_irrefl _)
theorem St.push (S : St h₀ cs h) (hP : P o) (hf : o.isFreed = false := by rfl) : St h₀ ((h.objs.size, P) :: cs) (h.push o) :=
  S.add (fun _ _ e => Heap.get?_push_of_some _ e) (get?_size_none h) (Heap.get?_push_size _ hf) hP
theorem St.tail (S : St h₀ (c :: cs) h) : St h₀ cs h :=
  ⟨S.keep, fun c hc => S.held c (.tail _ hc), fun c hc => S.new c (.tail _ hc), (List.nodup_cons.mp S.nd).2⟩
theorem St.sub (S : St h₀ cs h) (hs : ∀ c ∈ cs', c ∈ cs) (hn : (cs'.map (·.1)).Nodup) : St h₀ cs' h :=
  ⟨S.keep, fun c hc => S.held c (hs c hc), fun c hc => S.new c (hs c hc), hn⟩
theorem St.sublist (S : St h₀ cs h) (hs : cs'.Sublist cs) : St h₀ cs' h :=
  S.sub (fun _ hc => hs.subset hc) (S.nd.sublist (hs.map _))
theorem St.perm (S : St h₀ cs h) (hp : cs.Perm cs') : St h₀ cs' h :=
  S.sub (fun _ hc => hp.mem_iff.mpr hc) ((hp.map _).nodup_iff.mp S.nd)
theorem St.swap {c c' : Cell} (S : St h₀ (c :: c' :: cs) h) : St h₀ (c' :: c :: cs) h := S.perm (List.Perm.swap _ _ _)
theorem St.at (S : St h₀ cs h) (hm : (a, P) ∈ cs) : ∃ o, h.get? a = some o ∧ P o := S.held _ hm
theorem St.head (S : St h₀ ((a, P) :: cs) h) : ∃ o, h.get? a = some o ∧ P o := S.held _ (.head _)
theorem St.lt (S : St h₀ cs h) (hm : (a, P) ∈ cs) : a < h.objs.size := let ⟨_, e, _⟩ := S.held _ hm; Heap.lt_size e
theorem St.updAt (S : St h₀ cs h) {i : Nat} (hi : cs[i]? = some (a, P)) (hs : Heap.SameBut a h h') (ho : ∃ o, h'.get? a = some o ∧ P' o) : St h₀ (cs.set i (a, P')) h' := by
  have hm : (a, P) ∈ cs := List.mem_of_getElem? hi
  have hnew := S.new _ hm
  obtain ⟨hlt, hget⟩ := List.getElem?_eq_some_iff.mp hi
  have hmap : (cs.set i (a, P')).map (·.1) = cs.map (·.1) := by
    apply List.ext_getElem
    · simp
    · intro j h1 h2
      simp only [List.getElem_map, List.getElem_set]
      split
      · rename_i e; subst e; rw [hget]
      · rfl
  have hother : ∀ c ∈ cs.set i (a, P'), c = (a, P') ∨ (c ∈ cs ∧ c.1 ≠ a) := by
    intro c hc
    obtain ⟨j, hj, e⟩ := List.getElem_of_mem hc
    rw [List.getElem_set] at e
    split at e
    · exact .inl e.symm
    · rename_i hne
      right
      have hj' : j < cs.length := by simpa using hj
      refine ⟨e ▸ List.getElem_mem hj', fun q => hne ?_⟩
      have h1 : (cs.map (·.1))[i]'(by simpa using hlt) = (cs.map (·.1))[j]'(by simpa using hj') := by
        simp only [List.getElem_map, hget, e, q]
      exact (List.getElem_inj S.nd).mp h1
  refine ⟨fun b o e => (hs.2 b (fun q => ?_)).trans (S.keep b o e), fun c hc => ?_, fun c hc => ?_, hmap ▸ S.nd⟩
  · rw [q, hnew] at e; cases e
  · rcases hother c hc with rfl | ⟨hc, hne⟩
    · exact ho
    · obtain ⟨o, e, p⟩ := S.held c hc
      exact ⟨o, (hs.2 _ hne).trans e, p⟩
  · rcases hother c hc with rfl | ⟨hc, _⟩
    · exact hnew
    · exact S.new c hc
theorem St.upd0 (S : St h₀ ((a, P) :: cs) h) (hs : Heap.SameBut a h h') (ho : ∃ o, h'.get? a = some o ∧ P' o) : St h₀ ((a, P') :: cs) h' := S.updAt (i := 0) rfl hs ho
theorem St.mono0 (S : St h₀ ((a, P) :: cs) h) (hP : ∀ o, P o → P' o) : St h₀ ((a, P') :: cs) h :=
  S.upd0 ⟨rfl, fun _ _ => rfl⟩ (let ⟨o, e, p⟩ := S.head; ⟨o, e, hP o p⟩)
end

/-- the facts of the base heap that every frame needs -/
structure Base (w : World) (h : Heap) : Prop where
  K : (KH w).In h
  ns : ∃ mg mb, h.Ns mainGlobals mg ∧ h.Ns builtinsNs mb ∧ ∀ x : PySem.Str, x ≠ "__name__" → mb x = bootBuiltins x
  nolimit : h.NoLimit
  mods : ∃ o, h.get? sysModules = some o
theorem Base.keeps {w : World} {h h' : Heap} (B : Base w h) (k : ∀ b o, h.get? b = some o → h'.get? b = some o) : Base w h' :=
  ⟨B.K.keeps k, let ⟨mg, mb, g, b, e⟩ := B.ns; ⟨mg, mb, g.keeps k, b.keeps k, e⟩, B.nolimit.keeps k, let ⟨o, e⟩ := B.mods; ⟨o, k _ _ e⟩⟩
theorem St.base {w : World} {h₀ h : Heap} {cs : List Cell} (S : St h₀ cs h) (B : Base w h₀) : Base w h := B.keeps S.keep

theorem St.notMods {w : World} {h₀ h : Heap} {cs : List Cell} (S : St h₀ cs h) (B : Base w h₀) {d : Addr} {P : Obj → Prop} (hm : (d, P) ∈ cs) : (d == sysModules) = false := by
  obtain ⟨o, e⟩ := B.mods
  have := S.new _ hm
  cases q : d == sysModules with
  | false => rfl
  | true => rw [eq_of_beq q, e] at this; cases this
abbrev Loc := List (PySem.Str × Option Value)
def lk (l : Loc) (y : PySem.Str) : Option Value := (l.lookup y).join
def LocP (l : Loc) : Obj → Prop := fun o => ∃ es ep, o.data = .dict es ep ∧ StrKeys es ∧ ∀ name, nsFind es name = lk l name
theorem ns_of_loc {h : Heap} {L : Addr} {l : Loc} (x : ∃ o, h.get? L = some o ∧ LocP l o) : h.Ns L (lk l) :=
  let ⟨o, e, es, ep, d, k, f⟩ := x; ⟨o, es, ep, e, d, k, f⟩
theorem loc_of_ns {h : Heap} {L : Addr} {l : Loc} {m : PySem.Str → Option Value} (x : h.Ns L m) (hm : ∀ y, m y = lk l y) : ∃ o, h.get? L = some o ∧ LocP l o :=
  let ⟨o, es, ep, e, d, k, f⟩ := x; ⟨o, e, es, ep, d, k, fun y => (f y).trans (hm y)⟩
/-- a function's object of the written part -/
noncomputable def objF (P : Params) (a : Nat) : FuncData := match (K0 P).lookup a with
  | some ⟨_, _, .func fd, _⟩ => fd
  | _ => default
noncomputable def bodyF (P : Params) (a : Nat) : List Stmt := match (objF P a).body with
  | .stmts b => b
  | _ => []
/-- room for k more frames -/
structure Rm (k : Nat) (A : Around) : Prop where
  hd : A.handled = none
  dp : A.depth + k < recursionLimit
  un : A.units + 8 * k < cLine
theorem Rm.deeper {k : Nat} {A : Around} (r : Rm (k + 1) A) (env : Env) : Rm k (A.deeper env) :=
  ⟨r.hd, by have := r.dp; show A.depth + 1 + k < _; omega, by have := r.un; show A.units + 3 + 8 * k < _; omega⟩
theorem Rm.in1 {k : Nat} {A : Around} (r : Rm (k + 1) A) : Rm k A.in1 :=
  ⟨r.hd, by have := r.dp; show A.depth + k < _; omega, by have := r.un; show A.units + 1 + 8 * k < _; omega⟩
theorem Rm.le {k j : Nat} {A : Around} (r : Rm k A) (h : j ≤ k) : Rm j A := ⟨r.hd, by have := r.dp; omega, by have := r.un; omega⟩
end Mine
end TextSL1
section TextSLB
open PySem PySem.W PySem.Spec PySem.Calls PyProof.Rows
set_option Elab.async false
set_option maxRecDepth 100000
set_option linter.unusedVariables false
set_option linter.unusedSimpArgs false
namespace Mine

structure FnOk (w : World) (a : Addr) : Prop where
  look : ∃ oc od osl, (KH w).lookup a = some ⟨oc, od, .func (objF w.params a), osl⟩
  code : codeIn (KH w) (objF w.params a).code (objF w.params a).qualname = true
  body : (objF w.params a).body = .stmts (bodyF w.params a)
  co : (objF w.params a).scope.isCoroutine = false
  gen : (objF w.params a).scope.isGenerator = false
  kind : (objF w.params a).scope.kind = .function
theorem FnOk.of {w : World} {a : Addr} {oc : Value} {od : Option Addr} {osl : Array (Option Value)} (h1 : (KH w).lookup a = some ⟨oc, od, .func (objF w.params a), osl⟩) (h2 : codeIn (KH w) (objF w.params a).code (objF w.params a).qualname = true)
    (h3 : (objF w.params a).body = .stmts (bodyF w.params a)) (h4 : (objF w.params a).scope.isCoroutine = false) (h5 : (objF w.params a).scope.isGenerator = false) (h6 : (objF w.params a).scope.kind = .function) : FnOk w a :=
  ⟨⟨_, _, _, h1⟩, h2, h3, h4, h5, h6⟩
def noCell (sc : Scope) : Bool := sc.names.all fun x => decide (x.2 ≠ .cell)
def allLoc (sc : Scope) (binds : List (PySem.Str × Value)) : Bool := binds.all fun x => decide (sc.names.lookup x.1 = some .local)
def mkL (binds : List (PySem.Str × Value)) (ns : List PySem.Str) : Loc := binds.reverse.map (fun p => (p.1, some p.2)) ++ ns.map fun n => (n, none)
theorem lk_mkL (binds : List (PySem.Str × Value)) (ns : List PySem.Str) (y : PySem.Str) : binds.reverse.lookup y = lk (mkL binds ns) y := by
  unfold mkL lk
  generalize binds.reverse = b
  induction b with
  | nil =>
    simp only [List.lookup_nil, List.map_nil, List.nil_append]
    induction ns with
    | nil => rfl
    | cons n ns ih =>
      simp only [List.map_cons, List.lookup_cons]
      cases y == n
      · exact ih
      · rfl
  | cons p b ih =>
    obtain ⟨n, u⟩ := p
    simp only [List.map_cons, List.cons_append, List.lookup_cons]
    cases y == n
    · exact ih
    · rfl
noncomputable abbrev envF (w : World) (a : Addr) (L : Addr) : Env := callEnv (objF w.params a) L a


/-- the wp, shut in a structure (elaboration does not look through it) -/
structure W {α : Type} (w : World) (A : Around) (t : Sem α) (Q : α → Shared → Prop) (E : Value → Shared → Prop) (s : Shared) : Prop where
  out : wpAny (model PR w) A t Q E s
structure C (w : World) (A : Around) (c : Code) (R : Result → Shared → Prop) (s : Shared) : Prop where
  out : codeAny (model PR w) A c R s
abbrev No : Value → Shared → Prop := fun _ _ => False
/-- what a call's end asks -/
def RV (Q : Value → Shared → Prop) (E : Value → Shared → Prop) (r : Result) (s : Shared) : Prop :=
  match r with
  | .ok (.ret v) => Q v s
  | .ok _ => False
  | .error e => E e s
def Kp (h h' : Heap) : Prop := ∀ b o, h.get? b = some o → h'.get? b = some o
theorem Kp.refl (h : Heap) : Kp h h := fun _ _ e => e
theorem Kp.trans {h h' h'' : Heap} (a : Kp h h') (b : Kp h' h'') : Kp h h'' := fun x o e => b x o (a x o e)
theorem Kp.push {h h' : Heap} (a : Kp h h') (o : Obj) : Kp h (h'.push o) := fun x q e => Heap.get?_push_of_some _ (a x q e)
theorem Kp.none {h h' : Heap} (a : Kp h h') {D : Addr} (e : h'.get? D = none) : h.get? D = none := by
  cases q : h.get? D with
  | none => rfl
  | some o => rw [a _ _ q] at e; cases e

section
variable {w : World} {A : Around} {E E' : Value → Shared → Prop} {s : Shared} {hp : Heap} {gn : Array GenState} {dr : Drawn} {tk : Nat} {os : OsState} {env : Env} {R : Result → Shared → Prop} {h₀ : Heap} {cs : List Cell}
theorem um {α : Type} {t : Sem α} {Q Q' : α → Shared → Prop} (h : W w A t Q E s) (k : ∀ a s, Q a s → Q' a s) : wpAny (model PR w) A t Q' E s := wpAny_mono h.out k fun _ _ x => x
theorem W.mono {α : Type} {t : Sem α} {Q Q' : α → Shared → Prop} (h : W w A t Q E s) (k : ∀ a s, Q a s → Q' a s) : W w A t Q' E s := ⟨um h k⟩
theorem W.noE {α : Type} {t : Sem α} {Q : α → Shared → Prop} (h : W w A t Q No s) : W w A t Q E s := ⟨wpAny_mono h.out (fun _ _ x => x) fun _ _ x => x.elim⟩
theorem C.mono {c : Code} {R' : Result → Shared → Prop} (h : C w A c R s) (k : ∀ r s, R r s → R' r s) : C w A c R' s := ⟨codeAny_mono h.out k⟩

/-! statements -/
def Nx (w : World) (A : Around) (rest : List Stmt) (env : Env) (Q : Flow → Shared → Prop) (E : Value → Shared → Prop) : Flow → Shared → Prop
  | .next, s => W w A (execs rest env) Q E s
  | f, s => Q f s
theorem xs_nil {Q : Flow → Shared → Prop} (h : Q .next s) : W w A (execs [] env) Q E s := ⟨wpAny_execs_nil h⟩
theorem xs_cons {st : Stmt} {rest : List Stmt} {Q : Flow → Shared → Prop} (h : W w A (exec st env) (Nx w A rest env Q E) E s) : W w A (execs (st :: rest) env) Q E s :=
  ⟨wpAny_execs_cons (um h fun f s' h' => by cases f <;> first | exact h'.out | exact h')⟩
theorem xs_ret {e : Expr} {pos : Pos} {rest : List Stmt} {Q : Flow → Shared → Prop} (h : W w A (eval e env) (fun v s' => Q (.ret v) s') E s) : W w A (execs (.Return (some e) pos :: rest) env) Q E s :=
  xs_cons ⟨wpAny_Return_some (um h fun _ _ x => x)⟩
theorem xs_assign {x : PySem.Str} {p pos : Pos} {value : Expr} {rest : List Stmt} {Q : Flow → Shared → Prop}
    (h : W w A (eval value env) (fun v s₁ => W w A (storeName env x v) (fun _ s₂ => W w A (execs rest env) Q E s₂) E s₁) E s)
    (hs : swapsWith value (some (.Name x p)) pos.line env = pure false := by rfl) : W w A (execs (.Assign [.Name x p] value pos :: rest) env) Q E s :=
  xs_cons ⟨wpAny_Assign_Name (um h fun _ _ h₁ => um h₁ fun _ _ h₂ => h₂) hs⟩
theorem xs_if {test : Expr} {body orelse rest : List Stmt} {pos : Pos} {Q : Flow → Shared → Prop}
    (h : W w A (isTrue test env (eval test env)) (fun b s₂ => if b = true then W w A (execs body env) (Nx w A rest env Q E) E s₂ else W w A (execs orelse env) (Nx w A rest env Q E) E s₂) E s) :
    W w A (execs (.If test body orelse pos :: rest) env) Q E s :=
  xs_cons ⟨wpAny_If (um h fun b s₂ h₂ => by cases b <;> exact h₂.out)⟩
theorem xs_brk {pos : Pos} {rest : List Stmt} {Q : Flow → Shared → Prop} (h : Q .brk s) : W w A (execs (.Break pos :: rest) env) Q E s := xs_cons ⟨fun _ _ _ => h⟩
theorem xs_cont {pos : Pos} {rest : List Stmt} {Q : Flow → Shared → Prop} (h : Q .cont s) : W w A (execs (.Continue pos :: rest) env) Q E s := xs_cons ⟨fun _ _ _ => h⟩
theorem xs_expr {e : Expr} {pos : Pos} {rest : List Stmt} {Q : Flow → Shared → Prop} (h : W w A (eval e env) (fun _ s' => W w A (execs rest env) Q E s') E s)
    (hi : interactive env = false := by rfl) (hs : swapsWith e none pos.line env = pure false := by rfl) : W w A (execs (.Expr e pos :: rest) env) Q E s :=
  xs_cons ⟨wpAny_Expr_any (um h fun _ _ x => x) hi hs⟩

/-! expressions -/
variable {Q : Value → Shared → Prop} {pos : Pos} {x : PySem.Str} {v : Value}
theorem e_int {i : Int} {k : Nat} (h : ∀ t tk', Q (.int i t) ⟨hp, gn, dr, tk', os⟩) : W w A (eval (.Constant (.int i) k pos) env) Q E ⟨hp, gn, dr, tk, os⟩ := ⟨wpAny_Constant_int (h _ _)⟩
theorem e_none {k : Nat} (h : Q .none s) : W w A (eval (.Constant .none k pos) env) Q E s := ⟨fun _ _ _ => h⟩
theorem e_bool {b : Bool} {k : Nat} (h : Q (.bool b) s) : W w A (eval (.Constant (.bool b) k pos) env) Q E s := ⟨fun _ _ _ => h⟩
theorem e_bin {l r : Expr} {op : Operator} (h : W w A (eval l env) (fun a s₁ => W w A (eval r env) (fun b s₂ => W w A (binaryOp op a b) Q E s₂) E s₁) E s) : W w A (eval (.BinOp l op r pos) env) Q E s :=
  ⟨wpAny_BinOp (um h fun _ _ h₁ => um h₁ fun _ _ h₂ => h₂.out)⟩
theorem e_cmp {l r : Expr} {op : CmpOp} (h : W w A (eval l env) (fun a s₁ => W w A (eval r env) (fun b s₂ => W w A (compareOp op a b) Q E s₂) E s₁) E s)
    (hm : behindInMarks op r = false := by rfl) : W w A (eval (.Compare l [op] [r] pos) env) Q E s :=
  ⟨wpAny_Compare1 (um h fun _ _ h₁ => um h₁ fun _ _ h₂ => h₂.out) hm⟩
theorem t_cmp {l r : Expr} {op : CmpOp} {whole : Sem Value} {Q : Bool → Shared → Prop} (h : W w A (eval l env) (fun a s₁ => W w A (eval r env) (fun b s₂ => W w A (compareOp op a b) (fun c s₃ => W w A (truthy c) Q E s₃) E s₂) E s₁) E s)
    (hm : behindInMarks op r = false := by rfl) : W w A (isTrue (.Compare l [op] [r] pos) env whole) Q E s :=
  ⟨wpAny_isTrue_Compare1 (um h fun _ _ h₁ => um h₁ fun _ _ h₂ => um h₂ fun _ _ h₃ => h₃.out) hm⟩
theorem tr_bool {b : Bool} {Q : Bool → Shared → Prop} (h : Q b s) : W w A (truthy (.bool b)) Q E s := ⟨wpAny_truthy_bool h⟩
theorem e_neg {x : Expr} (h : W w A (eval x env) (fun v s₁ => W w A (unaryOp .USub v) Q E s₁) E s) : W w A (eval (.UnaryOp .USub x pos) env) Q E s :=
  ⟨by rw [arm_eval_UnaryOp]; exact wpAny_bind (um h fun _ _ h₁ => wpAny_bind (wpAny_standAt (wpAny_holding h₁.out)))⟩

/-! ints -/
section
variable {a b : Int} {t u : Tok}
theorem i_add (h : ∀ t' tk', Q (.int (a + b) t') ⟨hp, gn, dr, tk', os⟩) : W w A (binaryOp .Add (.int a t) (.int b u)) Q E ⟨hp, gn, dr, tk, os⟩ := ⟨PyProof.Rows.add_int (h _ _)⟩
theorem i_sub (h : ∀ t' tk', Q (.int (a - b) t') ⟨hp, gn, dr, tk', os⟩) : W w A (binaryOp .Sub (.int a t) (.int b u)) Q E ⟨hp, gn, dr, tk, os⟩ := ⟨PyProof.Rows.sub_int (h _ _)⟩
theorem i_mul (hm : IntMulOk a b) (h : ∀ t' tk', Q (.int (a * b) t') ⟨hp, gn, dr, tk', os⟩) : W w A (binaryOp .Mult (.int a t) (.int b u)) Q E ⟨hp, gn, dr, tk, os⟩ := ⟨PyProof.Rows.mul_int (h _ _) hm⟩
theorem i_mod (hb : b ≠ 0) (h : ∀ t' tk', Q (.int (a.fmod b) t') ⟨hp, gn, dr, tk', os⟩) : W w A (binaryOp .Mod (.int a t) (.int b u)) Q E ⟨hp, gn, dr, tk, os⟩ := ⟨PyProof.Rows.mod_int hb (h _ _)⟩
theorem i_shr (hb : 0 ≤ b) (h : ∀ t' tk', Q (.int (a.fdiv (2 ^ b.toNat)) t') ⟨hp, gn, dr, tk', os⟩) : W w A (binaryOp .RShift (.int a t) (.int b u)) Q E ⟨hp, gn, dr, tk, os⟩ := ⟨rshift_int hb (h _ _)⟩
theorem i_pow (hb : 0 ≤ b) (hb2 : b ≤ 1000000) (ha : a.natAbs < 2 ^ 64) (h : ∀ t' tk', Q (.int (a ^ b.toNat) t') ⟨hp, gn, dr, tk', os⟩) : W w A (binaryOp .Pow (.int a t) (.int b u)) Q E ⟨hp, gn, dr, tk, os⟩ := ⟨pow_int_small hb hb2 ha (h _ _)⟩
theorem i_or (h : ∀ t' tk', Q (.int (Builtin.bitOr a b) t') ⟨hp, gn, dr, tk', os⟩) : W w A (binaryOp .BitOr (.int a t) (.int b u)) Q E ⟨hp, gn, dr, tk, os⟩ := ⟨or_int (h _ _)⟩
theorem i_eq (h : Q (.bool (a == b)) s) : W w A (compareOp .Eq (.int a t) (.int b u)) Q E s := ⟨wpAny_eq_int h⟩
theorem i_lt (h : Q (.bool (decide (a < b))) s) : W w A (compareOp .Lt (.int a t) (.int b u)) Q E s := ⟨wpAny_lt_int h⟩
theorem i_neg (h : ∀ t' tk', Q (.int (-a) t') ⟨hp, gn, dr, tk', os⟩) : W w A (unaryOp .USub (.int a t)) Q E ⟨hp, gn, dr, tk, os⟩ := ⟨PyProof.Rows.neg_int (h _ _)⟩
end
/-! names -/
variable {L : Addr} {l : Loc}
theorem e_loc (S : St h₀ ((L, LocP l) :: cs) s.heap) (hv : lk l x = some v) (h : Q v s) (hk : env.scope.kind = .function := by rfl) (hx : env.kindOf x = some .local := by rfl)
    (hL : env.locals = L := by rfl) (hd : (x == ("__debug__" : PySem.Str)) = false := by rfl) : W w A (eval (.Name x pos) env) Q E s :=
  ⟨wpAny_Name (wpAny_loadName_local hk hx (hL ▸ ns_of_loc S.head) hv h) hd⟩
theorem e_glob (B : Base w h₀) (S : St h₀ cs s.heap) (e : nsIn (KH w) mainGlobals x = some (some v)) (h : Q v s) (hk : env.scope.kind = .function := by rfl) (hx : env.kindOf x = some .globalImplicit := by rfl)
    (hg : env.globals = mainGlobals := by rfl) (hd : (x == ("__debug__" : PySem.Str)) = false := by rfl) : W w A (eval (.Name x pos) env) Q E s := by
  have B' := S.base B
  obtain ⟨mg, mb, g, b, _⟩ := B'.ns
  exact ⟨Name_function_global hk hx (loadGlobal_global (by rw [hg]; exact g) (mg_of B'.K g e) h) hd⟩
theorem e_blt (B : Base w h₀) (S : St h₀ cs s.heap) (e : nsIn (KH w) mainGlobals x = some none) (hv : bootBuiltins x = some v) (hn : x ≠ "__name__") (h : Q v s) (hk : env.scope.kind = .function := by rfl) (hx : env.kindOf x = some .globalImplicit := by rfl)
    (hg : env.globals = mainGlobals := by rfl) (hb : env.builtins = builtinsNs := by rfl) (hd : (x == ("__debug__" : PySem.Str)) = false := by rfl) : W w A (eval (.Name x pos) env) Q E s := by
  have B' := S.base B
  obtain ⟨mg, mb, g, b, hbt⟩ := B'.ns
  exact ⟨Name_function_global hk hx (loadGlobal_builtin (by rw [hg]; exact g) (mg_none_of B'.K g e) (by rw [hb]; exact b) ((hbt x hn).trans hv) h) hd⟩
/-- the store of a local -/
def setL : Loc → PySem.Str → Value → Loc
  | [], x, v => [(x, some v)]
  | p :: r, x, v => if p.1 == x then (p.1, some v) :: r else p :: setL r x v
theorem lk_setL (l : Loc) (x : PySem.Str) (v : Value) (y : PySem.Str) : (if y = x then some v else lk l y) = lk (setL l x v) y := by
  induction l with
  | nil =>
    by_cases h : y = x
    · subst h; simp [setL, lk]
    · have h2 : (y == x) = false := by simpa using h
      simp [setL, lk, List.lookup_cons, h2, h]
  | cons p r ih =>
    obtain ⟨n, u⟩ := p
    unfold setL
    by_cases hp : n = x
    · have e : (n == x) = true := by simpa using hp
      simp only [e, if_true]
      by_cases h : y = x
      · subst h; subst hp; simp [lk, List.lookup_cons]
      · have h2 : (y == n) = false := by simpa [hp] using h
        simp [lk, List.lookup_cons, h2, h]
    · have e : (n == x) = false := by simpa using hp
      simp only [e]
      by_cases hy : y = n
      · have h3 : y ≠ x := fun q => hp (hy ▸ q)
        have h2 : (y == n) = true := by simpa using hy
        simp [lk, List.lookup_cons, h2, h3]
      · have h2 : (y == n) = false := by simpa using hy
        simp only [lk] at ih ⊢
        simp [List.lookup_cons, h2, ih]
theorem s_loc {Q : Unit → Shared → Prop} (S : St h₀ ((L, LocP l) :: cs) hp) (h : ∀ h' tk', St h₀ ((L, LocP (setL l x v)) :: cs) h' → Q () ⟨h', gn, dr, tk', os⟩)
    (hk : env.scope.kind = .function := by rfl) (hx : env.kindOf x = some .local := by rfl) (hL : env.locals = L := by rfl) : W w A (storeName env x v) Q E ⟨hp, gn, dr, tk, os⟩ :=
  ⟨wpAny_storeName_local hx (hL ▸ ns_of_loc S.head) (fun h' hn hs => h h' _ (S.upd0 (hL ▸ hs) (loc_of_ns (hL ▸ hn) (lk_setL l x v)))) (by rw [hk]; rfl)⟩

/-! calls of the text's defs -/
theorem callF {a : Addr} {args : Args} {binds : List (PySem.Str × Value)} {k : Nat} (f : FnOk w a) (B : Base w h₀) (S : St h₀ cs hp) (r : Rm (k + 1) A)
    (hbind : bindArgs (objF w.params a) args = pure binds) (hc : noCell (objF w.params a).scope = true) (hl : allLoc (objF w.params a).scope binds = true)
    (ns : List PySem.Str)
    (h : ∀ L h' tk', St h₀ ((L, LocP (mkL binds ns)) :: cs) h' → hp.get? L = none → Kp hp h' →
      W w (A.deeper (envF w a L)) (execs (bodyF w.params a) (envF w a L)) (fun f s' => R (.ok (.ret (match f with | .ret v => v | _ => .none))) s')
        (fun e s' => W w (A.deeper (envF w a L)) (leaving (envF w a L) e) (fun _ s'' => R (.error e) s'') (fun e' s'' => R (.error e') s'') s')
        ⟨h', gn, dr, tk', os⟩) :
    C w A (.call (.ref a) args) R ⟨hp, gn, dr, tk, os⟩ := by
  obtain ⟨oc, od, osl, ho⟩ := f.look
  have B' := S.base B
  refine ⟨codeAny_call_def (by have := r.dp; omega) (B'.K _ _ ho) rfl B'.nolimit (codeRec_of B'.K f.code) f.body (by refine BindsTo.of_eq ?_; exact hbind)
    (fun x hx => of_decide_eq_true (List.all_eq_true.mp hc x hx)) (fun x hx => of_decide_eq_true (List.all_eq_true.mp hl x hx)) (fun h' hns hk => ?_) f.co f.gen f.kind⟩
  obtain ⟨o, ho, hp⟩ := loc_of_ns hns (lk_mkL binds ns)
  exact wpAny_mono (h _ h' _ (S.add hk (get?_size_none _) ho hp) (get?_size_none _) hk).out (fun _ _ x => x) fun _ _ x => x.out
/-- a def that does not raise -/
theorem callFn {a : Addr} {args : Args} {binds : List (PySem.Str × Value)} {k : Nat} (f : FnOk w a) (B : Base w h₀) (S : St h₀ cs hp) (r : Rm (k + 1) A)
    (hbind : bindArgs (objF w.params a) args = pure binds) (hc : noCell (objF w.params a).scope = true) (hl : allLoc (objF w.params a).scope binds = true)
    (ns : List PySem.Str)
    (h : ∀ L h' tk', St h₀ ((L, LocP (mkL binds ns)) :: cs) h' → hp.get? L = none → Kp hp h' →
      W w (A.deeper (envF w a L)) (execs (bodyF w.params a) (envF w a L)) (fun f s' => R (.ok (.ret (match f with | .ret v => v | _ => .none))) s') No
        ⟨h', gn, dr, tk', os⟩) :
    C w A (.call (.ref a) args) R ⟨hp, gn, dr, tk, os⟩ :=
  callF f B S r hbind hc hl ns fun L h' tk S' hn hk => (h L h' tk S' hn hk).noE
end
theorem fn157 (w : World) : FnOk w 157 := FnOk.of rfl rfl rfl rfl rfl rfl
theorem fn164 (w : World) : FnOk w 164 := FnOk.of rfl rfl rfl rfl rfl rfl
theorem fn171 (w : World) : FnOk w 171 := FnOk.of rfl rfl rfl rfl rfl rfl


section
variable {w : World} {A : Around} {hp : Heap} {gn : Array GenState} {dr : Drawn} {tk : Nat} {os : OsState} {R : Result → Shared → Prop} {a b : Int} {t u : Tok}
theorem and_spec (B : Base w hp) (r : Rm 1 A) (h : ∀ h' t' tk', Kp hp h' → R (.ok (.ret (.int (Builtin.bitAnd a b) t'))) ⟨h', gn, dr, tk', os⟩) :
    C w A (.call (.ref 157) ⟨[.int a t, .int b u], []⟩) R ⟨hp, gn, dr, tk, os⟩ := by
  refine callFn (k := 0) (binds := [(.ofString "a", .int a t), (.ofString "b", .int b u)]) (fn157 w) B (St.nil fun _ _ e => e) r (by kernel_rfl) (by kernel_rfl) (by kernel_rfl) [] fun L h' tk S hn hk => ?_
  exact xs_ret (e_bin (e_loc S rfl (e_loc S rfl ⟨and_int (h _ _ _ hk)⟩)))
theorem or_spec (B : Base w hp) (r : Rm 1 A) (h : ∀ h' t' tk', Kp hp h' → R (.ok (.ret (.int (Builtin.bitOr a b) t'))) ⟨h', gn, dr, tk', os⟩) :
    C w A (.call (.ref 171) ⟨[.int a t, .int b u], []⟩) R ⟨hp, gn, dr, tk, os⟩ := by
  refine callFn (k := 0) (binds := [(.ofString "a", .int a t), (.ofString "b", .int b u)]) (fn171 w) B (St.nil fun _ _ e => e) r (by kernel_rfl) (by kernel_rfl) (by kernel_rfl) [] fun L h' tk S hn hk => ?_
  exact xs_ret (e_bin (e_loc S rfl (e_loc S rfl ⟨or_int (h _ _ _ hk)⟩)))
theorem mul_spec (B : Base w hp) (r : Rm 1 A) (hm : IntMulOk a b) (h : ∀ h' t' tk', Kp hp h' → R (.ok (.ret (.int (a * b) t'))) ⟨h', gn, dr, tk', os⟩) :
    C w A (.call (.ref 164) ⟨[.int a t, .int b u], []⟩) R ⟨hp, gn, dr, tk, os⟩ := by
  refine callFn (k := 0) (binds := [(.ofString "a", .int a t), (.ofString "b", .int b u)]) (fn164 w) B (St.nil fun _ _ e => e) r (by kernel_rfl) (by kernel_rfl) (by kernel_rfl) [] fun L h' tk S hn hk => ?_
  exact xs_ret (e_bin (e_loc S rfl (e_loc S rfl ⟨PyProof.Rows.mul_int (h _ _ _ hk) hm⟩)))
end
end Mine
end TextSLB
section TextSLC
open PySem PySem.W PySem.Spec PySem.Calls PyProof.Rows
set_option Elab.async false
set_option maxRecDepth 100000
set_option linter.unusedVariables false
set_option linter.unusedSimpArgs false
namespace Mine

/-! objects -/
def LstP (vs : List Value) : Obj → Prop := fun o => ∃ n, o = { cls := .type "list", dict := none, data := .seq vs.toArray n, slots := #[] }
def TupP (vs : List Value) : Obj → Prop := fun o => ∃ n, o = { cls := .type "tuple", dict := none, data := .seq vs.toArray n, slots := #[] }
def CellP (v : Option Value) : Obj → Prop := fun o => o.data = .cell v
def VarP (x : PySem.Str) (v : Value) : Obj → Prop := fun o => ∃ es ep, o.data = .dict es ep ∧ StrKeys es ∧ nsFind es x = some v
section
variable {h₀ h : Heap} {cs : List Cell} {a : Addr} {vs : List Value}
theorem isL_of (x : ∃ o, h.get? a = some o ∧ LstP vs o) : ∃ n, IsL h a vs.toArray n := by
  obtain ⟨o, e, n, p⟩ := x
  subst p
  exact ⟨n, e⟩
theorem isList_of (x : ∃ o, h.get? a = some o ∧ LstP vs o) : h.IsList a vs.toArray := let ⟨_, e⟩ := isL_of x; e.isList
theorem isTup_of (x : ∃ o, h.get? a = some o ∧ TupP vs o) : h.IsTuple a vs.toArray := let ⟨o, e, n, p⟩ := x; ⟨o, e, p ▸ rfl, n, p ▸ rfl⟩
theorem isCell_of {v : Option Value} (x : ∃ o, h.get? a = some o ∧ CellP v o) : h.IsCell a v := x
end

/-! calls of defs with captured names -/
theorem bindL_eq (kd : PySem.Str → Option NameKind) (y : PySem.Str) : ∀ (binds : List (PySem.Str × Value)) (m : PySem.Str → Option Value),
    bindL kd binds m y = ((binds.filter fun p => kd p.1 = some .local).reverse.lookup y).or (m y)
  | [], m => by simp [bindL]
  | (n, v) :: r, m => by
    unfold bindL
    rw [bindL_eq kd y r]
    by_cases hk : kd n = some .local
    · simp only [hk, if_true, List.filter_cons, decide_true, List.reverse_cons, List.lookup_append]
      cases h : (r.filter fun p => kd p.1 = some .local).reverse.lookup y with
      | some u => simp
      | none =>
        by_cases hy : y = n
        · subst hy; simp
        · have : (y == n) = false := by simpa using hy
          simp [List.lookup_cons, this, hy]
    · simp [hk, List.filter_cons]
theorem bindC_eq (kd : PySem.Str → Option NameKind) (y : PySem.Str) : ∀ (binds : List (PySem.Str × Value)) (m : PySem.Str → Option Value),
    bindC kd binds m y = ((binds.filter fun p => ¬ kd p.1 = some .local).reverse.lookup y).or (m y)
  | [], m => by simp [bindC]
  | (n, v) :: r, m => by
    unfold bindC
    rw [bindC_eq kd y r]
    by_cases hk : kd n = some .local
    · simp [hk, List.filter_cons]
    · simp only [hk, if_false, List.filter_cons, not_false_eq_true, decide_true, if_true, List.reverse_cons, List.lookup_append]
      cases h : (r.filter fun p => ¬ kd p.1 = some .local).reverse.lookup y with
      | some u => simp
      | none =>
        by_cases hy : y = n
        · subst hy; simp
        · have : (y == n) = false := by simpa using hy
          simp [List.lookup_cons, this, hy]
noncomputable abbrev envC (w : World) (a : Addr) (L : Addr) : Env := callEnvC (objF w.params a) L a
noncomputable def locB (w : World) (a : Addr) (binds : List (PySem.Str × Value)) : List (PySem.Str × Value) := binds.filter fun p => (objF w.params a).scope.names.lookup p.1 = some .local
noncomputable def celB (w : World) (a : Addr) (binds : List (PySem.Str × Value)) : List (PySem.Str × Value) := binds.filter fun p => ¬ (objF w.params a).scope.names.lookup p.1 = some .local
/-- the cells that a call lays -/
noncomputable def celL (w : World) (a : Addr) (binds : List (PySem.Str × Value)) (L : Addr) : List Cell := (cellsFrom (L + 1) (objF w.params a).scope.names []).map fun p => (p.2, CellP ((celB w a binds).reverse.lookup p.1))
def kindsOk (sc : Scope) (binds : List (PySem.Str × Value)) : Bool := (binds.all fun y => sc.names.lookup y.1 == some .local || sc.names.lookup y.1 == some .cell) && decide ((cellsFrom 0 sc.names []).map (·.1)).Nodup
section
variable {w : World} {A : Around} {E E' : Value → Shared → Prop} {s : Shared} {hp : Heap} {gn : Array GenState} {dr : Drawn} {tk : Nat} {os : OsState} {env : Env} {R : Result → Shared → Prop} {h₀ : Heap} {cs : List Cell}
theorem callC {a : Addr} {vals : List Value} {binds : List (PySem.Str × Value)} {k : Nat} (f : FnOk w a) (B : Base w h₀) (S : St h₀ cs hp) (r : Rm (k + 1) A)
    (hbind : bindArgs (objF w.params a) ⟨vals, []⟩ = pure binds) (hc : kindsOk (objF w.params a).scope binds = true) (hclo : (objF w.params a).closure = [])
    (ns : List PySem.Str)
    (h : ∀ L h' tk', St h₀ ((L, LocP (mkL (locB w a binds) ns)) :: (celL w a binds L ++ cs)) h' → hp.get? L = none → Kp hp h' →
      W w (A.deeper (envC w a L)) (execs (bodyF w.params a) (envC w a L)) (fun f s' => R (.ok (.ret (match f with | .ret v => v | _ => .none))) s')
        (fun e s' => W w (A.deeper (envC w a L)) (leaving (envC w a L) e) (fun _ s'' => R (.error e) s'') (fun e' s'' => R (.error e') s'') s')
        ⟨h', gn, dr, tk', os⟩) :
    C w A (.call (.ref a) ⟨vals, []⟩) R ⟨hp, gn, dr, tk, os⟩ := by
  obtain ⟨oc, od, osl, ho⟩ := f.look
  have B' := S.base B
  obtain ⟨hc1, hc2⟩ := Bool.and_eq_true_iff.mp hc
  have hnd : ((cellsFrom 0 (objF w.params a).scope.names []).map (·.1)).Nodup := of_decide_eq_true hc2
  refine ⟨codeAny_call_cells (by have := r.dp; omega) (B'.K _ _ ho) rfl B'.nolimit (codeRec_of B'.K f.code) f.body hbind hclo (kindsX hc1 _) (fun s₁ x => ?_) f.co f.gen f.kind⟩
  obtain ⟨h', tk', rfl, hk⟩ := x.done
  have hcl : ∀ n c, (n, c) ∈ (callEnvC (objF w.params a) hp.objs.size a).cells → (callEnvC (objF w.params a) hp.objs.size a).cells.lookup n = some c := fun n c hm =>
    lookup_of_mem_nodup (cellsFrom_names (objF w.params a).scope.names 0 (hp.objs.size + 1) [] [] rfl ▸ hnd) hm
  have hcell : ∀ n c, (n, c) ∈ (callEnvC (objF w.params a) hp.objs.size a).cells → ∃ o, h'.get? c = some o ∧ CellP ((celB w a binds).reverse.lookup n) o := fun n c hm => by
    have := x.cell n c (hcl n c hm)
    rw [bindC_eq, Option.or_none] at this
    exact this
  have S1 : St h₀ cs h' := S.keeps hk
  obtain ⟨oL, hoL, hpL⟩ := loc_of_ns (l := mkL (locB w a binds) ns) x.toInCall.ns fun y => by
    rw [bindL_eq, ← lk_mkL, Option.or_none]
    rfl
  have hS : St h₀ ((hp.objs.size, LocP (mkL (locB w a binds) ns)) :: (celL w a binds hp.objs.size ++ cs)) h' := by
    have hnew : ∀ b, hp.objs.size ≤ b → hp.get? b = none := fun b hb => by
      cases q : hp.get? b with
      | none => rfl
      | some o => exact absurd (Heap.lt_size q) (Nat.not_lt.mpr hb)
    have hnew0 : ∀ b, hp.objs.size ≤ b → h₀.get? b = none := fun b hb => by
      cases q : h₀.get? b with
      | none => rfl
      | some o => have := S.keep _ _ q; rw [hnew b hb] at this; cases this
    have hcsmem : ∀ c ∈ cs, c.1 < hp.objs.size := fun c hc => by obtain ⟨o, e, _⟩ := S.held c hc; exact Heap.lt_size e
    have hmem : ∀ c ∈ celL w a binds hp.objs.size, ∃ n, (n, c.1) ∈ (callEnvC (objF w.params a) hp.objs.size a).cells ∧ c.2 = CellP ((celB w a binds).reverse.lookup n) := fun c hc => by
      obtain ⟨p, hp, rfl⟩ := List.mem_map.mp hc
      exact ⟨p.1, hp, rfl⟩
    refine ⟨S1.keep, fun c hc => ?_, fun c hc => ?_, ?_⟩
    · rcases List.mem_cons.mp hc with rfl | hc
      · exact ⟨oL, hoL, hpL⟩
      · rcases List.mem_append.mp hc with hc | hc
        · obtain ⟨n, hm, e⟩ := hmem c hc
          rw [e]; exact hcell n c.1 hm
        · exact S1.held c hc
    · rcases List.mem_cons.mp hc with rfl | hc
      · exact hnew0 _ (Nat.le_refl _)
      · rcases List.mem_append.mp hc with hc | hc
        · obtain ⟨n, hm, _⟩ := hmem c hc
          exact hnew0 _ (Nat.le_of_lt (x.above n c.1 hm))
        · exact S.new c hc
    · simp only [List.map_cons, List.map_append, List.nodup_cons, List.nodup_append, List.mem_append, not_or]
      refine ⟨⟨fun hm => ?_, fun hm => ?_⟩, ?_, S.nd, fun b hb b' hb' e => ?_⟩
      · obtain ⟨c, hc, e⟩ := List.mem_map.mp hm
        obtain ⟨n, hm, _⟩ := hmem c hc
        exact Nat.lt_irrefl _ (e ▸ x.above n c.1 hm)
      · obtain ⟨c, hc, e⟩ := List.mem_map.mp hm
        exact Nat.lt_irrefl _ (e ▸ hcsmem c hc)
      · have : (celL w a binds hp.objs.size).map (·.1) = (callEnvC (objF w.params a) hp.objs.size a).cells.map (·.2) := by
          simp only [celL, List.map_map]; rfl
        rw [this]
        exact List.pairwise_map.mpr x.apart
      · obtain ⟨c, hc, rfl⟩ := List.mem_map.mp hb
        obtain ⟨n, hm, _⟩ := hmem c hc
        obtain ⟨c', hc', rfl⟩ := List.mem_map.mp hb'
        have h1 := x.above n c.1 hm
        have h2 := hcsmem c' hc'
        rw [← e] at h2
        exact Nat.lt_irrefl _ (Nat.lt_trans h2 h1)
  exact wpAny_mono (h _ h' tk' hS (get?_size_none _) hk).out (fun _ _ x => x) fun _ _ x => x.out
theorem callCn {a : Addr} {vals : List Value} {binds : List (PySem.Str × Value)} {k : Nat} (f : FnOk w a) (B : Base w h₀) (S : St h₀ cs hp) (r : Rm (k + 1) A)
    (hbind : bindArgs (objF w.params a) ⟨vals, []⟩ = pure binds) (hc : kindsOk (objF w.params a).scope binds = true) (hclo : (objF w.params a).closure = [])
    (ns : List PySem.Str)
    (h : ∀ L h' tk', St h₀ ((L, LocP (mkL (locB w a binds) ns)) :: (celL w a binds L ++ cs)) h' → hp.get? L = none → Kp hp h' →
      W w (A.deeper (envC w a L)) (execs (bodyF w.params a) (envC w a L)) (fun f s' => R (.ok (.ret (match f with | .ret v => v | _ => .none))) s') No
        ⟨h', gn, dr, tk', os⟩) :
    C w A (.call (.ref a) ⟨vals, []⟩) R ⟨hp, gn, dr, tk, os⟩ :=
  callC f B S r hbind hc hclo ns fun L h' tk S' hn hk => (h L h' tk S' hn hk).noE

/-! captured names -/
variable {Q : Value → Shared → Prop} {pos : Pos} {x : PySem.Str} {v : Value} {c : Addr}
theorem e_cel (hv : s.heap.IsCell c (some v)) (h : Q v s) (hc : env.cells.lookup x = some c) (hk : env.scope.kind = .function := by rfl) (hx : env.kindOf x = some .cell := by rfl)
    (hd : (x == ("__debug__" : PySem.Str)) = false := by rfl) : W w A (eval (.Name x pos) env) Q E s := ⟨wpAny_Name (wpAny_loadName_cell hk hx hc hv h) hd⟩
theorem s_cel {Q : Unit → Shared → Prop} {i : Nat} {v₀ : Option Value} (S : St h₀ cs hp) (hi : cs[i]? = some (c, CellP v₀)) (h : ∀ h', St h₀ (cs.set i (c, CellP (some v))) h' → Q () ⟨h', gn, dr, tk, os⟩)
    (hc : env.cells.lookup x = some c) (hk : env.scope.kind = .function := by rfl) (hx : env.kindOf x = some .cell := by rfl) : W w A (storeName env x v) Q E ⟨hp, gn, dr, tk, os⟩ :=
  ⟨wpAny_storeName_cell hk hx hc (S.at (List.mem_of_getElem? hi)) fun h' hcc hs => h h' (S.updAt hi hs hcc)⟩
theorem e_var (S : St h₀ ((c, VarP x v) :: cs) s.heap) (h : Q v s) (hk : env.scope.kind = .function := by rfl) (hx : env.kindOf x = some .local := by rfl)
    (hL : env.locals = c := by rfl) (hd : (x == ("__debug__" : PySem.Str)) = false := by rfl) : W w A (eval (.Name x pos) env) Q E s := by
  obtain ⟨o, e, es, ep, d, k, f⟩ := S.head
  exact ⟨wpAny_Name (wpAny_loadName_local (m := nsFind es) hk hx (by rw [hL]; exact ⟨o, es, ep, e, d, k, fun _ => rfl⟩) f h) hd⟩
end
def LR (Q : Flow → Shared → Prop) (r : Result) (s : Shared) : Prop := match r with
  | .ok f => Q f s
  | .error _ => False
/-- what a turn's end asks -/
def TQ (Q : Flow → Shared → Prop) (I : Shared → Prop) : Flow → Shared → Prop
  | .next, s => I s
  | .cont, s => I s
  | .brk, s => Q .next s
  | .ret v, s => Q (.ret v) s
section
variable {w : World} {A : Around} {E E' : Value → Shared → Prop} {s : Shared} {hp : Heap} {gn : Array GenState} {dr : Drawn} {tk : Nat} {os : OsState} {env : Env} {h₀ : Heap} {cs : List Cell} {L : Addr}
theorem xs_for {target iter : Expr} {body orelse rest : List Stmt} {pos : Pos} {Q : Flow → Shared → Prop}
    (h : W w A (eval iter env) (fun x s₁ => W w A (pyIter x) (fun it s₂ => C w A (.forLoop target it body orelse env) (LR (Nx w A rest env Q E)) s₂) E s₁) E s)
    (hs : ∀ x, foldedSetIterable iter env x = pure x := by intro _; rfl) : W w A (execs (.For target iter body orelse pos :: rest) env) Q E s :=
  xs_cons ⟨wpAny_For (um h fun _ _ h₁ => um h₁ fun _ _ h₂ => codeAny_mono h₂.out fun r s' hr => by
    cases r with
    | ok f => exact hr
    | error e => exact hr.elim) hs⟩
theorem xs_while {test : Expr} {body orelse rest : List Stmt} {pos : Pos} {Q : Flow → Shared → Prop}
    (h : C w A (.whileLoop test body orelse env) (LR (Nx w A rest env Q E)) s) : W w A (execs (.While test body orelse pos :: rest) env) Q E s :=
  xs_cons ⟨wpAny_While (codeAny_mono h.out fun r s' hr => by
    cases r with
    | ok f => exact hr
    | error e => exact hr.elim)⟩
/-- a while, by a measure -/
theorem c_while {test : Expr} {body orelse : List Stmt} {Q : Flow → Shared → Prop} (I : Nat → Shared → Prop)
    (turn : ∀ n s, I n s → W w A (isTrue test env (eval test env)) (fun b s₂ => if b = true then W w A (execs body env) (TQ Q fun s' => ∃ m, m < n ∧ I m s') No s₂ else W w A (execs orelse env) Q No s₂) No s)
    (n : Nat) (h : I n s) : C w A (.whileLoop test body orelse env) (LR Q) s := by
  refine ⟨codeAny_whileLoop I (fun n s hI => ?_) n h⟩
  refine wpAny_mono (turn n s hI).out (fun b s₂ h₂ => ?_) fun _ _ f => f.elim
  cases b with
  | true => exact wpAny_mono h₂.out (fun f s₃ h₃ => by cases f <;> exact h₃) fun _ _ f => f.elim
  | false => exact wpAny_mono h₂.out (fun f s₃ h₃ => h₃) fun _ _ f => f.elim

theorem a_name {x : PySem.Str} {p : Pos} {v : Value} {Q : Unit → Shared → Prop} (h : W w A (storeName env x v) Q E s) : W w A (assign (.Name x p) env v) Q E s := ⟨wpAny_assign_Name h.out⟩
/-- a for over an iterator -/
theorem for_walk_g {x : PySem.Str} {p : Pos} {body : List Stmt} {I : Addr} {fp wr : List Addr} {n : Nat} {Pv : Nat → Value → Prop} {It : Nat → Heap → Prop} {Q : Flow → Shared → Prop} {PI : Obj → Prop}
    (Wk : Walks PR w A I fp wr n Pv It) (hwr : ∀ b ∈ wr, b = I) (hIt : ∀ i h, It i h → ∃ o, h.get? I = some o)
    {D : Type} (loc : D → Loc) (Rc : D → List Cell) (J : Nat → D → Prop) (d0 : D)
    (hfr : ∀ i d d' h h' oI, J i d → J (i + 1) d' → It (i + 1) h → St h₀ ((L, LocP (loc d)) :: (I, fun q => q = oI) :: Rc d) h → St h₀ ((L, LocP (loc d')) :: (I, fun q => q = oI) :: Rc d') h' → It (i + 1) h')
    (S : St h₀ ((L, LocP (loc d0)) :: (I, PI) :: Rc d0) s.heap) (hI0 : It 0 s.heap) (hJ : J 0 d0)
    (turn : ∀ i d v h tk oI, i < n → J i d → Pv i v → St h₀ ((L, LocP (loc d)) :: (I, fun q => q = oI) :: Rc d) h →
      W w A (assign (.Name x p) env v) (fun _ s₂ => W w A (execs body env) (TQ Q fun s' => ∃ d' h' tk', s' = { s with heap := h', toks := tk' } ∧ J (i + 1) d' ∧ St h₀ ((L, LocP (loc d')) :: (I, fun q => q = oI) :: Rc d') h') No s₂) No { s with heap := h, toks := tk })
    (done : ∀ d h tk, J n d → St h₀ ((L, LocP (loc d)) :: Rc d) h → Q .next { s with heap := h, toks := tk }) :
    C w A (.forLoop (.Name x p) (.ref I) body [] env) (LR Q) s := by
  have upd : ∀ d (P : Obj → Prop) h h' , St h₀ ((L, LocP (loc d)) :: (I, P) :: Rc d) h → (∀ b o, b ∉ wr → h.get? b = some o → h'.get? b = some o) → ∀ oI, h'.get? I = some oI → St h₀ ((L, LocP (loc d)) :: (I, fun q => q = oI) :: Rc d) h' := by
    intro d P h h' S1 hk oI hoI
    have hIn := S1.new (I, P) (.tail _ (.head _))
    have hnd := S1.nd
    simp only [List.map_cons, List.nodup_cons, List.mem_cons, not_or] at hnd
    have hkeep : ∀ b o, b ≠ I → h.get? b = some o → h'.get? b = some o := fun b o hb e => hk b o (fun hm => hb (hwr b hm)) e
    refine ⟨fun b o e => hkeep b o (fun q => ?_) (S1.keep b o e), fun c hc => ?_, fun c hc => ?_, by simpa using S1.nd⟩
    · rw [q, hIn] at e; cases e
    · rcases List.mem_cons.mp hc with rfl | hc
      · obtain ⟨o, e, q⟩ := S1.held _ (.head _)
        exact ⟨o, hkeep _ _ hnd.1.1 e, q⟩
      · rcases List.mem_cons.mp hc with rfl | hc
        · exact ⟨oI, hoI, rfl⟩
        · obtain ⟨o, e, q⟩ := S1.held c (.tail _ (.tail _ hc))
          exact ⟨o, hkeep _ _ (fun z => hnd.2.1 (z ▸ List.mem_map_of_mem hc)) e, q⟩
    · rcases List.mem_cons.mp hc with rfl | hc
      · exact S1.new _ (.head _)
      · rcases List.mem_cons.mp hc with rfl | hc
        · exact hIn
        · exact S1.new c (.tail _ (.tail _ hc))
  refine ⟨codeAny_forLoop (fun k s' => ∃ i d h tk, k = n - i ∧ i ≤ n ∧ s' = { s with heap := h, toks := tk } ∧ J i d ∧ (∃ P, St h₀ ((L, LocP (loc d)) :: (I, P) :: Rc d) h) ∧ It i h) ?_ n ⟨0, d0, s.heap, s.toks, rfl, Nat.zero_le _, rfl, hJ, ⟨_, S⟩, hI0⟩ (by intro _; rfl)⟩
  rintro k s' ⟨i, d, h, tk, rfl, hi, rfl, hJi, ⟨P, Si⟩, hIi⟩
  by_cases hlt : i < n
  · refine Wk.item i _ _ _ hlt hIi fun v h' tk' hP hI' hkk => ?_
    obtain ⟨oI, hoI⟩ := hIt _ _ hI'
    have S2 := upd d P h h' Si hkk oI hoI
    refine wpAny_mono (turn i d v h' tk' oI hlt hJi hP S2).out (fun _ s₂ h₂ => wpAny_mono h₂.out (fun f s₃ h₃ => ?_) fun _ _ f => f.elim) fun _ _ f => f.elim
    have fin : (∃ d' h' tk', s₃ = { s with heap := h', toks := tk' } ∧ J (i + 1) d' ∧ St h₀ ((L, LocP (loc d')) :: (I, fun q => q = oI) :: Rc d') h') → ∃ m, m < n - i ∧ ∃ i d h tk, m = n - i ∧ i ≤ n ∧ s₃ = { s with heap := h, toks := tk } ∧ J i d ∧ (∃ P, St h₀ ((L, LocP (loc d)) :: (I, P) :: Rc d) h) ∧ It i h := by
      rintro ⟨d', h'', tk'', rfl, hJ', S4⟩
      exact ⟨n - (i + 1), by omega, i + 1, d', h'', tk'', rfl, hlt, rfl, hJ', ⟨_, S4⟩, hfr _ d d' _ _ oI hJi hJ' hI' S2 S4⟩
    cases f with
    | next => exact fin h₃
    | cont => exact fin h₃
    | brk => exact h₃
    | ret v => exact h₃
  · have hin : i = n := Nat.le_antisymm hi (Nat.not_lt.mp hlt)
    subst hin
    refine Wk.done _ _ _ hIi fun h' tk' hkk => wpAny_execs_nil ?_
    refine done d h' tk' hJi ?_
    have hIn := Si.new (I, P) (.tail _ (.head _))
    have hnd := Si.nd
    simp only [List.map_cons, List.nodup_cons, List.mem_cons, not_or] at hnd
    have hkeep : ∀ b o, b ≠ I → h.get? b = some o → h'.get? b = some o := fun b o hb e => hkk b o (fun hm => hb (hwr b hm)) e
    refine ⟨fun b o e => hkeep b o (fun q => ?_) (Si.keep b o e), fun c hc => ?_, fun c hc => ?_, ?_⟩
    · rw [q, hIn] at e; cases e
    · rcases List.mem_cons.mp hc with rfl | hc
      · obtain ⟨o, e, q⟩ := Si.held _ (.head _)
        exact ⟨o, hkeep _ _ hnd.1.1 e, q⟩
      · obtain ⟨o, e, q⟩ := Si.held c (.tail _ (.tail _ hc))
        exact ⟨o, hkeep _ _ (fun z => hnd.2.1 (z ▸ List.mem_map_of_mem hc)) e, q⟩
    · rcases List.mem_cons.mp hc with rfl | hc
      · exact Si.new _ (.head _)
      · exact Si.new c (.tail _ (.tail _ hc))
    · simp only [List.map_cons, List.nodup_cons]
      exact ⟨fun hm => hnd.1.2 hm, hnd.2.2⟩
theorem for_walk_s {x : PySem.Str} {p : Pos} {body : List Stmt} {I : Addr} {fp wr : List Addr} {n : Nat} {Pv : Nat → Value → Prop} {It : Nat → Heap → Prop} {Q : Flow → Shared → Prop} {PI : Obj → Prop}
    (Wk : Walks PR w A I fp wr n Pv It) (hwr : ∀ b ∈ wr, b = I) (hIt : ∀ i h, It i h → ∃ o, h.get? I = some o)
    {D : Type} (loc : D → Loc) (Rc : D → List Cell) (J : Nat → D → Prop) (d0 : D)
    (hfp : ∀ b ∈ fp, b = I ∨ (∃ o, h₀.get? b = some o) ∨ (∃ o, ∀ d, (b, fun q => q = o) ∈ Rc d))
    (S : St h₀ ((L, LocP (loc d0)) :: (I, PI) :: Rc d0) s.heap) (hI0 : It 0 s.heap) (hJ : J 0 d0)
    (turn : ∀ i d v h tk oI, i < n → J i d → Pv i v → St h₀ ((L, LocP (loc d)) :: (I, fun q => q = oI) :: Rc d) h →
      W w A (assign (.Name x p) env v) (fun _ s₂ => W w A (execs body env) (TQ Q fun s' => ∃ d' h' tk', s' = { s with heap := h', toks := tk' } ∧ J (i + 1) d' ∧ St h₀ ((L, LocP (loc d')) :: (I, fun q => q = oI) :: Rc d') h') No s₂) No { s with heap := h, toks := tk })
    (done : ∀ d h tk, J n d → St h₀ ((L, LocP (loc d)) :: Rc d) h → Q .next { s with heap := h, toks := tk }) :
    C w A (.forLoop (.Name x p) (.ref I) body [] env) (LR Q) s := by
  have same : ∀ l l' d d' h h' oI, St h₀ ((L, LocP l) :: (I, fun q => q = oI) :: Rc d) h → St h₀ ((L, LocP l') :: (I, fun q => q = oI) :: Rc d') h' → ∀ b ∈ fp, ∀ o, h.get? b = some o → h'.get? b = some o := by
    intro l l' d d' h h' oI S1 S2 b hb o e
    rcases hfp b hb with rfl | ⟨o', e'⟩ | ⟨o', e'⟩
    · obtain ⟨o1, e1, q1⟩ := S1.held _ (.tail _ (.head _))
      obtain ⟨o2, e2, q2⟩ := S2.held _ (.tail _ (.head _))
      have : o = oI := by have := e.symm.trans e1; cases this; exact q1
      rw [this, ← q2]; exact e2
    · have h1 := S1.keep _ _ e'
      have : o = o' := by have := e.symm.trans h1; cases this; rfl
      rw [this]; exact S2.keep _ _ e'
    · obtain ⟨o1, e1, q1⟩ := S1.held _ (.tail _ (.tail _ (e' d)))
      obtain ⟨o2, e2, q2⟩ := S2.held _ (.tail _ (.tail _ (e' d')))
      have : o = o' := by have := e.symm.trans e1; cases this; exact q1
      rw [this, ← q2]; exact e2
  exact for_walk_g Wk hwr hIt loc Rc J d0 (fun i d d' h h' oI _ _ hI S1 S2 => Wk.frame _ _ _ hI (same _ _ d d' _ _ oI S1 S2)) S hI0 hJ turn done
theorem for_walk {x : PySem.Str} {p : Pos} {body : List Stmt} {I : Addr} {fp wr : List Addr} {n : Nat} {Pv : Nat → Value → Prop} {It : Nat → Heap → Prop} {Q : Flow → Shared → Prop} {PI : Obj → Prop}
    (Wk : Walks PR w A I fp wr n Pv It) (hwr : ∀ b ∈ wr, b = I) (hIt : ∀ i h, It i h → ∃ o, h.get? I = some o)
    {D : Type} (loc : D → Loc) (Rc : D → List Cell) (J : Nat → D → Prop) (d0 : D)
    (hfp : ∀ b ∈ fp, b = I ∨ (∃ o, h₀.get? b = some o) ∨ (∃ o, ∀ d, (b, fun q => q = o) ∈ Rc d))
    (S : St h₀ ((L, LocP (loc d0)) :: (I, PI) :: Rc d0) hp) (hI0 : It 0 hp) (hJ : J 0 d0)
    (turn : ∀ i d v h tk oI, i < n → J i d → Pv i v → St h₀ ((L, LocP (loc d)) :: (I, fun q => q = oI) :: Rc d) h →
      W w A (assign (.Name x p) env v) (fun _ s₂ => W w A (execs body env) (TQ Q fun s' => ∃ d' h' tk', s' = ⟨h', gn, dr, tk', os⟩ ∧ J (i + 1) d' ∧ St h₀ ((L, LocP (loc d')) :: (I, fun q => q = oI) :: Rc d') h') No s₂) No ⟨h, gn, dr, tk, os⟩)
    (done : ∀ d h tk, J n d → St h₀ ((L, LocP (loc d)) :: Rc d) h → Q .next ⟨h, gn, dr, tk, os⟩) :
    C w A (.forLoop (.Name x p) (.ref I) body [] env) (LR Q) ⟨hp, gn, dr, tk, os⟩ :=
  for_walk_s (s := ⟨hp, gn, dr, tk, os⟩) Wk hwr hIt loc Rc J d0 hfp S hI0 hJ turn done
end
end Mine
end TextSLC
section TextSLD
open PySem PySem.W PySem.Spec PySem.Calls PyProof.Rows
set_option Elab.async false
set_option maxRecDepth 100000
set_option linter.unusedVariables false
set_option linter.unusedSimpArgs false
namespace Mine
section
variable {w : World} {A : Around} {E E' : Value → Shared → Prop} {s : Shared} {hp : Heap} {gn : Array GenState} {dr : Drawn} {tk : Nat} {os : OsState} {env : Env} {h₀ : Heap} {cs : List Cell} {Q : Value → Shared → Prop} {pos : Pos}
/-! calls -/
theorem e_call {func : Expr} {args : List Expr} (h : W w A (eval func env) (fun f s₁ => W w A (callWith pos f [] (backTo pos (starEach args env)) []) Q E s₁) E s)
    (he : eval (.Call func args [] pos) env = (do callWith pos (← eval func env) [] (backTo pos (starEach args env)) (backToKw pos (keywordEach [] env))) := by rfl) : W w A (eval (.Call func args [] pos) env) Q E s :=
  ⟨Call_ (um h fun _ _ h₁ => h₁.out) he⟩
theorem a_nil {Q : List Value → Shared → Prop} (h : Q [] s) : W w A (spliced (backTo pos (starEach [] env))) Q E s := ⟨args_nil h⟩
theorem a_cons {e : Expr} {rest : List Expr} {Q : List Value → Shared → Prop} (h : W w A (eval e env) (fun v s₁ => W w A (spliced (backTo pos (starEach rest env))) (fun vs s₂ => Q (v :: vs) s₂) E s₁) E s)
    (he : starEach (e :: rest) env = (false, eval e env) :: starEach rest env := by rfl) : W w A (spliced (backTo pos (starEach (e :: rest) env))) Q E s :=
  ⟨args_cons (um h fun _ _ h₁ => um h₁ fun _ _ x => x) he⟩
theorem w_call {f : Value} {vs : List Value} (h : C w A (.call f ⟨vs, []⟩) (RV Q E) s) : W w A (call f vs) Q E s := ⟨wpAny_call (codeAny_mono h.out fun r s' x => by
  cases r with
  | ok f => cases f <;> exact x
  | error e => exact x)⟩
theorem cw_ref {f : Value} {first : List Value} {e : Expr} {rest : List Expr} (hk : keepIn (KH w) f = true) (h : W w A (spliced (backTo pos (starEach (e :: rest) env))) (fun vs s₁ => Base w s₁.heap ∧ C w A (.call f ⟨first ++ vs, []⟩) (RV Q E) s₁) E s)
    (he : starEach (e :: rest) env = (false, eval e env) :: starEach rest env := by rfl) (hplain : (backTo pos (starEach rest env)).any (·.1) = false := by rfl) :
    W w A (callWith pos f first (backTo pos (starEach (e :: rest) env)) []) Q E s := by
  constructor
  rw [he]
  refine callWith_of (P := fun h => (KH w).In h) (by show ((false || (backTo pos (starEach rest env)).any (·.1)) || false) = false; rw [hplain]; rfl) (keeps_K hk) ?_
  have h' := um h (Q' := fun vs s₁ => (KH w).In s₁.heap ∧ wpAny (model PR w) A (call f (first ++ vs)) Q E s₁) fun vs s₁ x => ⟨x.1.K, (w_call x.2).out⟩
  rw [he] at h'
  exact evalArgs_plain h'
theorem cw_ref0 {f : Value} {first : List Value} (hk : keepIn (KH w) f = true) (B : Base w s.heap) (h : C w A (.call f ⟨first ++ [], []⟩) (RV Q E) s) :
    W w A (callWith pos f first (backTo pos (starEach [] env)) []) Q E s := ⟨callWith_K0 B.K hk (w_call h).out⟩
theorem cw_blt {id : String} {e : Expr} {rest : List Expr} (h : W w A (spliced (backTo pos (starEach (e :: rest) env))) (fun vs s₁ => W w A (call (.builtin id) vs) Q E s₁) E s)
    (he : starEach (e :: rest) env = (false, eval e env) :: starEach rest env := by rfl) (hplain : (backTo pos (starEach rest env)).any (·.1) = false := by rfl) :
    W w A (callWith pos (.builtin id) [] (backTo pos (starEach (e :: rest) env)) []) Q E s := by
  constructor
  have h' := um h (Q' := fun vs s₁ => wpAny (model PR w) A (call (.builtin id) ([] ++ vs)) Q E s₁) fun vs s₁ x => x.out
  rw [he] at h' ⊢
  exact callWith_builtin (by show (false || (backTo pos (starEach rest env)).any (·.1)) = false; rw [hplain]; rfl) (evalArgs_plain h')
theorem cw_typ {T : String} {e : Expr} {rest : List Expr} (h : W w A (spliced (backTo pos (starEach (e :: rest) env))) (fun vs s₁ => W w A (call (.type T) vs) Q E s₁) E s)
    (he : starEach (e :: rest) env = (false, eval e env) :: starEach rest env := by rfl) (hplain : (backTo pos (starEach rest env)).any (·.1) = false := by rfl) :
    W w A (callWith pos (.type T) [] (backTo pos (starEach (e :: rest) env)) []) Q E s := by
  constructor
  have h' := um h (Q' := fun vs s₁ => wpAny (model PR w) A (call (.type T) ([] ++ vs)) Q E s₁) fun vs s₁ x => x.out
  rw [he] at h' ⊢
  exact PySem.callWith_type (by show (false || (backTo pos (starEach rest env)).any (·.1)) = false; rw [hplain]; rfl) (evalArgs_plain h')
theorem cw_typ0 {T : String} (h : W w A (call (.type T) []) Q E s) : W w A (callWith pos (.type T) [] (backTo pos (starEach [] env)) []) Q E s := ⟨callWith_type0 h.out⟩
/-! comprehensions whose name is a local -/
abbrev cTests (ifs : List Expr) (env : Env) : Sem Bool := forIn ifs true fun c r => if r = true then do let ok ← isTrue c env (eval c env); pure (ForInStep.yield ok) else pure (ForInStep.yield r)
theorem t_nil {Q : Bool → Shared → Prop} (h : Q true s) : W w A (cTests [] env) Q E s := ⟨wpAny_tests_nil h⟩
theorem t_one {c : Expr} {Q : Bool → Shared → Prop} (h : W w A (isTrue c env (eval c env)) Q E s) : W w A (cTests [c] env) Q E s := ⟨wpAny_tests_one h.out⟩
def namesOk (sc : Scope) : Bool := sc.names.all fun x => decide (x.2 = .local → sc.names.lookup x.1 = some .local)
structure CompS (w : World) (A : Around) (env : Env) (scope : Scope) (cl : List (PySem.Str × Addr)) (x : PySem.Str) (ifs : List Expr) (elt : Expr) (p : Value → Bool) (F : Value → Value → Prop) (Q : Value → Shared → Prop) (E : Value → Shared → Prop) (xv : Value) (s₁ : Shared) : Prop where
  out : wpAny (model PR w) A (pyIter xv) (fun it s₂ => ∃ I fp wr n P St, it = .ref I ∧ Walks PR w A I fp wr n P St ∧ n ≤ sizeLine ∧ St 0 s₂.heap ∧ (∀ b ∈ fp, b < s₂.heap.objs.size) ∧
      QuietOnC PR w A env scope cl x ifs elt wr P p F s₂ ∧
      (∀ D h' tk ys (vs : List Value), s₂.heap.get? D = none → h'.IsList D ys → h'.PlainList D ys → vs.length = n → (∀ j v, vs[j]? = some v → P j v) → Paired F (vs.filter p) ys.toList →
        (∀ b o, b ∉ wr → s₂.heap.get? b = some o → h'.get? b = some o) → Q (.ref D) { s₂ with heap := h', toks := tk })) E s₁
variable {elt iter : Expr} {x : PySem.Str} {px : Pos} {ifs : List Expr} {scope : Scope} {cl : List (PySem.Str × Addr)} {p : Value → Bool} {F : Value → Value → Prop}
theorem e_comp (p : Value → Bool) (F : Value → Value → Prop) (cl : List (PySem.Str × Addr)) (h : W w A (eval iter env) (fun xv s₁ => CompS w A env scope cl x ifs elt p F Q E xv s₁) E s)
    (hclos : closureFor scope env = pure cl := by rfl) (hcell : noCell scope = true := by rfl) (hkind : scope.kind = .function := by rfl) (hnames : namesOk scope = true := by rfl)
    (hx : scope.names.lookup x = some .local := by rfl) (hs : ∀ x, foldedSetIterable iter env x = pure x := by intro _; rfl) :
    W w A (eval (.ListComp elt [⟨.Name x px, iter, ifs, 0⟩] scope pos) env) Q E s :=
  ⟨wpAny_ListComp_free p F hclos (fun x hx => of_decide_eq_true (List.all_eq_true.mp hcell x hx)) hkind (fun x hx => of_decide_eq_true (List.all_eq_true.mp hnames x hx)) hx (um h fun _ _ h₁ => h₁.out) hs⟩
theorem pl_of {h : Heap} {D : Addr} {ys : Array Value} (x : h.PlainList D ys) : ∃ o, h.get? D = some o ∧ LstP ys.toList o := let ⟨n, e⟩ := x; ⟨_, e, n, rfl⟩
/-- the source is walked: I is new, what stood before stays -/
theorem comp_src {I : Addr} {fp : List Addr} {n : Nat} {P : Nat → Value → Prop} {It : Nat → Heap → Prop} {xv : Value} (oI : Obj) (hf : oI.isFreed = false)
    (hit : wpAny (model PR w) A (pyIter xv) (fun it s₂ => it = .ref s.heap.objs.size ∧ ∃ tk, s₂ = { s with heap := s.heap.push oI, toks := tk }) E s)
    (Wk : Walks PR w A s.heap.objs.size fp [s.heap.objs.size] n P It) (hsz : n ≤ sizeLine) (h0 : It 0 (s.heap.push oI)) (hfp : ∀ b ∈ fp, b ≤ s.heap.objs.size)
    (tests : ∀ C i v s₃, P i v → St s.heap [(C, VarP x v)] s₃.heap → W w A (cTests ifs (compEnvC scope cl C env)) (fun ok s₄ => ok = p v ∧ Keeps s₃ s₄) No s₃)
    (helt : ∀ C i v s₃, P i v → p v = true → St s.heap [(C, VarP x v)] s₃.heap → W w A (eval elt (compEnvC scope cl C env)) (fun y s₄ => F v y ∧ Keeps s₃ s₄) No s₃)
    (done : ∀ D h' tk ys (vs : List Value), Kp s.heap h' → s.heap.get? D = none → (∃ o, h'.get? D = some o ∧ LstP ys o) → vs.length = n → (∀ j v, vs[j]? = some v → P j v) → Paired F (vs.filter p) ys → Q (.ref D) { s with heap := h', toks := tk }) :
    CompS w A env scope cl x ifs elt p F Q E xv s := by
  refine ⟨wpAny_mono hit (fun it s₂ h₂ => ?_) fun _ _ e => e⟩
  obtain ⟨rfl, tk, rfl⟩ := h₂
  have kp : ∀ b o, s.heap.get? b = some o → (s.heap.push oI).get? b = some o := fun _ _ e => Heap.get?_push_of_some _ e
  have ne : ∀ b o, s.heap.get? b = some o → b ∉ [s.heap.objs.size] := fun b o e hm => by
    have := Heap.lt_size e; rw [List.mem_singleton.mp hm] at this; exact Nat.lt_irrefl _ this
  have hS : ∀ C v (s₃ : Shared) m₃, (s.heap.push oI).objs.size ≤ C → s₃.heap.Ns C m₃ → m₃ x = some v → (∀ b o, b ∉ [s.heap.objs.size] → (s.heap.push oI).get? b = some o → s₃.heap.get? b = some o) → St s.heap [(C, VarP x v)] s₃.heap := by
    intro C v s₃ m₃ hC hn hm hk
    refine ⟨fun b o e => hk b o (ne b o e) (kp b o e), fun c hc => ?_, fun c hc => ?_, by simp⟩
    · rw [List.mem_singleton.mp hc]
      obtain ⟨o, es, ep, e, d, k, f⟩ := hn
      exact ⟨o, e, es, ep, d, k, (f x).trans hm⟩
    · rw [List.mem_singleton.mp hc]
      cases q : s.heap.get? C with
      | none => rfl
      | some o =>
        have h1 := Heap.lt_size q
        rw [Heap.size_push] at hC
        exact absurd (Nat.lt_of_lt_of_le (Nat.lt_succ_of_lt h1) hC) (Nat.lt_irrefl _)
  refine ⟨_, fp, [s.heap.objs.size], n, P, It, rfl, Wk, hsz, h0, fun b hb => by rw [Heap.size_push]; exact Nat.lt_succ_of_le (hfp b hb), ⟨?_, ?_⟩, ?_⟩
  · intro C i v s₃ m₃ E' hC hP hn hm hk _
    exact wpAny_mono (tests C i v s₃ hP (hS C v s₃ m₃ hC hn hm hk)).out (fun _ _ x => x) fun _ _ f => f.elim
  · intro C i v s₃ m₃ E' hC hP hpv hn hm hk _
    exact wpAny_mono (helt C i v s₃ hP hpv (hS C v s₃ m₃ hC hn hm hk)).out (fun _ _ x => x) fun _ _ f => f.elim
  · intro D h' tk' ys vs hD _ hpl hlen hP hF hk
    refine done D h' tk' ys.toList vs (fun b o e => hk b o (ne b o e) (kp b o e)) ?_ (pl_of hpl) hlen hP hF
    cases q : s.heap.get? D with
    | none => rfl
    | some o => rw [kp _ _ q] at hD; cases hD
theorem comp_list_s {l : Addr} {items : List Value} (hh : A.handled = none) (hl : s.heap.IsList l items.toArray) (hsz : items.length ≤ sizeLine)
    (tests : ∀ C v s₃, v ∈ items → St s.heap [(C, VarP x v)] s₃.heap → W w A (cTests ifs (compEnvC scope cl C env)) (fun ok s₄ => ok = p v ∧ Keeps s₃ s₄) No s₃)
    (helt : ∀ C v s₃, v ∈ items → p v = true → St s.heap [(C, VarP x v)] s₃.heap → W w A (eval elt (compEnvC scope cl C env)) (fun y s₄ => F v y ∧ Keeps s₃ s₄) No s₃)
    (done : ∀ D h' tk ys, Kp s.heap h' → s.heap.get? D = none → (∃ o, h'.get? D = some o ∧ LstP ys o) → Paired F (items.filter p) ys → Q (.ref D) { s with heap := h', toks := tk }) :
    CompS w A env scope cl x ifs elt p F Q E (.ref l) s := by
  obtain ⟨ol, hol, _⟩ := id hl
  have hlt := Heap.lt_size hol
  refine comp_src (oI := { cls := .type "list_iterator", data := .fields #[.ref l, .int 0 0] }) (I := 0) rfl (wpAny_pyIter_list hl ⟨rfl, _, rfl⟩)
    (Walks.list hh s.heap.objs.size l (Nat.ne_of_lt hlt) items.toArray) (by simpa using hsz) ⟨⟨_, Heap.get?_push_size _ rfl, rfl, rfl⟩, hl.push _⟩ ?_ ?_ ?_ ?_
  · intro b hb
    simp only [List.mem_cons, List.not_mem_nil, or_false] at hb
    rcases hb with rfl | rfl
    · exact Nat.le_refl _
    · exact Nat.le_of_lt hlt
  · exact fun C i v s₃ hP S => tests C v s₃ (List.mem_of_getElem? (by simpa using hP)) S
  · exact fun C i v s₃ hP hpv S => helt C v s₃ (List.mem_of_getElem? (by simpa using hP)) hpv S
  · intro D h' tk ys vs hk hD hl' hlen hP hF
    have : vs = items := by
      apply List.ext_getElem?
      intro j
      cases hj : vs[j]? with
      | some v => have := hP j v hj; simpa using this.symm
      | none =>
        have : vs.length ≤ j := by simpa using hj
        have h2 : items.length ≤ j := by simpa [hlen] using this
        exact (List.getElem?_eq_none h2).symm
    subst this
    exact done D h' tk ys hk hD hl' hF
theorem comp_list {l : Addr} {items : List Value} (hh : A.handled = none) (hl : hp.IsList l items.toArray) (hsz : items.length ≤ sizeLine)
    (tests : ∀ C v s₃, v ∈ items → St hp [(C, VarP x v)] s₃.heap → W w A (cTests ifs (compEnvC scope cl C env)) (fun ok s₄ => ok = p v ∧ Keeps s₃ s₄) No s₃)
    (helt : ∀ C v s₃, v ∈ items → p v = true → St hp [(C, VarP x v)] s₃.heap → W w A (eval elt (compEnvC scope cl C env)) (fun y s₄ => F v y ∧ Keeps s₃ s₄) No s₃)
    (done : ∀ D h' tk' ys, Kp hp h' → hp.get? D = none → (∃ o, h'.get? D = some o ∧ LstP ys o) → Paired F (items.filter p) ys → Q (.ref D) ⟨h', gn, dr, tk', os⟩) :
    CompS w A env scope cl x ifs elt p F Q E (.ref l) ⟨hp, gn, dr, tk, os⟩ :=
  comp_list_s (s := ⟨hp, gn, dr, tk, os⟩) hh hl hsz tests helt done
end
theorem ints_filter (q : Int → Bool) : ∀ {vs : List Value} {ns : List Int}, IntsAre vs ns → IntsAre (vs.filter fun v => q (numOf v)) (ns.filter q)
  | _, _, .nil => .nil
  | _, _, .cons n t h => by
    have ih := ints_filter q h
    simp only [List.filter_cons, numOf]
    cases q n
    · exact ih
    · exact .cons _ _ ih
theorem ints_paired {F : Value → Value → Prop} (hF : ∀ v y, F v y → y = v) : ∀ {vs ys : List Value}, Paired F vs ys → ys = vs
  | _, _, .nil => rfl
  | _, _, .cons h t => by rw [hF _ _ h, ints_paired hF t]
theorem ints_of : ∀ {vs : List Value} {ns : List Int}, vs.length = ns.length → (∀ j v, vs[j]? = some v → ∃ t, v = Value.int (ns.getD j 0) t) → IntsAre vs ns
  | [], [], _, _ => .nil
  | v :: vs, n :: ns, hl, h => by
    obtain ⟨t, rfl⟩ := h 0 v rfl
    exact .cons _ _ (ints_of (by simpa using hl) fun j u hj => by simpa using h (j + 1) u hj)
  | [], _ :: _, hl, _ => by simp at hl
  | _ :: _, [], hl, _ => by simp at hl
/-- 0 .. n - 1 -/
def upZ (n : Nat) : List Int := (List.range n).map fun (i : Nat) => (i : Int)
theorem upZ_length (n : Nat) : (upZ n).length = n := by simp [upZ]
theorem upZ_getD {n j : Nat} (h : j < n) : (upZ n).getD j 0 = (j : Int) := by simp [upZ, List.getD, h]
section
variable {w : World} {A : Around} {E E' : Value → Shared → Prop} {s : Shared} {hp : Heap} {gn : Array GenState} {dr : Drawn} {tk : Nat} {os : OsState} {env : Env} {h₀ : Heap} {cs : List Cell} {Q : Value → Shared → Prop} {pos : Pos}
variable {elt iter : Expr} {x : PySem.Str} {px : Pos} {ifs : List Expr} {scope : Scope} {cl : List (PySem.Str × Addr)} {p : Value → Bool} {F : Value → Value → Prop}
theorem b_range {n : Int} {t : Tok} (h : ∀ u v tk', Q (.ref hp.objs.size) ⟨hp.push { cls := .type "range", data := .fields #[.int 0 u, .int n t, .int 1 v] }, gn, dr, tk', os⟩) : W w A (call (.type "range") [.int n t]) Q E ⟨hp, gn, dr, tk, os⟩ :=
  ⟨call_range_1 (h _ _ _)⟩
theorem comp_range_s {r : Addr} {n : Nat} {t u v : Tok} (hh : A.handled = none) (hr : IsRange s.heap r 0 n 1 t u v) (hsz : n ≤ sizeLine)
    (tests : ∀ C i t s₃, i < n → St s.heap [(C, VarP x (.int (i : Nat) t))] s₃.heap → W w A (cTests ifs (compEnvC scope cl C env)) (fun ok s₄ => ok = p (.int (i : Nat) t) ∧ Keeps s₃ s₄) No s₃)
    (helt : ∀ C i t s₃, i < n → p (.int (i : Nat) t) = true → St s.heap [(C, VarP x (.int (i : Nat) t))] s₃.heap → W w A (eval elt (compEnvC scope cl C env)) (fun y s₄ => F (.int (i : Nat) t) y ∧ Keeps s₃ s₄) No s₃)
    (done : ∀ D h' tk ys vs, Kp s.heap h' → s.heap.get? D = none → (∃ o, h'.get? D = some o ∧ LstP ys o) → IntsAre vs (upZ n) → Paired F (vs.filter p) ys → Q (.ref D) { s with heap := h', toks := tk }) :
    CompS w A env scope cl x ifs elt p F Q E (.ref r) s := by
  have hs1 : sizeLine = 16777216 := by decide
  have hsize : Builtin.Range.rangeSize 0 n 1 = (n : Int) := by rw [rangeSize_one]; split <;> omega
  have hsm : Builtin.Range.small 0 n 1 = true := small_one (by decide) (by decide) (by omega) (by omega)
  have W0 := Walks.range (prog := PR) (w := w) hh s.heap.objs.size 0 1 n
  have hv : ∀ i v, i < n → (∃ t, v = Value.int (0 + (i : Nat) * 1) t) → ∃ t, v = Value.int (i : Nat) t := fun i v _ ⟨t, e⟩ => ⟨t, by simpa using e⟩
  refine comp_src (oI := { cls := .type "range_iterator", data := .fields #[rawInt 0, rawInt (Builtin.Range.rangeSize 0 n 1), rawInt 1] }) (I := 0) rfl (wpAny_pyIter_range hr hsm ⟨rfl, _, rfl⟩)
    (P := fun i v => i < n ∧ ∃ t, v = .int (i : Nat) t) (n := n) (fp := [s.heap.objs.size]) (It := fun i h => IsRangeIter h s.heap.objs.size (0 + (i : Nat) * 1) ((n : Int) - (i : Nat)) 1) ?_ hsz ?_ ?_ ?_ ?_ ?_
  · exact ⟨W0.sub, W0.frame, fun i s Q E hi st hQ => W0.item i s Q E hi st fun v h' tk hP => hQ v h' tk ⟨hi, hv i v hi hP⟩, W0.done, W0.self⟩
  · rw [hsize]; simpa using Heap.get?_push_size _ rfl
  · intro b hb; simp only [List.mem_cons, List.not_mem_nil, or_false] at hb; exact Nat.le_of_eq hb
  · rintro C i v s₃ ⟨hi, t, rfl⟩ S; exact tests C i t s₃ hi S
  · rintro C i v s₃ ⟨hi, t, rfl⟩ hp S; exact helt C i t s₃ hi hp S
  · intro D h' tk ys vs hk hD hl hlen hP hF
    refine done D h' tk ys vs hk hD hl (ints_of (by rw [hlen, upZ_length]) fun j v hj => ?_) hF
    obtain ⟨hi, t, rfl⟩ := hP j v hj
    exact ⟨t, by rw [upZ_getD hi]⟩
theorem comp_range {r : Addr} {n : Nat} {t u v : Tok} (hh : A.handled = none) (hr : IsRange hp r 0 n 1 t u v) (hsz : n ≤ sizeLine)
    (tests : ∀ C i t s₃, i < n → St hp [(C, VarP x (.int (i : Nat) t))] s₃.heap → W w A (cTests ifs (compEnvC scope cl C env)) (fun ok s₄ => ok = p (.int (i : Nat) t) ∧ Keeps s₃ s₄) No s₃)
    (helt : ∀ C i t s₃, i < n → p (.int (i : Nat) t) = true → St hp [(C, VarP x (.int (i : Nat) t))] s₃.heap → W w A (eval elt (compEnvC scope cl C env)) (fun y s₄ => F (.int (i : Nat) t) y ∧ Keeps s₃ s₄) No s₃)
    (done : ∀ D h' tk' ys vs, Kp hp h' → hp.get? D = none → (∃ o, h'.get? D = some o ∧ LstP ys o) → IntsAre vs (upZ n) → Paired F (vs.filter p) ys → Q (.ref D) ⟨h', gn, dr, tk', os⟩) :
    CompS w A env scope cl x ifs elt p F Q E (.ref r) ⟨hp, gn, dr, tk, os⟩ :=
  comp_range_s (s := ⟨hp, gn, dr, tk, os⟩) hh hr hsz tests helt done
/-- what a new list adds to the state -/
theorem St.lst {vs : List Value} {D : Addr} {h' : Heap} (S : St h₀ cs hp) (k : Kp hp h') (hn : hp.get? D = none) (hl : ∃ o, h'.get? D = some o ∧ LstP vs o) : St h₀ ((D, LstP vs) :: cs) h' :=
  let ⟨_, e, p⟩ := hl; S.add k hn e p
end
end Mine
end TextSLD
section TextFP
open PySem PySem.W PySem.Spec PySem.Calls PyProof.Rows
set_option Elab.async false
set_option maxRecDepth 100000
set_option linter.unusedVariables false
set_option linter.unusedSimpArgs false
namespace Mine
def bit (g : Int) (i : Int) : Bool := (g.fdiv (2 ^ i.toNat)).fmod 2 == 1
def places (g : Int) : List Int := (upZ 5).filter (bit g)
theorem fn176 (w : World) : FnOk w 176 := FnOk.of rfl rfl rfl rfl rfl rfl
theorem places_spec {w : World} {A : Around} {hp : Heap} {gn : Array GenState} {dr : Drawn} {tk : Nat} {os : OsState} {R : Result → Shared → Prop} {g : Int} {t : Tok} (B : Base w hp) (r : Rm 1 A)
    (h : ∀ D h' tk' vs, Kp hp h' → hp.get? D = none → (∃ o, h'.get? D = some o ∧ LstP vs o) → IntsAre vs (places g) → R (.ok (.ret (.ref D))) ⟨h', gn, dr, tk', os⟩) :
    C w A (.call (.ref 176) ⟨[.int g t], []⟩) R ⟨hp, gn, dr, tk, os⟩ := by
  refine callCn (k := 0) (binds := [(.ofString "group", .int g t)]) (fn176 w) B (St.nil fun _ _ e => e) r (by kernel_rfl) (by kernel_rfl) (by kernel_rfl) [] fun L h' tk S hn hk => ?_
  have hcell : h'.IsCell (L + 1) (some (.int g t)) := S.at (a := L + 1) (P := CellP (some (.int g t))) (.tail _ (.head _))
  refine xs_ret (e_comp (fun v => bit g (numOf v)) (fun v y => y = v) [(.ofString "group", L + 1)] ?_)
  refine e_call (e_blt B S rfl boot_range (by decide) ?_)
  refine cw_typ (a_cons (e_int fun t₁ tk₁ => a_nil (b_range fun u v tk => ?_)))
  refine comp_range (n := 5) r.hd (Heap.get?_push_size _ rfl) (by decide) ?_ ?_ ?_
  · intro C i t' s₃ hi S₃
    have hc : s₃.heap.IsCell (L + 1) (some (.int g t)) := (hcell.keeps fun _ _ e => Heap.get?_push_of_some _ e).keeps S₃.keep
    exact t_one (t_cmp (e_bin (e_bin (e_cel hc (e_var S₃ (i_shr (by omega) fun _ _ => e_int fun _ _ => i_mod (by decide) fun _ _ => e_int fun _ _ => i_eq (tr_bool ⟨rfl, _, _, rfl, fun _ _ e => e⟩))) rfl))))
  · intro C i t' s₃ hi hp S₃
    exact e_var S₃ ⟨rfl, _, _, rfl, fun _ _ e => e⟩
  · intro D h₂ tk' ys vs hk2 hD hl hI hF
    rw [ints_paired (fun _ _ e => e) hF] at hl
    exact h D h₂ tk' _ ((Kp.push hk _).trans hk2) ((Kp.push hk _).none hD) hl (ints_filter (bit g) hI)
end Mine
end TextFP
section TextSLE
open PySem PySem.W PySem.Spec PySem.Calls PyProof.Rows
set_option Elab.async false
set_option maxRecDepth 100000
set_option linter.unusedVariables false
set_option linter.unusedSimpArgs false
namespace Mine
section
variable {w : World} {A : Around} {E E' : Value → Shared → Prop} {s : Shared} {hp : Heap} {gn : Array GenState} {dr : Drawn} {tk : Nat} {os : OsState} {env : Env} {h₀ : Heap} {cs : List Cell} {Q : Value → Shared → Prop} {pos : Pos}
/-- defs with defaults -/
theorem callFD {R : Result → Shared → Prop} {a : Addr} {args : Args} {binds : List (PySem.Str × Value)} {k : Nat} (f : FnOk w a) (B : Base w h₀) (S : St h₀ cs hp) (r : Rm (k + 1) A)
    (hbind : BindsTo ⟨hp, gn, dr, tk, os⟩ (objF w.params a) args binds) (hc : noCell (objF w.params a).scope = true) (hl : allLoc (objF w.params a).scope binds = true)
    (ns : List PySem.Str)
    (h : ∀ L h' tk', St h₀ ((L, LocP (mkL binds ns)) :: cs) h' → hp.get? L = none → Kp hp h' →
      W w (A.deeper (envF w a L)) (execs (bodyF w.params a) (envF w a L)) (fun f s' => R (.ok (.ret (match f with | .ret v => v | _ => .none))) s') No
        ⟨h', gn, dr, tk', os⟩) :
    C w A (.call (.ref a) args) R ⟨hp, gn, dr, tk, os⟩ := by
  obtain ⟨oc, od, osl, ho⟩ := f.look
  have B' := S.base B
  refine ⟨codeAny_call_def (by have := r.dp; omega) (B'.K _ _ ho) rfl B'.nolimit (codeRec_of B'.K f.code) f.body hbind
    (fun x hx => of_decide_eq_true (List.all_eq_true.mp hc x hx)) (fun x hx => of_decide_eq_true (List.all_eq_true.mp hl x hx)) (fun h' hns hk => ?_) f.co f.gen f.kind⟩
  obtain ⟨o, ho, hp⟩ := loc_of_ns hns (lk_mkL binds ns)
  exact wpAny_mono (h _ h' _ (S.add hk (get?_size_none _) ho hp) (get?_size_none _) hk).out (fun _ _ x => x) fun _ _ x => x.elim
theorem b_iter {l : Addr} {items : Array Value} (hl : hp.IsList l items) (h : Q (.ref hp.objs.size) ⟨hp.push { cls := .type "list_iterator", data := .fields #[.ref l, .int 0 0] }, gn, dr, tk, os⟩) :
    W w A (call (.builtin "iter") [.ref l]) Q E ⟨hp, gn, dr, tk, os⟩ := by
  constructor
  refine call_function_entry (by decide +kernel) (by decide +kernel) kdk_entry_iter (kdk_args_iter _) ?_
  unfold Builtin.«iter»
  refine wpAny_bind (m := someArgs "iter" 1 2 _) (wpAny_of_eq (a := [Value.ref l]) (by first | rfl | kernel_rfl) ?_)
  show wpAny _ _ (pyIter (.ref l) >>= _) _ _ _
  exact wpAny_bind (wpAny_pyIter_list hl (wpAny_pure ⟨_, rfl, h⟩))
theorem special_next_list {it l : Addr} {i : Nat} {items : Array Value} {x : Value} {Q : Option Value → Shared → Prop} (hit : s.heap.IsListIter it l i)
    (hl : s.heap.IsList l items) (hx : items[i]? = some x)
    (hQ : ∀ h', h'.IsListIter it l (i + 1) → Heap.SameBut it s.heap h' → Q (some x) { s with heap := h' }) :
    wpAny (model PR w) A (callSpecial? (.ref it) (PySem.Str.ofString "__next__")) Q E s := by
  obtain ⟨o, ho, hc, hd⟩ := id hit
  obtain ⟨ol, hol, _, nl, hdl⟩ := hl
  refine wpAny_callSpecial?_slot (name := PySem.Str.ofString "__next__") hit.typeIs slot_listiter_next
    (wpAny_call_entry slot_listiter_next hit.typeIs entry_listiter_next ?_ (args_listiter_next _))
  show wpAny _ _ (field (.ref it) 0 >>= _) _ _ s
  refine wpAny_bind (wpAny_field ho hd (x := .ref l) rfl ?_)
  show wpAny _ _ (if (Value.ref l == Value.none) = true then _ else _) _ _ s
  rw [if_neg (show ¬ ((Value.ref l == Value.none) = true) from Bool.false_ne_true)]
  show wpAny _ _ (field (.ref it) 1 >>= _) _ _ s
  refine wpAny_bind (wpAny_field ho hd (x := .int i 0) rfl ?_)
  show wpAny _ _ (seqItems? (.ref l) >>= _) _ _ s
  refine wpAny_bind (wpAny_seqItems hol hdl ?_)
  simp only [Int.toNat_natCast, hx]
  refine wpAny_bind (wpAny_setField ho hd (by simp) (wpAny_pure ⟨x, rfl, hQ _ ?_ (Heap.SameBut.update ..)⟩))
  exact ⟨_, Heap.get?_update_self _ ho (Obj.isFreed_of_fields (Obj.data_mapFields hd _)), (Obj.cls_mapFields ..).trans hc, by
    rw [Obj.data_mapFields hd]; simp [rawInt]⟩
theorem b_next {it l : Addr} {i : Nat} {items : Array Value} {x : Value} (hit : hp.IsListIter it l i) (hl : hp.IsList l items) (hx : items[i]? = some x)
    (h : ∀ h', h'.IsListIter it l (i + 1) → Heap.SameBut it hp h' → Q x ⟨h', gn, dr, tk, os⟩) : W w A (call (.builtin "next") [.ref it]) Q E ⟨hp, gn, dr, tk, os⟩ := by
  constructor
  have hT : Shared.TypeIs ⟨hp, gn, dr, tk, os⟩ (.ref it) "list_iterator" := Heap.IsListIter.typeIs (s := ⟨hp, gn, dr, tk, os⟩) hit
  refine call_function_entry (by decide +kernel) (by decide +kernel) kdk_entry_next (kdk_args_next _) ?_
  unfold Builtin.«next»
  refine wpAny_bind (m := someArgs "next" 1 2 _) (wpAny_of_eq (a := [Value.ref it]) (by first | rfl | kernel_rfl) ?_)
  dsimp only
  refine wpAny_bind (wpAny_specialOf (name := PySem.Str.ofString "__next__") hT slot_listiter_next.lookup ?_)
  refine wpAny_ite_split (fun hab => absurd hab (by decide)) (fun _ => ?_)
  refine wpAny_bind (special_next_list (s := ⟨hp, gn, dr, tk, os⟩) hit hl hx fun h' hit' hs => ?_)
  exact wpAny_pure ⟨_, rfl, h h' hit' hs⟩
theorem is_self {a : Addr} (h : Q (.bool true) s) : W w A (compareOp .Is (.ref a) (.ref a)) Q E s := ⟨wpAny_is_ref_self h⟩
theorem is_other {x y : Addr} {ox oy : Obj} (hxy : x ≠ y) (hx : s.heap.get? x = some ox) (hy : s.heap.get? y = some oy) (hnt : ox.cls ≠ .type "tuple") (h : Q (.bool false) s) : W w A (compareOp .Is (.ref x) (.ref y)) Q E s := ⟨wpAny_is_ref_other hxy hx hy hnt h⟩
theorem is_plain {a b : Value} (hp : plainIs a b = true) (h : Q (.bool (a == b)) s) : W w A (compareOp .Is a b) Q E s := ⟨wpAny_is_plain hp h⟩
theorem isnot_plain {a b : Value} (hp : plainIs a b = true) (h : Q (.bool (!(a == b))) s) : W w A (compareOp .IsNot a b) Q E s := ⟨wpAny_isNot_plain hp h⟩
/-- a try whose body does not raise -/
theorem xs_try {body orelse rest : List Stmt} {hd : ExceptHandler} {hs : List ExceptHandler} {Q : Flow → Shared → Prop}
    (h : W w A (execs body env) (Nx w A orelse env (Nx w A rest env Q E) E) No s) : W w A (execs (.Try body (hd :: hs) orelse [] pos :: rest) env) Q E s :=
  xs_cons ⟨wpAny_Try_except (wpAny_mono h.out (fun f s' h' => by cases f <;> first | exact h'.out | exact h') fun _ _ f => f.elim)⟩
end
theorem walks_shift {w : World} {A : Around} {I : Addr} {fp wr : List Addr} {n : Nat} {P : Nat → Value → Prop} {It : Nat → Heap → Prop} (W : Walks PR w A I fp wr n P It) {k : Nat} (hk : k ≤ n) :
    Walks PR w A I fp wr (n - k) (fun i v => P (i + k) v) (fun i h => It (i + k) h) where
  sub := W.sub
  frame := fun i h h' => W.frame (i + k) h h'
  item := fun i s Q E hi st hQ => W.item (i + k) s Q E (by omega) st fun v h' tk hP st' => hQ v h' tk hP (by rw [Nat.add_right_comm]; exact st')
  done := fun s Q E st hQ => W.done s Q E (by rwa [Nat.sub_add_cancel hk] at st) hQ
  self := fun i s Q E st => W.self (i + k) s Q E st
/-- one load, then the end -/
def ld1 {α : Type} (t : Sem α) (a : Addr) (o : Obj) : Option (Sem α) := match t with
  | .load b _ k => if b = a then some (k o) else none
  | _ => none
theorem bindsTo_ld {s : Shared} {fd : FuncData} {args : Args} {binds : List (PySem.Str × Value)} {a : Addr} {o : Obj} (h : ld1 (bindArgs fd args) a o = some (.pure binds)) (ho : s.heap.get? a = some o) : BindsTo s fd args binds := by
  intro M A E Q hq
  generalize bindArgs fd args = t at h
  cases t with
  | load b part k =>
    simp only [ld1] at h
    split at h
    · rename_i e
      subst e
      have hk : k o = .pure binds := Option.some.inj h
      show wpAny M A (loadPart b part >>= k) Q E s
      exact wpAny_bind (wpAny_loadPart ho (by rw [hk]; exact wpAny_pure hq))
    · cases h
  | _ => cases h
def ItP (l : Addr) (i : Nat) : Obj → Prop := fun o => o.cls = .type "list_iterator" ∧ o.data = .fields #[.ref l, .int i 0]
theorem perm2 {c1 c2 : Cell} {a cs : List Cell} : (c1 :: c2 :: (a ++ cs)).Perm (a ++ c1 :: c2 :: cs) := (List.Perm.cons _ List.perm_middle.symm).trans List.perm_middle.symm
theorem fn150 (w : World) : FnOk w 150 := FnOk.of rfl rfl rfl rfl rfl rfl
section
variable {w : World} {A : Around} {hp : Heap} {gn : Array GenState} {dr : Drawn} {tk : Nat} {os : OsState} {h₀ : Heap} {cs : List Cell} {R : Result → Shared → Prop}
/-- a step of reduce's function -/
def Step (w : World) (h₀ : Heap) (gn : Array GenState) (dr : Drawn) (os : OsState) (k : Nat) (f : Addr) (items : List Value) {Dt : Type} (val : Dt → Value) (acc : Dt → List Cell) (J : Nat → Dt → Prop) : Prop :=
  ∀ (i : Nat) (d : Dt) (x : Value) (cs' : List Cell) (h : Heap) (tk : Nat) (A' : Around) (R : Result → Shared → Prop), Rm k A' → items[i]? = some x → J i d → St h₀ (acc d ++ cs') h →
    (∀ d' h' tk', J (i + 1) d' → St h₀ (acc d' ++ cs') h' → R (.ok (.ret (val d'))) ⟨h', gn, dr, tk', os⟩) →
    C w A' (.call (.ref f) ⟨[val d, x], []⟩) R ⟨h, gn, dr, tk, os⟩
theorem reduce_loop {f l : Addr} {items : List Value} {Dt : Type} {val : Dt → Value} {acc : Dt → List Cell} {J : Nat → Dt → Prop} {k k0 : Nat} {d0 : Dt} {L I : Addr} {PI : Obj → Prop} {ol : Obj} {vi : Value}
    (B : Base w h₀) (hf : keepIn (KH w) (.ref f) = true) (st : Step w h₀ gn dr os k f items val acc J) (r : Rm k (A.deeper (envF w 150 L)))
    (hol : ol.cls = .type "list" ∧ ∃ n, ol.data = .seq items.toArray n) (hl : h₀.get? l = some ol ∨ (l, fun q => q = ol) ∈ cs) (hk0 : k0 ≤ items.length)
    (S : St h₀ ((L, LocP [(.ofString "initial", some vi), (.ofString "sequence", some (.ref l)), (.ofString "function", some (.ref f)), (.ofString "it", some (.ref I)), (.ofString "value", some (val d0)), (.ofString "element", none)]) :: (I, PI) :: (acc d0 ++ cs)) hp) (hI : hp.IsListIter I l k0) (hJ : J k0 d0)
    (h : ∀ d h' tk', J items.length d → St h₀ (acc d ++ cs) h' → R (.ok (.ret (val d))) ⟨h', gn, dr, tk', os⟩) :
    W w (A.deeper (envF w 150 L)) (execs ((bodyF w.params 150).drop 2) (envF w 150 L)) (fun f s' => R (.ok (.ret (match f with | .ret v => v | _ => .none))) s') No ⟨hp, gn, dr, tk, os⟩ := by
  have lst : ∀ {h : Heap} {c : Cell} {cs'}, St h₀ (c :: cs') h → (∀ c ∈ cs, c ∈ cs') → h.IsList l items.toArray := fun {h c cs'} S hs => by
    rcases hl with e | e
    · exact ⟨ol, S.keep _ _ e, hol⟩
    · obtain ⟨o, e', rfl⟩ := S.held _ (.tail _ (hs _ e)); exact ⟨o, e', hol⟩
  have hls : hp.IsList l items.toArray := lst S fun c hc => .tail _ (List.mem_append_right _ hc)
  have hne : l ≠ I := by
    rintro rfl
    rcases hl with e | e
    · have := S.new _ (.tail _ (.head _)); rw [e] at this; cases this
    · have := (List.nodup_cons.mp (List.nodup_cons.mp S.nd).2).1
      exact this (List.mem_map_of_mem (f := (·.1)) (List.mem_append_right _ e))
  refine xs_for (e_loc S rfl ⟨wpAny_pyIter_listiter hI ?_⟩)
  have W0 := Walks.list (prog := PR) (w := w) (A := A.deeper (envF w 150 L)) r.hd I l hne items.toArray
  have W1 := walks_shift W0 (k := k0) (by simpa using hk0)
  refine for_walk W1 (by simp) (fun i h x => let ⟨o, e, _⟩ := x.1; ⟨o, e⟩) (D := Option Value × Dt) (fun d => [(.ofString "initial", some vi), (.ofString "sequence", some (.ref l)), (.ofString "function", some (.ref f)), (.ofString "it", some (.ref I)), (.ofString "value", some (val d.2)), (.ofString "element", d.1)])
    (fun d => acc d.2 ++ cs) (fun i d => J (i + k0) d.2) (none, d0) ?_ S (by simpa using ⟨hI, hls⟩) (by simpa using hJ) ?_ ?_
  · intro b hb
    simp only [List.mem_cons, List.not_mem_nil, or_false] at hb
    rcases hb with rfl | rfl
    · exact .inl rfl
    · rcases hl with e | e
      · exact .inr (.inl ⟨_, e⟩)
      · exact .inr (.inr ⟨_, fun d => List.mem_append_right _ e⟩)
  · intro i d v h tk' oI hi hJi hv S1
    refine a_name (s_loc S1 fun h2 tk2 S2 => ?_)
    refine xs_assign (e_call (e_loc S2 rfl (cw_ref hf (a_cons (e_loc S2 rfl (a_cons (e_loc S2 rfl (a_nil ⟨S2.base B, ?_⟩))))))))
    refine st (i + k0) d.2 v _ h2 _ _ _ r (by simpa using hv) hJi (S2.perm perm2) fun d' h' tk' hJ' S' => ?_
    refine s_loc (S'.perm perm2.symm) fun h4 tk4 S4 => xs_nil ⟨(some v, d'), _, _, rfl, by rwa [Nat.add_right_comm] at hJ', S4⟩
  · intro d h2 tk2 hJ2 S2
    exact xs_ret (e_loc S2 rfl (h d.2 _ _ (by rwa [List.size_toArray, Nat.sub_add_cancel hk0] at hJ2) S2.tail))
end
end Mine
end TextSLE
section TextFR
open PySem PySem.W PySem.Spec PySem.Calls PyProof.Rows
set_option Elab.async false
set_option maxRecDepth 100000
set_option linter.unusedVariables false
set_option linter.unusedSimpArgs false
namespace Mine
section
variable {w : World} {A : Around} {hp : Heap} {gn : Array GenState} {dr : Drawn} {tk : Nat} {os : OsState} {h₀ : Heap} {cs : List Cell} {R : Result → Shared → Prop}
theorem reduce_spec1 {f l : Addr} {items : List Value} {Dt : Type} {val : Dt → Value} {acc : Dt → List Cell} {J : Nat → Dt → Prop} {k : Nat} {d0 : Dt} {ol : Obj}
    (B : Base w h₀) (hf : keepIn (KH w) (.ref f) = true) (st : Step w h₀ gn dr os k f items val acc J) (r : Rm (k + 1) A)
    (hol : ol.cls = .type "list" ∧ ∃ n, ol.data = .seq items.toArray n) (hl : h₀.get? l = some ol ∨ (l, fun q => q = ol) ∈ cs)
    (hx : items[0]? = some (val d0)) (hacc : acc d0 = []) (S : St h₀ cs hp) (hJ : J 1 d0)
    (h : ∀ d h' tk', J items.length d → St h₀ (acc d ++ cs) h' → R (.ok (.ret (val d))) ⟨h', gn, dr, tk', os⟩) :
    C w A (.call (.ref 150) ⟨[.ref f, .ref l], []⟩) R ⟨hp, gn, dr, tk, os⟩ := by
  have B' := S.base B
  have hls : ∀ {h : Heap} {c : Cell} {cs'}, St h₀ (c :: cs') h → (∀ c ∈ cs, c ∈ cs') → h.IsList l items.toArray := fun {h c cs'} S hs => by
    rcases hl with e | e
    · exact ⟨ol, S.keep _ _ e, hol⟩
    · obtain ⟨o, e', rfl⟩ := S.held _ (.tail _ (hs _ e)); exact ⟨o, e', hol⟩
  have hlen : 1 ≤ items.length := by
    cases items with
    | nil => cases hx
    | cons => exact Nat.succ_le_succ (Nat.zero_le _)
  have hb : BindsTo ⟨hp, gn, dr, tk, os⟩ (objF w.params 150) ⟨[.ref f, .ref l], []⟩ [(.ofString "function", .ref f), (.ofString "sequence", .ref l), (.ofString "initial", .ref 142)] := by
    refine bindsTo_ld (a := 143) (o := { cls := .type "tuple", data := .seq #[.ref 142] }) ?_ (B'.K _ _ (by kernel_rfl))
    kernel_rfl
  refine callFD (k := k) (fn150 w) B S r hb (by kernel_rfl) (by kernel_rfl) [.ofString "it", .ofString "value", .ofString "element"] fun L h1 tk1 S1 hn1 hk1 => ?_
  have r' := r.deeper (envF w 150 L)
  refine xs_assign (e_call (e_blt B S1 rfl boot_iter (by decide) (cw_blt (a_cons (e_loc S1 rfl (a_nil (b_iter (hls S1 fun _ hc => hc) ?_)))))))
  have S2 := S1.push (P := ItP l 0) (o := { cls := .type "list_iterator", data := .fields #[.ref l, .int 0 0] }) ⟨rfl, rfl⟩
  refine s_loc S2.swap fun h3 tk3 S3 => ?_
  generalize h1.objs.size = I at S3
  refine xs_if (t_cmp (e_loc S3 rfl (e_glob B S3 rfl (is_self (tr_bool ?_)))))
  rw [if_pos rfl]
  have hI : h3.IsListIter I l 0 := S3.at (a := I) (.tail _ (.head _))
  refine xs_try (xs_assign (e_call (e_blt B S3 rfl boot_next (by decide) (cw_blt (a_cons (e_loc S3 rfl (a_nil (b_next (x := val d0) hI (hls S3 fun _ hc => .tail _ hc) (by simpa using hx) ?_))))))))
  intro h4 hI4 hs4
  have S4 := S3.updAt (i := 1) (P' := ItP l 1) rfl hs4 hI4
  refine s_loc S4 fun h5 tk5 S5 => xs_nil (xs_nil (xs_nil ?_))
  exact reduce_loop (k0 := 1) (d0 := d0) B hf st r' hol hl hlen (by rw [hacc]; exact S5) (S5.at (a := I) (.tail _ (.head _))) hJ h
theorem reduce_spec2 {f l : Addr} {items : List Value} {Dt : Type} {val : Dt → Value} {acc : Dt → List Cell} {J : Nat → Dt → Prop} {k : Nat} {d0 : Dt} {ol oi : Obj} {i : Addr}
    (B : Base w h₀) (hf : keepIn (KH w) (.ref f) = true) (st : Step w h₀ gn dr os k f items val acc J) (r : Rm (k + 1) A)
    (hol : ol.cls = .type "list" ∧ ∃ n, ol.data = .seq items.toArray n) (hl : h₀.get? l = some ol ∨ (l, fun q => q = ol) ∈ cs)
    (hv : val d0 = .ref i) (hoi : hp.get? i = some oi) (hi : i ≠ 142) (hoc : oi.cls ≠ .type "tuple") (S : St h₀ (acc d0 ++ cs) hp) (hJ : J 0 d0) (hm : ∀ P, (i, P) ∈ acc d0 → ∀ o, P o → o.cls ≠ .type "tuple") (hia : ∃ P, (i, P) ∈ acc d0)
    (h : ∀ d h' tk', J items.length d → St h₀ (acc d ++ cs) h' → R (.ok (.ret (val d))) ⟨h', gn, dr, tk', os⟩) :
    C w A (.call (.ref 150) ⟨[.ref f, .ref l, val d0], []⟩) R ⟨hp, gn, dr, tk, os⟩ := by
  have B' := S.base B
  have hls : ∀ {h : Heap} {c : Cell} {cs'}, St h₀ (c :: cs') h → (∀ c ∈ cs, c ∈ cs') → h.IsList l items.toArray := fun {h c cs'} S hs => by
    rcases hl with e | e
    · exact ⟨ol, S.keep _ _ e, hol⟩
    · obtain ⟨o, e', rfl⟩ := S.held _ (.tail _ (hs _ e)); exact ⟨o, e', hol⟩
  have hb : BindsTo ⟨hp, gn, dr, tk, os⟩ (objF w.params 150) ⟨[.ref f, .ref l, val d0], []⟩ [(.ofString "function", .ref f), (.ofString "sequence", .ref l), (.ofString "initial", val d0)] := by
    refine bindsTo_ld (a := 143) (o := { cls := .type "tuple", data := .seq #[.ref 142] }) ?_ (B'.K _ _ (by kernel_rfl))
    kernel_rfl
  refine callFD (k := k) (fn150 w) B S r hb (by kernel_rfl) (by kernel_rfl) [.ofString "it", .ofString "value", .ofString "element"] fun L h1 tk1 S1 hn1 hk1 => ?_
  have r' := r.deeper (envF w 150 L)
  refine xs_assign (e_call (e_blt B S1 rfl boot_iter (by decide) (cw_blt (a_cons (e_loc S1 rfl (a_nil (b_iter (hls S1 fun _ hc => List.mem_append_right _ hc) ?_)))))))
  have S2 := S1.push (P := ItP l 0) (o := { cls := .type "list_iterator", data := .fields #[.ref l, .int 0 0] }) ⟨rfl, rfl⟩
  refine s_loc S2.swap fun h3 tk3 S3 => ?_
  generalize h1.objs.size = I at S3
  obtain ⟨P, hP⟩ := hia
  obtain ⟨o3, e3, p3⟩ := S3.at (a := i) (P := P) (.tail _ (.tail _ (List.mem_append_left _ hP)))
  have h142 : h3.get? 142 = some { cls := .type "object" } := (S3.base B).K _ _ (by kernel_rfl)
  refine xs_if (t_cmp (e_loc S3 rfl (e_glob B S3 rfl ?_)))
  rw [hv]
  refine is_other hi e3 h142 (hm P hP _ p3) (tr_bool ?_)
  rw [if_neg (by decide)]
  refine xs_assign (e_loc S3 rfl (s_loc S3 fun h4 tk4 S4 => xs_nil ?_))
  exact reduce_loop (k0 := 0) (d0 := d0) B hf st r' hol hl (Nat.zero_le _) S4 (S4.at (a := I) (.tail _ (.head _))) hJ h
end
end Mine
end TextFR
section TextSLG
open PySem PySem.W PySem.Spec PySem.Calls PyProof.Rows
set_option Elab.async false
set_option maxRecDepth 100000
set_option linter.unusedVariables false
set_option linter.unusedSimpArgs false
namespace Mine
theorem if_t {c : Bool} {a b : Prop} (h : c = true) (x : a) : if c = true then a else b := by rw [if_pos h]; exact x
theorem if_f {c : Bool} {a b : Prop} (h : ¬ c = true) (x : b) : if c = true then a else b := by rw [if_neg h]; exact x
def DctP (w : World) (kvs : List (Int × Value)) : Obj → Prop := fun o => o.IsDictOf (intKind PR w) kvs
theorem dct_of {w : World} {h : Heap} {a : Addr} {kvs : List (Int × Value)} (x : ∃ o, h.get? a = some o ∧ DctP w kvs o) : h.DictOf (intKind PR w) a kvs := Heap.dictOf_iff.mpr x
theorem of_dct {w : World} {h : Heap} {a : Addr} {kvs : List (Int × Value)} (x : h.DictOf (intKind PR w) a kvs) : ∃ o, h.get? a = some o ∧ DctP w kvs o := Heap.dictOf_iff.mp x
section
variable {w : World} {A : Around} {E E' : Value → Shared → Prop} {s : Shared} {hp : Heap} {gn : Array GenState} {dr : Drawn} {tk : Nat} {os : OsState} {env : Env} {h₀ : Heap} {cs : List Cell} {Q : Value → Shared → Prop} {pos : Pos}
/-! methods -/
theorem e_meth {o : Expr} {name : PySem.Str} {apos : Pos} {args : List Expr} (pl : Sem Bool) (h : W w A (eval o env) (fun ov s₁ => W w A (getMethod ov name pl) (fun fx s₂ => W w A (callWith pos fx.1 fx.2 (backTo pos (starEach args env)) []) Q E s₂) E s₁) E s)
    (he : eval (.Call (.Attribute o name apos) args [] pos) env = (do
      let ov ← eval o env
      standAt apos.atName
      let (f, first) ← holding [ov] (getMethod ov name pl)
      callWith pos f first (backTo pos (starEach args env)) []) := by rfl) : W w A (eval (.Call (.Attribute o name apos) args [] pos) env) Q E s :=
  ⟨MethodCall_ (um h fun _ _ h₁ => um h₁ fun _ _ h₂ => h₂.out) he⟩
theorem cw_met {id : String} {first : List Value} {e : Expr} {rest : List Expr} (h : W w A (spliced (backTo pos (starEach (e :: rest) env))) (fun vs s₁ => W w A (call (.builtin id) (first ++ vs)) Q E s₁) E s)
    (he : starEach (e :: rest) env = (false, eval e env) :: starEach rest env := by rfl) (hplain : (backTo pos (starEach rest env)).any (·.1) = false := by rfl) :
    W w A (callWith pos (.builtin id) first (backTo pos (starEach (e :: rest) env)) []) Q E s := ⟨callWith_method1 (um h fun _ _ x => x.out) he hplain⟩
theorem cw_met0 {id : String} {first : List Value} (h : W w A (call (.builtin id) first) Q E s) : W w A (callWith pos (.builtin id) first (backTo pos (starEach [] env)) []) Q E s := ⟨callWith_method0 h.out⟩
theorem e_sub {value slice : Expr} (h : W w A (eval value env) (fun o s₁ => W w A (eval slice env) (fun i s₂ => W w A (subscriptTail value slice o i) Q E s₂) E s₁) E s) : W w A (eval (.Subscript value slice pos) env) Q E s :=
  ⟨Subscript_ (um h fun _ _ h₁ => um h₁ fun _ _ h₂ => h₂.out)⟩
theorem xs_assign_sub {o i value : Expr} {p : Pos} {rest : List Stmt} {Q : Flow → Shared → Prop}
    (h : W w A (eval value env) (fun v s₁ => W w A (eval o env) (fun ov s₂ => W w A (eval i env) (fun iv s₃ => W w A (setItem ov iv v) (fun _ s₄ => W w A (execs rest env) Q E s₄) E s₃) E s₂) E s₁) E s)
    (hs : swapsWith value (some (.Subscript o i p)) pos.line env = pure false := by rfl) : W w A (execs (.Assign [.Subscript o i p] value pos :: rest) env) Q E s :=
  xs_cons ⟨wpAny_Assign_Subscript (um h fun _ _ h₁ => um h₁ fun _ _ h₂ => um h₂ fun _ _ h₃ => um h₃ fun _ _ h₄ => h₄) hs⟩
theorem e_dict0 (h : Q (.ref hp.objs.size) ⟨hp.push { cls := .type "dict", data := .dict #[] }, gn, dr, tk, os⟩) : W w A (eval (.Dict [] [] pos) env) Q E ⟨hp, gn, dr, tk, os⟩ := ⟨wpAny_Dict_empty h⟩
theorem dct_nil : DctP w [] { cls := .type "dict", data := .dict #[] } := ⟨#[], 0, ⟨rfl, rfl, rfl⟩, rfl, by intro e he; simp at he, .nil, List.nodup_nil⟩
/-! lists -/
variable {l d : Addr} {items : Array Value} {k : Int} {t : Tok} {v x : Value} {kvs : List (Int × Value)} {value slice : Expr}
theorem sub_list (hl : hp.IsList l items) (h0 : 0 ≤ k) (hf : k < 2 ^ 63) (hx : items[k.toNat]? = some x) (h : Q x ⟨hp, gn, dr, tk, os⟩)
    (hs : subscripted slice false (.ref l) (.int k t) = operate [.ref l, .int k t] (getItem (.ref l) (.int k t)) := by rfl) : W w A (subscriptTail value slice (.ref l) (.int k t)) Q E ⟨hp, gn, dr, tk, os⟩ :=
  ⟨tail_any (Heap.IsList.typeIs (s := ⟨hp, gn, dr, tk, os⟩) hl) PySem.slot_list_getitem.lookup (wpAny_getItem_list hl h0 hf hx h) hs⟩
theorem sub_dict (hd : hp.DictOf (intKind PR w) d kvs) (hv : valueAt kvs k = some v) (h : ∀ tk', Q v ⟨hp, gn, dr, tk', os⟩)
    (hs : subscripted slice false (.ref d) (.int k t) = operate [.ref d, .int k t] (getItem (.ref d) (.int k t)) := by rfl) : W w A (subscriptTail value slice (.ref d) (.int k t)) Q E ⟨hp, gn, dr, tk, os⟩ :=
  ⟨tail_any (Heap.DictOf.typeIs (s := ⟨hp, gn, dr, tk, os⟩) hd) slot_dict_getitem.lookup (wpAny_getItem_of (intKind_is PR w k t) hd.mapOf hv (h _)) hs⟩
theorem in_dict (hd : hp.DictOf (intKind PR w) d kvs) (hm : (d == sysModules) = false) (h : ∀ tk', Q (.bool (valueAt kvs k).isSome) ⟨hp, gn, dr, tk', os⟩) : W w A (compareOp .In (.int k t) (.ref d)) Q E ⟨hp, gn, dr, tk, os⟩ :=
  ⟨wpAny_in_of (intKind_is PR w k t) hm hd.mapOf (h _)⟩
/-- a store into a dict that is the cell i -/
theorem set_dict' {Q : Unit → Shared → Prop} {i : Nat} (S : St h₀ cs hp) (hi : cs[i]? = some (d, DctP w kvs)) (hsz : kvs.length ≤ sizeLine) (h : ∀ h' tk', St h₀ (cs.set i (d, DctP w (stored kvs k v))) h' → Q () ⟨h', gn, dr, tk', os⟩) :
    W w A (setItem (.ref d) (.int k t) v) Q E ⟨hp, gn, dr, tk, os⟩ :=
  ⟨wpAny_setItem_pairs (hsz := hsz) (intKind_is PR w k t) (dct_of (S.at (List.mem_of_getElem? hi))) fun h' hd hs => h h' _ (S.updAt hi hs (of_dct hd))⟩
theorem m_dict {name : PySem.Str} {id : String} {pl : Sem Bool} {Q : Value × List Value → Shared → Prop} (slot : Slot "dict" name id) (hty : typeOf (.builtin id) = pure (.type "method_descriptor")) (hd : hp.DictOf (intKind PR w) d kvs)
    (h : Q (.builtin id, [.ref d]) ⟨hp, gn, dr, tk, os⟩) : W w A (getMethod (.ref d) name pl) Q E ⟨hp, gn, dr, tk, os⟩ :=
  ⟨getMethod_builtin (Heap.DictOf.typeIs (s := ⟨hp, gn, dr, tk, os⟩) hd) PySem.F.plainAttrs_dict slot hty hd.mapOf.noDict h⟩
theorem m_get2 (hd : hp.DictOf (intKind PR w) d kvs) (hm : (d == sysModules) = false) (h : ∀ tk', Q ((valueAt kvs k).getD v) ⟨hp, gn, dr, tk', os⟩) : W w A (call (.builtin "dict.get") [.ref d, .int k t, v]) Q E ⟨hp, gn, dr, tk, os⟩ :=
  ⟨call_meetsIn PySem.F.slot_dict_get (Heap.DictOf.typeIs (s := ⟨hp, gn, dr, tk, os⟩) hd) PySem.F.entry_dict_get (PySem.F.args_dict_get_3 _ _ _) (meets_dict_get_default (intKind PR w) d (intKind_is PR w k t) hm v) ⟨_, hd.mapOf, h _⟩⟩
theorem m_get1 (hd : hp.DictOf (intKind PR w) d kvs) (hm : (d == sysModules) = false) (h : ∀ tk', Q ((valueAt kvs k).getD .none) ⟨hp, gn, dr, tk', os⟩) : W w A (call (.builtin "dict.get") [.ref d, .int k t]) Q E ⟨hp, gn, dr, tk, os⟩ :=
  ⟨call_meetsIn PySem.F.slot_dict_get (Heap.DictOf.typeIs (s := ⟨hp, gn, dr, tk, os⟩) hd) PySem.F.entry_dict_get (PySem.F.args_dict_get_2 _ _) (meets_dict_get (intKind PR w) d (intKind_is PR w k t) hm) ⟨_, hd.mapOf, h _⟩⟩
theorem b_len (hl : hp.IsList l items) (hfit : (items.size : Int) < 2 ^ 63) (h : ∀ t' tk', Q (.int items.size t') ⟨hp, gn, dr, tk', os⟩) : W w A (call (.builtin "len") [.ref l]) Q E ⟨hp, gn, dr, tk, os⟩ := ⟨call_len_list hl hfit (h _ _)⟩
end
end Mine
end TextSLG
section TextSLH
open PySem PySem.W PySem.Spec PySem.Calls PyProof.Rows
set_option Elab.async false
set_option maxRecDepth 100000
set_option linter.unusedVariables false
set_option linter.unusedSimpArgs false
namespace Mine
section
variable {w : World} {A : Around} {E E' : Value → Shared → Prop} {s : Shared} {hp : Heap} {gn : Array GenState} {dr : Drawn} {tk : Nat} {os : OsState} {env : Env} {h₀ : Heap} {cs : List Cell} {L : Addr}
/-- what a turn of a for over cells asks -/
abbrev TurnW (w : World) (A : Around) (env : Env) (h₀ : Heap) (L : Addr) (gn : Array GenState) (dr : Drawn) (os : OsState) (x : PySem.Str) (p : Pos) (body : List Stmt) (Q : Flow → Shared → Prop) {D : Type} (loc : D → Loc) (Rc : D → List Cell) (J : Nat → D → Prop) (I : Addr) (oI : Obj) (i : Nat) (v : Value) (h : Heap) (tk : Nat) : Prop :=
  W w A (assign (.Name x p) env v) (fun _ s₂ => W w A (execs body env) (TQ Q fun s' => ∃ d' h' tk', s' = ⟨h', gn, dr, tk', os⟩ ∧ J (i + 1) d' ∧ St h₀ ((L, LocP (loc d')) :: (I, fun q => q = oI) :: Rc d') h') No s₂) No ⟨h, gn, dr, tk, os⟩
variable {x : PySem.Str} {p : Pos} {body : List Stmt} {Q : Flow → Shared → Prop} {D : Type} (loc : D → Loc) (Rc : D → List Cell) (J : Nat → D → Prop) (d0 : D)
theorem for_keys {fa : Addr} {of : Obj} {kvs : List (Int × Value)} (hh : A.handled = none) (B : Base w h₀) (hof : DctP w kvs of) (hm : ∀ d, (fa, fun q => q = of) ∈ Rc d) (S : St h₀ ((L, LocP (loc d0)) :: Rc d0) hp) (hJ : J 0 d0)
    (turn : ∀ i d k y t h tk I oI, kvs[i]? = some (k, y) → J i d → St h₀ ((L, LocP (loc d)) :: (I, fun q => q = oI) :: Rc d) h → TurnW w A env h₀ L gn dr os x p body Q loc Rc J I oI i (.int k t) h tk)
    (done : ∀ d h tk, J kvs.length d → St h₀ ((L, LocP (loc d)) :: Rc d) h → Q .next ⟨h, gn, dr, tk, os⟩) :
    W w A (pyIter (.ref fa)) (fun it s₂ => C w A (.forLoop (.Name x p) it body [] env) (LR Q) s₂) E ⟨hp, gn, dr, tk, os⟩ := by
  obtain ⟨ep, ha⟩ := KdkAt.of hof
  obtain ⟨o, e, rfl⟩ := S.at (.tail _ (hm d0))
  have hd : hp.DictAt (intKind PR w) fa kvs ep := ha.dictAt e
  have hne : fa ≠ hp.objs.size := Nat.ne_of_lt (Heap.lt_size e)
  refine ⟨wpAny_pyIter_dict (S.notMods B (.tail _ (hm d0))) hd ?_⟩
  have Sp := (S.push (P := fun _ => True) (o := { cls := .type "dict_keyiterator", data := .fields #[.ref fa, .int 0 0, .int kvs.length 0, .int ep 0] }) trivial).swap
  refine for_walk (Walks.dictKeys (knd := intKind PR w) hh hp.objs.size fa hne kvs ep) (by simp) (fun i h z => let ⟨o, e, _⟩ := z.1; ⟨o, e⟩) loc Rc J d0 ?_ Sp ⟨⟨_, Heap.get?_push_size _ rfl, rfl, rfl⟩, hd.at' fun o e => Heap.get?_push_of_some _ e⟩ hJ ?_ done
  · intro b hb
    simp only [List.mem_cons, List.not_mem_nil, or_false] at hb
    rcases hb with rfl | rfl
    · exact .inl rfl
    · exact .inr (.inr ⟨o, hm⟩)
  · rintro i d v h tk' oI hi hJi ⟨k, y, hk, hv⟩ S1
    have : ∃ t, v = .int k t := by
      cases v <;> simp [intKind, Value.isInt] at hv
      subst hv; exact ⟨_, rfl⟩
    obtain ⟨t, rfl⟩ := this
    exact turn i d k y t h tk' _ oI hk hJi S1
theorem for_list {la : Addr} {ol : Obj} {items : List Value} (hh : A.handled = none) (hol : ol.cls = .type "list" ∧ ∃ n, ol.data = .seq items.toArray n) (hm : (h₀.get? la = some ol) ∨ ∀ d, (la, fun q => q = ol) ∈ Rc d) (S : St h₀ ((L, LocP (loc d0)) :: Rc d0) hp) (hJ : J 0 d0)
    (turn : ∀ i d v h tk I oI, items[i]? = some v → J i d → St h₀ ((L, LocP (loc d)) :: (I, fun q => q = oI) :: Rc d) h → TurnW w A env h₀ L gn dr os x p body Q loc Rc J I oI i v h tk)
    (done : ∀ d h tk, J items.length d → St h₀ ((L, LocP (loc d)) :: Rc d) h → Q .next ⟨h, gn, dr, tk, os⟩) :
    W w A (pyIter (.ref la)) (fun it s₂ => C w A (.forLoop (.Name x p) it body [] env) (LR Q) s₂) E ⟨hp, gn, dr, tk, os⟩ := by
  have e : hp.get? la = some ol := by
    rcases hm with e | hm
    · exact S.keep _ _ e
    · obtain ⟨o, e, rfl⟩ := S.at (.tail _ (hm d0)); exact e
  have hd : hp.IsList la items.toArray := ⟨ol, e, hol⟩
  have hne : la ≠ hp.objs.size := Nat.ne_of_lt (Heap.lt_size e)
  refine ⟨wpAny_pyIter_list hd ?_⟩
  have Sp := (S.push (P := fun _ => True) (o := { cls := .type "list_iterator", data := .fields #[.ref la, .int 0 0] }) trivial).swap
  refine for_walk (Walks.list hh hp.objs.size la hne items.toArray) (by simp) (fun i h z => let ⟨o, e, _⟩ := z.1; ⟨o, e⟩) loc Rc J d0 ?_ Sp ⟨⟨_, Heap.get?_push_size _ rfl, rfl, rfl⟩, hd.push _⟩ hJ ?_ (by simpa using done)
  · intro b hb
    simp only [List.mem_cons, List.not_mem_nil, or_false] at hb
    rcases hb with rfl | rfl
    · exact .inl rfl
    · exact .inr (hm.imp (fun e => ⟨ol, e⟩) fun hm => ⟨ol, hm⟩)
  · intro i d v h tk' oI hi hJi hv S1
    exact turn i d v h tk' _ oI (by simpa using hv) hJi S1
theorem for_tuple {la : Addr} {ol : Obj} {items : List Value} (hh : A.handled = none) (hol : ol.cls = .type "tuple" ∧ ∃ n, ol.data = .seq items.toArray n) (hm : (h₀.get? la = some ol) ∨ ∀ d, (la, fun q => q = ol) ∈ Rc d) (S : St h₀ ((L, LocP (loc d0)) :: Rc d0) hp) (hJ : J 0 d0)
    (turn : ∀ i d v h tk I oI, items[i]? = some v → J i d → St h₀ ((L, LocP (loc d)) :: (I, fun q => q = oI) :: Rc d) h → TurnW w A env h₀ L gn dr os x p body Q loc Rc J I oI i v h tk)
    (done : ∀ d h tk, J items.length d → St h₀ ((L, LocP (loc d)) :: Rc d) h → Q .next ⟨h, gn, dr, tk, os⟩) :
    W w A (pyIter (.ref la)) (fun it s₂ => C w A (.forLoop (.Name x p) it body [] env) (LR Q) s₂) E ⟨hp, gn, dr, tk, os⟩ := by
  have e : hp.get? la = some ol := by
    rcases hm with e | hm
    · exact S.keep _ _ e
    · obtain ⟨o, e, rfl⟩ := S.at (.tail _ (hm d0)); exact e
  have hd : hp.IsTuple la items.toArray := ⟨ol, e, hol⟩
  have hne : la ≠ hp.objs.size := Nat.ne_of_lt (Heap.lt_size e)
  refine ⟨wpAny_pyIter_tuple hd ?_⟩
  have Sp := (S.push (P := fun _ => True) (o := { cls := .type "tuple_iterator", data := .fields #[.ref la, .int 0 0] }) trivial).swap
  refine for_walk (Walks.tuple hh hp.objs.size la hne items.toArray) (by simp) (fun i h z => let ⟨o, e, _⟩ := z.1; ⟨o, e⟩) loc Rc J d0 ?_ Sp ⟨⟨_, Heap.get?_push_size _ rfl, rfl, rfl⟩, hd.push _⟩ hJ ?_ (by simpa using done)
  · intro b hb
    simp only [List.mem_cons, List.not_mem_nil, or_false] at hb
    rcases hb with rfl | rfl
    · exact .inl rfl
    · exact .inr (hm.imp (fun e => ⟨ol, e⟩) fun hm => ⟨ol, hm⟩)
  · intro i d v h tk' oI hi hJi hv S1
    exact turn i d v h tk' _ oI (by simpa using hv) hJi S1
theorem for_range {ra : Addr} {a b c : Int} {t u v : Tok} {n : Nat} (hh : A.handled = none) (hr : IsRange hp ra a b c t u v) (hsm : Builtin.Range.small a b c = true) (hn : Builtin.Range.rangeSize a b c = (n : Int)) (S : St h₀ ((L, LocP (loc d0)) :: Rc d0) hp) (hJ : J 0 d0)
    (turn : ∀ i d t h tk I oI, i < n → J i d → St h₀ ((L, LocP (loc d)) :: (I, fun q => q = oI) :: Rc d) h → TurnW w A env h₀ L gn dr os x p body Q loc Rc J I oI i (.int (a + (i : Nat) * c) t) h tk)
    (done : ∀ d h tk, J n d → St h₀ ((L, LocP (loc d)) :: Rc d) h → Q .next ⟨h, gn, dr, tk, os⟩) :
    W w A (pyIter (.ref ra)) (fun it s₂ => C w A (.forLoop (.Name x p) it body [] env) (LR Q) s₂) E ⟨hp, gn, dr, tk, os⟩ := by
  refine ⟨wpAny_pyIter_range hr hsm ?_⟩
  have Sp := (S.push (P := fun _ => True) (o := { cls := .type "range_iterator", data := .fields #[rawInt a, rawInt (Builtin.Range.rangeSize a b c), rawInt c] }) trivial).swap
  refine for_walk (Walks.range hh hp.objs.size a c n) (by simp) (fun i h z => ⟨_, z⟩) loc Rc J d0 (by intro b hb; exact .inl (by simpa using hb)) Sp (by rw [hn]; simpa using Heap.get?_push_size _ rfl) hJ ?_ done
  rintro i d v h tk' oI hi hJi ⟨t, rfl⟩ S1
  exact turn i d t h tk' _ oI hi hJi S1
end
end Mine
end TextSLH
section TextFW
open PySem PySem.W PySem.Spec PySem.Calls PyProof.Rows
set_option Elab.async false
set_option maxRecDepth 100000
set_option linter.unusedVariables false
set_option linter.unusedSimpArgs false
namespace Mine
/-! the wedge, plain -/
def getI (m : List (Int × Int)) (k : Int) : Int := ((m.find? fun p => p.1 = k).map (·.2)).getD 0
def putI (m : List (Int × Int)) (k v : Int) : List (Int × Int) := if m.any (fun p => p.1 = k) then m.map (fun p => if p.1 = k then (p.1, v) else p) else m ++ [(k, v)]
def wstep (used : Int) (row : List Int) (st : Int × List (Int × Int)) (j : Nat) : Int × List (Int × Int) :=
  if bit used j then (-st.1, st.2) else (st.1, putI st.2 (used + 2 ^ j) (getI st.2 (used + 2 ^ j) + st.1 * row.getD j 0))
def downs (n : Nat) : List Nat := (List.range n).reverse
def wIn (row : List Int) (m : List (Int × Int)) (p : Int × Int) : List (Int × Int) := ((downs row.length).foldl (wstep p.1 row) (p.2, m)).2
def wedgeL (forms : List (Int × Int)) (row : List Int) : List (Int × Int) := forms.foldl (wIn row) []
/-- a dict's pairs, ints all -/
inductive IM : List (Int × Value) → List (Int × Int) → Prop
  | nil : IM [] []
  | cons (k v : Int) (t : Tok) {a : List (Int × Value)} {b : List (Int × Int)} : IM a b → IM ((k, .int v t) :: a) ((k, v) :: b)
theorem IM.length {a b} (h : IM a b) : a.length = b.length := by induction h with | nil => rfl | cons _ _ _ _ ih => simp [ih]
theorem IM.get {a b} (h : IM a b) (k : Int) (t0 : Tok) : ∃ t, (valueAt a k).getD (.int 0 t0) = .int (getI b k) t := by
  induction h with
  | nil => exact ⟨t0, rfl⟩
  | cons k' v t h ih =>
    by_cases e : k' = k
    · exact ⟨t, by simp [valueAt, getI, e]⟩
    · obtain ⟨t', ih⟩ := ih
      refine ⟨t', ?_⟩
      simp only [valueAt, getI, List.find?_cons, e, decide_false] at ih ⊢
      exact ih
theorem IM.at {a b} (h : IM a b) {i : Nat} {k : Int} {y : Value} (e : a[i]? = some (k, y)) : ∃ v t, y = .int v t ∧ b[i]? = some (k, v) := by
  induction h generalizing i with
  | nil => cases e
  | cons k' v t h ih =>
    cases i with
    | zero => simp at e; obtain ⟨rfl, rfl⟩ := e; exact ⟨v, t, rfl, rfl⟩
    | succ i => simpa using ih (by simpa using e)
theorem valueAt_nodup {a : List (Int × Value)} (hn : (a.map (·.1)).Nodup) {i : Nat} {k : Int} {y : Value} (e : a[i]? = some (k, y)) : valueAt a k = some y := by
  induction a generalizing i with
  | nil => cases e
  | cons p a ih =>
    simp only [List.map_cons, List.nodup_cons] at hn
    cases i with
    | zero => simp at e; subst e; simp [valueAt]
    | succ i =>
      have e' : a[i]? = some (k, y) := by simpa using e
      have hk : p.1 ≠ k := fun q => hn.1 (q ▸ List.mem_map_of_mem (f := (·.1)) (List.mem_of_getElem? e'))
      have := ih hn.2 e'
      simp only [valueAt, List.find?_cons, hk, decide_false] at this ⊢
      exact this
theorem IM.any {a b} (h : IM a b) (k : Int) : a.any (fun p => p.1 = k) = b.any (fun p => p.1 = k) := by
  induction h with
  | nil => rfl
  | cons k' v t h ih => simp only [List.any_cons, ih]
theorem IM.map {a b} (h : IM a b) (k v : Int) (t : Tok) : IM (a.map fun p => if p.1 = k then (p.1, .int v t) else p) (b.map fun p => if p.1 = k then (p.1, v) else p) := by
  induction h with
  | nil => exact .nil
  | cons k' v' t' h ih =>
    by_cases e : k' = k
    · simp only [List.map_cons, e, if_true]; exact .cons _ _ _ ih
    · simp only [List.map_cons, e, if_false]; exact .cons _ _ _ ih
theorem IM.snoc {a b} (h : IM a b) (k v : Int) (t : Tok) : IM (a ++ [(k, .int v t)]) (b ++ [(k, v)]) := by
  induction h with
  | nil => exact .cons _ _ _ .nil
  | cons k' v' t' h ih => exact .cons _ _ _ ih
theorem IM.put {a b} (h : IM a b) (k v : Int) (t : Tok) : IM (stored a k (.int v t)) (putI b k v) := by
  unfold stored putI
  rw [h.any k]
  split
  · exact h.map k v t
  · exact h.snoc k v t
theorem stored_length (a : List (Int × Value)) (k : Int) (v : Value) : (stored a k v).length ≤ a.length + 1 := by
  unfold stored
  split <;> simp
theorem intBits_small {x : Int} (h : x.natAbs ≤ 10) : Builtin.Int.intBits x ≤ 64 := by
  have : ∀ n : Nat, n ≤ 10 → Builtin.Int.intBits (n : Int) ≤ 64 ∧ Builtin.Int.intBits (-(n : Int)) ≤ 64 := by decide
  rcases Int.natAbs_eq x with e | e <;> rw [e]
  · exact (this _ h).1
  · exact (this _ h).2
theorem downs_get {n i : Nat} (h : i < n) : (downs n)[i]? = some (n - 1 - i) := by
  unfold downs
  rw [List.getElem?_reverse (by simpa using h), List.length_range]
  exact List.getElem?_range (by omega)
theorem foldl_take_succ {α β : Type} (f : β → α → β) (b : β) (l : List α) (i : Nat) (x : α) (h : l[i]? = some x) : (l.take (i + 1)).foldl f b = f ((l.take i).foldl f b) x := by
  rw [List.take_add_one, h]; simp
theorem b_range3 {w : World} {A : Around} {E : Value → Shared → Prop} {hp : Heap} {gn : Array GenState} {dr : Drawn} {tk : Nat} {os : OsState} {Q : Value → Shared → Prop} {a b c : Int} {t u v : Tok} (hc : c ≠ 0) (hp' : Builtin.divisionGoesByPylong (b - a) c = false)
    (h : Q (.ref hp.objs.size) ⟨hp.push { cls := .type "range", data := .fields #[.int a t, .int b u, .int c v] }, gn, dr, tk, os⟩) : W w A (call (.type "range") [.int a t, .int b u, .int c v]) Q E ⟨hp, gn, dr, tk, os⟩ :=
  ⟨call_range_3 hc h (.inl hp')⟩
theorem fn195 (w : World) : FnOk w 195 := FnOk.of rfl rfl rfl rfl rfl rfl
structure WD where
  used : Option Value
  worth : Option Value
  j : Option Value
  now : Option Value
  kvs : List (Int × Value)
section
variable {w : World} {A : Around} {hp : Heap} {gn : Array GenState} {dr : Drawn} {tk : Nat} {os : OsState} {h₀ : Heap} {cs : List Cell} {R : Result → Shared → Prop}
theorem wedge_spec {fa ra : Addr} {kvs : List (Int × Value)} {forms : List (Int × Int)} {rvs : List Value} {row : List Int} {k : Nat}
    (B : Base w h₀) (r : Rm (k + 1) A) (S : St h₀ ((fa, DctP w kvs) :: cs) hp) (hIM : IM kvs forms) (hr : h₀.IsList ra rvs.toArray) (hI : IntsAre rvs row) (hlen : row.length ≤ 5) (hb : ∀ x ∈ row, x.natAbs ≤ 10) (hfl : forms.length ≤ 3125)
    (h : ∀ ta h' tk' kvs', St h₀ ((ta, DctP w kvs') :: (fa, DctP w kvs) :: cs) h' → IM kvs' (wedgeL forms row) → R (.ok (.ret (.ref ta))) ⟨h', gn, dr, tk', os⟩) :
    C w A (.call (.ref 195) ⟨[.ref fa, .ref ra], []⟩) R ⟨hp, gn, dr, tk, os⟩ := by
  obtain ⟨of, e, hof⟩ := S.head
  have S0 : St h₀ ((fa, fun q => q = of) :: cs) hp := S.upd0 ⟨rfl, fun _ _ => rfl⟩ ⟨of, e, rfl⟩
  refine callFn (k := k) (binds := [(.ofString "forms", .ref fa), (.ofString "row", .ref ra)]) (fn195 w) B S0 r (by kernel_rfl) (by kernel_rfl) (by kernel_rfl) [.ofString "told", .ofString "used", .ofString "worth", .ofString "j", .ofString "now"] fun L h1 tk1 S1 hn1 hk1 => ?_
  have r' := r.deeper (envF w 195 L)
  have hof' := hof
  have hsl : sizeLine = 16777216 := by decide
  let loc (ta : Addr) (d : WD) : Loc := [(.ofString "row", some (.ref ra)), (.ofString "forms", some (.ref fa)), (.ofString "told", some (.ref ta)), (.ofString "used", d.used), (.ofString "worth", d.worth), (.ofString "j", d.j), (.ofString "now", d.now)]
  refine xs_assign (e_dict0 ?_)
  have S2 := (S1.push (P := DctP w []) (o := { cls := .type "dict", data := .dict #[] }) dct_nil).swap
  refine s_loc S2 fun h3 tk3 S3 => ?_
  generalize h1.objs.size = ta at S3
  refine xs_for (e_loc S3 rfl (for_keys (kvs := kvs) (loc ta) (fun d => (ta, DctP w d.kvs) :: (fa, fun q => q = of) :: cs) (fun i d => (∃ m, IM d.kvs m ∧ m = (forms.take i).foldl (wIn row) []) ∧ d.kvs.length ≤ 5 * i) ⟨none, none, none, none, []⟩ r'.hd B hof (fun d => .tail _ (.head _)) S3 ⟨⟨[], .nil, by simp⟩, Nat.zero_le _⟩ ?_ ?_))
  · rintro i ⟨du, dw, dj, dn, dk⟩ kk y t h4 tk4 I oI hky ⟨⟨m, hm, hmm⟩, hdl⟩ S4
    obtain ⟨vv, tv, rfl, hfi⟩ := hIM.at hky
    obtain ⟨_, _, _, _, _, _, hnd⟩ := hof
    have hvk := valueAt_nodup hnd hky
    have hi3 : i < 3125 := by
      have := (List.getElem?_eq_some_iff.mp hky).1
      rw [hIM.length] at this; omega
    refine a_name (s_loc S4 fun h5 tk5 S5 => ?_)
    have hd5 : h5.DictOf (intKind PR w) fa kvs := dct_of (let ⟨o, e, q⟩ := S5.at (a := fa) (.tail _ (.tail _ (.tail _ (.head _)))); ⟨o, e, q ▸ hof'⟩)
    refine xs_assign (e_sub (e_loc S5 rfl (e_loc S5 rfl (sub_dict hd5 hvk fun tk6 => s_loc S5 fun h7 tk7 S7 => ?_))))
    have hr7 : h7.IsList ra rvs.toArray := let ⟨o, e, q⟩ := hr; ⟨o, S7.keep _ _ e, q⟩
    refine xs_for ?_
    refine e_call (e_blt B S7 rfl boot_range (by decide) (cw_typ (a_cons ?_)))
    refine e_bin (e_call (e_blt B S7 rfl boot_len (by decide) (cw_blt (a_cons (e_loc S7 rfl (a_nil ?_))))))
    have hln : ((rvs.toArray.size : Nat) : Int) = row.length := by rw [List.size_toArray, hI.length]
    refine b_len hr7 (by rw [hln]; omega) fun t8 tk8 => e_int fun t9 tk9 => i_sub fun t10 tk10 => ?_
    refine a_cons (e_neg (e_int fun _ _ => i_neg fun t11 tk11 => ?_))
    refine a_cons (e_neg (e_int fun _ _ => i_neg fun t12 tk12 => a_nil ?_))
    rw [hln]
    refine b_range3 (by decide) (PyProof.noPylong_small (by omega)) ?_
    have S8 := S7.keeps (h' := h7.push { cls := .type "range", data := .fields #[.int ((row.length : Int) - 1) t10, .int (-1) t11, .int (-1) t12] }) fun _ _ e => Heap.get?_push_of_some _ e
    have hsz : Builtin.Range.rangeSize ((row.length : Int) - 1) (-1) (-1) = (row.length : Int) := by
      unfold Builtin.Range.rangeSize
      rw [if_neg (by decide)]
      simp only [Int.neg_neg, Int.ediv_one]
      split <;> omega
    have hsm : Builtin.Range.small ((row.length : Int) - 1) (-1) (-1) = true := by
      have : row.length = 0 ∨ row.length = 1 ∨ row.length = 2 ∨ row.length = 3 ∨ row.length = 4 ∨ row.length = 5 := by omega
      rcases this with e | e | e | e | e | e <;> rw [e] <;> decide
    refine for_range (L := L) (loc ta) (fun d => (ta, DctP w d.kvs) :: (I, fun q => q = oI) :: (fa, fun q => q = of) :: cs)
      (fun i2 d => d.used = some (.int kk t) ∧ (∃ wv tw m2, d.worth = some (.int wv tw) ∧ IM d.kvs m2 ∧ (wv, m2) = ((downs row.length).take i2).foldl (wstep kk row) (vv, m)) ∧ d.kvs.length ≤ 5 * i + i2)
      ⟨some (.int kk t), some (.int vv tv), dj, dn, dk⟩ r'.hd (Heap.get?_push_size _ rfl) hsm hsz (S8.perm ?_) ⟨rfl, ⟨vv, tv, m, rfl, hm, by simp⟩, hdl⟩ ?_ ?_
    · exact List.Perm.cons _ (List.Perm.swap _ _ _)
    · rintro i2 ⟨du2, dw2, dj2, dn2, dk2⟩ tj h9 tk9 I2 oI2 hi2 ⟨hu2, ⟨wv, tw, m2, hw2, hm2, hf2⟩, hl2⟩ S9
      simp only at hu2 hw2 hm2 hl2
      subst hu2 hw2
      have hj : ((row.length : Int) - 1 + (i2 : Nat) * -1) = ((row.length - 1 - i2 : Nat) : Int) := by omega
      rw [hj]
      have hdn := downs_get hi2
      generalize hjn : row.length - 1 - i2 = jn at hdn
      have hjlt : jn < row.length := by omega
      refine a_name (s_loc S9 fun h10 tk10 S10 => ?_)
      refine xs_if (t_cmp (e_bin (e_bin (e_loc S10 rfl (e_loc S10 rfl (i_shr (by omega) fun _ _ => e_int fun _ _ => i_mod (by decide) fun _ _ => e_int fun _ _ => i_eq (tr_bool ?_)))))))
      have hstep := foldl_take_succ (wstep kk row) (vv, m) (downs row.length) i2 jn hdn
      rw [← hf2] at hstep
      by_cases hbit : bit kk jn = true
      · refine if_t hbit ?_
        refine xs_assign (e_neg (e_loc S10 rfl (i_neg fun t11 tk11 => s_loc S10 fun h12 tk12 S12 => xs_nil (xs_nil ⟨⟨some (.int kk t), some (.int (-wv) t11), some (.int (jn : Nat) tj), dn2, dk2⟩, _, _, rfl, ⟨rfl, ⟨_, _, m2, rfl, hm2, ?_⟩, ?_⟩, S12⟩))))
        · rw [hstep]; simp [wstep, hbit]
        · simp only; omega
      · refine if_f hbit ?_
        refine xs_assign (e_bin (e_loc S10 rfl (e_bin (e_int fun _ _ => e_loc S10 rfl (i_pow (by omega) (by omega) (by decide) fun _ _ => i_add fun t11 tk11 => s_loc S10 fun h12 tk12 S12 => ?_)))))
        have hd12 : h12.DictOf (intKind PR w) ta dk2 := dct_of (S12.at (a := ta) (.tail _ (.tail _ (.head _))))
        have hr12 : h12.IsList ra rvs.toArray := let ⟨o, e, q⟩ := hr; ⟨o, S12.keep _ _ e, q⟩
        obtain ⟨tr, hrj⟩ := hI.get jn (row.getD jn 0) (by simp [hjlt])
        refine xs_assign_sub ?_
        refine e_bin (e_meth _ (e_loc S12 rfl (m_dict PySem.F.slot_dict_get PySem.F.type_dict_get hd12 (cw_met (a_cons (e_loc S12 rfl (a_cons (e_int fun t13 tk13 => a_nil (m_get2 hd12 (S12.notMods B (.tail _ (.tail _ (.head _)))) fun tk14 => ?_)))))))))
        obtain ⟨t14, hg⟩ := hm2.get (kk + 2 ^ ((jn : Nat) : Int).toNat) t13
        rw [hg]
        refine e_bin (e_loc S12 rfl (e_sub (e_loc S12 rfl (e_loc S12 rfl (sub_list hr12 (by omega) (by omega) (x := .int (row.getD jn 0) tr) (by simpa using hrj) (i_mul ?_ fun t15 tk15 => i_add fun t16 tk16 => ?_))))))
        · exact IntMulOk.of_right (intBits_small (hb _ (by simp [hjlt])))
        refine e_loc S12 rfl (e_loc S12 rfl (set_dict' (i := 2) S12 rfl (by show dk2.length ≤ _; omega) fun h17 tk17 S17 => xs_nil (xs_nil ⟨⟨some (.int kk t), some (.int wv tw), some (.int (jn : Nat) tj), some (.int (kk + 2 ^ ((jn : Nat) : Int).toNat) t11), stored dk2 (kk + 2 ^ ((jn : Nat) : Int).toNat) (.int (getI m2 (kk + 2 ^ ((jn : Nat) : Int).toNat) + wv * row.getD jn 0) t16)⟩, _, _, rfl, ⟨rfl, ⟨_, _, _, rfl, hm2.put _ _ _, ?_⟩, ?_⟩, S17⟩)))
        · rw [hstep]; simp [wstep, hbit]
        · have := stored_length dk2 (kk + 2 ^ ((jn : Nat) : Int).toNat) (.int (getI m2 (kk + 2 ^ ((jn : Nat) : Int).toNat) + wv * row.getD jn 0) t16)
          simp only; omega
    · rintro ⟨du2, dw2, dj2, dn2, dk2⟩ h9 tk9 ⟨hu2, ⟨wv, tw, m2, hw2, hm2, hf2⟩, hl2⟩ S9
      refine xs_nil ⟨⟨du2, dw2, dj2, dn2, dk2⟩, _, _, rfl, ⟨⟨m2, hm2, ?_⟩, ?_⟩, S9.perm (List.Perm.cons _ (List.Perm.swap _ _ _))⟩
      · have : (downs row.length).take row.length = downs row.length := List.take_of_length_le (by simp [downs])
        rw [this] at hf2
        rw [foldl_take_succ (wIn row) [] forms i (kk, vv) hfi, ← hmm]
        show m2 = ((downs row.length).foldl (wstep kk row) (vv, m)).2
        rw [← hf2]
      · simp only at hl2 ⊢; omega
  · rintro ⟨du, dw, dj, dn, dk⟩ h4 tk4 ⟨⟨m, hm, hmm⟩, hdl⟩ S4
    refine xs_ret (e_loc S4 rfl (h ta _ _ dk ?_ ?_))
    · exact S4.tail.swap.mono0 (fun o e => e ▸ hof) |>.swap
    · rw [hIM.length, List.take_length] at hmm
      rw [hmm] at hm; exact hm
end
end Mine
end TextFW
section TextFD
open PySem PySem.W PySem.Spec PySem.Calls PyProof.Rows
set_option Elab.async false
set_option maxRecDepth 100000
set_option linter.unusedVariables false
set_option linter.unusedSimpArgs false
namespace Mine
def detM (rows : List (List Int)) : List (Int × Int) := rows.foldl wedgeL [(0, 1)]
def detL (rows : List (List Int)) : Int := getI (detM rows) (2 ^ rows.length - 1)
theorem IM.some_of {a : List (Int × Value)} {b : List (Int × Int)} (h : IM a b) {k : Int} (hk : b.any (fun p => p.1 = k) = true) : ∃ v t, valueAt a k = some (.int v t) := by
  induction h with
  | nil => cases hk
  | cons k' v t h ih =>
    by_cases e : k' = k
    · exact ⟨v, t, by simp [valueAt, e]⟩
    · obtain ⟨v', t', ih⟩ := ih (by simpa [e] using hk)
      refine ⟨v', t', ?_⟩
      simp only [valueAt, List.find?_cons, e, decide_false] at ih ⊢
      exact ih
theorem putI_length (m : List (Int × Int)) (k v : Int) : (putI m k v).length ≤ m.length + 1 := by unfold putI; split <;> simp
theorem wstep_length (u : Int) (row : List Int) : ∀ (js : List Nat) (st : Int × List (Int × Int)), (js.foldl (wstep u row) st).2.length ≤ st.2.length + js.length
  | [], st => Nat.le_refl _
  | j :: js, st => by
    have h1 := wstep_length u row js (wstep u row st j)
    have h2 : (wstep u row st j).2.length ≤ st.2.length + 1 := by
      unfold wstep; split
      · exact Nat.le_succ _
      · exact putI_length _ _ _
    simp only [List.foldl_cons, List.length_cons]; omega
theorem wedge_length_aux (row : List Int) (h : row.length ≤ 5) : ∀ (fs m : List (Int × Int)), (fs.foldl (wIn row) m).length ≤ m.length + 5 * fs.length
  | [], m => Nat.le_refl _
  | p :: fs, m => by
    have h1 := wedge_length_aux row h fs (wIn row m p)
    have h2 : (wIn row m p).length ≤ m.length + 5 := by
      have := wstep_length p.1 row (downs row.length) (p.2, m)
      have h3 : (downs row.length).length = row.length := by simp [downs]
      unfold wIn; simp only at this; omega
    simp only [List.foldl_cons, List.length_cons]; omega
theorem detM_length (rows : List (List Int)) (h : ∀ r ∈ rows, r.length ≤ 5) : ∀ i, i ≤ 5 → ((rows.take i).foldl wedgeL [(0, 1)]).length ≤ 5 ^ i
  | 0, _ => by simp
  | i + 1, hi => by
    have ih := detM_length rows h i (by omega)
    cases hr : rows[i]? with
    | none =>
      rw [List.take_add_one, hr]
      simp only [Option.toList_none, List.append_nil]
      exact Nat.le_trans ih (Nat.pow_le_pow_right (by decide) (Nat.le_succ i))
    | some row =>
      rw [foldl_take_succ _ _ _ _ _ hr]
      have h2 := wedge_length_aux row (h _ (List.mem_of_getElem? hr)) ((rows.take i).foldl wedgeL [(0, 1)]) []
      rw [Nat.pow_succ]
      simp only [List.length_nil] at h2
      show (((rows.take i).foldl wedgeL [(0, 1)]).foldl (wIn row) []).length ≤ _
      exact Nat.le_trans h2 (by omega)
theorem fn202 (w : World) : FnOk w 202 := FnOk.of rfl rfl rfl rfl rfl rfl
/-- rows of ints that lie in a heap -/
def RowsAre (h : Heap) (rvs : List Value) (rows : List (List Int)) : Prop :=
  rvs.length = rows.length ∧ ∀ (i : Nat) (x : Value), rvs[i]? = some x → ∃ a vs row, x = Value.ref a ∧ h.IsList a vs.toArray ∧ IntsAre vs row ∧ rows[i]? = some row
section
variable {w : World} {A : Around} {E : Value → Shared → Prop} {hp : Heap} {gn : Array GenState} {dr : Drawn} {tk : Nat} {os : OsState} {h₀ : Heap} {cs : List Cell} {env : Env} {R : Result → Shared → Prop}
theorem e_dict1 {Q : Value → Shared → Prop} {k v : Int} {c1 c2 : Nat} {p1 p2 pos : Pos} (S : St h₀ cs hp) (h : ∀ d t h' tk', St h₀ ((d, DctP w [(k, .int v t)]) :: cs) h' → Q (.ref d) ⟨h', gn, dr, tk', os⟩) :
    W w A (eval (.Dict [some (.Constant (.int k) c1 p1)] [.Constant (.int v) c2 p2] pos) env) Q E ⟨hp, gn, dr, tk, os⟩ := by
  constructor
  refine wpAny_Dict_pairs (knd := intKind PR w) (pairs := [(eval (.Constant (.int k) c1 p1) env, do let x ← eval (.Constant (.int v) c2 p2) env; standAt pos; pure x)]) rfl (by simp) (by simp) ?_
  refine evalPairs_cons (wpAny_Constant_int (wpAny_bind (wpAny_Constant_int (wpAny_bind (wpAny_standAt (wpAny_pure (evalPairs_nil ?_)))))))
  refine ⟨[(k, _)], ⟨intKind_is PR w k _, rfl, trivial⟩, Heap.dictOf_iff.mpr ⟨_, Heap.get?_push_size _ rfl, dct_nil⟩, fun h' hd hs => ?_⟩
  have S1 := S.push (P := DctP w []) (o := { cls := .type "dict", data := .dict #[] }) dct_nil
  exact h _ _ _ _ (S1.upd0 hs (of_dct hd))
theorem det_spec {ra : Addr} {rvs : List Value} {rows : List (List Int)} {k : Nat}
    (B : Base w hp) (r : Rm (k + 3) A) (hl : hp.IsList ra rvs.toArray) (hrow : RowsAre hp rvs rows) (hn : rows.length ≤ 5) (hb : ∀ row ∈ rows, row.length ≤ 5 ∧ ∀ x ∈ row, x.natAbs ≤ 10)
    (hkey : (detM rows).any (fun p => p.1 = 2 ^ rows.length - 1) = true)
    (h : ∀ h' t' tk', Kp hp h' → R (.ok (.ret (.int (detL rows) t'))) ⟨h', gn, dr, tk', os⟩) :
    C w A (.call (.ref 202) ⟨[.ref ra], []⟩) R ⟨hp, gn, dr, tk, os⟩ := by
  refine callFn (k := k + 2) (binds := [(.ofString "rows", .ref ra)]) (fn202 w) B (St.nil fun _ _ e => e) r (by kernel_rfl) (by kernel_rfl) (by kernel_rfl) [] fun L h1 tk1 S1 hn1 hk1 => ?_
  have r' := r.deeper (envF w 202 L)
  obtain ⟨ol, el, hol⟩ := hl
  have hst : Step w hp gn dr os (k + 1) 195 rvs (Dt := Addr × List (Int × Value)) (fun d => .ref d.1) (fun d => [(d.1, DctP w d.2)]) (fun i d => i ≤ rows.length ∧ IM d.2 ((rows.take i).foldl wedgeL [(0, 1)])) := by
    rintro i ⟨fa, kvs⟩ x cs' h2 tk2 A' R' r2 hx ⟨hi, hIM⟩ S2 hR
    obtain ⟨a, vs, row, rfl, hla, hI, hri⟩ := hrow.2 i x hx
    have hlt := (List.getElem?_eq_some_iff.mp hri).1
    have hm := List.mem_of_getElem? hri
    have hfl := detM_length rows (fun r hr => (hb r hr).1) i (by omega)
    refine wedge_spec (k := k) B r2 S2 hIM hla hI (hb row hm).1 (hb row hm).2 (Nat.le_trans hfl (Nat.le_trans (Nat.pow_le_pow_right (by decide) (show i ≤ 5 by omega)) (by decide))) fun ta h3 tk3 kvs3 S3 hIM3 => ?_
    refine hR (ta, kvs3) h3 tk3 ⟨by omega, ?_⟩ S3.swap.tail
    rw [foldl_take_succ _ _ _ _ _ hri]; exact hIM3
  refine xs_ret (e_sub ?_)
  refine e_call (e_glob B S1 rfl (cw_ref (by kernel_rfl) (a_cons (e_glob B S1 rfl (a_cons (e_loc S1 rfl (a_cons ?_)))))))
  refine e_dict1 S1 fun d t h4 tk4 S4 => a_nil ⟨S4.base B, ?_⟩
  have hcls : ∀ kvs o, DctP w kvs o → o.cls ≠ .type "tuple" := fun kvs o ho hc => by
    obtain ⟨_, _, hx, _⟩ := ho
    rw [hx.1] at hc; exact absurd hc (by decide)
  have hd : d ≠ 142 := by
    rintro rfl
    have := S4.new _ (.head _)
    rw [B.K 142 { cls := .type "object" } (by kernel_rfl)] at this; cases this
  obtain ⟨o4, e4, q4⟩ := S4.head
  refine reduce_spec2 (k := k + 1) (val := fun d : Addr × List (Int × Value) => .ref d.1) (acc := fun d => [(d.1, DctP w d.2)]) (d0 := (d, [(0, .int 1 t)])) (J := fun i d => i ≤ rows.length ∧ IM d.2 ((rows.take i).foldl wedgeL [(0, 1)])) (cs := [(L, LocP (mkL [(.ofString "rows", .ref ra)] []))]) B (by kernel_rfl) hst r' hol (.inl el) rfl e4 hd (hcls _ _ q4) S4 ⟨Nat.zero_le _, .cons _ _ _ .nil⟩ ?_ ⟨_, .head _⟩ ?_
  · intro P hP o ho
    simp only [List.mem_singleton, Prod.mk.injEq] at hP
    exact hcls _ o (hP.2 ▸ ho)
  · rintro ⟨d5, kvs5⟩ h5 tk5 ⟨_, hIM⟩ S5
    have S6 := S5.swap
    have hll : h5.IsList ra rvs.toArray := ⟨ol, S6.keep _ _ el, hol⟩
    rw [hrow.1, List.take_length] at hIM
    refine e_bin (e_bin (e_int fun _ _ => e_call (e_blt B S6 rfl boot_len (by decide) (cw_blt (a_cons (e_loc S6 rfl (a_nil ?_)))))))
    refine b_len hll (by simp [hrow.1]; omega) fun t7 tk7 => i_pow (by omega) (by simp [hrow.1]; omega) (by decide) fun _ _ => e_int fun _ _ => i_sub fun _ _ => ?_
    have hk : (2 : Int) ^ ((rvs.toArray.size : Nat) : Int).toNat - 1 = 2 ^ rows.length - 1 := by simp [hrow.1]
    rw [hk]
    obtain ⟨v, t8, hv⟩ : ∃ v t8, valueAt kvs5 (2 ^ rows.length - 1) = some (.int v t8) := hIM.some_of hkey
    have hg : v = detL rows := by
      obtain ⟨t9, h9⟩ := hIM.get (2 ^ rows.length - 1) 0
      rw [hv] at h9
      simp only [Option.getD_some, Value.int.injEq] at h9
      exact h9.1
    refine sub_dict (dct_of S5.head) hv fun tk9 => ?_
    rw [hg]
    exact h _ _ _ S5.keep
end
end Mine
end TextFD
section TextSLI
open PySem PySem.W PySem.Spec PySem.Calls PyProof.Rows
open Builtin Builtin.ObjectAttr Builtin.Getset_descriptor
set_option Elab.async false
set_option maxRecDepth 100000
set_option linter.unusedVariables false
set_option linter.unusedSimpArgs false
namespace Mine
theorem look_of_loc {l : Loc} {o : Obj} {name : PySem.Str} (h : LocP l o) : lookIn name o = some (Mine.lk l name) := by
  obtain ⟨es, ep, d, k, f⟩ := h
  unfold lookIn
  rw [d]
  dsimp only
  have f1 := f name
  unfold nsFind findBy at f1
  rw [← Array.find?_toList] at f1
  cases q : es.toList.find? (·.key.isStr name) with
  | some e => rw [q] at f1; dsimp only; rw [← f1]; rfl
  | none =>
    rw [q] at f1
    dsimp only
    rw [if_neg, ← f1]; · rfl
    intro hr
    obtain ⟨e, he, hr⟩ := List.any_eq_true.mp hr
    obtain ⟨n, t, hk⟩ := k e (by simpa using he)
    simp [DictEntry.refKey, hk] at hr
/-- an object's dict, of at most k names -/
def AttP (k : Nat) (l : Loc) : Obj → Prop := fun o => ∃ es ep, o.data = .dict es ep ∧ StrKeys es ∧ (∀ name, nsFind es name = Mine.lk l name) ∧ es.size ≤ k
theorem AttP.loc {k : Nat} {l : Loc} {o : Obj} (h : AttP k l o) : LocP l o := let ⟨es, ep, a, b, c, _⟩ := h; ⟨es, ep, a, b, c⟩
theorem att_set {M : Model} {A : Around} {E : Value → Shared → Prop} {k : Nat} {l : Loc} {d : Addr} {o : Obj} {s : Shared} {name : PySem.Str} {v : Value} {Q : Unit → Shared → Prop} (ho : s.heap.get? d = some o) (hp : AttP k l o) {k' : Nat} (hk' : (Mine.lk l name).isSome = true ∧ k' = k ∨ k' = k + 1)
    (hQ : ∀ h', (∃ o', h'.get? d = some o' ∧ AttP k' (setL l name v) o') → Heap.SameBut d s.heap h' → Q () { s with heap := h', toks := s.toks + 1 }) : wpAny M A (nsSet d name v) Q E s := by
  obtain ⟨es, ep, hd, hk, hm, hz⟩ := hp
  unfold nsSet
  refine wpAny_bind (wpAny_bind (wpAny_askSetting (wpAny_pure (wpAny_bind (wpAny_mkText (wpAny_bind (wpAny_loadPart ho ?_)))))))
  have hany : es.any (·.refKey) = false := by
    rw [Array.any_eq_false']; intro e he; obtain ⟨n, t, h⟩ := hk e he; simp [DictEntry.refKey, h]
  rw [hd]
  dsimp only
  rw [aRefKeyMayBeTheName_at, hany, Bool.and_false]
  refine wpAny_updatePart ho (hQ _ ?_ (Heap.SameBut.update ..))
  obtain ⟨c, d, dt, sl⟩ := o
  subst hd
  cases hi : es.findIdx? (·.key.isStr name) with
  | some i =>
    refine ⟨_, Heap.get?_update_self _ ho (by simp only [Obj.putName_eq, Obj.putNameByArray, hi]; rfl), _, ep, by simp only [Obj.putName_eq, Obj.putNameByArray, hi]; rfl, hk.modify _ _, fun x => ?_, by rw [Array.size_modify]; omega⟩
    rw [← lk_setL, ← hm]; exact findBy_modify (fun n v => v.isStr n) Value.isStr_inj es name x v i hi
  | none =>
    refine ⟨_, Heap.get?_update_self _ ho (by simp only [Obj.putName_eq, Obj.putNameByArray, hi]; rfl), _, ep + 1, by simp only [Obj.putName_eq, Obj.putNameByArray, hi]; rfl, hk.push _ _ _ _, fun x => ?_, ?_⟩
    rotate_left
    · rw [Array.size_push]
      rcases hk' with ⟨hs, _⟩ | rfl
      · rw [← hm, nsFind, findBy_of_findIdx?, hi] at hs; cases hs
      · omega
    rw [← lk_setL, ← hm]
    exact findBy_push (fun n v => v.isStr n) es name x _ _ v (fun y => by
      show (name == y) = decide (y = name)
      by_cases h : y = name
      · subst h; simp
      · have : ¬ name = y := fun e => h e.symm
        simp [h, this]) hi
section
variable {w : World} {A : Around} {E : Value → Shared → Prop} {s : Shared} {hp : Heap} {gn : Array GenState} {dr : Drawn} {tk : Nat} {os : OsState} {env : Env} {h₀ : Heap} {cs pre post : List Cell} {Q : Value → Shared → Prop} {pos : Pos} {x C dx : Addr} {l : Loc} {name : PySem.Str} {v : Value} {ox : Obj} {a : Addr} {P P' : Obj → Prop} {h' : Heap}
theorem St.updM (S : St h₀ (pre ++ (a, P) :: post) hp) (hs : Heap.SameBut a hp h') (ho : ∃ o, h'.get? a = some o ∧ P' o) : St h₀ (pre ++ (a, P') :: post) h' := by
  have := S.updAt (i := pre.length) (a := a) (P := P) (P' := P') (by simp) hs ho
  simpa using this
/-- the class's answers -/
structure ClsOk (w : World) (C : Addr) : Prop where
  ga : findIn (KH w) (.ref C) "__getattribute__" = some (some (.builtin "object.__getattribute__"))
  gg : findIn (KH w) (.ref C) "__getattr__" = some none
  sa : findIn (KH w) (.ref C) "__setattr__" = some (some (.builtin "object.__setattr__"))
  po : plainOver (KH w) C = true
  ic : isClsIn (KH w) C = true
theorem inst_at {od : Obj} {sl : Array (Option Value)} (hx : hp.get? x = some ⟨.ref C, some dx, .plain, sl⟩) (hd : hp.get? dx = some od) : InstAt hp x ⟨.ref C, some dx, .plain, sl⟩ C (some od) := ⟨hx, rfl, rfl, hd⟩
theorem g_own (B : Base w h₀) (S : St h₀ cs hp) (K : ClsOk w C) (hh : hasDictIn (KH w) C = true) (hf : findIn (KH w) (.ref C) name = some none) (hx : (x, fun o => o = instObj C dx) ∈ cs) {k : Nat} (hd : (dx, AttP k l) ∈ cs) (hl : Mine.lk l name = some v)
    (hv : handedIn v = true) (h : Q v ⟨hp, gn, dr, tk + 1, os⟩) : W w A (getAttr (.ref x) name true) Q E ⟨hp, gn, dr, tk, os⟩ := by
  obtain ⟨_, e1, rfl⟩ := S.at hx
  obtain ⟨od, e2, p2⟩ := S.at hd
  exact ⟨get_value (s := ⟨hp, gn, dr, tk, os⟩) (S.base B).K (inst_at e1 e2) K.ga (findObj_own hh hf rfl (by rw [look_of_loc p2.loc, hl])) hv h⟩
theorem s_own {Q : Unit → Shared → Prop} {k : Nat} (B : Base w h₀) (S : St h₀ (pre ++ (dx, AttP k l) :: post) hp) (K : ClsOk w C) (hh : hasDictIn (KH w) C = true) (hf : takerIn (KH w) C name = some none) (hx : (x, fun o => o = instObj C dx) ∈ pre ++ (dx, AttP k l) :: post) (hz : k < 1000) {k' : Nat} (hk' : (Mine.lk l name).isSome = true ∧ k' = k ∨ k' = k + 1)
    (h : ∀ h' tk', St h₀ (pre ++ (dx, AttP k' (setL l name v)) :: post) h' → Q () ⟨h', gn, dr, tk', os⟩) : W w A (setAttr (.ref x) name v) Q E ⟨hp, gn, dr, tk, os⟩ := by
  obtain ⟨_, e1, rfl⟩ := S.at hx
  have hm : (dx, AttP k l) ∈ pre ++ (dx, AttP k l) :: post := by simp
  obtain ⟨od, e2, p2⟩ := S.at hm
  have X := (S.base B).K
  obtain ⟨cd, hc, hd'⟩ := any_some hh
  refine ⟨set_plain (s := ⟨hp, gn, dr, tk, os⟩) X (inst_at e1 e2) K.sa ?_⟩
  refine osa_open (s := ⟨hp, gn, dr, tk + 1, os⟩) X (inst_at e1 e2) K.po hf fun b => ?_
  refine wpAny_bind (wpAny_pure (wpAny_bind (wpAny_bind (wpAny_loadPart e1 (wpAny_bind ((looks_clsIn X hc).here ?_))))))
  rw [hd']
  refine wpAny_pure (a := some dx) (wpAny_bind (wpAny_pure (wpAny_bind ?_)))
  refine att_set (s := ⟨hp, gn, dr, tk + 1, os⟩) e2 p2 hk' fun h' hn hs => ?_
  obtain ⟨o', eo, po⟩ := hn
  have po' := po
  obtain ⟨es, ep, hd2, _, _, hz2⟩ := po
  refine wpAny_bind (wpAny_lookBehind eo (by rw [hd2]; exact pastItsLine_dict (by rw [sizeLine_eq]; omega)) ?_)
  exact wpAny_pure (h h' _ (S.updM hs ⟨o', eo, po'⟩))
/-- slots -/
structure SlotOk (w : World) (C p : Addr) (name : PySem.Str) (i : Nat) : Prop where
  f : findIn (KH w) (.ref C) name = some (some (.ref p))
  g : specialIn (KH w) (.ref p) "__get__" = some (some (.builtin "member_descriptor.__get__"))
  t : takesIn (KH w) (.ref p) = some true
  i : slotIn (KH w) p C = some i
  k : takerIn (KH w) C name = some (some (.ref p))
  m : typeIn (KH w) (.ref p) = some (.type "member_descriptor")
theorem g_slot {p : Addr} {i : Nat} {sl : Array (Option Value)} {od : Obj} (X : (KH w).In hp) (K : ClsOk w C) (Z : SlotOk w C p name i) (hx : hp.get? x = some ⟨.ref C, some dx, .plain, sl⟩) (hd : hp.get? dx = some od) (hl : (sl[i]?).join = some v) (hv : handedIn v = true)
    (h : Q v ⟨hp, gn, dr, tk + 1, os⟩) : W w A (getAttr (.ref x) name true) Q E ⟨hp, gn, dr, tk, os⟩ :=
  ⟨get_bind (s := ⟨hp, gn, dr, tk, os⟩) X (inst_at hx hd) K.ga (findObj_data K.ic Z.f Z.g Z.t) K.gg (wpAny_call (slot_get (s := ⟨hp, gn, dr, tk + 1, os⟩) X (inst_at hx hd) Z.i hl (handed_on hv h)))⟩
theorem s_slot {Q : Unit → Shared → Prop} {p : Addr} {i : Nat} {sl : Array (Option Value)} {od : Obj} (X : (KH w).In hp) (K : ClsOk w C) (Z : SlotOk w C p name i) (hx : hp.get? x = some ⟨.ref C, some dx, .plain, sl⟩) (hd : hp.get? dx = some od) (hi : i < 1000)
    (h : ∀ h', Heap.SameBut x hp h' → h'.get? x = some ⟨.ref C, some dx, .plain, (sl ++ Array.replicate (i + 1 - sl.size) none).setIfInBounds i (some v)⟩ → Q () ⟨h', gn, dr, tk + 1, os⟩) : W w A (setAttr (.ref x) name v) Q E ⟨hp, gn, dr, tk, os⟩ := by
  refine ⟨set_plain (s := ⟨hp, gn, dr, tk, os⟩) X (inst_at hx hd) K.sa ?_⟩
  refine osa_descr (s := ⟨hp, gn, dr, tk + 1, os⟩) KF.slot_mset X (inst_at hx hd) K.po Z.k Z.m ?_
  obtain ⟨n, tn, owner, behind, tb, d, sl', cd, ho, hc, hm, hb, rfl⟩ := slot_of X Z.i
  have I := inst_at hx hd
  have L0 := I.type (M := model PR w)
  have L1 := looks_mroIn (M := model PR w) X hm
  have L2 : Looks (model PR w) hp (Slots.slotNamesOf (.ref C)) cd.slotNames := (looks_clsIn X hc).andThen .now
  have f0 := looks_field (M := model PR w) ho 0 (v := .str n tn) rfl
  have f1 := looks_field (M := model PR w) ho 1 (v := owner) rfl
  have f3 := looks_field (M := model PR w) ho 3 (v := .builtin "proto.slot#set") rfl
  have f4 := looks_field (M := model PR w) ho 4 (v := .int behind tb) rfl
  refine codeAny_call_builtin (s := ⟨hp, gn, dr, tk + 1, os⟩) KF.slot_mset.plain KF.entry_mset (KF.slot_mset.check _ _ _ _ _ _ _ _ ⟨_, ho, rfl⟩ (KF.args_mset _ _ _) ?_)
  unfold Builtin.«member_descriptor.__set__» descrSet descrStoreThrough descrCheckInstance descrNameAndClass isInstance
  have f5 : Looks (model PR w) hp (descrItself (.ref p)) [.ref p] := ((Looks.ld (part := none) ho).andThen .now).andThen (Looks.of_pure (by kernel_rfl))
  repeat lk
  refine ⟨Code.quiet_builtin _ (by decide +kernel), codeAny_builtin KF.entry_slotset ?_⟩
  unfold Builtin.«proto.slot#set» Slots.target
  repeat lk
  rw [if_neg hb]
  refine wpAny_pure (wpAny_bind ?_)
  unfold setSlotAt
  dsimp only
  rw [if_neg (by rw [sizeLine_eq]; omega)]
  refine wpAny_updatePart hx (wpAny_pure (h _ (Heap.SameBut.update ..) ?_))
  exact Heap.get?_update_self _ hx rfl
theorem g_meth {pl : Sem Bool} {f : Addr} {Q : Value × List Value → Shared → Prop} (B : Base w h₀) (S : St h₀ cs hp) (K : ClsOk w C) (hf : findIn (KH w) (.ref C) name = some (some (.ref f))) (ht : typeIn (KH w) (.ref f) = some (.type "function"))
    (hx : (x, fun o => o = instObj C dx) ∈ cs) {k : Nat} (hd : (dx, AttP k l) ∈ cs) (hl : Mine.lk l name = none) (h : Q (.ref f, [.ref x]) ⟨hp, gn, dr, tk, os⟩) : W w A (getMethod (.ref x) name pl) Q E ⟨hp, gn, dr, tk, os⟩ := by
  obtain ⟨_, e1, rfl⟩ := S.at hx
  obtain ⟨od, e2, p2⟩ := S.at hd
  exact ⟨method_fn (s := ⟨hp, gn, dr, tk, os⟩) (S.base B).K (inst_at e1 e2) K.ga K.gg hf ht (by show (lookIn name od).map _ = _; rw [look_of_loc p2.loc, hl]; rfl) h⟩
/-- making an object -/
theorem mk_inst {R : Result → Shared → Prop} {rest : List Value} {fI : Addr} (B : Base w hp) (hm : makesIn (KH w) C = true) (hi : findIn (KH w) (.ref C) "__init__" = some (some (.ref fI))) (hf : typeIn (KH w) (.ref fI) = some (.type "function"))
    (h : Mine.C w (A.under (.builtin "type.__call__" ⟨.ref C :: rest, []⟩)) (.call (.ref fI) ⟨.ref (hp.objs.size + 1) :: rest, []⟩) (InitBack (hp.objs.size + 1) R) ⟨(hp.push emptyDict).push (instObj C hp.objs.size), gn, dr, tk, os⟩) :
    Mine.C w A (.call (.ref C) ⟨rest, []⟩) R ⟨hp, gn, dr, tk, os⟩ :=
  ⟨make_core (makes_of B.K hm) (looks_findIn B.K hi) (fun self => bind_fn B.K self hf) (.inl rfl) h.out⟩
end
theorem cls40 (w : World) : ClsOk w 40 := ⟨by kernel_rfl, by kernel_rfl, by kernel_rfl, by kernel_rfl, by kernel_rfl⟩
theorem cls137 (w : World) : ClsOk w 137 := ⟨by kernel_rfl, by kernel_rfl, by kernel_rfl, by kernel_rfl, by kernel_rfl⟩
theorem slot41 (w : World) : SlotOk w 40 41 (.ofString "node") 0 := ⟨by kernel_rfl, by kernel_rfl, by kernel_rfl, by kernel_rfl, by kernel_rfl, by kernel_rfl⟩
theorem slot42 (w : World) : SlotOk w 40 42 (.ofString "npredecessors") 1 := ⟨by kernel_rfl, by kernel_rfl, by kernel_rfl, by kernel_rfl, by kernel_rfl, by kernel_rfl⟩
theorem slot43 (w : World) : SlotOk w 40 43 (.ofString "successors") 2 := ⟨by kernel_rfl, by kernel_rfl, by kernel_rfl, by kernel_rfl, by kernel_rfl, by kernel_rfl⟩
end Mine
end TextSLI
section TextSLJ
open PySem PySem.W PySem.Spec PySem.Calls PyProof.Rows
set_option Elab.async false
set_option maxRecDepth 100000
set_option linter.unusedVariables false
set_option linter.unusedSimpArgs false
namespace Mine
section
variable {w : World} {A : Around} {E : Value → Shared → Prop} {s : Shared} {hp : Heap} {gn : Array GenState} {dr : Drawn} {tk : Nat} {os : OsState} {env : Env} {h₀ : Heap} {cs pre post : List Cell} {Q : Value → Shared → Prop} {pos : Pos}
theorem e_att {value : Expr} {attr : PySem.Str} (h : W w A (eval value env) (fun o s₁ => W w A (getAttr o attr true) Q E s₁) E s)
    (he : eval (.Attribute value attr pos) env = (do
      let o ← eval value env
      standAt pos.atName
      let r ← holding [o] (getAttr o attr true)
      letTemporaryGo value o r
      pure r) := by rfl) : W w A (eval (.Attribute value attr pos) env) Q E s := ⟨Attribute_any_ (um h fun _ _ h₁ => h₁.out) he⟩
theorem xs_set_att {o value : Expr} {attr : PySem.Str} {p : Pos} {rest : List Stmt} {Q : Flow → Shared → Prop}
    (h : W w A (eval value env) (fun v s₁ => W w A (eval o env) (fun ov s₂ => W w A (setAttr ov attr v) (fun _ s₃ => W w A (execs rest env) Q E s₃) E s₂) E s₁) E s)
    (hs : swapsWith value (some (.Attribute o attr p)) pos.line env = pure false := by rfl) : W w A (execs (.Assign [.Attribute o attr p] value pos :: rest) env) Q E s :=
  xs_cons ⟨plainObj_wpAny_Assign_Attribute (um h fun _ _ h₁ => um h₁ fun _ _ h₂ => um h₂ fun _ _ h₃ => h₃) hs⟩
theorem xs_aug_att {o value : Expr} {attr : PySem.Str} {p : Pos} {op : Operator} {rest : List Stmt} {Q : Flow → Shared → Prop}
    (h : W w A (eval o env) (fun ov s₁ => W w A (getAttr ov attr true) (fun old s₂ => W w A (eval value env) (fun v s₃ => W w A (inplaceOp op old v) (fun new s₄ => W w A (setAttr ov attr new) (fun _ s₅ => W w A (execs rest env) Q E s₅) E s₄) E s₃) E s₂) E s₁) E s) :
    W w A (execs (.AugAssign (.Attribute o attr p) op value pos :: rest) env) Q E s :=
  xs_cons ⟨wpAny_AugAssign_AttributeAny (um h fun _ _ h₁ => um h₁ fun _ _ h₂ => um h₂ fun _ _ h₃ => um h₃ fun _ _ h₄ => um h₄ fun _ _ h₅ => h₅)⟩
theorem e_named {x : PySem.Str} {p : Pos} {value : Expr} (h : W w A (eval value env) (fun v s₁ => W w A (storeName env x v) (fun _ s₂ => Q v s₂) E s₁) E s) : W w A (eval (.NamedExpr (.Name x p) value pos) env) Q E s :=
  ⟨wpAny_NamedExpr (um h fun _ _ h₁ => wpAny_assign_Name (um h₁ fun _ _ x => x))⟩
theorem xs_assign2 {o i value : Expr} {x : PySem.Str} {p p' : Pos} {rest : List Stmt} {Q : Flow → Shared → Prop}
    (h : W w A (eval value env) (fun v s₁ => W w A (assign (.Subscript o i p) env v) (fun _ s₂ => W w A (assign (.Name x p') env v) (fun _ s₃ => W w A (execs rest env) Q E s₃) E s₂) E s₁) E s)
    (he : (assignEach [.Subscript o i p, .Name x p'] env).map (·.2) = [assign (.Subscript o i p) env, assign (.Name x p') env] := by rfl)
    (hw : swappedStores [.Subscript o i p, .Name x p'] value env = pure none := by rfl) : W w A (execs (.Assign [.Subscript o i p, .Name x p'] value pos :: rest) env) Q E s :=
  xs_cons ⟨wpAny_Assign_two (um h fun _ _ h₁ => um h₁ fun _ _ h₂ => um h₂ fun _ _ h₃ => h₃) he hw⟩
theorem if_n {c : Bool} {a b : Prop} (h : c = false) (x : b) : if c = true then a else b := by subst h; exact x
/-! ints in place -/
variable {a b : Int} {t u : Tok}
theorem ii_add (h : ∀ t' tk', Q (.int (a + b) t') ⟨hp, gn, dr, tk', os⟩) : W w A (inplaceOp .Add (.int a t) (.int b u)) Q E ⟨hp, gn, dr, tk, os⟩ := ⟨AutoIntOps.iadd_0 (h _ _)⟩
theorem ii_sub (h : ∀ t' tk', Q (.int (a - b) t') ⟨hp, gn, dr, tk', os⟩) : W w A (inplaceOp .Sub (.int a t) (.int b u)) Q E ⟨hp, gn, dr, tk, os⟩ := ⟨AutoIntOps.isub_0 (h _ _)⟩
/-! lists -/
variable {l : Addr} {vs : List Value} {v : Value}
theorem m_lst {name : PySem.Str} {id : String} {pl : Sem Bool} {Q : Value × List Value → Shared → Prop} (slot : Slot "list" name id) (hty : typeOf (.builtin id) = pure (.type "method_descriptor")) (hl : ∃ o, hp.get? l = some o ∧ LstP vs o)
    (h : Q (.builtin id, [.ref l]) ⟨hp, gn, dr, tk, os⟩) : W w A (getMethod (.ref l) name pl) Q E ⟨hp, gn, dr, tk, os⟩ := by
  obtain ⟨o, e, n, rfl⟩ := hl
  exact ⟨getMethod_builtin (s := ⟨hp, gn, dr, tk, os⟩) ⟨_, e, rfl⟩ PySem.F.plainAttrs_list slot hty (fun a q => by cases q; exact ⟨_, e, rfl⟩) h⟩
theorem lst_upd {n : Nat} {f : Array Value → Array Value} {vs' : List Value} (e : hp.get? l = some { cls := .type "list", dict := none, data := .seq vs.toArray n, slots := #[] }) (hf : f vs.toArray = vs'.toArray) :
    ∃ o, (hp.update l (Obj.mapSeq f)).get? l = some o ∧ LstP vs' o := by
  have := IsL.update (h := hp) (l := l) (items := vs.toArray) (n := n) e f
  rw [hf] at this
  exact ⟨_, this, _, rfl⟩
theorem b_append (S : St h₀ (pre ++ (l, LstP vs) :: post) hp) (hz : vs.length ≤ 1000) (h : ∀ h', St h₀ (pre ++ (l, LstP (vs ++ [v])) :: post) h' → Q .none ⟨h', gn, dr, tk, os⟩) : W w A (call (.builtin "list.append") [.ref l, v]) Q E ⟨hp, gn, dr, tk, os⟩ := by
  obtain ⟨o, e, n, rfl⟩ := S.at (a := l) (P := LstP vs) (by simp)
  exact ⟨call_meets (s := ⟨hp, gn, dr, tk, os⟩) PySem.F.slot_list_append ⟨_, e, rfl⟩ PySem.F.entry_list_append (PySem.F.args_list_append_2 _ _) (PySem.AutoListH.list_append_list_val_0 l _ n v (by rw [List.size_toArray, sizeLine_eq]; omega))
    ⟨e, h _ (S.updM (Heap.SameBut.update ..) (lst_upd e (by simp)))⟩⟩
theorem b_pop (S : St h₀ (pre ++ (l, LstP (vs ++ [v])) :: post) hp) (hz : vs.length ≤ 1000) (h : ∀ h', St h₀ (pre ++ (l, LstP vs) :: post) h' → Q v ⟨h', gn, dr, tk, os⟩) : W w A (call (.builtin "list.pop") [.ref l]) Q E ⟨hp, gn, dr, tk, os⟩ := by
  obtain ⟨o, e, n, rfl⟩ := S.at (a := l) (P := LstP (vs ++ [v])) (by simp)
  have hk : (vs ++ [v]).toArray.size - 1 = vs.length := by simp
  refine ⟨call_meets (s := ⟨hp, gn, dr, tk, os⟩) PySem.F.slot_list_pop ⟨_, e, rfl⟩ PySem.F.entry_list_pop (PySem.F.args_list_pop_1 _) (PySem.MeetsSeq.list_pop_last l _ n v (by rw [hk]; simp) (by rw [List.size_toArray, sizeLine_eq, List.length_append]; simp; omega))
    ⟨e, h _ (S.updM (Heap.SameBut.update ..) (lst_upd e ?_))⟩⟩
  show (vs ++ [v]).toArray.eraseIdxIfInBounds ((vs ++ [v]).toArray.size - 1) = vs.toArray
  rw [hk, kl_erase, List.append_nil]
theorem b_clear (S : St h₀ (pre ++ (l, LstP vs) :: post) hp) (hz : vs.length ≤ 1000) (h : ∀ h', St h₀ (pre ++ (l, LstP []) :: post) h' → Q .none ⟨h', gn, dr, tk, os⟩) : W w A (call (.builtin "list.clear") [.ref l]) Q E ⟨hp, gn, dr, tk, os⟩ := by
  obtain ⟨o, e, n, rfl⟩ := S.at (a := l) (P := LstP vs) (by simp)
  exact ⟨call_meets (s := ⟨hp, gn, dr, tk, os⟩) PySem.F.slot_list_clear ⟨_, e, rfl⟩ PySem.F.entry_list_clear (PySem.F.args_list_clear_1 _) (PySem.AutoSeq1.list_clear_list_0 l _ n (by rw [List.size_toArray, sizeLine_eq]; omega))
    ⟨e, h _ (S.updM (Heap.SameBut.update ..) (lst_upd e rfl))⟩⟩
theorem b_extend {b : Addr} {ws : List Value} (S : St h₀ (pre ++ (l, LstP vs) :: post) hp) (hb : ∃ o, hp.get? b = some o ∧ TupP ws o) (hz : vs.length ≤ 1000) (hz2 : ws.length ≤ 1000) (h : ∀ h', St h₀ (pre ++ (l, LstP (vs ++ ws)) :: post) h' → Q .none ⟨h', gn, dr, tk, os⟩) :
    W w A (call (.builtin "list.extend") [.ref l, .ref b]) Q E ⟨hp, gn, dr, tk, os⟩ := by
  obtain ⟨o, e, n, rfl⟩ := S.at (a := l) (P := LstP vs) (by simp)
  obtain ⟨o2, e2, n2, rfl⟩ := hb
  exact ⟨call_meets (s := ⟨hp, gn, dr, tk, os⟩) PySem.F.slot_list_extend ⟨_, e, rfl⟩ PySem.F.entry_list_extend (PySem.F.args_list_extend_2 _ _)
    (PySem.AutoSeq1.list_extend_list_tuple_0 l _ n b _ n2 (by simp [Builtin.List.listTooLong, sizeLine_eq]; omega) (by rw [List.size_toArray, sizeLine_eq]; omega) (by rw [List.size_toArray, List.size_toArray, sizeLine_eq]; omega))
    ⟨e, e2, h _ (S.updM (Heap.SameBut.update ..) (lst_upd e (by simp)))⟩⟩
theorem e_list0 (h : Q (.ref hp.objs.size) ⟨hp.push { cls := .type "list", data := .seq #[] }, gn, dr, tk, os⟩) : W w A (eval (.List [] pos) env) Q E ⟨hp, gn, dr, tk, os⟩ := ⟨wpAny_List_spliced (wpAny_items_nil ⟨Nat.zero_le _, h⟩)⟩
theorem St.push_lst (S : St h₀ cs hp) (vs : List Value) : St h₀ ((hp.objs.size, LstP vs) :: cs) (hp.push { cls := .type "list", data := .seq vs.toArray }) := S.push ⟨0, rfl⟩
theorem tr_list {Q : Bool → Shared → Prop} (hl : hp.IsList l vs.toArray) (hz : vs.length ≤ 1000) (h : ∀ tk', Q (!vs.isEmpty) ⟨hp, gn, dr, tk', os⟩) : W w A (truthy (.ref l)) Q E ⟨hp, gn, dr, tk, os⟩ := by
  refine ⟨wpAny_truthy_list hl (by simp; omega) ?_⟩
  have : decide (vs.toArray.size ≠ 0) = !vs.isEmpty := by cases vs <;> simp
  first | exact this ▸ h _ | simpa [this] using h _
/-! starred calls -/
structure Star (w : World) (A : Around) (v : Value) (Q : List Value → Shared → Prop) (E : Value → Shared → Prop) (s : Shared) : Prop where
  out : StarOf (model PR w) A E v Q s
theorem star_list {Q : List Value → Shared → Prop} (hl : ∃ o, hp.get? l = some o ∧ LstP vs o) (hz : vs.length ≤ 1000) (h : ∀ h', Kp hp h' → Q vs ⟨h', gn, dr, tk, os⟩) : Star w A (.ref l) Q E ⟨hp, gn, dr, tk, os⟩ := by
  obtain ⟨o, e, n, rfl⟩ := hl
  have z : wpAny (model PR w) A (collect (.ref l)) Q E ⟨hp, gn, dr, tk, os⟩ := wpAny_collect_seq (s := ⟨hp, gn, dr, tk, os⟩) l (.inl rfl) e rfl rfl (fun h' hk => by simpa using h h' hk) (by rw [List.size_toArray, sizeLine_eq]; omega)
  exact ⟨wpAny_bind (wpAny_specialOf (T := "list") ⟨_, e, rfl⟩ PySem.F.slot_list_iter.lookup (wpAny_pure ⟨rfl, z⟩))⟩
theorem star_tup {Q : List Value → Shared → Prop} (hl : ∃ o, hp.get? l = some o ∧ TupP vs o) (hz : vs.length ≤ 1000) (h : ∀ h', Kp hp h' → Q vs ⟨h', gn, dr, tk, os⟩) : Star w A (.ref l) Q E ⟨hp, gn, dr, tk, os⟩ := by
  obtain ⟨o, e, n, rfl⟩ := hl
  have z : wpAny (model PR w) A (collect (.ref l)) Q E ⟨hp, gn, dr, tk, os⟩ := wpAny_collect_seq (s := ⟨hp, gn, dr, tk, os⟩) l (.inr rfl) e rfl rfl (fun h' hk => by simpa using h h' hk) (by rw [List.size_toArray, sizeLine_eq]; omega)
  exact ⟨wpAny_bind (wpAny_specialOf (T := "tuple") ⟨_, e, rfl⟩ PySem.F.slot_tuple_iter.lookup (wpAny_pure ⟨rfl, z⟩))⟩
theorem a_star {e : Expr} {p : Pos} {rest : List Expr} {Q : List Value → Shared → Prop} (h : W w A (eval e env) (fun v s₁ => Star w A v (fun here s₂ => W w A (spliced (backTo pos (starEach rest env))) (fun vs s₃ => Q (here ++ vs) s₃) E s₂) E s₁) E s)
    (he : starEach (.Starred e p :: rest) env = (true, eval e env) :: starEach rest env := by rfl) : W w A (spliced (backTo pos (starEach (.Starred e p :: rest) env))) Q E s := by
  refine ⟨items_star (um h fun v s₁ h₁ => ?_) he⟩
  exact wpAny_mono h₁.out (fun b s₂ h₂ => ⟨h₂.1, wpAny_mono h₂.2 (fun _ _ h₃ => h₃.out) fun _ _ x => x⟩) fun _ _ x => x
/-- a bound method as an object -/
def MetP (f : Addr) (self : Addr) : Obj → Prop := fun o => o = methodObj (.ref f) (.ref self)
theorem g_bound {f x dx C : Addr} {l : Loc} {name : PySem.Str} {k : Nat} (B : Base w h₀) (S : St h₀ cs hp) (K : ClsOk w C) (hh : hasDictIn (KH w) C = true) (hf : findIn (KH w) (.ref C) name = some (some (.ref f))) (ht : typeIn (KH w) (.ref f) = some (.type "function"))
    (hg : findObj (KH w) C (some (dictOf [] 0)) name = some (.bind (.builtin "function.__get__") (.ref f)))
    (hx : (x, fun o => o = instObj C dx) ∈ cs) (hd : (dx, AttP k l) ∈ cs) (hl : Mine.lk l name = none)
    (h : St h₀ ((hp.objs.size, MetP f x) :: cs) (hp.push (methodObj (.ref f) (.ref x))) → Q (.ref hp.objs.size) ⟨hp.push (methodObj (.ref f) (.ref x)), gn, dr, tk + 1, os⟩) : W w A (getAttr (.ref x) name true) Q E ⟨hp, gn, dr, tk, os⟩ := by
  obtain ⟨_, e1, rfl⟩ := S.at hx
  obtain ⟨od, e2, p2⟩ := S.at hd
  have X := (S.base B).K
  have hl2 : lookIn name od = lookIn name (dictOf [] 0) := by rw [look_of_loc p2.loc, hl]; rfl
  have hfo : findObj (KH w) C (some od) name = some (.bind (.builtin "function.__get__") (.ref f)) := by
    rw [← hg]; unfold findObj W.ownOf; simp only [hl2]
  refine ⟨get_bind (s := ⟨hp, gn, dr, tk, os⟩) X (inst_at e1 e2) K.ga hfo K.gg (wpAny_call (fn_get (s := ⟨hp, gn, dr, tk + 1, os⟩) X ht (handed_on rfl ?_)))⟩
  exact h (S.push rfl)
end
end Mine
end TextSLJ
section TextFS
open PySem PySem.W PySem.Spec PySem.Calls PyProof.Rows
set_option Elab.async false
set_option maxRecDepth 100000
set_option linter.unusedVariables false
set_option linter.unusedSimpArgs false
namespace Mine
/-- one allocation, then the end -/
def al1 {α : Type} (t : Sem α) (a : Addr) : Option (Obj × α) := match t with
  | .alloc o k => (match k a with | .pure y => some (o, y) | _ => none)
  | _ => none
def tupO (vs : List Value) : Obj := { cls := .type "tuple", data := .seq vs.toArray }
theorem bind87 (w : World) (x g : Value) (D : Addr) : ∀ vs : List Value, vs.length ≤ 5 → al1 (bindArgs (objF w.params 87) ⟨x :: g :: vs, []⟩) D = some (tupO vs, [(.ofString "self", x), (.ofString "node", g), (.ofString "predecessors", .ref D)])
  | [], _ => by kernel_rfl
  | [_], _ => by kernel_rfl
  | [_, _], _ => by kernel_rfl
  | [_, _, _], _ => by kernel_rfl
  | [_, _, _, _], _ => by kernel_rfl
  | [_, _, _, _, _], _ => by kernel_rfl
  | _ :: _ :: _ :: _ :: _ :: _ :: _, h => by simp at h
structure Nd where
  key : Int
  np : Int
  succ : List Int
  info : Addr
  su : Addr
  dx : Addr
  sv : List Value
def InfoP (dx : Addr) (k np : Int) (su : Addr) : Obj → Prop := fun o => ∃ t t', o = ⟨.ref 40, some dx, .plain, #[some (.int k t), some (.int np t'), some (.ref su)]⟩
def IntL (ns : List Int) : Obj → Prop := fun o => ∃ vs, LstP vs o ∧ IntsAre vs ns
def SucP (sv : List Value) (ns : List Int) : Obj → Prop := fun o => LstP sv o ∧ IntsAre sv ns
def ndC (n : Nd) : List Cell := [(n.info, InfoP n.dx n.key n.np n.su), (n.dx, fun _ => True), (n.su, SucP n.sv n.succ)]
def ndK (ns : List Nd) : List (Int × Value) := ns.map fun n => (n.key, .ref n.info)
def attL (D : Addr) (rd np nf : Value) : Loc := [(.ofString "_node2info", some (.ref D)), (.ofString "_ready_nodes", some rd), (.ofString "_npassedout", some np), (.ofString "_nfinished", some nf)]
/-- a sorter's cells -/
def sorC (w : World) (s dS D : Addr) (rd np nf : Value) (ns : List Nd) : List Cell := (s, fun o => o = instObj 137 dS) :: (dS, AttP 4 (attL D rd np nf)) :: (D, DctP w (ndK ns)) :: ns.flatMap ndC
section
variable {w : World} {A : Around} {E : Value → Shared → Prop} {hp : Heap} {gn : Array GenState} {dr : Drawn} {tk : Nat} {os : OsState} {env : Env} {h₀ : Heap} {cs pre post : List Cell} {Q : Value → Shared → Prop} {pos : Pos} {R : Result → Shared → Prop}
theorem callFV {a : Addr} {args : Args} {vs : List Value} {binds : Addr → List (PySem.Str × Value)} {k : Nat} (f : FnOk w a) (B : Base w h₀) (S : St h₀ cs hp) (r : Rm (k + 1) A)
    (hbind : ∀ D, al1 (bindArgs (objF w.params a) args) D = some (tupO vs, binds D)) (hc : noCell (objF w.params a).scope = true) (hl : ∀ D, allLoc (objF w.params a).scope (binds D) = true)
    (ns : List PySem.Str)
    (h : ∀ D L h' tk', St h₀ ((L, LocP (mkL (binds D) ns)) :: (D, TupP vs) :: cs) h' → Kp hp h' →
      W w (A.deeper (envF w a L)) (execs (bodyF w.params a) (envF w a L)) (fun f s' => R (.ok (.ret (match f with | .ret v => v | _ => .none))) s') No
        ⟨h', gn, dr, tk', os⟩) :
    C w A (.call (.ref a) args) R ⟨hp, gn, dr, tk, os⟩ := by
  obtain ⟨oc, od, osl, ho⟩ := f.look
  have B' := S.base B
  refine ⟨codeAny_call_function (by have := r.dp; omega) (B'.K _ _ ho) rfl f.co f.gen f.body (codeRec_of B'.K f.code) ?_⟩
  generalize bindArgs (objF w.params a) args = t at hbind
  cases t with
  | alloc o kk =>
    have h1 := hbind hp.objs.size
    simp only [al1] at h1
    cases q : kk hp.objs.size with
    | pure y =>
      rw [q] at h1
      obtain ⟨rfl, rfl⟩ := Prod.mk.inj (Option.some.inj h1)
      show wpAny _ _ (alloc (tupO vs) >>= kk) _ _ _
      refine wpAny_bind (wpAny_alloc ?_)
      show wpAny _ _ (kk hp.objs.size) _ _ _
      rw [q]
      refine wpAny_pure (wpAny_newFunctionEnv (fun x hx => of_decide_eq_true (List.all_eq_true.mp hc x hx)) (fun x hx => of_decide_eq_true (List.all_eq_true.mp (hl _) x hx)) (fun h₁ hns hsb => ?_) f.kind)
      have hk1 : Kp (hp.push (tupO vs)) h₁ := fun b o' e => hsb.extBut b o' (Nat.ne_of_lt (Heap.lt_size e)) (Heap.get?_push_of_some _ e)
      refine ⟨B'.nolimit.keeps fun b o' e => hk1 b o' (Heap.get?_push_of_some _ e), codeAny_func ?_⟩
      have S1 : St h₀ ((hp.objs.size, TupP vs) :: cs) (hp.push (tupO vs)) := S.push ⟨0, rfl⟩
      obtain ⟨oL, hoL, hpL⟩ := loc_of_ns hns (lk_mkL _ ns)
      exact wpAny_mono (h _ _ h₁ _ (S1.add hk1 (get?_size_none _) hoL hpL) fun b o' e => hk1 b o' (Heap.get?_push_of_some _ e)).out (fun _ _ x => x) fun _ _ x => x.elim
    | _ => rw [q] at h1; cases h1
  | _ => cases hbind 0
theorem a_sub {o i : Expr} {p : Pos} {v : Value} {s : Shared} {Q : Unit → Shared → Prop} (h : W w A (eval o env) (fun ov s₁ => W w A (eval i env) (fun iv s₂ => W w A (setItem ov iv v) (fun _ s₃ => Q () s₃) E s₂) E s₁) E s) : W w A (assign (.Subscript o i p) env v) Q E s := by
  constructor
  rw [arm_assign_Subscript]
  refine wpAny_bind (wpAny_holding (um h fun _ _ h₁ => wpAny_bind (wpAny_holding (um h₁ fun _ _ h₂ => wpAny_bind (wpAny_standAt (wpAny_bind (wpAny_holding (um h₂ fun _ _ h₃ => ?_))))))))
  exact wpAny_release h₃
end
theorem fn36 (w : World) : FnOk w 36 := FnOk.of rfl rfl rfl rfl rfl rfl
theorem fn73 (w : World) : FnOk w 73 := FnOk.of rfl rfl rfl rfl rfl rfl
theorem fn80 (w : World) : FnOk w 80 := FnOk.of rfl rfl rfl rfl rfl rfl
theorem fn87 (w : World) : FnOk w 87 := FnOk.of rfl rfl rfl rfl rfl rfl
section
variable {w : World} {A : Around} {hp : Heap} {gn : Array GenState} {dr : Drawn} {tk : Nat} {os : OsState} {h₀ : Heap} {cs pre post : List Cell} {R : Result → Shared → Prop}
theorem ninit_spec {x dx : Addr} {P : Obj → Prop} {g : Int} {t : Tok} (B : Base w h₀) (r : Rm 1 A) (S : St h₀ ((x, fun o => o = instObj 40 dx) :: (dx, P) :: cs) hp)
    (h : ∀ su h' tk', St h₀ ((su, LstP []) :: (x, InfoP dx g 0 su) :: (dx, P) :: cs) h' → R (.ok (.ret .none)) ⟨h', gn, dr, tk', os⟩) :
    C w A (.call (.ref 36) ⟨[.ref x, .int g t], []⟩) R ⟨hp, gn, dr, tk, os⟩ := by
  refine callFn (k := 0) (binds := [(.ofString "self", .ref x), (.ofString "node", .int g t)]) (fn36 w) B S r (by kernel_rfl) (by kernel_rfl) (by kernel_rfl) [] fun L h1 tk1 S1 hn hk => ?_
  obtain ⟨_, e1, rfl⟩ := S1.at (a := x) (.tail _ (.head _))
  obtain ⟨od, e2, p2⟩ := S1.at (a := dx) (P := P) (.tail _ (.tail _ (.head _)))
  refine xs_set_att (e_loc S1 rfl (e_loc S1 rfl (s_slot (S1.base B).K (cls40 w) (slot41 w) e1 e2 (by decide) fun h2 sb2 g2 => ?_)))
  have S2 := S1.updM (pre := [_]) (P' := fun o => o = ⟨.ref 40, some dx, .plain, #[some (.int g t)]⟩) sb2 ⟨_, g2, rfl⟩
  obtain ⟨_, e3, rfl⟩ := S2.at (a := x) (.tail _ (.head _))
  obtain ⟨od, e4, p4⟩ := S2.at (a := dx) (P := P) (.tail _ (.tail _ (.head _)))
  refine xs_set_att (e_int fun t3 tk3 => e_loc S2 rfl (s_slot (S2.base B).K (cls40 w) (slot42 w) e3 e4 (by decide) fun h5 sb5 g5 => ?_))
  have S5 := S2.updM (pre := [_]) (P' := fun o => o = ⟨.ref 40, some dx, .plain, #[some (.int g t), some (.int 0 t3)]⟩) sb5 ⟨_, g5, rfl⟩
  refine xs_set_att (e_list0 ?_)
  have S6 := (S5.push_lst []).swap
  obtain ⟨_, e7, rfl⟩ := S6.at (a := x) (.tail _ (.tail _ (.head _)))
  obtain ⟨od, e8, p8⟩ := S6.at (a := dx) (P := P) (.tail _ (.tail _ (.tail _ (.head _))))
  refine e_loc S6 rfl (s_slot (S6.base B).K (cls40 w) (slot43 w) e7 e8 (by decide) fun h9 sb9 g9 => xs_nil ?_)
  have S9 := S6.updM (pre := [_, _]) (P' := InfoP dx g 0 _) sb9 ⟨_, g9, t, t3, rfl⟩
  exact h _ _ _ S9.tail
end
end Mine
end TextFS
section TextFT
open PySem PySem.W PySem.Spec PySem.Calls PyProof.Rows
set_option Elab.async false
set_option maxRecDepth 100000
set_option linter.unusedVariables false
set_option linter.unusedSimpArgs false
namespace Mine
theorem Rm.under {k : Nat} {A : Around} (r : Rm (k + 1) A) (C : Addr) (vals : List Value) : Rm k (A.under (.builtin "type.__call__" ⟨.ref C :: vals, []⟩)) :=
  ⟨r.hd, by have := r.dp; rw [depth_under_kw]; omega, by
    have := r.un
    have h : (A.under (.builtin "type.__call__" ⟨.ref C :: vals, []⟩)).units = A.units + 1 := by rfl
    rw [h]; omega⟩
section
variable {w : World} {A : Around} {hp : Heap} {gn : Array GenState} {dr : Drawn} {tk : Nat} {os : OsState} {h₀ : Heap} {cs pre post : List Cell} {R : Result → Shared → Prop}
theorem node_spec {g : Int} {t : Tok} {k : Nat} (B : Base w h₀) (r : Rm (k + 2) A) (S : St h₀ cs hp)
    (h : ∀ n h' tk', n.key = g → n.np = 0 → n.succ = [] → St h₀ (ndC n ++ cs) h' → R (.ok (.ret (.ref n.info))) ⟨h', gn, dr, tk', os⟩) :
    C w A (.call (.ref 40) ⟨[.int g t], []⟩) R ⟨hp, gn, dr, tk, os⟩ := by
  refine mk_inst (fI := 36) (S.base B) (by kernel_rfl) (by kernel_rfl) (by kernel_rfl) ?_
  have S1 := S.push (P := fun _ => True) (o := emptyDict) trivial
  have S2 := S1.push (P := fun o => o = instObj 40 hp.objs.size) (o := instObj 40 hp.objs.size) rfl
  rw [Heap.size_push] at S2
  refine ninit_spec B ((r.under _ _).le (by omega)) S2 fun su h' tk' S3 => ?_
  refine ⟨rfl, ?_⟩
  have S4 := (S3.mono0 (P' := SucP [] []) fun o ho => ⟨ho, .nil⟩).perm (cs' := ndC ⟨g, 0, [], hp.objs.size + 1, su, hp.objs.size, []⟩ ++ cs) ?_
  · exact h ⟨g, 0, [], hp.objs.size + 1, su, hp.objs.size, []⟩ h' tk' rfl rfl rfl S4
  · exact (List.Perm.swap _ _ _).trans ((List.Perm.swap _ _ _).cons _)
theorem tinit_spec {x dx : Addr} {k : Nat} (B : Base w h₀) (r : Rm (k + 1) A) (S : St h₀ ((x, fun o => o = instObj 137 dx) :: (dx, AttP 0 []) :: cs) hp)
    (h : ∀ D t t' h' tk', St h₀ (sorC w x dx D .none (.int 0 t) (.int 0 t') [] ++ cs) h' → R (.ok (.ret .none)) ⟨h', gn, dr, tk', os⟩) :
    C w A (.call (.ref 73) ⟨[.ref x], []⟩) R ⟨hp, gn, dr, tk, os⟩ := by
  have B' := S.base B
  refine callFD (k := k) (binds := [(.ofString "self", .ref x), (.ofString "graph", .none)]) (fn73 w) B S r ?_ (by kernel_rfl) (by kernel_rfl) [] fun L h1 tk1 S1 hn hk => ?_
  · refine bindsTo_ld (a := 66) (o := { cls := .type "tuple", data := .seq #[.none] }) ?_ (B'.K _ _ (by kernel_rfl))
    kernel_rfl
  refine xs_set_att (e_dict0 ?_)
  have S2 := (S1.push (P := DctP w []) (o := { cls := .type "dict", data := .dict #[] }) dct_nil).swap
  refine e_loc S2 rfl (s_own (pre := [_, _, _]) B S2 (cls137 w) (by kernel_rfl) (by kernel_rfl) (.tail _ (.tail _ (.head _))) (by decide) (.inr rfl) fun h3 tk3 S3 => ?_)
  refine xs_set_att (e_none (e_loc S3 rfl (s_own (pre := [_, _, _]) B S3 (cls137 w) (by kernel_rfl) (by kernel_rfl) (.tail _ (.tail _ (.head _))) (by decide) (.inr rfl) fun h4 tk4 S4 => ?_)))
  refine xs_set_att (e_int fun t5 tk5 => e_loc S4 rfl (s_own (pre := [_, _, _]) B S4 (cls137 w) (by kernel_rfl) (by kernel_rfl) (.tail _ (.tail _ (.head _))) (by decide) (.inr rfl) fun h6 tk6 S6 => ?_))
  refine xs_set_att (e_int fun t7 tk7 => e_loc S6 rfl (s_own (pre := [_, _, _]) B S6 (cls137 w) (by kernel_rfl) (by kernel_rfl) (.tail _ (.tail _ (.head _))) (by decide) (.inr rfl) fun h8 tk8 S8 => ?_))
  refine xs_if (t_cmp (e_loc S8 rfl (e_none (isnot_plain rfl (tr_bool ?_)))))
  refine if_n rfl (xs_nil (xs_nil ?_))
  exact h _ _ _ _ _ (S8.tail.perm ((List.Perm.swap _ _ _).trans ((List.Perm.swap _ _ _).cons _)))
theorem sorter_spec {k : Nat} (B : Base w h₀) (r : Rm (k + 2) A) (S : St h₀ cs hp)
    (h : ∀ x dx D t t' h' tk', St h₀ (sorC w x dx D .none (.int 0 t) (.int 0 t') [] ++ cs) h' → R (.ok (.ret (.ref x))) ⟨h', gn, dr, tk', os⟩) :
    C w A (.call (.ref 137) ⟨[], []⟩) R ⟨hp, gn, dr, tk, os⟩ := by
  refine mk_inst (fI := 73) (S.base B) (by kernel_rfl) (by kernel_rfl) (by kernel_rfl) ?_
  have S1 := S.push (P := AttP 0 []) (o := emptyDict) ⟨#[], 0, rfl, by intro e he; simp at he, fun _ => rfl, Nat.le_refl _⟩
  have S2 := S1.push (P := fun o => o = instObj 137 hp.objs.size) (o := instObj 137 hp.objs.size) rfl
  rw [Heap.size_push] at S2
  exact tinit_spec B (r.under _ _) S2 fun D t t' h' tk' S3 => ⟨rfl, h _ _ _ _ _ _ _ S3⟩
theorem ndK_find {ns : List Nd} {g : Int} : (∃ pre n post, ns = pre ++ n :: post ∧ n.key = g ∧ (∀ m ∈ pre, m.key ≠ g) ∧ valueAt (ndK ns) g = some (.ref n.info)) ∨ ((∀ m ∈ ns, m.key ≠ g) ∧ valueAt (ndK ns) g = none) := by
  induction ns with
  | nil => exact .inr ⟨fun _ h => (nomatch h), rfl⟩
  | cons m ns ih =>
    by_cases e : m.key = g
    · exact .inl ⟨[], m, ns, rfl, e, fun _ h => (nomatch h), by simp [valueAt, ndK, e]⟩
    · have hv : valueAt (ndK (m :: ns)) g = valueAt (ndK ns) g := by simp [valueAt, ndK, e]
      rw [hv]
      rcases ih with ⟨pre, n, post, rfl, h1, h2, h3⟩ | ⟨h1, h2⟩
      · exact .inl ⟨m :: pre, n, post, rfl, h1, fun q hq => by
          rcases List.mem_cons.mp hq with rfl | hq
          · exact e
          · exact h2 q hq, h3⟩
      · exact .inr ⟨fun q hq => by
          rcases List.mem_cons.mp hq with rfl | hq
          · exact e
          · exact h1 q hq, h2⟩
/-- how the list of nodes may grow -/
def Got (ns : List Nd) (g : Int) (pre : List Nd) (n : Nd) (post : List Nd) : Prop :=
  n.key = g ∧ (∀ m ∈ pre, m.key ≠ g) ∧ (ns = pre ++ n :: post ∨ (ns = pre ∧ post = [] ∧ n.np = 0 ∧ n.succ = []))
theorem getinfo_spec {x dx D : Addr} {rd np nf : Value} {ns : List Nd} {g : Int} {t : Tok} {k : Nat} (B : Base w h₀) (r : Rm (k + 3) A) (S : St h₀ (sorC w x dx D rd np nf ns ++ cs) hp) (hz : ns.length ≤ 100)
    (h : ∀ pre n post h' tk', Got ns g pre n post → St h₀ (sorC w x dx D rd np nf (pre ++ n :: post) ++ cs) h' → R (.ok (.ret (.ref n.info))) ⟨h', gn, dr, tk', os⟩) :
    C w A (.call (.ref 80) ⟨[.ref x, .int g t], []⟩) R ⟨hp, gn, dr, tk, os⟩ := by
  refine callFn (k := k + 2) (binds := [(.ofString "self", .ref x), (.ofString "node", .int g t)]) (fn80 w) B S r (by kernel_rfl) (by kernel_rfl) (by kernel_rfl) [.ofString "result"] fun L h1 tk1 S1 hn hk => ?_
  have r' := r.deeper (envF w 80 L)
  have hmods := S1.notMods B (d := D) (P := DctP w (ndK ns)) (.tail _ (.tail _ (.tail _ (.head _))))
  have hD := dct_of (S1.at (a := D) (P := DctP w (ndK ns)) (.tail _ (.tail _ (.tail _ (.head _)))))
  refine xs_if (t_cmp (e_named (e_meth (pure false) (e_att (e_loc S1 rfl (g_own B S1 (cls137 w) (by kernel_rfl) (by kernel_rfl) (.tail _ (.head _)) (.tail _ (.tail _ (.head _))) rfl rfl ?_))))))
  refine m_dict PySem.F.slot_dict_get PySem.F.type_dict_get hD (cw_met (a_cons (e_loc S1 rfl (a_nil (m_get1 hD hmods fun tk2 => ?_)))))
  refine s_loc S1 fun h3 tk3 S3 => e_none ?_
  rcases ndK_find (ns := ns) (g := g) with ⟨pre, n, post, rfl, h1, h2, h3⟩ | ⟨h1, h2⟩
  · rw [h3] at S3 ⊢
    refine is_plain rfl (tr_bool (if_n rfl (xs_nil (xs_ret (e_loc S3 rfl ?_)))))
    exact h pre n post _ _ ⟨h1, h2, .inl rfl⟩ S3.tail
  · rw [h2] at S3 ⊢
    refine is_plain rfl (tr_bool (if_t rfl ?_))
    refine xs_assign2 (e_call (e_glob B S3 rfl (cw_ref (by kernel_rfl) (a_cons (e_loc S3 rfl (a_nil ⟨S3.base B, ?_⟩))))))
    refine node_spec (k := k) B r' S3 fun n h4 tk4 hk1 hk2 hk3 S4 => ?_
    have S5 := S4.perm (cs' := (L, LocP (setL (mkL [(.ofString "self", .ref x), (.ofString "node", .int g t)] [.ofString "result"]) (.ofString "result") .none)) :: (x, fun o => o = instObj 137 dx) :: (dx, AttP 4 (attL D rd np nf)) :: (D, DctP w (ndK ns)) :: (ns.flatMap ndC ++ (ndC n ++ cs))) ?_
    · refine a_sub (e_att (e_loc S5 rfl (g_own B S5 (cls137 w) (by kernel_rfl) (by kernel_rfl) (.tail _ (.head _)) (.tail _ (.tail _ (.head _))) rfl rfl ?_)))
      refine e_loc S5 rfl (set_dict' (i := 3) S5 rfl (by simp [ndK, sizeLine_eq]; omega) fun h6 tk6 S6 => ?_)
      have hst : stored (ndK ns) g (.ref n.info) = ndK (ns ++ [n]) := by
        unfold stored ndK
        rw [if_neg (by simpa using h1), List.map_append]
        simp [hk1]
      rw [hst] at S6
      refine a_name (s_loc S6 fun h7 tk7 S7 => xs_nil (xs_ret (e_loc S7 rfl ?_)))
      refine h ns n [] _ _ ⟨hk1, h1, .inr ⟨rfl, rfl, hk2, hk3⟩⟩ ?_
      have := S7.tail
      simp only [List.set_cons_succ, List.set_cons_zero] at this
      simpa [sorC, List.flatMap_append, List.append_assoc] using this
    · have : ∀ (a b c d : Cell) (X Y Z : List Cell), (X ++ a :: b :: c :: d :: (Y ++ Z)).Perm (a :: b :: c :: d :: (Y ++ (X ++ Z))) := by
        intro a b c d X Y Z
        have h1 : (X ++ a :: b :: c :: d :: (Y ++ Z)).Perm (a :: b :: c :: d :: (Y ++ Z) ++ X) := List.perm_append_comm
        refine h1.trans ?_
        simp only [List.cons_append]
        rw [List.append_assoc]
        exact ((((List.perm_append_comm.append_left Y).cons d).cons c).cons b).cons a
      exact this _ _ _ _ _ _ _
end
end Mine
end TextFT
section TextFA
open PySem PySem.W PySem.Spec PySem.Calls PyProof.Rows
set_option Elab.async false
set_option maxRecDepth 100000
set_option linter.unusedVariables false
set_option linter.unusedSimpArgs false
namespace Mine
abbrev PN := Int × Int × List Int
def Nd.pu (n : Nd) : PN := (n.key, n.np, n.succ)
/-- make or find the node g, then turn it -/
def pupd (g : Int) (f : PN → PN) : List PN → List PN
  | [] => [f (g, 0, [])]
  | m :: r => if m.1 = g then f m :: r else m :: pupd g f r
theorem pupd_got {ns : List Nd} {g : Int} {pre : List Nd} {n : Nd} {post : List Nd} (h : Got ns g pre n post) (f : PN → PN) : pupd g f (ns.map Nd.pu) = pre.map Nd.pu ++ f n.pu :: post.map Nd.pu := by
  obtain ⟨h1, h2, h3⟩ := h
  have key : ∀ (pre : List Nd), (∀ m ∈ pre, m.key ≠ g) → ∀ l : List PN, (l = n.pu :: post.map Nd.pu ∨ (l = [] ∧ post = [] ∧ n.np = 0 ∧ n.succ = [])) → pupd g f (pre.map Nd.pu ++ l) = pre.map Nd.pu ++ f n.pu :: post.map Nd.pu := by
    intro pre h2 l hl
    clear h3
    induction pre with
    | nil =>
      rcases hl with rfl | ⟨rfl, rfl, e1, e2⟩
      · simp [pupd, Nd.pu, h1]
      · simp [pupd, Nd.pu, h1, e1, e2]
    | cons m pre ih =>
      have hm : m.pu.1 ≠ g := h2 m (.head _)
      simp only [List.map_cons, List.cons_append, pupd, if_neg hm]
      rw [ih (fun q hq => h2 q (.tail _ hq))]
  rcases h3 with rfl | ⟨rfl, rfl, e1, e2⟩
  · simpa using key _ h2 _ (.inl rfl)
  · simpa using key _ h2 [] (.inr ⟨rfl, rfl, e1, e2⟩)
section
variable {w : World} {A : Around} {E : Value → Shared → Prop} {hp : Heap} {gn : Array GenState} {dr : Drawn} {tk : Nat} {os : OsState} {env : Env} {h₀ : Heap} {cs pre post : List Cell} {Q : Value → Shared → Prop} {n : Nd}
theorem n_np (B : Base w h₀) (S : St h₀ cs hp) (hm : ∀ c ∈ ndC n, c ∈ cs) (h : ∀ t tk', Q (.int n.np t) ⟨hp, gn, dr, tk', os⟩) : W w A (getAttr (.ref n.info) (.ofString "npredecessors") true) Q E ⟨hp, gn, dr, tk, os⟩ := by
  obtain ⟨_, e1, t, t', rfl⟩ := S.held _ (hm _ (.head _))
  obtain ⟨od, e2, _⟩ := S.held _ (hm _ (.tail _ (.head _)))
  exact g_slot (S.base B).K (cls40 w) (slot42 w) e1 e2 rfl rfl (h _ _)
theorem n_node (B : Base w h₀) (S : St h₀ cs hp) (hm : ∀ c ∈ ndC n, c ∈ cs) (h : ∀ t tk', Q (.int n.key t) ⟨hp, gn, dr, tk', os⟩) : W w A (getAttr (.ref n.info) (.ofString "node") true) Q E ⟨hp, gn, dr, tk, os⟩ := by
  obtain ⟨_, e1, t, t', rfl⟩ := S.held _ (hm _ (.head _))
  obtain ⟨od, e2, _⟩ := S.held _ (hm _ (.tail _ (.head _)))
  exact g_slot (S.base B).K (cls40 w) (slot41 w) e1 e2 rfl rfl (h _ _)
theorem n_succ (B : Base w h₀) (S : St h₀ cs hp) (hm : ∀ c ∈ ndC n, c ∈ cs) (h : ∀ tk', Q (.ref n.su) ⟨hp, gn, dr, tk', os⟩) : W w A (getAttr (.ref n.info) (.ofString "successors") true) Q E ⟨hp, gn, dr, tk, os⟩ := by
  obtain ⟨_, e1, t, t', rfl⟩ := S.held _ (hm _ (.head _))
  obtain ⟨od, e2, _⟩ := S.held _ (hm _ (.tail _ (.head _)))
  exact g_slot (S.base B).K (cls40 w) (slot43 w) e1 e2 rfl rfl (h _)
theorem n_setnp {v : Int} {t : Tok} {Q : Unit → Shared → Prop} (B : Base w h₀) (S : St h₀ (pre ++ (ndC n ++ post)) hp) (h : ∀ h' tk', St h₀ (pre ++ (ndC { n with np := v } ++ post)) h' → Q () ⟨h', gn, dr, tk', os⟩) :
    W w A (setAttr (.ref n.info) (.ofString "npredecessors") (.int v t)) Q E ⟨hp, gn, dr, tk, os⟩ := by
  obtain ⟨_, e1, t1, t', rfl⟩ := S.held (n.info, InfoP n.dx n.key n.np n.su) (List.mem_append_right _ (.head _))
  obtain ⟨od, e2, _⟩ := S.held (n.dx, fun _ => True) (List.mem_append_right _ (.tail _ (.head _)))
  refine s_slot (S.base B).K (cls40 w) (slot42 w) e1 e2 (by decide) fun h' sb g => h h' _ ?_
  exact S.updM (P' := InfoP n.dx n.key v n.su) sb ⟨_, g, t1, t, rfl⟩
theorem b_appendI {l : Addr} {ns : List Int} {a : Int} {t : Tok} (S : St h₀ (pre ++ (l, IntL ns) :: post) hp) (hz : ns.length ≤ 1000) (h : ∀ h', St h₀ (pre ++ (l, IntL (ns ++ [a])) :: post) h' → Q .none ⟨h', gn, dr, tk, os⟩) :
    W w A (call (.builtin "list.append") [.ref l, .int a t]) Q E ⟨hp, gn, dr, tk, os⟩ := by
  obtain ⟨o, e, vs, p, hi⟩ := S.at (a := l) (P := IntL ns) (by simp)
  have S1 := S.updM (P' := LstP vs) ⟨rfl, fun _ _ => rfl⟩ ⟨o, e, p⟩
  refine b_append S1 (by rw [hi.length]; exact hz) fun h' S2 => h h' ?_
  obtain ⟨o2, e2, p2⟩ := S2.at (a := l) (P := LstP (vs ++ [.int a t])) (by simp)
  exact S2.updM ⟨rfl, fun _ _ => rfl⟩ ⟨o2, e2, _, p2, hi.append (.cons _ _ .nil)⟩
theorem b_lent {l : Addr} {vs : List Value} (hl : ∃ o, hp.get? l = some o ∧ TupP vs o) (hz : vs.length ≤ 1000) (h : ∀ t' tk', Q (.int vs.length t') ⟨hp, gn, dr, tk', os⟩) : W w A (call (.builtin "len") [.ref l]) Q E ⟨hp, gn, dr, tk, os⟩ := by
  obtain ⟨o, e, k, rfl⟩ := hl
  exact ⟨len_tuple (items := vs.toArray) ⟨_, e, rfl, k, rfl⟩ (by simp; omega) (by simpa using h _ _)⟩
end
def addP (ns : List PN) (g : Int) (ps : List Int) : List PN := ps.foldl (fun ns p => pupd p (fun m => (m.1, m.2.1, m.2.2 ++ [g])) ns) (pupd g (fun m => (m.1, m.2.1 + ps.length, m.2.2)) ns)
def sorH (w : World) (x dx D : Addr) (rd np nf : Value) (ns : List Nd) : List Cell := [(x, fun o => o = instObj 137 dx), (dx, AttP 4 (attL D rd np nf)), (D, DctP w (ndK ns))]
section
variable {w : World} {x dx D : Addr} {rd np nf : Value} {pre post : List Nd} {n n' : Nd} {cs : List Cell} {A : Around} {E : Value → Shared → Prop} {hp : Heap} {gn : Array GenState} {dr : Drawn} {tk : Nat} {os : OsState} {h₀ : Heap} {Q : Value → Shared → Prop}
theorem sor_split (c : List Cell) : c ++ (sorC w x dx D rd np nf (pre ++ n :: post) ++ cs) = (c ++ sorH w x dx D rd np nf (pre ++ n :: post) ++ pre.flatMap ndC) ++ (ndC n ++ (post.flatMap ndC ++ cs)) := by
  simp [sorC, sorH, List.flatMap_append]
theorem sor_join (c : List Cell) (hk : n'.key = n.key) (hi : n'.info = n.info) : (c ++ sorH w x dx D rd np nf (pre ++ n :: post) ++ pre.flatMap ndC) ++ (ndC n' ++ (post.flatMap ndC ++ cs)) = c ++ (sorC w x dx D rd np nf (pre ++ n' :: post) ++ cs) := by
  have : ndK (pre ++ n :: post) = ndK (pre ++ n' :: post) := by simp [ndK, hk, hi]
  simp [sorC, sorH, List.flatMap_append, this]
theorem sor_sub (c : List Cell) : ∀ q ∈ ndC n, q ∈ c ++ (sorC w x dx D rd np nf (pre ++ n :: post) ++ cs) := by
  intro q hq
  rw [sor_split]
  exact List.mem_append_right _ (List.mem_append_left _ hq)
theorem m_setnp (c : List Cell) {v : Int} {t : Tok} {Q : Unit → Shared → Prop} (B : Base w h₀) (S : St h₀ (c ++ (sorC w x dx D rd np nf (pre ++ n :: post) ++ cs)) hp)
    (h : ∀ h' tk', St h₀ (c ++ (sorC w x dx D rd np nf (pre ++ { n with np := v } :: post) ++ cs)) h' → Q () ⟨h', gn, dr, tk', os⟩) :
    W w A (setAttr (.ref n.info) (.ofString "npredecessors") (.int v t)) Q E ⟨hp, gn, dr, tk, os⟩ := by
  rw [sor_split] at S
  refine n_setnp B S fun h' tk' S' => h h' tk' ?_
  exact (sor_join (n := n) (n' := { n with np := v }) c rfl rfl) ▸ S'
theorem m_append (c : List Cell) {a : Int} {t : Tok} (S : St h₀ (c ++ (sorC w x dx D rd np nf (pre ++ n :: post) ++ cs)) hp) (hz : n.succ.length ≤ 1000)
    (h : ∀ h', St h₀ (c ++ (sorC w x dx D rd np nf (pre ++ { n with succ := n.succ ++ [a], sv := n.sv ++ [.int a t] } :: post) ++ cs)) h' → Q .none ⟨h', gn, dr, tk, os⟩) :
    W w A (call (.builtin "list.append") [.ref n.su, .int a t]) Q E ⟨hp, gn, dr, tk, os⟩ := by
  rw [sor_split] at S
  have S : St h₀ (((c ++ sorH w x dx D rd np nf (pre ++ n :: post) ++ pre.flatMap ndC) ++ [(n.info, InfoP n.dx n.key n.np n.su), (n.dx, fun _ => True)]) ++ (n.su, SucP n.sv n.succ) :: (post.flatMap ndC ++ cs)) hp := by rw [List.append_assoc]; exact S
  obtain ⟨o, e, p, hi⟩ := S.at (a := n.su) (P := SucP n.sv n.succ) (by simp)
  have S1 := S.updM (P' := LstP n.sv) ⟨rfl, fun _ _ => rfl⟩ ⟨o, e, p⟩
  refine b_append S1 (by rw [hi.length]; exact hz) fun h' S2 => h h' ?_
  obtain ⟨o2, e2, p2⟩ := S2.at (a := n.su) (P := LstP (n.sv ++ [.int a t])) (by simp)
  have S' := S2.updM (P' := SucP (n.sv ++ [.int a t]) (n.succ ++ [a])) ⟨rfl, fun _ _ => rfl⟩ ⟨o2, e2, p2, hi.append (.cons _ _ .nil)⟩
  have e := sor_join (w := w) (x := x) (dx := dx) (D := D) (rd := rd) (np := np) (nf := nf) (pre := pre) (post := post) (cs := cs) (n := n) (n' := { n with succ := n.succ ++ [a], sv := n.sv ++ [.int a t] }) c rfl rfl
  rw [← e]
  rw [List.append_assoc] at S'
  exact S'
theorem Got.length {ns : List Nd} {g : Int} (h : Got ns g pre n post) : (pre ++ n :: post).length ≤ ns.length + 1 := by
  obtain ⟨_, _, rfl | ⟨rfl, rfl, _⟩⟩ := h <;> simp
end
theorem perm3 {c1 c2 c3 : Cell} {a cs : List Cell} : (c1 :: c2 :: c3 :: (a ++ cs)).Perm (a ++ c1 :: c2 :: c3 :: cs) := (List.Perm.cons _ perm2).trans List.perm_middle.symm
theorem m_lstI {w : World} {A : Around} {E : Value → Shared → Prop} {hp : Heap} {gn : Array GenState} {dr : Drawn} {tk : Nat} {os : OsState} {l : Addr} {ns : List Int} {name : PySem.Str} {id : String} {pl : Sem Bool} {Q : Value × List Value → Shared → Prop} (slot : Slot "list" name id) (hty : typeOf (.builtin id) = pure (.type "method_descriptor")) (hl : ∃ o, hp.get? l = some o ∧ IntL ns o)
    (h : Q (.builtin id, [.ref l]) ⟨hp, gn, dr, tk, os⟩) : W w A (getMethod (.ref l) name pl) Q E ⟨hp, gn, dr, tk, os⟩ :=
  let ⟨o, e, vs, p, _⟩ := hl; m_lst slot hty ⟨o, e, p⟩ h
/-- every list of successors is short -/
def Short (k : Nat) (ns : List Nd) : Prop := ∀ n ∈ ns, n.succ.length ≤ k
theorem Got.short {ns : List Nd} {g : Int} {pre post : List Nd} {n : Nd} {k : Nat} (h : Got ns g pre n post) (hs : Short k ns) : Short k (pre ++ n :: post) := by
  obtain ⟨_, _, rfl | ⟨rfl, rfl, _, e⟩⟩ := h
  · exact hs
  · intro m hm
    rcases List.mem_append.mp hm with hm | hm
    · exact hs m hm
    · rw [List.mem_singleton.mp hm, e]; exact Nat.zero_le _
theorem foldl_take_succ' {α β : Type} (f : β → α → β) (b : β) (l : List α) (i : Nat) (a : α) (h : l[i]? = some a) : (l.take (i + 1)).foldl f b = f ((l.take i).foldl f b) a := by
  rw [List.take_add_one, h]; simp
theorem ints_get : ∀ {vs : List Value} {ns : List Int} {i : Nat} {v : Value}, IntsAre vs ns → vs[i]? = some v → ∃ p t, v = .int p t ∧ ns[i]? = some p
  | _, _, _, _, .nil, h => by simp at h
  | _, _, 0, _, .cons n t _, h => ⟨n, t, by simpa using h.symm, rfl⟩
  | _, _, i + 1, _, .cons n t r, h => by simpa using ints_get r (by simpa using h)
structure AddD where
  ns : List Nd
  p : Option Value
  q : Option Value
theorem add_spec {w : World} {A : Around} {hp : Heap} {gn : Array GenState} {dr : Drawn} {tk : Nat} {os : OsState} {h₀ : Heap} {cs : List Cell} {R : Result → Shared → Prop} {x dx D : Addr} {np nf : Value} {ns : List Nd} {g : Int} {t : Tok} {vs : List Value} {ps : List Int} {k m : Nat}
    (B : Base w h₀) (r : Rm (k + 4) A) (S : St h₀ (sorC w x dx D .none np nf ns ++ cs) hp) (hz : ns.length ≤ 50) (hs : Short m ns) (hm : m ≤ 100) (hv : vs.length ≤ 5) (hi : IntsAre vs ps)
    (h : ∀ ns' h' tk', ns'.map Nd.pu = addP (ns.map Nd.pu) g ps → ns'.length ≤ ns.length + 1 + ps.length → Short (m + ps.length) ns' → St h₀ (sorC w x dx D .none np nf ns' ++ cs) h' → R (.ok (.ret .none)) ⟨h', gn, dr, tk', os⟩) :
    C w A (.call (.ref 87) ⟨.ref x :: .int g t :: vs, []⟩) R ⟨hp, gn, dr, tk, os⟩ := by
  have hlen := hi.length
  refine callFV (k := k + 3) (vs := vs) (fn87 w) B S r (fun D => bind87 w _ _ D vs hv) (by kernel_rfl) (fun D => by kernel_rfl) [.ofString "nodeinfo", .ofString "pred", .ofString "pred_info"] fun T L h1 tk1 S1 hk => ?_
  have r' := r.deeper (envF w 87 L)
  refine xs_if (t_cmp (e_att (e_loc S1 rfl (g_own B S1 (cls137 w) (by kernel_rfl) (by kernel_rfl) (.tail _ (.tail _ (.head _))) (.tail _ (.tail _ (.tail _ (.head _)))) rfl rfl ?_))))
  refine e_none (isnot_plain rfl (tr_bool (if_n rfl (xs_nil ?_))))
  refine xs_assign (e_meth _ (e_loc S1 rfl (g_meth B S1 (cls137 w) (f := 80) (by kernel_rfl) (by kernel_rfl) (.tail _ (.tail _ (.head _))) (.tail _ (.tail _ (.tail _ (.head _)))) rfl ?_)))
  refine cw_ref (by kernel_rfl) (a_cons (e_loc S1 rfl (a_nil ⟨S1.base B, ?_⟩)))
  refine getinfo_spec (k := k) B r' (S1.perm perm2) (by omega) fun pre n post h2 tk2 hg S2 => ?_
  refine s_loc (S2.perm perm2.symm) fun h3 tk3 S3 => ?_
  refine xs_aug_att (e_loc S3 rfl (n_np B S3 (sor_sub [_, _]) fun t4 tk4 => ?_))
  refine e_call (e_blt B S3 rfl boot_len (by decide) (cw_blt (a_cons (e_loc S3 rfl (a_nil (b_lent (S3.at (.tail _ (.head _))) (by omega) fun t5 tk5 => ii_add fun t6 tk6 => ?_))))))
  refine m_setnp [_, _] B S3 fun h7 tk7 S7 => ?_
  have hgot := pupd_got hg (fun m => (m.1, m.2.1 + ps.length, m.2.2))
  have hns0 : (pre ++ { n with np := n.np + vs.length } :: post).map Nd.pu = pupd g (fun m => (m.1, m.2.1 + ps.length, m.2.2)) (ns.map Nd.pu) := by
    rw [hgot, hlen]; simp [Nd.pu]
  have hl0 : (pre ++ { n with np := n.np + (vs.length : Int) } :: post).length ≤ ns.length + 1 := by have := hg.length; simpa using this
  have hs0 : Short m (pre ++ { n with np := n.np + (vs.length : Int) } :: post) := by
    have := hg.short hs
    intro mm hm
    rcases List.mem_append.mp hm with hm | hm
    · exact this mm (List.mem_append_left _ hm)
    · rcases List.mem_cons.mp hm with rfl | hm
      · exact this n (by simp)
      · exact this mm (List.mem_append_right _ (.tail _ hm))
  generalize hN : (pre ++ { n with np := n.np + (vs.length : Int) } :: post) = N0 at S7 hns0 hl0 hs0
  obtain ⟨oT, eT, pT⟩ := S7.at (a := T) (P := TupP vs) (.tail _ (.head _))
  have S8 := S7.updM (pre := [_]) (P' := fun q => q = oT) ⟨rfl, fun _ _ => rfl⟩ ⟨oT, eT, rfl⟩
  refine xs_for (e_loc S8 rfl ?_)
  refine for_tuple (L := L) (fun d : AddD => [(.ofString "predecessors", some (.ref T)), (.ofString "node", some (.int g t)), (.ofString "self", some (.ref x)), (.ofString "nodeinfo", some (.ref n.info)), (.ofString "pred", d.p), (.ofString "pred_info", d.q)])
    (fun d => (T, fun q => q = oT) :: (sorC w x dx D .none np nf d.ns ++ cs))
    (fun i d => d.ns.map Nd.pu = (ps.take i).foldl (fun ns p => pupd p (fun m => (m.1, m.2.1, m.2.2 ++ [g])) ns) (pupd g (fun m => (m.1, m.2.1 + ps.length, m.2.2)) (ns.map Nd.pu)) ∧ d.ns.length ≤ ns.length + 1 + i ∧ Short (m + i) d.ns)
    ⟨N0, none, none⟩ (items := vs) (ol := oT) r'.hd (by obtain ⟨k, rfl⟩ := pT; exact ⟨rfl, k, rfl⟩) (.inr fun d => .head _) S8 ⟨by simpa using hns0, hl0, hs0⟩ ?_ ?_
  · rintro i ⟨N, dp, dq⟩ v h9 tk9 I oI hvi ⟨hJ, hJl, hJs⟩ S9
    obtain ⟨hilt, _⟩ := List.getElem?_eq_some_iff.mp hvi
    obtain ⟨p, tp, rfl, hpi⟩ := ints_get hi hvi
    refine a_name (s_loc S9 fun h10 tk10 S10 => ?_)
    refine xs_assign (e_meth _ (e_loc S10 rfl (g_meth B S10 (cls137 w) (f := 80) (by kernel_rfl) (by kernel_rfl) (.tail _ (.tail _ (.tail _ (.head _)))) (.tail _ (.tail _ (.tail _ (.tail _ (.head _))))) rfl ?_)))
    refine cw_ref (by kernel_rfl) (a_cons (e_loc S10 rfl (a_nil ⟨S10.base B, ?_⟩)))
    refine getinfo_spec (k := k) B r' (S10.perm perm3) (show N.length ≤ 100 by simp only at hJl; omega) fun pre2 n2 post2 h11 tk11 hg2 S11 => ?_
    refine s_loc (S11.perm perm3.symm) fun h12 tk12 S12 => ?_
    have hmem := sor_sub (w := w) (x := x) (dx := dx) (D := D) (rd := .none) (np := np) (nf := nf) (pre := pre2) (post := post2) (n := n2) (cs := cs)
    refine xs_expr (e_meth (pure false) (e_att (e_loc S12 rfl (n_succ B S12 (hmem [_, _, _]) fun tk13 => ?_))))
    refine m_lst PySem.F.slot_list_append PySem.F.type_list_append (let ⟨o, e, p, _⟩ := S12.held (n2.su, SucP n2.sv n2.succ) (hmem [_, _, _] _ (.tail _ (.tail _ (.head _)))); ⟨o, e, p⟩) ?_
    refine cw_met (a_cons (e_loc S12 rfl (a_nil (m_append [_, _, _] S12 ?_ fun h14 S14 => xs_nil ?_))))
    · have := hg2.short hJs n2 (by simp); omega
    refine ⟨⟨pre2 ++ { n2 with succ := n2.succ ++ [g], sv := n2.sv ++ [.int g t] } :: post2, some (.int p tp), some (.ref n2.info)⟩, _, _, rfl, ⟨?_, ?_, ?_⟩, S14⟩
    · rw [foldl_take_succ' _ _ _ _ _ hpi, ← hJ, pupd_got hg2]; simp [Nd.pu]
    · have := hg2.length; simp only [List.length_append, List.length_cons] at this ⊢; simp only at hJl; omega
    · have h1 := hg2.short hJs
      intro mm hm
      rcases List.mem_append.mp hm with hm | hm
      · have := h1 mm (List.mem_append_left _ hm); omega
      · rcases List.mem_cons.mp hm with rfl | hm
        · have := h1 n2 (by simp); simp; omega
        · have := h1 mm (List.mem_append_right _ (.tail _ hm)); omega
  · rintro ⟨N, dp, dq⟩ h9 tk9 ⟨hJ, hJl, hJs⟩ S9
    rw [hlen, List.take_length] at hJ
    rw [hlen] at hJl hJs
    exact xs_nil (h N _ _ hJ hJl hJs S9.tail.tail)
end Mine
end TextFA
section TextFL
open PySem PySem.W PySem.Spec PySem.Calls PyProof.Rows
set_option Elab.async false
set_option maxRecDepth 100000
set_option linter.unusedVariables false
set_option linter.unusedSimpArgs false
namespace Mine
theorem ints_map {f : Int → Int} : ∀ {vs ys : List Value} {ns : List Int}, IntsAre vs ns → Paired (fun v y => ∃ t, y = .int (f (numOf v)) t) vs ys → IntsAre ys (ns.map f)
  | _, _, _, .nil, .nil => .nil
  | _, _, _, .cons n t h, .cons ⟨t', e⟩ p => by subst e; exact .cons _ _ (ints_map h p)
theorem St.join {h₀ hp h' : Heap} {cs cs' : List Cell} (S : St h₀ cs hp) (S' : St hp cs' h') : St h₀ (cs' ++ cs) h' := by
  have S1 := S.keeps S'.keep
  refine ⟨S1.keep, fun c hc => ?_, fun c hc => ?_, ?_⟩
  · exact (List.mem_append.mp hc).elim (S'.held c) (S1.held c)
  · rcases List.mem_append.mp hc with hc | hc
    · cases q : h₀.get? c.1 with
      | none => rfl
      | some o => have := S'.new c hc; rw [S.keep _ _ q] at this; cases this
    · exact S.new c hc
  · rw [List.map_append, List.nodup_append]
    refine ⟨S'.nd, S.nd, fun a ha b hb e => ?_⟩
    subst e
    obtain ⟨c, hc, rfl⟩ := List.mem_map.mp ha
    obtain ⟨c', hc', e⟩ := List.mem_map.mp hb
    obtain ⟨o, ho, _⟩ := S.held c' hc'
    have := S'.new c hc
    rw [← e, ho] at this; cases this
section
variable {w : World} {A : Around} {E : Value → Shared → Prop} {s : Shared} {hp : Heap} {gn : Array GenState} {dr : Drawn} {tk : Nat} {os : OsState} {env : Env} {h₀ : Heap} {cs : List Cell} {Q : Value → Shared → Prop} {pos : Pos} {R : Result → Shared → Prop}
theorem i_ne {a b : Int} {t u : Tok} (h : Q (.bool (a != b)) s) : W w A (compareOp .NotEq (.int a t) (.int b u)) Q E s := ⟨PyProof.Rows.ne_int h⟩
theorem t_and {x y : Expr} {whole : Sem Value} {Q : Bool → Shared → Prop} (h : W w A (isTrue x env (eval x env)) (fun b s₁ => if b = true then W w A (isTrue y env (eval y env)) Q E s₁ else Q false s₁) E s) : W w A (isTrue (.BoolOp .And [x, y] pos) env whole) Q E s :=
  ⟨wpAny_isTrue_BoolOp (wpAny_allTrue_And_cons (um h fun b s₁ h₁ => by
    cases b with
    | false => exact h₁
    | true => exact wpAny_allTrue_And_cons (um h₁ fun b s₂ h₂ => by
        cases b with
        | false => exact h₂
        | true => exact wpAny_allTrue_And_nil h₂)))⟩
theorem e_smeth {o : Expr} {name : PySem.Str} {apos : Pos} {args : List Expr} (h : W w A (eval o env) (fun ov s₁ => W w A (getAttr ov name true) (fun f s₂ => W w A (callWith pos f [] (backTo pos (starEach args env)) []) Q E s₂) E s₁) E s)
    (he : eval (.Call (.Attribute o name apos) args [] pos) env = (do
      let ov ← eval o env
      standAt apos.atName
      let (f, first) ← holding [ov] (do pure (← getAttr ov name true, []))
      callWith pos f first (backTo pos (starEach args env)) []) := by rfl) : W w A (eval (.Call (.Attribute o name apos) args [] pos) env) Q E s := by
  constructor
  rw [he]
  exact wpAny_bind (um h fun _ _ h₁ => wpAny_bind (wpAny_standAt (wpAny_bind (wpAny_holding (wpAny_bind (um h₁ fun _ _ h₂ => wpAny_pure h₂.out))))))
theorem cw_mstar {q f self : Addr} {e : Expr} {rest : List Expr} (hf : fnIn (KH w) f = true) (h : W w A (spliced (backTo pos (starEach (e :: rest) env))) (fun vs s₁ => (s₁.heap.get? q = some (methodObj (.ref f) (.ref self)) ∧ (KH w).In s₁.heap) ∧ C w A (.call (.ref f) ⟨.ref self :: vs, []⟩) (RV Q E) s₁) E s)
    (he : starEach (e :: rest) env = (false, eval e env) :: starEach rest env := by rfl) (hst : (backTo pos (starEach rest env)).any (·.1) = true := by rfl) :
    W w A (callWith pos (.ref q) [] (backTo pos (starEach (e :: rest) env)) []) Q E s := by
  constructor
  have h' := um h (Q' := fun vs s₁ => MethP (KH w) q f (.ref self) s₁.heap ∧ wpAny (model PR w) A (call (.ref q) ([] ++ vs)) Q E s₁) fun vs s₁ x => ⟨x.1, wpAny_call (method_call x.1.1 (codeAny_mono x.2.out fun r s' z => by
    cases r with
    | ok f => cases f <;> exact z
    | error e => exact z))⟩
  rw [he] at h' ⊢
  exact ks_call (by show (false || (backTo pos (starEach rest env)).any (·.1)) = true; rw [hst]; rfl) (keeps_M hf) (evalArgs_plain h')
theorem cw_mstar1 {q f self : Addr} {e : Expr} {p : Pos} (hf : fnIn (KH w) f = true) (h : W w A (eval e env) (fun v s₁ => Star w A v (fun vs s₂ => (s₂.heap.get? q = some (methodObj (.ref f) (.ref self)) ∧ (KH w).In s₂.heap) ∧ C w A (.call (.ref f) ⟨.ref self :: vs, []⟩) (RV Q E) s₂) E s₁) E s)
    (he : starEach [.Starred e p] env = [(true, eval e env)] := by rfl) : W w A (callWith pos (.ref q) [] (backTo pos (starEach [.Starred e p] env)) []) Q E s := by
  constructor
  rw [he]
  refine ks_call (P := MethP (KH w) q f (.ref self)) rfl (keeps_M hf) (ks_lone (um h fun v s₁ h₁ => ?_))
  exact wpAny_mono h₁.out (fun b s₂ h₂ => ⟨h₂.1, wpAny_mono h₂.2 (fun vs s₃ h₃ => ⟨h₃.1, wpAny_call (method_call h₃.1.1 (codeAny_mono h₃.2.out fun r s' z => by
    cases r with
    | ok f => cases f <;> exact z
    | error e => exact z))⟩) fun _ _ x => x⟩) fun _ _ x => x
/-- reduce(or_, ...) -/
theorem red_or {l : Addr} {vs : List Value} {n : Int} {ns : List Int} {k : Nat} (B : Base w hp) (r : Rm (k + 2) A) (hl : hp.IsList l vs.toArray) (hi : IntsAre vs (n :: ns))
    (h : ∀ h' t' tk', Kp hp h' → R (.ok (.ret (.int (ns.foldl Builtin.bitOr n) t'))) ⟨h', gn, dr, tk', os⟩) : C w A (.call (.ref 150) ⟨[.ref 171, .ref l], []⟩) R ⟨hp, gn, dr, tk, os⟩ := by
  obtain ⟨t, vs', rfl, hi'⟩ := hi.cons_inv
  obtain ⟨ol, el, hol⟩ := hl
  refine reduce_spec1 (k := k + 1) (h₀ := hp) (cs := []) (val := fun d : Int × Tok => .int d.1 d.2) (acc := fun _ => []) (d0 := (n, t)) (J := fun i d => d.1 = (ns.take (i - 1)).foldl Builtin.bitOr n ∧ 1 ≤ i) B (by kernel_rfl) ?_ r hol (.inl el) rfl rfl (St.nil fun _ _ e => e) ⟨rfl, Nat.le_refl _⟩ ?_
  · rintro i ⟨a, ta⟩ x cs' h2 tk2 A' R' r2 hx ⟨ha, hi1⟩ S2 hR
    obtain ⟨j, rfl⟩ : ∃ j, i = j + 1 := ⟨i - 1, by omega⟩
    obtain ⟨p, tp, rfl, hp⟩ := ints_get hi' (by simpa using hx)
    refine or_spec (S2.base B) (r2.le (by omega)) fun h3 t3 tk3 hk3 => hR (_, t3) h3 tk3 ⟨?_, by omega⟩ (S2.keeps hk3)
    have ha : a = (ns.take j).foldl Builtin.bitOr n := ha
    show Builtin.bitOr a p = (ns.take (j + 1)).foldl Builtin.bitOr n
    rw [foldl_take_succ' _ _ _ _ _ hp, ha]
  · rintro ⟨a, ta⟩ h2 tk2 ⟨ha, _⟩ S2
    have : a = ns.foldl Builtin.bitOr n := by
      have ha : a = _ := ha
      rw [ha, List.length_cons, Nat.add_sub_cancel, hi'.length, List.take_length]
    subst this
    exact h _ _ _ S2.keep
end
def orL : List Int → Int
  | [] => 0
  | n :: ns => ns.foldl Builtin.bitOr n
def aheadP (out : List Int) (g : Int) : Int := orL ((places g).map fun i => out.getD i.toNat 0)
def predP (out : List Int) (g h : Int) : Bool := h != g && Builtin.bitAnd (aheadP out h) g != 0
def predsP (gs out : List Int) (g : Int) : List Int := gs.filter (predP out g)
def sortP (gs out : List Int) : List PN := gs.foldl (fun ns g => addP ns g (predsP gs out g)) []
theorem fn181 (w : World) : FnOk w 181 := FnOk.of rfl rfl rfl rfl rfl rfl
theorem getI_map (f : Int → Int) (h : Int) : ∀ {gs : List Int}, h ∈ gs → getI (gs.map fun g => (g, f g)) h = f h
  | g :: gs, hm => by
    by_cases e : g = h
    · subst e; simp [getI]
    · have : h ∈ gs := by rcases List.mem_cons.mp hm with rfl | hm; · exact absurd rfl e
                          · exact hm
      have ih := getI_map f h this
      simpa [getI, e] using ih
theorem putI_map (f : Int → Int) (gs : List Int) (g : Int) (h : g ∉ gs) : putI (gs.map fun g => (g, f g)) g (f g) = (gs ++ [g]).map fun g => (g, f g) := by
  unfold putI
  rw [if_neg]
  · simp
  · simpa using h
structure SrtD where
  g : Option Value
  kvs : List (Int × Value)
  ns : List Nd
theorem lsorter_spec {w : World} {A : Around} {hp : Heap} {gn : Array GenState} {dr : Drawn} {tk : Nat} {os : OsState} {R : Result → Shared → Prop} {ga oa : Addr} {gvs ovs : List Value} {gs out : List Int} {k : Nat}
    (B : Base w hp) (r : Rm (k + 6) A) (hg : hp.IsList ga gvs.toArray) (hgi : IntsAre gvs gs) (ho : hp.IsList oa ovs.toArray) (hoi : IntsAre ovs out) (hol : out.length = 5) (hgl : gs.length ≤ 5) (hnd : gs.Nodup) (hpl : ∀ g ∈ gs, places g ≠ [])
    (h : ∀ x dx D t t' ns h' tk', ns.map Nd.pu = sortP gs out → St hp (sorC w x dx D .none (.int 0 t) (.int 0 t') ns) h' → R (.ok (.ret (.ref x))) ⟨h', gn, dr, tk', os⟩) :
    C w A (.call (.ref 181) ⟨[.ref ga, .ref oa], []⟩) R ⟨hp, gn, dr, tk, os⟩ := by
  obtain ⟨og, eg, hog⟩ := hg
  obtain ⟨oo, eo, hoo⟩ := ho
  have hlen := hgi.length
  refine callCn (k := k + 5) (binds := [(.ofString "groups", .ref ga), (.ofString "out", .ref oa)]) (fn181 w) B (St.nil fun _ _ e => e) r (by kernel_rfl) (by kernel_rfl) (by kernel_rfl) [.ofString "sorter"] fun L h1 tk1 S1 hn1 hk1 => ?_
  have r' := r.deeper (envC w 181 L)
  have S1 : St hp [(L, LocP [(.ofString "groups", some (.ref ga)), (.ofString "sorter", none)]), (L + 3, CellP none), (L + 2, CellP none), (L + 1, CellP (some (.ref oa)))] h1 := S1
  refine xs_assign (e_dict0 (s_cel (i := 3) (c := L + 2) (S1.push (P := DctP w []) (o := { cls := .type "dict", data := .dict #[] }) dct_nil) rfl (fun h2 S2 => ?_) rfl))
  generalize h1.objs.size = da at S2
  have S2 := S2.perm (cs' := [(L, LocP [(.ofString "groups", some (.ref ga)), (.ofString "sorter", none)]), (L + 3, CellP none), (L + 2, CellP (some (.ref da))), (L + 1, CellP (some (.ref oa))), (da, DctP w [])]) (List.perm_append_comm (l₁ := [_]) (l₂ := [_, _, _, _]))
  refine xs_for (e_loc S2 rfl ?_)
  refine for_list (L := L) (fun d : SrtD => [(.ofString "groups", some (.ref ga)), (.ofString "sorter", none)])
    (fun d => [(L + 3, CellP d.g), (L + 2, CellP (some (.ref da))), (L + 1, CellP (some (.ref oa))), (da, DctP w d.kvs)])
    (fun i d => IM d.kvs ((gs.take i).map fun g => (g, aheadP out g)) ∧ i ≤ gs.length) ⟨none, [], []⟩ (items := gvs) (ol := og) r'.hd hog (.inl eg) S2 ⟨.nil, Nat.zero_le _⟩ ?_ ?_
  · rintro i ⟨dg, kvs, dn⟩ v h3 tk3 I oI hvi ⟨hIM, hile⟩ S3
    obtain ⟨g, tg, rfl, hgi'⟩ := ints_get hgi hvi
    have hilt := (List.getElem?_eq_some_iff.mp hgi').1
    refine a_name (s_cel (i := 2) (c := L + 3) S3 rfl (fun h4 S4 => ?_) rfl)
    have S4 : St hp [(L, LocP [(.ofString "groups", some (.ref ga)), (.ofString "sorter", none)]), (I, fun q => q = oI), (L + 3, CellP (some (.int g tg))), (L + 2, CellP (some (.ref da))), (L + 1, CellP (some (.ref oa))), (da, DctP w kvs)] h4 := S4
    have hcg : h4.IsCell (L + 3) (some (.int g tg)) := S4.at (.tail _ (.tail _ (.head _)))
    have hco : h4.IsCell (L + 1) (some (.ref oa)) := S4.at (.tail _ (.tail _ (.tail _ (.tail _ (.head _)))))
    refine xs_assign_sub (e_call (e_glob B S4 rfl (cw_ref (by kernel_rfl) (a_cons (e_glob B S4 rfl (a_cons ?_))))))
    refine e_comp (fun _ => true) (fun v y => ∃ t, y = .int (out.getD (numOf v).toNat 0) t) [(.ofString "out", L + 1)] ?_
    refine e_call (e_glob B S4 rfl (cw_ref (by kernel_rfl) (a_cons (e_cel hcg (a_nil ⟨S4.base B, ?_⟩) rfl))))
    refine places_spec (S4.base B) (r'.le (by omega)) fun Dp h5 tk5 pvs hk5 hn5 hl5 hpi => ?_
    refine comp_list (items := pvs) r'.hd (isList_of hl5) (by rw [hpi.length, sizeLine_eq]; unfold places; exact Nat.le_trans (List.length_filter_le _ _) (by simp [upZ])) (fun _ _ _ _ _ => t_nil ⟨rfl, _, _, rfl, fun _ _ e => e⟩) ?_ ?_
    · intro C v s₃ hv _ S5
      obtain ⟨j, hj⟩ := List.getElem?_of_mem hv
      obtain ⟨p, tp, rfl, hpj⟩ := ints_get hpi hj
      have hp5 : 0 ≤ p ∧ p < 5 := by
        have := List.mem_of_getElem? hpj
        unfold places at this
        have := (List.mem_filter.mp this).1
        simp only [upZ, List.mem_map, List.mem_range] at this
        obtain ⟨a, ha, rfl⟩ := this; omega
      have hc5 : s₃.heap.IsCell (L + 1) (some (.ref oa)) := (hco.keeps hk5).keeps S5.keep
      have hl : s₃.heap.IsList oa ovs.toArray := ⟨oo, S5.keep _ _ (hk5 _ _ (S4.keep _ _ eo)), hoo⟩
      have hlt : p.toNat < out.length := by rw [hol]; omega
      obtain ⟨to, hto⟩ := hoi.get p.toNat (out.getD p.toNat 0) (by simp [hlt])
      exact e_sub (e_cel hc5 (e_var S5 (sub_list (hp := s₃.heap) (gn := s₃.gens) (dr := s₃.drawn) (tk := s₃.toks) (os := s₃.os) hl hp5.1 (by omega) (x := .int (out.getD p.toNat 0) to) (by simpa using hto) ⟨⟨to, rfl⟩, _, _, rfl, fun _ _ e => e⟩)) rfl)
    · intro Dl h6 tk6 ys hk6 hn6 hl6 hP
      rw [List.filter_eq_self.mpr (fun _ _ => rfl)] at hP
      have hys := ints_map (f := fun i => out.getD i.toNat 0) hpi hP
      have S6 := (S4.keeps (hk5.trans hk6))
      refine a_nil ⟨S6.base B, ?_⟩
      cases hpg : places g with
      | nil => exact absurd hpg (hpl g (List.mem_of_getElem? hgi'))
      | cons p0 ps =>
        rw [hpg] at hys
        refine red_or (k := k + 2) (S6.base B) (r'.le (by omega)) (isList_of hl6) hys fun h7 t7 tk7 hk7 => ?_
        have S7 := S6.keeps hk7
        have hc7 : h7.IsCell (L + 2) (some (.ref da)) := S7.at (.tail _ (.tail _ (.tail _ (.head _))))
        have hg7 : h7.IsCell (L + 3) (some (.int g tg)) := S7.at (.tail _ (.tail _ (.head _)))
        refine e_cel hc7 (e_cel hg7 (set_dict' (i := 5) S7 rfl ?_ fun h8 tk8 S8 => xs_nil ⟨⟨some (.int g tg), _, dn⟩, _, _, rfl, ⟨?_, hilt⟩, S8⟩) rfl) rfl
        · have hh : kvs.length = _ := hIM.length
          rw [List.length_map, List.length_take] at hh
          show kvs.length ≤ _
          rw [sizeLine_eq]; omega
        · have h1 := hIM.put g (aheadP out g) t7
          rw [putI_map] at h1
          · rw [List.take_add_one, hgi']
            have e : aheadP out g = (ps.map fun i => out.getD i.toNat 0).foldl Builtin.bitOr (out.getD p0.toNat 0) := by unfold aheadP; rw [hpg]; rfl
            rw [e] at h1
            exact h1
          · intro hm
            obtain ⟨j, hj⟩ := List.getElem?_of_mem hm
            rw [List.getElem?_take] at hj
            split at hj
            · rename_i hlt
              have := (List.getElem?_inj (i := j) (j := i) (by omega) hnd).mp (hj.trans hgi'.symm)
              omega
            · cases hj
  · rintro ⟨dg, kvs, dn⟩ h3 tk3 ⟨hIM, _⟩ S3
    rw [hlen, List.take_length] at hIM
    have hah : ∀ g ∈ gs, ∃ t, valueAt kvs g = some (.int (aheadP out g) t) := by
      intro g hg
      obtain ⟨v, t, hv⟩ := hIM.some_of (k := g) (by simpa using hg)
      obtain ⟨t9, h9⟩ := hIM.get g 0
      rw [hv, getI_map _ _ hg] at h9
      simp only [Option.getD_some, Value.int.injEq] at h9
      exact ⟨t, by rw [hv, h9.1]⟩
    refine xs_assign (e_call (e_glob B S3 rfl (cw_ref0 (by kernel_rfl) (S3.base B) ?_)))
    refine sorter_spec (k := k + 3) B (r'.le (by omega)) S3 fun x dx D t0 t0' h4 tk4 S4 => ?_
    refine s_loc (S4.perm List.perm_middle) fun h5 tk5 S5 => ?_
    have S5 := S5.perm (cs' := [(L, LocP [(.ofString "groups", some (.ref ga)), (.ofString "sorter", some (.ref x))]), (L + 3, CellP dg), (L + 2, CellP (some (.ref da))), (L + 1, CellP (some (.ref oa))), (da, DctP w kvs)] ++ sorC w x dx D .none (.int 0 t0) (.int 0 t0') []) (List.Perm.cons _ List.perm_append_comm)
    refine xs_for (e_loc S5 rfl ?_)
    refine for_list (L := L) (fun d : SrtD => [(.ofString "groups", some (.ref ga)), (.ofString "sorter", some (.ref x))])
      (fun d => (L + 3, CellP d.g) :: (L + 2, CellP (some (.ref da))) :: (L + 1, CellP (some (.ref oa))) :: (da, DctP w kvs) :: sorC w x dx D .none (.int 0 t0) (.int 0 t0') d.ns)
      (fun i d => d.ns.map Nd.pu = (gs.take i).foldl (fun ns g => addP ns g (predsP gs out g)) [] ∧ d.ns.length ≤ 6 * i ∧ Short (5 * i) d.ns ∧ i ≤ gs.length) ⟨dg, kvs, []⟩ (items := gvs) (ol := og) r'.hd hog (.inl eg) S5 ⟨rfl, Nat.le_refl _, fun _ h => (nomatch h), Nat.zero_le _⟩ ?_ ?_
    · rintro i ⟨dg2, _, ns⟩ v h6 tk6 I oI hvi ⟨hJ, hJl, hJs, hile⟩ S6
      obtain ⟨g, tg, rfl, hgi'⟩ := ints_get hgi hvi
      have hilt := (List.getElem?_eq_some_iff.mp hgi').1
      refine a_name (s_cel (i := 2) (c := L + 3) S6 rfl (fun h7 S7 => ?_) rfl)
      have S7 : St hp ((L, LocP [(.ofString "groups", some (.ref ga)), (.ofString "sorter", some (.ref x))]) :: (I, fun q => q = oI) :: (L + 3, CellP (some (.int g tg))) :: (L + 2, CellP (some (.ref da))) :: (L + 1, CellP (some (.ref oa))) :: (da, DctP w kvs) :: sorC w x dx D .none (.int 0 t0) (.int 0 t0') ns) h7 := S7
      have mS : ∀ c ∈ sorC w x dx D .none (.int 0 t0) (.int 0 t0') ns, c ∈ (L, LocP [(.ofString "groups", some (.ref ga)), (.ofString "sorter", some (.ref x))]) :: (I, fun q => q = oI) :: (L + 3, CellP (some (.int g tg))) :: (L + 2, CellP (some (.ref da))) :: (L + 1, CellP (some (.ref oa))) :: (da, DctP w kvs) :: sorC w x dx D .none (.int 0 t0) (.int 0 t0') ns := fun c hc => .tail _ (.tail _ (.tail _ (.tail _ (.tail _ (.tail _ hc)))))
      refine xs_expr (e_smeth (e_loc S7 rfl (g_bound B S7 (cls137 w) (f := 87) (by kernel_rfl) (by kernel_rfl) (by kernel_rfl) (by kernel_rfl) (mS _ (.head _)) (mS _ (.tail _ (.head _))) rfl fun S8 => ?_)))
      generalize h7.push (methodObj (.ref 87) (.ref x)) = h8 at S8
      generalize h7.objs.size = mq at S8
      have hcg : h8.IsCell (L + 3) (some (.int g tg)) := S8.at (.tail _ (.tail _ (.tail _ (.head _))))
      have hca : h8.IsCell (L + 2) (some (.ref da)) := S8.at (.tail _ (.tail _ (.tail _ (.tail _ (.head _)))))
      have hda : h8.DictOf (intKind PR w) da kvs := dct_of (S8.at (.tail _ (.tail _ (.tail _ (.tail _ (.tail _ (.tail _ (.head _))))))))
      refine cw_mstar (self := x) (f := 87) (by kernel_rfl) (a_cons (e_cel hcg (a_star ?_) rfl))
      refine e_comp (fun v => predP out g (numOf v)) (fun v y => y = v) [(.ofString "g", L + 3), (.ofString "ahead", L + 2)] ?_
      refine e_loc S8.swap rfl ?_
      refine comp_list (items := gvs) r'.hd ⟨og, S8.keep _ _ eg, hog⟩ (by rw [hlen, sizeLine_eq]; omega) ?_ ?_ ?_
      · intro C v s₃ hv S9
        obtain ⟨j, hj⟩ := List.getElem?_of_mem hv
        obtain ⟨p, tp, rfl, hpj⟩ := ints_get hgi hj
        have hcg' := hcg.keeps S9.keep
        have hca' := hca.keeps S9.keep
        have hda' : s₃.heap.DictOf (intKind PR w) da kvs := let ⟨o, e, q⟩ := of_dct hda; dct_of ⟨o, S9.keep _ _ e, q⟩
        obtain ⟨ta, hta⟩ := hah p (List.mem_of_getElem? hpj)
        obtain ⟨h9, g9, d9, tk9, os9⟩ := s₃
        refine t_one (t_and (t_cmp (e_var S9 (e_cel hcg' (i_ne (tr_bool ?_)) rfl))))
        cases hne : (p != g) with
        | false => exact ⟨by simp [predP, hne, numOf], _, _, rfl, fun _ _ e => e⟩
        | true =>
          have B9 := (S8.base B).keeps S9.keep
          refine if_t rfl (t_cmp (e_call (e_glob (S8.base B) S9 rfl (cw_ref (by kernel_rfl) (a_cons (e_sub (e_cel hca' (e_var S9 (sub_dict hda' hta fun tk10 => ?_)) rfl)))))))
          refine a_cons (e_cel hcg' (a_nil ⟨B9, and_spec B9 (r'.le (by omega)) fun h11 t11 tk11 hk11 => ?_⟩) rfl)
          exact e_int fun t12 tk12 => i_ne (tr_bool ⟨by simp [predP, hne, numOf], _, _, rfl, hk11⟩)
      · intro C v s₃ hv _ S9
        exact e_var S9 ⟨rfl, _, _, rfl, fun _ _ e => e⟩
      · intro Dl h9 tk9 ys hk9 hn9 hl9 hP
        rw [ints_paired (fun _ _ e => e) hP] at hl9
        have hps := ints_filter (predP out g) hgi
        have hpl' : (gvs.filter fun v => predP out g (numOf v)).length ≤ 5 := Nat.le_trans (List.length_filter_le _ _) (by omega)
        refine star_list hl9 (by omega) fun h10 hk10 => a_nil ?_
        have S10 := S8.keeps (hk9.trans hk10)
        obtain ⟨om, em, pm⟩ := S10.head
        refine ⟨⟨pm ▸ em, (S10.base B).K⟩, ?_⟩
        rw [List.append_nil]
        have S11 := S10.perm (List.perm_append_comm (l₁ := [_, _, _, _, _, _, _]))
        refine add_spec (k := k + 1) (m := 5 * i) B r' S11 (by simp only at hJl; omega) hJs (by omega) hpl' hps fun ns' h12 tk12 hpu hl12 hs12 S12 => xs_nil ?_
        have hpsl : (predsP gs out g).length ≤ 5 := by unfold predsP; exact Nat.le_trans (List.length_filter_le _ _) hgl
        have S13 := (S12.perm List.perm_append_comm).tail
        refine ⟨⟨some (.int g tg), kvs, ns'⟩, _, _, rfl, ⟨?_, ?_, ?_, hilt⟩, S13⟩
        · rw [foldl_take_succ' _ _ _ _ _ hgi', ← hJ]; exact hpu
        · have hpsl : (gs.filter (predP out g)).length ≤ 5 := hpsl
          simp only at hJl ⊢; omega
        · intro mm hm
          have hpsl : (gs.filter (predP out g)).length ≤ 5 := hpsl
          have := hs12 mm hm; omega
    · rintro ⟨dg2, _, ns⟩ h6 tk6 ⟨hJ, _⟩ S6
      rw [hlen, List.take_length] at hJ
      exact xs_ret (e_loc S6 rfl (h x dx D t0 t0' ns _ _ hJ S6.tail.tail.tail.tail.tail))
end Mine
end TextFL
section TextSLN
open PySem PySem.W PySem.Spec PySem.Calls PyProof.Rows
set_option Elab.async false
set_option maxRecDepth 100000
set_option linter.unusedVariables false
set_option linter.unusedSimpArgs false
namespace Mine
def mwO (it : Addr) : Obj := { cls := .type "method-wrapper", data := .fields #[.builtin "list_iterator.__next__", .ref it] }
theorem ga_it : Slot "list_iterator" "__getattribute__" "object.__getattribute__" :=
  .of (owner := "object") (n := "__getattribute__") (by rw [typeLookup_type, builtinLookup_eq_fast]; kernel_rfl) (by decide +kernel) (by decide +kernel) (by decide +kernel)
    (by first | exact .inl (by decide +kernel) | exact .inr (by decide +kernel)) (by rw [isSubtype_type]; kernel_rfl)
theorem lk_nx : typeLookup (.type "list_iterator") "__next__" = pure (some (.builtin "list_iterator.__next__")) := by rw [typeLookup_type, builtinLookup_eq_fast]; kernel_rfl
theorem lk_ga : typeLookup (.type "list_iterator") "__getattr__" = pure none := by rw [typeLookup_type, builtinLookup_eq_fast]; kernel_rfl
theorem ty_nx : typeOf (.builtin "list_iterator.__next__") = pure (.type "wrapper_descriptor") := by kernel_rfl
theorem slot_wd : Slot "wrapper_descriptor" "__get__" "wrapper_descriptor.__get__" :=
  .of (owner := "wrapper_descriptor") (n := "__get__") (by rw [typeLookup_type, builtinLookup_eq_fast]; kernel_rfl) (by decide +kernel) (by decide +kernel) (by decide +kernel)
    (by first | exact .inl (by decide +kernel) | exact .inr (by decide +kernel)) (by rw [isSubtype_type]; kernel_rfl)
theorem lk_wset : typeLookup (.type "wrapper_descriptor") "__set__" = pure none := by rw [typeLookup_type, builtinLookup_eq_fast]; kernel_rfl
theorem lk_wdel : typeLookup (.type "wrapper_descriptor") "__delete__" = pure none := by rw [typeLookup_type, builtinLookup_eq_fast]; kernel_rfl
theorem entry_wd : entryFor table "wrapper_descriptor.__get__" = some Builtin.«wrapper_descriptor.__get__» := entryFor_of_tree (by kernel_rfl)
theorem args_wd (a b c : Value) : argsOk "wrapper_descriptor.__get__" ⟨[a, b, c], []⟩ := by unfold argsOk; kernel_rfl
theorem entry_oga : entryFor table "object.__getattribute__" = some Builtin.«object.__getattribute__» := entryFor_of_tree (by kernel_rfl)
theorem args_oga (a b : Value) : argsOk "object.__getattribute__" ⟨[a, b], []⟩ := by unfold argsOk; kernel_rfl
section
variable {w : World} {A : Around} {E : Value → Shared → Prop} {s : Shared} {h : Heap} {g : Array GenState} {d : Drawn} {t : Nat} {os : OsState} {Q : Value → Shared → Prop} {it : Addr} {o : Obj} {R : Result → Shared → Prop}
theorem wd_get (ho : h.get? it = some o) (hc : o.cls = .type "list_iterator") (hq : R (.ok (.ret (.ref h.objs.size))) ⟨h.push (mwO it), g, d, t, os⟩) :
    codeAny (model PR w) A (.call (.builtin "wrapper_descriptor.__get__") ⟨[.builtin "list_iterator.__next__", .ref it, .type "list_iterator"], []⟩) R ⟨h, g, d, t, os⟩ := by
  have hT : (⟨h, g, d, t, os⟩ : Shared).TypeIs (.ref it) "list_iterator" := ⟨_, ho, hc⟩
  have hT5 : (⟨h, g, d, t, os⟩ : Shared).TypeIs (.builtin "list_iterator.__next__") "wrapper_descriptor" := ty_nx
  refine codeAny_call_builtin slot_wd.plain entry_wd (slot_wd.check _ _ _ _ _ _ _ _ hT5 (args_wd _ _ _) ?_)
  have f8 : isSubtype (.type "list_iterator") (.type (".".intercalate ("list_iterator.__next__".cutAt '.').dropLast)) = pure true := by
    have e0 : "list_iterator.__next__".cutAt '.' = ["list_iterator", "__next__"] := by decide +kernel
    rw [e0]
    show isSubtype (.type "list_iterator") (.type "list_iterator") = pure true
    rw [isSubtype_type]; kernel_rfl
  repeat (any_goals (first | assumption | wp_step))
theorem oga_it {tk : Tok} {l : Addr} (ho : h.get? it = some { cls := .type "list_iterator", data := .fields #[.ref l, .int 0 0] }) (hq : R (.ok (.ret (.ref h.objs.size))) ⟨h.push (mwO it), g, d, t, os⟩) :
    codeAny (model PR w) A (.call (.builtin "object.__getattribute__") ⟨[.ref it, .str "__next__" tk], []⟩) R ⟨h, g, d, t, os⟩ := by
  have hT : (⟨h, g, d, t, os⟩ : Shared).TypeIs (.ref it) "list_iterator" := ⟨_, ho, rfl⟩
  have f3 : Looks (model PR w) h (typeLookup (.type "list_iterator") "__next__") _ := Looks.of_pure lk_nx
  have f6 : Looks (model PR w) h (specialOf (.builtin "list_iterator.__next__") "__get__") _ := (Looks.of_pure ty_nx).andThen (Looks.of_pure slot_wd.lookup)
  have f7 : Looks (model PR w) h (specialOf (.builtin "list_iterator.__next__") "__set__") _ := (Looks.of_pure ty_nx).andThen (Looks.of_pure lk_wset)
  have f8 : Looks (model PR w) h (specialOf (.builtin "list_iterator.__next__") "__delete__") _ := (Looks.of_pure ty_nx).andThen (Looks.of_pure lk_wdel)
  refine codeAny_call_builtin ga_it.plain entry_oga (ga_it.check _ _ _ _ _ _ _ _ hT (args_oga _ _) ?_)
  repeat (first | with_reducible refine wpAny_call ?_ | lk)
  refine wd_get ho rfl ?_
  exact wpAny_pure hq
theorem g_next {l : Addr} (ho : h.get? it = some { cls := .type "list_iterator", data := .fields #[.ref l, .int 0 0] }) (hq : Q (.ref h.objs.size) ⟨h.push (mwO it), g, d, t + 1, os⟩) :
    W w A (getAttr (.ref it) "__next__" true) Q E ⟨h, g, d, t, os⟩ := by
  constructor
  have f0 : Looks (model PR w) h (typeOf (.ref it)) (.type "list_iterator") := (Looks.ld ho).andThen .now
  have f1 : Looks (model PR w) h (typeLookup (.type "list_iterator") "__getattribute__") _ := Looks.of_pure ga_it.lookup
  have f2 : Looks (model PR w) h (typeLookup (.type "list_iterator") "__getattr__") _ := Looks.of_pure lk_ga
  unfold getAttr getAttrBy
  refine wpAny_bind (wpAny_mkText (wpAny_holding ?_))
  repeat (first | with_reducible refine wpAny_attempt ?_ | (rw [ga_it.bind]; refine wpAny_pure ?_) | with_reducible refine wpAny_call ?_ | with_reducible refine oga_it ho ?_ | lk)
  exact oga_it ho (handed_on rfl hq)
end
end Mine
end TextSLN
section TextSLO
open PySem PySem.W PySem.Spec PySem.Calls PyProof.Rows
set_option Elab.async false
set_option maxRecDepth 100000
set_option linter.unusedVariables false
set_option linter.unusedSimpArgs false
namespace Mine
def MwP (it : Addr) : Obj → Prop := fun o => o = mwO it
/-- a new exception in flight -/
def ExcP (cls : Value) : Obj → Prop := fun o => o.cls = cls ∧ ∃ vs, o.data = .fields vs ∧ vs[1]? = some .none
section
variable {w : World} {A : Around} {E : Value → Shared → Prop} {s : Shared} {hp : Heap} {gn : Array GenState} {dr : Drawn} {tk : Nat} {os : OsState} {env : Env} {pos : Pos} {Q : Value → Shared → Prop} {q it l : Addr} {R : Result → Shared → Prop} {h₀ : Heap} {cs : List Cell}
theorem cw_mw0 (hq : s.heap.get? q = some (mwO it)) (h : C w A (.call (.ref q) ⟨[], []⟩) (RV Q E) s) : W w A (callWith pos (.ref q) [] (backTo pos (starEach [] env)) []) Q E s := by
  refine ⟨callWith_of (P := fun h => h.get? q = some (mwO it)) rfl (fun h X => ⟨.machine, .inr (.inl rfl), ?_⟩) (evalArgs_nil3 ⟨hq, (w_call h).out⟩)⟩
  exact (Looks.ld (part := none) X).andThen (Looks.of_pure (by kernel_rfl))
theorem mw_check (it : Addr) : checkBoundCall "list_iterator.__next__" ⟨[.ref it], []⟩ = pure () := by kernel_rfl
theorem mw_open (hq : hp.get? q = some (mwO it)) (h : wpAny (model PR w) A.in1 (Builtin.«list_iterator.__next__» ⟨[.ref it], []⟩) (fun fin s' => match fin with | .done f => R (.ok f) s' | .again c' => c'.quiet = true ∧ codeAny (model PR w) A c' R s') (fun e s' => R (.error e) s') ⟨hp, gn, dr, tk, os⟩) :
    C w A (.call (.ref q) ⟨[], []⟩) R ⟨hp, gn, dr, tk, os⟩ := by
  refine ⟨codeAny_of_tree ?_⟩
  show wpAny _ _ (callAny (.ref q) _) _ _ _
  refine nd_load hq ?_
  show wpAny _ _ (checkBoundCall "list_iterator.__next__" ⟨[.ref it], []⟩ >>= fun _ => again (.builtin "list_iterator.__next__" ⟨[.ref it], []⟩)) _ _ _
  rw [mw_check]
  refine wpAny_bind (wpAny_pure (wpAny_pure ⟨Code.quiet_builtin _ (by decide +kernel), codeAny_builtin entry_listiter_next h⟩))
theorem mw_some {i : Nat} {items : Array Value} {x : Value} (hq : hp.get? q = some (mwO it)) (hit : hp.IsListIter it l i) (hl : hp.IsList l items) (hx : items[i]? = some x)
    (h : ∀ h', h'.IsListIter it l (i + 1) → Heap.SameBut it hp h' → R (.ok (.ret x)) ⟨h', gn, dr, tk, os⟩) : C w A (.call (.ref q) ⟨[], []⟩) R ⟨hp, gn, dr, tk, os⟩ := by
  refine mw_open hq ?_
  obtain ⟨o, ho, hc, hd⟩ := id hit
  obtain ⟨ol, hol, _, nl, hdl⟩ := hl
  show wpAny _ _ (field (.ref it) 0 >>= _) _ _ _
  refine wpAny_bind (wpAny_field ho hd (x := .ref l) rfl ?_)
  show wpAny _ _ (if (Value.ref l == Value.none) = true then _ else _) _ _ _
  rw [if_neg (show ¬ ((Value.ref l == Value.none) = true) from Bool.false_ne_true)]
  show wpAny _ _ (field (.ref it) 1 >>= _) _ _ _
  refine wpAny_bind (wpAny_field ho hd (x := .int i 0) rfl ?_)
  show wpAny _ _ (seqItems? (.ref l) >>= _) _ _ _
  refine wpAny_bind (wpAny_seqItems hol hdl ?_)
  simp only [Int.toNat_natCast, hx]
  refine wpAny_bind (wpAny_setField ho hd (by simp) (wpAny_pure (h _ ?_ (Heap.SameBut.update ..))))
  exact ⟨_, Heap.get?_update_self _ ho (Obj.isFreed_of_fields (Obj.data_mapFields hd _)), (Obj.cls_mapFields ..).trans hc, by
    rw [Obj.data_mapFields hd]; simp [rawInt]⟩
theorem mw_none {i : Nat} {items : Array Value} (hh : A.handled = none) (hq : hp.get? q = some (mwO it)) (hit : hp.IsListIter it l i) (hl : hp.IsList l items) (hx : items[i]? = none)
    (h : ∀ e h' , hp.get? e = none → (∃ o, h'.get? e = some o ∧ ExcP (.type "StopIteration") o) → (∀ b o, b ≠ it → hp.get? b = some o → h'.get? b = some o) → (∃ o, h'.get? it = some o) → R (.error (.ref e)) ⟨h', gn, dr, tk, os⟩) :
    C w A (.call (.ref q) ⟨[], []⟩) R ⟨hp, gn, dr, tk, os⟩ := by
  refine mw_open hq ?_
  obtain ⟨o, ho, hc, hd⟩ := id hit
  obtain ⟨ol, hol, _, nl, hdl⟩ := hl
  show wpAny _ _ (field (.ref it) 0 >>= _) _ _ _
  refine wpAny_bind (wpAny_field ho hd (x := .ref l) rfl ?_)
  show wpAny _ _ (if (Value.ref l == Value.none) = true then _ else _) _ _ _
  rw [if_neg (show ¬ ((Value.ref l == Value.none) = true) from Bool.false_ne_true)]
  show wpAny _ _ (field (.ref it) 1 >>= _) _ _ _
  refine wpAny_bind (wpAny_field ho hd (x := .int i 0) rfl ?_)
  show wpAny _ _ (seqItems? (.ref l) >>= _) _ _ _
  refine wpAny_bind (wpAny_seqItems hol hdl ?_)
  simp only [Int.toNat_natCast, hx]
  refine wpAny_bind (wpAny_rule (wpAny_bind (wpAny_setField ho hd (by simp) ?_)))
  show wpAny _ _ (newExc (.type "StopIteration") [] >>= _) _ _ _
  refine wpAny_bind ?_
  simp only [newExc, newTuple]
  refine wpAny_bind (wpAny_newObj_type ?_ (by size_fits))
  refine wpAny_bind (m := firstArgMember _ _) (wpAny_of_eq (a := Value.none) (by first | rfl | (simp only [firstArgMember]; rfl)) ?_)
  refine wpAny_newObj_type ?_ (by size_fits)
  simp only [raiseNew]
  refine wpAny_bind (wpAny_handled ?_)
  rw [show A.in1.handled = none from hh]
  refine wpAny_bind (wpAny_pure (wpAny_throw ?_))
  have hk : ∀ b o, b ≠ it → hp.get? b = some o → ((hp.update it (Obj.mapFields (·.setIfInBounds 0 Value.none))).get? b = some o) := fun b o hb e => (Heap.get?_update_other _ _ (Ne.symm hb)).trans e
  refine h _ _ ?_ ⟨_, Heap.get?_push_size _ rfl, rfl, _, rfl, rfl⟩ (fun b o hb e => Heap.get?_push_of_some _ (Heap.get?_push_of_some _ (hk b o hb e))) ?_
  · exact Heap.get?_none_of_le (by simp)
  · exact ⟨_, Heap.get?_push_of_some _ (Heap.get?_push_of_some _ (Heap.get?_update_self _ ho (Obj.isFreed_of_fields (Obj.data_mapFields hd _))))⟩
/-- the frames around -/
structure Frs (A : Around) (fr : List Env) (Ls : List Addr) : Prop where
  all : A.frames = some fr
  ls : fr.filterMap (·.frame) = Ls
  ok : ∀ e ∈ fr, e.scope.kind ≠ .module ∧ ∃ L, e.frame = some L
def FrC (Ls : List Addr) (cs : List Cell) : Prop := ∀ L ∈ Ls, ∃ l, (L, LocP l) ∈ cs
theorem Frs.fun {fr : List Env} {Ls : List Addr} (F : Frs A fr Ls) (S : St h₀ cs hp) (hc : FrC Ls cs) : hp.FunFrames h₀ fr := by
  obtain ⟨_, h2, h3⟩ := F
  have : ∀ fr : List Env, (∀ L ∈ fr.filterMap (·.frame), L ∈ Ls) → (∀ e ∈ fr, e.scope.kind ≠ .module ∧ ∃ L, e.frame = some L) → hp.FunFrames h₀ fr := by
    intro fr
    induction fr with
    | nil => intro _ _; trivial
    | cons e fr ih =>
      intro hL hk
      obtain ⟨hk1, L, hL1⟩ := hk e (.head _)
      obtain ⟨lo, hm⟩ := hc L (hL L (by rw [List.filterMap_cons, hL1]; exact .head _))
      obtain ⟨o, ho, es, ep, hd, _⟩ := S.at hm
      refine ⟨hk1, ⟨L, o, hL1, S.new _ hm, ho, fun vs q => by rw [hd] at q; cases q⟩, ih (fun L' h' => hL L' ?_) fun e' he' => hk e' (.tail _ he')⟩
      rw [List.filterMap_cons, hL1]; exact .tail _ h'
  exact this fr (fun L hL => h2 ▸ hL) h3
theorem St.slots {Ls : List Addr} {h' : Heap} (S : St h₀ cs hp) (hc : FrC Ls cs) (hs : Heap.SlotsOnly Ls hp h') : St h₀ cs h' := by
  refine ⟨fun b o e => ?_, fun c hcm => ?_, S.new, S.nd⟩
  · rw [hs.2.1 b fun hm => ?_]
    · exact S.keep b o e
    · obtain ⟨lo, hm'⟩ := hc b hm
      have := S.new _ hm'
      rw [e] at this; cases this
  · obtain ⟨o, ho, hP⟩ := S.held c hcm
    by_cases hm : c.1 ∈ Ls
    · obtain ⟨lo, hm'⟩ := hc _ hm
      have he : c = (c.1, LocP lo) := by
        obtain ⟨i, hi, e1⟩ := List.getElem_of_mem hcm
        obtain ⟨j, hj, e2⟩ := List.getElem_of_mem hm'
        have hij : i = j := by
          refine (List.getElem_inj (i := i) (j := j) (h₀ := by simpa using hi) (h₁ := by simpa using hj) S.nd).mp ?_
          simp only [List.getElem_map, e1, e2]
        subst hij
        rw [← e1, e2]
      obtain ⟨sl, hsl⟩ := hs.2.2 _ o ho
      refine ⟨_, hsl, ?_⟩
      rw [he] at hP ⊢
      obtain ⟨es, ep, hd, r⟩ := hP
      exact ⟨es, ep, hd, r⟩
    · exact ⟨o, (hs.2.1 _ hm).trans ho, hP⟩
theorem St.got {a : Addr} {oo : Obj} (S : St h₀ ((a, fun o => o = oo) :: cs) hp) : hp.get? a = some oo := let ⟨_, e, p⟩ := S.head; p ▸ e
theorem note_new {fr : List Env} {Ls : List Addr} {L e : Addr} {oe : Obj} {vs : Array Value} {Q : Unit → Shared → Prop}
    (F : Frs A (env :: fr) Ls) (hf : env.frame = some L) (S : St h₀ ((e, fun o => o = oe) :: cs) hp) (hc : FrC Ls cs) (hd : oe.data = .fields vs) (h1 : vs[1]? = some .none)
    (h : ∀ h' T oT oe', St h₀ ((e, fun o => o = oe') :: cs) h' → oe'.cls = oe.cls → (∃ vs', oe'.data = .fields vs' ∧ vs'[1]? = some (.ref T) ∧ ∀ i, i ≠ 1 → vs'[i]? = vs[i]?) → hp.get? T = none → h'.get? T = some oT → (∃ ts, oT.data = .fields ts ∧ 3 < ts.size) → Q () ⟨h', gn, dr, tk, os⟩) :
    wpAny (model PR w) A (noteFrame (.ref e) env) Q E ⟨hp, gn, dr, tk, os⟩ := by
  have hsz : 1 < vs.size := (Array.getElem?_eq_some_iff.mp h1).1
  have he := S.got
  have hc' : FrC Ls ((e, fun o => o = oe) :: cs) := fun L hL => let ⟨l, hm⟩ := hc L hL; ⟨l, .tail _ hm⟩
  unfold noteFrame
  simp only [hf]
  refine wpAny_bind (wpAny_field he hd h1 ?_)
  rw [if_neg (by decide)]
  refine wpAny_bind (wpAny_frameOf_fun F.all (F.fun S hc') hf fun h₁ hs₁ => ?_)
  rw [F.ls] at hs₁
  have S1 := S.slots hc' hs₁
  have he₁ := S1.got
  refine wpAny_bind (wpAny_entryPlaceOf fun pl hpl => ?_)
  unfold EntryCells.newEntry newFields
  refine wpAny_bind (wpAny_newObj_type ?_ (hpl.sizeOk5 _ _ _ _ _))
  have S2 := S1.keeps (h' := h₁.push { cls := .type "traceback", dict := none, data := .fields ([Value.none, .ref L, .none, rawInt L, .none] ++ (if pl.isEmpty then List.replicate 6 Value.none else pl)).toArray }) fun b o e => Heap.get?_push_of_some _ e
  have he₂ := S2.got
  refine wpAny_setField he₂ hd hsz ?_
  have hTe : h₁.objs.size ≠ e := Nat.ne_of_gt (Heap.lt_size he₁)
  have hd₃ := Obj.data_mapFields hd (·.setIfInBounds 1 (Value.ref h₁.objs.size))
  refine h _ h₁.objs.size _ _ (S2.upd0 (Heap.SameBut.update ..) ⟨_, Heap.get?_update_self _ he₂ (Obj.isFreed_of_fields hd₃), rfl⟩) (Obj.cls_mapFields _ _) ⟨_, hd₃, by simp [hsz], fun i hi => ?_⟩ (Heap.get?_none_of_le (by rw [hs₁.1]; exact Nat.le_refl _))
    ((Heap.get?_update_other _ _ (Ne.symm hTe)).trans (Heap.get?_push_size h₁ rfl)) ⟨_, rfl, by simp only [List.size_toArray, List.length_append, List.length_cons, List.length_nil]; omega⟩
  rw [Array.getElem?_setIfInBounds_ne (Ne.symm hi)]
/-- a try that may catch a StopIteration -/
theorem xs_tryS {fr : List Env} {Ls : List Addr} {L : Addr} {t : Expr} {body suite rest : List Stmt} {b₀ : Stmt} {hpos : Pos} {Q : Flow → Shared → Prop}
    (F : Frs A (env :: fr) Ls) (hf : env.frame = some L) (hc : FrC Ls cs)
    (h : W w A (execs body env) (fun f s₁ => Nx w A rest env Q E f s₁) (fun ev s₁ => ∃ e h₁ tk₁, ev = .ref e ∧ s₁ = ⟨h₁, gn, dr, tk₁, os⟩ ∧ St h₀ ((e, ExcP (.type "StopIteration")) :: cs) h₁) s)
    (ht : ∀ A' h tk, St h₀ cs h → W w A' (eval t env) (fun c s₁ => c = .type "StopIteration" ∧ s₁ = ⟨h, gn, dr, tk, os⟩) No ⟨h, gn, dr, tk, os⟩)
    (hs : ∀ e h tk, St h₀ cs h → W w (A.mark (some (.ref e))) (execs (b₀ :: suite) env) (Nx w A rest env Q E) No ⟨h, gn, dr, tk, os⟩) :
    W w A (execs (.Try body [.ExceptHandler (some t) none (b₀ :: suite) hpos] [] [] pos :: rest) env) Q E s := by
  refine xs_cons ⟨wpAny_Try_except (wpAny_mono h.out (fun f s₁ h₁ => ?_) fun ev s₁ h₁ => ?_)⟩
  · cases f with
    | next => exact wpAny_execs_nil h₁
    | _ => exact h₁
  · obtain ⟨e, h₁, tk₁, rfl, rfl, S⟩ := h₁
    obtain ⟨oe, he, hcl, vs, hd, h1⟩ := S.head
    have S0 := S.upd0 (P' := fun o => o = oe) ⟨rfl, fun _ _ => rfl⟩ ⟨oe, he, rfl⟩
    refine note_new F hf S0 hc hd h1 fun h₂ T oT oe' S2 hcl' ⟨vs', hd', h1', _⟩ hTn hT ⟨ts, hdt, hsz⟩ => ?_
    have hTe : T ≠ e := by rintro rfl; rw [he] at hTn; cases hTn
    have hkT : ∀ (h : Heap), (∀ c ∈ (e, fun o => o = oe') :: cs, c.1 ≠ T) := fun _ c hcm q => by
      rcases List.mem_cons.mp hcm with rfl | hcm
      · exact hTe q.symm
      · obtain ⟨o, ho, _⟩ := S.held c (.tail _ hcm)
        rw [q, hTn] at ho; cases ho
    have hT0 : h₀.get? T = none := by
      cases z : h₀.get? T with
      | none => rfl
      | some o => have := S.keep _ _ z; rw [hTn] at this; cases this
    have upd : ∀ h (f : Obj → Obj), St h₀ ((e, fun o => o = oe') :: cs) h → St h₀ ((e, fun o => o = oe') :: cs) (h.update T f) := fun h f S3 =>
      ⟨fun b o hb => (Heap.get?_update_other _ _ (fun q => by rw [← q, hT0] at hb; cases hb)).trans (S3.keep b o hb), fun c hcm => let ⟨o, ho, p⟩ := S3.held c hcm; ⟨o, (Heap.get?_update_other _ _ (Ne.symm (hkT h c hcm))).trans ho, p⟩, S3.new, S3.nd⟩
    have he2 := S2.got
    refine wpAny_setFlight_none he2 hd' h1' hT hdt hsz ?_
    have S3 := upd _ (Obj.mapFields (·.setIfInBounds 3 .none)) S2
    have he3 := S3.got
    have hT3 : (h₂.update T (Obj.mapFields (·.setIfInBounds 3 .none))).get? T = some (oT.mapFields (·.setIfInBounds 3 .none)) := Heap.get?_update_self _ hT (Obj.isFreed_of_fields (Obj.data_mapFields hdt _))
    refine wpAny_handleBy_builtin (X := "StopIteration") (T := "StopIteration") (b := true) owsi_raise.isExc (by kernel_rfl) owsi_facts.sub (wpAny_mono (ht _ _ _ S3.tail).out (fun c s₂ h₂ => ?_) fun _ _ x => x.elim)
    obtain ⟨rfl, rfl⟩ := h₂
    refine ⟨rfl, ⟨_, he3, hcl'.trans hcl⟩, ?_⟩
    simp only [if_true]
    refine wpAny_setFlight_none he3 hd' h1' hT3 (Obj.data_mapFields hdt _) (by simpa using hsz) ?_
    exact wpAny_mono (hs e _ _ (upd _ (Obj.mapFields (·.setIfInBounds 3 .none)) S3).tail).out (fun f s₃ h₃ => by cases f <;> first | exact h₃.out | exact h₃) fun _ _ x => x.elim
end
end Mine
end TextSLO
section TextSLP
open PySem PySem.W PySem.Spec PySem.Calls PyProof.Rows
set_option Elab.async false
set_option maxRecDepth 100000
set_option linter.unusedVariables false
set_option linter.unusedSimpArgs false
namespace Mine
def SetP (w : World) (S : Int → Bool) (n : Nat) : Obj → Prop := fun o => ∃ h a, h.get? a = some o ∧ Heap.SetOf (intKind PR w) h a S n
theorem set_of {w : World} {h : Heap} {a : Addr} {S : Int → Bool} {n : Nat} (x : ∃ o, h.get? a = some o ∧ SetP w S n o) : h.SetOf (intKind PR w) a S n := by
  obtain ⟨o, e, h1, a1, e1, o', es, ep, t, e2, r⟩ := x
  rw [e1] at e2; cases e2
  exact ⟨o, es, ep, t, e, r⟩
theorem of_set {w : World} {h : Heap} {a : Addr} {S : Int → Bool} {n : Nat} (x : h.SetOf (intKind PR w) a S n) : ∃ o, h.get? a = some o ∧ SetP w S n o := by
  obtain ⟨o, es, ep, t, e2, r⟩ := id x
  exact ⟨o, e2, h, a, e2, x⟩
section
variable {w : World} {A : Around} {E : Value → Shared → Prop} {s : Shared} {hp : Heap} {gn : Array GenState} {dr : Drawn} {tk : Nat} {os : OsState} {env : Env} {h₀ : Heap} {cs pre post : List Cell} {Q : Value → Shared → Prop} {pos : Pos} {a d l b : Addr} {F : Int → Bool} {n : Nat} {k : Int} {t : Tok} {kvs : List (Int × Value)} {vs ws : List Value}
theorem b_set (S : St h₀ cs hp) (h : ∀ h', St h₀ ((hp.objs.size, SetP w (fun _ => false) 0) :: cs) h' → Q (.ref hp.objs.size) ⟨h', gn, dr, tk, os⟩) : W w A (call (.type "set") []) Q E ⟨hp, gn, dr, tk, os⟩ := by
  refine ⟨call_set_0 fun led => h _ ?_⟩
  have hset : (hp.push { cls := .type "set", dict := none, data := .set #[] 0 (.fresh 0 0 led) }).SetOf (intKind PR w) hp.objs.size (fun _ => false) 0 :=
    ⟨_, #[], 0, _, Heap.get?_push_size _ rfl, ⟨rfl, rfl, rfl⟩, rfl, fun e he => by simp at he, fun k => by simp, by decide, by rfl, rfl⟩
  obtain ⟨o, e, p⟩ := of_set hset
  exact S.add (fun _ _ e => Heap.get?_push_of_some _ e) (get?_size_none _) e p
theorem in_set (hS : hp.SetOf (intKind PR w) a F n) (h : ∀ tk', Q (.bool (F k)) ⟨hp, gn, dr, tk', os⟩) : W w A (compareOp .In (.int k t) (.ref a)) Q E ⟨hp, gn, dr, tk, os⟩ := ⟨wpAny_inSet_of (intKind_is PR w k t) rfl hS (h _)⟩
theorem m_set {pl : Sem Bool} {Q : Value × List Value → Shared → Prop} (hS : hp.SetOf (intKind PR w) a F n) (h : Q (.builtin "set.add", [.ref a]) ⟨hp, gn, dr, tk, os⟩) : W w A (getMethod (.ref a) (.ofString "add") pl) Q E ⟨hp, gn, dr, tk, os⟩ :=
  ⟨getMethod_set_add hS h⟩
theorem b_add (S : St h₀ (pre ++ (a, SetP w F n) :: post) hp) (hz : n + 1 < scanBound) (h : ∀ h' tk', St h₀ (pre ++ (a, SetP w (fun k' => F k' || decide (k' = k)) (if F k then n else n + 1)) :: post) h' → Q .none ⟨h', gn, dr, tk', os⟩) :
    W w A (call (.builtin "set.add") [.ref a, .int k t]) Q E ⟨hp, gn, dr, tk, os⟩ :=
  ⟨call_set_add (intKind_is PR w k t) rfl (set_of (S.at (a := a) (P := SetP w F n) (by simp))) hz fun h' hs hS => h h' _ (S.updM hs (of_set hS))⟩
theorem xs_del {o i : Expr} {p : Pos} {rest : List Stmt} {Q : Flow → Shared → Prop} (h : W w A (eval o env) (fun ov s₁ => W w A (eval i env) (fun iv s₂ => W w A (delItem ov iv) (fun _ s₃ => W w A (execs rest env) Q E s₃) E s₂) E s₁) E s) :
    W w A (execs (.Delete [.Subscript o i p] pos :: rest) env) Q E s := by
  refine xs_cons ⟨wpAny_Delete (wpAny_deleteEach_cons ?_)⟩
  rw [arm_delete_Subscript]
  refine wpAny_bind (um h fun _ _ h₁ => wpAny_bind (wpAny_holding (um h₁ fun _ _ h₂ => wpAny_bind (wpAny_standAt (wpAny_bind (wpAny_holding (um h₂ fun _ _ h₃ => ?_)))))))
  exact wpAny_release (wpAny_deleteEach_nil h₃)
theorem del_dict {Q : Unit → Shared → Prop} (S : St h₀ (pre ++ (d, DctP w kvs) :: post) hp) (hz : kvs.length ≤ 1000) (hv : (valueAt kvs k).isSome = true) (h : ∀ h' tk', St h₀ (pre ++ (d, DctP w (without kvs k)) :: post) h' → Q () ⟨h', gn, dr, tk', os⟩) :
    W w A (delItem (.ref d) (.int k t)) Q E ⟨hp, gn, dr, tk, os⟩ := by
  have hD : hp.DictOf (intKind PR w) d kvs := dct_of (S.at (a := d) (P := DctP w kvs) (by simp))
  have hT : Shared.TypeIs ⟨hp, gn, dr, tk, os⟩ (.ref d) "dict" := Heap.DictOf.typeIs (s := ⟨hp, gn, dr, tk, os⟩) hD
  constructor
  unfold delItem
  try with_reducible refine wpAny_holding ?_
  refine wpAny_bind (wpAny_sequenceKey hT (by decide) ?_)
  refine wpAny_bind (wpAny_callSpecial?_slot (name := Str.ofString "__delitem__") hT PySem.F.slot_dict_delitem
    (call_meetsIn PySem.F.slot_dict_delitem hT PySem.F.entry_dict_delitem (PySem.F.args_dict_delitem_2 _ _) (meets_dict_delitem_pairs (intKind PR w) d (intKind_is PR w k t)) ⟨kvs, hD, (by rw [sizeLine_eq]; omega), hv, fun h' hmm hs => ?_⟩))
  exact wpAny_pure (h h' _ (S.updM hs (of_dct hmm)))
theorem l_add (ha : ∃ o, hp.get? l = some o ∧ LstP vs o) (hb : ∃ o, hp.get? b = some o ∧ LstP ws o) (hz : vs.length + ws.length ≤ 1000) (h : Q (.ref hp.objs.size) ⟨hp.push { cls := .type "list", data := .seq (vs ++ ws).toArray }, gn, dr, tk, os⟩) :
    W w A (binaryOp .Add (.ref l) (.ref b)) Q E ⟨hp, gn, dr, tk, os⟩ := by
  obtain ⟨_, e1, n1, rfl⟩ := ha
  obtain ⟨_, e2, n2, rfl⟩ := hb
  exact ⟨P.add_list (s := ⟨hp, gn, dr, tk, os⟩) (items := vs.toArray) (items2 := ws.toArray) e1 e2 (by simpa using h) (by simp only [List.size_toArray, sizeLine_eq]; omega)⟩
/-- l[i:] -/
theorem e_from {value lower : Expr} {p : Pos} (h : W w A (eval value env) (fun o s₁ => W w A (eval lower env) (fun i s₂ => ∃ l vs k t hp gn dr tk os, o = .ref l ∧ i = .int k t ∧ s₂ = ⟨hp, gn, dr, tk, os⟩ ∧ (∃ o, hp.get? l = some o ∧ LstP vs o) ∧ 0 ≤ k ∧ vs.length ≤ 1000 ∧
      Q (.ref (hp.objs.size + 1)) ⟨(hp.push { cls := .type "slice", data := .fields #[.int k t, .none, .none] }).push { cls := .type "list", data := .seq (vs.drop k.toNat).toArray }, gn, dr, tk, os⟩) E s₁) E s)
    (hs : ∀ l a, subscripted (.Slice (some lower) none none p) false (.ref l) (.ref a) = operate [.ref a, .ref l] (getItem (.ref l) (.ref a)) := by intro _ _; with_unfolding_all rfl)
    (ht : ∀ l r, letTemporaryGo value (.ref l) r = pure () := by intro _ _; with_unfolding_all rfl) :
    W w A (eval (.Subscript value (.Slice (some lower) none none p) pos) env) Q E s := by
  refine e_sub (h.mono fun o s₁ h₁ => ⟨wpAny_Slice (um h₁ fun i s₂ h₂ => ?_)⟩)
  obtain ⟨l, vs, k, t, hp, gn, dr, tk, os, rfl, rfl, rfl, hl, hk, hz, hQ⟩ := h₂
  refine wpAny_pure (wpAny_pure ⟨?_⟩)
  have hl' := isList_of hl
  refine subscriptTail_ops (Heap.IsList.typeIs (s := ⟨hp.push _, gn, dr, tk, os⟩) (hl'.push _)) list_getitem_lookup
    (wpAny_getItem_list_slice (hl'.push _) (Heap.IsSliceOf.new ..) (.int k t) .none .none (by simp) ?_ (by simp only [List.size_toArray, sizeLine_eq]; omega)) (hs _ _) (ht _)
  have e : slicePick vs.toArray (some k) none none = (vs.drop k.toNat).toArray := by
    obtain ⟨j, rfl⟩ : ∃ j : Nat, k = (j : Int) := ⟨k.toNat, by omega⟩
    rw [slicePick_from' vs.toArray j]; simp
  rw [e]
  simpa [Heap.size_push] using hQ
theorem t_val {e : Expr} {whole : Sem Value} {Q : Bool → Shared → Prop} (h : W w A whole (fun v s₁ => W w A (truthy v) Q E s₁) E s) (he : isTrue e env whole = (do let v ← whole; standAt e.pos; holding [v] (truthy v)) := by rfl) : W w A (isTrue e env whole) Q E s :=
  ⟨wpAny_isTrue_value (um h fun _ _ h₁ => h₁.out) he⟩
theorem e_list1 {e : Expr} (h : W w A (eval e env) (fun v s₁ => ∃ hp gn dr tk os, s₁ = ⟨hp, gn, dr, tk, os⟩ ∧ Q (.ref hp.objs.size) ⟨hp.push { cls := .type "list", data := .seq #[v] }, gn, dr, tk, os⟩) E s)
    (he : starEach [e] env = [(false, eval e env)] := by rfl) : W w A (eval (.List [e] pos) env) Q E s := by
  refine ⟨wpAny_List_spliced ?_⟩
  refine (a_cons (w := w) (rest := []) (h.mono fun v s₁ h₁ => a_nil ?_) he).out
  obtain ⟨hp, gn, dr, tk, os, rfl, hQ⟩ := h₁
  exact ⟨by simp [sizeLine_eq], hQ⟩
end
end Mine
end TextSLP
section TextFCP
open PySem PySem.W PySem.Spec PySem.Calls PyProof.Rows
set_option Elab.async false
set_option maxRecDepth 100000
set_option linter.unusedVariables false
set_option linter.unusedSimpArgs false
namespace Mine
/-- a frame of the walk: its node, how many successors it has handed out, its iterator, the wrapper -/
structure Fd where
  n : Nd
  c : Nat
  it : Addr
  mw : Addr
def Fd.k (f : Fd) : Int := f.n.key
/-- each node's successors lie before it -/
def Topo (ns : List Nd) : List Int → Prop
  | [] => True
  | v :: r => (∀ n ∈ ns, n.key = v → ∀ s ∈ n.succ, s ∈ r) ∧ Topo ns r
def okF (dn : List Int) (nx : Option Int) (f : Fd) : Prop := match nx with
  | none => ∀ j s, j < f.c → f.n.succ[j]? = some s → s ∈ dn
  | some k => 1 ≤ f.c ∧ f.n.succ[f.c - 1]? = some k ∧ ∀ j s, j < f.c - 1 → f.n.succ[j]? = some s → s ∈ dn
def RChain (dn : List Int) : Option Int → List Fd → Prop
  | _, [] => True
  | nx, f :: r => okF dn nx f ∧ RChain dn (some f.k) r
def idxL (ks : List Int) : List (Int × Int) := ks.zipIdx.map fun p => (p.1, (p.2 : Int))
theorem idxL_snoc (ks : List Int) (k : Int) : idxL (ks ++ [k]) = idxL ks ++ [(k, (ks.length : Int))] := by
  simp [idxL, List.zipIdx_append]
def wS (ns : List Nd) (F : Int → Bool) (g : Nd → Nat) : Nat := match ns with
  | [] => 0
  | n :: ns => (if F n.key then 0 else g n) + wS ns F g
theorem wS_mono {F : Int → Bool} {g : Nd → Nat} {k : Int} : ∀ l : List Nd, wS l (fun j => F j || decide (j = k)) g ≤ wS l F g
  | [] => Nat.le_refl _
  | m :: l => by
    have ih := wS_mono (F := F) (g := g) (k := k) l
    unfold wS
    cases hm : F m.key <;> simp
    · split <;> omega
    · exact ih
theorem wS_push {F : Int → Bool} {g : Nd → Nat} {n : Nd} (hF : F n.key = false) : ∀ {ns : List Nd}, n ∈ ns → wS ns (fun k => F k || decide (k = n.key)) g + g n ≤ wS ns F g
  | m :: l, hn => by
    have h1 := wS_mono (F := F) (g := g) (k := n.key) l
    unfold wS
    rcases List.mem_cons.mp hn with rfl | hn
    · simp [hF]; omega
    · have ih := wS_push (g := g) hF hn
      cases hm : F m.key <;> simp
      · split <;> omega
      · exact ih
/-- the state of the walk -/
structure CyI (ns : List Nd) (nx : Option Int) (rs : List Fd) (dn : List Int) (F : Int → Bool) (nF : Nat) : Prop where
  seen : ∀ k, F k = true ↔ (k ∈ dn ∨ k ∈ rs.map Fd.k)
  cnt : nF + wS ns F (fun _ => 1) ≤ ns.length
  len : rs.length ≤ nF
  topo : Topo ns dn
  chain : RChain dn nx rs
  nd : (rs.map Fd.k).Nodup
  apart : ∀ k ∈ dn, k ∉ rs.map Fd.k
  mem : ∀ f ∈ rs, f.n ∈ ns ∧ f.c ≤ f.n.succ.length
def phi (ns : List Nd) (rs : List Fd) (F : Int → Bool) : Nat := wS ns F (fun n => n.succ.length + 2) + (rs.map fun f => f.n.succ.length - f.c + 1).sum
section
variable {ns : List Nd} {nx : Option Int} {rs : List Fd} {dn : List Int} {F : Int → Bool} {nF : Nat}
theorem RChain.mono {dn dn' : List Int} (h : ∀ k ∈ dn, k ∈ dn') : ∀ {nx : Option Int} {rs : List Fd}, RChain dn nx rs → RChain dn' nx rs
  | _, [], _ => trivial
  | none, f :: r, ⟨a, b⟩ => ⟨fun j s hj hs => h s (a j s hj hs), b.mono h⟩
  | some k, f :: r, ⟨⟨a1, a2, a3⟩, b⟩ => ⟨⟨a1, a2, fun j s hj hs => h s (a3 j s hj hs)⟩, b.mono h⟩
/-- the pending node is new: push it -/
theorem CyI.push {k : Int} {n : Nd} {it mw : Addr} (I : CyI ns (some k) rs dn F nF) (hn : n ∈ ns) (hk : n.key = k) (hF : F k = false) :
    CyI ns none (⟨n, 0, it, mw⟩ :: rs) dn (fun j => F j || decide (j = k)) (nF + 1) ∧ phi ns (⟨n, 0, it, mw⟩ :: rs) (fun j => F j || decide (j = k)) < phi ns rs F := by
  subst hk
  have hnot : n.key ∉ dn ∧ n.key ∉ rs.map Fd.k := by
    refine not_or.mp fun h => ?_
    have := (I.seen n.key).mpr h
    rw [hF] at this; cases this
  refine ⟨⟨fun j => ?_, ?_, by have := I.len; simp; omega, I.topo, ⟨fun j s hj => absurd hj (Nat.not_lt_zero _), I.chain⟩, ?_, fun j hj hm => ?_, fun f hf => ?_⟩, ?_⟩
  · rw [Bool.or_eq_true, I.seen j, decide_eq_true_eq]
    simp only [List.map_cons, List.mem_cons, Fd.k]
    constructor
    · rintro ((h | h) | h)
      · exact .inl h
      · exact .inr (.inr h)
      · exact .inr (.inl h)
    · rintro (h | h | h)
      · exact .inl (.inl h)
      · exact .inr h
      · exact .inl (.inr h)
  · have := wS_push (g := fun _ => 1) hF hn; have := I.cnt; omega
  · exact List.nodup_cons.mpr ⟨hnot.2, I.nd⟩
  · rcases List.mem_cons.mp hm with e | hm
    · exact hnot.1 ((show j = n.key from e) ▸ hj)
    · exact I.apart j hj hm
  · rcases List.mem_cons.mp hf with rfl | hf
    · exact ⟨hn, Nat.zero_le _⟩
    · exact I.mem f hf
  · have := wS_push (g := fun n => n.succ.length + 2) hF hn
    unfold phi
    simp only [List.map_cons, List.sum_cons]
    omega
/-- the pending node is done: go on -/
theorem CyI.skip {k : Int} (I : CyI ns (some k) rs dn F nF) (hF : F k = true) (hk : k ∉ rs.map Fd.k) : CyI ns none rs dn F nF := by
  have hd : k ∈ dn := ((I.seen k).mp hF).resolve_right hk
  refine { I with chain := ?_ }
  have hc := I.chain
  cases rs with
  | nil => trivial
  | cons f r =>
    obtain ⟨⟨h1, h2, h3⟩, hr⟩ := hc
    refine ⟨fun j s hj hs => ?_, hr⟩
    by_cases e : j = f.c - 1
    · subst e; rw [h2] at hs; cases hs; exact hd
    · exact h3 j s (by omega) hs
/-- the top hands out its next -/
theorem CyI.fetch {f : Fd} {k : Int} (I : CyI ns none (f :: rs) dn F nF) (hk : f.n.succ[f.c]? = some k) :
    CyI ns (some k) ({ f with c := f.c + 1 } :: rs) dn F nF ∧ phi ns ({ f with c := f.c + 1 } :: rs) F < phi ns (f :: rs) F := by
  have hlt := (List.getElem?_eq_some_iff.mp hk).1
  refine ⟨{ I with chain := ⟨⟨by simp, by simpa using hk, fun j s hj hs => I.chain.1 j s (by simpa using hj) hs⟩, I.chain.2⟩, mem := fun g hg => ?_ }, ?_⟩
  · rcases List.mem_cons.mp hg with rfl | hg
    · exact ⟨(I.mem f (.head _)).1, hlt⟩
    · exact I.mem g (.tail _ hg)
  · unfold phi; simp only [List.map_cons, List.sum_cons]; omega
/-- the top has no more: pop -/
theorem CyI.pop {f : Fd} (hkeys : (ns.map Nd.key).Nodup) (I : CyI ns none (f :: rs) dn F nF) (hk : f.n.succ[f.c]? = none) : CyI ns none rs (f.k :: dn) F nF ∧ phi ns rs F < phi ns (f :: rs) F := by
  have hmem := I.mem f (.head _)
  have hnd := List.nodup_cons.mp I.nd
  have hall : ∀ s ∈ f.n.succ, s ∈ dn := fun s hs => by
    obtain ⟨j, hj⟩ := List.getElem?_of_mem hs
    have := (List.getElem?_eq_some_iff.mp hj).1
    have h2 : f.n.succ.length ≤ f.c := by simpa using hk
    exact I.chain.1 j s (by omega) hj
  refine ⟨⟨fun k => ?_, I.cnt, by have := I.len; simp at this; omega, ⟨fun n hn e s hs => ?_, I.topo⟩, ?_, hnd.2, fun k hk hm => ?_, fun g hg => I.mem g (.tail _ hg)⟩, ?_⟩
  · rw [I.seen k]
    simp only [List.map_cons, List.mem_cons]
    constructor
    · rintro (h | h | h)
      · exact .inl (.inr h)
      · exact .inl (.inl h)
      · exact .inr h
    · rintro ((h | h) | h)
      · exact .inr (.inl h)
      · exact .inl h
      · exact .inr (.inr h)
  · have : n = f.n := by
      obtain ⟨i, hi, e1⟩ := List.getElem_of_mem hn
      obtain ⟨j, hj, e2⟩ := List.getElem_of_mem hmem.1
      have hij : i = j := by
        refine (List.getElem_inj (i := i) (j := j) (h₀ := by simpa using hi) (h₁ := by simpa using hj) hkeys).mp ?_
        simp only [List.getElem_map, e1, e2]; exact e
      subst hij; rw [← e1, e2]
    subst this
    exact hall s hs
  · have hc := I.chain.2
    cases rs with
    | nil => trivial
    | cons g r =>
      obtain ⟨⟨h1, h2, h3⟩, hr⟩ := hc
      refine ⟨fun j s hj hs => ?_, hr.mono fun k hk => .tail _ hk⟩
      by_cases e : j = g.c - 1
      · subst e; rw [h2] at hs; cases hs; exact .head _
      · exact .tail _ (h3 j s (by omega) hs)
  · rcases List.mem_cons.mp hk with rfl | hk
    · exact hnd.1 hm
    · exact I.apart k hk (.tail _ hm)
  · unfold phi; simp only [List.map_cons, List.sum_cons]; omega
end
def edge (ns : List Nd) (a b : Int) : Prop := ∃ n ∈ ns, n.key = a ∧ b ∈ n.succ
/-- a walk along edges -/
def Walk (E : Int → Int → Prop) : List Int → Prop
  | [] => True
  | [_] => True
  | a :: b :: r => E a b ∧ Walk E (b :: r)
def IsRing (E : Int → Int → Prop) (l : List Int) : Prop := ∃ k ks, l = k :: ks ++ [k] ∧ Walk E l
theorem Walk.snoc {E : Int → Int → Prop} : ∀ {l : List Int} {a b : Int}, Walk E (l ++ [a]) → E a b → Walk E (l ++ [a] ++ [b])
  | [], a, b, _, h => ⟨h, trivial⟩
  | [x], a, b, w, h => ⟨w.1, h, trivial⟩
  | x :: y :: l, a, b, w, h => ⟨w.1, by have := Walk.snoc (l := y :: l) w.2 h; simpa using this⟩
theorem ring_of {ns : List Nd} {rs : List Fd} {dn : List Int} {k : Int} {a b : List Fd} {f : Fd} (hm : ∀ f ∈ rs, f.n ∈ ns) (hc : RChain dn (some k) rs) (hr : rs = a ++ f :: b) (hk : f.k = k) : IsRing (edge ns) ((f :: a.reverse).map Fd.k ++ [k]) := by
  have key : ∀ (a : List Fd) (k' : Int), RChain dn (some k') (a ++ f :: b) → (∀ q ∈ a ++ f :: b, q.n ∈ ns) → Walk (edge ns) ((f :: a.reverse).map Fd.k ++ [k']) := by
    intro a
    induction a with
    | nil =>
      intro k' hc hm
      obtain ⟨⟨h1, h2, _⟩, _⟩ := hc
      exact ⟨⟨f.n, hm f (by simp), rfl, List.mem_of_getElem? h2⟩, trivial⟩
    | cons g a ih =>
      intro k' hc hm
      obtain ⟨⟨h1, h2, _⟩, hc'⟩ := hc
      have h := ih g.k hc' fun q hq => hm q (.tail _ hq)
      have := h.snoc (b := k') ⟨g.n, hm g (.head _), rfl, List.mem_of_getElem? h2⟩
      simpa using this
  subst hr
  refine ⟨k, a.reverse.map Fd.k, by simp [hk], key a k hc hm⟩
end Mine
end TextFCP
section TextFC
open PySem PySem.W PySem.Spec PySem.Calls PyProof.Rows
set_option Elab.async false
set_option maxRecDepth 100000
set_option linter.unusedVariables false
set_option linter.unusedSimpArgs false
namespace Mine
theorem fn127 (w : World) : FnOk w 127 := FnOk.of rfl rfl rfl rfl rfl rfl
def frC (f : Fd) : List Cell := [(f.it, ItP f.n.su f.c), (f.mw, MwP f.it)]
noncomputable abbrev fcFor (w : World) : List Stmt := match (bodyF w.params 127).drop 5 with | .For _ _ b _ _ :: _ => b | _ => []
noncomputable abbrev fcWh (w : World) : List Stmt := match (fcFor w).drop 1 with | .While _ b _ _ :: _ => b | _ => []
def cyL (x D sa ia ea na : Addr) (nd : Option Value) : Loc := [(.ofString "self", some (.ref x)), (.ofString "n2i", some (.ref D)), (.ofString "stack", some (.ref sa)), (.ofString "itstack", some (.ref ia)), (.ofString "seen", some (.ref ea)), (.ofString "node2stacki", some (.ref na)), (.ofString "node", nd)]
def cyC (w : World) (sa ia ea na : Addr) (rs : List Fd) (F : Int → Bool) (nF : Nat) (kvs : List (Int × Value)) (svs : List Value) (rest : List Cell) : List Cell :=
  (sa, LstP svs) :: (ia, LstP (rs.reverse.map fun f => .ref f.mw)) :: (ea, SetP w F nF) :: (na, DctP w kvs) :: (rs.flatMap frC ++ rest)
section
variable {w : World} {A : Around} {E : Value → Shared → Prop} {hp : Heap} {gn : Array GenState} {dr : Drawn} {tk : Nat} {os : OsState} {h₀ : Heap} {Q : Value → Shared → Prop}
theorem sub_last {value slice : Expr} {l : Addr} {vs : List Value} {t : Tok} {x : Value} (hl : ∃ o, hp.get? l = some o ∧ LstP (vs ++ [x]) o) (hz : vs.length ≤ 1000) (h : Q x ⟨hp, gn, dr, tk, os⟩)
    (hs : subscripted slice false (.ref l) (.int (-1) t) = operate [.ref l, .int (-1) t] (getItem (.ref l) (.int (-1) t)) := by rfl) : W w A (subscriptTail value slice (.ref l) (.int (-1) t)) Q E ⟨hp, gn, dr, tk, os⟩ :=
  ⟨tail_any (Heap.IsList.typeIs (s := ⟨hp, gn, dr, tk, os⟩) (isList_of hl)) PySem.slot_list_getitem.lookup (wpAny_getItem_list_neg (isList_of hl) (by decide) (by simp; omega) (by decide) (x := x) (by rw [show ((-1 : Int) + ((vs ++ [x]).toArray.size : Nat)).toNat = vs.length from by simp; omega]; simp) h) hs⟩
end
/-- what holds of the walk's data at any time -/
structure CyT (ns : List Nd) (nx : Option Int) (rs : List Fd) (dn : List Int) (F : Int → Bool) (nF : Nat) (kvs : List (Int × Value)) (svs : List Value) : Prop extends CyI ns nx rs dn F nF where
  sv : IntsAre svs (rs.reverse.map Fd.k)
  kv : IM kvs (idxL (rs.reverse.map Fd.k))
theorem im_without {kvs : List (Int × Value)} {ks : List Int} {k : Int} (h : IM kvs (idxL (ks ++ [k]))) (hn : k ∉ ks) : IM (without kvs k) (idxL ks) ∧ (valueAt kvs k).isSome = true := by
  rw [idxL_snoc] at h
  have key : ∀ (m : List (Int × Int)) (kvs : List (Int × Value)) (v : Int), IM kvs (m ++ [(k, v)]) → (∀ p ∈ m, p.1 ≠ k) → IM (without kvs k) m ∧ (valueAt kvs k).isSome = true := by
    intro m
    induction m with
    | nil =>
      intro kvs v h _
      cases h with
      | cons _ _ t h => cases h; exact ⟨by simp [without]; exact .nil, by simp [valueAt]⟩
    | cons p m ih =>
      intro kvs v h hm
      cases h with
      | cons k' v' t h =>
        obtain ⟨h1, h2⟩ := ih _ _ h fun q hq => hm q (.tail _ hq)
        have hne : k' ≠ k := hm _ (.head _)
        refine ⟨?_, ?_⟩
        · simp only [without, List.filter_cons, hne, ne_eq, not_false_eq_true, decide_true, if_true]
          exact .cons _ _ _ h1
        · simp only [valueAt, List.find?_cons, hne, decide_false] at h2 ⊢; exact h2
  refine key _ _ _ h fun p hp => ?_
  simp only [idxL, List.mem_map] at hp
  obtain ⟨q, hq, rfl⟩ := hp
  intro e
  have := (List.mem_zipIdx' hq).2
  exact hn (e ▸ this ▸ List.getElem_mem _)
theorem St.but {h₀ h h' : Heap} {pre post : List Cell} {a : Addr} {P P' : Obj → Prop} (S : St h₀ (pre ++ (a, P) :: post) h) (hk : ∀ b o, b ≠ a → h.get? b = some o → h'.get? b = some o) (ho : ∃ o, h'.get? a = some o ∧ P' o) : St h₀ (pre ++ (a, P') :: post) h' := by
  have hnd := S.nd
  rw [List.map_append, List.map_cons, List.nodup_append, List.nodup_cons] at hnd
  have hne : ∀ c, c ∈ pre ∨ c ∈ post → c.1 ≠ a := fun c hc e => by
    rcases hc with hc | hc
    · exact hnd.2.2 c.1 (List.mem_map_of_mem (f := (·.1)) hc) a (.head _) e
    · exact hnd.2.1.1 (e ▸ List.mem_map_of_mem (f := (·.1)) hc)
  have hmem : ∀ (P : Obj → Prop) c, c ∈ pre ++ (a, P) :: post → (c = (a, P)) ∨ (c ∈ pre ∨ c ∈ post) := fun P c hc => by
    rcases List.mem_append.mp hc with hc | hc
    · exact .inr (.inl hc)
    · rcases List.mem_cons.mp hc with rfl | hc
      · exact .inl rfl
      · exact .inr (.inr hc)
  have hold : ∀ c, c ∈ pre ∨ c ∈ post → c ∈ pre ++ (a, P) :: post := fun c hc => by
    rcases hc with hc | hc
    · exact List.mem_append_left _ hc
    · exact List.mem_append_right _ (.tail _ hc)
  have ha := S.new (a, P) (List.mem_append_right _ (.head _))
  refine ⟨fun b o e => hk b o (fun q => by rw [q, ha] at e; cases e) (S.keep b o e), fun c hc => ?_, fun c hc => ?_, by simpa using S.nd⟩
  · rcases hmem P' c hc with rfl | hc
    · exact ho
    · obtain ⟨o, e, p⟩ := S.held c (hold c hc)
      exact ⟨o, hk _ _ (hne c hc) e, p⟩
  · rcases hmem P' c hc with rfl | hc
    · exact ha
    · exact S.new c (hold c hc)
theorem St.cons' {h₀ h : Heap} {cs : List Cell} {e : Addr} {P : Obj → Prop} (S : St h₀ cs h) (hn : ∀ c ∈ cs, c.1 ≠ e) (h0 : h₀.get? e = none) (ho : ∃ o, h.get? e = some o ∧ P o) : St h₀ ((e, P) :: cs) h :=
  ⟨S.keep, fun c hc => by rcases List.mem_cons.mp hc with rfl | hc; · exact ho
                          · exact S.held c hc, fun c hc => by rcases List.mem_cons.mp hc with rfl | hc; · exact h0
                                                              · exact S.new c hc, List.nodup_cons.mpr ⟨fun hm => let ⟨c, hc, e⟩ := List.mem_map.mp hm; hn c hc e, S.nd⟩⟩
theorem ints_snoc : ∀ {ns : List Int} {vs : List Value} {n : Int}, IntsAre vs (ns ++ [n]) → ∃ vs0 t, vs = vs0 ++ [.int n t] ∧ IntsAre vs0 ns
  | [], _, _, .cons _ t h => by cases h; exact ⟨[], t, rfl, .nil⟩
  | m :: ns, _, _, .cons _ t h => by
    obtain ⟨vs0, t', rfl, h'⟩ := ints_snoc h
    exact ⟨.int m t :: vs0, t', rfl, .cons _ _ h'⟩
theorem boot_StopIteration : bootBuiltins "StopIteration" = some (.type "StopIteration") := by decide +kernel
section
variable {w : World} {A : Around} {hp : Heap} {gn : Array GenState} {dr : Drawn} {tk : Nat} {os : OsState} {h₀ : Heap} {cs rest : List Cell} {L x D sa ia ea na I : Addr} {oI : Obj} {ns : List Nd} {fr : List Env} {Ls : List Addr} {rs : List Fd} {dn : List Int} {F : Int → Bool} {nF : Nat} {kvs : List (Int × Value)} {svs : List Value} {nd : Option Value} {Q : Flow → Shared → Prop}
theorem inner_spec (B : Base w h₀) (hh : A.handled = none) (Fr : Frs A (envF w 127 L :: fr) (L :: Ls)) (hfr : FrC Ls rest) (hkeys : (ns.map Nd.key).Nodup) (hns : ns.length ≤ 100) (hnd : ∀ n ∈ ns, (n.su, SucP n.sv n.succ) ∈ rest)
    (T : CyT ns none rs dn F nF kvs svs) (S : St h₀ ((L, LocP (cyL x D sa ia ea na nd)) :: (I, fun q => q = oI) :: cyC w sa ia ea na rs F nF kvs svs rest) hp)
    (h1 : ∀ k t rs' dn' kvs' svs' h' tk', CyT ns (some k) rs' dn' F nF kvs' svs' → (∃ n ∈ ns, k ∈ n.succ) → phi ns rs' F < phi ns rs F → St h₀ ((L, LocP (cyL x D sa ia ea na (some (.int k t)))) :: (I, fun q => q = oI) :: cyC w sa ia ea na rs' F nF kvs' svs' rest) h' → Q .next ⟨h', gn, dr, tk', os⟩)
    (h2 : ∀ nd' dn' kvs' svs' h' tk', CyT ns none [] dn' F nF kvs' svs' → St h₀ ((L, LocP (cyL x D sa ia ea na nd')) :: (I, fun q => q = oI) :: cyC w sa ia ea na [] F nF kvs' svs' rest) h' → Q .brk ⟨h', gn, dr, tk', os⟩) :
    W w A (execs ((fcWh w).drop 1) (envF w 127 L)) Q No ⟨hp, gn, dr, tk, os⟩ := by
  refine xs_while (c_while (fun m s => ∃ nd rs' dn' kvs' svs' h' tk', s = ⟨h', gn, dr, tk', os⟩ ∧ m = phi ns rs' F ∧ m ≤ phi ns rs F ∧ CyT ns none rs' dn' F nF kvs' svs' ∧ St h₀ ((L, LocP (cyL x D sa ia ea na nd)) :: (I, fun q => q = oI) :: cyC w sa ia ea na rs' F nF kvs' svs' rest) h') ?_ _ ⟨_, _, _, _, _, _, _, rfl, rfl, Nat.le_refl _, T, S⟩)
  rintro m s ⟨nd, rs', dn', kvs', svs', h3, tk3, rfl, rfl, hle, T3, S3⟩
  have hsl : svs'.length = rs'.length := by have := T3.sv.length; simpa using this
  have hsz : rs'.length ≤ 100 := by have := T3.len; have := T3.cnt; omega
  refine t_val (e_loc S3 rfl (tr_list (isList_of (S3.at (.tail _ (.tail _ (.head _))))) (by omega) fun tk4 => ?_))
  cases rs' with
  | nil =>
    have : svs' = [] := by simpa using hsl
    subst this
    refine if_n rfl (xs_brk ?_)
    exact h2 _ _ _ _ _ _ T3 S3
  | cons f r =>
    have hne : (!svs'.isEmpty) = true := by cases svs' <;> simp at hsl ⊢
    refine if_t hne ?_
    have hsv := T3.sv
    rw [List.reverse_cons, List.map_append] at hsv
    obtain ⟨sv0, ts, rfl, hsv0⟩ := ints_snoc hsv
    have hsv0l : sv0.length ≤ 100 := by simp at hsl hsz; omega
    have hkv := T3.kv
    rw [List.reverse_cons, List.map_append] at hkv
    have hnot : f.k ∉ r.reverse.map Fd.k := by
      have := (List.nodup_cons.mp T3.nd).1
      simpa using this
    have hfm := T3.mem f (.head _)
    have S4 : St h₀ ((L, LocP (cyL x D sa ia ea na nd)) :: (I, fun q => q = oI) :: (sa, LstP (sv0 ++ [.int f.k ts])) :: (ia, LstP ((r.reverse.map fun f => .ref f.mw) ++ [.ref f.mw])) :: (ea, SetP w F nF) :: (na, DctP w kvs') :: (f.it, ItP f.n.su f.c) :: (f.mw, MwP f.it) :: (r.flatMap frC ++ rest)) h3 := by
      have := S3; unfold cyC at this; rw [List.reverse_cons, List.map_append] at this; exact this
    obtain ⟨_, emw, rfl⟩ := S4.at (a := f.mw) (P := MwP f.it) (.tail _ (.tail _ (.tail _ (.tail _ (.tail _ (.tail _ (.tail _ (.head _))))))))
    obtain ⟨oit, eit, pit⟩ := S4.at (a := f.it) (P := ItP f.n.su f.c) (.tail _ (.tail _ (.tail _ (.tail _ (.tail _ (.tail _ (.head _)))))))
    obtain ⟨osu, esu, psu, isu⟩ := S4.at (a := f.n.su) (P := SucP f.n.sv f.n.succ) (.tail _ (.tail _ (.tail _ (.tail _ (.tail _ (.tail _ (.tail _ (.tail _ (List.mem_append_right _ (hnd _ hfm.1))))))))))
    have hit : h3.IsListIter f.it f.n.su f.c := ⟨oit, eit, pit⟩
    have hlsu : h3.IsList f.n.su f.n.sv.toArray := isList_of ⟨osu, esu, psu⟩
    have hial : ∃ o, h3.get? ia = some o ∧ LstP ((r.reverse.map fun f => Value.ref f.mw) ++ [.ref f.mw]) o := S4.at (.tail _ (.tail _ (.tail _ (.head _))))
    have hrl : (r.reverse.map fun f => Value.ref f.mw).length ≤ 1000 := by simp at hsz ⊢; omega
    cases hk : f.n.succ[f.c]? with
    | some k =>
      obtain ⟨hI, hphi⟩ := T3.toCyI.fetch hk
      obtain ⟨tv, hv⟩ := isu.get f.c k hk
      refine xs_try (xs_assign (e_call (e_sub (e_loc S4 rfl (e_neg (e_int fun t5 tk5 => i_neg fun t6 tk6 => sub_last hial hrl (cw_mw0 emw ?_)))))))
      refine mw_some emw hit hlsu (x := .int k tv) (by simpa using hv) fun h7 hit7 sb7 => ?_
      have S7 := S4.updM (pre := [_, _, _, _, _, _]) (P' := ItP f.n.su (f.c + 1)) sb7 hit7
      refine s_loc S7 fun h8 tk8 S8 => xs_brk ?_
      refine xs_nil (h1 k tv ({ f with c := f.c + 1 } :: r) dn' kvs' (sv0 ++ [.int f.k ts]) h8 _ { hI with sv := ?_, kv := ?_ } ⟨f.n, hfm.1, List.mem_of_getElem? hk⟩ (by omega) ?_)
      · rw [List.reverse_cons, List.map_append]; exact hsv
      · rw [List.reverse_cons, List.map_append]; exact hkv
      · unfold cyC; rw [List.reverse_cons, List.map_append]; exact S8
    | none =>
      obtain ⟨hI, hphi⟩ := T3.toCyI.pop hkeys hk
      obtain ⟨hkv0, hsome⟩ := im_without hkv hnot
      refine xs_tryS (gn := gn) (dr := dr) (os := os) (h₀ := h₀) (cs := (L, LocP (cyL x D sa ia ea na nd)) :: (I, fun q => q = oI) :: (sa, LstP (sv0 ++ [.int f.k ts])) :: (ia, LstP ((r.reverse.map fun f => .ref f.mw) ++ [.ref f.mw])) :: (ea, SetP w F nF) :: (na, DctP w kvs') :: (f.it, fun _ => True) :: (f.mw, MwP f.it) :: (r.flatMap frC ++ rest)) Fr rfl ?_ ?_ ?_ ?_
      · intro L' hL'
        rcases List.mem_cons.mp hL' with rfl | hL'
        · exact ⟨_, .head _⟩
        · obtain ⟨lo, hm⟩ := hfr L' hL'
          exact ⟨lo, .tail _ (.tail _ (.tail _ (.tail _ (.tail _ (.tail _ (.tail _ (.tail _ (List.mem_append_right _ hm))))))))⟩
      · refine xs_assign (e_call (e_sub (e_loc S4 rfl (e_neg (e_int fun t5 tk5 => i_neg fun t6 tk6 => sub_last hial hrl (cw_mw0 emw ?_))))))
        refine mw_none hh emw hit hlsu ?_ fun e h7 hne he hk7 hit7 => ⟨e, h7, _, rfl, rfl, ?_⟩
        · rw [List.getElem?_toArray]
          have := isu.length
          have h9 : f.n.succ.length ≤ f.c := by simpa using hk
          simp; omega
        · have S8 := S4.but (pre := [_, _, _, _, _, _]) (P' := fun _ => True) hk7 (let ⟨o, e⟩ := hit7; ⟨o, e, trivial⟩)
          refine S8.cons' (fun c hc q => ?_) ?_ he
          · have hc' : ∃ P, (c.1, P) ∈ (L, LocP (cyL x D sa ia ea na nd)) :: (I, fun q => q = oI) :: (sa, LstP (sv0 ++ [.int f.k ts])) :: (ia, LstP ((r.reverse.map fun f => .ref f.mw) ++ [.ref f.mw])) :: (ea, SetP w F nF) :: (na, DctP w kvs') :: (f.it, ItP f.n.su f.c) :: (f.mw, MwP f.it) :: (r.flatMap frC ++ rest) := by
              have : c.1 ∈ ([(L, LocP (cyL x D sa ia ea na nd)), (I, fun q => q = oI), (sa, LstP (sv0 ++ [.int f.k ts])), (ia, LstP ((r.reverse.map fun f => .ref f.mw) ++ [.ref f.mw])), (ea, SetP w F nF), (na, DctP w kvs')] ++ (f.it, fun _ => True) :: (f.mw, MwP f.it) :: (r.flatMap frC ++ rest)).map (·.1) := List.mem_map_of_mem (f := (·.1)) hc
              obtain ⟨c', h9, e9⟩ := List.mem_map.mp (show c.1 ∈ ((L, LocP (cyL x D sa ia ea na nd)) :: (I, fun q => q = oI) :: (sa, LstP (sv0 ++ [.int f.k ts])) :: (ia, LstP ((r.reverse.map fun f => .ref f.mw) ++ [.ref f.mw])) :: (ea, SetP w F nF) :: (na, DctP w kvs') :: (f.it, ItP f.n.su f.c) :: (f.mw, MwP f.it) :: (r.flatMap frC ++ rest)).map (·.1) from this)
              exact ⟨c'.2, e9 ▸ h9⟩
            obtain ⟨P, hc'⟩ := hc'
            obtain ⟨o, ho, _⟩ := S4.at hc'
            rw [q, hne] at ho; cases ho
          · cases z : h₀.get? e with
            | none => rfl
            | some o => have := S4.keep _ _ z; rw [hne] at this; cases this
      · intro A' h7 tk7 S7
        exact e_blt B S7 rfl boot_StopIteration (by decide) ⟨rfl, rfl⟩
      · intro e h7 tk7 S7
        refine xs_del (e_loc S7 rfl (e_meth _ (e_loc S7 rfl (m_lst PySem.F.slot_list_pop PySem.F.type_list_pop (S7.at (.tail _ (.tail _ (.head _)))) (cw_met0 (b_pop (pre := [_, _]) S7 (by omega) fun h8 S8 => ?_))))))
        refine del_dict (pre := [_, _, _, _, _]) S8 (by have := hkv.length; rw [this]; simp [idxL]; simp at hsz; omega) hsome fun h9 tk9 S9 => ?_
        refine xs_expr (e_meth _ (e_loc S9 rfl (m_lst PySem.F.slot_list_pop PySem.F.type_list_pop (S9.at (.tail _ (.tail _ (.tail _ (.head _))))) (cw_met0 (b_pop (pre := [_, _, _]) S9 hrl fun h10 S10 => ?_)))))
        refine xs_nil (xs_nil ⟨phi ns r F, hphi, nd, r, f.k :: dn', without kvs' f.k, sv0, h10, _, rfl, rfl, by omega, { hI with sv := hsv0, kv := hkv0 }, ?_⟩)
        exact S10.sublist ((((((((List.Sublist.refl _).cons _).cons _).cons₂ _).cons₂ _).cons₂ _).cons₂ _).cons₂ _ |>.cons₂ _)
end
end Mine
end TextFC
section TextFCC
open PySem PySem.W PySem.Spec PySem.Calls PyProof.Rows
set_option Elab.async false
set_option maxRecDepth 100000
set_option linter.unusedVariables false
set_option linter.unusedSimpArgs false
namespace Mine
theorem idxL_get {ks1 ks2 : List Int} {k : Int} (h : k ∉ ks1) : getI (idxL (ks1 ++ k :: ks2)) k = (ks1.length : Int) := by
  have key : ∀ (ks1 : List Int) (i : Nat), k ∉ ks1 → getI (((ks1 ++ k :: ks2).zipIdx i).map fun p => (p.1, (p.2 : Int))) k = ((i + ks1.length : Nat) : Int) := by
    intro ks1
    induction ks1 with
    | nil => intro i _; simp [getI]
    | cons a ks1 ih =>
      intro i hn
      have hne : a ≠ k := fun e => hn (e ▸ .head _)
      have := ih (i + 1) fun hm => hn (.tail _ hm)
      simp only [List.cons_append, List.zipIdx_cons, List.map_cons, getI, List.find?_cons, hne, decide_false, List.length_cons] at this ⊢
      rw [this]; congr 1; omega
  have := key ks1 0 h
  simpa [idxL] using this
theorem idxL_any {ks : List Int} {k : Int} : (idxL ks).any (fun p => p.1 = k) = decide (k ∈ ks) := by
  have key : ∀ (ks : List Int) (i : Nat), ((ks.zipIdx i).map fun p => (p.1, (p.2 : Int))).any (fun p => p.1 = k) = decide (k ∈ ks) := by
    intro ks
    induction ks with
    | nil => intro i; simp
    | cons a ks ih =>
      intro i
      simp only [List.zipIdx_cons, List.map_cons, List.any_cons, ih (i + 1), List.mem_cons]
      by_cases e : a = k
      · simp [e]
      · have : ¬ k = a := fun q => e q.symm
        simp [e, this]
  simpa [idxL] using key ks 0
theorem im_some {kvs : List (Int × Value)} {m : List (Int × Int)} (h : IM kvs m) (k : Int) : (valueAt kvs k).isSome = m.any (fun p => p.1 = k) := by
  induction h with
  | nil => rfl
  | cons k' v t h ih =>
    by_cases e : k' = k
    · simp [valueAt, e]
    · simp only [valueAt, List.find?_cons, e, decide_false, List.any_cons, Bool.false_or] at ih ⊢; exact ih
structure CyD where
  nd : Option Value
  dn : List Int
  F : Int → Bool
  nF : Nat
  kvs : List (Int × Value)
  svs : List Value
theorem cycle_spec {w : World} {A : Around} {hp : Heap} {gn : Array GenState} {dr : Drawn} {tk : Nat} {os : OsState} {h₀ : Heap} {cs : List Cell} {R : Result → Shared → Prop} {x dx D : Addr} {rd np nf : Value} {ns : List Nd} {fr : List Env} {Ls : List Addr} {k : Nat}
    (B : Base w h₀) (r : Rm (k + 1) A) (Fr : Frs A fr Ls) (S : St h₀ (sorC w x dx D rd np nf ns ++ cs) hp) (hfr : FrC Ls cs) (hns : ns.length ≤ 100) (hcl : ∀ n ∈ ns, ∀ s ∈ n.succ, ∃ m ∈ ns, m.key = s)
    (h0 : ∀ dn h' tk', Topo ns dn → (∀ n ∈ ns, n.key ∈ dn) → St h₀ (sorC w x dx D rd np nf ns ++ cs) h' → R (.ok (.ret .none)) ⟨h', gn, dr, tk', os⟩)
    (h1 : ∀ ra vs ring h' tk', IsRing (edge ns) ring → ring.length ≤ 200 → IntsAre vs ring → St h₀ ((ra, LstP vs) :: (sorC w x dx D rd np nf ns ++ cs)) h' → R (.ok (.ret (.ref ra))) ⟨h', gn, dr, tk', os⟩) :
    C w A (.call (.ref 127) ⟨[.ref x], []⟩) R ⟨hp, gn, dr, tk, os⟩ := by
  obtain ⟨oD, eD, pD⟩ := S.at (a := D) (P := DctP w (ndK ns)) (.tail _ (.tail _ (.head _)))
  have hkeys : (ns.map Nd.key).Nodup := by
    obtain ⟨_, _, _, _, _, _, hnd⟩ := id pD
    have : (ndK ns).map (·.1) = ns.map Nd.key := by simp [ndK]
    rw [← this]; exact hnd
  refine callFn (k := k) (binds := [(.ofString "self", .ref x)]) (fn127 w) B S r (by kernel_rfl) (by kernel_rfl) (by kernel_rfl) [.ofString "n2i", .ofString "stack", .ofString "itstack", .ofString "seen", .ofString "node2stacki", .ofString "node"] fun L h2 tk2 S2 hn2 hk2 => ?_
  have r' := r.deeper (envF w 127 L)
  have Fr' : Frs (A.deeper (envF w 127 L)) (envF w 127 L :: fr) (L :: Ls) := ⟨Around.frames_deeper Fr.all, by rw [List.filterMap_cons]; show L :: _ = _; rw [Fr.ls], fun e he => by
    rcases List.mem_cons.mp he with rfl | he
    · exact ⟨by show ScopeKind.function ≠ _; decide, L, rfl⟩
    · exact Fr.ok e he⟩
  refine xs_assign (e_att (e_loc S2 rfl (g_own B S2 (cls137 w) (by kernel_rfl) (by kernel_rfl) (.tail _ (.head _)) (.tail _ (.tail _ (.head _))) rfl rfl (s_loc S2 fun h3 tk3 S3 => ?_))))
  refine xs_assign (e_list0 (s_loc (S3.push_lst []).swap fun h4 tk4 S4 => ?_))
  generalize h3.objs.size = sa at S4
  refine xs_assign (e_list0 (s_loc (S4.push_lst []).swap fun h5 tk5 S5 => ?_))
  generalize h4.objs.size = ia at S5
  refine xs_assign (e_call (e_blt B S5 rfl PyProof.Rows.boot_set (by decide) (cw_typ0 (b_set S5 fun h6 S6 => s_loc S6.swap fun h7 tk7 S7 => ?_))))
  generalize h5.objs.size = ea at S7
  refine xs_assign (e_dict0 (s_loc (S7.push (P := DctP w []) (o := { cls := .type "dict", data := .dict #[] }) dct_nil).swap fun h8 tk8 S8 => ?_))
  generalize h7.objs.size = na at S8
  have S9 := S8.perm (List.Perm.cons _ ((List.reverse_perm [_, _, _, _]).symm.append_right _))
  obtain ⟨oD, eD, pD⟩ := S9.at (a := D) (P := DctP w (ndK ns)) (.tail _ (.tail _ (.tail _ (.tail _ (.tail _ (.tail _ (.tail _ (.head _))))))))
  have S10 := S9.updM (pre := [_, _, _, _, _, _, _]) (P' := fun q => q = oD) ⟨rfl, fun _ _ => rfl⟩ ⟨oD, eD, rfl⟩
  have back : ∀ (c : List Cell) h, St h₀ (c ++ ((x, fun o => o = instObj 137 dx) :: (dx, AttP 4 (attL D rd np nf)) :: (D, fun q => q = oD) :: (ns.flatMap ndC ++ cs))) h → St h₀ (c ++ (sorC w x dx D rd np nf ns ++ cs)) h := by
    intro c h Sx
    have e1 : c ++ ((x, fun o => o = instObj 137 dx) :: (dx, AttP 4 (attL D rd np nf)) :: (D, fun q => q = oD) :: (ns.flatMap ndC ++ cs)) = (c ++ [(x, fun o => o = instObj 137 dx), (dx, AttP 4 (attL D rd np nf))]) ++ (D, fun q => q = oD) :: (ns.flatMap ndC ++ cs) := by simp
    rw [e1] at Sx
    obtain ⟨o, eo, rfl⟩ := Sx.at (a := D) (P := fun q => q = oD) (by simp)
    have := Sx.updM (P' := DctP w (ndK ns)) ⟨rfl, fun _ _ => rfl⟩ ⟨o, eo, pD⟩
    simpa [sorC] using this
  generalize hrest : ((x, fun o => o = instObj 137 dx) :: (dx, AttP 4 (attL D rd np nf)) :: (D, fun q => q = oD) :: (ns.flatMap ndC ++ cs) : List Cell) = rest at back
  have S11 : St h₀ ((L, LocP (cyL x D sa ia ea na none)) :: cyC w sa ia ea na [] (fun _ => false) 0 [] [] rest) h8 := by subst hrest; exact S10
  have mD : (D, fun q => q = oD) ∈ rest := by subst hrest; exact .tail _ (.tail _ (.head _))
  have mN : ∀ n ∈ ns, ∀ c ∈ ndC n, c ∈ rest := fun n hn c hc => by
    subst hrest
    exact .tail _ (.tail _ (.tail _ (List.mem_append_left _ (List.mem_flatMap.mpr ⟨n, hn, hc⟩))))
  have hfr' : FrC Ls rest := fun L' hL' => by
    obtain ⟨lo, hm⟩ := hfr L' hL'
    subst hrest
    exact ⟨lo, .tail _ (.tail _ (.tail _ (List.mem_append_right _ hm)))⟩
  clear S2 S3 S4 S5 S7 S8 S9 S10 hrest
  refine xs_for (e_loc S11 rfl ?_)
  refine for_keys (L := L) (fun d : CyD => cyL x D sa ia ea na d.nd) (fun d => cyC w sa ia ea na [] d.F d.nF d.kvs d.svs rest)
    (fun i d => CyT ns none [] d.dn d.F d.nF d.kvs d.svs ∧ ∀ j n, j < i → ns[j]? = some n → d.F n.key = true) ⟨none, [], fun _ => false, 0, [], []⟩ r'.hd B pD (fun d => .tail _ (.tail _ (.tail _ (.tail _ mD)))) S11 ⟨⟨⟨fun k => by simp, ?_, Nat.le_refl _, trivial, trivial, List.nodup_nil, fun _ h => (nomatch h), fun _ h => (nomatch h)⟩, .nil, .nil⟩, fun j n hj => absurd hj (Nat.not_lt_zero _)⟩ ?_ ?_
  · have : ∀ l : List Nd, wS l (fun _ => false) (fun _ => 1) = l.length := by
      intro l
      induction l with
      | nil => rfl
      | cons a l ih => simp [wS, ih]; omega
    show 0 + wS ns (fun _ => false) (fun _ => 1) ≤ _
    rw [this]; omega
  · rintro i ⟨nd, dn, F, nF, kvs, svs⟩ k0 y t0 h12 tk12 I oI hi ⟨T, hJ⟩ S12
    obtain ⟨n0, hn0, hk0⟩ : ∃ n0, ns[i]? = some n0 ∧ n0.key = k0 := by
      unfold ndK at hi
      rw [List.getElem?_map] at hi
      cases q : ns[i]? with
      | none => rw [q] at hi; cases hi
      | some n0 => rw [q] at hi; cases hi; exact ⟨n0, rfl, rfl⟩
    refine a_name (s_loc S12 fun h13 tk13 S13 => ?_)
    refine xs_if (t_cmp (e_loc S13 rfl (e_loc S13 rfl (in_set (set_of (S13.at (.tail _ (.tail _ (.tail _ (.tail _ (.head _))))))) fun tk14 => tr_bool ?_))))
    cases hF0 : F k0 with
    | true =>
      refine if_t hF0 (xs_cont ⟨⟨some (.int k0 t0), dn, F, nF, kvs, svs⟩, _, _, rfl, ⟨T, fun j n hj hn => ?_⟩, S13⟩)
      by_cases e : j = i
      · subst e; rw [hn0] at hn; cases hn; rw [hk0]; exact hF0
      · exact hJ j n (by omega) hn
    | false =>
      refine if_n hF0 (xs_nil ?_)
      refine xs_while (c_while (fun m s => ∃ k t rs dn' F' nF' kvs' svs' h' tk', s = ⟨h', gn, dr, tk', os⟩ ∧ m = phi ns rs F' ∧ CyT ns (some k) rs dn' F' nF' kvs' svs' ∧ (∃ n ∈ ns, n.key = k) ∧ (F' k0 = true ∨ k = k0) ∧ (∀ j, F j = true → F' j = true) ∧
        St h₀ ((L, LocP (cyL x D sa ia ea na (some (.int k t)))) :: (I, fun q => q = oI) :: cyC w sa ia ea na rs F' nF' kvs' svs' rest) h') ?_ _ ⟨k0, t0, [], dn, F, nF, kvs, svs, _, _, rfl, rfl, { T with chain := trivial }, ⟨n0, List.mem_of_getElem? hn0, hk0⟩, .inr rfl, fun _ h => h, S13⟩)
      rintro m s ⟨k, t, rs, dn', F', nF', kvs', svs', h15, tk15, rfl, rfl, T5, ⟨n, hn, hnk⟩, hk5, hF5, S5⟩
      refine t_val (e_bool (tr_bool (if_t rfl ?_)))
      have hsl : svs'.length = rs.length := by have := T5.sv.length; simpa using this
      have hsz : rs.length ≤ 100 := by have := T5.len; have := T5.cnt; omega
      have hvn : valueAt (ndK ns) k = some (.ref n.info) := by
        rcases ndK_find (ns := ns) (g := k) with ⟨pre, m, post, rfl, e1, e2, e3⟩ | ⟨e1, _⟩
        · have : n = m := by
            rcases List.mem_append.mp hn with hn | hn
            · exact absurd hnk (e2 n hn)
            · rcases List.mem_cons.mp hn with rfl | hn
              · rfl
              · rw [List.map_append, List.nodup_append, List.map_cons, List.nodup_cons] at hkeys
                exact absurd (List.mem_map_of_mem (f := Nd.key) hn) (by rw [hnk, ← e1]; exact hkeys.2.1.1)
          rw [this]; exact e3
        · exact absurd hnk (e1 n hn)
      have hJn : ∀ F2 : Int → Bool, F2 k0 = true → (∀ j, F j = true → F2 j = true) → ∀ j n, j < i + 1 → ns[j]? = some n → F2 n.key = true := fun F2 h1 h2 j n hj hn => by
        by_cases e : j = i
        · subst e; rw [hn0] at hn; cases hn; rw [hk0]; exact h1
        · exact h2 _ (hJ j n (by omega) hn)
      have hset := set_of (S5.at (a := ea) (P := SetP w F' nF') (.tail _ (.tail _ (.tail _ (.tail _ (.head _))))))
      have hdna := dct_of (S5.at (a := na) (P := DctP w kvs') (.tail _ (.tail _ (.tail _ (.tail _ (.tail _ (.head _)))))))
      refine xs_if (t_cmp (e_loc S5 rfl (e_loc S5 rfl (in_set hset fun tk16 => tr_bool ?_))))
      have hnotks : ∀ j, j ∈ rs.reverse.map Fd.k ↔ j ∈ rs.map Fd.k := fun j => by simp
      cases hF : F' k with
      | true =>
        have hFk0 : F' k0 = true := hk5.elim id fun e => e ▸ hF
        refine if_t rfl (xs_if (t_cmp (e_loc S5 rfl (e_loc S5 rfl (in_dict hdna (S5.notMods B (.tail _ (.tail _ (.tail _ (.tail _ (.tail _ (.head _))))))) fun tk17 => tr_bool ?_)))))
        rw [im_some T5.kv, idxL_any]
        by_cases hm : k ∈ rs.reverse.map Fd.k
        · refine if_t (decide_eq_true hm) ?_
          obtain ⟨f, hf, hfk⟩ := List.mem_map.mp ((hnotks k).mp hm)
          obtain ⟨a, b, hab⟩ := List.append_of_mem hf
          have hks : rs.reverse.map Fd.k = b.reverse.map Fd.k ++ k :: a.reverse.map Fd.k := by rw [hab]; simp [hfk]
          have hnk2 : k ∉ b.reverse.map Fd.k := by
            have := T5.nd
            rw [hab, List.map_append, List.nodup_append, List.map_cons, List.nodup_cons, hfk] at this
            simpa using this.2.1.1
          have hring := ring_of (fun q hq => (T5.mem q hq).1) T5.chain hab hfk
          obtain ⟨v, tv, hv⟩ := T5.kv.some_of (k := k) (by rw [idxL_any]; exact decide_eq_true hm)
          have hve : v = (b.length : Int) := by
            obtain ⟨t9, h9⟩ := T5.kv.get k 0
            rw [hv, hks, idxL_get hnk2] at h9
            simp only [Option.getD_some, Value.int.injEq] at h9
            simpa using h9.1
          subst hve
          have hdr : IntsAre (svs'.drop b.length) ((f :: a.reverse).map Fd.k) := by
            have := T5.sv.drop b.length
            rw [hks, List.drop_left' (by simp)] at this
            simpa [hfk] using this
          refine xs_ret (e_bin (e_from (e_loc S5 rfl (e_sub (e_loc S5 rfl (e_loc S5 rfl (sub_dict hdna hv fun tk18 => ⟨sa, svs', (b.length : Int), tv, _, _, _, _, _, rfl, rfl, rfl, S5.at (.tail _ (.tail _ (.head _))), by omega, by omega, ?_⟩)))))))
          have S6 := (S5.push (P := fun _ => True) (o := { cls := .type "slice", data := .fields #[.int (b.length : Int) tv, .none, .none] }) trivial)
          have S7 := S6.push_lst (svs'.drop b.length)
          rw [Heap.size_push] at S7
          refine e_list1 (e_loc (S7.perm (List.perm_middle (l₁ := [_, _]))) rfl ⟨_, _, _, _, _, rfl, ?_⟩)
          have S8 := S7.push_lst [.int k t]
          have hl7 := S8.at (a := h15.objs.size + 1) (P := LstP (svs'.drop b.length)) (.tail _ (.head _))
          refine l_add hl7 S8.head (by simp; omega) ?_
          have S9 := S8.push_lst (svs'.drop b.length ++ [.int k t])
          refine h1 _ (svs'.drop b.length ++ [.int k t]) _ _ _ hring ?_ (hdr.append (.cons _ _ .nil)) (back [_] _ (S9.sublist ?_))
          · have : rs.length = a.length + (b.length + 1) := by rw [hab]; simp
            simp; omega
          · refine List.Sublist.cons_cons _ (List.Sublist.cons _ (List.Sublist.cons _ (List.Sublist.cons _ (List.Sublist.cons _ (List.Sublist.cons _ (List.Sublist.cons _ (List.Sublist.cons _ (List.Sublist.cons _ (List.Sublist.cons _ ?_)))))))))
            exact List.sublist_append_right _ _
        · refine if_n (decide_eq_false hm) (xs_nil (xs_nil ?_))
          refine inner_spec B r'.hd Fr' hfr' hkeys hns (fun n hn => mN n hn _ (.tail _ (.tail _ (.head _)))) { T5.toCyI.skip hF (fun q => hm ((hnotks k).mpr q)) with sv := T5.sv, kv := T5.kv } S5 ?_ ?_
          · intro k2 t2 rs2 dn2 kvs2 svs2 h2 tk2 T2 hs2 hphi S2
            obtain ⟨n2, hn2, hs2⟩ := hs2
            exact ⟨_, hphi, k2, t2, rs2, dn2, F', nF', kvs2, svs2, _, _, rfl, rfl, T2, hcl n2 hn2 k2 hs2, .inl hFk0, hF5, S2⟩
          · intro nd2 dn2 kvs2 svs2 h2 tk2 T2 S2
            exact xs_nil ⟨⟨nd2, dn2, F', nF', kvs2, svs2⟩, _, _, rfl, ⟨T2, hJn F' hFk0 hF5⟩, S2⟩
      | false =>
        obtain ⟨hI, hphi⟩ := T5.toCyI.push (it := h15.objs.size) (mw := h15.objs.size + 1) hn hnk hF
        have hks : k ∉ rs.reverse.map Fd.k := fun q => by
          have := (T5.seen k).mpr (.inr ((hnotks k).mp q))
          rw [hF] at this; cases this
        refine if_n rfl ?_
        refine xs_expr (e_meth _ (e_loc S5 rfl (m_set hset (cw_met (a_cons (e_loc S5 rfl (a_nil (b_add (pre := [_, _, _, _]) S5 (by have := T5.cnt; unfold scanBound; omega) fun h17 tk17 S17 => ?_))))))))
        rw [hF] at S17
        have mR : ∀ c ∈ rest, c ∈ (L, LocP (cyL x D sa ia ea na (some (.int k t)))) :: (I, fun q => q = oI) :: (sa, LstP svs') :: (ia, LstP (rs.reverse.map fun f => .ref f.mw)) :: (ea, SetP w (fun j => F' j || decide (j = k)) (nF' + 1)) :: (na, DctP w kvs') :: (rs.flatMap frC ++ rest) := fun c hc => .tail _ (.tail _ (.tail _ (.tail _ (.tail _ (.tail _ (List.mem_append_right _ hc))))))
        have S17 : St h₀ ((L, LocP (cyL x D sa ia ea na (some (.int k t)))) :: (I, fun q => q = oI) :: (sa, LstP svs') :: (ia, LstP (rs.reverse.map fun f => .ref f.mw)) :: (ea, SetP w (fun j => F' j || decide (j = k)) (nF' + 1)) :: (na, DctP w kvs') :: (rs.flatMap frC ++ rest)) h17 := S17
        have hD : h17.DictOf (intKind PR w) D (ndK ns) := dct_of (let ⟨o, e, p⟩ := S17.at (mR _ mD); ⟨o, e, p ▸ pD⟩)
        obtain ⟨osu, esu, psu, isu⟩ := S17.at (a := n.su) (P := SucP n.sv n.succ) (mR _ (mN n hn _ (.tail _ (.tail _ (.head _)))))
        refine xs_expr (e_meth _ (e_loc S17 rfl (m_lst PySem.F.slot_list_append PySem.F.type_list_append (S17.at (.tail _ (.tail _ (.tail _ (.head _))))) (cw_met (a_cons ?_)))))
        refine e_att (e_call (e_blt B S17 rfl boot_iter (by decide) (cw_blt (a_cons (e_att (e_sub (e_loc S17 rfl (e_loc S17 rfl (sub_dict hD hvn fun tk18 => ?_)))))))))
        refine n_succ B S17 (fun c hc => mR c (mN n hn c hc)) fun tk19 => a_nil (b_iter (isList_of ⟨osu, esu, psu⟩) ?_)
        have S18 := S17.push (P := ItP n.su 0) (o := { cls := .type "list_iterator", data := .fields #[.ref n.su, .int 0 0] }) ⟨rfl, rfl⟩
        refine g_next (Heap.get?_push_size _ rfl) (a_nil ?_)
        have S19 := S18.push (P := MwP h17.objs.size) (o := mwO h17.objs.size) rfl
        rw [Heap.size_push] at S19 ⊢
        obtain ⟨hI, hphi⟩ := T5.toCyI.push (it := h17.objs.size) (mw := h17.objs.size + 1) hn hnk hF
        generalize (h17.push { cls := .type "list_iterator", data := .fields #[.ref n.su, .int 0 0] }).push (mwO h17.objs.size) = h19 at S19 ⊢
        generalize h17.objs.size = it at S19 hI hphi ⊢
        have S20 := S19.perm ((List.perm_append_comm_assoc [_, _] [_, _, _, _, _, _] _).trans (List.Perm.append_left _ (List.Perm.swap _ _ _)))
        refine b_append (pre := [_, _, _]) S20 (by simp; omega) fun h21 S21 => ?_
        refine xs_assign_sub (e_call (e_blt B S21 rfl boot_len (by decide) (cw_blt (a_cons (e_loc S21 rfl (a_nil (b_len (isList_of (S21.at (a := sa) (P := LstP svs') (.tail _ (.tail _ (.head _))))) (by simp; omega) fun t22 tk22 => ?_)))))))
        refine e_loc S21 rfl (e_loc S21 rfl (set_dict' (i := 5) S21 rfl (by show kvs'.length ≤ _; rw [T5.kv.length, sizeLine_eq]; simp [idxL]; omega) fun h23 tk23 S23 => ?_))
        have S23 : St h₀ ((L, LocP (cyL x D sa ia ea na (some (.int k t)))) :: (I, fun q => q = oI) :: (sa, LstP svs') :: (ia, LstP ((rs.reverse.map fun f => .ref f.mw) ++ [.ref (it + 1)])) :: (ea, SetP w (fun j => F' j || decide (j = k)) (nF' + 1)) :: (na, DctP w (stored kvs' k (.int (svs'.toArray.size : Nat) t22))) :: (it, ItP n.su 0) :: (it + 1, MwP it) :: (rs.flatMap frC ++ rest)) h23 := S23
        refine xs_expr (e_meth _ (e_loc S23 rfl (m_lst PySem.F.slot_list_append PySem.F.type_list_append (S23.at (.tail _ (.tail _ (.head _)))) (cw_met (a_cons (e_loc S23 rfl (a_nil (b_append (pre := [_, _]) S23 (by omega) fun h24 S24 => xs_nil ?_))))))))
        have hF2 : (F' k0 || decide (k0 = k)) = true := by
          rcases hk5 with h | h
          · rw [h]; rfl
          · rw [h]; simp
        have hF3 : ∀ j, F j = true → (F' j || decide (j = k)) = true := fun j hj => by rw [hF5 j hj]; rfl
        have T25 : CyT ns none (⟨n, 0, it, it + 1⟩ :: rs) dn' (fun j => F' j || decide (j = k)) (nF' + 1) (stored kvs' k (.int (svs'.toArray.size : Nat) t22)) (svs' ++ [.int k t]) := by
          refine { hI with sv := ?_, kv := ?_ }
          · rw [List.reverse_cons, List.map_append]
            exact T5.sv.append (by rw [← hnk]; exact .cons _ _ .nil)
          · have h9 := T5.kv.put k (svs'.toArray.size : Nat) t22
            rw [List.reverse_cons, List.map_append]
            show IM _ (idxL (_ ++ [n.key]))
            rw [hnk, idxL_snoc]
            have e9 : putI (idxL (rs.reverse.map Fd.k)) k (svs'.toArray.size : Nat) = idxL (rs.reverse.map Fd.k) ++ [(k, ((rs.reverse.map Fd.k).length : Int))] := by
              unfold putI
              rw [if_neg (by rw [idxL_any]; simpa using hks)]
              simp [hsl]
            rw [e9] at h9
            exact h9
        have S25 : St h₀ ((L, LocP (cyL x D sa ia ea na (some (.int k t)))) :: (I, fun q => q = oI) :: cyC w sa ia ea na (⟨n, 0, it, it + 1⟩ :: rs) (fun j => F' j || decide (j = k)) (nF' + 1) (stored kvs' k (.int (svs'.toArray.size : Nat) t22)) (svs' ++ [.int k t]) rest) h24 := by
          unfold cyC
          rw [List.reverse_cons, List.map_append]
          exact S24
        refine inner_spec B r'.hd Fr' hfr' hkeys hns (fun n hn => mN n hn _ (.tail _ (.tail _ (.head _)))) T25 S25 ?_ ?_
        · intro k2 t2 rs2 dn2 kvs2 svs2 h2 tk2 T2 hs2 hphi2 S2
          obtain ⟨n2, hn2, hs2⟩ := hs2
          exact ⟨_, Nat.lt_trans hphi2 hphi, k2, t2, rs2, dn2, _, _, kvs2, svs2, _, _, rfl, rfl, T2, hcl n2 hn2 k2 hs2, .inl hF2, hF3, S2⟩
        · intro nd2 dn2 kvs2 svs2 h2 tk2 T2 S2
          exact xs_nil ⟨⟨nd2, dn2, _, _, kvs2, svs2⟩, _, _, rfl, ⟨T2, hJn _ hF2 hF3⟩, S2⟩
  · rintro ⟨nd, dn, F, nF, kvs, svs⟩ h12 tk12 ⟨T, hJ⟩ S12
    refine xs_ret (e_none (h0 dn _ _ T.topo (fun n hn => ?_) (back [] _ S12.tail.tail.tail.tail.tail)))
    obtain ⟨j, hj⟩ := List.getElem?_of_mem hn
    have := hJ j n (by simp [ndK]; exact (List.getElem?_eq_some_iff.mp hj).1) hj
    simpa using (T.seen n.key).mp this
end Mine
end TextFCC
section TextFPR
open PySem PySem.W PySem.Spec PySem.Calls PyProof.Rows
set_option Elab.async false
set_option maxRecDepth 100000
set_option linter.unusedVariables false
set_option linter.unusedSimpArgs false
namespace Mine
section
variable {w : World} {A : Around} {E : Value → Shared → Prop} {s : Shared} {hp : Heap} {gn : Array GenState} {dr : Drawn} {tk : Nat} {os : OsState} {env : Env} {h₀ : Heap} {cs : List Cell} {Q : Value → Shared → Prop} {pos : Pos} {d : Addr} {kvs : List (Int × Value)}
variable {elt iter : Expr} {x : PySem.Str} {px : Pos} {ifs : List Expr} {scope : Scope} {cl : List (PySem.Str × Addr)} {p : Value → Bool} {F : Value → Value → Prop}
theorem b_values (hd : hp.DictOf (intKind PR w) d kvs) (hm : (d == sysModules) = false) (h : Q (.ref hp.objs.size) ⟨hp.push { cls := .type "dict_values", data := .fields #[.ref d] }, gn, dr, tk, os⟩) : W w A (call (.builtin "dict.values") [.ref d]) Q E ⟨hp, gn, dr, tk, os⟩ :=
  ⟨call_meetsIn PySem.F.slot_dict_values (Heap.DictOf.typeIs (s := ⟨hp, gn, dr, tk, os⟩) hd) PySem.F.entry_dict_values (PySem.F.args_dict_values_1 _) (meets_dict_values (intKind PR w) d hm) ⟨⟨_, hd⟩, h⟩⟩
theorem comp_vals_s {v : Addr} {o : Obj} (hh : A.handled = none) (hv : s.heap.IsValuesView v d) (ho : s.heap.get? d = some o) (hof : DctP w kvs o) (hsz : kvs.length ≤ sizeLine)
    (tests : ∀ C y s₃, y ∈ kvs.map (·.2) → St s.heap [(C, VarP x y)] s₃.heap → W w A (cTests ifs (compEnvC scope cl C env)) (fun ok s₄ => ok = p y ∧ Keeps s₃ s₄) No s₃)
    (helt : ∀ C y s₃, y ∈ kvs.map (·.2) → p y = true → St s.heap [(C, VarP x y)] s₃.heap → W w A (eval elt (compEnvC scope cl C env)) (fun y' s₄ => F y y' ∧ Keeps s₃ s₄) No s₃)
    (done : ∀ D h' tk ys, Kp s.heap h' → s.heap.get? D = none → (∃ o, h'.get? D = some o ∧ LstP ys o) → Paired F ((kvs.map (·.2)).filter p) ys → Q (.ref D) { s with heap := h', toks := tk }) :
    CompS w A env scope cl x ifs elt p F Q E (.ref v) s := by
  obtain ⟨ep, ha⟩ := KdkAt.of hof
  have hd : s.heap.DictAt (intKind PR w) d kvs ep := ha.dictAt ho
  have hlt := Heap.lt_size ho
  refine comp_src (oI := { cls := .type "dict_valueiterator", data := .fields #[.ref d, .int 0 0, .int kvs.length 0, .int ep 0] }) (I := 0) rfl (wpAny_pyIter_values hv hd ⟨rfl, _, rfl⟩)
    (Walks.dictValues (knd := intKind PR w) hh s.heap.objs.size d (Nat.ne_of_lt hlt) kvs ep) hsz ⟨⟨_, Heap.get?_push_size _ rfl, rfl, rfl⟩, hd.at' fun o e => Heap.get?_push_of_some _ e⟩ ?_ ?_ ?_ ?_
  · intro b hb
    simp only [List.mem_cons, List.not_mem_nil, or_false] at hb
    rcases hb with rfl | rfl
    · exact Nat.le_refl _
    · exact Nat.le_of_lt hlt
  · rintro C i y s₃ ⟨k, hk⟩ S; exact tests C y s₃ (List.mem_map.mpr ⟨(k, y), List.mem_of_getElem? hk, rfl⟩) S
  · rintro C i y s₃ ⟨k, hk⟩ hp S; exact helt C y s₃ (List.mem_map.mpr ⟨(k, y), List.mem_of_getElem? hk, rfl⟩) hp S
  · intro D h' tk ys vs hk hD hl hlen hP hF
    have : vs = kvs.map (·.2) := by
      apply List.ext_getElem?
      intro j
      rw [List.getElem?_map]
      cases hj : vs[j]? with
      | some v => obtain ⟨k, hk⟩ := hP j v hj; rw [hk]; rfl
      | none =>
        have : vs.length ≤ j := by simpa using hj
        have h2 : kvs.length ≤ j := by omega
        rw [List.getElem?_eq_none h2]; rfl
    subst this
    exact done D h' tk ys hk hD hl hF
end
/-- the nodes that wait for nothing -/
def readyP (ns : List Nd) : List Int := (ns.filter fun n => n.np == 0).map Nd.key
def npz (ns : List Nd) (v : Value) : Bool := (ns.find? fun n => v == .ref n.info).any fun n => n.np == 0
theorem npz_of {ns : List Nd} {n : Nd} (hn : n ∈ ns) (hnd : (ns.map Nd.info).Nodup) : npz ns (.ref n.info) = (n.np == 0) := by
  unfold npz
  induction ns with
  | nil => cases hn
  | cons m ns ih =>
    rw [List.map_cons, List.nodup_cons] at hnd
    rcases List.mem_cons.mp hn with rfl | hn
    · simp
    · have : (Value.ref n.info == Value.ref m.info) = false := by
        have : n.info ≠ m.info := fun e => hnd.1 (e ▸ List.mem_map_of_mem (f := Nd.info) hn)
        simpa using this
      rw [List.find?_cons, this]
      exact ih hn hnd.2
end Mine
end TextFPR
section TextSLX
open PySem PySem.W PySem.Spec PySem.Calls PyProof.Rows
set_option Elab.async false
set_option maxRecDepth 100000
set_option linter.unusedVariables false
set_option linter.unusedSimpArgs false
namespace Mine
def ExcA (cls : Value) (t : Addr) : Obj → Prop := fun o => o.cls = cls ∧ ∃ vs, o.data = .fields vs ∧ vs[0]? = some (.ref t) ∧ vs[1]? = some .none
def FlyP (cls : Value) (t T : Addr) : Obj → Prop := fun o => o.cls = cls ∧ ∃ vs, o.data = .fields vs ∧ vs[0]? = some (.ref t) ∧ vs[1]? = some (.ref T)
def Tb0 : Obj → Prop := fun o => ∃ ts, o.data = .fields ts ∧ 3 < ts.size
def TbP : Obj → Prop := fun o => ∃ ts, o.data = .fields ts ∧ ts[3]? = some .none
theorem TbP.tb0 {o : Obj} (h : TbP o) : Tb0 o := let ⟨ts, e, h⟩ := h; ⟨ts, e, (Array.getElem?_eq_some_iff.mp h).1⟩
section
variable {w : World} {A : Around} {E : Value → Shared → Prop} {s : Shared} {hp : Heap} {gn : Array GenState} {dr : Drawn} {tk : Nat} {os : OsState} {env : Env} {pos : Pos} {h₀ : Heap} {cs : List Cell} {fr : List Env} {Ls : List Addr} {L e t T : Addr} {cls : Value} {Q : Unit → Shared → Prop}
theorem entry_new {oe : Obj} {vs : Array Value} {head : Value} {hadNext : Bool}
    (F : Frs A (env :: fr) Ls) (hf : env.frame = some L) (S : St h₀ ((e, fun o => o = oe) :: cs) hp) (hc : FrC Ls cs) (hd : oe.data = .fields vs) (hsz : 1 < vs.size)
    (h : ∀ h' T oe', St h₀ ((e, fun o => o = oe') :: (T, Tb0) :: cs) h' → oe'.cls = oe.cls → (∃ vs', oe'.data = .fields vs' ∧ vs'[1]? = some (.ref T) ∧ ∀ i, i ≠ 1 → vs'[i]? = vs[i]?) → Q () ⟨h', gn, dr, tk, os⟩) :
    wpAny (model PR w) A (do let a ← frameOf env; let pl ← entryPlaceOf L hadNext; let b ← EntryCells.newEntry head a .none (rawInt L) .none pl; setField (.ref e) 1 b) Q E ⟨hp, gn, dr, tk, os⟩ := by
  have he := S.got
  have hc' : FrC Ls ((e, fun o => o = oe) :: cs) := fun L hL => let ⟨l, hm⟩ := hc L hL; ⟨l, .tail _ hm⟩
  refine wpAny_bind (wpAny_frameOf_fun F.all (F.fun S hc') hf fun h₁ hs₁ => ?_)
  rw [F.ls] at hs₁
  have S1 := S.slots hc' hs₁
  have he₁ := S1.got
  refine wpAny_bind (wpAny_entryPlaceOf fun pl hpl => ?_)
  unfold EntryCells.newEntry newFields
  refine wpAny_bind (wpAny_newObj_type ?_ (hpl.sizeOk5 _ _ _ _ _))
  have S2 := (S1.push (P := Tb0) (o := { cls := .type "traceback", dict := none, data := .fields ([head, .ref L, .none, rawInt L, .none] ++ (if pl.isEmpty then List.replicate 6 Value.none else pl)).toArray })
    ⟨_, rfl, by simp only [List.size_toArray, List.length_append, List.length_cons, List.length_nil]; omega⟩).swap
  have he₂ := S2.got
  refine wpAny_setField he₂ hd hsz ?_
  have hd₃ := Obj.data_mapFields hd (·.setIfInBounds 1 (Value.ref h₁.objs.size))
  refine h _ h₁.objs.size _ (S2.upd0 (Heap.SameBut.update ..) ⟨_, Heap.get?_update_self _ he₂ (Obj.isFreed_of_fields hd₃), rfl⟩) (Obj.cls_mapFields _ _) ⟨_, hd₃, by simp [hsz], fun i hi => ?_⟩
  rw [Array.getElem?_setIfInBounds_ne (Ne.symm hi)]
theorem flight (S : St h₀ ((e, FlyP cls t T) :: (T, Tb0) :: cs) hp) (h : ∀ h', St h₀ ((e, FlyP cls t T) :: (T, TbP) :: cs) h' → Q () ⟨h', gn, dr, tk, os⟩) : wpAny (model PR w) A (setFlight (.ref e) none) Q E ⟨hp, gn, dr, tk, os⟩ := by
  obtain ⟨oe, he, hcl, vs, hd, h0, h1⟩ := S.head
  obtain ⟨oT, hT, ts, hdt, hsz⟩ := S.at (a := T) (P := Tb0) (.tail _ (.head _))
  refine wpAny_setFlight_none he hd h1 hT hdt hsz (h _ (S.updM (pre := [_]) (Heap.SameBut.update ..) ⟨_, Heap.get?_update_self _ hT (Obj.isFreed_of_fields (Obj.data_mapFields hdt _)), _, Obj.data_mapFields hdt _, ?_⟩))
  simp [hsz]
theorem note_first (F : Frs A (env :: fr) Ls) (hf : env.frame = some L) (S : St h₀ ((e, ExcA cls t) :: cs) hp) (hc : FrC Ls cs) (h : ∀ T h', St h₀ ((e, FlyP cls t T) :: (T, Tb0) :: cs) h' → Q () ⟨h', gn, dr, tk, os⟩) :
    wpAny (model PR w) A (noteFrame (.ref e) env) Q E ⟨hp, gn, dr, tk, os⟩ := by
  obtain ⟨oe, he, hcl, vs, hd, h0, h1⟩ := S.head
  have S0 := S.upd0 (P' := fun o => o = oe) ⟨rfl, fun _ _ => rfl⟩ ⟨oe, he, rfl⟩
  unfold noteFrame
  simp only [hf]
  refine wpAny_bind (wpAny_field he hd h1 ?_)
  rw [if_neg (by decide)]
  refine entry_new F hf S0 hc hd (Array.getElem?_eq_some_iff.mp h1).1 fun h' T oe' S' hcl' ⟨vs', hd', h1', hr⟩ => h T h' ?_
  exact S'.mono0 fun o ho => by subst ho; exact ⟨hcl'.trans hcl, vs', hd', (hr 0 (by decide)).trans h0, h1'⟩
theorem note_next (F : Frs A (env :: fr) Ls) (hf : env.frame = some L) (S : St h₀ ((e, FlyP cls t T) :: (T, TbP) :: cs) hp) (hc : FrC Ls cs) (h : ∀ T' h', St h₀ ((e, FlyP cls t T') :: (T', Tb0) :: cs) h' → Q () ⟨h', gn, dr, tk, os⟩) :
    wpAny (model PR w) A (noteFrame (.ref e) env) Q E ⟨hp, gn, dr, tk, os⟩ := by
  obtain ⟨oe, he, hcl, vs, hd, h0, h1⟩ := S.head
  obtain ⟨oT, hT, ts, hdt, h3⟩ := S.at (a := T) (P := TbP) (.tail _ (.head _))
  unfold noteFrame
  simp only [hf]
  refine wpAny_bind (wpAny_field he hd h1 ?_)
  rw [if_pos (show (Value.ref T != Value.none) = true from by simp)]
  refine wpAny_bind (wpAny_field hT hdt h3 ?_)
  rw [if_neg (show ¬ ((Value.none == rawInt L) = true) from by simp [rawInt])]
  refine wpAny_bind (wpAny_setField hT hdt (Array.getElem?_eq_some_iff.mp h3).1 ?_)
  have S1 := S.updM (pre := [_]) (P' := fun _ => True) (h' := hp.update T (Obj.mapFields (·.setIfInBounds 3 Value.none))) (Heap.SameBut.update ..) ⟨_, Heap.get?_update_self _ hT (Obj.isFreed_of_fields (Obj.data_mapFields hdt _)), trivial⟩
  obtain ⟨oe1, he1, hcl1, vs1, hd1, h01, h11⟩ := S1.head
  have S2 := (S1.upd0 (P' := fun o => o = oe1) ⟨rfl, fun _ _ => rfl⟩ ⟨oe1, he1, rfl⟩).swap.tail
  refine entry_new F hf S2 hc hd1 (Array.getElem?_eq_some_iff.mp h11).1 fun h' T' oe' S' hcl' ⟨vs', hd', h1', hr⟩ => h T' h' ?_
  exact S'.mono0 fun o ho => by subst ho; exact ⟨hcl'.trans hcl1, vs', hd', (hr 0 (by decide)).trans h01, h1'⟩
theorem leave_new (F : Frs A (env :: fr) Ls) (hf : env.frame = some L) (S : St h₀ ((e, ExcA cls t) :: cs) hp) (hc : FrC Ls cs) (h : ∀ T h', St h₀ ((e, FlyP cls t T) :: (T, TbP) :: cs) h' → Q () ⟨h', gn, dr, tk, os⟩) :
    W w A (leaving env (.ref e)) Q E ⟨hp, gn, dr, tk, os⟩ :=
  ⟨wpAny_bind (note_first F hf S hc fun T h' S' => flight S' fun h'' S'' => h T h'' S'')⟩
/-- the class CycleError -/
abbrev cyO : Obj := excClassObj (.ofString "CycleError") (.ofString "CycleError") 55 54 [.type "ValueError"] [.type "ValueError", .type "Exception", .type "BaseException", .type "object"] true [] [] false none none (some (.ref 46)) none (some (.str (.ofString "CycleError") 239)) (some (.str (.ofString "CycleError") 247)) (some (.bool true)) "ValueError.__new__"
theorem cy_at {h : Heap} (B : Base w h) : h.get? 55 = some cyO := B.K 55 _ (by kernel_rfl)
theorem cy_ns {h : Heap} (B : Base w h) : ∃ m, h.Ns 54 m ∧ ∀ n ∈ quietNames, m n = none := by
  have e := B.K 54 (ob54 w.params) (by kernel_rfl)
  refine ⟨nsFind #[⟨PyData.keyHash w.params (.ofString "__module__"), .str (.ofString "__module__") 246, .str (.ofString "cpy313.graphlib") 194⟩, ⟨PyData.keyHash w.params (.ofString "__firstlineno__"), .str (.ofString "__firstlineno__") 250, .int 14 249⟩, ⟨PyData.keyHash w.params (.ofString "__static_attributes__"), .str (.ofString "__static_attributes__") 251, .ref 53⟩, ⟨PyData.keyHash w.params (.ofString "__weakref__"), .str (.ofString "__weakref__") 253, .ref 56⟩, ⟨PyData.keyHash w.params (.ofString "__doc__"), .str (.ofString "__doc__") 254, .none⟩], ⟨_, _, _, e, rfl, ?_, fun _ => rfl⟩, ?_⟩
  · intro e he
    simp at he
    rcases he with rfl | rfl | rfl | rfl | rfl <;> exact ⟨_, _, rfl⟩
  · intro n hn
    simp only [quietNames, List.mem_cons, List.not_mem_nil, or_false] at hn
    rcases hn with rfl | rfl | rfl | rfl <;> kernel_rfl
end
end Mine
end TextSLX
section TextFQ
open PySem PySem.W PySem.Spec PySem.Calls PyProof.Rows
set_option Elab.async false
set_option maxRecDepth 100000
set_option linter.unusedVariables false
set_option linter.unusedSimpArgs false
namespace Mine
theorem fn92 (w : World) : FnOk w 92 := FnOk.of rfl rfl rfl rfl rfl rfl
section
variable {w : World} {A : Around} {E : Value → Shared → Prop} {s : Shared} {env : Env} {pos : Pos}
theorem xs_raiseC {x : PySem.Str} {np cpos : Pos} {e : Expr} {es : List Expr} {rest : List Stmt} {Q : Flow → Shared → Prop} (hh : A.handled = none)
    (h : W w A (eval (.Name x np) env) (fun f s₁ => f = .ref 55 ∧ W w A (spliced (backTo cpos (starEach (e :: es) env))) (fun vs s₂ => vs.length ≤ 10 ∧ Base w s₂.heap ∧ ∀ h' a, Heap.MadeExcOf s₂.heap h' a (.ref 55) vs → E (.ref a) { s₂ with heap := h' }) E s₁) E s)
    (he : starEach (e :: es) env = (false, eval e env) :: starEach es env := by rfl) (hplain : (backTo cpos (starEach es env)).any (·.1) = false := by rfl) :
    W w A (execs (.Raise (some (.Call (.Name x np) (e :: es) [] cpos)) none pos :: rest) env) Q E s := by
  have hpl : (backTo cpos (starEach (e :: es) env)).any (·.1) = false := by rw [he]; show (false || (backTo cpos (starEach es env)).any (·.1)) = false; rw [hplain]; rfl
  refine xs_cons ⟨?_⟩
  refine wpAny_Raise_call_sub (C := 55) (N := 54) (nm := .ofString "CycleError") (q := .ofString "CycleError") (bs := [.type "ValueError"]) (hdct := true) (sn := []) (sub := []) (ab := false) (col := none) (dd := none) (k0 := some (.ref 46)) (k1 := none) (k2 := some (.str (.ofString "CycleError") 239)) (k3 := some (.str (.ofString "CycleError") 247)) (k5 := some (.bool true)) (mN := nsFind (match (ob54 w.params).data with | .dict es _ => es | _ => #[])) PySem.F.excBase_ValueError hh hpl (by kernel_rfl) (um h fun f s₁ h₁ => ⟨h₁.1, ?_⟩)
  have h₂ := um h₁.2 (Q' := fun vs s₂ => vs.length ≤ 10 ∧ Base w s₂.heap ∧ ∀ h' a, Heap.MadeExcOf s₂.heap h' a (.ref 55) vs → E (.ref a) { s₂ with heap := h' }) fun _ _ x => x
  rw [he] at h₂ ⊢
  refine evalArgs_plain (wpAny_mono h₂ (fun vs s₂ h₃ => ?_) fun _ _ x => x)
  refine ⟨rfl, by show vs.length ≤ _; rw [sizeLine_eq]; omega, cy_at h₃.2.1, ?_, h₃.2.2⟩
  have e := h₃.2.1.K 54 (ob54 w.params) (by kernel_rfl)
  exact ⟨_, _, _, e, rfl, by intro e he; simp at he; rcases he with rfl | rfl | rfl | rfl | rfl <;> exact ⟨_, _, rfl⟩, fun _ => rfl⟩
theorem e_fstr {x : PySem.Str} {k : Nat} {p : Pos} {hp : Heap} {gn : Array GenState} {dr : Drawn} {tk : Nat} {os : OsState} {Q : Value → Shared → Prop} (h : ∀ t tk', Q (.str x t) ⟨hp, gn, dr, tk', os⟩) : W w A (eval (.JoinedStr [.Constant (.str x) k p] pos) env) Q E ⟨hp, gn, dr, tk, os⟩ :=
  ⟨wpAny_JoinedStr_one (wpAny_Constant_str (h _ _))⟩
end
theorem nd_inj {α β : Type} {f : α → β} {l : List α} (h : (l.map f).Nodup) {a b : α} (ha : a ∈ l) (hb : b ∈ l) (e : f a = f b) : a = b := by
  obtain ⟨i, hi, e1⟩ := List.getElem_of_mem ha
  obtain ⟨j, hj, e2⟩ := List.getElem_of_mem hb
  have hij : i = j := by
    refine (List.getElem_inj (i := i) (j := j) (h₀ := by simpa using hi) (h₁ := by simpa using hj) h).mp ?_
    simp only [List.getElem_map, e1, e2]; exact e
  subst hij; rw [← e1, e2]
theorem ready_ints {ns : List Nd} (hnd : (ns.map Nd.info).Nodup) : ∀ (l : List Nd), (∀ n ∈ l, n ∈ ns) → ∀ ys, Paired (fun v y => ∃ n ∈ ns, v = Value.ref n.info ∧ ∃ t, y = Value.int n.key t) (((ndK l).map (·.2)).filter (npz ns)) ys → IntsAre ys (readyP l)
  | [], _, ys, h => by cases h; exact .nil
  | n :: l, hl, ys, h => by
    have hn := hl n (.head _)
    have ih := ready_ints hnd l fun m hm => hl m (.tail _ hm)
    simp only [ndK, List.map_cons, List.filter_cons, npz_of hn hnd] at h
    unfold readyP
    rw [List.filter_cons]
    cases hz : n.np == 0 with
    | false =>
      rw [hz] at h
      exact ih ys h
    | true =>
      rw [hz] at h
      cases h with
      | cons h1 h2 =>
        obtain ⟨m, hm, e, t, rfl⟩ := h1
        obtain rfl : n = m := nd_inj hnd hn hm (by simpa using e)
        exact .cons _ _ (ih _ h2)
/-- St for a list of values at hand -/
theorem prep_spec {w : World} {A : Around} {hp : Heap} {gn : Array GenState} {dr : Drawn} {tk : Nat} {os : OsState} {h₀ : Heap} {cs : List Cell} {R : Result → Shared → Prop} {x dx D : Addr} {np nf : Value} {ns : List Nd} {fr : List Env} {Ls : List Addr} {k : Nat}
    (B : Base w h₀) (r : Rm (k + 2) A) (Fr : Frs A fr Ls) (S : St h₀ (sorC w x dx D .none np nf ns ++ cs) hp) (hfr : FrC Ls cs) (hns : ns.length ≤ 100) (hcl : ∀ n ∈ ns, ∀ s ∈ n.succ, ∃ m ∈ ns, m.key = s)
    (h0 : ∀ rl dn vs h' tk', Topo ns dn → (∀ n ∈ ns, n.key ∈ dn) → IntsAre vs (readyP ns) → St h₀ ((rl, LstP vs) :: (sorC w x dx D (.ref rl) np nf ns ++ cs)) h' → R (.ok (.ret .none)) ⟨h', gn, dr, tk', os⟩)
    (h1 : ∀ e t T m ra vs ring h' tk', IsRing (edge ns) ring → ring.length ≤ 200 → IntsAre vs ring → St h₀ ((e, FlyP (.ref 55) t T) :: (T, TbP) :: (t, TupP [m, .ref ra]) :: (ra, LstP vs) :: cs) h' → R (.error (.ref e)) ⟨h', gn, dr, tk', os⟩) :
    C w A (.call (.ref 92) ⟨[.ref x], []⟩) R ⟨hp, gn, dr, tk, os⟩ := by
  have hinfo : (ns.map Nd.info).Nodup := by
    have hnd := S.nd
    have : (ns.map Nd.info).Sublist ((sorC w x dx D .none np nf ns ++ cs).map (·.1)) := by
      rw [List.map_append]
      refine List.Sublist.trans ?_ (List.sublist_append_left _ _)
      unfold sorC
      refine .cons _ (.cons _ (.cons _ ?_))
      clear S hns hcl h0 h1 hnd
      induction ns with
      | nil => exact .refl _
      | cons n ns ih => simp only [List.map_cons, List.flatMap_cons, ndC, List.map_append]; exact (((ih.cons _).cons _).cons_cons _)
    exact hnd.sublist this
  refine callF (k := k + 1) (binds := [(.ofString "self", .ref x)]) (fn92 w) B S r (by kernel_rfl) (by kernel_rfl) (by kernel_rfl) [.ofString "cycle"] fun L h2 tk2 S2 hn2 hk2 => ?_
  have r' := r.deeper (envF w 92 L)
  have Fr' : Frs (A.deeper (envF w 92 L)) (envF w 92 L :: fr) (L :: Ls) := ⟨Around.frames_deeper Fr.all, by rw [List.filterMap_cons]; show L :: _ = _; rw [Fr.ls], fun e he => by
    rcases List.mem_cons.mp he with rfl | he
    · exact ⟨by show ScopeKind.function ≠ _; decide, L, rfl⟩
    · exact Fr.ok e he⟩
  have hmods := S2.notMods B (d := D) (P := DctP w (ndK ns)) (.tail _ (.tail _ (.tail _ (.head _))))
  obtain ⟨oD, eD, pD⟩ := S2.at (a := D) (P := DctP w (ndK ns)) (.tail _ (.tail _ (.tail _ (.head _))))
  refine xs_if (t_cmp (e_att (e_loc S2 rfl (g_own B S2 (cls137 w) (by kernel_rfl) (by kernel_rfl) (.tail _ (.head _)) (.tail _ (.tail _ (.head _))) rfl rfl ?_))))
  refine e_none (isnot_plain rfl (tr_bool (if_n rfl (xs_nil ?_))))
  refine xs_set_att (e_comp (npz ns) (fun v y => ∃ n ∈ ns, v = .ref n.info ∧ ∃ t, y = .int n.key t) [] ?_)
  refine e_meth (pure false) (e_att (e_loc S2 rfl (g_own B S2 (cls137 w) (by kernel_rfl) (by kernel_rfl) (.tail _ (.head _)) (.tail _ (.tail _ (.head _))) rfl rfl ?_)))
  refine m_dict PySem.F.slot_dict_values PySem.F.type_dict_values (dct_of ⟨oD, eD, pD⟩) (cw_met0 (b_values (dct_of ⟨oD, eD, pD⟩) hmods ?_))
  have S3 := S2.keeps (h' := h2.push { cls := .type "dict_values", data := .fields #[.ref D] }) fun _ _ e => Heap.get?_push_of_some _ e
  have mN : ∀ n ∈ ns, ∀ c ∈ ndC n, c ∈ (L, LocP (mkL [(.ofString "self", .ref x)] [.ofString "cycle"])) :: (sorC w x dx D .none np nf ns ++ cs) := fun n hn c hc =>
    .tail _ (List.mem_append_left _ (.tail _ (.tail _ (.tail _ (List.mem_flatMap.mpr ⟨n, hn, hc⟩)))))
  have hv : ∀ y ∈ (ndK ns).map (·.2), ∃ n ∈ ns, y = .ref n.info := fun y hy => by
    simp only [ndK, List.map_map, List.mem_map] at hy
    obtain ⟨n, hn, rfl⟩ := hy; exact ⟨n, hn, rfl⟩
  refine comp_vals_s (s := ⟨h2.push { cls := .type "dict_values", data := .fields #[.ref D] }, gn, dr, _, os⟩) r'.hd ⟨_, Heap.get?_push_size _ rfl, rfl, rfl⟩ (Heap.get?_push_of_some _ eD) pD (by simp [ndK, sizeLine_eq]; omega) ?_ ?_ ?_
  · intro C y s₃ hy S₃
    obtain ⟨n, hn, rfl⟩ := hv y hy
    obtain ⟨h3, g3, d3, tk3, os3⟩ := s₃
    refine t_one (t_cmp (e_att (e_var S₃ (n_np (n := n) B (S3.join S₃) (fun c hc => .tail _ (mN n hn c hc)) fun t tk4 => e_int fun t5 tk5 => i_eq (tr_bool ⟨?_, _, _, rfl, fun _ _ e => e⟩)))))
    rw [npz_of hn hinfo]
  · intro C y s₃ hy _ S₃
    obtain ⟨n, hn, rfl⟩ := hv y hy
    obtain ⟨h3, g3, d3, tk3, os3⟩ := s₃
    exact e_att (e_var S₃ (n_node (n := n) B (S3.join S₃) (fun c hc => .tail _ (mN n hn c hc)) fun t tk4 => ⟨⟨n, hn, rfl, t, rfl⟩, _, _, rfl, fun _ _ e => e⟩))
  · intro rl h4 tk4 ys hk4 hn4 hl4 hP
    have hys : IntsAre ys (readyP ns) := ready_ints hinfo ns (fun _ h => h) ys hP
    have S4 := (S3.lst hk4 hn4 hl4).swap
    refine e_loc S4 rfl (s_own (pre := [_, _, _]) B S4 (cls137 w) (by kernel_rfl) (by kernel_rfl) (.tail _ (.tail _ (.head _))) (by decide) (.inl ⟨rfl, rfl⟩) fun h5 tk5 S5 => ?_)
    have S5 : St h₀ ((L, LocP (mkL [(.ofString "self", .ref x)] [.ofString "cycle"])) :: (rl, LstP ys) :: (sorC w x dx D (.ref rl) np nf ns ++ cs)) h5 := S5
    refine xs_assign (e_meth _ (e_loc S5 rfl (g_meth B S5 (cls137 w) (f := 127) (by kernel_rfl) (by kernel_rfl) (.tail _ (.tail _ (.head _))) (.tail _ (.tail _ (.tail _ (.head _)))) rfl (cw_ref0 (by kernel_rfl) (S5.base B) ?_))))
    have hfr2 : ∀ l, FrC (L :: Ls) ((L, LocP l) :: (rl, LstP ys) :: cs) := fun l L' hL' => by
      rcases List.mem_cons.mp hL' with rfl | hL'
      · exact ⟨_, .head _⟩
      · obtain ⟨lo, hm⟩ := hfr L' hL'; exact ⟨lo, .tail _ (.tail _ hm)⟩
    refine cycle_spec (k := k) B r' Fr' (S5.perm perm2) (hfr2 _) hns hcl ?_ ?_
    · intro dn h6 tk6 hT hall S6
      refine s_loc (S6.perm perm2.symm) fun h7 tk7 S7 => ?_
      refine xs_if (t_val (e_loc S7 rfl ⟨truthy_none (if_n rfl (xs_nil (xs_nil ?_)))⟩))
      exact h0 rl dn ys _ _ hT hall hys S7.tail
    · intro ra vs ring h6 tk6 hring hrl hvs S6
      have S6 := S6.perm (List.perm_middle (l₁ := _ :: sorC w x dx D (.ref rl) np nf ns))
      refine s_loc S6 fun h7 tk7 S7 => ?_
      have hra : ∃ o, h7.get? ra = some o ∧ LstP vs o := S7.at (.tail _ (.head _))
      have hvl := hvs.length
      have hne : (!vs.isEmpty) = true := by
        obtain ⟨k, ks, rfl, _⟩ := hring
        cases vs with
        | nil => simp at hvl
        | cons => rfl
      refine xs_if (t_val (e_loc S7 rfl (tr_list (isList_of hra) (by omega) fun tk8 => if_t hne ?_)))
      refine xs_raiseC r'.hd (e_glob B S7 rfl ⟨rfl, a_cons (e_fstr fun t9 tk9 => a_cons (e_loc S7 rfl (a_nil ⟨by simp, S7.base B, fun h8 e hm => ?_⟩)))⟩)
      obtain ⟨t, he, ht0, ht⟩ := hm.there
      have S8 := S7.add (P := TupP [_, .ref ra]) hm.keeps ht0 ht ⟨0, rfl⟩
      have S9 := S8.cons' (e := e) (P := ExcA (.ref 55) t) (fun c hc q => ?_) ?_ ⟨_, he, rfl, _, rfl, rfl, rfl⟩
      · refine leave_new Fr' rfl S9 (fun L' hL' => ?_) fun T h10 S10 => ?_
        · rcases List.mem_cons.mp hL' with rfl | hL'
          · exact ⟨_, .tail _ (.head _)⟩
          · obtain ⟨lo, hm⟩ := hfr L' hL'
            exact ⟨lo, .tail _ (.tail _ (.tail _ (List.mem_append_right _ (.tail _ hm))))⟩
        · refine h1 e t T (.str (.ofString "nodes are in a cycle") t9) ra vs ring _ _ hring hrl hvs (S10.sublist ?_)
          refine .cons_cons _ (.cons_cons _ (.cons_cons _ (.cons _ (.cons_cons _ ?_))))
          exact ((List.Sublist.refl cs).cons _).trans (List.sublist_append_right _ _)
      · rcases List.mem_cons.mp hc with rfl | hc
        · rw [show t = e from q] at ht; rw [he] at ht; simp at ht
        · obtain ⟨o, ho, _⟩ := S7.held c hc
          rw [q, hm.new] at ho; cases ho
      · cases z : h₀.get? e with
        | none => rfl
        | some o => have := S7.keep _ _ z; rw [hm.new] at this; cases this
end Mine
end TextFQ
section TextFRG
open PySem PySem.W PySem.Spec PySem.Calls PyProof.Rows
set_option Elab.async false
set_option maxRecDepth 100000
set_option linter.unusedVariables false
set_option linter.unusedSimpArgs false
namespace Mine
theorem fn188 (w : World) : FnOk w 188 := FnOk.of rfl rfl rfl rfl rfl rfl
section
variable {w : World} {A : Around} {E : Value → Shared → Prop} {s : Shared} {gn : Array GenState} {dr : Drawn} {tk : Nat} {os : OsState} {env : Env} {pos : Pos} {h₀ : Heap} {fr : List Env} {Ls : List Addr} {L : Addr}
/-- a try that may catch a CycleError, whose clause returns -/
theorem xs_tryC {x n : PySem.Str} {xp hpos : Pos} {body suite rest : List Stmt} {b₀ : Stmt} {l : Loc} {Q : Flow → Shared → Prop}
    (B : Base w h₀) (F : Frs A (env :: fr) Ls) (hf : env.frame = some L) (hl : env.kindOf n = some .local := by rfl) (hk : env.scope.kind = .function := by rfl) (hL : env.locals = L := by rfl)
    (hx : env.kindOf x = some .globalImplicit := by rfl) (hg : env.globals = mainGlobals := by rfl) (hdb : (x == ("__debug__" : PySem.Str)) = false := by rfl) (hxv : nsIn (KH w) mainGlobals x = some (some (.ref 55)))
    (h : W w A (execs body env) (fun f s₁ => Nx w A rest env Q E f s₁) (fun ev s₁ => ∃ e t T cs h₁ tk₁, ev = .ref e ∧ s₁ = ⟨h₁, gn, dr, tk₁, os⟩ ∧ FrC Ls ((L, LocP l) :: cs) ∧ St h₀ ((e, FlyP (.ref 55) t T) :: (T, TbP) :: (L, LocP l) :: cs) h₁ ∧
      ∀ T h tk, St h₀ ((L, LocP (setL l n (.ref e))) :: (e, FlyP (.ref 55) t T) :: (T, TbP) :: cs) h → W w (A.mark (some (.ref e))) (execs (b₀ :: suite) env) (fun f s₂ => ∃ v cs₂ l₂ h₂ tk₂, f = .ret v ∧ s₂ = ⟨h₂, gn, dr, tk₂, os⟩ ∧ St h₀ ((L, LocP l₂) :: cs₂) h₂ ∧ ∀ h₃ tk₃, St h₀ cs₂ h₃ → Q (.ret v) ⟨h₃, gn, dr, tk₃, os⟩) No ⟨h, gn, dr, tk, os⟩) s) :
    W w A (execs (.Try body [.ExceptHandler (some (.Name x xp)) (some n) (b₀ :: suite) hpos] [] [] pos :: rest) env) Q E s := by
  refine xs_cons ⟨wpAny_Try_except (wpAny_mono h.out (fun f s₁ h₁ => ?_) fun ev s₁ h₁ => ?_)⟩
  · cases f with
    | next => exact wpAny_execs_nil h₁
    | _ => exact h₁
  · obtain ⟨e, t, T, cs, h₁, tk₁, rfl, rfl, hc, S, hs⟩ := h₁
    refine note_next F hf S hc fun T2 h₂ S2 => flight S2 fun h₃ S3 => ?_
    refine wpAny_handleBy_cons (codeAny_handlers_test ?_) (by intro q; cases q)
    refine (e_glob B S3 hxv ?_ hk hx hg hdb : W w _ (eval (.Name x xp) env) _ _ _).out
    obtain ⟨oe, he, hcl, _⟩ := S3.head
    refine wpAny_excMatches_sub_self (cy_at (S3.base B)) he hcl (by decide +kernel) ?_
    refine codeAny_handlers_suite_as ?_
    refine flight (S3.updM (pre := [_]) (P' := Tb0) ⟨rfl, fun _ _ => rfl⟩ (let ⟨o, e, p⟩ := S3.at (a := T2) (P := TbP) (.tail _ (.head _)); ⟨o, e, p.tb0⟩)) fun h₄ S4 => ?_
    refine (s_loc (S4.perm (List.perm_middle (l₁ := [_, _]))) (fun h₅ tk₅ S5 => ?_) hk hl hL : W w _ (storeName env n (.ref e)) _ _ _).out
    refine wpAny_mono (hs T2 h₅ tk₅ S5).out (fun f s₂ h₆ => ?_) fun _ _ z => z.elim
    obtain ⟨v, cs₂, l₂, h₂', tk₂, rfl, rfl, S6, hQ⟩ := h₆
    refine wpAny_nameGoes hl (by rw [hL]; exact ns_of_loc S6.head) (by rw [hk]; rfl) fun h₇ m' hn hsb => ?_
    rw [hL] at hn hsb
    obtain ⟨o, es, ep, e7, _⟩ := hn
    exact hQ _ _ (S6.upd0 (P' := fun _ => True) hsb ⟨o, e7, trivial⟩).tail
variable {hp : Heap} {cs : List Cell}
theorem g_args {e t T : Addr} {Q : Value → Shared → Prop} (B : Base w h₀) (S : St h₀ cs hp) (hm : (e, FlyP (.ref 55) t T) ∈ cs) (h : Q (.ref t) ⟨hp, gn, dr, tk + 1, os⟩) : W w A (getAttr (.ref e) (.ofString "args") true) Q E ⟨hp, gn, dr, tk, os⟩ := by
  obtain ⟨oe, he, hcl, vs, hd, h0, _⟩ := S.at hm
  obtain ⟨m, hn, hq⟩ := cy_ns (S.base B)
  exact ⟨args_attr_own PySem.F.attrBase_ValueError (cy_at (S.base B)) hn hq .base he hcl hd h0 h⟩
end
theorem ring_spec {w : World} {A : Around} {hp : Heap} {gn : Array GenState} {dr : Drawn} {tk : Nat} {os : OsState} {h₀ : Heap} {cs : List Cell} {R : Result → Shared → Prop} {x dx D : Addr} {np nf : Value} {ns : List Nd} {fr : List Env} {Ls : List Addr} {k : Nat}
    (B : Base w h₀) (r : Rm (k + 3) A) (Fr : Frs A fr Ls) (S : St h₀ (sorC w x dx D .none np nf ns ++ cs) hp) (hfr : FrC Ls cs) (hns : ns.length ≤ 100) (hcl : ∀ n ∈ ns, ∀ s ∈ n.succ, ∃ m ∈ ns, m.key = s)
    (h0 : ∀ el rl dn vs h' tk', Topo ns dn → (∀ n ∈ ns, n.key ∈ dn) → IntsAre vs (readyP ns) → St h₀ ((el, LstP []) :: (rl, LstP vs) :: (sorC w x dx D (.ref rl) np nf ns ++ cs)) h' → R (.ok (.ret (.ref el))) ⟨h', gn, dr, tk', os⟩)
    (h1 : ∀ ra vs ring h' tk', IsRing (edge ns) ring → ring.length ≤ 200 → IntsAre vs ring → St h₀ ((ra, LstP vs) :: cs) h' → R (.ok (.ret (.ref ra))) ⟨h', gn, dr, tk', os⟩) :
    C w A (.call (.ref 188) ⟨[.ref x], []⟩) R ⟨hp, gn, dr, tk, os⟩ := by
  refine callFn (k := k + 2) (binds := [(.ofString "sorter", .ref x)]) (fn188 w) B S r (by kernel_rfl) (by kernel_rfl) (by kernel_rfl) [.ofString "refused"] fun L h2 tk2 S2 hn2 hk2 => ?_
  have r' := r.deeper (envF w 188 L)
  have Fr' : Frs (A.deeper (envF w 188 L)) (envF w 188 L :: fr) (L :: Ls) := ⟨Around.frames_deeper Fr.all, by rw [List.filterMap_cons]; show L :: _ = _; rw [Fr.ls], fun e he => by
    rcases List.mem_cons.mp he with rfl | he
    · exact ⟨by show ScopeKind.function ≠ _; decide, L, rfl⟩
    · exact Fr.ok e he⟩
  have hfr2 : ∀ l, FrC (L :: Ls) ((L, LocP l) :: cs) := fun l L' hL' => by
    rcases List.mem_cons.mp hL' with rfl | hL'
    · exact ⟨_, .head _⟩
    · obtain ⟨lo, hm⟩ := hfr L' hL'; exact ⟨lo, .tail _ hm⟩
  refine xs_tryC (x := .ofString "CycleError") (n := .ofString "refused") (gn := gn) (dr := dr) (os := os) (l := mkL [(.ofString "sorter", .ref x)] [.ofString "refused"]) B Fr' rfl (hxv := by kernel_rfl) (h := ?_)
  refine xs_expr (e_meth _ (e_loc S2 rfl (g_meth B S2 (cls137 w) (f := 92) (by kernel_rfl) (by kernel_rfl) (.tail _ (.head _)) (.tail _ (.tail _ (.head _))) rfl (cw_ref0 (by kernel_rfl) (S2.base B) ?_))))
  refine prep_spec (k := k) B r' Fr' (S2.perm List.perm_middle.symm) (hfr2 _) hns hcl ?_ ?_
  · intro rl dn vs h3 tk3 hT hall hvs S3
    have S3 := S3.perm (List.perm_middle (l₁ := _ :: sorC w x dx D (.ref rl) np nf ns))
    refine xs_nil (xs_ret (e_list0 ?_))
    exact h0 _ rl dn vs _ _ hT hall hvs ((S3.push_lst []).swap.tail)
  · intro e t T m ra vs ring h3 tk3 hring hrl hvs S3
    refine ⟨e, t, T, (t, TupP [m, .ref ra]) :: (ra, LstP vs) :: cs, h3, _, rfl, rfl, fun L' hL' => ?_, ?_, ?_⟩
    · obtain ⟨lo, hm⟩ := hfr2 (mkL [(.ofString "sorter", .ref x)] [.ofString "refused"]) L' hL'
      rcases List.mem_cons.mp hm with hm | hm
      · exact ⟨lo, hm ▸ .head _⟩
      · exact ⟨lo, .tail _ (.tail _ (.tail _ hm))⟩
    · exact S3.perm (((List.perm_middle (l₁ := [_, _])).cons _).cons _)
    · intro T' h4 tk4 S4
      refine xs_ret (e_sub (e_att (e_loc S4 rfl (g_args B S4 (.tail _ (.head _)) (e_int fun t5 tk5 => ?_)))))
      obtain ⟨ot, et, nt, rfl⟩ := S4.at (a := t) (P := TupP [m, .ref ra]) (.tail _ (.tail _ (.tail _ (.head _))))
      refine ⟨tail_any (T := "tuple") ⟨_, et, rfl⟩ slot_tuple_getitem.lookup (getItem_tuple (items := #[m, .ref ra]) (j := 1) (x := .ref ra) ⟨_, et, rfl, nt, rfl⟩ (by decide) (by decide) rfl rfl ?_) (by rfl)⟩
      refine ⟨.ref ra, (ra, LstP vs) :: cs, _, _, _, rfl, rfl, S4.sublist (.cons_cons _ (.cons _ (.cons _ (.cons _ (.refl _))))), fun h6 tk6 S6 => h1 ra vs ring _ _ hring hrl hvs S6⟩
end Mine
end TextFRG
section TextFK
open PySem PySem.W PySem.Spec PySem.Calls PyProof.Rows
set_option Elab.async false
set_option maxRecDepth 100000
set_option linter.unusedVariables false
set_option linter.unusedSimpArgs false
namespace Mine
theorem meets_bool_list (l : Addr) (items : Array Value) (hz : (items.size : Int) < 2 ^ 63) : Meets (Builtin.«bool.__new__» ⟨[.type "bool", .ref l], []⟩) (fun _ R s => s.heap.IsList l items ∧ ∀ tk, R (.ok (.ret (.bool (!items.isEmpty)))) { s with toks := tk }) :=
  Meets.of_wp fun prog w A R s hs => by
    obtain ⟨hp, g, d, tk, os⟩ := s
    obtain ⟨hl, hs⟩ := hs
    have f1 := F.conv_sub_bool
    repeat (any_goals (first | assumption | (with_reducible refine wpAny_truthy_list hl hz ?_) | wp_step))
    all_goals first | exact ⟨_, rfl, hs _⟩ | skip
section
variable {w : World} {A : Around} {E : Value → Shared → Prop} {s : Shared} {hp : Heap} {gn : Array GenState} {dr : Drawn} {tk : Nat} {os : OsState} {env : Env} {pos : Pos} {Q : Value → Shared → Prop}
theorem b_bool {l : Addr} {vs : List Value} (hl : hp.IsList l vs.toArray) (hz : vs.length ≤ 1000) (h : ∀ tk', Q (.bool (!vs.isEmpty)) ⟨hp, gn, dr, tk', os⟩) : W w A (call (.type "bool") [.ref l]) Q E ⟨hp, gn, dr, tk, os⟩ := by
  have e : (!vs.toArray.isEmpty) = !vs.isEmpty := by cases vs <;> simp
  exact ⟨call_bool_1 (meets_bool_list l vs.toArray (by simp; omega)) ⟨hl, fun tk' => ⟨rfl, e ▸ h tk'⟩⟩⟩
theorem e_or {x y : Expr} (h : W w A (eval x env) (fun v s₁ => W w A (truthy v) (fun c s₂ => if c = true then Q v s₂ else W w A (eval y env) Q E s₂) E s₁) E s) : W w A (eval (.BoolOp .Or [x, y] pos) env) Q E s :=
  ⟨BoolOp_or (um h fun v s₁ h₁ => um h₁ fun c s₂ h₂ => by
    cases c with
    | false => exact BoolOp_one h₂.out
    | true => exact h₂)⟩
end
theorem fn106 (w : World) : FnOk w 106 := FnOk.of rfl rfl rfl rfl rfl rfl
theorem active_spec {w : World} {A : Around} {hp : Heap} {gn : Array GenState} {dr : Drawn} {tk : Nat} {os : OsState} {h₀ : Heap} {cs : List Cell} {R : Result → Shared → Prop} {x dx D rl : Addr} {np nf : Int} {tn tf : Tok} {ns : List Nd} {vs : List Value} {k : Nat}
    (B : Base w h₀) (r : Rm (k + 1) A) (S : St h₀ ((rl, LstP vs) :: (sorC w x dx D (.ref rl) (.int np tn) (.int nf tf) ns ++ cs)) hp) (hz : vs.length ≤ 1000)
    (h : ∀ h' tk', St h₀ ((rl, LstP vs) :: (sorC w x dx D (.ref rl) (.int np tn) (.int nf tf) ns ++ cs)) h' → R (.ok (.ret (.bool (decide (nf < np) || !vs.isEmpty)))) ⟨h', gn, dr, tk', os⟩) :
    C w A (.call (.ref 106) ⟨[.ref x], []⟩) R ⟨hp, gn, dr, tk, os⟩ := by
  refine callFn (k := k) (binds := [(.ofString "self", .ref x)]) (fn106 w) B S r (by kernel_rfl) (by kernel_rfl) (by kernel_rfl) [] fun L h2 tk2 S2 hn2 hk2 => ?_
  refine xs_if (t_cmp (e_att (e_loc S2 rfl (g_own B S2 (cls137 w) (by kernel_rfl) (by kernel_rfl) (.tail _ (.tail _ (.head _))) (.tail _ (.tail _ (.tail _ (.head _)))) rfl rfl ?_))))
  refine e_none (is_plain rfl (tr_bool (if_n rfl (xs_nil ?_))))
  refine xs_ret (e_or (e_cmp (e_att (e_loc S2 rfl (g_own B S2 (cls137 w) (by kernel_rfl) (by kernel_rfl) (.tail _ (.tail _ (.head _))) (.tail _ (.tail _ (.tail _ (.head _)))) rfl rfl ?_)))))
  refine e_att (e_loc S2 rfl (g_own B S2 (cls137 w) (by kernel_rfl) (by kernel_rfl) (.tail _ (.tail _ (.head _))) (.tail _ (.tail _ (.tail _ (.head _)))) rfl rfl (i_lt (tr_bool ?_))))
  cases hlt : decide (nf < np) with
  | true =>
    rw [hlt] at h
    exact if_t rfl (h h2 _ S2.tail)
  | false =>
    refine if_n rfl (e_call (e_blt B S2 rfl PyProof.Rows.boot_bool (by decide) (cw_typ (a_cons (e_att (e_loc S2 rfl (g_own B S2 (cls137 w) (by kernel_rfl) (by kernel_rfl) (.tail _ (.tail _ (.head _))) (.tail _ (.tail _ (.tail _ (.head _)))) rfl rfl (a_nil (b_bool (isList_of (S2.at (.tail _ (.head _)))) hz fun tk3 => ?_)))))))))
    rw [hlt] at h
    exact h h2 tk3 S2.tail
end Mine
end TextFK
section TextFG
open PySem PySem.W PySem.Spec PySem.Calls PyProof.Rows
set_option Elab.async false
set_option maxRecDepth 100000
set_option linter.unusedVariables false
set_option linter.unusedSimpArgs false
namespace Mine
def psetnp (k : Int) (f : Int → Int) : List PN → List PN
  | [] => []
  | m :: r => if m.1 = k then (m.1, f m.2.1, m.2.2) :: r else m :: psetnp k f r
theorem psetnp_at {pre post : List Nd} {n : Nd} {k : Int} (f : Int → Int) (hk : n.key = k) (hp : ∀ m ∈ pre, m.key ≠ k) : psetnp k f ((pre ++ n :: post).map Nd.pu) = (pre ++ { n with np := f n.np } :: post).map Nd.pu := by
  induction pre with
  | nil => simp [psetnp, Nd.pu, hk]
  | cons m pre ih =>
    have hm : ¬ m.pu.1 = k := hp m (.head _)
    simp only [List.cons_append, List.map_cons, psetnp, if_neg hm]
    rw [ih fun q hq => hp q (.tail _ hq)]
theorem pu_keys {l l' : List Nd} (h : l.map Nd.pu = l'.map Nd.pu) : l.map Nd.key = l'.map Nd.key := by
  have := congrArg (List.map Prod.fst) h
  simpa [List.map_map, Function.comp_def, Nd.pu] using this
theorem psetnp_keys (k : Int) (f : Int → Int) : ∀ l : List PN, (psetnp k f l).map (·.1) = l.map (·.1)
  | [] => rfl
  | m :: r => by unfold psetnp; split <;> simp [psetnp_keys k f r]
theorem fn99 (w : World) : FnOk w 99 := FnOk.of rfl rfl rfl rfl rfl rfl
structure GetD where
  ns : List Nd
  nd : Option Value
theorem getready_spec {w : World} {A : Around} {hp : Heap} {gn : Array GenState} {dr : Drawn} {tk : Nat} {os : OsState} {h₀ : Heap} {cs : List Cell} {R : Result → Shared → Prop} {x dx D rl : Addr} {np : Int} {tn : Tok} {nf : Value} {ns : List Nd} {vs : List Value} {rk : List Int} {k : Nat}
    (B : Base w h₀) (r : Rm (k + 1) A) (S : St h₀ ((rl, LstP vs) :: (sorC w x dx D (.ref rl) (.int np tn) nf ns ++ cs)) hp) (hz : vs.length ≤ 100) (hi : IntsAre vs rk) (hrk : ∀ k ∈ rk, k ∈ ns.map Nd.key)
    (h : ∀ tu t' ns' h' tk', ns'.map Nd.pu = rk.foldl (fun l k => psetnp k (fun _ => -1) l) (ns.map Nd.pu) → St h₀ ((tu, TupP vs) :: (rl, LstP []) :: (sorC w x dx D (.ref rl) (.int (np + rk.length) t') nf ns' ++ cs)) h' → R (.ok (.ret (.ref tu))) ⟨h', gn, dr, tk', os⟩) :
    C w A (.call (.ref 99) ⟨[.ref x], []⟩) R ⟨hp, gn, dr, tk, os⟩ := by
  have hlen := hi.length
  refine callFn (k := k) (binds := [(.ofString "self", .ref x)]) (fn99 w) B S r (by kernel_rfl) (by kernel_rfl) (by kernel_rfl) [.ofString "result", .ofString "n2i", .ofString "node"] fun L h2 tk2 S2 hn2 hk2 => ?_
  have r' := r.deeper (envF w 99 L)
  refine xs_if (t_cmp (e_att (e_loc S2 rfl (g_own B S2 (cls137 w) (by kernel_rfl) (by kernel_rfl) (.tail _ (.tail _ (.head _))) (.tail _ (.tail _ (.tail _ (.head _)))) rfl rfl ?_))))
  refine e_none (is_plain rfl (tr_bool (if_n rfl (xs_nil ?_))))
  refine xs_assign (e_call (e_blt B S2 rfl PyProof.Rows.boot_tuple (by decide) (cw_typ (a_cons (e_att (e_loc S2 rfl (g_own B S2 (cls137 w) (by kernel_rfl) (by kernel_rfl) (.tail _ (.tail _ (.head _))) (.tail _ (.tail _ (.tail _ (.head _)))) rfl rfl (a_nil ?_))))))))
  refine ⟨call_tuple_list (isList_of (S2.at (a := rl) (P := LstP vs) (.tail _ (.head _)))) (fun h3 hk3 => ?_) (by rw [List.size_toArray, sizeLine_eq]; omega)⟩
  have S3 := ((S2.keeps hk3).push (P := TupP vs) (o := { cls := .type "tuple", data := .seq vs.toArray }) ⟨0, rfl⟩).swap
  refine s_loc S3 fun h4 tk4 S4 => ?_
  generalize h3.objs.size = tu at S4
  refine xs_assign (e_att (e_loc S4 rfl (g_own B S4 (cls137 w) (by kernel_rfl) (by kernel_rfl) (.tail _ (.tail _ (.tail _ (.head _)))) (.tail _ (.tail _ (.tail _ (.tail _ (.head _))))) rfl rfl (s_loc S4 fun h5 tk5 S5 => ?_))))
  obtain ⟨oT, eT, pT⟩ := S5.at (a := tu) (P := TupP vs) (.tail _ (.head _))
  have S6 := S5.updM (pre := [_]) (P' := fun q => q = oT) ⟨rfl, fun _ _ => rfl⟩ ⟨oT, eT, rfl⟩
  refine xs_for (e_loc S6 rfl ?_)
  refine for_tuple (L := L) (fun d : GetD => [(.ofString "self", some (.ref x)), (.ofString "result", some (.ref tu)), (.ofString "n2i", some (.ref D)), (.ofString "node", d.nd)])
    (fun d => (tu, fun q => q = oT) :: (rl, LstP vs) :: (sorC w x dx D (.ref rl) (.int np tn) nf d.ns ++ cs))
    (fun i d => d.ns.map Nd.pu = (rk.take i).foldl (fun l k => psetnp k (fun _ => -1) l) (ns.map Nd.pu) ∧ d.ns.map Nd.key = ns.map Nd.key) ⟨ns, none⟩ (items := vs) (ol := oT) r'.hd (by obtain ⟨k, rfl⟩ := pT; exact ⟨rfl, k, rfl⟩) (.inr fun d => .head _) S6 ⟨rfl, rfl⟩ ?_ ?_
  · rintro i ⟨N, nd⟩ v h7 tk7 I oI hvi ⟨hJ, hJk⟩ S7
    obtain ⟨p, tp, rfl, hpi⟩ := ints_get hi hvi
    refine a_name (s_loc S7 fun h8 tk8 S8 => ?_)
    have hD : h8.DictOf (intKind PR w) D (ndK N) := dct_of (S8.at (a := D) (P := DctP w (ndK N)) (.tail _ (.tail _ (.tail _ (.tail _ (.tail _ (.tail _ (.head _))))))))
    rcases ndK_find (ns := N) (g := p) with ⟨pre, n, post, rfl, e1, e2, e3⟩ | ⟨e1, _⟩
    · refine xs_set_att (e_glob B S8 rfl (e_sub (e_loc S8 rfl (e_loc S8 rfl (sub_dict hD e3 fun tk9 => m_setnp [_, _, _, _] B S8 fun h10 tk10 S10 => xs_nil ⟨⟨_, some (.int p tp)⟩, _, _, rfl, ⟨?_, ?_⟩, S10⟩)))))
      · rw [foldl_take_succ' _ _ _ _ _ hpi, ← hJ]
        exact (psetnp_at (fun _ => -1) e1 e2).symm
      · simpa using hJk
    · have := hrk p (List.mem_of_getElem? hpi)
      rw [← hJk] at this
      obtain ⟨m, hm, rfl⟩ := List.mem_map.mp this
      exact absurd rfl (e1 m hm)
  · rintro ⟨N, nd⟩ h7 tk7 ⟨hJ, hJk⟩ S7
    rw [hlen, List.take_length] at hJ
    refine xs_expr (e_meth (pure false) (e_att (e_loc S7 rfl (g_own B S7 (cls137 w) (by kernel_rfl) (by kernel_rfl) (.tail _ (.tail _ (.tail _ (.head _)))) (.tail _ (.tail _ (.tail _ (.tail _ (.head _))))) rfl rfl ?_))))
    refine m_lst PySem.F.slot_list_clear PySem.F.type_list_clear (S7.at (a := rl) (P := LstP vs) (.tail _ (.tail _ (.head _)))) (cw_met0 (b_clear (pre := [_, _]) S7 (by omega) fun h8 S8 => ?_))
    refine xs_aug_att (e_loc S8 rfl (g_own B S8 (cls137 w) (by kernel_rfl) (by kernel_rfl) (.tail _ (.tail _ (.tail _ (.head _)))) (.tail _ (.tail _ (.tail _ (.tail _ (.head _))))) rfl rfl ?_))
    have S9 := S8.updM (pre := [_]) (P' := TupP vs) ⟨rfl, fun _ _ => rfl⟩ (let ⟨o, e, p⟩ := S8.at (a := tu) (P := fun q => q = oT) (.tail _ (.head _)); ⟨o, e, p ▸ pT⟩)
    refine e_call (e_blt B S9 rfl boot_len (by decide) (cw_blt (a_cons (e_loc S9 rfl (a_nil (b_lent (S9.at (a := tu) (P := TupP vs) (.tail _ (.head _))) (by omega) fun t10 tk10 => ii_add fun t11 tk11 => ?_))))))
    refine s_own (pre := [_, _, _, _]) B S9 (cls137 w) (by kernel_rfl) (by kernel_rfl) (.tail _ (.tail _ (.tail _ (.head _)))) (by decide) (.inl ⟨rfl, rfl⟩) fun h12 tk12 S12 => ?_
    refine xs_ret (e_loc S12 rfl (h tu t11 N _ _ hJ ?_))
    rw [hlen] at S12
    exact S12.tail
end Mine
end TextFG
section TextFN
open PySem PySem.W PySem.Spec PySem.Calls PyProof.Rows
set_option Elab.async false
set_option maxRecDepth 100000
set_option linter.unusedVariables false
set_option linter.unusedSimpArgs false
namespace Mine
section
variable {w : World} {A : Around} {E E' : Value → Shared → Prop} {s : Shared} {hp : Heap} {gn : Array GenState} {dr : Drawn} {tk : Nat} {os : OsState} {env : Env} {h₀ : Heap} {cs : List Cell} {L : Addr}
variable {x : PySem.Str} {p : Pos} {body : List Stmt} {Q : Flow → Shared → Prop} {D : Type} (loc : D → Loc) (Rc : D → List Cell) (J : Nat → D → Prop) (d0 : D)
/-- a for over a list whose cell stays, while others turn -/
theorem for_listP {la : Addr} {items : List Value} (hh : A.handled = none) (hm : ∀ i d, J i d → ∃ P, (la, P) ∈ Rc d ∧ ∀ o, P o → LstP items o) (S : St h₀ ((L, LocP (loc d0)) :: Rc d0) hp) (hJ : J 0 d0)
    (turn : ∀ i d v h tk I oI, items[i]? = some v → J i d → St h₀ ((L, LocP (loc d)) :: (I, fun q => q = oI) :: Rc d) h → TurnW w A env h₀ L gn dr os x p body Q loc Rc J I oI i v h tk)
    (done : ∀ d h tk, J items.length d → St h₀ ((L, LocP (loc d)) :: Rc d) h → Q .next ⟨h, gn, dr, tk, os⟩) :
    W w A (pyIter (.ref la)) (fun it s₂ => C w A (.forLoop (.Name x p) it body [] env) (LR Q) s₂) E ⟨hp, gn, dr, tk, os⟩ := by
  obtain ⟨P0, hm0, hP0⟩ := hm 0 d0 hJ
  obtain ⟨o0, e0, p0⟩ := S.at (.tail _ hm0)
  have hd : hp.IsList la items.toArray := isList_of ⟨o0, e0, hP0 _ p0⟩
  have hne : la ≠ hp.objs.size := Nat.ne_of_lt (Heap.lt_size e0)
  refine ⟨wpAny_pyIter_list hd ?_⟩
  have Sp := (S.push (P := fun _ => True) (o := { cls := .type "list_iterator", data := .fields #[.ref la, .int 0 0] }) trivial).swap
  refine for_walk_g (s := ⟨_, gn, dr, tk, os⟩) (Walks.list hh hp.objs.size la hne items.toArray) (by simp) (fun i h z => let ⟨o, e, _⟩ := z.1; ⟨o, e⟩) loc Rc J d0 ?_ Sp ⟨⟨_, Heap.get?_push_size _ rfl, rfl, rfl⟩, hd.push _⟩ hJ ?_ (by simpa using done)
  · rintro i d d' h h' oI _ hJ' ⟨hi1, hi2⟩ S1 S2
    obtain ⟨P, hm1, hP⟩ := hm _ _ hJ'
    obtain ⟨o1, e1, p1⟩ := S2.at (.tail _ (.tail _ hm1))
    refine ⟨?_, isList_of ⟨o1, e1, hP _ p1⟩⟩
    obtain ⟨o, e, r⟩ := hi1
    obtain ⟨oa, ea, qa⟩ := S1.at (a := hp.objs.size) (P := fun q => q = oI) (.tail _ (.head _))
    obtain ⟨ob, eb, qb⟩ := S2.at (a := hp.objs.size) (P := fun q => q = oI) (.tail _ (.head _))
    have : o = oI := by have := e.symm.trans ea; cases this; exact qa
    subst this
    exact ⟨ob, eb, qb ▸ r⟩
  · intro i d v h tk' oI hi hJi hv S1
    exact turn i d v h tk' _ oI (by simpa using hv) hJi S1
end
def pget (l : List PN) (k : Int) : Option PN := l.find? fun m => m.1 = k
def pnp (l : List PN) (k : Int) : Int := ((pget l k).map fun m => m.2.1).getD 0
def dec1 (st : List PN × List Int) (s : Int) : List PN × List Int := (psetnp s (· - 1) st.1, if pnp st.1 s - 1 == 0 then st.2 ++ [s] else st.2)
theorem dec1_snd (st : List PN × List Int) (s : Int) : (dec1 st s).2 = if pnp st.1 s - 1 == 0 then st.2 ++ [s] else st.2 := rfl
def done1 (st : List PN × List Int) (g : Int) : List PN × List Int := (((pget st.1 g).map fun m => m.2.2).getD []).foldl dec1 (psetnp g (fun _ => -2) st.1, st.2)
def doneP (st : List PN × List Int) (gs : List Int) : List PN × List Int := gs.foldl done1 st
theorem pget_at {pre post : List Nd} {n : Nd} {k : Int} (hk : n.key = k) (hp : ∀ m ∈ pre, m.key ≠ k) : pget ((pre ++ n :: post).map Nd.pu) k = some n.pu := by
  induction pre with
  | nil => simp [pget, Nd.pu, hk]
  | cons m pre ih =>
    have hm : ¬ m.pu.1 = k := hp m (.head _)
    have := ih fun q hq => hp q (.tail _ hq)
    simp only [pget, List.cons_append, List.map_cons, List.find?_cons, hm, decide_false] at this ⊢
    exact this
def Nd.st (n : Nd) : Nd := { n with np := 0 }
theorem st_keys {l l' : List Nd} (h : l.map Nd.st = l'.map Nd.st) : l.map Nd.key = l'.map Nd.key := by
  have := congrArg (List.map Nd.key) h
  simpa [List.map_map, Function.comp_def, Nd.st] using this
theorem st_mem {l l' : List Nd} (h : l.map Nd.st = l'.map Nd.st) {n : Nd} (hn : n ∈ l) : ∃ m ∈ l', m.st = n.st := by
  have : n.st ∈ l'.map Nd.st := h ▸ List.mem_map_of_mem (f := Nd.st) hn
  obtain ⟨m, hm, e⟩ := List.mem_map.mp this
  exact ⟨m, hm, e⟩
theorem st_set {pre post : List Nd} {n : Nd} {v : Int} : (pre ++ { n with np := v } :: post).map Nd.st = (pre ++ n :: post).map Nd.st := by simp [Nd.st]
theorem bind120 (w : World) (x : Value) (D : Addr) : ∀ vs : List Value, vs.length ≤ 5 → al1 (bindArgs (objF w.params 120) ⟨x :: vs, []⟩) D = some (tupO vs, [(.ofString "self", x), (.ofString "nodes", .ref D)])
  | [], _ => by kernel_rfl
  | [_], _ => by kernel_rfl
  | [_, _], _ => by kernel_rfl
  | [_, _, _], _ => by kernel_rfl
  | [_, _, _, _], _ => by kernel_rfl
  | [_, _, _, _, _], _ => by kernel_rfl
  | _ :: _ :: _ :: _ :: _ :: _ :: _, h => by simp at h
theorem fn120 (w : World) : FnOk w 120 := FnOk.of rfl rfl rfl rfl rfl rfl
structure DonD where
  ns : List Nd
  rd : List Value
  nf : Int
  tf : Tok
  nd : Option Value
  ni : Option Value
  st : Option Value
  su : Option Value
  si : Option Value
def donL (T x D : Addr) (d : DonD) : Loc := [(.ofString "nodes", some (.ref T)), (.ofString "self", some (.ref x)), (.ofString "n2i", some (.ref D)), (.ofString "node", d.nd), (.ofString "nodeinfo", d.ni), (.ofString "stat", d.st), (.ofString "successor", d.su), (.ofString "successor_info", d.si)]
theorem done_spec {w : World} {A : Around} {hp : Heap} {gn : Array GenState} {dr : Drawn} {tk : Nat} {os : OsState} {h₀ : Heap} {cs : List Cell} {R : Result → Shared → Prop} {x dx D rl : Addr} {nf : Int} {tf : Tok} {np : Value} {ns : List Nd} {vs rv : List Value} {rk rd : List Int} {k : Nat}
    (B : Base w h₀) (r : Rm (k + 1) A) (S : St h₀ ((rl, LstP rv) :: (sorC w x dx D (.ref rl) np (.int nf tf) ns ++ cs)) hp) (hz : vs.length ≤ 5) (hi : IntsAre vs rk) (hrv : IntsAre rv rd) (hrl : rd.length ≤ 100) (hs : Short 5 ns) (hcl : ∀ n ∈ ns, ∀ s ∈ n.succ, s ∈ ns.map Nd.key)
    (hpre : ∀ i g, rk[i]? = some g → ∃ m, pget (doneP (ns.map Nd.pu, rd) (rk.take i)).1 g = some m ∧ m.2.1 = -1)
    (h : ∀ t' ns' rv' h' tk', ns'.map Nd.pu = (doneP (ns.map Nd.pu, rd) rk).1 → ns'.map Nd.st = ns.map Nd.st → IntsAre rv' (doneP (ns.map Nd.pu, rd) rk).2 → St h₀ ((rl, LstP rv') :: (sorC w x dx D (.ref rl) np (.int (nf + rk.length) t') ns' ++ cs)) h' → R (.ok (.ret .none)) ⟨h', gn, dr, tk', os⟩) :
    C w A (.call (.ref 120) ⟨.ref x :: vs, []⟩) R ⟨hp, gn, dr, tk, os⟩ := by
  have hlen := hi.length
  refine callFV (k := k) (vs := vs) (fn120 w) B S r (fun D => bind120 w _ D vs hz) (by kernel_rfl) (fun D => by kernel_rfl) [.ofString "n2i", .ofString "node", .ofString "nodeinfo", .ofString "stat", .ofString "successor", .ofString "successor_info"] fun T L h1 tk1 S1 hk => ?_
  have r' := r.deeper (envF w 120 L)
  refine xs_if (t_cmp (e_att (e_loc S1 rfl (g_own B S1 (cls137 w) (by kernel_rfl) (by kernel_rfl) (.tail _ (.tail _ (.tail _ (.head _)))) (.tail _ (.tail _ (.tail _ (.tail _ (.head _))))) rfl rfl ?_))))
  refine e_none (is_plain rfl (tr_bool (if_n rfl (xs_nil ?_))))
  refine xs_assign (e_att (e_loc S1 rfl (g_own B S1 (cls137 w) (by kernel_rfl) (by kernel_rfl) (.tail _ (.tail _ (.tail _ (.head _)))) (.tail _ (.tail _ (.tail _ (.tail _ (.head _))))) rfl rfl (s_loc S1 fun h5 tk5 S5 => ?_))))
  obtain ⟨oT, eT, pT⟩ := S5.at (a := T) (P := TupP vs) (.tail _ (.head _))
  have S6 := S5.updM (pre := [_]) (P' := fun q => q = oT) ⟨rfl, fun _ _ => rfl⟩ ⟨oT, eT, rfl⟩
  refine xs_for (e_loc S6 rfl ?_)
  refine for_tuple (L := L) (donL T x D)
    (fun d => (T, fun q => q = oT) :: (rl, LstP d.rd) :: (sorC w x dx D (.ref rl) np (.int d.nf d.tf) d.ns ++ cs))
    (fun i d => d.nf = nf + i ∧ d.ns.map Nd.st = ns.map Nd.st ∧ d.ns.map Nd.pu = (doneP (ns.map Nd.pu, rd) (rk.take i)).1 ∧ IntsAre d.rd (doneP (ns.map Nd.pu, rd) (rk.take i)).2 ∧ d.rd.length ≤ 100 + 5 * i)
    ⟨ns, rv, nf, tf, none, none, none, none, none⟩ (items := vs) (ol := oT) r'.hd (by obtain ⟨k, rfl⟩ := pT; exact ⟨rfl, k, rfl⟩) (.inr fun d => .head _) S6 ⟨by simp, rfl, rfl, hrv, by have := hrv.length; simp only; omega⟩ ?_ ?_
  · rintro i ⟨N, rvi, nfi, tfi, d1, d2, d3, d4, d5⟩ v h7 tk7 I oI hvi ⟨hnf, hst, hpu, hri, hrlen⟩ S7
    obtain ⟨p, tp, rfl, hpi⟩ := ints_get hi hvi
    have hilt : i < 5 := by have := (List.getElem?_eq_some_iff.mp hvi).1; omega
    simp only at hnf hst hpu hri hrlen
    subst hnf
    refine a_name (s_loc S7 fun h8 tk8 S8 => ?_)
    obtain ⟨m, hm1, hm2⟩ := hpre i p hpi
    rw [← hpu] at hm1
    have hmods := S8.notMods B (d := D) (P := DctP w (ndK N)) (.tail _ (.tail _ (.tail _ (.tail _ (.tail _ (.tail _ (.head _)))))))
    have hD : h8.DictOf (intKind PR w) D (ndK N) := dct_of (S8.at (a := D) (P := DctP w (ndK N)) (.tail _ (.tail _ (.tail _ (.tail _ (.tail _ (.tail _ (.head _))))))))
    rcases ndK_find (ns := N) (g := p) with ⟨pre, n, post, rfl, e1, e2, e3⟩ | ⟨e1, _⟩
    · rw [pget_at e1 e2] at hm1
      have hm1 : n.pu = m := Option.some.inj hm1
      have hnp : n.np = -1 := by rw [← hm1] at hm2; exact hm2
      refine xs_if (t_cmp (e_named (e_meth _ (e_loc S8 rfl ?_))))
      refine m_dict PySem.F.slot_dict_get PySem.F.type_dict_get hD (cw_met (a_cons (e_loc S8 rfl (a_nil (m_get1 hD hmods fun tk9 => ?_)))))
      rw [e3]
      refine s_loc S8 fun h9 tk9 S9 => e_none (is_plain rfl (tr_bool (if_n rfl (xs_nil ?_))))
      refine xs_assign (e_att (e_loc S9 rfl (n_np B S9 (sor_sub [_, _, _, _]) fun t10 tk10 => s_loc S9 fun h10 tk10 S10 => ?_)))
      rw [hnp] at S10
      refine xs_if (t_cmp (e_loc S10 rfl (e_glob B S10 rfl (i_ne (tr_bool (if_n rfl (xs_nil ?_)))))))
      refine xs_set_att (e_glob B S10 rfl (e_loc S10 rfl (m_setnp [_, _, _, _] B S10 fun h11 tk11 S11 => ?_)))
      have hst0 : (pre ++ { n with np := -2 } :: post).map Nd.st = ns.map Nd.st := st_set.trans hst
      have hpu0 : (pre ++ { n with np := -2 } :: post).map Nd.pu = psetnp p (fun _ => -2) ((pre ++ n :: post).map Nd.pu) := (psetnp_at (fun _ => -2) e1 e2).symm
      have hsucc : ∃ q ∈ ns, q.st = n.st := st_mem hst (by simp)
      obtain ⟨n0, hn0, hn0e⟩ := hsucc
      have hsc : n0.succ = n.succ := congrArg Nd.succ (a₁ := n0.st) (a₂ := n.st) hn0e
      have hsl : n.succ.length ≤ 5 := hsc ▸ hs n0 hn0
      have hmem : ∃ q ∈ (pre ++ { n with np := -2 } :: post), q.st = n.st := ⟨{ n with np := -2 }, by simp, rfl⟩
      have hsub := sor_sub (w := w) (x := x) (dx := dx) (D := D) (rd := .ref rl) (np := np) (nf := .int (nf + i) tfi) (pre := pre) (post := post) (n := { n with np := -2 }) (cs := cs)
      obtain ⟨osu, esu, psu, isu⟩ := S11.held (n.su, SucP n.sv n.succ) (hsub [_, _, _, _] _ (.tail _ (.tail _ (.head _))))
      have hd1 : done1 ((pre ++ n :: post).map Nd.pu, (doneP (ns.map Nd.pu, rd) (rk.take i)).2) p = n.succ.foldl dec1 ((pre ++ { n with np := -2 } :: post).map Nd.pu, (doneP (ns.map Nd.pu, rd) (rk.take i)).2) := by
        unfold done1
        rw [pget_at e1 e2, hpu0]; rfl
      refine xs_for (e_att (e_loc S11 rfl (n_succ (n := { n with np := -2 }) B S11 (hsub [_, _, _, _]) fun tk12 => ?_)))
      generalize hN : (pre ++ { n with np := -2 } :: post : List Nd) = N0 at S11 hst0 hpu0 hmem hd1
      refine for_listP (L := L) (fun d : DonD => donL T x D { d with nd := some (.int p tp), ni := some (.ref n.info), st := some (.int (-1) t10) })
        (fun d : DonD => (rl, LstP d.rd) :: (sorC w x dx D (.ref rl) np (.int d.nf d.tf) d.ns ++ ((I, fun q => q = oI) :: (T, fun q => q = oT) :: cs)))
        (fun j (d : DonD) => d.nf = nf + i ∧ d.tf = tfi ∧ d.ns.map Nd.st = ns.map Nd.st ∧ (∃ q ∈ d.ns, Nd.st q = n.st) ∧ d.ns.map Nd.pu = ((n.succ.take j).foldl dec1 (N0.map Nd.pu, (doneP (ns.map Nd.pu, rd) (rk.take i)).2)).1 ∧ IntsAre d.rd ((n.succ.take j).foldl dec1 (N0.map Nd.pu, (doneP (ns.map Nd.pu, rd) (rk.take i)).2)).2 ∧ d.rd.length ≤ 100 + 5 * i + j)
        ⟨N0, rvi, nf + i, tfi, none, none, none, d4, d5⟩ (items := n.sv) r'.hd ?_ (S11.perm ?_) ⟨rfl, rfl, hst0, hmem, rfl, hri, hrlen⟩ ?_ ?_
      · rintro j d ⟨_, _, _, ⟨q, hq, hqe⟩, _⟩
        refine ⟨SucP q.sv q.succ, ?_, fun o ho => ?_⟩
        · have : q.su = n.su := congrArg Nd.su (a₁ := q.st) (a₂ := n.st) hqe
          rw [← this]
          exact .tail _ (List.mem_append_left _ (.tail _ (.tail _ (.tail _ (List.mem_flatMap.mpr ⟨q, hq, .tail _ (.tail _ (.head _))⟩)))))
        · have : q.sv = n.sv := congrArg Nd.sv (a₁ := q.st) (a₂ := n.st) hqe
          rw [← this]; exact ho.1
      · exact List.Perm.cons _ (perm2 (a := (rl, LstP rvi) :: sorC w x dx D (.ref rl) np (.int (nf + i) tfi) N0))
      · rintro j ⟨M, rvj, nfj, tfj, c1, c2, c3, c4, c5⟩ v h12 tk13 I2 oI2 hvj ⟨hnf2, htf2, hst2, hmem2, hpu2, hri2, hrl2⟩ S12
        simp only at hnf2 htf2 hst2 hmem2 hpu2 hri2 hrl2
        subst hnf2 htf2
        obtain ⟨q, tq, rfl, hqj⟩ := ints_get isu hvj
        have hjlt : j < 5 := by have := (List.getElem?_eq_some_iff.mp hqj).1; omega
        refine a_name (s_loc S12 fun h13 tk13 S13 => ?_)
        have hD2 : h13.DictOf (intKind PR w) D (ndK M) := dct_of (S13.at (a := D) (P := DctP w (ndK M)) (.tail _ (.tail _ (.tail _ (.tail _ (.tail _ (.head _)))))))
        rcases ndK_find (ns := M) (g := q) with ⟨pre2, n2, post2, rfl, f1, f2, f3⟩ | ⟨f1, _⟩
        · refine xs_assign (e_sub (e_loc S13 rfl (e_loc S13 rfl (sub_dict hD2 f3 fun tk14 => s_loc S13 fun h14 tk14 S14 => ?_))))
          refine xs_aug_att (e_loc S14 rfl (n_np B S14 (sor_sub [_, _, _]) fun t15 tk15 => e_int fun t16 tk16 => ii_sub fun t17 tk17 => ?_))
          refine m_setnp [_, _, _] B S14 fun h15 tk15 S15 => ?_
          have hpu3 := psetnp_at (post := post2) (· - 1) f1 f2
          have hnp2 : pnp ((pre2 ++ n2 :: post2).map Nd.pu) q = n2.np := by unfold pnp; rw [pget_at f1 f2]; rfl
          have hfold := foldl_take_succ' dec1 (N0.map Nd.pu, (doneP (ns.map Nd.pu, rd) (rk.take i)).2) n.succ j q hqj
          have hst3 : (pre2 ++ { n2 with np := n2.np - 1 } :: post2).map Nd.st = ns.map Nd.st := st_set.trans hst2
          have hmem3 : ∃ q ∈ (pre2 ++ { n2 with np := n2.np - 1 } :: post2), q.st = n.st := by
            obtain ⟨z, hz, hze⟩ := hmem2
            obtain ⟨z', hz', hze'⟩ := st_mem (l := pre2 ++ n2 :: post2) (l' := pre2 ++ { n2 with np := n2.np - 1 } :: post2) st_set.symm hz
            exact ⟨z', hz', hze'.trans hze⟩
          have hpu4 : (pre2 ++ { n2 with np := n2.np - 1 } :: post2).map Nd.pu = ((n.succ.take (j + 1)).foldl dec1 (N0.map Nd.pu, (doneP (ns.map Nd.pu, rd) (rk.take i)).2)).1 := by
            rw [hfold, ← hpu3, hpu2]; rfl
          refine xs_if (t_cmp (e_att (e_loc S15 rfl (n_np (n := { n2 with np := n2.np - 1 }) B S15 (sor_sub [_, _, _]) fun t18 tk18 => e_int fun t19 tk19 => i_eq (tr_bool ?_)))))
          have hr4 : ((n.succ.take (j + 1)).foldl dec1 (N0.map Nd.pu, (doneP (ns.map Nd.pu, rd) (rk.take i)).2)).2 = if n2.np - 1 == 0 then ((n.succ.take j).foldl dec1 (N0.map Nd.pu, (doneP (ns.map Nd.pu, rd) (rk.take i)).2)).2 ++ [q] else ((n.succ.take j).foldl dec1 (N0.map Nd.pu, (doneP (ns.map Nd.pu, rd) (rk.take i)).2)).2 := by
            rw [hfold, dec1_snd, ← hpu2, hnp2]
          cases hc : (n2.np - 1 == 0) with
          | true =>
            refine if_t rfl ?_
            refine xs_expr (e_meth (pure false) (e_att (e_loc S15 rfl (g_own B S15 (cls137 w) (by kernel_rfl) (by kernel_rfl) (.tail _ (.tail _ (.tail _ (.head _)))) (.tail _ (.tail _ (.tail _ (.tail _ (.head _))))) rfl rfl ?_))))
            refine m_lst PySem.F.slot_list_append PySem.F.type_list_append (S15.at (a := rl) (P := LstP rvj) (.tail _ (.tail _ (.head _)))) (cw_met (a_cons (e_loc S15 rfl (a_nil (b_append (pre := [_, _]) S15 (by show rvj.length ≤ _; omega) fun h20 S20 => xs_nil (xs_nil ?_))))))
            refine ⟨⟨pre2 ++ { n2 with np := n2.np - 1 } :: post2, rvj ++ [Value.int q tq], nf + i, tfj, none, none, none, some (.int q tq), some (.ref n2.info)⟩, _, _, rfl, ⟨rfl, rfl, hst3, hmem3, hpu4, ?_, ?_⟩, S20⟩
            · rw [hr4, hc]; exact hri2.append (.cons _ _ .nil)
            · simp; omega
          | false =>
            refine if_n rfl (xs_nil (xs_nil ?_))
            refine ⟨⟨pre2 ++ { n2 with np := n2.np - 1 } :: post2, rvj, nf + i, tfj, none, none, none, some (.int q tq), some (.ref n2.info)⟩, _, _, rfl, ⟨rfl, rfl, hst3, hmem3, hpu4, ?_, ?_⟩, S15⟩
            · rw [hr4, hc]; exact hri2
            · simp; omega
        · have hk1 := st_keys hst2
          have := hcl n0 hn0 q (hsc ▸ List.mem_of_getElem? hqj)
          rw [← hk1] at this
          obtain ⟨z, hz, rfl⟩ := List.mem_map.mp this
          exact absurd rfl (f1 z hz)
      · rintro ⟨M, rvj, nfj, tfj, c1, c2, c3, c4, c5⟩ h12 tk13 ⟨hnf2, htf2, hst2, hmem2, hpu2, hri2, hrl2⟩ S12
        simp only at hnf2 htf2 hst2 hmem2 hpu2 hri2 hrl2
        subst hnf2 htf2
        have hsvl : n.sv.length = n.succ.length := isu.length
        rw [hsvl, List.take_length, ← hd1, hpu] at hpu2 hri2
        have S13 := S12.perm (cs' := (L, LocP (donL T x D ⟨M, rvj, nf + i, tfj, some (.int p tp), some (.ref n.info), some (.int (-1) t10), c4, c5⟩)) :: (I, fun q => q = oI) :: (T, fun q => q = oT) :: (rl, LstP rvj) :: (sorC w x dx D (.ref rl) np (.int (nf + i) tfj) M ++ cs)) ?_
        · refine xs_aug_att (e_loc S13 rfl (g_own B S13 (cls137 w) (by kernel_rfl) (by kernel_rfl) (.tail _ (.tail _ (.tail _ (.tail _ (.head _))))) (.tail _ (.tail _ (.tail _ (.tail _ (.tail _ (.head _)))))) rfl rfl (e_int fun t14 tk14 => ii_add fun t15 tk15 => ?_)))
          refine s_own (pre := [_, _, _, _, _]) B S13 (cls137 w) (by kernel_rfl) (by kernel_rfl) (.tail _ (.tail _ (.tail _ (.tail _ (.head _))))) (by decide) (.inl ⟨rfl, rfl⟩) fun h16 tk16 S16 => xs_nil ?_
          have hfo := foldl_take_succ' done1 (ns.map Nd.pu, rd) rk i p hpi
          refine ⟨⟨M, rvj, nf + i + 1, t15, some (.int p tp), some (.ref n.info), some (.int (-1) t10), c4, c5⟩, _, _, rfl, ⟨?_, hst2, ?_, ?_, ?_⟩, S16⟩
          · simp only; omega
          · rw [hpu2]; show _ = ((rk.take (i + 1)).foldl done1 (ns.map Nd.pu, rd)).1; rw [hfo]; rfl
          · show IntsAre rvj ((rk.take (i + 1)).foldl done1 (ns.map Nd.pu, rd)).2; rw [hfo]; exact hri2
          · simp only; omega
        · exact List.Perm.cons _ (perm2 (a := (rl, LstP rvj) :: sorC w x dx D (.ref rl) np (.int (nf + i) tfj) M)).symm
    · have : pget (N.map Nd.pu) p = none := List.find?_eq_none.mpr fun z hz => by
        obtain ⟨q, hq, rfl⟩ := List.mem_map.mp hz
        rw [decide_eq_true_eq]; exact e1 q hq
      rw [this] at hm1; cases hm1
  · rintro ⟨N, rvi, nfi, tfi, d1, d2, d3, d4, d5⟩ h7 tk7 ⟨hnf, hst, hpu, hri, hrlen⟩ S7
    simp only at hnf hst hpu hri hrlen
    rw [hlen, List.take_length] at hpu hri
    rw [hlen] at hnf
    subst hnf
    exact xs_nil (h tfi N rvi _ _ hpu hst hri S7.tail.tail)
end Mine
end TextFN
section TextSLQ
open PySem PySem.W PySem.Spec PySem.Calls PyProof.Rows
set_option Elab.async false
set_option maxRecDepth 100000
set_option linter.unusedVariables false
set_option linter.unusedSimpArgs false
namespace Mine
inductive Trip (F : Value → Value → List Cell → Prop) : List Value → List Value → List (List Cell) → Prop
  | nil : Trip F [] [] []
  | cons {a b z l₁ l₂ l₃} : F a b z → Trip F l₁ l₂ l₃ → Trip F (a :: l₁) (b :: l₂) (z :: l₃)
theorem Trip.snoc {F : Value → Value → List Cell → Prop} {a b : Value} {z : List Cell} : ∀ {l₁ l₂ : List Value} {l₃ : List (List Cell)}, Trip F l₁ l₂ l₃ → F a b z → Trip F (l₁ ++ [a]) (l₂ ++ [b]) (l₃ ++ [z])
  | _, _, _, .nil, h => .cons h .nil
  | _, _, _, .cons h₁ t, h => .cons h₁ (Trip.snoc t h)
theorem Trip.length {F : Value → Value → List Cell → Prop} : ∀ {l₁ l₂ : List Value} {l₃ : List (List Cell)}, Trip F l₁ l₂ l₃ → l₁.length = l₂.length
  | _, _, _, .nil => rfl
  | _, _, _, .cons h₁ t => by simp [t.length]
def NsP : Obj → Prop := fun o => ∃ es ep, o.data = .dict es ep ∧ StrKeys es
theorem ns_of_nsP {h : Heap} {a : Addr} (x : ∃ o, h.get? a = some o ∧ NsP o) : ∃ m, h.Ns a m := let ⟨o, e, es, ep, d, k⟩ := x; ⟨nsFind es, o, es, ep, e, d, k, fun _ => rfl⟩
theorem St.drop {h₀ h h' : Heap} {pre post : List Cell} {a : Addr} {P : Obj → Prop} (S : St h₀ (pre ++ (a, P) :: post) h) (hk : ∀ b o, b ≠ a → h.get? b = some o → h'.get? b = some o) : St h₀ (pre ++ post) h' := by
  have hI := S.new (a, P) (by simp)
  have S1 := S.perm (List.perm_middle (l₁ := pre))
  have hn := S1.nd
  rw [List.map_cons, List.nodup_cons] at hn
  have S2 := S1.tail
  refine ⟨fun b o e => hk b o (fun q => ?_) (S2.keep b o e), fun c hc => ?_, S2.new, S2.nd⟩
  · rw [q, hI] at e; cases e
  · obtain ⟨o, e, p⟩ := S2.held c hc
    exact ⟨o, hk _ _ (fun q => hn.1 (q ▸ List.mem_map_of_mem (f := (·.1)) hc)) e, p⟩
section
variable {w : World} {A : Around} {E : Value → Shared → Prop} {s : Shared} {env : Env} {Q : Value → Shared → Prop} {pos pos' : Pos}
variable {elt iter : Expr} {x : PySem.Str} {px : Pos} {scope : Scope} {cl : List (PySem.Str × Addr)} {F : Value → Value → List Cell → Prop} {use : Option (Value → Sem Unit)}
structure CompC (w : World) (A : Around) (env : Env) (scope : Scope) (cl : List (PySem.Str × Addr)) (x : PySem.Str) (elt : Expr) (F : Value → Value → List Cell → Prop) (Fin : Addr → Addr → Shared → Prop) (xv : Value) (s₁ : Shared) : Prop where
  out : ∃ l items, xv = .ref l ∧ s₁.heap.IsList l items.toArray ∧ items.length ≤ 1000 ∧
    (∀ C v cs h tk, v ∈ items → St s₁.heap ((C + 1, CellP (some v)) :: cs) h → W w A (eval elt (compEnvC scope ((x, C + 1) :: cl) C env)) (fun y s₄ => ∃ cy h' tk', s₄ = { s₁ with heap := h', toks := tk' } ∧ F v y cy ∧ St s₁.heap (cy ++ (C + 1, CellP (some v)) :: cs) h') No { s₁ with heap := h, toks := tk }) ∧
    (∀ D C h' tk ys zs, Trip F items ys zs → St s₁.heap ((D, LstP ys) :: (C, NsP) :: zs.flatten) h' → Fin D C { s₁ with heap := h', toks := tk })
def FinV (Q : Value → Shared → Prop) (D C : Addr) (s' : Shared) : Prop := ∀ h', Heap.SameBut C s'.heap h' → Q (.ref D) { s' with heap := h' }
def FinA (w : World) (A : Around) (E : Value → Shared → Prop) (env : Env) (y : PySem.Str) (py : Pos) (rest : List Stmt) (Q : Flow → Shared → Prop) (D C : Addr) (s' : Shared) : Prop :=
  W w A (assign (.Name y py) env (.ref D)) (fun _ s'' => ∃ m, s''.heap.Ns C m ∧ ∀ h', Heap.SameBut C s''.heap h' → W w A (execs rest env) Q E { s'' with heap := h' }) E s'
theorem compC_loop {h₁ H : Heap} {gn : Array GenState} {dr : Drawn} {tk : Nat} {os : OsState} {I D C l : Addr} {ol : Obj} {items : List Value} {R : Result → Shared → Prop} (hh : A.handled = none) (hx : (relabel scope env).names.lookup x = some .cell) (hkind : scope.kind = .function)
    (el : h₁.get? l = some ol) (hol : ol.cls = .type "list" ∧ ∃ n, ol.data = .seq items.toArray n) (hz : items.length ≤ 1000) (S : St h₁ [(C + 1, CellP none), (C, NsP), (D, LstP []), (I, ItP l 0)] H)
    (helt : ∀ C v cs h tk, v ∈ items → St h₁ ((C + 1, CellP (some v)) :: cs) h → W w A (eval elt (compEnvC scope ((x, C + 1) :: cl) C env)) (fun y s₄ => ∃ cy h' tk', s₄ = ⟨h', gn, dr, tk', os⟩ ∧ F v y cy ∧ St h₁ (cy ++ (C + 1, CellP (some v)) :: cs) h') No ⟨h, gn, dr, tk, os⟩)
    (hfin : ∀ h' tk ys zs, Trip F items ys zs → St h₁ ((D, LstP ys) :: (C, NsP) :: zs.flatten) h' → R (.ok .next) ⟨h', gn, dr, tk, os⟩) :
    codeAny (model PR w) A (.compStart (.ListComp elt [⟨.Name x px, iter, [], 0⟩] scope pos) 0 (.ref I) (.ref D) (compEnvC scope ((x, C + 1) :: cl) C env)) R ⟨H, gn, dr, tk, os⟩ := by
  have hne : l ≠ I := by
    rintro rfl
    have := S.new (l, ItP l 0) (by simp)
    rw [el] at this; cases this
  have Wk := Walks.list (prog := PR) (w := w) (A := A) hh I l hne items.toArray
  have loop : codeAny (model PR w) A (.compLoop (.ListComp elt [⟨.Name x px, iter, [], 0⟩] scope pos) 0 (.ref I) (.ref D) (compEnvC scope ((x, C + 1) :: cl) C env)) R ⟨H, gn, dr, tk, os⟩ := by
    refine codeAny_compLoop_list (fun k s' => ∃ i v0 h tk ys zs, k = items.length - i ∧ i ≤ items.length ∧ s' = ⟨h, gn, dr, tk, os⟩ ∧ Trip F (items.take i) ys zs ∧ St h₁ ((C + 1, CellP v0) :: (D, LstP ys) :: (I, ItP l i) :: (C, NsP) :: zs.flatten) h) ?_ items.length ⟨0, none, H, tk, [], [], rfl, Nat.zero_le _, rfl, .nil, S.perm ?_⟩
    · rintro k s' ⟨i, v0, h, tk, ys, zs, rfl, hi, rfl, hT, S1⟩
      have hit : h.IsListIter I l i := S1.at (a := I) (P := ItP l i) (.tail _ (.tail _ (.head _)))
      have hls : h.IsList l items.toArray := ⟨ol, S1.keep _ _ el, hol⟩
      by_cases hlt : i < items.length
      · refine Wk.item i _ _ _ (by simpa using hlt) ⟨hit, hls⟩ fun v h' tk' hP hI' hk => ?_
        have S2 := S1.but (pre := [_, _]) (P' := ItP l (i + 1)) (fun b o hb e => hk b o (by simpa using hb) e) hI'.1
        have hv : items[i]? = some v := by simpa using hP
        refine wpAny_mono (a_name (s_cel (i := 0) (c := C + 1) (v₀ := v0) S2 rfl (fun h3 S3 => ?_) (by simp [compEnvC]) hkind hx : W w A (storeName (compEnvC scope ((x, C + 1) :: cl) C env) x v) _ No _)).out (fun _ _ q => q) fun _ _ q => q.elim
        refine wpAny_mono (helt C v _ h3 _ (List.mem_of_getElem? hv) S3).out (fun y s4 h4 => ?_) fun _ _ q => q.elim
        obtain ⟨cy, h5, tk5, rfl, hF, S5⟩ := h4
        have hyl : ys.length ≤ 1000 := by have := hT.length; simp at this; omega
        refine wpAny_mono (b_append (w := w) (A := A) (E := No) (pre := cy ++ [(C + 1, CellP (some v))]) (l := D) (vs := ys) (v := y) (post := (I, ItP l (i + 1)) :: (C, NsP) :: zs.flatten) (by simpa using S5) hyl fun h6 S6 => ?_).out (fun _ _ q => q) fun _ _ q => q.elim
        refine ⟨items.length - (i + 1), by omega, i + 1, some v, h6, _, ys ++ [y], zs ++ [cy], rfl, hlt, rfl, ?_, S6.perm ?_⟩
        · rw [List.take_add_one, hv]; exact hT.snoc hF
        · simp only [List.flatten_append, List.flatten_cons, List.flatten_nil, List.append_nil]
          refine List.Perm.trans (l₂ := ((C + 1, CellP (some v)) :: (D, LstP (ys ++ [y])) :: (I, ItP l (i + 1)) :: (C, NsP) :: zs.flatten) ++ cy) ?_ (List.Perm.refl _)
          rw [List.append_assoc]
          exact List.perm_append_comm
      · have hin : i = items.length := by omega
        subst hin
        refine Wk.done _ _ _ (by simpa using ⟨hit, hls⟩) fun h' tk' hk => ?_
        have S2 := (S1.perm (List.perm_middle (l₁ := [_, _]))).tail
        rw [List.take_length] at hT
        refine hfin h' tk' ys zs hT ?_
        have S3 : St h₁ ((C + 1, CellP v0) :: (D, LstP ys) :: (C, NsP) :: zs.flatten) h' := by
          have hI := S1.new (I, ItP l items.length) (by simp)
          refine ⟨fun b o e => hk b o (fun q => ?_) (S2.keep b o e), fun c hc => ?_, S2.new, S2.nd⟩
          · simp only [List.mem_singleton] at q; rw [q, hI] at e; cases e
          · obtain ⟨o, e, p⟩ := S2.held c hc
            refine ⟨o, hk _ _ (fun q => ?_) e, p⟩
            simp only [List.mem_singleton] at q
            have := (S1.perm (List.perm_middle (l₁ := [_, _]))).nd
            rw [List.map_cons, List.nodup_cons] at this
            exact this.1 (q ▸ List.mem_map_of_mem (f := (·.1)) hc)
        exact S3.tail
    · exact List.Perm.cons _ (List.perm_append_comm (l₁ := [_]) (l₂ := [_, _]))
  exact codeAny_compStart_list loop (wpAny_pyIter_listiter (S.at (a := I) (P := ItP l 0) (by simp)) loop)
theorem compC_core (hh : A.handled = none) (h : W w A (eval iter env) (fun xv s₁ => CompC w A env scope cl x elt F (fun D C s' => compPost (model PR w) A E use Q (.ref D) C (.ok .next) s') xv s₁) E s)
    (hclos : closureFor scope env = pure cl) (hkind : scope.kind = .function) (hnames : namesOk scope = true) (hx : (relabel scope env).names.lookup x = some .cell)
    (hcf : ∀ n, cellsFrom n scope.names cl = (x, n) :: cl) (hpc : ∀ h, pushCells h scope.names = h.push { cls := .type "cell", data := .cell none }) (hs : ∀ x, foldedSetIterable iter env x = pure x) :
    wpAny (model PR w) A (comprehension (.ListComp elt [⟨.Name x px, iter, [], 0⟩] scope pos) scope env pos' (newList []) false (eval iter env) use) Q E s := by
  refine wpAny_comprehension_free (use := use) (Q := Q) rfl hs hclos hkind (fun x hx => of_decide_eq_true (List.all_eq_true.mp hnames x hx)) (um h fun xv s₁ h₁ => ?_)
  obtain ⟨l, items, rfl, hl, hz, helt, hfin⟩ := h₁.out
  obtain ⟨hp, gn, dr, tk, os⟩ := s₁
  obtain ⟨ol, el, hol⟩ := hl
  refine wpAny_pyIter_list ⟨ol, el, hol⟩ ?_
  have S0 : St hp [] hp := St.nil fun _ _ e => e
  have S1 := S0.push (P := ItP l 0) (o := { cls := .type "list_iterator", data := .fields #[.ref l, .int 0 0] }) ⟨rfl, rfl⟩
  refine wpAny_newObj_type ?_
  have S2 := S1.push_lst []
  simp only [newFunctionEnv, Option.isSome_some, if_true]
  refine wpAny_bind (wpAny_alloc ?_)
  have S3 := S2.push (P := NsP) (o := { cls := .type "dict", data := .dict #[] }) ⟨#[], 0, rfl, by intro e he; simp at he⟩
  refine wpAny_bind (wpAny_layCells _ (fun name kind cells => by cases hkc : kind == NameKind.cell <;> simp [hkc]) _ _ _ _ ?_)
  rw [hcf, hpc]
  have S4 := S3.push (P := CellP none) (o := { cls := .type "cell", data := .cell none }) rfl
  simp only [Heap.size_push] at S4 ⊢
  refine wpAny_pure ?_
  exact compC_loop hh hx hkind el hol hz S4 helt fun h' tk ys zs => hfin _ _ h' tk ys zs
/-- a comprehension whose name is captured -/
theorem e_compC (F : Value → Value → List Cell → Prop) (cl : List (PySem.Str × Addr)) (hh : A.handled = none)
    (h : W w A (eval iter env) (fun xv s₁ => CompC w A env scope cl x elt F (FinV Q) xv s₁) E s)
    (hclos : closureFor scope env = pure cl := by rfl) (hkind : scope.kind = .function := by rfl) (hnames : namesOk scope = true := by rfl) (hx : (relabel scope env).names.lookup x = some .cell := by rfl)
    (hcf : ∀ n, cellsFrom n scope.names cl = (x, n) :: cl := by intro _; rfl) (hpc : ∀ h, pushCells h scope.names = h.push { cls := .type "cell", data := .cell none } := by intro _; rfl) (hs : ∀ x, foldedSetIterable iter env x = pure x := by intro _; rfl) :
    W w A (eval (.ListComp elt [⟨.Name x px, iter, [], 0⟩] scope pos) env) Q E s := by
  constructor
  rw [eval_ListComp]
  refine compC_core (F := F) (use := none) hh (h.mono fun xv s₁ h₁ => ?_) hclos hkind hnames hx hcf hpc hs
  obtain ⟨l, items, rfl, hl, hz, helt, hfin⟩ := h₁.out
  refine ⟨l, items, rfl, hl, hz, helt, fun D C h' tk ys zs hT S => ?_⟩
  obtain ⟨m, hm⟩ := ns_of_nsP (S.at (a := C) (P := NsP) (.tail _ (.head _)))
  exact ⟨m, hm, fun h'' hs'' => hfin D C h' tk ys zs hT S h'' hs''⟩
/-- its source is a list -/
theorem compC_list {hp : Heap} {gn : Array GenState} {dr : Drawn} {tk : Nat} {os : OsState} {l : Addr} {items : List Value} (hl : hp.IsList l items.toArray) (hz : items.length ≤ 1000)
    (helt : ∀ C v cs h tk, v ∈ items → St hp ((C + 1, CellP (some v)) :: cs) h → W w A (eval elt (compEnvC scope ((x, C + 1) :: cl) C env)) (fun y s₄ => ∃ cy h' tk', s₄ = ⟨h', gn, dr, tk', os⟩ ∧ F v y cy ∧ St hp (cy ++ (C + 1, CellP (some v)) :: cs) h') No ⟨h, gn, dr, tk, os⟩)
    (hfin : ∀ D h' tk ys zs, Trip F items ys zs → St hp ((D, LstP ys) :: zs.flatten) h' → Q (.ref D) ⟨h', gn, dr, tk, os⟩) :
    CompC w A env scope cl x elt F (FinV Q) (.ref l) ⟨hp, gn, dr, tk, os⟩ := by
  refine ⟨l, items, rfl, hl, hz, helt, fun D C h' tk ys zs hT S h'' hs => ?_⟩
  exact hfin D h'' tk ys zs hT (S.drop (pre := [_]) fun b o hb e => hs.extBut b o hb e)
/-- it is stored in a local -/
theorem xs_assign_compC {h₀ : Heap} {y : PySem.Str} {py spos : Pos} {rest : List Stmt} {Q : Flow → Shared → Prop} (F : Value → Value → List Cell → Prop) (cl : List (PySem.Str × Addr)) (hh : A.handled = none)
    (h : W w A (eval iter env) (fun xv s₁ => CompC w A env scope cl x elt F (FinA w A E env y py rest Q) xv s₁) E s)
    (hsw : swapsWith (.ListComp elt [⟨.Name x px, iter, [], 0⟩] scope pos) (some (.Name y py)) spos.line env = pure true := by rfl)
    (hclos : closureFor scope env = pure cl := by rfl) (hkind : scope.kind = .function := by rfl) (hnames : namesOk scope = true := by rfl) (hx : (relabel scope env).names.lookup x = some .cell := by rfl)
    (hcf : ∀ n, cellsFrom n scope.names cl = (x, n) :: cl := by intro _; rfl) (hpc : ∀ h, pushCells h scope.names = h.push { cls := .type "cell", data := .cell none } := by intro _; rfl) (hs : ∀ x, foldedSetIterable iter env x = pure x := by intro _; rfl) :
    W w A (execs (.Assign [.Name y py] (.ListComp elt [⟨.Name x px, iter, [], 0⟩] scope pos) spos :: rest) env) Q E s := by
  refine xs_cons ⟨?_⟩
  rw [exec_Assign_Name_used _ _ _ _ hsw]
  refine wpAny_bind (wpAny_standAt (wpAny_bind ?_))
  show wpAny _ A (do let _ ← comprehension (.ListComp elt [⟨.Name x px, iter, [], 0⟩] scope pos) scope env _ (newList []) false (eval iter env) (some (assign (.Name y py) env))) _ _ s
  refine wpAny_bind (wpAny_mono (compC_core (F := F) (use := some (assign (.Name y py) env)) (Q := fun _ s' => W w A (execs rest env) Q E s') hh (h.mono fun xv s₁ h₁ => ?_) hclos hkind hnames hx hcf hpc hs) (fun _ s' hq => wpAny_pure (wpAny_pure hq)) fun _ _ e => e)
  obtain ⟨l, items, rfl, hl, hz, helt, hfin⟩ := h₁.out
  exact ⟨l, items, rfl, hl, hz, helt, fun D C h' tk ys zs hT S => (hfin D C h' tk ys zs hT S).out⟩
theorem compC_listA {h₀ hp : Heap} {gn : Array GenState} {dr : Drawn} {tk : Nat} {os : OsState} {l L : Addr} {items : List Value} {lo : Loc} {cs : List Cell} {y : PySem.Str} {py : Pos} {rest : List Stmt} {Q : Flow → Shared → Prop} (S : St h₀ ((L, LocP lo) :: cs) hp) (hl : hp.IsList l items.toArray) (hz : items.length ≤ 1000)
    (helt : ∀ C v cs h tk, v ∈ items → St hp ((C + 1, CellP (some v)) :: cs) h → W w A (eval elt (compEnvC scope ((x, C + 1) :: cl) C env)) (fun y s₄ => ∃ cy h' tk', s₄ = ⟨h', gn, dr, tk', os⟩ ∧ F v y cy ∧ St hp (cy ++ (C + 1, CellP (some v)) :: cs) h') No ⟨h, gn, dr, tk, os⟩)
    (hfin : ∀ D h' tk ys zs, Trip F items ys zs → St h₀ ((L, LocP (setL lo y (.ref D))) :: (D, LstP ys) :: (zs.flatten ++ cs)) h' → W w A (execs rest env) Q E ⟨h', gn, dr, tk, os⟩)
    (hk : env.scope.kind = .function := by rfl) (hy : env.kindOf y = some .local := by rfl) (hL : env.locals = L := by rfl) :
    CompC w A env scope cl x elt F (FinA w A E env y py rest Q) (.ref l) ⟨hp, gn, dr, tk, os⟩ := by
  refine ⟨l, items, rfl, hl, hz, helt, fun D C h' tk ys zs hT S' => ?_⟩
  have SJ := S.join S'
  have S1 := SJ.perm (List.perm_middle (l₁ := (D, LstP ys) :: (C, NsP) :: zs.flatten))
  refine a_name (s_loc S1 (fun h2 tk2 S2 => ?_) hk hy hL)
  obtain ⟨m, hm⟩ := ns_of_nsP (S2.at (a := C) (P := NsP) (.tail _ (.tail _ (.head _))))
  exact ⟨m, hm, fun h3 hs => hfin D h3 _ ys zs hT (S2.drop (pre := [_, _]) fun b o hb e => hs.extBut b o hb e)⟩
end
section
variable {w : World} {A : Around} {E : Value → Shared → Prop} {s : Shared} {env : Env} {pos : Pos} {h₀ : Heap} {cs : List Cell} {L : Addr} {lo : Loc}
variable {elt iter : Expr} {x : PySem.Str} {px : Pos} {ifs : List Expr} {scope : Scope} {cl : List (PySem.Str × Addr)} {p : Value → Bool} {F : Value → Value → Prop}
/-- x = [.. for .. in range(n) if ..] -/
structure CompA (w : World) (A : Around) (env : Env) (scope : Scope) (cl : List (PySem.Str × Addr)) (x : PySem.Str) (ifs : List Expr) (elt : Expr) (p : Value → Bool) (F : Value → Value → Prop) (h₀ : Heap) (L : Addr) (y : PySem.Str) (K : Shared → Prop) (xv : Value) (s₁ : Shared) : Prop where
  out : ∃ r n t u v lo cs, xv = .ref r ∧ IsRange s₁.heap r 0 (n : Nat) 1 t u v ∧ n ≤ 1000 ∧ St h₀ ((L, LocP lo) :: cs) s₁.heap ∧
    (∀ C i t s₃, i < n → St s₁.heap [(C, VarP x (.int (i : Nat) t))] s₃.heap → W w A (cTests ifs (compEnvC scope cl C env)) (fun ok s₄ => ok = p (.int (i : Nat) t) ∧ Keeps s₃ s₄) No s₃) ∧
    (∀ C i t s₃, i < n → p (.int (i : Nat) t) = true → St s₁.heap [(C, VarP x (.int (i : Nat) t))] s₃.heap → W w A (eval elt (compEnvC scope cl C env)) (fun y s₄ => F (.int (i : Nat) t) y ∧ Keeps s₃ s₄) No s₃) ∧
    (∀ D h' tk ys vs, IntsAre vs (upZ n) → Paired F (vs.filter p) ys → St h₀ ((L, LocP (setL lo y (.ref D))) :: (D, LstP ys) :: cs) h' → K { s₁ with heap := h', toks := tk })
theorem xs_assign_compR {y : PySem.Str} {py spos : Pos} {rest : List Stmt} {Q : Flow → Shared → Prop} (p : Value → Bool) (F : Value → Value → Prop) (cl : List (PySem.Str × Addr)) (hh : A.handled = none)
    (h : W w A (eval iter env) (fun xv s₁ => CompA w A env scope cl x ifs elt p F h₀ L y (fun s' => W w A (execs rest env) Q E s') xv s₁) E s)
    (hsw : swapsWith (.ListComp elt [⟨.Name x px, iter, ifs, 0⟩] scope pos) (some (.Name y py)) spos.line env = pure true := by rfl)
    (hclos : closureFor scope env = pure cl := by rfl) (hcell : noCell scope = true := by rfl) (hkind : scope.kind = .function := by rfl) (hnames : namesOk scope = true := by rfl)
    (hx : scope.names.lookup x = some .local := by rfl) (hk : env.scope.kind = .function := by rfl) (hy : env.kindOf y = some .local := by rfl) (hL : env.locals = L := by rfl) (hs : ∀ x, foldedSetIterable iter env x = pure x := by intro _; rfl) :
    W w A (execs (.Assign [.Name y py] (.ListComp elt [⟨.Name x px, iter, ifs, 0⟩] scope pos) spos :: rest) env) Q E s := by
  refine xs_cons ⟨wpAny_Assign_ListComp_free p F hsw hclos (fun x hx => of_decide_eq_true (List.all_eq_true.mp hcell x hx)) hkind (fun x hx => of_decide_eq_true (List.all_eq_true.mp hnames x hx)) hx hy (by rw [hk]; rfl) (um h fun xv s₁ h₁ => ?_) hs⟩
  obtain ⟨r, n, t, u, v, lo, cs, rfl, hr, hz, S, tests, helt, done⟩ := h₁.out
  have hs1 : sizeLine = 16777216 := by decide
  have hsize : Builtin.Range.rangeSize 0 n 1 = (n : Int) := by rw [rangeSize_one]; split <;> omega
  have hsm : Builtin.Range.small 0 n 1 = true := small_one (by decide) (by decide) (by omega) (by omega)
  have W0 := Walks.range (prog := PR) (w := w) hh s₁.heap.objs.size 0 1 n
  have hv : ∀ i v, i < n → (∃ t, v = Value.int (0 + (i : Nat) * 1) t) → ∃ t, v = Value.int (i : Nat) t := fun i v _ ⟨t, e⟩ => ⟨t, by simpa using e⟩
  refine wpAny_pyIter_range hr hsm ?_
  have kp : ∀ b o, s₁.heap.get? b = some o → (s₁.heap.push { cls := .type "range_iterator", data := .fields #[rawInt 0, rawInt (Builtin.Range.rangeSize 0 n 1), rawInt 1] }).get? b = some o := fun _ _ e => Heap.get?_push_of_some _ e
  have ne : ∀ b o, s₁.heap.get? b = some o → b ∉ [s₁.heap.objs.size] := fun b o e hm => by
    have := Heap.lt_size e; rw [List.mem_singleton.mp hm] at this; exact Nat.lt_irrefl _ this
  have hLns := ns_of_loc S.head
  have hS : ∀ C v (s₃ : Shared) m₃, (s₁.heap.push { cls := .type "range_iterator", data := .fields #[rawInt 0, rawInt (Builtin.Range.rangeSize 0 n 1), rawInt 1] }).objs.size ≤ C → s₃.heap.Ns C m₃ → m₃ x = some v → (∀ b o, b ∉ [s₁.heap.objs.size] → (s₁.heap.push { cls := .type "range_iterator", data := .fields #[rawInt 0, rawInt (Builtin.Range.rangeSize 0 n 1), rawInt 1] }).get? b = some o → s₃.heap.get? b = some o) → St s₁.heap [(C, VarP x v)] s₃.heap := by
    intro C v s₃ m₃ hC hn hm hk
    refine ⟨fun b o e => hk b o (ne b o e) (kp b o e), fun c hc => ?_, fun c hc => ?_, by simp⟩
    · rw [List.mem_singleton.mp hc]
      obtain ⟨o, es, ep, e, d, k, f⟩ := hn
      exact ⟨o, e, es, ep, d, k, (f x).trans hm⟩
    · rw [List.mem_singleton.mp hc]
      cases q : s₁.heap.get? C with
      | none => rfl
      | some o =>
        have h1 := Heap.lt_size q
        rw [Heap.size_push] at hC
        exact absurd (Nat.lt_of_lt_of_le (Nat.lt_succ_of_lt h1) hC) (Nat.lt_irrefl _)
  refine ⟨_, [s₁.heap.objs.size], [s₁.heap.objs.size], n, fun i v => i < n ∧ ∃ t, v = .int (i : Nat) t, fun i h => IsRangeIter h s₁.heap.objs.size (0 + (i : Nat) * 1) ((n : Int) - (i : Nat)) 1, lk lo, rfl, ?_, by omega, ?_, ?_, ?_, ?_, ⟨?_, ?_⟩, ?_⟩
  · exact ⟨W0.sub, W0.frame, fun i s Q E hi st hQ => W0.item i s Q E hi st fun v h' tk hP => hQ v h' tk ⟨hi, hv i v hi hP⟩, W0.done, W0.self⟩
  · rw [hsize]; simpa using Heap.get?_push_size _ rfl
  · intro b hb; rw [List.mem_singleton.mp hb, Heap.size_push]; exact Nat.lt_succ_self _
  · rw [hL]; obtain ⟨o, e, _⟩ := S.head; exact ne _ _ e
  · rw [hL]; exact hLns.keeps kp
  · rintro C i v s₃ m₃ E' hC ⟨hi, t, rfl⟩ hn hm hk _
    exact wpAny_mono (tests C i t s₃ hi (hS C _ s₃ m₃ hC hn hm hk)).out (fun _ _ x => x) fun _ _ f => f.elim
  · rintro C i v s₃ m₃ E' hC ⟨hi, t, rfl⟩ hpv hn hm hk _
    exact wpAny_mono (helt C i t s₃ hi hpv (hS C _ s₃ m₃ hC hn hm hk)).out (fun _ _ x => x) fun _ _ f => f.elim
  · intro D h' tk ys vs hD _ hpl hlen hP hF hns hkk
    rw [hL] at hns hkk
    refine done D h' tk ys.toList vs (ints_of (by rw [hlen, upZ_length]) fun j v hj => ?_) hF ?_
    · obtain ⟨hi, t, rfl⟩ := hP j v hj
      exact ⟨t, by rw [upZ_getD hi]⟩
    · have S1 := S.but (pre := []) (h' := h') (P' := LocP (setL lo y (.ref D))) (fun b o hb e => hkk b o hb (ne b o e) (kp b o e)) (loc_of_ns hns (lk_setL lo y (.ref D)))
      have hDn : s₁.heap.get? D = none := by
        cases q : s₁.heap.get? D with
        | none => rfl
        | some o => rw [kp _ _ q] at hD; cases hD
      have hD0 : h₀.get? D = none := by
        cases q : h₀.get? D with
        | none => rfl
        | some o => rw [S.keep _ _ q] at hDn; cases hDn
      refine (S1.cons' (e := D) (P := LstP ys.toList) (fun c hc e => ?_) hD0 (pl_of hpl)).swap
      have : ∃ o, s₁.heap.get? c.1 = some o := by
        rcases List.mem_cons.mp hc with rfl | hc
        · obtain ⟨o, e, _⟩ := S.head; exact ⟨o, e⟩
        · obtain ⟨o, e, _⟩ := S.held c (.tail _ hc); exact ⟨o, e⟩
      obtain ⟨o, e2⟩ := this
      rw [e, hDn] at e2; cases e2
end
end Mine
end TextSLQ
section TextSLR
open PySem PySem.W PySem.Spec PySem.Calls PyProof.Rows
set_option Elab.async false
set_option maxRecDepth 100000
set_option linter.unusedVariables false
set_option linter.unusedSimpArgs false
namespace Mine
def intsOf : List Expr → Option (List Int)
  | [] => some []
  | .Constant (.int i) _ _ :: r => (intsOf r).map (i :: ·)
  | _ => none
theorem ints_some : ∀ {vs : List Value}, (∀ v ∈ vs, ∃ n t, v = Value.int n t) → ∃ ns, IntsAre vs ns
  | [], _ => ⟨[], .nil⟩
  | v :: vs, h => by
    obtain ⟨n, t, rfl⟩ := h _ (.head _)
    obtain ⟨ns, hn⟩ := ints_some fun u hu => h u (.tail _ hu)
    exact ⟨n :: ns, .cons _ _ hn⟩
theorem ints_mem {vs : List Value} {ns : List Int} (h : IntsAre vs ns) {v : Value} (hv : v ∈ vs) : ∃ n t, v = Value.int n t := by
  obtain ⟨i, hi⟩ := List.getElem?_of_mem hv
  obtain ⟨p, t, e, _⟩ := ints_get h hi
  exact ⟨p, t, e⟩
theorem ints_pick {vs : List Value} {ns : List Int} (h : IntsAre vs ns) (lo hi st : Option Int) : ∃ ms, IntsAre (slicePick vs.toArray lo hi st).toList ms := by
  refine ints_some fun v hv => ?_
  unfold slicePick at hv
  simp only [List.mem_filterMap] at hv
  obtain ⟨i, _, hi⟩ := hv
  refine ints_mem h (v := v) ?_
  have : v ∈ vs.toArray := Array.mem_of_getElem? hi
  simpa using this
section
variable {w : World} {A : Around} {E : Value → Shared → Prop} {s : Shared} {hp : Heap} {gn : Array GenState} {dr : Drawn} {tk : Nat} {os : OsState} {env : Env} {h₀ : Heap} {cs pre post : List Cell} {Q : Value → Shared → Prop} {pos : Pos} {R : Result → Shared → Prop}
theorem a_ints : ∀ {es : List Expr} {ns : List Int} {tk : Nat} {Q : List Value → Shared → Prop}, intsOf es = some ns → (∀ vs tk', IntsAre vs ns → Q vs ⟨hp, gn, dr, tk', os⟩) → W w A (spliced (backTo pos (starEach es env))) Q E ⟨hp, gn, dr, tk, os⟩
  | [], ns, tk, Q, h, hQ => by cases h; exact a_nil (hQ [] tk .nil)
  | .Constant (.int i) k p :: r, ns, tk, Q, h, hQ => by
    simp only [intsOf, Option.map_eq_some_iff] at h
    obtain ⟨ms, h, rfl⟩ := h
    exact a_cons (e_int fun t tk' => a_ints h fun vs tk'' hv => hQ _ _ (.cons _ _ hv)) (by rfl)
theorem e_listI {es : List Expr} {ns : List Int} (hn : intsOf es = some ns) (hz : ns.length ≤ 1000) (h : ∀ vs tk', IntsAre vs ns → Q (.ref hp.objs.size) ⟨hp.push { cls := .type "list", data := .seq vs.toArray }, gn, dr, tk', os⟩) : W w A (eval (.List es pos) env) Q E ⟨hp, gn, dr, tk, os⟩ := by
  refine ⟨wpAny_List_spliced ?_⟩
  refine (a_ints (w := w) (pos := pos) hn fun vs tk' hv => ?_).out
  exact ⟨by rw [sizeLine_eq]; have := hv.length; simp; omega, h vs tk' hv⟩
theorem b_sum {l : Addr} {vs : List Value} {ns : List Int} (hh : A.handled = none) (hl : hp.IsList l vs.toArray) (hi : IntsAre vs ns) (h : ∀ h' t' tk', Kp hp h' → Q (.int ns.sum t') ⟨h', gn, dr, tk', os⟩) : W w A (call (.builtin "sum") [.ref l]) Q E ⟨hp, gn, dr, tk, os⟩ := by
  obtain ⟨xs, hx⟩ := hi.allInts.items
  have hl' : hp.IsList l (intItems xs) := hx ▸ hl
  refine ⟨sum_intListG hh hl' fun h' tk t' hk => ?_⟩
  have e1 : ns = xs.toList.map (·.1) := by
    rw [← nums_intItems, ← hx]
    exact (show numsOf vs.toArray.toList = ns from hi.numsOf).symm
  have e2 : preSum (numAt xs) xs.size = ns.sum := by
    rw [preSum_eq, List.take_of_length_le (by simp), e1]
  rw [e2]; exact h _ _ _ hk
theorem i_fdiv {a b : Int} {t u : Tok} (hb : b ≠ 0) (hs : b.natAbs < 1073741824) (h : ∀ t' tk', Q (.int (a.fdiv b) t') ⟨hp, gn, dr, tk', os⟩) : W w A (binaryOp .FloorDiv (.int a t) (.int b u)) Q E ⟨hp, gn, dr, tk, os⟩ :=
  ⟨PyProof.Rows.floordiv_int hb (h _ _) (.inl (PyProof.noPylong_small hs))⟩
theorem i_gt {a b : Int} {t u : Tok} (h : Q (.bool (decide (a > b))) s) : W w A (compareOp .Gt (.int a t) (.int b u)) Q E s := ⟨PyProof.Rows.gt_int h⟩
theorem t_or {x y : Expr} {whole : Sem Value} {Q : Bool → Shared → Prop} (h : W w A (isTrue x env (eval x env)) (fun b s₁ => if b = true then Q true s₁ else W w A (isTrue y env (eval y env)) Q E s₁) E s) : W w A (isTrue (.BoolOp .Or [x, y] pos) env whole) Q E s :=
  ⟨wpAny_isTrue_BoolOp (wpAny_allTrue_Or_cons (um h fun b s₁ h₁ => by
    cases b with
    | true => exact h₁
    | false => exact wpAny_allTrue_Or_cons (um h₁ fun b s₂ h₂ => by
        cases b with
        | true => exact h₂
        | false => exact wpAny_allTrue_Or_nil h₂)))⟩
theorem l_ne {a b : Addr} {vs us : List Value} {ns ms : List Int} (hl : s.heap.IsList a vs.toArray) (hi : IntsAre vs ns) (hl' : s.heap.IsList b us.toArray) (hi' : IntsAre us ms) (hu : A.units + 64 < cLine)
    (h : Q (.bool (!decide (ns = ms))) s) : W w A (compareOp .NotEq (.ref a) (.ref b)) Q E s := ⟨ne_intsK hl hi hl' hi' hu h⟩
theorem b_list {l : Addr} {vs : List Value} (hl : hp.IsList l vs.toArray) (hz : vs.length ≤ 1000) (h : ∀ h', Kp hp h' → (∃ o, h'.get? hp.objs.size = some o ∧ LstP vs o) → Q (.ref hp.objs.size) ⟨h', gn, dr, tk, os⟩) : W w A (call (.type "list") [.ref l]) Q E ⟨hp, gn, dr, tk, os⟩ := by
  obtain ⟨o, ho, hc, n, hd⟩ := hl
  exact ⟨call_list_seq (s := ⟨hp, gn, dr, tk, os⟩) (hsz := by rw [List.size_toArray, sizeLine_eq]; omega) l (.inl rfl) ho hc hd fun h' c' hk hD => h h' hk ⟨_, hD, c', rfl⟩⟩
/-- a list whose frills are not told -/
def LsI (ns : List Int) : Obj → Prop := fun o => ∃ vs, (o.cls = .type "list" ∧ ∃ n, o.data = .seq vs.toArray n) ∧ IntsAre vs ns
theorem ints_set : ∀ {vs : List Value} {ns : List Int} {j : Nat} {a : Int} {t : Tok}, IntsAre vs ns → IntsAre (vs.set j (.int a t)) (ns.set j a)
  | _, _, _, _, _, .nil => .nil
  | _, _, 0, _, _, .cons n t h => .cons _ _ h
  | _, _, j + 1, _, _, .cons n t h => .cons _ _ (ints_set h)
theorem set_list {l : Addr} {ns : List Int} {k a : Int} {t u : Tok} {Q : Unit → Shared → Prop} (S : St h₀ (pre ++ (l, LsI ns) :: post) hp) (h0 : 0 ≤ k) (hk : k < ns.length) (hz : ns.length ≤ 1000)
    (h : ∀ h', St h₀ (pre ++ (l, LsI (ns.set k.toNat a)) :: post) h' → Q () ⟨h', gn, dr, tk, os⟩) : W w A (setItem (.ref l) (.int k t) (.int a u)) Q E ⟨hp, gn, dr, tk, os⟩ := by
  obtain ⟨o, e, vs, p, hi⟩ := S.at (a := l) (P := LsI ns) (by simp)
  have hlen := hi.length
  refine ⟨wpAny_setItem_list (s := ⟨hp, gn, dr, tk, os⟩) (items := vs.toArray) ⟨o, e, p⟩ h0 (by omega) (by simp; omega) fun h' hl hs => h h' (S.updM hs ?_)⟩
  obtain ⟨o', e', p'⟩ := hl
  refine ⟨o', e', vs.set k.toNat (.int a u), ?_, ints_set hi⟩
  simpa using p'
/-- l[..] -/
theorem e_slice {value : Expr} {lower upper step : Option Expr} {p : Pos} (ops : Addr → Addr → List Value)
    (h : W w A (eval value env) (fun o s₁ => W w A (evalPart lower env) (fun a s₂ => W w A (evalPart upper env) (fun b s₃ => W w A (evalPart step env) (fun c s₄ => ∃ (l : Addr) (vs : List Value) (lo hi st : Option Int) (hp : Heap) (gn : Array GenState) (dr : Drawn) (tk : Nat) (os : OsState), o = .ref l ∧ IsPart a lo ∧ IsPart b hi ∧ IsPart c st ∧ st ≠ some 0 ∧ s₄ = ⟨hp, gn, dr, tk, os⟩ ∧ hp.IsList l vs.toArray ∧ vs.length ≤ 1000 ∧
      Q (.ref (hp.objs.size + 1)) ⟨(hp.push { cls := .type "slice", data := .fields #[a, b, c] }).push { cls := .type "list", data := .seq (slicePick vs.toArray lo hi st) }, gn, dr, tk, os⟩) E s₃) E s₂) E s₁) E s)
    (hs : ∀ l a, subscripted (.Slice lower upper step p) false (.ref l) (.ref a) = operate (ops l a) (getItem (.ref l) (.ref a)) := by intro _ _; with_unfolding_all rfl)
    (ht : ∀ l r, letTemporaryGo value (.ref l) r = pure () := by intro _ _; with_unfolding_all rfl) :
    W w A (eval (.Subscript value (.Slice lower upper step p) pos) env) Q E s := by
  refine e_sub (h.mono fun o s₁ h₁ => ?_)
  refine ⟨wpAny_Slice (um h₁ fun a s₂ h₂ => um h₂ fun b s₃ h₃ => um h₃ fun c s₄ h₄ => ?_)⟩
  obtain ⟨l, vs, lo, hi, st, hp, gn, dr, tk, os, rfl, pl, pu, ps, h0, rfl, hl, hz, hQ⟩ := h₄
  refine ⟨?_⟩
  refine subscriptTail_ops (Heap.IsList.typeIs (s := ⟨hp.push _, gn, dr, tk, os⟩) (hl.push _)) list_getitem_lookup
    (wpAny_getItem_list_slice (hl.push _) (Heap.IsSliceOf.new ..) pl pu ps h0 ?_ (by simp only [List.size_toArray, sizeLine_eq]; omega)) (hs _ _) (ht _)
  simpa [Heap.size_push] using hQ
theorem p_none (h : Q .none s) : W w A (evalPart none env) Q E s := ⟨by rw [evalPart_none]; exact wpAny_pure h⟩
theorem p_some {e : Expr} (h : W w A (eval e env) Q E s) : W w A (evalPart (some e) env) Q E s := ⟨by rw [evalPart_some]; exact h.out⟩
/-- reduce(mul, ...) -/
theorem red_mul {l : Addr} {vs : List Value} {n : Int} {ns : List Int} {k : Nat} (B : Base w hp) (r : Rm (k + 2) A) (hl : hp.IsList l vs.toArray) (hi : IntsAre vs (n :: ns)) (hb : ∀ x ∈ ns, Builtin.Int.intBits x ≤ 64)
    (h : ∀ h' t' tk', Kp hp h' → R (.ok (.ret (.int (ns.foldl (· * ·) n) t'))) ⟨h', gn, dr, tk', os⟩) : C w A (.call (.ref 150) ⟨[.ref 164, .ref l], []⟩) R ⟨hp, gn, dr, tk, os⟩ := by
  obtain ⟨t, vs', rfl, hi'⟩ := hi.cons_inv
  obtain ⟨ol, el, hol⟩ := hl
  refine reduce_spec1 (k := k + 1) (h₀ := hp) (cs := []) (val := fun d : Int × Tok => .int d.1 d.2) (acc := fun _ => []) (d0 := (n, t)) (J := fun i d => d.1 = (ns.take (i - 1)).foldl (· * ·) n ∧ 1 ≤ i) B (by kernel_rfl) ?_ r hol (.inl el) rfl rfl (St.nil fun _ _ e => e) ⟨rfl, Nat.le_refl _⟩ ?_
  · rintro i ⟨a, ta⟩ x cs' h2 tk2 A' R' r2 hx ⟨ha, hi1⟩ S2 hR
    obtain ⟨j, rfl⟩ : ∃ j, i = j + 1 := ⟨i - 1, by omega⟩
    obtain ⟨p, tp, rfl, hp⟩ := ints_get hi' (by simpa using hx)
    refine mul_spec (S2.base B) (r2.le (by omega)) (IntMulOk.of_right (hb p (List.mem_of_getElem? hp))) fun h3 t3 tk3 hk3 => hR (_, t3) h3 tk3 ⟨?_, by omega⟩ (S2.keeps hk3)
    have ha : a = (ns.take j).foldl (· * ·) n := ha
    show a * p = (ns.take (j + 1)).foldl (· * ·) n
    rw [foldl_take_succ' _ _ _ _ _ hp, ha]
  · rintro ⟨a, ta⟩ h2 tk2 ⟨ha, _⟩ S2
    have : a = ns.foldl (· * ·) n := by
      have ha : a = _ := ha
      rw [ha, List.length_cons, Nat.add_sub_cancel, hi'.length, List.take_length]
    subst this
    exact h _ _ _ S2.keep
end
end Mine
end TextSLR
section TextMP
open PySem PySem.W PySem.Spec PySem.Calls PyProof.Rows
set_option Elab.async false
set_option maxRecDepth 100000
set_option linter.unusedVariables false
set_option linter.unusedSimpArgs false
namespace Mine
structure TabOk (T : List (List Int)) : Prop where
  len : T.length = 5
  row : ∀ r ∈ T, r.length = 5 ∧ ∀ x ∈ r, x.natAbs ≤ 10
def ent (T : List (List Int)) (i j : Nat) : Int := (T.getD i []).getD j 0
def rowBits (r : List Int) : Int := (((upZ 5).filter fun j => r.getD j.toNat 0 != 0).map fun j => (2 : Int) ^ j.toNat).sum
def outP (T : List (List Int)) : List Int := T.map rowBits
def meltP (gs ring : List Int) : List Int := (gs.filter fun g => Builtin.bitAnd g (orL ring) == 0) ++ [orL ring]
def EE (out : List Int) (i j : Nat) : Prop := i < 5 ∧ j < 5 ∧ bit (out.getD i 0) j = true
inductive Rch (out : List Int) : Nat → Nat → Prop
  | refl (i : Nat) : Rch out i i
  | step {i j k : Nat} : EE out i j → Rch out j k → Rch out i k
/-- groups: parts of the five places, each of one strong piece -/
structure GInv (out gs : List Int) : Prop where
  len : gs.length ≤ 5
  rng : ∀ g ∈ gs, 1 ≤ g ∧ g ≤ 31
  nd : gs.Nodup
  disj : ∀ g ∈ gs, ∀ h ∈ gs, ∀ i : Nat, i < 5 → bit g i = true → bit h i = true → g = h
  cov : ∀ i : Nat, i < 5 → ∃ g ∈ gs, bit g i = true
  con : ∀ g ∈ gs, ∀ i j : Nat, i < 5 → j < 5 → bit g i = true → bit g j = true → Rch out i j
  sm : ∀ i : Nat, 0 ≤ out.getD i 0 ∧ out.getD i 0 ≤ 31
def cntP (out gs O : List Int) (g : Int) : Int := (((predsP gs out g).filter fun h => decide (h ∉ O)).length : Int)
/-- the sorter while it is worked off: done, handed out, ready -/
structure KS (out gs : List Int) (pn : List PN) (O P N : List Int) : Prop where
  kn : (pn.map (·.1)).Nodup
  ke : ∀ k, k ∈ pn.map (·.1) ↔ k ∈ gs
  su : ∀ m ∈ pn, m.2.2 = gs.filter fun g => predP out g m.1
  np : ∀ m ∈ pn, m.2.1 = if m.1 ∈ O then -2 else if m.1 ∈ P then -1 else cntP out gs O m.1
  nd : (O ++ P ++ N).Nodup
  sub : ∀ g ∈ O ++ P ++ N, g ∈ gs
  rdy : ∀ g ∈ gs, g ∉ O → g ∉ P → (g ∈ N ↔ cntP out gs O g = 0)
  pen : ∀ g ∈ P, ∀ h ∈ gs, predP out g h = true → h ∈ O
  ord : ∀ (i : Nat) (g : Int), O[i]? = some g → ∀ h ∈ gs, predP out g h = true → h ∈ O.take i
def warI (k : Int) (r : List Int) (i : Int) : List Int := if bit (r.getD i.toNat 0) k then r.set i.toNat (Builtin.bitOr (r.getD i.toNat 0) (r.getD k.toNat 0)) else r
def warK (r : List Int) (k : Int) : List Int := (upZ 5).foldl (warI k) r
def reachP (out : List Int) : List Int := (upZ 5).foldl warK out
def bitN (g i : Int) : Int := (g.fdiv (2 ^ i.toNat)).fmod 2
def matesP (re : List Int) (i : Int) : List Int := (upZ 5).filter fun j => j == i || bitN (re.getD i.toNat 0) j + bitN (re.getD j.toNat 0) i == 2
def mineP (ord : List Int) (i : Int) : List Int := (upZ ord.length).filter fun k => bit (ord.getD k.toNat 0) i
def whereP (ord : List Int) (i : Int) : Int := (mineP ord i).headD 0
def subP (T : List (List Int)) (g : Int) : List (List Int) := (places g).map fun i => (places g).map fun j => ent T i.toNat j.toNat
def sumP (l : List Int) : Int := (l.map fun j => (2 : Int) ^ j.toNat).sum
structure FinOk (T : List (List Int)) (ord : List Int) : Prop where
  rng : ∀ g ∈ ord, 1 ≤ g ∧ g ≤ 31
  len : ord.length ≤ 5
  ne : ord ≠ []
  one : ∀ i : Nat, i < 5 → (mineP ord i).map (fun k => ord.getD k.toNat 0) = [sumP (matesP (reachP (outP T)) i)]
  tri : ∀ i j : Nat, i < 5 → j < 5 → ent T i j ≠ 0 → ¬ whereP ord i > whereP ord j
  det : detL T = ((ord.tail.map fun g => detL (subP T g)).foldl (· * ·) (detL (subP T (ord.headD 0))))
end Mine
end TextMP
section TextMG1
set_option Elab.async false
set_option maxRecDepth 100000
set_option linter.unusedVariables false
set_option linter.unusedSimpArgs false
namespace Mine
open PySem
/-! bits of numbers below 32 -/
def Sm (g : Int) : Prop := 0 ≤ g ∧ g ≤ 31
theorem sm_nat {g : Int} (h : Sm g) : ∃ n : Nat, n < 32 ∧ g = (n : Int) := ⟨g.toNat, by have := h.1; have := h.2; omega, by have := h.1; omega⟩
theorem or_dec : ∀ a, a < 32 → ∀ b, b < 32 → (0 ≤ Builtin.bitOr ((a : Nat) : Int) ((b : Nat) : Int) ∧ Builtin.bitOr ((a : Nat) : Int) ((b : Nat) : Int) ≤ 31) ∧ ∀ i, i < 5 → bit (Builtin.bitOr ((a : Nat) : Int) ((b : Nat) : Int)) ((i : Nat) : Int) = (bit a i || bit b i) := by decide +kernel
theorem and_dec : ∀ a, a < 32 → ∀ b, b < 32 → (Builtin.bitAnd ((a : Nat) : Int) ((b : Nat) : Int) == 0) = !((List.range 5).any fun i => bit a i && bit b i) := by decide +kernel
theorem ext_dec : ∀ a, a < 32 → ∀ b, b < 32 → (∀ i, i < 5 → bit ((a : Nat) : Int) ((i : Nat) : Int) = bit ((b : Nat) : Int) ((i : Nat) : Int)) → a = b := by decide +kernel
theorem sum_dec : ∀ a, a < 32 → sumP (places ((a : Nat) : Int)) = a := by decide +kernel
theorem ne_dec : ∀ a, a < 32 → a ≠ 0 → places ((a : Nat) : Int) ≠ [] := by decide +kernel
theorem zero_dec : ∀ i, i < 5 → bit 0 ((i : Nat) : Int) = false := by decide +kernel
theorem or_sm {a b : Int} (ha : Sm a) (hb : Sm b) : Sm (Builtin.bitOr a b) := by
  obtain ⟨n, hn, rfl⟩ := sm_nat ha
  obtain ⟨m, hm, rfl⟩ := sm_nat hb
  exact (or_dec n hn m hm).1
theorem or_bit {a b : Int} (ha : Sm a) (hb : Sm b) {i : Nat} (hi : i < 5) : bit (Builtin.bitOr a b) i = (bit a i || bit b i) := by
  obtain ⟨n, hn, rfl⟩ := sm_nat ha
  obtain ⟨m, hm, rfl⟩ := sm_nat hb
  exact (or_dec n hn m hm).2 i hi
theorem and_zero {a b : Int} (ha : Sm a) (hb : Sm b) : (Builtin.bitAnd a b == 0) = true ↔ ∀ i : Nat, i < 5 → bit a i = true → bit b i = true → False := by
  obtain ⟨n, hn, rfl⟩ := sm_nat ha
  obtain ⟨m, hm, rfl⟩ := sm_nat hb
  rw [and_dec n hn m hm, Bool.not_eq_true', List.any_eq_false]
  constructor
  · intro h i hi h1 h2
    exact h i (List.mem_range.mpr hi) (by rw [h1, h2]; rfl)
  · intro h i hi q
    have := Bool.and_eq_true_iff.mp q
    exact h i (List.mem_range.mp hi) this.1 this.2
theorem and_some {a b : Int} (ha : Sm a) (hb : Sm b) : (Builtin.bitAnd a b != 0) = true ↔ ∃ i : Nat, i < 5 ∧ bit a i = true ∧ bit b i = true := by
  obtain ⟨n, hn, rfl⟩ := sm_nat ha
  obtain ⟨m, hm, rfl⟩ := sm_nat hb
  show (!(Builtin.bitAnd ((n : Nat) : Int) ((m : Nat) : Int) == 0)) = true ↔ _
  rw [and_dec n hn m hm, Bool.not_not, List.any_eq_true]
  constructor
  · rintro ⟨i, hi, q⟩
    have := Bool.and_eq_true_iff.mp q
    exact ⟨i, List.mem_range.mp hi, this.1, this.2⟩
  · rintro ⟨i, hi, h1, h2⟩
    exact ⟨i, List.mem_range.mpr hi, by rw [h1, h2]; rfl⟩
theorem bit_ext {a b : Int} (ha : Sm a) (hb : Sm b) (h : ∀ i : Nat, i < 5 → bit a i = bit b i) : a = b := by
  obtain ⟨n, hn, rfl⟩ := sm_nat ha
  obtain ⟨m, hm, rfl⟩ := sm_nat hb
  rw [ext_dec n hn m hm h]
theorem sum_places {a : Int} (ha : Sm a) : sumP (places a) = a := by
  obtain ⟨n, hn, rfl⟩ := sm_nat ha
  exact sum_dec n hn
theorem places_ne {a : Int} (h : 1 ≤ a ∧ a ≤ 31) : places a ≠ [] := by
  obtain ⟨n, hn, rfl⟩ := sm_nat ⟨by omega, h.2⟩
  exact ne_dec n hn (by omega)
theorem mem_places {g : Int} {p : Int} : p ∈ places g ↔ (∃ i : Nat, i < 5 ∧ p = (i : Int)) ∧ bit g p = true := by
  unfold places upZ
  rw [List.mem_filter, List.mem_map]
  constructor
  · rintro ⟨⟨i, hi, rfl⟩, h⟩; exact ⟨⟨i, List.mem_range.mp hi, rfl⟩, h⟩
  · rintro ⟨⟨i, hi, rfl⟩, h⟩; exact ⟨⟨i, List.mem_range.mpr hi, rfl⟩, h⟩
theorem has_bit {g : Int} (h : 1 ≤ g ∧ g ≤ 31) : ∃ i : Nat, i < 5 ∧ bit g i = true := by
  cases q : places g with
  | nil => exact absurd q (places_ne h)
  | cons p ps =>
    obtain ⟨⟨i, hi, rfl⟩, hb⟩ := mem_places.mp (q ▸ List.mem_cons_self : p ∈ places g)
    exact ⟨i, hi, hb⟩
theorem one_of_bit {g : Int} (h : Sm g) {i : Nat} (hi : i < 5) (hb : bit g i = true) : 1 ≤ g ∧ g ≤ 31 := by
  refine ⟨?_, h.2⟩
  rcases Int.lt_or_le g 1 with q | q
  · have : g = 0 := by have := h.1; omega
    rw [this, zero_dec i hi] at hb; exact absurd hb (by decide)
  · exact q
theorem orL_fold {l : List Int} : ∀ {a : Int}, Sm a → (∀ x ∈ l, Sm x) → Sm (l.foldl Builtin.bitOr a) ∧ ∀ i : Nat, i < 5 → (bit (l.foldl Builtin.bitOr a) i = true ↔ bit a i = true ∨ ∃ x ∈ l, bit x i = true) := by
  induction l with
  | nil => intro a ha _; exact ⟨ha, fun i _ => by simp⟩
  | cons b l ih =>
    intro a ha hl
    have hb := hl b (.head _)
    obtain ⟨h1, h2⟩ := ih (or_sm ha hb) fun x hx => hl x (.tail _ hx)
    refine ⟨h1, fun i hi => ?_⟩
    rw [List.foldl_cons, h2 i hi, or_bit ha hb hi, Bool.or_eq_true]
    constructor
    · rintro ((h | h) | ⟨x, hx, h⟩)
      · exact .inl h
      · exact .inr ⟨b, .head _, h⟩
      · exact .inr ⟨x, .tail _ hx, h⟩
    · rintro (h | ⟨x, hx, h⟩)
      · exact .inl (.inl h)
      · rcases List.mem_cons.mp hx with rfl | hx
        · exact .inl (.inr h)
        · exact .inr ⟨x, hx, h⟩
theorem orL_sm {l : List Int} (h : ∀ x ∈ l, Sm x) : Sm (orL l) := by
  cases l with
  | nil => exact ⟨by decide, by decide⟩
  | cons a l => exact (orL_fold (h a (.head _)) fun x hx => h x (.tail _ hx)).1
theorem orL_bit {l : List Int} (h : ∀ x ∈ l, Sm x) {i : Nat} (hi : i < 5) : bit (orL l) i = true ↔ ∃ x ∈ l, bit x i = true := by
  cases l with
  | nil => simp [orL, zero_dec i hi]
  | cons a l =>
    rw [show orL (a :: l) = l.foldl Builtin.bitOr a from rfl, (orL_fold (h a (.head _)) fun x hx => h x (.tail _ hx)).2 i hi]
    simp
theorem row_dec : ∀ b0 b1 b2 b3 b4 : Bool, let r := sumP ((upZ 5).filter fun j => ([b0, b1, b2, b3, b4].getD j.toNat false)); (0 ≤ r ∧ r ≤ 31) ∧ ∀ i, i < 5 → bit r ((i : Nat) : Int) = [b0, b1, b2, b3, b4].getD i false := by decide +kernel
theorem row_facts (r : List Int) : Sm (rowBits r) ∧ ∀ i : Nat, i < 5 → bit (rowBits r) i = (r.getD i 0 != 0) := by
  have e : rowBits r = sumP ((upZ 5).filter fun j => ([r.getD 0 0 != 0, r.getD 1 0 != 0, r.getD 2 0 != 0, r.getD 3 0 != 0, r.getD 4 0 != 0].getD j.toNat false)) := by
    unfold rowBits sumP
    congr 2
  have h := row_dec (r.getD 0 0 != 0) (r.getD 1 0 != 0) (r.getD 2 0 != 0) (r.getD 3 0 != 0) (r.getD 4 0 != 0)
  rw [e]
  refine ⟨h.1, fun i hi => ?_⟩
  rw [h.2 i hi]
  have : i = 0 ∨ i = 1 ∨ i = 2 ∨ i = 3 ∨ i = 4 := by omega
  rcases this with rfl | rfl | rfl | rfl | rfl <;> rfl
theorem out_sm {T : List (List Int)} (i : Nat) : Sm ((outP T).getD i 0) := by
  unfold outP
  rw [List.getD_eq_getElem?_getD, List.getElem?_map]
  cases T[i]? with
  | none => exact ⟨by decide, by decide⟩
  | some r => exact (row_facts r).1
theorem out_bit {T : List (List Int)} (hT : TabOk T) {i j : Nat} (hi : i < 5) (hj : j < 5) : bit ((outP T).getD i 0) j = (ent T i j != 0) := by
  have hl : i < T.length := by rw [hT.len]; exact hi
  unfold outP ent
  rw [List.getD_eq_getElem?_getD, List.getElem?_map, List.getD_eq_getElem?_getD (l := T), List.getElem?_eq_getElem hl]
  exact (row_facts _).2 j hj
/-! lists -/
theorem nodup_len {α : Type} [DecidableEq α] : ∀ {l l' : List α}, l.Nodup → (∀ x ∈ l, x ∈ l') → l.length ≤ l'.length
  | [], _, _, _ => Nat.zero_le _
  | a :: l, l', hn, hs => by
    have ha := hs a (.head _)
    have hn' := List.nodup_cons.mp hn
    have := nodup_len (l := l) (l' := l'.erase a) hn'.2 fun x hx => by
      have hne : x ≠ a := fun e => hn'.1 (e ▸ hx)
      exact (List.mem_erase_of_ne hne).mpr (hs x (.tail _ hx))
    rw [List.length_erase_of_mem ha] at this
    have hpos : 0 < l'.length := List.length_pos_of_mem ha
    simp only [List.length_cons]; omega
end Mine
end TextMG1
section TextMG2
set_option Elab.async false
set_option maxRecDepth 100000
set_option linter.unusedVariables false
set_option linter.unusedSimpArgs false
namespace Mine
open PySem
/-! the sorter's nodes, told by functions -/
def mkP (kl : List Int) (N : Int → Int) (S : Int → List Int) : List PN := kl.map fun k => (k, N k, S k)
theorem mkP_congr {kl : List Int} {N N' : Int → Int} {S S' : Int → List Int} (h : ∀ k ∈ kl, N k = N' k ∧ S k = S' k) : mkP kl N S = mkP kl N' S' := by
  unfold mkP
  apply List.map_congr_left
  intro k hk
  rw [(h k hk).1, (h k hk).2]
theorem mkP_keys (kl : List Int) (N : Int → Int) (S : Int → List Int) : (mkP kl N S).map (·.1) = kl := by simp [mkP, List.map_map, Function.comp_def]
def insK (kl : List Int) (g : Int) : List Int := if g ∈ kl then kl else kl ++ [g]
theorem insK_mem {kl : List Int} {g x : Int} : x ∈ insK kl g ↔ x ∈ kl ∨ x = g := by
  unfold insK
  split
  · rename_i h
    exact ⟨.inl, fun q => q.elim id fun e => e ▸ h⟩
  · simp
theorem insK_nodup {kl : List Int} {g : Int} (h : kl.Nodup) : (insK kl g).Nodup := by
  unfold insK
  split
  · exact h
  · rename_i hn
    rw [List.nodup_append]
    exact ⟨h, by simp, fun a ha b hb e => hn (by rw [List.mem_singleton.mp hb] at e; exact e ▸ ha)⟩
theorem pupd_mk {N : Int → Int} {S : Int → List Int} {g : Int} (a : Int → Int) (b : List Int → List Int) : ∀ {kl : List Int}, kl.Nodup → (g ∉ kl → N g = 0 ∧ S g = []) →
    pupd g (fun m => (m.1, a m.2.1, b m.2.2)) (mkP kl N S) = mkP (insK kl g) (fun x => if x = g then a (N x) else N x) (fun x => if x = g then b (S x) else S x)
  | [], _, hz => by
    obtain ⟨h1, h2⟩ := hz (by simp)
    simp [mkP, pupd, insK, h1, h2]
  | k :: kl, hn, hz => by
    have hn' := List.nodup_cons.mp hn
    by_cases h : k = g
    · subst h
      have : insK (k :: kl) k = k :: kl := by simp [insK]
      rw [this]
      simp only [mkP, List.map_cons, pupd, if_true]
      congr 1
      apply List.map_congr_left
      intro x hx
      have : x ≠ k := fun e => hn'.1 (e ▸ hx)
      simp [this]
    · have ih := pupd_mk a b (N := N) (S := S) (g := g) hn'.2 fun hg => hz (by simp [hg, Ne.symm h])
      have hi : insK (k :: kl) g = k :: insK kl g := by
        unfold insK
        by_cases hm : g ∈ kl
        · simp [hm]
        · simp [hm, Ne.symm h]
      rw [hi]
      simp only [mkP, List.map_cons, pupd, h, if_false] at ih ⊢
      rw [ih]
theorem adds_mk {N : Int → Int} {g : Int} : ∀ (ps kl : List Int) (S : Int → List Int), kl.Nodup → ps.Nodup → (∀ x, x ∉ kl → N x = 0 ∧ S x = []) →
    ps.foldl (fun ns p => pupd p (fun m => (m.1, m.2.1, m.2.2 ++ [g])) ns) (mkP kl N S) = mkP (ps.foldl insK kl) N (fun x => if x ∈ ps then S x ++ [g] else S x)
  | [], kl, S, _, _, _ => by simp
  | p :: ps, kl, S, hn, hp, hz => by
    have hp' := List.nodup_cons.mp hp
    rw [List.foldl_cons, List.foldl_cons, pupd_mk (fun n => n) (fun s => s ++ [g]) hn (hz p)]
    have e1 : (fun x => if x = p then N x else N x) = N := by funext x; split <;> rfl
    rw [e1, adds_mk ps (insK kl p) _ (insK_nodup hn) hp'.2 fun x hx => ?_]
    · apply mkP_congr
      intro k _
      refine ⟨rfl, ?_⟩
      by_cases hk : k = p
      · subst hk; simp [hp'.1]
      · simp [hk]
    · have hx' : x ∉ kl ∧ x ≠ p := by
        rw [insK_mem] at hx
        exact not_or.mp hx
      simp [hx'.2, hz x hx'.1]
theorem addP_mk {N : Int → Int} {S : Int → List Int} {g : Int} {ps kl : List Int} (hn : kl.Nodup) (hp : ps.Nodup) (hz : ∀ x, x ∉ kl → N x = 0 ∧ S x = []) :
    addP (mkP kl N S) g ps = mkP (ps.foldl insK (insK kl g)) (fun x => if x = g then N x + ps.length else N x) (fun x => if x ∈ ps then S x ++ [g] else S x) := by
  unfold addP
  rw [pupd_mk (fun n => n + ps.length) (fun s => s) hn (hz g)]
  have e1 : (fun x => if x = g then S x else S x) = S := by funext x; split <;> rfl
  rw [e1, adds_mk ps (insK kl g) S (insK_nodup hn) hp fun x hx => ?_]
  have hx' : x ∉ kl ∧ x ≠ g := by
    rw [insK_mem] at hx
    exact not_or.mp hx
  simp [hx'.2, hz x hx'.1]
theorem insKs_mem {x : Int} : ∀ (ps kl : List Int), x ∈ ps.foldl insK kl ↔ x ∈ kl ∨ x ∈ ps
  | [], kl => by simp
  | p :: ps, kl => by
    rw [List.foldl_cons, insKs_mem ps, insK_mem, List.mem_cons]
    constructor
    · rintro ((h | h) | h)
      · exact .inl h
      · exact .inr (.inl h)
      · exact .inr (.inr h)
    · rintro (h | h | h)
      · exact .inl (.inl h)
      · exact .inl (.inr h)
      · exact .inr h
theorem insKs_nodup : ∀ (ps : List Int) {kl : List Int}, kl.Nodup → (ps.foldl insK kl).Nodup
  | [], _, h => h
  | p :: ps, _, h => insKs_nodup ps (insK_nodup h)
theorem sort_aux {gs out : List Int} (hnd : gs.Nodup) : ∀ (rest done kl : List Int), gs = done ++ rest → kl.Nodup → (∀ x ∈ kl, x ∈ gs) → (∀ x ∈ done, x ∈ kl) → (∀ x, x ∉ kl → ∀ g ∈ done, x ∉ predsP gs out g) →
    ∃ kl' : List Int, kl'.Nodup ∧ (∀ x, x ∈ kl' ↔ x ∈ gs) ∧
      rest.foldl (fun ns g => addP ns g (predsP gs out g)) (mkP kl (fun x => if x ∈ done then ((predsP gs out x).length : Int) else 0) (fun x => done.filter fun g => decide (x ∈ predsP gs out g))) =
        mkP kl' (fun x => ((predsP gs out x).length : Int)) (fun x => gs.filter fun g => decide (x ∈ predsP gs out g))
  | [], done, kl, hg, hk, hs, hd, hz => by
    rw [List.append_nil] at hg
    subst hg
    refine ⟨kl, hk, fun x => ⟨hs x, hd x⟩, ?_⟩
    exact mkP_congr fun k hk => ⟨by simp [hs k hk], rfl⟩
  | g :: rest, done, kl, hg, hk, hs, hd, hz => by
    have hgg : g ∈ gs := by rw [hg]; simp
    have hgd : g ∉ done := by
      have := hnd
      rw [hg, List.nodup_append] at this
      exact fun hm => this.2.2 g hm g (by simp) rfl
    have hpn : (predsP gs out g).Nodup := hnd.sublist List.filter_sublist
    have hps : ∀ x ∈ predsP gs out g, x ∈ gs := fun x hx => (List.mem_filter.mp hx).1
    rw [List.foldl_cons, addP_mk hk hpn fun x hx => ?_]
    · have ih := sort_aux (out := out) hnd rest (done ++ [g]) ((predsP gs out g).foldl insK (insK kl g)) (by rw [hg]; simp) (insKs_nodup _ (insK_nodup hk)) ?_ ?_ ?_
      · obtain ⟨kl', h1, h2, h3⟩ := ih
        refine ⟨kl', h1, h2, ?_⟩
        rw [← h3]
        congr 1
        apply mkP_congr
        intro k _
        refine ⟨?_, ?_⟩
        · by_cases e : k = g
          · subst e; simp [hgd]
          · simp [e]
        · rw [List.filter_append]
          by_cases e : k ∈ predsP gs out g
          · simp [e]
          · simp [e]
      · intro x hx
        rw [insKs_mem, insK_mem] at hx
        rcases hx with (h | h) | h
        · exact hs x h
        · exact h ▸ hgg
        · exact hps x h
      · intro x hx
        rw [insKs_mem, insK_mem]
        rcases List.mem_append.mp hx with h | h
        · exact .inl (.inl (hd x h))
        · exact .inl (.inr (List.mem_singleton.mp h))
      · intro x hx g' hg'
        rw [insKs_mem, insK_mem] at hx
        rcases List.mem_append.mp hg' with h | h
        · exact hz x (fun q => hx (.inl (.inl q))) g' h
        · rw [List.mem_singleton.mp h]; exact fun q => hx (.inr q)
    · have hxd : x ∉ done := fun q => hx (hd x q)
      refine ⟨by simp [hxd], ?_⟩
      rw [List.filter_eq_nil_iff]
      intro g' hg'
      simpa using hz x hx g' hg'
theorem sort_mk {gs out : List Int} (hnd : gs.Nodup) : ∃ kl : List Int, kl.Nodup ∧ (∀ x, x ∈ kl ↔ x ∈ gs) ∧
    sortP gs out = mkP kl (fun x => ((predsP gs out x).length : Int)) (fun x => gs.filter fun g => predP out g x) := by
  obtain ⟨kl, h1, h2, h3⟩ := sort_aux (out := out) hnd gs [] [] (by simp) List.nodup_nil (by simp) (by simp) (by simp)
  refine ⟨kl, h1, h2, ?_⟩
  have e0 : sortP gs out = gs.foldl (fun ns g => addP ns g (predsP gs out g)) (mkP [] (fun x => if x ∈ ([] : List Int) then ((predsP gs out x).length : Int) else 0) (fun x => ([] : List Int).filter fun g => decide (x ∈ predsP gs out g))) := rfl
  rw [e0, h3]
  apply mkP_congr
  intro k hk
  refine ⟨rfl, List.filter_congr fun g _ => ?_⟩
  have hkg := (h2 k).mp hk
  unfold predsP
  cases q : predP out g k with
  | true => exact decide_eq_true (List.mem_filter.mpr ⟨hkg, q⟩)
  | false => exact decide_eq_false fun hm => by rw [(List.mem_filter.mp hm).2] at q; cases q
theorem sort_len {out gs : List Int} (h : GInv out gs) : (sortP gs out).length ≤ 5 := by
  obtain ⟨kl, h1, h2, h3⟩ := sort_mk (out := out) h.nd
  rw [h3]
  have : kl.length ≤ gs.length := nodup_len h1 fun x hx => (h2 x).mp hx
  have := h.len
  simp only [mkP, List.length_map]; omega
theorem sort_closed {out gs : List Int} (h : GInv out gs) : ∀ m ∈ sortP gs out, ∀ s ∈ m.2.2, s ∈ (sortP gs out).map (·.1) := by
  obtain ⟨kl, h1, h2, h3⟩ := sort_mk (out := out) h.nd
  rw [h3, mkP_keys]
  intro m hm s hs
  obtain ⟨k, _, rfl⟩ := List.mem_map.mp hm
  exact (h2 s).mpr (List.mem_filter.mp hs).1
theorem GInv.pl {out gs : List Int} (h : GInv out gs) : ∀ g ∈ gs, places g ≠ [] := fun g hg => places_ne (h.rng g hg)
theorem edge_sort {out gs : List Int} (h : GInv out gs) {ns : List Nd} (hn : ns.map Nd.pu = sortP gs out) {a b : Int} : edge ns a b ↔ a ∈ gs ∧ b ∈ gs ∧ predP out b a = true := by
  obtain ⟨kl, h1, h2, h3⟩ := sort_mk (out := out) h.nd
  constructor
  · rintro ⟨n, hm, rfl, hb⟩
    have : n.pu ∈ sortP gs out := hn ▸ List.mem_map_of_mem (f := Nd.pu) hm
    rw [h3] at this
    obtain ⟨k, hk, e⟩ := List.mem_map.mp this
    have e1 : n.key = k := (congrArg Prod.fst e).symm
    have e2 : n.succ = gs.filter fun g => predP out g k := (congrArg (fun p : PN => p.2.2) e).symm
    rw [e2] at hb
    have := List.mem_filter.mp hb
    rw [e1]
    exact ⟨(h2 k).mp hk, this.1, this.2⟩
  · rintro ⟨ha, hb, hp⟩
    have : (a, ((predsP gs out a).length : Int), gs.filter fun g => predP out g a) ∈ sortP gs out := by rw [h3]; exact List.mem_map.mpr ⟨a, (h2 a).mpr ha, rfl⟩
    rw [← hn] at this
    obtain ⟨n, hm, e⟩ := List.mem_map.mp this
    refine ⟨n, hm, congrArg Prod.fst e, ?_⟩
    have e2 : n.succ = gs.filter fun g => predP out g a := congrArg (fun p : PN => p.2.2) e
    rw [e2]
    exact List.mem_filter.mpr ⟨hb, hp⟩
end Mine
end TextMG2
section TextMG3
set_option Elab.async false
set_option maxRecDepth 100000
set_option linter.unusedVariables false
set_option linter.unusedSimpArgs false
namespace Mine
open PySem
theorem ahead_facts {out : List Int} (hs : ∀ i : Nat, 0 ≤ out.getD i 0 ∧ out.getD i 0 ≤ 31) (h : Int) : Sm (aheadP out h) ∧ ∀ j : Nat, j < 5 → (bit (aheadP out h) j = true ↔ ∃ i : Nat, i < 5 ∧ bit h i = true ∧ bit (out.getD i 0) j = true) := by
  have hl : ∀ x ∈ (places h).map fun i => out.getD i.toNat 0, Sm x := fun x hx => by
    obtain ⟨i, _, rfl⟩ := List.mem_map.mp hx; exact hs _
  refine ⟨orL_sm hl, fun j hj => ?_⟩
  unfold aheadP
  rw [orL_bit hl hj]
  constructor
  · rintro ⟨x, hx, hb⟩
    obtain ⟨p, hp, rfl⟩ := List.mem_map.mp hx
    obtain ⟨⟨i, hi, rfl⟩, hbi⟩ := mem_places.mp hp
    exact ⟨i, hi, hbi, hb⟩
  · rintro ⟨i, hi, hb, hbj⟩
    exact ⟨out.getD i 0, List.mem_map.mpr ⟨(i : Int), mem_places.mpr ⟨⟨i, hi, rfl⟩, hb⟩, rfl⟩, hbj⟩
theorem pred_iff {out : List Int} (hs : ∀ i : Nat, 0 ≤ out.getD i 0 ∧ out.getD i 0 ≤ 31) {g h : Int} (hg : Sm g) : predP out g h = true ↔ h ≠ g ∧ ∃ i j : Nat, EE out i j ∧ bit h i = true ∧ bit g j = true := by
  unfold predP
  rw [Bool.and_eq_true, and_some (ahead_facts hs h).1 hg]
  constructor
  · rintro ⟨h1, j, hj, hb, hbg⟩
    obtain ⟨i, hi, hbi, hbj⟩ := ((ahead_facts hs h).2 j hj).mp hb
    exact ⟨by simpa using h1, i, j, ⟨hi, hj, hbj⟩, hbi, hbg⟩
  · rintro ⟨h1, i, j, ⟨hi, hj, hbj⟩, hbi, hbg⟩
    exact ⟨by simpa using h1, j, hj, ((ahead_facts hs h).2 j hj).mpr ⟨i, hi, hbi, hbj⟩, hbg⟩
theorem Rch.trans {out : List Int} {i j k : Nat} (h : Rch out i j) (h2 : Rch out j k) : Rch out i k := by
  induction h with
  | refl => exact h2
  | step e _ ih => exact .step e (ih h2)
theorem GInv.smg {out gs : List Int} (h : GInv out gs) {g : Int} (hg : g ∈ gs) : Sm g := ⟨by have := (h.rng g hg).1; omega, (h.rng g hg).2⟩
def GR (out gs : List Int) (x y : Int) : Prop := x ∈ gs ∧ y ∈ gs ∧ ∀ i j : Nat, i < 5 → j < 5 → bit x i = true → bit y j = true → Rch out i j
theorem GR.trans {out gs : List Int} (h : GInv out gs) {x y z : Int} (a : GR out gs x y) (b : GR out gs y z) : GR out gs x z := by
  obtain ⟨m, hm, hb⟩ := has_bit (h.rng y a.2.1)
  exact ⟨a.1, b.2.1, fun i j hi hj h1 h2 => (a.2.2 i m hi hm h1 hb).trans (b.2.2 m j hm hj hb h2)⟩
theorem GR.self {out gs : List Int} (h : GInv out gs) {x : Int} (hx : x ∈ gs) : GR out gs x x := ⟨hx, hx, fun i j hi hj h1 h2 => h.con x hx i j hi hj h1 h2⟩
theorem GR.edge {out gs : List Int} (h : GInv out gs) {x y : Int} (hx : x ∈ gs) (hy : y ∈ gs) (hp : predP out y x = true) : GR out gs x y := by
  obtain ⟨_, i', j', he, hb1, hb2⟩ := (pred_iff h.sm (h.smg hy)).mp hp
  exact ⟨hx, hy, fun i j hi hj h1 h2 => (h.con x hx i i' hi he.1 h1 hb1).trans (.step he (h.con y hy j' j he.2.1 hj hb2 h2))⟩
theorem walk_first {E P : Int → Int → Prop} (htr : ∀ a b c, P a b → P b c → P a c) (hE : ∀ a b, E a b → P a b) : ∀ (l : List Int) (k : Int), Walk E (k :: l) → ∀ y ∈ l, P k y
  | [], _, _, y, hy => (nomatch hy)
  | b :: r, k, w, y, hy => by
    obtain ⟨h1, h2⟩ := w
    rcases List.mem_cons.mp hy with rfl | hy
    · exact hE _ _ h1
    · exact htr _ _ _ (hE _ _ h1) (walk_first htr hE r b h2 y hy)
theorem walk_last {E P : Int → Int → Prop} (htr : ∀ a b c, P a b → P b c → P a c) (hE : ∀ a b, E a b → P a b) : ∀ (l : List Int) (k : Int), Walk E (l ++ [k]) → ∀ x ∈ l, P x k
  | [], _, _, x, hx => (nomatch hx)
  | [a], k, w, x, hx => by rw [List.mem_singleton.mp hx]; exact hE _ _ w.1
  | a :: b :: r, k, w, x, hx => by
    obtain ⟨h1, h2⟩ := w
    have ih := walk_last htr hE (b :: r) k h2
    rcases List.mem_cons.mp hx with rfl | hx
    · exact htr _ _ _ (hE _ _ h1) (ih b (.head _))
    · exact ih x hx
theorem melt_inv {out gs : List Int} (h : GInv out gs) {ns : List Nd} (hn : ns.map Nd.pu = sortP gs out) {ring : List Int} (hr : IsRing (edge ns) ring) : GInv out (meltP gs ring) ∧ (meltP gs ring).length < gs.length := by
  obtain ⟨k, ks, hrg, hw⟩ := hr
  have hE : ∀ a b, edge ns a b → GR out gs a b := fun a b e => by
    obtain ⟨ha, hb, hp⟩ := (edge_sort h hn).mp e
    exact .edge h ha hb hp
  have htr : ∀ a b c, GR out gs a b → GR out gs b c → GR out gs a c := fun a b c => GR.trans h
  -- the second of the ring
  obtain ⟨k2, r2, hr2, hk2⟩ : ∃ k2 r2, ks ++ [k] = k2 :: r2 ∧ edge ns k k2 := by
    rw [hrg] at hw
    cases ks with
    | nil => exact ⟨k, [], rfl, hw.1⟩
    | cons b r => exact ⟨b, r ++ [k], rfl, hw.1⟩
  obtain ⟨hkg, hk2g, hkp⟩ := (edge_sort h hn).mp hk2
  have hkne : k ≠ k2 := ((pred_iff h.sm (h.smg hk2g)).mp hkp).1
  have hto : ∀ x ∈ ring, GR out gs x k := fun x hx => by
    rw [hrg] at hx hw
    rcases List.mem_append.mp hx with hx | hx
    · exact walk_last htr hE (k :: ks) k hw x hx
    · rw [List.mem_singleton.mp hx]; exact .self h hkg
  have hfrom : ∀ y ∈ ring, GR out gs k y := fun y hy => by
    rw [hrg] at hy hw
    rcases List.mem_cons.mp hy with rfl | hy
    · exact .self h hkg
    · exact walk_first htr hE (ks ++ [k]) k hw y hy
  have hin : ∀ x ∈ ring, x ∈ gs := fun x hx => (hto x hx).1
  have hsm : ∀ x ∈ ring, Sm x := fun x hx => h.smg (hin x hx)
  have hms := orL_sm hsm
  have hmb := fun {i : Nat} (hi : i < 5) => orL_bit hsm hi
  have hkr : k ∈ ring := by rw [hrg]; exact .head _
  have hk2r : k2 ∈ ring := by rw [hrg]; show k2 ∈ k :: (ks ++ [k]); rw [hr2]; exact .tail _ (.head _)
  obtain ⟨b0, hb0, hbk⟩ := has_bit (h.rng k hkg)
  have hm1 : 1 ≤ orL ring ∧ orL ring ≤ 31 := one_of_bit hms hb0 ((hmb hb0).mpr ⟨k, hkr, hbk⟩)
  have hfil : ∀ g, g ∈ (gs.filter fun g => Builtin.bitAnd g (orL ring) == 0) ↔ g ∈ gs ∧ ∀ i : Nat, i < 5 → bit g i = true → bit (orL ring) i = true → False := fun g => by
    rw [List.mem_filter]
    constructor
    · rintro ⟨h1, h2⟩; exact ⟨h1, (and_zero (h.smg h1) hms).mp h2⟩
    · rintro ⟨h1, h2⟩; exact ⟨h1, (and_zero (h.smg h1) hms).mpr h2⟩
  have hnot : ∀ x ∈ ring, x ∉ (gs.filter fun g => Builtin.bitAnd g (orL ring) == 0) := fun x hx hm => by
    obtain ⟨i, hi, hb⟩ := has_bit (h.rng x (hin x hx))
    exact ((hfil x).mp hm).2 i hi hb ((hmb hi).mpr ⟨x, hx, hb⟩)
  have hfn : (gs.filter fun g => Builtin.bitAnd g (orL ring) == 0).Nodup := h.nd.sublist List.filter_sublist
  have hlen : (meltP gs ring).length < gs.length := by
    have h2 : ((gs.filter fun g => Builtin.bitAnd g (orL ring) == 0) ++ [k, k2]).length ≤ gs.length := by
      refine nodup_len ?_ fun x hx => ?_
      · rw [List.nodup_append]
        refine ⟨hfn, by simp [hkne], fun a ha b hb e => ?_⟩
        subst e
        simp only [List.mem_cons, List.not_mem_nil, or_false] at hb
        rcases hb with rfl | rfl
        · exact hnot _ hkr ha
        · exact hnot _ hk2r ha
      · rcases List.mem_append.mp hx with hx | hx
        · exact (List.mem_filter.mp hx).1
        · simp only [List.mem_cons, List.not_mem_nil, or_false] at hx
          rcases hx with rfl | rfl
          · exact hkg
          · exact hk2g
    unfold meltP
    simp only [List.length_append, List.length_cons, List.length_nil] at h2 ⊢
    omega
  have hmem : ∀ g, g ∈ meltP gs ring ↔ g ∈ (gs.filter fun g => Builtin.bitAnd g (orL ring) == 0) ∨ g = orL ring := fun g => by
    unfold meltP; rw [List.mem_append, List.mem_singleton]
  refine ⟨⟨by have := h.len; omega, fun g hg => ?_, ?_, fun g hg g' hg' i hi h1 h2 => ?_, fun i hi => ?_, fun g hg i j hi hj h1 h2 => ?_, h.sm⟩, hlen⟩
  · rcases (hmem g).mp hg with hg | rfl
    · exact h.rng g ((hfil g).mp hg).1
    · exact hm1
  · unfold meltP
    rw [List.nodup_append]
    refine ⟨hfn, by simp, fun a ha b hb e => ?_⟩
    rw [List.mem_singleton.mp hb] at e
    subst e
    exact ((hfil _).mp ha).2 b0 hb0 ((hmb hb0).mpr ⟨k, hkr, hbk⟩) ((hmb hb0).mpr ⟨k, hkr, hbk⟩)
  · rcases (hmem g).mp hg with hg | rfl <;> rcases (hmem g').mp hg' with hg' | rfl
    · exact h.disj g ((hfil g).mp hg).1 g' ((hfil g').mp hg').1 i hi h1 h2
    · exact (((hfil g).mp hg).2 i hi h1 h2).elim
    · exact (((hfil g').mp hg').2 i hi h2 h1).elim
    · rfl
  · obtain ⟨g, hg, hb⟩ := h.cov i hi
    by_cases hm : g ∈ (gs.filter fun g => Builtin.bitAnd g (orL ring) == 0)
    · exact ⟨g, (hmem g).mpr (.inl hm), hb⟩
    · refine ⟨orL ring, (hmem _).mpr (.inr rfl), ?_⟩
      have : ∃ i' : Nat, i' < 5 ∧ bit g i' = true ∧ bit (orL ring) i' = true := by
        refine Classical.byContradiction fun hc => hm ((hfil g).mpr ⟨hg, fun i' hi' q1 q2 => hc ⟨i', hi', q1, q2⟩⟩)
      obtain ⟨i', hi', q1, q2⟩ := this
      obtain ⟨x, hx, hxb⟩ := (hmb hi').mp q2
      have := h.disj g hg x (hin x hx) i' hi' q1 hxb
      exact (hmb hi).mpr ⟨g, this ▸ hx, hb⟩
  · rcases (hmem g).mp hg with hg | rfl
    · exact h.con g ((hfil g).mp hg).1 i j hi hj h1 h2
    · obtain ⟨x, hx, hxb⟩ := (hmb hi).mp h1
      obtain ⟨y, hy, hyb⟩ := (hmb hj).mp h2
      exact ((hto x hx).trans h (hfrom y hy)).2.2 i j hi hj hxb hyb
theorem ginv0 (T : List (List Int)) (hT : TabOk T) : GInv (outP T) [1, 2, 4, 8, 16] := by
  have d1 : ∀ g ∈ ([1, 2, 4, 8, 16] : List Int), 1 ≤ g ∧ g ≤ 31 := by decide
  have d2 : ∀ g ∈ ([1, 2, 4, 8, 16] : List Int), ∀ h ∈ ([1, 2, 4, 8, 16] : List Int), ∀ i : Nat, i < 5 → bit g i = true → bit h i = true → g = h := by decide +kernel
  have d3 : ∀ i : Nat, i < 5 → ∃ g ∈ ([1, 2, 4, 8, 16] : List Int), bit g i = true := by decide +kernel
  have d4 : ∀ g ∈ ([1, 2, 4, 8, 16] : List Int), ∀ i : Nat, i < 5 → ∀ j : Nat, j < 5 → bit g i = true → bit g j = true → i = j := by decide +kernel
  refine ⟨by decide, d1, by decide, d2, d3, fun g hg i j hi hj h1 h2 => ?_, fun i => out_sm i⟩
  rw [d4 g hg i hi j hj h1 h2]; exact .refl _
end Mine
end TextMG3
section TextMG4
set_option Elab.async false
set_option maxRecDepth 100000
set_option linter.unusedVariables false
set_option linter.unusedSimpArgs false
namespace Mine
open PySem
theorem psetnp_mk {N : Int → Int} {S : Int → List Int} {k : Int} (f : Int → Int) : ∀ {kl : List Int}, kl.Nodup → psetnp k f (mkP kl N S) = mkP kl (fun x => if x = k then f (N x) else N x) S
  | [], _ => rfl
  | a :: kl, hn => by
    have hn' := List.nodup_cons.mp hn
    have ih := psetnp_mk f (N := N) (S := S) (k := k) hn'.2
    by_cases h : a = k
    · subst h
      simp only [mkP, List.map_cons, psetnp, if_true]
      congr 1
      apply List.map_congr_left
      intro x hx
      have : x ≠ a := fun e => hn'.1 (e ▸ hx)
      simp [this]
    · simp only [mkP, List.map_cons, psetnp, h, if_false] at ih ⊢
      rw [ih]
theorem psets_mk {S : Int → List Int} {kl : List Int} (hn : kl.Nodup) (c : Int) : ∀ (ks : List Int) (N : Int → Int), ks.foldl (fun l k => psetnp k (fun _ => c) l) (mkP kl N S) = mkP kl (fun x => if x ∈ ks then c else N x) S
  | [], N => by simp
  | k :: ks, N => by
    rw [List.foldl_cons, psetnp_mk _ hn, psets_mk hn c ks]
    apply mkP_congr
    intro x _
    refine ⟨?_, rfl⟩
    by_cases h1 : x ∈ ks
    · simp [h1]
    · by_cases h2 : x = k <;> simp [h1, h2]
theorem pget_mk {N : Int → Int} {S : Int → List Int} {k : Int} : ∀ {kl : List Int}, k ∈ kl → pget (mkP kl N S) k = some (k, N k, S k)
  | a :: kl, h => by
    by_cases e : a = k
    · subst e; simp [pget, mkP]
    · have : k ∈ kl := by rcases List.mem_cons.mp h with q | q; · exact absurd q.symm e
                          · exact q
      have ih := pget_mk (N := N) (S := S) this
      simp only [pget, mkP, List.map_cons, List.find?_cons, e, decide_false] at ih ⊢
      exact ih
theorem decs_mk {S : Int → List Int} {kl : List Int} (hn : kl.Nodup) : ∀ (sc rd : List Int) (N : Int → Int), sc.Nodup → (∀ s ∈ sc, s ∈ kl) →
    sc.foldl dec1 (mkP kl N S, rd) = (mkP kl (fun x => if x ∈ sc then N x - 1 else N x) S, rd ++ sc.filter fun s => N s - 1 == 0)
  | [], rd, N, _, _ => by simp
  | s :: sc, rd, N, hs, hk => by
    have hs' := List.nodup_cons.mp hs
    have hpn : pnp (mkP kl N S) s = N s := by unfold pnp; rw [pget_mk (hk s (.head _))]; rfl
    have e1 : dec1 (mkP kl N S, rd) s = (mkP kl (fun x => if x = s then N x - 1 else N x) S, if N s - 1 == 0 then rd ++ [s] else rd) := by
      unfold dec1
      simp only
      rw [psetnp_mk _ hn, hpn]
    rw [List.foldl_cons, e1, decs_mk hn sc _ _ hs'.2 fun x hx => hk x (.tail _ hx)]
    congr 1
    · apply mkP_congr
      intro x _
      refine ⟨?_, rfl⟩
      by_cases h2 : x = s
      · subst h2; simp [hs'.1]
      · simp [h2]
    · have e2 : sc.filter (fun x => (if x = s then N x - 1 else N x) - 1 == 0) = sc.filter fun x => N x - 1 == 0 := by
        apply List.filter_congr
        intro x hx
        have : x ≠ s := fun e => hs'.1 (e ▸ hx)
        simp [this]
      rw [e2, List.filter_cons]
      split <;> simp
theorem done1_mk {N : Int → Int} {S : Int → List Int} {kl rd : List Int} {g : Int} (hn : kl.Nodup) (hg : g ∈ kl) (hs : (S g).Nodup) (hk : ∀ s ∈ S g, s ∈ kl) :
    done1 (mkP kl N S, rd) g = (mkP kl (fun x => if x ∈ S g then (if x = g then -2 else N x) - 1 else (if x = g then -2 else N x)) S, rd ++ (S g).filter fun s => (if s = g then -2 else N s) - 1 == 0) := by
  unfold done1
  simp only
  rw [pget_mk hg, psetnp_mk _ hn]
  exact decs_mk hn (S g) rd _ hs hk
theorem filter_ne_len {g : Int} : ∀ {m : List Int}, m.Nodup → ((m.filter fun x => decide (x ≠ g)).length : Int) = (m.length : Int) - (if g ∈ m then 1 else 0)
  | [], _ => by simp
  | a :: m, hn => by
    have hn' := List.nodup_cons.mp hn
    have ih := filter_ne_len (g := g) hn'.2
    by_cases h : a = g
    · subst h
      have : (m.filter fun x => decide (x ≠ a)) = m := List.filter_eq_self.mpr fun x hx => decide_eq_true fun e => hn'.1 (e ▸ hx)
      rw [List.filter_cons]
      simp only [ne_eq, not_true_eq_false, decide_false, Bool.false_eq_true, if_false]
      simp only [ne_eq] at this
      rw [this]
      simp
    · have h' : ¬ g = a := fun e => h e.symm
      rw [List.filter_cons]
      simp only [ne_eq, h, not_false_eq_true, decide_true, if_true, List.length_cons, List.mem_cons, h', false_or] at ih ⊢
      omega
theorem cnt_snoc {out gs O : List Int} (hnd : gs.Nodup) {g x : Int} (hg : g ∈ gs) (hO : g ∉ O) : cntP out gs (O ++ [g]) x = cntP out gs O x - (if predP out x g = true then 1 else 0) := by
  unfold cntP
  have e1 : ((predsP gs out x).filter fun h => decide (h ∉ O ++ [g])) = (((predsP gs out x).filter fun h => decide (h ∉ O)).filter fun h => decide (h ≠ g)) := by
    rw [List.filter_filter]
    apply List.filter_congr
    intro h _
    by_cases h1 : h ∈ O <;> by_cases h2 : h = g <;> simp [h1, h2]
  have hn2 : ((predsP gs out x).filter fun h => decide (h ∉ O)).Nodup := (hnd.sublist List.filter_sublist).sublist List.filter_sublist
  rw [e1, filter_ne_len hn2]
  congr 1
  have : g ∈ ((predsP gs out x).filter fun h => decide (h ∉ O)) ↔ predP out x g = true := by
    rw [List.mem_filter]
    unfold predsP
    rw [List.mem_filter]
    constructor
    · exact fun q => q.1.2
    · exact fun q => ⟨⟨hg, q⟩, decide_eq_true hO⟩
  by_cases hp : predP out x g = true
  · rw [if_pos (this.mpr hp), if_pos hp]
  · rw [if_neg (fun q => hp (this.mp q)), if_neg hp]
theorem cnt_pos {out gs O : List Int} {g x : Int} (hg : g ∈ gs) (hO : g ∉ O) (hp : predP out x g = true) : cntP out gs O x ≠ 0 := by
  unfold cntP
  have : g ∈ ((predsP gs out x).filter fun h => decide (h ∉ O)) := List.mem_filter.mpr ⟨List.mem_filter.mpr ⟨hg, hp⟩, decide_eq_true hO⟩
  have := List.length_pos_of_mem this
  omega
theorem pred_self (out : List Int) (g : Int) : predP out g g = false := by simp [predP]
def NF (out gs O P : List Int) (x : Int) : Int := if x ∈ O then -2 else if x ∈ P then -1 else cntP out gs O x
def SF (out gs : List Int) (x : Int) : List Int := gs.filter fun g => predP out g x
theorem KS.mk_eq {out gs : List Int} {pn : List PN} {O P N : List Int} (k : KS out gs pn O P N) : pn = mkP (pn.map (·.1)) (NF out gs O P) (SF out gs) := by
  unfold mkP
  rw [List.map_map]
  have : pn.map ((fun k => (k, NF out gs O P k, SF out gs k)) ∘ fun x => x.1) = pn.map id := by
    apply List.map_congr_left
    intro m hm
    have h1 := k.np m hm
    have h2 := k.su m hm
    simp only [Function.comp, id]
    unfold NF SF
    rw [← h1, ← h2]
  rw [this, List.map_id]
theorem ks_of {out gs kl O P N : List Int} {F : Int → Int} (hn : kl.Nodup) (hk : ∀ x, x ∈ kl ↔ x ∈ gs) (hF : ∀ x ∈ kl, F x = NF out gs O P x) (nd : (O ++ P ++ N).Nodup) (sub : ∀ g ∈ O ++ P ++ N, g ∈ gs)
    (rdy : ∀ g ∈ gs, g ∉ O → g ∉ P → (g ∈ N ↔ cntP out gs O g = 0)) (pen : ∀ g ∈ P, ∀ h ∈ gs, predP out g h = true → h ∈ O)
    (ord : ∀ (i : Nat) (g : Int), O[i]? = some g → ∀ h ∈ gs, predP out g h = true → h ∈ O.take i) : KS out gs (mkP kl F (SF out gs)) O P N := by
  refine ⟨by rw [mkP_keys]; exact hn, fun x => by rw [mkP_keys]; exact hk x, fun m hm => ?_, fun m hm => ?_, nd, sub, rdy, pen, ord⟩
  · obtain ⟨x, _, rfl⟩ := List.mem_map.mp hm; rfl
  · obtain ⟨x, hx, rfl⟩ := List.mem_map.mp hm; exact hF x hx
theorem ks_one {out gs : List Int} (hnd : gs.Nodup) {pn : List PN} {O P N : List Int} {g : Int} (k : KS out gs pn O (g :: P) N) : KS out gs (done1 (pn, N) g).1 (O ++ [g]) P (done1 (pn, N) g).2 := by
  have hkl := k.kn
  have hke := k.ke
  rw [k.mk_eq]
  generalize pn.map (·.1) = kl at hkl hke
  have hnd0 := k.nd
  rw [List.nodup_append, List.nodup_append, List.nodup_cons] at hnd0
  obtain ⟨⟨hOn, ⟨hgP, hPn⟩, hOP⟩, hNn, hON⟩ := hnd0
  have hgO : g ∉ O := fun h => hOP g h g (.head _) rfl
  have hgN : g ∉ N := fun h => hON g (List.mem_append_right _ (.head _)) g h rfl
  have hgg : g ∈ gs := k.sub g (List.mem_append_left _ (List.mem_append_right _ (.head _)))
  have hsc : ∀ s ∈ SF out gs g, s ∈ gs ∧ predP out s g = true := fun s hs => List.mem_filter.mp hs
  have hs1 : ∀ s, s ∈ gs → predP out s g = true → s ∉ O ∧ s ≠ g ∧ s ∉ P ∧ s ∉ N := by
    intro s hsg hp
    have a1 : s ∉ O := fun h => by
      obtain ⟨i, hi⟩ := List.getElem?_of_mem h
      exact hgO (List.mem_of_mem_take (k.ord i s hi g hgg hp))
    have a2 : s ≠ g := fun e => by rw [e, pred_self] at hp; cases hp
    have a3 : s ∉ P := fun h => hgO (k.pen s (.tail _ h) g hgg hp)
    refine ⟨a1, a2, a3, fun h => ?_⟩
    exact cnt_pos hgg hgO hp ((k.rdy s hsg a1 (fun q => by rcases List.mem_cons.mp q with q | q; · exact a2 q
                                                           · exact a3 q)).mp h)
  rw [done1_mk hkl ((hke g).mpr hgg) (hnd.sublist List.filter_sublist) fun s hs => (hke s).mpr (hsc s hs).1]
  have hcs : ∀ s ∈ SF out gs g, (if s = g then -2 else NF out gs O (g :: P) s) - 1 = cntP out gs (O ++ [g]) s := fun s hs => by
    obtain ⟨h1, h2⟩ := hsc s hs
    obtain ⟨b1, b2, b3, b4⟩ := hs1 s h1 h2
    rw [if_neg b2, cnt_snoc hnd hgg hgO, if_pos h2]
    unfold NF
    rw [if_neg b1, if_neg (by simp [b2, b3])]
  have hfil : (SF out gs g).filter (fun s => (if s = g then -2 else NF out gs O (g :: P) s) - 1 == 0) = (SF out gs g).filter fun s => cntP out gs (O ++ [g]) s == 0 := by
    apply List.filter_congr
    intro s hs
    rw [hcs s hs]
  rw [hfil]
  refine ks_of hkl hke ?_ ?_ ?_ ?_ ?_ ?_
  · intro x hx
    have hxg := (hke x).mp hx
    unfold NF
    by_cases e : x = g
    · subst e
      have : x ∉ SF out gs x := fun h => by have := (hsc x h).2; rw [pred_self] at this; cases this
      simp [this]
    · by_cases hxS : x ∈ SF out gs g
      · rw [if_pos hxS]
        have := hcs x hxS
        unfold NF at this
        rw [this]
        obtain ⟨h1, h2⟩ := hsc x hxS
        obtain ⟨b1, b2, b3, b4⟩ := hs1 x h1 h2
        rw [if_neg (by simp [b1, b2]), if_neg b3]
      · rw [if_neg hxS, if_neg e]
        have hnp : ¬ predP out x g = true := fun q => hxS (List.mem_filter.mpr ⟨hxg, q⟩)
        have hc := cnt_snoc (out := out) (x := x) hnd hgg hgO
        rw [if_neg hnp] at hc
        by_cases h1 : x ∈ O
        · simp [h1]
        · by_cases h2 : x ∈ P
          · simp [h1, h2, e]
          · simp [h1, h2, e]; omega
  · have e : O ++ [g] ++ P ++ (N ++ (SF out gs g).filter fun s => cntP out gs (O ++ [g]) s == 0) = (O ++ g :: P ++ N) ++ (SF out gs g).filter fun s => cntP out gs (O ++ [g]) s == 0 := by simp
    rw [e, List.nodup_append]
    refine ⟨k.nd, (hnd.sublist List.filter_sublist).sublist List.filter_sublist, fun a ha b hb q => ?_⟩
    subst q
    obtain ⟨h1, h2⟩ := hsc a (List.mem_filter.mp hb).1
    obtain ⟨b1, b2, b3, b4⟩ := hs1 a h1 h2
    rcases List.mem_append.mp ha with ha | ha
    · rcases List.mem_append.mp ha with ha | ha
      · exact b1 ha
      · rcases List.mem_cons.mp ha with ha | ha
        · exact b2 ha
        · exact b3 ha
    · exact b4 ha
  · intro x hx
    have hx' : x ∈ (O ++ g :: P ++ N) ∨ x ∈ (SF out gs g).filter fun s => cntP out gs (O ++ [g]) s == 0 := by
      rw [← List.mem_append]
      have e : O ++ [g] ++ P ++ (N ++ (SF out gs g).filter fun s => cntP out gs (O ++ [g]) s == 0) = (O ++ g :: P ++ N) ++ (SF out gs g).filter fun s => cntP out gs (O ++ [g]) s == 0 := by simp
      rw [← e]; exact hx
    rcases hx' with h | h
    · exact k.sub x h
    · exact (hsc x (List.mem_filter.mp h).1).1
  · intro x hxg hxO hxP
    have hxO' : x ∉ O ∧ x ≠ g := by simpa using hxO
    rw [List.mem_append, List.mem_filter]
    by_cases hp : predP out x g = true
    · obtain ⟨b1, b2, b3, b4⟩ := hs1 x hxg hp
      have hxS : x ∈ SF out gs g := List.mem_filter.mpr ⟨hxg, hp⟩
      constructor
      · rintro (h | h)
        · exact absurd h b4
        · simpa using h.2
      · intro h
        exact .inr ⟨hxS, by simpa using h⟩
    · have hxS : x ∉ SF out gs g := fun q => hp (List.mem_filter.mp q).2
      have hc := cnt_snoc (out := out) (x := x) hnd hgg hgO
      rw [if_neg hp, Int.sub_zero] at hc
      rw [hc, ← k.rdy x hxg hxO'.1 (by simp [hxO'.2, hxP])]
      exact ⟨fun h => h.elim id fun q => absurd q.1 hxS, .inl⟩
  · intro x hx h' hh' hp
    exact List.mem_append_left _ (k.pen x (.tail _ hx) h' hh' hp)
  · intro i x hi h' hh' hp
    by_cases hlt : i < O.length
    · rw [List.getElem?_append_left hlt] at hi
      rw [List.take_append_of_le_length (Nat.le_of_lt hlt)]
      exact k.ord i x hi h' hh' hp
    · have hil := (List.getElem?_eq_some_iff.mp hi).1
      simp at hil
      have : i = O.length := by omega
      subst this
      simp at hi
      subst hi
      rw [List.take_left' rfl]
      exact k.pen _ (.head _) h' hh' hp
theorem ks_pref {out gs : List Int} (hnd : gs.Nodup) {pn : List PN} {O P N : List Int} (k : KS out gs pn O P N) : ∀ i, i ≤ P.length → KS out gs (doneP (pn, N) (P.take i)).1 (O ++ P.take i) (P.drop i) (doneP (pn, N) (P.take i)).2
  | 0, _ => by simpa [doneP] using k
  | i + 1, hi => by
    have ih := ks_pref hnd k i (by omega)
    have hlt : i < P.length := by omega
    rw [List.drop_eq_getElem_cons hlt] at ih
    have h1 := ks_one hnd ih
    have e : P.take (i + 1) = P.take i ++ [P[i]] := by rw [List.take_append_getElem hlt]
    have e2 : doneP (pn, N) (P.take (i + 1)) = done1 (doneP (pn, N) (P.take i)) P[i] := by
      unfold doneP; rw [e, List.foldl_append]; rfl
    rw [e2, e, ← List.append_assoc]
    exact h1
theorem ks_start {out gs : List Int} {pn : List PN} {O N : List Int} (k : KS out gs pn O [] N) : KS out gs (N.foldl (fun l k => psetnp k (fun _ => -1) l) pn) O N [] := by
  have hkl := k.kn
  have hke := k.ke
  rw [k.mk_eq]
  generalize pn.map (·.1) = kl at hkl hke
  rw [psets_mk hkl]
  have hnd0 := k.nd
  rw [List.append_nil] at hnd0
  have hd := (List.nodup_append.mp hnd0).2.2
  refine ks_of hkl hke ?_ (by simpa using hnd0) (fun g hg => k.sub g (by simpa using hg)) ?_ ?_ k.ord
  · intro x _
    unfold NF
    by_cases h1 : x ∈ N
    · have : x ∉ O := fun q => hd x q x h1 rfl
      simp [h1, this]
    · simp [h1]
  · intro g hg hO hN
    have := k.rdy g hg hO (by simp)
    exact ⟨fun q => (nomatch q), fun q => absurd (this.mpr q) hN⟩
  · intro g hg h hh hp
    have hO : g ∉ O := fun q => hd g q g hg rfl
    refine Classical.byContradiction fun hc => ?_
    exact cnt_pos hh hc hp ((k.rdy g (k.sub g (by simp [hg])) hO (by simp)).mp hg)
theorem ks_len {out gs : List Int} (h : GInv out gs) {pn : List PN} {O N : List Int} (k : KS out gs pn O [] N) : O.length + N.length ≤ gs.length := by
  have := nodup_len k.nd k.sub
  simpa using this
theorem ks_pre {out gs : List Int} (h : GInv out gs) {pn : List PN} {O N : List Int} (k : KS out gs pn O [] N) : ∀ (i : Nat) (g : Int), N[i]? = some g → ∃ m, pget (doneP (N.foldl (fun l k => psetnp k (fun _ => -1) l) pn, []) (N.take i)).1 g = some m ∧ m.2.1 = -1 := by
  intro i g hi
  have hlt := (List.getElem?_eq_some_iff.mp hi).1
  have hp := ks_pref h.nd (ks_start k) i (Nat.le_of_lt hlt)
  have hgi : N[i] = g := (List.getElem?_eq_some_iff.mp hi).2
  rw [List.drop_eq_getElem_cons hlt, hgi] at hp
  have hgg : g ∈ gs := k.sub g (by simp [List.mem_of_getElem? hi])
  have hgk := (hp.ke g).mpr hgg
  have hgO : g ∉ O ++ N.take i := fun q => by
    have := hp.nd
    rw [List.nodup_append, List.nodup_append] at this
    exact this.1.2.2 g q g (.head _) rfl
  rw [hp.mk_eq]
  refine ⟨_, pget_mk hgk, ?_⟩
  show NF out gs _ _ g = -1
  unfold NF
  rw [if_neg hgO, if_pos (.head _)]
theorem ks_step {out gs : List Int} (h : GInv out gs) {pn : List PN} {O N : List Int} (k : KS out gs pn O [] N) : KS out gs (doneP (N.foldl (fun l k => psetnp k (fun _ => -1) l) pn, []) N).1 (O ++ N) [] (doneP (N.foldl (fun l k => psetnp k (fun _ => -1) l) pn, []) N).2 := by
  have hp := ks_pref h.nd (ks_start k) N.length (Nat.le_refl _)
  rw [List.take_length, List.drop_length] at hp
  exact hp
theorem ks0 {out gs : List Int} (h : GInv out gs) {ns : List Nd} (hn : ns.map Nd.pu = sortP gs out) : KS out gs (ns.map Nd.pu) [] [] (readyP ns) := by
  obtain ⟨kl, h1, h2, h3⟩ := sort_mk (out := out) h.nd
  have hr : readyP ns = ((ns.map Nd.pu).filter fun m => m.2.1 == 0).map (·.1) := by
    unfold readyP
    rw [List.filter_map, List.map_map]
    rfl
  have hmem : ∀ g, g ∈ readyP ns ↔ g ∈ gs ∧ ((predsP gs out g).length : Int) = 0 := fun g => by
    rw [hr, hn, h3]
    constructor
    · intro hg
      obtain ⟨m, hm, rfl⟩ := List.mem_map.mp hg
      obtain ⟨hm1, hm2⟩ := List.mem_filter.mp hm
      obtain ⟨x, hx, rfl⟩ := List.mem_map.mp hm1
      exact ⟨(h2 x).mp hx, by simpa using hm2⟩
    · rintro ⟨hg, hz⟩
      exact List.mem_map.mpr ⟨(g, ((predsP gs out g).length : Int), gs.filter fun q => predP out q g), List.mem_filter.mpr ⟨List.mem_map.mpr ⟨g, (h2 g).mpr hg, rfl⟩, by simpa using hz⟩, rfl⟩
  have hc : ∀ g, cntP out gs [] g = ((predsP gs out g).length : Int) := fun g => by
    unfold cntP
    rw [List.filter_eq_self.mpr fun _ _ => decide_eq_true (by simp)]
  have hnd : (readyP ns).Nodup := by
    rw [hr, hn, h3]
    have : (((mkP kl (fun x => ((predsP gs out x).length : Int)) fun x => gs.filter fun g => predP out g x).filter fun m => m.2.1 == 0).map (·.1)).Sublist kl := by
      have := (List.filter_sublist (l := mkP kl (fun x => ((predsP gs out x).length : Int)) fun x => gs.filter fun g => predP out g x) (p := fun m => m.2.1 == 0)).map (·.1)
      rw [mkP_keys] at this
      exact this
    exact h1.sublist this
  rw [hn, h3]
  refine ks_of h1 h2 ?_ (by simpa using hnd) (fun g hg => ((hmem g).mp (by simpa using hg)).1) ?_ (fun g hg => (nomatch hg)) (fun i g hi => by simp at hi)
  · intro x _
    unfold NF
    simp [hc]
  · intro g hg _ _
    rw [hmem, hc]
    exact ⟨fun q => q.2, fun q => ⟨hg, q⟩⟩
end Mine
end TextMG4
section TextMG5
set_option Elab.async false
set_option maxRecDepth 100000
set_option linter.unusedVariables false
set_option linter.unusedSimpArgs false
namespace Mine
open PySem
/-! the ways -/
def bf (r : List Int) (i j : Nat) : Bool := bit (r.getD i 0) (j : Int)
def SmL (r : List Int) : Prop := r.length = 5 ∧ ∀ i : Nat, Sm (r.getD i 0)
theorem upZ_snoc (i : Nat) : upZ (i + 1) = upZ i ++ [(i : Int)] := by simp [upZ, List.range_succ]
theorem warI_facts {r : List Int} (hr : SmL r) {k i : Nat} (hk : k < 5) (hi : i < 5) : SmL (warI k r i) ∧ ∀ i' j : Nat, i' < 5 → j < 5 → bf (warI k r i) i' j = if i' = i then (bf r i j || (bf r i k && bf r k j)) else bf r i' j := by
  unfold warI
  simp only [Int.toNat_natCast]
  have hil : i < r.length := by rw [hr.1]; exact hi
  by_cases hb : bit (r.getD i 0) (k : Int) = true
  · rw [if_pos hb]
    have hget : ∀ i' : Nat, (r.set i (Builtin.bitOr (r.getD i 0) (r.getD k 0))).getD i' 0 = if i' = i then Builtin.bitOr (r.getD i 0) (r.getD k 0) else r.getD i' 0 := by
      intro i'
      simp only [List.getD_eq_getElem?_getD, List.getElem?_set]
      by_cases e : i = i'
      · subst e; simp [hil]
      · have e' : ¬ i' = i := fun q => e q.symm
        simp [e, e']
    refine ⟨⟨by simp [hr.1], fun i' => ?_⟩, fun i' j hi' hj => ?_⟩
    · rw [hget]; split
      · exact or_sm (hr.2 i) (hr.2 k)
      · exact hr.2 i'
    · unfold bf
      rw [hget]
      split
      · rw [or_bit (hr.2 i) (hr.2 k) hj, hb, Bool.true_and]
      · rfl
  · rw [if_neg hb]
    refine ⟨hr, fun i' j hi' hj => ?_⟩
    split
    · rename_i e; subst e
      have : bf r i' k = false := by simpa [bf] using hb
      rw [this]; simp
    · rfl
theorem warK_aux {r : List Int} (hr : SmL r) {k : Nat} (hk : k < 5) : ∀ p : Nat, p ≤ 5 → SmL ((upZ p).foldl (warI k) r) ∧ ∀ i j : Nat, i < 5 → j < 5 → bf ((upZ p).foldl (warI k) r) i j = if i < p then (bf r i j || (bf r i k && bf r k j)) else bf r i j
  | 0, _ => ⟨by simpa [upZ] using hr, fun i j _ _ => by simp [upZ]⟩
  | p + 1, hp => by
    obtain ⟨h1, h2⟩ := warK_aux hr hk p (by omega)
    rw [upZ_snoc, List.foldl_append]
    obtain ⟨h3, h4⟩ := warI_facts h1 hk (show p < 5 by omega)
    refine ⟨h3, fun i j hi hj => ?_⟩
    show bf (warI k ((upZ p).foldl (warI k) r) p) i j = _
    rw [h4 i j hi hj]
    by_cases e : i = p
    · subst e
      rw [if_pos rfl, if_pos (Nat.lt_succ_self _), h2 i j hi hj, h2 i k hi hk, h2 k j hk hj, if_neg (Nat.lt_irrefl _), if_neg (Nat.lt_irrefl _)]
      split <;> cases bf r i j <;> cases bf r i k <;> cases bf r k j <;> cases bf r k k <;> rfl
    · rw [if_neg e, h2 i j hi hj]
      by_cases h5 : i < p
      · rw [if_pos h5, if_pos (by omega)]
      · rw [if_neg h5, if_neg (by omega)]
theorem warK_facts {r : List Int} (hr : SmL r) {k : Nat} (hk : k < 5) : SmL (warK r k) ∧ ∀ i j : Nat, i < 5 → j < 5 → bf (warK r k) i j = (bf r i j || (bf r i k && bf r k j)) := by
  obtain ⟨h1, h2⟩ := warK_aux hr hk 5 (Nat.le_refl _)
  refine ⟨h1, fun i j hi hj => ?_⟩
  have := h2 i j hi hj
  rw [if_pos hi] at this
  exact this
inductive Tr (out : List Int) : Nat → Nat → Prop
  | one {i j : Nat} : EE out i j → Tr out i j
  | more {i j k : Nat} : EE out i j → Tr out j k → Tr out i k
theorem Tr.trans {out : List Int} {i j k : Nat} (h : Tr out i j) (h2 : Tr out j k) : Tr out i k := by
  induction h with
  | one e => exact .more e h2
  | more e _ ih => exact .more e (ih h2)
theorem Tr.rch {out : List Int} {i j : Nat} (h : Tr out i j) : Rch out i j := by
  induction h with
  | one e => exact .step e (.refl _)
  | more e _ ih => exact .step e ih
theorem Rch.tr {out : List Int} {i j : Nat} (h : Rch out i j) : i = j ∨ Tr out i j := by
  induction h with
  | refl => exact .inl rfl
  | step e _ ih =>
    rcases ih with rfl | ih
    · exact .inr (.one e)
    · exact .inr (.more e ih)
theorem Tr.lt {out : List Int} {i j : Nat} (h : Tr out i j) : i < 5 ∧ j < 5 := by
  induction h with
  | one e => exact ⟨e.1, e.2.1⟩
  | more e _ ih => exact ⟨e.1, ih.2⟩
theorem reach_aux {out : List Int} (ho : SmL out) : ∀ p : Nat, p ≤ 5 → SmL ((upZ p).foldl warK out) ∧ (∀ i j : Nat, i < 5 → j < 5 → bf ((upZ p).foldl warK out) i j = true → Tr out i j) ∧ (∀ i j : Nat, i < 5 → j < 5 → bf out i j = true → bf ((upZ p).foldl warK out) i j = true) ∧
    (∀ k i j : Nat, k < p → i < 5 → j < 5 → bf ((upZ p).foldl warK out) i k = true → bf ((upZ p).foldl warK out) k j = true → bf ((upZ p).foldl warK out) i j = true)
  | 0, _ => ⟨by simpa [upZ] using ho, fun i j hi hj h => .one ⟨hi, hj, by simpa [upZ, bf] using h⟩, fun i j _ _ h => by simpa [upZ] using h, fun k _ _ hk => absurd hk (Nat.not_lt_zero _)⟩
  | p + 1, hp => by
    obtain ⟨h1, h2, h3, h4⟩ := reach_aux ho p (by omega)
    have hp5 : p < 5 := by omega
    obtain ⟨g1, g2⟩ := warK_facts h1 hp5
    rw [upZ_snoc, List.foldl_append]
    show SmL (warK ((upZ p).foldl warK out) p) ∧ (∀ i j : Nat, i < 5 → j < 5 → bf (warK ((upZ p).foldl warK out) p) i j = true → Tr out i j) ∧ (∀ i j : Nat, i < 5 → j < 5 → bf out i j = true → bf (warK ((upZ p).foldl warK out) p) i j = true) ∧
      (∀ k i j : Nat, k < p + 1 → i < 5 → j < 5 → bf (warK ((upZ p).foldl warK out) p) i k = true → bf (warK ((upZ p).foldl warK out) p) k j = true → bf (warK ((upZ p).foldl warK out) p) i j = true)
    generalize (upZ p).foldl warK out = r at *
    have hor : ∀ i j : Nat, i < 5 → j < 5 → (bf (warK r p) i j = true ↔ bf r i j = true ∨ (bf r i p = true ∧ bf r p j = true)) := fun i j hi hj => by
      rw [g2 i j hi hj, Bool.or_eq_true, Bool.and_eq_true]
    refine ⟨g1, fun i j hi hj h => ?_, fun i j hi hj h => (hor i j hi hj).mpr (.inl (h3 i j hi hj h)), fun k i j hk hi hj ha hb => ?_⟩
    · rcases (hor i j hi hj).mp h with h | ⟨ha, hb⟩
      · exact h2 i j hi hj h
      · exact (h2 i p hi hp5 ha).trans (h2 p j hp5 hj hb)
    · have hk5 : k < 5 := by omega
      rw [hor i k hi hk5] at ha
      rw [hor k j hk5 hj] at hb
      rw [hor i j hi hj]
      by_cases e : k = p
      · subst e
        have ha' : bf r i k = true := ha.elim id fun q => q.1
        have hb' : bf r k j = true := hb.elim id fun q => q.2
        exact .inr ⟨ha', hb'⟩
      · have hkp : k < p := by omega
        rcases ha with ha | ⟨ha1, ha2⟩
        · rcases hb with hb | ⟨hb1, hb2⟩
          · exact .inl (h4 k i j hkp hi hj ha hb)
          · exact .inr ⟨h4 k i p hkp hi hp5 ha hb1, hb2⟩
        · rcases hb with hb | ⟨hb1, hb2⟩
          · exact .inr ⟨ha1, h4 k p j hkp hp5 hj ha2 hb⟩
          · exact .inr ⟨ha1, hb2⟩
theorem reach_iff {out : List Int} (ho : SmL out) {i j : Nat} (hi : i < 5) (hj : j < 5) : bf (reachP out) i j = true ↔ Tr out i j := by
  obtain ⟨_, h2, h3, h4⟩ := reach_aux ho 5 (Nat.le_refl _)
  refine ⟨h2 i j hi hj, fun h => ?_⟩
  clear hi hj
  induction h with
  | one e => exact h3 _ _ e.1 e.2.1 e.2.2
  | more e t ih => exact h4 _ _ _ e.2.1 e.1 t.lt.2 (h3 _ _ e.1 e.2.1 e.2.2) ih
/-! the order -/
def rk : List Int → Int → Nat
  | [], _ => 0
  | x :: r, v => if v ∈ r then rk r v else if x = v then r.length + 1 else 0
theorem rk_le : ∀ (l : List Int) (v : Int), rk l v ≤ l.length
  | [], _ => Nat.le_refl _
  | x :: r, v => by
    unfold rk
    have := rk_le r v
    split
    · simp only [List.length_cons]; omega
    · split <;> simp
theorem topo_in {ns : List Nd} : ∀ {dn : List Int} {a b : Int}, Topo ns dn → a ∈ dn → edge ns a b → b ∈ dn
  | x :: r, a, b, ⟨h1, h2⟩, ha, he => by
    rcases List.mem_cons.mp ha with rfl | ha
    · obtain ⟨n, hn, hk, hb⟩ := he
      exact .tail _ (h1 n hn hk b hb)
    · exact .tail _ (topo_in h2 ha he)
theorem rk_lt {ns : List Nd} : ∀ {dn : List Int} {a b : Int}, Topo ns dn → a ∈ dn → edge ns a b → rk dn b < rk dn a
  | x :: r, a, b, ⟨h1, h2⟩, ha, he => by
    by_cases har : a ∈ r
    · have hb := topo_in h2 har he
      unfold rk
      rw [if_pos hb, if_pos har]
      exact rk_lt h2 har he
    · have hax : x = a := by
        rcases List.mem_cons.mp ha with q | q
        · exact q.symm
        · exact absurd q har
      obtain ⟨n, hn, hk, hb⟩ := he
      have hbr := h1 n hn (hk.trans hax.symm) b hb
      unfold rk
      rw [if_pos hbr, if_neg har, if_pos hax]
      have := rk_le r b
      omega
theorem filter_one {α : Type} {a : α} {q : α → Bool} : ∀ {l : List α}, l.Nodup → a ∈ l → (∀ x ∈ l, q x = true ↔ x = a) → l.filter q = [a]
  | x :: l, hn, ha, hq => by
    have hn' := List.nodup_cons.mp hn
    rw [List.filter_cons]
    by_cases e : x = a
    · subst e
      rw [if_pos ((hq x (.head _)).mpr rfl)]
      have : l.filter q = [] := List.filter_eq_nil_iff.mpr fun y hy hqy => hn'.1 ((hq y (.tail _ hy)).mp hqy ▸ hy)
      rw [this]
    · rw [if_neg fun h => e ((hq x (.head _)).mp h)]
      have ha' : a ∈ l := by
        rcases List.mem_cons.mp ha with q | q
        · exact absurd q.symm e
        · exact q
      exact filter_one hn'.2 ha' fun y hy => hq y (.tail _ hy)
theorem bitN_bit (a j : Int) : bitN a j = if bit a j = true then 1 else 0 := by
  unfold bitN bit
  have h1 := Int.fmod_nonneg_of_pos (a.fdiv (2 ^ j.toNat)) (show (0 : Int) < 2 by decide)
  have h2 := Int.fmod_lt_of_pos (a.fdiv (2 ^ j.toNat)) (show (0 : Int) < 2 by decide)
  generalize (a.fdiv (2 ^ j.toNat)).fmod 2 = m at h1 h2
  have : m = 0 ∨ m = 1 := by omega
  rcases this with rfl | rfl <;> rfl
end Mine
end TextMG5
section TextMD
set_option Elab.async false
set_option maxRecDepth 100000
set_option linter.unusedVariables false
set_option linter.unusedSimpArgs false
namespace Mine
/-! formal sums: a term is a factor and the entries that it multiplies -/
abbrev FS := List (Int × List (Nat × Nat))
def evM (e : Nat → Nat → Int) : List (Nat × Nat) → Int
  | [] => 1
  | p :: r => e p.1 p.2 * evM e r
def evF (e : Nat → Nat → Int) : FS → Int
  | [] => 0
  | t :: r => t.1 * evM e t.2 + evF e r
def fneg (f : FS) : FS := f.map fun t => (-t.1, t.2)
def fmv (f : FS) (p : Nat × Nat) : FS := f.map fun t => (t.1, t.2 ++ [p])
def getF (m : List (Int × FS)) (k : Int) : FS := ((m.find? fun p => p.1 = k).map (·.2)).getD []
def putF (m : List (Int × FS)) (k : Int) (v : FS) : List (Int × FS) := if m.any (fun p => p.1 = k) then m.map (fun p => if p.1 = k then (p.1, v) else p) else m ++ [(k, v)]
def wstepF (used : Int) (row : List (Nat × Nat)) (st : FS × List (Int × FS)) (j : Nat) : FS × List (Int × FS) :=
  if bit used j then (fneg st.1, st.2) else (st.1, putF st.2 (used + 2 ^ j) (getF st.2 (used + 2 ^ j) ++ fmv st.1 (row.getD j (0, 0))))
def wInF (row : List (Nat × Nat)) (m : List (Int × FS)) (p : Int × FS) : List (Int × FS) := ((downs row.length).foldl (wstepF p.1 row) (p.2, m)).2
def wedgeF (forms : List (Int × FS)) (row : List (Nat × Nat)) : List (Int × FS) := forms.foldl (wInF row) []
def detMF (rows : List (List (Nat × Nat))) : List (Int × FS) := rows.foldl wedgeF [(0, [(1, [])])]
def rowsF (ps : List Nat) : List (List (Nat × Nat)) := ps.map fun i => ps.map fun j => (i, j)
def detF (ps : List Nat) : FS := getF (detMF (rowsF ps)) (2 ^ ps.length - 1)
def pn (m : Nat) : List Nat := (List.range 5).filter fun i => m.testBit i
section
variable (e : Nat → Nat → Int)
def mapE (m : List (Int × FS)) : List (Int × Int) := m.map fun p => (p.1, evF e p.2)
theorem evF_app (f g : FS) : evF e (f ++ g) = evF e f + evF e g := by
  induction f with
  | nil => simp [evF]
  | cons t f ih => simp only [List.cons_append, evF, ih]; omega
theorem evM_app (a b : List (Nat × Nat)) : evM e (a ++ b) = evM e a * evM e b := by
  induction a with
  | nil => simp [evM]
  | cons p a ih => simp only [List.cons_append, evM, ih, Int.mul_assoc]
theorem evF_neg (f : FS) : evF e (fneg f) = -evF e f := by
  induction f with
  | nil => simp [evF, fneg]
  | cons t f ih =>
    simp only [fneg, List.map_cons, evF] at ih ⊢
    rw [ih, Int.neg_mul]; omega
theorem evF_mv (f : FS) (p : Nat × Nat) : evF e (fmv f p) = evF e f * e p.1 p.2 := by
  induction f with
  | nil => simp [evF, fmv]
  | cons t f ih =>
    simp only [fmv, List.map_cons, evF] at ih ⊢
    rw [ih, evM_app, Int.add_mul]
    simp [evM, Int.mul_assoc]
theorem get_map (m : List (Int × FS)) (k : Int) : getI (mapE e m) k = evF e (getF m k) := by
  induction m with
  | nil => simp [getI, getF, mapE, evF]
  | cons p m ih =>
    by_cases h : p.1 = k
    · simp [getI, getF, mapE, h]
    · simp only [getI, getF, mapE, List.map_cons, List.find?_cons, h, decide_false] at ih ⊢
      exact ih
theorem put_map (m : List (Int × FS)) (k : Int) (v : FS) : putI (mapE e m) k (evF e v) = mapE e (putF m k v) := by
  have ha : (mapE e m).any (fun p => p.1 = k) = m.any (fun p => p.1 = k) := by
    unfold mapE; rw [List.any_map]; rfl
  unfold putI putF
  rw [ha]
  split
  · unfold mapE
    rw [List.map_map, List.map_map]
    apply List.map_congr_left
    intro p _
    simp only [Function.comp]
    split <;> rfl
  · simp [mapE]
theorem wstep_map (u : Int) (row : List Int) (rf : List (Nat × Nat)) (hr : row = rf.map fun p => e p.1 p.2) (s : FS) (m : List (Int × FS)) (j : Nat) (hj : j < rf.length) :
    wstep u row (evF e s, mapE e m) j = (evF e (wstepF u rf (s, m) j).1, mapE e (wstepF u rf (s, m) j).2) := by
  unfold wstep wstepF
  split
  · simp [evF_neg]
  · have hg : row.getD j 0 = e (rf.getD j (0, 0)).1 (rf.getD j (0, 0)).2 := by subst hr; simp [hj]
    simp only
    rw [← put_map, evF_app, evF_mv, ← get_map, hg]
theorem wsteps_map (u : Int) (row : List Int) (rf : List (Nat × Nat)) (hr : row = rf.map fun p => e p.1 p.2) : ∀ (js : List Nat), (∀ j ∈ js, j < rf.length) → ∀ (s : FS) (m : List (Int × FS)),
    js.foldl (wstep u row) (evF e s, mapE e m) = (evF e (js.foldl (wstepF u rf) (s, m)).1, mapE e (js.foldl (wstepF u rf) (s, m)).2)
  | [], _, s, m => rfl
  | j :: js, h, s, m => by
    rw [List.foldl_cons, List.foldl_cons, wstep_map e u row rf hr s m j (h j (.head _))]
    exact wsteps_map u row rf hr js (fun i hi => h i (.tail _ hi)) _ _
theorem wIn_map (row : List Int) (rf : List (Nat × Nat)) (hr : row = rf.map fun p => e p.1 p.2) (m : List (Int × FS)) (p : Int × FS) : wIn row (mapE e m) (p.1, evF e p.2) = mapE e (wInF rf m p) := by
  have hl : row.length = rf.length := by rw [hr]; simp
  unfold wIn wInF
  simp only
  rw [hl, wsteps_map e p.1 row rf hr _ (fun j hj => by simpa [downs] using hj)]
theorem wedge_map (row : List Int) (rf : List (Nat × Nat)) (hr : row = rf.map fun p => e p.1 p.2) (fs : List (Int × FS)) : wedgeL (mapE e fs) row = mapE e (wedgeF fs rf) := by
  have key : ∀ (fs m : List (Int × FS)), (mapE e fs).foldl (wIn row) (mapE e m) = mapE e (fs.foldl (wInF rf) m) := by
    intro fs
    induction fs with
    | nil => intro m; rfl
    | cons p fs ih =>
      intro m
      show ((p.1, evF e p.2) :: mapE e fs).foldl (wIn row) (mapE e m) = _
      rw [List.foldl_cons, wIn_map e row rf hr m p, ih]; rfl
  exact key fs []
theorem detM_map (rf : List (List (Nat × Nat))) : detM (rf.map fun r => r.map fun p => e p.1 p.2) = mapE e (detMF rf) := by
  have key : ∀ (rf : List (List (Nat × Nat))) (m : List (Int × FS)), (rf.map fun r => r.map fun p => e p.1 p.2).foldl wedgeL (mapE e m) = mapE e (rf.foldl wedgeF m) := by
    intro rf
    induction rf with
    | nil => intro m; rfl
    | cons r rf ih =>
      intro m
      rw [List.map_cons, List.foldl_cons, wedge_map e _ r rfl, ih]; rfl
  exact key rf [(0, [(1, [])])]
theorem detL_ev (ps : List Nat) : detL (ps.map fun i => ps.map fun j => e i j) = evF e (detF ps) := by
  have h := detM_map e (rowsF ps)
  have hr : ((rowsF ps).map fun r => r.map fun p => e p.1 p.2) = ps.map fun i => ps.map fun j => e i j := by
    unfold rowsF; simp [List.map_map, Function.comp_def]
  rw [hr] at h
  unfold detL detF
  rw [h, get_map]; simp
end
end Mine
end TextMD
section TextMD2
set_option Elab.async false
set_option maxRecDepth 100000
set_option linter.unusedVariables false
set_option linter.unusedSimpArgs false
namespace Mine
open PySem
def insR (p : Nat × Nat) : List (Nat × Nat) → List (Nat × Nat)
  | [] => [p]
  | q :: r => if Nat.ble p.1 q.1 then p :: q :: r else q :: insR p r
def mrg (a b : List (Nat × Nat)) : List (Nat × Nat) := a.foldr insR b
def fmul (f g : FS) : FS := f.flatMap fun t => g.map fun s => (t.1 * s.1, mrg t.2 s.2)
def okT (g V : Nat) (t : Int × List (Nat × Nat)) : Bool := t.2.all fun p => !(V.testBit p.1 && g.testBit p.2)
def chk (g V : Nat) : Bool := ((detF (pn (g ||| V))).filter (okT g V)).isPerm (fmul (detF (pn g)) (detF (pn V)))
section
variable (e : Nat → Nat → Int)
theorem evM_ins (p : Nat × Nat) (l : List (Nat × Nat)) : evM e (insR p l) = e p.1 p.2 * evM e l := by
  induction l with
  | nil => rfl
  | cons q l ih =>
    unfold insR
    split
    · rfl
    · simp only [evM, ih]
      rw [← Int.mul_assoc, Int.mul_comm (e q.1 q.2), Int.mul_assoc]
theorem evM_mrg (a b : List (Nat × Nat)) : evM e (mrg a b) = evM e a * evM e b := by
  induction a with
  | nil => simp [mrg, evM]
  | cons p a ih =>
    show evM e (insR p (mrg a b)) = _
    rw [evM_ins, ih, evM, Int.mul_assoc]
theorem evF_one (t : Int × List (Nat × Nat)) (g : FS) : evF e (g.map fun s => (t.1 * s.1, mrg t.2 s.2)) = t.1 * evM e t.2 * evF e g := by
  induction g with
  | nil => simp [evF]
  | cons s g ih =>
    simp only [List.map_cons, evF, ih, evM_mrg, Int.mul_add]
    congr 1
    rw [Int.mul_assoc, Int.mul_assoc]
    congr 1
    rw [← Int.mul_assoc, ← Int.mul_assoc, Int.mul_comm s.1]
theorem evF_mul (f g : FS) : evF e (fmul f g) = evF e f * evF e g := by
  induction f with
  | nil => simp [fmul, evF]
  | cons t f ih =>
    have : fmul (t :: f) g = (g.map fun s => (t.1 * s.1, mrg t.2 s.2)) ++ fmul f g := by simp [fmul]
    rw [this, evF_app, evF_one, ih, evF, Int.add_mul]
theorem evF_perm {f g : FS} (h : f.Perm g) : evF e f = evF e g := by
  induction h with
  | nil => rfl
  | cons t _ ih => simp only [evF, ih]
  | swap a b l => simp only [evF]; omega
  | trans _ _ h1 h2 => exact h1.trans h2
theorem evM_zero {l : List (Nat × Nat)} {p : Nat × Nat} (hp : p ∈ l) (h : e p.1 p.2 = 0) : evM e l = 0 := by
  induction l with
  | nil => cases hp
  | cons q l ih =>
    rcases List.mem_cons.mp hp with rfl | hp
    · simp [evM, h]
    · simp [evM, ih hp]
theorem evF_filter {g V : Nat} (hz : ∀ i j, V.testBit i = true → g.testBit j = true → e i j = 0) (f : FS) : evF e (f.filter (okT g V)) = evF e f := by
  induction f with
  | nil => rfl
  | cons t f ih =>
    rw [List.filter_cons]
    cases h : okT g V t with
    | true => simp only [if_true, evF, ih]
    | false =>
      simp only [Bool.false_eq_true, if_false, evF, ih]
      unfold okT at h
      rw [List.all_eq_false] at h
      obtain ⟨p, hp, hq⟩ := h
      have hq' : V.testBit p.1 = true ∧ g.testBit p.2 = true := by simpa using hq
      rw [evM_zero e hp (hz _ _ hq'.1 hq'.2)]; simp
end
def chkR (g : Nat) : Bool := (List.range 32).all fun V => g == 0 || V == 0 || (g &&& V != 0) || chk g V
theorem ck0 : chkR 0 = true := by decide +kernel
theorem ck1 : chkR 1 = true := by decide +kernel
theorem ck2 : chkR 2 = true := by decide +kernel
theorem ck3 : chkR 3 = true := by decide +kernel
theorem ck4 : chkR 4 = true := by decide +kernel
theorem ck5 : chkR 5 = true := by decide +kernel
theorem ck6 : chkR 6 = true := by decide +kernel
theorem ck7 : chkR 7 = true := by decide +kernel
theorem ck8 : chkR 8 = true := by decide +kernel
theorem ck9 : chkR 9 = true := by decide +kernel
theorem ck10 : chkR 10 = true := by decide +kernel
theorem ck11 : chkR 11 = true := by decide +kernel
theorem ck12 : chkR 12 = true := by decide +kernel
theorem ck13 : chkR 13 = true := by decide +kernel
theorem ck14 : chkR 14 = true := by decide +kernel
theorem ck15 : chkR 15 = true := by decide +kernel
theorem ck16 : chkR 16 = true := by decide +kernel
theorem ck17 : chkR 17 = true := by decide +kernel
theorem ck18 : chkR 18 = true := by decide +kernel
theorem ck19 : chkR 19 = true := by decide +kernel
theorem ck20 : chkR 20 = true := by decide +kernel
theorem ck21 : chkR 21 = true := by decide +kernel
theorem ck22 : chkR 22 = true := by decide +kernel
theorem ck23 : chkR 23 = true := by decide +kernel
theorem ck24 : chkR 24 = true := by decide +kernel
theorem ck25 : chkR 25 = true := by decide +kernel
theorem ck26 : chkR 26 = true := by decide +kernel
theorem ck27 : chkR 27 = true := by decide +kernel
theorem ck28 : chkR 28 = true := by decide +kernel
theorem ck29 : chkR 29 = true := by decide +kernel
theorem ck30 : chkR 30 = true := by decide +kernel
theorem ck31 : chkR 31 = true := by decide +kernel
theorem chk_all : ∀ g, g < 32 → chkR g = true
  | 0, _ => ck0
  | 1, _ => ck1
  | 2, _ => ck2
  | 3, _ => ck3
  | 4, _ => ck4
  | 5, _ => ck5
  | 6, _ => ck6
  | 7, _ => ck7
  | 8, _ => ck8
  | 9, _ => ck9
  | 10, _ => ck10
  | 11, _ => ck11
  | 12, _ => ck12
  | 13, _ => ck13
  | 14, _ => ck14
  | 15, _ => ck15
  | 16, _ => ck16
  | 17, _ => ck17
  | 18, _ => ck18
  | 19, _ => ck19
  | 20, _ => ck20
  | 21, _ => ck21
  | 22, _ => ck22
  | 23, _ => ck23
  | 24, _ => ck24
  | 25, _ => ck25
  | 26, _ => ck26
  | 27, _ => ck27
  | 28, _ => ck28
  | 29, _ => ck29
  | 30, _ => ck30
  | 31, _ => ck31
  | n + 32, h => absurd h (by omega)
theorem splitF (e : Nat → Nat → Int) {g V : Nat} (hg : g < 32) (hV : V < 32) (hg0 : g ≠ 0) (hV0 : V ≠ 0) (hd : g &&& V = 0) (hz : ∀ i j, V.testBit i = true → g.testBit j = true → e i j = 0) :
    evF e (detF (pn (g ||| V))) = evF e (detF (pn g)) * evF e (detF (pn V)) := by
  have h := List.all_eq_true.mp (chk_all g hg) V (List.mem_range.mpr hV)
  have h1 : (g == 0) = false := by simpa using hg0
  have h2 : (V == 0) = false := by simpa using hV0
  have h3 : (g &&& V != 0) = false := by simp [hd]
  rw [h1, h2, h3, Bool.false_or, Bool.false_or, Bool.false_or] at h
  have hp := List.isPerm_iff.mp h
  rw [← evF_mul, ← evF_perm e hp, evF_filter e hz]
def orN (l : List Nat) : Nat := l.foldr (· ||| ·) 0
theorem orN_bit (l : List Nat) (i : Nat) : (orN l).testBit i = true ↔ ∃ m ∈ l, m.testBit i = true := by
  induction l with
  | nil => simp [orN]
  | cons a l ih =>
    show (a ||| orN l).testBit i = true ↔ _
    rw [Nat.testBit_or, Bool.or_eq_true, ih]; simp
theorem orN_lt {l : List Nat} (h : ∀ m ∈ l, m < 32) : orN l < 32 := by
  induction l with
  | nil => show (0 : Nat) < 32; decide
  | cons a l ih =>
    show a ||| orN l < 2 ^ 5
    exact Nat.or_lt_two_pow (h a (.head _)) (ih fun m hm => h m (.tail _ hm))
theorem frobN (e : Nat → Nat → Int) : ∀ (ms : List Nat), (∀ m ∈ ms, m ≠ 0 ∧ m < 32) → ms.Pairwise (fun g h => (∀ i, g.testBit i = true → h.testBit i = true → False) ∧ ∀ i j, h.testBit i = true → g.testBit j = true → e i j = 0) → ms ≠ [] →
    evF e (detF (pn (orN ms))) = (ms.map fun m => evF e (detF (pn m))).foldr (· * ·) 1
  | [], _, _, h => absurd rfl h
  | [g], _, _, _ => by simp [orN]
  | g :: m :: ms, hm, hp, _ => by
    obtain ⟨hp1, hp2⟩ := List.pairwise_cons.mp hp
    have ih := frobN e (m :: ms) (fun x hx => hm x (.tail _ hx)) hp2 (by simp)
    have hV : orN (m :: ms) < 32 := orN_lt fun x hx => (hm x (.tail _ hx)).2
    have hV0 : orN (m :: ms) ≠ 0 := by
      intro h0
      have hm0 := (hm m (.tail _ (.head _))).1
      obtain ⟨i, hi⟩ := Nat.exists_testBit_of_ne_zero hm0
      have := (orN_bit (m :: ms) i).mpr ⟨m, .head _, hi⟩
      rw [h0] at this; simp at this
    have hd : g &&& orN (m :: ms) = 0 := by
      apply Nat.eq_of_testBit_eq
      intro i
      rw [Nat.testBit_and, Nat.zero_testBit]
      cases h1 : g.testBit i with
      | false => rfl
      | true =>
        cases h2 : (orN (m :: ms)).testBit i with
        | false => rfl
        | true =>
          obtain ⟨x, hx, hb⟩ := (orN_bit _ i).mp h2
          exact ((hp1 x hx).1 i h1 hb).elim
    show evF e (detF (pn (g ||| orN (m :: ms)))) = _
    rw [splitF e (hm g (.head _)).2 hV (hm g (.head _)).1 hV0 hd fun i j h1 h2 => ?_, ih]
    · rfl
    · obtain ⟨x, hx, hb⟩ := (orN_bit _ i).mp h1
      exact (hp1 x hx).2 i j hb h2
end Mine
end TextMD2
section TextMD3
set_option Elab.async false
set_option maxRecDepth 100000
set_option linter.unusedVariables false
set_option linter.unusedSimpArgs false
namespace Mine
open PySem
theorem key_dec : ∀ n, n < 6 → (detMF (rowsF (List.range n))).any (fun p => p.1 = 2 ^ n - 1) = true := by decide +kernel
def entR (rows : List (List Int)) (i j : Nat) : Int := (rows.getD i []).getD j 0
theorem rows_eq {rows : List (List Int)} {n : Nat} (h1 : rows.length = n) (h2 : ∀ r ∈ rows, r.length = n) : rows = (List.range n).map fun i => (List.range n).map fun j => entR rows i j := by
  apply List.ext_getElem
  · simp [h1]
  · intro i hi1 hi2
    rw [List.getElem_map, List.getElem_range]
    have hr := h2 rows[i] (List.getElem_mem hi1)
    apply List.ext_getElem
    · simp [hr]
    · intro j hj1 hj2
      rw [List.getElem_map, List.getElem_range]
      unfold entR
      simp [List.getD_eq_getElem?_getD, hi1, hj1]
theorem det_key (rows : List (List Int)) (h1 : rows.length ≤ 5) (h2 : ∀ r ∈ rows, r.length = rows.length) : (detM rows).any (fun p => p.1 = 2 ^ rows.length - 1) = true := by
  have h := detM_map (entR rows) (rowsF (List.range rows.length))
  have hr : ((rowsF (List.range rows.length)).map fun r => r.map fun p => entR rows p.1 p.2) = rows := by
    conv => rhs; rw [rows_eq (rows := rows) rfl h2]
    unfold rowsF; simp [List.map_map, Function.comp_def]
  rw [hr] at h
  rw [h]
  unfold mapE
  rw [List.any_map]
  exact key_dec rows.length (by omega)
def bndF : FS → Nat
  | [] => 0
  | t :: r => t.1.natAbs * 10 ^ t.2.length + bndF r
theorem evM_le {e : Nat → Nat → Int} (he : ∀ i j, (e i j).natAbs ≤ 10) (l : List (Nat × Nat)) : (evM e l).natAbs ≤ 10 ^ l.length := by
  induction l with
  | nil => simp [evM]
  | cons p l ih =>
    simp only [evM, List.length_cons, Int.natAbs_mul, Nat.pow_succ]
    rw [Nat.mul_comm]
    exact Nat.mul_le_mul ih (he _ _)
theorem evF_le {e : Nat → Nat → Int} (he : ∀ i j, (e i j).natAbs ≤ 10) (f : FS) : (evF e f).natAbs ≤ bndF f := by
  induction f with
  | nil => simp [evF, bndF]
  | cons t f ih =>
    simp only [evF, bndF]
    refine Nat.le_trans (Int.natAbs_add_le _ _) (Nat.add_le_add ?_ ih)
    rw [Int.natAbs_mul]
    exact Nat.mul_le_mul (Nat.le_refl _) (evM_le he _)
theorem bnd_dec : ∀ n, n < 6 → bndF (detF (List.range n)) ≤ 12000000 := by decide +kernel
theorem det_bits (rows : List (List Int)) (h1 : rows.length ≤ 5) (h2 : ∀ r ∈ rows, r.length = rows.length) (h3 : ∀ r ∈ rows, ∀ x ∈ r, x.natAbs ≤ 10) : Builtin.Int.intBits (detL rows) ≤ 64 := by
  have hle : ∀ i j, (entR rows i j).natAbs ≤ 10 := by
    intro i j
    unfold entR
    by_cases hi : i < rows.length
    · have hr := h3 rows[i] (List.getElem_mem hi)
      simp only [List.getD_eq_getElem?_getD, List.getElem?_eq_getElem hi, Option.getD_some]
      by_cases hj : j < rows[i].length
      · simp only [List.getElem?_eq_getElem hj, Option.getD_some]; exact hr _ (List.getElem_mem hj)
      · simp [List.getElem?_eq_none (Nat.not_lt.mp hj)]
    · simp [List.getD_eq_getElem?_getD, List.getElem?_eq_none (Nat.not_lt.mp hi)]
  have hd := detL_ev (entR rows) (List.range rows.length)
  rw [← rows_eq (rows := rows) rfl h2] at hd
  have hb := Nat.le_trans (evF_le hle (detF (List.range rows.length))) (bnd_dec rows.length (by omega))
  rw [← hd] at hb
  exact intBits_le_64 (by omega) (by omega)
theorem pn_dec : ∀ a, a < 32 → places ((a : Nat) : Int) = (pn a).map fun (i : Nat) => (i : Int) := by decide +kernel
theorem pn_31 : pn 31 = List.range 5 := by decide +kernel
theorem tb_dec : ∀ a, a < 32 → ∀ i, i < 5 → bit ((a : Nat) : Int) ((i : Nat) : Int) = a.testBit i := by decide +kernel
theorem full_dec : ∀ a, a < 32 → (∀ i, i < 5 → a.testBit i = true) → a = 31 := by decide +kernel
theorem sub_ev {T : List (List Int)} {n : Nat} (hn : n < 32) : detL (subP T (n : Int)) = evF (ent T) (detF (pn n)) := by
  rw [← detL_ev]
  congr 1
  unfold subP
  rw [pn_dec n hn]
  simp [List.map_map, Function.comp_def]
theorem tb_lt {m i : Nat} (hm : m < 32) (h : m.testBit i = true) : i < 5 := by
  rcases Nat.lt_or_ge i 5 with q | q
  · exact q
  · have : m < 2 ^ i := Nat.lt_of_lt_of_le (m := 2 ^ 5) hm (Nat.pow_le_pow_right (by decide) q)
    rw [Nat.testBit_lt_two_pow this] at h; cases h
theorem foldl_mul (l : List Int) : ∀ a : Int, l.foldl (· * ·) a = a * l.foldr (· * ·) 1 := by
  induction l with
  | nil => intro a; simp
  | cons b l ih => intro a; rw [List.foldl_cons, ih, List.foldr_cons, Int.mul_assoc]
/-- Frobenius -/
theorem frob {T : List (List Int)} (hT : TabOk T) {ord : List Int} (hr : ∀ g ∈ ord, 1 ≤ g ∧ g ≤ 31) (hne : ord ≠ [])
    (hp : ord.Pairwise fun g h => (∀ i : Nat, i < 5 → bit g i = true → bit h i = true → False) ∧ ∀ i j : Nat, i < 5 → j < 5 → bit h i = true → bit g j = true → ent T i j = 0)
    (hc : ∀ i : Nat, i < 5 → ∃ g ∈ ord, bit g i = true) :
    detL T = ((ord.tail.map fun g => detL (subP T g)).foldl (· * ·) (detL (subP T (ord.headD 0)))) := by
  have hnat : ∀ g ∈ ord, g.toNat < 32 ∧ g.toNat ≠ 0 ∧ ((g.toNat : Nat) : Int) = g := fun g hg => by have := hr g hg; omega
  have hbit : ∀ g ∈ ord, ∀ i : Nat, i < 5 → bit g i = g.toNat.testBit i := fun g hg i hi => by
    have h := hnat g hg
    have := tb_dec g.toNat h.1 i hi
    rw [h.2.2] at this; exact this
  have hsub : ∀ g ∈ ord, detL (subP T g) = evF (ent T) (detF (pn g.toNat)) := fun g hg => by
    have h := hnat g hg
    rw [← sub_ev h.1, h.2.2]
  have hpn : (ord.map Int.toNat).Pairwise (fun g h => (∀ i, g.testBit i = true → h.testBit i = true → False) ∧ ∀ i j, h.testBit i = true → g.testBit j = true → ent T i j = 0) := by
    rw [List.pairwise_map]
    refine List.Pairwise.imp_of_mem (fun {g h} hg hh q => ⟨fun i h1 h2 => ?_, fun i j h1 h2 => ?_⟩) hp
    · have hi := tb_lt (hnat g hg).1 h1
      exact q.1 i hi ((hbit g hg i hi).trans h1) ((hbit h hh i hi).trans h2)
    · have hi := tb_lt (hnat h hh).1 h1
      have hj := tb_lt (hnat g hg).1 h2
      exact q.2 i j hi hj ((hbit h hh i hi).trans h1) ((hbit g hg j hj).trans h2)
  have hf := frobN (ent T) (ord.map Int.toNat) (fun m hm => by obtain ⟨g, hg, rfl⟩ := List.mem_map.mp hm; exact ⟨(hnat g hg).2.1, (hnat g hg).1⟩) hpn (by simpa using hne)
  have ho : orN (ord.map Int.toNat) = 31 := by
    refine full_dec _ (orN_lt fun m hm => by obtain ⟨g, hg, rfl⟩ := List.mem_map.mp hm; exact (hnat g hg).1) fun i hi => ?_
    obtain ⟨g, hg, hb⟩ := hc i hi
    exact (orN_bit _ i).mpr ⟨g.toNat, List.mem_map_of_mem hg, (hbit g hg i hi).symm.trans hb⟩
  rw [ho, pn_31] at hf
  have hTe : detL T = evF (ent T) (detF (List.range 5)) := by
    rw [← detL_ev]
    congr 1
    exact rows_eq hT.len fun r hr => (hT.row r hr).1
  rw [hTe, hf, List.map_map]
  have hm : (ord.map ((fun m => evF (ent T) (detF (pn m))) ∘ Int.toNat)) = ord.map fun g => detL (subP T g) := by
    apply List.map_congr_left
    intro g hg
    exact (hsub g hg).symm
  rw [hm]
  cases ord with
  | nil => exact absurd rfl hne
  | cons g0 gs =>
    rw [foldl_mul]
    rfl
end Mine
end TextMD3
section TextMG6
set_option Elab.async false
set_option maxRecDepth 100000
set_option linter.unusedVariables false
set_option linter.unusedSimpArgs false
namespace Mine
open PySem
theorem ks_all {out gs : List Int} (h : GInv out gs) {ns : List Nd} (hn : ns.map Nd.pu = sortP gs out) {dn : List Int} (ht : Topo ns dn) (hin : ∀ g ∈ gs, g ∈ dn) {pn : List PN} {O : List Int} (k : KS out gs pn O [] []) : ∀ g ∈ gs, g ∈ O := by
  have key : ∀ (n : Nat) (g : Int), g ∈ gs → dn.length - rk dn g ≤ n → g ∈ O := by
    intro n
    induction n with
    | zero =>
      intro g hg hle
      refine Classical.byContradiction fun hc => ?_
      have hr := k.rdy g hg hc (by simp)
      have hne : cntP out gs O g ≠ 0 := fun q => by cases hr.mpr q
      unfold cntP at hne
      cases q : ((predsP gs out g).filter fun h => decide (h ∉ O)) with
      | nil => rw [q] at hne; exact hne rfl
      | cons a l =>
        have ha : a ∈ ((predsP gs out g).filter fun h => decide (h ∉ O)) := by rw [q]; exact .head _
        obtain ⟨h1, h2⟩ := List.mem_filter.mp (List.mem_filter.mp ha).1
        have := rk_lt ht (hin a h1) ((edge_sort h hn).mpr ⟨h1, hg, h2⟩)
        have := rk_le dn a
        omega
    | succ n ih =>
      intro g hg hle
      refine Classical.byContradiction fun hc => ?_
      have hr := k.rdy g hg hc (by simp)
      have hne : cntP out gs O g ≠ 0 := fun q => by cases hr.mpr q
      unfold cntP at hne
      cases q : ((predsP gs out g).filter fun h => decide (h ∉ O)) with
      | nil => rw [q] at hne; exact hne rfl
      | cons a l =>
        have ha : a ∈ ((predsP gs out g).filter fun h => decide (h ∉ O)) := by rw [q]; exact .head _
        obtain ⟨h1, h2⟩ := List.mem_filter.mp (List.mem_filter.mp ha).1
        have hlt := rk_lt ht (hin a h1) ((edge_sort h hn).mpr ⟨h1, hg, h2⟩)
        have hle' := rk_le dn a
        have haO := ih a h1 (by omega)
        have := (List.mem_filter.mp ha).2
        exact (of_decide_eq_true this) haO
  exact fun g hg => key _ g hg (Nat.le_refl _)
theorem fin_ok {T : List (List Int)} (hT : TabOk T) {gs : List Int} (h : GInv (outP T) gs) {ns : List Nd} (hn : ns.map Nd.pu = sortP gs (outP T)) {dn : List Int} (ht : Topo ns dn) (ha : ∀ n ∈ ns, n.key ∈ dn) {pn : List PN} {O : List Int} (k : KS (outP T) gs pn O [] []) : FinOk T O := by
  have hin : ∀ g ∈ gs, g ∈ dn := fun g hg => by
    obtain ⟨kl, h1, h2, h3⟩ := sort_mk (out := outP T) h.nd
    have : g ∈ (sortP gs (outP T)).map (·.1) := by rw [h3, mkP_keys]; exact (h2 g).mpr hg
    rw [← hn] at this
    obtain ⟨m, hm, rfl⟩ := List.mem_map.mp this
    obtain ⟨n, hn', rfl⟩ := List.mem_map.mp hm
    exact ha n hn'
  have hall := ks_all h hn ht hin k
  have hsub : ∀ g ∈ O, g ∈ gs := fun g hg => k.sub g (by simpa using hg)
  have hOn : O.Nodup := by have := k.nd; simpa using this
  have hsm : SmL (outP T) := ⟨by simp [outP, hT.len], fun i => out_sm i⟩
  -- entries and ways
  have hEE : ∀ i j : Nat, i < 5 → j < 5 → (EE (outP T) i j ↔ ent T i j ≠ 0) := fun i j hi hj => by
    unfold EE
    rw [out_bit hT hi hj]
    simp [hi, hj]
  have hgrp : ∀ {i j : Nat} {x y : Int}, EE (outP T) i j → x ∈ gs → y ∈ gs → bit x i = true → bit y j = true → x = y ∨ predP (outP T) y x = true := fun {i j x y} he hx hy h1 h2 => by
    by_cases e : x = y
    · exact .inl e
    · exact .inr ((pred_iff h.sm (h.smg hy)).mpr ⟨e, i, j, he, h1, h2⟩)
  have hrch : ∀ {i j : Nat}, Rch (outP T) i j → ∀ x ∈ gs, ∀ y ∈ gs, i < 5 → bit x i = true → bit y j = true → x = y ∨ rk dn y < rk dn x := by
    intro i j hr
    induction hr with
    | refl i => intro x hx y hy hi h1 h2; exact .inl (h.disj x hx y hy i hi h1 h2)
    | step e t ih =>
      intro x hx y hy hi h1 h2
      obtain ⟨z, hz, hzb⟩ := h.cov _ e.2.1
      have h3 := ih z hz y hy e.2.1 hzb h2
      rcases hgrp e hx hz h1 hzb with rfl | hp
      · exact h3
      · have h4 := rk_lt ht (hin x hx) ((edge_sort h hn).mpr ⟨hx, hz, hp⟩)
        rcases h3 with rfl | h3
        · exact .inr h4
        · exact .inr (Nat.lt_trans h3 h4)
  -- where a place's group stands
  have hpos : ∀ i : Nat, i < 5 → ∃ (p : Nat) (g : Int), O[p]? = some g ∧ g ∈ gs ∧ bit g i = true ∧ mineP O i = [(p : Int)] := fun i hi => by
    obtain ⟨g, hg, hb⟩ := h.cov i hi
    obtain ⟨p, hp⟩ := List.getElem?_of_mem (hall g hg)
    have hpl := (List.getElem?_eq_some_iff.mp hp).1
    refine ⟨p, g, hp, hg, hb, ?_⟩
    unfold mineP
    have hnd : (upZ O.length).Nodup := by
      unfold upZ
      rw [List.nodup_iff_pairwise_ne, List.pairwise_map]
      exact (List.nodup_iff_pairwise_ne.mp List.nodup_range).imp fun hne e => hne (by omega)
    refine filter_one hnd (by unfold upZ; exact List.mem_map.mpr ⟨p, List.mem_range.mpr hpl, rfl⟩) fun x hx => ?_
    unfold upZ at hx
    obtain ⟨q, hq, rfl⟩ := List.mem_map.mp hx
    have hql := List.mem_range.mp hq
    simp only [Int.toNat_natCast]
    have hgq : O.getD q 0 = O[q] := by simp [List.getD_eq_getElem?_getD, hql]
    rw [hgq]
    constructor
    · intro hbq
      have : O[q] = g := h.disj _ (hsub _ (List.getElem_mem hql)) g hg i hi hbq hb
      have e2 : O[q]? = O[p]? := by rw [hp, List.getElem?_eq_getElem hql, this]
      have := (List.getElem?_inj hql hOn).mp e2
      omega
    · intro e
      have e : q = p := by omega
      subst e
      have : O[q] = g := (List.getElem?_eq_some_iff.mp hp).2
      rw [this]; exact hb
  have hwh : ∀ i : Nat, i < 5 → ∃ (p : Nat) (g : Int), O[p]? = some g ∧ g ∈ gs ∧ bit g i = true ∧ whereP O i = (p : Int) := fun i hi => by
    obtain ⟨p, g, h1, h2, h3, h4⟩ := hpos i hi
    exact ⟨p, g, h1, h2, h3, by unfold whereP; rw [h4]; rfl⟩
  -- an edge goes on
  have hord : ∀ {p q : Nat} {x y : Int}, O[p]? = some x → O[q]? = some y → predP (outP T) y x = true → p < q := fun {p q x y} hx hy hp => by
    have hxm := k.ord q y hy x (hsub x (List.mem_of_getElem? hx)) hp
    obtain ⟨p', hp'⟩ := List.getElem?_of_mem hxm
    rw [List.getElem?_take] at hp'
    split at hp'
    · rename_i hlt
      have hpl := (List.getElem?_eq_some_iff.mp hx).1
      have := (List.getElem?_inj hpl hOn).mp (hx.trans hp'.symm)
      omega
    · cases hp'
  refine ⟨fun g hg => h.rng g (hsub g hg), ?_, ?_, fun i hi => ?_, fun i j hi hj hne => ?_, ?_⟩
  · exact Nat.le_trans (nodup_len hOn hsub) h.len
  · intro e
    obtain ⟨g, hg, _⟩ := h.cov 0 (by decide)
    have := hall g hg
    rw [e] at this; cases this
  · obtain ⟨p, g, h1, h2, h3, h4⟩ := hpos i hi
    have hg0 : O.getD p 0 = g := by simp [List.getD_eq_getElem?_getD, h1]
    rw [h4]
    show [O.getD ((p : Nat) : Int).toNat 0] = _
    rw [Int.toNat_natCast, hg0]
    have hm : matesP (reachP (outP T)) i = places g := by
      unfold matesP places
      apply List.filter_congr
      intro jj hjj
      unfold upZ at hjj
      obtain ⟨j, hj', rfl⟩ := List.mem_map.mp hjj
      have hj := List.mem_range.mp hj'
      simp only [Int.toNat_natCast]
      rw [bitN_bit, bitN_bit]
      have r1 := reach_iff hsm hi hj
      have r2 := reach_iff hsm hj hi
      unfold bf at r1 r2
      rw [Bool.eq_iff_iff, Bool.or_eq_true]
      constructor
      · rintro (e | e)
        · have : j = i := by have := eq_of_beq e; omega
          subst this; exact h3
        · have hb : bit ((reachP (outP T)).getD i 0) (j : Int) = true ∧ bit ((reachP (outP T)).getD j 0) (i : Int) = true := by
            have := eq_of_beq e
            by_cases q1 : bit ((reachP (outP T)).getD i 0) (j : Int) = true
            · by_cases q2 : bit ((reachP (outP T)).getD j 0) (i : Int) = true
              · exact ⟨q1, q2⟩
              · rw [if_pos q1, if_neg q2] at this; exact absurd this (by decide)
            · by_cases q2 : bit ((reachP (outP T)).getD j 0) (i : Int) = true
              · rw [if_neg q1, if_pos q2] at this; exact absurd this (by decide)
              · rw [if_neg q1, if_neg q2] at this; exact absurd this (by decide)
          have t1 := (r1.mp hb.1).rch
          have t2 := (r2.mp hb.2).rch
          obtain ⟨y, hy, hyb⟩ := h.cov j hj
          rcases hrch t1 g h2 y hy hi h3 hyb with e1 | e1
          · rw [e1]; exact hyb
          · rcases hrch t2 y hy g h2 hj hyb h3 with e2 | e2
            · rw [← e2]; exact hyb
            · omega
      · intro hb
        by_cases e : j = i
        · left; rw [e]; exact beq_self_eq_true _
        · right
          have t1 := (h.con g h2 i j hi hj h3 hb).tr.resolve_left fun q => e q.symm
          have t2 := (h.con g h2 j i hj hi hb h3).tr.resolve_left e
          rw [if_pos (r1.mpr t1), if_pos (r2.mpr t2)]; rfl
    rw [hm, sum_places (h.smg h2)]
  · obtain ⟨p, x, h1, h2, h3, h4⟩ := hwh i hi
    obtain ⟨q, y, g1, g2, g3, g4⟩ := hwh j hj
    rw [h4, g4]
    rcases hgrp ((hEE i j hi hj).mpr hne) h2 g2 h3 g3 with e | hp
    · subst e
      have hpl := (List.getElem?_eq_some_iff.mp h1).1
      have := (List.getElem?_inj hpl hOn).mp (h1.trans g1.symm)
      omega
    · have := hord h1 g1 hp
      omega
  · refine frob hT (fun g hg => h.rng g (hsub g hg)) ?_ ?_ fun i hi => ?_
    · intro e
      obtain ⟨g, hg, _⟩ := h.cov 0 (by decide)
      have := hall g hg
      rw [e] at this; cases this
    · rw [List.pairwise_iff_getElem]
      intro p q hp hq hpq
      have hne : O[p] ≠ O[q] := fun e => by
        have := (List.getElem_inj hOn).mp e
        omega
      have hxp := hsub _ (List.getElem_mem hp)
      have hxq := hsub _ (List.getElem_mem hq)
      refine ⟨fun i hi b1 b2 => hne (h.disj _ hxp _ hxq i hi b1 b2), fun i j hi hj b1 b2 => ?_⟩
      refine Classical.byContradiction fun hz => ?_
      rcases hgrp ((hEE i j hi hj).mpr hz) hxq hxp b1 b2 with e | hp'
      · exact hne e.symm
      · have := hord (List.getElem?_eq_getElem hq) (List.getElem?_eq_getElem hp) hp'
        omega
    · obtain ⟨g, hg, hb⟩ := h.cov i hi
      exact ⟨g, hall g hg, hb⟩
end Mine
end TextMG6
section TextLW1
open PySem PySem.W PySem.Spec PySem.Calls PyProof.Rows
set_option Elab.async false
set_option maxRecDepth 100000
set_option linter.unusedVariables false
set_option linter.unusedSimpArgs false
namespace Mine
def lawL (sc : Value) (base few row j x out groups sorter ring g ready k wh mates mine parts : Option Value) : Loc :=
  [(.ofString "script", some sc), (.ofString "base", base), (.ofString "few", few), (.ofString "row", row), (.ofString "j", j), (.ofString "x", x), (.ofString "out", out), (.ofString "groups", groups), (.ofString "sorter", sorter), (.ofString "ring", ring), (.ofString "g", g), (.ofString "ready", ready), (.ofString "k", k), (.ofString "where", wh), (.ofString "mates", mates), (.ofString "mine", mine), (.ofString "parts", parts)]
def tabC : List Addr → List (List Int) → List Cell
  | a :: as, r :: rs => (a, IntL r) :: tabC as rs
  | _, _ => []
def lawC (L ta : Addr) (ra : List Addr) (T : List (List Int)) (ci me od re pl : Option Value) (rest : List Cell) : List Cell :=
  (L + 6, CellP pl) :: (L + 5, CellP re) :: (L + 4, CellP od) :: (L + 3, CellP me) :: (L + 2, CellP ci) :: (L + 1, CellP (some (.ref ta))) :: (ta, LstP (ra.map .ref)) :: (tabC ra T ++ rest)
theorem tabC_get : ∀ {ra : List Addr} {T : List (List Int)} {i : Nat} {a : Addr} {r : List Int}, ra[i]? = some a → T[i]? = some r → (a, IntL r) ∈ tabC ra T
  | a :: as, r :: rs, 0, _, _, h1, h2 => by simp at h1 h2; subst h1 h2; exact .head _
  | a :: as, r :: rs, i + 1, _, _, h1, h2 => .tail _ (tabC_get (by simpa using h1) (by simpa using h2))
  | [], _, _, _, _, h1, _ => by simp at h1
  | _ :: _, [], _, _, _, _, h2 => by simp at h2
theorem tab_rows {h₀ h : Heap} {cs : List Cell} {ra : List Addr} {T : List (List Int)} (S : St h₀ cs h) (hs : ∀ c ∈ tabC ra T, c ∈ cs) (hl : ra.length = T.length) : RowsAre h (ra.map .ref) T := by
  refine ⟨by simpa using hl, fun i x hx => ?_⟩
  rw [List.getElem?_map] at hx
  cases q : ra[i]? with
  | none => rw [q] at hx; cases hx
  | some a =>
    rw [q] at hx; cases hx
    have hlt := (List.getElem?_eq_some_iff.mp q).1
    obtain ⟨o, e, vs, p, hi⟩ := S.held _ (hs _ (tabC_get q (List.getElem?_eq_getElem (hl ▸ hlt))))
    exact ⟨a, vs, _, rfl, isList_of ⟨o, e, p⟩, hi, List.getElem?_eq_getElem (hl ▸ hlt)⟩
theorem lawC_tab {L ta : Addr} {ra : List Addr} {T : List (List Int)} {ci me od re pl : Option Value} {rest : List Cell} : ∀ c ∈ tabC ra T, c ∈ lawC L ta ra T ci me od re pl rest :=
  fun c hc => .tail _ (.tail _ (.tail _ (.tail _ (.tail _ (.tail _ (.tail _ (List.mem_append_left _ hc)))))))
section
variable {w : World} {A : Around} {hp : Heap} {gn : Array GenState} {dr : Drawn} {tk : Nat} {os : OsState} {h₀ : Heap} {Q : Flow → Shared → Prop} {L ta : Addr} {ra : List Addr} {T : List (List Int)} {ci me od re pl : Option Value} {rest : List Cell}
variable {sc : Value} {base few row j x out groups sorter ring g ready k wh mates mine parts : Option Value}
theorem ph18 {pa : Addr} {pv : List Value} {p0 : Int} {ps : List Int} (B : Base w h₀) (r : Rm 8 A) (hT : TabOk T) (hra : ra.length = 5)
    (S : St h₀ ((L, LocP (lawL sc base few row j x out groups sorter ring g ready k wh mates mine (some (.ref pa)))) :: (pa, LstP pv) :: lawC L ta ra T ci me od re pl rest) hp) (hpv : IntsAre pv (p0 :: ps)) (hb : ∀ x ∈ ps, Builtin.Int.intBits x ≤ 64) (hd : detL T = ps.foldl (· * ·) p0)
    (h : ∀ h' tk', Kp h₀ h' → Q (.ret (.bool true)) ⟨h', gn, dr, tk', os⟩) :
    W w A (execs ((bodyF w.params 207).drop 18) (envC w 207 L)) Q No ⟨hp, gn, dr, tk, os⟩ := by
  have hct : hp.IsCell (L + 1) (some (.ref ta)) := S.at (a := L + 1) (P := CellP (some (.ref ta))) (.tail _ (.tail _ (.tail _ (.tail _ (.tail _ (.tail _ (.tail _ (.head _))))))))
  have htl := isList_of (S.at (a := ta) (P := LstP (ra.map .ref)) (.tail _ (.tail _ (.tail _ (.tail _ (.tail _ (.tail _ (.tail _ (.tail _ (.head _))))))))))
  have hrows := tab_rows (ra := ra) (T := T) S (fun c hc => .tail _ (.tail _ (lawC_tab c hc))) (by rw [hra, hT.len])
  refine xs_ret (e_cmp (e_call (e_glob B S rfl (cw_ref (by kernel_rfl) (a_cons (e_cel hct (a_nil ⟨S.base B, ?_⟩) rfl))))))
  refine det_spec (k := 3) (rows := T) (S.base B) (r.le (by omega)) htl hrows (by rw [hT.len]; omega) (fun row hr => ⟨by rw [(hT.row row hr).1]; omega, (hT.row row hr).2⟩) (det_key T (by rw [hT.len]; omega) fun q hq => by rw [(hT.row q hq).1, hT.len]) fun h2 t2 tk2 hk2 => ?_
  have S2 := S.keeps hk2
  refine e_call (e_glob B S2 rfl (cw_ref (by kernel_rfl) (a_cons (e_glob B S2 rfl (a_cons (e_loc S2 rfl (a_nil ⟨S2.base B, ?_⟩)))))))
  refine red_mul (k := 3) (S2.base B) (r.le (by omega)) (isList_of (S2.at (.tail _ (.head _)))) hpv hb fun h3 t3 tk3 hk3 => i_eq ?_
  rw [hd, beq_self_eq_true]
  exact h _ _ (S2.keeps hk3).keep
end
end Mine
end TextLW1
section TextLW2
open PySem PySem.W PySem.Spec PySem.Calls PyProof.Rows
set_option Elab.async false
set_option maxRecDepth 100000
set_option linter.unusedVariables false
set_option linter.unusedSimpArgs false
namespace Mine
theorem ints_mapN {β : Type} (f : Int → β) : ∀ {vs : List Value} {ns : List Int}, IntsAre vs ns → vs.map (fun v => f (numOf v)) = ns.map f
  | _, _, .nil => rfl
  | _, _, .cons n t h => congrArg (f n :: ·) (ints_mapN f h)
def RowF (f : Value → List Int) : Value → Value → List Cell → Prop := fun v y cy => ∃ a, y = .ref a ∧ cy = [(a, IntL (f v))]
theorem trip_rows {h₀ h : Heap} {cs : List Cell} {f : Value → List Int} (S : St h₀ cs h) : ∀ {vs ys : List Value} {zs : List (List Cell)}, Trip (RowF f) vs ys zs → (∀ c ∈ zs.flatten, c ∈ cs) → RowsAre h ys (vs.map f)
  | _, _, _, .nil, _ => ⟨rfl, fun i x hx => by simp at hx⟩
  | _, _, _, .cons (a := v) hF t, hs => by
    obtain ⟨a, rfl, rfl⟩ := hF
    have ih := trip_rows S t fun c hc => hs c (by simp [hc])
    refine ⟨by simp [ih.1], fun i x hx => ?_⟩
    cases i with
    | zero =>
      simp at hx; subst hx
      obtain ⟨o, e, vs, p, hi⟩ := S.held (a, IntL (f v)) (hs _ (by simp))
      exact ⟨a, vs, _, rfl, isList_of ⟨o, e, p⟩, hi, by simp⟩
    | succ i => simpa using ih.2 i x (by simpa using hx)
theorem places_mem {g p : Int} (h : p ∈ places g) : 0 ≤ p ∧ p < 5 := by
  unfold places at h
  have := (List.mem_filter.mp h).1
  simp only [upZ, List.mem_map, List.mem_range] at this
  obtain ⟨a, ha, rfl⟩ := this; omega
theorem places_len (g : Int) : (places g).length ≤ 5 := by unfold places; exact Nat.le_trans (List.length_filter_le _ _) (by simp [upZ])
theorem ent_le {T : List (List Int)} (hT : TabOk T) {i j : Nat} : (ent T i j).natAbs ≤ 10 := by
  unfold ent
  by_cases hi : i < T.length
  · have hr := hT.row T[i] (List.getElem_mem hi)
    simp only [List.getD_eq_getElem?_getD, List.getElem?_eq_getElem hi, Option.getD_some]
    by_cases hj : j < T[i].length
    · simp only [List.getElem?_eq_getElem hj, Option.getD_some]; exact hr.2 _ (List.getElem_mem hj)
    · simp [List.getElem?_eq_none (Nat.not_lt.mp hj)]
  · simp [List.getD_eq_getElem?_getD, List.getElem?_eq_none (Nat.not_lt.mp hi)]
section
variable {w : World} {A : Around} {hp : Heap} {gn : Array GenState} {dr : Drawn} {tk : Nat} {os : OsState} {h₀ : Heap} {Q : Flow → Shared → Prop} {L ta : Addr} {ra : List Addr} {T : List (List Int)} {ci me od re pl : Option Value} {rest : List Cell}
variable {sc : Value} {base few row j x out groups sorter ring g ready k wh mates mine parts : Option Value}
structure PD where
  g : Option Value
  pl : Option Value
  pv : List Value
theorem ph16 {oa : Addr} {ov : List Value} {ord : List Int} (B : Base w h₀) (r : Rm 8 A) (hT : TabOk T) (hra : ra.length = 5) (hF : FinOk T ord) (hoi : IntsAre ov ord)
    (S : St h₀ ((L, LocP (lawL sc base few row j x out groups sorter ring g ready k wh mates mine parts)) :: (oa, LstP ov) :: lawC L ta ra T ci me (some (.ref oa)) re pl rest) hp)
    (h : ∀ h' tk', Kp h₀ h' → Q (.ret (.bool true)) ⟨h', gn, dr, tk', os⟩) :
    W w A (execs ((bodyF w.params 207).drop 16) (envC w 207 L)) Q No ⟨hp, gn, dr, tk, os⟩ := by
  have hol : ov.length ≤ 5 := by rw [hoi.length]; exact hF.len
  refine xs_assign (e_list0 (s_loc (S.push_lst []).swap fun h1 tk1 S1 => ?_))
  generalize hp.objs.size = pa at S1
  have hco : h1.IsCell (L + 4) (some (.ref oa)) := S1.at (a := L + 4) (P := CellP (some (.ref oa))) (.tail _ (.tail _ (.tail _ (.tail _ (.tail _ (.head _))))))
  refine xs_for (e_cel hco ?_ rfl)
  refine for_listP (L := L) (fun d : PD => lawL sc base few row j x out groups sorter ring d.g ready k wh mates mine (some (.ref pa)))
    (fun d => (pa, LstP d.pv) :: (oa, LstP ov) :: lawC L ta ra T ci me (some (.ref oa)) re d.pl rest)
    (fun i d => IntsAre d.pv ((ord.take i).map fun g => detL (subP T g))) ⟨g, pl, []⟩ (items := ov) r.hd (fun i d _ => ⟨LstP ov, .tail _ (.head _), fun o ho => ho⟩) S1 .nil ?_ ?_
  · rintro i ⟨dg, dpl, pv⟩ v h2 tk2 I oI hvi hJ S2
    obtain ⟨gg, tg, rfl, hgi⟩ := ints_get hoi hvi
    have hJ : IntsAre pv ((ord.take i).map fun g => detL (subP T g)) := hJ
    have hg := hF.rng gg (List.mem_of_getElem? hgi)
    have hilt := (List.getElem?_eq_some_iff.mp hgi).1
    have hpvl : pv.length ≤ 5 := by rw [hJ.length, List.length_map, List.length_take]; have := hF.len; omega
    refine a_name (s_loc S2 fun h3 tk3 S3 => ?_)
    refine xs_assign (e_call (e_glob B S3 rfl (cw_ref (by kernel_rfl) (a_cons (e_loc S3 rfl (a_nil ⟨S3.base B, ?_⟩))))))
    refine places_spec (S3.base B) (r.le (by omega)) fun Dp h4 tk4 plv hk4 hn4 hl4 hpi => ?_
    have S4 := S3.lst hk4 hn4 hl4
    refine s_cel (i := 5) (c := L + 6) S4 rfl (fun h5 S5 => ?_) rfl
    have S5 : St h₀ ((Dp, LstP plv) :: (L, LocP (lawL sc base few row j x out groups sorter ring (some (.int gg tg)) ready k wh mates mine (some (.ref pa)))) :: (I, fun q => q = oI) :: (pa, LstP pv) :: (oa, LstP ov) :: lawC L ta ra T ci me (some (.ref oa)) re (some (.ref Dp)) rest) h5 := S5
    have S6 := S5.swap
    have hcp : h5.IsCell (L + 6) (some (.ref Dp)) := S6.at (a := L + 6) (P := CellP (some (.ref Dp))) (.tail _ (.tail _ (.tail _ (.tail _ (.tail _ (.head _))))))
    have hct : h5.IsCell (L + 1) (some (.ref ta)) := S6.at (a := L + 1) (P := CellP (some (.ref ta))) (.tail _ (.tail _ (.tail _ (.tail _ (.tail _ (.tail _ (.tail _ (.tail _ (.tail _ (.tail _ (.head _)))))))))))
    have htl := isList_of (S6.at (a := ta) (P := LstP (ra.map .ref)) (.tail _ (.tail _ (.tail _ (.tail _ (.tail _ (.tail _ (.tail _ (.tail _ (.tail _ (.tail _ (.tail _ (.head _)))))))))))))
    have hrows := tab_rows (ra := ra) (T := T) S6 (fun c hc => .tail _ (.tail _ (.tail _ (.tail _ (.tail _ (lawC_tab c hc)))))) (by rw [hra, hT.len])
    have hpl : h5.IsList Dp plv.toArray := isList_of (S6.at (.tail _ (.head _)))
    have hplz : plv.length ≤ 5 := by rw [hpi.length]; exact places_len gg
    refine xs_expr (e_meth _ (e_loc S6 rfl (m_lst PySem.F.slot_list_append PySem.F.type_list_append (S6.at (a := pa) (P := LstP pv) (.tail _ (.tail _ (.tail _ (.head _))))) (cw_met (a_cons ?_)))))
    refine e_call (e_glob B S6 rfl (cw_ref (by kernel_rfl) (a_cons ?_)))
    refine e_compC (RowF fun v => (places gg).map fun j => ent T (numOf v).toNat j.toNat) [(.ofString "table", L + 1), (.ofString "places", L + 6)] r.hd (e_cel hcp (compC_list (items := plv) hpl (by omega) ?_ ?_) rfl)
    · intro C v cs2 h7 tk7 hv S7
      obtain ⟨q, hq⟩ := List.getElem?_of_mem hv
      obtain ⟨pi, tpi, rfl, hpq⟩ := ints_get hpi hq
      have hp5 := places_mem (List.mem_of_getElem? hpq)
      have hpl7 : h7.IsList Dp plv.toArray := let ⟨o, e, p⟩ := hpl; ⟨o, S7.keep _ _ e, p⟩
      refine e_comp (fun _ => true) (fun v' y => ∃ t, y = .int (ent T pi.toNat (numOf v').toNat) t) [(.ofString "table", L + 1), (.ofString "i", C + 1)] (e_cel (hcp.keeps S7.keep) (comp_list (items := plv) r.hd hpl7 (by rw [sizeLine_eq]; omega) (fun _ _ _ _ _ => t_nil ⟨rfl, _, _, rfl, fun _ _ e => e⟩) ?_ ?_) rfl)
      · intro C2 v2 s₃ hv2 _ S8
        obtain ⟨q2, hq2⟩ := List.getElem?_of_mem hv2
        obtain ⟨pj, tpj, rfl, hpq2⟩ := ints_get hpi hq2
        have hp52 := places_mem (List.mem_of_getElem? hpq2)
        have hct8 := (hct.keeps S7.keep).keeps S8.keep
        have hci8 : s₃.heap.IsCell (C + 1) (some (.int pi tpi)) := Heap.IsCell.keeps (S7.at (a := C + 1) (P := CellP (some (.int pi tpi))) (.head _)) S8.keep
        have htl8 : s₃.heap.IsList ta (ra.map Value.ref).toArray := let ⟨o, e, p⟩ := htl; ⟨o, S8.keep _ _ (S7.keep _ _ e), p⟩
        obtain ⟨a, hra2⟩ : ∃ a, ra[pi.toNat]? = some a := ⟨ra[pi.toNat]'(by omega), List.getElem?_eq_getElem _⟩
        obtain ⟨a', vs', row', ea, hla, hIa, hTa⟩ := hrows.2 pi.toNat (.ref a) (by rw [List.getElem?_map, hra2]; rfl)
        cases ea
        have hla8 : s₃.heap.IsList a vs'.toArray := let ⟨o, e, p⟩ := hla; ⟨o, S8.keep _ _ (S7.keep _ _ e), p⟩
        have hrl := (hT.row row' (List.mem_of_getElem? hTa)).1
        obtain ⟨to, hto⟩ := hIa.get pj.toNat (row'.getD pj.toNat 0) (by have : pj.toNat < row'.length := by omega
                                                                        simp [this])
        have hent : row'.getD pj.toNat 0 = ent T pi.toNat pj.toNat := by unfold ent; simp [List.getD_eq_getElem?_getD, hTa]
        rw [hent] at hto
        obtain ⟨h9, g9, d9, tk9, os9⟩ := s₃
        exact e_sub (e_sub (e_cel hct8 (e_cel hci8 (sub_list htl8 hp5.1 (by omega) (x := .ref a) (by simp [hra2]) (e_var S8 (sub_list hla8 hp52.1 (by omega) (x := .int (ent T pi.toNat pj.toNat) to) (by simpa using hto) ⟨⟨to, rfl⟩, _, _, rfl, fun _ _ e => e⟩))) rfl) rfl))
      · intro D2 h8 tk8 ys hk8 hn8 hl8 hP
        rw [List.filter_eq_self.mpr (fun _ _ => rfl)] at hP
        have hys := ints_map (f := fun j => ent T pi.toNat j.toNat) hpi hP
        exact ⟨[(D2, IntL ((places gg).map fun j => ent T pi.toNat j.toNat))], h8, _, rfl, ⟨D2, rfl, rfl⟩, (S7.lst hk8 hn8 hl8).mono0 fun o ho => ⟨ys, ho, hys⟩⟩
    · intro D2 h7 tk7 ys zs hTr S7
      have hR7 := trip_rows S7 hTr fun c hc => .tail _ hc
      rw [ints_mapN (fun n => (places gg).map fun j => ent T n.toNat j.toNat) hpi] at hR7
      have S8 := S6.keeps S7.keep
      refine a_nil ⟨S8.base B, ?_⟩
      have hsl : (subP T gg).length = (places gg).length := by simp [subP]
      have hrl : ∀ q ∈ subP T gg, q.length = (subP T gg).length ∧ ∀ x ∈ q, x.natAbs ≤ 10 := by
        intro q hq
        obtain ⟨i, _, rfl⟩ := List.mem_map.mp hq
        refine ⟨by simp [subP], fun x hx => ?_⟩
        obtain ⟨j, _, rfl⟩ := List.mem_map.mp hx
        exact ent_le hT
      refine det_spec (k := 3) (rows := subP T gg) (S8.base B) (r.le (by omega)) (isList_of S7.head) hR7 (by rw [hsl]; exact places_len gg) (fun q hq => ⟨by rw [(hrl q hq).1, hsl]; exact places_len gg, (hrl q hq).2⟩) (det_key _ (by rw [hsl]; exact places_len gg) fun q hq => (hrl q hq).1) fun h9 t9 tk9 hk9 => ?_
      have S9 := S8.keeps hk9
      refine a_nil (b_append (pre := [_, _, _]) S9 (by omega) fun h10 S10 => xs_nil ?_)
      refine ⟨⟨some (.int gg tg), some (.ref Dp), pv ++ [Value.int (detL (subP T gg)) t9]⟩, _, _, rfl, ?_, S10.swap.tail⟩
      show IntsAre (pv ++ [Value.int (detL (subP T gg)) t9]) _
      rw [List.take_add_one, hgi, List.map_append]
      exact hJ.append (.cons _ _ .nil)
  · rintro ⟨dg, dpl, pv⟩ h2 tk2 hJ S2
    have hJ : IntsAre pv ((ord.take ov.length).map fun g => detL (subP T g)) := hJ
    rw [hoi.length, List.take_length] at hJ
    have hne := hF.ne
    have hd := hF.det
    have hbits : ∀ g, Builtin.Int.intBits (detL (subP T g)) ≤ 64 := by
      intro g
      have hsl : (subP T g).length = (places g).length := by simp [subP]
      refine det_bits _ (by rw [hsl]; exact places_len g) (fun q hq => ?_) fun q hq x hx => ?_
      · obtain ⟨i, _, rfl⟩ := List.mem_map.mp hq; simp [subP]
      · obtain ⟨i, _, rfl⟩ := List.mem_map.mp hq
        obtain ⟨j, _, rfl⟩ := List.mem_map.mp hx
        exact ent_le hT
    cases ord with
    | nil => exact absurd rfl hne
    | cons g0 gs =>
      have S3 : St h₀ ((L, LocP (lawL sc base few row j x out groups sorter ring dg ready k wh mates mine (some (.ref pa)))) :: (pa, LstP pv) :: lawC L ta ra T ci me (some (.ref oa)) re dpl ((oa, LstP ov) :: rest)) h2 := by
        refine S2.perm (List.Perm.cons _ (List.Perm.cons _ ?_))
        exact (List.perm_middle (l₁ := (L + 6, CellP dpl) :: (L + 5, CellP re) :: (L + 4, CellP (some (.ref oa))) :: (L + 3, CellP me) :: (L + 2, CellP ci) :: (L + 1, CellP (some (.ref ta))) :: (ta, LstP (ra.map .ref)) :: tabC ra T)).symm
      refine ph18 (p0 := detL (subP T g0)) (ps := gs.map fun g => detL (subP T g)) B r hT hra S3 hJ (fun x hx => ?_) hd h
      obtain ⟨g, _, rfl⟩ := List.mem_map.mp hx; exact hbits g
end
end Mine
end TextLW2
section TextLW3
open PySem PySem.W PySem.Spec PySem.Calls PyProof.Rows
set_option Elab.async false
set_option maxRecDepth 100000
set_option linter.unusedVariables false
set_option linter.unusedSimpArgs false
namespace Mine
section
variable {w : World} {A : Around} {hp : Heap} {gn : Array GenState} {dr : Drawn} {tk : Nat} {os : OsState} {h₀ : Heap} {Q : Flow → Shared → Prop} {env : Env} {L : Addr}
theorem xs_for5 {x : PySem.Str} {p pr pk pc pos : Pos} {kk : Nat} {body rest : List Stmt} {D : Type} (loc : D → Loc) (Rc : D → List Cell) (J : Nat → D → Prop) (d0 : D) (B : Base w h₀) (hh : A.handled = none) (S : St h₀ ((L, LocP (loc d0)) :: Rc d0) hp) (hJ : J 0 d0)
    (turn : ∀ i d t h tk I oI, i < 5 → J i d → St h₀ ((L, LocP (loc d)) :: (I, fun q => q = oI) :: Rc d) h → TurnW w A env h₀ L gn dr os x p body (Nx w A rest env Q No) loc Rc J I oI i (.int (i : Nat) t) h tk)
    (done : ∀ d h tk, J 5 d → St h₀ ((L, LocP (loc d)) :: Rc d) h → W w A (execs rest env) Q No ⟨h, gn, dr, tk, os⟩)
    (hk : env.scope.kind = .function := by rfl) (hx : env.kindOf (.ofString "range") = some .globalImplicit := by rfl) (hg : env.globals = mainGlobals := by rfl) (hb : env.builtins = builtinsNs := by rfl) :
    W w A (execs (.For (.Name x p) (.Call (.Name (.ofString "range") pr) [.Constant (.int 5) kk pk] [] pc) body [] pos :: rest) env) Q No ⟨hp, gn, dr, tk, os⟩ := by
  refine xs_for (e_call (e_blt B S (by kernel_rfl) boot_range (by decide) ?_ hk hx hg hb (by rfl)))
  refine cw_typ (a_cons (e_int fun t₁ tk₁ => a_nil (b_range fun u v tk => ?_)))
  have S1 := S.keeps (h' := hp.push { cls := .type "range", data := .fields #[.int 0 u, .int 5 t₁, .int 1 v] }) fun _ _ e => Heap.get?_push_of_some _ e
  refine for_range (n := 5) (a := 0) (b := 5) (c := 1) loc Rc J d0 hh (Heap.get?_push_size _ rfl) (by decide) (by decide) S1 hJ ?_ done
  intro i d t h tk I oI hi hJi S2
  have e : (0 + (i : Nat) * 1 : Int) = (i : Nat) := by omega
  rw [e]
  exact turn i d t h tk I oI hi hJi S2
end
section
variable {w : World} {A : Around} {hp : Heap} {gn : Array GenState} {dr : Drawn} {tk : Nat} {os : OsState} {h₀ : Heap} {Q : Flow → Shared → Prop} {L ta : Addr} {ra : List Addr} {T : List (List Int)} {ci me od re pl : Option Value} {rest : List Cell}
variable {sc : Value} {base few row j x out groups sorter ring g ready k wh mates mine parts : Option Value}
theorem lawC_in (c : Cell) : (c :: lawC L ta ra T ci me od re pl rest).Perm (lawC L ta ra T ci me od re pl (c :: rest)) :=
  (List.perm_middle (l₁ := (L + 6, CellP pl) :: (L + 5, CellP re) :: (L + 4, CellP od) :: (L + 3, CellP me) :: (L + 2, CellP ci) :: (L + 1, CellP (some (.ref ta))) :: (ta, LstP (ra.map .ref)) :: tabC ra T)).symm
theorem tab_get (hT : TabOk T) (hra : ra.length = 5) {cs : List Cell} (S : St h₀ cs hp) (hs : ∀ c ∈ tabC ra T, c ∈ cs) {i j : Nat} (hi : i < 5) (hj : j < 5) : ∃ (a : Addr) (vs : List Value) (t : Tok), ra[i]? = some a ∧ hp.IsList a vs.toArray ∧ vs[j]? = some (Value.int (ent T i j) t) := by
  have hrows := tab_rows (ra := ra) (T := T) S hs (by rw [hra, hT.len])
  obtain ⟨a, hra2⟩ : ∃ a, ra[i]? = some a := ⟨ra[i]'(by omega), List.getElem?_eq_getElem _⟩
  obtain ⟨a', vs', row', ea, hla, hIa, hTa⟩ := hrows.2 i (.ref a) (by rw [List.getElem?_map, hra2]; rfl)
  cases ea
  have hrl := (hT.row row' (List.mem_of_getElem? hTa)).1
  have hjl : j < row'.length := by omega
  obtain ⟨to, hto⟩ := hIa.get j (row'.getD j 0) (by simp [hjl])
  have hent : row'.getD j 0 = ent T i j := by unfold ent; simp [List.getD_eq_getElem?_getD, hTa]
  rw [hent] at hto
  exact ⟨a, vs', to, hra2, hla, hto⟩
theorem ph15 {oa wa : Addr} {ov wv : List Value} {ord : List Int} (B : Base w h₀) (r : Rm 8 A) (hT : TabOk T) (hra : ra.length = 5) (hF : FinOk T ord) (hoi : IntsAre ov ord) (hwi : IntsAre wv ((upZ 5).map (whereP ord)))
    (S : St h₀ ((L, LocP (lawL sc base few row j x out groups sorter ring g ready k (some (.ref wa)) mates mine parts)) :: (wa, LstP wv) :: (oa, LstP ov) :: lawC L ta ra T ci me (some (.ref oa)) re pl rest) hp)
    (h : ∀ h' tk', Kp h₀ h' → Q (.ret (.bool true)) ⟨h', gn, dr, tk', os⟩) :
    W w A (execs ((bodyF w.params 207).drop 15) (envC w 207 L)) Q No ⟨hp, gn, dr, tk, os⟩ := by
  refine xs_for5 (fun d : Option Value × Option Value => lawL sc base few row d.2 x out groups sorter ring g ready k (some (.ref wa)) mates mine parts)
    (fun d => (wa, LstP wv) :: (oa, LstP ov) :: lawC L ta ra T d.1 me (some (.ref oa)) re pl rest) (fun _ _ => True) (ci, j) B r.hd S trivial ?_ ?_
  · rintro i ⟨ci, jj⟩ t h1 tk1 I oI hi _ S1
    refine a_name (s_cel (i := 8) (c := L + 2) S1 rfl (fun h2 S2 => ?_) rfl)
    have S2 : St h₀ ((L, LocP (lawL sc base few row jj x out groups sorter ring g ready k (some (.ref wa)) mates mine parts)) :: (I, fun q => q = oI) :: (wa, LstP wv) :: (oa, LstP ov) :: lawC L ta ra T (some (.int i t)) me (some (.ref oa)) re pl rest) h2 := S2
    refine xs_for5 (fun d : Option Value => lawL sc base few row d x out groups sorter ring g ready k (some (.ref wa)) mates mine parts)
      (fun d => (I, fun q => q = oI) :: (wa, LstP wv) :: (oa, LstP ov) :: lawC L ta ra T (some (.int i t)) me (some (.ref oa)) re pl rest) (fun _ _ => True) jj B r.hd S2 trivial ?_ ?_
    · intro j2 jj2 t2 h3 tk3 I2 oI2 hj _ S3
      refine a_name (s_loc S3 fun h4 tk4 S4 => ?_)
      have hci : h4.IsCell (L + 2) (some (.int i t)) := S4.at (a := L + 2) (P := CellP (some (.int i t))) (.tail _ (.tail _ (.tail _ (.tail _ (.tail _ (.tail _ (.tail _ (.tail _ (.tail _ (.head _))))))))))
      have hct : h4.IsCell (L + 1) (some (.ref ta)) := S4.at (a := L + 1) (P := CellP (some (.ref ta))) (.tail _ (.tail _ (.tail _ (.tail _ (.tail _ (.tail _ (.tail _ (.tail _ (.tail _ (.tail _ (.head _)))))))))))
      have htl := isList_of (S4.at (a := ta) (P := LstP (ra.map .ref)) (.tail _ (.tail _ (.tail _ (.tail _ (.tail _ (.tail _ (.tail _ (.tail _ (.tail _ (.tail _ (.tail _ (.head _)))))))))))))
      have hwl : h4.IsList wa wv.toArray := isList_of (S4.at (.tail _ (.tail _ (.tail _ (.head _)))))
      obtain ⟨a, vs, te, hra2, hla, hto⟩ := tab_get hT hra S4 (fun c hc => .tail _ (.tail _ (.tail _ (.tail _ (.tail _ (lawC_tab c hc)))))) hi hj
      obtain ⟨ti, hwi'⟩ := hwi.get i (whereP ord i) (by simp [upZ, hi])
      obtain ⟨tj, hwj'⟩ := hwi.get j2 (whereP ord j2) (by simp [upZ, hj])
      refine xs_if (t_and (t_cmp (e_sub (e_sub (e_cel hct (e_cel hci (sub_list htl (by omega) (by omega) (x := .ref a) (by simp [hra2]) (e_loc S4 rfl (sub_list hla (by omega) (by omega) (x := .int (ent T i j2) te) (by simpa using hto) (e_int fun _ _ => i_ne (tr_bool ?_))))) rfl) rfl)))))
      cases hne : (ent T i j2 != 0) with
      | false => exact if_n rfl (if_n rfl (xs_nil (xs_nil ⟨some (.int j2 t2), _, _, rfl, trivial, S4⟩)))
      | true =>
        refine if_t rfl (t_cmp (e_sub (e_loc S4 rfl (e_cel hci (sub_list hwl (by omega) (by omega) (x := .int (whereP ord i) ti) (by simpa using hwi') (e_sub (e_loc S4 rfl (e_loc S4 rfl (sub_list hwl (by omega) (by omega) (x := .int (whereP ord j2) tj) (by simpa using hwj') (i_gt (tr_bool ?_))))))) rfl))))
        have := hF.tri i j2 hi hj (by simpa using hne)
        exact if_n (decide_eq_false this) (xs_nil (xs_nil ⟨some (.int j2 t2), _, _, rfl, trivial, S4⟩))
    · intro d h3 tk3 _ S3
      exact xs_nil ⟨(some (.int i t), d), _, _, rfl, trivial, S3⟩
  · rintro ⟨ci2, jj⟩ h1 tk1 _ S1
    have S2 : St h₀ ((L, LocP (lawL sc base few row jj x out groups sorter ring g ready k (some (.ref wa)) mates mine parts)) :: (oa, LstP ov) :: lawC L ta ra T ci2 me (some (.ref oa)) re pl ((wa, LstP wv) :: rest)) h1 :=
      S1.perm (List.Perm.cons _ ((List.Perm.swap _ _ _).trans (List.Perm.cons _ (lawC_in _))))
    exact ph16 B r hT hra hF hoi S2 h
end
end Mine
end TextLW3
section TextLW4
open PySem PySem.W PySem.Spec PySem.Calls PyProof.Rows
set_option Elab.async false
set_option maxRecDepth 100000
set_option linter.unusedVariables false
set_option linter.unusedSimpArgs false
namespace Mine
theorem upZ_mem {n : Nat} {k : Int} (h : k ∈ upZ n) : 0 ≤ k ∧ k < n := by
  simp only [upZ, List.mem_map, List.mem_range] at h
  obtain ⟨a, ha, rfl⟩ := h; omega
theorem ls_list {h : Heap} {a : Addr} {ns : List Int} (x : ∃ o, h.get? a = some o ∧ LsI ns o) : ∃ vs, h.IsList a vs.toArray ∧ IntsAre vs ns := let ⟨o, e, vs, p, hi⟩ := x; ⟨vs, ⟨o, e, p⟩, hi⟩
structure WhD where
  ci : Option Value
  ma : Option Value
  mi : Option Value
  wv : List Value
section
variable {w : World} {A : Around} {hp : Heap} {gn : Array GenState} {dr : Drawn} {tk : Nat} {os : OsState} {h₀ : Heap} {Q : Flow → Shared → Prop} {L ta : Addr} {ra : List Addr} {T : List (List Int)} {ci me od re pl : Option Value} {rest : List Cell}
variable {sc : Value} {base few row j x out groups sorter ring g ready k wh mates mine parts : Option Value}
theorem ph13 {oa rea : Addr} {ov : List Value} {ord rc : List Int} (B : Base w h₀) (r : Rm 10 A) (hT : TabOk T) (hra : ra.length = 5) (hF : FinOk T ord) (hoi : IntsAre ov ord) (hrc : rc = reachP (outP T)) (hrl : rc.length = 5)
    (S : St h₀ ((L, LocP (lawL sc base few row j x out groups sorter ring g ready k wh mates mine parts)) :: (rea, LsI rc) :: (oa, LstP ov) :: lawC L ta ra T ci me (some (.ref oa)) (some (.ref rea)) pl rest) hp)
    (h : ∀ h' tk', Kp h₀ h' → Q (.ret (.bool true)) ⟨h', gn, dr, tk', os⟩) :
    W w A (execs ((bodyF w.params 207).drop 13) (envC w 207 L)) Q No ⟨hp, gn, dr, tk, os⟩ := by
  have hol : ov.length ≤ 5 := by rw [hoi.length]; exact hF.len
  have hu : A.units + 64 < cLine := by have := r.un; omega
  refine xs_assign (e_list0 (s_loc (S.push_lst []).swap fun h1 tk1 S1 => ?_))
  generalize hp.objs.size = wa at S1
  refine xs_for5 (fun d : WhD => lawL sc base few row j x out groups sorter ring g ready k (some (.ref wa)) d.ma d.mi parts)
    (fun d => (wa, LstP d.wv) :: (rea, LsI rc) :: (oa, LstP ov) :: lawC L ta ra T d.ci me (some (.ref oa)) (some (.ref rea)) pl rest) (fun i d => IntsAre d.wv ((upZ i).map (whereP ord))) ⟨ci, mates, mine, []⟩ B r.hd S1 .nil ?_ ?_
  · rintro i ⟨dci, dma, dmi, wv⟩ t h2 tk2 I oI hi hJ S2
    have hJ : IntsAre wv ((upZ i).map (whereP ord)) := hJ
    refine a_name (s_cel (i := 9) (c := L + 2) S2 rfl (fun h3 S3 => ?_) rfl)
    have S3 : St h₀ ((L, LocP (lawL sc base few row j x out groups sorter ring g ready k (some (.ref wa)) dma dmi parts)) :: (I, fun q => q = oI) :: (wa, LstP wv) :: (rea, LsI rc) :: (oa, LstP ov) :: lawC L ta ra T (some (.int i t)) me (some (.ref oa)) (some (.ref rea)) pl rest) h3 := S3
    refine xs_assign_compR (h₀ := h₀) (L := L) (fun v => (fun j => j == (i : Int) || bitN (rc.getD i 0) j + bitN (rc.getD j.toNat 0) i == 2) (numOf v)) (fun v y => y = v) [(.ofString "reach", L + 5), (.ofString "i", L + 2)] r.hd ?_
    refine e_call (e_blt B S3 rfl boot_range (by decide) (cw_typ (a_cons (e_int fun t₁ tk₁ => a_nil (b_range fun u v tk => ?_)))))
    have hci : h3.IsCell (L + 2) (some (.int i t)) := S3.at (a := L + 2) (P := CellP (some (.int i t))) (.tail _ (.tail _ (.tail _ (.tail _ (.tail _ (.tail _ (.tail _ (.tail _ (.tail _ (.head _))))))))))
    have hcr : h3.IsCell (L + 5) (some (.ref rea)) := S3.at (a := L + 5) (P := CellP (some (.ref rea))) (.tail _ (.tail _ (.tail _ (.tail _ (.tail _ (.tail _ (.head _)))))))
    have hco : h3.IsCell (L + 4) (some (.ref oa)) := S3.at (a := L + 4) (P := CellP (some (.ref oa))) (.tail _ (.tail _ (.tail _ (.tail _ (.tail _ (.tail _ (.tail _ (.head _))))))))
    obtain ⟨rv, hrv, hri⟩ := ls_list (S3.at (a := rea) (P := LsI rc) (.tail _ (.tail _ (.tail _ (.head _)))))
    have rget : ∀ n : Nat, n < 5 → ∃ tt, rv[n]? = some (.int (rc.getD n 0) tt) := fun n hn => by
      have : n < rc.length := by omega
      exact hri.get n (rc.getD n 0) (by simp [this])
    have oget : ∀ n : Nat, n < ov.length → ∃ tt, ov[n]? = some (.int (ord.getD n 0) tt) := fun n hn => by
      have : n < ord.length := by rw [← hoi.length]; exact hn
      exact hoi.get n (ord.getD n 0) (by simp [this])
    have kp : Kp h3 (h3.push { cls := .type "range", data := .fields #[.int 0 u, .int 5 t₁, .int 1 v] }) := fun _ _ e => Heap.get?_push_of_some _ e
    refine ⟨_, 5, _, _, _, _, _, rfl, Heap.get?_push_size _ rfl, by decide, S3.keeps kp, ?_, ?_, ?_⟩
    · intro C j2 t2 s₃ hj S4
      have k4 : Kp h3 s₃.heap := kp.trans S4.keep
      have hci4 := hci.keeps k4
      have hcr4 := hcr.keeps k4
      have hrv4 : s₃.heap.IsList rea rv.toArray := let ⟨o, e, p⟩ := hrv; ⟨o, k4 _ _ e, p⟩
      obtain ⟨ti, hgi⟩ := rget i hi
      obtain ⟨tj, hgj⟩ := rget j2 hj
      obtain ⟨h9, g9, d9, tk9, os9⟩ := s₃
      refine t_one (t_or (t_cmp (e_var S4 (e_cel hci4 (i_eq (tr_bool ?_)) rfl))))
      cases hb : ((j2 : Nat) : Int) == (i : Int) with
      | true => exact if_t rfl ⟨by simp [numOf, hb], _, _, rfl, fun _ _ e => e⟩
      | false =>
        refine if_n rfl (t_cmp (e_bin (e_bin (e_bin (e_sub (e_cel hcr4 (e_cel hci4 (sub_list hrv4 (by omega) (by omega) (x := .int (rc.getD i 0) ti) (by simpa using hgi) (e_var S4 (i_shr (by omega) fun _ _ => e_int fun _ _ => i_mod (by decide) fun _ _ => ?_))) rfl) rfl))))))
        refine e_bin (e_bin (e_sub (e_cel hcr4 (e_var S4 (sub_list hrv4 (by omega) (by omega) (x := .int (rc.getD j2 0) tj) (by simpa using hgj) (e_cel hci4 (i_shr (by omega) fun _ _ => e_int fun _ _ => i_mod (by decide) fun _ _ => i_add fun _ _ => e_int fun _ _ => i_eq (tr_bool ⟨?_, _, _, rfl, fun _ _ e => e⟩)) rfl))) rfl)))
        simp only [numOf, hb, Bool.false_or, bitN, Int.toNat_natCast]
    · intro C j2 t2 s₃ hj _ S4
      exact e_var S4 ⟨rfl, _, _, rfl, fun _ _ e => e⟩
    · intro ma h5 tk5 ys vs hvs hP S5
      rw [ints_paired (fun _ _ e => e) hP] at S5
      have hmi := ints_filter (fun j => j == (i : Int) || bitN (rc.getD i 0) j + bitN (rc.getD j.toNat 0) i == 2) hvs
      generalize (vs.filter fun v => (fun j => j == (i : Int) || bitN (rc.getD i 0) j + bitN (rc.getD j.toNat 0) i == 2) (numOf v)) = mv at S5 hmi
      have hmi : IntsAre mv (matesP rc i) := hmi
      have S6 : St h₀ ((L, LocP (lawL sc base few row j x out groups sorter ring g ready k (some (.ref wa)) (some (.ref ma)) dmi parts)) :: (ma, LstP mv) :: (I, fun q => q = oI) :: (wa, LstP wv) :: (rea, LsI rc) :: (oa, LstP ov) :: lawC L ta ra T (some (.int i t)) me (some (.ref oa)) (some (.ref rea)) pl rest) h5 := S5
      clear S5 hci hcr hco hrv S2 S3
      have hci : h5.IsCell (L + 2) (some (.int i t)) := S6.at (a := L + 2) (P := CellP (some (.int i t))) (.tail _ (.tail _ (.tail _ (.tail _ (.tail _ (.tail _ (.tail _ (.tail _ (.tail _ (.tail _ (.head _)))))))))))
      have hco : h5.IsCell (L + 4) (some (.ref oa)) := S6.at (a := L + 4) (P := CellP (some (.ref oa))) (.tail _ (.tail _ (.tail _ (.tail _ (.tail _ (.tail _ (.tail _ (.tail _ (.head _)))))))))
      have hov : h5.IsList oa ov.toArray := isList_of (S6.at (.tail _ (.tail _ (.tail _ (.tail _ (.tail _ (.head _)))))))
      refine xs_assign_compR (h₀ := h₀) (L := L) (fun v => (fun k => bit (ord.getD k.toNat 0) i) (numOf v)) (fun v y => y = v) [(.ofString "order", L + 4), (.ofString "i", L + 2)] r.hd ?_
      refine e_call (e_blt B S6 rfl boot_range (by decide) (cw_typ (a_cons (e_call (e_blt B S6 rfl boot_len (by decide) (cw_blt (a_cons (e_cel hco (a_nil (b_len hov (by simp; omega) fun t7 tk7 => a_nil (b_range fun u v tk => ?_))) rfl))))))))
      have kp : Kp h5 (h5.push { cls := .type "range", data := .fields #[.int 0 u, .int ov.toArray.size t7, .int 1 v] }) := fun _ _ e => Heap.get?_push_of_some _ e
      refine ⟨_, ov.length, _, _, _, _, _, rfl, Heap.get?_push_size _ rfl, by omega, S6.keeps kp, ?_, ?_, ?_⟩
      · intro C k2 t2 s₃ hk S7
        have k7 : Kp h5 s₃.heap := kp.trans S7.keep
        have hci7 := hci.keeps k7
        have hco7 := hco.keeps k7
        have hov7 : s₃.heap.IsList oa ov.toArray := let ⟨o, e, p⟩ := hov; ⟨o, k7 _ _ e, p⟩
        obtain ⟨tk', hgk⟩ := oget k2 hk
        obtain ⟨h9, g9, d9, tk9, os9⟩ := s₃
        exact t_one (t_cmp (e_bin (e_bin (e_sub (e_cel hco7 (e_var S7 (sub_list hov7 (by omega) (by omega) (x := .int (ord.getD k2 0) tk') (by simpa using hgk) (e_cel hci7 (i_shr (by omega) fun _ _ => e_int fun _ _ => i_mod (by decide) fun _ _ => e_int fun _ _ => i_eq (tr_bool ⟨rfl, _, _, rfl, fun _ _ e => e⟩)) rfl))) rfl)))))
      · intro C k2 t2 s₃ hk _ S7
        exact e_var S7 ⟨rfl, _, _, rfl, fun _ _ e => e⟩
      · intro mi h7 tk7 ys vs hvs hP S7
        rw [ints_paired (fun _ _ e => e) hP] at S7
        have hni := ints_filter (fun k => bit (ord.getD k.toNat 0) i) hvs
        generalize (vs.filter fun v => (fun k => bit (ord.getD k.toNat 0) i) (numOf v)) = nv at S7 hni
        have hni : IntsAre nv (mineP ord i) := by unfold mineP; rw [← hoi.length]; exact hni
        have S8 : St h₀ ((L, LocP (lawL sc base few row j x out groups sorter ring g ready k (some (.ref wa)) (some (.ref ma)) (some (.ref mi)) parts)) :: (mi, LstP nv) :: (ma, LstP mv) :: (I, fun q => q = oI) :: (wa, LstP wv) :: (rea, LsI rc) :: (oa, LstP ov) :: lawC L ta ra T (some (.int i t)) me (some (.ref oa)) (some (.ref rea)) pl rest) h7 := S7
        clear S7 S6 hci hco hov kp
        have hco : h7.IsCell (L + 4) (some (.ref oa)) := S8.at (a := L + 4) (P := CellP (some (.ref oa))) (.tail _ (.tail _ (.tail _ (.tail _ (.tail _ (.tail _ (.tail _ (.tail _ (.tail _ (.head _))))))))))
        have hov : h7.IsList oa ov.toArray := isList_of (S8.at (.tail _ (.tail _ (.tail _ (.tail _ (.tail _ (.tail _ (.head _))))))))
        have hmv : h7.IsList ma mv.toArray := isList_of (S8.at (.tail _ (.tail _ (.head _))))
        have hnv : h7.IsList mi nv.toArray := isList_of (S8.at (.tail _ (.head _)))
        have hnvl : nv.length ≤ 5 := by
          rw [hni.length]; unfold mineP
          exact Nat.le_trans (List.length_filter_le _ _) (by rw [upZ_length]; exact hF.len)
        have hmvl : mv.length ≤ 5 := by
          rw [hmi.length]; unfold matesP
          exact Nat.le_trans (List.length_filter_le _ _) (by rw [upZ_length]; omega)
        have hone := hF.one i hi
        rw [← hrc] at hone
        have hmine : mineP ord i = [whereP ord i] := by
          have hl := congrArg List.length hone
          simp only [List.length_map, List.length_singleton] at hl
          unfold whereP
          match h : mineP ord i, hl with
          | [a], _ => rfl
        refine xs_if (t_cmp (e_comp (fun _ => true) (fun v y => ∃ t, y = .int (ord.getD (numOf v).toNat 0) t) [(.ofString "order", L + 4)] (e_loc S8 rfl (comp_list (items := nv) r.hd hnv (by rw [sizeLine_eq]; omega) (fun _ _ _ _ _ => t_nil ⟨rfl, _, _, rfl, fun _ _ e => e⟩) ?_ ?_))))
        · intro C v s₃ hv _ S9
          obtain ⟨q, hq⟩ := List.getElem?_of_mem hv
          obtain ⟨kk, tkk, rfl, hkq⟩ := ints_get hni hq
          have hk5 := upZ_mem (List.mem_filter.mp (List.mem_of_getElem? hkq)).1
          have hkl : kk.toNat < ov.length := by rw [hoi.length]; omega
          have hco9 := hco.keeps S9.keep
          have hov9 : s₃.heap.IsList oa ov.toArray := let ⟨o, e, p⟩ := hov; ⟨o, S9.keep _ _ e, p⟩
          obtain ⟨tk', hgk⟩ := oget kk.toNat hkl
          obtain ⟨h9, g9, d9, tk9, os9⟩ := s₃
          exact e_sub (e_cel hco9 (e_var S9 (sub_list hov9 hk5.1 (by omega) (x := .int (ord.getD kk.toNat 0) tk') (by simpa using hgk) ⟨⟨tk', rfl⟩, _, _, rfl, fun _ _ e => e⟩)) rfl)
        · intro D1 h9 tk9 ys hk9 hn9 hl9 hP
          rw [List.filter_eq_self.mpr (fun _ _ => rfl)] at hP
          have hys := ints_map (f := fun k => ord.getD k.toNat 0) hni hP
          have S9 := S8.lst hk9 hn9 hl9
          have S10 := S9.swap
          have hmv9 : h9.IsList ma mv.toArray := isList_of (S10.at (.tail _ (.tail _ (.tail _ (.head _)))))
          refine e_list1 (e_call (e_blt B S10 rfl boot_sum (by decide) (cw_blt (a_cons ?_))))
          refine e_comp (fun _ => true) (fun v y => ∃ t, y = .int (2 ^ (numOf v).toNat) t) [] (e_loc S10 rfl (comp_list (items := mv) r.hd hmv9 (by rw [sizeLine_eq]; omega) (fun _ _ _ _ _ => t_nil ⟨rfl, _, _, rfl, fun _ _ e => e⟩) ?_ ?_))
          · intro C v s₃ hv _ S11
            obtain ⟨q, hq⟩ := List.getElem?_of_mem hv
            obtain ⟨kk, tkk, rfl, hkq⟩ := ints_get hmi hq
            have hk5 := upZ_mem (List.mem_filter.mp (List.mem_of_getElem? hkq)).1
            obtain ⟨h12, g12, d12, tk12, os12⟩ := s₃
            exact e_bin (e_int fun _ _ => e_var S11 (i_pow hk5.1 (by omega) (by decide) fun t _ => ⟨⟨t, rfl⟩, _, _, rfl, fun _ _ e => e⟩))
          · intro D2 h11 tk11 ys2 hk11 hn11 hl11 hP2
            rw [List.filter_eq_self.mpr (fun _ _ => rfl)] at hP2
            have hys2 := ints_map (f := fun j => (2 : Int) ^ j.toNat) hmi hP2
            have S11 := S10.keeps hk11
            refine a_nil (b_sum r.hd (isList_of hl11) hys2 fun h12 t12 tk12 hk12 => ⟨_, _, _, _, _, rfl, ?_⟩)
            have S12 := (S11.keeps hk12).push_lst [.int (((matesP rc i).map fun j => (2 : Int) ^ j.toNat).sum) t12]
            refine l_ne (ns := (mineP ord i).map fun k => ord.getD k.toNat 0) (ms := [sumP (matesP rc i)]) (isList_of (S12.at (a := D1) (P := LstP ys) (.tail _ (.tail _ (.head _))))) hys (isList_of S12.head) (.cons _ _ .nil) hu (tr_bool ?_)
            rw [hone, decide_eq_true rfl]
            refine if_n rfl (xs_nil ?_)
            have S13 := (S12.tail.swap.tail)
            generalize (h12.push { cls := .type "list", data := .seq [Value.int (((matesP rc i).map fun j => (2 : Int) ^ j.toNat).sum) t12].toArray }) = h13 at S13
            obtain ⟨tw, hw⟩ := hni.get 0 (whereP ord i) (by rw [hmine]; rfl)
            have hnv13 : h13.IsList mi nv.toArray := isList_of (S13.at (.tail _ (.head _)))
            have hwvl : wv.length ≤ 5 := by rw [hJ.length, List.length_map, upZ_length]; omega
            refine xs_expr (e_meth _ (e_loc S13 rfl (m_lst PySem.F.slot_list_append PySem.F.type_list_append (S13.at (a := wa) (P := LstP wv) (.tail _ (.tail _ (.tail _ (.tail _ (.head _)))))) (cw_met (a_cons (e_sub (e_loc S13 rfl (e_int fun _ _ => sub_list hnv13 (by decide) (by decide) (x := .int (whereP ord i) tw) (by simpa using hw) (a_nil (b_append (pre := [_, _, _, _]) S13 (by omega) fun h14 S14 => xs_nil ?_))))))))))
            refine ⟨⟨some (.int i t), some (.ref ma), some (.ref mi), wv ++ [Value.int (whereP ord i) tw]⟩, _, _, rfl, ?_, S14.sublist (.cons_cons _ (.cons _ (.cons _ (.refl _))))⟩
            show IntsAre (wv ++ [Value.int (whereP ord i) tw]) _
            have e : upZ (i + 1) = upZ i ++ [(i : Int)] := by simp [upZ, List.range_succ]
            rw [e, List.map_append]
            exact hJ.append (.cons _ _ .nil)
  · rintro ⟨dci, dma, dmi, wv⟩ h2 tk2 hJ S2
    have S3 : St h₀ ((L, LocP (lawL sc base few row j x out groups sorter ring g ready k (some (.ref wa)) dma dmi parts)) :: (wa, LstP wv) :: (oa, LstP ov) :: lawC L ta ra T dci me (some (.ref oa)) (some (.ref rea)) pl ((rea, LsI rc) :: rest)) h2 :=
      S2.perm (List.Perm.cons _ (List.Perm.cons _ ((List.Perm.swap _ _ _).trans (List.Perm.cons _ (lawC_in _)))))
    exact ph15 B (r.le (by omega)) hT hra hF hoi hJ S3 h
end
end Mine
end TextLW4
section TextLW5
open PySem PySem.W PySem.Spec PySem.Calls PyProof.Rows
set_option Elab.async false
set_option maxRecDepth 100000
set_option linter.unusedVariables false
set_option linter.unusedSimpArgs false
namespace Mine
theorem upZ_succ (i : Nat) : upZ (i + 1) = upZ i ++ [(i : Int)] := by simp [upZ, List.range_succ]
theorem warI_len (k : Int) (r : List Int) (i : Int) : (warI k r i).length = r.length := by unfold warI; split <;> simp
theorem foldl_len {f : List Int → Int → List Int} (hf : ∀ r i, (f r i).length = r.length) : ∀ (l : List Int) (r : List Int), (l.foldl f r).length = r.length
  | [], r => rfl
  | a :: l, r => by rw [List.foldl_cons, foldl_len hf l, hf]
theorem warK_len (r : List Int) (k : Int) : (warK r k).length = r.length := foldl_len (warI_len k) _ _
section
variable {w : World} {A : Around} {hp : Heap} {gn : Array GenState} {dr : Drawn} {tk : Nat} {os : OsState} {h₀ : Heap} {Q : Flow → Shared → Prop} {L ta : Addr} {ra : List Addr} {T : List (List Int)} {ci me od re pl : Option Value} {rest : List Cell}
variable {sc : Value} {base few row j x out groups sorter ring g ready k wh mates mine parts : Option Value}
theorem ph11 {oa ua : Addr} {ov uv : List Value} {ord : List Int} (B : Base w h₀) (r : Rm 10 A) (hT : TabOk T) (hra : ra.length = 5) (hF : FinOk T ord) (hoi : IntsAre ov ord) (hui : IntsAre uv (outP T))
    (S : St h₀ ((L, LocP (lawL sc base few row j x (some (.ref ua)) groups sorter ring g ready k wh mates mine parts)) :: (ua, LstP uv) :: (oa, LstP ov) :: lawC L ta ra T ci me (some (.ref oa)) re pl rest) hp)
    (h : ∀ h' tk', Kp h₀ h' → Q (.ret (.bool true)) ⟨h', gn, dr, tk', os⟩) :
    W w A (execs ((bodyF w.params 207).drop 11) (envC w 207 L)) Q No ⟨hp, gn, dr, tk, os⟩ := by
  have hul : (outP T).length = 5 := by simp [outP, hT.len]
  refine xs_assign (e_call (e_blt B S rfl boot_list (by decide) (cw_typ (a_cons (e_loc S rfl (a_nil (b_list (isList_of (S.at (.tail _ (.head _)))) (by rw [hui.length]; omega) fun h1 hk1 hl1 => ?_)))))))
  have S1 := S.lst hk1 (get?_size_none _) hl1
  generalize hp.objs.size = rea at S1
  refine s_cel (i := 5) (c := L + 5) S1 rfl (fun h2 S2 => ?_) rfl
  have S2 : St h₀ ((rea, LstP uv) :: (L, LocP (lawL sc base few row j x (some (.ref ua)) groups sorter ring g ready k wh mates mine parts)) :: (ua, LstP uv) :: (oa, LstP ov) :: lawC L ta ra T ci me (some (.ref oa)) (some (.ref rea)) pl rest) h2 := S2
  have S3 := (S2.mono0 (P' := LsI (outP T)) fun o ho => let ⟨n, e⟩ := ho; ⟨uv, ⟨e ▸ rfl, n, e ▸ rfl⟩, hui⟩).swap
  refine xs_for5 (fun d : Option Value × Option Value × List Int => lawL sc base few row j x (some (.ref ua)) groups sorter ring g ready d.1 wh mates mine parts)
    (fun d => (rea, LsI d.2.2) :: (ua, LstP uv) :: (oa, LstP ov) :: lawC L ta ra T d.2.1 me (some (.ref oa)) (some (.ref rea)) pl rest) (fun i d => d.2.2 = (upZ i).foldl warK (outP T)) (k, ci, outP T) B r.hd S3 rfl ?_ ?_
  · rintro kk ⟨dk, dci, rc⟩ t h4 tk4 I oI hk hJ S4
    have hJ : rc = (upZ kk).foldl warK (outP T) := hJ
    have hrl : rc.length = 5 := by rw [hJ, foldl_len warK_len, hul]
    refine a_name (s_loc S4 fun h5 tk5 S5 => ?_)
    refine xs_for5 (fun d : Option Value × List Int => lawL sc base few row j x (some (.ref ua)) groups sorter ring g ready (some (.int kk t)) wh mates mine parts)
      (fun d => (I, fun q => q = oI) :: (rea, LsI d.2) :: (ua, LstP uv) :: (oa, LstP ov) :: lawC L ta ra T d.1 me (some (.ref oa)) (some (.ref rea)) pl rest) (fun i d => d.2 = (upZ i).foldl (warI kk) rc) (dci, rc) B r.hd S5 rfl ?_ ?_
    · rintro i ⟨dci2, r2⟩ t2 h6 tk6 I2 oI2 hi hJ2 S6
      have hJ2 : r2 = (upZ i).foldl (warI kk) rc := hJ2
      have hrl2 : r2.length = 5 := by rw [hJ2, foldl_len (warI_len _), hrl]
      refine a_name (s_cel (i := 10) (c := L + 2) S6 rfl (fun h7 S7 => ?_) rfl)
      have S7 : St h₀ ((L, LocP (lawL sc base few row j x (some (.ref ua)) groups sorter ring g ready (some (.int kk t)) wh mates mine parts)) :: (I2, fun q => q = oI2) :: (I, fun q => q = oI) :: (rea, LsI r2) :: (ua, LstP uv) :: (oa, LstP ov) :: lawC L ta ra T (some (.int i t2)) me (some (.ref oa)) (some (.ref rea)) pl rest) h7 := S7
      have hci : h7.IsCell (L + 2) (some (.int i t2)) := S7.at (a := L + 2) (P := CellP (some (.int i t2))) (.tail _ (.tail _ (.tail _ (.tail _ (.tail _ (.tail _ (.tail _ (.tail _ (.tail _ (.tail _ (.head _)))))))))))
      have hcr : h7.IsCell (L + 5) (some (.ref rea)) := S7.at (a := L + 5) (P := CellP (some (.ref rea))) (.tail _ (.tail _ (.tail _ (.tail _ (.tail _ (.tail _ (.tail _ (.head _))))))))
      obtain ⟨rv, hrv, hri⟩ := ls_list (S7.at (a := rea) (P := LsI r2) (.tail _ (.tail _ (.tail _ (.head _)))))
      have rget : ∀ n : Nat, n < 5 → ∃ tt, rv[n]? = some (.int (r2.getD n 0) tt) := fun n hn => by
        have : n < r2.length := by omega
        exact hri.get n (r2.getD n 0) (by simp [this])
      obtain ⟨ti, hgi⟩ := rget i hi
      obtain ⟨tk', hgk⟩ := rget kk hk
      have hstep : (upZ (i + 1)).foldl (warI kk) rc = warI kk r2 i := by rw [upZ_succ, List.foldl_append, ← hJ2]; rfl
      refine xs_if (t_cmp (e_bin (e_bin (e_sub (e_cel hcr (e_cel hci (sub_list hrv (by omega) (by omega) (x := .int (r2.getD i 0) ti) (by simpa using hgi) (e_loc S7 rfl (i_shr (by omega) fun _ _ => e_int fun _ _ => i_mod (by decide) fun _ _ => e_int fun _ _ => i_eq (tr_bool ?_)))) rfl) rfl)))))
      by_cases hb : bit (r2.getD i 0) kk = true
      · refine if_t hb ?_
        refine xs_assign_sub (e_bin (e_sub (e_cel hcr (e_cel hci (sub_list hrv (by omega) (by omega) (x := .int (r2.getD i 0) ti) (by simpa using hgi) (e_sub (e_cel hcr (e_loc S7 rfl (sub_list hrv (by omega) (by omega) (x := .int (r2.getD kk 0) tk') (by simpa using hgk) (i_or fun t9 tk9 => ?_))) rfl))) rfl) rfl)))
        refine e_cel hcr (e_cel hci (set_list (pre := [_, _, _]) S7 (by omega) (by omega) (by omega) fun h10 S10 => xs_nil (xs_nil ⟨(some (.int i t2), r2.set i (Builtin.bitOr (r2.getD i 0) (r2.getD kk 0))), _, _, rfl, ?_, S10⟩)) rfl) rfl
        show r2.set i (Builtin.bitOr (r2.getD i 0) (r2.getD kk 0)) = _
        rw [hstep]; unfold warI; simp only [Int.toNat_natCast]; rw [if_pos hb]
      · refine if_f hb (xs_nil (xs_nil ⟨(some (.int i t2), r2), _, _, rfl, ?_, S7⟩))
        show r2 = _
        rw [hstep]; unfold warI; simp only [Int.toNat_natCast]; rw [if_neg hb]
    · rintro ⟨dci2, r2⟩ h6 tk6 hJ2 S6
      have hJ2 : r2 = (upZ 5).foldl (warI kk) rc := hJ2
      refine xs_nil ⟨(some (.int kk t), dci2, r2), _, _, rfl, ?_, S6⟩
      show r2 = _
      rw [upZ_succ, List.foldl_append, ← hJ, hJ2]; rfl
  · rintro ⟨dk, dci, rc⟩ h4 tk4 hJ S4
    have hJ : rc = (upZ 5).foldl warK (outP T) := hJ
    have S5 : St h₀ ((L, LocP (lawL sc base few row j x (some (.ref ua)) groups sorter ring g ready dk wh mates mine parts)) :: (rea, LsI rc) :: (oa, LstP ov) :: lawC L ta ra T dci me (some (.ref oa)) (some (.ref rea)) pl ((ua, LstP uv) :: rest)) h4 :=
      S4.perm (List.Perm.cons _ (List.Perm.cons _ ((List.Perm.swap _ _ _).trans (List.Perm.cons _ (lawC_in _)))))
    exact ph13 B r hT hra hF hoi hJ (by rw [hJ, foldl_len warK_len, hul]) S5 h
end
end Mine
end TextLW5
section TextLW6
open PySem PySem.W PySem.Spec PySem.Calls PyProof.Rows
set_option Elab.async false
set_option maxRecDepth 100000
set_option linter.unusedVariables false
set_option linter.unusedSimpArgs false
namespace Mine
theorem psetnp_succ (k : Int) (f : Int → Int) : ∀ (l : List PN), ∀ m ∈ psetnp k f l, ∃ m' ∈ l, m'.1 = m.1 ∧ m'.2.2 = m.2.2
  | [], m, h => by simp [psetnp] at h
  | a :: r, m, h => by
    unfold psetnp at h
    split at h
    · rcases List.mem_cons.mp h with rfl | h
      · exact ⟨a, .head _, rfl, rfl⟩
      · exact ⟨m, .tail _ h, rfl, rfl⟩
    · rcases List.mem_cons.mp h with rfl | h
      · exact ⟨_, .head _, rfl, rfl⟩
      · obtain ⟨m', hm, e⟩ := psetnp_succ k f r m h
        exact ⟨m', .tail _ hm, e⟩
theorem psetnps_succ (f : Int → Int) : ∀ (ks : List Int) (l : List PN), ∀ m ∈ ks.foldl (fun l k => psetnp k f l) l, ∃ m' ∈ l, m'.1 = m.1 ∧ m'.2.2 = m.2.2
  | [], l, m, h => ⟨m, h, rfl, rfl⟩
  | k :: ks, l, m, h => by
    obtain ⟨m1, h1, e1, e2⟩ := psetnps_succ f ks (psetnp k f l) m h
    obtain ⟨m2, h2, e3, e4⟩ := psetnp_succ k f l m1 h1
    exact ⟨m2, h2, e3.trans e1, e4.trans e2⟩
theorem psetnps_keys (f : Int → Int) : ∀ (ks : List Int) (l : List PN), (ks.foldl (fun l k => psetnp k f l) l).map (·.1) = l.map (·.1)
  | [], l => rfl
  | k :: ks, l => by rw [List.foldl_cons, psetnps_keys f ks, psetnp_keys]
theorem pu_key (l : List Nd) : (l.map Nd.pu).map (·.1) = l.map Nd.key := by simp [List.map_map, Function.comp_def, Nd.pu]
theorem perm4 {c1 c2 c3 c4 : Cell} {a cs : List Cell} : (c1 :: c2 :: c3 :: c4 :: (a ++ cs)).Perm (a ++ c1 :: c2 :: c3 :: c4 :: cs) := (List.Perm.cons _ perm3).trans List.perm_middle.symm
theorem lawC_ins {L ta : Addr} {ra : List Addr} {T : List (List Int)} {ci me od re pl : Option Value} {rest : List Cell} : ∀ cs : List Cell, (cs ++ lawC L ta ra T ci me od re pl rest).Perm (lawC L ta ra T ci me od re pl (cs ++ rest))
  | [] => List.Perm.refl _
  | c :: cs => (List.Perm.cons c (lawC_ins cs)).trans (lawC_in c)
section
variable {w : World} {A : Around} {hp : Heap} {gn : Array GenState} {dr : Drawn} {tk : Nat} {os : OsState} {h₀ : Heap} {Q : Flow → Shared → Prop} {L ta : Addr} {ra : List Addr} {T : List (List Int)} {ci me od re pl : Option Value} {rest : List Cell}
variable {sc : Value} {base few row j x out groups sorter ring g ready k wh mates mine parts : Option Value}
theorem ph9 {ua sx dx D rl : Addr} {uv rv : List Value} {gs dn : List Int} {ns : List Nd} {t0 t0' : Tok} (B : Base w h₀) (r : Rm 10 A) (hT : TabOk T) (hra : ra.length = 5) (hui : IntsAre uv (outP T)) (hG : GInv (outP T) gs)
    (hn : ns.map Nd.pu = sortP gs (outP T)) (ht : Topo ns dn) (ha : ∀ n ∈ ns, n.key ∈ dn) (hrv : IntsAre rv (readyP ns))
    (S : St h₀ ((L, LocP (lawL sc base few row j x (some (.ref ua)) groups (some (.ref sx)) ring g ready k wh mates mine parts)) :: (ua, LstP uv) :: (rl, LstP rv) :: (sorC w sx dx D (.ref rl) (.int 0 t0) (.int 0 t0') ns ++ lawC L ta ra T ci me od re pl rest)) hp)
    (h : ∀ h' tk', Kp h₀ h' → Q (.ret (.bool true)) ⟨h', gn, dr, tk', os⟩) :
    W w A (execs ((bodyF w.params 207).drop 9) (envC w 207 L)) Q No ⟨hp, gn, dr, tk, os⟩ := by
  have hgl := hG.len
  have S1 := (S.push_lst []).perm (cs' := lawC L ta ra T ci me od re pl (((hp.objs.size, LstP []) :: (L, LocP (lawL sc base few row j x (some (.ref ua)) groups (some (.ref sx)) ring g ready k wh mates mine parts)) :: (ua, LstP uv) :: (rl, LstP rv) :: sorC w sx dx D (.ref rl) (.int 0 t0) (.int 0 t0') ns) ++ rest)) ?_
  rotate_left
  · refine List.Perm.trans (l₂ := (((hp.objs.size, LstP []) :: (L, LocP (lawL sc base few row j x (some (.ref ua)) groups (some (.ref sx)) ring g ready k wh mates mine parts)) :: (ua, LstP uv) :: (rl, LstP rv) :: sorC w sx dx D (.ref rl) (.int 0 t0) (.int 0 t0') ns) ++ lawC L ta ra T ci me od re pl rest)) (List.Perm.refl _) (lawC_ins _)
  refine xs_assign (e_list0 (s_cel (i := 2) (c := L + 4) S1 rfl (fun h2 S2 => ?_) rfl))
  generalize hp.objs.size = oa at S2
  have S2 : St h₀ (lawC L ta ra T ci me (some (.ref oa)) re pl (((oa, LstP []) :: (L, LocP (lawL sc base few row j x (some (.ref ua)) groups (some (.ref sx)) ring g ready k wh mates mine parts)) :: (ua, LstP uv) :: (rl, LstP rv) :: sorC w sx dx D (.ref rl) (.int 0 t0) (.int 0 t0') ns) ++ rest)) h2 := S2
  have S3 : St h₀ ((L, LocP (lawL sc base few row j x (some (.ref ua)) groups (some (.ref sx)) ring g ready k wh mates mine parts)) :: (oa, LstP []) :: (ua, LstP uv) :: (rl, LstP rv) :: (sorC w sx dx D (.ref rl) (.int 0 t0) (.int 0 t0') ns ++ lawC L ta ra T ci me (some (.ref oa)) re pl rest)) h2 := by
    refine S2.perm ((lawC_ins _).symm.trans ?_)
    exact List.Perm.swap _ _ _
  refine xs_while (c_while (fun n s => ∃ ns' rv' rd ov ord rdy tn tf h' tk', s = ⟨h', gn, dr, tk', os⟩ ∧ n = gs.length - ord.length ∧ KS (outP T) gs (ns'.map Nd.pu) ord [] rd ∧ IntsAre rv' rd ∧ IntsAre ov ord ∧
      St h₀ ((L, LocP (lawL sc base few row j x (some (.ref ua)) groups (some (.ref sx)) ring g rdy k wh mates mine parts)) :: (oa, LstP ov) :: (ua, LstP uv) :: (rl, LstP rv') :: (sorC w sx dx D (.ref rl) (.int ord.length tn) (.int ord.length tf) ns' ++ lawC L ta ra T ci me (some (.ref oa)) re pl rest)) h') ?_ _
    ⟨ns, rv, readyP ns, [], [], ready, t0, t0', h2, _, rfl, rfl, ks0 hG hn, hrv, .nil, S3⟩)
  rintro n s ⟨ns', rv', rd, ov, ord, rdy, tn, tf, h3, tk3, rfl, rfl, hK, hrv', hov, S4⟩
  have hlen := ks_len hG hK
  have hrl : rv'.length ≤ 5 := by rw [hrv'.length]; omega
  have hovl : ov.length ≤ 5 := by rw [hov.length]; omega
  refine t_val (e_meth _ (e_loc S4 rfl (g_meth B S4 (cls137 w) (f := 106) (by kernel_rfl) (by kernel_rfl) (.tail _ (.tail _ (.tail _ (.tail _ (.head _))))) (.tail _ (.tail _ (.tail _ (.tail _ (.tail _ (.head _)))))) rfl (cw_ref0 (by kernel_rfl) (S4.base B) ?_))))
  have S5 := S4.perm (perm3 (a := (rl, LstP rv') :: sorC w sx dx D (.ref rl) (.int ord.length tn) (.int ord.length tf) ns'))
  refine active_spec (k := 8) B (r.le (by omega)) S5 (by omega) fun h6 tk6 S6 => tr_bool ?_
  have hdec : decide ((ord.length : Int) < ord.length) = false := decide_eq_false (Int.lt_irrefl _)
  rw [hdec, Bool.false_or]
  cases hrc : rv' with
  | nil =>
    refine if_n rfl (xs_nil ?_)
    have hrd : rd = [] := by
      have := hrv'.length
      rw [hrc] at this
      exact List.length_eq_zero_iff.mp this.symm
    subst hrd
    have S7 := (S6.perm (perm3 (a := (rl, LstP rv') :: sorC w sx dx D (.ref rl) (.int ord.length tn) (.int ord.length tf) ns')).symm).sublist (.cons_cons _ (.cons_cons _ (.cons_cons _ (List.sublist_append_right ((rl, LstP rv') :: sorC w sx dx D (.ref rl) (.int ord.length tn) (.int ord.length tf) ns') _))))
    exact ph11 B r hT hra (fin_ok hT hG hn ht ha hK) hov hui (S7.perm (List.Perm.cons _ (List.Perm.swap _ _ _))) h
  | cons v0 vs0 =>
    refine if_t rfl ?_
    have hrd1 : 1 ≤ rd.length := by rw [← hrv'.length, hrc]; simp
    clear hrc hdec S5 S4
    have S7 := S6.perm (perm3 (a := (rl, LstP rv') :: sorC w sx dx D (.ref rl) (.int ord.length tn) (.int ord.length tf) ns')).symm
    have hkey : ∀ k ∈ gs, k ∈ ns'.map Nd.key := fun k hk => by rw [← pu_key]; exact (hK.ke k).mpr hk
    refine xs_assign (e_meth _ (e_loc S7 rfl (g_meth B S7 (cls137 w) (f := 99) (by kernel_rfl) (by kernel_rfl) (.tail _ (.tail _ (.tail _ (.tail _ (.head _))))) (.tail _ (.tail _ (.tail _ (.tail _ (.tail _ (.head _)))))) rfl (cw_ref0 (by kernel_rfl) (S7.base B) ?_))))
    refine getready_spec (k := 8) B (r.le (by omega)) S6 (by omega) hrv' (fun k hk => hkey k (hK.sub k (List.mem_append_right _ hk))) fun tu t8 ns2 h8 tk8 hns2 S8 => ?_
    have S9 := S8.perm (List.perm_middle (l₁ := (tu, TupP rv') :: (rl, LstP []) :: sorC w sx dx D (.ref rl) (.int (ord.length + rd.length) t8) (.int ord.length tf) ns2))
    refine s_loc S9 fun h10 tk10 S10 => ?_
    have S10 : St h₀ ((L, LocP (lawL sc base few row j x (some (.ref ua)) groups (some (.ref sx)) ring g (some (.ref tu)) k wh mates mine parts)) :: (tu, TupP rv') :: (rl, LstP []) :: (sorC w sx dx D (.ref rl) (.int (ord.length + rd.length) t8) (.int ord.length tf) ns2 ++ (oa, LstP ov) :: (ua, LstP uv) :: lawC L ta ra T ci me (some (.ref oa)) re pl rest)) h10 := S10
    have hco : h10.IsCell (L + 4) (some (.ref oa)) := S10.at (a := L + 4) (P := CellP (some (.ref oa))) (.tail _ (.tail _ (.tail _ (List.mem_append_right _ (.tail _ (.tail _ (.tail _ (.tail _ (.head _)))))))))
    refine xs_expr (e_meth _ (e_cel hco (m_lst PySem.F.slot_list_extend PySem.F.type_list_extend (S10.at (a := oa) (P := LstP ov) (.tail _ (.tail _ (.tail _ (List.mem_append_right _ (.head _)))))) (cw_met (a_cons (e_loc S10 rfl (a_nil (b_extend (pre := (L, LocP (lawL sc base few row j x (some (.ref ua)) groups (some (.ref sx)) ring g (some (.ref tu)) k wh mates mine parts)) :: (tu, TupP rv') :: (rl, LstP []) :: sorC w sx dx D (.ref rl) (.int (ord.length + rd.length) t8) (.int ord.length tf) ns2) S10 (S10.at (.tail _ (.head _))) (by omega) (by omega) fun h11 S11 => ?_)))))) rfl))
    have S11 : St h₀ ((L, LocP (lawL sc base few row j x (some (.ref ua)) groups (some (.ref sx)) ring g (some (.ref tu)) k wh mates mine parts)) :: (tu, TupP rv') :: (rl, LstP []) :: (sorC w sx dx D (.ref rl) (.int (ord.length + rd.length) t8) (.int ord.length tf) ns2 ++ (oa, LstP (ov ++ rv')) :: (ua, LstP uv) :: lawC L ta ra T ci me (some (.ref oa)) re pl rest)) h11 := S11
    refine xs_expr (e_smeth (e_loc S11 rfl (g_bound B S11 (cls137 w) (f := 120) (by kernel_rfl) (by kernel_rfl) (by kernel_rfl) (by kernel_rfl) (.tail _ (.tail _ (.tail _ (.head _)))) (.tail _ (.tail _ (.tail _ (.tail _ (.head _))))) rfl fun S12 => ?_)))
    generalize h11.push (methodObj (.ref 120) (.ref sx)) = h12 at S12
    generalize h11.objs.size = mq at S12
    refine cw_mstar1 (self := sx) (f := 120) (by kernel_rfl) (e_loc S12.swap rfl (star_tup (S12.at (a := tu) (P := TupP rv') (.tail _ (.tail _ (.head _)))) (by omega) fun h13 hk13 => ?_))
    have S13 := S12.keeps hk13
    obtain ⟨om, em, pm⟩ := S13.head
    refine ⟨⟨pm ▸ em, (S13.base B).K⟩, ?_⟩
    have hmem2 : ∀ n ∈ ns2, n.succ = gs.filter fun g => predP (outP T) g n.key := fun n hn => by
      have : n.pu ∈ ns2.map Nd.pu := List.mem_map_of_mem (f := Nd.pu) hn
      rw [hns2] at this
      obtain ⟨m', hm', e1, e2⟩ := psetnps_succ _ _ _ _ this
      have := hK.su m' hm'
      rw [e1, e2] at this; exact this
    have hkey2 : ns2.map Nd.key = ns'.map Nd.key := by rw [← pu_key, hns2, psetnps_keys, pu_key]
    have hpre := ks_pre hG hK
    rw [← hns2] at hpre
    have hstep := ks_step hG hK
    rw [← hns2] at hstep
    refine done_spec (k := 8) (rd := []) B (r.le (by omega)) (S13.perm (perm3 (a := (rl, LstP []) :: sorC w sx dx D (.ref rl) (.int (ord.length + rd.length) t8) (.int ord.length tf) ns2))) hrl hrv' .nil (by simp) (fun n hn => by rw [hmem2 n hn]; exact Nat.le_trans (List.length_filter_le _ _) hgl) (fun n hn s hs => by rw [hkey2]; rw [hmem2 n hn] at hs; exact hkey s (List.mem_filter.mp hs).1) hpre fun t14 ns3 rv3 h14 tk14 hpu hst hrv3 S14 => xs_nil ?_
    have e : ((ord ++ rd).length : Int) = ord.length + rd.length := by simp
    refine ⟨gs.length - (ord ++ rd).length, ?_, ns3, rv3, _, ov ++ rv', ord ++ rd, some (.ref tu), t8, t14, h14, tk14, rfl, rfl, hpu ▸ hstep, hrv3, hov.append hrv', ?_⟩
    · rw [List.length_append]; omega
    · rw [e]
      have S15 := S14.sublist (List.Sublist.append_left (List.Sublist.cons _ (List.Sublist.cons_cons _ (List.Sublist.cons _ (List.Sublist.refl _)))) ((rl, LstP rv3) :: sorC w sx dx D (.ref rl) (.int (ord.length + rd.length) t8) (.int (ord.length + rd.length) t14) ns3))
      exact S15.perm (perm3 (a := (rl, LstP rv3) :: sorC w sx dx D (.ref rl) (.int (ord.length + rd.length) t8) (.int (ord.length + rd.length) t14) ns3)).symm
end
end Mine
end TextLW6
section TextLW7
open PySem PySem.W PySem.Spec PySem.Calls PyProof.Rows
set_option Elab.async false
set_option maxRecDepth 100000
set_option linter.unusedVariables false
set_option linter.unusedSimpArgs false
namespace Mine
section
variable {w : World} {A : Around} {hp : Heap} {gn : Array GenState} {dr : Drawn} {tk : Nat} {os : OsState} {h₀ : Heap} {Q : Flow → Shared → Prop} {L ta : Addr} {ra : List Addr} {T : List (List Int)} {ci me od re pl : Option Value} {rest : List Cell}
variable {sc : Value} {base few row j x out groups sorter ring g ready k wh mates mine parts : Option Value}
theorem xs_sr {p1 p2 p3 p4 p5 p6 p7 p8 p9 p10 p11 : Pos} {more : List Stmt} {ga ua : Addr} {gv uv : List Value} {gs : List Int} (B : Base w h₀) (r : Rm 10 A) (Fr : Frs A [envC w 207 L] [L]) (hT : TabOk T) (hgi : IntsAre gv gs) (hui : IntsAre uv (outP T)) (hG : GInv (outP T) gs)
    (S : St h₀ ((L, LocP (lawL sc base few row j x (some (.ref ua)) (some (.ref ga)) sorter ring g ready k wh mates mine parts)) :: (ga, LstP gv) :: (ua, LstP uv) :: lawC L ta ra T ci me od re pl rest) hp)
    (h0 : ∀ sx dx D rl el t t' ns dn rv h' tk', ns.map Nd.pu = sortP gs (outP T) → Topo ns dn → (∀ n ∈ ns, n.key ∈ dn) → IntsAre rv (readyP ns) →
      St h₀ ((L, LocP (lawL sc base few row j x (some (.ref ua)) (some (.ref ga)) (some (.ref sx)) (some (.ref el)) g ready k wh mates mine parts)) :: (el, LstP []) :: (rl, LstP rv) :: (sorC w sx dx D (.ref rl) (.int 0 t) (.int 0 t') ns ++ (ga, LstP gv) :: (ua, LstP uv) :: lawC L ta ra T ci me od re pl rest)) h' → W w A (execs more (envC w 207 L)) Q No ⟨h', gn, dr, tk', os⟩)
    (h1 : ∀ sx rga rgv rg ns h' tk', ns.map Nd.pu = sortP gs (outP T) → IsRing (edge ns) rg → rg.length ≤ 200 → IntsAre rgv rg →
      St h₀ ((L, LocP (lawL sc base few row j x (some (.ref ua)) (some (.ref ga)) (some (.ref sx)) (some (.ref rga)) g ready k wh mates mine parts)) :: (rga, LstP rgv) :: (ga, LstP gv) :: (ua, LstP uv) :: lawC L ta ra T ci me od re pl rest) h' → W w A (execs more (envC w 207 L)) Q No ⟨h', gn, dr, tk', os⟩) :
    W w A (execs (.Assign [.Name (.ofString "sorter") p1] (.Call (.Name (.ofString "_law_sorter") p2) [.Name (.ofString "groups") p3, .Name (.ofString "out") p4] [] p5) p6 :: .Assign [.Name (.ofString "ring") p7] (.Call (.Name (.ofString "_law_ring") p8) [.Name (.ofString "sorter") p9] [] p10) p11 :: more) (envC w 207 L)) Q No ⟨hp, gn, dr, tk, os⟩ := by
  have hul : (outP T).length = 5 := by simp [outP, hT.len]
  refine xs_assign (e_call (e_glob B S rfl (cw_ref (by kernel_rfl) (a_cons (e_loc S rfl (a_cons (e_loc S rfl (a_nil ⟨S.base B, ?_⟩))))))))
  refine lsorter_spec (k := 4) (S.base B) (r.le (by omega)) (isList_of (S.at (.tail _ (.head _)))) hgi (isList_of (S.at (.tail _ (.tail _ (.head _))))) hui hul hG.len hG.nd hG.pl fun sx dx D t t' ns h2 tk2 hns S2 => ?_
  have S3 := (S.join S2).perm (List.perm_middle (l₁ := sorC w sx dx D .none (.int 0 t) (.int 0 t') ns))
  refine s_loc S3 fun h4 tk4 S4 => ?_
  have S4 : St h₀ ((L, LocP (lawL sc base few row j x (some (.ref ua)) (some (.ref ga)) (some (.ref sx)) ring g ready k wh mates mine parts)) :: (sorC w sx dx D .none (.int 0 t) (.int 0 t') ns ++ (ga, LstP gv) :: (ua, LstP uv) :: lawC L ta ra T ci me od re pl rest)) h4 := S4
  refine xs_assign (e_call (e_glob B S4 rfl (cw_ref (by kernel_rfl) (a_cons (e_loc S4 rfl (a_nil ⟨S4.base B, ?_⟩))))))
  have hnl : ns.length ≤ 5 := by have := sort_len hG; rw [← hns, List.length_map] at this; exact this
  have hcl : ∀ n ∈ ns, ∀ s ∈ n.succ, ∃ m ∈ ns, m.key = s := fun n hn s hs => by
    have := sort_closed hG n.pu (hns ▸ List.mem_map_of_mem (f := Nd.pu) hn) s hs
    rw [← hns, pu_key] at this
    obtain ⟨m, hm, e⟩ := List.mem_map.mp this
    exact ⟨m, hm, e⟩
  refine ring_spec (k := 7) B r Fr (S4.perm (List.perm_middle (l₁ := sorC w sx dx D .none (.int 0 t) (.int 0 t') ns)).symm) (fun L' hL' => ?_) (by omega) hcl ?_ ?_
  · rw [List.mem_singleton.mp hL']; exact ⟨_, .head _⟩
  · intro el rl dn rv h5 tk5 ht ha hrv S5
    refine s_loc (S5.perm (List.perm_middle (l₁ := (el, LstP []) :: (rl, LstP rv) :: sorC w sx dx D (.ref rl) (.int 0 t) (.int 0 t') ns))) fun h6 tk6 S6 => ?_
    exact h0 sx dx D rl el t t' ns dn rv h6 tk6 hns ht ha hrv S6
  · intro rga rgv rg h5 tk5 hr hrl hri S5
    refine s_loc S5.swap fun h6 tk6 S6 => ?_
    exact h1 sx rga rgv rg ns h6 tk6 hns hr hrl hri S6
def LoopI (w : World) (h₀ : Heap) (gn : Array GenState) (dr : Drawn) (os : OsState) (L ta ua : Addr) (uv : List Value) (ra : List Addr) (T : List (List Int)) (ci od re pl : Option Value) (rest : List Cell) (sc : Value) (base few row j x g ready k wh mates mine parts : Option Value) (n : Nat) (s : Shared) : Prop :=
  ∃ gs ga gv me h tk, s = ⟨h, gn, dr, tk, os⟩ ∧ n = gs.length ∧ GInv (outP T) gs ∧ IntsAre gv gs ∧
    ((∃ sx dx D rl el t t' ns dn rv, ns.map Nd.pu = sortP gs (outP T) ∧ Topo ns dn ∧ (∀ n ∈ ns, n.key ∈ dn) ∧ IntsAre rv (readyP ns) ∧
      St h₀ ((L, LocP (lawL sc base few row j x (some (.ref ua)) (some (.ref ga)) (some (.ref sx)) (some (.ref el)) g ready k wh mates mine parts)) :: (el, LstP []) :: (rl, LstP rv) :: (sorC w sx dx D (.ref rl) (.int 0 t) (.int 0 t') ns ++ (ga, LstP gv) :: (ua, LstP uv) :: lawC L ta ra T ci me od re pl rest)) h) ∨
    (∃ sx rga rgv rg ns, ns.map Nd.pu = sortP gs (outP T) ∧ IsRing (edge ns) rg ∧ rg.length ≤ 200 ∧ IntsAre rgv rg ∧
      St h₀ ((L, LocP (lawL sc base few row j x (some (.ref ua)) (some (.ref ga)) (some (.ref sx)) (some (.ref rga)) g ready k wh mates mine parts)) :: (rga, LstP rgv) :: (ga, LstP gv) :: (ua, LstP uv) :: lawC L ta ra T ci me od re pl rest) h))
theorem ph5 {ua : Addr} {uv : List Value} (B : Base w h₀) (r : Rm 12 A) (Fr : Frs A [envC w 207 L] [L]) (hT : TabOk T) (hra : ra.length = 5) (hui : IntsAre uv (outP T))
    (S : St h₀ ((L, LocP (lawL sc base few row j x (some (.ref ua)) groups sorter ring g ready k wh mates mine parts)) :: (ua, LstP uv) :: lawC L ta ra T ci me od re pl rest) hp)
    (h : ∀ h' tk', Kp h₀ h' → Q (.ret (.bool true)) ⟨h', gn, dr, tk', os⟩) :
    W w A (execs ((bodyF w.params 207).drop 5) (envC w 207 L)) Q No ⟨hp, gn, dr, tk, os⟩ := by
  have hu : A.units + 64 < cLine := by have := r.un; omega
  refine xs_assign (e_listI (ns := [1, 2, 4, 8, 16]) rfl (by decide) fun gv tk1 hgi => s_loc (S.push_lst gv).swap fun h2 tk2 S2 => ?_)
  generalize hp.objs.size = ga at S2
  suffices hw : ∀ s, (∃ n, LoopI w h₀ gn dr os L ta ua uv ra T ci od re pl rest sc base few row j x g ready k wh mates mine parts n s) → W w A (execs ((bodyF w.params 207).drop 8) (envC w 207 L)) Q No s by
    refine xs_sr B (r.le (by omega)) Fr hT hgi hui (ginv0 T hT) S2 ?_ ?_
    · intro sx dx D rl el t t' ns dn rv h3 tk3 hns ht ha hrv S3
      exact hw _ ⟨_, _, _, _, _, _, _, rfl, rfl, ginv0 T hT, hgi, .inl ⟨sx, dx, D, rl, el, t, t', ns, dn, rv, hns, ht, ha, hrv, S3⟩⟩
    · intro sx rga rgv rg ns h3 tk3 hns hr hrl hri S3
      exact hw _ ⟨_, _, _, _, _, _, _, rfl, rfl, ginv0 T hT, hgi, .inr ⟨sx, rga, rgv, rg, ns, hns, hr, hrl, hri, S3⟩⟩
  rintro s ⟨n0, hI0⟩
  refine xs_while (c_while (LoopI w h₀ gn dr os L ta ua uv ra T ci od re pl rest sc base few row j x g ready k wh mates mine parts) ?_ n0 hI0)
  rintro n s ⟨gs, ga, gv, me, h3, tk3, rfl, rfl, hG, hgi, hc⟩
  rcases hc with ⟨sx, dx, D, rl, el, t, t', ns, dn, rv, hns, ht, ha, hrv, S3⟩ | ⟨sx, rga, rgv, rg, ns, hns, hr, hrl, hri, S3⟩
  · refine t_cmp (e_loc S3 rfl (e_list0 ?_))
    have S4 := S3.push_lst []
    refine l_ne (ns := []) (ms := []) (isList_of (S4.at (a := el) (P := LstP []) (.tail _ (.tail _ (.head _))))) .nil (isList_of S4.head) .nil hu (tr_bool (if_n rfl (xs_nil ?_)))
    have S5 := S4.tail.swap.tail
    have S6 : St h₀ ((L, LocP (lawL sc base few row j x (some (.ref ua)) (some (.ref ga)) (some (.ref sx)) (some (.ref el)) g ready k wh mates mine parts)) :: (ua, LstP uv) :: (rl, LstP rv) :: (sorC w sx dx D (.ref rl) (.int 0 t) (.int 0 t') ns ++ lawC L ta ra T ci me od re pl ((ga, LstP gv) :: rest))) (h3.push { cls := .type "list", data := .seq ([] : List Value).toArray }) := by
      refine S5.perm (List.Perm.cons _ ?_)
      have p1 := (List.perm_middle (l₁ := (rl, LstP rv) :: sorC w sx dx D (.ref rl) (.int 0 t) (.int 0 t') ns ++ [(ga, LstP gv)]) (a := (ua, LstP uv)) (l₂ := lawC L ta ra T ci me od re pl rest))
      simp only [List.append_assoc, List.cons_append, List.nil_append] at p1
      exact p1.trans (List.Perm.cons _ (List.Perm.cons _ ((lawC_in _).append_left _)))
    exact ph9 B (r.le (by omega)) hT hra hui hG hns ht ha hrv S6 h
  · refine t_cmp (e_loc S3 rfl (e_list0 ?_))
    have S4 := S3.push_lst []
    have hrne : rg ≠ [] := by obtain ⟨k, ks, rfl, _⟩ := hr; simp
    refine l_ne (ns := rg) (ms := []) (isList_of (S4.at (a := rga) (P := LstP rgv) (.tail _ (.tail _ (.head _))))) hri (isList_of S4.head) .nil hu (tr_bool ?_)
    rw [decide_eq_false hrne]
    refine if_t rfl ?_
    have S5 := S4.tail
    generalize h3.push { cls := .type "list", data := .seq ([] : List Value).toArray } = h5 at S5
    clear S4 S3
    have hmelt := melt_inv hG hns hr
    have hgl := hG.len
    obtain ⟨k0, ks, hrg, _⟩ := hr
    have hri' : IntsAre rgv (k0 :: (ks ++ [k0])) := by rw [hrg] at hri; exact hri
    have hor : (ks ++ [k0]).foldl Builtin.bitOr k0 = orL rg := by rw [hrg]; rfl
    refine xs_assign (e_call (e_glob B S5 rfl (cw_ref (by kernel_rfl) (a_cons (e_glob B S5 rfl (a_cons (e_loc S5 rfl (a_nil ⟨S5.base B, ?_⟩))))))))
    refine red_or (k := 8) (S5.base B) (r.le (by omega)) (isList_of (S5.at (.tail _ (.head _)))) hri' fun h6 t6 tk6 hk6 => ?_
    rw [hor]
    refine s_cel (i := 7) (c := L + 3) (S5.keeps hk6) rfl (fun h7 S7 => ?_) rfl
    have S7 : St h₀ ((L, LocP (lawL sc base few row j x (some (.ref ua)) (some (.ref ga)) (some (.ref sx)) (some (.ref rga)) g ready k wh mates mine parts)) :: (rga, LstP rgv) :: (ga, LstP gv) :: (ua, LstP uv) :: lawC L ta ra T ci (some (.int (orL rg) t6)) od re pl rest) h7 := S7
    have hcm : h7.IsCell (L + 3) (some (.int (orL rg) t6)) := S7.at (a := L + 3) (P := CellP (some (.int (orL rg) t6))) (.tail _ (.tail _ (.tail _ (.tail _ (.tail _ (.tail _ (.tail _ (.head _))))))))
    have hgal : h7.IsList ga gv.toArray := isList_of (S7.at (.tail _ (.tail _ (.head _))))
    refine xs_assign (e_bin (e_comp (fun v => (fun g => Builtin.bitAnd g (orL rg) == 0) (numOf v)) (fun v y => y = v) [(.ofString "melted", L + 3)] (e_loc S7 rfl (comp_list (items := gv) r.hd hgal (by rw [hgi.length, sizeLine_eq]; omega) ?_ ?_ ?_))))
    · intro C v s₃ hv S8
      obtain ⟨q, hq⟩ := List.getElem?_of_mem hv
      obtain ⟨p, tp, rfl, hpq⟩ := ints_get hgi hq
      have hcm8 := hcm.keeps S8.keep
      have B8 := (S7.base B).keeps S8.keep
      obtain ⟨h9, g9, d9, tk9, os9⟩ := s₃
      refine t_one (t_cmp (e_call (e_glob (S7.base B) S8 rfl (cw_ref (by kernel_rfl) (a_cons (e_var S8 (a_cons (e_cel hcm8 (a_nil ⟨B8, and_spec B8 (r.le (by omega)) fun h11 t11 tk11 hk11 => ?_⟩) rfl))))))))
      exact e_int fun t12 tk12 => i_eq (tr_bool ⟨rfl, _, _, rfl, hk11⟩)
    · intro C v s₃ hv _ S8
      exact e_var S8 ⟨rfl, _, _, rfl, fun _ _ e => e⟩
    · intro D1 h8 tk8 ys hk8 hn8 hl8 hP
      rw [ints_paired (fun _ _ e => e) hP] at hl8
      have hfi := ints_filter (fun g => Builtin.bitAnd g (orL rg) == 0) hgi
      generalize (gv.filter fun v => (fun g => Builtin.bitAnd g (orL rg) == 0) (numOf v)) = fv at hl8 hfi
      have hfl : fv.length ≤ 5 := by rw [hfi.length]; exact Nat.le_trans (List.length_filter_le _ _) hgl
      have S8 := S7.lst hk8 hn8 hl8
      refine e_list1 (e_cel (hcm.keeps hk8) ⟨_, _, _, _, _, rfl, ?_⟩ rfl)
      have S9 := S8.push_lst [.int (orL rg) t6]
      refine l_add (S9.at (a := D1) (P := LstP fv) (.tail _ (.head _))) S9.head (by simp; omega) ?_
      have S10 := S9.push_lst (fv ++ [Value.int (orL rg) t6])
      generalize (h8.push { cls := .type "list", data := .seq [Value.int (orL rg) t6].toArray }).objs.size = ga2 at S10
      have S11 := S10.perm (cs' := (L, LocP (lawL sc base few row j x (some (.ref ua)) (some (.ref ga)) (some (.ref sx)) (some (.ref rga)) g ready k wh mates mine parts)) :: (ga2, LstP (fv ++ [Value.int (orL rg) t6])) :: (h8.objs.size, LstP [.int (orL rg) t6]) :: (D1, LstP fv) :: (rga, LstP rgv) :: (ga, LstP gv) :: (ua, LstP uv) :: lawC L ta ra T ci (some (.int (orL rg) t6)) od re pl rest) (List.perm_middle (l₁ := [_, _, _]))
      refine s_loc (S11.sublist (.cons_cons _ (.cons_cons _ (.cons _ (.cons _ (.cons _ (.cons _ (.refl _)))))))) fun h12 tk12 S12 => ?_
      have hgi2 : IntsAre (fv ++ [Value.int (orL rg) t6]) (meltP gs rg) := hfi.append (.cons _ _ .nil)
      refine xs_sr (more := []) B (r.le (by omega)) Fr hT hgi2 hui hmelt.1 S12 ?_ ?_
      · intro sx dx D rl el t t' ns dn rv h3 tk3 hns ht ha hrv S3
        exact xs_nil ⟨_, hmelt.2, _, _, _, _, _, _, rfl, rfl, hmelt.1, hgi2, .inl ⟨sx, dx, D, rl, el, t, t', ns, dn, rv, hns, ht, ha, hrv, S3⟩⟩
      · intro sx rga rgv rg2 ns h3 tk3 hns hr hrl hri S3
        exact xs_nil ⟨_, hmelt.2, _, _, _, _, _, _, rfl, rfl, hmelt.1, hgi2, .inr ⟨sx, rga, rgv, rg2, ns, hns, hr, hrl, hri, S3⟩⟩
end
end Mine
end TextLW7
section TextLW8
open PySem PySem.W PySem.Spec PySem.Calls PyProof.Rows
set_option Elab.async false
set_option maxRecDepth 100000
set_option linter.unusedVariables false
set_option linter.unusedSimpArgs false
namespace Mine
theorem trip_at {F : Value → Value → List Cell → Prop} : ∀ {vs ys : List Value} {zs : List (List Cell)}, Trip F vs ys zs → ∀ (q : Nat) (y : Value), ys[q]? = some y → ∃ v z, vs[q]? = some v ∧ F v y z
  | _, _, _, .nil, q, y, h => by simp at h
  | _, _, _, .cons hF t, 0, y, h => by simp at h; subst h; exact ⟨_, _, rfl, hF⟩
  | _, _, _, .cons hF t, q + 1, y, h => by simpa using trip_at t q y (by simpa using h)
theorem trip_flat {F : Value → Value → List Cell → Prop} (hF : ∀ v y z, F v y z → z = []) : ∀ {vs ys : List Value} {zs : List (List Cell)}, Trip F vs ys zs → zs.flatten = []
  | _, _, _, .nil => rfl
  | _, _, _, .cons h t => by rw [List.flatten_cons, hF _ _ _ h, trip_flat hF t]; rfl
theorem tabC_snoc : ∀ {ra : List Addr} {T : List (List Int)} (a : Addr) (r : List Int), ra.length = T.length → tabC (ra ++ [a]) (T ++ [r]) = tabC ra T ++ [(a, IntL r)]
  | [], [], a, r, _ => rfl
  | b :: ra, q :: T, a, r, h => by
    simp only [List.cons_append, tabC]
    rw [tabC_snoc a r (by simpa using h)]
  | [], _ :: _, _, _, h => by simp at h
  | _ :: _, [], _, _, h => by simp at h
theorem tabC_addr : ∀ {ra : List Addr} {T : List (List Int)}, ra.length = T.length → (tabC ra T).map (·.1) = ra
  | [], [], _ => rfl
  | b :: ra, q :: T, h => by simp only [tabC, List.map_cons]; rw [tabC_addr (by simpa using h)]
  | [], _ :: _, h => by simp at h
  | _ :: _, [], h => by simp at h
section
variable {w : World} {A : Around} {hp : Heap} {gn : Array GenState} {dr : Drawn} {tk : Nat} {os : OsState} {h₀ : Heap} {Q : Flow → Shared → Prop} {L ta : Addr} {ra : List Addr} {T : List (List Int)} {ci me od re pl : Option Value} {rest : List Cell}
variable {sc : Value} {base few row j x out groups sorter ring g ready k wh mates mine parts : Option Value}
theorem ph4 (B : Base w h₀) (r : Rm 12 A) (Fr : Frs A [envC w 207 L] [L]) (hT : TabOk T) (hra : ra.length = 5)
    (S : St h₀ ((L, LocP (lawL sc base few row j x out groups sorter ring g ready k wh mates mine parts)) :: lawC L ta ra T ci me od re pl rest) hp)
    (h : ∀ h' tk', Kp h₀ h' → Q (.ret (.bool true)) ⟨h', gn, dr, tk', os⟩) :
    W w A (execs ((bodyF w.params 207).drop 4) (envC w 207 L)) Q No ⟨hp, gn, dr, tk, os⟩ := by
  have hct : hp.IsCell (L + 1) (some (.ref ta)) := S.at (a := L + 1) (P := CellP (some (.ref ta))) (.tail _ (.tail _ (.tail _ (.tail _ (.tail _ (.tail _ (.head _)))))))
  have htl := isList_of (S.at (a := ta) (P := LstP (ra.map .ref)) (.tail _ (.tail _ (.tail _ (.tail _ (.tail _ (.tail _ (.tail _ (.head _)))))))))
  have hrows := tab_rows (ra := ra) (T := T) S (fun c hc => .tail _ (lawC_tab c hc)) (by rw [hra, hT.len])
  have hnd : ra.Nodup := by
    have := S.nd
    unfold lawC at this
    simp only [List.map_cons, List.map_append, List.nodup_cons, List.nodup_append] at this
    rw [tabC_addr (by rw [hra, hT.len])] at this
    exact this.2.2.2.2.2.2.2.2.1
  refine xs_assign_compC (h₀ := h₀) (fun v y cy => cy = [] ∧ ∃ (i : Nat) (a : Addr) (t : Tok), ra[i]? = some a ∧ v = .ref a ∧ y = .int (rowBits (T.getD i [])) t) [] r.hd (e_cel hct (compC_listA (items := ra.map .ref) S htl (by simp; omega) ?_ ?_) rfl)
  · intro C v cs h1 tk1 hv S1
    obtain ⟨a, ham, rfl⟩ := List.mem_map.mp hv
    obtain ⟨i, hi⟩ := List.getElem?_of_mem ham
    obtain ⟨a', vs', row', ea, hla, hIa, hTa⟩ := hrows.2 i (.ref a) (by rw [List.getElem?_map, hi]; rfl)
    cases ea
    have hrl := (hT.row row' (List.mem_of_getElem? hTa)).1
    have hgd : T.getD i [] = row' := by simp [List.getD_eq_getElem?_getD, hTa]
    have hcr : h1.IsCell (C + 1) (some (.ref a)) := S1.at (a := C + 1) (P := CellP (some (.ref a))) (.head _)
    refine e_call (e_blt (S.base B) S1 rfl boot_sum (by decide) (cw_blt (a_cons ?_)))
    refine e_comp (fun v => (fun j => row'.getD j.toNat 0 != 0) (numOf v)) (fun v y => ∃ t, y = .int (2 ^ (numOf v).toNat) t) [(.ofString "row", C + 1)] ?_
    refine e_call (e_blt (S.base B) S1 rfl boot_range (by decide) (cw_typ (a_cons (e_int fun t₁ tk₁ => a_nil (b_range fun u v tk => ?_)))))
    have kp : Kp h1 (h1.push { cls := .type "range", data := .fields #[.int 0 u, .int 5 t₁, .int 1 v] }) := fun _ _ e => Heap.get?_push_of_some _ e
    refine comp_range (n := 5) r.hd (Heap.get?_push_size _ rfl) (by decide) ?_ ?_ ?_
    · intro C2 j2 t2 s₃ hj S2
      have k2 : Kp h1 s₃.heap := kp.trans S2.keep
      have hcr2 := hcr.keeps k2
      have hla2 : s₃.heap.IsList a vs'.toArray := let ⟨o, e, p⟩ := hla; ⟨o, k2 _ _ (S1.keep _ _ e), p⟩
      have hjl : j2 < row'.length := by omega
      obtain ⟨to, hto⟩ := hIa.get j2 (row'.getD j2 0) (by simp [hjl])
      obtain ⟨h9, g9, d9, tk9, os9⟩ := s₃
      exact t_one (t_cmp (e_sub (e_cel hcr2 (e_var S2 (sub_list hla2 (by omega) (by omega) (x := .int (row'.getD j2 0) to) (by simpa using hto) (e_int fun _ _ => i_ne (tr_bool ⟨rfl, _, _, rfl, fun _ _ e => e⟩)))) rfl)))
    · intro C2 j2 t2 s₃ hj _ S2
      obtain ⟨h9, g9, d9, tk9, os9⟩ := s₃
      exact e_bin (e_int fun _ _ => e_var S2 (i_pow (by omega) (by omega) (by decide) fun t _ => ⟨⟨t, rfl⟩, _, _, rfl, fun _ _ e => e⟩))
    · intro D h3 tk3 ys vs hk3 hD hl3 hvs hP
      have hf := ints_filter (fun j => row'.getD j.toNat 0 != 0) hvs
      have hys := ints_map (f := fun j => (2 : Int) ^ j.toNat) hf hP
      refine a_nil (b_sum r.hd (isList_of hl3) hys fun h4 t4 tk4 hk4 => ?_)
      refine ⟨[], h4, tk4, rfl, ⟨rfl, i, a, t4, hi, rfl, by rw [hgd]; rfl⟩, S1.keeps ((kp.trans hk3).trans hk4)⟩
  · intro ua h1 tk1 uv zs hTr S1
    rw [trip_flat (fun v y z hz => hz.1) hTr] at S1
    have hui : IntsAre uv (outP T) := by
      refine ints_of (by rw [← hTr.length]; simp [outP, hra, hT.len]) fun q y hy => ?_
      obtain ⟨v, z, hv, _, i, a, t, hi, rfl, rfl⟩ := trip_at hTr q y hy
      rw [List.getElem?_map] at hv
      cases hq : ra[q]? with
      | none => rw [hq] at hv; cases hv
      | some b =>
        rw [hq] at hv
        have hb : b = a := by simpa using hv
        subst hb
        have hql := (List.getElem?_eq_some_iff.mp hq).1
        have : q = i := (List.getElem?_inj hql hnd).mp (hq.trans hi.symm)
        subst this
        refine ⟨t, ?_⟩
        have hqT : q < T.length := by rw [hT.len, ← hra]; exact hql
        simp [outP, List.getD_eq_getElem?_getD, hqT]
    exact ph5 B r Fr hT hra hui S1 h
end
end Mine
end TextLW8
section TextLW9
open PySem PySem.W PySem.Spec PySem.Calls PyProof.Rows
set_option Elab.async false
set_option maxRecDepth 100000
set_option linter.unusedVariables false
set_option linter.unusedSimpArgs false
namespace Mine
def baseL : List Int := [12, 36, 1, 1, 1, 1, 11, 39, 1, 1, 1, 33, 12, 42, 1, 1, 1, 1, 11, 36, 1, 1, 1, 45, 14]
structure TbD where
  row : Option Value
  j : Option Value
  x : Option Value
  ci : Option Value
  ra : List Addr
  T : List (List Int)
structure RwD where
  j : Option Value
  x : Option Value
  rv : List Value
  rs : List Int
theorem fmod21 (x : Int) : (x.fmod 21 - 10).natAbs ≤ 10 := by
  have h1 := Int.fmod_nonneg_of_pos x (show (0 : Int) < 21 by decide)
  have h2 := Int.fmod_lt_of_pos x (show (0 : Int) < 21 by decide)
  omega
section
variable {w : World} {A : Around} {hp : Heap} {gn : Array GenState} {dr : Drawn} {tk : Nat} {os : OsState} {h₀ : Heap} {Q : Flow → Shared → Prop} {L ta : Addr} {ra : List Addr} {T : List (List Int)} {ci me od re pl : Option Value} {rest : List Cell}
variable {sc : Value} {base few row j x out groups sorter ring g ready k wh mates mine parts : Option Value}
/-- row.append(e) -/
theorem row_app {ap cp ep : Pos} {e : Expr} {more : List Stmt} {rwa : Addr} {rv : List Value} {Q : Flow → Shared → Prop} {pre post : List Cell}
    (S : St h₀ ((L, LocP (lawL sc base few (some (.ref rwa)) j x out groups sorter ring g ready k wh mates mine parts)) :: (pre ++ (rwa, LstP rv) :: post)) hp) (hz : rv.length ≤ 1000) {np : Pos} (plf : Sem Bool)
    (h : W w A (eval e (envC w 207 L)) (fun v s₁ => ∃ tk' V t, v = .int V t ∧ s₁ = ⟨hp, gn, dr, tk', os⟩ ∧ ∀ h' tk', St h₀ ((L, LocP (lawL sc base few (some (.ref rwa)) j x out groups sorter ring g ready k wh mates mine parts)) :: (pre ++ (rwa, LstP (rv ++ [.int V t])) :: post)) h' → W w A (execs more (envC w 207 L)) Q No ⟨h', gn, dr, tk', os⟩) No ⟨hp, gn, dr, tk, os⟩)
    (he : starEach [e] (envC w 207 L) = [(false, eval e (envC w 207 L))] := by rfl) (hsw : swapsWith (.Call (.Attribute (.Name (.ofString "row") np) (.ofString "append") ap) [e] [] cp) none ep.line (envC w 207 L) = pure false := by rfl)
    (hmm : eval (.Call (.Attribute (.Name (.ofString "row") np) (.ofString "append") ap) [e] [] cp) (envC w 207 L) = (do
      let ov ← eval (.Name (.ofString "row") np) (envC w 207 L)
      standAt ap.atName
      let (f, first) ← holding [ov] (getMethod ov (.ofString "append") plf)
      callWith cp f first (backTo cp (starEach [e] (envC w 207 L))) []) := by rfl) :
    W w A (execs (.Expr (.Call (.Attribute (.Name (.ofString "row") np) (.ofString "append") ap) [e] [] cp) ep :: more) (envC w 207 L)) Q No ⟨hp, gn, dr, tk, os⟩ := by
  refine xs_expr (e_meth plf (e_loc S rfl (m_lst PySem.F.slot_list_append PySem.F.type_list_append (S.at (a := rwa) (P := LstP rv) (.tail _ (List.mem_append_right _ (.head _)))) (cw_met (a_cons (h.mono fun v s₁ h₁ => ?_) he) he))) hmm) (hs := hsw)
  obtain ⟨tk', V, t, rfl, rfl, hc⟩ := h₁
  exact a_nil (b_append (pre := (L, LocP (lawL sc base few (some (.ref rwa)) j x out groups sorter ring g ready k wh mates mine parts)) :: pre) S hz fun h' S' => hc h' tk' S')
theorem ph3 {ba fa : Addr} {bv fv : List Value} {fs : List Int} (B : Base w h₀) (r : Rm 12 A) (Fr : Frs A [envC w 207 L] [L]) (hbi : IntsAre bv baseL) (hfi : IntsAre fv fs) (hfl : fv.length ≤ 1000)
    (S : St h₀ ((L, LocP (lawL sc (some (.ref ba)) (some (.ref fa)) row j x out groups sorter ring g ready k wh mates mine parts)) :: (ba, LstP bv) :: (fa, LstP fv) :: lawC L ta [] [] ci me od re pl rest) hp)
    (h : ∀ h' tk', Kp h₀ h' → Q (.ret (.bool true)) ⟨h', gn, dr, tk', os⟩) :
    W w A (execs ((bodyF w.params 207).drop 3) (envC w 207 L)) Q No ⟨hp, gn, dr, tk, os⟩ := by
  have hbl : bv.length = 25 := hbi.length
  refine xs_for5 (fun d : TbD => lawL sc (some (.ref ba)) (some (.ref fa)) d.row d.j d.x out groups sorter ring g ready k wh mates mine parts)
    (fun d => (ba, LstP bv) :: (fa, LstP fv) :: lawC L ta d.ra d.T d.ci me od re pl rest) (fun i d => d.ra.length = i ∧ d.T.length = i ∧ ∀ q ∈ d.T, q.length = 5 ∧ ∀ z ∈ q, z.natAbs ≤ 10) ⟨row, j, x, ci, [], []⟩ B r.hd S ⟨rfl, rfl, fun _ h => (nomatch h)⟩ ?_ ?_
  · rintro i ⟨drow, dj, dx, dci, ra, T⟩ t h1 tk1 I oI hi ⟨hra, hTl, hTr⟩ S1
    simp only at hra hTl hTr
    refine a_name (s_cel (i := 8) (c := L + 2) S1 rfl (fun h2 S2 => ?_) rfl)
    have S2 : St h₀ ((L, LocP (lawL sc (some (.ref ba)) (some (.ref fa)) drow dj dx out groups sorter ring g ready k wh mates mine parts)) :: (I, fun q => q = oI) :: (ba, LstP bv) :: (fa, LstP fv) :: lawC L ta ra T (some (.int i t)) me od re pl rest) h2 := S2
    refine xs_assign (e_list0 (s_loc (S2.push_lst []).swap fun h3 tk3 S3 => ?_))
    generalize h2.objs.size = rwa at S3
    have S3 : St h₀ ((L, LocP (lawL sc (some (.ref ba)) (some (.ref fa)) (some (.ref rwa)) dj dx out groups sorter ring g ready k wh mates mine parts)) :: (rwa, LstP []) :: (I, fun q => q = oI) :: (ba, LstP bv) :: (fa, LstP fv) :: lawC L ta ra T (some (.int i t)) me od re pl rest) h3 := S3
    refine xs_for5 (fun d : RwD => lawL sc (some (.ref ba)) (some (.ref fa)) (some (.ref rwa)) d.j d.x out groups sorter ring g ready k wh mates mine parts)
      (fun d => (rwa, LstP d.rv) :: (I, fun q => q = oI) :: (ba, LstP bv) :: (fa, LstP fv) :: lawC L ta ra T (some (.int i t)) me od re pl rest) (fun jn d => IntsAre d.rv d.rs ∧ d.rs.length = jn ∧ ∀ z ∈ d.rs, z.natAbs ≤ 10) ⟨dj, dx, [], []⟩ B r.hd S3 ⟨.nil, rfl, fun _ h => (nomatch h)⟩ ?_ ?_
    · rintro jn ⟨dj2, dx2, rv, rs⟩ t2 h4 tk4 I2 oI2 hj ⟨hrv, hrl, hrb⟩ S4
      simp only at hrv hrl hrb
      refine a_name (s_loc S4 fun h5 tk5 S5 => ?_)
      have S5 : St h₀ ((L, LocP (lawL sc (some (.ref ba)) (some (.ref fa)) (some (.ref rwa)) (some (.int jn t2)) dx2 out groups sorter ring g ready k wh mates mine parts)) :: (I2, fun q => q = oI2) :: (rwa, LstP rv) :: (I, fun q => q = oI) :: (ba, LstP bv) :: (fa, LstP fv) :: lawC L ta ra T (some (.int i t)) me od re pl rest) h5 := S5
      have hci : h5.IsCell (L + 2) (some (.int i t)) := S5.at (a := L + 2) (P := CellP (some (.int i t))) (.tail _ (.tail _ (.tail _ (.tail _ (.tail _ (.tail _ (.tail _ (.tail _ (.tail _ (.tail _ (.head _)))))))))))
      have hbal : h5.IsList ba bv.toArray := isList_of (S5.at (.tail _ (.tail _ (.tail _ (.tail _ (.head _))))))
      have hfal : h5.IsList fa fv.toArray := isList_of (S5.at (.tail _ (.tail _ (.tail _ (.tail _ (.tail _ (.head _)))))))
      have hidx : (5 * (i : Int) + (jn : Int)).toNat < bv.length := by omega
      obtain ⟨tb, hbg⟩ := hbi.get (5 * (i : Int) + (jn : Int)).toNat (baseL.getD (5 * (i : Int) + (jn : Int)).toNat 0) (by
        have : (5 * (i : Int) + (jn : Int)).toNat < baseL.length := by rw [← hbi.length]; exact hidx
        simp [this])
      generalize baseL.getD (5 * (i : Int) + (jn : Int)).toNat 0 = bx at hbg
      refine xs_assign (e_bin (e_sub (e_loc S5 rfl (e_bin (e_bin (e_int fun _ _ => e_cel hci (i_mul (IntMulOk.of_left (by decide)) fun _ _ => e_loc S5 rfl (i_add fun _ _ => sub_list hbal (by omega) (by omega) (x := .int bx tb) (by simpa using hbg) ?_)) rfl))))))
      refine e_call (e_blt B S5 rfl boot_sum (by decide) (cw_blt (a_cons (e_slice (fun l a => [.ref l, .ref a]) (e_loc S5 rfl (p_some (e_bin (e_bin (e_int fun _ _ => e_cel hci (i_mul (IntMulOk.of_left (by decide)) fun _ _ => e_loc S5 rfl (i_add fun t6 tk6 => p_none (p_some (e_int fun tc tkc => ?_)))) rfl)))))))))
      refine ⟨fa, fv, _, _, _, _, _, _, _, _, rfl, .int _ _, .none, .int _ _, by simp, rfl, hfal, hfl, ?_⟩
      obtain ⟨ms, hms⟩ := ints_pick hfi (some (5 * (i : Int) + (jn : Int))) none (some 25)
      generalize slicePick fv.toArray (some (5 * (i : Int) + (jn : Int))) none (some 25) = sl at hms
      have S6 := (S5.push (P := fun _ => True) (o := { cls := .type "slice", data := .fields #[.int (5 * (i : Int) + (jn : Int)) t6, .none, .int 25 tc] }) trivial).push_lst sl.toList
      rw [Heap.size_push] at S6
      refine a_nil (b_sum r.hd (isList_of S6.head) hms fun h7 t7 tk7 hk7 => i_add fun t8 tk8 => ?_)
      have S7 := (S6.keeps hk7).tail.tail
      generalize bx + ms.sum = X
      refine s_loc S7 fun h9 tk9 S9 => ?_
      have S9 : St h₀ ((L, LocP (lawL sc (some (.ref ba)) (some (.ref fa)) (some (.ref rwa)) (some (.int jn t2)) (some (.int X t8)) out groups sorter ring g ready k wh mates mine parts)) :: ([(I2, fun q => q = oI2)] ++ (rwa, LstP rv) :: (I, fun q => q = oI) :: (ba, LstP bv) :: (fa, LstP fv) :: lawC L ta ra T (some (.int i t)) me od re pl rest)) h9 := S9
      have hci9 : h9.IsCell (L + 2) (some (.int i t)) := S9.at (a := L + 2) (P := CellP (some (.int i t))) (.tail _ (.tail _ (.tail _ (.tail _ (.tail _ (.tail _ (.tail _ (.tail _ (.tail _ (.tail _ (.head _)))))))))))
      have hrvl : rv.length ≤ 1000 := by rw [hrv.length]; omega
      have fin : ∀ (V : Int) (tv : Tok) h' tk', V.natAbs ≤ 10 → St h₀ ((L, LocP (lawL sc (some (.ref ba)) (some (.ref fa)) (some (.ref rwa)) (some (.int jn t2)) (some (.int X t8)) out groups sorter ring g ready k wh mates mine parts)) :: ([(I2, fun q => q = oI2)] ++ (rwa, LstP (rv ++ [Value.int V tv])) :: (I, fun q => q = oI) :: (ba, LstP bv) :: (fa, LstP fv) :: lawC L ta ra T (some (.int i t)) me od re pl rest)) h' →
          ∃ d' h'' tk'', (⟨h', gn, dr, tk', os⟩ : Shared) = ⟨h'', gn, dr, tk'', os⟩ ∧ (fun jn (d : RwD) => IntsAre d.rv d.rs ∧ d.rs.length = jn ∧ ∀ z ∈ d.rs, z.natAbs ≤ 10) (jn + 1) d' ∧ St h₀ ((L, LocP ((fun d : RwD => lawL sc (some (.ref ba)) (some (.ref fa)) (some (.ref rwa)) d.j d.x out groups sorter ring g ready k wh mates mine parts) d')) :: (I2, fun q => q = oI2) :: (fun d : RwD => (rwa, LstP d.rv) :: (I, fun q => q = oI) :: (ba, LstP bv) :: (fa, LstP fv) :: lawC L ta ra T (some (.int i t)) me od re pl rest) d') h'' := by
        intro V tv h' tk' hV S'
        refine ⟨⟨some (.int jn t2), some (.int X t8), rv ++ [Value.int V tv], rs ++ [V]⟩, h', tk', rfl, ⟨hrv.append (.cons _ _ .nil), by simp [hrl], fun z hz => ?_⟩, S'⟩
        rcases List.mem_append.mp hz with hz | hz
        · exact hrb z hz
        · rw [List.mem_singleton.mp hz]; exact hV
      refine xs_if (t_cmp (e_cel hci9 (e_loc S9 rfl (i_eq (tr_bool ?_))) rfl))
      cases hij : ((i : Int) == (jn : Int)) with
      | true =>
        refine if_t rfl (row_app S9 hrvl _ (e_bin (e_bin (e_loc S9 rfl (e_int fun _ _ => i_mod (by decide) fun _ _ => e_int fun _ _ => i_sub fun tv tkv => ⟨_, _, _, rfl, rfl, fun h' tk' S' => xs_nil (xs_nil (fin _ tv h' tk' (fmod21 X) S'))⟩)))))
      | false =>
        refine if_n rfl (xs_if (t_cmp (e_bin (e_loc S9 rfl (e_int fun _ _ => i_mod (by decide) fun _ _ => e_int fun _ _ => i_eq (tr_bool ?_))))))
        cases h3 : (X.fmod 3 == 0) with
        | true =>
          refine if_t rfl (row_app S9 hrvl _ (e_bin (e_bin (e_bin (e_loc S9 rfl (e_int fun _ _ => i_fdiv (by decide) (by decide) fun _ _ => e_int fun _ _ => i_mod (by decide) fun _ _ => e_int fun _ _ => i_sub fun tv tkv => ⟨_, _, _, rfl, rfl, fun h' tk' S' => xs_nil (xs_nil (xs_nil (fin _ tv h' tk' (fmod21 _) S')))⟩))))))
        | false =>
          refine if_n rfl (row_app S9 hrvl _ (e_int fun tv tkv => ⟨_, _, _, rfl, rfl, fun h' tk' S' => xs_nil (xs_nil (xs_nil (fin _ tv h' tk' (by decide) S')))⟩))
    · rintro ⟨dj2, dx2, rv, rs⟩ h4 tk4 ⟨hrv, hrl, hrb⟩ S4
      simp only at hrv hrl hrb
      have S4 : St h₀ ((L, LocP (lawL sc (some (.ref ba)) (some (.ref fa)) (some (.ref rwa)) dj2 dx2 out groups sorter ring g ready k wh mates mine parts)) :: (rwa, LstP rv) :: (I, fun q => q = oI) :: (ba, LstP bv) :: (fa, LstP fv) :: lawC L ta ra T (some (.int i t)) me od re pl rest) h4 := S4
      have hct : h4.IsCell (L + 1) (some (.ref ta)) := S4.at (a := L + 1) (P := CellP (some (.ref ta))) (.tail _ (.tail _ (.tail _ (.tail _ (.tail _ (.tail _ (.tail _ (.tail _ (.tail _ (.tail _ (.head _)))))))))))
      refine xs_expr (e_meth _ (e_cel hct (m_lst PySem.F.slot_list_append PySem.F.type_list_append (S4.at (a := ta) (P := LstP (ra.map .ref)) (.tail _ (.tail _ (.tail _ (.tail _ (.tail _ (.tail _ (.tail _ (.tail _ (.tail _ (.tail _ (.tail _ (.head _))))))))))))) (cw_met (a_cons (e_loc S4 rfl (a_nil (b_append (pre := [_, _, _, _, _, _, _, _, _, _, _]) S4 (by simp; omega) fun h5 S5 => xs_nil ?_)))))) rfl))
      have S6 := (S5.swap.mono0 (P' := IntL rs) fun o ho => ⟨rv, ho, hrv⟩).swap
      refine ⟨⟨some (.ref rwa), dj2, dx2, some (.int i t), ra ++ [rwa], T ++ [rs]⟩, h5, _, rfl, ⟨by simp [hra], by simp [hTl], fun q hq => ?_⟩, S6.perm (List.Perm.cons _ ?_)⟩
      · rcases List.mem_append.mp hq with hq | hq
        · exact hTr q hq
        · rw [List.mem_singleton.mp hq]; exact ⟨hrl, hrb⟩
      · show List.Perm _ ((I, fun q => q = oI) :: (ba, LstP bv) :: (fa, LstP fv) :: lawC L ta (ra ++ [rwa]) (T ++ [rs]) (some (.int i t)) me od re pl rest)
        unfold lawC
        rw [tabC_snoc rwa rs (by rw [hra, hTl]), List.map_append, List.append_assoc]
        exact (List.perm_middle (l₁ := (I, fun q => q = oI) :: (ba, LstP bv) :: (fa, LstP fv) :: (L + 6, CellP pl) :: (L + 5, CellP re) :: (L + 4, CellP od) :: (L + 3, CellP me) :: (L + 2, CellP (some (.int i t))) :: (L + 1, CellP (some (.ref ta))) :: (ta, LstP (ra.map .ref ++ [rwa].map .ref)) :: tabC ra T) (a := (rwa, IntL rs)) (l₂ := rest)).symm
  · rintro ⟨drow, dj, dx, dci, ra, T⟩ h1 tk1 ⟨hra, hTl, hTr⟩ S1
    simp only at hra hTl hTr
    have S2 : St h₀ ((L, LocP (lawL sc (some (.ref ba)) (some (.ref fa)) drow dj dx out groups sorter ring g ready k wh mates mine parts)) :: lawC L ta ra T dci me od re pl ((ba, LstP bv) :: (fa, LstP fv) :: rest)) h1 :=
      S1.perm (List.Perm.cons _ (lawC_ins [_, _]))
    exact ph4 B r Fr ⟨hTl, hTr⟩ hra S2 h
end
end Mine
end TextLW9
section TextLWX
open PySem PySem.W PySem.Spec PySem.Calls PyProof.Rows
set_option Elab.async false
set_option maxRecDepth 100000
set_option linter.unusedVariables false
set_option linter.unusedSimpArgs false
namespace Mine
theorem fn207 (w : World) : FnOk w 207 := FnOk.of rfl rfl rfl rfl rfl rfl
theorem law_spec {w : World} {A : Around} {hp : Heap} {gn : Array GenState} {dr : Drawn} {tk : Nat} {os : OsState} {R : Result → Shared → Prop} {sa : Addr} {sv : List Value} {script : List Int}
    (B : Base w hp) (r : Rm 13 A) (hfr : A.frames = some []) (hl : hp.IsList sa sv.toArray) (hi : IntsAre sv script) (hz : script.length ≤ 63)
    (h : ∀ h' tk', Kp hp h' → R (.ok (.ret (.bool true))) ⟨h', gn, dr, tk', os⟩) : C w A (.call (.ref 207) ⟨[.ref sa], []⟩) R ⟨hp, gn, dr, tk, os⟩ := by
  refine callCn (k := 12) (binds := [(.ofString "script", .ref sa)]) (fn207 w) B (St.nil fun _ _ e => e) r (by kernel_rfl) (by kernel_rfl) (by kernel_rfl) [.ofString "base", .ofString "few", .ofString "row", .ofString "j", .ofString "x", .ofString "out", .ofString "groups", .ofString "sorter", .ofString "ring", .ofString "g", .ofString "ready", .ofString "k", .ofString "where", .ofString "mates", .ofString "mine", .ofString "parts"] fun L h1 tk1 S1 hn1 hk1 => ?_
  have r' := r.deeper (envC w 207 L)
  have Fr : Frs (A.deeper (envC w 207 L)) [envC w 207 L] [L] := ⟨Around.frames_deeper hfr, rfl, fun e he => by
    rw [List.mem_singleton.mp he]; exact ⟨by show ScopeKind.function ≠ _; decide, L, rfl⟩⟩
  have S1 : St hp ((L, LocP (lawL (.ref sa) none none none none none none none none none none none none none none none none)) :: (L + 6, CellP none) :: (L + 5, CellP none) :: (L + 4, CellP none) :: (L + 3, CellP none) :: (L + 2, CellP none) :: (L + 1, CellP none) :: []) h1 := S1
  refine xs_assign (e_listI (ns := baseL) rfl (by decide) fun bv tk2 hbi => s_loc (S1.push_lst bv).swap fun h3 tk3 S3 => ?_)
  generalize h1.objs.size = ba at S3
  have hsl : h3.IsList sa sv.toArray := let ⟨o, e, p⟩ := hl; ⟨o, S3.keep _ _ e, p⟩
  refine xs_assign (e_slice (fun l a => [.ref a, .ref l]) (e_loc S3 rfl (p_none (p_some (e_int fun t4 tk4 => p_none ?_)))))
  refine ⟨sa, sv, _, _, _, _, _, _, _, _, rfl, .none, .int _ _, .none, by simp, rfl, hsl, by rw [hi.length]; omega, ?_⟩
  obtain ⟨fs, hfs⟩ := ints_pick hi none (some 50) none
  have hfl := slicePick_size_le sv.toArray none (some 50) none
  generalize slicePick sv.toArray none (some 50) none = sl at hfs hfl
  have S4 := ((S3.push (P := fun _ => True) (o := { cls := .type "slice", data := .fields #[.none, .int 50 t4, .none] }) trivial).push_lst sl.toList).swap.tail.swap
  rw [Heap.size_push] at S4
  generalize h3.objs.size + 1 = fa at S4
  refine s_loc S4 fun h5 tk5 S5 => ?_
  refine xs_assign (e_list0 (s_cel (i := 9) (c := L + 1) (S5.push_lst []) rfl (fun h6 S6 => ?_) rfl))
  generalize h5.objs.size = ta at S6
  have S7 := S6.perm (cs' := (L, LocP (lawL (.ref sa) (some (.ref ba)) (some (.ref fa)) none none none none none none none none none none none none none none)) :: (ba, LstP bv) :: (fa, LstP sl.toList) :: lawC L ta [] [] none none none none none []) ?_
  · refine ph3 B r' Fr hbi hfs (by have := hi.length; simp at hfl ⊢; omega) S7 fun h' tk' hk => h h' tk' hk
  · have p1 : ∀ (a b c d e1 e2 e3 e4 e5 e6 : Cell), [a, b, c, d, e1, e2, e3, e4, e5, e6].Perm [b, d, c, e1, e2, e3, e4, e5, e6, a] := by
      intro a b c d e1 e2 e3 e4 e5 e6
      refine List.Perm.trans (List.perm_append_comm (l₁ := [a]) (l₂ := [b, c, d, e1, e2, e3, e4, e5, e6])) ?_
      exact List.Perm.cons _ (List.Perm.swap _ _ _)
    exact p1 _ _ _ _ _ _ _ _ _ _
end Mine
end TextLWX
section TextEND
open PySem PySem.W PySem.Spec PySem.Calls PyProof.Rows
set_option Elab.async false
set_option maxRecDepth 100000
set_option maxHeartbeats 8000000
theorem PySem.Challenge.cw_om0084_01_holds : PySem.Challenge.rw_om0084_01.Holds := by
  refine holds_law Mine.said0 fun said => ?_
  refine holds_open (q := Mine.qV) (loose := Mine.loose0) (Xt := fun s => xlAt Mine.qV [] s && recOk (RowW.records PySem.Challenge.rw_om0084_01.row.toRowW) s) (XP := XL Mine.qV []) (Yf := Hook.obs Mine.H0) (Ya := Hook.val Mine.H0) (YP := Hook.says Mine.H0) (N := 2914) Mine.left0 (Hook.of Mine.H0) (Hook.keeps Mine.H0) (fun s e => xl_of s (Bool.and_eq_true_iff.mp e).1) XL.keeps (by rfl) (by rfl) (by rfl) (fun s e => recFacts_of (Bool.and_eq_true_iff.mp e).2) (by rfl) (by assumption) (by decide +kernel) ⟨rfl, rfl, rfl, rfl, rfl, by decide +kernel⟩ ?hw ?hc
  case hw => w_witness2
  case hc =>
    intro w s₀ s₁ mg mb G Y fa o pm cd doc dV kV ho hd hcd hD hmg hg args vals as hpre hlay hrd hwl hlo
    have KX : (Mine.K0 w.params).In s₁.heap := kIn_of Y
    refine Ground.open G ?_
    intro T B D TE TW
    change mg (PySem.Str.ofString "law") = some (.ref fa) at hmg
    clear hd hcd hD B D TE TW
    have hfa : fa = 207 := by
      have := mg_of KX T.g (n := PySem.Str.ofString "law") (v := .ref 207) (by kernel_rfl)
      rw [hmg] at this
      simpa using this
    subst hfa
    have BB : Mine.Base w s₁.heap := ⟨KX, ⟨mg, mb, T.g, T.b, T.builtins⟩, T.nolimit, ⟨_, KX 1 (Mine.ob1 w.params) (by kernel_rfl)⟩⟩
    wrow_args hpre hlay hrd hwl hlo
    rename_i script _ _ _ _ _ _ _ sa sv _ hL _ _ _ hI _ hlen _
    refine enter_call ?_
    refine codeAny_mono ?_ (fun _ _ g => GoodW.toG g)
    obtain ⟨hp, gn, dr, tk, os⟩ := s₁
    refine (Mine.law_spec BB ⟨rfl, by decide, by decide⟩ rfl hL hI (by omega) fun h' tk' hk => ?_).out
    refine ⟨.inl ⟨.bool true, .bool true, [], rfl, ?_, ?_, ?_, ?_⟩, hk, rfl, hg⟩
    · exact fun _ => rfl
    · exact .bool _
    · kernel_rfl
    · exact fun _ => ⟨List.nodup_nil, fun _ h => (nomatch h)⟩
end TextEND
