import PyProof.Rows.All
import Wide.All
import OpenK.AllK
import Wide.FinOn
import KE.KEqDat
import PySem.Challenge.RW_mr0322_01
open PySem PySem.W PyProof.Rows PySem.Calls
set_option Elab.async false
set_option maxRecDepth 100000
set_option maxHeartbeats 8000000
namespace Mine
/-- the statements of the text, by their places -/
noncomputable def stAt (i : Nat) : Stmt := (PySem.Challenge.rw_mr0322_01.prog.main.body.drop i).headD (.Pass ⟨0, 0, 0, 0⟩)
noncomputable def meAt (i j : Nat) : Stmt := match stAt i with
  | .ClassDef _ _ _ b _ _ _ _ _ _ _ => (b.drop j).headD (.Pass ⟨0, 0, 0, 0⟩)
  | _ => .Pass ⟨0, 0, 0, 0⟩
/-- a def's object: its parts are those of its statement -/
@[reducible] noncomputable def fnD (st : Stmt) {n0 : Str} {p : Arguments} {b : List Stmt} {dl : List PySem.Expr} {r : Option PySem.Expr} {tp : List TypeParam} {sc : Scope} {ts : Option Scope} {bi : Str} {po : Pos} (_ : st = .FunctionDef n0 p b dl r tp sc ts bi po)
    (n q : Str) (g : Addr) (cl : List (Str × Addr)) (d kd doc pm : Value) (an : Option Addr) (code ct : Value) (bu : Addr) : FuncData := ⟨n, q, p, .stmts b, sc, g, cl, d, kd, doc, pm, an, code, ct, bu⟩
noncomputable def hd.view_39 : Program := { PySem.Challenge.rw_mr0322_01.prog with main := { PySem.Challenge.rw_mr0322_01.prog.main with body := [stAt 1, stAt 2, stAt 3, stAt 4, stAt 6, stAt 7, stAt 8, stAt 9, stAt 10, stAt 12, stAt 13, stAt 14, stAt 15, stAt 16, stAt 17] } }
noncomputable def hd.heap_39 : Params → Frag := fun P =>
    ((nat_lit 2), (Obj.mk Value.none Option.none (Data.dict (List.toArray []) 0) (List.toArray []))) ::
    ((nat_lit 3), (Obj.mk (Value.type "dict") Option.none (Data.dict (List.toArray [(DictEntry.mk (PyData.keyHash P (Str.ofString "__name__")) (Value.str (Str.ofString "__name__") 165) (Value.str (Str.ofString "law_mr0322_01") 400)), (DictEntry.mk (PyData.keyHash P (Str.ofString "__doc__")) (Value.str (Str.ofString "__doc__") 166) Value.none), (DictEntry.mk (PyData.keyHash P (Str.ofString "__package__")) (Value.str (Str.ofString "__package__") 167) Value.none), (DictEntry.mk (PyData.keyHash P (Str.ofString "__loader__")) (Value.str (Str.ofString "__loader__") 168) (Value.builtin "__main__.__loader__#opaque")), (DictEntry.mk (PyData.keyHash P (Str.ofString "__spec__")) (Value.str (Str.ofString "__spec__") 169) Value.none), (DictEntry.mk (PyData.keyHash P (Str.ofString "__annotations__")) (Value.str (Str.ofString "__annotations__") 170) (Value.ref 6)), (DictEntry.mk (PyData.keyHash P (Str.ofString "__builtins__")) (Value.str (Str.ofString "__builtins__") 171) (Value.ref 4)), (DictEntry.mk (PyData.keyHash P (Str.ofString "__file__")) (Value.str (Str.ofString "__file__") 173) (Value.str (Str.ofString "/claim/cut.py") 172)), (DictEntry.mk (PyData.keyHash P (Str.ofString "__cached__")) (Value.str (Str.ofString "__cached__") 174) Value.none), (DictEntry.mk (PyData.keyHash P (Str.ofString "_raise_serialization_error")) (Value.str (Str.ofString "_raise_serialization_error") 195) (Value.ref 21)), (DictEntry.mk (PyData.keyHash P (Str.ofString "_escape_cdata")) (Value.str (Str.ofString "_escape_cdata") 202) (Value.ref 28)), (DictEntry.mk (PyData.keyHash P (Str.ofString "_escape_attrib")) (Value.str (Str.ofString "_escape_attrib") 209) (Value.ref 35)), (DictEntry.mk (PyData.keyHash P (Str.ofString "_escape_attrib_html")) (Value.str (Str.ofString "_escape_attrib_html") 216) (Value.ref 42)), (DictEntry.mk (PyData.keyHash P (Str.ofString "_NODE_OUT")) (Value.str (Str.ofString "_NODE_OUT") 221) (Value.int (Neg.neg 1) 220)), (DictEntry.mk (PyData.keyHash P (Str.ofString "_NODE_DONE")) (Value.str (Str.ofString "_NODE_DONE") 224) (Value.int (Neg.neg 2) 223)), (DictEntry.mk (PyData.keyHash P (Str.ofString "_NodeInfo")) (Value.str (Str.ofString "_NodeInfo") 261) (Value.ref 61)), (DictEntry.mk (PyData.keyHash P (Str.ofString "CycleError")) (Value.str (Str.ofString "CycleError") 279) (Value.ref 76)), (DictEntry.mk (PyData.keyHash P (Str.ofString "TopologicalSorter")) (Value.str (Str.ofString "TopologicalSorter") 399) (Value.ref 158)), (DictEntry.mk (PyData.keyHash P (Str.ofString "_law_name")) (Value.str (Str.ofString "_law_name") 408) (Value.ref 169)), (DictEntry.mk (PyData.keyHash P (Str.ofString "_law_sorter")) (Value.str (Str.ofString "_law_sorter") 414) (Value.ref 174)), (DictEntry.mk (PyData.keyHash P (Str.ofString "_law_by_turns")) (Value.str (Str.ofString "_law_by_turns") 423) (Value.ref 181)), (DictEntry.mk (PyData.keyHash P (Str.ofString "_law_at_once")) (Value.str (Str.ofString "_law_at_once") 429) (Value.ref 186)), (DictEntry.mk (PyData.keyHash P (Str.ofString "_law_ring")) (Value.str (Str.ofString "_law_ring") 435) (Value.ref 191)), (DictEntry.mk (PyData.keyHash P (Str.ofString "law")) (Value.str (Str.ofString "law") 441) (Value.ref 196))]) 24) (List.toArray []))) ::
    ((nat_lit 15), (Obj.mk (Value.type "tuple") Option.none (Data.seq (List.toArray []) 0) (List.toArray []))) ::
    ((nat_lit 17), (Obj.mk (Value.type "tuple") Option.none (Data.seq (List.toArray [(Value.str (Str.ofString "text") 192)]) 0) (List.toArray []))) ::
    ((nat_lit 18), (Obj.mk (Value.type "tuple") Option.none (Data.seq (List.toArray []) 0) (List.toArray []))) ::
    ((nat_lit 20), (Obj.mk (Value.type "code") Option.none (Data.fields (List.toArray [(Value.str (Str.ofString "_raise_serialization_error") 189), (Value.str (Str.ofString "_raise_serialization_error") 190), (Value.str (Str.ofString "/claim/cut.py") 191), (Value.int 2 0), (Value.int 1 0), (Value.int 0 0), (Value.int 0 0), (Value.int 3 0), (Value.ref 15), (Value.bool Bool.true), (Value.int 181 0), (Value.ref 16), Value.none, (Value.ref 17), (Value.ref 18), (Value.ref 19), (Value.int 193 0), (Value.int 2 0), (Value.str (Str.ofString "/claim/cut.py") 194)])) (List.toArray []))) ::
    ((nat_lit 21), (Obj.mk (Value.type "function") Option.none (Data.func (fnD (stAt 1) rfl (Str.ofString "_raise_serialization_error") (Str.ofString "_raise_serialization_error") 3 [] Value.none Value.none Value.none (Value.str (Str.ofString "cpy313.xml.etree.ElementTree") 187) Option.none (Value.ref 20) Value.none 0)) (List.toArray []))) ::
    ((nat_lit 22), (Obj.mk (Value.type "tuple") Option.none (Data.seq (List.toArray []) 0) (List.toArray []))) ::
    ((nat_lit 24), (Obj.mk (Value.type "tuple") Option.none (Data.seq (List.toArray [(Value.str (Str.ofString "text") 199)]) 0) (List.toArray []))) ::
    ((nat_lit 25), (Obj.mk (Value.type "tuple") Option.none (Data.seq (List.toArray []) 0) (List.toArray []))) ::
    ((nat_lit 27), (Obj.mk (Value.type "code") Option.none (Data.fields (List.toArray [(Value.str (Str.ofString "_escape_cdata") 196), (Value.str (Str.ofString "_escape_cdata") 197), (Value.str (Str.ofString "/claim/cut.py") 198), (Value.int 4 0), (Value.int 1 0), (Value.int 0 0), (Value.int 0 0), (Value.int 3 0), (Value.ref 22), (Value.bool Bool.true), (Value.int 181 0), (Value.ref 23), Value.none, (Value.ref 24), (Value.ref 25), (Value.ref 26), (Value.int 200 0), (Value.int 4 0), (Value.str (Str.ofString "/claim/cut.py") 201)])) (List.toArray []))) ::
    ((nat_lit 28), (Obj.mk (Value.type "function") Option.none (Data.func (fnD (stAt 2) rfl (Str.ofString "_escape_cdata") (Str.ofString "_escape_cdata") 3 [] Value.none Value.none Value.none (Value.str (Str.ofString "cpy313.xml.etree.ElementTree") 187) Option.none (Value.ref 27) Value.none 0)) (List.toArray []))) ::
    ((nat_lit 29), (Obj.mk (Value.type "tuple") Option.none (Data.seq (List.toArray []) 0) (List.toArray []))) ::
    ((nat_lit 31), (Obj.mk (Value.type "tuple") Option.none (Data.seq (List.toArray [(Value.str (Str.ofString "text") 206)]) 0) (List.toArray []))) ::
    ((nat_lit 32), (Obj.mk (Value.type "tuple") Option.none (Data.seq (List.toArray []) 0) (List.toArray []))) ::
    ((nat_lit 34), (Obj.mk (Value.type "code") Option.none (Data.fields (List.toArray [(Value.str (Str.ofString "_escape_attrib") 203), (Value.str (Str.ofString "_escape_attrib") 204), (Value.str (Str.ofString "/claim/cut.py") 205), (Value.int 15 0), (Value.int 1 0), (Value.int 0 0), (Value.int 0 0), (Value.int 3 0), (Value.ref 29), (Value.bool Bool.true), (Value.int 181 0), (Value.ref 30), Value.none, (Value.ref 31), (Value.ref 32), (Value.ref 33), (Value.int 207 0), (Value.int 15 0), (Value.str (Str.ofString "/claim/cut.py") 208)])) (List.toArray []))) ::
    ((nat_lit 35), (Obj.mk (Value.type "function") Option.none (Data.func (fnD (stAt 3) rfl (Str.ofString "_escape_attrib") (Str.ofString "_escape_attrib") 3 [] Value.none Value.none Value.none (Value.str (Str.ofString "cpy313.xml.etree.ElementTree") 187) Option.none (Value.ref 34) Value.none 0)) (List.toArray []))) ::
    ((nat_lit 36), (Obj.mk (Value.type "tuple") Option.none (Data.seq (List.toArray []) 0) (List.toArray []))) ::
    ((nat_lit 38), (Obj.mk (Value.type "tuple") Option.none (Data.seq (List.toArray [(Value.str (Str.ofString "text") 213)]) 0) (List.toArray []))) ::
    ((nat_lit 39), (Obj.mk (Value.type "tuple") Option.none (Data.seq (List.toArray []) 0) (List.toArray []))) ::
    ((nat_lit 41), (Obj.mk (Value.type "code") Option.none (Data.fields (List.toArray [(Value.str (Str.ofString "_escape_attrib_html") 210), (Value.str (Str.ofString "_escape_attrib_html") 211), (Value.str (Str.ofString "/claim/cut.py") 212), (Value.int 34 0), (Value.int 1 0), (Value.int 0 0), (Value.int 0 0), (Value.int 3 0), (Value.ref 36), (Value.bool Bool.true), (Value.int 181 0), (Value.ref 37), Value.none, (Value.ref 38), (Value.ref 39), (Value.ref 40), (Value.int 214 0), (Value.int 34 0), (Value.str (Str.ofString "/claim/cut.py") 215)])) (List.toArray []))) ::
    ((nat_lit 42), (Obj.mk (Value.type "function") Option.none (Data.func (fnD (stAt 4) rfl (Str.ofString "_escape_attrib_html") (Str.ofString "_escape_attrib_html") 3 [] Value.none Value.none Value.none (Value.str (Str.ofString "cpy313.xml.etree.ElementTree") 187) Option.none (Value.ref 41) Value.none 0)) (List.toArray []))) ::
    ((nat_lit 50), (Obj.mk (Value.type "tuple") Option.none (Data.seq (List.toArray [(Value.str (Str.ofString "node") 237), (Value.str (Str.ofString "npredecessors") 238), (Value.str (Str.ofString "successors") 239)]) 0) (List.toArray []))) ::
    ((nat_lit 51), (Obj.mk (Value.type "tuple") Option.none (Data.seq (List.toArray []) 0) (List.toArray []))) ::
    ((nat_lit 53), (Obj.mk (Value.type "tuple") Option.none (Data.seq (List.toArray [(Value.str (Str.ofString "self") 244), (Value.str (Str.ofString "node") 245)]) 0) (List.toArray []))) ::
    ((nat_lit 54), (Obj.mk (Value.type "tuple") Option.none (Data.seq (List.toArray []) 0) (List.toArray []))) ::
    ((nat_lit 56), (Obj.mk (Value.type "code") Option.none (Data.fields (List.toArray [(Value.str (Str.ofString "__init__") 241), (Value.str (Str.ofString "_NodeInfo.__init__") 242), (Value.str (Str.ofString "/claim/cut.py") 243), (Value.int 51 0), (Value.int 2 0), (Value.int 0 0), (Value.int 0 0), (Value.int 3 0), (Value.ref 51), (Value.bool Bool.true), (Value.int 181 0), (Value.ref 52), Value.none, (Value.ref 53), (Value.ref 54), (Value.ref 55), (Value.int 246 0), (Value.int 51 0), (Value.str (Str.ofString "/claim/cut.py") 247)])) (List.toArray []))) ::
    ((nat_lit 57), (Obj.mk (Value.type "function") Option.none (Data.func (fnD (meAt 8 1) rfl (Str.ofString "__init__") (Str.ofString "_NodeInfo.__init__") 3 [] Value.none Value.none Value.none (Value.str (Str.ofString "cpy313.graphlib") 217) Option.none (Value.ref 56) Value.none 0)) (List.toArray []))) ::
    ((nat_lit 58), (Obj.mk (Value.type "tuple") Option.none (Data.seq (List.toArray [(Value.str (Str.ofString "node") 249), (Value.str (Str.ofString "npredecessors") 250), (Value.str (Str.ofString "successors") 251)]) 0) (List.toArray []))) ::
    ((nat_lit 60), (Obj.mk (Value.type "dict") Option.none (Data.dict (List.toArray [(DictEntry.mk (PyData.keyHash P (Str.ofString "__module__")) (Value.str (Str.ofString "__module__") 232) (Value.str (Str.ofString "cpy313.graphlib") 217)), (DictEntry.mk (PyData.keyHash P (Str.ofString "__firstlineno__")) (Value.str (Str.ofString "__firstlineno__") 236) (Value.int 48 235)), (DictEntry.mk (PyData.keyHash P (Str.ofString "__slots__")) (Value.str (Str.ofString "__slots__") 240) (Value.ref 50)), (DictEntry.mk (PyData.keyHash P (Str.ofString "__init__")) (Value.str (Str.ofString "__init__") 248) (Value.ref 57)), (DictEntry.mk (PyData.keyHash P (Str.ofString "__static_attributes__")) (Value.str (Str.ofString "__static_attributes__") 252) (Value.ref 58)), (DictEntry.mk (PyData.keyHash P (Str.ofString "node")) (Value.str (Str.ofString "node") 254) (Value.ref 62)), (DictEntry.mk (PyData.keyHash P (Str.ofString "npredecessors")) (Value.str (Str.ofString "npredecessors") 256) (Value.ref 63)), (DictEntry.mk (PyData.keyHash P (Str.ofString "successors")) (Value.str (Str.ofString "successors") 258) (Value.ref 64)), (DictEntry.mk (PyData.keyHash P (Str.ofString "__doc__")) (Value.str (Str.ofString "__doc__") 259) Value.none)]) 5) (List.toArray []))) ::
    ((nat_lit 61), (Obj.mk (Value.type "type") Option.none (Data.cls (ClassData.mk (Str.ofString "_NodeInfo") [(Value.type "object")] [(Value.ref 61), (Value.type "object")] 60 (Str.ofString "_NodeInfo") Bool.false [(Str.ofString "node"), (Str.ofString "npredecessors"), (Str.ofString "successors")] [] Bool.false Option.none Bool.false)) (List.toArray [Option.none, Option.none, (Option.some (Value.str (Str.ofString "_NodeInfo") 225)), (Option.some (Value.str (Str.ofString "_NodeInfo") 233)), (Option.some (Value.builtin "object.__new__")), (Option.some (Value.bool Bool.false))]))) ::
    ((nat_lit 62), (Obj.mk (Value.type "member_descriptor") Option.none (Data.fields (List.toArray [(Value.str (Str.ofString "node") 253), (Value.ref 61), (Value.builtin "proto.slot"), (Value.builtin "proto.slot#set"), (Value.int 2 0)])) (List.toArray []))) ::
    ((nat_lit 63), (Obj.mk (Value.type "member_descriptor") Option.none (Data.fields (List.toArray [(Value.str (Str.ofString "npredecessors") 255), (Value.ref 61), (Value.builtin "proto.slot"), (Value.builtin "proto.slot#set"), (Value.int 1 0)])) (List.toArray []))) ::
    ((nat_lit 64), (Obj.mk (Value.type "member_descriptor") Option.none (Data.fields (List.toArray [(Value.str (Str.ofString "successors") 257), (Value.ref 61), (Value.builtin "proto.slot"), (Value.builtin "proto.slot#set"), (Value.int 0 0)])) (List.toArray []))) ::
    ((nat_lit 67), (Obj.mk (Value.type "tuple") Option.none (Data.seq (List.toArray [(Value.type "ValueError")]) 0) (List.toArray []))) ::
    ((nat_lit 74), (Obj.mk (Value.type "tuple") Option.none (Data.seq (List.toArray []) 0) (List.toArray []))) ::
    ((nat_lit 75), (Obj.mk (Value.type "dict") Option.none (Data.dict (List.toArray [(DictEntry.mk (PyData.keyHash P (Str.ofString "__module__")) (Value.str (Str.ofString "__module__") 269) (Value.str (Str.ofString "cpy313.graphlib") 217)), (DictEntry.mk (PyData.keyHash P (Str.ofString "__firstlineno__")) (Value.str (Str.ofString "__firstlineno__") 273) (Value.int 55 272)), (DictEntry.mk (PyData.keyHash P (Str.ofString "__static_attributes__")) (Value.str (Str.ofString "__static_attributes__") 274) (Value.ref 74)), (DictEntry.mk (PyData.keyHash P (Str.ofString "__weakref__")) (Value.str (Str.ofString "__weakref__") 276) (Value.ref 77)), (DictEntry.mk (PyData.keyHash P (Str.ofString "__doc__")) (Value.str (Str.ofString "__doc__") 277) Value.none)]) 3) (List.toArray []))) ::
    ((nat_lit 76), (Obj.mk (Value.type "type") Option.none (Data.cls (ClassData.mk (Str.ofString "CycleError") [(Value.type "ValueError")] [(Value.ref 76), (Value.type "ValueError"), (Value.type "Exception"), (Value.type "BaseException"), (Value.type "object")] 75 (Str.ofString "CycleError") Bool.true [] [] Bool.false Option.none Bool.false)) (List.toArray [(Option.some (Value.ref 67)), Option.none, (Option.some (Value.str (Str.ofString "CycleError") 262)), (Option.some (Value.str (Str.ofString "CycleError") 270)), (Option.some (Value.builtin "ValueError.__new__")), (Option.some (Value.bool Bool.true))]))) ::
    ((nat_lit 77), (Obj.mk (Value.type "getset_descriptor") Option.none (Data.fields (List.toArray [(Value.str (Str.ofString "__weakref__") 275), (Value.ref 76), (Value.builtin "ExceptionGroup.__weakref__"), Value.none])) (List.toArray []))) ::
    ((nat_lit 87), (Obj.mk (Value.type "tuple") Option.none (Data.seq (List.toArray [Value.none]) 0) (List.toArray []))) ::
    ((nat_lit 88), (Obj.mk (Value.type "tuple") Option.none (Data.seq (List.toArray []) 0) (List.toArray []))) ::
    ((nat_lit 90), (Obj.mk (Value.type "tuple") Option.none (Data.seq (List.toArray [(Value.str (Str.ofString "self") 295), (Value.str (Str.ofString "graph") 296), (Value.str (Str.ofString "node") 297), (Value.str (Str.ofString "predecessors") 298)]) 0) (List.toArray []))) ::
    ((nat_lit 91), (Obj.mk (Value.type "tuple") Option.none (Data.seq (List.toArray []) 0) (List.toArray []))) ::
    ((nat_lit 93), (Obj.mk (Value.type "code") Option.none (Data.fields (List.toArray [(Value.str (Str.ofString "__init__") 292), (Value.str (Str.ofString "TopologicalSorter.__init__") 293), (Value.str (Str.ofString "/claim/cut.py") 294), (Value.int 59 0), (Value.int 2 0), (Value.int 0 0), (Value.int 0 0), (Value.int 3 0), (Value.ref 88), (Value.bool Bool.true), (Value.int 181 0), (Value.ref 89), Value.none, (Value.ref 90), (Value.ref 91), (Value.ref 92), (Value.int 299 0), (Value.int 59 0), (Value.str (Str.ofString "/claim/cut.py") 300)])) (List.toArray []))) ::
    ((nat_lit 94), (Obj.mk (Value.type "function") Option.none (Data.func (fnD (meAt 10 0) rfl (Str.ofString "__init__") (Str.ofString "TopologicalSorter.__init__") 3 [] (Value.ref 87) Value.none Value.none (Value.str (Str.ofString "cpy313.graphlib") 217) Option.none (Value.ref 93) Value.none 0)) (List.toArray []))) ::
    ((nat_lit 95), (Obj.mk (Value.type "tuple") Option.none (Data.seq (List.toArray []) 0) (List.toArray []))) ::
    ((nat_lit 97), (Obj.mk (Value.type "tuple") Option.none (Data.seq (List.toArray [(Value.str (Str.ofString "self") 305), (Value.str (Str.ofString "node") 306), (Value.str (Str.ofString "result") 307)]) 0) (List.toArray []))) ::
    ((nat_lit 98), (Obj.mk (Value.type "tuple") Option.none (Data.seq (List.toArray []) 0) (List.toArray []))) ::
    ((nat_lit 100), (Obj.mk (Value.type "code") Option.none (Data.fields (List.toArray [(Value.str (Str.ofString "_get_nodeinfo") 302), (Value.str (Str.ofString "TopologicalSorter._get_nodeinfo") 303), (Value.str (Str.ofString "/claim/cut.py") 304), (Value.int 68 0), (Value.int 2 0), (Value.int 0 0), (Value.int 0 0), (Value.int 3 0), (Value.ref 95), (Value.bool Bool.true), (Value.int 181 0), (Value.ref 96), Value.none, (Value.ref 97), (Value.ref 98), (Value.ref 99), (Value.int 308 0), (Value.int 68 0), (Value.str (Str.ofString "/claim/cut.py") 309)])) (List.toArray []))) ::
    ((nat_lit 101), (Obj.mk (Value.type "function") Option.none (Data.func (fnD (meAt 10 1) rfl (Str.ofString "_get_nodeinfo") (Str.ofString "TopologicalSorter._get_nodeinfo") 3 [] Value.none Value.none Value.none (Value.str (Str.ofString "cpy313.graphlib") 217) Option.none (Value.ref 100) Value.none 0)) (List.toArray []))) ::
    ((nat_lit 102), (Obj.mk (Value.type "tuple") Option.none (Data.seq (List.toArray []) 0) (List.toArray []))) ::
    ((nat_lit 104), (Obj.mk (Value.type "tuple") Option.none (Data.seq (List.toArray [(Value.str (Str.ofString "self") 314), (Value.str (Str.ofString "node") 315), (Value.str (Str.ofString "predecessors") 316), (Value.str (Str.ofString "nodeinfo") 317), (Value.str (Str.ofString "pred") 318), (Value.str (Str.ofString "pred_info") 319)]) 0) (List.toArray []))) ::
    ((nat_lit 105), (Obj.mk (Value.type "tuple") Option.none (Data.seq (List.toArray []) 0) (List.toArray []))) ::
    ((nat_lit 107), (Obj.mk (Value.type "code") Option.none (Data.fields (List.toArray [(Value.str (Str.ofString "add") 311), (Value.str (Str.ofString "TopologicalSorter.add") 312), (Value.str (Str.ofString "/claim/cut.py") 313), (Value.int 73 0), (Value.int 2 0), (Value.int 0 0), (Value.int 0 0), (Value.int 7 0), (Value.ref 102), (Value.bool Bool.true), (Value.int 181 0), (Value.ref 103), Value.none, (Value.ref 104), (Value.ref 105), (Value.ref 106), (Value.int 320 0), (Value.int 73 0), (Value.str (Str.ofString "/claim/cut.py") 321)])) (List.toArray []))) ::
    ((nat_lit 108), (Obj.mk (Value.type "function") Option.none (Data.func (fnD (meAt 10 2) rfl (Str.ofString "add") (Str.ofString "TopologicalSorter.add") 3 [] Value.none Value.none Value.none (Value.str (Str.ofString "cpy313.graphlib") 217) Option.none (Value.ref 107) Value.none 0)) (List.toArray []))) ::
    ((nat_lit 109), (Obj.mk (Value.type "tuple") Option.none (Data.seq (List.toArray []) 0) (List.toArray []))) ::
    ((nat_lit 112), (Obj.mk (Value.type "code") Option.none (Data.fields (List.toArray [(Value.str (Str.ofString "prepare") 323), (Value.str (Str.ofString "TopologicalSorter.prepare") 324), (Value.str (Str.ofString "/claim/cut.py") 325), (Value.int 82 0), (Value.int 1 0), (Value.int 0 0), (Value.int 0 0), (Value.int 3 0), (Value.ref 109), (Value.bool Bool.true), (Value.int 181 0), (Value.ref 110), Value.none, Value.none, Value.none, (Value.ref 111), (Value.int 326 0), (Value.int 82 0), (Value.str (Str.ofString "/claim/cut.py") 327)])) (List.toArray []))) ::
    ((nat_lit 113), (Obj.mk (Value.type "function") Option.none (Data.func (fnD (meAt 10 3) rfl (Str.ofString "prepare") (Str.ofString "TopologicalSorter.prepare") 3 [] Value.none Value.none Value.none (Value.str (Str.ofString "cpy313.graphlib") 217) Option.none (Value.ref 112) Value.none 0)) (List.toArray []))) ::
    ((nat_lit 114), (Obj.mk (Value.type "tuple") Option.none (Data.seq (List.toArray []) 0) (List.toArray []))) ::
    ((nat_lit 116), (Obj.mk (Value.type "tuple") Option.none (Data.seq (List.toArray [(Value.str (Str.ofString "self") 332), (Value.str (Str.ofString "result") 333), (Value.str (Str.ofString "n2i") 334), (Value.str (Str.ofString "node") 335)]) 0) (List.toArray []))) ::
    ((nat_lit 117), (Obj.mk (Value.type "tuple") Option.none (Data.seq (List.toArray []) 0) (List.toArray []))) ::
    ((nat_lit 119), (Obj.mk (Value.type "code") Option.none (Data.fields (List.toArray [(Value.str (Str.ofString "get_ready") 329), (Value.str (Str.ofString "TopologicalSorter.get_ready") 330), (Value.str (Str.ofString "/claim/cut.py") 331), (Value.int 90 0), (Value.int 1 0), (Value.int 0 0), (Value.int 0 0), (Value.int 3 0), (Value.ref 114), (Value.bool Bool.true), (Value.int 181 0), (Value.ref 115), Value.none, (Value.ref 116), (Value.ref 117), (Value.ref 118), (Value.int 336 0), (Value.int 90 0), (Value.str (Str.ofString "/claim/cut.py") 337)])) (List.toArray []))) ::
    ((nat_lit 120), (Obj.mk (Value.type "function") Option.none (Data.func (fnD (meAt 10 4) rfl (Str.ofString "get_ready") (Str.ofString "TopologicalSorter.get_ready") 3 [] Value.none Value.none Value.none (Value.str (Str.ofString "cpy313.graphlib") 217) Option.none (Value.ref 119) Value.none 0)) (List.toArray []))) ::
    ((nat_lit 121), (Obj.mk (Value.type "tuple") Option.none (Data.seq (List.toArray []) 0) (List.toArray []))) ::
    ((nat_lit 123), (Obj.mk (Value.type "tuple") Option.none (Data.seq (List.toArray [(Value.str (Str.ofString "self") 342)]) 0) (List.toArray []))) ::
    ((nat_lit 124), (Obj.mk (Value.type "tuple") Option.none (Data.seq (List.toArray []) 0) (List.toArray []))) ::
    ((nat_lit 126), (Obj.mk (Value.type "code") Option.none (Data.fields (List.toArray [(Value.str (Str.ofString "is_active") 339), (Value.str (Str.ofString "TopologicalSorter.is_active") 340), (Value.str (Str.ofString "/claim/cut.py") 341), (Value.int 101 0), (Value.int 1 0), (Value.int 0 0), (Value.int 0 0), (Value.int 3 0), (Value.ref 121), (Value.bool Bool.true), (Value.int 181 0), (Value.ref 122), Value.none, (Value.ref 123), (Value.ref 124), (Value.ref 125), (Value.int 343 0), (Value.int 101 0), (Value.str (Str.ofString "/claim/cut.py") 344)])) (List.toArray []))) ::
    ((nat_lit 127), (Obj.mk (Value.type "function") Option.none (Data.func (fnD (meAt 10 5) rfl (Str.ofString "is_active") (Str.ofString "TopologicalSorter.is_active") 3 [] Value.none Value.none Value.none (Value.str (Str.ofString "cpy313.graphlib") 217) Option.none (Value.ref 126) Value.none 0)) (List.toArray []))) ::
    ((nat_lit 128), (Obj.mk (Value.type "tuple") Option.none (Data.seq (List.toArray []) 0) (List.toArray []))) ::
    ((nat_lit 130), (Obj.mk (Value.type "tuple") Option.none (Data.seq (List.toArray [(Value.str (Str.ofString "self") 349)]) 0) (List.toArray []))) ::
    ((nat_lit 131), (Obj.mk (Value.type "tuple") Option.none (Data.seq (List.toArray []) 0) (List.toArray []))) ::
    ((nat_lit 133), (Obj.mk (Value.type "code") Option.none (Data.fields (List.toArray [(Value.str (Str.ofString "__bool__") 346), (Value.str (Str.ofString "TopologicalSorter.__bool__") 347), (Value.str (Str.ofString "/claim/cut.py") 348), (Value.int 106 0), (Value.int 1 0), (Value.int 0 0), (Value.int 0 0), (Value.int 3 0), (Value.ref 128), (Value.bool Bool.true), (Value.int 181 0), (Value.ref 129), Value.none, (Value.ref 130), (Value.ref 131), (Value.ref 132), (Value.int 350 0), (Value.int 106 0), (Value.str (Str.ofString "/claim/cut.py") 351)])) (List.toArray []))) ::
    ((nat_lit 134), (Obj.mk (Value.type "function") Option.none (Data.func (fnD (meAt 10 6) rfl (Str.ofString "__bool__") (Str.ofString "TopologicalSorter.__bool__") 3 [] Value.none Value.none Value.none (Value.str (Str.ofString "cpy313.graphlib") 217) Option.none (Value.ref 133) Value.none 0)) (List.toArray []))) ::
    ((nat_lit 135), (Obj.mk (Value.type "tuple") Option.none (Data.seq (List.toArray []) 0) (List.toArray []))) ::
    ((nat_lit 137), (Obj.mk (Value.type "tuple") Option.none (Data.seq (List.toArray [(Value.str (Str.ofString "self") 356), (Value.str (Str.ofString "nodes") 357), (Value.str (Str.ofString "n2i") 358), (Value.str (Str.ofString "node") 359), (Value.str (Str.ofString "nodeinfo") 360), (Value.str (Str.ofString "stat") 361), (Value.str (Str.ofString "successor") 362), (Value.str (Str.ofString "successor_info") 363)]) 0) (List.toArray []))) ::
    ((nat_lit 138), (Obj.mk (Value.type "tuple") Option.none (Data.seq (List.toArray []) 0) (List.toArray []))) ::
    ((nat_lit 140), (Obj.mk (Value.type "code") Option.none (Data.fields (List.toArray [(Value.str (Str.ofString "done") 353), (Value.str (Str.ofString "TopologicalSorter.done") 354), (Value.str (Str.ofString "/claim/cut.py") 355), (Value.int 109 0), (Value.int 1 0), (Value.int 0 0), (Value.int 0 0), (Value.int 7 0), (Value.ref 135), (Value.bool Bool.true), (Value.int 181 0), (Value.ref 136), Value.none, (Value.ref 137), (Value.ref 138), (Value.ref 139), (Value.int 364 0), (Value.int 109 0), (Value.str (Str.ofString "/claim/cut.py") 365)])) (List.toArray []))) ::
    ((nat_lit 141), (Obj.mk (Value.type "function") Option.none (Data.func (fnD (meAt 10 7) rfl (Str.ofString "done") (Str.ofString "TopologicalSorter.done") 3 [] Value.none Value.none Value.none (Value.str (Str.ofString "cpy313.graphlib") 217) Option.none (Value.ref 140) Value.none 0)) (List.toArray []))) ::
    ((nat_lit 142), (Obj.mk (Value.type "tuple") Option.none (Data.seq (List.toArray []) 0) (List.toArray []))) ::
    ((nat_lit 144), (Obj.mk (Value.type "tuple") Option.none (Data.seq (List.toArray [(Value.str (Str.ofString "self") 370), (Value.str (Str.ofString "n2i") 371), (Value.str (Str.ofString "stack") 372), (Value.str (Str.ofString "itstack") 373), (Value.str (Str.ofString "seen") 374), (Value.str (Str.ofString "node2stacki") 375), (Value.str (Str.ofString "node") 376)]) 0) (List.toArray []))) ::
    ((nat_lit 145), (Obj.mk (Value.type "tuple") Option.none (Data.seq (List.toArray []) 0) (List.toArray []))) ::
    ((nat_lit 147), (Obj.mk (Value.type "code") Option.none (Data.fields (List.toArray [(Value.str (Str.ofString "_find_cycle") 367), (Value.str (Str.ofString "TopologicalSorter._find_cycle") 368), (Value.str (Str.ofString "/claim/cut.py") 369), (Value.int 132 0), (Value.int 1 0), (Value.int 0 0), (Value.int 0 0), (Value.int 3 0), (Value.ref 142), (Value.bool Bool.true), (Value.int 181 0), (Value.ref 143), Value.none, (Value.ref 144), (Value.ref 145), (Value.ref 146), (Value.int 377 0), (Value.int 132 0), (Value.str (Str.ofString "/claim/cut.py") 378)])) (List.toArray []))) ::
    ((nat_lit 148), (Obj.mk (Value.type "function") Option.none (Data.func (fnD (meAt 10 8) rfl (Str.ofString "_find_cycle") (Str.ofString "TopologicalSorter._find_cycle") 3 [] Value.none Value.none Value.none (Value.str (Str.ofString "cpy313.graphlib") 217) Option.none (Value.ref 147) Value.none 0)) (List.toArray []))) ::
    ((nat_lit 149), (Obj.mk (Value.type "tuple") Option.none (Data.seq (List.toArray []) 0) (List.toArray []))) ::
    ((nat_lit 151), (Obj.mk (Value.type "tuple") Option.none (Data.seq (List.toArray [(Value.str (Str.ofString "self") 383), (Value.str (Str.ofString "node_group") 384)]) 0) (List.toArray []))) ::
    ((nat_lit 152), (Obj.mk (Value.type "tuple") Option.none (Data.seq (List.toArray []) 0) (List.toArray []))) ::
    ((nat_lit 154), (Obj.mk (Value.type "code") Option.none (Data.fields (List.toArray [(Value.str (Str.ofString "static_order") 380), (Value.str (Str.ofString "TopologicalSorter.static_order") 381), (Value.str (Str.ofString "/claim/cut.py") 382), (Value.int 161 0), (Value.int 1 0), (Value.int 0 0), (Value.int 0 0), (Value.int 35 0), (Value.ref 149), (Value.bool Bool.true), (Value.int 181 0), (Value.ref 150), Value.none, (Value.ref 151), (Value.ref 152), (Value.ref 153), (Value.int 385 0), (Value.int 161 0), (Value.str (Str.ofString "/claim/cut.py") 386)])) (List.toArray []))) ::
    ((nat_lit 155), (Obj.mk (Value.type "function") Option.none (Data.func (fnD (meAt 10 9) rfl (Str.ofString "static_order") (Str.ofString "TopologicalSorter.static_order") 3 [] Value.none Value.none Value.none (Value.str (Str.ofString "cpy313.graphlib") 217) Option.none (Value.ref 154) Value.none 0)) (List.toArray []))) ::
    ((nat_lit 156), (Obj.mk (Value.type "tuple") Option.none (Data.seq (List.toArray [(Value.str (Str.ofString "_nfinished") 388), (Value.str (Str.ofString "_node2info") 389), (Value.str (Str.ofString "_npassedout") 390), (Value.str (Str.ofString "_ready_nodes") 391)]) 0) (List.toArray []))) ::
    ((nat_lit 157), (Obj.mk (Value.type "dict") Option.none (Data.dict (List.toArray [(DictEntry.mk (PyData.keyHash P (Str.ofString "__module__")) (Value.str (Str.ofString "__module__") 287) (Value.str (Str.ofString "cpy313.graphlib") 217)), (DictEntry.mk (PyData.keyHash P (Str.ofString "__firstlineno__")) (Value.str (Str.ofString "__firstlineno__") 291) (Value.int 57 290)), (DictEntry.mk (PyData.keyHash P (Str.ofString "__init__")) (Value.str (Str.ofString "__init__") 301) (Value.ref 94)), (DictEntry.mk (PyData.keyHash P (Str.ofString "_get_nodeinfo")) (Value.str (Str.ofString "_get_nodeinfo") 310) (Value.ref 101)), (DictEntry.mk (PyData.keyHash P (Str.ofString "add")) (Value.str (Str.ofString "add") 322) (Value.ref 108)), (DictEntry.mk (PyData.keyHash P (Str.ofString "prepare")) (Value.str (Str.ofString "prepare") 328) (Value.ref 113)), (DictEntry.mk (PyData.keyHash P (Str.ofString "get_ready")) (Value.str (Str.ofString "get_ready") 338) (Value.ref 120)), (DictEntry.mk (PyData.keyHash P (Str.ofString "is_active")) (Value.str (Str.ofString "is_active") 345) (Value.ref 127)), (DictEntry.mk (PyData.keyHash P (Str.ofString "__bool__")) (Value.str (Str.ofString "__bool__") 352) (Value.ref 134)), (DictEntry.mk (PyData.keyHash P (Str.ofString "done")) (Value.str (Str.ofString "done") 366) (Value.ref 141)), (DictEntry.mk (PyData.keyHash P (Str.ofString "_find_cycle")) (Value.str (Str.ofString "_find_cycle") 379) (Value.ref 148)), (DictEntry.mk (PyData.keyHash P (Str.ofString "static_order")) (Value.str (Str.ofString "static_order") 387) (Value.ref 155)), (DictEntry.mk (PyData.keyHash P (Str.ofString "__static_attributes__")) (Value.str (Str.ofString "__static_attributes__") 392) (Value.ref 156)), (DictEntry.mk (PyData.keyHash P (Str.ofString "__dict__")) (Value.str (Str.ofString "__dict__") 394) (Value.ref 159)), (DictEntry.mk (PyData.keyHash P (Str.ofString "__weakref__")) (Value.str (Str.ofString "__weakref__") 396) (Value.ref 160)), (DictEntry.mk (PyData.keyHash P (Str.ofString "__doc__")) (Value.str (Str.ofString "__doc__") 397) Value.none)]) 4) (List.toArray []))) ::
    ((nat_lit 158), (Obj.mk (Value.type "type") Option.none (Data.cls (ClassData.mk (Str.ofString "TopologicalSorter") [(Value.type "object")] [(Value.ref 158), (Value.type "object")] 157 (Str.ofString "TopologicalSorter") Bool.true [] [] Bool.false Option.none Bool.false)) (List.toArray [Option.none, Option.none, (Option.some (Value.str (Str.ofString "TopologicalSorter") 280)), (Option.some (Value.str (Str.ofString "TopologicalSorter") 288)), (Option.some (Value.builtin "object.__new__")), (Option.some (Value.bool Bool.true))]))) ::
    ((nat_lit 159), (Obj.mk (Value.type "getset_descriptor") Option.none (Data.fields (List.toArray [(Value.str (Str.ofString "__dict__") 393), (Value.ref 158), (Value.builtin "function.__dict__"), (Value.builtin "function.__dict__#set")])) (List.toArray []))) ::
    ((nat_lit 160), (Obj.mk (Value.type "getset_descriptor") Option.none (Data.fields (List.toArray [(Value.str (Str.ofString "__weakref__") 395), (Value.ref 158), (Value.builtin "ExceptionGroup.__weakref__"), Value.none])) (List.toArray []))) ::
    ((nat_lit 163), (Obj.mk (Value.type "tuple") Option.none (Data.seq (List.toArray []) 0) (List.toArray []))) ::
    ((nat_lit 165), (Obj.mk (Value.type "tuple") Option.none (Data.seq (List.toArray [(Value.str (Str.ofString "sign") 405)]) 0) (List.toArray []))) ::
    ((nat_lit 166), (Obj.mk (Value.type "tuple") Option.none (Data.seq (List.toArray []) 0) (List.toArray []))) ::
    ((nat_lit 168), (Obj.mk (Value.type "code") Option.none (Data.fields (List.toArray [(Value.str (Str.ofString "_law_name") 402), (Value.str (Str.ofString "_law_name") 403), (Value.str (Str.ofString "/claim/cut.py") 404), (Value.int 168 0), (Value.int 1 0), (Value.int 0 0), (Value.int 0 0), (Value.int 3 0), (Value.ref 163), (Value.bool Bool.true), (Value.int 181 0), (Value.ref 164), Value.none, (Value.ref 165), (Value.ref 166), (Value.ref 167), (Value.int 406 0), (Value.int 168 0), (Value.str (Str.ofString "/claim/cut.py") 407)])) (List.toArray []))) ::
    ((nat_lit 169), (Obj.mk (Value.type "function") Option.none (Data.func (fnD (stAt 12) rfl (Str.ofString "_law_name") (Str.ofString "_law_name") 3 [] Value.none Value.none Value.none (Value.str (Str.ofString "law_mr0322_01") 400) Option.none (Value.ref 168) Value.none 0)) (List.toArray []))) ::
    ((nat_lit 170), (Obj.mk (Value.type "tuple") Option.none (Data.seq (List.toArray []) 0) (List.toArray []))) ::
    ((nat_lit 173), (Obj.mk (Value.type "code") Option.none (Data.fields (List.toArray [(Value.str (Str.ofString "_law_sorter") 409), (Value.str (Str.ofString "_law_sorter") 410), (Value.str (Str.ofString "/claim/cut.py") 411), (Value.int 170 0), (Value.int 1 0), (Value.int 0 0), (Value.int 0 0), (Value.int 3 0), (Value.ref 170), (Value.bool Bool.true), (Value.int 181 0), (Value.ref 171), Value.none, Value.none, Value.none, (Value.ref 172), (Value.int 412 0), (Value.int 170 0), (Value.str (Str.ofString "/claim/cut.py") 413)])) (List.toArray []))) ::
    ((nat_lit 174), (Obj.mk (Value.type "function") Option.none (Data.func (fnD (stAt 13) rfl (Str.ofString "_law_sorter") (Str.ofString "_law_sorter") 3 [] Value.none Value.none Value.none (Value.str (Str.ofString "law_mr0322_01") 400) Option.none (Value.ref 173) Value.none 0)) (List.toArray []))) ::
    ((nat_lit 175), (Obj.mk (Value.type "tuple") Option.none (Data.seq (List.toArray []) 0) (List.toArray []))) ::
    ((nat_lit 177), (Obj.mk (Value.type "tuple") Option.none (Data.seq (List.toArray [(Value.str (Str.ofString "text") 418), (Value.str (Str.ofString "order") 419), (Value.str (Str.ofString "sign") 420)]) 0) (List.toArray []))) ::
    ((nat_lit 178), (Obj.mk (Value.type "tuple") Option.none (Data.seq (List.toArray []) 0) (List.toArray []))) ::
    ((nat_lit 180), (Obj.mk (Value.type "code") Option.none (Data.fields (List.toArray [(Value.str (Str.ofString "_law_by_turns") 415), (Value.str (Str.ofString "_law_by_turns") 416), (Value.str (Str.ofString "/claim/cut.py") 417), (Value.int 175 0), (Value.int 2 0), (Value.int 0 0), (Value.int 0 0), (Value.int 3 0), (Value.ref 175), (Value.bool Bool.true), (Value.int 181 0), (Value.ref 176), Value.none, (Value.ref 177), (Value.ref 178), (Value.ref 179), (Value.int 421 0), (Value.int 175 0), (Value.str (Str.ofString "/claim/cut.py") 422)])) (List.toArray []))) ::
    ((nat_lit 181), (Obj.mk (Value.type "function") Option.none (Data.func (fnD (stAt 14) rfl (Str.ofString "_law_by_turns") (Str.ofString "_law_by_turns") 3 [] Value.none Value.none Value.none (Value.str (Str.ofString "law_mr0322_01") 400) Option.none (Value.ref 180) Value.none 0)) (List.toArray []))) ::
    ((nat_lit 182), (Obj.mk (Value.type "tuple") Option.none (Data.seq (List.toArray []) 0) (List.toArray []))) ::
    ((nat_lit 185), (Obj.mk (Value.type "code") Option.none (Data.fields (List.toArray [(Value.str (Str.ofString "_law_at_once") 424), (Value.str (Str.ofString "_law_at_once") 425), (Value.str (Str.ofString "/claim/cut.py") 426), (Value.int 179 0), (Value.int 3 0), (Value.int 0 0), (Value.int 0 0), (Value.int 3 0), (Value.ref 182), (Value.bool Bool.true), (Value.int 181 0), (Value.ref 183), Value.none, Value.none, Value.none, (Value.ref 184), (Value.int 427 0), (Value.int 179 0), (Value.str (Str.ofString "/claim/cut.py") 428)])) (List.toArray []))) ::
    ((nat_lit 186), (Obj.mk (Value.type "function") Option.none (Data.func (fnD (stAt 15) rfl (Str.ofString "_law_at_once") (Str.ofString "_law_at_once") 3 [] Value.none Value.none Value.none (Value.str (Str.ofString "law_mr0322_01") 400) Option.none (Value.ref 185) Value.none 0)) (List.toArray []))) ::
    ((nat_lit 187), (Obj.mk (Value.type "tuple") Option.none (Data.seq (List.toArray []) 0) (List.toArray []))) ::
    ((nat_lit 190), (Obj.mk (Value.type "code") Option.none (Data.fields (List.toArray [(Value.str (Str.ofString "_law_ring") 430), (Value.str (Str.ofString "_law_ring") 431), (Value.str (Str.ofString "/claim/cut.py") 432), (Value.int 181 0), (Value.int 1 0), (Value.int 0 0), (Value.int 0 0), (Value.int 3 0), (Value.ref 187), (Value.bool Bool.true), (Value.int 181 0), (Value.ref 188), Value.none, Value.none, Value.none, (Value.ref 189), (Value.int 433 0), (Value.int 181 0), (Value.str (Str.ofString "/claim/cut.py") 434)])) (List.toArray []))) ::
    ((nat_lit 191), (Obj.mk (Value.type "function") Option.none (Data.func (fnD (stAt 16) rfl (Str.ofString "_law_ring") (Str.ofString "_law_ring") 3 [] Value.none Value.none Value.none (Value.str (Str.ofString "law_mr0322_01") 400) Option.none (Value.ref 190) Value.none 0)) (List.toArray []))) ::
    ((nat_lit 192), (Obj.mk (Value.type "tuple") Option.none (Data.seq (List.toArray []) 0) (List.toArray []))) ::
    ((nat_lit 195), (Obj.mk (Value.type "code") Option.none (Data.fields (List.toArray [(Value.str (Str.ofString "law") 436), (Value.str (Str.ofString "law") 437), (Value.str (Str.ofString "/claim/cut.py") 438), (Value.int 188 0), (Value.int 1 0), (Value.int 0 0), (Value.int 0 0), (Value.int 3 0), (Value.ref 192), (Value.bool Bool.true), (Value.int 181 0), (Value.ref 193), Value.none, Value.none, Value.none, (Value.ref 194), (Value.int 439 0), (Value.int 188 0), (Value.str (Str.ofString "/claim/cut.py") 440)])) (List.toArray []))) ::
    ((nat_lit 196), (Obj.mk (Value.type "function") Option.none (Data.func (fnD (stAt 17) rfl (Str.ofString "law") (Str.ofString "law") 3 [] Value.none Value.none Value.none (Value.str (Str.ofString "law_mr0322_01") 400) Option.none (Value.ref 195) Value.none 0)) (List.toArray []))) :: []
theorem law_said : PySem.Challenge.rw_mr0322_01.wellSaid = true := by
  unfold OpenLaw.wellSaid OpenRow.wellSaid OpenRow.partSaid looksOpen
  repeat' (with_reducible apply look_both)
  all_goals first
    | (rw [Fast.te8377067652309620493]; decide +kernel)
    | (rw [Fast.te8326940854005059898, Fast.te5923862056798008813, Fast.te13343964577679436407]; decide +kernel)
    | (rw [Fast.te17119622794617984870]; decide +kernel)
    | decide +kernel
theorem row_promised : PySem.Challenge.rw_mr0322_01.row.toRowW.promised := by w_witness2
noncomputable def hd.at_39 : List Addr := [2, 3, 15, 17, 18, 20, 21, 22, 24, 25, 27, 28, 29, 31, 32, 34, 35, 36, 38, 39, 41, 42, 50, 51, 53, 54, 56, 57, 58, 60, 61, 62, 63, 64, 67, 74, 75, 76, 77, 87, 88, 90, 91, 93, 94, 95, 97, 98, 100, 101, 102, 104, 105, 107, 108, 109, 112, 113, 114, 116, 117, 119, 120, 121, 123, 124, 126, 127, 128, 130, 131, 133, 134, 135, 137, 138, 140, 141, 142, 144, 145, 147, 148, 149, 151, 152, 154, 155, 156, 157, 158, 159, 160, 163, 165, 166, 168, 169, 170, 173, 174, 175, 177, 178, 180, 181, 182, 185, 186, 187, 190, 191, 192, 195, 196]
theorem hd.at_eq (P : Params) : hd.at_39 = (hd.heap_39 P).map (·.1) := by kernel_rfl
noncomputable abbrev hd.hook : Hook := kHook hd.heap_39 hd.at_39 hd.at_eq
theorem hd.left : LeftO PySem.Challenge.rw_mr0322_01.prog hd.view_39 [Str.ofString "_NodeInfo"] (fun s => xlAt hd.view_39 [] s && recOk PySem.Challenge.rw_mr0322_01.row.toRowW.records s) (Hook.obs hd.hook) (Hook.val hd.hook) 2750 := by
  intro w
  unfold openEnds fencedOpening topFrom
  rw [Fast.te10274390034422433532, Fast.te14082659384304107361, Fast.te1435165496053646825, Fast.te14289696077712309145, Fast.te4187177175401517315, Fast.te14364793385576792824, Fast.te5923862056798008813]
  kernel_rfl
theorem hd {d : DefRec} {kwd : List (Str × PySem.Expr)} (hdef : defOf hd.view_39 PySem.Challenge.rw_mr0322_01.row.name = some (d, kwd)) (hp : PySem.Challenge.rw_mr0322_01.row.prog.theDef PySem.Challenge.rw_mr0322_01.row.name = some (d.params, d.body, d.scope)) (hk : kwWritten? d.params.kwonlyargs d.params.kw_defaults = some kwd)
    (walk : WalkO hd.view_39 [Str.ofString "_NodeInfo"] (XL hd.view_39 []) (Hook.says hd.hook) PySem.Challenge.rw_mr0322_01.row.toRowW d kwd fun f vs => PySem.call f vs) : PySem.Challenge.rw_mr0322_01.Holds :=
  holds_law law_said fun said => holds_open (q := hd.view_39) (loose := [Str.ofString "_NodeInfo"]) (Xt := fun s => xlAt hd.view_39 [] s && recOk PySem.Challenge.rw_mr0322_01.row.toRowW.records s) (XP := XL hd.view_39 []) (Yf := Hook.obs hd.hook) (Ya := Hook.val hd.hook) (YP := Hook.says hd.hook) (N := 2750) hd.left (Hook.of hd.hook) (Hook.keeps hd.hook)
    (fun s e => xl_of s (Bool.and_eq_true_iff.mp e).1) XL.keeps hdef hp hk (fun s e => recFacts_of (Bool.and_eq_true_iff.mp e).2) (by rfl) said (by decide +kernel) ⟨rfl, rfl, rfl, rfl, rfl, by decide +kernel⟩ row_promised walk
noncomputable abbrev Lz : List Str := looseW hd.view_39 [Str.ofString "_NodeInfo"]
noncomputable abbrev Tp (mean : ExcName → Option Value) (mg mb : Str → Option Value) (h : Heap) : Prop := Top hd.view_39 Lz mean mg mb h
noncomputable abbrev Led := List (Addr × Obj)
noncomputable abbrev sdO (w : World) (t1 t2 t3 t4 : Tok) (v1 v2 v3 v4 : Value) : Obj := dictOf [
  ⟨PyData.keyHash w.params (Str.ofString "_node2info"), .str (Str.ofString "_node2info") t1, v1⟩,
  ⟨PyData.keyHash w.params (Str.ofString "_ready_nodes"), .str (Str.ofString "_ready_nodes") t2, v2⟩,
  ⟨PyData.keyHash w.params (Str.ofString "_npassedout"), .str (Str.ofString "_npassedout") t3, v3⟩,
  ⟨PyData.keyHash w.params (Str.ofString "_nfinished"), .str (Str.ofString "_nfinished") t4, v4⟩] 4
noncomputable abbrev infO (dI : Addr) (x : Str) (xt : Tok) (np : Int) (pt : Tok) (S : Addr) : Obj :=
  { cls := .ref 61, dict := some dI, slots := #[some (.str x xt), some (.int np pt), some (.ref S)] }
/-- the surroundings of a call -/
noncomputable abbrev Ar (d : Nat) (env : Env) (outer : List Env) (g : Option (List Code)) (u : Nat) : Around := { handled := none, depth := d, frames := some (env :: outer), guards := g, units := u }
noncomputable abbrev Dk (w : World) (o : Obj) (kvs : List (Str × Value)) : Prop := o.IsDictOf (PySem.strKind PySem.Challenge.rw_mr0322_01.row.prog w) kvs

theorem News.sub {h₀ h : Heap} {L : Addr} {a b : Led} (N : News h₀ L h b) (hs : ∀ p ∈ a, p ∈ b) : News h₀ L h a := fun p hp => N p (hs p hp)
/-- an entry taken out of the ledger -/
inductive Pick (a : Addr) (o : Obj) : Led → Led → Prop
  | head {l : Led} : Pick a o ((a, o) :: l) l
  | tail {p : Addr × Obj} {l r : Led} : Pick a o l r → Pick a o (p :: l) (p :: r)
theorem Pick.sub {a : Addr} {o : Obj} {l r : Led} (h : Pick a o l r) : ∀ p, p = (a, o) ∨ p ∈ r → p ∈ l := by
  induction h with
  | head => exact fun p h => List.mem_cons.mpr h
  | tail _ ih =>
    intro p hp
    rcases hp with e | hp
    · exact List.mem_cons.mpr (.inr (ih _ (.inl e)))
    · rcases List.mem_cons.mp hp with e | hp
      · exact List.mem_cons.mpr (.inl e)
      · exact List.mem_cons.mpr (.inr (ih _ (.inr hp)))
theorem Pick.news {h₀ h : Heap} {L a : Addr} {o : Obj} {pre l r : Led} (N : News h₀ L h (pre ++ l)) (k : Pick a o l r) : News h₀ L h (pre ++ (a, o) :: r) := fun p hp => N p (by
  rcases List.mem_append.mp hp with q | q
  · exact List.mem_append_left _ q
  · exact List.mem_append_right _ (k.sub p (List.mem_cons.mp q)))
theorem pick0 {h₀ h : Heap} {L a : Addr} {o : Obj} {l r : Led} (N : News h₀ L h l) (k : Pick a o l r) : News h₀ L h ((a, o) :: r) := Pick.news (pre := []) N k
theorem pick1 {h₀ h : Heap} {L a : Addr} {o : Obj} {l r : Led} {b0 : Addr × Obj} (N : News h₀ L h (b0 :: l)) (k : Pick a o l r) : News h₀ L h (b0 :: (a, o) :: r) := Pick.news (pre := [b0]) N k
theorem pick2 {h₀ h : Heap} {L a : Addr} {o : Obj} {l r : Led} {b0 b1 : Addr × Obj} (N : News h₀ L h (b0 :: b1 :: l)) (k : Pick a o l r) : News h₀ L h (b0 :: b1 :: (a, o) :: r) := Pick.news (pre := [b0, b1]) N k
theorem pick3 {h₀ h : Heap} {L a : Addr} {o : Obj} {l r : Led} {b0 b1 b2 : Addr × Obj} (N : News h₀ L h (b0 :: b1 :: b2 :: l)) (k : Pick a o l r) : News h₀ L h (b0 :: b1 :: b2 :: (a, o) :: r) := Pick.news (pre := [b0, b1, b2]) N k
theorem pick4 {h₀ h : Heap} {L a : Addr} {o : Obj} {l r : Led} {b0 b1 b2 b3 : Addr × Obj} (N : News h₀ L h (b0 :: b1 :: b2 :: b3 :: l)) (k : Pick a o l r) : News h₀ L h (b0 :: b1 :: b2 :: b3 :: (a, o) :: r) := Pick.news (pre := [b0, b1, b2, b3]) N k
theorem pick5 {h₀ h : Heap} {L a : Addr} {o : Obj} {l r : Led} {b0 b1 b2 b3 b4 : Addr × Obj} (N : News h₀ L h (b0 :: b1 :: b2 :: b3 :: b4 :: l)) (k : Pick a o l r) : News h₀ L h (b0 :: b1 :: b2 :: b3 :: b4 :: (a, o) :: r) := Pick.news (pre := [b0, b1, b2, b3, b4]) N k
theorem pick6 {h₀ h : Heap} {L a : Addr} {o : Obj} {l r : Led} {b0 b1 b2 b3 b4 b5 : Addr × Obj} (N : News h₀ L h (b0 :: b1 :: b2 :: b3 :: b4 :: b5 :: l)) (k : Pick a o l r) : News h₀ L h (b0 :: b1 :: b2 :: b3 :: b4 :: b5 :: (a, o) :: r) := Pick.news (pre := [b0, b1, b2, b3, b4, b5]) N k
theorem pick7 {h₀ h : Heap} {L a : Addr} {o : Obj} {l r : Led} {b0 b1 b2 b3 b4 b5 b6 : Addr × Obj} (N : News h₀ L h (b0 :: b1 :: b2 :: b3 :: b4 :: b5 :: b6 :: l)) (k : Pick a o l r) : News h₀ L h (b0 :: b1 :: b2 :: b3 :: b4 :: b5 :: b6 :: (a, o) :: r) := Pick.news (pre := [b0, b1, b2, b3, b4, b5, b6]) N k
theorem pick8 {h₀ h : Heap} {L a : Addr} {o : Obj} {l r : Led} {b0 b1 b2 b3 b4 b5 b6 b7 : Addr × Obj} (N : News h₀ L h (b0 :: b1 :: b2 :: b3 :: b4 :: b5 :: b6 :: b7 :: l)) (k : Pick a o l r) : News h₀ L h (b0 :: b1 :: b2 :: b3 :: b4 :: b5 :: b6 :: b7 :: (a, o) :: r) := Pick.news (pre := [b0, b1, b2, b3, b4, b5, b6, b7]) N k
theorem subCons {p : Addr × Obj} {A B : Led} (h1 : p ∈ B) (h2 : ∀ q ∈ A, q ∈ B) : ∀ q ∈ p :: A, q ∈ B := fun q hq => by
  rcases List.mem_cons.mp hq with e | e
  · rw [e]; exact h1
  · exact h2 q e
theorem subTail {b : Addr × Obj} {A B : Led} (h : ∀ q ∈ A, q ∈ B) : ∀ q ∈ A, q ∈ b :: B := fun q hq => List.mem_cons.mpr (.inr (h q hq))
theorem subNil {B : Led} : ∀ q ∈ ([] : Led), q ∈ B := fun _ h => nomatch h
noncomputable def Ne1 (a : Nat) : Led → Prop
  | [] => True
  | q :: r => a ≠ q.1 ∧ Ne1 a r
noncomputable def Ap : Led → Led → Prop
  | [], _ => True
  | p :: r, fp => Ne1 p.1 fp ∧ Ap r fp
noncomputable def PW : Led → Prop
  | [] => True
  | p :: r => Ne1 p.1 r ∧ PW r
theorem ne1_of {a : Nat} {l : Led} (h : Ne1 a l) : ∀ q ∈ l, a ≠ q.1 := by
  induction l with
  | nil => exact fun _ m => nomatch m
  | cons x r ih =>
    intro q m
    rcases List.mem_cons.mp m with e | m
    · rw [e]; exact h.1
    · exact ih h.2 q m
theorem ap_of {fp l : Led} (h : Ap l fp) : ∀ p ∈ l, ∀ q ∈ fp, p.1 ≠ q.1 := by
  induction l with
  | nil => exact fun _ m => nomatch m
  | cons x r ih =>
    intro p m
    rcases List.mem_cons.mp m with e | m
    · rw [e]; exact ne1_of h.1
    · exact ih h.2 p m

theorem of_ap {fp l : Led} (h : ∀ p ∈ l, ∀ q ∈ fp, p.1 ≠ q.1) : Ap l fp := by
  induction l with
  | nil => trivial
  | cons x r ih =>
    refine ⟨?_, ih fun p hp => h p (List.mem_cons.mpr (.inr hp))⟩
    have hx := h x (List.mem_cons.mpr (.inl rfl))
    clear h ih
    induction fp with
    | nil => trivial
    | cons y s ih2 => exact ⟨hx y (List.mem_cons.mpr (.inl rfl)), ih2 fun q hq => hx q (List.mem_cons.mpr (.inr hq))⟩
theorem ap_add {fp l : Led} {D : Nat} {o : Obj} (h : Ap l fp) (hl : ∀ p ∈ l, p.1 < D) : Ap l ((D, o) :: fp) := by
  induction l with
  | nil => trivial
  | cons x r ih => exact ⟨⟨Nat.ne_of_lt (hl x (List.mem_cons.mpr (.inl rfl))), h.1⟩, ih h.2 fun p hp => hl p (List.mem_cons.mpr (.inr hp))⟩

theorem fa_head {b x : Nat} {o : Obj} {l : Led} (h : ∀ p ∈ (b, o) :: l, p.1 ≠ x) : b ≠ x := h (b, o) (List.mem_cons.mpr (.inl rfl))
theorem fa_tail {q : Addr × Obj} {x : Nat} {l : Led} (h : ∀ p ∈ q :: l, p.1 ≠ x) : ∀ p ∈ l, p.1 ≠ x := fun p hp => h p (List.mem_cons.mpr (.inr hp))
theorem lt_head {b x : Nat} {o : Obj} {l : Led} (h : ∀ p ∈ (b, o) :: l, p.1 < x) : b < x := h (b, o) (List.mem_cons.mpr (.inl rfl))
theorem lt_tail {q : Addr × Obj} {x : Nat} {l : Led} (h : ∀ p ∈ q :: l, p.1 < x) : ∀ p ∈ l, p.1 < x := fun p hp => h p (List.mem_cons.mpr (.inr hp))
theorem apNil {rest : Led} : Ap rest [] := of_ap fun _ _ _ h => nomatch h
theorem apCons {rest fp : Led} {b : Nat} {o : Obj} (h : ∀ p ∈ rest, p.1 ≠ b) (k : Ap rest fp) : Ap rest ((b, o) :: fp) := of_ap fun p hp q hq => by
  rcases List.mem_cons.mp hq with e | e
  · rw [e]; exact h p hp
  · exact ap_of k p hp q e
theorem ap_get {rest fp : Led} {b : Nat} {o : Obj} (h : Ap rest fp) (hm : (b, o) ∈ fp) : ∀ p ∈ rest, p.1 ≠ b := fun p hp => ap_of h p hp _ hm
theorem ap_head {rest fp : Led} {b : Nat} {o : Obj} (h : Ap rest ((b, o) :: fp)) : ∀ p ∈ rest, p.1 ≠ b := fun p hp => ap_of h p hp (b, o) (List.mem_cons.mpr (.inl rfl))
theorem ap_tail {rest fp : Led} {q : Addr × Obj} (h : Ap rest (q :: fp)) : Ap rest fp := of_ap fun p hp q hq => ap_of h p hp q (List.mem_cons.mpr (.inr hq))
/-- a ledger's written part, its addresses, its tail -/
inductive Spl : Led → List Nat → Led → Prop
  | nil {tl : Led} : Spl tl [] tl
  | cons {a : Nat} {o : Obj} {l tl : Led} {as : List Nat} : Spl l as tl → Spl ((a, o) :: l) (a :: as) tl
theorem Spl.map {l tl : Led} {as : List Nat} (s : Spl l as tl) : l.map (·.1) = as ++ tl.map (·.1) := by
  induction s with
  | nil => rfl
  | cons _ ih => rw [List.map_cons, ih]; rfl
theorem Spl.of {l tl : Led} {as : List Nat} (s : Spl l as tl) {a : Nat} (h : a ∈ as ++ tl.map (·.1)) : ∃ p ∈ l, p.1 = a := by
  rw [← s.map] at h
  exact List.mem_map.mp h
noncomputable def NA (x : Nat) (as : List Nat) : Prop := ∀ a ∈ as, @Ne Addr a x
noncomputable def NL (x : Nat) (as : List Nat) : Prop := ∀ a ∈ as, a < x
noncomputable def NP (rest : Led) (as : List Nat) : Prop := ∀ a ∈ as, ∀ p ∈ rest, p.1 ≠ a
theorem na_of {l tl : Led} {as : List Nat} {x : Nat} (h : ∀ p ∈ l, p.1 ≠ x) (s : Spl l as tl) : NA x as := fun a ha => by
  obtain ⟨p, hp, rfl⟩ := s.of (List.mem_append_left _ ha)
  exact h p hp
theorem na_tl {l tl : Led} {as : List Nat} {x : Nat} (h : ∀ p ∈ l, p.1 ≠ x) (s : Spl l as tl) : ∀ p ∈ tl, p.1 ≠ x := fun p hp => by
  obtain ⟨q, hq, e⟩ := s.of (List.mem_append_right _ (List.mem_map.mpr ⟨p, hp, rfl⟩))
  exact e ▸ h q hq
theorem nl_of {l tl : Led} {as : List Nat} {x : Nat} (h : ∀ p ∈ l, p.1 < x) (s : Spl l as tl) : NL x as := fun a ha => by
  obtain ⟨p, hp, rfl⟩ := s.of (List.mem_append_left _ ha)
  exact h p hp
theorem nl_tl {l tl : Led} {as : List Nat} {x : Nat} (h : ∀ p ∈ l, p.1 < x) (s : Spl l as tl) : ∀ p ∈ tl, p.1 < x := fun p hp => by
  obtain ⟨q, hq, e⟩ := s.of (List.mem_append_right _ (List.mem_map.mpr ⟨p, hp, rfl⟩))
  exact e ▸ h q hq
theorem np_of {rest fp tl : Led} {as : List Nat} (h : Ap rest fp) (s : Spl fp as tl) : NP rest as := fun a ha p hp e => by
  obtain ⟨q, hq, e2⟩ := s.of (List.mem_append_left _ ha)
  exact ap_of h p hp q hq (e.trans e2.symm)
theorem np_tl {rest fp tl : Led} {as : List Nat} (h : Ap rest fp) (s : Spl fp as tl) : Ap rest tl := of_ap fun p hp q hq e => by
  obtain ⟨r, hr, e2⟩ := s.of (List.mem_append_right _ (List.mem_map.mpr ⟨q, hq, rfl⟩))
  exact ap_of h p hp r hr (e.trans e2.symm)
theorem na_head {a x : Nat} {as : List Nat} (h : NA x (a :: as)) : @Ne Addr a x := h a List.mem_cons_self
theorem na_tail {a x : Nat} {as : List Nat} (h : NA x (a :: as)) : NA x as := fun b hb => h b (List.mem_cons_of_mem _ hb)
theorem nl_head {a x : Nat} {as : List Nat} (h : NL x (a :: as)) : a < x := h a List.mem_cons_self
theorem nl_tail {a x : Nat} {as : List Nat} (h : NL x (a :: as)) : NL x as := fun b hb => h b (List.mem_cons_of_mem _ hb)
theorem np_head {rest : Led} {a : Nat} {as : List Nat} (h : NP rest (a :: as)) : ∀ p ∈ rest, p.1 ≠ a := h a List.mem_cons_self
theorem np_tail {rest : Led} {a : Nat} {as : List Nat} (h : NP rest (a :: as)) : NP rest as := fun b hb => h b (List.mem_cons_of_mem _ hb)
theorem fa_cons {b x : Nat} {o : Obj} {l : Led} (h1 : b ≠ x) (h : ∀ p ∈ l, p.1 ≠ x) : ∀ p ∈ (b, o) :: l, p.1 ≠ x := fun p hp => by
  rcases List.mem_cons.mp hp with e | e
  · rw [e]; exact h1
  · exact h p e

/-- what a frame hands back: its own part of the ledger, the rest as it was -/
noncomputable def LeaveF (h₀ : Heap) (L : Addr) (m : Str → Option Value) (rest : Led) (g : Heap) (R : Result → Shared → Prop) (v : Value) (s' : Shared) : Prop :=
  ∃ L' m' fp', Fr g L' s'.heap m' ∧ News g L' s'.heap fp' ∧ (Fr h₀ L s'.heap m → News h₀ L s'.heap (fp' ++ rest) → Ap rest fp' → R (.ok (.ret v)) s')

section
variable {prog : Program} {w : World} {A₀ A : Around} {s : Shared} {base h₀ : Heap} {outer : List Env} {L : Addr} {m : Str → Option Value} {env : Env} {fp rest : Led} {K : Frag}
  {R : Result → Shared → Prop} {name qual : Str} {params : Arguments} {body : List Stmt} {scope : Scope} {dV kV doc pm cdv ct oc : Value} {an od : Option Addr} {osl : Array (Option Value)} {f : Addr} {args : Args} {binds : List (Str × Value)}
  {p : Program} {loose : List Str} {mean : ExcName → Option Value} {mg mb : Str → Option Value}

theorem groundF (B : Below A₀ base outer h₀) (F : Fr h₀ L s.heap m) (N : News h₀ L s.heap (fp ++ rest)) (hdis : Ap rest fp) (hA : A.frames = some (env :: outer)) (hf : env.frame = some L) (hke : env.scope.kind = .function) :
    Below A base (env :: outer) (hideAll s.heap (fp.map (·.1))) ∧ h₀.StaysIn (hideAll s.heap (fp.map (·.1))) ∧ News h₀ L s.heap fp ∧
      ∀ v s', LeaveF h₀ L m rest (hideAll s.heap (fp.map (·.1))) R v s' → R (.ok (.ret v)) s' := by
  have N1 : News h₀ L s.heap fp := News.sub N fun _ h => List.mem_append_left _ h
  have N2 : News h₀ L s.heap rest := News.sub N fun _ h => List.mem_append_right _ h
  obtain ⟨FG, BG, st, _⟩ := groundX (R := R) B F N1 hA hf hke
  have kr : ∀ p ∈ rest, (hideAll s.heap (fp.map (·.1))).get? p.1 = some p.2 := fun p hp => hideAll_get _ (N2 p hp).1 fun q => by
    obtain ⟨q', hq', e⟩ := List.mem_map.mp q
    exact ap_of hdis p hp q' hq' e.symm
  refine ⟨BG, st, N1, fun v s' hl => ?_⟩
  obtain ⟨L', m', fp', F', N', k⟩ := hl
  obtain ⟨oL, es, ep, hL, hLr⟩ := FG.ns
  refine k ⟨⟨oL, es, ep, F'.keep L oL hL, hLr⟩, fun b o e => F'.keep b o (st b o e), F.above⟩ (fun p hp => ?_) (of_ap fun p hp q hq e => ?_)
  rotate_left
  · have := (N' q hq).2.2
    rw [← e, kr p hp] at this; cases this
  rcases List.mem_append.mp hp with hp | hp
  · refine ⟨(N' p hp).1, fun q => ?_, ?_⟩
    · have := (N' p hp).2.2; rw [q, hL] at this; cases this
    · cases q : h₀.get? p.1 with
      | none => rfl
      | some o => have := (N' p hp).2.2; rw [st _ _ q] at this; cases this
  · exact ⟨F'.keep _ _ (kr p hp), (N2 p hp).2⟩

theorem callF (B : Below A₀ base outer h₀) (F : Fr h₀ L s.heap m) (X₀ : K.In h₀) (N : News h₀ L s.heap (fp ++ rest)) (hdis : Ap rest fp) (T : Top p loose mean mg mb h₀)
    (hA : A.frames = some (env :: outer)) (hf : env.frame = some L) (hke : env.scope.kind = .function)
    (ho : K.lookup f = some ⟨oc, od, .func (fnOf name qual params body scope dV kV doc pm an cdv ct), osl⟩) (hcd : codeIn K cdv qual = true) (hroom : A.depth < recursionLimit)
    (hbind : BindsTo s (fnOf name qual params body scope dV kV doc pm an cdv ct) args binds) (hloc : ∀ y ∈ binds, scope.names.lookup y.1 = some .local)
    (h : ∀ g L' h₁, h₀.StaysIn g → Fr g L' h₁ (fun y => binds.reverse.lookup y) → News g L' h₁ fp → Below A base (env :: outer) g → K.In g → Top p loose mean mg mb g →
      wpAny (model prog w) (A.deeper (envOf qual scope L' f cdv)) (execs body (envOf qual scope L' f cdv))
        (fun fl s' => LeaveF h₀ L m rest g R (match fl with | .ret v => v | _ => .none) s')
        (fun e s' => wpAny (model prog w) (A.deeper (envOf qual scope L' f cdv)) (leaving (envOf qual scope L' f cdv) e) (fun _ s'' => R (.error e) s'') (fun e' s'' => R (.error e') s'') s')
        { s with heap := h₁, toks := s.toks + binds.length })
    (hco : scope.isCoroutine = false) (hgen : scope.isGenerator = false) (hk : scope.kind = .function)
    (hcell : ∀ x ∈ scope.names, x.2 ≠ .cell) : codeAny (model prog w) A (.call (.ref f) args) R s := by
  obtain ⟨BG, st, N1, lv⟩ := groundF (R := R) B F N hdis hA hf hke
  have X := X₀.keeps F.keep
  refine codeAny_call_def (fd := fnOf name qual params body scope dV kV doc pm an cdv ct) (body := body) (binds := binds) hroom (X _ _ ho) rfl (T.nolimit.keeps F.keep) (codeRec_of X hcd) rfl hbind hcell hloc (fun h₁ hns hk₁ => ?_) hco hgen hk
  exact wpAny_mono (h _ s.heap.objs.size h₁ st ⟨hns, fun b o e => hk₁ b o (of_hideAll _ e), Nat.le_of_eq (hideAll_size _ _)⟩
    (fun p hp => ⟨hk₁ _ _ (N1 p hp).1, Nat.ne_of_lt (Heap.lt_size (N1 p hp).1), hideAll_none _ (List.mem_map_of_mem hp)⟩) BG (X₀.keeps st) (T.keeps st)) (fun fl s' hl => lv _ _ hl) fun _ _ y => y

/-- a def with a star parameter -/
theorem callV {vs : List Value} {g₁ : Addr → Option (List (Str × Value))} {binds : Addr → List (Str × Value)}
    (B : Below A₀ base outer h₀) (F : Fr h₀ L s.heap m) (X₀ : K.In h₀) (N : News h₀ L s.heap (fp ++ rest)) (hdis : Ap rest fp) (T : Top p loose mean mg mb h₀)
    (hA : A.frames = some (env :: outer)) (hf : env.frame = some L) (hke : env.scope.kind = .function)
    (ho : K.lookup f = some ⟨oc, od, .func (fnOf name qual params body scope dV kV doc pm an cdv ct), osl⟩) (hcd : codeIn K cdv qual = true) (hroom : A.depth < recursionLimit)
    (hp : peek1 K ⟨prog, w.params⟩ (bindArgs (fnOf name qual params body scope dV kV doc pm an cdv ct) args) = some (({ cls := .type "tuple", data := .seq vs.toArray } : Obj), g₁))
    (hg : ∀ D, g₁ D = some (binds D)) (hloc : ∀ D, ∀ y ∈ binds D, scope.names.lookup y.1 = some .local)
    (h : ∀ (D : Nat) g L' h₁, (∀ p ∈ fp, p.1 < D) → h₀.StaysIn g → Fr g L' h₁ (fun y => (binds D).reverse.lookup y) → News g L' h₁ ((D, ({ cls := .type "tuple", data := .seq vs.toArray } : Obj)) :: fp) → Below A base (env :: outer) g → K.In g → Top p loose mean mg mb g →
      wpAny (model prog w) (A.deeper (envOf qual scope L' f cdv)) (execs body (envOf qual scope L' f cdv))
        (fun fl s' => LeaveF h₀ L m rest g R (match fl with | .ret v => v | _ => .none) s')
        (fun e s' => wpAny (model prog w) (A.deeper (envOf qual scope L' f cdv)) (leaving (envOf qual scope L' f cdv) e) (fun _ s'' => R (.error e) s'') (fun e' s'' => R (.error e') s'') s')
        { s with heap := h₁, toks := s.toks + (binds D).length })
    (hco : scope.isCoroutine = false) (hgen : scope.isGenerator = false) (hk : scope.kind = .function)
    (hcell : ∀ x ∈ scope.names, x.2 ≠ .cell) : codeAny (model prog w) A (.call (.ref f) args) R s := by
  refine codeAny_call_function (fd := fnOf name qual params body scope dV kV doc pm an cdv ct) (body := body) hroom ((X₀.keeps F.keep) _ _ ho) rfl hco hgen rfl (codeRec_of (X₀.keeps F.keep) hcd) ?_
  refine wp_of_peek1 (o := ({ cls := .type "tuple", data := .seq vs.toArray } : Obj)) F N (X₀.keeps F.keep) rfl (r := binds) (fun D h' F' N' l => ?_) _ g₁ hp hg
  have hdis' : Ap rest ((D, ({ cls := .type "tuple", data := .seq vs.toArray } : Obj)) :: fp) := by
    exact ap_add hdis fun p hp => l p (List.mem_append_right _ hp)
  obtain ⟨BG, st, N1, lv⟩ := groundF (R := R) (s := { s with heap := h' }) (fp := (D, ({ cls := .type "tuple", data := .seq vs.toArray } : Obj)) :: fp) B F' N' hdis' hA hf hke
  refine wpAny_newFunctionEnv hcell (hloc D) (fun h₁ hns hsb => ⟨(T.nolimit.keeps F'.keep).fresh _ hsb, codeAny_func ?_⟩) hk
  have hk₁ : ∀ b o, h'.get? b = some o → h₁.get? b = some o := fun b o e => hsb.extBut b o (Nat.ne_of_lt (Heap.lt_size e)) (Heap.get?_push_of_some _ e)
  show wpAny (model prog w) (A.deeper (envX qual scope h'.objs.size f cdv [])) (execs body (envX qual scope h'.objs.size f cdv [])) _ _ _
  exact wpAny_mono (h D _ h'.objs.size h₁ (fun p hp => l p (List.mem_append_left _ hp)) st ⟨hns, fun b o e => hk₁ b o (of_hideAll _ e), Nat.le_of_eq (hideAll_size _ _)⟩
    (fun p hp => ⟨hk₁ _ _ (N1 p hp).1, Nat.ne_of_lt (Heap.lt_size (N1 p hp).1), hideAll_none _ (List.mem_map_of_mem hp)⟩) BG (X₀.keeps st) (T.keeps st)) (fun fl s' hl => lv _ _ hl) fun _ _ y => y

/-- a def with cells -/
theorem callC (B : Below A₀ base outer h₀) (F : Fr h₀ L s.heap m) (X₀ : K.In h₀) (N : News h₀ L s.heap (fp ++ rest)) (hdis : Ap rest fp) (T : Top p loose mean mg mb h₀)
    (hA : A.frames = some (env :: outer)) (hf : env.frame = some L) (hke : env.scope.kind = .function)
    (ho : K.lookup f = some ⟨oc, od, .func (fnOf name qual params body scope dV kV doc pm an cdv ct), osl⟩) (hcd : codeIn K cdv qual = true) (hroom : A.depth < recursionLimit)
    (hbind : BindsTo s (fnOf name qual params body scope dV kV doc pm an cdv ct) args binds) (hkind : (binds.all fun y => scope.names.lookup y.1 == some .local || scope.names.lookup y.1 == some .cell) = true)
    (hnd : ((cellsFrom 0 scope.names []).map (·.1)).Nodup)
    (h : ∀ g L' h₁ tk cells, h₀.StaysIn g → Fr g L' h₁ (bindL (envOfC qual scope L' f cdv).kindOf binds fun _ => none) → News g L' h₁ (cells ++ fp) →
      CellsAre (bindC (envOfC qual scope L' f cdv).kindOf binds fun _ => none) (cellsFrom (L' + 1) scope.names []) cells → Below A base (env :: outer) g → K.In g → Top p loose mean mg mb g → (∀ p ∈ fp, p.1 < L') → s.toks ≤ tk →
      wpAny (model prog w) (A.deeper (envOfC qual scope L' f cdv)) (execs body (envOfC qual scope L' f cdv))
        (fun fl s' => LeaveF h₀ L m rest g R (match fl with | .ret v => v | _ => .none) s')
        (fun e s' => wpAny (model prog w) (A.deeper (envOfC qual scope L' f cdv)) (leaving (envOfC qual scope L' f cdv) e) (fun _ s'' => R (.error e) s'') (fun e' s'' => R (.error e') s'') s')
        { s with heap := h₁, toks := tk })
    (hco : scope.isCoroutine = false) (hgen : scope.isGenerator = false) (hk : scope.kind = .function) : codeAny (model prog w) A (.call (.ref f) args) R s := by
  obtain ⟨BG, st, N1, lv⟩ := groundF (R := R) B F N hdis hA hf hke
  have X := X₀.keeps F.keep
  refine codeAny_call_function (fd := fnOf name qual params body scope dV kV doc pm an cdv ct) (body := body) hroom (X _ _ ho) rfl hco hgen rfl (codeRec_of X hcd) (hbind _ _ _ _ ?_)
  refine wpAny_with_toks (n := s.toks) (Nat.le_refl _) (wpAny_newFunctionEnv_cells hk (kindsX hkind _) fun env' he s' x htk => ?_)
  subst he
  refine ⟨(T.nolimit.keeps F.keep).keeps x.toInCall.keep, codeAny_func ?_⟩
  obtain ⟨h₁, tk, rfl, _⟩ := x.done
  have hk₁ := x.toInCall.keep
  obtain ⟨cells, NC, Y⟩ := Cl.news (h₀ := s.heap) (Nat.le_refl _) fun n c hm => ⟨x.cell n c (lookup_of_mem_nodup (cellsFrom_names scope.names 0 (s.heap.objs.size + 1) [] [] rfl ▸ hnd) hm), x.above n c hm⟩
  refine wpAny_mono (h _ s.heap.objs.size h₁ tk cells st ⟨x.toInCall.ns, fun b o e => hk₁ b o (of_hideAll _ e), Nat.le_of_eq (hideAll_size _ _)⟩ (fun p hp => ?_) Y BG (X₀.keeps st) (T.keeps st) (fun p hp => Heap.lt_size (N1 p hp).1) htk) (fun fl s' hl => lv _ _ hl) fun _ _ y => y
  rcases List.mem_append.mp hp with hp | hp
  · refine ⟨(NC p hp).1, (NC p hp).2.1, ?_⟩
    cases q : (hideAll s.heap (fp.map (·.1))).get? p.1 with
    | none => rfl
    | some o => have := of_hideAll _ q; rw [(NC p hp).2.2] at this; cases this
  · exact ⟨hk₁ _ _ (N1 p hp).1, Nat.ne_of_lt (Heap.lt_size (N1 p hp).1), hideAll_none _ (List.mem_map_of_mem hp)⟩
end
theorem fill1 : hd.heap_39 = hd.heap_39 ∧ PySem.Challenge.rw_mr0322_01 = PySem.Challenge.rw_mr0322_01 := by
  k_fill
  exact ⟨rfl, rfl⟩
local macro_rules | `(tactic| walk_at $s:str) => `(tactic| k_extra $s)
local macro_rules | `(tactic| k_room) => `(tactic| walk_at "kroom")
local macro_rules | `(tactic| k_ne) => `(tactic| walk_at "kne")
local macro_rules | `(tactic| k_lt $h:ident) => `(tactic| (have na9 := nl_of $h (by walk_at "spl"); (repeat (have hx9 := nl_head na9; replace na9 := nl_tail na9)); clear na9; replace $h := nl_tl $h (by walk_at "spl")))
local macro_rules | `(tactic| k_lt2 $h:ident) => `(tactic| replace $h := ltN $h)
theorem noneC2 : True := by
  k_with_none
  trivial
-- addresses that differ: by a fact of the context first
-- a def entered: what is left is its body

theorem rowsC2_4 : True := by
  k_with "kroom" => ((try simp only [depth_under_make, depth_under_kw, depth_in1, depth_deeper, depth_caller, recursionLimit] at *); omega)
  k_with "kne" => (refine neN ?_; (try dsimp only); first | with_reducible assumption | exact Nat.ne_of_lt (by with_reducible assumption) | exact Nat.ne_of_gt (by with_reducible assumption) | exact Ne.symm (by with_reducible assumption) | (refine' Nat.ne_of_lt (Nat.lt_trans ?z4xh1 ?z4xh2); (case z4xh2 => with_reducible assumption); (case z4xh1 => with_reducible assumption)) | (refine' Nat.ne_of_gt (Nat.lt_trans ?z4xh1 ?z4xh2); (case z4xh2 => with_reducible assumption); (case z4xh1 => with_reducible assumption)) | omega)
  k_with "spl" => first | (refine' Spl.cons ?z5xsp; (case z5xsp => walk_at "spl")) | exact Spl.nil
  k_with "enter" => ((case k6 => k_is); (case k7 => k_is); (case k8 => k_room); (case k9 => exact BindsTo.of_eq rfl); (case c5 => decide); (case kB => exact locs rfl); (case c2 => exact rfl); (case c3 => exact rfl); (case c4 => exact rfl))
  k_with "enterV" => ((case k6 => k_is); (case k7 => k_is); (case k8 => k_room); (case kP => exact rfl); (case kG => exact fun _ => rfl); (case c5 => decide); (case kB => exact fun _ => locs rfl); (case c2 => exact rfl); (case c3 => exact rfl); (case c4 => exact rfl))
  k_with "apart" => first | exact apNil | (refine apCons (by assumption) ?_; walk_at "apart")
  k_with "allne" => first | with_reducible assumption | exact List.forall_mem_nil _ | (refine' fa_cons ?z9xfh ?z9xft; (case z9xfh => k_ne); (case z9xft => walk_at "allne"))
  k_with "sub" => first | exact subNil | exact fun _ h => h | (refine' subCons ?z10xs1 ?z10xs2; (case z10xs1 => k_mem); (case z10xs2 => walk_at "sub")) | (refine' subTail ?z10xs3; (case z10xs3 => walk_at "sub"))
  k_with "pick" => first | exact Pick.head | (refine' Pick.tail ?z11xpk; (case z11xpk => walk_at "pick"))
  k_with "leave" => (refine' ⟨_, _, _, ?z12xka, ?z12xkb, ?z12xkc⟩; (case z12xka => k_asm); (case z12xkb => k_asm); intro _ _ kA; (have na9 := np_of kA (by walk_at "spl")); (repeat (have hx9 := np_head na9; revert hx9; intro _; replace na9 := np_tail na9)); clear na9; replace kA := np_tl kA (by walk_at "spl"); revert kA; intro _)
  k_with "call builtin:dict.get" => (k_here; k_dflt (refine kdg_get1 (knd := PySem.strKind _ _) (by k_asm) (by k_mem) (by k_asm) (by k_asm) (strKind_is _ _ _ _) _ (by assumption) ?_); (try dsimp only [Option.getD]))
  k_with "setItem ref str" => (k_here; k_dflt (refine' kda_set (knd := PySem.strKind _ _) ?z14xF ?z14xN ?z14xU ?z14xd (strKind_is _ _ _ _) ?z14xz ?_; (case z14xF => k_asm); (case z14xN => k_asm); (case z14xU => k_updF); (case z14xd => k_asm); (case z14xz => assumption)); intro _ _ _ N' hd'; (try dsimp only at N'); revert N' hd'; intro _ _)
  trivial
section
variable {w : World} {A₀ : Around} {s : Shared} {base h₀ : Heap} {outer : List Env} {L : Addr} {m : Str → Option Value} {env : Env} {rest : Led}
  {R : Result → Shared → Prop} {mean : ExcName → Option Value} {mg mb : Str → Option Value} {d u : Nat} {g : Option (List Code)}
  {self sd D I : Nat} {t1 t2 t3 t4 tk : Tok} {v2 v3 v4 : Value} {oD : Obj} {kvs : List (Str × Value)} {node : Str}

theorem getinfo_hit
  (B : Below A₀ base outer h₀) (F : Fr h₀ L s.heap m) (X₀ : (hd.heap_39 w.params).In h₀) (T : Tp mean mg mb h₀)
  (hf : env.frame = some L) (hke : env.scope.kind = .function) (hroom : d + 20 < 1000)
  (N : News h₀ L s.heap ((self, instObj 158 sd) :: (sd, sdO w t1 t2 t3 t4 (.ref D) v2 v3 v4) :: (D, oD) :: rest))
  (a1 : ∀ p ∈ rest, p.1 ≠ self) (a2 : ∀ p ∈ rest, p.1 ≠ sd) (a3 : ∀ p ∈ rest, p.1 ≠ D)
  (hD : Dk w oD kvs) (lo : (D == sysModules) = false) (hget : PySem.valueAt kvs node = some (.ref I))
  (k : ∀ h' tk', Fr h₀ L h' m → News h₀ L h' ((self, instObj 158 sd) :: (sd, sdO w t1 t2 t3 t4 (.ref D) v2 v3 v4) :: (D, oD) :: rest) → R (.ok (.ret (.ref I))) { s with heap := h', toks := tk' }) :
  codeAny (model PySem.Challenge.rw_mr0322_01.row.prog w) (Ar d env outer g u) (.call (.ref 101) ⟨[.ref self, .str node tk], []⟩) R s := by
  replace hD : Obj.IsDictOf (PySem.strKind PySem.Challenge.rw_mr0322_01.row.prog w) oD kvs := hD
  k_dflt (refine' callF (fp := [(self, instObj 158 sd), (sd, sdO w t1 t2 t3 t4 (.ref D) v2 v3 v4), (D, oD)]) (binds := [(Str.ofString "self", .ref self), (Str.ofString "node", .str node tk)]) B F X₀ (by exact N) (by walk_at "apart") T rfl hf hke ?k6 ?k7 ?k8 ?k9 ?kB ?_ ?c2 ?c3 ?c4 ?c5)
  walk_at "enter"
  intro g' L' h' st F' N' B' X' T'
  try dsimp only
  k_fold
  k_steps
  exact ⟨_, _, _, by k_asm, by k_asm, fun kF kN _ => k _ _ kF kN⟩

theorem getinfo_miss
  (B : Below A₀ base outer h₀) (F : Fr h₀ L s.heap m) (X₀ : (hd.heap_39 w.params).In h₀) (T : Tp mean mg mb h₀)
  (hf : env.frame = some L) (hke : env.scope.kind = .function) (hroom : d + 20 < 1000)
  (N : News h₀ L s.heap ((self, instObj 158 sd) :: (sd, sdO w t1 t2 t3 t4 (.ref D) v2 v3 v4) :: (D, oD) :: rest))
  (a1 : ∀ p ∈ rest, p.1 ≠ self) (a2 : ∀ p ∈ rest, p.1 ≠ sd) (a3 : ∀ p ∈ rest, p.1 ≠ D) (n2 : self ≠ D) (n3 : sd ≠ D)
  (hD : Dk w oD kvs) (lo : (D == sysModules) = false) (hget : PySem.valueAt kvs node = none) (hsz : kvs.length ≤ sizeLine)
  (k : ∀ h' tk' (I dI S : Nat) pt oD', Fr h₀ L h' m →
      News h₀ L h' ((S, listOf #[] 0) :: (I, infO dI node tk 0 pt S) :: (dI, dictOf [] 0) :: (self, instObj 158 sd) :: (sd, sdO w t1 t2 t3 t4 (.ref D) v2 v3 v4) :: (D, oD') :: rest) →
      Dk w oD' (PySem.stored kvs node (.ref I)) →
      (∀ p ∈ (I, infO dI node tk 0 pt S) :: (dI, dictOf [] 0) :: (self, instObj 158 sd) :: (sd, sdO w t1 t2 t3 t4 (.ref D) v2 v3 v4) :: (D, oD') :: rest, p.1 ≠ S) →
      (∀ p ∈ (dI, dictOf [] 0) :: (self, instObj 158 sd) :: (sd, sdO w t1 t2 t3 t4 (.ref D) v2 v3 v4) :: (D, oD') :: rest, p.1 ≠ I) →
      (∀ p ∈ (self, instObj 158 sd) :: (sd, sdO w t1 t2 t3 t4 (.ref D) v2 v3 v4) :: (D, oD') :: rest, p.1 ≠ dI) →
      R (.ok (.ret (.ref I))) { s with heap := h', toks := tk' }) :
  codeAny (model PySem.Challenge.rw_mr0322_01.row.prog w) (Ar d env outer g u) (.call (.ref 101) ⟨[.ref self, .str node tk], []⟩) R s := by
  replace hD : Obj.IsDictOf (PySem.strKind PySem.Challenge.rw_mr0322_01.row.prog w) oD kvs := hD
  k_dflt (refine' callF (fp := [(self, instObj 158 sd), (sd, sdO w t1 t2 t3 t4 (.ref D) v2 v3 v4), (D, oD)]) (binds := [(Str.ofString "self", .ref self), (Str.ofString "node", .str node tk)]) B F X₀ (by exact N) (by walk_at "apart") T rfl hf hke ?k6 ?k7 ?k8 ?k9 ?kB ?_ ?c2 ?c3 ?c4 ?c5)
  walk_at "enter"
  intro g' L' h' st F' N' B' X' T'
  try dsimp only
  k_fold
  k_steps
  walk_at "leave"
  exact k _ _ _ _ _ _ _ (by k_asm) (by k_asm) (by k_asm) (by walk_at "allne") (by walk_at "allne") (by walk_at "allne")
end
theorem noneC3 : True := by
  k_with_none
  trivial
-- addresses that differ: by a fact of the context first
-- a def entered: what is left is its body
theorem rowsC3_3 : True := by
  k_with "kroom" => ((try simp only [depth_under_make, depth_under_kw, depth_in1, depth_deeper, depth_caller, recursionLimit] at *); omega)
  k_with "kne" => (refine neN ?_; (try dsimp only); first | with_reducible assumption | exact Nat.ne_of_lt (by with_reducible assumption) | exact Nat.ne_of_gt (by with_reducible assumption) | exact Ne.symm (by with_reducible assumption) | (refine' Nat.ne_of_lt (Nat.lt_trans ?z16xh1 ?z16xh2); (case z16xh2 => with_reducible assumption); (case z16xh1 => with_reducible assumption)) | (refine' Nat.ne_of_gt (Nat.lt_trans ?z16xh1 ?z16xh2); (case z16xh2 => with_reducible assumption); (case z16xh1 => with_reducible assumption)) | omega)
  k_with "spl" => first | (refine' Spl.cons ?z17xsp; (case z17xsp => walk_at "spl")) | exact Spl.nil
  k_with "enter" => ((case k6 => k_is); (case k7 => k_is); (case k8 => k_room); (case k9 => exact BindsTo.of_eq rfl); (case c5 => decide); (case kB => exact locs rfl); (case c2 => exact rfl); (case c3 => exact rfl); (case c4 => exact rfl))
  k_with "enterV" => ((case k6 => k_is); (case k7 => k_is); (case k8 => k_room); (case kP => exact rfl); (case kG => exact fun _ => rfl); (case c5 => decide); (case kB => exact fun _ => locs rfl); (case c2 => exact rfl); (case c3 => exact rfl); (case c4 => exact rfl))
  k_with "apart" => first | exact apNil | (refine apCons (by assumption) ?_; walk_at "apart")
  k_with "allne" => first | with_reducible assumption | exact List.forall_mem_nil _ | (refine' fa_cons ?z21xfh ?z21xft; (case z21xfh => k_ne); (case z21xft => walk_at "allne"))
  k_with "sub" => first | exact subNil | exact fun _ h => h | (refine' subCons ?z22xs1 ?z22xs2; (case z22xs1 => k_mem); (case z22xs2 => walk_at "sub")) | (refine' subTail ?z22xs3; (case z22xs3 => walk_at "sub"))
  k_with "pick" => first | exact Pick.head | (refine' Pick.tail ?z23xpk; (case z23xpk => walk_at "pick"))
  k_with "leave" => (refine' ⟨_, _, _, ?z24xka, ?z24xkb, ?z24xkc⟩; (case z24xka => k_asm); (case z24xkb => k_asm); intro _ _ kA; (have na9 := np_of kA (by walk_at "spl")); (repeat (have hx9 := np_head na9; revert hx9; intro _; replace na9 := np_tail na9)); clear na9; replace kA := np_tl kA (by walk_at "spl"); revert kA; intro _)
  trivial
theorem v_st {kvs : List (Str × Value)} {n p : Str} {v : Value} {r : Option Value} (h : ∀ v, PySem.valueAt (PySem.stored kvs n v) p = r) : PySem.valueAt (PySem.stored kvs n v) p = r := h v

theorem rowsC3_17 : True := by
  k_with "call ref" => (k_here; (with_reducible show wpAny _ _ (call (Value.ref 101) _ _) _ _ _); k_dflt (refine wpAny_call ?_; refine' getinfo_miss ?z25xkB ?z25xkF ?z25xkX ?z25xkT rfl rfl ?z25xkr (pick2 (pick1 (pick0 ?z25xkN ?z25xp1) ?z25xp2) ?z25xp3) ?z25xa1 ?z25xa2 ?z25xa3 ?z25xn2 ?z25xn3 ?z25xkD ?z25xkl ?z25xkg ?z25xkz ?_; (case z25xkB => k_asm); (case z25xkF => k_asm); (case z25xkX => k_asm); (case z25xkT => k_asm); (case z25xkN => k_asm); (case z25xp1 => walk_at "pick"); (case z25xp2 => walk_at "pick"); (case z25xp3 => walk_at "pick"); (case z25xkD => k_asm); (case z25xkl => k_asm); (case z25xkg => (first | assumption | exact v_st (by assumption) | solve_by_elim)); (case z25xkz => (first | assumption | exact v_st (by assumption) | solve_by_elim)); (case z25xkr => k_room); (case z25xa1 => walk_at "allne"); (case z25xa2 => walk_at "allne"); (case z25xa3 => walk_at "allne"); (case z25xn2 => k_ne); (case z25xn3 => k_ne)); intro _ _ _ _ _ _ _ _ _ _ e1 e2 e3; (repeat (have hx9 := fa_head e1; revert hx9; intro _; replace e1 := fa_tail e1)); revert e1; intro _; (repeat (have hx9 := fa_head e2; revert hx9; intro _; replace e2 := fa_tail e2)); revert e2; intro _; (repeat (have hx9 := fa_head e3; revert hx9; intro _; replace e3 := fa_tail e3)); revert e3; intro _; (try dsimp only))
  k_with "call ref" => (k_here; (with_reducible show wpAny _ _ (call (Value.ref 101) _ _) _ _ _); k_dflt (refine wpAny_call ?_; refine' getinfo_hit ?z26xkB ?z26xkF ?z26xkX ?z26xkT rfl rfl ?z26xkr (pick2 (pick1 (pick0 ?z26xkN ?z26xp1) ?z26xp2) ?z26xp3) ?z26xa1 ?z26xa2 ?z26xa3 ?z26xkD ?z26xkl ?z26xkg ?_; (case z26xkB => k_asm); (case z26xkF => k_asm); (case z26xkX => k_asm); (case z26xkT => k_asm); (case z26xkN => k_asm); (case z26xp1 => walk_at "pick"); (case z26xp2 => walk_at "pick"); (case z26xp3 => walk_at "pick"); (case z26xkD => k_asm); (case z26xkl => k_asm); (case z26xkg => (first | assumption | exact v_st (by assumption) | solve_by_elim)); (case z26xkr => k_room); (case z26xa1 => walk_at "allne"); (case z26xa2 => walk_at "allne"); (case z26xa3 => walk_at "allne")); intro _ _ _ _; (try dsimp only))
  trivial
section
variable {w : World} {A₀ : Around} {s : Shared} {base h₀ : Heap} {outer : List Env} {L : Addr} {m : Str → Option Value} {env : Env} {rest : Led}
  {R : Result → Shared → Prop} {mean : ExcName → Option Value} {mg mb : Str → Option Value} {d u : Nat} {g : Option (List Code)}
  {self sd D I0 dI0 S0 J dJ W : Nat} {t1 t2 t3 t4 t5 t6 t7 t8 tk tk2 : Tok} {v3 v4 : Value} {oD : Obj} {kvs : List (Str × Value)} {node pred : Str} {np0 np1 : Int} {its its2 : Array Value} {ep ep2 : Nat}

theorem add0
  (B : Below A₀ base outer h₀) (F : Fr h₀ L s.heap m) (X₀ : (hd.heap_39 w.params).In h₀) (T : Tp mean mg mb h₀)
  (hf : env.frame = some L) (hke : env.scope.kind = .function) (hroom : d + 50 < 1000)
  (N : News h₀ L s.heap ((self, instObj 158 sd) :: (sd, sdO w t1 t2 t3 t4 (.ref D) .none v3 v4) :: (D, oD) :: rest))
  (a1 : ∀ p ∈ rest, p.1 ≠ self) (a2 : ∀ p ∈ rest, p.1 ≠ sd) (a3 : ∀ p ∈ rest, p.1 ≠ D) 
  (n1 : self ≠ sd) (n2 : self ≠ D) (n3 : sd ≠ D) 
  (hD : Dk w oD kvs) (lo : (D == sysModules) = false) (hget : PySem.valueAt kvs node = none) (hsz : kvs.length ≤ sizeLine)
  (k : ∀ h' tk' (I dI S : Nat) pt oD', Fr h₀ L h' m →
      News h₀ L h' ((S, listOf #[] 0) :: (I, infO dI node tk 0 pt S) :: (dI, dictOf [] 0) :: (self, instObj 158 sd) :: (sd, sdO w t1 t2 t3 t4 (.ref D) .none v3 v4) :: (D, oD') :: rest) →
      Dk w oD' (PySem.stored kvs node (.ref I)) →
      (∀ p ∈ (I, infO dI node tk 0 pt S) :: (dI, dictOf [] 0) :: (self, instObj 158 sd) :: (sd, sdO w t1 t2 t3 t4 (.ref D) .none v3 v4) :: (D, oD') :: rest, p.1 ≠ S) →
      (∀ p ∈ (dI, dictOf [] 0) :: (self, instObj 158 sd) :: (sd, sdO w t1 t2 t3 t4 (.ref D) .none v3 v4) :: (D, oD') :: rest, p.1 ≠ I) →
      (∀ p ∈ (self, instObj 158 sd) :: (sd, sdO w t1 t2 t3 t4 (.ref D) .none v3 v4) :: (D, oD') :: rest, p.1 ≠ dI) →
      R (.ok (.ret .none)) { s with heap := h', toks := tk' }) :
  codeAny (model PySem.Challenge.rw_mr0322_01.row.prog w) (Ar d env outer g u) (.call (.ref 108) ⟨[.ref self, .str node tk], []⟩) R s := by
  replace hD : Obj.IsDictOf (PySem.strKind PySem.Challenge.rw_mr0322_01.row.prog w) oD kvs := hD
  k_dflt (refine' callV (vs := []) (fp := [(self, instObj 158 sd), (sd, sdO w t1 t2 t3 t4 (.ref D) .none v3 v4), (D, oD)]) (binds := fun T0 => [(Str.ofString "self", .ref self), (Str.ofString "node", .str node tk), (Str.ofString "predecessors", .ref T0)]) B F X₀ (by exact N) (by walk_at "apart") T rfl hf hke ?k6 ?k7 ?k8 ?kP ?kG ?kB ?_ ?c2 ?c3 ?c4 ?c5)
  walk_at "enterV"
  intro T0 g' L' h' l1 st F' N' B' X' T'
  try dsimp only
  k_fold
  k_lt l1
  k_steps
  walk_at "leave"
  k_dflt (refine' k _ _ _ _ _ _ _ (by k_asm) (News.sub (by k_asm) ?ks) ?ke ?f1 ?f2 ?f3)
  case ks => k_dflt (walk_at "sub")
  case ke => k_asm
  case f1 => walk_at "allne"
  case f2 => walk_at "allne"
  case f3 => walk_at "allne"

theorem add1
  (B : Below A₀ base outer h₀) (F : Fr h₀ L s.heap m) (X₀ : (hd.heap_39 w.params).In h₀) (T : Tp mean mg mb h₀)
  (hf : env.frame = some L) (hke : env.scope.kind = .function) (hroom : d + 50 < 1000)
  (N : News h₀ L s.heap ((self, instObj 158 sd) :: (sd, sdO w t1 t2 t3 t4 (.ref D) .none v3 v4) :: (D, oD) :: (I0, infO dI0 pred t5 np0 t6 S0) :: (dI0, dictOf [] 0) :: (S0, listOf its ep) :: rest))
  (a1 : ∀ p ∈ rest, p.1 ≠ self) (a2 : ∀ p ∈ rest, p.1 ≠ sd) (a3 : ∀ p ∈ rest, p.1 ≠ D) (a4 : ∀ p ∈ rest, p.1 ≠ I0) (a5 : ∀ p ∈ rest, p.1 ≠ dI0) (a6 : ∀ p ∈ rest, p.1 ≠ S0) 
  (n1 : self ≠ sd) (n2 : self ≠ D) (n3 : self ≠ I0) (n4 : self ≠ dI0) (n5 : self ≠ S0) (n6 : sd ≠ D) (n7 : sd ≠ I0) (n8 : sd ≠ dI0) (n9 : sd ≠ S0) (n10 : D ≠ I0) (n11 : D ≠ dI0) (n12 : D ≠ S0) (n13 : I0 ≠ dI0) (n14 : I0 ≠ S0) (n15 : dI0 ≠ S0) 
  (hD : Dk w oD kvs) (lo : (D == sysModules) = false) (hget : PySem.valueAt kvs node = none) (hg2 : ∀ v, PySem.valueAt (PySem.stored kvs node v) pred = some (.ref I0)) (hsz : kvs.length ≤ sizeLine) (hs2 : its.size ≤ sizeLine)
  (k : ∀ h' tk' (I dI S : Nat) pt oD', Fr h₀ L h' m →
      News h₀ L h' ((S, listOf #[] 0) :: (I, infO dI node tk 1 pt S) :: (dI, dictOf [] 0) :: (self, instObj 158 sd) :: (sd, sdO w t1 t2 t3 t4 (.ref D) .none v3 v4) :: (D, oD') :: (I0, infO dI0 pred t5 np0 t6 S0) :: (dI0, dictOf [] 0) :: (S0, listOf (its.push (.str node tk)) (ep + 1)) :: rest) →
      Dk w oD' (PySem.stored kvs node (.ref I)) →
      (∀ p ∈ (I, infO dI node tk 1 pt S) :: (dI, dictOf [] 0) :: (self, instObj 158 sd) :: (sd, sdO w t1 t2 t3 t4 (.ref D) .none v3 v4) :: (D, oD') :: (I0, infO dI0 pred t5 np0 t6 S0) :: (dI0, dictOf [] 0) :: (S0, listOf (its.push (.str node tk)) (ep + 1)) :: rest, p.1 ≠ S) →
      (∀ p ∈ (dI, dictOf [] 0) :: (self, instObj 158 sd) :: (sd, sdO w t1 t2 t3 t4 (.ref D) .none v3 v4) :: (D, oD') :: (I0, infO dI0 pred t5 np0 t6 S0) :: (dI0, dictOf [] 0) :: (S0, listOf (its.push (.str node tk)) (ep + 1)) :: rest, p.1 ≠ I) →
      (∀ p ∈ (self, instObj 158 sd) :: (sd, sdO w t1 t2 t3 t4 (.ref D) .none v3 v4) :: (D, oD') :: (I0, infO dI0 pred t5 np0 t6 S0) :: (dI0, dictOf [] 0) :: (S0, listOf (its.push (.str node tk)) (ep + 1)) :: rest, p.1 ≠ dI) →
      R (.ok (.ret .none)) { s with heap := h', toks := tk' }) :
  codeAny (model PySem.Challenge.rw_mr0322_01.row.prog w) (Ar d env outer g u) (.call (.ref 108) ⟨[.ref self, .str node tk, .str pred tk2], []⟩) R s := by
  replace hD : Obj.IsDictOf (PySem.strKind PySem.Challenge.rw_mr0322_01.row.prog w) oD kvs := hD
  k_dflt (refine' callV (vs := [.str pred tk2]) (fp := [(self, instObj 158 sd), (sd, sdO w t1 t2 t3 t4 (.ref D) .none v3 v4), (D, oD), (I0, infO dI0 pred t5 np0 t6 S0), (dI0, dictOf [] 0), (S0, listOf its ep)]) (binds := fun T0 => [(Str.ofString "self", .ref self), (Str.ofString "node", .str node tk), (Str.ofString "predecessors", .ref T0)]) B F X₀ (by exact N) (by walk_at "apart") T rfl hf hke ?k6 ?k7 ?k8 ?kP ?kG ?kB ?_ ?c2 ?c3 ?c4 ?c5)
  walk_at "enterV"
  intro T0 g' L' h' l1 st F' N' B' X' T'
  try dsimp only
  k_fold
  k_lt l1
  k_steps
  walk_at "leave"
  k_dflt (refine' k _ _ _ _ _ _ _ (by k_asm) (News.sub (by k_asm) ?ks) ?ke ?f1 ?f2 ?f3)
  case ks => k_dflt (walk_at "sub")
  case ke => k_asm
  case f1 => walk_at "allne"
  case f2 => walk_at "allne"
  case f3 => walk_at "allne"

theorem add2
  (B : Below A₀ base outer h₀) (F : Fr h₀ L s.heap m) (X₀ : (hd.heap_39 w.params).In h₀) (T : Tp mean mg mb h₀)
  (hf : env.frame = some L) (hke : env.scope.kind = .function) (hroom : d + 50 < 1000)
  (N : News h₀ L s.heap ((self, instObj 158 sd) :: (sd, sdO w t1 t2 t3 t4 (.ref D) .none v3 v4) :: (D, oD) :: rest))
  (a1 : ∀ p ∈ rest, p.1 ≠ self) (a2 : ∀ p ∈ rest, p.1 ≠ sd) (a3 : ∀ p ∈ rest, p.1 ≠ D) 
  (n1 : self ≠ sd) (n2 : self ≠ D) (n3 : sd ≠ D) 
  (hD : Dk w oD kvs) (lo : (D == sysModules) = false) (hget : PySem.valueAt kvs node = none) (hg2 : ∀ v, PySem.valueAt (PySem.stored kvs node v) pred = none) (hsz : kvs.length ≤ sizeLine) (hs2 : ∀ v, (PySem.stored kvs node v).length ≤ sizeLine)
  (k : ∀ h' tk' (I dI S J dJ W : Nat) pt pt2 oD', Fr h₀ L h' m →
      News h₀ L h' ((W, listOf (#[].push (.str node tk)) 1) :: (J, infO dJ pred tk2 0 pt2 W) :: (dJ, dictOf [] 0) :: (S, listOf #[] 0) :: (I, infO dI node tk 1 pt S) :: (dI, dictOf [] 0) :: (self, instObj 158 sd) :: (sd, sdO w t1 t2 t3 t4 (.ref D) .none v3 v4) :: (D, oD') :: rest) →
      Dk w oD' (PySem.stored (PySem.stored kvs node (.ref I)) pred (.ref J)) →
      (∀ p ∈ (J, infO dJ pred tk2 0 pt2 W) :: (dJ, dictOf [] 0) :: (S, listOf #[] 0) :: (I, infO dI node tk 1 pt S) :: (dI, dictOf [] 0) :: (self, instObj 158 sd) :: (sd, sdO w t1 t2 t3 t4 (.ref D) .none v3 v4) :: (D, oD') :: rest, p.1 ≠ W) →
      (∀ p ∈ (dJ, dictOf [] 0) :: (S, listOf #[] 0) :: (I, infO dI node tk 1 pt S) :: (dI, dictOf [] 0) :: (self, instObj 158 sd) :: (sd, sdO w t1 t2 t3 t4 (.ref D) .none v3 v4) :: (D, oD') :: rest, p.1 ≠ J) →
      (∀ p ∈ (S, listOf #[] 0) :: (I, infO dI node tk 1 pt S) :: (dI, dictOf [] 0) :: (self, instObj 158 sd) :: (sd, sdO w t1 t2 t3 t4 (.ref D) .none v3 v4) :: (D, oD') :: rest, p.1 ≠ dJ) →
      (∀ p ∈ (I, infO dI node tk 1 pt S) :: (dI, dictOf [] 0) :: (self, instObj 158 sd) :: (sd, sdO w t1 t2 t3 t4 (.ref D) .none v3 v4) :: (D, oD') :: rest, p.1 ≠ S) →
      (∀ p ∈ (dI, dictOf [] 0) :: (self, instObj 158 sd) :: (sd, sdO w t1 t2 t3 t4 (.ref D) .none v3 v4) :: (D, oD') :: rest, p.1 ≠ I) →
      (∀ p ∈ (self, instObj 158 sd) :: (sd, sdO w t1 t2 t3 t4 (.ref D) .none v3 v4) :: (D, oD') :: rest, p.1 ≠ dI) →
      R (.ok (.ret .none)) { s with heap := h', toks := tk' }) :
  codeAny (model PySem.Challenge.rw_mr0322_01.row.prog w) (Ar d env outer g u) (.call (.ref 108) ⟨[.ref self, .str node tk, .str pred tk2], []⟩) R s := by
  replace hD : Obj.IsDictOf (PySem.strKind PySem.Challenge.rw_mr0322_01.row.prog w) oD kvs := hD
  k_dflt (refine' callV (vs := [.str pred tk2]) (fp := [(self, instObj 158 sd), (sd, sdO w t1 t2 t3 t4 (.ref D) .none v3 v4), (D, oD)]) (binds := fun T0 => [(Str.ofString "self", .ref self), (Str.ofString "node", .str node tk), (Str.ofString "predecessors", .ref T0)]) B F X₀ (by exact N) (by walk_at "apart") T rfl hf hke ?k6 ?k7 ?k8 ?kP ?kG ?kB ?_ ?c2 ?c3 ?c4 ?c5)
  walk_at "enterV"
  intro T0 g' L' h' l1 st F' N' B' X' T'
  try dsimp only
  k_fold
  k_lt l1
  k_steps
  walk_at "leave"
  k_dflt (refine' k _ _ _ _ _ _ _ _ _ _ _ (by k_asm) (News.sub (by k_asm) ?ks) ?ke ?f1 ?f2 ?f3 ?f4 ?f5 ?f6)
  case ks => k_dflt (walk_at "sub")
  case ke => k_asm
  case f1 => walk_at "allne"
  case f2 => walk_at "allne"
  case f3 => walk_at "allne"
  case f4 => walk_at "allne"
  case f5 => walk_at "allne"
  case f6 => walk_at "allne"

theorem add3
  (B : Below A₀ base outer h₀) (F : Fr h₀ L s.heap m) (X₀ : (hd.heap_39 w.params).In h₀) (T : Tp mean mg mb h₀)
  (hf : env.frame = some L) (hke : env.scope.kind = .function) (hroom : d + 50 < 1000)
  (N : News h₀ L s.heap ((self, instObj 158 sd) :: (sd, sdO w t1 t2 t3 t4 (.ref D) .none v3 v4) :: (D, oD) :: (I0, infO dI0 node t5 np0 t6 S0) :: (dI0, dictOf [] 0) :: (J, infO dJ pred t7 np1 t8 W) :: (dJ, dictOf [] 0) :: (W, listOf its ep) :: rest))
  (a1 : ∀ p ∈ rest, p.1 ≠ self) (a2 : ∀ p ∈ rest, p.1 ≠ sd) (a3 : ∀ p ∈ rest, p.1 ≠ D) (a4 : ∀ p ∈ rest, p.1 ≠ I0) (a5 : ∀ p ∈ rest, p.1 ≠ dI0) (a6 : ∀ p ∈ rest, p.1 ≠ J) (a7 : ∀ p ∈ rest, p.1 ≠ dJ) (a8 : ∀ p ∈ rest, p.1 ≠ W) 
  (n1 : self ≠ sd) (n2 : self ≠ D) (n3 : self ≠ I0) (n4 : self ≠ dI0) (n5 : self ≠ J) (n6 : self ≠ dJ) (n7 : self ≠ W) (n8 : sd ≠ D) (n9 : sd ≠ I0) (n10 : sd ≠ dI0) (n11 : sd ≠ J) (n12 : sd ≠ dJ) (n13 : sd ≠ W) (n14 : D ≠ I0) (n15 : D ≠ dI0) (n16 : D ≠ J) (n17 : D ≠ dJ) (n18 : D ≠ W) (n19 : I0 ≠ dI0) (n20 : I0 ≠ J) (n21 : I0 ≠ dJ) (n22 : I0 ≠ W) (n23 : dI0 ≠ J) (n24 : dI0 ≠ dJ) (n25 : dI0 ≠ W) (n26 : J ≠ dJ) (n27 : J ≠ W) (n28 : dJ ≠ W) 
  (hD : Dk w oD kvs) (lo : (D == sysModules) = false) (hget : PySem.valueAt kvs node = some (.ref I0)) (hg2 : PySem.valueAt kvs pred = some (.ref J)) (hs2 : its.size ≤ sizeLine)
  (k : ∀ h' tk' pt, Fr h₀ L h' m →
      News h₀ L h' ((self, instObj 158 sd) :: (sd, sdO w t1 t2 t3 t4 (.ref D) .none v3 v4) :: (D, oD) :: (I0, infO dI0 node t5 (np0 + 1) pt S0) :: (dI0, dictOf [] 0) :: (J, infO dJ pred t7 np1 t8 W) :: (dJ, dictOf [] 0) :: (W, listOf (its.push (.str node tk)) (ep + 1)) :: rest) →
      
      
      R (.ok (.ret .none)) { s with heap := h', toks := tk' }) :
  codeAny (model PySem.Challenge.rw_mr0322_01.row.prog w) (Ar d env outer g u) (.call (.ref 108) ⟨[.ref self, .str node tk, .str pred tk2], []⟩) R s := by
  replace hD : Obj.IsDictOf (PySem.strKind PySem.Challenge.rw_mr0322_01.row.prog w) oD kvs := hD
  k_dflt (refine' callV (vs := [.str pred tk2]) (fp := [(self, instObj 158 sd), (sd, sdO w t1 t2 t3 t4 (.ref D) .none v3 v4), (D, oD), (I0, infO dI0 node t5 np0 t6 S0), (dI0, dictOf [] 0), (J, infO dJ pred t7 np1 t8 W), (dJ, dictOf [] 0), (W, listOf its ep)]) (binds := fun T0 => [(Str.ofString "self", .ref self), (Str.ofString "node", .str node tk), (Str.ofString "predecessors", .ref T0)]) B F X₀ (by exact N) (by walk_at "apart") T rfl hf hke ?k6 ?k7 ?k8 ?kP ?kG ?kB ?_ ?c2 ?c3 ?c4 ?c5)
  walk_at "enterV"
  intro T0 g' L' h' l1 st F' N' B' X' T'
  try dsimp only
  k_fold
  k_lt l1
  k_steps
  walk_at "leave"
  k_dflt (refine' k _ _ _ (by k_asm) (News.sub (by k_asm) ?ks) )
  case ks => k_dflt (walk_at "sub")
end
theorem noneC4 : True := by
  k_with_none
  trivial
-- addresses that differ: by a fact of the context first
-- a def entered: what is left is its body
theorem rowsC4_3 : True := by
  k_with "kroom" => ((try simp only [depth_under_make, depth_under_kw, depth_in1, depth_deeper, depth_caller, recursionLimit] at *); omega)
  k_with "kne" => (refine neN ?_; (try dsimp only); first | with_reducible assumption | exact Nat.ne_of_lt (by with_reducible assumption) | exact Nat.ne_of_gt (by with_reducible assumption) | exact Ne.symm (by with_reducible assumption) | (refine' Nat.ne_of_lt (Nat.lt_trans ?z28xh1 ?z28xh2); (case z28xh2 => with_reducible assumption); (case z28xh1 => with_reducible assumption)) | (refine' Nat.ne_of_gt (Nat.lt_trans ?z28xh1 ?z28xh2); (case z28xh2 => with_reducible assumption); (case z28xh1 => with_reducible assumption)) | omega)
  k_with "spl" => first | (refine' Spl.cons ?z29xsp; (case z29xsp => walk_at "spl")) | exact Spl.nil
  k_with "enter" => ((case k6 => k_is); (case k7 => k_is); (case k8 => k_room); (case k9 => exact BindsTo.of_eq rfl); (case c5 => decide); (case kB => exact locs rfl); (case c2 => exact rfl); (case c3 => exact rfl); (case c4 => exact rfl))
  k_with "enterV" => ((case k6 => k_is); (case k7 => k_is); (case k8 => k_room); (case kP => exact rfl); (case kG => exact fun _ => rfl); (case c5 => decide); (case kB => exact fun _ => locs rfl); (case c2 => exact rfl); (case c3 => exact rfl); (case c4 => exact rfl))
  k_with "apart" => first | exact apNil | (refine apCons (by assumption) ?_; walk_at "apart")
  k_with "allne" => first | with_reducible assumption | exact List.forall_mem_nil _ | (refine' fa_cons ?z33xfh ?z33xft; (case z33xfh => k_ne); (case z33xft => walk_at "allne"))
  k_with "sub" => first | exact subNil | exact fun _ h => h | (refine' subCons ?z34xs1 ?z34xs2; (case z34xs1 => k_mem); (case z34xs2 => walk_at "sub")) | (refine' subTail ?z34xs3; (case z34xs3 => walk_at "sub"))
  k_with "pick" => first | exact Pick.head | (refine' Pick.tail ?z35xpk; (case z35xpk => walk_at "pick"))
  k_with "leave" => (refine' ⟨_, _, _, ?z36xka, ?z36xkb, ?z36xkc⟩; (case z36xka => k_asm); (case z36xkb => k_asm); intro _ _ kA; (have na9 := np_of kA (by walk_at "spl")); (repeat (have hx9 := np_head na9; revert hx9; intro _; replace na9 := np_tail na9)); clear na9; replace kA := np_tl kA (by walk_at "spl"); revert kA; intro _)
  trivial
/-- the seven signs, by their numbers -/
noncomputable abbrev sg7 : List Nat := [38, 60, 62, 34, 13, 10, 9]
/-- where a sign stands -/
noncomputable def ixS (c : Nat) : Int := if c = 38 then 0 else if c = 60 then 1 else if c = 62 then 2 else if c = 34 then 3 else if c = 13 then 4 else if c = 10 then 5 else 6
/-- a sign's name -/
noncomputable def nmS (c : Nat) : Str := if c = 38 then Str.ofString "&amp;" else if c = 60 then Str.ofString "&lt;" else if c = 62 then Str.ofString "&gt;" else if c = 34 then Str.ofString "&quot;" else if c = 13 then Str.ofString "&#13;" else if c = 10 then Str.ofString "&#10;" else Str.ofString "&#09;"
noncomputable abbrev all7 : Str := Str.ofString "&<>\"\u000d\n\t"
theorem sg_cases {c : Nat} (h : c ∈ sg7) {P : Nat → Prop} (h0 : P 38) (h1 : P 60) (h2 : P 62) (h3 : P 34) (h4 : P 13) (h5 : P 10) (h6 : P 9) : P c := by
  simp only [sg7, List.mem_cons, List.not_mem_nil, or_false] at h
  rcases h with rfl | rfl | rfl | rfl | rfl | rfl | rfl <;> assumption
theorem law_idx {prog : Program} {w : World} {A : Around} {E : Value → Shared → Prop} {s : Shared} {t u : Tok} {c : Nat} {Q : Value → Shared → Prop} (hA : A.handled = none) (hc : c ∈ sg7) (h : Q (.int (ixS c) s.toks) { s with toks := s.toks + 1 }) :
    wpAny (model prog w) A (call (.builtin "str.index") [.str all7 t, .str ⟨#[c]⟩ u]) Q E s := by
  have hf : Txt.find all7 ⟨#[c]⟩ = ixS c := sg_cases hc (P := fun c => Txt.find all7 ⟨#[c]⟩ = ixS c) (by decide +kernel) (by decide +kernel) (by decide +kernel) (by decide +kernel) (by decide +kernel) (by decide +kernel) (by decide +kernel)
  have hn : ixS c ≠ -1 := sg_cases hc (P := fun c => ixS c ≠ -1) (by decide) (by decide) (by decide) (by decide) (by decide) (by decide) (by decide)
  refine index_or hA (fun e => absurd (hf.symm.trans e) hn) fun _ _ => ?_
  rw [hf]; exact h
theorem law_item {prog : Program} {w : World} {A : Around} {E : Value → Shared → Prop} {s : Shared} {value slice : PySem.Expr} {l : Addr} {t0 t1 t2 t3 t4 t5 t6 u : Tok} {c : Nat} {Q : Value → Shared → Prop} (hc : c ∈ sg7)
    (hl : s.heap.IsList l [Value.str (Str.ofString "&amp;") t0, .str (Str.ofString "&lt;") t1, .str (Str.ofString "&gt;") t2, .str (Str.ofString "&quot;") t3, .str (Str.ofString "&#13;") t4, .str (Str.ofString "&#10;") t5, .str (Str.ofString "&#09;") t6].toArray) (hn : t0 ≤ t1 ∧ t0 ≤ t2 ∧ t0 ≤ t3 ∧ t0 ≤ t4 ∧ t0 ≤ t5 ∧ t0 ≤ t6) (h : ∀ t', t0 ≤ t' → Q (.str (nmS c) t') s)
    (hs : ∀ k : Int, subscripted slice false (.ref l) (.int k u) = operate [.ref l, .int k u] (getItem (.ref l) (.int k u))) :
    wpAny (model prog w) A (subscriptTail value slice (.ref l) (.int (ixS c) u)) Q E s := by
  obtain ⟨h1, h2, h3, h4, h5, h6⟩ := hn
  refine sg_cases hc (P := fun c => (∀ t', t0 ≤ t' → Q (.str (nmS c) t') s) → wpAny (model prog w) A (subscriptTail value slice (.ref l) (.int (ixS c) u)) Q E s) ?_ ?_ ?_ ?_ ?_ ?_ ?_ h
  all_goals
    intro h
    exact item_litK hl (by decide) (by decide) (by rfl) (h _ (by first | exact Nat.le_refl _ | assumption)) (hs _)
theorem rowsC4_40 : True := by
  k_with "call builtin:str.index" => (k_here; k_dflt (refine law_idx rfl (by assumption) ?_))
  k_with "subscriptTail" => (k_here; (with_reducible show wpAny _ _ (subscriptTail _ _ (Value.ref _) (Value.int (ixS _) _)) _ _ _); k_dflt (refine law_item (by assumption) (by is_list) ⟨Nat.le_add_right _ 1, Nat.le_add_right _ 2, Nat.le_add_right _ 3, Nat.le_add_right _ 4, Nat.le_add_right _ 5, Nat.le_add_right _ 6⟩ ?_ (fun _ => by with_unfolding_all rfl)); intro _ _)
  trivial
section
variable {w : World} {A₀ : Around} {s : Shared} {base h₀ : Heap} {outer : List Env} {L : Addr} {m : Str → Option Value} {env : Env} {rest : Led}
  {R : Result → Shared → Prop} {mean : ExcName → Option Value} {mg mb : Str → Option Value} {d u : Nat} {g : Option (List Code)} {tk : Tok} {c : Nat}
theorem name_c
  (B : Below A₀ base outer h₀) (F : Fr h₀ L s.heap m) (X₀ : (hd.heap_39 w.params).In h₀) (T : Tp mean mg mb h₀)
  (hf : env.frame = some L) (hke : env.scope.kind = .function) (hroom : d + 20 < 1000) (N : News h₀ L s.heap rest) (hc : c ∈ sg7)
  (k : ∀ h' tk' t', s.toks ≤ t' → s.toks ≤ tk' → Fr h₀ L h' m → News h₀ L h' rest → R (.ok (.ret (.str (nmS c) t'))) { s with heap := h', toks := tk' }) :
  codeAny (model PySem.Challenge.rw_mr0322_01.row.prog w) (Ar d env outer g u) (.call (.ref 169) ⟨[.str ⟨#[c]⟩ tk], []⟩) R s := by
  refine codeAny_with_toks (n := s.toks) (Nat.le_refl _) ?_
  k_dflt (refine' callF (fp := []) (binds := [(Str.ofString "sign", .str ⟨#[c]⟩ tk)]) B F X₀ (by exact N) (by walk_at "apart") T rfl hf hke ?k6 ?k7 ?k8 ?k9 ?kB ?_ ?c2 ?c3 ?c4 ?c5)
  walk_at "enter"
  intro g' L' h' st F' N' B' X' T'
  try dsimp only
  k_fold
  have hle := Nat.le_add_right s.toks [(Str.ofString "sign", Value.str ⟨#[c]⟩ tk)].length
  generalize s.toks + [(Str.ofString "sign", Value.str ⟨#[c]⟩ tk)].length = tk0 at hle ⊢
  k_steps
  walk_at "leave"
  intro hlt
  exact k _ _ _ (Nat.le_trans hle (by assumption)) hlt (by k_asm) (News.sub (by k_asm) (by walk_at "sub"))
end
theorem noneC5 : True := by
  k_with_none
  trivial
section
variable {prog : Program} {w : World} {A : Around} {s : Shared} {R : Result → Shared → Prop} {E : Value → Shared → Prop} {h₀ : Heap} {L : Addr} {m : Str → Option Value} {env : Env}
theorem forW {target : PySem.Expr} {body : List Stmt} {I : Addr} {fpw : List Addr} {n : Nat} {P : Nat → Value → Prop} {St : Nat → Heap → Prop}
    (W : Walks prog w A I fpw [I] n P St) (J : Nat → Shared → Prop) (h0 : J 0 s) (hSt : ∀ i s, J i s → St i s.heap)
    (turn : ∀ i s v h' tk, i < n → J i s → P i v → St (i + 1) h' → (∀ b o, b ≠ I → s.heap.get? b = some o → h'.get? b = some o) →
      wpAny (model prog w) A (assign target env v) (fun _ s₂ => wpAny (model prog w) A (execs body env) (fun f s₃ => match f with
        | .next | .cont => J (i + 1) s₃
        | .brk => R (.ok .next) s₃
        | .ret v => R (.ok (.ret v)) s₃) (notedBy (model prog w) A env fun e s' => R (.error e) s') s₂) (notedBy (model prog w) A env fun e s' => R (.error e) s') { s with heap := h', toks := tk })
    (fin : ∀ s h' tk, J n s → (∀ b o, b ≠ I → s.heap.get? b = some o → h'.get? b = some o) → R (.ok .next) { s with heap := h', toks := tk })
    (ht : ∀ v, letOwnedTupleGo target (.ref I) v = pure () := by intro _; rfl) :
    codeAny (model prog w) A (.forLoop target (.ref I) body [] env) R s := by
  refine codeAny_forLoop (fun k s' => ∃ i, i ≤ n ∧ k = n - i ∧ J i s') ?_ n ⟨0, Nat.zero_le _, rfl, h0⟩ ht
  rintro k s' ⟨i, hi, rfl, hJ⟩
  by_cases hlt : i < n
  · refine W.item i s' _ _ hlt (hSt i s' hJ) fun v h' tk hP hst hk => ?_
    refine wpAny_mono (turn i s' v h' tk hlt hJ hP hst fun b o hb e => hk b o (fun q => hb (List.mem_singleton.mp q)) e) (fun _ s₂ h₂ => wpAny_mono h₂ (fun f s₃ h₃ => ?_) fun _ _ e => e) fun _ _ e => e
    cases f with
    | next => exact ⟨n - (i + 1), by omega, i + 1, hlt, rfl, h₃⟩
    | cont => exact ⟨n - (i + 1), by omega, i + 1, hlt, rfl, h₃⟩
    | brk => exact h₃
    | ret v => exact h₃
  · obtain rfl : i = n := Nat.le_antisymm hi (Nat.not_lt.mp hlt)
    exact W.done s' _ _ (hSt i s' hJ) fun h' tk hk => wpAny_execs_nil (fin s' h' tk hJ fun b o hb e => hk b o (fun q => hb (List.mem_singleton.mp q)) e)

/-- the values are these strs -/
noncomputable def Strs : List Str → List Value → Prop
  | [], [] => True
  | x :: xs, y :: ys => (∃ u, y = .str x u) ∧ Strs xs ys
  | _, _ => False
theorem strs_cons {x : Str} {xs : List Str} {ys : List Value} (h : Strs (x :: xs) ys) : ∃ u r, ys = .str x u :: r ∧ Strs xs r := by
  cases ys with
  | nil => exact h.elim
  | cons y r => obtain ⟨⟨u, e⟩, k⟩ := h; exact ⟨u, r, by rw [e], k⟩
theorem strs_nil {ys : List Value} (h : Strs [] ys) : ys = [] := by
  cases ys with
  | nil => rfl
  | cons y r => exact h.elim
noncomputable abbrev sg (c : Nat) : Str := ⟨#[c]⟩

theorem iterStr {x : Str} {t : Tok} {Q : Value → Shared → Prop}
    (hQ : ∀ (o : Obj) (St : Nat → Heap → Prop), (∀ A' : Around, A'.handled = none → Walks prog w A' s.heap.objs.size [s.heap.objs.size] [s.heap.objs.size] x.cps.size (SignAt x) St) →
      (∀ i h, St i h → ∃ o, h.get? s.heap.objs.size = some o) → St 0 (s.heap.push o) →
      Q (.ref s.heap.objs.size) { s with heap := s.heap.push o }) : wpAny (model prog w) A (pyIter (.str x t)) Q E s := by
  cases ha : x.cps.all (· < 128)
  · exact wpAny_pyIter_wide ha (hQ _ _ (fun A' hA => Walks.strWide hA _ x t) (fun _ _ h => let ⟨o, e, _⟩ := h; ⟨o, e⟩) ⟨_, Heap.get?_push_size _ rfl, rfl, rfl⟩)
  · exact wpAny_pyIter_ascii ha (hQ _ _ (fun A' hA => Walks.strAscii hA _ x t) (fun _ _ h => let ⟨o, e, _⟩ := h; ⟨o, e⟩) ⟨_, Heap.get?_push_size _ rfl, rfl, rfl⟩)


/-- what a comprehension of strs leaves: the values kept, in their order -/
noncomputable def MadeL (keep : Nat → Bool) (O : Nat → Value → Prop) : Nat → Nat → List Value → Prop
  | 0, _, ys => ys = []
  | k + 1, i, ys => if keep i = true then ∃ y r, ys = y :: r ∧ O i y ∧ MadeL keep O k (i + 1) r else MadeL keep O k (i + 1) ys
open LCg in
/-- one turn of a comprehension -/
noncomputable def TurnW (prog : Program) (w : World) (A : Around) (h₀ : Heap) (L : Addr) (m : Str → Option Value) (env : Env) (ifs : List PySem.Expr) (elt : PySem.Expr) (x : Str) (scope : Scope) (cl : List (Str × Addr)) (s : Shared) (P : Nat → Value → Prop)
    (keep : Nat → Bool) (O : Nat → Value → Prop) (n : Nat) (news : Led) : Prop :=
  ∀ i v ys I oI C oC D m₂ h tk (E' : Value → Shared → Prop), i < n → P i v → NsObj oC m₂ → m₂ x = some v → Fr h₀ L h m → News h₀ L h ((I, oI) :: (C, oC) :: (D, lst ys) :: news) → Off3 I C D news → ((@Ne Nat I C) ∧ (@Ne Nat I D) ∧ (@Ne Nat C D)) → s.toks ≤ tk →
    wpAny (model prog w) A (forIn ifs true fun c r => if r = true then do let ok ← isTrue c (compEnvC scope cl C env) (eval c (compEnvC scope cl C env)); pure (ForInStep.yield ok) else pure (ForInStep.yield r)) (fun ok s' => if ok = true then
      wpAny (model prog w) A (eval elt (compEnvC scope cl C env)) (CompEnd h₀ L m { s with heap := h, toks := tk } I oI C oC D (lst ys) (fun _ => True) (fun y news' => keep i = true ∧ O i y ∧ ∀ p ∈ news, p ∈ news')) E' s'
      else CompEnd h₀ L m { s with heap := h, toks := tk } I oI C oC D (lst ys) (fun _ => True) (fun _ news' => keep i = false ∧ ∀ p ∈ news, p ∈ news') Value.none s') E' { s with heap := h, toks := tk }

open LCg in
/-- the comprehension's loop -/
inductive BW (h₀ : Heap) (L : Addr) (m : Str → Option Value) (s : Shared) (St : Nat → Heap → Prop) (C D : Addr) (news : Led) (keep : Nat → Bool) (O : Nat → Value → Prop) (n k : Nat) (s' : Shared) : Prop
  | mk (h' : Heap) (tk : Tok) (i : Nat) (ys : List Value) (m' : Str → Option Value) : s' = { s with heap := h', toks := tk } → i ≤ n → k = n + 1 - i → ys.length ≤ i → St i h' → Fr h₀ L h' m → h'.Ns C m' → News h₀ L h' ((D, lst ys) :: news) → s.toks ≤ tk →
        (∀ r, MadeL keep O (n - i) i r → MadeL keep O n 0 (ys ++ r)) → BW h₀ L m s St C D news keep O n k s'
theorem sub_lt_one {n i : Nat} (h : i < n) : n + 1 - (i + 1) < n + 1 - i := Nat.sub_lt_sub_left (Nat.lt_succ_of_lt h) (Nat.lt_succ_self i)
theorem sub_one_eq {n i j : Nat} (h : n - i = j + 1) : n - (i + 1) = j := by rw [Nat.sub_succ, h]; rfl
theorem sub_some {n i : Nat} (h : i < n) : ∃ j, n - i = j + 1 := ⟨n - i - 1, (Nat.sub_add_cancel (Nat.sub_pos_of_lt h)).symm⟩
open LCg in
theorem blockW {elt iter : PySem.Expr} {ifs : List PySem.Expr} {x : Str} {px : Pos} {scope : Scope} {cl : List (Str × Addr)} {pos : Pos} {I : Addr} {fp : List Addr} {n : Nat} {P : Nat → Value → Prop} {St : Nat → Heap → Prop} {news : Led}
    {keep : Nat → Bool} {O : Nat → Value → Prop} {RR : Value → Addr → Result → Shared → Prop}
    (W : Walks prog w A I fp [I] n P St) (hsz : n ≤ sizeLine) (hIo : ∀ i h, St i h → ∃ o, h.get? I = some o) (hfpn : ∀ b ∈ fp, b ≠ I → ∃ o, (b, o) ∈ news ∨ h₀.get? b = some o)
    (hcell : ∀ y ∈ scope.names, y.2 ≠ .cell) (hkind : scope.kind = .function) (hx : scope.names.lookup x = some .local) (hst : St 0 s.heap) (hfp : ∀ b ∈ fp, b < s.heap.objs.size)
    (F : Fr h₀ L s.heap m) (N : News h₀ L s.heap news) (hIL : L ≠ I) (hI₀ : h₀.get? I = none) (off : ∀ p ∈ news, p.1 ≠ I)
    (turn : TurnW prog w A h₀ L m env ifs elt x scope cl s P keep O n news)
    (hRR : ∀ D C h tk m' ys, Fr h₀ L h m → News h₀ L h ((D, lst ys) :: news) → (∀ p ∈ news, p.1 ≠ D) → h.Ns C m' → h₀.get? C = none → C ≠ L → C ≠ D → (∀ p ∈ news, p.1 ≠ C) → s.toks ≤ tk → MadeL keep O n 0 ys → RR (.ref D) C (.ok .next) { s with heap := h, toks := tk }) :
    wpAny (model prog w) A (newList []) (fun acc s₃ => wpAny (model prog w) A (newFunctionEnv scope env.globals cl [] env.qual none .none (some env)) (fun cenv s₄ =>
      codeAny (model prog w) A (.compStart (.ListComp elt [⟨.Name x px, iter, ifs, 0⟩] scope pos) 0 (.ref I) acc { cenv with scope := relabel scope env }) (RR acc cenv.locals) s₄) E s₃) E s := by
  refine wpAny_newObj_type (wpAny_newFunctionEnv hcell (by intro y hy; simp at hy) (fun h₁ hns₁ hsb₁ => ?_) hkind)
  dsimp only at hns₁ hsb₁ ⊢
  generalize hH2 : s.heap.push { cls := .type "list", dict := none, data := .seq ([] : List Value).toArray } = H2 at hns₁ hsb₁ ⊢
  have hC : H2.objs.size = s.heap.objs.size + 1 := by rw [← hH2, Heap.size_push]
  have hDC : s.heap.objs.size ≠ H2.objs.size := by rw [hC]; exact Nat.ne_of_lt (Nat.lt_succ_self _)
  have lowC : ∀ b, b < s.heap.objs.size → b ≠ H2.objs.size := fun b hb => by rw [hC]; exact Nat.ne_of_lt (Nat.lt_succ_of_lt hb)
  have old : ∀ b o, s.heap.get? b = some o → h₁.get? b = some o := fun b o e => hsb₁.extBut b o (lowC b (Heap.lt_size e)) (Heap.get?_push_of_some _ (hH2 ▸ Heap.get?_push_of_some _ e))
  have hacc : h₁.get? s.heap.objs.size = some (lst []) := hsb₁.extBut _ _ hDC (Heap.get?_push_of_some _ (hH2 ▸ Heap.get?_push_size _ rfl))
  have fresh₀ : ∀ a, s.heap.objs.size ≤ a → h₀.get? a = none := fun a ha => by
    cases e : h₀.get? a with
    | none => rfl
    | some o' => exact absurd (Heap.lt_size (F.keep a o' e)) (Nat.not_lt.mpr ha)
  have hD₀ := fresh₀ _ (Nat.le_refl s.heap.objs.size)
  have hC₀ : h₀.get? H2.objs.size = none := fresh₀ _ (by rw [hC]; exact Nat.le_succ _)
  have hLlt : L < s.heap.objs.size := F.ns.lt
  have hIlt : I < s.heap.objs.size := hfp I (W.sub I (List.mem_singleton.mpr rfl))
  have hDL : s.heap.objs.size ≠ L := Nat.ne_of_gt hLlt
  have hCL : H2.objs.size ≠ L := Ne.symm (lowC L hLlt)
  have hIC : I ≠ H2.objs.size := lowC I hIlt
  have hID : I ≠ s.heap.objs.size := Nat.ne_of_lt hIlt
  have offD : ∀ p ∈ news, p.1 ≠ s.heap.objs.size := fun p hp => Nat.ne_of_lt (Heap.lt_size (N p hp).1)
  have offC : ∀ p ∈ news, p.1 ≠ H2.objs.size := fun p hp => lowC _ (Heap.lt_size (N p hp).1)
  have offs : Off3 I H2.objs.size s.heap.objs.size news := Off3.of fun p hp => ⟨off p hp, offC p hp, offD p hp⟩
  generalize hDg : s.heap.objs.size = D at *
  generalize hCg : H2.objs.size = C at *
  have hfD : ∀ b ∈ fp, b ≠ D := fun b hb => Nat.ne_of_lt (hfp b hb)
  have hfC : ∀ b ∈ fp, b ≠ C := fun b hb => lowC b (hfp b hb)
  -- the loop
  have loop : ∀ s₃ : Shared, s₃ = { s with heap := h₁, toks := s.toks + ([] : List (Str × Value)).length } →
      codeAny (model prog w) A (.compLoop (.ListComp elt [⟨.Name x px, iter, ifs, 0⟩] scope pos) 0 (.ref I) (.ref D) (compEnvC scope cl C env)) (RR (.ref D) C) s₃ := by
    rintro s₃ rfl
    refine codeAny_compLoop_tests
      (fun k s' => BW h₀ L m s St C D news keep O n k s') ?_ (n + 1)
      ⟨h₁, _, 0, [], _, rfl, Nat.zero_le _, rfl, Nat.le_refl _, W.frame _ _ _ hst fun b _ o e => old b o e, F.keeps old, hns₁, ?_, Nat.le_refl _, fun r hr => hr⟩
    · rintro k s' ⟨h', tk, i, ys, m', rfl, hi, rfl, hyl, hst', F', hn', N', htk, hM⟩
      by_cases hlt : i < n
      · obtain ⟨j, hj⟩ := sub_some hlt
        rw [hj] at hM
        refine wpAny_with_toks (n := s.toks) htk (W.item i _ _ _ hlt hst' fun v h₂ tk₂ hPv hst₂ hk₂ htk₂ => ?_)
        refine wpAny_assign_Name (wpAny_storeName_local (lookup_relabel_local hx) (hn'.at' fun o e => hk₂ _ o (by simpa using Ne.symm hIC) e) (fun h₃ hn₃ hs₃ => ?_) (by simp [compEnvC, relabel, hkind]))
        have hst₃ : St (i + 1) h₃ := W.frame _ _ _ hst₂ fun b hb o e => hs₃.extBut b o (hfC b hb) e
        obtain ⟨oI, heI⟩ := hIo _ _ hst₃
        obtain ⟨oC, heC, hoC⟩ := ns_obj hn₃
        have F₃ : Fr h₀ L h₃ m := (fr_but F' hk₂ hIL hI₀).change hs₃ hCL hC₀
        have N₂ : News h₀ L h₂ ((D, lst ys) :: news) := news_but N' hk₂ fun p hp => by
          rcases List.mem_cons.mp hp with rfl | hp
          · exact Ne.symm hID
          · exact off p hp
        have N₃ : News h₀ L h₃ ((I, oI) :: (C, oC) :: (D, lst ys) :: news) := fun p hp => by
          rcases List.mem_cons.mp hp with rfl | hp
          · exact ⟨heI, Ne.symm hIL, hI₀⟩
          · rcases List.mem_cons.mp hp with rfl | hp
            · exact ⟨heC, hCL, hC₀⟩
            · have z := N₂ p hp
              refine ⟨hs₃.extBut _ _ ?_ z.1, z.2⟩
              rcases List.mem_cons.mp hp with rfl | hp
              · exact hDC
              · exact offC p hp
        have keepSt : ∀ h₄, Fr h₀ L h₄ m → News h₀ L h₄ ((I, oI) :: news) → St (i + 1) h₄ := fun h₄ F₄ N₄ => W.frame _ _ _ hst₃ fun b hb o e => by
          by_cases hbI : b = I
          · subst hbI
            rw [heI] at e; cases e
            exact (N₄ _ List.mem_cons_self).1
          · obtain ⟨o', hm | hm⟩ := hfpn b hb hbI
            · have e₃ := (N₃ (b, o') (List.mem_cons_of_mem _ (List.mem_cons_of_mem _ (List.mem_cons_of_mem _ hm)))).1
              rw [e] at e₃; cases e₃
              exact (N₄ _ (List.mem_cons_of_mem _ hm)).1
            · have e₃ := F₃.keep b o' hm
              rw [e] at e₃; cases e₃
              exact F₄.keep b _ hm
        refine wpAny_with_toks (n := s.toks) (Nat.le_succ_of_le htk₂) (wpAny_mono (turn i v ys I oI C oC D _ h₃ _ _ hlt hPv hoC (by simp) F₃ N₃ offs ⟨hIC, hID, Ne.symm hDC⟩ (Nat.le_succ_of_le htk₂)) (fun ok s₄ h₄ htk₄ => ?_) fun _ _ e => e)
        cases ok with
        | true =>
          simp only [if_true] at h₄ ⊢
          refine wpAny_with_toks (n := s.toks) htk₄ (wpAny_mono h₄ (fun y s₅ h₅ htk₅ => ?_) fun _ _ e => e)
          obtain ⟨h₅, tk₅, news₅, rfl, F₅, N₅, off₅, _, hkp, hO, hsub⟩ := h₅
          have N₅' : News h₀ L h₅ ((I, oI) :: (C, oC) :: (D, lst ys) :: news) := fun p hp => N₅ p (by
            rcases List.mem_cons.mp hp with e | hp
            · rw [e]; exact List.mem_cons_self
            rcases List.mem_cons.mp hp with e | hp
            · rw [e]; exact List.mem_cons_of_mem _ List.mem_cons_self
            rcases List.mem_cons.mp hp with e | hp
            · rw [e]; exact List.mem_cons_of_mem _ (List.mem_cons_of_mem _ List.mem_cons_self)
            exact List.mem_cons_of_mem _ (List.mem_cons_of_mem _ (List.mem_cons_of_mem _ (hsub p hp))))
          have zC := (N₅' _ (List.mem_cons_of_mem _ List.mem_cons_self)).1
          have zD := (N₅' _ (List.mem_cons_of_mem _ (List.mem_cons_of_mem _ List.mem_cons_self))).1
          have hst₅ := keepSt h₅ F₅ fun p hp => N₅' p (by
            rcases List.mem_cons.mp hp with e | hp
            · rw [e]; exact List.mem_cons_self
            exact List.mem_cons_of_mem _ (List.mem_cons_of_mem _ (List.mem_cons_of_mem _ hp)))
          refine append_at (hsz := by show ys.toArray.size ≤ sizeLine; rw [List.size_toArray]; exact Nat.le_trans (Nat.le_trans hyl hi) hsz) zD fun h₆ hs₆ hD₆ => ?_
          refine ⟨n + 1 - (i + 1), sub_lt_one hlt, h₆, tk₅, i + 1, ys ++ [y], _, rfl, hlt, rfl, by rw [List.length_append, List.length_singleton]; exact Nat.succ_le_succ hyl, W.frame _ _ _ hst₅ fun b hb o e => hs₆.extBut b o (hfD b hb) e, F₅.change hs₆ hDL hD₀,
            (hoC.ns zC).sameBut hs₆ (Ne.symm hDC), fun p hp => ?_, htk₅, fun r hr => ?_⟩
          · rcases List.mem_cons.mp hp with rfl | hp
            · exact ⟨hD₆.trans (congrArg some (lst_snoc ys y)), hDL, hD₀⟩
            · have z := N₅' p (List.mem_cons_of_mem _ (List.mem_cons_of_mem _ (List.mem_cons_of_mem _ hp)))
              exact ⟨hs₆.extBut _ _ (offD p hp) z.1, z.2⟩
          · rw [sub_one_eq hj] at hr
            rw [List.append_assoc]
            refine hM _ ?_
            unfold MadeL
            rw [if_pos hkp]
            exact ⟨y, r, rfl, hO, hr⟩
        | false =>
          simp only [Bool.false_eq_true, if_false] at h₄ ⊢
          obtain ⟨h₅, tk₅, news₅, rfl, F₅, N₅, off₅, _, hkp, hsub⟩ := h₄
          have zC := (N₅ _ (List.mem_cons_of_mem _ List.mem_cons_self)).1
          refine ⟨n + 1 - (i + 1), sub_lt_one hlt, h₅, tk₅, i + 1, ys, _, rfl, hlt, rfl, Nat.le_succ_of_le hyl, keepSt h₅ F₅ fun p hp => N₅ p ?_, F₅, hoC.ns zC, fun p hp => N₅ p ?_, htk₄, fun r hr => ?_⟩
          · rcases List.mem_cons.mp hp with e | hp
            · rw [e]; exact List.mem_cons_self
            exact List.mem_cons_of_mem _ (List.mem_cons_of_mem _ (List.mem_cons_of_mem _ (hsub p hp)))
          · rcases List.mem_cons.mp hp with e | hp
            · rw [e]; exact List.mem_cons_of_mem _ (List.mem_cons_of_mem _ List.mem_cons_self)
            exact List.mem_cons_of_mem _ (List.mem_cons_of_mem _ (List.mem_cons_of_mem _ (hsub p hp)))
          · rw [sub_one_eq hj] at hr
            refine hM _ ?_
            unfold MadeL
            rw [if_neg (by rw [hkp]; exact Bool.false_ne_true)]
            exact hr
      · obtain rfl : i = n := Nat.le_antisymm hi (Nat.not_lt.mp hlt)
        rw [Nat.sub_self] at hM
        refine wpAny_with_toks (n := s.toks) htk (W.done _ _ _ hst' fun h₂ tk₂ hk₂ htk₂ => ?_)
        have hM' := hM [] rfl
        rw [List.append_nil] at hM'
        exact hRR _ _ h₂ tk₂ _ ys (fr_but F' hk₂ hIL hI₀) (news_but N' hk₂ fun p hp => by
          rcases List.mem_cons.mp hp with rfl | hp
          · exact Ne.symm hID
          · exact off p hp) offD (hn'.at' fun o e => hk₂ _ o (by simpa using Ne.symm hIC) e) hC₀ hCL (Ne.symm hDC) offC htk₂ hM'
    · intro p hp
      rcases List.mem_cons.mp hp with rfl | hp
      · exact ⟨hacc, hDL, hD₀⟩
      · exact ⟨old _ _ (N p hp).1, (N p hp).2⟩
  exact codeAny_compStart_list (loop _ rfl) (W.self 0 _ _ _ (W.frame _ _ _ hst fun b _ o e => old b o e) (loop _ rfl))
theorem drop_at {x : Str} {i c k : Nat} (hc : x.cps[i]? = some c) (hk : k + 1 + i = x.cps.size) : x.cps.toList.drop i = c :: x.cps.toList.drop (i + 1) := by
  have hi : i < x.cps.toList.length := by simp; omega
  rw [List.drop_eq_getElem_cons hi]
  have : x.cps.toList[i] = c := by
    have := hc
    rw [Array.getElem?_eq_getElem (by omega)] at this
    injection this
  rw [this]


/-- what a comprehension hands on: its list, ahead of the ledger -/
noncomputable def DoneW (h₀ : Heap) (L : Addr) (m : Str → Option Value) (s : Shared) (news : Led) (Q : Value → Shared → Prop) (M : List Value → Prop) : Prop :=
  ∀ D h tk ys, M ys → s.toks ≤ tk → Fr h₀ L h m → News h₀ L h ((D, LCg.lst ys) :: news) → (∀ p ∈ news, p.1 ≠ D) → Q (.ref D) { s with heap := h, toks := tk }
/-- a comprehension's source is a str -/
noncomputable def SrcS (prog : Program) (w : World) (A : Around) (h₀ : Heap) (L : Addr) (m : Str → Option Value) (env : Env) (ifs : List PySem.Expr) (elt : PySem.Expr) (x : Str) (scope : Scope) (cl : List (Str × Addr)) (Q : Value → Shared → Prop) (xv : Value) (s₁ : Shared) : Prop :=
  ∃ z t news keep O, xv = .str z t ∧ A.handled = none ∧ Fr h₀ L s₁.heap m ∧ News h₀ L s₁.heap news ∧ z.cps.size ≤ sizeLine ∧
    (∀ g, TurnW prog w A h₀ L m env ifs elt x scope cl { s₁ with heap := g } (SignAt z) keep O z.cps.size news) ∧ ∀ g, DoneW h₀ L m { s₁ with heap := g } news Q (MadeL keep O z.cps.size 0)
theorem SrcS.mk {ifs : List PySem.Expr} {elt : PySem.Expr} {x : Str} {scope : Scope} {cl : List (Str × Addr)} {Q : Value → Shared → Prop} {z : Str} {t : Tok} {news : Led} {keep : Nat → Bool} {O : Nat → Value → Prop} (hh : A.handled = none) (F : Fr h₀ L s.heap m) (N : News h₀ L s.heap news) (hsz : z.cps.size ≤ sizeLine)
    (h : ∀ g, TurnW prog w A h₀ L m env ifs elt x scope cl { s with heap := g } (SignAt z) keep O z.cps.size news) (hd : ∀ g, DoneW h₀ L m { s with heap := g } news Q (MadeL keep O z.cps.size 0)) :
    SrcS prog w A h₀ L m env ifs elt x scope cl Q (.str z t) s := ⟨z, t, news, keep, O, rfl, hh, F, N, hsz, h, hd⟩
theorem compS {elt iter : PySem.Expr} {ifs : List PySem.Expr} {x : Str} {px : Pos} {scope : Scope} {cl : List (Str × Addr)} {pos : Pos} {Q : Value → Shared → Prop} (_F₀ : Fr h₀ L s.heap m)
    (hclos : closureFor scope env = pure cl) (hcell : ∀ y ∈ scope.names, y.2 ≠ .cell) (hkind : scope.kind = .function)
    (hnames : ∀ y ∈ scope.names, y.2 = .local → scope.names.lookup y.1 = some .local) (hx : scope.names.lookup x = some .local)
    (h : wpAny (model prog w) A (eval iter env) (SrcS prog w A h₀ L m env ifs elt x scope cl Q) E s)
    (hs : ∀ x, foldedSetIterable iter env x = pure x := by intro _; rfl) :
    wpAny (model prog w) A (eval (.ListComp elt [⟨.Name x px, iter, ifs, 0⟩] scope pos) env) Q E s := by
  rw [eval_ListComp]
  refine wpAny_comprehension_free (use := none) rfl hs hclos hkind hnames (wpAny_mono h (fun xv s₁ h₁ => ?_) fun _ _ e => e)
  obtain ⟨z, t, news, keep, O, rfl, hh, F, N, hsz, turn, fin⟩ := h₁
  refine iterStr fun o St W hIo st0 => ?_
  refine blockW (W A hh) hsz hIo (fun b hb hn => absurd (List.mem_singleton.mp hb) hn) hcell hkind hx st0 (fun b hb => ?_)
      (F.keeps fun _ _ e => Heap.get?_push_of_some _ e) (N.grown fun _ _ e => Heap.get?_push_of_some _ e) (Nat.ne_of_lt F.ns.lt) (next_is_new F) (fun p hp => Nat.ne_of_lt (Heap.lt_size (N p hp).1)) (turn _) ?_
  · rw [List.mem_singleton.mp hb]
    show s₁.heap.objs.size < (s₁.heap.push _).objs.size
    rw [Heap.size_push]; exact Nat.lt_succ_self _
  · intro D C h tk m' ys F' N' o1 hn hC₀ hCL hCD offC htk hM
    refine ⟨m', hn, fun h'' hs'' => fin _ D h'' tk ys hM htk (F'.change hs'' hCL hC₀) (fun p hp => ?_) o1⟩
    refine ⟨hs''.extBut _ _ ?_ (N' p hp).1, (N' p hp).2⟩
    rcases List.mem_cons.mp hp with rfl | hp
    · exact Ne.symm hCD
    · exact offC p hp
theorem made_strs {x : Str} {kc : Nat → Bool} {out : Nat → Str} {ys : List Value}
    (h : MadeL (fun i => kc (x.cps[i]?.getD 0)) (fun i y => ∃ u, y = .str (out (x.cps[i]?.getD 0)) u) x.cps.size 0 ys) : Strs ((x.cps.toList.filter kc).map out) ys := by
  suffices hh : ∀ k i ys, k + i = x.cps.size → MadeL (fun i => kc (x.cps[i]?.getD 0)) (fun i y => ∃ u, y = .str (out (x.cps[i]?.getD 0)) u) k i ys → Strs (((x.cps.toList.drop i).filter kc).map out) ys from by
    simpa using hh _ 0 ys (Nat.add_zero _) h
  intro k
  induction k with
  | zero =>
    intro i ys hk hm
    rw [List.drop_of_length_le (by simp; omega)]
    obtain rfl : ys = [] := hm
    trivial
  | succ k ih =>
    intro i ys hk hm
    obtain ⟨c, hc⟩ : ∃ c, x.cps[i]? = some c := ⟨_, Array.getElem?_eq_getElem (by omega)⟩
    rw [drop_at hc (by omega), List.filter_cons]
    unfold MadeL at hm
    simp only [hc, Option.getD_some] at hm
    cases e : kc c with
    | true =>
      simp only [e, if_true] at hm
      obtain ⟨y, r, rfl, hO, hr⟩ := hm
      simp only [if_true]
      exact ⟨hO, ih (i + 1) r (by omega) hr⟩
    | false =>
      simp only [e, Bool.false_eq_true, if_false] at hm ⊢
      exact ih (i + 1) ys (by omega) hm

noncomputable def EndV (x : Str) (news : Led) (y : Value) (news' : Led) : Prop := (∃ u, y = .str x u) ∧ ∀ p ∈ news, p ∈ news'
theorem EndV.mk {x : Str} {t : Tok} {news news' : Led} (h : ∀ p ∈ news, p ∈ news') : EndV x news (.str x t) news' := ⟨⟨t, rfl⟩, h⟩
open LCg in
theorem turnS0 {elt : PySem.Expr} {y : Str} {scope : Scope} {cl : List (Str × Addr)} {news : Led} {x : Str} (out : Nat → Str)
    (turn : ∀ c u ys I oI C oC D m₂ h tk (E' : Value → Shared → Prop), c ∈ x.cps.toList → NsObj oC m₂ → m₂ y = some (.str (sg c) u) → Fr h₀ L h m → News h₀ L h ((I, oI) :: (C, oC) :: (D, lst ys) :: news) → Off3 I C D news → ((@Ne Nat I C) ∧ (@Ne Nat I D) ∧ (@Ne Nat C D)) → s.toks ≤ tk →
      wpAny (model prog w) A (eval elt (compEnvC scope cl C env)) (CompEnd h₀ L m { s with heap := h, toks := tk } I oI C oC D (lst ys) (fun _ => True) (EndV (out c) news)) E' { s with heap := h, toks := tk }) :
    TurnW prog w A h₀ L m env [] elt y scope cl s (SignAt x) (fun i => (fun _ => true) (x.cps[i]?.getD 0)) (fun i y => ∃ u, y = .str (out (x.cps[i]?.getD 0)) u) x.cps.size news := by
  intro i v ys I oI C oC D m₂ h tk E' hi hP hC hm F N off ne htk
  obtain ⟨c, u, hc, rfl⟩ := hP
  refine wpAny_tests_nil ?_
  simp only [if_true, hc, Option.getD_some, true_and]
  refine turn c u ys I oI C oC D m₂ h tk E' ?_ hC hm F N off ne htk
  obtain ⟨hi', e⟩ := Array.getElem?_eq_some_iff.mp hc
  rw [← e]; exact Array.getElem_mem_toList hi'
open LCg in
theorem turnS1 {ct elt : PySem.Expr} {y : Str} {scope : Scope} {cl : List (Str × Addr)} {news : Led} {x : Str} (kc : Nat → Bool) (out : Nat → Str)
    (turn : ∀ c u ys I oI C oC D m₂ h tk (E' : Value → Shared → Prop), c ∈ x.cps.toList → NsObj oC m₂ → m₂ y = some (.str (sg c) u) → Fr h₀ L h m → News h₀ L h ((I, oI) :: (C, oC) :: (D, lst ys) :: news) → Off3 I C D news → ((@Ne Nat I C) ∧ (@Ne Nat I D) ∧ (@Ne Nat C D)) → s.toks ≤ tk →
      wpAny (model prog w) A (isTrue ct (compEnvC scope cl C env) (eval ct (compEnvC scope cl C env))) (fun ok s' => if ok = true then
        wpAny (model prog w) A (eval elt (compEnvC scope cl C env)) (CompEnd h₀ L m { s with heap := h, toks := tk } I oI C oC D (lst ys) (fun _ => True) (fun y news' => kc c = true ∧ EndV (out c) news y news')) E' s'
        else CompEnd h₀ L m { s with heap := h, toks := tk } I oI C oC D (lst ys) (fun _ => True) (fun _ news' => kc c = false ∧ ∀ p ∈ news, p ∈ news') Value.none s') E' { s with heap := h, toks := tk }) :
    TurnW prog w A h₀ L m env [ct] elt y scope cl s (SignAt x) (fun i => kc (x.cps[i]?.getD 0)) (fun i y => ∃ u, y = .str (out (x.cps[i]?.getD 0)) u) x.cps.size news := by
  intro i v ys I oI C oC D m₂ h tk E' hi hP hC hm F N off ne htk
  obtain ⟨c, u, hc, rfl⟩ := hP
  refine wpAny_tests_one ?_
  simp only [hc, Option.getD_some]
  refine turn c u ys I oI C oC D m₂ h tk E' ?_ hC hm F N off ne htk
  obtain ⟨hi', e⟩ := Array.getElem?_eq_some_iff.mp hc
  rw [← e]; exact Array.getElem_mem_toList hi'
theorem in_yes {x : Str} {c : Nat} {t u : Tok} {Q : Value → Shared → Prop} (hc : c ∈ x.cps.toList) (h : Q (.bool true) s) : wpAny (model prog w) A (compareOp .In (.str (sg c) u) (.str x t)) Q E s :=
  P.in_str (by rw [StrLaws.found_one, decide_eq_true hc]; exact h)
theorem in_no {x : Str} {c : Nat} {t u : Tok} {Q : Value → Shared → Prop} (hc : c ∉ x.cps.toList) (h : Q (.bool false) s) : wpAny (model prog w) A (compareOp .In (.str (sg c) u) (.str x t)) Q E s :=
  P.in_str (by rw [StrLaws.found_one, decide_eq_false hc]; exact h)
end
theorem noneC6 : True := by
  k_with_none
  trivial
-- addresses that differ: by a fact of the context first
-- a def entered: what is left is its body
theorem rowsC6_3 : True := by
  k_with "kroom" => ((try simp only [depth_under_make, depth_under_kw, depth_in1, depth_deeper, depth_caller, recursionLimit] at *); omega)
  k_with "kne" => (refine neN ?_; (try dsimp only); first | with_reducible assumption | exact Nat.ne_of_lt (by with_reducible assumption) | exact Nat.ne_of_gt (by with_reducible assumption) | exact Ne.symm (by with_reducible assumption) | (refine' Nat.ne_of_lt (Nat.lt_trans ?z40xh1 ?z40xh2); (case z40xh2 => with_reducible assumption); (case z40xh1 => with_reducible assumption)) | (refine' Nat.ne_of_gt (Nat.lt_trans ?z40xh1 ?z40xh2); (case z40xh2 => with_reducible assumption); (case z40xh1 => with_reducible assumption)) | omega)
  k_with "spl" => first | (refine' Spl.cons ?z41xsp; (case z41xsp => walk_at "spl")) | exact Spl.nil
  k_with "enter" => ((case k6 => k_is); (case k7 => k_is); (case k8 => k_room); (case k9 => exact BindsTo.of_eq rfl); (case c5 => decide); (case kB => exact locs rfl); (case c2 => exact rfl); (case c3 => exact rfl); (case c4 => exact rfl))
  k_with "enterV" => ((case k6 => k_is); (case k7 => k_is); (case k8 => k_room); (case kP => exact rfl); (case kG => exact fun _ => rfl); (case c5 => decide); (case kB => exact fun _ => locs rfl); (case c2 => exact rfl); (case c3 => exact rfl); (case c4 => exact rfl))
  k_with "apart" => first | exact apNil | (refine apCons (by assumption) ?_; walk_at "apart")
  k_with "allne" => first | with_reducible assumption | exact List.forall_mem_nil _ | (refine' fa_cons ?z45xfh ?z45xft; (case z45xfh => k_ne); (case z45xft => walk_at "allne"))
  k_with "sub" => first | exact subNil | exact fun _ h => h | (refine' subCons ?z46xs1 ?z46xs2; (case z46xs1 => k_mem); (case z46xs2 => walk_at "sub")) | (refine' subTail ?z46xs3; (case z46xs3 => walk_at "sub"))
  k_with "pick" => first | exact Pick.head | (refine' Pick.tail ?z47xpk; (case z47xpk => walk_at "pick"))
  k_with "leave" => (refine' ⟨_, _, _, ?z48xka, ?z48xkb, ?z48xkc⟩; (case z48xka => k_asm); (case z48xkb => k_asm); intro _ _ kA; (have na9 := np_of kA (by walk_at "spl")); (repeat (have hx9 := np_head na9; revert hx9; intro _; replace na9 := np_tail na9)); clear na9; replace kA := np_tl kA (by walk_at "spl"); revert kA; intro _)
  trivial
/-- a sign's name with amp; behind its & -/
noncomputable def amS (c : Nat) : Str := Txt.replace (nmS c) (sg 38) (Str.ofString "&amp;")
/-- a sign written at once -/
noncomputable def onS (signs ahead : Str) (c : Nat) : Str := if c ∈ signs.cps.toList then (if c ∈ ahead.cps.toList then amS c else nmS c) else sg c
noncomputable def onT (signs ahead text : Str) : Str := Txt.join (Str.ofString "") (text.cps.toList.map (onS signs ahead))
theorem nm_len {c : Nat} (hc : c ∈ sg7) : (nmS c).length ≤ 6 := sg_cases hc (P := fun c => (nmS c).length ≤ 6) (by decide +kernel) (by decide +kernel) (by decide +kernel) (by decide +kernel) (by decide +kernel) (by decide +kernel) (by decide +kernel)
theorem am_len {c : Nat} (hc : c ∈ sg7) : (amS c).length ≤ 10 := sg_cases hc (P := fun c => (amS c).length ≤ 10) (by decide +kernel) (by decide +kernel) (by decide +kernel) (by decide +kernel) (by decide +kernel) (by decide +kernel) (by decide +kernel)
theorem on_len {signs ahead : Str} {c : Nat} (hsg : ∀ c ∈ signs.cps.toList, c ∈ sg7) : (onS signs ahead c).length ≤ 10 := by
  unfold onS
  split
  · next h =>
    split
    · exact am_len (hsg c h)
    · exact Nat.le_trans (nm_len (hsg c h)) (by decide)
  · exact (by decide : (1 : Nat) ≤ 10)
theorem strs_zip : ∀ {xs : List Str} {ys : List Value}, Strs xs ys → ∃ l, ys = strValues l ∧ l.map (·.1) = xs := by
  intro xs
  induction xs with
  | nil => intro ys h; exact ⟨[], strs_nil h, rfl⟩
  | cons x xs ih =>
    intro ys h
    obtain ⟨u, r, rfl, hr⟩ := strs_cons h
    obtain ⟨l, rfl, e⟩ := ih hr
    exact ⟨(x, u) :: l, rfl, by rw [List.map_cons, e]⟩
theorem joinS {prog : Program} {w : World} {A : Around} {E : Value → Shared → Prop} {s : Shared} {x : Str} {t : Tok} {Q : Value → Shared → Prop} {D : Addr} {xs : List Str} {ys : List Value} {h₀ : Heap} {L : Addr} {news : Led} {b : Nat}
    (hs : Strs xs ys) (N : News h₀ L s.heap ((D, LCg.lst ys) :: news)) (hb : ∀ y ∈ xs, y.length ≤ b) (hz : xs.length * b + xs.length * x.length ≤ 16777216)
    (hq : ∀ t' k, Q (.str (Txt.join x xs) t') { s with toks := k }) : wpAny (model prog w) A (call (.builtin "str.join") [.str x t, .ref D]) Q E s := by
  obtain ⟨l, rfl, e⟩ := strs_zip hs
  refine SC.join (l := l) ⟨_, (N _ List.mem_cons_self).1, rfl, _, rfl⟩ e ?_ hq
  unfold JoinOk
  rw [StrLaws.joinFits hb hz]; rfl
theorem filter_all {α : Type} (l : List α) : (l.filter fun _ => true) = l := List.filter_eq_self.mpr fun _ _ => rfl
theorem booked {K : Frag} {h₀ h : Heap} {L : Addr} {m : Str → Option Value} {p : Program} {loose : List Str} {mean : ExcName → Option Value} {mg mb : Str → Option Value} (X : K.In h₀) (T : Top p loose mean mg mb h₀) (F : Fr h₀ L h m) (e : nsIn K cStatics sharingNotToldKey = some none) : NoneBooked h :=
  let ⟨mc, a, _⟩ := T.nolimit
  ⟨mc, a.at' fun _ q => F.keep _ _ q, ns_none_of X a e⟩
theorem on_fits {signs ahead text : Str} (hsg : ∀ c ∈ signs.cps.toList, c ∈ sg7) (htx : text.cps.size ≤ 1000) :
    (∀ y ∈ (text.cps.toList.filter fun _ => true).map (onS signs ahead), y.length ≤ 10) ∧ ((text.cps.toList.filter fun _ => true).map (onS signs ahead)).length * 10 + ((text.cps.toList.filter fun _ => true).map (onS signs ahead)).length * (Str.ofString "").length ≤ 16777216 := by
  constructor
  · intro y hy
    obtain ⟨c, _, rfl⟩ := List.mem_map.mp hy
    exact on_len hsg
  · rw [filter_all, List.length_map, Array.length_toList]
    have e : (Str.ofString "").length = 0 := by decide +kernel
    rw [e]
    omega
theorem rowsC6_60 : True := by
  k_with "eval ListComp" => (k_here; k_dflt (refine compS (by k_asm) (by with_unfolding_all rfl) (by decide) (by rfl) (by decide) (by rfl) ?_))
  k_with "compareOp In str str" => (k_here; first | refine in_yes (by assumption) ?_ | refine in_no (by assumption) ?_)
  k_with "call ref" => (k_here; (with_reducible show wpAny _ _ (call (Value.ref 169) _ _) _ _ _); k_dflt (refine wpAny_call ?_; refine' name_c ?z51xkB ?z51xkF ?z51xkX ?z51xkT rfl rfl ?z51xkr ?z51xkN ?z51xkc ?_; (case z51xkB => k_asm); (case z51xkF => k_asm); (case z51xkX => k_asm); (case z51xkT => k_asm); (case z51xkN => k_asm); (case z51xkr => k_room); (case z51xkc => assumption)); intro _ _ _ ht' htk'; (try dsimp only at ht' htk'); revert ht' htk'; intro _ _ _ _; (try dsimp only))
  trivial
section
variable {w : World} {A₀ : Around} {s : Shared} {base h₀ : Heap} {outer : List Env} {L : Addr} {m : Str → Option Value} {env : Env} {rest : Led}
  {R : Result → Shared → Prop} {mean : ExcName → Option Value} {mg mb : Str → Option Value} {d u : Nat} {g : Option (List Code)} {t1 t2 t3 : Tok} {text signs ahead : Str}
theorem once_c
  (B : Below A₀ base outer h₀) (F : Fr h₀ L s.heap m) (X₀ : (hd.heap_39 w.params).In h₀) (T : Tp mean mg mb h₀)
  (hf : env.frame = some L) (hke : env.scope.kind = .function) (hroom : d + 40 < 1000) (N : News h₀ L s.heap rest) (ht0 : 0 < s.toks) (hsg : ∀ c ∈ signs.cps.toList, c ∈ sg7) (htx : text.cps.size ≤ 1000)
  (k : ∀ h' tk' t', s.toks ≤ tk' → Fr h₀ L h' m → News h₀ L h' rest → R (.ok (.ret (.str (onT signs ahead text) t'))) { s with heap := h', toks := tk' }) :
  codeAny (model PySem.Challenge.rw_mr0322_01.row.prog w) (Ar d env outer g u) (.call (.ref 186) ⟨[.str text t1, .str signs t2, .str ahead t3], []⟩) R s := by
  refine codeAny_with_toks (n := s.toks) (Nat.le_refl _) ?_
  k_dflt (refine' callC (fp := []) (binds := [(Str.ofString "text", .str text t1), (Str.ofString "signs", .str signs t2), (Str.ofString "ahead", .str ahead t3)]) B F X₀ (by exact N) (by walk_at "apart") T rfl hf hke ?k6 ?k7 ?k8 ?k9 ?kB ?kD ?_ ?c2 ?c3 ?c4)
  case k6 => k_is
  case k7 => k_is
  case k8 => k_room
  case k9 => exact BindsTo.of_eq rfl
  case kB => exact rfl
  case kD => decide +kernel
  case c2 => exact rfl
  case c3 => exact rfl
  case c4 => exact rfl
  intro g' L' h' tk' cells' st F' N' Y' B' X' T' l1 htk0
  try dsimp only
  k_fold
  k_cells Y'
  simp only [List.cons_append, List.nil_append] at N'
  k_steps
  k_dflt (refine' SrcS.mk rfl (by k_asm) (by k_asm) (Nat.le_trans htx (by decide)) (fun g9 => turnS0 (onS signs ahead) ?turn) ?fin)
  case turn =>
    intro c u ys I oI C oC D m₂ h tk E' hmem hC hm F N off ne htk
    simp only [LCg.Off3, and_true] at off
    obtain ⟨n1, n2, n3⟩ := ne
    first | (obtain ⟨⟨o1, o2, o3⟩, o4, o5, o6⟩ := off) | (obtain ⟨o1, o2, o3⟩ := off) | skip
    dsimp only at htk ⊢
    have hq : 0 < tk := Nat.lt_of_lt_of_le ht0 (Nat.le_trans htk0 (Nat.le_trans (Nat.le_succ _) htk))
    by_cases h1 : c ∈ signs.cps.toList
    · have h7 := hsg c h1
      by_cases h2 : c ∈ ahead.cps.toList
      · k_steps
        k_dflt (refine' SC.replace ?u ?v ?uv (by decide +kernel) ?z ?_)
        case z => exact Nat.le_trans (Nat.add_le_add (nm_len h7) (Nat.mul_le_mul_right _ (Nat.succ_le_succ (nm_len h7)))) (by decide +kernel)
        case u => exact Nat.ne_of_gt (Nat.lt_of_lt_of_le hq (by assumption))
        case v => exact Nat.succ_ne_zero _
        case uv => exact Nat.ne_of_lt (Nat.lt_succ_self _)
        intro t9 k9
        try dsimp only
        k_steps
        unfold onS amS
        rw [if_pos h1, if_pos h2]
        exact EndV.mk fun _ h => h
      · k_steps
        k_dflt (refine' SC.replaceA ?u ?v ?uv ?z ?_ (booked (by k_asm) (by k_asm) (by k_asm) (by k_is)))
        case z => exact Nat.le_trans (Nat.add_le_add (nm_len h7) (Nat.mul_le_mul_right _ (Nat.succ_le_succ (nm_len h7)))) (by decide +kernel)
        case u => exact Nat.ne_of_gt (Nat.lt_of_lt_of_le hq (by assumption))
        case v => exact Nat.succ_ne_zero _
        case uv => exact Nat.ne_of_lt (Nat.lt_succ_self _)
        intro t9 k9
        try dsimp only
        k_steps
        unfold onS
        rw [if_pos h1, if_neg h2, Txt.replace_self]
        exact EndV.mk fun _ h => h
    · k_steps
      unfold onS
      rw [if_neg h1]
      exact EndV.mk fun _ h => h
  case fin =>
    intro g9 D9 h9 tk9 ys hM htk F9 N9 hD9
    have hfit := on_fits (ahead := ahead) hsg htx
    dsimp only
    k_steps
    refine joinS (made_strs hM) N9 hfit.1 hfit.2 fun t9 k9 => ?_
    walk_at "leave"
    intro hlt
    rw [filter_all]
    exact k _ _ _ hlt (by k_asm) (News.sub (by k_asm) (by walk_at "sub"))
end
theorem noneC7 : True := by
  k_with_none
  trivial
/-- the loop in ledger form -/
inductive FL (h₀ : Heap) (L : Addr) (s : Shared) (St : Nat → Heap → Prop) (I : Addr) (n0 n : Nat) (Good : Nat → (Str → Option Value) → Led → Nat → Prop) (k : Nat) (s' : Shared) : Prop
  | mk (i : Nat) (h : Heap) (tk : Nat) (m : Str → Option Value) (led : Led) : i ≤ n → k = n - i → s' = { s with heap := h, toks := tk } → St i h → Fr h₀ L h m → News h₀ L h led → (∀ p ∈ led, p.1 ≠ I) → n0 ≤ tk → Good i m led tk → FL h₀ L s St I n0 n Good k s'
theorem sub_lt_sub {n i : Nat} (h : i < n) : n - (i + 1) < n - i := Nat.sub_lt_sub_left h (Nat.lt_succ_self i)
section
variable {prog : Program} {w : World} {A : Around} {s : Shared} {E : Value → Shared → Prop} {h₀ : Heap} {L : Addr} {m : Str → Option Value} {env : Env}
noncomputable def StrIt (h : Heap) (I : Addr) (x : Str) (t : Tok) (i : Nat) : Prop := ∃ b : Bool, h.IsStrIter I (if b = true then "str_ascii_iterator" else "str_iterator") x t i
theorem StrIt.obj {h : Heap} {I : Addr} {x : Str} {t : Tok} {i : Nat} (y : StrIt h I x t i) : ∃ o, h.get? I = some o ∧ ∀ h' : Heap, h'.get? I = some o → StrIt h' I x t i := let ⟨b, o, e, r⟩ := y; ⟨o, e, fun _ e' => ⟨b, o, e', r⟩⟩
theorem nextStr {I : Addr} {x : Str} {t : Tok} {i c : Nat} {Q : Option Value → Shared → Prop} (hit : StrIt s.heap I x t i) (hx : x.cps[i]? = some c)
    (hQ : ∀ h', StrIt h' I x t (i + 1) → Heap.SameBut I s.heap h' → Q (some (.str (sg c) s.toks)) { s with heap := h', toks := s.toks + 1 }) : wpAny (model prog w) A (pyNext (.ref I)) Q E s := by
  obtain ⟨b, hb⟩ := hit
  cases b with
  | true => exact wpAny_pyNext_ascii_item hb hx fun h' y z => hQ h' ⟨true, y⟩ z
  | false => exact wpAny_pyNext_wide_item hb hx fun h' y z => hQ h' ⟨false, y⟩ z
theorem endStr {I : Addr} {x : Str} {t : Tok} {i : Nat} {Q : Option Value → Shared → Prop} (hh : A.handled = none) (hit : StrIt s.heap I x t i) (hx : x.cps[i]? = none)
    (hQ : ∀ h', Heap.ExtBut I s.heap h' → Q none { s with heap := h' }) : wpAny (model prog w) A (pyNext (.ref I)) Q E s := by
  obtain ⟨b, hb⟩ := hit
  cases b with
  | true => exact wpAny_pyNext_ascii_end hh hb hx hQ
  | false => exact wpAny_pyNext_wide_end hh hb hx hQ
theorem iterStr2 {x : Str} {t : Tok} {Q : Value → Shared → Prop} (hQ : ∀ o, StrIt (s.heap.push o) s.heap.objs.size x t 0 → Q (.ref s.heap.objs.size) { s with heap := s.heap.push o }) : wpAny (model prog w) A (pyIter (.str x t)) Q E s := by
  cases ha : x.cps.all (· < 128)
  · exact wpAny_pyIter_wide ha (hQ _ ⟨false, _, Heap.get?_push_size _ rfl, rfl, rfl⟩)
  · exact wpAny_pyIter_ascii ha (hQ _ ⟨true, _, Heap.get?_push_size _ rfl, rfl, rfl⟩)
/-- where a turn of a for loop ends -/
noncomputable def TurnF (h₀ : Heap) (L : Addr) (s : Shared) (I : Addr) (oI : Obj) (G : (Str → Option Value) → Led → Nat → Prop) (s₃ : Shared) : Prop :=
  ∃ h' tk' m' led', s₃ = { s with heap := h', toks := tk' } ∧ Fr h₀ L h' m' ∧ News h₀ L h' ((I, oI) :: led') ∧ (∀ p ∈ led', p.1 ≠ I) ∧ G m' led' tk'
/-- an iterator, seen from its loop: n items, the i-th with P i v tk (tk: the tokens after it) -/
structure Iter (prog : Program) (w : World) (A : Around) (h₀ : Heap) (I : Addr) (n n0 : Nat) (P : Nat → Value → Nat → Prop) (St : Nat → Heap → Prop) : Prop where
  obj : ∀ i h, St i h → ∃ o, h.get? I = some o ∧ ∀ h' : Heap, h'.get? I = some o → (∀ b o, h₀.get? b = some o → h'.get? b = some o) → St i h'
  item : ∀ i (s : Shared) (Q : Option Value → Shared → Prop) (E : Value → Shared → Prop), i < n → St i s.heap → n0 ≤ s.toks →
    (∀ v h' tk, P i v tk → St (i + 1) h' → Heap.SameBut I s.heap h' → n0 ≤ tk → Q (some v) { s with heap := h', toks := tk }) → wpAny (model prog w) A (pyNext (.ref I)) Q E s
  done : ∀ (s : Shared) (Q : Option Value → Shared → Prop) (E : Value → Shared → Prop), St n s.heap → (∀ h', Heap.ExtBut I s.heap h' → Q none { s with heap := h' }) → wpAny (model prog w) A (pyNext (.ref I)) Q E s
theorem Iter.str (hh : A.handled = none) (I : Addr) (x : Str) (t : Tok) (n0 : Nat) :
    Iter prog w A h₀ I x.cps.size n0 (fun i v tk => ∃ c u, x.cps[i]? = some c ∧ v = .str (sg c) u ∧ n0 ≤ u ∧ u < tk) (fun i h => StrIt h I x t i) where
  obj := fun i h st => let ⟨o, e, k⟩ := st.obj; ⟨o, e, fun h' e' _ => k h' e'⟩
  item := fun i s Q E hi st hn hQ => nextStr st (Array.getElem?_eq_getElem hi) fun h' st' sb => hQ _ h' _ ⟨_, _, Array.getElem?_eq_getElem hi, rfl, hn, Nat.lt_succ_self _⟩ st' sb (Nat.le_succ_of_le hn)
  done := fun s Q E st hQ => endStr hh st (Array.getElem?_eq_none (Nat.le_refl _)) hQ
theorem Iter.list (hh : A.handled = none) (I ax : Addr) (its : Array Value) (hl : h₀.IsList ax its) (hne : ax ≠ I) (n0 : Nat) :
    Iter prog w A h₀ I its.size n0 (fun i v _ => its[i]? = some v) (fun i h => h.IsListIter I ax i ∧ h.IsList ax its) where
  obj := fun i h st => by
    obtain ⟨⟨o, e, r⟩, _⟩ := st
    obtain ⟨ol, el, rl⟩ := hl
    exact ⟨o, e, fun h' e' k => ⟨⟨o, e', r⟩, ⟨ol, k _ _ el, rl⟩⟩⟩
  item := fun i s Q E hi st hn hQ => wpAny_pyNext_list_item st.1 st.2 (x := its[i]) (by simp [hi]) fun h' hit' hs' => hQ _ h' s.toks (by simp [hi]) ⟨hit', st.2.extBut hs'.extBut hne⟩ hs' hn
  done := fun s Q E st hQ => wpAny_pyNext_list_end hh st.1 st.2 (by simp) hQ
theorem forG {target : PySem.Expr} {body : List Stmt} {n : Nat} {P : Nat → Value → Nat → Prop} {St : Nat → Heap → Prop} {I : Addr} {n0 : Nat} {led : Led} {R : Result → Shared → Prop} (Good : Nat → (Str → Option Value) → Led → Nat → Prop)
    (W : Iter prog w A h₀ I n n0 P St) (st0 : St 0 s.heap) (hI₀ : h₀.get? I = none) (hIL : L ≠ I) (off0 : ∀ p ∈ led, p.1 ≠ I)
    (F : Fr h₀ L s.heap m) (N : News h₀ L s.heap led) (hn0 : n0 ≤ s.toks) (hg : Good 0 m led s.toks)
    (turn : ∀ i v oI m led h tk tk' (E' : Value → Shared → Prop), i < n → P i v tk' → Good i m led tk → tk ≤ tk' → Fr h₀ L h m → News h₀ L h ((I, oI) :: led) → (∀ p ∈ led, p.1 ≠ I) → n0 ≤ tk' →
      wpAny (model prog w) A (assign target env v) (fun _ s₂ => wpAny (model prog w) A (execs body env) (fun f s₃ => match f with
        | .next | .cont => TurnF h₀ L s I oI (Good (i + 1)) s₃
        | _ => False) E' s₂) E' { s with heap := h, toks := tk' })
    (fin : ∀ m led h tk, Good n m led tk → Fr h₀ L h m → News h₀ L h led → n0 ≤ tk → R (.ok .next) { s with heap := h, toks := tk })
    (ht : ∀ v, letOwnedTupleGo target (.ref I) v = pure () := by intro _; rfl) :
    codeAny (model prog w) A (.forLoop target (.ref I) body [] env) R s := by
  refine codeAny_forLoop (fun k s' => FL h₀ L s St I n0 n Good k s') ?_
    n ⟨0, _, _, m, led, Nat.zero_le _, rfl, rfl, st0, F, N, off0, hn0, hg⟩ ht
  rintro k s' ⟨i, h, tk, m, led, hi, rfl, rfl, st, F, N, off, htk, hG⟩
  by_cases hlt : i < n
  · refine wpAny_with_toks (n := tk) (Nat.le_refl _) (W.item i _ _ _ hlt st htk fun v h' tk' hP st' sb htk' hle => ?_)
    obtain ⟨oI, eI, stI⟩ := W.obj _ _ st'
    have F' : Fr h₀ L h' m := F.change sb (Ne.symm hIL) hI₀
    have N' : News h₀ L h' ((I, oI) :: led) := fun p hp => by
      rcases List.mem_cons.mp hp with rfl | hp
      · exact ⟨eI, Ne.symm hIL, hI₀⟩
      · exact ⟨sb.extBut _ _ (off p hp) (N p hp).1, (N p hp).2⟩
    refine wpAny_with_toks (n := n0) htk' (wpAny_mono (turn i _ oI m led h' tk tk' _ hlt hP hG hle F' N' off htk') (fun _ s₂ h₂ htk₂ =>
      wpAny_with_toks (n := n0) htk₂ (wpAny_mono h₂ (fun f s₃ h₃ htk₃ => ?_) fun _ _ e => e)) fun _ _ e => e)
    have go : TurnF h₀ L s I oI (Good (i + 1)) s₃ → ∃ m_1, m_1 < n - i ∧ FL h₀ L s St I n0 n Good m_1 s₃ := by
      rintro ⟨h4, tk4, m4, led4, rfl, F4, N4, off4, G4⟩
      exact ⟨n - (i + 1), sub_lt_sub hlt, i + 1, h4, tk4, m4, led4, hlt, rfl, rfl, stI h4 (N4 _ List.mem_cons_self).1 F4.keep, F4, fun p hp => N4 p (List.mem_cons_of_mem _ hp), off4, htk₃, G4⟩
    cases f with
    | next => exact go h₃
    | cont => exact go h₃
    | brk => exact h₃.elim
    | ret v => exact h₃.elim
  · obtain rfl : i = n := Nat.le_antisymm hi (Nat.not_lt.mp hlt)
    refine W.done _ _ _ st fun h' ext => wpAny_execs_nil ?_
    refine fin m led h' tk hG ?_ (fun p hp => ⟨ext _ _ (off p hp) (N p hp).1, (N p hp).2⟩) htk
    exact ⟨F.ns.at' fun o e => ext L o hIL e, fun b o e => ext b o (fun q => by rw [q, hI₀] at e; cases e) (F.keep b o e), F.above⟩
theorem forS {target iter : PySem.Expr} {body : List Stmt} {pos : Pos} {x : Str} {t : Tok} {led : Led} {Q : Flow → Shared → Prop} (Good : Nat → (Str → Option Value) → Led → Nat → Prop)
    (hh : A.handled = none) (F : Fr h₀ L s.heap m) (N : News h₀ L s.heap led) (hg : Good 0 m led s.toks)
    (hev : wpAny (model prog w) A (eval iter env) (fun v s₁ => v = .str x t ∧ s₁ = s) E s)
    (turn : ∀ i c u I oI m led h g tk tk' (E' : Value → Shared → Prop), x.cps[i]? = some c → s.toks ≤ u → u < tk' → Good i m led tk → tk ≤ tk' → Fr h₀ L h m → News h₀ L h ((I, oI) :: led) → (∀ p ∈ led, p.1 ≠ I) → s.toks ≤ tk' →
      wpAny (model prog w) A (assign target env (.str (sg c) u)) (fun _ s₂ => wpAny (model prog w) A (execs body env) (fun f s₃ => match f with
        | .next | .cont => TurnF h₀ L { s with heap := g } I oI (Good (i + 1)) s₃
        | _ => False) E' s₂) E' { s with heap := h, toks := tk' })
    (fin : ∀ m led h tk, Good x.cps.size m led tk → Fr h₀ L h m → News h₀ L h led → s.toks ≤ tk → Q .next { s with heap := h, toks := tk })
    (hs : ∀ x, foldedSetIterable iter env x = pure x := by intro _; rfl) (ht : ∀ it v, letOwnedTupleGo target it v = pure () := by intro _ _; rfl) :
    wpAny (model prog w) A (exec (.For target iter body [] pos) env) Q E s := by
  refine wpAny_For (wpAny_mono hev (fun v s₁ h₁ => ?_) fun _ _ e => e) hs
  obtain ⟨rfl, rfl⟩ := h₁
  refine iterStr2 fun o st0 => ?_
  refine forG Good (Iter.str hh _ x t s₁.toks) st0 (next_is_new F) (Nat.ne_of_lt F.ns.lt) (fun p hp => Nat.ne_of_lt (Heap.lt_size (N p hp).1)) (F.keeps fun _ _ e => Heap.get?_push_of_some _ e) (N.grown fun _ _ e => Heap.get?_push_of_some _ e) (Nat.le_refl _) hg ?_ fin (ht _)
  rintro i v oI m led h tk tk' E' hi ⟨c, u, hc, rfl, h1, h2⟩ hG hle F' N' off hn
  exact turn i c u _ oI m led h _ tk tk' E' hc h1 h2 hG hle F' N' off hn
theorem forL {target iter : PySem.Expr} {body : List Stmt} {pos : Pos} {ax : Addr} {its : Array Value} {led : Led} {Q : Flow → Shared → Prop} (Good : Nat → (Str → Option Value) → Led → Nat → Prop)
    (hh : A.handled = none) (F : Fr h₀ L s.heap m) (N : News h₀ L s.heap led) (hl : h₀.IsList ax its) (hg : Good 0 m led s.toks)
    (hev : wpAny (model prog w) A (eval iter env) (fun v s₁ => v = .ref ax ∧ s₁ = s) E s)
    (turn : ∀ i v I oI m led h g tk tk' (E' : Value → Shared → Prop), its[i]? = some v → Good i m led tk → tk ≤ tk' → Fr h₀ L h m → News h₀ L h ((I, oI) :: led) → (∀ p ∈ led, p.1 ≠ I) → s.toks ≤ tk' →
      wpAny (model prog w) A (assign target env v) (fun _ s₂ => wpAny (model prog w) A (execs body env) (fun f s₃ => match f with
        | .next | .cont => TurnF h₀ L { s with heap := g } I oI (Good (i + 1)) s₃
        | _ => False) E' s₂) E' { s with heap := h, toks := tk' })
    (fin : ∀ m led h tk, Good its.size m led tk → Fr h₀ L h m → News h₀ L h led → s.toks ≤ tk → Q .next { s with heap := h, toks := tk })
    (hs : ∀ x, foldedSetIterable iter env x = pure x := by intro _; rfl) (ht : ∀ it v, letOwnedTupleGo target it v = pure () := by intro _ _; rfl) :
    wpAny (model prog w) A (exec (.For target iter body [] pos) env) Q E s := by
  refine wpAny_For (wpAny_mono hev (fun v s₁ h₁ => ?_) fun _ _ e => e) hs
  obtain ⟨rfl, rfl⟩ := h₁
  have hl1 : s₁.heap.IsList ax its := by obtain ⟨o, e, r⟩ := hl; exact ⟨o, F.keep _ _ e, r⟩
  have hlt : ax < s₁.heap.objs.size := by obtain ⟨_, e, _⟩ := hl1; exact Heap.lt_size e
  refine wpAny_pyIter_list hl1 ?_
  refine forG Good (Iter.list hh _ ax its hl (Nat.ne_of_lt hlt) s₁.toks) ⟨⟨_, Heap.get?_push_size _ rfl, rfl, rfl⟩, hl1.push _⟩ (next_is_new F) (Nat.ne_of_lt F.ns.lt) (fun p hp => Nat.ne_of_lt (Heap.lt_size (N p hp).1)) (F.keeps fun _ _ e => Heap.get?_push_of_some _ e) (N.grown fun _ _ e => Heap.get?_push_of_some _ e) (Nat.le_refl _) hg ?_ fin (ht _)
  rintro i v oI m led h tk tk' E' hi hP hG hle F' N' off hn
  exact turn i v _ oI m led h _ tk tk' E' hP hG hle F' N' off hn
end
theorem noneC8 : True := by
  k_with_none
  trivial
-- addresses that differ: by a fact of the context first
-- a def entered: what is left is its body
theorem rowsC8_3 : True := by
  k_with "kroom" => ((try simp only [depth_under_make, depth_under_kw, depth_in1, depth_deeper, depth_caller, recursionLimit] at *); omega)
  k_with "kne" => (refine neN ?_; (try dsimp only); first | with_reducible assumption | exact Nat.ne_of_lt (by with_reducible assumption) | exact Nat.ne_of_gt (by with_reducible assumption) | exact Ne.symm (by with_reducible assumption) | (refine' Nat.ne_of_lt (Nat.lt_trans ?z53xh1 ?z53xh2); (case z53xh2 => with_reducible assumption); (case z53xh1 => with_reducible assumption)) | (refine' Nat.ne_of_gt (Nat.lt_trans ?z53xh1 ?z53xh2); (case z53xh2 => with_reducible assumption); (case z53xh1 => with_reducible assumption)) | omega)
  k_with "spl" => first | (refine' Spl.cons ?z54xsp; (case z54xsp => walk_at "spl")) | exact Spl.nil
  k_with "enter" => ((case k6 => k_is); (case k7 => k_is); (case k8 => k_room); (case k9 => exact BindsTo.of_eq rfl); (case c5 => decide); (case kB => exact locs rfl); (case c2 => exact rfl); (case c3 => exact rfl); (case c4 => exact rfl))
  k_with "enterV" => ((case k6 => k_is); (case k7 => k_is); (case k8 => k_room); (case kP => exact rfl); (case kG => exact fun _ => rfl); (case c5 => decide); (case kB => exact fun _ => locs rfl); (case c2 => exact rfl); (case c3 => exact rfl); (case c4 => exact rfl))
  k_with "apart" => first | exact apNil | (refine apCons (by assumption) ?_; walk_at "apart")
  k_with "allne" => first | with_reducible assumption | exact List.forall_mem_nil _ | (refine' fa_cons ?z58xfh ?z58xft; (case z58xfh => k_ne); (case z58xft => walk_at "allne"))
  k_with "sub" => first | exact subNil | exact fun _ h => h | (refine' subCons ?z59xs1 ?z59xs2; (case z59xs1 => k_mem); (case z59xs2 => walk_at "sub")) | (refine' subTail ?z59xs3; (case z59xs3 => walk_at "sub"))
  k_with "pick" => first | exact Pick.head | (refine' Pick.tail ?z60xpk; (case z60xpk => walk_at "pick"))
  k_with "leave" => (refine' ⟨_, _, _, ?z61xka, ?z61xkb, ?z61xkc⟩; (case z61xka => k_asm); (case z61xkb => k_asm); intro _ _ kA; (have na9 := np_of kA (by walk_at "spl")); (repeat (have hx9 := np_head na9; revert hx9; intro _; replace na9 := np_tail na9)); clear na9; replace kA := np_tl kA (by walk_at "spl"); revert kA; intro _)
  trivial
theorem upd_eq {m : Str → Option Value} {y : Str} {v : Value} : (fun z => if z = y then some v else m z) y = some v := if_pos rfl
theorem upd_ne {m : Str → Option Value} {x y : Str} {v v' : Value} (h : x ≠ y) (hm : m x = some v') : (fun z => if z = y then some v else m z) x = some v' := (if_neg h).trans hm
theorem rowsC8_17 : True := by
  k_with "look" => first | assumption | exact upd_eq | (refine upd_ne (by decide) ?_; walk_at "look")
  k_with "eval Name" => (k_here; k_dflt (refine' nameX_L ?z63xF ?z63xv ?_ ?z63xa ?z63xb; (case z63xF => k_asm); (case z63xa => rfl); (case z63xb => rfl); (case z63xv => walk_at "look"); k_whole))
  k_with "call ref" => (k_here; (with_reducible show wpAny _ _ (call (Value.ref 169) _ _) _ _ _); k_dflt (refine wpAny_call ?_; refine' name_c ?z64xkB ?z64xkF ?z64xkX ?z64xkT rfl rfl ?z64xkr ?z64xkN ?z64xkc ?_; (case z64xkB => k_asm); (case z64xkF => k_asm); (case z64xkX => k_asm); (case z64xkT => k_asm); (case z64xkN => k_asm); (case z64xkr => k_room); (case z64xkc => assumption)); intro _ _ _ ht' htk'; (try dsimp only at ht' htk'); revert ht' htk'; intro _ _ _ _; (try dsimp only))
  trivial
theorem gen_toks {M : Model} {A : Around} {α : Type} {t : Sem α} {Q : α → Shared → Prop} {E : Value → Shared → Prop} {hp : Heap} {gs : Array GenState} {dr : Drawn} {a b : Nat} {os : OsState} (h : ∀ tk, a + b ≤ tk → wpAny M A t Q E ⟨hp, gs, dr, tk, os⟩) : wpAny M A t Q E ⟨hp, gs, dr, a + b, os⟩ := h _ (Nat.le_refl _)
theorem rowsC8_23 : True := by
  k_with "execs cons" => (k_here; (try dsimp only); with_reducible refine gen_toks ?_; intro _ _)
  trivial
/-- the rules one after the other -/
noncomputable def byT (cs : List Nat) (text : Str) : Str := cs.foldl (fun t c => Txt.replace t (sg c) (nmS c)) text
/-- one sign replaced -/
noncomputable def rp (c : Nat) (z : List Nat) (a : Nat) : List Nat := if a = c then z else [a]
theorem rp_free (c : Nat) (z : List Nat) : ∀ l : List Nat, c ∉ l → l.flatMap (rp c z) = l := by
  intro l
  induction l with
  | nil => exact fun _ => rfl
  | cons a r ih =>
    intro h
    rw [List.flatMap_cons, ih fun q => h (List.mem_cons_of_mem _ q)]
    unfold rp
    rw [if_neg fun q : a = c => h (q ▸ List.mem_cons_self)]
    rfl
theorem rp_join (c : Nat) (z : Str) : ∀ parts : List Str, (∀ p ∈ parts, c ∉ p.cps.toList) → (Str.join (sg c) parts).cps.toList.flatMap (rp c z.cps.toList) = (Str.join z parts).cps.toList := by
  intro parts
  induction parts with
  | nil => exact fun _ => rfl
  | cons p r ih =>
    intro h
    cases r with
    | nil => exact rp_free c _ _ (h p List.mem_cons_self)
    | cons q r =>
      have ih' := ih fun a ha => h a (List.mem_cons_of_mem _ ha)
      show (p ++ sg c ++ Str.join (sg c) (q :: r)).cps.toList.flatMap (rp c z.cps.toList) = (p ++ z ++ Str.join z (q :: r)).cps.toList
      simp only [Str.cps_append, Array.toList_append, List.flatMap_append]
      rw [ih', rp_free c _ _ (h p List.mem_cons_self)]
      simp [rp]
theorem rep_flat (x z : Str) (c : Nat) : (Txt.replace x (sg c) z).cps.toList = x.cps.toList.flatMap (rp c z.cps.toList) := by
  rw [StrLaws.replace_one, ← rp_join c z _ (StrLaws.split_free x c), StrLaws.join_split]
theorem rp_len {c b : Nat} {z : List Nat} (hz : z.length ≤ b + 1) : ∀ l : List Nat, (l.flatMap (rp c z)).length ≤ (b + 1) * l.length := by
  intro l
  induction l with
  | nil => exact Nat.zero_le _
  | cons a r ih =>
    rw [List.flatMap_cons, List.length_append, List.length_cons, Nat.mul_succ]
    have : (rp c z a).length ≤ b + 1 := by
      unfold rp; split
      · exact hz
      · exact Nat.succ_le_succ (Nat.zero_le _)
    omega
theorem byT_snoc (cs : List Nat) (c : Nat) (text : Str) : byT (cs ++ [c]) text = Txt.replace (byT cs text) (sg c) (nmS c) := by
  unfold byT; rw [List.foldl_append]; rfl
theorem byT_len (cs : List Nat) (text : Str) (h : ∀ c ∈ cs, c ∈ sg7) : (byT cs text).length ≤ 6 ^ cs.length * text.length := by
  induction cs generalizing text with
  | nil => show text.length ≤ _; rw [List.length_nil, Nat.pow_zero, Nat.one_mul]; exact Nat.le_refl _
  | cons c r ih =>
    have h1 := ih (Txt.replace text (sg c) (nmS c)) fun a ha => h a (List.mem_cons_of_mem _ ha)
    have h2 : (Txt.replace text (sg c) (nmS c)).length ≤ 6 * text.length := by
      show (Txt.replace text (sg c) (nmS c)).cps.size ≤ 6 * text.cps.size
      rw [← Array.length_toList, rep_flat, ← Array.length_toList (xs := text.cps)]
      refine rp_len (b := 5) ?_ _
      rw [Array.length_toList]
      exact nm_len (h c List.mem_cons_self)
    refine Nat.le_trans h1 (Nat.le_trans (Nat.mul_le_mul_left _ h2) (Nat.le_of_eq ?_))
    rw [List.length_cons, Nat.pow_succ, ← Nat.mul_assoc]
theorem byT_fits {order text : Str} {i : Nat} (hsg : ∀ c ∈ order.cps.toList, c ∈ sg7) (htx : text.cps.size ≤ 15) (hi : i < 7) {c : Nat} (hc : c ∈ sg7) :
    (byT (order.cps.toList.take i) text).length + ((byT (order.cps.toList.take i) text).length + 1) * (nmS c).length ≤ 16777216 := by
  have h1 := byT_len (order.cps.toList.take i) text fun c hc => hsg c (List.mem_of_mem_take hc)
  have h2 : 6 ^ (order.cps.toList.take i).length ≤ 6 ^ 6 := Nat.pow_le_pow_right (by decide) (by rw [List.length_take]; omega)
  have h3 : (byT (order.cps.toList.take i) text).length ≤ 6 ^ 6 * 15 := Nat.le_trans h1 (Nat.mul_le_mul h2 htx)
  have h4 := nm_len hc
  have h5 := Nat.mul_le_mul (Nat.succ_le_succ h3) h4
  have e : (6 ^ 6 * 15 + 1) * 6 = 4199046 := by decide
  rw [e] at h5
  have e2 : 6 ^ 6 * 15 = 699840 := by decide
  rw [e2] at h3
  exact Nat.le_trans (Nat.add_le_add h3 h5) (by decide)
theorem nm_ne {c : Nat} (hc : c ∈ sg7) : ((sg c) == nmS c) = false := sg_cases hc (P := fun c => ((sg c) == nmS c) = false) (by decide +kernel) (by decide +kernel) (by decide +kernel) (by decide +kernel) (by decide +kernel) (by decide +kernel) (by decide +kernel)
section
variable {prog : Program} {w : World} {A₀ A : Around} {s : Shared} {base h₀ : Heap} {outer : List Env} {L : Addr} {m : Str → Option Value} {env : Env} {fp rest : Led} {K : Frag}
  {R : Result → Shared → Prop} {name qual : Str} {params : Arguments} {body : List Stmt} {scope : Scope} {dV kV doc pm cdv ct oc : Value} {an od : Option Addr} {osl : Array (Option Value)} {f : Addr} {args : Args} {binds : List (Str × Value)}
  {p : Program} {loose : List Str} {mean : ExcName → Option Value} {mg mb : Str → Option Value}
/-- callF, telling the callee of what is hidden -/
theorem callR (B : Below A₀ base outer h₀) (F : Fr h₀ L s.heap m) (X₀ : K.In h₀) (N : News h₀ L s.heap (fp ++ rest)) (hdis : Ap rest fp) (T : Top p loose mean mg mb h₀)
    (hA : A.frames = some (env :: outer)) (hf : env.frame = some L) (hke : env.scope.kind = .function)
    (ho : K.lookup f = some ⟨oc, od, .func (fnOf name qual params body scope dV kV doc pm an cdv ct), osl⟩) (hcd : codeIn K cdv qual = true) (hroom : A.depth < recursionLimit)
    (hbind : BindsTo s (fnOf name qual params body scope dV kV doc pm an cdv ct) args binds) (hloc : ∀ y ∈ binds, scope.names.lookup y.1 = some .local)
    (h : ∀ g L' h₁, h₀.StaysIn g → Fr g L' h₁ (fun y => binds.reverse.lookup y) → News g L' h₁ fp → Below A base (env :: outer) g → K.In g → Top p loose mean mg mb g → (∀ p ∈ rest, g.get? p.1 = some p.2) →
      wpAny (model prog w) (A.deeper (envOf qual scope L' f cdv)) (execs body (envOf qual scope L' f cdv))
        (fun fl s' => LeaveF h₀ L m rest g R (match fl with | .ret v => v | _ => .none) s')
        (fun e s' => wpAny (model prog w) (A.deeper (envOf qual scope L' f cdv)) (leaving (envOf qual scope L' f cdv) e) (fun _ s'' => R (.error e) s'') (fun e' s'' => R (.error e') s'') s')
        { s with heap := h₁, toks := s.toks + binds.length })
    (hco : scope.isCoroutine = false) (hgen : scope.isGenerator = false) (hk : scope.kind = .function)
    (hcell : ∀ x ∈ scope.names, x.2 ≠ .cell) : codeAny (model prog w) A (.call (.ref f) args) R s := by
  obtain ⟨BG, st, N1, lv⟩ := groundF (R := R) B F N hdis hA hf hke
  have X := X₀.keeps F.keep
  refine codeAny_call_def (fd := fnOf name qual params body scope dV kV doc pm an cdv ct) (body := body) (binds := binds) hroom (X _ _ ho) rfl (T.nolimit.keeps F.keep) (codeRec_of X hcd) rfl hbind hcell hloc (fun h₁ hns hk₁ => ?_) hco hgen hk
  exact wpAny_mono (h _ s.heap.objs.size h₁ st ⟨hns, fun b o e => hk₁ b o (of_hideAll _ e), Nat.le_of_eq (hideAll_size _ _)⟩
    (fun p hp => ⟨hk₁ _ _ (N1 p hp).1, Nat.ne_of_lt (Heap.lt_size (N1 p hp).1), hideAll_none _ (List.mem_map_of_mem hp)⟩) BG (X₀.keeps st) (T.keeps st) (fun p hp => hideAll_get _ (N p (List.mem_append_right _ hp)).1 fun q => by
      obtain ⟨q', hq', e⟩ := List.mem_map.mp q
      exact ap_of hdis p hp q' hq' e.symm)) (fun fl s' hl => lv _ _ hl) fun _ _ y => y
end
/-- a list of signs with their tokens -/
noncomputable def OrdL (n : Nat) : List Nat → List Value → Prop
  | [], [] => True
  | c :: cs, y :: ys => (∃ u, y = .str (sg c) u ∧ 0 < u ∧ u < n) ∧ OrdL n cs ys
  | _, _ => False
theorem OrdL.len {n : Nat} : ∀ {cs : List Nat} {ys : List Value}, OrdL n cs ys → cs.length = ys.toArray.size := by
  intro cs
  induction cs with
  | nil => intro ys h; cases ys with
    | nil => rfl
    | cons => exact h.elim
  | cons c cs ih => intro ys h; cases ys with
    | nil => exact h.elim
    | cons y ys => have := ih h.2; simp only [List.length_cons, List.size_toArray] at this ⊢; rw [this]
theorem OrdL.get {n : Nat} : ∀ {cs : List Nat} {ys : List Value} {i : Nat} {v : Value}, OrdL n cs ys → ys[i]? = some v → ∃ c u, cs[i]? = some c ∧ v = .str (sg c) u ∧ 0 < u ∧ u < n := by
  intro cs
  induction cs with
  | nil => intro ys i v h e; cases ys with
    | nil => cases e
    | cons => exact h.elim
  | cons c cs ih => intro ys i v h e; cases ys with
    | nil => exact h.elim
    | cons y ys =>
      cases i with
      | zero => obtain ⟨u, r, h1, h2⟩ := h.1; cases e; exact ⟨c, u, rfl, r, h1, h2⟩
      | succ i => exact ih h.2 e
theorem OrdL.at {n : Nat} {x : Str} {ys : List Value} {i : Nat} {v : Value} (h : OrdL n x.cps.toList ys) (e : ys.toArray[i]? = some v) : ∃ c u, x.cps[i]? = some c ∧ v = .str (sg c) u ∧ 0 < u ∧ u < n := by
  obtain ⟨c, u, h1, h2⟩ := h.get (i := i) (v := v) (by simpa using e)
  exact ⟨c, u, by rw [← Array.getElem?_toList]; exact h1, h2⟩
theorem take_snoc {x : Str} {i c : Nat} (hc : x.cps[i]? = some c) : x.cps.toList.take (i + 1) = x.cps.toList.take i ++ [c] := by
  rw [List.take_succ, Array.getElem?_toList, hc]; rfl
section
variable {w : World} {A₀ : Around} {s : Shared} {base h₀ : Heap} {outer : List Env} {L : Addr} {m : Str → Option Value} {env : Env} {rest : Led}
  {R : Result → Shared → Prop} {mean : ExcName → Option Value} {mg mb : Str → Option Value} {d u : Nat} {g : Option (List Code)} {t1 t2 t3 : Tok} {text order : Str} {ax : Nat} {ys : List Value}
theorem turns_s
  (B : Below A₀ base outer h₀) (F : Fr h₀ L s.heap m) (X₀ : (hd.heap_39 w.params).In h₀) (T : Tp mean mg mb h₀)
  (hf : env.frame = some L) (hke : env.scope.kind = .function) (hroom : d + 40 < 1000) (N : News h₀ L s.heap rest) (ht0 : 0 < s.toks) (hsg : ∀ c ∈ order.cps.toList, c ∈ sg7) (htx : text.cps.size ≤ 15) (ho : order.cps.size ≤ 7)
  (k : ∀ h' tk' t', s.toks ≤ tk' → Fr h₀ L h' m → News h₀ L h' rest → R (.ok (.ret (.str (byT order.cps.toList text) t'))) { s with heap := h', toks := tk' }) :
  codeAny (model PySem.Challenge.rw_mr0322_01.row.prog w) (Ar d env outer g u) (.call (.ref 181) ⟨[.str text t1, .str order t2], []⟩) R s := by
  refine codeAny_with_toks (n := s.toks) (Nat.le_refl _) ?_
  k_dflt (refine' callF (fp := []) (binds := [(Str.ofString "text", .str text t1), (Str.ofString "order", .str order t2)]) B F X₀ (by exact N) (by walk_at "apart") T rfl hf hke ?k6 ?k7 ?k8 ?k9 ?kB ?_ ?c2 ?c3 ?c4 ?c5)
  walk_at "enter"
  intro g' L' h' st F' N' B' X' T'
  try dsimp only
  have hle0 := Nat.le_add_right s.toks [(Str.ofString "text", Value.str text t1), (Str.ofString "order", Value.str order t2)].length
  generalize s.toks + [(Str.ofString "text", Value.str text t1), (Str.ofString "order", Value.str order t2)].length = tk0 at hle0 ⊢
  refine wpAny_execs_cons ?_
  refine forS (x := order) (t := t2) (fun i m led tk => led = [] ∧ ∃ t', m (Str.ofString "text") = some (.str (byT (order.cps.toList.take i) text) t')) rfl F' N' ⟨rfl, t1, rfl⟩ ?ev ?turn ?fin
  case ev =>
    k_steps
  case turn =>
    rintro i c u I oI m led h g9 tk tk' E' hc hu1 hu2 ⟨rfl, tt, hm⟩ hle F N off hn
    have h7 : c ∈ sg7 := hsg c (List.mem_of_getElem? (by rw [Array.getElem?_toList]; exact hc))
    have hi : i < 7 := Nat.lt_of_lt_of_le (Array.getElem?_eq_some_iff.mp hc).1 ho
    k_steps
    k_dflt (refine' SC.replace ?u ?v ?uv (nm_ne h7) (byT_fits hsg htx hi h7) ?_)
    case u => exact Nat.ne_of_gt (Nat.lt_of_lt_of_le ht0 (Nat.le_trans hle0 hu1))
    case v => exact Nat.ne_of_gt (Nat.lt_of_lt_of_le ht0 (Nat.le_trans hle0 (Nat.le_trans hn (Nat.le_trans (Nat.le_succ _) (Nat.le_trans (by assumption) (by assumption))))))
    case uv => exact Nat.ne_of_lt (Nat.lt_of_lt_of_le hu2 (Nat.le_trans (Nat.le_succ _) (Nat.le_trans (by assumption) (by assumption))))
    intro t9 k9
    try dsimp only
    k_steps
    dsimp only
    refine ⟨_, _, _, [], rfl, by k_asm, by k_asm, off, rfl, t9, ?_⟩
    rw [if_pos rfl, take_snoc hc, byT_snoc]
  case fin =>
    rintro m led h tk ⟨rfl, tt, hm⟩ F N hn
    dsimp only
    k_steps
    dsimp only
    walk_at "leave"
    intro hlt
    rw [List.take_of_length_le (by rw [Array.length_toList]; exact Nat.le_refl _)]
    exact k _ _ _ hlt (by k_asm) (News.sub (by k_asm) (by walk_at "sub"))
theorem turns_l
  (B : Below A₀ base outer h₀) (F : Fr h₀ L s.heap m) (X₀ : (hd.heap_39 w.params).In h₀) (T : Tp mean mg mb h₀)
  (hf : env.frame = some L) (hke : env.scope.kind = .function) (hroom : d + 40 < 1000) (N : News h₀ L s.heap rest) (ht0 : 0 < s.toks) (hys : OrdL s.toks order.cps.toList ys) (hsg : ∀ c ∈ order.cps.toList, c ∈ sg7) (hax : (ax, LCg.lst ys) ∈ rest) (htx : text.cps.size ≤ 15) (ho : order.cps.size ≤ 7)
  (k : ∀ h' tk' t', s.toks ≤ tk' → Fr h₀ L h' m → News h₀ L h' rest → R (.ok (.ret (.str (byT order.cps.toList text) t'))) { s with heap := h', toks := tk' }) :
  codeAny (model PySem.Challenge.rw_mr0322_01.row.prog w) (Ar d env outer g u) (.call (.ref 181) ⟨[.str text t1, Value.ref ax], []⟩) R s := by
  refine codeAny_with_toks (n := s.toks) (Nat.le_refl _) ?_
  k_dflt (refine' callR (fp := []) (binds := [(Str.ofString "text", .str text t1), (Str.ofString "order", Value.ref ax)]) B F X₀ (by exact N) (by walk_at "apart") T rfl hf hke ?k6 ?k7 ?k8 ?k9 ?kB ?_ ?c2 ?c3 ?c4 ?c5)
  walk_at "enter"
  intro g' L' h' st F' N' B' X' T' hr
  try dsimp only
  have hle0 := Nat.le_add_right s.toks [(Str.ofString "text", Value.str text t1), (Str.ofString "order", Value.ref ax)].length
  generalize s.toks + [(Str.ofString "text", Value.str text t1), (Str.ofString "order", Value.ref ax)].length = tk0 at hle0 ⊢
  refine wpAny_execs_cons ?_
  refine forL (ax := ax) (its := ys.toArray) (fun i m led tk => led = [] ∧ ∃ t', m (Str.ofString "text") = some (.str (byT (order.cps.toList.take i) text) t')) rfl F' N' ⟨_, hr _ hax, rfl, _, rfl⟩ ⟨rfl, t1, rfl⟩ ?ev ?turn ?fin
  case ev =>
    k_steps
  case turn =>
    rintro i v I oI m led h g9 tk tk' E' hv ⟨rfl, tt, hm⟩ hle F N off hn
    obtain ⟨c, u, hc, rfl, hu1, hu2⟩ := hys.at hv
    have h7 : c ∈ sg7 := hsg c (List.mem_of_getElem? (by rw [Array.getElem?_toList]; exact hc))
    have hi : i < 7 := Nat.lt_of_lt_of_le (Array.getElem?_eq_some_iff.mp hc).1 ho
    k_steps
    k_dflt (refine' SC.replace ?u ?v ?uv (nm_ne h7) (byT_fits hsg htx hi h7) ?_)
    case u => exact Nat.ne_of_gt hu1
    case v => exact Nat.ne_of_gt (Nat.lt_of_lt_of_le ht0 (Nat.le_trans hle0 (Nat.le_trans hn (Nat.le_trans (Nat.le_succ _) (Nat.le_trans (by assumption) (by assumption))))))
    case uv => exact Nat.ne_of_lt (Nat.lt_of_lt_of_le hu2 (Nat.le_trans hle0 (Nat.le_trans hn (Nat.le_trans (Nat.le_succ _) (Nat.le_trans (by assumption) (by assumption))))))
    intro t9 k9
    try dsimp only
    k_steps
    dsimp only
    refine ⟨_, _, _, [], rfl, by k_asm, by k_asm, off, rfl, t9, ?_⟩
    rw [if_pos rfl, take_snoc hc, byT_snoc]
  case fin =>
    rintro m led h tk ⟨rfl, tt, hm⟩ F N hn
    dsimp only
    k_steps
    dsimp only
    walk_at "leave"
    intro hlt
    rw [List.take_of_length_le (Nat.le_of_eq hys.len)]
    exact k _ _ _ hlt (by k_asm) (News.sub (by k_asm) (by walk_at "sub"))
end
theorem noneC9 : True := by
  k_with_none
  trivial
-- addresses that differ: by a fact of the context first
-- a def entered: what is left is its body
theorem rowsC9_3 : True := by
  k_with "kroom" => ((try simp only [depth_under_make, depth_under_kw, depth_in1, depth_deeper, depth_caller, recursionLimit] at *); omega)
  k_with "kne" => (refine neN ?_; (try dsimp only); first | with_reducible assumption | exact Nat.ne_of_lt (by with_reducible assumption) | exact Nat.ne_of_gt (by with_reducible assumption) | exact Ne.symm (by with_reducible assumption) | (refine' Nat.ne_of_lt (Nat.lt_trans ?z67xh1 ?z67xh2); (case z67xh2 => with_reducible assumption); (case z67xh1 => with_reducible assumption)) | (refine' Nat.ne_of_gt (Nat.lt_trans ?z67xh1 ?z67xh2); (case z67xh2 => with_reducible assumption); (case z67xh1 => with_reducible assumption)) | omega)
  k_with "spl" => first | (refine' Spl.cons ?z68xsp; (case z68xsp => walk_at "spl")) | exact Spl.nil
  k_with "enter" => ((case k6 => k_is); (case k7 => k_is); (case k8 => k_room); (case k9 => exact BindsTo.of_eq rfl); (case c5 => decide); (case kB => exact locs rfl); (case c2 => exact rfl); (case c3 => exact rfl); (case c4 => exact rfl))
  k_with "enterV" => ((case k6 => k_is); (case k7 => k_is); (case k8 => k_room); (case kP => exact rfl); (case kG => exact fun _ => rfl); (case c5 => decide); (case kB => exact fun _ => locs rfl); (case c2 => exact rfl); (case c3 => exact rfl); (case c4 => exact rfl))
  k_with "apart" => first | exact apNil | (refine apCons (by assumption) ?_; walk_at "apart")
  k_with "allne" => first | with_reducible assumption | exact List.forall_mem_nil _ | (refine' fa_cons ?z72xfh ?z72xft; (case z72xfh => k_ne); (case z72xft => walk_at "allne"))
  k_with "sub" => first | exact subNil | exact fun _ h => h | (refine' subCons ?z73xs1 ?z73xs2; (case z73xs1 => k_mem); (case z73xs2 => walk_at "sub")) | (refine' subTail ?z73xs3; (case z73xs3 => walk_at "sub"))
  k_with "pick" => first | exact Pick.head | (refine' Pick.tail ?z74xpk; (case z74xpk => walk_at "pick"))
  k_with "leave" => (refine' ⟨_, _, _, ?z75xka, ?z75xkb, ?z75xkc⟩; (case z75xka => k_asm); (case z75xkb => k_asm); intro _ _ kA; (have na9 := np_of kA (by walk_at "spl")); (repeat (have hx9 := np_head na9; revert hx9; intro _; replace na9 := np_tail na9)); clear na9; replace kA := np_tl kA (by walk_at "spl"); revert kA; intro _)
  k_with "look" => first | assumption | exact upd_eq | (refine upd_ne (by decide) ?_; walk_at "look")
  k_with "eval Name" => (k_here; k_dflt (refine' nameX_L ?z77xF ?z77xv ?_ ?z77xa ?z77xb; (case z77xF => k_asm); (case z77xa => rfl); (case z77xb => rfl); (case z77xv => walk_at "look"); k_whole))
  k_with "execs nil" => (k_here; (try dsimp only); with_reducible refine gen_toks ?_; intro _ _)
  k_with "execs cons" => (k_here; (try dsimp only); with_reducible refine gen_toks ?_; intro _ _)
  trivial
theorem MC {env : Env} {n name : Str} {y z : PySem.Const} {p5 p6 p7 p8 p9 : Pos} (hp : (p6.endLine == p9.line) = true) : eval (.Call (.Attribute (.Name n p5) name p6) [.Constant y 0 p7, .Constant z 0 p8] [] p9) env = (do
      let ov ← eval (.Name n p5) env
      standAt p6.atName
      let (f, first) ← holding [ov] (getMethod ov name (do return (← importBound (.Name n p5) env).getD true))
      callWith p9 f first (backTo p9 (starEach [.Constant y 0 p7, .Constant z 0 p8] env)) []) := by
  have e : methodCallPos true (.Name n p5) env p6 p9 = pure p9 := by unfold methodCallPos; rw [hp]; rfl
  show (do
      let ov ← eval (.Name n p5) env
      standAt p6.atName
      let (f, first) ← holding [ov] (getMethod ov name (do return (← importBound (.Name n p5) env).getD true))
      let cp ← methodCallPos true (.Name n p5) env p6 p9
      callWith cp f first (backTo p9 (starEach [.Constant y 0 p7, .Constant z 0 p8] env)) []) = _
  rw [e]
  rfl
theorem rowsC9_33 : True := by
  k_with "eval Call Attribute" => (k_here; refine MethodCall_ ?_ (MC (by assumption)))
  trivial
noncomputable abbrev escSc : Scope := { kind := .function, names := [(Str.ofString "text", .local), (Str.ofString "TypeError", .globalImplicit), (Str.ofString "AttributeError", .globalImplicit), (Str.ofString "_raise_serialization_error", .globalImplicit)], isGenerator := false, isCoroutine := false }
/-- the signs of S by their names -/
noncomputable def nmL (S : List Nat) (a : Nat) : List Nat := if a ∈ S then (nmS a).cps.toList else [a]
theorem nm_free {c a : Nat} (hc : c ∈ sg7) (h : c ≠ 38) (ha : a ∈ sg7) : c ∉ (nmS a).cps.toList := by
  have hall : ∀ c ∈ [60, 62, 34, 13, 10, 9], ∀ a ∈ sg7, c ∉ (nmS a).cps.toList := by decide +kernel
  refine hall c ?_ a ha
  simp only [sg7, List.mem_cons, List.not_mem_nil, or_false] at hc ⊢
  rcases hc with e | e
  · exact absurd e h
  · exact e
theorem rep_step {S : List Nat} {text T : Str} {c : Nat} (hS : ∀ a ∈ S, a ∈ sg7) (hc : c ∈ sg7) (h38 : c ≠ 38) (hT : T.cps.toList = text.cps.toList.flatMap (nmL S)) :
    (Txt.replace T (sg c) (nmS c)).cps.toList = text.cps.toList.flatMap (nmL (S ++ [c])) := by
  rw [rep_flat, hT, List.flatMap_assoc]
  congr 1
  funext a
  unfold nmL
  by_cases ha : a ∈ S
  · rw [if_pos ha, if_pos (List.mem_append_left _ ha), rp_free c _ _ (nm_free hc h38 (hS a ha))]
  · rw [if_neg ha, List.flatMap_singleton]
    unfold rp
    by_cases e : a = c
    · subst e; rw [if_pos rfl, if_pos (List.mem_append_right _ (List.mem_singleton.mpr rfl))]
    · rw [if_neg e, if_neg fun q => (List.mem_append.mp q).elim ha fun q => e (List.mem_singleton.mp q)]
theorem byT_from {text : Str} : ∀ (cs S : List Nat) (T : Str), (∀ a ∈ S, a ∈ sg7) → (∀ c ∈ cs, c ∈ sg7 ∧ c ≠ 38) → T.cps.toList = text.cps.toList.flatMap (nmL S) → (byT cs T).cps.toList = text.cps.toList.flatMap (nmL (S ++ cs)) := by
  intro cs
  induction cs with
  | nil => intro S T _ _ h; rw [List.append_nil]; exact h
  | cons c r ih =>
    intro S T hS hc hT
    obtain ⟨h1, h2⟩ := hc c List.mem_cons_self
    have := ih (S ++ [c]) (Txt.replace T (sg c) (nmS c)) (fun a ha => (List.mem_append.mp ha).elim (hS a) fun q => List.mem_singleton.mp q ▸ h1) (fun a ha => hc a (List.mem_cons_of_mem _ ha)) (rep_step hS h1 h2 hT)
    rw [List.append_assoc] at this
    exact this
theorem byT_flat {text : Str} {cs : List Nat} (hc : ∀ c ∈ cs, c ∈ sg7 ∧ c ≠ 38) : (byT (38 :: cs) text).cps.toList = text.cps.toList.flatMap (nmL (38 :: cs)) := by
  refine byT_from cs [38] _ (fun a ha => List.mem_singleton.mp ha ▸ by decide) hc ?_
  rw [rep_flat]
  congr 1
  funext a
  unfold nmL rp
  by_cases e : a = 38
  · subst e; rw [if_pos rfl, if_pos (List.mem_singleton.mpr rfl)]
  · rw [if_neg e, if_neg fun q => e (List.mem_singleton.mp q)]
theorem flat_len {f : Nat → List Nat} {b : Nat} (h : ∀ a, (f a).length ≤ b) : ∀ l : List Nat, (l.flatMap f).length ≤ b * l.length := by
  intro l
  induction l with
  | nil => exact Nat.zero_le _
  | cons a r ih =>
    rw [List.flatMap_cons, List.length_append, List.length_cons, Nat.mul_succ]
    have := h a
    omega
theorem nmL_len {S : List Nat} (hS : ∀ a ∈ S, a ∈ sg7) (a : Nat) : (nmL S a).length ≤ 6 := by
  unfold nmL
  split
  · next h => rw [Array.length_toList]; exact nm_len (hS a h)
  · exact (by decide : (1 : Nat) ≤ 6)
theorem byT_short {text : Str} {cs : List Nat} (hc : ∀ c ∈ cs, c ∈ sg7 ∧ c ≠ 38) (htx : text.cps.size ≤ 90) {z : Str} (hz : z.length ≤ 6) :
    (byT (38 :: cs) text).length + ((byT (38 :: cs) text).length + 1) * z.length ≤ 16777216 := by
  have h1 : (byT (38 :: cs) text).length ≤ 540 := by
    show (byT (38 :: cs) text).cps.size ≤ 540
    rw [← Array.length_toList, byT_flat hc]
    have := flat_len (nmL_len (S := 38 :: cs) fun a ha => (List.mem_cons.mp ha).elim (fun e => e ▸ by decide) fun q => (hc a q).1) text.cps.toList
    have e : text.cps.toList.length ≤ 90 := by rw [Array.length_toList]; exact htx
    exact Nat.le_trans this (Nat.mul_le_mul_left 6 e)
  exact Nat.le_trans (Nat.add_le_add h1 (Nat.mul_le_mul (Nat.succ_le_succ h1) hz)) (by decide)
theorem rep_none {x y z : Str} (h : (Builtin.Str.occurrences x y 0 x.length 1).isEmpty = true) (c : Nat) (hy : y = sg c) : Txt.replace x y z = x := by
  subst hy
  have h1 : c ∉ x.cps.toList := fun hc => by
    have := StrLaws.found_one x c
    rw [h, decide_eq_true hc] at this
    cases this
  have h2 := rep_flat x z c
  rw [rp_free c _ _ h1] at h2
  cases e : Txt.replace x (sg c) z with
  | mk a => rw [e] at h2; cases x with
    | mk b => congr 1; exact Array.toList_inj.mp h2
section
variable {w : World} {A : Around} {s : Shared} {h₀ : Heap} {L f : Addr} {m : Str → Option Value} {E : Value → Shared → Prop} {Q : Flow → Shared → Prop} {nm : Str} {cdv : Value} {x y z : Str} {tx : Tok} {c : Nat}
  {mean : ExcName → Option Value} {mg mb : Str → Option Value} {d u : Nat} {g : Option (List Code)} {env : Env} {outer : List Env} {p1 p2 p3 p4 p5 p6 p7 p8 p9 p10 p11 : Pos} {st : List Stmt}
theorem esc_if (X₀ : (hd.heap_39 w.params).In h₀) (T : Tp mean mg mb h₀) (F : Fr h₀ L s.heap m) (N : News h₀ L s.heap []) (hm : m (Str.ofString "text") = some (.str x tx)) (ht0 : 0 < s.toks) (hp : (p6.endLine == p9.line) = true) (hy : y = sg c) (hyz : (y == z) = false) (hfit : x.length + (x.length + 1) * z.length ≤ 16777216)
    (k : ∀ h' tk' m' t', s.toks ≤ tk' → Fr h₀ L h' m' → News h₀ L h' [] → m' (Str.ofString "text") = some (.str (Txt.replace x y z) t') → wpAny (model PySem.Challenge.rw_mr0322_01.row.prog w) ((Ar d env outer g u).deeper (envOf nm escSc L f cdv)) (execs st (envOf nm escSc L f cdv)) Q E { s with heap := h', toks := tk' }) :
    wpAny (model PySem.Challenge.rw_mr0322_01.row.prog w) ((Ar d env outer g u).deeper (envOf nm escSc L f cdv)) (execs (.If (.Compare (.Constant (.str y) 0 p1) [.In] [.Name (Str.ofString "text") p2] p3)
      [.Assign [.Name (Str.ofString "text") p4] (.Call (.Attribute (.Name (Str.ofString "text") p5) (Str.ofString "replace") p6) [.Constant (.str y) 0 p7, .Constant (.str z) 0 p8] [] p9) p10] [] p11 :: st) (envOf nm escSc L f cdv)) Q E s := by
  refine wpAny_execs_cons ?_
  k_steps
  · exact k _ _ _ _ (Nat.le_trans (Nat.le_succ _) (by assumption)) F N (by rw [rep_none (by assumption) c hy]; exact hm)
  · k_dflt (refine' wpAny_with_toks (n := s.toks) ?l (SC.replace ?u ?v ?uv hyz hfit ?_))
    case l => exact Nat.le_trans (Nat.le_succ _) (Nat.le_trans (by assumption) (Nat.le_add_right _ 2))
    case u => exact Nat.ne_of_gt (Nat.lt_of_lt_of_le (Nat.succ_pos _) (by assumption))
    case v => exact Nat.succ_ne_zero _
    case uv => exact Nat.ne_of_lt (Nat.lt_succ_self _)
    intro t9 k9 hk9
    dsimp only at hk9 ⊢
    k_steps
    exact k _ _ _ _ (Nat.le_trans hk9 (Nat.le_trans (Nat.le_succ _) (by assumption))) (by k_asm) (by k_asm) upd_eq
end
section
variable {w : World} {A₀ : Around} {s : Shared} {base h₀ : Heap} {outer : List Env} {L : Addr} {m : Str → Option Value} {env : Env} {rest : Led}
  {R : Result → Shared → Prop} {mean : ExcName → Option Value} {mg mb : Str → Option Value} {d u : Nat} {g : Option (List Code)} {t1 : Tok} {text : Str}
theorem esc_1
  (B : Below A₀ base outer h₀) (F : Fr h₀ L s.heap m) (X₀ : (hd.heap_39 w.params).In h₀) (T : Tp mean mg mb h₀)
  (hf : env.frame = some L) (hke : env.scope.kind = .function) (hroom : d + 40 < 1000) (N : News h₀ L s.heap rest) (ht0 : 0 < s.toks) (htx : text.cps.size ≤ 90)
  (k : ∀ h' tk' t', s.toks ≤ tk' → Fr h₀ L h' m → News h₀ L h' rest → R (.ok (.ret (.str (byT [38, 60, 62] text) t'))) { s with heap := h', toks := tk' }) :
  codeAny (model PySem.Challenge.rw_mr0322_01.row.prog w) (Ar d env outer g u) (.call (.ref 28) ⟨[.str text t1], []⟩) R s := by
  refine codeAny_with_toks (n := s.toks) (Nat.le_refl _) ?_
  k_dflt (refine' callF (fp := []) (binds := [(Str.ofString "text", .str text t1)]) B F X₀ (by exact N) (by walk_at "apart") T rfl hf hke ?k6 ?k7 ?k8 ?k9 ?kB ?_ ?c2 ?c3 ?c4 ?c5)
  walk_at "enter"
  intro g' L' h' st F' N' B' X' T'
  try dsimp only
  have l0 : 0 < s.toks + [(Str.ofString "text", Value.str text t1)].length := Nat.lt_of_lt_of_le ht0 (Nat.le_add_right _ _)
  generalize s.toks + [(Str.ofString "text", Value.str text t1)].length = tk0 at l0 ⊢
  walk1
  walk1
  refine esc_if (c := 38) X' T' F' N' rfl l0 rfl rfl (by decide +kernel) (Nat.le_trans (Nat.add_le_add htx (Nat.mul_le_mul (Nat.succ_le_succ htx) (by decide +kernel : (Str.ofString "&amp;").length ≤ 6))) (by decide)) fun h1 k1 m1 t1 q1 F1 N1 e1 => ?_
  have l1 := Nat.lt_of_lt_of_le l0 q1
  refine esc_if (c := 60) X' T' F1 N1 e1 l1 rfl rfl (by decide +kernel) (byT_short (cs := []) (by decide) htx (by decide +kernel)) fun h2 k2 m2 t2 q2 F2 N2 e2 => ?_
  have l2 := Nat.lt_of_lt_of_le l1 q2
  refine esc_if (c := 62) X' T' F2 N2 e2 l2 rfl rfl (by decide +kernel) (byT_short (cs := [60]) (by decide) htx (by decide +kernel)) fun h3 k3 m3 t3 q3 F3 N3 e3 => ?_
  have l3 := Nat.lt_of_lt_of_le l2 q3
  k_steps
  dsimp only
  walk_at "leave"
  intro hlt
  exact k _ _ _ hlt (by k_asm) (News.sub (by k_asm) (by walk_at "sub"))
theorem esc_2
  (B : Below A₀ base outer h₀) (F : Fr h₀ L s.heap m) (X₀ : (hd.heap_39 w.params).In h₀) (T : Tp mean mg mb h₀)
  (hf : env.frame = some L) (hke : env.scope.kind = .function) (hroom : d + 40 < 1000) (N : News h₀ L s.heap rest) (ht0 : 0 < s.toks) (htx : text.cps.size ≤ 90)
  (k : ∀ h' tk' t', s.toks ≤ tk' → Fr h₀ L h' m → News h₀ L h' rest → R (.ok (.ret (.str (byT [38, 60, 62, 34, 13, 10, 9] text) t'))) { s with heap := h', toks := tk' }) :
  codeAny (model PySem.Challenge.rw_mr0322_01.row.prog w) (Ar d env outer g u) (.call (.ref 35) ⟨[.str text t1], []⟩) R s := by
  refine codeAny_with_toks (n := s.toks) (Nat.le_refl _) ?_
  k_dflt (refine' callF (fp := []) (binds := [(Str.ofString "text", .str text t1)]) B F X₀ (by exact N) (by walk_at "apart") T rfl hf hke ?k6 ?k7 ?k8 ?k9 ?kB ?_ ?c2 ?c3 ?c4 ?c5)
  walk_at "enter"
  intro g' L' h' st F' N' B' X' T'
  try dsimp only
  have l0 : 0 < s.toks + [(Str.ofString "text", Value.str text t1)].length := Nat.lt_of_lt_of_le ht0 (Nat.le_add_right _ _)
  generalize s.toks + [(Str.ofString "text", Value.str text t1)].length = tk0 at l0 ⊢
  walk1
  walk1
  refine esc_if (c := 38) X' T' F' N' rfl l0 rfl rfl (by decide +kernel) (Nat.le_trans (Nat.add_le_add htx (Nat.mul_le_mul (Nat.succ_le_succ htx) (by decide +kernel : (Str.ofString "&amp;").length ≤ 6))) (by decide)) fun h1 k1 m1 t1 q1 F1 N1 e1 => ?_
  have l1 := Nat.lt_of_lt_of_le l0 q1
  refine esc_if (c := 60) X' T' F1 N1 e1 l1 rfl rfl (by decide +kernel) (byT_short (cs := []) (by decide) htx (by decide +kernel)) fun h2 k2 m2 t2 q2 F2 N2 e2 => ?_
  have l2 := Nat.lt_of_lt_of_le l1 q2
  refine esc_if (c := 62) X' T' F2 N2 e2 l2 rfl rfl (by decide +kernel) (byT_short (cs := [60]) (by decide) htx (by decide +kernel)) fun h3 k3 m3 t3 q3 F3 N3 e3 => ?_
  have l3 := Nat.lt_of_lt_of_le l2 q3
  refine esc_if (c := 34) X' T' F3 N3 e3 l3 rfl rfl (by decide +kernel) (byT_short (cs := [60, 62]) (by decide) htx (by decide +kernel)) fun h4 k4 m4 t4 q4 F4 N4 e4 => ?_
  have l4 := Nat.lt_of_lt_of_le l3 q4
  refine esc_if (c := 13) X' T' F4 N4 e4 l4 rfl rfl (by decide +kernel) (byT_short (cs := [60, 62, 34]) (by decide) htx (by decide +kernel)) fun h5 k5 m5 t5 q5 F5 N5 e5 => ?_
  have l5 := Nat.lt_of_lt_of_le l4 q5
  refine esc_if (c := 10) X' T' F5 N5 e5 l5 rfl rfl (by decide +kernel) (byT_short (cs := [60, 62, 34, 13]) (by decide) htx (by decide +kernel)) fun h6 k6 m6 t6 q6 F6 N6 e6 => ?_
  have l6 := Nat.lt_of_lt_of_le l5 q6
  refine esc_if (c := 9) X' T' F6 N6 e6 l6 rfl rfl (by decide +kernel) (byT_short (cs := [60, 62, 34, 13, 10]) (by decide) htx (by decide +kernel)) fun h7 k7 m7 t7 q7 F7 N7 e7 => ?_
  have l7 := Nat.lt_of_lt_of_le l6 q7
  k_steps
  dsimp only
  walk_at "leave"
  intro hlt
  exact k _ _ _ hlt (by k_asm) (News.sub (by k_asm) (by walk_at "sub"))
theorem esc_3
  (B : Below A₀ base outer h₀) (F : Fr h₀ L s.heap m) (X₀ : (hd.heap_39 w.params).In h₀) (T : Tp mean mg mb h₀)
  (hf : env.frame = some L) (hke : env.scope.kind = .function) (hroom : d + 40 < 1000) (N : News h₀ L s.heap rest) (ht0 : 0 < s.toks) (htx : text.cps.size ≤ 90)
  (k : ∀ h' tk' t', s.toks ≤ tk' → Fr h₀ L h' m → News h₀ L h' rest → R (.ok (.ret (.str (byT [38, 62, 34] text) t'))) { s with heap := h', toks := tk' }) :
  codeAny (model PySem.Challenge.rw_mr0322_01.row.prog w) (Ar d env outer g u) (.call (.ref 42) ⟨[.str text t1], []⟩) R s := by
  refine codeAny_with_toks (n := s.toks) (Nat.le_refl _) ?_
  k_dflt (refine' callF (fp := []) (binds := [(Str.ofString "text", .str text t1)]) B F X₀ (by exact N) (by walk_at "apart") T rfl hf hke ?k6 ?k7 ?k8 ?k9 ?kB ?_ ?c2 ?c3 ?c4 ?c5)
  walk_at "enter"
  intro g' L' h' st F' N' B' X' T'
  try dsimp only
  have l0 : 0 < s.toks + [(Str.ofString "text", Value.str text t1)].length := Nat.lt_of_lt_of_le ht0 (Nat.le_add_right _ _)
  generalize s.toks + [(Str.ofString "text", Value.str text t1)].length = tk0 at l0 ⊢
  walk1
  walk1
  refine esc_if (c := 38) X' T' F' N' rfl l0 rfl rfl (by decide +kernel) (Nat.le_trans (Nat.add_le_add htx (Nat.mul_le_mul (Nat.succ_le_succ htx) (by decide +kernel : (Str.ofString "&amp;").length ≤ 6))) (by decide)) fun h1 k1 m1 t1 q1 F1 N1 e1 => ?_
  have l1 := Nat.lt_of_lt_of_le l0 q1
  refine esc_if (c := 62) X' T' F1 N1 e1 l1 rfl rfl (by decide +kernel) (byT_short (cs := []) (by decide) htx (by decide +kernel)) fun h2 k2 m2 t2 q2 F2 N2 e2 => ?_
  have l2 := Nat.lt_of_lt_of_le l1 q2
  refine esc_if (c := 34) X' T' F2 N2 e2 l2 rfl rfl (by decide +kernel) (byT_short (cs := [62]) (by decide) htx (by decide +kernel)) fun h3 k3 m3 t3 q3 F3 N3 e3 => ?_
  have l3 := Nat.lt_of_lt_of_le l2 q3
  k_steps
  dsimp only
  walk_at "leave"
  intro hlt
  exact k _ _ _ hlt (by k_asm) (News.sub (by k_asm) (by walk_at "sub"))
end
theorem noneN1 : True := by
  k_with_none
  trivial
/-- two places of a list -/
inductive At2 (a b : Nat) : List Nat → Prop
  | l {l : List Nat} : b ∈ l → At2 a b (a :: l)
  | r {l : List Nat} : a ∈ l → At2 a b (b :: l)
  | t {x : Nat} {l : List Nat} : At2 a b l → At2 a b (x :: l)
theorem At2.ne {a b : Nat} {as : List Nat} (h : At2 a b as) (n : as.Nodup) : a ≠ b := by
  induction h with
  | l hb => exact fun e => (List.nodup_cons.mp n).1 (e ▸ hb)
  | r ha => exact fun e => (List.nodup_cons.mp n).1 (e ▸ ha)
  | t _ ih => exact ih (List.nodup_cons.mp n).2
/-- the addresses of a ledger's written part, apart from each other and from its tail -/
structure DL (as : List Nat) (tl : Led) : Prop where
  nd : as.Nodup
  off : ∀ a ∈ as, ∀ p ∈ tl, p.1 ≠ a
  tl : (tl.map (·.1)).Nodup
theorem DL.ne {as : List Nat} {tl : Led} {a b : Nat} (h : DL as tl) (k : At2 a b as) : @Ne Addr a b := k.ne h.nd
theorem DL.offT {as : List Nat} {tl : Led} {a : Nat} (h : DL as tl) (k : a ∈ as) : ∀ p ∈ tl, p.1 ≠ a := h.off a k
theorem lt_at {led : Led} {a x : Nat} {o : Obj} (h : ∀ p ∈ led, p.1 < x) (k : (a, o) ∈ led) : a < x := h _ k
theorem noneC11 : True := by
  k_with_none
  trivial
/-- the addresses of a ledger differ -/
noncomputable def Dist (l : Led) : Prop := (l.map (·.1)).Nodup
theorem dist_head {a : Nat} {o : Obj} {r : Led} (h : Dist ((a, o) :: r)) : ∀ p ∈ r, p.1 ≠ a := fun p hp e => (List.nodup_cons.mp h).1 (List.mem_map.mpr ⟨p, hp, e⟩)
theorem dist_tail {q : Addr × Obj} {r : Led} (h : Dist (q :: r)) : Dist r := (List.nodup_cons.mp h).2
theorem dist_cons {a : Nat} {o : Obj} {r : Led} (h : ∀ p ∈ r, p.1 ≠ a) (k : Dist r) : Dist ((a, o) :: r) := List.nodup_cons.mpr ⟨fun q => let ⟨p, hp, e⟩ := List.mem_map.mp q; h p hp e, k⟩
theorem dist_nil : Dist [] := List.nodup_nil
theorem Dist.perm {a b : Led} (h : Dist a) (p : a.Perm b) : Dist b := (p.map _).nodup_iff.mp h
theorem News.perm {h₀ h : Heap} {L : Addr} {a b : Led} (N : News h₀ L h a) (p : a.Perm b) : News h₀ L h b := fun q hq => N q (p.mem_iff.mpr hq)
theorem dist_left {a b : Led} (h : Dist (a ++ b)) : Dist a := by
  unfold Dist at *; rw [List.map_append] at h; exact (List.nodup_append.mp h).1
theorem dist_right {a b : Led} (h : Dist (a ++ b)) : Dist b := by
  unfold Dist at *; rw [List.map_append] at h; exact (List.nodup_append.mp h).2.1
theorem dist_ap {a b : Led} (h : Dist (a ++ b)) : ∀ p ∈ a, ∀ q ∈ b, p.1 ≠ q.1 := by
  unfold Dist at *; rw [List.map_append] at h
  exact fun p hp q hq => (List.nodup_append.mp h).2.2 _ (List.mem_map.mpr ⟨p, hp, rfl⟩) _ (List.mem_map.mpr ⟨q, hq, rfl⟩)
theorem dist_app {a b : Led} (ha : Dist a) (hb : Dist b) (h : ∀ p ∈ a, ∀ q ∈ b, p.1 ≠ q.1) : Dist (a ++ b) := by
  unfold Dist at *; rw [List.map_append]
  refine List.nodup_append.mpr ⟨ha, hb, fun x hx y hy => ?_⟩
  obtain ⟨p, hp, rfl⟩ := List.mem_map.mp hx
  obtain ⟨q, hq, rfl⟩ := List.mem_map.mp hy
  exact h p hp q hq
/-- what a frame hands back -/
noncomputable def LeaveN (h₀ : Heap) (L : Addr) (m : Str → Option Value) (rest : Led) (g : Heap) (R : Result → Shared → Prop) (v : Value) (s' : Shared) : Prop :=
  ∃ L' m' fp', Fr g L' s'.heap m' ∧ News g L' s'.heap fp' ∧ Dist fp' ∧ (Fr h₀ L s'.heap m → News h₀ L s'.heap (fp' ++ rest) → Dist (fp' ++ rest) → R (.ok (.ret v)) s')
/-- what a frame hands back that may have caught something: the frames below it with other slots -/
noncomputable def LeaveT (h₀ : Heap) (L : Addr) (m : Str → Option Value) (frs rest : Led) (g : Heap) (oL : Obj) (R : Result → Shared → Prop) (v : Value) (s' : Shared) : Prop :=
  ∃ L' m' fp' frs' sl, Fr g L' s'.heap m' ∧ News g L' s'.heap (fp' ++ (L, { oL with slots := sl }) :: frs') ∧ Dist (fp' ++ (L, { oL with slots := sl }) :: frs') ∧ TI.SameUp frs frs' ∧
    (Fr h₀ L s'.heap m → News h₀ L s'.heap (fp' ++ (frs' ++ rest)) → Dist (fp' ++ (frs' ++ rest)) → R (.ok (.ret v)) s')

section
variable {prog : Program} {w : World} {A : Around} {s : Shared} {h₀ : Heap} {outer : List Env} {L : Addr} {m : Str → Option Value} {env : Env} {fp rest frs : Led} {K : Frag}
  {R : Result → Shared → Prop} {name qual : Str} {params : Arguments} {body : List Stmt} {scope : Scope} {dV kV doc pm cdv ct oc : Value} {an od : Option Addr} {osl : Array (Option Value)} {f : Addr} {args : Args} {binds : List (Str × Value)}
  {p : Program} {loose : List Str} {mean : ExcName → Option Value} {mg mb : Str → Option Value}

theorem groundN (F : Fr h₀ L s.heap m) (N : News h₀ L s.heap (fp ++ rest)) (hdi : Dist (fp ++ rest)) :
    h₀.StaysIn (hideAll s.heap (fp.map (·.1))) ∧ News h₀ L s.heap fp ∧
      ∀ v s', LeaveN h₀ L m rest (hideAll s.heap (fp.map (·.1))) R v s' → R (.ok (.ret v)) s' := by
  have N1 : News h₀ L s.heap fp := News.sub N fun _ h => List.mem_append_left _ h
  have N2 : News h₀ L s.heap rest := News.sub N fun _ h => List.mem_append_right _ h
  have nm : ∀ b o, h₀.get? b = some o → b ∉ fp.map (·.1) := fun b o e q => by
    obtain ⟨p, hp, rfl⟩ := List.mem_map.mp q
    rw [(N1 p hp).2.2] at e; cases e
  have st : h₀.StaysIn (hideAll s.heap (fp.map (·.1))) := fun b o e => hideAll_get _ (F.keep b o e) (nm b o e)
  obtain ⟨oL, es, ep, hL, hLr⟩ := F.ns
  have nL : L ∉ fp.map (·.1) := fun q => by
    obtain ⟨p, hp, e⟩ := List.mem_map.mp q
    exact (N1 p hp).2.1 e
  have hLg := hideAll_get (fp.map (·.1)) hL nL
  have kr : ∀ p ∈ rest, (hideAll s.heap (fp.map (·.1))).get? p.1 = some p.2 := fun p hp => hideAll_get _ (N2 p hp).1 fun q => by
    obtain ⟨q', hq', e⟩ := List.mem_map.mp q
    exact dist_ap hdi q' hq' p hp e
  refine ⟨st, N1, fun v s' hl => ?_⟩
  obtain ⟨L', m', fp', F', N', d', k⟩ := hl
  refine k ⟨⟨oL, es, ep, F'.keep L oL hLg, hLr⟩, fun b o e => F'.keep b o (st b o e), F.above⟩ (fun p hp => ?_) (dist_app d' (dist_right hdi) fun p hp q hq e => ?_)
  · rcases List.mem_append.mp hp with hp | hp
    · refine ⟨(N' p hp).1, fun q => ?_, ?_⟩
      · have := (N' p hp).2.2; rw [q, hLg] at this; cases this
      · cases q : h₀.get? p.1 with
        | none => rfl
        | some o => have := (N' p hp).2.2; rw [st _ _ q] at this; cases this
    · exact ⟨F'.keep _ _ (kr p hp), (N2 p hp).2⟩
  · have := (N' p hp).2.2
    rw [e, kr q hq] at this; cases this

theorem callN (F : Fr h₀ L s.heap m) (X₀ : K.In h₀) (N : News h₀ L s.heap (fp ++ rest)) (hdi : Dist (fp ++ rest)) (T : Top p loose mean mg mb h₀)
    (ho : K.lookup f = some ⟨oc, od, .func (fnOf name qual params body scope dV kV doc pm an cdv ct), osl⟩) (hcd : codeIn K cdv qual = true) (hroom : A.depth < recursionLimit)
    (hbind : BindsTo s (fnOf name qual params body scope dV kV doc pm an cdv ct) args binds) (hloc : ∀ y ∈ binds, scope.names.lookup y.1 = some .local)
    (h : ∀ g L' h₁, h₀.StaysIn g → Fr g L' h₁ (fun y => binds.reverse.lookup y) → News g L' h₁ fp → Dist fp → K.In g → Top p loose mean mg mb g →
      wpAny (model prog w) (A.deeper (envOf qual scope L' f cdv)) (execs body (envOf qual scope L' f cdv))
        (fun fl s' => LeaveN h₀ L m rest g R (match fl with | .ret v => v | _ => .none) s')
        (fun e s' => wpAny (model prog w) (A.deeper (envOf qual scope L' f cdv)) (leaving (envOf qual scope L' f cdv) e) (fun _ s'' => R (.error e) s'') (fun e' s'' => R (.error e') s'') s')
        { s with heap := h₁, toks := s.toks + binds.length })
    (hco : scope.isCoroutine = false) (hgen : scope.isGenerator = false) (hk : scope.kind = .function)
    (hcell : ∀ x ∈ scope.names, x.2 ≠ .cell) : codeAny (model prog w) A (.call (.ref f) args) R s := by
  obtain ⟨st, N1, lv⟩ := groundN (R := R) F N hdi
  have X := X₀.keeps F.keep
  refine codeAny_call_def (fd := fnOf name qual params body scope dV kV doc pm an cdv ct) (body := body) (binds := binds) hroom (X _ _ ho) rfl (T.nolimit.keeps F.keep) (codeRec_of X hcd) rfl hbind hcell hloc (fun h₁ hns hk₁ => ?_) hco hgen hk
  exact wpAny_mono (h _ s.heap.objs.size h₁ st ⟨hns, fun b o e => hk₁ b o (of_hideAll _ e), Nat.le_of_eq (hideAll_size _ _)⟩
    (fun p hp => ⟨hk₁ _ _ (N1 p hp).1, Nat.ne_of_lt (Heap.lt_size (N1 p hp).1), hideAll_none _ (List.mem_map_of_mem hp)⟩) (dist_left hdi) (X₀.keeps st) (T.keeps st)) (fun fl s' hl => lv _ _ hl) fun _ _ y => y

/-- a def with a star parameter -/
theorem callNV {vs : List Value} {g₁ : Addr → Option (List (Str × Value))} {binds : Addr → List (Str × Value)}
    (F : Fr h₀ L s.heap m) (X₀ : K.In h₀) (N : News h₀ L s.heap (fp ++ rest)) (hdi : Dist (fp ++ rest)) (T : Top p loose mean mg mb h₀)
    (ho : K.lookup f = some ⟨oc, od, .func (fnOf name qual params body scope dV kV doc pm an cdv ct), osl⟩) (hcd : codeIn K cdv qual = true) (hroom : A.depth < recursionLimit)
    (hp : peek1 K ⟨prog, w.params⟩ (bindArgs (fnOf name qual params body scope dV kV doc pm an cdv ct) args) = some (({ cls := .type "tuple", data := .seq vs.toArray } : Obj), g₁))
    (hg : ∀ D, g₁ D = some (binds D)) (hloc : ∀ D, ∀ y ∈ binds D, scope.names.lookup y.1 = some .local)
    (h : ∀ (D : Nat) g L' h₁, h₀.StaysIn g → Fr g L' h₁ (fun y => (binds D).reverse.lookup y) → News g L' h₁ ((D, ({ cls := .type "tuple", data := .seq vs.toArray } : Obj)) :: fp) → Dist ((D, ({ cls := .type "tuple", data := .seq vs.toArray } : Obj)) :: fp) → K.In g → Top p loose mean mg mb g →
      wpAny (model prog w) (A.deeper (envOf qual scope L' f cdv)) (execs body (envOf qual scope L' f cdv))
        (fun fl s' => LeaveN h₀ L m rest g R (match fl with | .ret v => v | _ => .none) s')
        (fun e s' => wpAny (model prog w) (A.deeper (envOf qual scope L' f cdv)) (leaving (envOf qual scope L' f cdv) e) (fun _ s'' => R (.error e) s'') (fun e' s'' => R (.error e') s'') s')
        { s with heap := h₁, toks := s.toks + (binds D).length })
    (hco : scope.isCoroutine = false) (hgen : scope.isGenerator = false) (hk : scope.kind = .function)
    (hcell : ∀ x ∈ scope.names, x.2 ≠ .cell) : codeAny (model prog w) A (.call (.ref f) args) R s := by
  refine codeAny_call_function (fd := fnOf name qual params body scope dV kV doc pm an cdv ct) (body := body) hroom ((X₀.keeps F.keep) _ _ ho) rfl hco hgen rfl (codeRec_of (X₀.keeps F.keep) hcd) ?_
  refine wp_of_peek1 (o := ({ cls := .type "tuple", data := .seq vs.toArray } : Obj)) F N (X₀.keeps F.keep) rfl (r := binds) (fun D h' F' N' l => ?_) _ g₁ hp hg
  have hdi' : Dist (((D, ({ cls := .type "tuple", data := .seq vs.toArray } : Obj)) :: fp) ++ rest) := dist_cons (fun p hp => Nat.ne_of_lt (l p hp)) hdi
  obtain ⟨st, N1, lv⟩ := groundN (R := R) (s := { s with heap := h' }) (fp := (D, ({ cls := .type "tuple", data := .seq vs.toArray } : Obj)) :: fp) F' N' hdi'
  refine wpAny_newFunctionEnv hcell (hloc D) (fun h₁ hns hsb => ⟨(T.nolimit.keeps F'.keep).fresh _ hsb, codeAny_func ?_⟩) hk
  have hk₁ : ∀ b o, h'.get? b = some o → h₁.get? b = some o := fun b o e => hsb.extBut b o (Nat.ne_of_lt (Heap.lt_size e)) (Heap.get?_push_of_some _ e)
  show wpAny (model prog w) (A.deeper (envX qual scope h'.objs.size f cdv [])) (execs body (envX qual scope h'.objs.size f cdv [])) _ _ _
  exact wpAny_mono (h D _ h'.objs.size h₁ st ⟨hns, fun b o e => hk₁ b o (of_hideAll _ e), Nat.le_of_eq (hideAll_size _ _)⟩
    (fun p hp => ⟨hk₁ _ _ (N1 p hp).1, Nat.ne_of_lt (Heap.lt_size (N1 p hp).1), hideAll_none _ (List.mem_map_of_mem hp)⟩) (dist_left hdi') (X₀.keeps st) (T.keeps st)) (fun fl s' hl => lv _ _ hl) fun _ _ y => y

theorem SameUp.addr : ∀ {a b : Led}, TI.SameUp a b → b.map (·.1) = a.map (·.1) := by
  intro a
  induction a with
  | nil => intro b h; cases b with
    | nil => rfl
    | cons => exact h.elim
  | cons p ps ih => intro b h; cases b with
    | nil => exact h.elim
    | cons q qs => simp only [List.map_cons]; rw [h.1, ih h.2.2]

/-- a def that may catch something: the frames stand in the ledger -/
theorem callT (F : Fr h₀ L s.heap m) (X₀ : K.In h₀) (N : News h₀ L s.heap (fp ++ (frs ++ rest))) (hdi : Dist (fp ++ (frs ++ rest))) (T : Top p loose mean mg mb h₀) (Fs : TI.Frs outer frs)
    (hf : env.frame = some L) (hke : env.scope.kind = .function)
    (ho : K.lookup f = some ⟨oc, od, .func (fnOf name qual params body scope dV kV doc pm an cdv ct), osl⟩) (hcd : codeIn K cdv qual = true) (hroom : A.depth < recursionLimit)
    (hbind : BindsTo s (fnOf name qual params body scope dV kV doc pm an cdv ct) args binds) (hloc : ∀ y ∈ binds, scope.names.lookup y.1 = some .local)
    (h : ∀ g L' h₁ oL, h₀.StaysIn g → Fr g L' h₁ (fun y => binds.reverse.lookup y) → News g L' h₁ (fp ++ (L, oL) :: frs) → Dist (fp ++ (L, oL) :: frs) → TI.Frs (env :: outer) ((L, oL) :: frs) → K.In g → Top p loose mean mg mb g →
      wpAny (model prog w) (A.deeper (envOf qual scope L' f cdv)) (execs body (envOf qual scope L' f cdv))
        (fun fl s' => LeaveT h₀ L m frs rest g oL R (match fl with | .ret v => v | _ => .none) s')
        (fun e s' => wpAny (model prog w) (A.deeper (envOf qual scope L' f cdv)) (leaving (envOf qual scope L' f cdv) e) (fun _ s'' => R (.error e) s'') (fun e' s'' => R (.error e') s'') s')
        { s with heap := h₁, toks := s.toks + binds.length })
    (hco : scope.isCoroutine = false) (hgen : scope.isGenerator = false) (hk : scope.kind = .function)
    (hcell : ∀ x ∈ scope.names, x.2 ≠ .cell) : codeAny (model prog w) A (.call (.ref f) args) R s := by
  obtain ⟨oL, es, ep, hL, hLr⟩ := F.ns
  have X := X₀.keeps F.keep
  have hLd : ∃ es ep, oL.data = .dict es ep := ⟨es, ep, hLr.1⟩
  -- the hidden part: fp, L, frs
  have dF := dist_left (a := fp ++ frs) (b := rest) (by rw [List.append_assoc]; exact hdi)
  have N1 : News h₀ L s.heap (fp ++ frs) := News.sub N fun p hp => by
    rcases List.mem_append.mp hp with q | q
    · exact List.mem_append_left _ q
    · exact List.mem_append_right _ (List.mem_append_left _ q)
  have N2 : News h₀ L s.heap rest := News.sub N fun p hp => List.mem_append_right _ (List.mem_append_right _ hp)
  have mem' : ∀ p, p ∈ fp ++ (L, oL) :: frs ↔ p = (L, oL) ∨ p ∈ fp ++ frs := fun p => by
    simp only [List.mem_append, List.mem_cons]
    constructor
    · rintro (a | a | a)
      · exact .inr (.inl a)
      · exact .inl a
      · exact .inr (.inr a)
    · rintro (a | a | a)
      · exact .inr (.inl a)
      · exact .inl a
      · exact .inr (.inr a)
  have hget : ∀ p ∈ fp ++ (L, oL) :: frs, s.heap.get? p.1 = some p.2 := fun p hp => by
    rcases (mem' p).mp hp with rfl | q
    · exact hL
    · exact (N1 p q).1
  have hnone : ∀ p ∈ fp ++ (L, oL) :: frs, h₀.get? p.1 = none := fun p hp => by
    rcases (mem' p).mp hp with rfl | q
    · cases q : h₀.get? L with
      | none => rfl
      | some o => exact absurd (Heap.lt_size q) (Nat.not_lt.mpr F.above)
    · exact (N1 p q).2.2
  have nL : ∀ p ∈ fp ++ frs, p.1 ≠ L := fun p hp => (N1 p hp).2.1
  have dL : Dist (fp ++ (L, oL) :: frs) := (dist_cons nL dF).perm List.perm_middle.symm
  have dR : ∀ p ∈ fp ++ (L, oL) :: frs, ∀ q ∈ rest, p.1 ≠ q.1 := fun p hp q hq => by
    rcases (mem' p).mp hp with rfl | z
    · exact fun e => (N2 q hq).2.1 e.symm
    · exact dist_ap (a := fp ++ frs) (b := rest) (by rw [List.append_assoc]; exact hdi) p z q hq
  generalize hG : hideAll s.heap ((fp ++ (L, oL) :: frs).map (·.1)) = G
  have st : h₀.StaysIn G := fun b o e => by
    rw [← hG]
    refine hideAll_get _ (F.keep b o e) fun q => ?_
    obtain ⟨p, hp, rfl⟩ := List.mem_map.mp q
    rw [hnone p hp] at e; cases e
  have kr : ∀ p ∈ rest, G.get? p.1 = some p.2 := fun p hp => by
    rw [← hG]
    refine hideAll_get _ (N2 p hp).1 fun q => ?_
    obtain ⟨q', hq', e⟩ := List.mem_map.mp q
    exact dR q' hq' p hp e
  refine codeAny_call_def (fd := fnOf name qual params body scope dV kV doc pm an cdv ct) (body := body) (binds := binds) hroom (X _ _ ho) rfl (T.nolimit.keeps F.keep) (codeRec_of X hcd) rfl hbind hcell hloc (fun h₁ hns hk₁ => ?_) hco hgen hk
  refine wpAny_mono (h G s.heap.objs.size h₁ oL st ⟨hns, fun b o e => hk₁ b o (of_hideAll _ (hG ▸ e)), Nat.le_of_eq (hG ▸ hideAll_size _ _)⟩
    (fun p hp => ⟨hk₁ _ _ (hget p hp), Nat.ne_of_lt (Heap.lt_size (hget p hp)), hG ▸ hideAll_none _ (List.mem_map_of_mem hp)⟩) dL ⟨by rw [hke]; decide, hf, hLd, Fs⟩ (X₀.keeps st) (T.keeps st)) (fun fl s' hl => ?_) fun _ _ y => y
  obtain ⟨L', m', fp', frs', sl, F', N', d', su, k⟩ := hl
  have hL' : s'.heap.get? L = some { oL with slots := sl } := (N' _ (List.mem_append_right _ List.mem_cons_self)).1
  have dF' : Dist (fp' ++ frs') := dist_tail (d'.perm List.perm_middle)
  have nL' : ∀ p ∈ fp' ++ frs', p.1 ≠ L := dist_head (d'.perm List.perm_middle)
  refine k ⟨⟨_, es, ep, hL', hLr⟩, fun b o e => F'.keep b o (st b o e), F.above⟩ (fun p hp => ?_) ?_
  · rw [← List.append_assoc] at hp
    rcases List.mem_append.mp hp with hp | hp
    · have z := N' p (by
        rcases List.mem_append.mp hp with q | q
        · exact List.mem_append_left _ q
        · exact List.mem_append_right _ (List.mem_cons_of_mem _ q))
      refine ⟨z.1, nL' p hp, ?_⟩
      cases q : h₀.get? p.1 with
      | none => rfl
      | some o => have := z.2.2; rw [st _ _ q] at this; cases this
    · exact ⟨F'.keep _ _ (kr p hp), (N2 p hp).2⟩
  · rw [← List.append_assoc]
    refine dist_app dF' (dist_right (a := fp ++ frs) (by rw [List.append_assoc]; exact hdi)) fun p hp q hq e => ?_
    have z := N' p (by
        rcases List.mem_append.mp hp with q | q
        · exact List.mem_append_left _ q
        · exact List.mem_append_right _ (List.mem_cons_of_mem _ q))
    have := z.2.2
    rw [e, kr q hq] at this; cases this
end
theorem noneC12 : True := by
  k_with_none
  trivial
section
variable {prog : Program} {w : World} {A : Around} {s : Shared} {E : Value → Shared → Prop} {h₀ : Heap} {L : Addr} {m : Str → Option Value} {env : Env}
/-- a for over any iterator that is seen as a Walks; kp: what the iterator reads stands in the ledger as it stood -/
theorem forK {target : PySem.Expr} {body : List Stmt} {n : Nat} {P : Nat → Value → Prop} {St : Nat → Heap → Prop} {I : Addr} {fp : List Addr} {n0 : Nat} {led kp : Led} {R : Result → Shared → Prop} (Good : Nat → (Str → Option Value) → Led → Nat → Prop)
    (W : Walks prog w A I fp [I] n P St) (hfp : ∀ b ∈ fp, b ≠ I → ∃ o, (b, o) ∈ kp ∨ h₀.get? b = some o) (hob : ∀ i h, St i h → ∃ o, h.get? I = some o)
    (st0 : St 0 s.heap) (hI₀ : h₀.get? I = none) (hIL : L ≠ I) (off0 : ∀ p ∈ led, p.1 ≠ I)
    (F : Fr h₀ L s.heap m) (N : News h₀ L s.heap led) (hn0 : n0 ≤ s.toks) (hkp : ∀ i m led tk, Good i m led tk → ∀ p ∈ kp, p ∈ led) (hg : Good 0 m led s.toks)
    (turn : ∀ i v oI m led h tk tk' (E' : Value → Shared → Prop), i < n → P i v → Good i m led tk → tk ≤ tk' → Fr h₀ L h m → News h₀ L h ((I, oI) :: led) → (∀ p ∈ led, p.1 ≠ I) → n0 ≤ tk' →
      wpAny (model prog w) A (assign target env v) (fun _ s₂ => wpAny (model prog w) A (execs body env) (fun f s₃ => match f with
        | .next | .cont => TurnF h₀ L s I oI (Good (i + 1)) s₃
        | .ret v => R (.ok (.ret v)) s₃
        | .brk => False) E' s₂) E' { s with heap := h, toks := tk' })
    (fin : ∀ m led h tk tk', Good n m led tk → tk ≤ tk' → Fr h₀ L h m → News h₀ L h led → n0 ≤ tk' → R (.ok .next) { s with heap := h, toks := tk' })
    (ht : ∀ v, letOwnedTupleGo target (.ref I) v = pure () := by intro _; rfl) :
    codeAny (model prog w) A (.forLoop target (.ref I) body [] env) R s := by
  refine codeAny_forLoop (fun k s' => FL h₀ L s St I n0 n Good k s') ?_
    n ⟨0, _, _, m, led, Nat.zero_le _, rfl, rfl, st0, F, N, off0, hn0, hg⟩ ht
  rintro k s' ⟨i, h, tk, m, led, hi, rfl, rfl, st, F, N, off, htk, hG⟩
  by_cases hlt : i < n
  · refine wpAny_with_toks (n := tk) (Nat.le_refl _) (W.item i _ _ _ hlt st fun v h' tk' hP st' sb hle => ?_)
    have htk' : n0 ≤ tk' := Nat.le_trans htk hle
    obtain ⟨oI, eI⟩ := hob _ _ st'
    have sb' : ∀ b o, b ≠ I → h.get? b = some o → h'.get? b = some o := fun b o hb e => sb b o (fun q => hb (List.mem_singleton.mp q)) e
    have F' : Fr h₀ L h' m := ⟨F.ns.at' fun o e => sb' L o hIL e, fun b o e => sb' b o (fun q => by rw [q, hI₀] at e; cases e) (F.keep b o e), F.above⟩
    have N' : News h₀ L h' ((I, oI) :: led) := fun p hp => by
      rcases List.mem_cons.mp hp with rfl | hp
      · exact ⟨eI, Ne.symm hIL, hI₀⟩
      · exact ⟨sb' _ _ (off p hp) (N p hp).1, (N p hp).2⟩
    refine wpAny_with_toks (n := n0) htk' (wpAny_mono (turn i _ oI m led h' tk tk' _ hlt hP hG hle F' N' off htk') (fun _ s₂ h₂ htk₂ =>
      wpAny_with_toks (n := n0) htk₂ (wpAny_mono h₂ (fun f s₃ h₃ htk₃ => ?_) fun _ _ e => e)) fun _ _ e => e)
    have go : TurnF h₀ L s I oI (Good (i + 1)) s₃ → ∃ m_1, m_1 < n - i ∧ FL h₀ L s St I n0 n Good m_1 s₃ := by
      rintro ⟨h4, tk4, m4, led4, rfl, F4, N4, off4, G4⟩
      refine ⟨n - (i + 1), sub_lt_sub hlt, i + 1, h4, tk4, m4, led4, hlt, rfl, rfl, W.frame _ _ _ st' fun b hb o e => ?_, F4, fun p hp => N4 p (List.mem_cons_of_mem _ hp), off4, htk₃, G4⟩
      by_cases hbI : b = I
      · subst hbI
        rw [eI] at e; cases e
        exact (N4 _ List.mem_cons_self).1
      · obtain ⟨o', hm | hm⟩ := hfp b hb hbI
        · have e₃ := (N' (b, o') (List.mem_cons_of_mem _ (hkp _ _ _ _ hG _ hm))).1
          rw [e] at e₃; cases e₃
          exact (N4 (b, o') (List.mem_cons_of_mem _ (hkp _ _ _ _ G4 _ hm))).1
        · have e₃ := F'.keep b o' hm
          rw [e] at e₃; cases e₃
          exact F4.keep b _ hm
    cases f with
    | next => exact go h₃
    | cont => exact go h₃
    | brk => exact h₃.elim
    | ret v => exact h₃
  · obtain rfl : i = n := Nat.le_antisymm hi (Nat.not_lt.mp hlt)
    refine wpAny_with_toks (n := tk) (Nat.le_refl _) (W.done _ _ _ st fun h' tk' ext htk' => wpAny_execs_nil ?_)
    have ext' : ∀ b o, b ≠ I → h.get? b = some o → h'.get? b = some o := fun b o hb e => ext b o (fun q => hb (List.mem_singleton.mp q)) e
    refine fin m led h' tk tk' hG htk' ?_ (fun p hp => ⟨ext' _ _ (off p hp) (N p hp).1, (N p hp).2⟩) (Nat.le_trans htk htk')
    exact ⟨F.ns.at' fun o e => ext' L o hIL e, fun b o e => ext' b o (fun q => by rw [q, hI₀] at e; cases e) (F.keep b o e), F.above⟩
/-- a for over a dict's keys, the dict in the ledger -/
theorem forD {target iter : PySem.Expr} {body : List Stmt} {pos : Pos} {D : Addr} {oD : Obj} {kvs : List (Str × Value)} {led : Led} {Q : Flow → Shared → Prop} (Good : Nat → (Str → Option Value) → Led → Nat → Prop)
    (hh : A.handled = none) (F : Fr h₀ L s.heap m) (N : News h₀ L s.heap led) (hD : oD.IsDictOf (PySem.strKind prog w) kvs) (lo : (D == sysModules) = false)
    (hkp : ∀ i m led tk, Good i m led tk → (D, oD) ∈ led) (hg : Good 0 m led s.toks)
    (hev : wpAny (model prog w) A (eval iter env) (fun v s₁ => v = .ref D ∧ s₁ = s) E s)
    (turn : ∀ i k v t I oI m led h g tk tk' (E' : Value → Shared → Prop), kvs[i]? = some (k, v) → Good i m led tk → tk ≤ tk' → Fr h₀ L h m → News h₀ L h ((I, oI) :: led) → (∀ p ∈ led, p.1 ≠ I) → s.toks ≤ tk' →
      wpAny (model prog w) A (assign target env (.str k t)) (fun _ s₂ => wpAny (model prog w) A (execs body env) (fun f s₃ => match f with
        | .next | .cont => TurnF h₀ L { s with heap := g } I oI (Good (i + 1)) s₃
        | .ret v => Q (.ret v) s₃
        | .brk => False) E' s₂) E' { s with heap := h, toks := tk' })
    (fin : ∀ m led h tk tk', Good kvs.length m led tk → tk ≤ tk' → Fr h₀ L h m → News h₀ L h led → s.toks ≤ tk' → Q .next { s with heap := h, toks := tk' })
    (hs : ∀ x, foldedSetIterable iter env x = pure x := by intro _; rfl) (ht : ∀ it v, letOwnedTupleGo target it v = pure () := by intro _ _; rfl) :
    wpAny (model prog w) A (exec (.For target iter body [] pos) env) Q E s := by
  refine wpAny_For (wpAny_mono hev (fun v s₁ h₁ => ?_) fun _ _ e => e) hs
  obtain ⟨rfl, rfl⟩ := h₁
  have hm := hkp _ _ _ _ hg
  obtain ⟨ep, hat⟩ := KdkAt.of hD
  have hat1 := hat.dictAt (N _ hm).1
  have hlt := Heap.lt_size (N _ hm).1
  refine wpAny_pyIter_dict lo hat1 ?_
  refine forK (kp := [(D, oD)]) (n0 := s₁.toks) Good (Walks.dictKeys (knd := PySem.strKind prog w) hh s₁.heap.objs.size D (Nat.ne_of_lt hlt) kvs ep) (fun b hb hbI => ?_) (fun i h st => let ⟨⟨o, e, _⟩, _⟩ := st; ⟨o, e⟩)
    ⟨⟨_, Heap.get?_push_size _ rfl, rfl, rfl⟩, hat1.push _⟩ (next_is_new F) (Nat.ne_of_lt F.ns.lt) (fun p hp => Nat.ne_of_lt (Heap.lt_size (N p hp).1)) (F.keeps fun _ _ e => Heap.get?_push_of_some _ e) (N.grown fun _ _ e => Heap.get?_push_of_some _ e) (Nat.le_refl _)
    (fun i m led tk G p hp => by rw [List.mem_singleton.mp hp]; exact hkp i m led tk G) hg ?_ fin (ht _)
  · have hb' : b = s₁.heap.objs.size ∨ b = D := by simpa using hb
    rcases hb' with e | e
    · exact absurd e hbI
    · exact ⟨oD, .inl (by rw [e]; exact List.mem_singleton.mpr rfl)⟩
  · rintro i v oI m led h tk tk' E' hi ⟨k, x, hx, hk⟩ hG hle F' N' off hn
    obtain ⟨t, rfl⟩ := Value.isStrOf_shape hk
    exact turn i k x t _ oI m led h _ tk tk' E' hx hG hle F' N' off hn
end
theorem noneS1 : True := by
  k_with_none
  trivial
theorem slot_li_ga : Slot "list_iterator" "__getattribute__" "object.__getattribute__" :=
  .of (owner := "object") (n := "__getattribute__") (by rw [typeLookup_type, builtinLookup_eq_fast]; kernel_rfl) (by decide +kernel) (by decide +kernel) (by decide +kernel)
    (by first | exact .inl (by decide +kernel) | exact .inr (by decide +kernel)) (by rw [isSubtype_type]; kernel_rfl)
theorem args_ga (a b : Value) : argsOk "object.__getattribute__" ⟨[a, b], []⟩ := by unfold argsOk; kernel_rfl
theorem type_nx : typeOf (.builtin "list_iterator.__next__") = pure (.type "wrapper_descriptor") := by show builtinType _ = _; rw [builtinType_eq_fast]; kernel_rfl
theorem slot_wd_get : Slot "wrapper_descriptor" "__get__" "wrapper_descriptor.__get__" :=
  .of (owner := "wrapper_descriptor") (n := "__get__") (by rw [typeLookup_type, builtinLookup_eq_fast]; kernel_rfl) (by decide +kernel) (by decide +kernel) (by decide +kernel)
    (by first | exact .inl (by decide +kernel) | exact .inr (by decide +kernel)) (by rw [isSubtype_type]; kernel_rfl)
theorem entry_wd_get : entryFor table "wrapper_descriptor.__get__" = some Builtin.«wrapper_descriptor.__get__» := entryFor_of_tree (by kernel_rfl)
theorem args_wd_get (a b c : Value) : argsOk "wrapper_descriptor.__get__" ⟨[a, b, c], []⟩ := by unfold argsOk; kernel_rfl
theorem wd_set : typeLookup (.type "wrapper_descriptor") "__set__" = pure none := by rw [typeLookup_type, builtinLookup_eq_fast]; kernel_rfl
theorem wd_del : typeLookup (.type "wrapper_descriptor") "__delete__" = pure none := by rw [typeLookup_type, builtinLookup_eq_fast]; kernel_rfl
theorem sub_li : isSubtype (.type "list_iterator") (.type "list_iterator") = pure true := by rw [isSubtype_type]; kernel_rfl
theorem spec_nx (n : Str) (r : Option Value) (h : typeLookup (.type "wrapper_descriptor") n = pure r) : specialOf (.builtin "list_iterator.__next__") n = pure r := by
  unfold specialOf; rw [type_nx]; exact h
/-- a list's iterator, its bound next -/
noncomputable abbrev itO (S p : Nat) : Obj := { cls := .type "list_iterator", data := .fields #[.ref S, .int p 0] }
noncomputable abbrev nxO (J : Nat) : Obj := { cls := .type "method-wrapper", data := .fields #[.builtin "list_iterator.__next__", .ref J] }
section
variable {prog : Program} {w : World} {A : Around} {E : Value → Shared → Prop} {s : Shared} {h₀ : Heap} {L : Addr} {m : Str → Option Value} {news : Led} {S J B p ep : Nat} {its : Array Value}
theorem iter_l {Q : Value → Shared → Prop} (F : Fr h₀ L s.heap m) (N : News h₀ L s.heap news) (hS : (S, listOf its ep) ∈ news)
    (h : ∀ (J : Nat) h', Fr h₀ L h' m → News h₀ L h' ((J, itO S 0) :: news) → (∀ p ∈ news, p.1 < J) → Q (.ref J) { s with heap := h' }) :
    wpAny (model prog w) A (call (.builtin "iter") [.ref S]) Q E s := by
  refine call_function_entry (by decide +kernel) (by decide +kernel) kdk_entry_iter (kdk_args_iter _) ?_
  unfold Builtin.«iter»
  refine wpAny_bind (m := someArgs "iter" 1 2 _) (wpAny_of_eq (a := [Value.ref S]) (by first | rfl | kernel_rfl!) ?_)
  show wpAny _ _ (pyIter (.ref S) >>= _) _ _ _
  refine wpAny_bind (wpAny_pyIter_list (items := its) ⟨_, (N _ hS).1, rfl, _, rfl⟩ ?_)
  exact wpAny_pure ⟨_, rfl, h _ _ (F.push _) (News.push F N _ rfl) (fun q hq => Heap.lt_size (N q hq).1)⟩
theorem next_a {Q : Value → Shared → Prop} {x : Bool} (F : Fr h₀ L s.heap m) (N : News h₀ L s.heap news) (hJ : (J, itO S p) ∈ news)
    (h : ∀ (B : Nat) h', Fr h₀ L h' m → News h₀ L h' ((B, nxO J) :: news) → (∀ p ∈ news, p.1 < B) → Q (.ref B) { s with heap := h', toks := s.toks + 1 }) :
    wpAny (model prog w) A (getAttr (.ref J) (Str.ofString "__next__") x) Q E s := by
  have hlk := slot_li_ga.lookup
  have hT : ∀ t', ({ s with toks := t' } : Shared).TypeIs (.ref J) "list_iterator" := fun _ => ⟨_, (N _ hJ).1, rfl⟩
  unfold getAttr getAttrBy
  refine wpAny_bind (wpAny_mkText (wpAny_holding (wpAny_bind (wpAny_typeOf (hT _) (wpAny_bind (wpAny_of_eq hlk ?_))))))
  show wpAny _ _ (getAttrByItsOwn (.ref J) (.str (Str.ofString "__next__") s.toks) (.type "list_iterator") (.builtin "object.__getattribute__") true x) _ _ _
  unfold getAttrByItsOwn hookBefore
  refine wpAny_bind (wpAny_of_eq (show (if onTheHeap (.type "list_iterator") then typeLookup (.type "list_iterator") "__getattr__" else pure none) = pure none from rfl) ?_)
  refine wpAny_bind (wpAny_attempt (wpAny_holding ?_))
  have e : callGetattribute (.ref J) (.str (Str.ofString "__next__") s.toks) (.builtin "object.__getattribute__") x = boundAndCalled (.builtin "object.__getattribute__") (.ref J) (.str (Str.ofString "__next__") s.toks) := by
    unfold callGetattribute
    cases x <;> rfl
  rw [e]
  unfold boundAndCalled
  refine wpAny_bind (wpAny_of_eq (slot_li_ga.bind _) ?_)
  refine wpAny_call_entry slot_li_ga (hT _) _root_.PySem.F.entry_object_getattribute ?_ (args_ga _ _)
  unfold Builtin.«object.__getattribute__»
  refine wpAny_bind (m := slotArgs "__getattribute__" 1 _) (wpAny_pure ?_)
  refine wpAny_bind (m := Builtin.ObjectAttr.attrName _) (wpAny_pure ?_)
  refine wpAny_bind (wpAny_typeOf (hT _) ?_)
  unfold Builtin.ObjectAttr.find
  refine wpAny_bind (wpAny_bind (wpAny_of_eq slot_listiter_next.lookup ?_))
  refine wpAny_bind (m := Builtin.ObjectAttr.getOf _) (wpAny_of_eq (spec_nx _ _ slot_wd_get.lookup) ?_)
  unfold Builtin.ObjectAttr.dataDescriptor? Builtin.ObjectAttr.takesStores
  refine wpAny_bind (wpAny_bind ?_)
  refine wpAny_bind (wpAny_of_eq (spec_nx _ _ wd_set) ?_)
  simp only [Option.isSome_none, Bool.false_eq_true, if_false]
  refine wpAny_bind (wpAny_of_eq (spec_nx _ _ wd_del) (wpAny_pure ?_))
  simp only [Option.isSome_none, Bool.false_eq_true, if_false]
  refine wpAny_pure ?_
  unfold Builtin.ObjectAttr.ownThenClass Builtin.ObjectAttr.inOwnDict Builtin.ObjectAttr.ownDict
  dsimp only
  refine wpAny_bind (wpAny_bind (wpAny_bind (wpAny_loadPart (N _ hJ).1 ?_)))
  dsimp only
  unfold instanceDict
  refine wpAny_bind (wpAny_loadPart (N _ hJ).1 ?_)
  dsimp only
  rw [if_pos (show (!false || !typeHasDict (Value.type "list_iterator")) = true from rfl)]
  refine wpAny_pure (wpAny_pure ?_)
  dsimp only
  refine wpAny_bind (m := Builtin.ObjectAttr.copiedAttributeGuard _ _) (wpAny_of_eq (a := ()) (by with_unfolding_all rfl) ?_)
  refine wpAny_bind (wpAny_rule (wpAny_pure ?_))
  dsimp only
  unfold Builtin.ObjectAttr.bindTo
  dsimp only
  refine wpAny_bind (wpAny_holding (wpAny_call_entry slot_wd_get type_nx entry_wd_get ?_ (args_wd_get _ _ _)))
  unfold Builtin.«wrapper_descriptor.__get__»
  refine wpAny_bind (wpAny_of_eq (a := (.builtin "list_iterator.__next__", some (.ref J), some (.type "list_iterator"))) (by with_unfolding_all rfl) ?_)
  dsimp only
  refine wpAny_bind (wpAny_bind (wpAny_of_eq (a := (Str.ofString "__next__", .type "list_iterator")) (by first | (with_unfolding_all rfl) | kernel_rfl) ?_))
  dsimp only
  refine wpAny_bind (wpAny_isInstance (hT _) sub_li ?_)
  simp only [Bool.not_true, Bool.false_eq_true, if_false]
  refine wpAny_pure ?_
  refine wpAny_bind (wpAny_newObj_type (wpAny_pure ⟨_, rfl, wpAny_pure ⟨_, rfl, ?_⟩⟩))
  exact wpAny_pure (h _ _ (F.push _) (News.push F N _ rfl) fun p hp => Heap.lt_size (N p hp).1)
theorem nx_check : checkBoundCall "list_iterator.__next__" ⟨[.ref J], []⟩ = pure () := by
  first | kernel_rfl | (unfold checkBoundCall; kernel_rfl)
theorem nx_call {Q : Value → Shared → Prop} (hB : s.heap.get? B = some (nxO J))
    (h : wpAny (model prog w) (A.under (.builtin "list_iterator.__next__" ⟨[.ref J], []⟩)) (Builtin.«list_iterator.__next__» ⟨[.ref J], []⟩) (fun fin s' => ∃ v, fin = .done (.ret v) ∧ Q v s') E s) :
    wpAny (model prog w) A (call (.ref B) []) Q E s := by
  refine wpAny_call (codeAny_of_tree ?_)
  show wpAny _ _ (callAny (.ref B) ⟨[], []⟩) _ _ s
  simp only [callAny]
  refine wpAny_bind (wpAny_load hB ?_)
  dsimp only
  rw [if_pos (by decide)]
  show wpAny _ _ (if (Value.type "method-wrapper" != Value.type "method") = true then _ else _) _ _ s
  rw [if_pos (by decide)]
  refine wpAny_bind (wpAny_of_eq (a := ()) nx_check (wpAny_pure ⟨Code.quiet_builtin _ (by decide +kernel), codeAny_builtin entry_listiter_next (wpAny_mono h (fun fin s' z => ?_) fun _ _ z => z)⟩))
  obtain ⟨v, rfl, z⟩ := z
  exact z
theorem nx_item {Q : Value → Shared → Prop} {g : Obj → Led} {x : Value} (F : Fr h₀ L s.heap m) (N : News h₀ L s.heap news) (U : UpdF J (itO S p) news g) (hB : (B, nxO J) ∈ news) (hS : (S, listOf its ep) ∈ news) (hx : its[p]? = some x)
    (h : ∀ h', Fr h₀ L h' m → News h₀ L h' (g (itO S (p + 1))) → Q x { s with heap := h' }) : wpAny (model prog w) A (call (.ref B) []) Q E s := by
  obtain ⟨pre, post, hl, hg, a, b⟩ := U.split
  have hmem : (J, itO S p) ∈ news := by rw [hl]; exact List.mem_append_right _ (.head _)
  have hm := N (J, itO S p) hmem
  refine nx_call (N _ hB).1 ?_
  show wpAny _ _ (field (.ref J) 0 >>= _) _ _ s
  refine wpAny_bind (wpAny_field hm.1 rfl (x := .ref S) rfl ?_)
  show wpAny _ _ (if (Value.ref S == Value.none) = true then _ else _) _ _ s
  rw [if_neg (show ¬ ((Value.ref S == Value.none) = true) from Bool.false_ne_true)]
  show wpAny _ _ (field (.ref J) 1 >>= _) _ _ s
  refine wpAny_bind (wpAny_field hm.1 rfl (x := .int p 0) rfl ?_)
  show wpAny _ _ (seqItems? (.ref S) >>= _) _ _ s
  refine wpAny_bind (wpAny_seqItems (N _ hS).1 rfl ?_)
  simp only [Int.toNat_natCast, hx]
  refine wpAny_bind (wpAny_setField hm.1 rfl (by simp) (wpAny_pure ⟨x, rfl, ?_⟩))
  have hs : Heap.SameBut J s.heap (s.heap.update J (Obj.mapFields (·.setIfInBounds 1 (rawInt ((p : Int) + 1))))) := Heap.SameBut.update ..
  have ho' : (s.heap.update J (Obj.mapFields (·.setIfInBounds 1 (rawInt ((p : Int) + 1))))).get? J = some (itO S (p + 1)) := by
    rw [Heap.get?_update_self _ hm.1 rfl]
    simp [Obj.mapFields, rawInt]
  exact h _ (F.change hs hm.2.1 hm.2.2) (hg _ ▸ (show News h₀ L s.heap (pre ++ (J, itO S p) :: post) from hl ▸ N).setIn a b hs ho')
theorem nx_stop {Q : Value → Shared → Prop} {g : Obj → Led} (hh : A.handled = none) (F : Fr h₀ L s.heap m) (N : News h₀ L s.heap news) (U : UpdF J (itO S p) news g) (hB : (B, nxO J) ∈ news) (hS : (S, listOf its ep) ∈ news) (hx : its[p]? = none)
    (h : ∀ h' h'' o' e, Fr h₀ L h' m → News h₀ L h' (g o') → Heap.NewExc h' h'' e "StopIteration" → E (.ref e) { s with heap := h'' }) : wpAny (model prog w) A (call (.ref B) []) Q E s := by
  obtain ⟨pre, post, hl, hg, a, b⟩ := U.split
  have hmem : (J, itO S p) ∈ news := by rw [hl]; exact List.mem_append_right _ (.head _)
  have hm := N (J, itO S p) hmem
  refine nx_call (N _ hB).1 ?_
  show wpAny _ _ (field (.ref J) 0 >>= _) _ _ s
  refine wpAny_bind (wpAny_field hm.1 rfl (x := .ref S) rfl ?_)
  show wpAny _ _ (if (Value.ref S == Value.none) = true then _ else _) _ _ s
  rw [if_neg (show ¬ ((Value.ref S == Value.none) = true) from Bool.false_ne_true)]
  show wpAny _ _ (field (.ref J) 1 >>= _) _ _ s
  refine wpAny_bind (wpAny_field hm.1 rfl (x := .int p 0) rfl ?_)
  show wpAny _ _ (seqItems? (.ref S) >>= _) _ _ s
  refine wpAny_bind (wpAny_seqItems (N _ hS).1 rfl ?_)
  simp only [Int.toNat_natCast, hx]
  refine wpAny_bind (wpAny_rule (wpAny_bind (wpAny_setField hm.1 rfl (by simp) ?_)))
  show wpAny _ _ (newExc (.type "StopIteration") [] >>= _) _ _ _
  have hs : Heap.SameBut J s.heap (s.heap.update J (Obj.mapFields (·.setIfInBounds 0 Value.none))) := Heap.SameBut.update ..
  have ho' : ∃ o', (s.heap.update J (Obj.mapFields (·.setIfInBounds 0 Value.none))).get? J = some o' := ⟨_, Heap.get?_update_self _ hm.1 rfl⟩
  obtain ⟨o', ho'⟩ := ho'
  have F' := F.change hs hm.2.1 hm.2.2
  have N' := hg o' ▸ (show News h₀ L s.heap (pre ++ (J, itO S p) :: post) from hl ▸ N).setIn a b hs ho'
  generalize (s.heap.update J (Obj.mapFields (·.setIfInBounds 0 Value.none))) = H at *
  refine wpAny_bind ?_
  simp only [newExc, newTuple]
  refine wpAny_bind (wpAny_newObj_type ?_ (by size_fits))
  refine wpAny_bind (m := firstArgMember _ _) (wpAny_of_eq (a := Value.none) (by first | rfl | (simp only [firstArgMember]; rfl)) ?_)
  refine wpAny_newObj_type ?_ (by size_fits)
  simp only [raiseNew]
  refine wpAny_bind (wpAny_handled ?_)
  rw [show (A.under (.builtin "list_iterator.__next__" ⟨[.ref J], []⟩)).handled = none from hh]
  refine wpAny_bind (wpAny_pure (wpAny_throw ?_))
  refine h H _ o' _ F' N' ⟨fun b o e => Heap.get?_push_of_some _ (Heap.get?_push_of_some _ e), ?_, ⟨_, _, Heap.get?_push_size _ rfl, rfl, rfl⟩⟩
  exact Heap.get?_none_of_le (by rw [Heap.size_push]; exact Nat.le_succ _)
end
theorem noneS2 : True := by
  k_with_none
  trivial
section
variable {prog : Program} {w : World} {A : Around} {E : Value → Shared → Prop} {s : Shared} {h₀ : Heap} {L : Addr} {m : Str → Option Value} {news news' : Led} {S ep : Nat} {its : Array Value} {p : List Value} {y : Value}
theorem fit_line {n : Nat} (h : n ≤ sizeLine) : (n : Int) < 2 ^ 63 := by
  have : sizeLine ≤ 16777216 := by decide
  omega
theorem len_l {Q : Value → Shared → Prop} (N : News h₀ L s.heap news) (hm : (S, listOf its ep) ∈ news) (hz : its.size ≤ sizeLine) (h : Q (.int its.size (s.toks + 1)) { s with toks := s.toks + 1 + 1 }) :
    wpAny (model prog w) A (call (.builtin "len") [.ref S]) Q E s := call_len_list ⟨_, (N _ hm).1, rfl, _, rfl⟩ (fit_line hz) h
theorem truthy_l {Q : Bool → Shared → Prop} (N : News h₀ L s.heap news) (hm : (S, listOf its ep) ∈ news) (hz : its.size ≤ sizeLine) (h : Q (!its.isEmpty) { s with toks := s.toks + 1 + 1 }) :
    wpAny (model prog w) A (truthy (.ref S)) Q E s := wpAny_truthy_list ⟨_, (N _ hm).1, rfl, _, rfl⟩ (fit_line hz) h
theorem truthy_c {Q : Bool → Shared → Prop} (N : News h₀ L s.heap news) (hm : (S, listOf (p ++ [y]).toArray ep) ∈ news) (hz : (p ++ [y]).toArray.size ≤ sizeLine) (h : Q true { s with toks := s.toks + 1 + 1 }) :
    wpAny (model prog w) A (truthy (.ref S)) Q E s := truthy_l N hm hz (by
      have e : (!(p ++ [y]).toArray.isEmpty) = true := by simp
      rw [e]; exact h)
theorem last_l {value slice : PySem.Expr} {u : Tok} {Q : Value → Shared → Prop} (N : News h₀ L s.heap news) (hm : (S, listOf (p ++ [y]).toArray ep) ∈ news) (h : Q y s)
    (hs : subscripted slice false (.ref S) (.int (-1) u) = operate [.ref S, .int (-1) u] (getItem (.ref S) (.int (-1) u)) := by with_unfolding_all rfl) (hg : ∀ r, letTemporaryGo value (.ref S) r = pure () := by intro _; with_unfolding_all rfl) :
    wpAny (model prog w) A (subscriptTail value slice (.ref S) (.int (-1) u)) Q E s := by
  have hl : s.heap.IsList S (p ++ [y]).toArray := ⟨_, (N _ hm).1, rfl, _, rfl⟩
  have e : ((-1 : Int) + ((p ++ [y]).toArray.size : Int)).toNat = p.length := by
    rw [List.size_toArray, List.length_append, List.length_singleton]; omega
  refine subscriptTail_builtin hl.typeIs slot_list_getitem.lookup (wpAny_getItem_list_neg hl (by decide) ?_ (by decide) (x := y) ?_ h) hs hg
  · rw [List.size_toArray, List.length_append, List.length_singleton]; omega
  · rw [e]; simp
theorem pop_l {Q : Value → Shared → Prop} (F : Fr h₀ L s.heap m) (N : News h₀ L s.heap news) (U : Upd S (listOf (p ++ [y]).toArray ep) (listOf p.toArray (ep + 1)) news news') (hz : (p ++ [y]).toArray.size ≤ sizeLine)
    (h : ∀ h', Fr h₀ L h' m → News h₀ L h' news' → Q y { s with heap := h' }) : wpAny (model prog w) A (call (.builtin "list.pop") [.ref S]) Q E s :=
  kl_pop F N (by show kl_last (p ++ [y]) = _; exact kpa_last y p) U (by rw [List.size_toArray] at hz; exact hz) h
theorem nx_with {M : Model} {pos : Pos} {env : Env} {B J : Nat} {Q : Value → Shared → Prop} (N : News h₀ L s.heap news) (hm : (B, nxO J) ∈ news) (h : wpAny M A (call (.ref B) []) Q E s) :
    wpAny M A (callWith pos (.ref B) [] (backTo pos (starEach [] env)) []) Q E s := by
  show wpAny M A (callWith pos (.ref B) [] [] []) Q E s
  unfold callWith
  refine wpAny_bind (wpAny_holding (evalArgs_nil3 (wpAny_bind (wpAny_standAt ?_))))
  refine wpAny_bind (m := keeperOf (.ref B)) ?_
  unfold keeperOf
  refine wpAny_bind (wpAny_load (N _ hm).1 ?_)
  simp only [show (Value.type "method-wrapper" != Value.type "method") = true by decide, show (Value.type "method-wrapper" == Value.type "builtin_function_or_method" || Value.type "method-wrapper" == Value.type "method-wrapper") = true by decide, if_true]
  refine wpAny_pure ?_
  exact wpAny_bind (wpAny_mono h (fun r s₂ hr => wpAny_bind (wpAny_holding (wpAny_point (wpAny_pure hr)))) fun _ _ x => x)
end
local macro_rules | `(tactic| k_all) => `(tactic| walk_at "allne")
theorem noneC13 : True := by
  k_with_none
  trivial
-- addresses that differ: by a fact of the context first
-- a def entered: what is left is its body
theorem rowsC13_3 : True := by
  k_with "kroom" => ((try simp only [depth_under_make, depth_under_kw, depth_in1, depth_deeper, depth_caller, recursionLimit] at *); omega)
  k_with "kne" => first | with_reducible assumption | exact Ne.symm (by with_reducible assumption) | (refine neN ?_; (try dsimp only); first | with_reducible assumption | exact Nat.ne_of_lt (by with_reducible assumption) | exact Nat.ne_of_gt (by with_reducible assumption) | exact Ne.symm (by with_reducible assumption) | (refine' Nat.ne_of_lt (Nat.lt_trans ?z82xh1 ?z82xh2); (case z82xh2 => with_reducible assumption); (case z82xh1 => with_reducible assumption)) | (refine' Nat.ne_of_gt (Nat.lt_trans ?z82xh1 ?z82xh2); (case z82xh2 => with_reducible assumption); (case z82xh1 => with_reducible assumption)) | omega)
  k_with "spl" => first | (refine' Spl.cons ?z83xsp; (case z83xsp => walk_at "spl")) | exact Spl.nil
  k_with "enter" => ((case k6 => k_is); (case k7 => k_is); (case k8 => k_room); (case k9 => exact BindsTo.of_eq rfl); (case c5 => decide); (case kB => exact locs rfl); (case c2 => exact rfl); (case c3 => exact rfl); (case c4 => exact rfl))
  k_with "enterV" => ((case k6 => k_is); (case k7 => k_is); (case k8 => k_room); (case kP => exact rfl); (case kG => exact fun _ => rfl); (case c5 => decide); (case kB => exact fun _ => locs rfl); (case c2 => exact rfl); (case c3 => exact rfl); (case c4 => exact rfl))
  k_with "apart" => first | exact apNil | (refine apCons (by assumption) ?_; walk_at "apart")
  k_with "allne" => first | with_reducible assumption | exact List.forall_mem_nil _ | (refine' fa_cons ?z87xfh ?z87xft; (case z87xfh => k_ne); (case z87xft => walk_at "allne"))
  k_with "sub" => first | exact subNil | exact fun _ h => h | (refine' subCons ?z88xs1 ?z88xs2; (case z88xs1 => k_mem); (case z88xs2 => walk_at "sub")) | (refine' subTail ?z88xs3; (case z88xs3 => walk_at "sub"))
  k_with "pick" => first | exact Pick.head | (refine' Pick.tail ?z89xpk; (case z89xpk => walk_at "pick"))
  k_with "leave" => (refine' ⟨_, _, _, ?z90xka, ?z90xkb, ?z90xkc⟩; (case z90xka => k_asm); (case z90xkb => k_asm); intro _ _ kA; (have na9 := np_of kA (by walk_at "spl")); (repeat (have hx9 := np_head na9; revert hx9; intro _; replace na9 := np_tail na9)); clear na9; replace kA := np_tl kA (by walk_at "spl"); revert kA; intro _)
  k_with "look" => first | assumption | exact upd_eq | (refine upd_ne (by decide) ?_; walk_at "look")
  k_with "eval Name" => (k_here; k_dflt (refine' nameX_L ?z92xF ?z92xv ?_ ?z92xa ?z92xb; (case z92xF => k_asm); (case z92xa => rfl); (case z92xb => rfl); (case z92xv => walk_at "look"); k_whole))
  k_with "exec While" => (k_here; refine wpAny_While ?_)
  k_with "subscriptTail" => (k_here; (with_reducible show wpAny _ _ (subscriptTail _ _ (Value.ref _) (Value.str _ _)) _ _ _); k_dflt (refine' kda_item (knd := PySem.strKind _ _) ?z94xN ?z94xp ?z94xd (strKind_is _ _ _ _) ?z94xl ?_; (case z94xN => k_asm); (case z94xp => k_mem); (case z94xd => k_asm); (case z94xl => assumption)))
  k_with "call builtin:iter" => (k_here; (with_reducible show wpAny _ _ (call (Value.builtin "iter") [Value.ref _]) _ _ _); k_dflt (refine iter_l (by k_asm) (by k_asm) (by k_mem) ?_); intro _ _ _ _ l1; (try k_lt l1); (try (revert l1; intro _)))
  k_with "getAttr ref" => (k_here; (with_reducible show wpAny _ _ (getAttr (Value.ref _) (Str.ofString "__next__") _) _ _ _); k_dflt (refine next_a (by k_asm) (by k_asm) (by k_mem) ?_); intro _ _ _ _ l1; (try k_lt l1); (try (revert l1; intro _)))
  k_with "setItem ref str" => (k_here; k_dflt (refine' kda_set (knd := PySem.strKind _ _) ?z97xF ?z97xN ?z97xU ?z97xd (strKind_is _ _ _ _) ?z97xz ?_; (case z97xF => k_asm); (case z97xN => k_asm); (case z97xU => k_updF); (case z97xd => k_asm); (case z97xz => assumption)); intro _ _ _ N' hd'; (try dsimp only at N'); revert N' hd'; intro _ _)
  k_with "call builtin:len" => (k_here; (with_reducible show wpAny _ _ (call (Value.builtin "len") [Value.ref _]) _ _ _); k_dflt (refine' len_l ?z98xN ?z98xm ?z98xz ?_; (case z98xN => k_asm); (case z98xm => k_mem); (case z98xz => assumption)))
  k_with "truthy ref" => (k_here; k_dflt (first | (refine' truthy_c ?z99xN ?z99xm ?z99xz ?_; (case z99xN => k_asm); (case z99xm => k_mem); (case z99xz => assumption)) | (refine' truthy_l ?z99xN ?z99xm ?z99xz ?_; (case z99xN => k_asm); (case z99xm => k_mem); (case z99xz => assumption))))
  k_with "subscriptTail Name UnaryOp ref int" => (k_here; (with_reducible show wpAny _ _ (subscriptTail _ _ (Value.ref _) (Value.int _ _)) _ _ _); k_dflt (refine' last_l ?z100xN ?z100xm ?_ ?z100xs ?z100xg; (case z100xN => k_asm); (case z100xm => k_mem); (case z100xs => with_unfolding_all rfl); (case z100xg => intro _; with_unfolding_all rfl)))
  k_with "call builtin:list.pop" => (k_here; k_dflt (refine' pop_l ?z101xF ?z101xN ?z101xU ?z101xz ?_; (case z101xF => k_asm); (case z101xN => k_asm); (case z101xU => k_upd); (case z101xz => assumption)); intro _ _ _)
  k_with "call ref" => (k_here; (with_reducible show wpAny _ _ (call (Value.ref _) []) _ _ _); k_dflt (refine' nx_item ?z102xF ?z102xN ?z102xU ?z102xb ?z102xs ?z102xx ?_; (case z102xF => k_asm); (case z102xN => k_asm); (case z102xU => k_updF); (case z102xb => k_mem); (case z102xs => k_mem); (case z102xx => assumption)); intro _ _ N'; (try dsimp only at N'); revert N'; intro _)
  k_with "callWith ref" => (k_here; k_dflt (refine' nx_with ?z103xN ?z103xm ?_; (case z103xN => k_asm); (case z103xm => k_mem)))
  k_with "delItem ref str" => (k_here; k_dflt (refine' kob_del (knd := PySem.strKind _ _) ?z104xF ?z104xN ?z104xU ?z104xd (strKind_is _ _ _ _) ?z104xl ?z104xz ?_; (case z104xF => k_asm); (case z104xN => k_asm); (case z104xU => k_updF); (case z104xd => k_asm); (case z104xl => assumption); (case z104xz => assumption)); intro _ _ _ N' hd'; (try dsimp only at N'); revert N' hd'; intro _ _)
  k_with "compareOp In str ref" => (k_here; k_dflt (refine' kda_in (knd := PySem.strKind _ _) ?z105xN ?z105xp ?z105xd ?z105xl (strKind_is _ _ _ _) true ?z105xb ?_; (case z105xN => k_asm); (case z105xp => k_mem); (case z105xd => k_asm); (case z105xl => assumption); (case z105xb => assumption)))
  trivial
theorem fa_headA {b x : Nat} {o : Obj} {l : Led} (h : ∀ p ∈ (b, o) :: l, p.1 ≠ x) : @Ne Addr b x := h (b, o) (List.mem_cons.mpr (.inl rfl))
/-- a node of the graph: its sign, its record, the record's dict, its list of successors -/
structure Nd where
  c : Nat
  I : Nat
  dI : Nat
  S : Nat
  nt : Tok
  pt : Tok
  np : Int
  sc : List (Nat × Tok)
  ep : Nat
noncomputable def Nd.led (x : Nd) : Led := [(x.I, infO x.dI (sg x.c) x.nt x.np x.pt x.S), (x.dI, dictOf [] 0), (x.S, listOf (x.sc.map fun p => Value.str (sg p.1) p.2).toArray x.ep)]
noncomputable def gLed (ns : List Nd) : Led := ns.flatMap Nd.led
noncomputable def gKv (ns : List Nd) : List (Str × Value) := ns.map fun x => (sg x.c, .ref x.I)
/-- an entry of the stack: its node, its iterator, the iterator's bound next -/
structure Ent where
  x : Nd
  J : Nat
  B : Nat
  p : Nat
  t : Tok
  ti : Tok
noncomputable def stA : List Ent → List Value
  | [] => []
  | e :: r => stA r ++ [.str (sg e.x.c) e.t]
noncomputable def itA : List Ent → List Value
  | [] => []
  | e :: r => itA r ++ [.ref e.B]
noncomputable def ndA : List Ent → List (Str × Value)
  | [] => []
  | e :: r => ndA r ++ [(sg e.x.c, .int r.length e.ti)]
theorem stA_len : ∀ l : List Ent, (stA l).length = l.length
  | [] => rfl
  | e :: r => by show (stA r ++ [_]).length = _; rw [List.length_append, stA_len r]; rfl
theorem itA_len : ∀ l : List Ent, (itA l).length = l.length
  | [] => rfl
  | e :: r => by show (itA r ++ [_]).length = _; rw [List.length_append, itA_len r]; rfl
theorem ndA_len : ∀ l : List Ent, (ndA l).length = l.length
  | [] => rfl
  | e :: r => by show (ndA r ++ [_]).length = _; rw [List.length_append, ndA_len r]; rfl
noncomputable def Ent.led (e : Ent) : Led := [(e.J, itO e.x.S e.p), (e.B, nxO e.J)]
noncomputable def stLed (l : List Ent) : Led := l.flatMap Ent.led
noncomputable def Ent.abs (e : Ent) : Nat × List Nat := (e.x.c, (e.x.sc.map (·.1)).drop e.p)
noncomputable def Nd.abs (x : Nd) : Nat × List Nat := (x.c, x.sc.map (·.1))
/-- the next node that the stack's iterators hand out -/
noncomputable def inner : List (Nat × List Nat) → Option (Nat × List (Nat × List Nat))
  | [] => none
  | (c, y :: r) :: l => some (y, (c, r) :: l)
  | (_, []) :: l => inner l
/-- the walk from one node: none: beyond what is served; true: a ring -/
noncomputable def dfs (gr : List (Nat × List Nat)) : Nat → Nat → List Nat → List (Nat × List Nat) → Option (Bool × List Nat)
  | 0, _, _, _ => none
  | k + 1, c, seen, stk => if seen.length > 50 ∨ stk.length > 50 then none else
    if c ∈ seen then (match stk with | [_, (a, _)] => if a = c then some (true, seen) else none | _ => none)
    else match gr.find? (fun x => x.1 = c) with
      | none => none
      | some x => match inner ((c, x.2) :: stk) with
        | none => some (false, c :: seen)
        | some (y, stk') => dfs gr k y (c :: seen) stk'
noncomputable def forA (gr : List (Nat × List Nat)) : List Nat → List Nat → Option Bool
  | [], _ => some false
  | c :: r, seen => if c ∈ seen then forA gr r seen else match dfs gr 30 c seen [] with
    | none => none
    | some (true, _) => some true
    | some (false, seen') => forA gr r seen'
noncomputable def seenF (l : List Nat) : Str → Bool := fun k => decide (k ∈ l.map sg)
theorem gLed_split (pre post : List Nd) (y : Nd) : gLed (pre ++ y :: post) = gLed pre ++ (y.led ++ gLed post) := by
  unfold gLed; rw [List.flatMap_append, List.flatMap_cons]
theorem pull {α : Type} (A Y B : List α) : (A ++ (Y ++ B)).Perm (Y ++ (A ++ B)) := by
  rw [← List.append_assoc, ← List.append_assoc]
  exact List.Perm.append_right _ List.perm_append_comm
theorem sg_inj {a b : Nat} (h : sg a = sg b) : a = b := by injection h with h; injection h with h; injection h
theorem val_at {ns : List Nd} {c : Nat} {x : Nat × List Nat} (h : (ns.map Nd.abs).find? (fun x => x.1 = c) = some x) : ∃ pre y post, ns = pre ++ y :: post ∧ y.c = c ∧ y.abs = x ∧ PySem.valueAt (gKv ns) (sg c) = some (.ref y.I) := by
  induction ns with
  | nil => cases h
  | cons z r ih =>
    rw [List.map_cons, List.find?_cons] at h
    by_cases e : z.c = c
    · rw [show decide (z.abs.1 = c) = true from decide_eq_true e] at h
      refine ⟨[], z, r, rfl, e, by injection h, ?_⟩
      unfold PySem.valueAt gKv
      rw [List.map_cons, List.find?_cons, show decide ((sg z.c, Value.ref z.I).1 = sg c) = true from decide_eq_true (by rw [← e])]
      rfl
    · rw [show decide (z.abs.1 = c) = false from decide_eq_false e] at h
      obtain ⟨pre, y, post, e1, e2, e3, e4⟩ := ih h
      refine ⟨z :: pre, y, post, by rw [e1]; rfl, e2, e3, ?_⟩
      unfold PySem.valueAt gKv at e4 ⊢
      rw [List.map_cons, List.find?_cons, show decide ((sg z.c, Value.ref z.I).1 = sg c) = false from decide_eq_false fun q => e (sg_inj q)]
      exact e4
theorem seenF_no {seen : List Nat} {c : Nat} (h : c ∉ seen) : seenF seen (sg c) = false := decide_eq_false fun q => by
  obtain ⟨a, ha, e⟩ := List.mem_map.mp q
  exact h (sg_inj e ▸ ha)
theorem seenF_yes {seen : List Nat} {c : Nat} (h : c ∈ seen) : seenF seen (sg c) = true := decide_eq_true (List.mem_map.mpr ⟨_, h, rfl⟩)
theorem lt_all {l : Led} {x : Nat} (h : ∀ p ∈ l, p.1 < x) : ∀ p ∈ l, p.1 ≠ x := fun p hp => Nat.ne_of_lt (h p hp)
theorem rowsC13_125 : True := by
  k_with "allne" => first | with_reducible assumption | exact lt_all (by with_reducible assumption) | exact List.forall_mem_nil _ | (refine' fa_cons ?z106xfh ?z106xft; (case z106xfh => k_ne); (case z106xft => walk_at "allne"))
  trivial
theorem dist_same {a b b' : Led} (h : Dist (a ++ b)) (e : b'.map (·.1) = b.map (·.1)) : Dist (a ++ b') := by
  unfold Dist at *; rw [List.map_append] at *; rw [e]; exact h
theorem back_perm {α : Type} (j b : α) (Y H A P Q : List α) : (j :: b :: (Y ++ (H ++ (A ++ (P ++ Q))))).Perm (H ++ ((j :: b :: A) ++ (P ++ (Y ++ Q)))) := by
  have h1 : (Y ++ (H ++ (A ++ (P ++ Q)))).Perm (H ++ (A ++ (P ++ (Y ++ Q)))) := by
    have := (pull (H ++ (A ++ P)) Y Q).symm
    simpa only [List.append_assoc] using this
  exact (List.Perm.cons j (List.Perm.cons b h1)).trans (pull H [j, b] (A ++ (P ++ (Y ++ Q)))).symm
structure Held (P : Prop) : Prop where
  p : P
theorem execs_mid {M : Model} {A : Around} {E : Value → Shared → Prop} {s : Shared} {env : Env} {st : Stmt} {rest : List Stmt} {Q : Flow → Shared → Prop} (Mid : Shared → Prop)
    (h1 : wpAny M A (exec st env) (fun f s' => Held (f = .next ∧ Mid s')) E s) (h2 : ∀ s', Mid s' → wpAny M A (execs rest env) Q E s') : wpAny M A (execs (st :: rest) env) Q E s :=
  wpAny_execs_cons (wpAny_mono h1 (fun f s' h => by obtain ⟨⟨rfl, hm⟩⟩ := h; exact h2 s' hm) fun _ _ e => e)
theorem whileH {prog : Program} {w : World} {A : Around} {s : Shared} {R : Result → Shared → Prop} {test : PySem.Expr} {body orelse : List Stmt} {env : Env} (I : Nat → Shared → Prop)
    (turn : ∀ n s, I n s → wpAny (model prog w) A (isTrue test env (eval test env)) (fun b s₂ =>
        if b then wpAny (model prog w) A (execs body env) (fun f s₃ => match f with
            | .next | .cont => Held (∃ m, m < n ∧ I m s₃)
            | .brk => R (.ok .next) s₃
            | .ret v => R (.ok (.ret v)) s₃) (notedBy (model prog w) A env fun e s' => R (.error e) s') s₂
        else wpAny (model prog w) A (execs orelse env) (fun f s₃ => R (.ok f) s₃) (notedBy (model prog w) A env fun e s' => R (.error e) s') s₂)
        (notedBy (model prog w) A env fun e s' => R (.error e) s') s)
    (n : Nat) (h : I n s) : codeAny (model prog w) A (.whileLoop test body orelse env) R s := by
  refine codeAny_whileLoop I (fun n s hI => wpAny_mono (turn n s hI) (fun b s₂ h₂ => ?_) fun _ _ e => e) n h
  cases b with
  | false => exact h₂
  | true =>
    simp only [if_true] at h₂ ⊢
    refine wpAny_mono h₂ (fun f s₃ h₃ => ?_) fun _ _ e => e
    cases f with
    | next => exact h₃.p
    | cont => exact h₃.p
    | brk => exact h₃
    | ret v => exact h₃
/-- the state between two steps of the walk -/
inductive WC (w : World) (g' : Heap) (L' I : Addr) (oI : Obj) (aNd aSe lIt lSt self sd D : Nat) (sdo oD oL : Obj) (L : Addr) (ns : List Nd) (frs : Led) (seen : List Nat) (stk : List Ent) (m : Str → Option Value) (h : Heap) : Prop
  | mk (ndO seO : Obj) (e1 e2 : Nat) (frs' : Led) (sl : Array (Option Value)) : Fr g' L' h m → News g' L' h ((I, oI) :: (aNd, ndO) :: (aSe, seO) :: (lIt, listOf (itA stk).toArray e2) :: (lSt, listOf (stA stk).toArray e1) :: (self, instObj 158 sd) :: (sd, sdo) :: (D, oD) :: (stLed stk ++ (gLed ns ++ (L, { oL with slots := sl }) :: frs'))) →
    Dist ((I, oI) :: (aNd, ndO) :: (aSe, seO) :: (lIt, listOf (itA stk).toArray e2) :: (lSt, listOf (stA stk).toArray e1) :: (self, instObj 158 sd) :: (sd, sdo) :: (D, oD) :: (stLed stk ++ (gLed ns ++ (L, { oL with slots := sl }) :: frs'))) →
    TI.SameUp frs frs' → Obj.IsDictOf (PySem.strKind PySem.Challenge.rw_mr0322_01.row.prog w) ndO (ndA stk) → Obj.SetObjOf (PySem.strKind PySem.Challenge.rw_mr0322_01.row.prog w) seO (seenF seen) seen.length →
    m (Str.ofString "n2i") = some (.ref D) → m (Str.ofString "stack") = some (.ref lSt) → m (Str.ofString "itstack") = some (.ref lIt) → m (Str.ofString "seen") = some (.ref aSe) → m (Str.ofString "node2stacki") = some (.ref aNd) → (∀ e ∈ stk, e.x ∈ ns ∧ e.x.c ∈ seen) →
    WC w g' L' I oI aNd aSe lIt lSt self sd D sdo oD oL L ns frs seen stk m h
/-- the loop over the nodes -/
inductive FI (w : World) (aNd aSe lIt lSt self sd D : Nat) (sdo oD oL : Obj) (L : Addr) (ns : List Nd) (frs : Led) (ring : Bool) (i : Nat) (m : Str → Option Value) (led : Led) : Prop
  | mk (ndO seO : Obj) (e1 e2 : Nat) (frs' : Led) (sl : Array (Option Value)) (seen : List Nat) : led = (aNd, ndO) :: (aSe, seO) :: (lIt, listOf #[] e2) :: (lSt, listOf #[] e1) :: (self, instObj 158 sd) :: (sd, sdo) :: (D, oD) :: (gLed ns ++ (L, { oL with slots := sl }) :: frs') →
    Dist led → TI.SameUp frs frs' → Obj.IsDictOf (PySem.strKind PySem.Challenge.rw_mr0322_01.row.prog w) ndO [] → Obj.SetObjOf (PySem.strKind PySem.Challenge.rw_mr0322_01.row.prog w) seO (seenF seen) seen.length →
    m (Str.ofString "n2i") = some (.ref D) → m (Str.ofString "stack") = some (.ref lSt) → m (Str.ofString "itstack") = some (.ref lIt) → m (Str.ofString "seen") = some (.ref aSe) → m (Str.ofString "node2stacki") = some (.ref aNd) → seen.length ≤ 51 → forA (ns.map Nd.abs) ((ns.map Nd.c).drop i) seen = some ring →
    FI w aNd aSe lIt lSt self sd D sdo oD oL L ns frs ring i m led
/-- the walk from a node -/
inductive WI (s : Shared) (C : List Nat → List Ent → (Str → Option Value) → Heap → Prop) (gr : List (Nat × List Nat)) (res : Bool × List Nat) (k : Nat) (s' : Shared) : Prop
  | mk (c : Nat) (u : Tok) (seen : List Nat) (stk : List Ent) (m : Str → Option Value) (h : Heap) (tk : Tok) : s' = { s with heap := h, toks := tk } → C seen stk m h → m (Str.ofString "node") = some (.str (sg c) u) → dfs gr k c seen (stk.map Ent.abs) = some res → WI s C gr res k s'
inductive MI (s : Shared) (C : List Ent → (Str → Option Value) → Heap → Prop) (gr : List (Nat × List Nat)) (res : Bool × List Nat) (k : Nat) (seen : List Nat) (s' : Shared) : Prop
  | mk (stk : List Ent) (m : Str → Option Value) (h : Heap) (tk : Tok) : s' = { s with heap := h, toks := tk } → C stk m h → stk.length ≤ 51 → (match inner (stk.map Ent.abs) with | none => some (false, seen) | some (y, stk') => dfs gr k y seen stk') = some res → MI s C gr res k seen s'
inductive NI (s : Shared) (C : List Ent → (Str → Option Value) → Heap → Prop) (gr : List (Nat × List Nat)) (res : Bool × List Nat) (k : Nat) (seen : List Nat) (n : Nat) (s' : Shared) : Prop
  | mk (stk : List Ent) (m : Str → Option Value) (h : Heap) (tk : Tok) : n = stk.length → s' = { s with heap := h, toks := tk } → C stk m h → stk.length ≤ 51 → (match inner (stk.map Ent.abs) with | none => some (false, seen) | some (y, stk') => dfs gr k y seen stk') = some res → NI s C gr res k seen n s'
theorem val_last (kvs : List (Str × Value)) (k : Str) (v : Value) : (PySem.valueAt (kvs ++ [(k, v)]) k).isSome = true := by
  unfold PySem.valueAt
  rw [Option.isSome_map, List.find?_isSome]
  exact ⟨(k, v), List.mem_append_right _ (List.mem_singleton.mpr rfl), by simp⟩
theorem without_last {kvs : List (Str × Value)} {k : Str} {v : Value} (h : ((kvs ++ [(k, v)]).map (·.1)).Nodup) : PySem.without (kvs ++ [(k, v)]) k = kvs := by
  unfold PySem.without
  rw [List.map_append] at h
  rw [List.filter_append]
  have h1 : kvs.filter (fun kv => decide (kv.1 ≠ k)) = kvs := List.filter_eq_self.mpr fun p hp => decide_eq_true fun q => (List.nodup_append.mp h).2.2 p.1 (List.mem_map.mpr ⟨p, hp, rfl⟩) k (List.mem_singleton.mpr rfl) q
  rw [h1]; simp
theorem seenF_cons {seen : List Nat} {c : Nat} : (fun k' => seenF seen k' || decide (k' = sg c)) = seenF (c :: seen) := by
  funext k
  unfold seenF
  rw [Bool.eq_iff_iff]
  simp only [Bool.or_eq_true, decide_eq_true_eq, List.map_cons, List.mem_cons]
  exact Or.comm
theorem stored_new {kvs : List (Str × Value)} {k : Str} {v : Value} (h : ∀ p ∈ kvs, p.1 ≠ k) : PySem.stored kvs k v = kvs ++ [(k, v)] := by
  unfold PySem.stored
  rw [if_neg]
  intro q
  obtain ⟨p, hp, e⟩ := List.any_eq_true.mp q
  exact h p hp (of_decide_eq_true e)
theorem ndA_mem : ∀ {stk : List Ent} {p : Str × Value}, p ∈ ndA stk → ∃ e ∈ stk, p.1 = sg e.x.c := by
  intro stk
  induction stk with
  | nil => intro p h; cases h
  | cons e r ih =>
    intro p h
    rcases List.mem_append.mp h with h | h
    · obtain ⟨e', he, q⟩ := ih h; exact ⟨e', List.mem_cons_of_mem _ he, q⟩
    · rw [List.mem_singleton.mp h]; exact ⟨e, List.mem_cons_self, rfl⟩
section
variable {w : World} {g' : Heap} {L' I : Addr} {oI : Obj} {aNd aSe lIt lSt self sd D : Nat} {sdo oD oL : Obj} {L : Addr} {ns pre post : List Nd} {frs frs' : Led} {seen : List Nat} {stk : List Ent} {m : Str → Option Value} {h : Heap}
  {y : Nd} {J B e1 e2 c : Nat} {u t : Tok} {o1 o2 : Obj} {sl : Array (Option Value)}
theorem wc_push (hns : ns = pre ++ y :: post) (hyc : y.c = c) (F : Fr g' L' h m)
    (N : News g' L' h ((B, nxO J) :: (J, itO y.S 0) :: (y.I, infO y.dI (sg y.c) y.nt y.np y.pt y.S) :: (y.dI, dictOf [] 0) :: (y.S, listOf (y.sc.map fun p => Value.str (sg p.1) p.2).toArray y.ep) :: (I, oI) :: (aNd, o2) :: (aSe, o1) :: (lIt, listOf ((itA stk).toArray.push (.ref B)) (e2 + 1)) :: (lSt, listOf ((stA stk).toArray.push (.str (sg c) u)) (e1 + 1)) :: (self, instObj 158 sd) :: (sd, sdo) :: (D, oD) :: (stLed stk ++ (gLed pre ++ (gLed post ++ (L, { oL with slots := sl }) :: frs')))))
    (hdi : Dist ((B, nxO J) :: (J, itO y.S 0) :: (y.I, infO y.dI (sg y.c) y.nt y.np y.pt y.S) :: (y.dI, dictOf [] 0) :: (y.S, listOf (y.sc.map fun p => Value.str (sg p.1) p.2).toArray y.ep) :: (I, oI) :: (aNd, o2) :: (aSe, o1) :: (lIt, listOf ((itA stk).toArray.push (.ref B)) (e2 + 1)) :: (lSt, listOf ((stA stk).toArray.push (.str (sg c) u)) (e1 + 1)) :: (self, instObj 158 sd) :: (sd, sdo) :: (D, oD) :: (stLed stk ++ (gLed pre ++ (gLed post ++ (L, { oL with slots := sl }) :: frs')))))
    (su : TI.SameUp frs frs') (hnd : Obj.IsDictOf (PySem.strKind PySem.Challenge.rw_mr0322_01.row.prog w) o2 (PySem.stored (ndA stk) (sg c) (.int (stA stk).toArray.size t)))
    (hse : Obj.SetObjOf (PySem.strKind PySem.Challenge.rw_mr0322_01.row.prog w) o1 (fun k' => seenF seen k' || decide (k' = sg c)) (if seenF seen (sg c) = true then seen.length else seen.length + 1)) (hcs : c ∉ seen)
    (m1 : m (Str.ofString "n2i") = some (.ref D)) (m2 : m (Str.ofString "stack") = some (.ref lSt)) (m3 : m (Str.ofString "itstack") = some (.ref lIt)) (m4 : m (Str.ofString "seen") = some (.ref aSe)) (m5 : m (Str.ofString "node2stacki") = some (.ref aNd)) (hin : ∀ e ∈ stk, e.x ∈ ns ∧ e.x.c ∈ seen) :
    WC w g' L' I oI aNd aSe lIt lSt self sd D sdo oD oL L ns frs (c :: seen) (⟨y, J, B, 0, u, t⟩ :: stk) m h := by
  have pm : ((B, nxO J) :: (J, itO y.S 0) :: (y.led ++ ([(I, oI), (aNd, o2), (aSe, o1), (lIt, listOf ((itA stk).toArray.push (.ref B)) (e2 + 1)), (lSt, listOf ((stA stk).toArray.push (.str (sg c) u)) (e1 + 1)), (self, instObj 158 sd), (sd, sdo), (D, oD)] ++ (stLed stk ++ (gLed pre ++ (gLed post ++ (L, { oL with slots := sl }) :: frs')))))).Perm _ :=
    (List.Perm.swap (J, itO y.S 0) (B, nxO J) _).trans (back_perm (J, itO y.S 0) (B, nxO J) y.led _ (stLed stk) (gLed pre) (gLed post ++ (L, { oL with slots := sl }) :: frs'))
  have eg : gLed ns ++ (L, ({ oL with slots := sl } : Obj)) :: frs' = gLed pre ++ (y.led ++ (gLed post ++ (L, { oL with slots := sl }) :: frs')) := by
    rw [hns, gLed_split, List.append_assoc, List.append_assoc]
  have e3 : (itA stk).toArray.push (Value.ref B) = (itA (⟨y, J, B, 0, u, t⟩ :: stk)).toArray := by simp [itA]
  have e4 : (stA stk).toArray.push (Value.str (sg c) u) = (stA (⟨y, J, B, 0, u, t⟩ :: stk)).toArray := by subst hyc; simp [stA]
  have e5 : PySem.stored (ndA stk) (sg c) (.int (stA stk).toArray.size t) = ndA (⟨y, J, B, 0, u, t⟩ :: stk) := by
    subst hyc
    rw [stored_new fun p hp q => ?_]
    · simp [ndA, stA_len]
    · obtain ⟨e, he, q2⟩ := ndA_mem hp
      rw [q2] at q
      exact hcs (sg_inj q ▸ (hin e he).2)
  refine ⟨o2, o1, e1 + 1, e2 + 1, frs', sl, F, ?_, ?_, su, e5 ▸ hnd, ?_, m1, m2, m3, m4, m5, ?_⟩
  · rw [eg, ← e3, ← e4]
    exact Mine.News.perm N pm
  · rw [eg, ← e3, ← e4]
    exact hdi.perm pm
  · rw [seenF_cons, seenF_no hcs] at hse
    exact hse
  · intro e he
    rcases List.mem_cons.mp he with rfl | he
    · exact ⟨by rw [hns]; exact List.mem_append_right _ List.mem_cons_self, by show y.c ∈ c :: seen; rw [hyc]; exact List.mem_cons_self⟩
    · exact ⟨(hin e he).1, List.mem_cons_of_mem _ (hin e he).2⟩
theorem wc_adv {e : Ent} {r : List Ent} {ndO seO : Obj} {m' : Str → Option Value} {h' : Heap} (hns : ns = pre ++ e.x :: post) (F : Fr g' L' h' m')
    (N : News g' L' h' ((e.J, itO e.x.S (e.p + 1)) :: (e.B, nxO e.J) :: (e.x.I, infO e.x.dI (sg e.x.c) e.x.nt e.x.np e.x.pt e.x.S) :: (e.x.dI, dictOf [] 0) :: (e.x.S, listOf (e.x.sc.map fun p => Value.str (sg p.1) p.2).toArray e.x.ep) :: (I, oI) :: (aNd, ndO) :: (aSe, seO) :: (lIt, listOf (itA r ++ [Value.ref e.B]).toArray e2) :: (lSt, listOf (stA r ++ [Value.str (sg e.x.c) e.t]).toArray e1) :: (self, instObj 158 sd) :: (sd, sdo) :: (D, oD) :: (stLed r ++ (gLed pre ++ (gLed post ++ (L, { oL with slots := sl }) :: frs')))))
    (hdi : Dist ((e.J, itO e.x.S (e.p + 1)) :: (e.B, nxO e.J) :: (e.x.I, infO e.x.dI (sg e.x.c) e.x.nt e.x.np e.x.pt e.x.S) :: (e.x.dI, dictOf [] 0) :: (e.x.S, listOf (e.x.sc.map fun p => Value.str (sg p.1) p.2).toArray e.x.ep) :: (I, oI) :: (aNd, ndO) :: (aSe, seO) :: (lIt, listOf (itA r ++ [Value.ref e.B]).toArray e2) :: (lSt, listOf (stA r ++ [Value.str (sg e.x.c) e.t]).toArray e1) :: (self, instObj 158 sd) :: (sd, sdo) :: (D, oD) :: (stLed r ++ (gLed pre ++ (gLed post ++ (L, { oL with slots := sl }) :: frs')))))
    (su : TI.SameUp frs frs') (hnd : Obj.IsDictOf (PySem.strKind PySem.Challenge.rw_mr0322_01.row.prog w) ndO (ndA r ++ [(sg e.x.c, .int r.length e.ti)]))
    (hse : Obj.SetObjOf (PySem.strKind PySem.Challenge.rw_mr0322_01.row.prog w) seO (seenF seen) seen.length)
    (m1 : m' (Str.ofString "n2i") = some (.ref D)) (m2 : m' (Str.ofString "stack") = some (.ref lSt)) (m3 : m' (Str.ofString "itstack") = some (.ref lIt)) (m4 : m' (Str.ofString "seen") = some (.ref aSe)) (m5 : m' (Str.ofString "node2stacki") = some (.ref aNd)) (hin : ∀ e' ∈ e :: r, e'.x ∈ ns ∧ e'.x.c ∈ seen) :
    WC w g' L' I oI aNd aSe lIt lSt self sd D sdo oD oL L ns frs seen ({ e with p := e.p + 1 } :: r) m' h' := by
  have pm := back_perm (e.J, itO e.x.S (e.p + 1)) (e.B, nxO e.J) e.x.led [(I, oI), (aNd, ndO), (aSe, seO), (lIt, listOf (itA r ++ [Value.ref e.B]).toArray e2), (lSt, listOf (stA r ++ [Value.str (sg e.x.c) e.t]).toArray e1), (self, instObj 158 sd), (sd, sdo), (D, oD)] (stLed r) (gLed pre) (gLed post ++ (L, { oL with slots := sl }) :: frs')
  have eg : gLed ns ++ (L, ({ oL with slots := sl } : Obj)) :: frs' = gLed pre ++ (e.x.led ++ (gLed post ++ (L, { oL with slots := sl }) :: frs')) := by
    rw [hns, gLed_split, List.append_assoc, List.append_assoc]
  refine ⟨ndO, seO, e1, e2, frs', sl, F, ?_, ?_, su, hnd, hse, m1, m2, m3, m4, m5, fun e' he => ?_⟩
  · rw [eg]; exact Mine.News.perm N pm
  · rw [eg]; exact hdi.perm pm
  · rcases List.mem_cons.mp he with rfl | he
    · exact hin e List.mem_cons_self
    · exact hin e' (List.mem_cons_of_mem _ he)
theorem sameUp_cons {frs3 : Led} (su : TI.SameUp ((L, { oL with slots := sl }) :: frs') frs3) : ∃ sl2 frs2, frs3 = (L, { oL with slots := sl2 }) :: frs2 ∧ TI.SameUp frs' frs2 := by
  cases frs3 with
  | nil => exact su.elim
  | cons q qs =>
    obtain ⟨a, ⟨sl2, b⟩, k⟩ := su
    refine ⟨sl2, qs, ?_, k⟩
    obtain ⟨q1, q2⟩ := q
    dsimp only at a b
    rw [a, b]
theorem wc_pop {e : Ent} {r : List Ent} {o' o2 seO : Obj} {frs3 : Led} (hns : ns = pre ++ e.x :: post) (F : Fr g' L' h m)
    (N : News g' L' h ((e.J, o') :: (e.B, nxO e.J) :: (e.x.I, infO e.x.dI (sg e.x.c) e.x.nt e.x.np e.x.pt e.x.S) :: (e.x.dI, dictOf [] 0) :: (e.x.S, listOf (e.x.sc.map fun p => Value.str (sg p.1) p.2).toArray e.x.ep) :: (I, oI) :: (aNd, o2) :: (aSe, seO) :: (lIt, listOf (itA r).toArray (e2 + 1)) :: (lSt, listOf (stA r).toArray (e1 + 1)) :: (self, instObj 158 sd) :: (sd, sdo) :: (D, oD) :: ((stLed r ++ (gLed pre ++ gLed post)) ++ frs3)))
    (hdi : Dist ((e.J, o') :: (e.B, nxO e.J) :: (e.x.I, infO e.x.dI (sg e.x.c) e.x.nt e.x.np e.x.pt e.x.S) :: (e.x.dI, dictOf [] 0) :: (e.x.S, listOf (e.x.sc.map fun p => Value.str (sg p.1) p.2).toArray e.x.ep) :: (I, oI) :: (aNd, o2) :: (aSe, seO) :: (lIt, listOf (itA r).toArray (e2 + 1)) :: (lSt, listOf (stA r).toArray (e1 + 1)) :: (self, instObj 158 sd) :: (sd, sdo) :: (D, oD) :: ((stLed r ++ (gLed pre ++ gLed post)) ++ frs3)))
    (su : TI.SameUp frs frs') (su3 : TI.SameUp ((L, { oL with slots := sl }) :: frs') frs3) (hnd : Obj.IsDictOf (PySem.strKind PySem.Challenge.rw_mr0322_01.row.prog w) o2 (ndA r))
    (hse : Obj.SetObjOf (PySem.strKind PySem.Challenge.rw_mr0322_01.row.prog w) seO (seenF seen) seen.length)
    (m1 : m (Str.ofString "n2i") = some (.ref D)) (m2 : m (Str.ofString "stack") = some (.ref lSt)) (m3 : m (Str.ofString "itstack") = some (.ref lIt)) (m4 : m (Str.ofString "seen") = some (.ref aSe)) (m5 : m (Str.ofString "node2stacki") = some (.ref aNd)) (hin : ∀ e' ∈ e :: r, e'.x ∈ ns ∧ e'.x.c ∈ seen) :
    WC w g' L' I oI aNd aSe lIt lSt self sd D sdo oD oL L ns frs seen r m h := by
  obtain ⟨sl2, frs2, rfl, su2⟩ := sameUp_cons su3
  have pm := (pull (((I, oI) :: (aNd, o2) :: (aSe, seO) :: (lIt, listOf (itA r).toArray (e2 + 1)) :: (lSt, listOf (stA r).toArray (e1 + 1)) :: (self, instObj 158 sd) :: (sd, sdo) :: (D, oD) :: stLed r) ++ gLed pre) e.x.led (gLed post ++ (L, { oL with slots := sl2 }) :: frs2)).symm
  have eg : gLed ns ++ (L, ({ oL with slots := sl2 } : Obj)) :: frs2 = gLed pre ++ (e.x.led ++ (gLed post ++ (L, { oL with slots := sl2 }) :: frs2)) := by
    rw [hns, gLed_split, List.append_assoc, List.append_assoc]
  have N2 : News g' L' h (e.x.led ++ (I, oI) :: (aNd, o2) :: (aSe, seO) :: (lIt, listOf (itA r).toArray (e2 + 1)) :: (lSt, listOf (stA r).toArray (e1 + 1)) :: (self, instObj 158 sd) :: (sd, sdo) :: (D, oD) :: ((stLed r ++ (gLed pre ++ gLed post)) ++ (L, { oL with slots := sl2 }) :: frs2)) := News.sub N fun p hp => List.mem_cons_of_mem _ (List.mem_cons_of_mem _ hp)
  have d2 : Dist (e.x.led ++ (I, oI) :: (aNd, o2) :: (aSe, seO) :: (lIt, listOf (itA r).toArray (e2 + 1)) :: (lSt, listOf (stA r).toArray (e1 + 1)) :: (self, instObj 158 sd) :: (sd, sdo) :: (D, oD) :: ((stLed r ++ (gLed pre ++ gLed post)) ++ (L, { oL with slots := sl2 }) :: frs2)) := dist_tail (dist_tail hdi)
  simp only [List.append_assoc, List.cons_append] at pm N2 d2
  refine ⟨o2, seO, e1 + 1, e2 + 1, frs2, sl2, F, ?_, ?_, su.trans su2, hnd, hse, m1, m2, m3, m4, m5, fun e' he => hin e' (List.mem_cons_of_mem _ he)⟩
  · rw [eg]; exact Mine.News.perm N2 pm
  · rw [eg]; exact d2.perm pm
theorem inner_adv {e : Ent} {y : Nat} {t : Tok} (h : e.x.sc[e.p]? = some (y, t)) (l : List (Nat × List Nat)) : inner (e.abs :: l) = some (y, ({ e with p := e.p + 1 } : Ent).abs :: l) := by
  have h1 : (e.x.sc.map (·.1))[e.p]? = some y := by rw [List.getElem?_map, h]; rfl
  obtain ⟨hl, e1⟩ := List.getElem?_eq_some_iff.mp h1
  have e2 : e.abs = (e.x.c, y :: (e.x.sc.map (·.1)).drop (e.p + 1)) := by
    unfold Ent.abs; rw [List.drop_eq_getElem_cons hl, e1]
  rw [e2]; rfl
theorem inner_pop {e : Ent} (h : e.x.sc[e.p]? = none) (l : List (Nat × List Nat)) : inner (e.abs :: l) = inner l := by
  have h1 : (e.x.sc.map (·.1)).drop e.p = [] := by
    rw [List.drop_eq_nil_iff, List.length_map]; exact List.getElem?_eq_none_iff.mp h
  unfold Ent.abs; rw [h1]; rfl
end
section
variable {w : World} {s : Shared} {h₀ : Heap} {outer : List Env} {L : Addr} {m : Str → Option Value} {env : Env} {rest frs : Led}
  {R : Result → Shared → Prop} {mean : ExcName → Option Value} {mg mb : Str → Option Value} {d u : Nat} {g : Option (List Code)} {tkS : Tok} {self sd D : Nat} {t1 t2 t3 t4 : Tok} {v2 v3 v4 : Value} {oD : Obj} {ns : List Nd}
theorem find_c
  (F : Fr h₀ L s.heap m) (X₀ : (hd.heap_39 w.params).In h₀) (T : Tp mean mg mb h₀)
  (hf : env.frame = some L) (hke : env.scope.kind = .function) (hroom : d + 100 < 1000) (Fs : TI.Frs outer frs)
  (N : News h₀ L s.heap ((self, instObj 158 sd) :: (sd, sdO w t1 t2 t3 t4 (.ref D) v2 v3 v4) :: (D, oD) :: (gLed ns ++ (frs ++ rest))))
  (hdi : Dist ((self, instObj 158 sd) :: (sd, sdO w t1 t2 t3 t4 (.ref D) v2 v3 v4) :: (D, oD) :: (gLed ns ++ (frs ++ rest))))
  (hD : Dk w oD (gKv ns)) (lo : (D == sysModules) = false) {ring : Bool} (hrg : forA (ns.map Nd.abs) (ns.map Nd.c) [] = some ring)
  (kN : ring = false → ∀ h' tk' frs', TI.SameUp frs frs' → Fr h₀ L h' m → News h₀ L h' ((self, instObj 158 sd) :: (sd, sdO w t1 t2 t3 t4 (.ref D) v2 v3 v4) :: (D, oD) :: (gLed ns ++ (frs' ++ rest))) →
    Dist ((self, instObj 158 sd) :: (sd, sdO w t1 t2 t3 t4 (.ref D) v2 v3 v4) :: (D, oD) :: (gLed ns ++ (frs' ++ rest))) → R (.ok (.ret .none)) { s with heap := h', toks := tk' })
  (kR : ring = true → ∀ h' tk' frs' (C : Nat) x y z, TI.SameUp frs frs' → Fr h₀ L h' m → News h₀ L h' ((C, listOf #[x, y, z] 0) :: (self, instObj 158 sd) :: (sd, sdO w t1 t2 t3 t4 (.ref D) v2 v3 v4) :: (D, oD) :: (gLed ns ++ (frs' ++ rest))) →
    Dist ((C, listOf #[x, y, z] 0) :: (self, instObj 158 sd) :: (sd, sdO w t1 t2 t3 t4 (.ref D) v2 v3 v4) :: (D, oD) :: (gLed ns ++ (frs' ++ rest))) → R (.ok (.ret (.ref C))) { s with heap := h', toks := tk' }) :
  codeAny (model PySem.Challenge.rw_mr0322_01.row.prog w) (Ar d env outer g u) (.call (.ref 148) ⟨[.ref self], []⟩) R s := by
  replace hD : Obj.IsDictOf (PySem.strKind PySem.Challenge.rw_mr0322_01.row.prog w) oD (gKv ns) := hD
  k_dflt (refine' callT (fp := (self, instObj 158 sd) :: (sd, sdO w t1 t2 t3 t4 (.ref D) v2 v3 v4) :: (D, oD) :: gLed ns) (frs := frs) (rest := rest) (outer := outer) (env := env) (binds := [(Str.ofString "self", .ref self)]) F X₀ (by exact N) (by exact hdi) T Fs hf hke ?k6 ?k7 ?k8 ?k9 ?kB ?_ ?c2 ?c3 ?c4 ?c5)
  walk_at "enter"
  intro g' L' h' oL st F' N' d' Fs' X' T'
  try dsimp only
  k_fold
  simp only [List.cons_append] at N' d'
  generalize htl : gLed ns ++ (L, oL) :: frs = tl at N' d'
  have d1 := dist_head d'
  have d2 := dist_head (dist_tail d')
  have d3 := dist_head (dist_tail (dist_tail d'))
  (have na9 := na_of d1 (by walk_at "spl")); (repeat (have hx9 := na_head na9; replace na9 := na_tail na9)); clear na9; replace d1 := na_tl d1 (by walk_at "spl")
  (have na9 := na_of d2 (by walk_at "spl")); (repeat (have hx9 := na_head na9; replace na9 := na_tail na9)); clear na9; replace d2 := na_tl d2 (by walk_at "spl")
  k_steps
  rename_i lSt h7 a1 a2 a3 a4 h6 tkx lIt h5 b1 b2 b3 b4 b5 h4 aSe h3 led6 hs1 hz1 c1 c2 c3 c4 c5 c6 h2 aNd h1 oNd lo7 hs7 fs7 hi7 fi7 e1 e2 e3 e4 e5 e6 e7 h0 F8 N8
  refine forD (kvs := gKv ns) (fun i m led _ => FI w aNd aSe lIt lSt self sd D (sdO w t1 t2 t3 t4 (.ref D) v2 v3 v4) oD oL L ns frs ring i m led) rfl (by k_asm) (by k_asm) hD lo ?kp ?g0 ?ev ?turn ?fin
  case turn =>
    rintro i k v t I oI m led h gg tk tk' E' hkv ⟨ndO, seO, e1, e2, frs', sl, seen, rfl, hdi', su, hnd, hse, m1, m2, m3, m4, m5, hsl, hfA⟩ hle F N off hn
    have d1 := dist_head hdi'
    have d2 := dist_head (dist_tail hdi')
    have d3 := dist_head (dist_tail (dist_tail hdi'))
    have d4 := dist_head (dist_tail (dist_tail (dist_tail hdi')))
    have d5 := dist_head (dist_tail (dist_tail (dist_tail (dist_tail hdi'))))
    have d6 := dist_head (dist_tail (dist_tail (dist_tail (dist_tail (dist_tail hdi')))))
    have d7 := dist_head (dist_tail (dist_tail (dist_tail (dist_tail (dist_tail (dist_tail hdi'))))))
    (have na9 := na_of off (by walk_at "spl")); (repeat (have hx9 := na_head na9; replace na9 := na_tail na9)); clear na9; replace off := na_tl off (by walk_at "spl")
    (have na9 := na_of d1 (by walk_at "spl")); (repeat (have hx9 := na_head na9; replace na9 := na_tail na9)); clear na9; replace d1 := na_tl d1 (by walk_at "spl")
    (have na9 := na_of d2 (by walk_at "spl")); (repeat (have hx9 := na_head na9; replace na9 := na_tail na9)); clear na9; replace d2 := na_tl d2 (by walk_at "spl")
    (have na9 := na_of d3 (by walk_at "spl")); (repeat (have hx9 := na_head na9; replace na9 := na_tail na9)); clear na9; replace d3 := na_tl d3 (by walk_at "spl")
    (have na9 := na_of d4 (by walk_at "spl")); (repeat (have hx9 := na_head na9; replace na9 := na_tail na9)); clear na9; replace d4 := na_tl d4 (by walk_at "spl")
    (have na9 := na_of d5 (by walk_at "spl")); (repeat (have hx9 := na_head na9; replace na9 := na_tail na9)); clear na9; replace d5 := na_tl d5 (by walk_at "spl")
    (have na9 := na_of d6 (by walk_at "spl")); (repeat (have hx9 := na_head na9; replace na9 := na_tail na9)); clear na9; replace d6 := na_tl d6 (by walk_at "spl")
    generalize htl : gLed ns ++ (L, ({ oL with slots := sl } : Obj)) :: frs' = tl at *
    cases hsn : seenF seen k with
    | true =>
      obtain ⟨x, hx, rfl⟩ : ∃ x, ns[i]? = some x ∧ k = sg x.c := by
        unfold gKv at hkv
        rw [List.getElem?_map] at hkv
        cases e : ns[i]? with
        | none => rw [e] at hkv; cases hkv
        | some x => rw [e] at hkv; cases hkv; exact ⟨x, rfl, rfl⟩
      have hrd : (ns.map Nd.c).drop i = x.c :: (ns.map Nd.c).drop (i + 1) := by
        have hi : i < (ns.map Nd.c).length := by rw [List.length_map]; exact (List.getElem?_eq_some_iff.mp hx).1
        rw [List.drop_eq_getElem_cons hi, List.getElem_map]
        obtain ⟨_, e⟩ := List.getElem?_eq_some_iff.mp hx
        rw [e]
      have hys : x.c ∈ seen := Classical.byContradiction fun q => by rw [seenF_no q] at hsn; cases hsn
      rw [hrd] at hfA
      unfold forA at hfA
      rw [if_pos hys] at hfA
      k_steps
      rename_i h9 F9 N9 tk9
      subst htl
      exact ⟨_, _, _, _, rfl, F9, N9, by walk_at "allne", ndO, seO, e1, e2, frs', sl, seen, rfl, hdi', su, hnd, hse, by walk_at "look", by walk_at "look", by walk_at "look", by walk_at "look", by walk_at "look", hsl, hfA⟩
    | false =>
      obtain ⟨x, hx, rfl⟩ : ∃ x, ns[i]? = some x ∧ k = sg x.c := by
        unfold gKv at hkv
        rw [List.getElem?_map] at hkv
        cases e : ns[i]? with
        | none => rw [e] at hkv; cases hkv
        | some x => rw [e] at hkv; cases hkv; exact ⟨x, rfl, rfl⟩
      have hrd : (ns.map Nd.c).drop i = x.c :: (ns.map Nd.c).drop (i + 1) := by
        have hi : i < (ns.map Nd.c).length := by rw [List.length_map]; exact (List.getElem?_eq_some_iff.mp hx).1
        rw [List.drop_eq_getElem_cons hi, List.getElem_map]
        obtain ⟨_, e⟩ := List.getElem?_eq_some_iff.mp hx
        rw [e]
      have hns : x.c ∉ seen := fun q => by
        have : seenF seen (sg x.c) = true := decide_eq_true (List.mem_map.mpr ⟨_, q, rfl⟩)
        rw [hsn] at this; cases this
      rw [hrd] at hfA
      unfold forA at hfA
      rw [if_neg hns] at hfA
      cases hdf : dfs (ns.map Nd.abs) 30 x.c seen [] with
      | none => rw [hdf] at hfA; cases hfA
      | some res =>
      rw [hdf] at hfA
      k_steps
      refine whileH (fun k' s' => WI s (fun seen stk m h => WC w g' L' I oI aNd aSe lIt lSt self sd D (sdO w t1 t2 t3 t4 (.ref D) v2 v3 v4) oD oL L ns frs seen stk m h) (ns.map Nd.abs) res k' s') ?wt 30 ?w0
      case wt =>
        clear hse hnd F N hdi' d1 d2 d3 d4 d5 d6 d7 m1 m2 m3 m4 m5 hsn hns
        rintro k' s' ⟨c, u, seen, stk, m, h, tk, rfl, C, mn, hd⟩
        obtain ⟨k', rfl⟩ : ∃ j, k' = j + 1 := by
          cases k' with
          | zero => cases hd
          | succ j => exact ⟨j, rfl⟩
        unfold dfs at hd
        by_cases hb : seen.length > 50 ∨ (stk.map Ent.abs).length > 50
        · rw [if_pos hb] at hd; cases hd
        rw [if_neg hb] at hd
        have hb1 : seen.length ≤ 50 := by omega
        have hb2 : stk.length ≤ 50 := by rw [List.length_map] at hb; omega
        iterate 4 walk1
        by_cases hcs : c ∈ seen
        · rw [if_pos hcs] at hd
          obtain ⟨f1, f0, rfl⟩ : ∃ f1 f0, stk = [f1, f0] := by
            match stk with
            | [] => cases hd
            | [_] => cases hd
            | [a, b] => exact ⟨a, b, rfl⟩
            | _ :: _ :: _ :: _ => cases hd
          replace hd : (if f0.x.c = c then some (true, seen) else none) = some res := hd
          by_cases hfc : f0.x.c = c
          · rw [if_pos hfc] at hd
            cases hd
            obtain ⟨ndO, seO, e1, e2, frs', sl, F, N, hdi', su, hnd, hse, m1, m2, m3, m4, m5, hin⟩ := C
            have hsf := seenF_yes hcs
            have hfc' : (f0.x.c == c) = true := by rw [hfc]; exact beq_self_eq_true c
            have hva : PySem.valueAt (ndA [f1, f0]) (sg c) = some (.int 0 f0.ti) := by
              simp [PySem.valueAt, ndA, hfc]
            have hvs : (PySem.valueAt (ndA [f1, f0]) (sg c)).isSome = true := by rw [hva]; rfl
            generalize htl : stLed [f1, f0] ++ (gLed ns ++ (L, ({ oL with slots := sl } : Obj)) :: frs') = tl at *
            simp only [itA, stA, List.nil_append, List.cons_append] at N hdi'
            have d1 := dist_head hdi'
            have d2 := dist_head (dist_tail hdi')
            have d3 := dist_head (dist_tail (dist_tail hdi'))
            have d4 := dist_head (dist_tail (dist_tail (dist_tail hdi')))
            have d5 := dist_head (dist_tail (dist_tail (dist_tail (dist_tail hdi'))))
            have d6 := dist_head (dist_tail (dist_tail (dist_tail (dist_tail (dist_tail hdi')))))
            have d7 := dist_head (dist_tail (dist_tail (dist_tail (dist_tail (dist_tail (dist_tail hdi'))))))
            have d8 := dist_head (dist_tail (dist_tail (dist_tail (dist_tail (dist_tail (dist_tail (dist_tail hdi')))))))
            have dT := dist_tail (dist_tail (dist_tail (dist_tail (dist_tail (dist_tail (dist_tail (dist_tail hdi')))))))
            (have na9 := na_of d1 (by walk_at "spl")); (repeat (have hx9 := na_head na9; replace na9 := na_tail na9)); clear na9; replace d1 := na_tl d1 (by walk_at "spl")
            (have na9 := na_of d2 (by walk_at "spl")); (repeat (have hx9 := na_head na9; replace na9 := na_tail na9)); clear na9; replace d2 := na_tl d2 (by walk_at "spl")
            (have na9 := na_of d3 (by walk_at "spl")); (repeat (have hx9 := na_head na9; replace na9 := na_tail na9)); clear na9; replace d3 := na_tl d3 (by walk_at "spl")
            (have na9 := na_of d4 (by walk_at "spl")); (repeat (have hx9 := na_head na9; replace na9 := na_tail na9)); clear na9; replace d4 := na_tl d4 (by walk_at "spl")
            (have na9 := na_of d5 (by walk_at "spl")); (repeat (have hx9 := na_head na9; replace na9 := na_tail na9)); clear na9; replace d5 := na_tl d5 (by walk_at "spl")
            (have na9 := na_of d6 (by walk_at "spl")); (repeat (have hx9 := na_head na9; replace na9 := na_tail na9)); clear na9; replace d6 := na_tl d6 (by walk_at "spl")
            (have na9 := na_of d7 (by walk_at "spl")); (repeat (have hx9 := na_head na9; replace na9 := na_tail na9)); clear na9; replace d7 := na_tl d7 (by walk_at "spl")
            k_steps
            rename_i D9 h9 F9 N9 z1 z2 z3 z4 z5 z6 z7 z8 z9 z10 lD
            subst htl
            cases hfA
            have sb : ∀ p ∈ gLed ns ++ (L, ({ oL with slots := sl } : Obj)) :: frs', p ∈ stLed [f1, f0] ++ (gLed ns ++ (L, ({ oL with slots := sl } : Obj)) :: frs') := fun p hp => List.mem_append_right _ hp
            refine ⟨L', m, (D9, listOf #[Value.str (sg f0.x.c) f0.t, Value.str (sg f1.x.c) f1.t, Value.str (sg c) u] 0) :: (self, instObj 158 sd) :: (sd, sdO w t1 t2 t3 t4 (.ref D) v2 v3 v4) :: (D, oD) :: gLed ns, frs', sl, F9, News.sub N9 ?_, ?_, su, fun kF kN kD => kR rfl _ _ _ _ _ _ _ su kF kN kD⟩
            · exact subCons (by k_mem) (subCons (by k_mem) (subCons (by k_mem) (subCons (by k_mem) fun p hp => by
                iterate 11 refine List.mem_cons_of_mem _ ?_
                exact sb p hp)))
            · exact dist_cons (fa_cons (by k_ne) (fa_cons (by k_ne) (fa_cons (by k_ne) fun p hp => Nat.ne_of_lt (lD p (sb p hp))))) (dist_cons (fa_cons (by k_ne) (fa_cons (by k_ne) fun p hp => d6 p (sb p hp))) (dist_cons (fa_cons (by k_ne) fun p hp => d7 p (sb p hp)) (dist_cons (fun p hp => d8 p (sb p hp)) (dist_right dT))))
          · rw [if_neg hfc] at hd; cases hd
        rw [if_neg hcs] at hd
        split at hd
        · cases hd
        next xa hfd =>
        refine execs_mid (fun s' => MI s (fun stk m h => WC w g' L' I oI aNd aSe lIt lSt self sd D (sdO w t1 t2 t3 t4 (.ref D) v2 v3 v4) oD oL L ns frs (c :: seen) stk m h) (ns.map Nd.abs) res k' (c :: seen) s') ?h1 ?h2
        case h1 =>
          obtain ⟨ndO, seO, e1, e2, frs', sl, F, N, hdi', su, hnd, hse, m1, m2, m3, m4, m5, hin⟩ := C
          have hz1 : (itA stk).toArray.size ≤ sizeLine := by rw [List.size_toArray, itA_len]; exact Nat.le_trans hb2 (by decide)
          have hz2 : (stA stk).toArray.size ≤ sizeLine := by rw [List.size_toArray, stA_len]; exact Nat.le_trans hb2 (by decide)
          have hz3 : (ndA stk).length ≤ sizeLine := by rw [ndA_len]; exact Nat.le_trans hb2 (by decide)
          have hsf := seenF_no hcs
          obtain ⟨pre, y, post, hns, hyc, hya, hva⟩ := val_at hfd
          have pm := pull (((I, oI) :: (aNd, ndO) :: (aSe, seO) :: (lIt, listOf (itA stk).toArray e2) :: (lSt, listOf (stA stk).toArray e1) :: (self, instObj 158 sd) :: (sd, (sdO w t1 t2 t3 t4 (.ref D) v2 v3 v4)) :: (D, oD) :: stLed stk) ++ gLed pre) y.led (gLed post ++ (L, { oL with slots := sl }) :: frs')
          rw [hns, gLed_split] at N hdi'
          simp only [List.append_assoc, List.cons_append] at pm N hdi'
          replace N := Mine.News.perm N pm
          replace hdi' := hdi'.perm pm
          generalize htl : stLed stk ++ (gLed pre ++ (gLed post ++ (L, ({ oL with slots := sl } : Obj)) :: frs')) = tl at *
          simp only [Nd.led, List.cons_append, List.nil_append] at N hdi'
          have d1 := dist_head hdi'
          have d2 := dist_head (dist_tail hdi')
          have d3 := dist_head (dist_tail (dist_tail hdi'))
          have d4 := dist_head (dist_tail (dist_tail (dist_tail hdi')))
          have d5 := dist_head (dist_tail (dist_tail (dist_tail (dist_tail hdi'))))
          have d6 := dist_head (dist_tail (dist_tail (dist_tail (dist_tail (dist_tail hdi')))))
          have d7 := dist_head (dist_tail (dist_tail (dist_tail (dist_tail (dist_tail (dist_tail hdi'))))))
          have d8 := dist_head (dist_tail (dist_tail (dist_tail (dist_tail (dist_tail (dist_tail (dist_tail hdi')))))))
          have d9 := dist_head (dist_tail (dist_tail (dist_tail (dist_tail (dist_tail (dist_tail (dist_tail (dist_tail hdi'))))))))
          have d10 := dist_head (dist_tail (dist_tail (dist_tail (dist_tail (dist_tail (dist_tail (dist_tail (dist_tail (dist_tail hdi')))))))))
          have d11 := dist_head (dist_tail (dist_tail (dist_tail (dist_tail (dist_tail (dist_tail (dist_tail (dist_tail (dist_tail (dist_tail hdi'))))))))))
          have dT := dist_tail (dist_tail (dist_tail (dist_tail (dist_tail (dist_tail (dist_tail (dist_tail (dist_tail (dist_tail (dist_tail hdi'))))))))))
          (have na9 := na_of d1 (by walk_at "spl")); (repeat (have hx9 := na_head na9; replace na9 := na_tail na9)); clear na9; replace d1 := na_tl d1 (by walk_at "spl")
          (have na9 := na_of d2 (by walk_at "spl")); (repeat (have hx9 := na_head na9; replace na9 := na_tail na9)); clear na9; replace d2 := na_tl d2 (by walk_at "spl")
          (have na9 := na_of d3 (by walk_at "spl")); (repeat (have hx9 := na_head na9; replace na9 := na_tail na9)); clear na9; replace d3 := na_tl d3 (by walk_at "spl")
          (have na9 := na_of d4 (by walk_at "spl")); (repeat (have hx9 := na_head na9; replace na9 := na_tail na9)); clear na9; replace d4 := na_tl d4 (by walk_at "spl")
          (have na9 := na_of d5 (by walk_at "spl")); (repeat (have hx9 := na_head na9; replace na9 := na_tail na9)); clear na9; replace d5 := na_tl d5 (by walk_at "spl")
          (have na9 := na_of d6 (by walk_at "spl")); (repeat (have hx9 := na_head na9; replace na9 := na_tail na9)); clear na9; replace d6 := na_tl d6 (by walk_at "spl")
          (have na9 := na_of d7 (by walk_at "spl")); (repeat (have hx9 := na_head na9; replace na9 := na_tail na9)); clear na9; replace d7 := na_tl d7 (by walk_at "spl")
          (have na9 := na_of d8 (by walk_at "spl")); (repeat (have hx9 := na_head na9; replace na9 := na_tail na9)); clear na9; replace d8 := na_tl d8 (by walk_at "spl")
          (have na9 := na_of d9 (by walk_at "spl")); (repeat (have hx9 := na_head na9; replace na9 := na_tail na9)); clear na9; replace d9 := na_tl d9 (by walk_at "spl")
          (have na9 := na_of d10 (by walk_at "spl")); (repeat (have hx9 := na_head na9; replace na9 := na_tail na9)); clear na9; replace d10 := na_tl d10 (by walk_at "spl")
          k_steps
          rename_i tkA hA o1 hs1 tkB J hB x1 x2 x3 x4 x5 x6 x7 x8 x9 x10 x11 lJ B hC y1 y2 y3 y4 y5 y6 y7 y8 y9 y10 y11 y12 lB hD tkC hE o2 hd2 tkD hF F9 N9
          subst htl
          refine ⟨rfl, ⟨y, J, B, 0, u, tkC + 1⟩ :: stk, m, hF, _, rfl, wc_push hns hyc F9 N9 ?_ su hd2 hs1 hcs m1 m2 m3 m4 m5 hin, Nat.succ_le_succ hb2, ?_⟩
          · (repeat (refine dist_cons (by walk_at "allne") ?_))
            exact dT
          · show (match inner ((y.c, (y.sc.map (·.1)).drop 0) :: stk.map Ent.abs) with | none => some (false, c :: seen) | some (y, stk') => dfs (ns.map Nd.abs) k' y (c :: seen) stk') = some res
            rw [List.drop_zero, show (y.c, y.sc.map (·.1)) = (c, xa.2) from by rw [← hya, hyc]; rfl]
            exact hd
        case h2 =>
          rintro s₂ ⟨stk1, m1, h1, tk1, rfl, C1, hl1, hr1⟩
          clear C hd
          refine wpAny_execs_cons (wpAny_While (whileH (fun n s' => NI s (fun stk m h => WC w g' L' I oI aNd aSe lIt lSt self sd D (sdO w t1 t2 t3 t4 (.ref D) v2 v3 v4) oD oL L ns frs (c :: seen) stk m h) (ns.map Nd.abs) res k' (c :: seen) n s') ?it _ ⟨stk1, m1, h1, tk1, rfl, rfl, C1, hl1, hr1⟩))
          clear C1 hl1 hr1
          rintro n s₃ ⟨stk, m, h, tk, rfl, rfl, ⟨ndO, seO, e1, e2, frs', sl, F, N, hdi', su, hnd, hse, m1, m2, m3, m4, m5, hin⟩, hl, hr⟩
          have hz1 : (itA stk).toArray.size ≤ sizeLine := by rw [List.size_toArray, itA_len]; exact Nat.le_trans hl (by decide)
          have hz2 : (stA stk).toArray.size ≤ sizeLine := by rw [List.size_toArray, stA_len]; exact Nat.le_trans hl (by decide)
          have hz3 : (ndA stk).length ≤ sizeLine := by rw [ndA_len]; exact Nat.le_trans hl (by decide)
          cases stk with
          | nil =>
            cases hr
            k_steps
            refine ⟨_, _, m, _, rfl, F, N, dist_head hdi', ndO, seO, e1, e2, frs', sl, c :: seen, rfl, dist_tail hdi', su, hnd, hse, m1, m2, m3, m4, m5, Nat.succ_le_succ hb1, hfA⟩
          | cons e r =>
            obtain ⟨pre, post, hns⟩ := List.append_of_mem (hin e List.mem_cons_self).1
            have pm := (back_perm (e.J, itO e.x.S e.p) (e.B, nxO e.J) e.x.led [(I, oI), (aNd, ndO), (aSe, seO), (lIt, listOf (itA (e :: r)).toArray e2), (lSt, listOf (stA (e :: r)).toArray e1), (self, instObj 158 sd), (sd, (sdO w t1 t2 t3 t4 (.ref D) v2 v3 v4)), (D, oD)] (stLed r) (gLed pre) (gLed post ++ (L, { oL with slots := sl }) :: frs')).symm
            have eg : gLed ns ++ (L, ({ oL with slots := sl } : Obj)) :: frs' = gLed pre ++ (e.x.led ++ (gLed post ++ (L, { oL with slots := sl }) :: frs')) := by
              rw [hns, gLed_split, List.append_assoc, List.append_assoc]
            rw [eg] at N hdi'
            replace N := Mine.News.perm N pm
            replace hdi' := hdi'.perm pm
            simp only [itA, stA, ndA, Nd.led, List.cons_append, List.nil_append] at N hdi' hz1 hz2 hz3 hnd
            have eT : stLed r ++ (gLed pre ++ (gLed post ++ (L, ({ oL with slots := sl } : Obj)) :: frs')) = (stLed r ++ (gLed pre ++ gLed post)) ++ (L, { oL with slots := sl }) :: frs' := by simp only [List.append_assoc]
            generalize htl : stLed r ++ (gLed pre ++ (gLed post ++ (L, ({ oL with slots := sl } : Obj)) :: frs')) = tl at *
            have d1 := dist_head hdi'
            (have na9 := na_of d1 (by walk_at "spl")); (repeat (have hx9 := na_head na9; replace na9 := na_tail na9)); clear na9; replace d1 := na_tl d1 (by walk_at "spl")
            cases hsc : e.x.sc[e.p]? with
            | some yt =>
              obtain ⟨y, t⟩ := yt
              have hxi : (e.x.sc.map fun p => Value.str (sg p.1) p.2).toArray[e.p]? = some (.str (sg y) t) := by simp [hsc]
              iterate 22 walk1
              rename_i hA FA NA hB FB NB
              rw [List.map_cons, inner_adv hsc] at hr
              subst htl
              exact .mk ⟨k', Nat.lt_succ_self _, y, t, c :: seen, { e with p := e.p + 1 } :: r, _, _, _, rfl, wc_adv hns FB NB hdi' su hnd hse (by walk_at "look") (by walk_at "look") (by walk_at "look") (by walk_at "look") (by walk_at "look") hin, by walk_at "look", hr⟩
            | none =>
              have hxi : (e.x.sc.map fun p => Value.str (sg p.1) p.2).toArray[e.p]? = none := by simp [hsc]
              iterate 17 walk1
              refine nx_stop rfl (by k_asm) (by k_asm) (by k_updF) (by k_mem) (by k_mem) hxi ?_
              intro h1 h2 o' ex F1 N1 hx1
              try dsimp only at N1
              have FsN : TI.Frs (env :: outer) ((L, { oL with slots := sl }) :: frs') := Fs'.up ⟨rfl, ⟨sl, rfl⟩, su⟩
              rw [eT] at N1 hdi'
              refine TLg.noted_newA (new := (e.J, o') :: (e.B, nxO e.J) :: (e.x.I, infO e.x.dI (sg e.x.c) e.x.nt e.x.np e.x.pt e.x.S) :: (e.x.dI, dictOf [] 0) :: (e.x.S, listOf (e.x.sc.map fun p => Value.str (sg p.1) p.2).toArray e.x.ep) :: (I, oI) :: (aNd, ndO) :: (aSe, seO) :: (lIt, listOf (itA r ++ [Value.ref e.B]).toArray e2) :: (lSt, listOf (stA r ++ [Value.str (sg e.x.c) e.t]).toArray e1) :: (self, instObj 158 sd) :: (sd, (sdO w t1 t2 t3 t4 (.ref D) v2 v3 v4)) :: (D, oD) :: (stLed r ++ (gLed pre ++ gLed post))) rfl FsN hx1 F1 N1 (fun p hp hq => ?_) (fun h3 frs3 su3 Fs3 H3 => ?_)
              · rcases List.mem_cons.mp hq with q | q
                · exact (N1 p (List.mem_append_left _ hp)).2.1 q
                · obtain ⟨p2, hp2, e2⟩ := List.mem_map.mp q
                  exact dist_ap (b := (L, ({ oL with slots := sl } : Obj)) :: frs') hdi' p hp p2 hp2 e2.symm
              · simp only [List.cons_append] at H3
                have hdi3 := dist_same (a := (e.J, o') :: (e.B, nxO e.J) :: (e.x.I, infO e.x.dI (sg e.x.c) e.x.nt e.x.np e.x.pt e.x.S) :: (e.x.dI, dictOf [] 0) :: (e.x.S, listOf (e.x.sc.map fun p => Value.str (sg p.1) p.2).toArray e.x.ep) :: (I, oI) :: (aNd, ndO) :: (aSe, seO) :: (lIt, listOf (itA r ++ [Value.ref e.B]).toArray e2) :: (lSt, listOf (stA r ++ [Value.str (sg e.x.c) e.t]).toArray e1) :: (self, instObj 158 sd) :: (sd, (sdO w t1 t2 t3 t4 (.ref D) v2 v3 v4)) :: (D, oD) :: (stLed r ++ (gLed pre ++ gLed post))) (b := (L, { oL with slots := sl }) :: frs') hdi' (SameUp.addr su3)
                simp only [List.cons_append] at hdi3
                clear d1 N1 F1 hdi' N F
                generalize htl3 : (stLed r ++ (gLed pre ++ gLed post)) ++ frs3 = tl3 at *
                have d1 := dist_head hdi3
                have d2 := dist_head (dist_tail hdi3)
                have d3 := dist_head (dist_tail (dist_tail hdi3))
                have d4 := dist_head (dist_tail (dist_tail (dist_tail hdi3)))
                have d5 := dist_head (dist_tail (dist_tail (dist_tail (dist_tail hdi3))))
                have d6 := dist_head (dist_tail (dist_tail (dist_tail (dist_tail (dist_tail hdi3)))))
                have d7 := dist_head (dist_tail (dist_tail (dist_tail (dist_tail (dist_tail (dist_tail hdi3))))))
                have d8 := dist_head (dist_tail (dist_tail (dist_tail (dist_tail (dist_tail (dist_tail (dist_tail hdi3)))))))
                have d9 := dist_head (dist_tail (dist_tail (dist_tail (dist_tail (dist_tail (dist_tail (dist_tail (dist_tail hdi3))))))))
                have d10 := dist_head (dist_tail (dist_tail (dist_tail (dist_tail (dist_tail (dist_tail (dist_tail (dist_tail (dist_tail hdi3)))))))))
                have d11 := dist_head (dist_tail (dist_tail (dist_tail (dist_tail (dist_tail (dist_tail (dist_tail (dist_tail (dist_tail (dist_tail hdi3))))))))))
                have d12 := dist_head (dist_tail (dist_tail (dist_tail (dist_tail (dist_tail (dist_tail (dist_tail (dist_tail (dist_tail (dist_tail (dist_tail hdi3)))))))))))
                have d13 := dist_head (dist_tail (dist_tail (dist_tail (dist_tail (dist_tail (dist_tail (dist_tail (dist_tail (dist_tail (dist_tail (dist_tail (dist_tail hdi3))))))))))))
                have dT := dist_tail (dist_tail (dist_tail (dist_tail (dist_tail (dist_tail (dist_tail (dist_tail (dist_tail (dist_tail (dist_tail (dist_tail (dist_tail hdi3))))))))))))
                (have na9 := na_of d1 (by walk_at "spl")); (repeat (have hx9 := na_head na9; replace na9 := na_tail na9)); clear na9; replace d1 := na_tl d1 (by walk_at "spl")
                (have na9 := na_of d2 (by walk_at "spl")); (repeat (have hx9 := na_head na9; replace na9 := na_tail na9)); clear na9; replace d2 := na_tl d2 (by walk_at "spl")
                (have na9 := na_of d3 (by walk_at "spl")); (repeat (have hx9 := na_head na9; replace na9 := na_tail na9)); clear na9; replace d3 := na_tl d3 (by walk_at "spl")
                (have na9 := na_of d4 (by walk_at "spl")); (repeat (have hx9 := na_head na9; replace na9 := na_tail na9)); clear na9; replace d4 := na_tl d4 (by walk_at "spl")
                (have na9 := na_of d5 (by walk_at "spl")); (repeat (have hx9 := na_head na9; replace na9 := na_tail na9)); clear na9; replace d5 := na_tl d5 (by walk_at "spl")
                (have na9 := na_of d6 (by walk_at "spl")); (repeat (have hx9 := na_head na9; replace na9 := na_tail na9)); clear na9; replace d6 := na_tl d6 (by walk_at "spl")
                (have na9 := na_of d7 (by walk_at "spl")); (repeat (have hx9 := na_head na9; replace na9 := na_tail na9)); clear na9; replace d7 := na_tl d7 (by walk_at "spl")
                (have na9 := na_of d8 (by walk_at "spl")); (repeat (have hx9 := na_head na9; replace na9 := na_tail na9)); clear na9; replace d8 := na_tl d8 (by walk_at "spl")
                (have na9 := na_of d9 (by walk_at "spl")); (repeat (have hx9 := na_head na9; replace na9 := na_tail na9)); clear na9; replace d9 := na_tl d9 (by walk_at "spl")
                (have na9 := na_of d10 (by walk_at "spl")); (repeat (have hx9 := na_head na9; replace na9 := na_tail na9)); clear na9; replace d10 := na_tl d10 (by walk_at "spl")
                (have na9 := na_of d11 (by walk_at "spl")); (repeat (have hx9 := na_head na9; replace na9 := na_tail na9)); clear na9; replace d11 := na_tl d11 (by walk_at "spl")
                (have na9 := na_of d12 (by walk_at "spl")); (repeat (have hx9 := na_head na9; replace na9 := na_tail na9)); clear na9; replace d12 := na_tl d12 (by walk_at "spl")
                have hvl := val_last (ndA r) (sg e.x.c) (.int r.length e.ti)
                k_steps
                rename_i hB oA FB NB hdA hC FC NC
                rw [List.map_cons, inner_pop hsc] at hr
                obtain ⟨_, _, _, _, _, _, hnod⟩ := hnd
                rw [without_last hnod] at hdA
                subst htl3
                exact .mk ⟨r.length, Nat.lt_succ_self _, r, m, _, _, rfl, rfl, wc_pop hns FC NC hdi3 su su3 hdA hse m1 m2 m3 m4 m5 hin, Nat.le_of_succ_le hl, hr⟩
      case w0 =>
        rename_i h9 F9 N9 tk9
        subst htl
        have hdiI := dist_cons (a := I) (o := oI) (by walk_at "allne") hdi'
        exact ⟨x.c, t, seen, [], _, _, _, rfl, ⟨ndO, seO, e1, e2, frs', sl, F9, N9, hdiI, su, hnd, hse, by walk_at "look", by walk_at "look", by walk_at "look", by walk_at "look", by walk_at "look", fun e he => nomatch he⟩, by walk_at "look", hdf⟩
  case kp =>
    rintro i m led tk ⟨ndO, seO, e1, e2, frs', sl, seen, rfl, _⟩
    k_mem
  case g0 =>
    subst htl
    refine ⟨oNd, _, 0, 0, frs, oL.slots, [], rfl, ?_, TI.SameUp.refl _, hs7, ?_, rfl, rfl, rfl, rfl, rfl, Nat.zero_le _, hrg⟩
    · (repeat (refine dist_cons (by walk_at "allne") ?_))
      exact dist_tail (dist_tail (dist_tail d'))
    · have e : seenF [] = fun _ => false := funext fun _ => rfl
      rw [e]; exact hz1
  case ev =>
    k_steps
  case fin =>
    rintro m led h tk tk' ⟨ndO, seO, e1, e2, frs', sl, seen, rfl, hdi', su, hnd, hse, m1, m2, m3, m4, m5, hsl, hfA⟩ hle F N hn
    rw [List.drop_of_length_le (by unfold gKv; rw [List.length_map, List.length_map]; exact Nat.le_refl _)] at hfA
    cases hfA
    k_steps
    refine ⟨L', m, (self, instObj 158 sd) :: (sd, sdO w t1 t2 t3 t4 (.ref D) v2 v3 v4) :: (D, oD) :: gLed ns, frs', sl, by k_asm, News.sub N fun p hp => ?_, dist_tail (dist_tail (dist_tail (dist_tail hdi'))), su, fun kF kN' kD => kN rfl _ _ _ su kF kN' kD⟩
    iterate 4 refine List.mem_cons_of_mem _ ?_
    exact hp
end
theorem noneS3 : True := by
  k_with_none
  trivial
theorem meets_bool_list (l : Addr) (items : Array Value) (hz : items.size ≤ sizeLine) :
    Meets (Builtin.«bool.__new__» ⟨[.type "bool", .ref l], []⟩) (fun _ R s => s.heap.IsList l items ∧ R (.ok (.ret (.bool (!items.isEmpty)))) { s with toks := s.toks + 1 + 1 }) :=
  Meets.of_wp fun prog w A R s hs => by
    obtain ⟨hl, hs⟩ := hs
    obtain ⟨hp, g, d, tk, os⟩ := s
    have f1 := _root_.PySem.F.conv_sub_bool
    repeat (any_goals (first | assumption | (with_reducible refine wpAny_truthy_list hl (fit_line hz) ?_) | wp_step))
    all_goals first | exact ⟨_, rfl, hs⟩ | exact hs | skip
section
variable {prog : Program} {w : World} {A : Around} {E : Value → Shared → Prop} {s : Shared} {h₀ : Heap} {L : Addr} {m : Str → Option Value} {news : Led} {S ep : Nat} {its : Array Value}
theorem bool_l {Q : Value → Shared → Prop} (N : News h₀ L s.heap news) (hm : (S, listOf its ep) ∈ news) (hz : its.size ≤ sizeLine) (h : Q (.bool (!its.isEmpty)) { s with toks := s.toks + 1 + 1 }) :
    wpAny (model prog w) A (call (.type "bool") [.ref S]) Q E s :=
  call_bool_1 (meets_bool_list S its hz) (show _ ∧ wants (fun obj s₁ => s₁.TypeIs obj "bool" ∧ Q obj s₁) E _ _ from ⟨⟨_, (N _ hm).1, rfl, _, rfl⟩, rfl, h⟩)
end
theorem noneC14 : True := by
  k_with_none
  trivial
-- addresses that differ: by a fact of the context first
-- a def entered: what is left is its body
theorem rowsC14_3 : True := by
  k_with "kroom" => ((try simp only [depth_under_make, depth_under_kw, depth_in1, depth_deeper, depth_caller, recursionLimit] at *); omega)
  k_with "kne" => first | with_reducible assumption | exact Ne.symm (by with_reducible assumption) | (refine neN ?_; (try dsimp only); first | with_reducible assumption | exact Nat.ne_of_lt (by with_reducible assumption) | exact Nat.ne_of_gt (by with_reducible assumption) | exact Ne.symm (by with_reducible assumption) | (refine' Nat.ne_of_lt (Nat.lt_trans ?z108xh1 ?z108xh2); (case z108xh2 => with_reducible assumption); (case z108xh1 => with_reducible assumption)) | (refine' Nat.ne_of_gt (Nat.lt_trans ?z108xh1 ?z108xh2); (case z108xh2 => with_reducible assumption); (case z108xh1 => with_reducible assumption)) | omega)
  k_with "spl" => first | (refine' Spl.cons ?z109xsp; (case z109xsp => walk_at "spl")) | exact Spl.nil
  k_with "enter" => ((case k6 => k_is); (case k7 => k_is); (case k8 => k_room); (case k9 => exact BindsTo.of_eq rfl); (case c5 => decide); (case kB => exact locs rfl); (case c2 => exact rfl); (case c3 => exact rfl); (case c4 => exact rfl))
  k_with "enterV" => ((case k6 => k_is); (case k7 => k_is); (case k8 => k_room); (case kP => exact rfl); (case kG => exact fun _ => rfl); (case c5 => decide); (case kB => exact fun _ => locs rfl); (case c2 => exact rfl); (case c3 => exact rfl); (case c4 => exact rfl))
  k_with "apart" => first | exact apNil | (refine apCons (by assumption) ?_; walk_at "apart")
  k_with "allne" => first | with_reducible assumption | exact List.forall_mem_nil _ | (refine' fa_cons ?z113xfh ?z113xft; (case z113xfh => k_ne); (case z113xft => walk_at "allne"))
  k_with "sub" => first | exact subNil | exact fun _ h => h | (refine' subCons ?z114xs1 ?z114xs2; (case z114xs1 => k_mem); (case z114xs2 => walk_at "sub")) | (refine' subTail ?z114xs3; (case z114xs3 => walk_at "sub"))
  k_with "pick" => first | exact Pick.head | (refine' Pick.tail ?z115xpk; (case z115xpk => walk_at "pick"))
  k_with "leave" => (refine' ⟨_, _, _, ?z116xka, ?z116xkb, ?z116xkc⟩; (case z116xka => k_asm); (case z116xkb => k_asm); intro _ _ kA; (have na9 := np_of kA (by walk_at "spl")); (repeat (have hx9 := np_head na9; revert hx9; intro _; replace na9 := np_tail na9)); clear na9; replace kA := np_tl kA (by walk_at "spl"); revert kA; intro _)
  k_with "allne" => first | with_reducible assumption | exact lt_all (by with_reducible assumption) | exact List.forall_mem_nil _ | (refine' fa_cons ?z117xfh ?z117xft; (case z117xfh => k_ne); (case z117xft => walk_at "allne"))
  k_with "look" => first | assumption | exact upd_eq | (refine upd_ne (by decide) ?_; walk_at "look")
  k_with "eval Name" => (k_here; k_dflt (refine' nameX_L ?z119xF ?z119xv ?_ ?z119xa ?z119xb; (case z119xF => k_asm); (case z119xa => rfl); (case z119xb => rfl); (case z119xv => walk_at "look"); k_whole))
  k_with "truthy ref" => (k_here; k_dflt (refine' truthy_l ?z120xN ?z120xm ?z120xz ?_; (case z120xN => k_asm); (case z120xm => k_mem); (case z120xz => assumption)))
  k_with "call type:bool" => (k_here; k_dflt (refine' bool_l ?z121xN ?z121xm ?z121xz ?_; (case z121xN => k_asm); (case z121xm => k_mem); (case z121xz => assumption)))
  trivial
section
variable {w : World} {s : Shared} {h₀ : Heap} {outer : List Env} {L : Addr} {m : Str → Option Value} {env : Env} {rest : Led}
  {R : Result → Shared → Prop} {mean : ExcName → Option Value} {mg mb : Str → Option Value} {d u : Nat} {g : Option (List Code)} {self sd D Rn a ep : Nat} {t1 t2 t3 t4 t5 t6 : Tok} {oD : Obj} {arr : Array Value}
theorem active_c
  (F : Fr h₀ L s.heap m) (X₀ : (hd.heap_39 w.params).In h₀) (T : Tp mean mg mb h₀) (hroom : d + 20 < 1000)
  (N : News h₀ L s.heap ((self, instObj 158 sd) :: (sd, sdO w t1 t2 t3 t4 (.ref D) (.ref Rn) (.int a t5) (.int a t6)) :: (Rn, listOf arr ep) :: rest))
  (hdi : Dist ((self, instObj 158 sd) :: (sd, sdO w t1 t2 t3 t4 (.ref D) (.ref Rn) (.int a t5) (.int a t6)) :: (Rn, listOf arr ep) :: rest)) (hz : arr.size ≤ sizeLine)
  (k : ∀ h' tk', Fr h₀ L h' m → News h₀ L h' ((self, instObj 158 sd) :: (sd, sdO w t1 t2 t3 t4 (.ref D) (.ref Rn) (.int a t5) (.int a t6)) :: (Rn, listOf arr ep) :: rest) → R (.ok (.ret (.bool (!arr.isEmpty)))) { s with heap := h', toks := tk' }) :
  codeAny (model PySem.Challenge.rw_mr0322_01.row.prog w) (Ar d env outer g u) (.call (.ref 127) ⟨[.ref self], []⟩) R s := by
  k_dflt (refine' callN (fp := [(self, instObj 158 sd), (sd, sdO w t1 t2 t3 t4 (.ref D) (.ref Rn) (.int a t5) (.int a t6)), (Rn, listOf arr ep)]) (rest := rest) (binds := [(Str.ofString "self", .ref self)]) F X₀ (by exact N) (by exact hdi) T ?k6 ?k7 ?k8 ?k9 ?kB ?_ ?c2 ?c3 ?c4 ?c5)
  walk_at "enter"
  intro g' L' h' st F' N' d' X' T'
  try dsimp only
  k_fold
  have d1 := dist_head d'
  have d2 := dist_head (dist_tail d')
  (have na9 := na_of d1 (by walk_at "spl")); (repeat (have hx9 := na_head na9; replace na9 := na_tail na9)); clear na9; replace d1 := na_tl d1 (by walk_at "spl")
  (have na9 := na_of d2 (by walk_at "spl")); (repeat (have hx9 := na_head na9; replace na9 := na_tail na9)); clear na9; replace d2 := na_tl d2 (by walk_at "spl")
  k_steps
  · exact absurd (by assumption) (Int.lt_irrefl (a : Int))
  · exact ⟨_, _, _, by k_asm, by k_asm, d', fun kF kN _ => k _ _ kF kN⟩
end
theorem noneS4 : True := by
  k_with_none
  trivial
noncomputable abbrev tupO (vs : Array Value) : Obj := { cls := .type "tuple", data := .seq vs }
section
variable {prog : Program} {w : World} {A : Around} {s : Shared} {E : Value → Shared → Prop} {h₀ : Heap} {L : Addr} {m : Str → Option Value} {env : Env} {news : Led} {S ep : Nat} {its : Array Value}
theorem tuple_l {Q : Value → Shared → Prop} (F : Fr h₀ L s.heap m) (N : News h₀ L s.heap news) (hm : (S, listOf its ep) ∈ news) (hz : its.size ≤ sizeLine)
    (h : ∀ (D : Nat) h', Fr h₀ L h' m → News h₀ L h' ((D, tupO its) :: news) → (∀ p ∈ news, p.1 < D) → Q (.ref D) { s with heap := h' }) :
    wpAny (model prog w) A (call (.type "tuple") [.ref S]) Q E s :=
  call_tuple_list (s := s) ⟨_, (N _ hm).1, rfl, _, rfl⟩ (fun h' hk => h _ _ ((F.keeps hk).push _) (News.push (F.keeps hk) (N.grown hk) _ rfl) fun p hp => Heap.lt_size (hk _ _ (N p hp).1)) hz
theorem len_t {Q : Value → Shared → Prop} (N : News h₀ L s.heap news) (hm : (S, tupO its) ∈ news) (hz : its.size ≤ sizeLine) (h : Q (.int its.size (s.toks + 1)) { s with toks := s.toks + 1 + 1 }) :
    wpAny (model prog w) A (call (.builtin "len") [.ref S]) Q E s := len_tuple ⟨_, (N _ hm).1, rfl, _, rfl⟩ (fit_line hz) h
/-- a for over a tuple of the ledger -/
theorem forT {target iter : PySem.Expr} {body : List Stmt} {pos : Pos} {D : Addr} {led : Led} {Q : Flow → Shared → Prop} (Good : Nat → (Str → Option Value) → Led → Nat → Prop)
    (hh : A.handled = none) (F : Fr h₀ L s.heap m) (N : News h₀ L s.heap led) (hkp : ∀ i m led tk, Good i m led tk → (D, tupO its) ∈ led) (hg : Good 0 m led s.toks)
    (hev : wpAny (model prog w) A (eval iter env) (fun v s₁ => v = .ref D ∧ s₁ = s) E s)
    (turn : ∀ i v I oI m led h g tk tk' (E' : Value → Shared → Prop), its[i]? = some v → Good i m led tk → tk ≤ tk' → Fr h₀ L h m → News h₀ L h ((I, oI) :: led) → (∀ p ∈ led, p.1 ≠ I) → s.toks ≤ tk' →
      wpAny (model prog w) A (assign target env v) (fun _ s₂ => wpAny (model prog w) A (execs body env) (fun f s₃ => match f with
        | .next | .cont => TurnF h₀ L { s with heap := g } I oI (Good (i + 1)) s₃
        | .ret v => Q (.ret v) s₃
        | .brk => False) E' s₂) E' { s with heap := h, toks := tk' })
    (fin : ∀ m led h tk tk', Good its.size m led tk → tk ≤ tk' → Fr h₀ L h m → News h₀ L h led → s.toks ≤ tk' → Q .next { s with heap := h, toks := tk' })
    (hs : ∀ x, foldedSetIterable iter env x = pure x := by intro _; rfl) (ht : ∀ it v, letOwnedTupleGo target it v = pure () := by intro _ _; rfl) :
    wpAny (model prog w) A (exec (.For target iter body [] pos) env) Q E s := by
  refine wpAny_For (wpAny_mono hev (fun v s₁ h₁ => ?_) fun _ _ e => e) hs
  obtain ⟨rfl, rfl⟩ := h₁
  have hm := hkp _ _ _ _ hg
  have ht1 : s₁.heap.IsTuple D its := ⟨_, (N _ hm).1, rfl, _, rfl⟩
  have hlt := Heap.lt_size (N _ hm).1
  refine wpAny_pyIter_tuple ht1 ?_
  refine forK (kp := [(D, tupO its)]) (n0 := s₁.toks) Good (Walks.tuple hh s₁.heap.objs.size D (Nat.ne_of_lt hlt) its) (fun b hb hbI => ?_) (fun i h st => let ⟨⟨o, e, _⟩, _⟩ := st; ⟨o, e⟩)
    ⟨⟨_, Heap.get?_push_size _ rfl, rfl, rfl⟩, ht1.push _⟩ (next_is_new F) (Nat.ne_of_lt F.ns.lt) (fun p hp => Nat.ne_of_lt (Heap.lt_size (N p hp).1)) (F.keeps fun _ _ e => Heap.get?_push_of_some _ e) (N.grown fun _ _ e => Heap.get?_push_of_some _ e) (Nat.le_refl _)
    (fun i m led tk G p hp => by rw [List.mem_singleton.mp hp]; exact hkp i m led tk G) hg ?_ fin (ht _)
  · have hb' : b = s₁.heap.objs.size ∨ b = D := by simpa using hb
    rcases hb' with e | e
    · exact absurd e hbI
    · exact ⟨tupO its, .inl (by rw [e]; exact List.mem_singleton.mpr rfl)⟩
  · rintro i v oI m led h tk tk' E' hi hP hG hle F' N' off hn
    exact turn i v _ oI m led h _ tk tk' E' hP hG hle F' N' off hn
/-- a for over a list of the ledger that stands as it stood -/
theorem forM {target iter : PySem.Expr} {body : List Stmt} {pos : Pos} {D : Addr} {led : Led} {Q : Flow → Shared → Prop} (Good : Nat → (Str → Option Value) → Led → Nat → Prop)
    (hh : A.handled = none) (F : Fr h₀ L s.heap m) (N : News h₀ L s.heap led) (hkp : ∀ i m led tk, Good i m led tk → (D, listOf its ep) ∈ led) (hg : Good 0 m led s.toks)
    (hev : wpAny (model prog w) A (eval iter env) (fun v s₁ => v = .ref D ∧ ∃ tk, s.toks ≤ tk ∧ s₁ = { s with toks := tk }) E s) (hmono : ∀ m led tk tk', Good 0 m led tk → tk ≤ tk' → Good 0 m led tk')
    (turn : ∀ i v I oI m led h g tk tk' (E' : Value → Shared → Prop), its[i]? = some v → Good i m led tk → tk ≤ tk' → Fr h₀ L h m → News h₀ L h ((I, oI) :: led) → (∀ p ∈ led, p.1 ≠ I) → s.toks ≤ tk' →
      wpAny (model prog w) A (assign target env v) (fun _ s₂ => wpAny (model prog w) A (execs body env) (fun f s₃ => match f with
        | .next | .cont => TurnF h₀ L { s with heap := g } I oI (Good (i + 1)) s₃
        | .ret v => Q (.ret v) s₃
        | .brk => False) E' s₂) E' { s with heap := h, toks := tk' })
    (fin : ∀ m led h tk tk', Good its.size m led tk → tk ≤ tk' → Fr h₀ L h m → News h₀ L h led → s.toks ≤ tk' → Q .next { s with heap := h, toks := tk' })
    (hs : ∀ x, foldedSetIterable iter env x = pure x := by intro _; rfl) (ht : ∀ it v, letOwnedTupleGo target it v = pure () := by intro _ _; rfl) :
    wpAny (model prog w) A (exec (.For target iter body [] pos) env) Q E s := by
  refine wpAny_For (wpAny_mono hev (fun v s₁ h₁ => ?_) fun _ _ e => e) hs
  obtain ⟨rfl, tk0, htk0, rfl⟩ := h₁
  have hm := hkp _ _ _ _ hg
  have ht1 : s.heap.IsList D its := ⟨_, (N _ hm).1, rfl, _, rfl⟩
  have hlt := Heap.lt_size (N _ hm).1
  refine wpAny_pyIter_list (s := { s with toks := tk0 }) ht1 ?_
  refine forK (kp := [(D, listOf its ep)]) (n0 := s.toks) Good (Walks.list hh s.heap.objs.size D (Nat.ne_of_lt hlt) its) (fun b hb hbI => ?_) (fun i h st => let ⟨⟨o, e, _⟩, _⟩ := st; ⟨o, e⟩)
    ⟨⟨_, Heap.get?_push_size _ rfl, rfl, rfl⟩, ht1.push _⟩ (next_is_new F) (Nat.ne_of_lt F.ns.lt) (fun p hp => Nat.ne_of_lt (Heap.lt_size (N p hp).1)) (F.keeps fun _ _ e => Heap.get?_push_of_some _ e) (N.grown fun _ _ e => Heap.get?_push_of_some _ e) htk0
    (fun i m led tk G p hp => by rw [List.mem_singleton.mp hp]; exact hkp i m led tk G) (hmono _ _ _ _ hg htk0) ?_ fin (ht _)
  · have hb' : b = s.heap.objs.size ∨ b = D := by simpa using hb
    rcases hb' with e | e
    · exact absurd e hbI
    · exact ⟨listOf its ep, .inl (by rw [e]; exact List.mem_singleton.mpr rfl)⟩
  · rintro i v oI m led h tk tk' E' hi hP hG hle F' N' off hn
    exact turn i v _ oI m led h s.heap tk tk' E' hP hG hle F' N' off hn
end
theorem noneC15 : True := by
  k_with_none
  trivial
-- addresses that differ: by a fact of the context first
-- a def entered: what is left is its body
theorem rowsC15_3 : True := by
  k_with "kroom" => ((try simp only [depth_under_make, depth_under_kw, depth_in1, depth_deeper, depth_caller, recursionLimit] at *); omega)
  k_with "kne" => first | with_reducible assumption | exact Ne.symm (by with_reducible assumption) | (refine neN ?_; (try dsimp only); first | with_reducible assumption | exact Nat.ne_of_lt (by with_reducible assumption) | exact Nat.ne_of_gt (by with_reducible assumption) | exact Ne.symm (by with_reducible assumption) | (refine' Nat.ne_of_lt (Nat.lt_trans ?z123xh1 ?z123xh2); (case z123xh2 => with_reducible assumption); (case z123xh1 => with_reducible assumption)) | (refine' Nat.ne_of_gt (Nat.lt_trans ?z123xh1 ?z123xh2); (case z123xh2 => with_reducible assumption); (case z123xh1 => with_reducible assumption)) | omega)
  k_with "spl" => first | (refine' Spl.cons ?z124xsp; (case z124xsp => walk_at "spl")) | exact Spl.nil
  k_with "enter" => ((case k6 => k_is); (case k7 => k_is); (case k8 => k_room); (case k9 => exact BindsTo.of_eq rfl); (case c5 => decide); (case kB => exact locs rfl); (case c2 => exact rfl); (case c3 => exact rfl); (case c4 => exact rfl))
  k_with "enterV" => ((case k6 => k_is); (case k7 => k_is); (case k8 => k_room); (case kP => exact rfl); (case kG => exact fun _ => rfl); (case c5 => decide); (case kB => exact fun _ => locs rfl); (case c2 => exact rfl); (case c3 => exact rfl); (case c4 => exact rfl))
  k_with "apart" => first | exact apNil | (refine apCons (by assumption) ?_; walk_at "apart")
  k_with "allne" => first | with_reducible assumption | exact List.forall_mem_nil _ | (refine' fa_cons ?z128xfh ?z128xft; (case z128xfh => k_ne); (case z128xft => walk_at "allne"))
  k_with "sub" => first | exact subNil | exact fun _ h => h | (refine' subCons ?z129xs1 ?z129xs2; (case z129xs1 => k_mem); (case z129xs2 => walk_at "sub")) | (refine' subTail ?z129xs3; (case z129xs3 => walk_at "sub"))
  k_with "pick" => first | exact Pick.head | (refine' Pick.tail ?z130xpk; (case z130xpk => walk_at "pick"))
  k_with "leave" => (refine' ⟨_, _, _, ?z131xka, ?z131xkb, ?z131xkc⟩; (case z131xka => k_asm); (case z131xkb => k_asm); intro _ _ kA; (have na9 := np_of kA (by walk_at "spl")); (repeat (have hx9 := np_head na9; revert hx9; intro _; replace na9 := np_tail na9)); clear na9; replace kA := np_tl kA (by walk_at "spl"); revert kA; intro _)
  k_with "allne" => first | with_reducible assumption | exact lt_all (by with_reducible assumption) | exact List.forall_mem_nil _ | (refine' fa_cons ?z132xfh ?z132xft; (case z132xfh => k_ne); (case z132xft => walk_at "allne"))
  k_with "look" => first | assumption | exact upd_eq | (refine upd_ne (by decide) ?_; walk_at "look")
  k_with "eval Name" => (k_here; k_dflt (refine' nameX_L ?z134xF ?z134xv ?_ ?z134xa ?z134xb; (case z134xF => k_asm); (case z134xa => rfl); (case z134xb => rfl); (case z134xv => walk_at "look"); k_whole))
  k_with "subscriptTail" => (k_here; (with_reducible show wpAny _ _ (subscriptTail _ _ (Value.ref _) (Value.str _ _)) _ _ _); k_dflt (refine' kda_item (knd := PySem.strKind _ _) ?z135xN ?z135xp ?z135xd (strKind_is _ _ _ _) ?z135xl ?_; (case z135xN => k_asm); (case z135xp => k_mem); (case z135xd => k_asm); (case z135xl => assumption)))
  trivial
noncomputable abbrev strA (rd : List (Nat × Tok)) : Array Value := (rd.map fun p => Value.str (sg p.1) p.2).toArray
/-- the nodes of ns0 with the counts g -/
noncomputable def Npf (g : Nat → Int) : List Nd → List Nd → Prop
  | [], [] => True
  | x :: xs, y :: ys => (∃ t, y = { x with np := g x.c, pt := t }) ∧ Npf g xs ys
  | _, _ => False
theorem Npf.kv {g : Nat → Int} : ∀ {a b : List Nd}, Npf g a b → gKv b = gKv a ∧ b.map Nd.c = a.map Nd.c ∧ b.map Nd.abs = a.map Nd.abs := by
  intro a
  induction a with
  | nil => intro b h; cases b with
    | nil => exact ⟨rfl, rfl, rfl⟩
    | cons => exact h.elim
  | cons x xs ih => intro b h; cases b with
    | nil => exact h.elim
    | cons y ys =>
      obtain ⟨⟨t, rfl⟩, h⟩ := h
      obtain ⟨e1, e2, e3⟩ := ih h
      unfold gKv at e1 ⊢
      simp only [List.map_cons]
      rw [e1, e2, e3]
      exact ⟨rfl, rfl, rfl⟩
theorem Npf.congr {g g' : Nat → Int} : ∀ {a b : List Nd}, Npf g a b → (∀ k ∈ a.map Nd.c, g k = g' k) → Npf g' a b := by
  intro a
  induction a with
  | nil => intro b h _; cases b with
    | nil => trivial
    | cons => exact h.elim
  | cons x xs ih => intro b h e; cases b with
    | nil => exact h.elim
    | cons y ys =>
      obtain ⟨⟨t, q⟩, h⟩ := h
      refine ⟨⟨t, ?_⟩, ih h fun k hk => e k (List.mem_cons_of_mem _ hk)⟩
      rw [q, e x.c List.mem_cons_self]
theorem Npf.at {g : Nat → Int} {c : Nat} : ∀ {a b : List Nd}, Npf g a b → (a.map Nd.c).Nodup → c ∈ a.map Nd.c → ∃ pre y post, b = pre ++ y :: post ∧ y.c = c ∧ y.np = g c ∧ y.abs ∈ a.map Nd.abs ∧ PySem.valueAt (gKv a) (sg c) = some (.ref y.I) ∧
    ∀ v t, Npf (fun k => if k = c then v else g k) a (pre ++ { y with np := v, pt := t } :: post) := by
  intro a
  induction a with
  | nil => intro b _ _ h; cases h
  | cons x xs ih => intro b h hn hc; cases b with
    | nil => exact h.elim
    | cons y ys =>
      obtain ⟨⟨t, q⟩, h⟩ := h
      have hn' := List.nodup_cons.mp hn
      by_cases e : x.c = c
      · refine ⟨[], y, ys, rfl, by rw [q]; exact e, by rw [q, ← e], by rw [q]; exact List.mem_cons_self, ?_, fun v t' => ⟨⟨t', by rw [q]; simp only [if_pos e]⟩, h.congr fun k hk => ?_⟩⟩
        · unfold PySem.valueAt gKv
          rw [List.map_cons, List.find?_cons, show decide ((sg x.c, Value.ref x.I).1 = sg c) = true from decide_eq_true (by rw [← e]), q]
          rfl
        · simp only [if_neg fun q2 : k = c => hn'.1 (by rw [e, ← q2]; exact hk)]
      · have hc' : c ∈ xs.map Nd.c := (List.mem_cons.mp hc).resolve_left fun q => e q.symm
        obtain ⟨pre, z, post, e1, e2, e3, e5, e4, k⟩ := ih h hn'.2 hc'
        refine ⟨y :: pre, z, post, by rw [e1]; rfl, e2, e3, List.mem_cons_of_mem _ e5, ?_, fun v t' => ⟨⟨t, by rw [q]; simp only [if_neg e]⟩, k v t'⟩⟩
        unfold PySem.valueAt gKv at e4 ⊢
        rw [List.map_cons, List.find?_cons, show decide ((sg x.c, Value.ref x.I).1 = sg c) = false from decide_eq_false fun q => e (sg_inj q)]
        exact e4
theorem rowsC15_74 : True := by
  k_with "call builtin:list.clear" => (k_here; k_dflt (refine' kl_clear ?z136xF ?z136xN ?z136xU ?z136xne ?z136xz ?_; (case z136xF => k_asm); (case z136xN => k_asm); (case z136xU => k_upd); (case z136xne => assumption); (case z136xz => assumption)); intro _ _ _)
  k_with "call builtin:len" => (k_here; (with_reducible show wpAny _ _ (call (Value.builtin "len") [Value.ref _]) _ _ _); k_dflt (refine' len_t ?z137xN ?z137xm ?z137xz ?_; (case z137xN => k_asm); (case z137xm => k_mem); (case z137xz => assumption)))
  k_with "call type:tuple" => (k_here; k_dflt (refine' tuple_l ?z138xF ?z138xN ?z138xm ?z138xz ?_; (case z138xF => k_asm); (case z138xN => k_asm); (case z138xm => k_mem); (case z138xz => assumption)); intro _ _ _ _ l1; (try k_lt l1); (try (revert l1; intro _)))
  trivial
/-- the loop of get_ready -/
inductive RI (w : World) (Tp self sd D Rn : Nat) (t1 t2 t3 t4 t5 : Tok) (a : Int) (v4 : Value) (oD : Obj) (rd : List (Nat × Tok)) (ep : Nat) (gf : Nat → Int) (ns0 : List Nd) (i : Nat) (m : Str → Option Value) (led : Led) : Prop
  | mk (ns' : List Nd) : led = (Tp, tupO (strA rd)) :: (self, instObj 158 sd) :: (sd, sdO w t1 t2 t3 t4 (.ref D) (.ref Rn) (.int a t5) v4) :: (D, oD) :: (Rn, listOf (strA rd) ep) :: gLed ns' → Dist led →
    Npf (fun k => if k ∈ (rd.take i).map (·.1) then -1 else gf k) ns0 ns' → m (Str.ofString "self") = some (.ref self) → m (Str.ofString "n2i") = some (.ref D) → m (Str.ofString "result") = some (.ref Tp) → RI w Tp self sd D Rn t1 t2 t3 t4 t5 a v4 oD rd ep gf ns0 i m led
section
variable {w : World} {s : Shared} {h₀ : Heap} {outer : List Env} {L : Addr} {m : Str → Option Value} {env : Env} {rest : Led}
  {R : Result → Shared → Prop} {mean : ExcName → Option Value} {mg mb : Str → Option Value} {d u : Nat} {g : Option (List Code)} {self sd D Rn ep : Nat} {t1 t2 t3 t4 t5 : Tok} {a : Int} {v4 : Value} {oD : Obj} {rd : List (Nat × Tok)} {ns : List Nd}
theorem ready_c {ns0 : List Nd} {gf : Nat → Int}
  (F : Fr h₀ L s.heap m) (X₀ : (hd.heap_39 w.params).In h₀) (T : Tp mean mg mb h₀) (hroom : d + 20 < 1000)
  (N : News h₀ L s.heap (((self, instObj 158 sd) :: (sd, sdO w t1 t2 t3 t4 (.ref D) (.ref Rn) (.int a t5) v4) :: (D, oD) :: (Rn, listOf (strA rd) ep) :: gLed ns) ++ rest))
  (hdi : Dist (((self, instObj 158 sd) :: (sd, sdO w t1 t2 t3 t4 (.ref D) (.ref Rn) (.int a t5) v4) :: (D, oD) :: (Rn, listOf (strA rd) ep) :: gLed ns) ++ rest)) (hz : rd.length ≤ 50) (hne : rd ≠ [])
  (hG : Npf gf ns0 ns) (hnod : (ns0.map Nd.c).Nodup) (hD : Dk w oD (gKv ns0)) (lo : (D == sysModules) = false) (ha : 0 ≤ a ∧ a ≤ 50) (hin : ∀ p ∈ rd, p.1 ∈ ns0.map Nd.c)
  (k : ∀ h' tk' (Tp : Nat) t5' ns', Fr h₀ L h' m → News h₀ L h' (((Tp, tupO (strA rd)) :: (self, instObj 158 sd) :: (sd, sdO w t1 t2 t3 t4 (.ref D) (.ref Rn) (.int (a + rd.length) t5') v4) :: (D, oD) :: (Rn, listOf #[] (ep + 1)) :: gLed ns') ++ rest) →
    Dist (((Tp, tupO (strA rd)) :: (self, instObj 158 sd) :: (sd, sdO w t1 t2 t3 t4 (.ref D) (.ref Rn) (.int (a + rd.length) t5') v4) :: (D, oD) :: (Rn, listOf #[] (ep + 1)) :: gLed ns') ++ rest) →
    Npf (fun k => if k ∈ rd.map (·.1) then -1 else gf k) ns0 ns' → R (.ok (.ret (.ref Tp))) { s with heap := h', toks := tk' }) :
  codeAny (model PySem.Challenge.rw_mr0322_01.row.prog w) (Ar d env outer g u) (.call (.ref 120) ⟨[.ref self], []⟩) R s := by
  replace hD : Obj.IsDictOf (PySem.strKind PySem.Challenge.rw_mr0322_01.row.prog w) oD (gKv ns0) := hD
  have hz1 : (strA rd).size ≤ sizeLine := by rw [List.size_toArray, List.length_map]; exact Nat.le_trans hz (by decide)
  k_dflt (refine' callN (fp := (self, instObj 158 sd) :: (sd, sdO w t1 t2 t3 t4 (.ref D) (.ref Rn) (.int a t5) v4) :: (D, oD) :: (Rn, listOf (strA rd) ep) :: gLed ns) (rest := rest) (binds := [(Str.ofString "self", .ref self)]) F X₀ (by exact N) (by exact hdi) T ?k6 ?k7 ?k8 ?k9 ?kB ?_ ?c2 ?c3 ?c4 ?c5)
  walk_at "enter"
  intro g' L' h' st F' N' d' X' T'
  try dsimp only
  k_fold
  have d1 := dist_head d'
  have d2 := dist_head (dist_tail d')
  have d3 := dist_head (dist_tail (dist_tail d'))
  have d4 := dist_head (dist_tail (dist_tail (dist_tail d')))
  (have na9 := na_of d1 (by walk_at "spl")); (repeat (have hx9 := na_head na9; replace na9 := na_tail na9)); clear na9; replace d1 := na_tl d1 (by walk_at "spl")
  (have na9 := na_of d2 (by walk_at "spl")); (repeat (have hx9 := na_head na9; replace na9 := na_tail na9)); clear na9; replace d2 := na_tl d2 (by walk_at "spl")
  (have na9 := na_of d3 (by walk_at "spl")); (repeat (have hx9 := na_head na9; replace na9 := na_tail na9)); clear na9; replace d3 := na_tl d3 (by walk_at "spl")
  generalize htl : gLed ns = tl at *
  k_steps
  rename_i tkA Tp hA lA1 lA2 lA3 lA4 lA5 hB hC FC NC
  refine forT (D := Tp) (its := strA rd) (fun i m led _ => RI w Tp self sd D Rn t1 t2 t3 t4 t5 a v4 oD rd ep gf ns0 i m led) rfl (by k_asm) (by k_asm) ?kp ?g0 ?ev ?turn ?fin
  case turn =>
    rintro i v I oI m led h gg tk tk' E' hv ⟨ns', rfl, hdi', hN', m1, m2, m3⟩ hle F N off hn
    obtain ⟨c, t, hct, rfl⟩ : ∃ c t, rd[i]? = some (c, t) ∧ v = .str (sg c) t := by
      rw [List.getElem?_toArray, List.getElem?_map] at hv
      cases e : rd[i]? with
      | none => rw [e] at hv; cases hv
      | some p => rw [e] at hv; cases hv; exact ⟨p.1, p.2, rfl, rfl⟩
    obtain ⟨pre, y, post, rfl, hyc, hyn, hya, hva, hup⟩ := hN'.at hnod (hin _ (List.mem_of_getElem? hct))
    rw [gLed_split] at N hdi' off
    have pm := pull (((Tp, tupO (strA rd)) :: (self, instObj 158 sd) :: (sd, sdO w t1 t2 t3 t4 (.ref D) (.ref Rn) (.int a t5) v4) :: (D, oD) :: [(Rn, listOf (strA rd) ep)]) ++ gLed pre) y.led (gLed post)
    simp only [List.append_assoc, List.cons_append, List.nil_append] at pm
    have hdiI := (dist_cons (a := I) (o := oI) off hdi').perm (List.Perm.cons _ pm)
    replace N := Mine.News.perm N (List.Perm.cons _ pm)
    generalize htl : gLed pre ++ gLed post = tl at *
    simp only [Nd.led, List.cons_append, List.nil_append] at N hdiI
    have d1 := dist_head hdiI
    have d2 := dist_head (dist_tail hdiI)
    (have na9 := na_of d1 (by walk_at "spl")); (repeat (have hx9 := na_head na9; replace na9 := na_tail na9)); clear na9; replace d1 := na_tl d1 (by walk_at "spl")
    (have na9 := na_of d2 (by walk_at "spl")); (repeat (have hx9 := na_head na9; replace na9 := na_tail na9)); clear na9; replace d2 := na_tl d2 (by walk_at "spl")
    k_steps
    rename_i hX hY FY NY
    subst htl
    have pm2 := (pull (((Tp, tupO (strA rd)) :: (self, instObj 158 sd) :: (sd, sdO w t1 t2 t3 t4 (.ref D) (.ref Rn) (.int a t5) v4) :: (D, oD) :: [(Rn, listOf (strA rd) ep)]) ++ gLed pre) ({ y with np := -1, pt := 220 } : Nd).led (gLed post)).symm
    simp only [List.append_assoc, List.cons_append, List.nil_append] at pm2
    rw [← gLed_split] at pm2
    have hd2 := Dist.perm (show Dist ((I, oI) :: (({ y with np := -1, pt := 220 } : Nd).led ++ (Tp, tupO (strA rd)) :: (self, instObj 158 sd) :: (sd, sdO w t1 t2 t3 t4 (.ref D) (.ref Rn) (.int a t5) v4) :: (D, oD) :: (Rn, listOf (strA rd) ep) :: (gLed pre ++ gLed post))) from hdiI) (List.Perm.cons _ pm2)
    refine ⟨_, _, _, _, rfl, FY, Mine.News.perm NY (List.Perm.cons _ pm2), dist_head hd2, _, rfl, dist_tail hd2, (hup (-1) 220).congr fun k hk => ?_, by walk_at "look", by walk_at "look", by walk_at "look"⟩
    rw [List.take_succ, hct, List.map_append]
    simp only [Option.toList, List.map_cons, List.map_nil, List.mem_append, List.mem_singleton]
    by_cases e1 : k = c
    · rw [if_pos e1, if_pos (.inr e1)]
    · rw [if_neg e1]
      by_cases e2 : k ∈ (rd.take i).map (·.1)
      · rw [if_pos e2, if_pos (.inl e2)]
      · rw [if_neg e2, if_neg fun q => q.elim e2 e1]
  case kp =>
    rintro i m led tk ⟨ns', rfl, _⟩
    k_mem
  case g0 =>
    subst htl
    refine ⟨ns, rfl, ?_, hG.congr fun k hk => by rw [if_neg (by simp)], rfl, rfl, rfl⟩
    · (repeat (refine dist_cons (by walk_at "allne") ?_))
      exact dist_tail (dist_tail (dist_tail (dist_tail d')))
  case ev =>
    k_steps
  case fin =>
    rintro m led h tk tk' ⟨ns', rfl, hdi', hN', m1, m2, m3⟩ hle F N hn
    have d1 := dist_head hdi'
    have d2 := dist_head (dist_tail hdi')
    have d3 := dist_head (dist_tail (dist_tail hdi'))
    have d4 := dist_head (dist_tail (dist_tail (dist_tail hdi')))
    have d5 := dist_head (dist_tail (dist_tail (dist_tail (dist_tail hdi'))))
    (have na9 := na_of d1 (by walk_at "spl")); (repeat (have hx9 := na_head na9; replace na9 := na_tail na9)); clear na9; replace d1 := na_tl d1 (by walk_at "spl")
    (have na9 := na_of d2 (by walk_at "spl")); (repeat (have hx9 := na_head na9; replace na9 := na_tail na9)); clear na9; replace d2 := na_tl d2 (by walk_at "spl")
    (have na9 := na_of d3 (by walk_at "spl")); (repeat (have hx9 := na_head na9; replace na9 := na_tail na9)); clear na9; replace d3 := na_tl d3 (by walk_at "spl")
    (have na9 := na_of d4 (by walk_at "spl")); (repeat (have hx9 := na_head na9; replace na9 := na_tail na9)); clear na9; replace d4 := na_tl d4 (by walk_at "spl")
    generalize htl : gLed ns' = tl at *
    have hcz : (strA rd).toList.length ≤ sizeLine := by rw [Array.length_toList]; exact hz1
    have hcn : (strA rd).toList.length ≠ 0 := by
      rw [Array.length_toList, List.size_toArray, List.length_map]
      exact fun q => hne (List.eq_nil_of_length_eq_zero q)
    k_steps
    rename_i h9 F9 N9
    subst htl
    have e9 : ((strA rd).size : Int) = rd.length := by rw [List.size_toArray, List.length_map]
    have e8 : rd.take (strA rd).size = rd := List.take_of_length_le (by rw [List.size_toArray, List.length_map]; exact Nat.le_refl _)
    rw [e9] at N9
    rw [e8] at hN'
    exact ⟨_, _, _ :: _ :: _ :: _ :: _ :: gLed ns', F9, N9, hdi', fun kF kN kD => k _ _ Tp _ ns' kF kN kD hN'⟩
end
theorem noneC16 : True := by
  k_with_none
  trivial
-- addresses that differ: by a fact of the context first
-- a def entered: what is left is its body
theorem rowsC16_3 : True := by
  k_with "kroom" => ((try simp only [depth_under_make, depth_under_kw, depth_in1, depth_deeper, depth_caller, recursionLimit] at *); omega)
  k_with "kne" => first | with_reducible assumption | exact Ne.symm (by with_reducible assumption) | (refine neN ?_; (try dsimp only); first | with_reducible assumption | exact Nat.ne_of_lt (by with_reducible assumption) | exact Nat.ne_of_gt (by with_reducible assumption) | exact Ne.symm (by with_reducible assumption) | (refine' Nat.ne_of_lt (Nat.lt_trans ?z140xh1 ?z140xh2); (case z140xh2 => with_reducible assumption); (case z140xh1 => with_reducible assumption)) | (refine' Nat.ne_of_gt (Nat.lt_trans ?z140xh1 ?z140xh2); (case z140xh2 => with_reducible assumption); (case z140xh1 => with_reducible assumption)) | omega)
  k_with "spl" => first | (refine' Spl.cons ?z141xsp; (case z141xsp => walk_at "spl")) | exact Spl.nil
  k_with "enter" => ((case k6 => k_is); (case k7 => k_is); (case k8 => k_room); (case k9 => exact BindsTo.of_eq rfl); (case c5 => decide); (case kB => exact locs rfl); (case c2 => exact rfl); (case c3 => exact rfl); (case c4 => exact rfl))
  k_with "enterV" => ((case k6 => k_is); (case k7 => k_is); (case k8 => k_room); (case kP => exact rfl); (case kG => exact fun _ => rfl); (case c5 => decide); (case kB => exact fun _ => locs rfl); (case c2 => exact rfl); (case c3 => exact rfl); (case c4 => exact rfl))
  k_with "apart" => first | exact apNil | (refine apCons (by assumption) ?_; walk_at "apart")
  k_with "allne" => first | with_reducible assumption | exact List.forall_mem_nil _ | (refine' fa_cons ?z145xfh ?z145xft; (case z145xfh => k_ne); (case z145xft => walk_at "allne"))
  k_with "sub" => first | exact subNil | exact fun _ h => h | (refine' subCons ?z146xs1 ?z146xs2; (case z146xs1 => k_mem); (case z146xs2 => walk_at "sub")) | (refine' subTail ?z146xs3; (case z146xs3 => walk_at "sub"))
  k_with "pick" => first | exact Pick.head | (refine' Pick.tail ?z147xpk; (case z147xpk => walk_at "pick"))
  k_with "leave" => (refine' ⟨_, _, _, ?z148xka, ?z148xkb, ?z148xkc⟩; (case z148xka => k_asm); (case z148xkb => k_asm); intro _ _ kA; (have na9 := np_of kA (by walk_at "spl")); (repeat (have hx9 := np_head na9; revert hx9; intro _; replace na9 := np_tail na9)); clear na9; replace kA := np_tl kA (by walk_at "spl"); revert kA; intro _)
  k_with "allne" => first | with_reducible assumption | exact lt_all (by with_reducible assumption) | exact List.forall_mem_nil _ | (refine' fa_cons ?z149xfh ?z149xft; (case z149xfh => k_ne); (case z149xft => walk_at "allne"))
  k_with "look" => first | assumption | exact upd_eq | (refine upd_ne (by decide) ?_; walk_at "look")
  k_with "eval Name" => (k_here; k_dflt (refine' nameX_L ?z151xF ?z151xv ?_ ?z151xa ?z151xb; (case z151xF => k_asm); (case z151xa => rfl); (case z151xb => rfl); (case z151xv => walk_at "look"); k_whole))
  k_with "subscriptTail" => (k_here; (with_reducible show wpAny _ _ (subscriptTail _ _ (Value.ref _) (Value.str _ _)) _ _ _); k_dflt (refine' kda_item (knd := PySem.strKind _ _) ?z152xN ?z152xp ?z152xd (strKind_is _ _ _ _) ?z152xl ?_; (case z152xN => k_asm); (case z152xp => k_mem); (case z152xd => k_asm); (case z152xl => assumption)))
  k_with "call builtin:dict.get" => (k_here; k_dflt (refine kdg_get1 (knd := PySem.strKind _ _) (by k_asm) (by k_mem) (by k_asm) (by k_asm) (strKind_is _ _ _ _) _ (by assumption) ?_); (try dsimp only [Option.getD]))
  trivial
/-- the successors of a sign -/
noncomputable def scOf (ns : List Nd) (c : Nat) : List (Nat × Tok) := ((ns.find? fun x => decide (x.c = c)).map Nd.sc).getD []
theorem Npf.sc {g : Nat → Int} {c : Nat} : ∀ {a b : List Nd}, Npf g a b → (a.map Nd.c).Nodup → ∀ y ∈ b, y.c = c → y.sc = scOf a c := by
  intro a
  induction a with
  | nil => intro b h _ y hy; cases b with
    | nil => cases hy
    | cons => exact h.elim
  | cons x xs ih => intro b h hn y hy hc; cases b with
    | nil => exact h.elim
    | cons z zs =>
      obtain ⟨⟨t, q⟩, h⟩ := h
      have hn' := List.nodup_cons.mp hn
      unfold scOf
      rw [List.find?_cons]
      rcases List.mem_cons.mp hy with rfl | hy
      · rw [q] at hc ⊢
        rw [show decide (x.c = c) = true from decide_eq_true hc]
        rfl
      · have hx : x.c ≠ c := fun e => hn'.1 (by
          rw [e, ← hc, ← h.kv.2.1]; exact List.mem_map.mpr ⟨y, hy, rfl⟩)
        rw [show decide (x.c = c) = false from decide_eq_false hx]
        exact ih h hn'.2 y hy hc
theorem Npf.list {g g' : Nat → Int} : ∀ {a b b' : List Nd}, Npf g a b → Npf g' a b' → ∀ y ∈ b, (y.S, listOf (strA y.sc) y.ep) ∈ gLed b' := by
  intro a
  induction a with
  | nil => intro b b' h _ y hy; cases b with
    | nil => cases hy
    | cons => exact h.elim
  | cons x xs ih => intro b b' h h' y hy; cases b with
    | nil => exact h.elim
    | cons z zs => cases b' with
      | nil => exact h'.elim
      | cons z' zs' =>
        obtain ⟨⟨t, q⟩, h⟩ := h
        obtain ⟨⟨t', q'⟩, h'⟩ := h'
        unfold gLed
        rw [List.flatMap_cons]
        rcases List.mem_cons.mp hy with rfl | hy
        · refine List.mem_append_left _ ?_
          rw [q, q']
          exact List.mem_cons_of_mem _ (List.mem_cons_of_mem _ List.mem_cons_self)
        · exact List.mem_append_right _ (ih h h' y hy)
/-- the counts when the first i are done -/
noncomputable def gDone (gf : Nat → Int) (ds ss : List Nat) : Nat → Int := fun k => if k ∈ ds then -2 else if k ∈ ss then 0 else gf k
theorem strA_push (l : List (Nat × Tok)) (c : Nat) (t : Tok) : (strA l).push (Value.str (sg c) t) = strA (l ++ [(c, t)]) := by simp [strA]
theorem node_perm {X : Addr × Obj} (H : Led) (pr po : List Nd) (z : Nd) : (X :: (z.led ++ (H ++ (gLed pr ++ gLed po)))).Perm (X :: (H ++ gLed (pr ++ z :: po))) := by
  refine List.Perm.cons _ ?_
  have := (pull (H ++ gLed pr) z.led (gLed po)).symm
  rw [gLed_split]
  simpa only [List.append_assoc] using this
theorem nodeN {g h : Heap} {L : Addr} {X : Addr × Obj} (H : Led) (pr po : List Nd) (z : Nd) (N : News g L h (X :: (z.led ++ (H ++ (gLed pr ++ gLed po))))) : News g L h (X :: (H ++ gLed (pr ++ z :: po))) := Mine.News.perm N (node_perm H pr po z)
theorem nodeD {X : Addr × Obj} (H : Led) (pr po : List Nd) (z : Nd) (N : Dist (X :: (z.led ++ (H ++ (gLed pr ++ gLed po))))) : Dist (X :: (H ++ gLed (pr ++ z :: po))) := N.perm (node_perm H pr po z)
theorem gDone_one {gf : Nat → Int} {ds ss : List Nat} {c k : Nat} (hc : c ∉ ds) : (if k = c then (0 : Int) else gDone gf ds ss k) = gDone gf ds (ss ++ [c]) k := by
  unfold gDone
  by_cases e : k = c
  · subst e; rw [if_pos rfl, if_neg hc, if_pos (List.mem_append_right _ (List.mem_singleton.mpr rfl))]
  · rw [if_neg e]
    by_cases h1 : k ∈ ds
    · rw [if_pos h1, if_pos h1]
    · rw [if_neg h1, if_neg h1]
      by_cases h2 : k ∈ ss
      · rw [if_pos h2, if_pos (List.mem_append_left _ h2)]
      · rw [if_neg h2, if_neg fun q => (List.mem_append.mp q).elim h2 fun q => e (List.mem_singleton.mp q)]
/-- the loops of done -/
inductive DI (w : World) (T0 self sd D Rn : Nat) (t1 t2 t3 t4 : Tok) (v3 : Value) (oD : Obj) (b : Int) (rd : List (Nat × Tok)) (gf : Nat → Int) (ns0 : List Nd) (i : Nat) (m : Str → Option Value) (led : Led) : Prop
  | mk (ns' : List Nd) (t6' : Tok) (epi : Nat) : led = (T0, tupO (strA rd)) :: (self, instObj 158 sd) :: (sd, sdO w t1 t2 t3 t4 (.ref D) (.ref Rn) v3 (.int (b + i) t6')) :: (D, oD) :: (Rn, listOf (strA ((rd.take i).flatMap fun p => scOf ns0 p.1)) epi) :: gLed ns' → Dist led →
    Npf (gDone gf ((rd.take i).map (·.1)) (((rd.take i).flatMap fun p => scOf ns0 p.1).map (·.1))) ns0 ns' → m (Str.ofString "self") = some (.ref self) → m (Str.ofString "n2i") = some (.ref D) → m (Str.ofString "nodes") = some (.ref T0) → DI w T0 self sd D Rn t1 t2 t3 t4 v3 oD b rd gf ns0 i m led
inductive DJ (w : World) (I : Nat) (oI : Obj) (T0 self sd D Rn : Nat) (t1 t2 t3 t4 t6' : Tok) (v3 : Value) (oD : Obj) (b : Int) (rd : List (Nat × Tok)) (gf : Nat → Int) (ns0 : List Nd) (i c : Nat) (sj : List (Nat × Tok)) (m : Str → Option Value) (led : Led) : Prop
  | mk (ns2 : List Nd) (epj : Nat) : led = (I, oI) :: (T0, tupO (strA rd)) :: (self, instObj 158 sd) :: (sd, sdO w t1 t2 t3 t4 (.ref D) (.ref Rn) v3 (.int (b + i) t6')) :: (D, oD) :: (Rn, listOf (strA (((rd.take i).flatMap fun p => scOf ns0 p.1) ++ sj)) epj) :: gLed ns2 → Dist led →
    Npf (gDone gf ((rd.take i).map (·.1) ++ [c]) ((((rd.take i).flatMap fun p => scOf ns0 p.1) ++ sj).map (·.1))) ns0 ns2 → m (Str.ofString "self") = some (.ref self) → m (Str.ofString "n2i") = some (.ref D) → m (Str.ofString "nodes") = some (.ref T0) → DJ w I oI T0 self sd D Rn t1 t2 t3 t4 t6' v3 oD b rd gf ns0 i c sj m led
section
variable {w : World} {s : Shared} {h₀ : Heap} {outer : List Env} {L : Addr} {m : Str → Option Value} {env : Env} {rest : Led}
  {R : Result → Shared → Prop} {mean : ExcName → Option Value} {mg mb : Str → Option Value} {d u : Nat} {g : Option (List Code)} {self sd D Rn ep : Nat} {t1 t2 t3 t4 t6 : Tok} {b : Int} {v3 : Value} {oD : Obj} {rd : List (Nat × Tok)} {ns : List Nd}
theorem done_c {ns0 : List Nd} {gf : Nat → Int}
  (F : Fr h₀ L s.heap m) (X₀ : (hd.heap_39 w.params).In h₀) (T : Tp mean mg mb h₀) (hroom : d + 20 < 1000)
  (N : News h₀ L s.heap (((self, instObj 158 sd) :: (sd, sdO w t1 t2 t3 t4 (.ref D) (.ref Rn) v3 (.int b t6)) :: (D, oD) :: (Rn, listOf #[] ep) :: gLed ns) ++ rest))
  (hdi : Dist (((self, instObj 158 sd) :: (sd, sdO w t1 t2 t3 t4 (.ref D) (.ref Rn) v3 (.int b t6)) :: (D, oD) :: (Rn, listOf #[] ep) :: gLed ns) ++ rest)) (hz : rd.length ≤ 50)
  (hG : Npf gf ns0 ns) (hnod : (ns0.map Nd.c).Nodup) (hD : Dk w oD (gKv ns0)) (lo : (D == sysModules) = false) (hb : 0 ≤ b ∧ b ≤ 50) (hin : ∀ p ∈ rd, p.1 ∈ ns0.map Nd.c) (hlen : rd.length = 1 ∨ rd.length = 2 ∨ rd.length = 6)
  (hgo : ∀ p ∈ rd, gf p.1 = -1) (hrn : (rd.map (·.1)).Nodup) (hsn : ((rd.flatMap fun p => scOf ns0 p.1).map (·.1)).Nodup) (hs1 : ∀ q ∈ rd.flatMap fun p => scOf ns0 p.1, gf q.1 = 1 ∧ q.1 ∈ ns0.map Nd.c) (hsl : (rd.flatMap fun p => scOf ns0 p.1).length ≤ 50)
  (k : ∀ h' tk' t6' ep' ns', Fr h₀ L h' m → News h₀ L h' (((self, instObj 158 sd) :: (sd, sdO w t1 t2 t3 t4 (.ref D) (.ref Rn) v3 (.int (b + rd.length) t6')) :: (D, oD) :: (Rn, listOf (strA (rd.flatMap fun p => scOf ns0 p.1)) ep') :: gLed ns') ++ rest) →
    Dist (((self, instObj 158 sd) :: (sd, sdO w t1 t2 t3 t4 (.ref D) (.ref Rn) v3 (.int (b + rd.length) t6')) :: (D, oD) :: (Rn, listOf (strA (rd.flatMap fun p => scOf ns0 p.1)) ep') :: gLed ns') ++ rest) →
    Npf (gDone gf (rd.map (·.1)) ((rd.flatMap fun p => scOf ns0 p.1).map (·.1))) ns0 ns' → R (.ok (.ret .none)) { s with heap := h', toks := tk' }) :
  codeAny (model PySem.Challenge.rw_mr0322_01.row.prog w) (Ar d env outer g u) (.call (.ref 141) ⟨.ref self :: (rd.map fun p => Value.str (sg p.1) p.2), []⟩) R s := by
  replace hD : Obj.IsDictOf (PySem.strKind PySem.Challenge.rw_mr0322_01.row.prog w) oD (gKv ns0) := hD
  k_dflt (refine' callNV (g₁ := fun T0 => some [(Str.ofString "self", .ref self), (Str.ofString "nodes", .ref T0)]) (vs := rd.map fun p => Value.str (sg p.1) p.2) (fp := (self, instObj 158 sd) :: (sd, sdO w t1 t2 t3 t4 (.ref D) (.ref Rn) v3 (.int b t6)) :: (D, oD) :: (Rn, listOf #[] ep) :: gLed ns) (rest := rest) (binds := fun T0 => [(Str.ofString "self", .ref self), (Str.ofString "nodes", .ref T0)]) F X₀ (by exact N) (by exact hdi) T ?k6 ?k7 ?k8 ?kP ?kG ?kB ?_ ?c2 ?c3 ?c4 ?c5)
  case k6 => k_is
  case k7 => k_is
  case k8 => k_room
  case kP =>
    clear hz hin N hdi
    match rd, hlen with
    | [_], _ => exact rfl
    | [_, _], _ => exact rfl
    | [_, _, _, _, _, _], _ => exact rfl
  case kG => exact fun _ => rfl
  case c5 => decide
  case kB => exact fun _ => locs rfl
  case c2 => exact rfl
  case c3 => exact rfl
  case c4 => exact rfl
  intro T0 g' L' h' st F' N' d' X' T'
  try dsimp only
  k_fold
  generalize htl : gLed ns = tl at *
  have d1 := dist_head d'
  have d2 := dist_head (dist_tail d')
  have d3 := dist_head (dist_tail (dist_tail d'))
  have d4 := dist_head (dist_tail (dist_tail (dist_tail d')))
  have d5 := dist_head (dist_tail (dist_tail (dist_tail (dist_tail d'))))
  (have na9 := na_of d1 (by walk_at "spl")); (repeat (have hx9 := na_head na9; replace na9 := na_tail na9)); clear na9; replace d1 := na_tl d1 (by walk_at "spl")
  (have na9 := na_of d2 (by walk_at "spl")); (repeat (have hx9 := na_head na9; replace na9 := na_tail na9)); clear na9; replace d2 := na_tl d2 (by walk_at "spl")
  (have na9 := na_of d3 (by walk_at "spl")); (repeat (have hx9 := na_head na9; replace na9 := na_tail na9)); clear na9; replace d3 := na_tl d3 (by walk_at "spl")
  (have na9 := na_of d4 (by walk_at "spl")); (repeat (have hx9 := na_head na9; replace na9 := na_tail na9)); clear na9; replace d4 := na_tl d4 (by walk_at "spl")
  k_steps
  refine forT (D := T0) (its := strA rd) (fun i m led _ => DI w T0 self sd D Rn t1 t2 t3 t4 v3 oD b rd gf ns0 i m led) rfl (by k_asm) (by k_asm) ?kp ?g0 ?ev ?turn ?fin
  case turn =>
    rintro i v I oI m led h gg tk tk' E' hv ⟨ns', t6', epi, rfl, hdi', hN', m1, m2, m3⟩ hle F N off hn
    obtain ⟨c, t, hct, rfl⟩ : ∃ c t, rd[i]? = some (c, t) ∧ v = .str (sg c) t := by
      rw [List.getElem?_toArray, List.getElem?_map] at hv
      cases e : rd[i]? with
      | none => rw [e] at hv; cases hv
      | some p => rw [e] at hv; cases hv; exact ⟨p.1, p.2, rfl, rfl⟩
    have hcm := List.mem_of_getElem? hct
    obtain ⟨pre, y, post, rfl, hyc, hyn, hya, hva, hup⟩ := hN'.at hnod (hin _ hcm)
    have hys := hN'.sc hnod y (List.mem_append_right _ List.mem_cons_self) hyc
    have hy1 : y.np = -1 := by
      rw [hyn]; unfold gDone
      rw [if_neg, if_neg, hgo _ hcm]
      · intro q
        obtain ⟨q1, hq1, e⟩ := List.mem_map.mp q
        have := (hs1 q1 (by
          obtain ⟨p, hp, h2⟩ := List.mem_flatMap.mp hq1
          exact List.mem_flatMap.mpr ⟨p, List.mem_of_mem_take hp, h2⟩)).1
        rw [e, hgo _ hcm] at this
        cases this
      · intro q
        have h2 : ((rd.take i).map (·.1) ++ [c]).Nodup := by
          have : (rd.take (i + 1)).map (·.1) = (rd.take i).map (·.1) ++ [c] := by rw [List.take_succ, hct, List.map_append]; rfl
          rw [← this]
          exact hrn.sublist ((List.take_sublist _ _).map _)
        exact (List.nodup_append.mp h2).2.2 c q c (List.mem_singleton.mpr rfl) rfl
    rw [gLed_split] at N hdi' off
    have pm := pull (((T0, tupO (strA rd)) :: (self, instObj 158 sd) :: (sd, sdO w t1 t2 t3 t4 (.ref D) (.ref Rn) v3 (.int (b + i) t6')) :: (D, oD) :: [(Rn, listOf (strA ((rd.take i).flatMap fun p => scOf ns0 p.1)) epi)]) ++ gLed pre) y.led (gLed post)
    simp only [List.append_assoc, List.cons_append, List.nil_append] at pm
    have hdiI := (dist_cons (a := I) (o := oI) off hdi').perm (List.Perm.cons _ pm)
    replace N := Mine.News.perm N (List.Perm.cons _ pm)
    generalize htl : gLed pre ++ gLed post = tl at *
    simp only [Nd.led, List.cons_append, List.nil_append] at N hdiI
    rw [hy1] at N
    have d1 := dist_head hdiI
    have d2 := dist_head (dist_tail hdiI)
    (have na9 := na_of d1 (by walk_at "spl")); (repeat (have hx9 := na_head na9; replace na9 := na_tail na9)); clear na9; replace d1 := na_tl d1 (by walk_at "spl")
    (have na9 := na_of d2 (by walk_at "spl")); (repeat (have hx9 := na_head na9; replace na9 := na_tail na9)); clear na9; replace d2 := na_tl d2 (by walk_at "spl")
    k_steps
    rename_i hX FX NX
    subst htl
    have pm2 := (pull (((T0, tupO (strA rd)) :: (self, instObj 158 sd) :: (sd, sdO w t1 t2 t3 t4 (.ref D) (.ref Rn) v3 (.int (b + i) t6')) :: (D, oD) :: [(Rn, listOf (strA ((rd.take i).flatMap fun p => scOf ns0 p.1)) epi)]) ++ gLed pre) ({ y with np := -2, pt := 223 } : Nd).led (gLed post)).symm
    simp only [List.append_assoc, List.cons_append, List.nil_append] at pm2
    rw [← gLed_split] at pm2
    have hd2 := Dist.perm (show Dist ((I, oI) :: (({ y with np := -2, pt := 223 } : Nd).led ++ (T0, tupO (strA rd)) :: (self, instObj 158 sd) :: (sd, sdO w t1 t2 t3 t4 (.ref D) (.ref Rn) v3 (.int (b + i) t6')) :: (D, oD) :: (Rn, listOf (strA ((rd.take i).flatMap fun p => scOf ns0 p.1)) epi) :: (gLed pre ++ gLed post))) from hdiI) (List.Perm.cons _ pm2)
    have N2 := Mine.News.perm NX (List.Perm.cons _ pm2)
    have hNy := hup (-2) 223
    clear pm pm2 hdiI d1 d2 N F hdi' off
    refine forM (D := y.S) (its := strA y.sc) (ep := y.ep) (fun j m led _ => DJ w I oI T0 self sd D Rn t1 t2 t3 t4 t6' v3 oD b rd gf ns0 i c (y.sc.take j) m led) rfl FX N2 ?kpI ?g0I ?evI ?mono ?turnI ?finI
    case kpI =>
      rintro j m led tk ⟨ns2, epj, rfl, _, hq, _⟩
      exact List.mem_cons_of_mem _ (List.mem_cons_of_mem _ (List.mem_cons_of_mem _ (List.mem_cons_of_mem _ (List.mem_cons_of_mem _ (List.mem_cons_of_mem _ (hN'.list hq y (List.mem_append_right _ List.mem_cons_self)))))))
    case mono => exact fun _ _ _ _ h _ => h
    case g0I =>
      refine ⟨_, epi, by rw [List.take_zero, List.append_nil], hd2, hNy.congr fun k hk => ?_, by walk_at "look", by walk_at "look", by walk_at "look"⟩
      rw [List.take_zero, List.append_nil]
      unfold gDone
      by_cases e1 : k = c
      · rw [if_pos e1, if_pos (List.mem_append_right _ (List.mem_singleton.mpr e1))]
      · rw [if_neg e1]
        by_cases e2 : k ∈ (rd.take i).map (·.1)
        · rw [if_pos e2, if_pos (List.mem_append_left _ e2)]
        · rw [if_neg e2, if_neg fun q => (List.mem_append.mp q).elim e2 fun q => e1 (List.mem_singleton.mp q)]
    case evI =>
      clear hd2 N2
      k_steps
      exact Nat.le_succ _
    case turnI =>
      rintro j v I2 oI2 m led h gg tk tk' E' hv ⟨ns2, epj, rfl, hdi', hN2, m1, m2, m3⟩ hle F N off hn
      obtain ⟨c2, tz, hct2, rfl⟩ : ∃ c2 tz, y.sc[j]? = some (c2, tz) ∧ v = .str (sg c2) tz := by
        rw [List.getElem?_toArray, List.getElem?_map] at hv
        cases e : y.sc[j]? with
        | none => rw [e] at hv; cases hv
        | some p => rw [e] at hv; cases hv; exact ⟨p.1, p.2, rfl, rfl⟩
      clear NX N2
      have hc2m : (c2, tz) ∈ rd.flatMap fun p => scOf ns0 p.1 := List.mem_flatMap.mpr ⟨(c, t), hcm, by rw [← hys]; exact List.mem_of_getElem? hct2⟩
      obtain ⟨pr2, z, po2, rfl, hzc, hzn, hza, hzv, hzu⟩ := hN2.at hnod (hs1 _ hc2m).2
      have hc2d : c2 ∉ (rd.take i).map (·.1) ++ [c] := fun q => by
        have h1 := (hs1 _ hc2m).1
        have h2 : gf c2 = -1 := by
          rcases List.mem_append.mp q with q | q
          · obtain ⟨p, hp, e⟩ := List.mem_map.mp q
            rw [← e]; exact hgo p (List.mem_of_mem_take hp)
          · rw [List.mem_singleton.mp q]; exact hgo _ hcm
        rw [h2] at h1; cases h1
      have eS : ((rd.take i).flatMap fun p => scOf ns0 p.1) ++ y.sc.take (j + 1) = (((rd.take i).flatMap fun p => scOf ns0 p.1) ++ y.sc.take j) ++ [(c2, tz)] := by
        rw [List.take_succ, hct2, List.append_assoc]; rfl
      have hsub : List.Sublist (((rd.take i).flatMap fun p => scOf ns0 p.1) ++ y.sc.take (j + 1)) (rd.flatMap fun p => scOf ns0 p.1) := by
        have e1 : rd = rd.take i ++ (c, t) :: rd.drop (i + 1) := by
          obtain ⟨hl, e⟩ := List.getElem?_eq_some_iff.mp hct
          rw [← e, ← List.drop_eq_getElem_cons hl, List.take_append_drop]
        conv => rhs; rw [e1]
        rw [List.flatMap_append, List.flatMap_cons, hys]
        exact List.Sublist.append (List.Sublist.refl _) ((List.take_sublist _ _).trans (List.sublist_append_left _ _))
      have hz1 : z.np = 1 := by
        rw [hzn]; unfold gDone
        rw [if_neg hc2d, if_neg, (hs1 _ hc2m).1]
        intro q
        have h3 := hsn.sublist (hsub.map (·.1))
        rw [eS, List.map_append] at h3
        exact (List.nodup_append.mp h3).2.2 c2 q c2 (List.mem_singleton.mpr rfl) rfl
      have hsz : (strA (((rd.take i).flatMap fun p => scOf ns0 p.1) ++ y.sc.take j)).size ≤ sizeLine := by
        rw [List.size_toArray, List.length_map]
        have h1 := hsub.length_le
        rw [eS, List.length_append] at h1
        exact Nat.le_trans (Nat.le_trans (Nat.le_of_succ_le h1) hsl) (by decide)
      rw [gLed_split] at N hdi' off
      have pm := pull (((I, oI) :: (T0, tupO (strA rd)) :: (self, instObj 158 sd) :: (sd, sdO w t1 t2 t3 t4 (.ref D) (.ref Rn) v3 (.int (b + i) t6')) :: (D, oD) :: [(Rn, listOf (strA (((rd.take i).flatMap fun p => scOf ns0 p.1) ++ y.sc.take j)) epj)]) ++ gLed pr2) z.led (gLed po2)
      simp only [List.append_assoc, List.cons_append, List.nil_append] at pm
      have hdiI := (dist_cons (a := I2) (o := oI2) off hdi').perm (List.Perm.cons _ pm)
      replace N := Mine.News.perm N (List.Perm.cons _ pm)
      generalize htl : gLed pr2 ++ gLed po2 = tl at *
      simp only [Nd.led, List.cons_append, List.nil_append] at N hdiI
      rw [hz1] at N
      have d1 := dist_head hdiI
      have d2 := dist_head (dist_tail hdiI)
      have d3 := dist_head (dist_tail (dist_tail hdiI))
      have d4 := dist_head (dist_tail (dist_tail (dist_tail hdiI)))
      have d5 := dist_head (dist_tail (dist_tail (dist_tail (dist_tail hdiI))))
      have d6 := dist_head (dist_tail (dist_tail (dist_tail (dist_tail (dist_tail hdiI)))))
      have d7 := dist_head (dist_tail (dist_tail (dist_tail (dist_tail (dist_tail (dist_tail hdiI))))))
      have d8 := dist_head (dist_tail (dist_tail (dist_tail (dist_tail (dist_tail (dist_tail (dist_tail hdiI)))))))
      have d9 := dist_head (dist_tail (dist_tail (dist_tail (dist_tail (dist_tail (dist_tail (dist_tail (dist_tail hdiI))))))))
      have d10 := dist_head (dist_tail (dist_tail (dist_tail (dist_tail (dist_tail (dist_tail (dist_tail (dist_tail (dist_tail hdiI)))))))))
      (have na9 := na_of d1 (by walk_at "spl")); (repeat (have hx9 := na_head na9; replace na9 := na_tail na9)); clear na9; replace d1 := na_tl d1 (by walk_at "spl")
      (have na9 := na_of d2 (by walk_at "spl")); (repeat (have hx9 := na_head na9; replace na9 := na_tail na9)); clear na9; replace d2 := na_tl d2 (by walk_at "spl")
      (have na9 := na_of d3 (by walk_at "spl")); (repeat (have hx9 := na_head na9; replace na9 := na_tail na9)); clear na9; replace d3 := na_tl d3 (by walk_at "spl")
      (have na9 := na_of d4 (by walk_at "spl")); (repeat (have hx9 := na_head na9; replace na9 := na_tail na9)); clear na9; replace d4 := na_tl d4 (by walk_at "spl")
      (have na9 := na_of d5 (by walk_at "spl")); (repeat (have hx9 := na_head na9; replace na9 := na_tail na9)); clear na9; replace d5 := na_tl d5 (by walk_at "spl")
      (have na9 := na_of d6 (by walk_at "spl")); (repeat (have hx9 := na_head na9; replace na9 := na_tail na9)); clear na9; replace d6 := na_tl d6 (by walk_at "spl")
      (have na9 := na_of d7 (by walk_at "spl")); (repeat (have hx9 := na_head na9; replace na9 := na_tail na9)); clear na9; replace d7 := na_tl d7 (by walk_at "spl")
      (have na9 := na_of d8 (by walk_at "spl")); (repeat (have hx9 := na_head na9; replace na9 := na_tail na9)); clear na9; replace d8 := na_tl d8 (by walk_at "spl")
      (have na9 := na_of d9 (by walk_at "spl")); (repeat (have hx9 := na_head na9; replace na9 := na_tail na9)); clear na9; replace d9 := na_tl d9 (by walk_at "spl")
      k_steps
      rename_i h9 F9 N9
      subst htl
      rw [strA_push] at N9
      have eJ : y.sc.take (j + 1) = y.sc.take j ++ [(c2, tz)] := by rw [List.take_succ, hct2]; rfl
      refine ⟨_, _, _, _, rfl, F9, nodeN [(I, oI), (T0, tupO (strA rd)), (self, instObj 158 sd), (sd, sdO w t1 t2 t3 t4 (.ref D) (.ref Rn) v3 (.int (b + i) t6')), (D, oD), (Rn, listOf (strA ((((rd.take i).flatMap fun p => scOf ns0 p.1) ++ y.sc.take j) ++ [(c2, tz)])) (epj + 1))] pr2 po2 { z with np := 0, pt := _ } N9, ?_, _, epj + 1, by rw [eJ, ← List.append_assoc]; rfl, ?_, (hzu 0 _).congr fun k hk => ?_, by walk_at "look", by walk_at "look", by walk_at "look"⟩
      · exact dist_head (nodeD [(I, oI), (T0, tupO (strA rd)), (self, instObj 158 sd), (sd, sdO w t1 t2 t3 t4 (.ref D) (.ref Rn) v3 (.int (b + i) t6')), (D, oD), (Rn, listOf (strA ((((rd.take i).flatMap fun p => scOf ns0 p.1) ++ y.sc.take j) ++ [(c2, tz)])) (epj + 1))] pr2 po2 { z with np := 0, pt := _ } (X := (I2, oI2)) hdiI)
      · exact dist_tail (nodeD [(I, oI), (T0, tupO (strA rd)), (self, instObj 158 sd), (sd, sdO w t1 t2 t3 t4 (.ref D) (.ref Rn) v3 (.int (b + i) t6')), (D, oD), (Rn, listOf (strA ((((rd.take i).flatMap fun p => scOf ns0 p.1) ++ y.sc.take j) ++ [(c2, tz)])) (epj + 1))] pr2 po2 { z with np := 0, pt := _ } (X := (I2, oI2)) hdiI)
      · have e3 : ((((rd.take i).flatMap fun p => scOf ns0 p.1) ++ y.sc.take j) ++ [(c2, tz)]).map (·.1) = (((rd.take i).flatMap fun p => scOf ns0 p.1) ++ y.sc.take j).map (·.1) ++ [c2] := List.map_append
        rw [eS, e3]
        exact gDone_one hc2d
    case finI =>
      clear NX N2
      rintro m led h tk tk' ⟨ns2, epj, rfl, hdi', hN2, m1, m2, m3⟩ hle F N hn
      have d1 := dist_head hdi'
      have d2 := dist_head (dist_tail hdi')
      have d3 := dist_head (dist_tail (dist_tail hdi'))
      have d4 := dist_head (dist_tail (dist_tail (dist_tail hdi')))
      (have na9 := na_of d1 (by walk_at "spl")); (repeat (have hx9 := na_head na9; replace na9 := na_tail na9)); clear na9; replace d1 := na_tl d1 (by walk_at "spl")
      (have na9 := na_of d2 (by walk_at "spl")); (repeat (have hx9 := na_head na9; replace na9 := na_tail na9)); clear na9; replace d2 := na_tl d2 (by walk_at "spl")
      (have na9 := na_of d3 (by walk_at "spl")); (repeat (have hx9 := na_head na9; replace na9 := na_tail na9)); clear na9; replace d3 := na_tl d3 (by walk_at "spl")
      (have na9 := na_of d4 (by walk_at "spl")); (repeat (have hx9 := na_head na9; replace na9 := na_tail na9)); clear na9; replace d4 := na_tl d4 (by walk_at "spl")
      generalize htl : gLed ns2 = tl at *
      k_steps
      rename_i h9 F9 N9
      subst htl
      have eT : rd.take (i + 1) = rd.take i ++ [(c, t)] := by rw [List.take_succ, hct]; rfl
      have eY : y.sc.take (strA y.sc).size = y.sc := List.take_of_length_le (by rw [List.size_toArray, List.length_map]; exact Nat.le_refl _)
      have eF : (rd.take (i + 1)).flatMap (fun p => scOf ns0 p.1) = ((rd.take i).flatMap fun p => scOf ns0 p.1) ++ y.sc.take (strA y.sc).size := by
        rw [eT, List.flatMap_append, eY, hys]; simp
      have eM : (rd.take (i + 1)).map (·.1) = (rd.take i).map (·.1) ++ [c] := by rw [eT, List.map_append]; rfl
      have eB : b + ((i + 1 : Nat) : Int) = b + i + 1 := by omega
      refine ⟨_, _, _, _, rfl, F9, N9, dist_head hdi', ns2, _, epj, by rw [eF, eB], dist_tail hdi', by rw [eF, eM]; exact hN2, by walk_at "look", by walk_at "look", by walk_at "look"⟩
  case kp =>
    rintro i m led tk ⟨ns', t6', epi, rfl, _⟩
    k_mem
  case g0 =>
    subst htl
    have e0 : b + ((0 : Nat) : Int) = b := Int.add_zero b
    refine ⟨ns, t6, ep, by rw [e0]; rfl, d', hG.congr fun k hk => by simp [gDone], rfl, rfl, rfl⟩
  case ev =>
    k_steps
  case fin =>
    rintro m led h tk tk' ⟨ns', t6', epi, rfl, hdi', hN', m1, m2, m3⟩ hle F N hn
    have e8 : rd.take (strA rd).size = rd := List.take_of_length_le (by rw [List.size_toArray, List.length_map]; exact Nat.le_refl _)
    have e9 : ((strA rd).size : Int) = rd.length := by rw [List.size_toArray, List.length_map]
    rw [e8] at N hN' hdi'
    rw [e9] at N hdi'
    k_steps
    exact ⟨_, _, (self, instObj 158 sd) :: _ :: _ :: _ :: gLed ns', F, News.sub N fun p hp => List.mem_cons_of_mem _ hp, dist_tail hdi', fun kF kN kD => k _ _ _ _ ns' kF kN kD hN'⟩
end
theorem noneC17 : True := by
  k_with_none
  trivial
noncomputable abbrev soL (w : World) (self sd D : Nat) (oD : Obj) (t1 t2 t3 t4 : Tok) (v2 v3 v4 : Value) : Led := [(self, instObj 158 sd), (sd, sdO w t1 t2 t3 t4 (.ref D) v2 v3 v4), (D, oD)]
theorem perm_new {α : Type} (a b d : α) (so G rest : List α) : (a :: b :: d :: (so ++ (G ++ rest))).Perm (so ++ ((G ++ [b, d, a]) ++ rest)) := by
  have h1 := (pull (so ++ G) [b, d, a] rest).symm
  have h2 : (a :: b :: d :: (so ++ (G ++ rest))).Perm ([b, d, a] ++ ((so ++ G) ++ rest)) := by
    rw [List.append_assoc]
    exact List.Perm.append_right (so ++ (G ++ rest)) (List.perm_append_comm (l₁ := [a]) (l₂ := [b, d]))
  have h3 := h2.trans h1
  simpa only [List.append_assoc] using h3
theorem gLed_app (a b : List Nd) : gLed (a ++ b) = gLed a ++ gLed b := by unfold gLed; rw [List.flatMap_append]
theorem gLed_one (x : Nd) : gLed [x] = x.led := by unfold gLed; rw [List.flatMap_cons, List.flatMap_nil, List.append_nil]
theorem dist_eq {a b : Led} (h : Dist a) (e : b.map (·.1) = a.map (·.1)) : Dist b := by unfold Dist at *; rw [e]; exact h
theorem gLed_snoc (a : List Nd) (x : Nd) : gLed (a ++ [x]) = gLed a ++ x.led := by rw [gLed_app, gLed_one]
theorem gKv_app (a b : List Nd) : gKv (a ++ b) = gKv a ++ gKv b := List.map_append
theorem no_key {ns : List Nd} {c : Nat} (h : c ∉ ns.map Nd.c) : PySem.valueAt (gKv ns) (sg c) = none :=
  valueAt_none_of_not_mem fun q => by
    obtain ⟨p, hp, e⟩ := List.mem_map.mp q
    obtain ⟨x, hx, rfl⟩ := List.mem_map.mp hp
    exact h (sg_inj e ▸ List.mem_map_of_mem hx)
theorem at_key {pre post : List Nd} {y : Nd} (h : y.c ∉ pre.map Nd.c) : PySem.valueAt (gKv (pre ++ y :: post)) (sg y.c) = some (.ref y.I) := by
  induction pre with
  | nil => simp [PySem.valueAt, gKv]
  | cons x r ih =>
    have h1 : ¬ x.c = y.c := fun q => h (by rw [← q]; exact List.mem_cons_self)
    have h2 := ih fun q => h (List.mem_cons_of_mem _ q)
    unfold PySem.valueAt gKv at h2 ⊢
    rw [List.cons_append, List.map_cons, List.find?_cons, show decide ((sg x.c, Value.ref x.I).1 = sg y.c) = false from decide_eq_false fun q => h1 (sg_inj q)]
    exact h2
theorem at_more {kvs : List (Str × Value)} {k k' : Str} {v v' : Value} (h : PySem.valueAt kvs k = some v) (hn : PySem.valueAt kvs k' = none) : PySem.valueAt (PySem.stored kvs k' v') k = some v := by
  rw [stored_absent hn]
  unfold PySem.valueAt at h ⊢
  rw [List.find?_append]
  cases e : kvs.find? (fun kv => kv.1 = k) with
  | none => rw [e] at h; cases h
  | some x => rw [e] at h; simpa using h
theorem kv_size {ns : List Nd} (h : ns.length ≤ 50) : (gKv ns).length ≤ sizeLine := by
  unfold gKv; rw [List.length_map]; exact Nat.le_trans h (by decide)
section
variable {w : World} {A₀ : Around} {s : Shared} {base h₀ : Heap} {outer : List Env} {L : Addr} {m : Str → Option Value} {env : Env} {rest : Led}
  {R : Result → Shared → Prop} {mean : ExcName → Option Value} {mg mb : Str → Option Value} {d u : Nat} {g : Option (List Code)} {self sd D : Nat} {t1 t2 t3 t4 tk tk2 : Tok} {v3 v4 : Value} {oD : Obj} {ns : List Nd} {c p : Nat}
theorem add_fresh
  (B : Below A₀ base outer h₀) (F : Fr h₀ L s.heap m) (X₀ : (hd.heap_39 w.params).In h₀) (T : Tp mean mg mb h₀)
  (hf : env.frame = some L) (hke : env.scope.kind = .function) (hroom : d + 50 < 1000)
  (N : News h₀ L s.heap (soL w self sd D oD t1 t2 t3 t4 .none v3 v4 ++ (gLed ns ++ rest))) (hdi : Dist (soL w self sd D oD t1 t2 t3 t4 .none v3 v4 ++ (gLed ns ++ rest)))
  (hD : Dk w oD (gKv ns)) (lo : (D == sysModules) = false) (hc : c ∉ ns.map Nd.c) (hsz : ns.length ≤ 50)
  (k : ∀ h' tk' x oD', x.c = c → x.nt = tk → x.np = 0 → x.sc = [] → Fr h₀ L h' m → News h₀ L h' (soL w self sd D oD' t1 t2 t3 t4 .none v3 v4 ++ (gLed (ns ++ [x]) ++ rest)) →
    Dist (soL w self sd D oD' t1 t2 t3 t4 .none v3 v4 ++ (gLed (ns ++ [x]) ++ rest)) → Dk w oD' (gKv (ns ++ [x])) → R (.ok (.ret .none)) { s with heap := h', toks := tk' }) :
  codeAny (model PySem.Challenge.rw_mr0322_01.row.prog w) (Ar d env outer g u) (.call (.ref 108) ⟨[.ref self, .str (sg c) tk], []⟩) R s := by
  have d1 := dist_head hdi
  have d2 := dist_head (dist_tail hdi)
  have d3 := dist_head (dist_tail (dist_tail hdi))
  refine add0 B F X₀ T hf hke hroom (by exact N) (fa_tail (fa_tail d1)) (fa_tail d2) d3 (Ne.symm (fa_head d1)) (Ne.symm (fa_head (fa_tail d1))) (Ne.symm (fa_head d2)) hD lo (no_key hc) (kv_size hsz) ?_
  intro h' tk' I dI S pt oD' F' N' hD' e1 e2 e3
  have pm := perm_new (S, listOf #[] 0) (I, infO dI (sg c) tk 0 pt S) (dI, dictOf [] 0) (soL w self sd D oD' t1 t2 t3 t4 .none v3 v4) (gLed ns) rest
  have hx : gLed ns ++ [(I, infO dI (sg c) tk 0 pt S), (dI, dictOf [] 0), (S, listOf #[] 0)] = gLed (ns ++ [⟨c, I, dI, S, tk, pt, 0, [], 0⟩]) := by
    rw [gLed_snoc]; rfl
  rw [hx] at pm
  refine k h' tk' ⟨c, I, dI, S, tk, pt, 0, [], 0⟩ oD' rfl rfl rfl rfl F' (Mine.News.perm N' pm) (Dist.perm (dist_cons e1 (dist_cons e2 (dist_cons e3 hdi))) pm) ?_
  rw [stored_absent (no_key hc)] at hD'
  rw [gKv_app]; exact hD'
theorem add_leaf {pre post : List Nd} {y : Nd}
  (B : Below A₀ base outer h₀) (F : Fr h₀ L s.heap m) (X₀ : (hd.heap_39 w.params).In h₀) (T : Tp mean mg mb h₀)
  (hf : env.frame = some L) (hke : env.scope.kind = .function) (hroom : d + 50 < 1000)
  (N : News h₀ L s.heap (soL w self sd D oD t1 t2 t3 t4 .none v3 v4 ++ (gLed (pre ++ y :: post) ++ rest))) (hdi : Dist (soL w self sd D oD t1 t2 t3 t4 .none v3 v4 ++ (gLed (pre ++ y :: post) ++ rest)))
  (hD : Dk w oD (gKv (pre ++ y :: post))) (lo : (D == sysModules) = false) (hc : c ∉ (pre ++ y :: post).map Nd.c) (hy : y.c ∉ pre.map Nd.c) (hsz : (pre ++ y :: post).length ≤ 50) (hsc : y.sc.length ≤ 50)
  (k : ∀ h' tk' x oD', x.c = c → x.nt = tk → x.np = 1 → x.sc = [] → Fr h₀ L h' m → News h₀ L h' (soL w self sd D oD' t1 t2 t3 t4 .none v3 v4 ++ (gLed (pre ++ { y with sc := y.sc ++ [(c, tk)], ep := y.ep + 1 } :: (post ++ [x])) ++ rest)) →
    Dist (soL w self sd D oD' t1 t2 t3 t4 .none v3 v4 ++ (gLed (pre ++ { y with sc := y.sc ++ [(c, tk)], ep := y.ep + 1 } :: (post ++ [x])) ++ rest)) → Dk w oD' (gKv (pre ++ y :: (post ++ [x]))) → R (.ok (.ret .none)) { s with heap := h', toks := tk' }) :
  codeAny (model PySem.Challenge.rw_mr0322_01.row.prog w) (Ar d env outer g u) (.call (.ref 108) ⟨[.ref self, .str (sg c) tk, .str (sg y.c) tk2], []⟩) R s := by
  have pm0 := pull (soL w self sd D oD t1 t2 t3 t4 .none v3 v4) (gLed (pre ++ y :: post)) rest
  have pm := List.Perm.append_left (soL w self sd D oD t1 t2 t3 t4 .none v3 v4) (pull (gLed pre) y.led (gLed post ++ rest))
  rw [show gLed pre ++ (y.led ++ (gLed post ++ rest)) = gLed (pre ++ y :: post) ++ rest by rw [gLed_split]; simp only [List.append_assoc]] at pm
  have hd' := hdi.perm pm
  have d1 := dist_head hd'
  have d2 := dist_head (dist_tail hd')
  have d3 := dist_head (dist_tail (dist_tail hd'))
  have d4 := dist_head (dist_tail (dist_tail (dist_tail hd')))
  have d5 := dist_head (dist_tail (dist_tail (dist_tail (dist_tail hd'))))
  have d6 := dist_head (dist_tail (dist_tail (dist_tail (dist_tail (dist_tail hd')))))
  have e11 := fa_head d1; replace d1 := fa_tail d1
  have e12 := fa_head d1; replace d1 := fa_tail d1
  have e13 := fa_head d1; replace d1 := fa_tail d1
  have e14 := fa_head d1; replace d1 := fa_tail d1
  have e15 := fa_head d1; replace d1 := fa_tail d1
  have e21 := fa_head d2; replace d2 := fa_tail d2
  have e22 := fa_head d2; replace d2 := fa_tail d2
  have e23 := fa_head d2; replace d2 := fa_tail d2
  have e24 := fa_head d2; replace d2 := fa_tail d2
  have e31 := fa_head d3; replace d3 := fa_tail d3
  have e32 := fa_head d3; replace d3 := fa_tail d3
  have e33 := fa_head d3; replace d3 := fa_tail d3
  have e41 := fa_head d4; replace d4 := fa_tail d4
  have e42 := fa_head d4; replace d4 := fa_tail d4
  have e51 := fa_head d5; replace d5 := fa_tail d5
  refine add1 B F X₀ T hf hke hroom (I0 := y.I) (dI0 := y.dI) (S0 := y.S) (its := strA y.sc) (rest := gLed pre ++ (gLed post ++ rest)) (t5 := y.nt) (t6 := y.pt) (np0 := y.np) (ep := y.ep) (by exact Mine.News.perm N pm) d1 d2 d3 d4 d5 d6
    e11.symm e12.symm e13.symm e14.symm e15.symm e21.symm e22.symm e23.symm e24.symm e31.symm e32.symm e33.symm e41.symm e42.symm e51.symm hD lo (no_key hc) (fun v => at_more (at_key hy) (no_key hc)) (kv_size hsz) ?_ ?_
  · rw [List.size_toArray, List.length_map]; exact Nat.le_trans hsc (by decide)
  intro h' tk' I dI S pt oD' F' N' hD' e1 e2 e3
  have pm2 := perm_new (S, listOf #[] 0) (I, infO dI (sg c) tk 1 pt S) (dI, dictOf [] 0) (soL w self sd D oD' t1 t2 t3 t4 .none v3 v4) (gLed (pre ++ { y with sc := y.sc ++ [(c, tk)], ep := y.ep + 1 } :: post)) rest
  have hx : gLed (pre ++ { y with sc := y.sc ++ [(c, tk)], ep := y.ep + 1 } :: post) ++ [(I, infO dI (sg c) tk 1 pt S), (dI, dictOf [] 0), (S, listOf #[] 0)] = gLed (pre ++ { y with sc := y.sc ++ [(c, tk)], ep := y.ep + 1 } :: (post ++ [⟨c, I, dI, S, tk, pt, 1, [], 0⟩])) := by
    rw [← List.cons_append, ← List.append_assoc, gLed_snoc]; rfl
  rw [hx] at pm2
  have hl : ∀ o', (S, listOf #[] 0) :: (I, infO dI (sg c) tk 1 pt S) :: (dI, dictOf [] 0) :: (self, instObj 158 sd) :: (sd, sdO w t1 t2 t3 t4 (.ref D) .none v3 v4) :: (D, o') :: (y.I, infO y.dI (sg y.c) y.nt y.np y.pt y.S) :: (y.dI, dictOf [] 0) :: (y.S, listOf ((strA y.sc).push (.str (sg c) tk)) (y.ep + 1)) :: (gLed pre ++ (gLed post ++ rest)) =
    (S, listOf #[] 0) :: (I, infO dI (sg c) tk 1 pt S) :: (dI, dictOf [] 0) :: (soL w self sd D o' t1 t2 t3 t4 .none v3 v4 ++ ({ y with sc := y.sc ++ [(c, tk)], ep := y.ep + 1 } : Nd).led ++ (gLed pre ++ (gLed post ++ rest))) := fun o' => by
      show _ = _ :: _ :: _ :: _ :: _ :: _ :: _ :: _ :: (y.S, listOf ((y.sc ++ [(c, tk)]).map fun p => Value.str (sg p.1) p.2).toArray (y.ep + 1)) :: _
      rw [List.map_append, List.push_toArray]; rfl
  have pm3 := List.Perm.append_left (soL w self sd D oD' t1 t2 t3 t4 .none v3 v4) (pull (gLed pre) ({ y with sc := y.sc ++ [(c, tk)], ep := y.ep + 1 } : Nd).led (gLed post ++ rest)).symm
  rw [show gLed pre ++ (({ y with sc := y.sc ++ [(c, tk)], ep := y.ep + 1 } : Nd).led ++ (gLed post ++ rest)) = gLed (pre ++ { y with sc := y.sc ++ [(c, tk)], ep := y.ep + 1 } :: post) ++ rest by rw [gLed_split]; simp only [List.append_assoc]] at pm3
  have pm4 := (List.Perm.cons (S, listOf #[] 0) (List.Perm.cons (I, infO dI (sg c) tk 1 pt S) (List.Perm.cons (dI, dictOf [] 0) pm3))).trans pm2
  rw [hl oD', List.append_assoc] at N'
  refine k h' tk' ⟨c, I, dI, S, tk, pt, 1, [], 0⟩ oD' rfl rfl rfl rfl F' (Mine.News.perm N' pm4) (Dist.perm (dist_eq (dist_cons e1 (dist_cons e2 (dist_cons e3 hd'))) (by rfl)) pm4) ?_
  rw [stored_absent (no_key hc)] at hD'
  rw [← List.cons_append, ← List.append_assoc, gKv_app]; exact hD'
theorem stored_no {kvs : List (Str × Value)} {k k' : Str} {v : Value} (h : PySem.valueAt kvs k = none) (hn : PySem.valueAt kvs k' = none) (hne : k' ≠ k) : PySem.valueAt (PySem.stored kvs k' v) k = none := by
  rw [stored_absent hn]
  unfold PySem.valueAt at h ⊢
  rw [List.find?_append]
  cases e : kvs.find? (fun kv => kv.1 = k) with
  | some x => rw [e] at h; cases h
  | none => simp [hne]
theorem add_pair
  (B : Below A₀ base outer h₀) (F : Fr h₀ L s.heap m) (X₀ : (hd.heap_39 w.params).In h₀) (T : Tp mean mg mb h₀)
  (hf : env.frame = some L) (hke : env.scope.kind = .function) (hroom : d + 50 < 1000)
  (N : News h₀ L s.heap (soL w self sd D oD t1 t2 t3 t4 .none v3 v4 ++ (gLed ns ++ rest))) (hdi : Dist (soL w self sd D oD t1 t2 t3 t4 .none v3 v4 ++ (gLed ns ++ rest)))
  (hD : Dk w oD (gKv ns)) (lo : (D == sysModules) = false) (hc : c ∉ ns.map Nd.c) (hp : p ∉ ns.map Nd.c) (hcp : c ≠ p) (hsz : ns.length ≤ 50)
  (k : ∀ h' tk' x y oD', x.c = c → x.nt = tk → x.np = 1 → x.sc = [] → y.c = p → y.np = 0 → y.sc = [(c, tk)] → Fr h₀ L h' m → News h₀ L h' (soL w self sd D oD' t1 t2 t3 t4 .none v3 v4 ++ (gLed (ns ++ [x, y]) ++ rest)) →
    Dist (soL w self sd D oD' t1 t2 t3 t4 .none v3 v4 ++ (gLed (ns ++ [x, y]) ++ rest)) → Dk w oD' (gKv (ns ++ [x, y])) → R (.ok (.ret .none)) { s with heap := h', toks := tk' }) :
  codeAny (model PySem.Challenge.rw_mr0322_01.row.prog w) (Ar d env outer g u) (.call (.ref 108) ⟨[.ref self, .str (sg c) tk, .str (sg p) tk2], []⟩) R s := by
  have d1 := dist_head hdi
  have d2 := dist_head (dist_tail hdi)
  have d3 := dist_head (dist_tail (dist_tail hdi))
  have hne : sg c ≠ sg p := fun q => hcp (sg_inj q)
  refine add2 B F X₀ T hf hke hroom (by exact N) (fa_tail (fa_tail d1)) (fa_tail d2) d3 (Ne.symm (fa_head d1)) (Ne.symm (fa_head (fa_tail d1))) (Ne.symm (fa_head d2)) hD lo (no_key hc) (fun v => stored_no (no_key hp) (no_key hc) hne) (kv_size hsz) (fun v => Nat.le_trans (PySem.stored_length_le _ _ _) ?_) ?_
  · unfold gKv; rw [List.length_map]; exact Nat.le_trans (Nat.succ_le_succ hsz) (by decide)
  intro h' tk' I dI S J dJ W pt pt2 oD' F' N' hD' e1 e2 e3 e4 e5 e6
  have pm1 := perm_new (S, listOf #[] 0) (I, infO dI (sg c) tk 1 pt S) (dI, dictOf [] 0) (soL w self sd D oD' t1 t2 t3 t4 .none v3 v4) (gLed ns) rest
  have hx : gLed ns ++ [(I, infO dI (sg c) tk 1 pt S), (dI, dictOf [] 0), (S, listOf #[] 0)] = gLed (ns ++ [⟨c, I, dI, S, tk, pt, 1, [], 0⟩]) := by
    rw [gLed_snoc]; rfl
  rw [hx] at pm1
  have pm2 := perm_new (W, listOf (#[].push (.str (sg c) tk)) 1) (J, infO dJ (sg p) tk2 0 pt2 W) (dJ, dictOf [] 0) (soL w self sd D oD' t1 t2 t3 t4 .none v3 v4) (gLed (ns ++ [⟨c, I, dI, S, tk, pt, 1, [], 0⟩])) rest
  have hy : gLed (ns ++ [⟨c, I, dI, S, tk, pt, 1, [], 0⟩]) ++ [(J, infO dJ (sg p) tk2 0 pt2 W), (dJ, dictOf [] 0), (W, listOf (#[].push (.str (sg c) tk)) 1)] = gLed (ns ++ [⟨c, I, dI, S, tk, pt, 1, [], 0⟩, ⟨p, J, dJ, W, tk2, pt2, 0, [(c, tk)], 1⟩]) := by
    rw [show ns ++ [(⟨c, I, dI, S, tk, pt, 1, [], 0⟩ : Nd), ⟨p, J, dJ, W, tk2, pt2, 0, [(c, tk)], 1⟩] = (ns ++ [⟨c, I, dI, S, tk, pt, 1, [], 0⟩]) ++ [⟨p, J, dJ, W, tk2, pt2, 0, [(c, tk)], 1⟩] by rw [List.append_assoc]; rfl]
    rw [gLed_snoc (ns ++ _)]; rfl
  rw [hy] at pm2
  have pm := (List.Perm.cons (W, listOf (#[].push (.str (sg c) tk)) 1) (List.Perm.cons (J, infO dJ (sg p) tk2 0 pt2 W) (List.Perm.cons (dJ, dictOf [] 0) pm1))).trans pm2
  refine k h' tk' ⟨c, I, dI, S, tk, pt, 1, [], 0⟩ ⟨p, J, dJ, W, tk2, pt2, 0, [(c, tk)], 1⟩ oD' rfl rfl rfl rfl rfl rfl rfl F' (Mine.News.perm N' pm) (Dist.perm (dist_eq (dist_cons e1 (dist_cons e2 (dist_cons e3 (dist_cons e4 (dist_cons e5 (dist_cons e6 hdi)))))) (by rfl)) pm) ?_
  rw [stored_absent (stored_no (no_key hp) (no_key hc) hne), stored_absent (no_key hc)] at hD'
  rw [gKv_app]
  rw [List.append_assoc] at hD'
  exact hD'
theorem add_back {x y : Nd}
  (B : Below A₀ base outer h₀) (F : Fr h₀ L s.heap m) (X₀ : (hd.heap_39 w.params).In h₀) (T : Tp mean mg mb h₀)
  (hf : env.frame = some L) (hke : env.scope.kind = .function) (hroom : d + 50 < 1000)
  (N : News h₀ L s.heap (soL w self sd D oD t1 t2 t3 t4 .none v3 v4 ++ (gLed (ns ++ [x, y]) ++ rest))) (hdi : Dist (soL w self sd D oD t1 t2 t3 t4 .none v3 v4 ++ (gLed (ns ++ [x, y]) ++ rest)))
  (hD : Dk w oD (gKv (ns ++ [x, y]))) (lo : (D == sysModules) = false) (hx : x.c ∉ ns.map Nd.c) (hy : y.c ∉ ns.map Nd.c) (hxy : x.c ≠ y.c) (hsc : x.sc.length ≤ 50)
  (k : ∀ h' tk' pt, Fr h₀ L h' m → News h₀ L h' (soL w self sd D oD t1 t2 t3 t4 .none v3 v4 ++ (gLed (ns ++ [{ x with sc := x.sc ++ [(y.c, tk)], ep := x.ep + 1 }, { y with np := y.np + 1, pt := pt }]) ++ rest)) →
    Dist (soL w self sd D oD t1 t2 t3 t4 .none v3 v4 ++ (gLed (ns ++ [{ x with sc := x.sc ++ [(y.c, tk)], ep := x.ep + 1 }, { y with np := y.np + 1, pt := pt }]) ++ rest)) → R (.ok (.ret .none)) { s with heap := h', toks := tk' }) :
  codeAny (model PySem.Challenge.rw_mr0322_01.row.prog w) (Ar d env outer g u) (.call (.ref 108) ⟨[.ref self, .str (sg y.c) tk, .str (sg x.c) tk2], []⟩) R s := by
  have two : ∀ (a b : Nd), gLed (ns ++ [a, b]) ++ rest = gLed ns ++ (([(a.I, infO a.dI (sg a.c) a.nt a.np a.pt a.S), (a.dI, dictOf [] 0), (a.S, listOf (strA a.sc) a.ep)] ++ [(b.I, infO b.dI (sg b.c) b.nt b.np b.pt b.S), (b.dI, dictOf [] 0), (b.S, listOf (strA b.sc) b.ep)]) ++ rest) := fun a b => by
    rw [show ns ++ [a, b] = (ns ++ [a]) ++ [b] by rw [List.append_assoc]; rfl, gLed_snoc, gLed_snoc]
    simp only [List.append_assoc]; rfl
  have per : ∀ (a b : Nd), (gLed (ns ++ [a, b]) ++ rest).Perm ((b.I, infO b.dI (sg b.c) b.nt b.np b.pt b.S) :: (b.dI, dictOf [] 0) :: (a.I, infO a.dI (sg a.c) a.nt a.np a.pt a.S) :: (a.dI, dictOf [] 0) :: (a.S, listOf (strA a.sc) a.ep) :: ((b.S, listOf (strA b.sc) b.ep) :: (gLed ns ++ rest))) := fun a b => by
    rw [two]
    refine (pull _ _ _).trans ?_
    have e : ∀ (A1 A2 A3 B1 B2 B3 : Addr × Obj), ([A1, A2, A3] ++ [B1, B2, B3]).Perm [B1, B2, A1, A2, A3, B3] := fun A1 A2 A3 B1 B2 B3 => pull [A1, A2, A3] [B1, B2] [B3]
    exact List.Perm.append_right (gLed ns ++ rest) (e _ _ _ _ _ _)
  have pm := List.Perm.append_left (soL w self sd D oD t1 t2 t3 t4 .none v3 v4) (per x y)
  have hd' := hdi.perm pm
  have d1 := dist_head hd'
  have d2 := dist_head (dist_tail hd')
  have d3 := dist_head (dist_tail (dist_tail hd'))
  have d4 := dist_head (dist_tail (dist_tail (dist_tail hd')))
  have d5 := dist_head (dist_tail (dist_tail (dist_tail (dist_tail hd'))))
  have d6 := dist_head (dist_tail (dist_tail (dist_tail (dist_tail (dist_tail hd')))))
  have d7 := dist_head (dist_tail (dist_tail (dist_tail (dist_tail (dist_tail (dist_tail hd'))))))
  have d8 := dist_head (dist_tail (dist_tail (dist_tail (dist_tail (dist_tail (dist_tail (dist_tail hd')))))))
  have e11 := fa_head d1; replace d1 := fa_tail d1
  have e12 := fa_head d1; replace d1 := fa_tail d1
  have e13 := fa_head d1; replace d1 := fa_tail d1
  have e14 := fa_head d1; replace d1 := fa_tail d1
  have e15 := fa_head d1; replace d1 := fa_tail d1
  have e16 := fa_head d1; replace d1 := fa_tail d1
  have e17 := fa_head d1; replace d1 := fa_tail d1
  have e21 := fa_head d2; replace d2 := fa_tail d2
  have e22 := fa_head d2; replace d2 := fa_tail d2
  have e23 := fa_head d2; replace d2 := fa_tail d2
  have e24 := fa_head d2; replace d2 := fa_tail d2
  have e25 := fa_head d2; replace d2 := fa_tail d2
  have e26 := fa_head d2; replace d2 := fa_tail d2
  have e31 := fa_head d3; replace d3 := fa_tail d3
  have e32 := fa_head d3; replace d3 := fa_tail d3
  have e33 := fa_head d3; replace d3 := fa_tail d3
  have e34 := fa_head d3; replace d3 := fa_tail d3
  have e35 := fa_head d3; replace d3 := fa_tail d3
  have e41 := fa_head d4; replace d4 := fa_tail d4
  have e42 := fa_head d4; replace d4 := fa_tail d4
  have e43 := fa_head d4; replace d4 := fa_tail d4
  have e44 := fa_head d4; replace d4 := fa_tail d4
  have e51 := fa_head d5; replace d5 := fa_tail d5
  have e52 := fa_head d5; replace d5 := fa_tail d5
  have e53 := fa_head d5; replace d5 := fa_tail d5
  have e61 := fa_head d6; replace d6 := fa_tail d6
  have e62 := fa_head d6; replace d6 := fa_tail d6
  have e71 := fa_head d7; replace d7 := fa_tail d7
  have hkx : PySem.valueAt (gKv (ns ++ [x, y])) (sg x.c) = some (.ref x.I) := at_key (pre := ns) (post := [y]) hx
  have hky : PySem.valueAt (gKv (ns ++ [x, y])) (sg y.c) = some (.ref y.I) := by
    have := at_key (pre := ns ++ [x]) (post := []) (y := y) (by rw [List.map_append]; exact fun q => (List.mem_append.mp q).elim hy fun q => hxy (List.mem_singleton.mp q).symm)
    rwa [List.append_assoc] at this
  refine add3 B F X₀ T hf hke hroom (I0 := y.I) (dI0 := y.dI) (J := x.I) (dJ := x.dI) (W := x.S) (its := strA x.sc) (rest := (y.S, listOf (strA y.sc) y.ep) :: (gLed ns ++ rest)) (S0 := y.S) (t5 := y.nt) (t6 := y.pt) (np0 := y.np) (ep := x.ep) (t7 := x.nt) (t8 := x.pt) (np1 := x.np) (by exact Mine.News.perm N pm) d1 d2 d3 d4 d5 d6 d7 d8
    e11.symm e12.symm e13.symm e14.symm e15.symm e16.symm e17.symm e21.symm e22.symm e23.symm e24.symm e25.symm e26.symm e31.symm e32.symm e33.symm e34.symm e35.symm e41.symm e42.symm e43.symm e44.symm e51.symm e52.symm e53.symm e61.symm e62.symm e71.symm hD lo hky hkx ?_ ?_
  · rw [List.size_toArray, List.length_map]; exact Nat.le_trans hsc (by decide)
  intro h' tk' pt F' N'
  have pm2 := List.Perm.append_left (soL w self sd D oD t1 t2 t3 t4 .none v3 v4) (per { x with sc := x.sc ++ [(y.c, tk)], ep := x.ep + 1 } { y with np := y.np + 1, pt := pt })
  have hl : listOf (strA (x.sc ++ [(y.c, tk)])) (x.ep + 1) = listOf ((strA x.sc).push (.str (sg y.c) tk)) (x.ep + 1) := by
    show listOf ((x.sc ++ [(y.c, tk)]).map fun p => Value.str (sg p.1) p.2).toArray _ = _
    rw [List.map_append, List.push_toArray]; rfl
  dsimp only at pm2
  rw [hl] at pm2
  exact k h' tk' pt F' (Mine.News.perm N' pm2.symm) (Dist.perm (dist_eq hd' (by rfl)) pm2.symm)
end
theorem noneG1 : True := by
  k_with_none
  trivial
section
open PySem.W.X
section
variable {M : Model} {A : Around} {c : Code} {fs : List Frame} {s : Shared} {P : End → Shared → Prop} {env : Env}
  {K : Flow → Sem Fin} {H : Value → Sem Fin} {gd : Bool → Bool} {lv : List Value → List Value}
theorem sx_wrap {α : Type} {m : Sem α} {K : α → Sem Fin} {H : Value → Sem Fin} {gd lv}
    (h : wpAny M (A.over c fs) m (fun a s' => SegX M A c (K a) fs s' P) (fun x s' => SegX M A c (H x) fs s' P) s) :
    SegX M A c (m.wrap K H gd lv) fs s P := by
  rintro Γ p rfl hΓ
  exact runs_wrap_of_wp (Φ := fun e s' => e.quiet = true ∧ P e s') K H gd lv m (h (Γ.over fs) p (hΓ.over fs)) (fun a p' s' h' => h' Γ p' rfl hΓ) (fun x p' s' h' => h' Γ p' rfl hΓ)
theorem sx_bw {α β : Type} {m : Sem α} {f : α → Sem β} {K : β → Sem Fin} {H : Value → Sem Fin} {gd lv}
    (h : wpAny M (A.over c fs) m (fun a s' => SegX M A c ((f a).wrap K H gd lv) fs s' P) (fun x s' => SegX M A c (H x) fs s' P) s) :
    SegX M A c ((m >>= f).wrap K H gd lv) fs s P := by
  rw [Sem.bind_eq_wrap', Sem.wrap_wrap]; exact sx_wrap h
theorem sx_at {p' : Pos} {k : Unit → Sem Fin} (h : SegX M A c (k ()) fs s P) : SegX M A c (.at p' k) fs s P :=
  sx_wrap (m := standAt p') (K := k) (H := .raise) (gd := id) (lv := id) (wpAny_standAt h)
theorem sx_point {l : List Value} {k : Unit → Sem Fin} (h : SegX M A c (k ()) fs s P) : SegX M A c (.point l k) fs s P :=
  sx_wrap (m := point) (K := k) (H := .raise) (gd := id) (lv := fun _ => l) (wpAny_point h)
theorem sx_rule {tag : String} {k : Unit → Sem Fin} (h : SegX M A c (k ()) fs s P) : SegX M A c (.rule tag k) fs s P :=
  sx_wrap (m := rule tag) (K := k) (H := .raise) (gd := id) (lv := id) (wpAny_rule h)
theorem sx_call {c' : Code} {h g l} {k : Result → Sem Fin} (hc : ∀ p, SegX M A c' (M.den c') (.ret k h g l c p [] :: fs) s P) : SegX M A c (.call c' h g l k) fs s P := by
  rintro Γ p rfl hΓ
  obtain ⟨e, s', hr, he⟩ := hc p (Γ.goto c') p rfl (hΓ.goto c')
  exact ⟨e, s', runs_call_seg hr, he⟩
theorem sx_leaf {k h g l c₁ p₁ kp} (r : Result) (hk : SegX M A c₁ (k r) fs s P) : SegX M A c (leafOf r) (.ret k h g l c₁ p₁ kp :: fs) s P := by
  rintro Γ p rfl hΓ
  obtain ⟨e, s', hr, he⟩ := hk (Γ.goto c₁) p₁ rfl (hΓ.goto c₁)
  exact ⟨e, s', Runs.pop r hr, he⟩
theorem sx_again {c' : Code} (hq : c'.quiet = true) (hc : SegX M A c' (M.den c') fs s P) : SegX M A c (.pure (.again c')) fs s P := by
  rintro Γ p rfl hΓ
  obtain ⟨e, s', hr, he⟩ := hc (Γ.goto c') p rfl (hΓ.goto c')
  exact ⟨e, s', Runs.head (c₁ := c') (fun _ _ x => .again hq x) hr, he⟩
theorem sx_end (r : Result) (h : P (.ret r) s) : SegX M A c (leafOf r) [] s P := by
  rintro Γ p rfl _
  exact ⟨.ret r, s, Runs.leaf r, rfl, h⟩
theorem sx_yield {v g l} {k : Resume → Sem Fin} (hfs : splitAtGen fs = none) (hg : g = false) (hfg : fs.any Frame.guarded = false)
    (h : ∀ p, P (.susp v g l k c p fs) s) : SegX M A c (.yield v g l k) fs s P := by
  rintro Γ p rfl _
  exact ⟨_, s, Runs.yield' fs hfs, by simp [End.quiet, hg, hfg], h p⟩
theorem sx_nil (h : SegX M A c (K .next) fs s P) : SegX M A c ((execs [] env).wrap K H gd lv) fs s P := h
theorem sx_cons {st : Stmt} {rest : List Stmt}
    (h : SegX M A c ((exec st env).wrap (fun f => match f with | .next => (execs rest env).wrap K H gd lv | f => K f) H gd lv) fs s P) :
    SegX M A c ((execs (st :: rest) env).wrap K H gd lv) fs s P := by rw [execs_cons_wrap]; exact h
/-- a statement that does not yield -/
theorem sx_plain {st : Stmt} {rest : List Stmt}
    (h : wpAny M (A.over c fs) (exec st env) (fun f s' => SegX M A c (match f with | .next => (execs rest env).wrap K H gd lv | f => K f) fs s' P) (fun x s' => SegX M A c (H x) fs s' P) s) :
    SegX M A c ((execs (st :: rest) env).wrap K H gd lv) fs s P := sx_cons (sx_wrap h)
theorem sx_While {test : PySem.Expr} {body orelse : List Stmt} {pos : Pos}
    (h : ∀ p, SegX M A (.whileLoop test body orelse env) (M.den (.whileLoop test body orelse env))
      (.ret (fun r => ((match r with | .ok f => (.pure f : Sem Flow) | .error e => .raise e).onRaise fun (x : Value) => do
        if (← field x 1) == Value.none then unsupported "frame.own-activation:exception-without-traceback"
        setFlight x env.frame).wrap K H gd lv) none (gd false) (lv []) c p [] :: fs) s P) :
    SegX M A c ((exec (.While test body orelse pos) env).wrap K H gd lv) fs s P :=
  sx_at (sx_call h)
end
section
variable {prog : Program} {w : World} {A : Around} {fs : List Frame} {s : Shared} {P : End → Shared → Prop} {env : Env}
theorem sx_whileLoop {test : PySem.Expr} {body orelse : List Stmt}
    (h : wpAny (model prog w) (A.over (.whileLoop test body orelse env) fs) (isTrue test env (eval test env)) (fun b s' =>
        if b = true then
          SegX (model prog w) A (.whileLoop test body orelse env) ((execs body env).wrap (fun f => match f with
            | .next | .cont => .pure (.again (.whileLoop test body orelse env))
            | .brk => .pure (.done .next)
            | .ret v => .pure (.done (.ret v))) (fun e => (do noteFrame e env; theTreesLotGoes e : Sem Unit).wrap (fun _ => .raise e) .raise id id) id id) fs s' P
        else SegX (model prog w) A (.whileLoop test body orelse env) ((execs orelse env).wrap (fun f => .pure (.done f)) (fun e => (do noteFrame e env; theTreesLotGoes e : Sem Unit).wrap (fun _ => .raise e) .raise id id) id id) fs s' P)
      (fun x s' => SegX (model prog w) A (.whileLoop test body orelse env) ((do noteFrame x env; theTreesLotGoes x : Sem Unit).wrap (fun _ => .raise x) .raise id id) fs s' P) s) :
    SegX (model prog w) A (.whileLoop test body orelse env) ((model prog w).den (.whileLoop test body orelse env)) fs s P := by
  show SegX _ A _ ((whileTurn test body orelse env).onRaise (fun x => do noteFrame x env; theTreesLotGoes x)) fs s P
  unfold whileTurn
  rw [Sem.onRaise_eq_wrap, Sem.bind_eq_wrap', Sem.wrap_wrap]
  refine sx_wrap (wpAny_mono h (fun b s' hb => ?_) fun x s' hx => ?_)
  · cases b with
    | true =>
      rw [if_pos rfl] at hb
      show SegX _ A _ (Sem.wrap _ _ _ _ (if true = true then _ else _)) fs s' P
      rw [if_pos rfl, Sem.bind_eq_wrap', Sem.wrap_wrap]
      rw [Sem.wrap_congr (execs body env) _ _ (K' := fun f => match f with
            | .next | .cont => .pure (.again (.whileLoop test body orelse env))
            | .brk => .pure (.done .next)
            | .ret v => .pure (.done (.ret v))) (H' := (fun e => (do noteFrame e env; theTreesLotGoes e : Sem Unit).wrap (fun _ => .raise e) .raise id id))
        (fun f => by cases f <;> rfl)
        (fun e => by first | exact Sem.bind_eq_wrap _ _ | (show (do noteFrame e env; theTreesLotGoes e : Sem Unit).bind (fun _ => .raise e) = _; rw [Sem.bind_eq_wrap]))]
      exact hb
    | false =>
      rw [if_neg Bool.false_ne_true] at hb
      show SegX _ A _ (Sem.wrap _ _ _ _ (if false = true then _ else _)) fs s' P
      rw [if_neg Bool.false_ne_true, Sem.bind_eq_wrap', Sem.wrap_wrap]
      rw [Sem.wrap_congr (execs orelse env) _ _ (K' := fun f => (.pure (.done f) : Sem Fin)) (H' := (fun e => (do noteFrame e env; theTreesLotGoes e : Sem Unit).wrap (fun _ => .raise e) .raise id id))
        (fun f => by rfl)
        (fun e => by first | exact Sem.bind_eq_wrap _ _ | (show (do noteFrame e env; theTreesLotGoes e : Sem Unit).bind (fun _ => .raise e) = _; rw [Sem.bind_eq_wrap]))]
      exact hb
  · first
      | (rw [← Sem.bind_eq_wrap] at hx; exact hx)
      | (show SegX _ A _ ((do noteFrame x env; theTreesLotGoes x : Sem Unit).bind fun _ => .raise x) fs s' P; rw [Sem.bind_eq_wrap]; exact hx)
theorem sx_func {body : List Stmt}
    (h : SegX (model prog w) A (.func body env) ((execs body env).wrap (fun f => .pure (.done (.ret (match f with | .ret v => v | _ => .none))))
      (fun e => (leaving env e).wrap (fun _ => .raise e) .raise id id) id id) fs s P) :
    SegX (model prog w) A (.func body env) ((model prog w).den (.func body env)) fs s P := by
  show SegX _ A _ (.point [] fun _ => ((execs body env).onRaise (leaving env)) >>= _) fs s P
  refine sx_point ?_
  rw [Sem.onRaise_eq_wrap, Sem.bind_eq_wrap', Sem.wrap_wrap]
  rw [Sem.wrap_congr (execs body env) _ _ (K' := fun f => .pure (.done (.ret (match f with | .ret v => v | _ => .none))))
    (H' := fun e => (leaving env e).wrap (fun _ => .raise e) .raise id id) (fun f => by cases f <;> rfl)
    (fun e => by rw [Sem.bind_eq_wrap, Sem.wrap_wrap]; rfl)]
  exact h
end
/-- next() of a generator -/
theorem pyNext_X {prog : Program} {w : World} {A : Around} {E : Value → Shared → Prop} {s : Shared} {a : Addr} {g : Nat} {gs : GenState} {c₀ : Code} {t₀ : Sem Fin} {fs₀ : List Frame} {P : End → Shared → Prop} {Q : Option Value → Shared → Prop} (hh : A.handled = none)
    (hl : s.heap.NoLimit) (hroom : A.depth < recursionLimit) (hg : s.heap.IsGen a g) (hgs : s.gens[g]? = some gs)
    (hst : (gs = .fresh c₀ ∧ t₀ = denote table c₀ ∧ fs₀ = []) ∨ (∃ k₀ l₀ p₀ cl, gs = .suspended k₀ l₀ c₀ p₀ fs₀ cl ∧ t₀ = k₀ (.send .none)))
    (hx : SegX (model prog w) A.in1 c₀ t₀ fs₀ (s.setGen g .running) P)
    (hY : ∀ v g' l k c p fs s₁, P (.susp v g' l k c p fs) s₁ → Q (some v) (s₁.setGen g (End.susp v g' l k c p fs).genState))
    (hR : ∀ r s₁, P (.ret (.ok r)) s₁ → r = .ret .none ∧ ∀ h', (∀ b o, s₁.heap.get? b = some o → h'.get? b = some o) → Q none { s₁.setGen g .finished with heap := h' })
    (hE : ∀ e s₁, P (.ret (.error e)) s₁ → (∀ (A' : Around) E' (Q' : Bool → Shared → Prop), Q' false (s₁.setGen g .finished) → wpAny (model prog w) A' (isInstance e (.type "StopIteration")) Q' E' (s₁.setGen g .finished)) ∧ s₁.heap.IsGen a g ∧ E e (s₁.setGen g .finished)) :
    wpAny (model prog w) A (pyNext (.ref a)) Q E s := by
  unfold pyNext
  refine wpAny_bind (wpAny_attempt (wpAny_callSpecial?_slot (name := Str.ofString "__next__") hg.typeIs slot_gen_next
    (wpAny_call_entry slot_gen_next hg.typeIs entry_gen_next ?_ (args_gen_next _))))
  show wpAny _ A.in1 (Builtin.Generator.genWake (.ref a) (.send .none)) _ _ s
  unfold Builtin.Generator.genWake
  refine wpAny_bind (wpAny_holding (wpAny_genNumber hg (wpAny_bind (wpAny_genState hgs ?_))))
  have wake : ∀ {α : Type} {l : List Value} {k : GenResult → Sem α} {Q' : α → Shared → Prop} {E' : Value → Shared → Prop},
      (∀ e s₁, P e s₁ → wpAny (model prog w) A.in1 (k e.result) Q' E' (s₁.setGen g e.genState)) → wpAny (model prog w) A.in1 (.resume g (.send .none) l k) Q' E' s := by
    intro α l k Q' E' hk
    refine wake_any α prog w hgs ?_ (fun Γ => Γ.In A.in1) (fun _ h => h) (hx.mono fun e s₁ hp Γ p hC => hk e s₁ hp Γ p hC)
    rcases hst with ⟨h1, h2, h3⟩ | h
    · exact .inl ⟨h1, rfl, h2, h3⟩
    · exact .inr h
  have hs2 : gs.status = GenStatus.fresh ∨ gs.status = GenStatus.suspended := by
    rcases hst with ⟨rfl, _⟩ | ⟨_, _, _, _, rfl, _⟩
    · exact .inl rfl
    · exact .inr rfl
  generalize gs.status = st at hs2
  have room : ∀ {α : Type} (m₁ : Unit → Sem α) (E' : Value → Shared → Prop) (Q' : α → Shared → Prop), wpAny (model prog w) A.in1 (m₁ ()) Q' E' s → wpAny (model prog w) A.in1 (roomToWake >>= m₁) Q' E' s :=
    fun m₁ E' Q' h => wpAny_bind (wpAny_roomToWake hl hroom h)
  rcases hs2 with rfl | rfl
  all_goals
    refine room _ _ _ ?_
    refine wpAny_bind (m := resume g (.send .none)) (wake fun e s₁ hp => wpAny_pure ?_)
    cases e with
    | susp v g' l k c p fs => exact wpAny_pure ⟨v, rfl, wpAny_pure (hY _ _ _ _ _ _ _ _ hp)⟩
    | ret r =>
      cases r with
      | ok r =>
        obtain ⟨rfl, hq⟩ := hR _ _ hp
        show wpAny _ A.in1 (newExc (.type "StopIteration") [] >>= _) _ _ _
        refine wpAny_bind ?_
        simp only [newExc, newTuple]
        refine wpAny_bind (wpAny_newObj_type ?_ (by size_fits))
        refine wpAny_bind (m := firstArgMember _ _) (wpAny_of_eq (a := Value.none) (by first | rfl | (simp only [firstArgMember]; rfl)) ?_)
        refine wpAny_newObj_type ?_ (by size_fits)
        simp only [raiseNew]
        refine wpAny_bind (wpAny_bind (wpAny_handled ?_))
        first | rw [show A.in1.handled = none from hh] | rw [hh]
        refine wpAny_throw ?_
        refine wpAny_bind (wpAny_isInstance (T := "StopIteration") (b := true) ⟨_, Heap.get?_push_size _ rfl, rfl⟩ isSubtype_stop ?_)
        exact wpAny_pure (hq _ fun b o hb => Heap.get?_push_of_some _ (Heap.get?_push_of_some _ hb))
      | error e =>
        obtain ⟨hi, hga, he⟩ := hE _ _ hp
        show wpAny _ A.in1 (Builtin.Generator.genLeft (.ref a) e) _ _ _
        unfold Builtin.Generator.genLeft Builtin.Generator.madeByALambda
        obtain ⟨o, nm, qn, ho, hc, hd, hsl⟩ := hga
        refine wpAny_bind (wpAny_bind (wpAny_load ho ?_))
        rw [hd]
        refine wpAny_pure (wpAny_bind (hi _ _ _ ?_))
        simp only [List.getElem?_toArray]
        rw [if_neg (by simp)]
        unfold Builtin.Generator.genEscaped
        refine wpAny_bind (hi _ _ _ ?_)
        exact wpAny_throw (wpAny_bind (hi _ _ _ (wpAny_throw he)))
end
theorem noneG2 : True := by
  k_with_none
  trivial
section
open PySem.W.X
theorem sx_bind {M : Model} {A : Around} {c : Code} {fs : List Frame} {s : Shared} {P : End → Shared → Prop} {α : Type} {m : Sem α} {f : α → Sem PySem.Fin}
    (h : wpAny M (A.over c fs) m (fun a s' => SegX M A c (f a) fs s' P) (fun x s' => SegX M A c (.raise x) fs s' P) s) : SegX M A c (m >>= f) fs s P := by
  rw [Sem.bind_eq_wrap']; exact sx_wrap h
theorem entry_yf : entryFor table "proto.yield_from" = some Builtin.«proto.yield_from» := entryFor_of_tree (by kernel_rfl)
noncomputable abbrev yfC (I : Nat) : Code := .builtin "proto.yield_from" ⟨[.ref I, .bool false, .none], []⟩
section
variable {prog : Program} {w : World} {A : Around} {fs : List Frame} {s : Shared} {P : End → Shared → Prop} {env : Env} {I T i : Nat} {items : Array Value}
theorem sx_builtin {id : String} {args : Args} {b : Builtin} (h : entryFor table id = some b) (k : SegX (model prog w) A (.builtin id args) (b args) fs s P) :
    SegX (model prog w) A (.builtin id args) ((model prog w).den (.builtin id args)) fs s P := by
  show SegX _ A _ (match entryFor table id with | some b => b args | none => _) fs s P
  rw [h]; exact k
theorem nx_tup {Q : Option Value → Shared → Prop} {E : Value → Shared → Prop} {x : Value} {A : Around} (hit : s.heap.IsTupleIter I T i) (ht : s.heap.IsTuple T items) (hx : items[i]? = some x)
    (hQ : ∀ h', h'.IsTupleIter I T (i + 1) → Heap.SameBut I s.heap h' → Q (some x) { s with heap := h' }) :
    wpAny (model prog w) A (callSpecial? (.ref I) "__next__") Q E s := by
  obtain ⟨o, ho, hc, hd⟩ := id hit
  obtain ⟨ol, hol, _, nl, hdl⟩ := ht
  refine wpAny_callSpecial?_slot (name := Str.ofString "__next__") hit.typeIs F.slot_tuple_iterator_next
    (wpAny_call_entry F.slot_tuple_iterator_next hit.typeIs F.entry_tuple_iterator_next ?_ (F.args_tuple_iterator_next_1 _))
  show wpAny _ _ (field (.ref I) 0 >>= _) _ _ s
  refine wpAny_bind (wpAny_field ho hd (x := .ref T) rfl ?_)
  show wpAny _ _ (if (Value.ref T == Value.none) = true then _ else _) _ _ s
  rw [if_neg (show ¬ ((Value.ref T == Value.none) = true) from Bool.false_ne_true)]
  show wpAny _ _ (field (.ref I) 1 >>= _) _ _ s
  refine wpAny_bind (wpAny_field ho hd (x := .int i 0) rfl ?_)
  show wpAny _ _ (seqItems? (.ref T) >>= _) _ _ s
  refine wpAny_bind (wpAny_seqItems hol hdl ?_)
  simp only [Int.toNat_natCast, hx]
  refine wpAny_bind (wpAny_setField ho hd (by simp) (wpAny_pure ⟨x, rfl, (hQ _ ?_ (Heap.SameBut.update ..))⟩))
  exact ⟨_, Heap.get?_update_self _ ho (Obj.isFreed_of_fields (Obj.data_mapFields hd _)), (Obj.cls_mapFields ..).trans hc, by
    rw [Obj.data_mapFields hd]; simp [rawInt]⟩
theorem stop_tup {Q : Option Value → Shared → Prop} {E : Value → Shared → Prop} {A : Around} (hh : A.handled = none) (hit : s.heap.IsTupleIter I T i) (ht : s.heap.IsTuple T items) (hx : items[i]? = none)
    (hQ : ∀ h' e o vs, Heap.ExtBut I s.heap h' → h'.get? e = some o → o.cls = .type "StopIteration" → o.data = .fields vs → vs[5]? = some .none → E (.ref e) { s with heap := h' }) :
    wpAny (model prog w) A (callSpecial? (.ref I) "__next__") Q E s := by
  obtain ⟨o, ho, hc, hd⟩ := id hit
  obtain ⟨ol, hol, _, nl, hdl⟩ := ht
  refine wpAny_callSpecial?_slot (name := Str.ofString "__next__") hit.typeIs F.slot_tuple_iterator_next
    (wpAny_call_entry F.slot_tuple_iterator_next hit.typeIs F.entry_tuple_iterator_next ?_ (F.args_tuple_iterator_next_1 _))
  show wpAny _ _ (field (.ref I) 0 >>= _) _ _ s
  refine wpAny_bind (wpAny_field ho hd (x := .ref T) rfl ?_)
  show wpAny _ _ (if (Value.ref T == Value.none) = true then _ else _) _ _ s
  rw [if_neg (show ¬ ((Value.ref T == Value.none) = true) from Bool.false_ne_true)]
  show wpAny _ _ (field (.ref I) 1 >>= _) _ _ s
  refine wpAny_bind (wpAny_field ho hd (x := .int i 0) rfl ?_)
  show wpAny _ _ (seqItems? (.ref T) >>= _) _ _ s
  refine wpAny_bind (wpAny_seqItems hol hdl ?_)
  simp only [Int.toNat_natCast, hx]
  refine wpAny_bind (wpAny_rule (wpAny_bind (wpAny_setField ho hd (by simp) ?_)))
  show wpAny _ _ (newExc (.type "StopIteration") [] >>= _) _ _ _
  refine wpAny_bind ?_
  simp only [newExc, newTuple]
  refine wpAny_bind (wpAny_newObj_type ?_ (by size_fits))
  refine wpAny_bind (m := firstArgMember _ _) (wpAny_of_eq (a := Value.none) (by first | rfl | (simp only [firstArgMember]; rfl)) ?_)
  refine wpAny_newObj_type ?_ (by size_fits)
  simp only [raiseNew]
  refine wpAny_bind (wpAny_handled ?_)
  first | rw [show A.in1.handled = none from hh] | rw [hh]
  refine wpAny_throw ?_
  refine hQ _ _ _ _ (fun b o hb e => Heap.get?_push_of_some _ (Heap.get?_push_of_some _ ((Heap.SameBut.update ..).extBut b o hb e))) (Heap.get?_push_size _ rfl) rfl rfl rfl
/-- the rest of a yield from, woken again, goes on -/
noncomputable def YfK (prog : Program) (w : World) (I : Nat) (k : Resume → Sem PySem.Fin) : Prop :=
  ∀ A fs s P T i, Heap.IsTupleIter s.heap I T i → SegX (model prog w) A (yfC I) ((model prog w).den (yfC I)) fs s P → SegX (model prog w) A (yfC I) (k (.send .none)) fs s P
theorem slept {Q : Unit → Shared → Prop} {E : Value → Shared → Prop} {A : Around} {b : Bool} (hit : s.heap.IsTupleIter I T i) (h : Q () s) : wpAny (model prog w) A (Builtin.Generator.sleptOver (.ref I) b) Q E s := by
  obtain ⟨o, ho, hc, hd⟩ := hit
  unfold Builtin.Generator.sleptOver
  refine wpAny_bind (wpAny_load ho ?_)
  rw [hc, if_pos (by decide)]
  exact wpAny_pure h
theorem no_close : typeLookup (.type "tuple_iterator") "close" = pure none := by rw [typeLookup_type, builtinLookup_eq_fast]; kernel_rfl
theorem yf_item {x : Value} (hit : s.heap.IsTupleIter I T i) (ht : s.heap.IsTuple T items) (hx : items[i]? = some x) (hfs : splitAtGen fs = none) (hfg : fs.any Frame.guarded = false)
    (h : ∀ h' l k p, YfK prog w I k → h'.IsTupleIter I T (i + 1) → Heap.SameBut I s.heap h' → P (.susp x false l k (yfC I) p fs) { s with heap := h' }) :
    SegX (model prog w) A (yfC I) ((model prog w).den (yfC I)) fs s P := by
  refine sx_builtin entry_yf ?_
  unfold Builtin.«proto.yield_from»
  refine sx_bind (wpAny_pure ?_)
  refine sx_bind (wpAny_attempt (wpAny_holding ?_))
  simp only [Bool.false_eq_true, if_false]
  rw [if_pos (by decide)]
  refine wpAny_bind (wpAny_rule (wpAny_bind (nx_tup hit ht hx fun h' hit' hs' => wpAny_pure ?_)))
  refine sx_bind (wpAny_typeOf (s := { s with heap := h' }) hit'.typeIs ?_)
  refine sx_bind (wpAny_of_eq no_close ?_)
  refine sx_bind (wpAny_pure ?_)
  refine sx_bind (slept (s := { s with heap := h' }) hit' ?_)
  refine sx_yield (k := fun r => (Sem.pure r).bind _) hfs rfl hfg fun p => h h' _ _ p ?_ hit' hs'
  intro A fs s P T i hi hk
  show SegX _ A _ (Builtin.Generator.sleptOver (.ref I) false >>= _) fs s P
  refine sx_bind (slept hi ?_)
  refine sx_bind (wpAny_of_eq (a := Value.none) rfl ?_)
  exact sx_again (Code.quiet_builtin _ (by decide +kernel)) hk
theorem yf_end {kk : Result → Sem PySem.Fin} {g : Bool} {l : List Value} {c₁ : Code} {p₁ : Pos} {kp : List Value} (hh : (A.over (yfC I) (.ret kk none g l c₁ p₁ kp :: fs)).handled = none) (hit : s.heap.IsTupleIter I T i) (ht : s.heap.IsTuple T items) (hx : items[i]? = none)
    (h : ∀ h', Heap.ExtBut I s.heap h' → SegX (model prog w) A c₁ (kk (.ok (.ret .none))) fs { s with heap := h' } P) :
    SegX (model prog w) A (yfC I) ((model prog w).den (yfC I)) (.ret kk none g l c₁ p₁ kp :: fs) s P := by
  refine sx_builtin entry_yf ?_
  unfold Builtin.«proto.yield_from»
  refine sx_bind (wpAny_pure ?_)
  refine sx_bind (wpAny_attempt (wpAny_holding ?_))
  simp only [Bool.false_eq_true, if_false]
  rw [if_pos (by decide)]
  refine wpAny_bind (wpAny_rule (wpAny_bind (stop_tup hh hit ht hx fun h' e o vs hs' he hc hd h5 => ?_)))
  unfold Builtin.Generator.endsTheTurnAsAValue Builtin.Generator.isStopAndMetaclass
  have hT : ({ s with heap := h' } : Shared).TypeIs (.ref e) "StopIteration" := ⟨o, he, hc⟩
  refine sx_bind (wpAny_bind (wpAny_bind (wpAny_typeOf hT ?_)))
  refine wpAny_bind (wpAny_of_eq isSubtype_stop ?_)
  refine wpAny_bind (wpAny_of_eq (a := Value.type "type") (by kernel_rfl) ?_)
  refine wpAny_pure ?_
  simp only [Bool.false_eq_true, if_false]
  refine wpAny_pure ?_
  rw [if_pos rfl]
  refine sx_bind (wpAny_rule ?_)
  refine sx_bind (wpAny_field (s := { s with heap := h' }) he hd h5 ?_)
  exact sx_leaf (.ok (.ret .none)) (h h' hs')
end
end
theorem noneG3 : True := by
  k_with_none
  trivial
section
open PySem.W.X
/-- an exception of the text's own class on its way: what stays, the frames -/
noncomputable def Air (h₀ : Heap) (l : List Env) (frs kept : Led) (e : Nat) (h : Heap) : Prop :=
  ∃ B t fl frs', h₀.StaysIn B ∧ (∀ p ∈ kept, B.get? p.1 = some p.2) ∧ B.StaysIn h ∧ B.get? e = none ∧ h.FunFrames B l ∧ h.TracedAtW B e (.ref 76) (.ref t) fl ∧ TI.SameUp frs frs' ∧ ∀ q ∈ frs', h.get? q.1 = some q.2
theorem up_frs {l : List Env} {frs frs' : Led} {h h' : Heap} (Fs : TI.Frs l frs) (U : h.UpToSlots h') (SU : TI.SameUp frs frs') (ht : ∀ q ∈ frs', h.get? q.1 = some q.2) : ∃ frs₂, TI.SameUp frs frs₂ ∧ ∀ q ∈ frs₂, h'.get? q.1 = some q.2 := by
  obtain ⟨frs₂, SU₂, ht₂⟩ := TI.sameUp_of (frs := frs') (h' := h') fun p hp => U p.1 p.2 (ht p hp) fun vs q => by
    obtain ⟨es, ep, hd⟩ := (Fs.up SU).dict p hp
    rw [hd] at q; cases q
  exact ⟨frs₂, SU.trans SU₂, ht₂⟩
theorem Air.fr {h₀ h h' : Heap} {l : List Env} {frs kept : Led} {e : Nat} {L : Nat} {m : Str → Option Value} {oL : Obj} (x : Air h₀ l ((L, oL) :: frs) kept e h') (F : Fr h₀ L h m) (hL : h.get? L = some oL) : Fr h₀ L h' m := by
  obtain ⟨B, t, fl, frs', h1, _, h2, _, _, _, SU, ht⟩ := x
  obtain ⟨oL', es, ep, hL', hLr⟩ := F.ns
  rw [hL] at hL'
  cases hL'
  cases frs' with
  | nil => exact SU.elim
  | cons q qs =>
    obtain ⟨a, ⟨sl, b⟩, _⟩ := SU
    have hq := ht q List.mem_cons_self
    rw [a, b] at hq
    exact ⟨⟨_, es, ep, hq, hLr⟩, fun b o e => h2 b o (h1 b o e), F.above⟩
section
variable {M : Model} {A A₀ : Around} {E : Value → Shared → Prop} {s s' : Shared} {hb h : Heap} {L a e : Addr} {m : Str → Option Value} {name : Str} {scope : Scope} {cd : Value} {Q : Unit → Shared → Prop} {l : List Env} {frs new kept : Led} {args : List Value} {env cenv : Env} {oL : Obj}
theorem leave_made (hfr : A₀.frames = some l) (Fs : TI.Frs l frs) (hx : Heap.MadeExcOf h s'.heap e (.ref 76) args) (F : Fr hb L h m) (N : News hb L h (new ++ frs)) (hk : scope.kind = .function) (hap : ∀ p ∈ kept, h.get? p.1 = some p.2 ∧ p.1 ∉ L :: frs.map (·.1))
    (k : ∀ h', Air hb l frs kept e h' → Q () { s' with heap := h' }) :
    wpAny M (A₀.deeper (envOf name scope L a cd)) (leaving (envOf name scope L a cd) (.ref e)) Q E s' := by
  obtain ⟨hff, _, _⟩ := TI.frames_at (name := name) (a := a) (cd := cd) (h' := h) (base := TI.gone h (L :: frs.map (·.1))) hk Fs F N TI.tail_sub (fun b o e => ⟨o.slots, e⟩) fun b hm => TI.gone_none hm
  refine wpAny_leaves_madeW (Around.frames_deeper hfr) rfl (fun b o q => (TI.gone_some q).2) hff hx fun h' t x1 x2 x3 x4 => ?_
  obtain ⟨f1, f2, f3, f4⟩ := x1
  obtain ⟨frs', SU, ht⟩ := up_frs Fs x4 (TI.SameUp.refl frs) fun q hq => hx.keeps _ _ (N q (TI.tail_sub q hq)).1
  exact k h' ⟨_, t, .none, frs', fun b o q => (TI.gone_get (TI.base_apart F N TI.tail_sub q)).trans (F.keep b o q), fun p hp => (TI.gone_get (hap p hp).2).trans (hap p hp).1, f1, f2, f3, f4.at, SU, ht⟩
theorem note_at {base : Heap} {cls a0 fl : Value} (hfr : A.frames = some (env :: l)) (hl : s.heap.FunFrames base (env :: l)) (hf : env.frame = some L) (ht : s.heap.TracedAtW base e cls a0 fl) (hkb : base.StaysIn s.heap) (hen : base.get? e = none)
    (h : ∀ h', base.StaysIn h' → h'.FunFrames base (env :: l) → h'.TracedAtW base e cls a0 (rawInt L) → s.heap.UpToSlots h' → Q () { s with heap := h' }) : wpAny M A (noteFrame (.ref e) env) Q E s := by
  by_cases hfl : fl = rawInt L
  · subst hfl
    exact wpAny_noteFrame_againW hf ht (h _ hkb hl ht (Heap.UpToSlots.refl _))
  · obtain ⟨oe, vs, T, oT, ts, he, ⟨hcls, h0⟩, hd, h1, hnT, hTe, hT, hdT, h3⟩ := ht
    subst hcls
    unfold noteFrame
    simp only [hf]
    refine wpAny_bind (wpAny_field he hd h1 ?_)
    rw [if_pos (show (Value.ref T != Value.none) = true from by simp)]
    refine wpAny_bind (wpAny_field hT hdT h3 ?_)
    rw [if_neg (show ¬ ((fl == rawInt L) = true) from by simpa using hfl)]
    refine wpAny_bind (wpAny_setField hT hdT (Array.getElem?_eq_some_iff.mp h3).1 ?_)
    have other : ∀ b, b ≠ T → (s.heap.update T (Obj.mapFields (·.setIfInBounds 3 Value.none))).get? b = s.heap.get? b := fun b hb => Heap.get?_update_other _ _ (Ne.symm hb)
    have noRecord : ∀ b o, s.heap.get? b = some o → (∀ vs, o.data ≠ .fields vs) → b ≠ T := fun b o hb hnf q => by
      rw [q, hT] at hb; injection hb with hb; subst hb; exact hnf ts hdT
    refine wpAny_entryW hfr (hl.of_keeps fun b o hb hnf => ⟨o, (other b (noRecord b o hb hnf)).trans hb, rfl⟩) hf ((other e (Ne.symm hTe)).trans he)
      (fun b o hbo => (other b fun q => by rw [q, hnT] at hbo; cases hbo).trans (hkb b o hbo)) hen hd (Array.getElem?_eq_some_iff.mp h1).1 h0
      fun h' ⟨x1, x2, x3, x4⟩ => h h' x1 x2 x3 fun b o hb hnf => x4 b o ((other b (noRecord b o hb hnf)).trans hb) hnf
theorem note_same (hf : cenv.frame = env.frame) : noteFrame (.ref e) cenv = noteFrame (.ref e) env := by
  unfold noteFrame PySem.frameOf
  rw [hf]
theorem flight_at {base : Heap} {cls a0 fl : Value} (f : Option Addr) (hl : s.heap.FunFrames base l) (ht : s.heap.TracedAtW base e cls a0 fl) (hkb : base.StaysIn s.heap)
    (h : ∀ h', base.StaysIn h' → h'.FunFrames base l → h'.TracedAtW base e cls a0 (f.elim .none fun f => rawInt f) → s.heap.UpToSlots h' → Q () { s with heap := h' }) : wpAny M A (setFlight (.ref e) f) Q E s := by
  obtain ⟨oe, vs, T, oT, ts, he, hcls, hd, h1, hnT, hTe, hT, hdT, h3⟩ := ht
  have hsz3 : 3 < ts.size := (Array.getElem?_eq_some_iff.mp h3).1
  have other : ∀ b, b ≠ T → (s.heap.update T (Obj.mapFields (·.setIfInBounds 3 (f.elim Value.none fun f => rawInt f)))).get? b = s.heap.get? b :=
    fun b hb => Heap.get?_update_other _ _ (Ne.symm hb)
  have noRecord : ∀ b o, s.heap.get? b = some o → (∀ vs, o.data ≠ .fields vs) → b ≠ T := fun b o hb hnf q => by
    rw [q, hT] at hb; injection hb with hb; subst hb; exact hnf ts hdT
  unfold setFlight
  refine wpAny_bind (wpAny_field he hd h1 ?_)
  rw [if_pos (show (Value.ref T != Value.none) = true from by simp)]
  refine wpAny_setField hT hdT hsz3 (h _ (fun b o hbo => (other b fun q => by rw [q, hnT] at hbo; cases hbo).trans (hkb b o hbo))
    (hl.of_keeps fun b o hb hnf => ⟨o, (other b (noRecord b o hb hnf)).trans hb, rfl⟩) ?_ fun b o hb hnf => ⟨o.slots, (other b (noRecord b o hb hnf)).trans hb⟩)
  exact ⟨oe, vs, T, _, _, (other e (Ne.symm hTe)).trans he, hcls, hd, h1, hnT, hTe, Heap.get?_update_self _ hT (Obj.isFreed_of_fields (Obj.data_mapFields hdT _)), Obj.data_mapFields hdT _, by simp [hsz3]⟩
theorem air_note (x : Air hb (env :: l) frs kept e s.heap) (Fs : TI.Frs (env :: l) frs) (hfr : A.frames = some (env :: l)) (hf : env.frame = some L) (hc : cenv.frame = env.frame)
    (k : ∀ h', Air hb (env :: l) frs kept e h' → Q () { s with heap := h' }) : wpAny M A (noteFrame (.ref e) cenv) Q E s := by
  obtain ⟨B, t, fl, frs', h1, h2, h3, h4, h5, h6, SU, ht⟩ := x
  rw [note_same hc]
  refine note_at hfr h5 hf h6 h3 h4 fun h' x1 x2 x3 x4 => ?_
  obtain ⟨frs₂, SU₂, ht₂⟩ := up_frs Fs x4 SU ht
  exact k h' ⟨B, t, _, frs₂, h1, h2, x1, h4, x2, x3, SU₂, ht₂⟩
theorem air_flight (f : Option Addr) (x : Air hb l frs kept e s.heap) (Fs : TI.Frs l frs) (k : ∀ h', Air hb l frs kept e h' → Q () { s with heap := h' }) : wpAny M A (setFlight (.ref e) f) Q E s := by
  obtain ⟨B, t, fl, frs', h1, h2, h3, h4, h5, h6, SU, ht⟩ := x
  refine flight_at f h5 h6 h3 fun h' x1 x2 x3 x4 => ?_
  obtain ⟨frs₂, SU₂, ht₂⟩ := up_frs Fs x4 SU ht
  exact k h' ⟨B, t, _, frs₂, h1, h2, x1, h4, x2, x3, SU₂, ht₂⟩
theorem air_leave (x : Air hb (env :: l) ((L, oL) :: frs) kept e s.heap) (Fs : TI.Frs (env :: l) ((L, oL) :: frs)) (hfr : A.frames = some (env :: l))
    (k : ∀ h', Air hb l frs kept e h' → Q () { s with heap := h' }) : wpAny M A (leaving env (.ref e)) Q E s := by
  unfold leaving
  refine wpAny_bind (air_note x Fs hfr Fs.2.1 rfl fun h1 x1 => air_flight (s := { s with heap := h1 }) none x1 Fs fun h2 x2 => k h2 ?_)
  obtain ⟨B, t, fl, frs', y1, y2, y3, y4, ⟨_, _, y5⟩, y6, SU, ht⟩ := x2
  cases frs' with
  | nil => exact SU.elim
  | cons q qs => exact ⟨B, t, fl, qs, y1, y2, y3, y4, y5, y6, SU.2.2, fun p hp => ht p (List.mem_cons_of_mem _ hp)⟩
theorem air_passOn {α : Type} {what : String} {Q : α → Shared → Prop} (x : Air hb l frs kept e s.heap) (Fs : TI.Frs l frs) (k : ∀ h', Air hb l frs kept e h' → E (.ref e) { s with heap := h' }) : wpAny M A (PySem.passOn what (.ref e) cenv : Sem α) Q E s := by
  have x' := x
  obtain ⟨B, t, fl, frs', h1, h2, h3, h4, h5, ⟨oe, vs, T, oT, ts, he, hcls, hd, h7, _⟩, SU, ht⟩ := x
  unfold PySem.passOn
  refine wpAny_bind (wpAny_field he hd h7 ?_)
  rw [if_neg (show ¬ ((Value.ref T == Value.none) = true) from by simp)]
  exact wpAny_bind (air_flight _ x' Fs fun h' x2 => wpAny_throw (k h' x2))
theorem Air.drop {kept' : Led} (x : Air hb l frs kept e h) (k : ∀ p ∈ kept', p ∈ kept) : Air hb l frs kept' e h := by
  obtain ⟨B, t, fl, frs', h1, h2, r⟩ := x
  exact ⟨B, t, fl, frs', h1, fun p hp => h2 p (k p hp), r⟩
end
section
variable {prog : Program} {w : World} {A : Around} {s : Shared} {h₀ : Heap} {outer : List Env} {L : Addr} {m : Str → Option Value} {env : Env} {fp rest frs : Led} {K : Frag}
  {R : Result → Shared → Prop} {name qual : Str} {params : Arguments} {body : List Stmt} {scope : Scope} {dV kV doc pm cdv ct oc : Value} {an od : Option Addr} {osl : Array (Option Value)} {f : Addr} {args : Args} {binds : List (Str × Value)}
  {p : Program} {loose : List Str} {mean : ExcName → Option Value} {mg mb : Str → Option Value}
/-- a def that may catch something: the frames stand in the ledger -/
theorem callT2 (F : Fr h₀ L s.heap m) (X₀ : K.In h₀) (N : News h₀ L s.heap (fp ++ (frs ++ rest))) (hdi : Dist (fp ++ (frs ++ rest))) (T : Top p loose mean mg mb h₀) (Fs : TI.Frs outer frs)
    (hf : env.frame = some L) (hke : env.scope.kind = .function)
    (ho : K.lookup f = some ⟨oc, od, .func (fnOf name qual params body scope dV kV doc pm an cdv ct), osl⟩) (hcd : codeIn K cdv qual = true) (hroom : A.depth < recursionLimit)
    (hbind : BindsTo s (fnOf name qual params body scope dV kV doc pm an cdv ct) args binds) (hloc : ∀ y ∈ binds, scope.names.lookup y.1 = some .local)
    (h : ∀ g L' h₁ oL, h₀.StaysIn g → Fr g L' h₁ (fun y => binds.reverse.lookup y) → News g L' h₁ (fp ++ (L, oL) :: frs) → Dist (fp ++ (L, oL) :: frs) → TI.Frs (env :: outer) ((L, oL) :: frs) → K.In g → Top p loose mean mg mb g → (∀ p ∈ rest, g.get? p.1 = some p.2) → s.heap.get? L = some oL →
      wpAny (model prog w) (A.deeper (envOf qual scope L' f cdv)) (execs body (envOf qual scope L' f cdv))
        (fun fl s' => LeaveT h₀ L m frs rest g oL R (match fl with | .ret v => v | _ => .none) s')
        (fun e s' => wpAny (model prog w) (A.deeper (envOf qual scope L' f cdv)) (leaving (envOf qual scope L' f cdv) e) (fun _ s'' => R (.error e) s'') (fun e' s'' => R (.error e') s'') s')
        { s with heap := h₁, toks := s.toks + binds.length })
    (hco : scope.isCoroutine = false) (hgen : scope.isGenerator = false) (hk : scope.kind = .function)
    (hcell : ∀ x ∈ scope.names, x.2 ≠ .cell) : codeAny (model prog w) A (.call (.ref f) args) R s := by
  obtain ⟨oL, es, ep, hL, hLr⟩ := F.ns
  have X := X₀.keeps F.keep
  have hLd : ∃ es ep, oL.data = .dict es ep := ⟨es, ep, hLr.1⟩
  -- the hidden part: fp, L, frs
  have dF := dist_left (a := fp ++ frs) (b := rest) (by rw [List.append_assoc]; exact hdi)
  have N1 : News h₀ L s.heap (fp ++ frs) := News.sub N fun p hp => by
    rcases List.mem_append.mp hp with q | q
    · exact List.mem_append_left _ q
    · exact List.mem_append_right _ (List.mem_append_left _ q)
  have N2 : News h₀ L s.heap rest := News.sub N fun p hp => List.mem_append_right _ (List.mem_append_right _ hp)
  have mem' : ∀ p, p ∈ fp ++ (L, oL) :: frs ↔ p = (L, oL) ∨ p ∈ fp ++ frs := fun p => by
    simp only [List.mem_append, List.mem_cons]
    constructor
    · rintro (a | a | a)
      · exact .inr (.inl a)
      · exact .inl a
      · exact .inr (.inr a)
    · rintro (a | a | a)
      · exact .inr (.inl a)
      · exact .inl a
      · exact .inr (.inr a)
  have hget : ∀ p ∈ fp ++ (L, oL) :: frs, s.heap.get? p.1 = some p.2 := fun p hp => by
    rcases (mem' p).mp hp with rfl | q
    · exact hL
    · exact (N1 p q).1
  have hnone : ∀ p ∈ fp ++ (L, oL) :: frs, h₀.get? p.1 = none := fun p hp => by
    rcases (mem' p).mp hp with rfl | q
    · cases q : h₀.get? L with
      | none => rfl
      | some o => exact absurd (Heap.lt_size q) (Nat.not_lt.mpr F.above)
    · exact (N1 p q).2.2
  have nL : ∀ p ∈ fp ++ frs, p.1 ≠ L := fun p hp => (N1 p hp).2.1
  have dL : Dist (fp ++ (L, oL) :: frs) := (dist_cons nL dF).perm List.perm_middle.symm
  have dR : ∀ p ∈ fp ++ (L, oL) :: frs, ∀ q ∈ rest, p.1 ≠ q.1 := fun p hp q hq => by
    rcases (mem' p).mp hp with rfl | z
    · exact fun e => (N2 q hq).2.1 e.symm
    · exact dist_ap (a := fp ++ frs) (b := rest) (by rw [List.append_assoc]; exact hdi) p z q hq
  generalize hG : hideAll s.heap ((fp ++ (L, oL) :: frs).map (·.1)) = G
  have st : h₀.StaysIn G := fun b o e => by
    rw [← hG]
    refine hideAll_get _ (F.keep b o e) fun q => ?_
    obtain ⟨p, hp, rfl⟩ := List.mem_map.mp q
    rw [hnone p hp] at e; cases e
  have kr : ∀ p ∈ rest, G.get? p.1 = some p.2 := fun p hp => by
    rw [← hG]
    refine hideAll_get _ (N2 p hp).1 fun q => ?_
    obtain ⟨q', hq', e⟩ := List.mem_map.mp q
    exact dR q' hq' p hp e
  refine codeAny_call_def (fd := fnOf name qual params body scope dV kV doc pm an cdv ct) (body := body) (binds := binds) hroom (X _ _ ho) rfl (T.nolimit.keeps F.keep) (codeRec_of X hcd) rfl hbind hcell hloc (fun h₁ hns hk₁ => ?_) hco hgen hk
  refine wpAny_mono (h G s.heap.objs.size h₁ oL st ⟨hns, fun b o e => hk₁ b o (of_hideAll _ (hG ▸ e)), Nat.le_of_eq (hG ▸ hideAll_size _ _)⟩
    (fun p hp => ⟨hk₁ _ _ (hget p hp), Nat.ne_of_lt (Heap.lt_size (hget p hp)), hG ▸ hideAll_none _ (List.mem_map_of_mem hp)⟩) dL ⟨by rw [hke]; decide, hf, hLd, Fs⟩ (X₀.keeps st) (T.keeps st) kr hL) (fun fl s' hl => ?_) fun _ _ y => y
  obtain ⟨L', m', fp', frs', sl, F', N', d', su, k⟩ := hl
  have hL' : s'.heap.get? L = some { oL with slots := sl } := (N' _ (List.mem_append_right _ List.mem_cons_self)).1
  have dF' : Dist (fp' ++ frs') := dist_tail (d'.perm List.perm_middle)
  have nL' : ∀ p ∈ fp' ++ frs', p.1 ≠ L := dist_head (d'.perm List.perm_middle)
  refine k ⟨⟨_, es, ep, hL', hLr⟩, fun b o e => F'.keep b o (st b o e), F.above⟩ (fun p hp => ?_) ?_
  · rw [← List.append_assoc] at hp
    rcases List.mem_append.mp hp with hp | hp
    · have z := N' p (by
        rcases List.mem_append.mp hp with q | q
        · exact List.mem_append_left _ q
        · exact List.mem_append_right _ (List.mem_cons_of_mem _ q))
      refine ⟨z.1, nL' p hp, ?_⟩
      cases q : h₀.get? p.1 with
      | none => rfl
      | some o => have := z.2.2; rw [st _ _ q] at this; cases this
    · exact ⟨F'.keep _ _ (kr p hp), (N2 p hp).2⟩
  · rw [← List.append_assoc]
    refine dist_app dF' (dist_right (a := fp ++ frs) (by rw [List.append_assoc]; exact hdi)) fun p hp q hq e => ?_
    have z := N' p (by
        rcases List.mem_append.mp hp with q | q
        · exact List.mem_append_left _ q
        · exact List.mem_append_right _ (List.mem_cons_of_mem _ q))
    have := z.2.2
    rw [e, kr q hq] at this; cases this
end
end
theorem noneS5 : True := by
  k_with_none
  trivial
noncomputable abbrev vwO (d : Nat) : Obj := { cls := .type "dict_values", data := .fields #[.ref d] }
section
variable {prog : Program} {w : World} {A : Around} {s : Shared} {E : Value → Shared → Prop} {h₀ : Heap} {L : Addr} {m : Str → Option Value} {env : Env} {news : Led} {D : Nat} {oD : Obj} {kvs : List (Str × Value)}
theorem values_d {Q : Value → Shared → Prop} (F : Fr h₀ L s.heap m) (N : News h₀ L s.heap news) (hm : (D, oD) ∈ news) (hD : oD.IsDictOf (PySem.strKind prog w) kvs) (lo : (D == sysModules) = false)
    (h : ∀ (V : Nat) h', Fr h₀ L h' m → News h₀ L h' ((V, vwO D) :: news) → (∀ p ∈ news, p.1 < V) → Q (.ref V) { s with heap := h' }) :
    wpAny (model prog w) A (call (.builtin "dict.values") [.ref D]) Q E s :=
  have hd := kda_dict N hm hD
  call_meetsIn PySem.F.slot_dict_values hd.typeIs PySem.F.entry_dict_values (PySem.F.args_dict_values_1 _) (meets_dict_values (PySem.strKind prog w) D lo) ⟨⟨_, hd⟩, h _ _ (F.push _) (News.push F N _ rfl) fun p hp => Heap.lt_size (N p hp).1⟩
/-- a comprehension's source is the values of a dict -/
noncomputable def SrcV (prog : Program) (w : World) (A : Around) (h₀ : Heap) (L : Addr) (m : Str → Option Value) (env : Env) (ifs : List PySem.Expr) (elt : PySem.Expr) (x : Str) (scope : Scope) (cl : List (Str × Addr)) (Q : Value → Shared → Prop) (xv : Value) (s₁ : Shared) : Prop :=
  ∃ (V D : Nat) (oD : Obj) (kvs : List (Str × Value)) (news : Led) (keep : Nat → Bool) (O : Nat → Value → Prop), xv = .ref V ∧ A.handled = none ∧ Fr h₀ L s₁.heap m ∧ News h₀ L s₁.heap news ∧ (V, vwO D) ∈ news ∧ (D, oD) ∈ news ∧ oD.IsDictOf (PySem.strKind prog w) kvs ∧ kvs.length ≤ sizeLine ∧
    (∀ g, TurnW prog w A h₀ L m env ifs elt x scope cl { s₁ with heap := g } (fun i v => ∃ k, kvs[i]? = some (k, v)) keep O kvs.length news) ∧ ∀ g, DoneW h₀ L m { s₁ with heap := g } news Q (MadeL keep O kvs.length 0)
theorem compV {elt iter : PySem.Expr} {ifs : List PySem.Expr} {x : Str} {px : Pos} {scope : Scope} {cl : List (Str × Addr)} {pos : Pos} {Q : Value → Shared → Prop} (_F₀ : Fr h₀ L s.heap m)
    (hclos : closureFor scope env = pure cl) (hcell : ∀ y ∈ scope.names, y.2 ≠ .cell) (hkind : scope.kind = .function)
    (hnames : ∀ y ∈ scope.names, y.2 = .local → scope.names.lookup y.1 = some .local) (hx : scope.names.lookup x = some .local)
    (h : wpAny (model prog w) A (eval iter env) (SrcV prog w A h₀ L m env ifs elt x scope cl Q) E s)
    (hs : ∀ x, foldedSetIterable iter env x = pure x := by intro _; rfl) :
    wpAny (model prog w) A (eval (.ListComp elt [⟨.Name x px, iter, ifs, 0⟩] scope pos) env) Q E s := by
  rw [eval_ListComp]
  refine wpAny_comprehension_free (use := none) rfl hs hclos hkind hnames (wpAny_mono h (fun xv s₁ h₁ => ?_) fun _ _ e => e)
  obtain ⟨V, D, oD, kvs, news, keep, O, rfl, hh, F, N, hV, hm, hD, hsz, turn, fin⟩ := h₁
  obtain ⟨ep, hat⟩ := KdkAt.of hD
  have hat1 := hat.dictAt (N _ hm).1
  have hlt := Heap.lt_size (N _ hm).1
  refine wpAny_pyIter_values (kvs := kvs) ⟨_, (N _ hV).1, rfl, rfl⟩ hat1 ?_
  refine blockW (Walks.dictValues (knd := PySem.strKind prog w) hh s₁.heap.objs.size D (Nat.ne_of_lt hlt) kvs ep) hsz (fun i h st => let ⟨⟨o, e, _⟩, _⟩ := st; ⟨o, e⟩) (fun b hb hn => ?_) hcell hkind hx ⟨⟨_, Heap.get?_push_size _ rfl, rfl, rfl⟩, hat1.push _⟩ (fun b hb => ?_)
      (F.keeps fun _ _ e => Heap.get?_push_of_some _ e) (N.grown fun _ _ e => Heap.get?_push_of_some _ e) (Nat.ne_of_lt F.ns.lt) (next_is_new F) (fun p hp => Nat.ne_of_lt (Heap.lt_size (N p hp).1)) (turn _) ?_
  · have hb' : b = s₁.heap.objs.size ∨ b = D := by simpa using hb
    rcases hb' with e | e
    · exact absurd e hn
    · exact ⟨oD, .inl (by rw [e]; exact hm)⟩
  · have hb' : b = s₁.heap.objs.size ∨ b = D := by simpa using hb
    show b < (s₁.heap.push _).objs.size
    rw [Heap.size_push]
    rcases hb' with e | e
    · rw [e]; exact Nat.lt_succ_self _
    · rw [e]; exact Nat.lt_succ_of_lt hlt
  · intro D C h tk m' ys F' N' o1 hn hC₀ hCL hCD offC htk hM
    refine ⟨m', hn, fun h'' hs'' => fin _ D h'' tk ys hM htk (F'.change hs'' hCL hC₀) (fun p hp => ?_) o1⟩
    refine ⟨hs''.extBut _ _ ?_ (N' p hp).1, (N' p hp).2⟩
    rcases List.mem_cons.mp hp with rfl | hp
    · exact Ne.symm hCD
    · exact offC p hp
end
/-- the nodes without predecessors -/
noncomputable def rd0 (ns : List Nd) : List (Nat × Tok) := (ns.filter fun x => decide (x.np = 0)).map fun x => (x.c, x.nt)
theorem made_rd0 {ns : List Nd} {ys : List Value} (h : MadeL (fun i => (ns[i]?.map fun x => decide (x.np = 0)).getD false) (fun i y => ∃ x, ns[i]? = some x ∧ y = .str (sg x.c) x.nt) ns.length 0 ys) :
    ys = (rd0 ns).map fun p => Value.str (sg p.1) p.2 := by
  suffices hh : ∀ k i ys, k + i = ns.length → MadeL (fun i => (ns[i]?.map fun x => decide (x.np = 0)).getD false) (fun i y => ∃ x, ns[i]? = some x ∧ y = .str (sg x.c) x.nt) k i ys → ys = (rd0 (ns.drop i)).map fun p => Value.str (sg p.1) p.2 from by
    simpa using hh _ 0 ys (Nat.add_zero _) h
  intro k
  induction k with
  | zero =>
    intro i ys hk hm
    rw [List.drop_of_length_le (by omega)]
    obtain rfl : ys = [] := hm
    rfl
  | succ k ih =>
    intro i ys hk hm
    have hi : i < ns.length := by omega
    have e : ns[i]? = some ns[i] := List.getElem?_eq_getElem hi
    rw [List.drop_eq_getElem_cons hi]
    unfold rd0
    rw [List.filter_cons]
    unfold MadeL at hm
    simp only [e, Option.map_some, Option.getD_some] at hm
    cases hc : decide (ns[i].np = 0) with
    | true =>
      simp only [hc, if_true] at hm
      obtain ⟨y, r, rfl, ⟨x, hx, rfl⟩, hr⟩ := hm
      injection hx with hx
      subst hx
      simp only [if_true, List.map_cons]
      rw [ih (i + 1) r (by omega) hr]
      rfl
    | false =>
      simp only [hc, Bool.false_eq_true, if_false] at hm ⊢
      exact ih (i + 1) ys (by omega) hm
theorem noneC18 : True := by
  k_with_none
  trivial
-- addresses that differ: by a fact of the context first
-- a def entered: what is left is its body
theorem rowsC18_3 : True := by
  k_with "kroom" => ((try simp only [depth_under_make, depth_under_kw, depth_in1, depth_deeper, depth_caller, recursionLimit] at *); omega)
  k_with "kne" => first | with_reducible assumption | exact Ne.symm (by with_reducible assumption) | (refine neN ?_; (try dsimp only); first | with_reducible assumption | exact Nat.ne_of_lt (by with_reducible assumption) | exact Nat.ne_of_gt (by with_reducible assumption) | exact Ne.symm (by with_reducible assumption) | (refine' Nat.ne_of_lt (Nat.lt_trans ?z155xh1 ?z155xh2); (case z155xh2 => with_reducible assumption); (case z155xh1 => with_reducible assumption)) | (refine' Nat.ne_of_gt (Nat.lt_trans ?z155xh1 ?z155xh2); (case z155xh2 => with_reducible assumption); (case z155xh1 => with_reducible assumption)) | omega)
  k_with "spl" => first | (refine' Spl.cons ?z156xsp; (case z156xsp => walk_at "spl")) | exact Spl.nil
  k_with "enter" => ((case k6 => k_is); (case k7 => k_is); (case k8 => k_room); (case k9 => exact BindsTo.of_eq rfl); (case c5 => decide); (case kB => exact locs rfl); (case c2 => exact rfl); (case c3 => exact rfl); (case c4 => exact rfl))
  k_with "enterV" => ((case k6 => k_is); (case k7 => k_is); (case k8 => k_room); (case kP => exact rfl); (case kG => exact fun _ => rfl); (case c5 => decide); (case kB => exact fun _ => locs rfl); (case c2 => exact rfl); (case c3 => exact rfl); (case c4 => exact rfl))
  k_with "apart" => first | exact apNil | (refine apCons (by assumption) ?_; walk_at "apart")
  k_with "allne" => first | with_reducible assumption | exact List.forall_mem_nil _ | (refine' fa_cons ?z160xfh ?z160xft; (case z160xfh => k_ne); (case z160xft => walk_at "allne"))
  k_with "sub" => first | exact subNil | exact fun _ h => h | (refine' subCons ?z161xs1 ?z161xs2; (case z161xs1 => k_mem); (case z161xs2 => walk_at "sub")) | (refine' subTail ?z161xs3; (case z161xs3 => walk_at "sub"))
  k_with "pick" => first | exact Pick.head | (refine' Pick.tail ?z162xpk; (case z162xpk => walk_at "pick"))
  k_with "leave" => (refine' ⟨_, _, _, ?z163xka, ?z163xkb, ?z163xkc⟩; (case z163xka => k_asm); (case z163xkb => k_asm); intro _ _ kA; (have na9 := np_of kA (by walk_at "spl")); (repeat (have hx9 := np_head na9; revert hx9; intro _; replace na9 := np_tail na9)); clear na9; replace kA := np_tl kA (by walk_at "spl"); revert kA; intro _)
  k_with "allne" => first | with_reducible assumption | exact lt_all (by with_reducible assumption) | exact List.forall_mem_nil _ | (refine' fa_cons ?z164xfh ?z164xft; (case z164xfh => k_ne); (case z164xft => walk_at "allne"))
  k_with "look" => first | assumption | exact upd_eq | (refine upd_ne (by decide) ?_; walk_at "look")
  k_with "eval Name" => (k_here; k_dflt (refine' nameX_L ?z166xF ?z166xv ?_ ?z166xa ?z166xb; (case z166xF => k_asm); (case z166xa => rfl); (case z166xb => rfl); (case z166xv => walk_at "look"); k_whole))
  k_with "eval ListComp" => (k_here; k_dflt (refine compV (by k_asm) (by with_unfolding_all rfl) (by decide) (by rfl) (by decide) (by rfl) ?_))
  k_with "call builtin:dict.values" => (k_here; k_dflt (refine values_d (by k_asm) (by k_asm) (by k_mem) (by assumption) (by assumption) ?_); intro _ _ _ _ l1; (try k_lt l1); (try (revert l1; intro _)))
  trivial
section
variable {w : World} {s : Shared} {h₀ : Heap} {outer : List Env} {L : Addr} {m : Str → Option Value} {env : Env} {rest frs : Led}
  {R : Result → Shared → Prop} {mean : ExcName → Option Value} {mg mb : Str → Option Value} {d u : Nat} {g : Option (List Code)} {self sd D : Nat} {t1 t2 t3 t4 : Tok} {v3 v4 : Value} {oD : Obj} {ns : List Nd}
theorem prepare_c
  (F : Fr h₀ L s.heap m) (X₀ : (hd.heap_39 w.params).In h₀) (T : Tp mean mg mb h₀)
  (hf : env.frame = some L) (hke : env.scope.kind = .function) (hroom : d + 150 < 1000) (Fs : TI.Frs outer frs)
  (N : News h₀ L s.heap ((self, instObj 158 sd) :: (sd, sdO w t1 t2 t3 t4 (.ref D) .none v3 v4) :: (D, oD) :: (gLed ns ++ (frs ++ rest))))
  (hdi : Dist ((self, instObj 158 sd) :: (sd, sdO w t1 t2 t3 t4 (.ref D) .none v3 v4) :: (D, oD) :: (gLed ns ++ (frs ++ rest))))
  (hD : Dk w oD (gKv ns)) (lo : (D == sysModules) = false) {ring : Bool} (hrg : forA (ns.map Nd.abs) (ns.map Nd.c) [] = some ring) (hz : ns.length ≤ 50)
  (kN : ring = false → ∀ h' tk' frs' (Rn : Nat) ep, TI.SameUp frs frs' → Fr h₀ L h' m → News h₀ L h' ((self, instObj 158 sd) :: (sd, sdO w t1 t2 t3 t4 (.ref D) (.ref Rn) v3 v4) :: (D, oD) :: (Rn, listOf (strA (rd0 ns)) ep) :: (gLed ns ++ (frs' ++ rest))) →
    Dist ((self, instObj 158 sd) :: (sd, sdO w t1 t2 t3 t4 (.ref D) (.ref Rn) v3 v4) :: (D, oD) :: (Rn, listOf (strA (rd0 ns)) ep) :: (gLed ns ++ (frs' ++ rest))) → R (.ok (.ret .none)) { s with heap := h', toks := tk' })
  (kR : ring = true → ∀ h' tk' e oL, s.heap.get? L = some oL → Air h₀ (env :: outer) ((L, oL) :: frs) rest e h' → R (.error (.ref e)) { s with heap := h', toks := tk' }) :
  codeAny (model PySem.Challenge.rw_mr0322_01.row.prog w) (Ar d env outer g u) (.call (.ref 113) ⟨[.ref self], []⟩) R s := by
  replace hD : Obj.IsDictOf (PySem.strKind PySem.Challenge.rw_mr0322_01.row.prog w) oD (gKv ns) := hD
  k_dflt (refine' callT2 (fp := (self, instObj 158 sd) :: (sd, sdO w t1 t2 t3 t4 (.ref D) .none v3 v4) :: (D, oD) :: gLed ns) (frs := frs) (rest := rest) (outer := outer) (env := env) (binds := [(Str.ofString "self", .ref self)]) F X₀ (by exact N) (by exact hdi) T Fs hf hke ?k6 ?k7 ?k8 ?k9 ?kB ?_ ?c2 ?c3 ?c4 ?c5)
  walk_at "enter"
  intro g' L' h' oL st F' N' d' Fs' X' T' hrs hoL
  try dsimp only
  k_fold
  simp only [List.cons_append] at N' d'
  generalize htl : gLed ns ++ (L, oL) :: frs = tl at N' d'
  have d1 := dist_head d'
  have d2 := dist_head (dist_tail d')
  have d3 := dist_head (dist_tail (dist_tail d'))
  (have na9 := na_of d1 (by walk_at "spl")); (repeat (have hx9 := na_head na9; replace na9 := na_tail na9)); clear na9; replace d1 := na_tl d1 (by walk_at "spl")
  (have na9 := na_of d2 (by walk_at "spl")); (repeat (have hx9 := na_head na9; replace na9 := na_tail na9)); clear na9; replace d2 := na_tl d2 (by walk_at "spl")
  k_steps
  rename_i V hA FA NA y1 y2 y3 l1
  have hkz : (gKv ns).length ≤ sizeLine := by unfold gKv; rw [List.length_map]; exact Nat.le_trans hz (by decide)
  refine ⟨V, D, oD, gKv ns, _, (fun i => (ns[i]?.map fun x => decide (x.np = 0)).getD false), (fun i y => ∃ x, ns[i]? = some x ∧ y = .str (sg x.c) x.nt), rfl, rfl, FA, NA, by k_mem, by k_mem, hD, hkz, fun gg => ?turn, fun gg => ?fin⟩
  case turn =>
    rintro i v ys I oI C oC D2 m₂ h tk E' hi ⟨k0, hk0⟩ hC hm F3 N3 off ne htk
    obtain ⟨x, hx, hk⟩ : ∃ x, ns[i]? = some x ∧ v = .ref x.I := by
      unfold gKv at hk0
      rw [List.getElem?_map] at hk0
      cases e : ns[i]? with
      | none => rw [e] at hk0; cases hk0
      | some x => rw [e] at hk0; cases hk0; exact ⟨x, rfl, rfl⟩
    subst hk
    have hxm : ∀ p ∈ x.led, p ∈ tl := fun p hp => by
      rw [← htl]
      exact List.mem_append_left _ (List.mem_flatMap.mpr ⟨x, List.mem_of_getElem? hx, hp⟩)
    have N4 : News g' L' h ((C, oC) :: x.led) := News.sub N3 fun p hp => by
      rcases List.mem_cons.mp hp with rfl | hp
      · exact List.mem_cons_of_mem _ List.mem_cons_self
      · exact List.mem_cons_of_mem _ (List.mem_cons_of_mem _ (List.mem_cons_of_mem _ (List.mem_cons_of_mem _ (List.mem_cons_of_mem _ (List.mem_cons_of_mem _ (List.mem_cons_of_mem _ (hxm p hp)))))))
    simp only [Nd.led] at N4
    refine wpAny_tests_one ?_
    dsimp only
    k_steps
    · exact LCg.CompEnd.intro F3 N3 _ (fun _ h => h) off trivial ⟨by rw [hx]; exact decide_eq_true (by assumption), ⟨x, hx, rfl⟩, fun _ h => h⟩
    · exact LCg.CompEnd.intro F3 N3 _ (fun _ h => h) off trivial ⟨by rw [hx]; exact decide_eq_false (by assumption), fun _ h => h⟩
  case fin =>
    intro Rn h9 tk9 ys hM htk F9 N9 hD9
    have eL : (gKv ns).length = ns.length := List.length_map _
    rw [eL] at hM
    have hys := made_rd0 hM
    subst hys
    have e1 := fa_headA (fa_tail hD9)
    have e2 := fa_headA (fa_tail (fa_tail hD9))
    have e3 := fa_headA (fa_tail (fa_tail (fa_tail hD9)))
    replace hD9 := fa_tail (fa_tail (fa_tail (fa_tail hD9)))
    dsimp only
    obtain ⟨ep, hep⟩ : ∃ ep, LCg.lst ((rd0 ns).map fun p => Value.str (sg p.1) p.2) = listOf (strA (rd0 ns)) ep := ⟨_, rfl⟩
    rw [hep] at N9
    replace N9 : News g' L' h9 ((Rn, listOf (strA (rd0 ns)) ep) :: (self, instObj 158 sd) :: (sd, sdO w t1 t2 t3 t4 (.ref D) .none v3 v4) :: (D, oD) :: tl) := News.sub N9 fun p hp => by
      rcases List.mem_cons.mp hp with rfl | hp
      · exact List.mem_cons_self
      · exact List.mem_cons_of_mem _ (List.mem_cons_of_mem _ hp)
    clear NA FA l1 N' F' y1 y2 y3
    k_steps
    rename_i hB FB NB
    dsimp only
    refine wpAny_call ?_
    have dA : Dist ((Rn, listOf (strA (rd0 ns)) ep) :: (self, instObj 158 sd) :: (sd, sdO w t1 t2 t3 t4 (.ref D) (.ref Rn) v3 v4) :: (D, oD) :: tl) := dist_cons (fa_cons e1 (fa_cons e2 (fa_cons e3 hD9))) d'
    subst htl
    have pmA : ((Rn, listOf (strA (rd0 ns)) ep) :: (self, instObj 158 sd) :: (sd, sdO w t1 t2 t3 t4 (.ref D) (.ref Rn) v3 v4) :: (D, oD) :: (gLed ns ++ (L, oL) :: frs)).Perm ((self, instObj 158 sd) :: (sd, sdO w t1 t2 t3 t4 (.ref D) (.ref Rn) v3 v4) :: (D, oD) :: (gLed ns ++ (((L, oL) :: frs) ++ [(Rn, listOf (strA (rd0 ns)) ep)]))) := by
      have := (pull ((self, instObj 158 sd) :: (sd, sdO w t1 t2 t3 t4 (.ref D) (.ref Rn) v3 v4) :: (D, oD) :: (gLed ns ++ (L, oL) :: frs)) [(Rn, listOf (strA (rd0 ns)) ep)] []).symm
      simpa only [List.append_assoc, List.cons_append, List.nil_append, List.append_nil] using this
    refine find_c (ns := ns) (frs := (L, oL) :: frs) (rest := [(Rn, listOf (strA (rd0 ns)) ep)]) FB X' T' rfl rfl ?_ Fs' (Mine.News.perm NB pmA) (dA.perm pmA) hD lo hrg (fun hr => ?kn) (fun hr => ?kr)
    case kn =>
      intro h' tk' frs' SU FN NN DN
      obtain ⟨sl, frs2, rfl, SU2⟩ := sameUp_cons SU
      generalize htl : gLed ns ++ ((L, { oL with slots := sl }) :: frs2 ++ [(Rn, listOf (strA (rd0 ns)) ep)]) = tl at NN DN
      dsimp only
      k_steps
      rename_i hC FC NC
      subst htl
      have pm2 : ((self, instObj 158 sd) :: (sd, sdO w t1 t2 t3 t4 (.ref D) (.ref Rn) v3 v4) :: (D, oD) :: (gLed ns ++ ((L, ({ oL with slots := sl } : Obj)) :: frs2 ++ [(Rn, listOf (strA (rd0 ns)) ep)]))).Perm ((self, instObj 158 sd) :: (sd, sdO w t1 t2 t3 t4 (.ref D) (.ref Rn) v3 v4) :: (D, oD) :: (Rn, listOf (strA (rd0 ns)) ep) :: (gLed ns ++ (L, { oL with slots := sl }) :: frs2)) := by
        refine List.Perm.cons _ (List.Perm.cons _ (List.Perm.cons _ ?_))
        have := pull (gLed ns ++ (L, ({ oL with slots := sl } : Obj)) :: frs2) [(Rn, listOf (strA (rd0 ns)) ep)] []
        simpa only [List.append_assoc, List.cons_append, List.nil_append, List.append_nil] using this
      refine ⟨_, _, (self, instObj 158 sd) :: (sd, sdO w t1 t2 t3 t4 (.ref D) (.ref Rn) v3 v4) :: (D, oD) :: (Rn, listOf (strA (rd0 ns)) ep) :: gLed ns, frs2, sl, FC, by exact Mine.News.perm NC pm2, by exact DN.perm pm2, SU2, fun kF kN' kD => ?_⟩
      exact kN hr _ _ frs2 Rn ep SU2 kF kN' kD
    case kr =>
      intro h' tk' frs' C x y z SU FN NN DN
      obtain ⟨sl, frs2, rfl, SU2⟩ := sameUp_cons SU
      generalize htl : gLed ns ++ ((L, { oL with slots := sl }) :: frs2 ++ [(Rn, listOf (strA (rd0 ns)) ep)]) = tl at NN DN
      dsimp only
      k_steps
      rename_i hC FC NC tkC hE e hx
      subst htl
      have NC' : News g' L' hC ([] ++ (L, { oL with slots := sl }) :: frs2) := News.sub NC fun p hp => List.mem_cons_of_mem _ (List.mem_cons_of_mem _ (List.mem_cons_of_mem _ (List.mem_cons_of_mem _ (List.mem_append_right _ (List.mem_append_left _ hp)))))
      refine leave_made (kept := rest) (l := env :: outer) (frs := (L, { oL with slots := sl }) :: frs2) rfl (Fs'.up SU) hx FC NC' rfl (fun p hp => ⟨FC.keep _ _ (hrs p hp), fun hm => ?_⟩) fun h2 A2 => ?_
      · rcases List.mem_cons.mp hm with q | q
        · exact absurd (Nat.lt_of_lt_of_le (Heap.lt_size (hrs p hp)) FC.above) (by rw [q]; exact Nat.lt_irrefl _)
        · obtain ⟨q', hq', e'⟩ := List.mem_map.mp q
          have := (NC' q' (List.mem_append_right _ hq')).2.2
          rw [e', hrs p hp] at this; cases this
      · obtain ⟨B, t, fl, frs3, y1, y2, y3, y4, y5, y6, SU3, ht3⟩ := A2
        exact kR hr h2 _ e oL hoL ⟨B, t, fl, frs3, fun b o q => y1 b o (st b o q), y2, y3, y4, y5, y6, SU.trans SU3, ht3⟩
    all_goals k_room
end
theorem noneG4 : True := by
  k_with_none
  trivial
section
open PySem.W.X
/-- the ledger without a frame at hand -/
noncomputable def NewsO (h₀ h : Heap) (led : Led) : Prop := ∀ p ∈ led, h.get? p.1 = some p.2 ∧ h₀.get? p.1 = none
/-- a piece of a run: the generator's own objects, the frames, the rest -/
structure Stp (h₀ : Heap) (s s₁ : Shared) (own frs cl : Led) : Prop where
  is : ∃ h tk, s₁ = { s with heap := h, toks := tk }
  st : h₀.StaysIn s₁.heap
  n : NewsO h₀ s₁.heap (own ++ (frs ++ cl))
  d : Dist (own ++ (frs ++ cl))
/-- how a generator's state is woken -/
inductive Wk (c₀ : Code) (t₀ : Sem PySem.Fin) (fs₀ : List Frame) : GenState → Prop
  | fresh : t₀ = denote table c₀ → fs₀ = [] → Wk c₀ t₀ fs₀ (.fresh c₀)
  | susp {k l p cl} : t₀ = k (.send .none) → Wk c₀ t₀ fs₀ (.suspended k l c₀ p fs₀ cl)
theorem Wk.st {c₀ t₀ fs₀ gs} (x : Wk c₀ t₀ fs₀ gs) : (gs = .fresh c₀ ∧ t₀ = denote table c₀ ∧ fs₀ = []) ∨ (∃ k₀ l₀ p₀ cl, gs = .suspended k₀ l₀ c₀ p₀ fs₀ cl ∧ t₀ = k₀ (.send .none)) := by
  cases x with
  | fresh a b => exact .inl ⟨rfl, a, b⟩
  | susp a => exact .inr ⟨_, _, _, _, rfl, a⟩
noncomputable abbrev Ag (d : Nat) (outer : List Env) (g : Option (List Code)) (u : Nat) : Around := { handled := none, depth := d, frames := some outer, guards := g, units := u }
/-- one waking of a generator -/
noncomputable def Goes (prog : Program) (w : World) (h₀ : Heap) (own : Led) (gs : GenState) (post : (s : Shared) → (frs cl : Led) → End → Shared → Prop) : Prop :=
  ∃ c₀ t₀ fs₀, Wk c₀ t₀ fs₀ gs ∧ ∀ d outer g u s frs cl, d + 200 < 1000 → TI.Frs outer frs → Stp h₀ s s own frs cl →
    SegX (model prog w) (Ag d outer g u) c₀ t₀ fs₀ s (post s frs cl)
/-- it hands out these values, then it ends -/
noncomputable def Rdy (prog : Program) (w : World) (h₀ : Heap) : List Value → Led → GenState → Prop
  | [], own, gs => Goes prog w h₀ own gs fun s frs cl e s₁ => ∃ own' frs', TI.SameUp frs frs' ∧ Stp h₀ s s₁ own' frs' cl ∧ e = .ret (.ok (.ret .none))
  | v :: r, own, gs => Goes prog w h₀ own gs fun s frs cl e s₁ => ∃ own' frs', TI.SameUp frs frs' ∧ Stp h₀ s s₁ own' frs' cl ∧ ∃ g l k c p fs, e = .susp v g l k c p fs ∧ Rdy prog w h₀ r own' e.genState
/-- what the end of a piece tells -/
noncomputable def Nxt (prog : Program) (w : World) (h₀ : Heap) (rem : List Value) (own' : Led) (e : End) : Prop :=
  match rem with
  | [] => e = .ret (.ok (.ret .none))
  | v :: r => ∃ g l k c p fs, e = .susp v g l k c p fs ∧ Rdy prog w h₀ r own' e.genState
noncomputable def PostG (prog : Program) (w : World) (h₀ : Heap) (rem : List Value) (s : Shared) (frs cl : Led) (e : End) (s₁ : Shared) : Prop :=
  ∃ own' frs', TI.SameUp frs frs' ∧ Stp h₀ s s₁ own' frs' cl ∧ Nxt prog w h₀ rem own' e
theorem rdy_iff {prog : Program} {w : World} {h₀ : Heap} {rem : List Value} {own : Led} {gs : GenState} : Rdy prog w h₀ rem own gs ↔ Goes prog w h₀ own gs (PostG prog w h₀ rem) := by
  cases rem <;> (unfold Rdy PostG Nxt; exact Iff.rfl)
theorem Stp.trans {h₀ : Heap} {s s₁ s₂ : Shared} {own own' frs frs' cl : Led} (a : Stp h₀ s s₁ own frs cl) (b : Stp h₀ s₁ s₂ own' frs' cl) : Stp h₀ s s₂ own' frs' cl := by
  obtain ⟨h, tk, e⟩ := a.is
  obtain ⟨h', tk', e'⟩ := b.is
  exact ⟨⟨h', tk', by rw [e', e]⟩, b.st, b.n, b.d⟩
theorem PostG.from {prog : Program} {w : World} {h₀ : Heap} {rem : List Value} {s s₁ : Shared} {own frs frs' cl : Led} {e : End} {s₂ : Shared} (a : Stp h₀ s s₁ own frs' cl) (su : TI.SameUp frs frs') (x : PostG prog w h₀ rem s₁ frs' cl e s₂) : PostG prog w h₀ rem s frs cl e s₂ := by
  obtain ⟨own', frs2, su2, st, n⟩ := x
  exact ⟨own', frs2, su.trans su2, a.trans st, n⟩
section
variable {prog : Program} {w : World} {h₀ : Heap}
/-- an iterator over a tuple -/
noncomputable def IsItT (T i : Nat) (o : Obj) : Prop := o.cls = .type "tuple_iterator" ∧ o.data = .fields #[.ref T, .int i 0]
/-- the generator hands out the items of a tuple -/
theorem yf_run {I T : Nat} {items : List Value} {rest : List Value} {own : Led} {F2 : Frame} {fs : List Frame} {kk : Result → Sem PySem.Fin} {g : Bool} {l : List Value} {c₁ : Code} {p₁ : Pos} {kp : List Value}
    (hF : F2 = .ret kk none g l c₁ p₁ kp) (hfs : splitAtGen (F2 :: fs) = none) (hfg : (F2 :: fs).any Frame.guarded = false) (hT : (T, tupO items.toArray) ∈ own)
    (hh : ∀ d outer g u, ((Ag d outer g u).over (yfC I) (F2 :: fs)).handled = none)
    (done : ∀ d outer g u s frs cl, d + 200 < 1000 → TI.Frs outer frs → Stp h₀ s s own frs cl → SegX (model prog w) (Ag d outer g u) c₁ (kk (.ok (.ret .none))) fs s (PostG prog w h₀ rest s frs cl)) :
    ∀ (n i : Nat), items.length - i = n → i ≤ items.length → ∀ oI d outer g u s frs cl, IsItT T i oI → d + 200 < 1000 → TI.Frs outer frs → Stp h₀ s s ((I, oI) :: own) frs cl →
      SegX (model prog w) (Ag d outer g u) (yfC I) ((model prog w).den (yfC I)) (F2 :: fs) s (PostG prog w h₀ (items.drop i ++ rest) s frs cl) := by
  intro n
  induction n with
  | zero =>
    intro i hn hi oI d outer gg u s frs cl ho hd hF2 S
    obtain rfl : i = items.length := by omega
    rw [List.drop_length, List.nil_append]
    have zI := (S.n (I, oI) List.mem_cons_self).1
    have zT := (S.n (T, tupO items.toArray) (List.mem_cons_of_mem _ (List.mem_append_left _ hT))).1
    subst hF
    refine yf_end (T := T) (i := items.length) (items := items.toArray) (hh _ _ _ _) ⟨_, zI, ho⟩ ⟨_, zT, rfl, _, rfl⟩ (by simp) fun h' up => ?_
    have up' : ∀ b o, b ≠ I → s.heap.get? b = some o → h'.get? b = some o := up
    have dI := dist_head S.d
    have S' : Stp h₀ s { s with heap := h' } own frs cl := ⟨⟨h', s.toks, rfl⟩, fun b o e => up' b o (fun q => by
        have := (S.n (I, oI) List.mem_cons_self).2
        rw [q] at e; rw [e] at this; cases this) (S.st b o e), fun p hp => ⟨up' _ _ (dI p hp) (S.n p (List.mem_cons_of_mem _ hp)).1, (S.n p (List.mem_cons_of_mem _ hp)).2⟩, dist_tail S.d⟩
    exact (done d outer gg u _ frs cl hd hF2 ⟨⟨_, _, rfl⟩, S'.st, S'.n, S'.d⟩).mono fun e s₂ x => x.from S' (TI.SameUp.refl _)
  | succ n ih =>
    intro i hn hi oI d outer gg u s frs cl ho hd hF2 S
    have hlt : i < items.length := by omega
    rw [List.drop_eq_getElem_cons hlt, List.cons_append]
    have zI := (S.n (I, oI) List.mem_cons_self).1
    have zT := (S.n (T, tupO items.toArray) (List.mem_cons_of_mem _ (List.mem_append_left _ hT))).1
    refine yf_item (T := T) (i := i) (items := items.toArray) (x := items[i]) ⟨_, zI, ho⟩ ⟨_, zT, rfl, _, rfl⟩ (by simp [hlt]) hfs hfg fun h' l k p hk hi' hs' => ?_
    have dI := dist_head S.d
    have up' : ∀ b o, b ≠ I → s.heap.get? b = some o → h'.get? b = some o := hs'.extBut
    obtain ⟨oI', zI', ho'⟩ := hi'
    have nI := (S.n (I, oI) List.mem_cons_self).2
    have S' : Stp h₀ s { s with heap := h' } ((I, oI') :: own) frs cl := ⟨⟨h', s.toks, rfl⟩, fun b o e => up' b o (fun q => by
        rw [q] at e; rw [e] at nI; cases nI) (S.st b o e), fun p hp => by
          rcases List.mem_cons.mp hp with rfl | hp
          · exact ⟨zI', nI⟩
          · exact ⟨up' _ _ (dI p hp) (S.n p (List.mem_cons_of_mem _ hp)).1, (S.n p (List.mem_cons_of_mem _ hp)).2⟩, dist_cons dI (dist_tail S.d)⟩
    refine ⟨(I, oI') :: own, frs, TI.SameUp.refl _, S', _, _, _, _, _, _, rfl, rdy_iff.mpr ⟨_, _, _, .susp rfl, fun d2 outer2 g2 u2 s2 frs2 cl2 hd2 hF3 S2 => ?_⟩⟩
    exact hk _ _ _ _ T (i + 1) ⟨oI', (S2.n (I, oI') List.mem_cons_self).1, ho'⟩ (ih (i + 1) (by omega) hlt oI' d2 outer2 g2 u2 s2 frs2 cl2 ho' hd2 hF3 S2)
end
end
theorem noneG5 : True := by
  k_with_none
  trivial
section
open PySem.W.X
section
variable {prog : Program} {w : World} {A : Around} {c : Code} {fs : List Frame} {s : Shared} {P : End → Shared → Prop} {env : Env}
  {K : Flow → Sem PySem.Fin} {H : Value → Sem PySem.Fin} {gd : Bool → Bool} {lv : List Value → List Value}
theorem sx_bb {α β γ : Type} {m : Sem α} {f : α → Sem β} {g : β → Sem γ} {K : γ → Sem PySem.Fin} {M : Model}
    (h : SegX M A c ((m >>= f).wrap (fun a => (g a).wrap K H gd lv) (fun e => (Sem.raise e).wrap K H gd lv) gd lv) fs s P) : SegX M A c (((m >>= f) >>= g).wrap K H gd lv) fs s P := by
  rw [Sem.bind_eq_wrap' (m >>= f) g, Sem.wrap_wrap]; exact h
theorem sx_yfStmt {e : PySem.Expr} {ypos pos : Pos} {T : Nat} {items : Array Value} (hi : interactive env = false) (ht : s.heap.IsTuple T items)
    (hev : ∀ E, wpAny (model prog w) (A.over c fs) (eval e env) (fun v s' => v = .ref T ∧ s' = s) E s)
    (h : ∀ kk p l, kk (.ok (.ret .none)) = K .next → SegX (model prog w) A (yfC s.heap.objs.size) ((model prog w).den (yfC s.heap.objs.size)) (.ret kk none (gd false) l c p [] :: fs)
      { s with heap := s.heap.push { cls := .type "tuple_iterator", data := .fields #[.ref T, .int 0 0] } } P) :
    SegX (model prog w) A c ((exec (.Expr (.YieldFrom e ypos) pos) env).wrap K H gd lv) fs s P := by
  rw [exec_Expr env _ pos hi rfl]
  show SegX (model prog w) A c (.at pos fun _ => ((eval e env >>= fun v => (standAt ypos >>= fun _ => yieldFrom env v)) >>= fun x =>
    dropValue (.YieldFrom e ypos) pos x).wrap K H gd lv) fs s P
  refine sx_at (sx_bb (sx_bw (wpAny_mono (hev _) (fun v s' h' => ?_) fun _ _ x => x)))
  obtain ⟨rfl, rfl⟩ := h'
  refine sx_bw (wpAny_standAt ?_)
  unfold yieldFrom
  refine sx_bw (wpAny_typeOf ht.typeIs ?_)
  rw [if_neg (by decide)]
  refine sx_bw (wpAny_holding (wpAny_pyIter_tuple ht ?_))
  refine sx_call (k := _) fun p => h _ p _ ?_
  rfl
end
/-- a generator's state with one object more -/
theorem Stp.push {h₀ : Heap} {s : Shared} {own frs cl : Led} (S : Stp h₀ s s own frs cl) (o : Obj) (hf : o.isFreed = false) : Stp h₀ s { s with heap := s.heap.push o } ((s.heap.objs.size, o) :: own) frs cl := by
  have n0 : h₀.get? s.heap.objs.size = none := by
    cases e : h₀.get? s.heap.objs.size with
    | none => rfl
    | some o' => exact absurd (Heap.lt_size (S.st _ _ e)) (Nat.lt_irrefl _)
  refine ⟨⟨_, s.toks, rfl⟩, fun b o' e => Heap.get?_push_of_some _ (S.st b o' e), fun p hp => ?_, dist_cons (fun p hp => Nat.ne_of_lt (Heap.lt_size (S.n p hp).1)) S.d⟩
  rcases List.mem_cons.mp hp with rfl | hp
  · exact ⟨Heap.get?_push_size _ hf, n0⟩
  · exact ⟨Heap.get?_push_of_some _ (S.n p hp).1, (S.n p hp).2⟩
theorem Stp.self {h₀ : Heap} {s s₁ : Shared} {own frs cl : Led} (S : Stp h₀ s s₁ own frs cl) : Stp h₀ s₁ s₁ own frs cl := ⟨⟨_, _, rfl⟩, S.st, S.n, S.d⟩
/-- what the pieces of a generator's body do -/
structure GenSpec (prog : Program) (w : World) (h₀ : Heap) (genv : Env) (st0 : Stmt) (test : PySem.Expr) (st1 : Stmt) (e : PySem.Expr) (st3 : Stmt) (n : Nat) (items : Nat → List Value) (Own0 : Led → Prop) (At : Nat → Led → Prop) (Mid : Nat → Nat → Led → Prop) : Prop where
  pre : ∀ d outer g u s own frs cl E, d + 190 < 1000 → TI.Frs outer frs → Own0 own → Stp h₀ s s own frs cl →
    wpAny (model prog w) (Ar d genv outer g u) (exec st0 genv) (fun f s' => Held (f = .next ∧ ∃ own' frs', TI.SameUp frs frs' ∧ Stp h₀ s s' own' frs' cl ∧ At 0 own')) E s
  test : ∀ k d outer g u s own frs cl E, d + 190 < 1000 → k ≤ n → At k own → Stp h₀ s s own frs cl →
    wpAny (model prog w) (Ar d genv outer g u) (isTrue test genv (eval test genv)) (fun b s' => Held (b = decide (k < n) ∧ ∃ own', Stp h₀ s s' own' frs cl ∧ At k own')) E s
  take : ∀ k d outer g u s own frs cl E, d + 190 < 1000 → k < n → At k own → Stp h₀ s s own frs cl →
    wpAny (model prog w) (Ar d genv outer g u) (exec st1 genv) (fun f s' => Held (f = .next ∧ ∃ own' T, Stp h₀ s s' own' frs cl ∧ Mid k T own')) E s
  mem : ∀ k T own, Mid k T own → (T, tupO (items k).toArray) ∈ own
  name : ∀ k T d outer g u s own frs cl E, k < n → Mid k T own → Stp h₀ s s own frs cl → wpAny (model prog w) (Ar d genv outer g u) (eval e genv) (fun v s' => Held (v = .ref T ∧ s' = s)) E s
  done : ∀ k T d outer g u s own frs cl E, d + 190 < 1000 → k < n → Mid k T own → Stp h₀ s s own frs cl →
    wpAny (model prog w) (Ar d genv outer g u) (exec st3 genv) (fun f s' => Held (f = .next ∧ ∃ own', Stp h₀ s s' own' frs cl ∧ At (k + 1) own')) E s
section
variable {prog : Program} {w : World} {h₀ : Heap} {genv : Env} {st0 : Stmt} {test : PySem.Expr} {st1 : Stmt} {e : PySem.Expr} {st3 : Stmt} {n : Nat} {items : Nat → List Value} {Own0 : Led → Prop} {At : Nat → Led → Prop} {Mid : Nat → Nat → Led → Prop} {ypos pos1 pos2 : Pos}
theorem gen_loop (G : GenSpec prog w h₀ genv st0 test st1 e st3 n items Own0 At Mid) (hi : interactive genv = false) {kW : Result → Sem PySem.Fin} {l : List Value}
    (hW : ∀ (A : Around) s P, P (.ret (.ok (.ret .none))) s → SegX (model prog w) A (.func [st0, .While test [st1, .Expr (.YieldFrom e ypos) pos1, st3] [] pos2] genv) (kW (.ok .next)) [] s P) :
    ∀ (m k : Nat), n - k = m → k ≤ n → ∀ d outer g u s own frs cl p, d + 200 < 1000 → TI.Frs outer frs → At k own → Stp h₀ s s own frs cl →
      SegX (model prog w) (Ag d outer g u) (.whileLoop test [st1, .Expr (.YieldFrom e ypos) pos1, st3] [] genv) ((model prog w).den (.whileLoop test [st1, .Expr (.YieldFrom e ypos) pos1, st3] [] genv))
        [.ret kW none false l (.func [st0, .While test [st1, .Expr (.YieldFrom e ypos) pos1, st3] [] pos2] genv) p []] s (PostG prog w h₀ (((List.range n).drop k).flatMap items) s frs cl) := by
  intro m
  induction m with
  | zero =>
    intro k hm hk d outer g u s own frs cl p hd hF hA S
    obtain rfl : k = n := by omega
    rw [List.drop_of_length_le (by simp), List.flatMap_nil]
    refine sx_whileLoop (wpAny_mono (G.test k (d + 1) outer g _ s own frs cl _ (by omega) hk hA S) (fun b s' hb => ?_) fun x s' hx => hx)
    obtain ⟨⟨rfl, own', S', _⟩⟩ := hb
    rw [if_neg (by simp)]
    refine sx_nil (sx_leaf (.ok .next) (hW _ _ _ ⟨own', frs, TI.SameUp.refl _, S', rfl⟩))
  | succ m ih =>
    intro k hm hk d outer g u s own frs cl p hd hF hA S
    have hlt : k < n := by omega
    have hr : (List.range n).drop k = k :: (List.range n).drop (k + 1) := by rw [List.drop_eq_getElem_cons (by simpa using hlt)]; simp
    rw [hr, List.flatMap_cons]
    refine sx_whileLoop (wpAny_mono (G.test k (d + 1) outer g _ s own frs cl _ (by omega) hk hA S) (fun b s1 hb => ?_) fun x s' hx => hx)
    obtain ⟨⟨rfl, own1, S1, hA1⟩⟩ := hb
    rw [if_pos (by simpa using hlt)]
    refine sx_plain (wpAny_mono (G.take k (d + 1) outer g _ s1 own1 frs cl _ (by omega) hlt hA1 S1.self) (fun f s2 hf => ?_) fun x s' hx => hx)
    obtain ⟨⟨rfl, own2, T, S2, hM⟩⟩ := hf
    have zT := (S2.n _ (List.mem_append_left _ (G.mem _ _ _ hM))).1
    refine sx_cons (sx_yfStmt (T := T) (items := (items k).toArray) hi ⟨_, zT, rfl, _, rfl⟩ (fun E => wpAny_mono (G.name k T (d + 1) outer g _ s2 own2 frs cl E hlt hM S2.self) (fun _ _ x => x.p) fun _ _ x => x) fun kk p' l' hkk => ?_)
    have S3 := S2.self.push { cls := .type "tuple_iterator", data := .fields #[.ref T, .int 0 0] } rfl
    have hrun := yf_run (F2 := .ret kk none false l' (.whileLoop test [st1, .Expr (.YieldFrom e ypos) pos1, st3] [] genv) p' []) (I := s2.heap.objs.size) (T := T) (items := items k) (rest := ((List.range n).drop (k + 1)).flatMap items) (own := own2)
      (fs := [.ret kW none false l (.func [st0, .While test [st1, .Expr (.YieldFrom e ypos) pos1, st3] [] pos2] genv) p []]) (h₀ := h₀) (prog := prog) (w := w) rfl rfl rfl (G.mem _ _ _ hM) (fun _ _ _ _ => rfl) ?_
      (items k).length 0 rfl (Nat.zero_le _) _ d outer g u _ frs cl ⟨rfl, rfl⟩ hd hF S3.self
    · rw [List.drop_zero] at hrun
      exact hrun.mono fun e s₂ x => x.from ((S1.trans S2).trans S3) (TI.SameUp.refl _)
    · intro d outer g u s frs cl hd hF S
      rw [hkk]
      refine sx_plain (wpAny_mono (G.done k T (d + 1) outer g _ s own2 frs cl _ (by omega) hlt hM S) (fun f s4 hf => ?_) fun x s' hx => hx)
      obtain ⟨⟨rfl, own4, S4, hA4⟩⟩ := hf
      refine sx_nil (sx_again rfl ((ih (k + 1) (by omega) hlt d outer g u s4 own4 frs cl p hd hF hA4 S4.self).mono fun e s₂ x => x.from S4 (TI.SameUp.refl _)))
theorem gen_run (G : GenSpec prog w h₀ genv st0 test st1 e st3 n items Own0 At Mid) (hi : interactive genv = false) {own : Led} (h0 : Own0 own) :
    Rdy prog w h₀ ((List.range n).flatMap items) own (.fresh (.func [st0, .While test [st1, .Expr (.YieldFrom e ypos) pos1, st3] [] pos2] genv)) := by
  refine rdy_iff.mpr ⟨_, _, _, .fresh rfl rfl, fun d outer g u s frs cl hd hF S => ?_⟩
  refine sx_func (sx_plain (wpAny_mono (G.pre (d + 1) outer g _ s own frs cl _ (by omega) hF h0 S) (fun f s1 hf => ?_) fun x s' hx => hx))
  obtain ⟨⟨rfl, own1, frs1, su, S1, hA⟩⟩ := hf
  refine sx_cons (sx_While fun p => ?_)
  refine SegX.mono (P := PostG prog w h₀ (((List.range n).drop 0).flatMap items) s1 frs1 cl) (gen_loop G hi ?_ n 0 rfl (Nat.zero_le _) d outer g u s1 own1 frs1 cl p hd (hF.up su) hA S1.self) fun e s₂ x => ?_
  · intro A s P hP
    exact sx_end (.ok (.ret .none)) hP
  · rw [List.drop_zero] at x
    exact x.from S1 su
end
end
theorem noneG6 : True := by
  k_with_none
  trivial
section
open PySem.W.X
noncomputable abbrev genO (g : Nat) (nm qn : Value) : Obj := { cls := .type "generator", data := .fields #[.int g 0, nm, qn] }
theorem NewsO.perm {h₀ h : Heap} {a b : Led} (N : NewsO h₀ h a) (p : a.Perm b) : NewsO h₀ h b := fun q hq => N q (p.mem_iff.mpr hq)
theorem NewsO.head {h₀ h h' : Heap} {a : Nat} {o o' : Obj} {l : Led} (N : NewsO h₀ h ((a, o) :: l)) (d : Dist ((a, o) :: l)) (hs : ∀ b ob, b ≠ a → h.get? b = some ob → h'.get? b = some ob) (ho : h'.get? a = some o') : NewsO h₀ h' ((a, o') :: l) := fun p hp => by
  rcases List.mem_cons.mp hp with rfl | hp
  · exact ⟨ho, (N (a, o) List.mem_cons_self).2⟩
  · exact ⟨hs _ _ (dist_head d p hp) (N p (List.mem_cons_of_mem _ hp)).1, (N p (List.mem_cons_of_mem _ hp)).2⟩
theorem stays_but {h₀ h h' : Heap} {a : Nat} (st : h₀.StaysIn h) (hn : h₀.get? a = none) (hs : ∀ b ob, b ≠ a → h.get? b = some ob → h'.get? b = some ob) : h₀.StaysIn h' := fun b o e => hs b o (fun q => by rw [q, hn] at e; cases e) (st b o e)
theorem fr_at {h₀ h h' : Heap} {L : Nat} {m : Str → Option Value} {oL : Obj} {frs frs' : Led} (F : Fr h₀ L h m) (hL : h.get? L = some oL) (su : TI.SameUp ((L, oL) :: frs) frs') (st : h₀.StaysIn h') (n : ∀ q ∈ frs', h'.get? q.1 = some q.2) : Fr h₀ L h' m := by
  obtain ⟨oL', es, ep, hL', hLr⟩ := F.ns
  rw [hL] at hL'
  cases hL'
  cases frs' with
  | nil => exact su.elim
  | cons q qs =>
    obtain ⟨a, ⟨sl, b⟩, _⟩ := su
    have hq := n q List.mem_cons_self
    rw [a, b] at hq
    exact ⟨⟨_, es, ep, hq, hLr⟩, st, F.above⟩
theorem cd_perm {own frs news : Led} {c d : Addr × Obj} : (c :: d :: (own ++ (frs ++ news))).Perm (own ++ (frs ++ (c :: d :: news))) := by
  have := (pull (own ++ frs) [c, d] news).symm
  simpa only [List.append_assoc, List.cons_append, List.nil_append] using this
/-- all generators but this one are bare -/
noncomputable def BareBut (g : Nat) (gens : Array GenState) : Prop := ∀ j y, j ≠ g → gens[j]? = some y → GenState.bare y = true
theorem BareBut.of {g : Nat} {gens : Array GenState} (x : AllBare gens) : BareBut g gens := fun _ _ _ e => x _ (Array.mem_of_getElem? e)
theorem BareBut.set {g : Nat} {gens : Array GenState} (x : BareBut g gens) (z : GenState) : BareBut g (gens.setIfInBounds g z) := fun j y hj e => x j y hj (by rwa [Array.getElem?_setIfInBounds_ne (Ne.symm hj)] at e)
theorem BareBut.all {g : Nat} {gens : Array GenState} (x : BareBut g gens) {z : GenState} (hz : GenState.bare z = true) : AllBare (gens.setIfInBounds g z) := fun y hy => by
  obtain ⟨j, e⟩ := Array.getElem?_of_mem hy
  by_cases hj : j = g
  · subst hj
    rw [Array.getElem?_setIfInBounds_self] at e
    split at e
    · cases e; exact hz
    · cases e
  · exact x.set z j y hj e
/-- the comprehension over a generator: its loop -/
inductive GC (prog : Program) (w : World) (h₀ : Heap) (s : Shared) (C D gN : Nat) (news frs : Led) (rem0 : List Value) (n : Nat) (s' : Shared) : Prop
  | mk (rem ys : List Value) (h : Heap) (tk : Tok) (gens : Array GenState) (own frs' : Led) (oC : Obj) (m' : Str → Option Value) (gs : GenState) : s' = { s with heap := h, toks := tk, gens := gens } → rem.length = n → ys ++ rem = rem0 → gens[gN]? = some gs → Rdy prog w h₀ rem own gs → TI.SameUp frs frs' → h₀.StaysIn h → LCg.NsObj oC m' → NewsO h₀ h ((C, oC) :: (D, LCg.lst ys) :: (own ++ (frs' ++ news))) →
      Dist ((C, oC) :: (D, LCg.lst ys) :: (own ++ (frs' ++ news))) → s.toks ≤ tk → BareBut gN gens → GC prog w h₀ s C D gN news frs rem0 n s'
section
variable {prog : Program} {w : World} {h₀ : Heap} {d u : Nat} {env : Env} {outer : List Env} {g : Option (List Code)} {s : Shared} {R : Result → Shared → Prop} {L : Nat} {m : Str → Option Value}
/-- the loop of a comprehension over a generator that is ready -/
theorem gen_comp {x : Str} {px pe : Pos} {iter : PySem.Expr} {scope : Scope} {pos : Pos} {cl : List (Str × Addr)} {G gN C D : Nat} {nm qn : Value} {news frs : Led} {rem0 : List Value}
    (hd : d + 210 < 1000) (Fs : TI.Frs (env :: outer) frs) (nl : h₀.NoLimit) (hkind : scope.kind = .function) (hx : scope.names.lookup x = some .local) (hxd : (x == ("__debug__" : Str)) = false) (hG : (G, genO gN nm qn) ∈ news) (hsz : rem0.length ≤ sizeLine)
    (hR : ∀ h tk gens frs' oC m', TI.SameUp frs frs' → h₀.StaysIn h → LCg.NsObj oC m' → NewsO h₀ h ((C, oC) :: (D, LCg.lst rem0) :: (frs' ++ news)) → Dist ((C, oC) :: (D, LCg.lst rem0) :: (frs' ++ news)) → s.toks ≤ tk → AllBare gens → R (.ok .next) { s with heap := h, toks := tk, gens := gens }) :
    ∀ (n : Nat) (rem ys : List Value) h tk gens own frs' oC m' gs, rem.length = n → ys ++ rem = rem0 → gens[gN]? = some gs → Rdy prog w h₀ rem own gs → TI.SameUp frs frs' → h₀.StaysIn h → LCg.NsObj oC m' → NewsO h₀ h ((C, oC) :: (D, LCg.lst ys) :: (own ++ (frs' ++ news))) →
      Dist ((C, oC) :: (D, LCg.lst ys) :: (own ++ (frs' ++ news))) → s.toks ≤ tk → BareBut gN gens →
      codeAny (model prog w) (Ar d env outer g u) (.compLoop (.ListComp (.Name x pe) [⟨.Name x px, iter, [], 0⟩] scope pos) 0 (.ref G) (.ref D) (compEnvC scope cl C env)) R { s with heap := h, toks := tk, gens := gens } := by
  intro n0 rem0' ys0 h0 tk0 gens0 own0 frs0 oC0 m0 gs0 a1 a2 a3 a4 a5 a6 a7 a8 a9 a10 a11
  refine codeAny_compLoop_tests (fun n s' => GC prog w h₀ s C D gN news frs rem0 n s') ?_ n0 ⟨rem0', ys0, h0, tk0, gens0, own0, frs0, oC0, m0, gs0, rfl, a1, a2, a3, a4, a5, a6, a7, a8, a9, a10, a11⟩
  clear a1 a2 a3 a4 a5 a6 a7 a8 a9 a10 a11
  rintro n s' ⟨rem, ys, h, tk, gens, own, frs1, oC, m', gs, rfl, hlen, hys, hgs, hr, su, st, hC, N, hdi, htk, bb⟩
  obtain ⟨c₀, t₀, fs₀, wk, go⟩ := rdy_iff.mp hr
  have zG := (N (G, genO gN nm qn) (List.mem_cons_of_mem _ (List.mem_cons_of_mem _ (List.mem_append_right _ (List.mem_append_right _ hG))))).1
  have hx0 := go d (env :: outer) g (u + 1) (Shared.setGen { s with heap := h, toks := tk, gens := gens } gN .running) frs1 ((C, oC) :: (D, LCg.lst ys) :: news) (by omega) (Fs.up su) ⟨⟨_, _, rfl⟩, st, N.perm cd_perm, hdi.perm cd_perm⟩
  refine wpAny_with_toks (n := tk) (Nat.le_refl _) (pyNext_X (A := Ar d env outer g u) (g := gN) rfl (nl.keeps st) (by show d < 1000; omega) ⟨_, nm, qn, zG, rfl, rfl, rfl⟩ hgs wk.st hx0 ?_ ?_ ?_)
  · rintro v g' l k c p fs s₁ ⟨own', frs2, su2, S, nx⟩ htk1
    cases rem with
    | nil => cases nx
    | cons v0 r =>
      obtain ⟨_, _, _, _, _, _, e, hr'⟩ := nx
      cases e
      obtain ⟨h2, tk2, rfl⟩ := S.is
      have hgs' : ((gens.setIfInBounds gN .running).setIfInBounds gN (End.susp v g' l k c p fs).genState)[gN]? = some (End.susp v g' l k c p fs).genState := by
        have hlt := (Array.getElem?_eq_some_iff.mp hgs).1
        simp [hlt]
      have N2 := S.n.perm cd_perm.symm
      have d2 := S.d.perm cd_perm.symm
      have st2 : h₀.StaysIn h2 := S.st
      have htk1' : tk ≤ tk2 := htk1
      have zC := N2 (C, oC) List.mem_cons_self
      refine wpAny_assign_Name (wpAny_storeName_local (env := compEnvC scope cl C env) (lookup_relabel_local hx) (hC.ns zC.1) (fun h3 hn3 hs3 => ?_) (by simp [compEnvC, relabel, hkind]))
      obtain ⟨oC3, eC3, hC3⟩ := LCg.ns_obj hn3
      have N3 := N2.head d2 hs3.extBut eC3
      have d3 : Dist ((C, oC3) :: (D, LCg.lst ys) :: (own' ++ (frs2 ++ news))) := d2
      have st3 := stays_but st2 zC.2 hs3.extBut
      refine wpAny_tests_nil ?_
      simp only [if_true]
      refine wpAny_Name (wpAny_loadName_local (env := compEnvC scope cl C env) (m := fun y => if y = x then some v else m' y) hkind (lookup_relabel_local hx) hn3 (v := v) (by simp) ?_) hxd
      have hdC : D ≠ C := (dist_head d3 _ List.mem_cons_self)
      have zD := N3 (D, LCg.lst ys) (List.mem_cons_of_mem _ List.mem_cons_self)
      have hys1 : ys.toArray.size ≤ sizeLine := by
        rw [List.size_toArray]
        exact Nat.le_trans (by rw [← hys, List.length_append]; exact Nat.le_add_right _ _) hsz
      refine append_at (hsz := hys1) zD.1 fun h4 hs4 hD4 => ?_
      have p1 : ((C, oC3) :: (D, LCg.lst ys) :: (own' ++ (frs2 ++ news))).Perm ((D, LCg.lst ys) :: (C, oC3) :: (own' ++ (frs2 ++ news))) := List.Perm.swap _ _ _
      have N4 := (N3.perm p1).head (d3.perm p1) hs4.extBut (hD4.trans (congrArg some (LCg.lst_snoc ys v)))
      have p2 : ((D, LCg.lst (ys ++ [v])) :: (C, oC3) :: (own' ++ (frs2 ++ news))).Perm ((C, oC3) :: (D, LCg.lst (ys ++ [v])) :: (own' ++ (frs2 ++ news))) := List.Perm.swap _ _ _
      have d4 : Dist ((D, LCg.lst (ys ++ [v])) :: (C, oC3) :: (own' ++ (frs2 ++ news))) := by
        have := d3.perm p1
        exact this
      refine ⟨r.length, by rw [← hlen]; exact Nat.lt_succ_self _, r, ys ++ [v], h4, _, _, own', frs2, oC3, _, _, rfl, rfl, by rw [List.append_assoc]; exact hys, hgs', hr', su.trans su2, stays_but st3 zD.2 hs4.extBut, hC3, N4.perm p2, d4.perm p2, ?_, (bb.set _).set _⟩
      exact Nat.le_trans htk (Nat.le_trans htk1' (Nat.le_succ _))
  · rintro r s₁ ⟨own', frs2, su2, S, nx⟩
    cases rem with
    | cons v0 r => obtain ⟨_, _, _, _, _, _, e, _⟩ := nx; cases e
    | nil =>
      cases nx
      refine ⟨rfl, fun h' hk htk1 => ?_⟩
      obtain ⟨h2, tk2, rfl⟩ := S.is
      have N2 := S.n.perm cd_perm.symm
      have d2 := S.d.perm cd_perm.symm
      rw [List.append_nil] at hys
      subst hys
      refine hR h' tk2 _ frs2 oC m' (su.trans su2) (fun b o e => hk b o (S.st b o e)) hC (fun p hp => ?_) ?_ (Nat.le_trans htk htk1) ((bb.set _).all rfl)
      · have z := N2 p (by
          rcases List.mem_cons.mp hp with e | hp
          · rw [e]; exact List.mem_cons_self
          · rcases List.mem_cons.mp hp with e | hp
            · rw [e]; exact List.mem_cons_of_mem _ List.mem_cons_self
            · exact List.mem_cons_of_mem _ (List.mem_cons_of_mem _ (List.mem_append_right _ hp)))
        exact ⟨hk _ _ z.1, z.2⟩
      · have p3 := pull [(C, oC), (D, LCg.lst ys)] own' (frs2 ++ news)
        exact dist_right (d2.perm p3)
  · rintro e s₁ ⟨own', frs2, su2, S, nx⟩
    cases rem with
    | cons v0 r => obtain ⟨_, _, _, _, _, _, e, _⟩ := nx; cases e
    | nil => cases nx
end
end
theorem noneG7 : True := by
  k_with_none
  trivial
section
open PySem.W.X
section
variable {prog : Program} {w : World} {A : Around} {h₀ : Heap} {env : Env} {s : Shared} {E : Value → Shared → Prop}
/-- a comprehension over a generator: up to its loop -/
theorem comp_start {elt : PySem.Expr} {x : Str} {px : Pos} {iter : PySem.Expr} {scope : Scope} {pos : Pos} {cl : List (Str × Addr)} {Q : Value → Shared → Prop}
    (hclos : closureFor scope env = pure cl) (hcell : ∀ y ∈ scope.names, y.2 ≠ .cell) (hkind : scope.kind = .function)
    (hnames : ∀ y ∈ scope.names, y.2 = .local → scope.names.lookup y.1 = some .local)
    (h : wpAny (model prog w) A (eval iter env) (fun xv s₁ => ∃ (G g : Nat) (led : Led), xv = .ref G ∧ s₁.heap.IsGen G g ∧ h₀.StaysIn s₁.heap ∧ NewsO h₀ s₁.heap led ∧ Dist led ∧
      ∀ (C D : Nat) oC h, h₀.StaysIn h → LCg.NsObj oC (fun _ => none) → NewsO h₀ h ((C, oC) :: (D, LCg.lst []) :: led) → Dist ((C, oC) :: (D, LCg.lst []) :: led) →
        codeAny (model prog w) A (.compLoop (.ListComp elt [⟨.Name x px, iter, [], 0⟩] scope pos) 0 (.ref G) (.ref D) (compEnvC scope cl C env)) (compPost (model prog w) A E none Q (.ref D) C) { s₁ with heap := h }) E s)
    (hs : ∀ x, foldedSetIterable iter env x = pure x := by intro _; rfl) :
    wpAny (model prog w) A (eval (.ListComp elt [⟨.Name x px, iter, [], 0⟩] scope pos) env) Q E s := by
  rw [eval_ListComp]
  refine wpAny_comprehension_free (use := none) rfl hs hclos hkind hnames (wpAny_mono h (fun xv s₁ h₁ => ?_) fun _ _ e => e)
  obtain ⟨G, g, led, rfl, hG, st, N, dl, k⟩ := h₁
  refine wpAny_pyIter_gen hG ?_
  refine wpAny_newObj_type (wpAny_newFunctionEnv hcell (by intro y hy; simp at hy) (fun h₁ hns₁ hsb₁ => ?_) hkind)
  dsimp only at hns₁ hsb₁ ⊢
  generalize hH2 : s₁.heap.push { cls := .type "list", dict := none, data := .seq ([] : List Value).toArray } = H2 at hns₁ hsb₁ ⊢
  have hC : H2.objs.size = s₁.heap.objs.size + 1 := by rw [← hH2, Heap.size_push]
  have lowC : ∀ b, b < s₁.heap.objs.size → b ≠ H2.objs.size := fun b hb => by rw [hC]; exact Nat.ne_of_lt (Nat.lt_succ_of_lt hb)
  have hDC : s₁.heap.objs.size ≠ H2.objs.size := by rw [hC]; exact Nat.ne_of_lt (Nat.lt_succ_self _)
  have old : ∀ b o, s₁.heap.get? b = some o → h₁.get? b = some o := fun b o e => hsb₁.extBut b o (lowC b (Heap.lt_size e)) (Heap.get?_push_of_some _ (hH2 ▸ Heap.get?_push_of_some _ e))
  have hacc : h₁.get? s₁.heap.objs.size = some (LCg.lst []) := hsb₁.extBut _ _ hDC (Heap.get?_push_of_some _ (hH2 ▸ Heap.get?_push_size _ rfl))
  have fresh₀ : ∀ a, s₁.heap.objs.size ≤ a → h₀.get? a = none := fun a ha => by
    cases e : h₀.get? a with
    | none => rfl
    | some o' => exact absurd (Heap.lt_size (st a o' e)) (Nat.not_lt.mpr ha)
  obtain ⟨oC, eC, hoC⟩ := LCg.ns_obj hns₁
  have loop := k H2.objs.size s₁.heap.objs.size oC h₁ (fun b o e => old b o (st b o e)) hoC (fun p hp => by
      rcases List.mem_cons.mp hp with rfl | hp
      · exact ⟨eC, fresh₀ _ (by rw [hC]; exact Nat.le_succ _)⟩
      · rcases List.mem_cons.mp hp with rfl | hp
        · exact ⟨hacc, fresh₀ _ (Nat.le_refl _)⟩
        · exact ⟨old _ _ (N p hp).1, (N p hp).2⟩)
    (dist_cons (fun p hp => by
      rcases List.mem_cons.mp hp with rfl | hp
      · exact hDC
      · exact lowC _ (Heap.lt_size (N p hp).1)) (dist_cons (fun p hp => Nat.ne_of_lt (Heap.lt_size (N p hp).1)) dl))
  exact codeAny_compStart_list loop (wpAny_pyIter_gen (hG.keeps old) loop)
end
theorem none_at {h₀ h : Heap} {L : Nat} {m : Str → Option Value} (F : Fr h₀ L h m) : h₀.get? L = none := by
  cases e : h₀.get? L with
  | none => rfl
  | some o => exact absurd (Heap.lt_size e) (Nat.not_lt.mpr F.above)
/-- a frame's own object among the frames -/
theorem with_frame {h₀ h : Heap} {L : Nat} {m : Str → Option Value} {oL : Obj} {own frs news : Led} (F : Fr h₀ L h m) (hL : h.get? L = some oL) (N : News h₀ L h (own ++ (frs ++ news))) (d : Dist (own ++ (frs ++ news))) :
    NewsO h₀ h (own ++ (((L, oL) :: frs) ++ news)) ∧ Dist (own ++ (((L, oL) :: frs) ++ news)) := by
  have pm : ((L, oL) :: (own ++ (frs ++ news))).Perm (own ++ (((L, oL) :: frs) ++ news)) := List.perm_middle.symm
  refine ⟨fun p hp => ?_, (dist_cons (a := L) (o := oL) (fun p hp => (N p hp).2.1) d).perm pm⟩
  rcases List.mem_cons.mp (pm.mem_iff.mpr hp) with rfl | hp
  · exact ⟨hL, none_at F⟩
  · exact ⟨(N p hp).1, (N p hp).2.2⟩
theorem drop_frame {h₀ h h' : Heap} {L : Nat} {m : Str → Option Value} {oL : Obj} {a frs frs2 news : Led} (F : Fr h₀ L h m) (hL : h.get? L = some oL) (su : TI.SameUp ((L, oL) :: frs) frs2) (st : h₀.StaysIn h') (N : NewsO h₀ h' (a ++ (frs2 ++ news))) (d : Dist (a ++ (frs2 ++ news))) :
    ∃ frs', TI.SameUp frs frs' ∧ Fr h₀ L h' m ∧ News h₀ L h' (a ++ (frs' ++ news)) ∧ Dist (a ++ (frs' ++ news)) := by
  have F' := fr_at F hL su st fun q hq => (N q (List.mem_append_right _ (List.mem_append_left _ hq))).1
  obtain ⟨sl, frs', rfl, su'⟩ := sameUp_cons su
  have pm : (a ++ (((L, ({ oL with slots := sl } : Obj)) :: frs') ++ news)).Perm ((L, { oL with slots := sl }) :: (a ++ (frs' ++ news))) := List.perm_middle
  have d' := d.perm pm
  exact ⟨frs', su', F', fun p hp => ⟨(N p (pm.mem_iff.mpr (List.mem_cons_of_mem _ hp))).1, dist_head d' p hp, (N p (pm.mem_iff.mpr (List.mem_cons_of_mem _ hp))).2⟩, dist_tail d'⟩
section
variable {prog : Program} {w : World} {h₀ : Heap} {d u : Nat} {env : Env} {outer : List Env} {g : Option (List Code)} {s : Shared} {E : Value → Shared → Prop} {L : Nat} {m : Str → Option Value}
/-- the source is a generator that is ready -/
noncomputable def SrcG (prog : Program) (w : World) (h₀ : Heap) (outer : List Env) (L : Nat) (Q : Value → Shared → Prop) (xv : Value) (s₁ : Shared) : Prop :=
  ∃ (G gN : Nat) (gs : GenState) (nm qn : Value) (rem : List Value) (own news frs : Led) (m : Str → Option Value), xv = .ref G ∧ TI.Frs outer frs ∧ Fr h₀ L s₁.heap m ∧ News h₀ L s₁.heap (own ++ (frs ++ news)) ∧ Dist (own ++ (frs ++ news)) ∧ (G, genO gN nm qn) ∈ news ∧
    s₁.gens[gN]? = some gs ∧ Rdy prog w h₀ rem own gs ∧ rem.length ≤ sizeLine ∧ h₀.NoLimit ∧ AllBare s₁.gens ∧
    ∀ (D : Nat) h tk gens frs', TI.SameUp frs frs' → Fr h₀ L h m → News h₀ L h ((D, LCg.lst rem) :: (frs' ++ news)) → Dist ((D, LCg.lst rem) :: (frs' ++ news)) → s₁.toks ≤ tk → AllBare gens → Q (.ref D) { s₁ with heap := h, toks := tk, gens := gens }
theorem compG {x : Str} {px pe : Pos} {iter : PySem.Expr} {scope : Scope} {pos : Pos} {cl : List (Str × Addr)} {Q : Value → Shared → Prop} (hd : d + 210 < 1000) (hf : env.frame = some L) (hke : env.scope.kind ≠ .module)
    (hclos : closureFor scope env = pure cl) (hcell : ∀ y ∈ scope.names, y.2 ≠ .cell) (hkind : scope.kind = .function)
    (hnames : ∀ y ∈ scope.names, y.2 = .local → scope.names.lookup y.1 = some .local) (hx : scope.names.lookup x = some .local) (hxd : (x == ("__debug__" : Str)) = false)
    (h : wpAny (model prog w) (Ar d env outer g u) (eval iter env) (SrcG prog w h₀ outer L Q) E s)
    (hs : ∀ x, foldedSetIterable iter env x = pure x := by intro _; rfl) :
    wpAny (model prog w) (Ar d env outer g u) (eval (.ListComp (.Name x pe) [⟨.Name x px, iter, [], 0⟩] scope pos) env) Q E s := by
  refine comp_start (h₀ := h₀) hclos hcell hkind hnames (wpAny_mono h (fun xv s₁ h₁ => ?_) fun _ _ e => e) hs
  obtain ⟨G, gN, gs, nm, qn, rem, own, news, frs, m, rfl, Fs, F, N, dl, hG, hgs, hr, hsz, nl, ab, k⟩ := h₁
  have zG := (N _ (List.mem_append_right _ (List.mem_append_right _ hG))).1
  obtain ⟨oL, es, ep, hL, hLr⟩ := F.ns
  obtain ⟨N1, d1⟩ := with_frame F hL N dl
  refine ⟨G, gN, _, rfl, ⟨_, nm, qn, zG, rfl, rfl, rfl⟩, F.keep, N1, d1, fun C D oC h st hC N2 d2 => ?_⟩
  refine gen_comp (s := s₁) (frs := (L, oL) :: frs) (rem0 := rem) hd ⟨hke, hf, ⟨es, ep, hLr.1⟩, Fs⟩ nl hkind hx hxd hG hsz ?_ rem.length rem [] h s₁.toks s₁.gens own ((L, oL) :: frs) oC _ gs rfl rfl hgs hr (TI.SameUp.refl _) st hC N2 d2 (Nat.le_refl _) (BareBut.of ab)
  intro h' tk gens frs2 oC' m' su st' hC' N3 d3 htk ab'
  have zC := (N3 _ List.mem_cons_self)
  refine ⟨m', hC'.ns zC.1, fun h'' hs'' => ?_⟩
  have dC := dist_head d3
  have hs3 : ∀ b ob, b ≠ C → h'.get? b = some ob → h''.get? b = some ob := hs''.extBut
  have N4 : NewsO h₀ h'' ([(D, LCg.lst rem)] ++ (frs2 ++ news)) := fun p hp => ⟨hs3 _ _ (dC p hp) (N3 p (List.mem_cons_of_mem _ hp)).1, (N3 p (List.mem_cons_of_mem _ hp)).2⟩
  obtain ⟨frs', su', F', N5, d5⟩ := drop_frame F hL su (stays_but st' zC.2 hs3) N4 (dist_tail d3)
  exact k D h'' tk gens frs' su' F' N5 d5 htk ab'
end
end
theorem noneG8 : True := by
  k_with_none
  trivial
section
open PySem.W.X
/-- a generator whose first waking raises the text's own exception -/
noncomputable def Bad (prog : Program) (w : World) (h₀ : Heap) (own : Led) (gs : GenState) : Prop :=
  ∃ c₀ t₀ fs₀, Wk c₀ t₀ fs₀ gs ∧ ∀ d outer g u s frs cl, d + 200 < 1000 → TI.Frs outer frs → Stp h₀ s s own frs cl →
    SegX (model prog w) (Ag d outer g u) c₀ t₀ fs₀ s (fun e s₁ => ∃ x h tk, s₁ = { s with heap := h, toks := tk } ∧ e = .ret (.error (.ref x)) ∧ Air h₀ outer frs cl x h)
theorem gen_bad {prog : Program} {w : World} {h₀ : Heap} {genv : Env} {st0 : Stmt} {rest : List Stmt} {own : Led} {Lg : Nat} (hf : genv.frame = some Lg) (hk : genv.scope.kind ≠ .module)
    (pre : ∀ d outer g u s frs cl, d + 190 < 1000 → TI.Frs outer frs → Stp h₀ s s own frs cl →
      wpAny (model prog w) (Ar d genv outer g u) (exec st0 genv) (fun _ _ => False) (fun x s' => Held (∃ e h tk oL, x = .ref e ∧ s' = { s with heap := h, toks := tk } ∧ (∃ es ep, oL.data = .dict es ep) ∧ Air h₀ (genv :: outer) ((Lg, oL) :: frs) cl e h)) s) :
    Bad prog w h₀ own (.fresh (.func (st0 :: rest) genv)) := by
  refine ⟨_, _, _, .fresh rfl rfl, fun d outer g u s frs cl hd hF S => ?_⟩
  refine sx_func (sx_plain (wpAny_mono (pre (d + 1) outer g _ s frs cl (by omega) hF S) (fun _ _ f => f.elim) fun x s' hx => ?_))
  obtain ⟨⟨e, h, tk, oL, rfl, rfl, hdd, x⟩⟩ := hx
  refine sx_wrap (air_leave (s := { s with heap := h, toks := tk }) x ⟨hk, hf, hdd, hF⟩ rfl fun h' x' => ?_)
  exact sx_end (.error (.ref e)) ⟨e, h', tk, rfl, rfl, x'⟩
theorem funFrames_but {h h' B B' : Heap} (k : ∀ b o, B.get? b = none → h.get? b = some o → h'.get? b = some o) (kb : ∀ b, B.get? b = none → B'.get? b = none) : ∀ {l : List Env}, h.FunFrames B l → h'.FunFrames B' l
  | [], _ => trivial
  | _ :: _, ⟨hk, ⟨L, o, hf, hn, ho, hd⟩, hr⟩ => ⟨hk, ⟨L, o, hf, kb _ hn, k _ _ hn ho, hd⟩, funFrames_but k kb hr⟩
theorem Air.but {h₀ h h' : Heap} {l : List Env} {frs kept : Led} {e C : Nat} {oC : Obj} (x : Air h₀ l frs ((C, oC) :: kept) e h) (hs : ∀ b o, b ≠ C → h.get? b = some o → h'.get? b = some o) (h0 : h₀.get? C = none) (hk : ∀ p ∈ kept, p.1 ≠ C) (hf : ∀ p ∈ frs, p.1 ≠ C) : Air h₀ l frs kept e h' := by
  obtain ⟨B, t, fl, frs', h1, h2, h3, h4, h5, ⟨oe, vs, T, oT, ts, he, hcls, hd, h7, hnT, hTe, hT, hdT, h8⟩, SU, ht⟩ := x
  have hC : B.get? C = some oC := h2 _ List.mem_cons_self
  have ne : ∀ b, B.get? b = none → b ≠ C := fun b hb q => by rw [q, hC] at hb; cases hb
  have g1 : ∀ b, b ≠ C → (TI.gone B [C]).get? b = B.get? b := fun b hb => TI.gone_get (by simpa using hb)
  have gn : ∀ b, B.get? b = none → (TI.gone B [C]).get? b = none := fun b hb => (g1 b (ne b hb)).trans hb
  refine ⟨TI.gone B [C], t, fl, frs', fun b o q => (g1 b (fun z => by rw [z, h0] at q; cases q)).trans (h1 b o q), fun p hp => (g1 _ (hk p hp)).trans (h2 p (List.mem_cons_of_mem _ hp)), fun b o q => ?_, gn _ h4,
    funFrames_but (fun b o hb ho => hs b o (ne b hb) ho) gn h5, ⟨oe, vs, T, oT, ts, hs _ _ (ne _ h4) he, hcls, hd, h7, gn _ hnT, hTe, hs _ _ (ne _ hnT) hT, hdT, h8⟩, SU, fun q hq => ?_⟩
  · obtain ⟨z1, z2⟩ := TI.gone_some q
    exact hs b o (fun z => z1 (by rw [z]; exact List.mem_singleton.mpr rfl)) (h3 b o z2)
  · obtain ⟨p, hp, e'⟩ := SU.fwd q hq
    exact hs _ _ (by rw [e']; exact hf p hp) (ht q hq)
section
variable {prog : Program} {w : World} {h₀ : Heap} {d u : Nat} {env : Env} {outer : List Env} {g : Option (List Code)} {s : Shared} {E : Value → Shared → Prop} {L : Nat} {m : Str → Option Value} {K : Frag}
/-- the source is a generator that raises -/
noncomputable def SrcB (prog : Program) (w : World) (h₀ : Heap) (K : Frag) (env : Env) (outer : List Env) (L : Nat) (E : Value → Shared → Prop) (xv : Value) (s₁ : Shared) : Prop :=
  ∃ (G gN : Nat) (gs : GenState) (nm qn : Value) (own news frs : Led) (m : Str → Option Value), xv = .ref G ∧ TI.Frs outer frs ∧ Fr h₀ L s₁.heap m ∧ News h₀ L s₁.heap (own ++ (frs ++ news)) ∧ Dist (own ++ (frs ++ news)) ∧ (G, genO gN nm qn) ∈ news ∧
    s₁.gens[gN]? = some gs ∧ Bad prog w h₀ own gs ∧ h₀.NoLimit ∧ K.In h₀ ∧ AllBare s₁.gens ∧
    ∀ e h tk gens oL, s₁.heap.get? L = some oL → Air h₀ (env :: outer) ((L, oL) :: frs) [] e h → AllBare gens → E (.ref e) { s₁ with heap := h, toks := tk, gens := gens }
theorem compB {x : Str} {px pe : Pos} {iter : PySem.Expr} {scope : Scope} {pos : Pos} {cl : List (Str × Addr)} {Q : Value → Shared → Prop} (hd : d + 210 < 1000) (hf : env.frame = some L) (hke : env.scope.kind ≠ .module)
    (hclos : closureFor scope env = pure cl) (hcell : ∀ y ∈ scope.names, y.2 ≠ .cell) (hkind : scope.kind = .function)
    (hnames : ∀ y ∈ scope.names, y.2 = .local → scope.names.lookup y.1 = some .local) (hsub : exmOne K (.ref 76) (.type "StopIteration") = some false)
    (h : wpAny (model prog w) (Ar d env outer g u) (eval iter env) (SrcB prog w h₀ K env outer L E) E s)
    (hs : ∀ x, foldedSetIterable iter env x = pure x := by intro _; rfl) :
    wpAny (model prog w) (Ar d env outer g u) (eval (.ListComp (.Name x pe) [⟨.Name x px, iter, [], 0⟩] scope pos) env) Q E s := by
  refine comp_start (h₀ := h₀) hclos hcell hkind hnames (wpAny_mono h (fun xv s₁ h₁ => ?_) fun _ _ e => e) hs
  obtain ⟨G, gN, gs, nm, qn, own, news, frs, m, rfl, Fs, F, N, dl, hG, hgs, hb, nl, XK, ab, k⟩ := h₁
  have zG := (N _ (List.mem_append_right _ (List.mem_append_right _ hG))).1
  obtain ⟨oL, es, ep, hL, hLr⟩ := F.ns
  obtain ⟨N1, d1⟩ := with_frame F hL N dl
  refine ⟨G, gN, _, rfl, ⟨_, nm, qn, zG, rfl, rfl, rfl⟩, F.keep, N1, d1, fun C D oC h st hC N2 d2 => ?_⟩
  have FsA : TI.Frs (env :: outer) ((L, oL) :: frs) := ⟨hke, hf, ⟨es, ep, hLr.1⟩, Fs⟩
  refine codeAny_compLoop_tests (fun _ s' => s' = { s₁ with heap := h }) ?_ 0 rfl
  rintro n s' rfl
  obtain ⟨c₀, t₀, fs₀, wk, go⟩ := hb
  have zG2 := (N2 (G, genO gN nm qn) (List.mem_cons_of_mem _ (List.mem_cons_of_mem _ (List.mem_append_right _ (List.mem_append_right _ hG))))).1
  have hx0 := go d (env :: outer) g (u + 1) (Shared.setGen { s₁ with heap := h } gN .running) ((L, oL) :: frs) ((C, oC) :: (D, LCg.lst []) :: news) (by omega) FsA ⟨⟨_, _, rfl⟩, st, N2.perm cd_perm, d2.perm cd_perm⟩
  refine pyNext_X (A := Ar d env outer g u) (g := gN) rfl (nl.keeps st) (by show d < 1000; omega) ⟨_, nm, qn, zG2, rfl, rfl, rfl⟩ hgs wk.st hx0 ?_ ?_ ?_
  · rintro v g' l k c p fs s₂ ⟨_, _, _, _, e, _⟩; cases e
  · rintro r s₂ ⟨_, _, _, _, e, _⟩; cases e
  · rintro e s₂ ⟨x, h2, tk, rfl, e', A2⟩
    cases e'
    refine ⟨fun A' E' Q' hq => ?_, ?_, ?_⟩
    · obtain ⟨B, t, fl, frs', h1, h2', h3, h4, h5, ⟨oe, vs, T, oT, ts, he, hcls, _⟩, SU, ht⟩ := A2
      unfold isInstance
      refine wpAny_bind ?_
      show wpAny _ _ (loadPart x (some headPart) >>= fun o => pure o.cls) _ _ _
      refine wpAny_bind (wpAny_loadPart he (wpAny_pure ?_))
      rw [hcls.1]
      exact (exm_cls (M := model prog w) XK hsub).2 _ _ _ _ (fun b o e => h3 _ _ (h1 b o e)) hq
    · obtain ⟨B, t, fl, frs', h1, h2', h3, h4, h5, h6, SU, ht⟩ := A2
      have zz := h3 _ _ (h2' (G, genO gN nm qn) (List.mem_cons_of_mem _ (List.mem_cons_of_mem _ hG)))
      exact ⟨_, nm, qn, zz, rfl, rfl, rfl⟩
    · refine air_note (s := { s₁ with heap := h2, toks := tk, gens := _ }) (cenv := compEnvC scope cl C env) A2 FsA rfl hf rfl fun h3 A3 => ?_
      obtain ⟨B, t, fl, frs', y1, y2, y3, r3⟩ := id A3
      have zC := (N2 (C, oC) List.mem_cons_self).2
      have dC := dist_head d2
      refine ⟨_, hC.ns (y3 _ _ (y2 (C, oC) List.mem_cons_self)), fun h4 hs4 cenv' _ => ?_⟩
      have hs4' : ∀ b ob, b ≠ C → h3.get? b = some ob → h4.get? b = some ob := hs4.extBut
      have A4 := A3.but hs4' zC (fun p hp => by
        rcases List.mem_cons.mp hp with rfl | hp
        · exact dC _ List.mem_cons_self
        · exact dC _ (List.mem_cons_of_mem _ (List.mem_append_right _ (List.mem_append_right _ hp)))) fun p hp => dC p (List.mem_cons_of_mem _ (List.mem_append_right _ (List.mem_append_left _ hp)))
      exact air_passOn (s := { s₁ with heap := h4, toks := tk, gens := _ }) A4 FsA fun h5 A5 => k x h5 tk _ oL hL (A5.drop fun _ hp => nomatch hp) (((BareBut.of ab).set _).all rfl)
end
end
theorem noneG9 : True := by
  k_with_none
  trivial
section
open PySem.W.X
section
variable {prog : Program} {w : World} {A : Around} {s : Shared} {h₀ : Heap} {L : Addr} {m : Str → Option Value} {led : Led} {K : Frag}
  {R : Result → Shared → Prop} {name qual : Str} {params : Arguments} {body : List Stmt} {scope : Scope} {dV kV doc pm cdv ct oc : Value} {an od : Option Addr} {osl : Array (Option Value)} {f : Addr} {args : Args} {binds : List (Str × Value)}
  {p : Program} {loose : List Str} {mean : ExcName → Option Value} {mg mb : Str → Option Value}
/-- a generator function called -/
theorem callGen (F : Fr h₀ L s.heap m) (X₀ : K.In h₀) (N : News h₀ L s.heap led) (hdi : Dist led) (T : Top p loose mean mg mb h₀)
    (ho : K.lookup f = some ⟨oc, od, .func (fnOf name qual params body scope dV kV doc pm an cdv ct), osl⟩) (hcd : codeIn K cdv qual = true) (hroom : A.depth < recursionLimit)
    (hbind : BindsTo s (fnOf name qual params body scope dV kV doc pm an cdv ct) args binds) (hloc : ∀ y ∈ binds, scope.names.lookup y.1 = some .local)
    (h : ∀ (Lg G : Nat) oLg h' nm qn tk, Fr h₀ L h' m → News h₀ L h' ((G, genO s.gens.size nm qn) :: (Lg, oLg) :: led) → Dist ((G, genO s.gens.size nm qn) :: (Lg, oLg) :: led) → LCg.NsObj oLg (fun y => binds.reverse.lookup y) → h₀.objs.size ≤ Lg →
      R (.ok (.ret (.ref G))) { s with heap := h', toks := tk, gens := s.gens.push (.fresh (.func body (envOf qual scope Lg f cdv))) })
    (hco : scope.isCoroutine = false) (hgen : scope.isGenerator = true) (hk : scope.kind = .function)
    (hcell : ∀ x ∈ scope.names, x.2 ≠ .cell) : codeAny (model prog w) A (.call (.ref f) args) R s := by
  have X := X₀.keeps F.keep
  refine codeAny_call_generator (fd := fnOf name qual params body scope dV kV doc pm an cdv ct) (body := body) hroom (X _ _ ho) rfl hco hgen rfl (codeRec_of X hcd) (hbind _ _ _ _ ?_)
  refine wpAny_newFunctionEnv hcell hloc (fun h₁ hns hsb => ⟨(T.nolimit.keeps F.keep).fresh _ hsb, ?_⟩) hk
  obtain ⟨oLg, eLg, hLg⟩ := LCg.ns_obj hns
  have low : ∀ b o, s.heap.get? b = some o → h₁.get? b = some o := fun b o e => hsb.extBut b o (Nat.ne_of_lt (Heap.lt_size e)) (Heap.get?_push_of_some _ e)
  have lt1 : s.heap.objs.size < h₁.objs.size := Heap.lt_size eLg
  have n0 : ∀ a, s.heap.objs.size ≤ a → h₀.get? a = none := fun a ha => by
    cases e : h₀.get? a with
    | none => rfl
    | some o' => exact absurd (Heap.lt_size (F.keep a o' e)) (Nat.not_lt.mpr ha)
  have hL := F.ns.lt
  refine h s.heap.objs.size h₁.objs.size oLg _ (.str name (s.toks + binds.length)) (.str qual (s.toks + binds.length + 1)) _ (F.keeps fun b o e => Heap.get?_push_of_some _ (low b o e)) (fun p hp => ?_) (dist_cons (fun p hp => ?_) (dist_cons (fun p hp => Nat.ne_of_lt (Heap.lt_size (N p hp).1)) hdi)) hLg (Nat.le_trans F.above (Nat.le_of_lt hL))
  · rcases List.mem_cons.mp hp with rfl | hp
    · exact ⟨Heap.get?_push_size _ rfl, Nat.ne_of_gt (Nat.lt_trans hL lt1), n0 _ (Nat.le_of_lt lt1)⟩
    · rcases List.mem_cons.mp hp with rfl | hp
      · exact ⟨Heap.get?_push_of_some _ eLg, Nat.ne_of_gt hL, n0 _ (Nat.le_refl _)⟩
      · exact ⟨Heap.get?_push_of_some _ (low _ _ (N p hp).1), (N p hp).2⟩
  · rcases List.mem_cons.mp hp with rfl | hp
    · exact Nat.ne_of_lt lt1
    · exact Nat.ne_of_lt (Nat.lt_trans (Heap.lt_size (N p hp).1) lt1)
end
/-- a generator's own view of its state -/
theorem stp_view {h₀ : Heap} {s : Shared} {Lg : Nat} {oLg : Obj} {own frs cl : Led} {m : Str → Option Value} (S : Stp h₀ s s ((Lg, oLg) :: own) frs cl) (hm : LCg.NsObj oLg m) (hz : h₀.objs.size ≤ Lg) :
    Fr h₀ Lg s.heap m ∧ News h₀ Lg s.heap (own ++ (frs ++ cl)) ∧ Dist (own ++ (frs ++ cl)) :=
  ⟨⟨hm.ns (S.n (Lg, oLg) List.mem_cons_self).1, S.st, hz⟩, fun p hp => ⟨(S.n p (List.mem_cons_of_mem _ hp)).1, dist_head S.d p hp, (S.n p (List.mem_cons_of_mem _ hp)).2⟩, dist_tail S.d⟩
theorem stp_back {h₀ : Heap} {s : Shared} {h : Heap} {tk : Nat} {Lg : Nat} {own frs cl : Led} {m : Str → Option Value} (F : Fr h₀ Lg h m) (N : News h₀ Lg h (own ++ (frs ++ cl))) (d : Dist (own ++ (frs ++ cl))) :
    ∃ oLg, LCg.NsObj oLg m ∧ Stp h₀ s { s with heap := h, toks := tk } ((Lg, oLg) :: own) frs cl := by
  obtain ⟨oLg, e, hm⟩ := LCg.ns_obj F.ns
  refine ⟨oLg, hm, ⟨⟨h, tk, rfl⟩, F.keep, fun p hp => ?_, dist_cons (fun p hp => (N p hp).2.1) d⟩⟩
  rcases List.mem_cons.mp hp with rfl | hp
  · exact ⟨e, none_at F⟩
  · exact ⟨(N p hp).1, (N p hp).2.2⟩
end
theorem noneS6 : True := by
  k_with_none
  trivial
section
variable {prog : Program} {w : World} {A : Around} {E : Value → Shared → Prop} {s : Shared} {h₀ : Heap} {L D q f : Addr} {m : Str → Option Value} {K : Frag} {news : Led} {ys : List Value} {self av : Value} {Q : Value → Shared → Prop}
theorem keeps_B {M : Model} {h : Heap} (hf : fnIn K f = true) (X : MethP K q f self h) : Looks M h (keeperOf (.ref q)) .boundFrame := by
  unfold fnIn at hf
  split at hf
  · rename_i e
    exact (Looks.ld (part := none) X.1).andThen ((Looks.ld (part := none) (X.2 _ _ e)).andThen .now)
  · cases hf
theorem star_list (F : Fr h₀ L s.heap m) (X₀ : K.In h₀) (N : News h₀ L s.heap ((D, LCg.lst ys) :: news)) (hq : (q, methodObj (.ref f) self) ∈ news) (hf : fnIn K f = true) (hsz : ys.length ≤ sizeLine)
    (h : ∀ h', Fr h₀ L h' m → News h₀ L h' ((D, LCg.lst ys) :: news) → codeAny (model prog w) A (.call (.ref f) ⟨self :: av :: ys, []⟩) (fun r s' => match r with | .ok (.ret v) => Q v s' | .ok _ => False | .error e => E e s') { s with heap := h' }) :
    wpAny (model prog w) A (notIterableAtAll (.ref D)) (fun b s₅ => b = false ∧ wpAny (model prog w) A (collect (.ref D)) (fun vs s₆ => wpAny (model prog w) A (keeperOf (.ref q)) (fun kp s₇ => kp = .boundFrame ∧ wpAny (model prog w) A (call (.ref q) (av :: vs) []) Q E s₇) E s₆) E s₅) E s := by
  unfold notIterableAtAll
  have hD := (N _ List.mem_cons_self).1
  refine wpAny_bind (wpAny_specialOf (T := "list") ⟨_, hD, rfl⟩ _root_.PySem.F.slot_list_iter.lookup ?_)
  simp only [Option.isSome_some, if_true]
  refine wpAny_pure ⟨rfl, ?_⟩
  refine wpAny_collect_seq D (.inl rfl) hD rfl rfl (fun h' up => ?_) (by rw [List.size_toArray]; exact hsz)
  have F' : Fr h₀ L h' m := F.keeps up
  have N' : News h₀ L h' ((D, LCg.lst ys) :: news) := N.grown up
  refine (keeps_B (K := K) hf ⟨(N' _ (List.mem_cons_of_mem _ hq)).1, X₀.keeps F'.keep⟩).here ⟨rfl, ?_⟩
  exact call_meth N' (List.mem_cons_of_mem _ hq) (h h' F' N')
end
section
variable {M : Model} {A : Around} {E : Value → Shared → Prop} {s : Shared} {env : Env}
theorem star_eval {n name : Str} {a e : PySem.Expr} {np apos sp pos : Pos} (ha : starEach [a, .Starred e sp] env = [(false, eval a env), (true, eval e env)]) :
    eval (.Call (.Attribute (.Name n np) name apos) [a, .Starred e sp] [] pos) env = (do
      let ov ← eval (.Name n np) env
      standAt apos.atName
      let (f, first) ← holding [ov] (do pure (← getAttr ov name true, []))
      callWith pos f first (backTo pos [(false, eval a env), (true, eval e env)]) []) := by
  rw [← ha]
  show (do
      let ov ← eval (.Name n np) env
      standAt apos.atName
      methodCall (.Name n np) name apos pos env ov ([a, Expr.Starred e sp].length + [].length) (backTo pos (starEach [a, .Starred e sp] env)) (backToKw pos (keywordEach [] env))) = _
  rw [ha]
  rfl
theorem starCall {n name : Str} {a e : PySem.Expr} {np apos sp pos : Pos} {Q : Value → Shared → Prop} (ha : starEach [a, .Starred e sp] env = [(false, eval a env), (true, eval e env)])
    (h : wpAny M A (eval (.Name n np) env) (fun ov s₁ => wpAny M A (getAttr ov name true) (fun f s₂ => wpAny M A (eval a env) (fun av s₃ => wpAny M A (eval e env) (fun lv s₄ =>
      wpAny M A (notIterableAtAll lv) (fun b s₅ => b = false ∧ wpAny M A (collect lv) (fun vs s₆ => wpAny M A (keeperOf f) (fun kp s₇ => kp = .boundFrame ∧ wpAny M A (call f (av :: vs) []) Q E s₇) E s₆) E s₅) E s₄) E s₃) E s₂) E s₁) E s) :
    wpAny M A (eval (.Call (.Attribute (.Name n np) name apos) [a, .Starred e sp] [] pos) env) Q E s := by
  rw [star_eval ha]
  refine wpAny_bind (wpAny_mono h (fun ov s₁ h₁ => wpAny_bind (wpAny_standAt (wpAny_bind (wpAny_holding (wpAny_bind (wpAny_mono h₁ (fun f s₂ h₂ => wpAny_pure ?_) fun _ _ x => x)))))) fun _ _ x => x)
  dsimp only
  unfold callWith
  refine wpAny_bind (wpAny_holding ?_)
  unfold evalArgs
  simp only [backTo, spliced, List.map, Bool.false_eq_true, if_false, if_true]
  refine wpAny_bind (wpAny_bind (wpAny_mono h₂ (fun av s₃ h₃ => ?_) fun _ _ x => x))
  refine wpAny_bind (wpAny_pure (wpAny_bind (wpAny_holding (wpAny_bind (wpAny_bind (wpAny_mono h₃ (fun lv s₄ h₄ => wpAny_bind (wpAny_standAt (wpAny_pure ?_))) fun _ _ x => x))))))
  refine wpAny_bind (wpAny_mono h₄ (fun b s₅ h₅ => ?_) fun _ _ x => x)
  obtain ⟨rfl, h₅⟩ := h₅
  simp only [Bool.false_eq_true, if_false]
  refine wpAny_bind (wpAny_mono h₅ (fun vs s₆ h₆ => ?_) fun _ _ x => x)
  refine wpAny_bind (wpAny_holding (wpAny_pure (wpAny_pure (wpAny_pure (wpAny_bind (wpAny_pure ?_))))))
  refine wpAny_holding ?_
  simp only [List.all_nil, if_true]
  refine wpAny_bind (wpAny_pure (wpAny_bind (wpAny_pure (wpAny_pure ?_))))
  refine wpAny_bind (wpAny_standAt ?_)
  refine wpAny_bind (wpAny_mono h₆ (fun kp s₇ h₇ => ?_) fun _ _ x => x)
  obtain ⟨rfl, h₇⟩ := h₇
  simp only [List.append_nil, List.nil_append, List.singleton_append, List.any_cons, Bool.false_or, Bool.true_or]
  refine wpAny_bind (wpAny_operate' (wpAny_mono h₇ (fun r s₈ h₈ => wpAny_bind (wpAny_holding (wpAny_point (wpAny_pure h₈)))) fun _ _ x => x))
end
section
variable {prog : Program} {w : World} {A : Around} {E : Value → Shared → Prop} {s : Shared} {h₀ : Heap} {L D q f : Addr} {m : Str → Option Value} {K : Frag} {news : Led} {ys : List Value} {self : Value} {Q : Value → Shared → Prop}
theorem star_tup (F : Fr h₀ L s.heap m) (X₀ : K.In h₀) (N : News h₀ L s.heap news) (hD : (D, tupO ys.toArray) ∈ news) (hq : (q, methodObj (.ref f) self) ∈ news) (hf : fnIn K f = true) (hsz : ys.length ≤ sizeLine)
    (h : ∀ h', Fr h₀ L h' m → News h₀ L h' news → codeAny (model prog w) A (.call (.ref f) ⟨self :: ys, []⟩) (fun r s' => match r with | .ok (.ret v) => Q v s' | .ok _ => False | .error e => E e s') { s with heap := h' }) :
    wpAny (model prog w) A (notIterableAtAll (.ref D)) (fun b s₅ => b = false ∧ wpAny (model prog w) A (collect (.ref D)) (fun vs s₆ => wpAny (model prog w) A (keeperOf (.ref q)) (fun kp s₇ => kp = .boundFrame ∧ wpAny (model prog w) A (call (.ref q) vs []) Q E s₇) E s₆) E s₅) E s := by
  unfold notIterableAtAll
  have zD := (N _ hD).1
  refine wpAny_bind (wpAny_specialOf (T := "tuple") ⟨_, zD, rfl⟩ _root_.PySem.F.slot_tuple_iter.lookup ?_)
  simp only [Option.isSome_some, if_true]
  refine wpAny_pure ⟨rfl, ?_⟩
  refine wpAny_collect_seq D (.inr rfl) zD rfl rfl (fun h' up => ?_) (by rw [List.size_toArray]; exact hsz)
  have F' : Fr h₀ L h' m := F.keeps up
  have N' : News h₀ L h' news := N.grown up
  refine (keeps_B (K := K) hf ⟨(N' _ hq).1, X₀.keeps F'.keep⟩).here ⟨rfl, ?_⟩
  exact call_meth N' hq (h h' F' N')
end
section
variable {M : Model} {A : Around} {E : Value → Shared → Prop} {s : Shared} {env : Env}
theorem star_eval1 {n name : Str} {e : PySem.Expr} {np apos sp pos : Pos} (ha : starEach [.Starred e sp] env = [(true, eval e env)]) :
    eval (.Call (.Attribute (.Name n np) name apos) [.Starred e sp] [] pos) env = (do
      let ov ← eval (.Name n np) env
      standAt apos.atName
      let (f, first) ← holding [ov] (do pure (← getAttr ov name true, []))
      callWith pos f first (backTo pos [(true, eval e env)]) []) := by
  rw [← ha]
  show (do
      let ov ← eval (.Name n np) env
      standAt apos.atName
      methodCall (.Name n np) name apos pos env ov ([Expr.Starred e sp].length + [].length) (backTo pos (starEach [.Starred e sp] env)) (backToKw pos (keywordEach [] env))) = _
  rw [ha]
  rfl
theorem starCall1 {n name : Str} {e : PySem.Expr} {np apos sp pos : Pos} {Q : Value → Shared → Prop} (ha : starEach [.Starred e sp] env = [(true, eval e env)])
    (h : wpAny M A (eval (.Name n np) env) (fun ov s₁ => wpAny M A (getAttr ov name true) (fun f s₂ => wpAny M A (eval e env) (fun lv s₄ =>
      wpAny M A (notIterableAtAll lv) (fun b s₅ => b = false ∧ wpAny M A (collect lv) (fun vs s₆ => wpAny M A (keeperOf f) (fun kp s₇ => kp = .boundFrame ∧ wpAny M A (call f vs []) Q E s₇) E s₆) E s₅) E s₄) E s₂) E s₁) E s) :
    wpAny M A (eval (.Call (.Attribute (.Name n np) name apos) [.Starred e sp] [] pos) env) Q E s := by
  rw [star_eval1 ha]
  refine wpAny_bind (wpAny_mono h (fun ov s₁ h₁ => wpAny_bind (wpAny_standAt (wpAny_bind (wpAny_holding (wpAny_bind (wpAny_mono h₁ (fun f s₂ h₂ => wpAny_pure ?_) fun _ _ x => x)))))) fun _ _ x => x)
  dsimp only
  unfold callWith
  refine wpAny_bind (wpAny_holding ?_)
  unfold evalArgs
  simp only [backTo, spliced, List.map, Bool.false_eq_true, if_false, if_true]
  refine wpAny_bind (wpAny_bind (wpAny_mono h₂ (fun lv s₄ h₄ => wpAny_bind (wpAny_standAt (wpAny_pure ?_))) fun _ _ x => x))
  refine wpAny_bind (wpAny_pure (wpAny_holding ?_))
  simp only [List.all_nil, if_true]
  refine wpAny_bind (wpAny_pure ?_)
  refine wpAny_bind (wpAny_bind (wpAny_mono h₄ (fun b s₅ h₅ => ?_) fun _ _ x => x))
  obtain ⟨rfl, h₅⟩ := h₅
  simp only [Bool.false_eq_true, if_false]
  refine wpAny_holding (wpAny_mono h₅ (fun vs s₆ h₆ => wpAny_pure ?_) fun _ _ x => x)
  refine wpAny_bind (wpAny_standAt ?_)
  refine wpAny_bind (wpAny_mono h₆ (fun kp s₇ h₇ => ?_) fun _ _ x => x)
  obtain ⟨rfl, h₇⟩ := h₇
  simp only [List.append_nil, List.nil_append, List.any_cons, Bool.false_or, Bool.true_or]
  refine wpAny_bind (wpAny_operate' (wpAny_mono h₇ (fun r s₈ h₈ => wpAny_bind (wpAny_holding (wpAny_point (wpAny_pure h₈)))) fun _ _ x => x))
end
theorem noneC19 : True := by
  k_with_none
  trivial
-- addresses that differ: by a fact of the context first
-- a def entered: what is left is its body
theorem rowsC19_3 : True := by
  k_with "kroom" => ((try simp only [depth_under_make, depth_under_kw, depth_in1, depth_deeper, depth_caller, recursionLimit] at *); omega)
  k_with "kne" => first | with_reducible assumption | exact Ne.symm (by with_reducible assumption) | (refine neN ?_; (try dsimp only); first | with_reducible assumption | exact Nat.ne_of_lt (by with_reducible assumption) | exact Nat.ne_of_gt (by with_reducible assumption) | exact Ne.symm (by with_reducible assumption) | (refine' Nat.ne_of_lt (Nat.lt_trans ?z170xh1 ?z170xh2); (case z170xh2 => with_reducible assumption); (case z170xh1 => with_reducible assumption)) | (refine' Nat.ne_of_gt (Nat.lt_trans ?z170xh1 ?z170xh2); (case z170xh2 => with_reducible assumption); (case z170xh1 => with_reducible assumption)) | omega)
  k_with "spl" => first | (refine' Spl.cons ?z171xsp; (case z171xsp => walk_at "spl")) | exact Spl.nil
  k_with "enter" => ((case k6 => k_is); (case k7 => k_is); (case k8 => k_room); (case k9 => exact BindsTo.of_eq rfl); (case c5 => decide); (case kB => exact locs rfl); (case c2 => exact rfl); (case c3 => exact rfl); (case c4 => exact rfl))
  k_with "enterV" => ((case k6 => k_is); (case k7 => k_is); (case k8 => k_room); (case kP => exact rfl); (case kG => exact fun _ => rfl); (case c5 => decide); (case kB => exact fun _ => locs rfl); (case c2 => exact rfl); (case c3 => exact rfl); (case c4 => exact rfl))
  k_with "apart" => first | exact apNil | (refine apCons (by assumption) ?_; walk_at "apart")
  k_with "allne" => first | with_reducible assumption | exact List.forall_mem_nil _ | (refine' fa_cons ?z175xfh ?z175xft; (case z175xfh => k_ne); (case z175xft => walk_at "allne"))
  k_with "sub" => first | exact subNil | exact fun _ h => h | (refine' subCons ?z176xs1 ?z176xs2; (case z176xs1 => k_mem); (case z176xs2 => walk_at "sub")) | (refine' subTail ?z176xs3; (case z176xs3 => walk_at "sub"))
  k_with "pick" => first | exact Pick.head | (refine' Pick.tail ?z177xpk; (case z177xpk => walk_at "pick"))
  k_with "leave" => (refine' ⟨_, _, _, ?z178xka, ?z178xkb, ?z178xkc⟩; (case z178xka => k_asm); (case z178xkb => k_asm); intro _ _ kA; (have na9 := np_of kA (by walk_at "spl")); (repeat (have hx9 := np_head na9; revert hx9; intro _; replace na9 := np_tail na9)); clear na9; replace kA := np_tl kA (by walk_at "spl"); revert kA; intro _)
  k_with "allne" => first | with_reducible assumption | exact lt_all (by with_reducible assumption) | exact List.forall_mem_nil _ | (refine' fa_cons ?z179xfh ?z179xft; (case z179xfh => k_ne); (case z179xft => walk_at "allne"))
  k_with "look" => first | assumption | exact upd_eq | (refine upd_ne (by decide) ?_; walk_at "look")
  k_with "eval Name" => (k_here; k_dflt (refine' nameX_L ?z181xF ?z181xv ?_ ?z181xa ?z181xb; (case z181xF => k_asm); (case z181xa => rfl); (case z181xb => rfl); (case z181xv => walk_at "look"); k_whole))
  trivial
/-- a sign and the signs behind it -/
structure IsStar (ns : List Nd) (x0 : Nd) (xs : List Nd) : Prop where
  e : ns = x0 :: xs
  c : x0.c = 38
  np : x0.np = 0
  sc : x0.sc = xs.map fun x => (x.c, x.nt)
  leaf : ∀ x ∈ xs, x.np = 1 ∧ x.sc = []
  nd : (ns.map Nd.c).Nodup
  len : xs.length = 2 ∨ xs.length = 6
/-- the groups in their order, the counts, how many are done -/
noncomputable def ordL (x0 : Nd) : Nat → List (Nat × Tok)
  | 0 => [(38, x0.nt)]
  | 1 => x0.sc
  | _ => []
noncomputable def gfS (x0 : Nd) : Nat → Nat → Int
  | 0 => fun c => if c = 38 then 0 else 1
  | k + 1 => gDone (fun c => if c ∈ (ordL x0 k).map (·.1) then -1 else gfS x0 k c) ((ordL x0 k).map (·.1)) ((ordL x0 (k + 1)).map (·.1))
noncomputable def cntN (x0 : Nd) : Nat → Nat
  | 0 => 0
  | k + 1 => cntN x0 k + (ordL x0 k).length
noncomputable abbrev cntS (x0 : Nd) (k : Nat) : Int := ((cntN x0 k : Nat) : Int)
theorem cnt_succ {x0 : Nd} {k : Nat} : cntS x0 k + (ordL x0 k).length = cntS x0 (k + 1) := by show (cntN x0 k : Int) + _ = ((cntN x0 k + (ordL x0 k).length : Nat) : Int); omega
noncomputable def vals (l : List (Nat × Tok)) : List Value := l.map fun p => Value.str (sg p.1) p.2
theorem find_first {x0 : Nd} {xs : List Nd} : scOf (x0 :: xs) x0.c = x0.sc := by
  unfold scOf; rw [List.find?_cons, show decide (x0.c = x0.c) = true from decide_eq_true rfl]; rfl
section
variable {ns xs : List Nd} {x0 : Nd} (hst : IsStar ns x0 xs)
include hst
theorem star_npf : Npf (gfS x0 0) ns ns := by
  have h0 : ∀ l : List Nd, (∀ x ∈ l, x.np = gfS x0 0 x.c) → Npf (gfS x0 0) l l := by
    intro l
    induction l with
    | nil => intro _; trivial
    | cons x xs ih => intro h; exact ⟨⟨x.pt, by rw [← h x List.mem_cons_self]⟩, ih fun y hy => h y (List.mem_cons_of_mem _ hy)⟩
  refine h0 ns fun x hx => ?_
  rw [hst.e] at hx
  have nd := hst.nd
  rw [hst.e] at nd
  rcases List.mem_cons.mp hx with rfl | hx
  · show x.np = if x.c = 38 then 0 else 1
    rw [if_pos hst.c, hst.np]
  · show x.np = if x.c = 38 then 0 else 1
    rw [if_neg, (hst.leaf x hx).1]
    intro q
    exact (List.nodup_cons.mp nd).1 (by rw [hst.c, ← q]; exact List.mem_map_of_mem hx)
theorem star_leafsc {c : Nat} (hc : c ∈ xs.map Nd.c) : scOf ns c = [] := by
  obtain ⟨x, hx, rfl⟩ := List.mem_map.mp hc
  rw [← (star_npf hst).sc hst.nd x (by rw [hst.e]; exact List.mem_cons_of_mem _ hx) rfl]
  exact (hst.leaf x hx).2
theorem star_sc1 : x0.sc.map (·.1) = xs.map Nd.c := by rw [hst.sc, List.map_map]; rfl
theorem star_next (k : Nat) (hk : k < 2) : (ordL x0 k).flatMap (fun p => scOf ns p.1) = ordL x0 (k + 1) := by
  match k, hk with
  | 0, _ =>
    show scOf ns 38 ++ [] = x0.sc
    rw [List.append_nil, ← hst.c, hst.e]
    exact find_first
  | 1, _ =>
    show x0.sc.flatMap (fun p => scOf ns p.1) = []
    rw [List.flatMap_eq_nil_iff]
    intro p hp
    exact star_leafsc hst (by rw [← star_sc1 hst]; exact List.mem_map_of_mem hp)
theorem star_in (k : Nat) (hk : k < 2) : ∀ p ∈ ordL x0 k, p.1 ∈ ns.map Nd.c := by
  intro p hp
  match k, hk with
  | 0, _ =>
    rw [List.mem_singleton.mp hp, hst.e, ← hst.c]; exact List.mem_cons_self
  | 1, _ =>
    rw [hst.e]
    refine List.mem_cons_of_mem _ ?_
    rw [← star_sc1 hst]; exact List.mem_map_of_mem hp
theorem star_len (k : Nat) (hk : k < 2) : (ordL x0 k).length = 1 ∨ (ordL x0 k).length = 2 ∨ (ordL x0 k).length = 6 := by
  match k, hk with
  | 0, _ => exact .inl rfl
  | 1, _ =>
    refine .inr ?_
    show x0.sc.length = 2 ∨ x0.sc.length = 6
    rw [hst.sc, List.length_map]; exact hst.len
theorem star_len2 (k : Nat) (hk : k < 3) : (ordL x0 k).length ≤ 6 := by
  by_cases h : k < 2
  · rcases star_len hst k h with e | e | e <;> rw [e] <;> decide
  · obtain rfl : k = 2 := by omega
    exact Nat.zero_le _
theorem star_nod (k : Nat) : ((ordL x0 k).map (·.1)).Nodup := by
  have nd := hst.nd
  rw [hst.e] at nd
  match k with
  | 0 => show [38].Nodup; decide
  | 1 => show (x0.sc.map (·.1)).Nodup; rw [star_sc1 hst]; exact (List.nodup_cons.mp nd).2
  | _ + 2 => exact List.nodup_nil
theorem star_succ (k : Nat) (hk : k < 2) : ∀ q ∈ ordL x0 (k + 1), (if q.1 ∈ (ordL x0 k).map (·.1) then -1 else gfS x0 k q.1) = 1 ∧ q.1 ∈ ns.map Nd.c := by
  intro q hq
  match k, hk with
  | 0, _ =>
    have hq1 : q.1 ∈ xs.map Nd.c := by rw [← star_sc1 hst]; exact List.mem_map_of_mem hq
    have nd := hst.nd
    rw [hst.e] at nd
    have hne : q.1 ≠ 38 := fun e => (List.nodup_cons.mp nd).1 (by rw [hst.c, ← e]; exact hq1)
    refine ⟨?_, star_in hst 1 (by decide) q hq⟩
    rw [if_neg (by show q.1 ∉ [38]; simpa using hne)]
    show (if q.1 = 38 then (0 : Int) else 1) = 1
    rw [if_neg hne]
  | 1, _ => cases hq
theorem star_cnt (k : Nat) (hk : k < 3) : 0 ≤ cntS x0 k ∧ cntS x0 k ≤ 50 := by
  have h0 := star_len2 hst 0 (by decide)
  have h1 := star_len2 hst 1 (by decide)
  have h2 : cntN x0 k ≤ 50 := by
    match k, hk with
    | 0, _ => exact Nat.zero_le _
    | 1, _ => show 0 + (ordL x0 0).length ≤ 50; omega
    | 2, _ => show 0 + (ordL x0 0).length + (ordL x0 1).length ≤ 50; omega
  constructor
  · exact Int.natCast_nonneg _
  · show ((cntN x0 k : Nat) : Int) ≤ 50
    omega
theorem star_rd0 : rd0 ns = ordL x0 0 := by
  unfold rd0
  rw [hst.e, List.filter_cons, show decide (x0.np = 0) = true from decide_eq_true hst.np]
  have : xs.filter (fun x => decide (x.np = 0)) = [] := List.filter_eq_nil_iff.mpr fun x hx => by rw [(hst.leaf x hx).1]; decide
  rw [this]
  show [(x0.c, x0.nt)] = [(38, x0.nt)]
  rw [hst.c]
theorem star_arr (k : Nat) (hk : k ≤ 2) : (!(strA (ordL x0 k)).isEmpty) = decide (k < 2) := by
  match k, hk with
  | 0, _ => rfl
  | 1, _ =>
    have : x0.sc ≠ [] := fun q => by
      have := hst.len
      rw [hst.sc] at q
      have h2 := congrArg List.length q
      rw [List.length_map] at h2
      rcases this with e | e <;> rw [e] at h2 <;> cases h2
    show (!(strA x0.sc).isEmpty) = true
    cases e : x0.sc with
    | nil => exact absurd e this
    | cons a b => rfl
  | 2, _ => rfl
end
/-- the star between two groups -/
inductive SA (w : World) (ns : List Nd) (x0 : Nd) (Lg self sd D : Nat) (t1 t2 t3 t4 : Tok) (oD : Obj) (k : Nat) (own : Led) : Prop
  | mk (oLg : Obj) (m : Str → Option Value) (Rn ep : Nat) (t5 t6 : Tok) (nsk : List Nd) : own = (Lg, oLg) :: ((self, instObj 158 sd) :: (sd, sdO w t1 t2 t3 t4 (.ref D) (.ref Rn) (.int (cntS x0 k) t5) (.int (cntS x0 k) t6)) :: (D, oD) :: (Rn, listOf (strA (ordL x0 k)) ep) :: gLed nsk) → LCg.NsObj oLg m → m (Str.ofString "self") = some (.ref self) → Npf (gfS x0 k) ns nsk → SA w ns x0 Lg self sd D t1 t2 t3 t4 oD k own
inductive SM (w : World) (ns : List Nd) (x0 : Nd) (Lg self sd D : Nat) (t1 t2 t3 t4 : Tok) (oD : Obj) (k T : Nat) (own : Led) : Prop
  | mk (oLg : Obj) (m : Str → Option Value) (Rn ep : Nat) (t5 t6 : Tok) (nsk : List Nd) : own = (Lg, oLg) :: ((T, tupO (strA (ordL x0 k))) :: (self, instObj 158 sd) :: (sd, sdO w t1 t2 t3 t4 (.ref D) (.ref Rn) (.int (cntS x0 k + (ordL x0 k).length) t5) (.int (cntS x0 k) t6)) :: (D, oD) :: (Rn, listOf #[] ep) :: gLed nsk) → LCg.NsObj oLg m → m (Str.ofString "self") = some (.ref self) → m (Str.ofString "node_group") = some (.ref T) → Npf (fun c => if c ∈ (ordL x0 k).map (·.1) then -1 else gfS x0 k c) ns nsk → SM w ns x0 Lg self sd D t1 t2 t3 t4 oD k T own
section
variable {w : World} {s : Shared} {h₀ : Heap} {outer : List Env} {L : Addr} {m : Str → Option Value} {env : Env} {news frs : Led}
  {R : Result → Shared → Prop} {mean : ExcName → Option Value} {mg mb : Str → Option Value} {d u : Nat} {g : Option (List Code)} {self sd D : Nat} {t1 t2 t3 t4 t5 t6 : Tok} {oD : Obj} {ns xs : List Nd} {x0 : Nd}
theorem so_star
  (F : Fr h₀ L s.heap m) (X₀ : (hd.heap_39 w.params).In h₀) (T : Tp mean mg mb h₀) (hroom : d + 150 < 1000)
  (N : News h₀ L s.heap (((self, instObj 158 sd) :: (sd, sdO w t1 t2 t3 t4 (.ref D) .none (.int 0 t5) (.int 0 t6)) :: (D, oD) :: gLed ns) ++ (frs ++ news)))
  (hdi : Dist (((self, instObj 158 sd) :: (sd, sdO w t1 t2 t3 t4 (.ref D) .none (.int 0 t5) (.int 0 t6)) :: (D, oD) :: gLed ns) ++ (frs ++ news)))
  (hD : Dk w oD (gKv ns)) (lo : (D == sysModules) = false) (hst : IsStar ns x0 xs) (hrg : forA (ns.map Nd.abs) (ns.map Nd.c) [] = some false)
  (k : ∀ (G gN : Nat) gs nm qn own h tk gens, Fr h₀ L h m → News h₀ L h (own ++ (frs ++ ((G, genO gN nm qn) :: news))) → Dist (own ++ (frs ++ ((G, genO gN nm qn) :: news))) → gens[gN]? = some gs → (AllBare s.gens → AllBare gens) →
    Rdy PySem.Challenge.rw_mr0322_01.row.prog w h₀ (vals (ordL x0 0 ++ ordL x0 1)) own gs → R (.ok (.ret (.ref G))) { s with heap := h, toks := tk, gens := gens }) :
  codeAny (model PySem.Challenge.rw_mr0322_01.row.prog w) (Ar d env outer g u) (.call (.ref 155) ⟨[.ref self], []⟩) R s := by
  replace hD : Obj.IsDictOf (PySem.strKind PySem.Challenge.rw_mr0322_01.row.prog w) oD (gKv ns) := hD
  k_dflt (refine' callGen (binds := [(Str.ofString "self", .ref self)]) F X₀ N hdi T ?k6 ?k7 ?k8 ?k9 ?kB ?_ ?c2 ?c3 ?c4 ?c5)
  walk_at "enter"
  intro Lg G oLg h' nm qn tk F' N' d' hm hz
  have pm : ((G, genO s.gens.size nm qn) :: (Lg, oLg) :: (((self, instObj 158 sd) :: (sd, sdO w t1 t2 t3 t4 (.ref D) .none (.int 0 t5) (.int 0 t6)) :: (D, oD) :: gLed ns) ++ (frs ++ news))).Perm
      (((Lg, oLg) :: ((self, instObj 158 sd) :: (sd, sdO w t1 t2 t3 t4 (.ref D) .none (.int 0 t5) (.int 0 t6)) :: (D, oD) :: gLed ns)) ++ (frs ++ ((G, genO s.gens.size nm qn) :: news))) := by
    have := (pull (((Lg, oLg) :: ((self, instObj 158 sd) :: (sd, sdO w t1 t2 t3 t4 (.ref D) .none (.int 0 t5) (.int 0 t6)) :: (D, oD) :: gLed ns)) ++ frs) [(G, genO s.gens.size nm qn)] news).symm
    simpa only [List.append_assoc, List.cons_append, List.nil_append] using this
  refine k G s.gens.size _ nm qn _ h' tk _ F' (Mine.News.perm N' pm) (d'.perm pm) (Array.getElem?_push_size ..) (fun x => x.push rfl) ?_
  have hval : vals (ordL x0 0 ++ ordL x0 1) = (List.range 2).flatMap fun k => vals (ordL x0 k) := by simp [vals, List.range_succ]
  rw [hval]
  refine gen_run (Own0 := fun own => own = (Lg, oLg) :: ((self, instObj 158 sd) :: (sd, sdO w t1 t2 t3 t4 (.ref D) .none (.int 0 t5) (.int 0 t6)) :: (D, oD) :: gLed ns))
    (At := SA w ns x0 Lg self sd D t1 t2 t3 t4 oD)
    (Mid := SM w ns x0 Lg self sd D t1 t2 t3 t4 oD)
    { pre := ?pre, test := ?test, take := ?take, mem := ?mem, name := ?name, done := ?done } (by rfl) rfl
  case mem =>
    rintro k T own ⟨oLg, m, Rn, ep, t5, t6, nsk, rfl, _⟩
    exact List.mem_cons_of_mem _ List.mem_cons_self
  case test =>
    rintro k d outer g u s own frs cl E hd hk ⟨oLg, m, Rn, ep, t5, t6, nsk, rfl, hm, m1, hN⟩ S
    obtain ⟨FA, NA, dA⟩ := stp_view S hm hz
    have p1 : ((self, instObj 158 sd) :: (sd, sdO w t1 t2 t3 t4 (.ref D) (.ref Rn) (.int (cntS x0 k) t5) (.int (cntS x0 k) t6)) :: (D, oD) :: (Rn, listOf (strA (ordL x0 k)) ep) :: (gLed nsk ++ (frs ++ cl))).Perm
        ((self, instObj 158 sd) :: (sd, sdO w t1 t2 t3 t4 (.ref D) (.ref Rn) (.int (cntS x0 k) t5) (.int (cntS x0 k) t6)) :: (Rn, listOf (strA (ordL x0 k)) ep) :: (D, oD) :: (gLed nsk ++ (frs ++ cl))) := .cons _ (.cons _ (.swap _ _ _))
    have hz9 : (strA (ordL x0 k)).size ≤ sizeLine := Nat.le_trans (by rw [List.size_toArray, List.length_map]; exact star_len2 hst k (by omega)) (show 6 ≤ sizeLine by decide)
    k_steps
    dsimp only
    refine wpAny_call (active_c FA X₀ T (by omega) (Mine.News.perm NA p1) (dA.perm p1) hz9 ?_)
    intro h1 tk1 F1 N1
    dsimp only
    k_steps
    obtain ⟨oLg', hm', S'⟩ := stp_back (s := s) (tk := tk1) F1 (Mine.News.perm N1 p1.symm) dA
    exact ⟨⟨star_arr hst k hk, _, S', oLg', m, Rn, ep, t5, t6, nsk, rfl, hm', m1, hN⟩⟩
  case take =>
    rintro k d outer g u s own frs cl E hd hk ⟨oLg, m, Rn, ep, t5, t6, nsk, rfl, hm, m1, hN⟩ S
    obtain ⟨FA, NA, dA⟩ := stp_view S hm hz
    have hlen := star_len hst k hk
    k_steps
    dsimp only
    refine wpAny_call (ready_c (ns0 := ns) (gf := gfS x0 k) FA X₀ T (by omega) NA dA (by omega) (fun q => by rw [q] at hlen; simp at hlen) hN hst.nd hD lo (star_cnt hst k (by omega)) (star_in hst k hk) ?_)
    intro h1 tk1 T1 t5' ns' F1 N1 D1 hN1
    dsimp only
    k_steps
    rename_i h2 F2 N2
    obtain ⟨oLg', hm', S'⟩ := stp_back (s := s) (tk := tk1 + 1) F2 N2 D1
    exact ⟨⟨rfl, _, T1, S', oLg', _, Rn, ep + 1, t5', t6, ns', rfl, hm', by walk_at "look", by walk_at "look", hN1⟩⟩
  case name =>
    rintro k T1 d outer g u s own frs cl E hk ⟨oLg, m, Rn, ep, t5, t6, nsk, rfl, hm, m1, m2, hN⟩ S
    obtain ⟨FA, NA, dA⟩ := stp_view S hm hz
    k_steps
    exact ⟨⟨rfl, rfl⟩⟩
  case done =>
    rintro k T1 d outer g u s own frs cl E hd hk ⟨oLg, m, Rn, ep, t5, t6, nsk, rfl, hm, m1, m2, hN⟩ S
    obtain ⟨FA, NA, dA⟩ := stp_view S hm hz
    k_steps
    have hz9 : (vals (ordL x0 k)).length ≤ sizeLine := Nat.le_trans (by show ((ordL x0 k).map _).length ≤ 6; rw [List.length_map]; exact star_len2 hst k (by omega)) (show 6 ≤ sizeLine by decide)
    have hnx := star_next hst k hk
    refine starCall1 (by rfl) ?_
    k_steps
    refine star_tup (K := Mine.hd.heap_39 w.params) (ys := vals (ordL x0 k)) (by k_asm) X₀ (by k_asm) (by k_mem) (by k_mem) (by k_is) hz9 ?_
    intro h1 F1 N1
    have N2 := News.sub N1 fun p hp => List.mem_cons_of_mem _ (List.mem_cons_of_mem _ hp)
    refine done_c (ns0 := ns) F1 X₀ T (by omega) N2 (dist_tail dA) (Nat.le_trans (star_len2 hst k (by omega)) (by decide)) hN hst.nd hD lo (star_cnt hst k (by omega)) (star_in hst k hk) (star_len hst k hk) (fun p hp => if_pos (List.mem_map_of_mem hp)) (star_nod hst k)
      (by rw [hnx]; exact star_nod hst (k + 1)) (by rw [hnx]; exact star_succ hst k hk) (by rw [hnx]; exact Nat.le_trans (star_len2 hst (k + 1) (by omega)) (by decide)) ?_
    intro h3 tk3 t6' ep' ns' F3 N3 D3 hN3
    rw [hnx] at hN3 N3 D3
    rw [cnt_succ] at N3 D3
    dsimp only
    k_steps
    obtain ⟨oLg', hm', S'⟩ := stp_back (s := s) (tk := tk3) F3 N3 D3
    exact ⟨⟨rfl, _, S', oLg', _, Rn, ep', t5, t6', ns', rfl, hm', m1, hN3⟩⟩
  case pre =>
    rintro d outer g u s own frs cl E hd Fs rfl S
    obtain ⟨FA, NA, dA⟩ := stp_view S hm hz
    have hz9 : ns.length ≤ 50 := by
      rw [hst.e, List.length_cons]
      rcases hst.len with e | e <;> rw [e] <;> decide
    k_steps
    dsimp only
    refine wpAny_call (prepare_c FA X₀ T rfl rfl (by omega) Fs (rest := cl) NA dA hD lo (ring := false) hrg hz9 (fun _ h' tk' frs' Rn ep su F1 N1 D1 => ?_) fun q => nomatch q)
    dsimp only
    k_steps
    rw [star_rd0 hst] at N1 D1
    obtain ⟨oLg', hm', S'⟩ := stp_back (s := s) (tk := tk') (own := (self, instObj 158 sd) :: (sd, sdO w t1 t2 t3 t4 (.ref D) (.ref Rn) (.int 0 t5) (.int 0 t6)) :: (D, oD) :: (Rn, listOf (strA (ordL x0 0)) ep) :: gLed ns) F1 N1 D1
    exact ⟨⟨rfl, _, frs', su, S', oLg', _, Rn, ep, t5, t6, ns, rfl, hm', rfl, star_npf hst⟩⟩
end
theorem noneC20 : True := by
  k_with_none
  trivial
-- addresses that differ: by a fact of the context first
-- a def entered: what is left is its body
theorem rowsC20_3 : True := by
  k_with "kroom" => ((try simp only [depth_under_make, depth_under_kw, depth_in1, depth_deeper, depth_caller, recursionLimit] at *); omega)
  k_with "kne" => first | with_reducible assumption | exact Ne.symm (by with_reducible assumption) | (refine neN ?_; (try dsimp only); first | with_reducible assumption | exact Nat.ne_of_lt (by with_reducible assumption) | exact Nat.ne_of_gt (by with_reducible assumption) | exact Ne.symm (by with_reducible assumption) | (refine' Nat.ne_of_lt (Nat.lt_trans ?z183xh1 ?z183xh2); (case z183xh2 => with_reducible assumption); (case z183xh1 => with_reducible assumption)) | (refine' Nat.ne_of_gt (Nat.lt_trans ?z183xh1 ?z183xh2); (case z183xh2 => with_reducible assumption); (case z183xh1 => with_reducible assumption)) | omega)
  k_with "spl" => first | (refine' Spl.cons ?z184xsp; (case z184xsp => walk_at "spl")) | exact Spl.nil
  k_with "enter" => ((case k6 => k_is); (case k7 => k_is); (case k8 => k_room); (case k9 => exact BindsTo.of_eq rfl); (case c5 => decide); (case kB => exact locs rfl); (case c2 => exact rfl); (case c3 => exact rfl); (case c4 => exact rfl))
  k_with "enterV" => ((case k6 => k_is); (case k7 => k_is); (case k8 => k_room); (case kP => exact rfl); (case kG => exact fun _ => rfl); (case c5 => decide); (case kB => exact fun _ => locs rfl); (case c2 => exact rfl); (case c3 => exact rfl); (case c4 => exact rfl))
  k_with "apart" => first | exact apNil | (refine apCons (by assumption) ?_; walk_at "apart")
  k_with "allne" => first | with_reducible assumption | exact List.forall_mem_nil _ | (refine' fa_cons ?z188xfh ?z188xft; (case z188xfh => k_ne); (case z188xft => walk_at "allne"))
  k_with "sub" => first | exact subNil | exact fun _ h => h | (refine' subCons ?z189xs1 ?z189xs2; (case z189xs1 => k_mem); (case z189xs2 => walk_at "sub")) | (refine' subTail ?z189xs3; (case z189xs3 => walk_at "sub"))
  k_with "pick" => first | exact Pick.head | (refine' Pick.tail ?z190xpk; (case z190xpk => walk_at "pick"))
  k_with "leave" => (refine' ⟨_, _, _, ?z191xka, ?z191xkb, ?z191xkc⟩; (case z191xka => k_asm); (case z191xkb => k_asm); intro _ _ kA; (have na9 := np_of kA (by walk_at "spl")); (repeat (have hx9 := np_head na9; revert hx9; intro _; replace na9 := np_tail na9)); clear na9; replace kA := np_tl kA (by walk_at "spl"); revert kA; intro _)
  k_with "allne" => first | with_reducible assumption | exact lt_all (by with_reducible assumption) | exact List.forall_mem_nil _ | (refine' fa_cons ?z192xfh ?z192xft; (case z192xfh => k_ne); (case z192xft => walk_at "allne"))
  k_with "look" => first | assumption | exact upd_eq | (refine upd_ne (by decide) ?_; walk_at "look")
  k_with "eval Name" => (k_here; k_dflt (refine' nameX_L ?z194xF ?z194xv ?_ ?z194xa ?z194xb; (case z194xF => k_asm); (case z194xa => rfl); (case z194xb => rfl); (case z194xv => walk_at "look"); k_whole))
  trivial
section
variable {w : World} {s : Shared} {h₀ : Heap} {outer : List Env} {L : Addr} {m : Str → Option Value} {env : Env} {news frs : Led}
  {R : Result → Shared → Prop} {mean : ExcName → Option Value} {mg mb : Str → Option Value} {d u : Nat} {g : Option (List Code)} {self sd D : Nat} {t1 t2 t3 t4 t5 t6 : Tok} {oD : Obj} {ns : List Nd}
theorem so_ring
  (F : Fr h₀ L s.heap m) (X₀ : (hd.heap_39 w.params).In h₀) (T : Tp mean mg mb h₀) (hroom : d + 150 < 1000)
  (N : News h₀ L s.heap (((self, instObj 158 sd) :: (sd, sdO w t1 t2 t3 t4 (.ref D) .none (.int 0 t5) (.int 0 t6)) :: (D, oD) :: gLed ns) ++ (frs ++ news)))
  (hdi : Dist (((self, instObj 158 sd) :: (sd, sdO w t1 t2 t3 t4 (.ref D) .none (.int 0 t5) (.int 0 t6)) :: (D, oD) :: gLed ns) ++ (frs ++ news)))
  (hD : Dk w oD (gKv ns)) (lo : (D == sysModules) = false) (hz : ns.length ≤ 50) (hrg : forA (ns.map Nd.abs) (ns.map Nd.c) [] = some true)
  (k : ∀ (G gN : Nat) gs nm qn own h tk gens, Fr h₀ L h m → News h₀ L h (own ++ (frs ++ ((G, genO gN nm qn) :: news))) → Dist (own ++ (frs ++ ((G, genO gN nm qn) :: news))) → gens[gN]? = some gs → (AllBare s.gens → AllBare gens) →
    Bad PySem.Challenge.rw_mr0322_01.row.prog w h₀ own gs → R (.ok (.ret (.ref G))) { s with heap := h, toks := tk, gens := gens }) :
  codeAny (model PySem.Challenge.rw_mr0322_01.row.prog w) (Ar d env outer g u) (.call (.ref 155) ⟨[.ref self], []⟩) R s := by
  replace hD : Obj.IsDictOf (PySem.strKind PySem.Challenge.rw_mr0322_01.row.prog w) oD (gKv ns) := hD
  k_dflt (refine' callGen (binds := [(Str.ofString "self", .ref self)]) F X₀ N hdi T ?k6 ?k7 ?k8 ?k9 ?kB ?_ ?c2 ?c3 ?c4 ?c5)
  walk_at "enter"
  intro Lg G oLg h' nm qn tk F' N' d' hm hlg
  have pm : ((G, genO s.gens.size nm qn) :: (Lg, oLg) :: (((self, instObj 158 sd) :: (sd, sdO w t1 t2 t3 t4 (.ref D) .none (.int 0 t5) (.int 0 t6)) :: (D, oD) :: gLed ns) ++ (frs ++ news))).Perm
      (((Lg, oLg) :: ((self, instObj 158 sd) :: (sd, sdO w t1 t2 t3 t4 (.ref D) .none (.int 0 t5) (.int 0 t6)) :: (D, oD) :: gLed ns)) ++ (frs ++ ((G, genO s.gens.size nm qn) :: news))) := by
    have := (pull (((Lg, oLg) :: ((self, instObj 158 sd) :: (sd, sdO w t1 t2 t3 t4 (.ref D) .none (.int 0 t5) (.int 0 t6)) :: (D, oD) :: gLed ns)) ++ frs) [(G, genO s.gens.size nm qn)] news).symm
    simpa only [List.append_assoc, List.cons_append, List.nil_append] using this
  refine k G s.gens.size _ nm qn _ h' tk _ F' (Mine.News.perm N' pm) (d'.perm pm) (Array.getElem?_push_size ..) (fun x => x.push rfl) ?_
  refine gen_bad (Lg := Lg) rfl (fun q => nomatch q) fun d outer g u s frs cl hd Fs S => ?_
  obtain ⟨FA, NA, dA⟩ := stp_view S hm hlg
  obtain ⟨es, ep, hdd, _⟩ := hm
  k_steps
  dsimp only
  refine wpAny_call (prepare_c FA X₀ T rfl rfl (by omega) Fs (rest := cl) NA dA hD lo (ring := true) hrg hz (fun q => nomatch q) fun _ h' tk' e oL hoL A1 => ?_)
  dsimp only
  rw [(S.n _ List.mem_cons_self).1] at hoL
  cases hoL
  exact ⟨⟨e, h', tk', oLg, rfl, rfl, ⟨es, ep, hdd⟩, A1⟩⟩
end
theorem noneC21 : True := by
  k_with_none
  trivial
-- addresses that differ: by a fact of the context first
-- a def entered: what is left is its body
theorem rowsC21_3 : True := by
  k_with "kroom" => ((try simp only [depth_under_make, depth_under_kw, depth_in1, depth_deeper, depth_caller, recursionLimit] at *); omega)
  k_with "kne" => first | with_reducible assumption | exact Ne.symm (by with_reducible assumption) | (refine neN ?_; (try dsimp only); first | with_reducible assumption | exact Nat.ne_of_lt (by with_reducible assumption) | exact Nat.ne_of_gt (by with_reducible assumption) | exact Ne.symm (by with_reducible assumption) | (refine' Nat.ne_of_lt (Nat.lt_trans ?z196xh1 ?z196xh2); (case z196xh2 => with_reducible assumption); (case z196xh1 => with_reducible assumption)) | (refine' Nat.ne_of_gt (Nat.lt_trans ?z196xh1 ?z196xh2); (case z196xh2 => with_reducible assumption); (case z196xh1 => with_reducible assumption)) | omega)
  k_with "spl" => first | (refine' Spl.cons ?z197xsp; (case z197xsp => walk_at "spl")) | exact Spl.nil
  k_with "enter" => ((case k6 => k_is); (case k7 => k_is); (case k8 => k_room); (case k9 => exact BindsTo.of_eq rfl); (case c5 => decide); (case kB => exact locs rfl); (case c2 => exact rfl); (case c3 => exact rfl); (case c4 => exact rfl))
  k_with "enterV" => ((case k6 => k_is); (case k7 => k_is); (case k8 => k_room); (case kP => exact rfl); (case kG => exact fun _ => rfl); (case c5 => decide); (case kB => exact fun _ => locs rfl); (case c2 => exact rfl); (case c3 => exact rfl); (case c4 => exact rfl))
  k_with "apart" => first | exact apNil | (refine apCons (by assumption) ?_; walk_at "apart")
  k_with "allne" => first | with_reducible assumption | exact List.forall_mem_nil _ | (refine' fa_cons ?z201xfh ?z201xft; (case z201xfh => k_ne); (case z201xft => walk_at "allne"))
  k_with "sub" => first | exact subNil | exact fun _ h => h | (refine' subCons ?z202xs1 ?z202xs2; (case z202xs1 => k_mem); (case z202xs2 => walk_at "sub")) | (refine' subTail ?z202xs3; (case z202xs3 => walk_at "sub"))
  k_with "pick" => first | exact Pick.head | (refine' Pick.tail ?z203xpk; (case z203xpk => walk_at "pick"))
  k_with "leave" => (refine' ⟨_, _, _, ?z204xka, ?z204xkb, ?z204xkc⟩; (case z204xka => k_asm); (case z204xkb => k_asm); intro _ _ kA; (have na9 := np_of kA (by walk_at "spl")); (repeat (have hx9 := np_head na9; revert hx9; intro _; replace na9 := np_tail na9)); clear na9; replace kA := np_tl kA (by walk_at "spl"); revert kA; intro _)
  k_with "allne" => first | with_reducible assumption | exact lt_all (by with_reducible assumption) | exact List.forall_mem_nil _ | (refine' fa_cons ?z205xfh ?z205xft; (case z205xfh => k_ne); (case z205xft => walk_at "allne"))
  k_with "look" => first | assumption | exact upd_eq | (refine upd_ne (by decide) ?_; walk_at "look")
  k_with "eval Name" => (k_here; k_dflt (refine' nameX_L ?z207xF ?z207xv ?_ ?z207xa ?z207xb; (case z207xF => k_asm); (case z207xa => rfl); (case z207xb => rfl); (case z207xv => walk_at "look"); k_whole))
  k_with "eval ListComp" => (k_here; k_dflt (refine compS (by k_asm) (by with_unfolding_all rfl) (by decide) (by rfl) (by decide) (by rfl) ?_))
  k_with "compareOp In str str" => (k_here; first | refine in_yes (by assumption) ?_ | refine in_no (by assumption) ?_)
  k_with "call ref" => (k_here; (with_reducible show wpAny _ _ (call (Value.ref 169) _ _) _ _ _); k_dflt (refine wpAny_call ?_; refine' name_c ?z210xkB ?z210xkF ?z210xkX ?z210xkT rfl rfl ?z210xkr ?z210xkN ?z210xkc ?_; (case z210xkB => k_asm); (case z210xkF => k_asm); (case z210xkX => k_asm); (case z210xkT => k_asm); (case z210xkN => k_asm); (case z210xkr => k_room); (case z210xkc => assumption)); intro _ _ _ ht' htk'; (try dsimp only at ht' htk'); revert ht' htk'; intro _ _ _ _; (try dsimp only))
  trivial
section
variable {prog : Program} {w : World} {A : Around} {E : Value → Shared → Prop} {s : Shared} {a c : Nat} {t u : Tok} {Q : Value → Shared → Prop}
theorem ne_yes (h1 : ¬ a = c) (h : Q (.bool true) s) : wpAny (model prog w) A (compareOp .NotEq (.str (sg a) t) (.str (sg c) u)) Q E s :=
  P.ne_str (by
    have e : ((sg a).cps.toList != (sg c).cps.toList) = true := by simp [h1]
    rw [e]; exact h)
theorem ne_no (h1 : a = c) (h : Q (.bool false) s) : wpAny (model prog w) A (compareOp .NotEq (.str (sg a) t) (.str (sg c) u)) Q E s :=
  P.ne_str (by
    have e : ((sg a).cps.toList != (sg c).cps.toList) = false := by simp [h1]
    rw [e]; exact h)
end
theorem rowsC21_32 : True := by
  k_with "compareOp NotEq str str" => (k_here; first | refine ne_yes (by assumption) ?_ | refine ne_no (by assumption) ?_)
  trivial
/-- the star that the first i signs make -/
noncomputable def StarN (cs : List Nat) (lo tk i : Nat) (ns : List Nd) : Prop :=
  (∀ x ∈ ns, lo ≤ x.nt ∧ x.nt < tk) ∧ ns.map Nd.c = cs.take i ∧ ∀ x0 xs, ns = x0 :: xs → x0.np = 0 ∧ (x0.sc = xs.map fun x => (x.c, x.nt)) ∧ ∀ x ∈ xs, x.np = 1 ∧ x.sc = []
theorem rowsC21_38 : True := by
  k_with "execs nil" => (k_here; (try dsimp only); with_reducible refine gen_toks ?_; intro _ _)
  k_with "execs cons" => (k_here; (try dsimp only); with_reducible refine gen_toks ?_; intro _ _)
  trivial
/-- the loop over the signs -/
inductive SI (w : World) (cl : Nat) (sgs : Str) (tkS : Tok) (cs : List Nat) (tk i : Nat) (m : Str → Option Value) (led : Led) : Prop
  | mk (oc : Obj) (v0 : Option Value) (self sd D : Nat) (oD : Obj) (t1 t2 t3 t4 t5 t6 : Tok) (ns : List Nd) : led = (cl, oc) :: (soL w self sd D oD t1 t2 t3 t4 .none (.int 0 t5) (.int 0 t6) ++ gLed ns) →
    Dist led → oc.data = .cell v0 → m (Str.ofString "sorter") = some (.ref self) → m (Str.ofString "signs") = some (.str sgs tkS) → Obj.IsDictOf (PySem.strKind PySem.Challenge.rw_mr0322_01.row.prog w) oD (gKv ns) → (D == sysModules) = false → StarN (38 :: cs) 1 tk i ns → SI w cl sgs tkS cs tk i m led
theorem star_first {cs : List Nat} {lo tk u : Nat} {x : Nd} (h1 : x.c = 38) (h2 : x.nt = u) (h3 : x.np = 0) (h4 : x.sc = []) (hl : lo ≤ u) (hu : u < tk) : StarN (38 :: cs) lo tk 1 [x] :=
  ⟨fun y hy => by rw [List.mem_singleton.mp hy, h2]; exact ⟨hl, hu⟩, by simp [h1], fun x0 xs e => by
    injection e with e1 e2
    subst e1 e2
    exact ⟨h3, h4, fun _ hy => nomatch hy⟩⟩
theorem star_more {cs : List Nat} {lo tk tk' u i c : Nat} {x0 x : Nd} {xs : List Nd} (hS : StarN (38 :: cs) lo tk i (x0 :: xs)) (hci : (38 :: cs)[i]? = some c) (h1 : x.c = c) (h2 : x.nt = u) (h3 : x.np = 1) (h4 : x.sc = []) (hl : lo ≤ u) (hu : u < tk') (hle : tk ≤ tk') :
    StarN (38 :: cs) lo tk' (i + 1) ({ x0 with sc := x0.sc ++ [(c, u)], ep := x0.ep + 1 } :: (xs ++ [x])) := by
  obtain ⟨a, b, d⟩ := hS
  obtain ⟨e1, e2, e3⟩ := d x0 xs rfl
  refine ⟨fun y hy => ?_, ?_, fun y0 ys e => ?_⟩
  · rcases List.mem_cons.mp hy with rfl | hy
    · exact ⟨(a x0 List.mem_cons_self).1, Nat.lt_of_lt_of_le (a x0 List.mem_cons_self).2 hle⟩
    · rcases List.mem_append.mp hy with hy | hy
      · exact ⟨(a y (List.mem_cons_of_mem _ hy)).1, Nat.lt_of_lt_of_le (a y (List.mem_cons_of_mem _ hy)).2 hle⟩
      · rw [List.mem_singleton.mp hy, h2]; exact ⟨hl, hu⟩
  · rw [List.take_succ, hci, ← b]
    simp [h1]
  · injection e with f1 f2
    subst f1 f2
    refine ⟨e1, ?_, fun y hy => ?_⟩
    · show x0.sc ++ [(c, u)] = _
      rw [e2, List.map_append]; simp [h1, h2]
    · rcases List.mem_append.mp hy with hy | hy
      · exact e3 y hy
      · rw [List.mem_singleton.mp hy]; exact ⟨h3, h4⟩
theorem perm4 {α : Type} (a b c d : α) : [a, b, c, d].Perm [d, b, c, a] := (pull [a, b, c] [d] []).trans (List.Perm.cons _ (pull [a] [b, c] []))
theorem kc_one : ∀ c ∈ sg7, ∀ o ∈ sg7, (o ≠ c ∧ o ∈ (nmS c).cps.toList) ↔ (c ≠ 38 ∧ o = 38) := by decide +kernel
theorem kc_filter {l cs : List Nat} {c : Nat} (hl : l = 38 :: cs) (hnd : (38 :: cs).Nodup) (hsg : ∀ c ∈ l, c ∈ sg7) (hc : c ∈ sg7) : l.filter (fun o => decide (o ≠ c ∧ o ∈ (nmS c).cps.toList)) = if c = 38 then [] else [38] := by
  have e : l.filter (fun o => decide (o ≠ c ∧ o ∈ (nmS c).cps.toList)) = l.filter (fun o => decide (c ≠ 38 ∧ o = 38)) :=
    List.filter_congr fun o ho => by rw [decide_eq_decide]; exact kc_one c hc o (hsg o ho)
  rw [e, hl]
  by_cases h : c = 38
  · rw [if_pos h, List.filter_eq_nil_iff.mpr]
    intro o _; simp [h]
  · rw [if_neg h, List.filter_cons, show decide (c ≠ 38 ∧ 38 = 38) = true from decide_eq_true ⟨h, rfl⟩, if_pos rfl, List.filter_eq_nil_iff.mpr]
    intro o ho q
    have := (of_decide_eq_true q).2
    exact (List.nodup_cons.mp hnd).1 (this ▸ ho)
section
variable {w : World} {A₀ : Around} {s : Shared} {base h₀ : Heap} {outer : List Env} {L : Addr} {m : Str → Option Value} {env : Env} {rest : Led}
  {R : Result → Shared → Prop} {mean : ExcName → Option Value} {mg mb : Str → Option Value} {d u : Nat} {g : Option (List Code)} {tkS : Tok} {sgs : Str}
theorem sorter_c {cs : List Nat}
  (B : Below A₀ base outer h₀) (F : Fr h₀ L s.heap m) (X₀ : (hd.heap_39 w.params).In h₀) (T : Tp mean mg mb h₀)
  (hf : env.frame = some L) (hke : env.scope.kind = .function) (hroom : d + 100 < 1000) (N : News h₀ L s.heap rest) (hsg : ∀ c ∈ sgs.cps.toList, c ∈ sg7) (hsz : sgs.cps.size ≤ sizeLine)
  (hcs : sgs.cps.toList = 38 :: cs) (hnd : (38 :: cs).Nodup) (hcl : (38 :: cs).length ≤ 50)
  (k : ∀ h' tk' (self sd D : Nat) oD t1 t2 t3 t4 t5 t6 ns, s.toks ≤ tk' → Fr h₀ L h' m → News h₀ L h' ((soL w self sd D oD t1 t2 t3 t4 .none (.int 0 t5) (.int 0 t6) ++ gLed ns) ++ rest) → Dist (soL w self sd D oD t1 t2 t3 t4 .none (.int 0 t5) (.int 0 t6) ++ gLed ns) → Ap rest (soL w self sd D oD t1 t2 t3 t4 .none (.int 0 t5) (.int 0 t6) ++ gLed ns) →
    Dk w oD (gKv ns) → (D == sysModules) = false → StarN (38 :: cs) 1 tk' (38 :: cs).length ns → R (.ok (.ret (.ref self))) { s with heap := h', toks := tk' }) :
  codeAny (model PySem.Challenge.rw_mr0322_01.row.prog w) (Ar d env outer g u) (.call (.ref 174) ⟨[.str sgs tkS], []⟩) R s := by
  refine codeAny_with_toks (n := s.toks) (Nat.le_refl _) ?_
  k_dflt (refine' callC (fp := []) (binds := [(Str.ofString "signs", .str sgs tkS)]) B F X₀ (by exact N) (by walk_at "apart") T rfl hf hke ?k6 ?k7 ?k8 ?k9 ?kB ?kD ?_ ?c2 ?c3 ?c4)
  case k6 => k_is
  case k7 => k_is
  case k8 => k_room
  case k9 => exact BindsTo.of_eq rfl
  case kB => exact rfl
  case kD => decide +kernel
  case c2 => exact rfl
  case c3 => exact rfl
  case c4 => exact rfl
  intro g' L' h' tk' cells' st F' N' Y' B' X' T' l1 htk0
  try dsimp only
  k_fold
  k_cells Y'
  simp only [List.cons_append, List.nil_append] at N'
  k_steps
  rename News _ _ _ _ => NE
  rename Obj.IsDictOf (PySem.strKind _ _) _ _ => hsD
  rename _ ≤ _ => h9z
  have NE2 := Mine.News.perm NE (perm4 _ _ _ _)
  refine forS (x := sgs) (t := tkS) (fun i m led tk => SI w (L' + 1) sgs tkS cs tk i m led) rfl (by k_asm) (by exact NE2) ?g0 ?ev ?turn ?fin
  case g0 =>
    refine ⟨_, _, _, _, _, _, _, _, _, _, _, _, [], rfl, ?_, by assumption, by walk_at "look", (by refine upd_ne (by decide) ?_; rfl), hsD, by assumption, ?_⟩
    · (repeat (refine dist_cons (by walk_at "allne") ?_))
      exact dist_nil
    · exact ⟨fun x hx => (nomatch hx), rfl, fun _ _ e => (nomatch e)⟩
  case ev => k_steps
  case turn =>
    clear NE NE2
    rintro i c u I oI m led h g9 tk tk' E' hc hu1 hu2 ⟨oc, v0, self, sd, D, oD, t1, t2, t3, t4, t5, t6, ns, rfl, hdi, hoc, hm1, hm2, hD, lo, hS⟩ hle F N off hn
    have hdI := dist_cons (a := I) (o := oI) off hdi
    generalize htl : gLed ns = tl at *
    simp only [soL, List.cons_append, List.nil_append] at N hdI hdi
    have d1 := dist_head hdI
    have d2 := dist_head (dist_tail hdI)
    have d3 := dist_head (dist_tail (dist_tail hdI))
    have d4 := dist_head (dist_tail (dist_tail (dist_tail hdI)))
    (have na9 := na_of d1 (by walk_at "spl")); (repeat (have hx9 := na_head na9; replace na9 := na_tail na9)); clear na9; replace d1 := na_tl d1 (by walk_at "spl")
    (have na9 := na_of d2 (by walk_at "spl")); (repeat (have hx9 := na_head na9; replace na9 := na_tail na9)); clear na9; replace d2 := na_tl d2 (by walk_at "spl")
    (have na9 := na_of d3 (by walk_at "spl")); (repeat (have hx9 := na_head na9; replace na9 := na_tail na9)); clear na9; replace d3 := na_tl d3 (by walk_at "spl")
    (have na9 := na_of d4 (by walk_at "spl")); (repeat (have hx9 := na_head na9; replace na9 := na_tail na9)); clear na9; replace d4 := na_tl d4 (by walk_at "spl")
    dsimp only
    iterate 2 walk1
    dsimp only
    k_steps
    refine starCall (by rfl) ?_
    k_steps
    k_dflt (refine' SrcS.mk rfl (by k_asm) (by k_asm) hsz (fun g9 => turnS1 (fun o => decide (o ≠ c ∧ o ∈ (nmS c).cps.toList)) sg ?tu) ?fi)
    case tu =>
      intro o u' ys I' oI' C oC D' m₂ h' tk2 E'' hmem hC hm' F' N' off' ne' htk'
      dsimp only at htk' ⊢
      by_cases h1 : o = c
      · k_steps
        exact LCg.CompEnd.intro (by k_asm) (by assumption) _ (fun _ h => h) off' trivial ⟨decide_eq_false fun q => q.1 h1, fun _ h => h⟩
      · have h7 : c ∈ sg7 := hsg c (List.mem_of_getElem? (by rw [Array.getElem?_toList]; exact hc))
        by_cases h2 : o ∈ (nmS c).cps.toList
        · k_steps
          exact LCg.CompEnd.intro (by k_asm) (by assumption) _ (fun _ h => h) off' trivial ⟨decide_eq_true ⟨h1, h2⟩, EndV.mk fun _ h => h⟩
        · k_steps
          exact LCg.CompEnd.intro (by k_asm) (by assumption) _ (fun _ h => h) off' trivial ⟨decide_eq_false fun q => h2 q.2, fun _ h => h⟩
    case fi =>
      intro g9 D9 h9 tk9 ys hM htk F9 N9 hD9
      dsimp only
      have hci : (38 :: cs)[i]? = some c := by rw [← hcs, Array.getElem?_toList]; exact hc
      have h7 : c ∈ sg7 := hsg c (List.mem_of_getElem? (by rw [Array.getElem?_toList]; exact hc))
      have hys := made_strs (x := sgs) (kc := fun o => decide (o ≠ c ∧ o ∈ (nmS c).cps.toList)) (out := sg) hM
      rw [kc_filter hcs hnd hsg h7] at hys
      obtain ⟨hS1, hS2, hS3⟩ := hS
      subst htl
      rename_i hCe o9 ho9 q9 hq9 Fq Nq z1 z2 z3 z4 z5 z6
      have pmA : ((I, oI) :: (L' + 1, o9) :: (soL w self sd D oD t1 t2 t3 t4 .none (.int 0 t5) (.int 0 t6) ++ gLed ns)).Perm (soL w self sd D oD t1 t2 t3 t4 .none (.int 0 t5) (.int 0 t6) ++ (gLed ns ++ [(I, oI), (L' + 1, o9)])) := by
        have := (pull (soL w self sd D oD t1 t2 t3 t4 .none (.int 0 t5) (.int 0 t6) ++ gLed ns) [(I, oI), (L' + 1, o9)] []).symm
        simpa only [List.append_assoc, List.cons_append, List.nil_append, List.append_nil] using this
      have pmB : ∀ oD' ns', (soL w self sd D oD' t1 t2 t3 t4 .none (.int 0 t5) (.int 0 t6) ++ (gLed ns' ++ [(I, oI), (L' + 1, o9)])).Perm ((I, oI) :: (L' + 1, o9) :: (soL w self sd D oD' t1 t2 t3 t4 .none (.int 0 t5) (.int 0 t6) ++ gLed ns')) := fun oD' ns' => by
        have := pull (soL w self sd D oD' t1 t2 t3 t4 .none (.int 0 t5) (.int 0 t6) ++ gLed ns') [(I, oI), (L' + 1, o9)] []
        simpa only [List.append_assoc, List.cons_append, List.nil_append, List.append_nil] using this
      have dA : Dist ((I, oI) :: (L' + 1, o9) :: (soL w self sd D oD t1 t2 t3 t4 .none (.int 0 t5) (.int 0 t6) ++ gLed ns)) := hdI
      have hlo : 1 ≤ u := Nat.le_trans (Nat.le_trans (Nat.succ_le_succ (Nat.zero_le _)) h9z) hu1
      have htk2 : tk' ≤ tk9 := Nat.le_trans (Nat.le_add_right _ _) htk
      by_cases h38 : c = 38
      · rw [if_pos h38] at hys
        have hys := strs_nil hys
        subst hys h38
        obtain rfl : i = 0 := by
          cases i with
          | zero => rfl
          | succ i => exact absurd (List.mem_of_getElem? (by simpa using hci)) (List.nodup_cons.mp hnd).1
        obtain rfl : ns = [] := List.map_eq_nil_iff.mp hS2
        refine star_list F9 (by k_asm) N9 (by k_mem) (by k_is) (by decide) fun h10 F10 N10 => ?_
        refine codeAny_with_toks (n := tk9) (Nat.le_refl _) ?_
        refine add_fresh (ns := []) B' F10 X' T' rfl rfl ?_ (Mine.News.perm (News.sub N10 fun p hp => List.mem_cons_of_mem _ (List.mem_cons_of_mem _ hp)) pmA) (dA.perm pmA) hD lo (fun q => nomatch q) (by decide) ?_
        · k_room
        intro h11 tk11 x oD' e1 e2 e3 e4 F11 N11 D11 hD11 htk11
        dsimp only
        k_steps
        have D12 := D11.perm (pmB _ _)
        exact ⟨h11, tk11, m, (L' + 1, o9) :: (soL w self sd D oD' t1 t2 t3 t4 .none (.int 0 t5) (.int 0 t6) ++ gLed [x]), rfl, F11, Mine.News.perm N11 (pmB _ _), dist_head D12, o9, _, self, sd, D, oD', t1, t2, t3, t4, t5, t6, [x], rfl, dist_tail D12, ho9, hm1, hm2, hD11, lo, star_first e1 e2 e3 e4 hlo (Nat.lt_of_lt_of_le hu2 (Nat.le_trans htk2 htk11))⟩
      · rw [if_neg h38] at hys
        obtain ⟨u9, r9, rfl, hr9⟩ := strs_cons hys
        have hr9 := strs_nil hr9
        subst hr9
        refine star_list F9 (by k_asm) N9 (by k_mem) (by k_is) (show 1 ≤ sizeLine by decide) fun h10 F10 N10 => ?_
        refine codeAny_with_toks (n := tk9) (Nat.le_refl _) ?_
        cases ns with
        | nil =>
          cases i with
          | zero => exact absurd (Option.some.inj hci).symm h38
          | succ i => cases hS2
        | cons x0 xs =>
          have hx0 : x0.c = 38 := by
            cases i with
            | zero => cases hS2
            | succ i =>
              rw [List.take_succ_cons, List.map_cons] at hS2
              exact (List.cons.inj hS2).1
          have hcn : c ∉ (x0 :: xs).map Nd.c := by
            rw [hS2]
            intro q
            obtain ⟨j, hj, e⟩ := List.getElem_of_mem q
            have h1 : j < i := by rw [List.length_take] at hj; omega
            rw [List.getElem_take] at e
            have hi := (List.getElem?_eq_some_iff.mp hci)
            obtain ⟨hi1, hi2⟩ := hi
            exact List.pairwise_iff_getElem.mp hnd j i (Nat.lt_trans h1 hi1) hi1 h1 (e.trans hi2.symm)
          have hsl : (x0 :: xs).length ≤ 50 := by
            have := congrArg List.length hS2
            rw [List.length_map, List.length_take] at this
            rw [this]
            exact Nat.le_trans (Nat.min_le_right _ _) hcl
          have hscl : x0.sc.length ≤ 50 := by
            rw [(hS3 x0 xs rfl).2.1, List.length_map]
            exact Nat.le_of_succ_le hsl
          have N12 := Mine.News.perm (News.sub N10 fun p hp => List.mem_cons_of_mem _ (List.mem_cons_of_mem _ hp)) pmA
          rw [show sg 38 = sg x0.c by rw [hx0]]
          refine add_leaf (pre := []) (post := xs) (y := x0) B' F10 X' T' rfl rfl ?_ N12 (dA.perm pmA) hD lo hcn (fun q => nomatch q) hsl hscl ?_
          · k_room
          intro h11 tk11 x oD' e1 e2 e3 e4 F11 N11 D11 hD11 htk11
          dsimp only
          k_steps
          have D12 := D11.perm (pmB _ _)
          exact ⟨h11, tk11, m, (L' + 1, o9) :: (soL w self sd D oD' t1 t2 t3 t4 .none (.int 0 t5) (.int 0 t6) ++ gLed _), rfl, F11, Mine.News.perm N11 (pmB _ _), dist_head D12, o9, _, self, sd, D, oD', t1, t2, t3, t4, t5, t6, _, rfl, dist_tail D12, ho9, hm1, hm2, hD11, lo, star_more ⟨hS1, hS2, hS3⟩ hci e1 e2 e3 e4 hlo (Nat.lt_of_lt_of_le hu2 (Nat.le_trans htk2 htk11)) (Nat.le_trans hle (Nat.le_trans htk2 htk11))⟩
  case fin =>
    clear NE NE2
    rintro m led h tk ⟨oc, v0, self, sd, D, oD, t1, t2, t3, t4, t5, t6, ns, rfl, hdi, hoc, hm1, hm2, hD, lo, hS⟩ F N hn
    k_steps
    rw [show sgs.cps.size = (38 :: cs).length by rw [← hcs, Array.length_toList]] at hS
    dsimp only
    exact ⟨L', m, soL w self sd D oD t1 t2 t3 t4 .none (.int 0 t5) (.int 0 t6) ++ gLed ns, F, News.sub N fun p hp => List.mem_cons_of_mem _ hp, fun kF kN kA htk => k _ _ self sd D oD t1 t2 t3 t4 t5 t6 ns htk kF kN (dist_tail hdi) kA hD lo hS⟩
end
theorem noneG10 : True := by
  k_with_none
  trivial
section
variable {prog : Program} {w : World} {A₀ A : Around} {s : Shared} {base h₀ : Heap} {outer : List Env} {L : Addr} {m : Str → Option Value} {env : Env} {fp rest frs : Led} {K : Frag}
  {R : Result → Shared → Prop} {name qual : Str} {params : Arguments} {body : List Stmt} {scope : Scope} {dV kV doc pm cdv ct oc : Value} {an od : Option Addr} {osl : Array (Option Value)} {f : Addr} {args : Args} {binds : List (Str × Value)}
  {p : Program} {loose : List Str} {mean : ExcName → Option Value} {mg mb : Str → Option Value}
/-- the two views of a frame: the frames below it in its base, or in its ledger -/
structure TwoV (gB gT : Heap) (frs : Led) : Prop where
  st : gT.StaysIn gB
  sz : gT.objs.size = gB.objs.size
  fr : ∀ p ∈ frs, gB.get? p.1 = some p.2 ∧ gT.get? p.1 = none
theorem TwoV.to {gB gT h : Heap} {frs new : Led} {L : Nat} (V : TwoV gB gT frs) (F : Fr gB L h m) (N : News gB L h new) (d : Dist new) (df : Dist frs) : Fr gT L h m ∧ News gT L h (new ++ frs) ∧ Dist (new ++ frs) := by
  refine ⟨⟨F.ns, fun b o e => F.keep b o (V.st b o e), by rw [V.sz]; exact F.above⟩, fun q hq => ?_, dist_app d df fun q hq r hr e => ?_⟩
  · rcases List.mem_append.mp hq with hq | hq
    · refine ⟨(N q hq).1, (N q hq).2.1, ?_⟩
      cases e : gT.get? q.1 with
      | none => rfl
      | some o => have := (N q hq).2.2; rw [V.st _ _ e] at this; cases this
    · exact ⟨F.keep _ _ (V.fr q hq).1, fun e => by
        have := Heap.lt_size (V.fr q hq).1
        rw [e] at this
        exact absurd (Nat.lt_of_lt_of_le this F.above) (Nat.lt_irrefl _), (V.fr q hq).2⟩
  · have := (N q hq).2.2
    rw [e, (V.fr r hr).1] at this; cases this
theorem callB (B : Below A₀ base outer h₀) (F : Fr h₀ L s.heap m) (X₀ : K.In h₀) (N : News h₀ L s.heap (fp ++ (frs ++ rest))) (hdi : Dist (fp ++ (frs ++ rest))) (T : Top p loose mean mg mb h₀) (Fs : TI.Frs outer frs) (hA : A.frames = some (env :: outer))
    (hf : env.frame = some L) (hke : env.scope.kind = .function)
    (ho : K.lookup f = some ⟨oc, od, .func (fnOf name qual params body scope dV kV doc pm an cdv ct), osl⟩) (hcd : codeIn K cdv qual = true) (hroom : A.depth < recursionLimit)
    (hbind : BindsTo s (fnOf name qual params body scope dV kV doc pm an cdv ct) args binds) (hloc : ∀ y ∈ binds, scope.names.lookup y.1 = some .local)
    (h : ∀ gB gT L' h₁ oL, TwoV gB gT ((L, oL) :: frs) → h₀.StaysIn gT → h₀.StaysIn gB → Fr gB L' h₁ (fun y => binds.reverse.lookup y) → News gB L' h₁ fp → Dist fp → Below A base (env :: outer) gB → Dist ((L, oL) :: frs) → TI.Frs (env :: outer) ((L, oL) :: frs) →
      K.In gB → Top p loose mean mg mb gB → K.In gT → Top p loose mean mg mb gT →
      wpAny (model prog w) (A.deeper (envOf qual scope L' f cdv)) (execs body (envOf qual scope L' f cdv))
        (fun fl s' => LeaveT h₀ L m frs rest gT oL R (match fl with | .ret v => v | _ => .none) s')
        (fun e s' => wpAny (model prog w) (A.deeper (envOf qual scope L' f cdv)) (leaving (envOf qual scope L' f cdv) e) (fun _ s'' => R (.error e) s'') (fun e' s'' => R (.error e') s'') s')
        { s with heap := h₁, toks := s.toks + binds.length })
    (hco : scope.isCoroutine = false) (hgen : scope.isGenerator = false) (hk : scope.kind = .function)
    (hcell : ∀ x ∈ scope.names, x.2 ≠ .cell) : codeAny (model prog w) A (.call (.ref f) args) R s := by
  have dfp := dist_left hdi
  have N1 : News h₀ L s.heap fp := News.sub N fun p hp => List.mem_append_left _ hp
  have N2 : News h₀ L s.heap (frs ++ rest) := News.sub N fun p hp => List.mem_append_right _ hp
  obtain ⟨FG, BG, stB, _⟩ := groundX (R := R) B F N1 hA hf hke
  obtain ⟨oL, es, ep, hL, hLr⟩ := F.ns
  have X := X₀.keeps F.keep
  have hLd : ∃ es ep, oL.data = .dict es ep := ⟨es, ep, hLr.1⟩
  -- the hidden part: fp, L, frs
  have dF := dist_left (a := fp ++ frs) (b := rest) (by rw [List.append_assoc]; exact hdi)
  have N1 : News h₀ L s.heap (fp ++ frs) := News.sub N fun p hp => by
    rcases List.mem_append.mp hp with q | q
    · exact List.mem_append_left _ q
    · exact List.mem_append_right _ (List.mem_append_left _ q)
  have N2 : News h₀ L s.heap rest := News.sub N fun p hp => List.mem_append_right _ (List.mem_append_right _ hp)
  have mem' : ∀ p, p ∈ fp ++ (L, oL) :: frs ↔ p = (L, oL) ∨ p ∈ fp ++ frs := fun p => by
    simp only [List.mem_append, List.mem_cons]
    constructor
    · rintro (a | a | a)
      · exact .inr (.inl a)
      · exact .inl a
      · exact .inr (.inr a)
    · rintro (a | a | a)
      · exact .inr (.inl a)
      · exact .inl a
      · exact .inr (.inr a)
  have hget : ∀ p ∈ fp ++ (L, oL) :: frs, s.heap.get? p.1 = some p.2 := fun p hp => by
    rcases (mem' p).mp hp with rfl | q
    · exact hL
    · exact (N1 p q).1
  have hnone : ∀ p ∈ fp ++ (L, oL) :: frs, h₀.get? p.1 = none := fun p hp => by
    rcases (mem' p).mp hp with rfl | q
    · cases q : h₀.get? L with
      | none => rfl
      | some o => exact absurd (Heap.lt_size q) (Nat.not_lt.mpr F.above)
    · exact (N1 p q).2.2
  have nL : ∀ p ∈ fp ++ frs, p.1 ≠ L := fun p hp => (N1 p hp).2.1
  have dL : Dist (fp ++ (L, oL) :: frs) := (dist_cons nL dF).perm List.perm_middle.symm
  have dR : ∀ p ∈ fp ++ (L, oL) :: frs, ∀ q ∈ rest, p.1 ≠ q.1 := fun p hp q hq => by
    rcases (mem' p).mp hp with rfl | z
    · exact fun e => (N2 q hq).2.1 e.symm
    · exact dist_ap (a := fp ++ frs) (b := rest) (by rw [List.append_assoc]; exact hdi) p z q hq
  generalize hG : hideAll s.heap ((fp ++ (L, oL) :: frs).map (·.1)) = G
  have st : h₀.StaysIn G := fun b o e => by
    rw [← hG]
    refine hideAll_get _ (F.keep b o e) fun q => ?_
    obtain ⟨p, hp, rfl⟩ := List.mem_map.mp q
    rw [hnone p hp] at e; cases e
  have kr : ∀ p ∈ rest, G.get? p.1 = some p.2 := fun p hp => by
    rw [← hG]
    refine hideAll_get _ (N2 p hp).1 fun q => ?_
    obtain ⟨q', hq', e⟩ := List.mem_map.mp q
    exact dR q' hq' p hp e
  refine codeAny_call_def (fd := fnOf name qual params body scope dV kV doc pm an cdv ct) (body := body) (binds := binds) hroom (X _ _ ho) rfl (T.nolimit.keeps F.keep) (codeRec_of X hcd) rfl hbind hcell hloc (fun h₁ hns hk₁ => ?_) hco hgen hk
  have XB : K.In (hideAll s.heap (fp.map (·.1))) := X₀.keeps stB
  have TB : Top p loose mean mg mb (hideAll s.heap (fp.map (·.1))) := T.keeps stB
  have two : TwoV (hideAll s.heap (fp.map (·.1))) G ((L, oL) :: frs) := by
    refine ⟨fun b o e => ?_, by rw [← hG, hideAll_size, hideAll_size], fun p hp => ⟨hideAll_get _ (hget p (List.mem_append_right _ hp)) fun q => ?_, hG ▸ hideAll_none _ (List.mem_map_of_mem (List.mem_append_right _ hp))⟩⟩
    · have e' := of_hideAll _ (hG ▸ e)
      refine hideAll_get _ e' fun q => ?_
      have : G.get? b = none := hG ▸ hideAll_none _ (by rw [List.map_append]; exact List.mem_append_left _ q)
      rw [e] at this; cases this
    · obtain ⟨q', hq', e⟩ := List.mem_map.mp q
      exact dist_ap dL q' hq' p hp e
  refine wpAny_mono (h (hideAll s.heap (fp.map (·.1))) G s.heap.objs.size h₁ oL two st stB ⟨hns, fun b o e => hk₁ b o (of_hideAll _ e), Nat.le_of_eq (hideAll_size _ _)⟩
    (fun p hp => ⟨hk₁ _ _ (hget p (List.mem_append_left _ hp)), Nat.ne_of_lt (Heap.lt_size (hget p (List.mem_append_left _ hp))), hideAll_none _ (List.mem_map_of_mem hp)⟩) dfp BG (dist_right (a := fp) dL) ⟨by rw [hke]; decide, hf, hLd, Fs⟩ XB TB (X₀.keeps st) (T.keeps st)) (fun fl s' hl => ?_) fun _ _ y => y
  obtain ⟨L', m', fp', frs', sl, F', N', d', su, k⟩ := hl
  have hL' : s'.heap.get? L = some { oL with slots := sl } := (N' _ (List.mem_append_right _ List.mem_cons_self)).1
  have dF' : Dist (fp' ++ frs') := dist_tail (d'.perm List.perm_middle)
  have nL' : ∀ p ∈ fp' ++ frs', p.1 ≠ L := dist_head (d'.perm List.perm_middle)
  refine k ⟨⟨_, es, ep, hL', hLr⟩, fun b o e => F'.keep b o (st b o e), F.above⟩ (fun p hp => ?_) ?_
  · rw [← List.append_assoc] at hp
    rcases List.mem_append.mp hp with hp | hp
    · have z := N' p (by
        rcases List.mem_append.mp hp with q | q
        · exact List.mem_append_left _ q
        · exact List.mem_append_right _ (List.mem_cons_of_mem _ q))
      refine ⟨z.1, nL' p hp, ?_⟩
      cases q : h₀.get? p.1 with
      | none => rfl
      | some o => have := z.2.2; rw [st _ _ q] at this; cases this
    · exact ⟨F'.keep _ _ (kr p hp), (N2 p hp).2⟩
  · rw [← List.append_assoc]
    refine dist_app dF' (dist_right (a := fp ++ frs) (by rw [List.append_assoc]; exact hdi)) fun p hp q hq e => ?_
    have z := N' p (by
        rcases List.mem_append.mp hp with q | q
        · exact List.mem_append_left _ q
        · exact List.mem_append_right _ (List.mem_cons_of_mem _ q))
    have := z.2.2
    rw [e, kr q hq] at this; cases this
end
theorem noneG11 : True := by
  k_with_none
  trivial
theorem Air.keeps {h₀ h h' : Heap} {l : List Env} {frs kept : Led} {e : Nat} (x : Air h₀ l frs kept e h) (k : ∀ b o, h.get? b = some o → h'.get? b = some o) : Air h₀ l frs kept e h' := by
  obtain ⟨B, t, fl, frs', h1, h2, h3, h4, h5, ⟨oe, vs, T, oT, ts, he, hcls, hd, h7, hnT, hTe, hT, hdT, h8⟩, SU, ht⟩ := x
  exact ⟨B, t, fl, frs', h1, h2, fun b o q => k b o (h3 b o q), h4, h5.of_keeps fun b o hb _ => ⟨o, k b o hb, rfl⟩, ⟨oe, vs, T, oT, ts, k _ _ he, hcls, hd, h7, hnT, hTe, k _ _ hT, hdT, h8⟩, SU, fun q hq => k _ _ (ht q hq)⟩
theorem Air.ty {M : Model} {h₀ h : Heap} {l : List Env} {frs kept : Led} {e : Nat} (x : Air h₀ l frs kept e h) : Looks M h (typeOf (.ref e)) (.ref 76) := by
  obtain ⟨B, t, fl, frs', h1, h2, h3, h4, h5, ⟨oe, vs, T, oT, ts, he, hcls, _⟩, SU, ht⟩ := x
  intro A Q E s k q
  show wpAny _ _ (loadPart e (some headPart) >>= fun o => pure o.cls) _ _ _
  exact wpAny_bind (wpAny_loadPart (k _ _ he) (wpAny_pure (by rw [hcls.1]; exact q)))
section
variable {prog : Program} {w : World} {A₀ : Around} {E : Value → Shared → Prop} {s' : Shared} {hb : Heap} {L a e : Addr} {m : Str → Option Value} {name : Str} {scope : Scope} {cd : Value} {Q : Flow → Shared → Prop} {l : List Env} {frs kept : Led} {oL : Obj} {KF : Frag}
  {p : Program} {loose : List Str} {mg mb : Str → Option Value} {x : Str} {c : Value} {np pos : Pos} {b₀ : Stmt} {suite : List Stmt} {rest : List ExceptHandler}
theorem air_hit (A1 : Air hb (envOf name scope L a cd :: l) ((L, oL) :: frs) kept e s'.heap) (Fs : TI.Frs (envOf name scope L a cd :: l) ((L, oL) :: frs)) (F : Fr hb L s'.heap m) (X : KF.In hb) (T : TopRead p loose mg mb hb)
    (hc : KtsName KF x c) (he : exmOne KF (.ref 76) c = some true) (hk : scope.kind = .function) (hx : (envOf name scope L a cd).kindOf x = some .globalImplicit) (hd : (x == ("__debug__" : Str)) = false)
    (k : ∀ h', Air hb (envOf name scope L a cd :: l) ((L, oL) :: frs) kept e h' → wpAny (model prog w) ((A₀.deeper (envOf name scope L a cd)).mark (some (.ref e))) (execs (b₀ :: suite) (envOf name scope L a cd)) Q E { s' with heap := h' })
    (hE : PassesOwnAt (model prog w) ((A₀.deeper (envOf name scope L a cd)).mark (some (.ref e))) (A₀.deeper (envOf name scope L a cd)) (envOf name scope L a cd) E := by passes_own) :
    wpAny (model prog w) (A₀.deeper (envOf name scope L a cd)) (handleBy (.ref e) (envOf name scope L a cd) (.ExceptHandler (some (.Name x np)) none (b₀ :: suite) pos :: rest)) Q E s' := by
  refine wpAny_handleBy_cons (codeAny_handlers_test (test_name (np := np) hc he hk hx hd _ _ _ _ hb e m F X T A1.ty fun h₅ kp => ?_)) (by intro q; cases q)
  refine codeAny_handlers_suite ?_
  exact air_flight (s := { s' with heap := h₅ }) none (A1.keeps kp) Fs fun h₆ A6 => wpAny_passesOwnAt hE (k h₆ A6)
end
theorem noneC22 : True := by
  k_with_none
  trivial
-- addresses that differ: by a fact of the context first
-- a def entered: what is left is its body
theorem rowsC22_3 : True := by
  k_with "kroom" => ((try simp only [depth_under_make, depth_under_kw, depth_in1, depth_deeper, depth_caller, recursionLimit] at *); omega)
  k_with "kne" => first | with_reducible assumption | exact Ne.symm (by with_reducible assumption) | (refine neN ?_; (try dsimp only); first | with_reducible assumption | exact Nat.ne_of_lt (by with_reducible assumption) | exact Nat.ne_of_gt (by with_reducible assumption) | exact Ne.symm (by with_reducible assumption) | (refine' Nat.ne_of_lt (Nat.lt_trans ?z215xh1 ?z215xh2); (case z215xh2 => with_reducible assumption); (case z215xh1 => with_reducible assumption)) | (refine' Nat.ne_of_gt (Nat.lt_trans ?z215xh1 ?z215xh2); (case z215xh2 => with_reducible assumption); (case z215xh1 => with_reducible assumption)) | omega)
  k_with "spl" => first | (refine' Spl.cons ?z216xsp; (case z216xsp => walk_at "spl")) | exact Spl.nil
  k_with "enter" => ((case k6 => k_is); (case k7 => k_is); (case k8 => k_room); (case k9 => exact BindsTo.of_eq rfl); (case c5 => decide); (case kB => exact locs rfl); (case c2 => exact rfl); (case c3 => exact rfl); (case c4 => exact rfl))
  k_with "enterV" => ((case k6 => k_is); (case k7 => k_is); (case k8 => k_room); (case kP => exact rfl); (case kG => exact fun _ => rfl); (case c5 => decide); (case kB => exact fun _ => locs rfl); (case c2 => exact rfl); (case c3 => exact rfl); (case c4 => exact rfl))
  k_with "apart" => first | exact apNil | (refine apCons (by assumption) ?_; walk_at "apart")
  k_with "allne" => first | with_reducible assumption | exact List.forall_mem_nil _ | (refine' fa_cons ?z220xfh ?z220xft; (case z220xfh => k_ne); (case z220xft => walk_at "allne"))
  k_with "sub" => first | exact subNil | exact fun _ h => h | (refine' subCons ?z221xs1 ?z221xs2; (case z221xs1 => k_mem); (case z221xs2 => walk_at "sub")) | (refine' subTail ?z221xs3; (case z221xs3 => walk_at "sub"))
  k_with "pick" => first | exact Pick.head | (refine' Pick.tail ?z222xpk; (case z222xpk => walk_at "pick"))
  k_with "leave" => (refine' ⟨_, _, _, ?z223xka, ?z223xkb, ?z223xkc⟩; (case z223xka => k_asm); (case z223xkb => k_asm); intro _ _ kA; (have na9 := np_of kA (by walk_at "spl")); (repeat (have hx9 := np_head na9; revert hx9; intro _; replace na9 := np_tail na9)); clear na9; replace kA := np_tl kA (by walk_at "spl"); revert kA; intro _)
  k_with "allne" => first | with_reducible assumption | exact lt_all (by with_reducible assumption) | exact List.forall_mem_nil _ | (refine' fa_cons ?z224xfh ?z224xft; (case z224xfh => k_ne); (case z224xft => walk_at "allne"))
  k_with "look" => first | assumption | exact upd_eq | (refine upd_ne (by decide) ?_; walk_at "look")
  trivial
theorem eA : Str.ofString "a" = sg 97 := by decide +kernel
theorem eB : Str.ofString "b" = sg 98 := by decide +kernel
section
variable {w : World} {A₀ : Around} {s : Shared} {base h₀ : Heap} {outer : List Env} {L : Addr} {m : Str → Option Value} {env : Env} {rest frs : Led}
  {R : Result → Shared → Prop} {mean : ExcName → Option Value} {mg mb : Str → Option Value} {d u : Nat} {g : Option (List Code)} {self sd D : Nat} {t1 t2 t3 t4 t5 t6 : Tok} {oD : Obj} {ns : List Nd}
theorem ring_c
  (B : Below A₀ base outer h₀) (F : Fr h₀ L s.heap m) (X₀ : (hd.heap_39 w.params).In h₀) (T : Tp mean mg mb h₀)
  (hf : env.frame = some L) (hke : env.scope.kind = .function) (hroom : d + 300 < 1000) (Fs : TI.Frs outer frs)
  (N : News h₀ L s.heap ((soL w self sd D oD t1 t2 t3 t4 .none (.int 0 t5) (.int 0 t6) ++ gLed ns) ++ (frs ++ rest))) (hdi : Dist ((soL w self sd D oD t1 t2 t3 t4 .none (.int 0 t5) (.int 0 t6) ++ gLed ns) ++ (frs ++ rest)))
  (hD : Dk w oD (gKv ns)) (lo : (D == sysModules) = false) (ha : 97 ∉ ns.map Nd.c) (hb : 98 ∉ ns.map Nd.c) (hz : ns.length ≤ 40)
  (hrg : forA (ns.map Nd.abs ++ [(97, [98]), (98, [97])]) (ns.map Nd.c ++ [97, 98]) [] = some true)
  (hab : AllBare s.gens) (k : ∀ h' tk' gens t frs', AllBare gens → TI.SameUp frs frs' → Fr h₀ L h' m → News h₀ L h' (frs' ++ rest) → Dist (frs' ++ rest) → R (.ok (.ret (.str (Str.ofString "ring") t))) { s with heap := h', toks := tk', gens := gens }) :
  codeAny (model PySem.Challenge.rw_mr0322_01.row.prog w) (Ar d env outer g u) (.call (.ref 191) ⟨[.ref self], []⟩) R s := by
  k_dflt (refine' callB (fp := soL w self sd D oD t1 t2 t3 t4 .none (.int 0 t5) (.int 0 t6) ++ gLed ns) (frs := frs) (rest := rest) (outer := outer) (env := env) (binds := [(Str.ofString "sorter", .ref self)]) B F X₀ (by exact N) (by exact hdi) T Fs rfl hf hke ?k6 ?k7 ?k8 ?k9 ?kB ?_ ?c2 ?c3 ?c4 ?c5)
  walk_at "enter"
  intro gB gT L' h1 oL V stT stB FB NB dB BB dfr Fs' XB TB XT TT
  try dsimp only
  k_fold
  iterate 13 walk1
  refine wpAny_call ?_
  conv in Code.call _ _ => rw [eA, eB]
  refine (add_pair (c := 97) (p := 98) (rest := []) (ns := ns) BB FB XB TB rfl rfl ?r1 (by rw [List.append_nil]; exact NB) (by rw [List.append_nil]; exact dB) hD lo ha hb (by decide) (by omega) ?_)
  case r1 => k_room
  intro h2 tk2 x y oD2 e1 e2 e3 e4 f1 f2 f3 F2 N2 D2 hD2
  dsimp only
  iterate 12 walk1
  refine wpAny_call ?_
  conv in Code.call _ _ => rw [eA, eB]
  have hxn : x.c ∉ ns.map Nd.c := by rw [e1]; exact ha
  have hyn : y.c ∉ ns.map Nd.c := by rw [f1]; exact hb
  have hxy : x.c ≠ y.c := by rw [e1, f1]; decide
  rw [show sg 98 = sg y.c by rw [f1], show sg 97 = sg x.c by rw [e1]]
  refine (add_back (x := x) (y := y) (rest := []) (ns := ns) BB F2 XB TB rfl rfl ?r2 N2 D2 hD2 lo hxn hyn hxy (by rw [e4]; decide) ?_)
  case r2 => k_room
  intro h3 tk3 pt F3 N3 D3
  have gen : ∃ nn, News gB L' h3 (soL w self sd D oD2 t1 t2 t3 t4 .none (.int 0 t5) (.int 0 t6) ++ (gLed nn ++ [])) ∧ Dist (soL w self sd D oD2 t1 t2 t3 t4 .none (.int 0 t5) (.int 0 t6) ++ (gLed nn ++ [])) ∧ gKv nn = gKv (ns ++ [x, y]) ∧ nn.map Nd.abs = ns.map Nd.abs ++ [(97, [98]), (98, [97])] ∧ nn.map Nd.c = ns.map Nd.c ++ [97, 98] ∧ nn.length ≤ 50 := by
    refine ⟨_, N3, D3, by rw [gKv_app, gKv_app]; rfl, ?_, ?_, ?_⟩
    · rw [List.map_append]
      show _ ++ [(x.c, (x.sc ++ [(y.c, _)]).map fun p : Nat × Tok => p.1), (y.c, y.sc.map fun p : Nat × Tok => p.1)] = _
      rw [e4, f3, e1, f1]; rfl
    · rw [List.map_append]
      show _ ++ [x.c, y.c] = _
      rw [e1, f1]
    · rw [List.length_append]; show ns.length + 2 ≤ 50; omega
  clear N3 D3
  obtain ⟨nn, N3, D3, ek, ea, ec, ez⟩ := gen
  rw [List.append_nil] at N3 D3
  dsimp only
  iterate 4 walk1
  have F4 := (V.to F3 N3 D3 dfr)
  obtain ⟨F4, N4, D4⟩ := F4
  refine compB (K := Mine.hd.heap_39 w.params) (h₀ := gT) (L := L') ?rm rfl (fun q => nomatch q) (by with_unfolding_all rfl) (by decide) (by rfl) (by decide) (by kernel_rfl) ?_
  case rm => k_room
  clear F2 N2 FB NB
  k_steps
  dsimp only
  refine wpAny_call (so_ring (ns := nn) (frs := (L, oL) :: frs) (news := []) F4 XT TT ?rq (by rw [List.append_nil]; exact N4) (by rw [List.append_nil]; exact D4) (by rw [ek]; exact hD2) lo ez (by rw [ea, ec]; exact hrg) ?_)
  case rq => k_room
  intro G gN gs nm qn own h5 tk5 gens5 F5 N5 D5 hgs hab5 hbad
  dsimp only
  refine ⟨G, gN, gs, nm, qn, own, [(G, genO gN nm qn)], (L, oL) :: frs, _, rfl, Fs', F5, N5, D5, List.mem_singleton.mpr rfl, hgs, hbad, TT.nolimit, XT, hab5 hab, fun e h6 tk6 gens6 oL6 hL6 A6 hab6 => ?_⟩
  have F6 := A6.fr F5 hL6
  have hoL6 : ∃ es ep, oL6.data = .dict es ep := by
    obtain ⟨o, es, ep, ho, hdd, _⟩ := F5.ns
    rw [hL6] at ho
    cases ho
    exact ⟨es, ep, hdd⟩
  have FsR : ∀ (nm : Str) (sc : Scope) (a : Addr) (cd : Value), sc.kind = .function → TI.Frs (envOf nm sc L' a cd :: env :: outer) ((L', oL6) :: (L, oL) :: frs) := fun nm sc a cd h => ⟨by show sc.kind ≠ _; rw [h]; decide, rfl, hoL6, Fs'⟩
  refine air_note (s := { s with heap := h6, toks := tk6, gens := gens6 }) A6 (FsR _ _ _ _ rfl) rfl rfl rfl fun h7 A7 => ?_
  refine air_flight (s := { s with heap := h7, toks := tk6, gens := gens6 }) none A7 (FsR _ _ _ _ rfl) fun h8 A8 => ?_
  refine air_hit (KF := Mine.hd.heap_39 w.params) (c := .ref 76) (s' := { s with heap := h8, toks := tk6, gens := gens6 }) A8 (FsR _ _ _ _ rfl) (A8.fr F5 hL6) XT (topRead_of TT) ?hn ?hm rfl (by rfl) (by decide) fun h9 A9 => ?_
  case hn => exact .inl (by kernel_rfl)
  case hm => kernel_rfl
  have F9 := A9.fr F5 hL6
  obtain ⟨_, _, _, frsA, _, _, _, _, _, _, SUA, htA⟩ := A9
  obtain ⟨slA, frsB, rfl, SUB⟩ := sameUp_cons SUA
  obtain ⟨slB, frsC, rfl, SUC⟩ := sameUp_cons SUB
  have N9 : News gT L' h9 ((L, { oL with slots := slB }) :: frsC) := fun q hq => by
    obtain ⟨p, hp, e'⟩ := SUB.fwd q hq
    have z := (N5 p (List.mem_append_right _ (List.mem_append_left _ hp))).2
    exact ⟨htA q (List.mem_cons_of_mem _ hq), by rw [e']; exact z.1, by rw [e']; exact z.2⟩
  have D9 : Dist ((L, { oL with slots := slB }) :: frsC) := dist_same (a := []) dfr (SameUp.addr SUB)
  k_steps
  dsimp only
  exact ⟨L', _, [], frsC, slB, F9, N9, D9, SUC, fun kF kN kD => k h9 _ gens6 _ frsC hab6 SUC kF kN kD⟩
end
theorem noneS7 : True := by
  k_with_none
  trivial
section
variable {prog : Program} {w : World} {A : Around} {s : Shared} {E : Value → Shared → Prop} {h₀ : Heap} {L : Addr} {m : Str → Option Value} {env : Env} {news : Led}
/-- a comprehension's source is a list of the ledger -/
noncomputable def SrcL (prog : Program) (w : World) (A : Around) (h₀ : Heap) (L : Addr) (m : Str → Option Value) (env : Env) (ifs : List PySem.Expr) (elt : PySem.Expr) (x : Str) (scope : Scope) (cl : List (Str × Addr)) (Q : Value → Shared → Prop) (xv : Value) (s₁ : Shared) : Prop :=
  ∃ (D : Nat) (o : Obj) (its : Array Value) (news : Led) (keep : Nat → Bool) (O : Nat → Value → Prop), xv = .ref D ∧ A.handled = none ∧ Fr h₀ L s₁.heap m ∧ News h₀ L s₁.heap news ∧ (D, o) ∈ news ∧ s₁.heap.IsList D its ∧ its.size ≤ sizeLine ∧
    (∀ g, TurnW prog w A h₀ L m env ifs elt x scope cl { s₁ with heap := g } (fun i v => its[i]? = some v) keep O its.size news) ∧ ∀ g, DoneW h₀ L m { s₁ with heap := g } news Q (MadeL keep O its.size 0)
theorem compL {elt iter : PySem.Expr} {ifs : List PySem.Expr} {x : Str} {px : Pos} {scope : Scope} {cl : List (Str × Addr)} {pos : Pos} {Q : Value → Shared → Prop} (_F₀ : Fr h₀ L s.heap m)
    (hclos : closureFor scope env = pure cl) (hcell : ∀ y ∈ scope.names, y.2 ≠ .cell) (hkind : scope.kind = .function)
    (hnames : ∀ y ∈ scope.names, y.2 = .local → scope.names.lookup y.1 = some .local) (hx : scope.names.lookup x = some .local)
    (h : wpAny (model prog w) A (eval iter env) (SrcL prog w A h₀ L m env ifs elt x scope cl Q) E s)
    (hs : ∀ x, foldedSetIterable iter env x = pure x := by intro _; rfl) :
    wpAny (model prog w) A (eval (.ListComp elt [⟨.Name x px, iter, ifs, 0⟩] scope pos) env) Q E s := by
  rw [eval_ListComp]
  refine wpAny_comprehension_free (use := none) rfl hs hclos hkind hnames (wpAny_mono h (fun xv s₁ h₁ => ?_) fun _ _ e => e)
  obtain ⟨D, o, its, news, keep, O, rfl, hh, F, N, hm, hl, hsz, turn, fin⟩ := h₁
  have hlt := Heap.lt_size (N _ hm).1
  refine wpAny_pyIter_list hl ?_
  refine blockW (Walks.list hh s₁.heap.objs.size D (Nat.ne_of_lt hlt) its) hsz (fun i h st => let ⟨⟨o, e, _⟩, _⟩ := st; ⟨o, e⟩) (fun b hb hn => ?_) hcell hkind hx ⟨⟨_, Heap.get?_push_size _ rfl, rfl, rfl⟩, hl.push _⟩ (fun b hb => ?_)
      (F.keeps fun _ _ e => Heap.get?_push_of_some _ e) (N.grown fun _ _ e => Heap.get?_push_of_some _ e) (Nat.ne_of_lt F.ns.lt) (next_is_new F) (fun p hp => Nat.ne_of_lt (Heap.lt_size (N p hp).1)) (turn _) ?_
  · have hb' : b = s₁.heap.objs.size ∨ b = D := by simpa using hb
    rcases hb' with e | e
    · exact absurd e hn
    · exact ⟨o, .inl (by rw [e]; exact hm)⟩
  · have hb' : b = s₁.heap.objs.size ∨ b = D := by simpa using hb
    show b < (s₁.heap.push _).objs.size
    rw [Heap.size_push]
    rcases hb' with e | e
    · rw [e]; exact Nat.lt_succ_self _
    · rw [e]; exact Nat.lt_succ_of_lt hlt
  · intro D C h tk m' ys F' N' o1 hn hC₀ hCL hCD offC htk hM
    refine ⟨m', hn, fun h'' hs'' => fin _ D h'' tk ys hM htk (F'.change hs'' hCL hC₀) (fun p hp => ?_) o1⟩
    refine ⟨hs''.extBut _ _ ?_ (N' p hp).1, (N' p hp).2⟩
    rcases List.mem_cons.mp hp with rfl | hp
    · exact Ne.symm hCD
    · exact offC p hp
end
theorem noneS8 : True := by
  k_with_none
  trivial
/-- the loop over a list, generators may be made in a turn -/
inductive FX (h₀ : Heap) (L : Addr) (s₁ : Shared) (I D : Addr) (its : Array Value) (Good : Nat → (Str → Option Value) → Led → Prop) (k : Nat) (s' : Shared) : Prop
  | mk (i : Nat) (h : Heap) (tk : Nat) (gens : Array GenState) (m : Str → Option Value) (led : Led) : i ≤ its.size → k = its.size - i → s' = { s₁ with heap := h, toks := tk, gens := gens } → AllBare gens → (h.IsListIter I D i ∧ h.IsList D its) → Fr h₀ L h m → News h₀ L h led → Dist led → (∀ p ∈ led, p.1 ≠ I) → s₁.toks ≤ tk → Good i m led → FX h₀ L s₁ I D its Good k s'
section
variable {prog : Program} {w : World} {A : Around} {s : Shared} {E : Value → Shared → Prop} {h₀ : Heap} {L : Addr} {m : Str → Option Value} {env : Env}
/-- where a turn ends, generators made or not -/
noncomputable def TurnX (h₀ : Heap) (L : Addr) (s : Shared) (I : Addr) (oI : Obj) (G : (Str → Option Value) → Led → Prop) (s₃ : Shared) : Prop :=
  ∃ h tk gens m led, s₃ = { s with heap := h, toks := tk, gens := gens } ∧ AllBare gens ∧ Fr h₀ L h m ∧ News h₀ L h ((I, oI) :: led) ∧ Dist ((I, oI) :: led) ∧ G m led
/-- the list that a for walks over -/
noncomputable def SrcX (prog : Program) (w : World) (A : Around) (h₀ : Heap) (L : Addr) (env : Env) (target : PySem.Expr) (body : List Stmt) (Q : Flow → Shared → Prop) (xv : Value) (s₁ : Shared) : Prop :=
  ∃ (D : Nat) (o : Obj) (its : Array Value) (led : Led) (m : Str → Option Value) (Good : Nat → (Str → Option Value) → Led → Prop), xv = .ref D ∧ A.handled = none ∧ AllBare s₁.gens ∧ Fr h₀ L s₁.heap m ∧ News h₀ L s₁.heap led ∧ Dist led ∧ s₁.heap.IsList D its ∧ (∀ (i : Nat) (v : Value), its[i]? = some v → ∃ T : Nat, v = Value.ref T) ∧
    (∀ i m led, Good i m led → (D, o) ∈ led) ∧ Good 0 m led ∧
    (∀ i v I oI m led h tk gens g (E' : Value → Shared → Prop), its[i]? = some v → Good i m led → AllBare gens → Fr h₀ L h m → News h₀ L h ((I, oI) :: led) → Dist ((I, oI) :: led) → s₁.toks ≤ tk →
      wpAny (model prog w) A (assign target env v) (fun _ s₂ => wpAny (model prog w) A (execs body env) (fun f s₃ => match f with
        | .next | .cont => TurnX h₀ L { s₁ with heap := g } I oI (Good (i + 1)) s₃
        | .ret v => Q (.ret v) s₃
        | .brk => False) E' s₂) E' { s₁ with heap := h, toks := tk, gens := gens }) ∧
    ∀ m led h tk gens, Good its.size m led → AllBare gens → Fr h₀ L h m → News h₀ L h led → s₁.toks ≤ tk → Q .next { s₁ with heap := h, toks := tk, gens := gens }
theorem forX {elts : List PySem.Expr} {x1} {pt : Pos} {iter : PySem.Expr} {body : List Stmt} {pos : Pos} {Q : Flow → Shared → Prop} (_F₀ : Fr h₀ L s.heap m)
    (h : wpAny (model prog w) A (eval iter env) (SrcX prog w A h₀ L env (.Tuple elts x1 pt) body Q) E s)
    (hs : ∀ x, foldedSetIterable iter env x = pure x := by intro _; rfl) :
    wpAny (model prog w) A (exec (.For (.Tuple elts x1 pt) iter body [] pos) env) Q E s := by
  refine wpAny_For (wpAny_mono h (fun v s₁ h₁ => ?_) fun _ _ e => e) hs
  obtain ⟨D, o, its, led, m, Good, rfl, hh, ab, F, N, dl, hl, href, hkp, hg, turn, fin⟩ := h₁
  have hlt := Heap.lt_size (N _ (hkp _ _ _ hg)).1
  refine wpAny_pyIter_list hl ?_
  have W := Walks.list (prog := prog) (w := w) hh s₁.heap.objs.size D (Nat.ne_of_lt hlt) its
  have hI₀ : h₀.get? s₁.heap.objs.size = none := next_is_new F
  have hIL : L ≠ s₁.heap.objs.size := Nat.ne_of_lt F.ns.lt
  generalize hI : s₁.heap.objs.size = I at *
  refine codeAny_forLoop_any (fun k s' => FX h₀ L s₁ I D its Good k s') ?_
    its.size ⟨0, _, _, s₁.gens, m, led, Nat.zero_le _, rfl, rfl, ab, ⟨⟨_, by rw [← hI]; exact Heap.get?_push_size _ rfl, rfl, rfl⟩, hl.push _⟩, F.keeps fun _ _ e => Heap.get?_push_of_some _ e, N.grown fun _ _ e => Heap.get?_push_of_some _ e, dl, fun p hp => by rw [← hI]; exact Nat.ne_of_lt (Heap.lt_size (N p hp).1), Nat.le_refl _, hg⟩
  rintro k s' ⟨i, h, tk, gens, m, led, hi, rfl, rfl, ab, st, F, N, dl, off, htk, hG⟩
  by_cases hi' : i < its.size
  · refine wpAny_with_toks (n := tk) (Nat.le_refl _) (W.item i _ _ _ hi' st fun v h' tk' hP st' sb hle => ?_)
    obtain ⟨oI, eI, rI⟩ := st'.1
    have sb' : ∀ b o, b ≠ I → h.get? b = some o → h'.get? b = some o := fun b o hb e => sb b o (fun q => hb (List.mem_singleton.mp q)) e
    have F' : Fr h₀ L h' m := ⟨F.ns.at' fun o e => sb' L o hIL e, fun b o e => sb' b o (fun q => by rw [q, hI₀] at e; cases e) (F.keep b o e), F.above⟩
    have N' : News h₀ L h' ((I, oI) :: led) := fun p hp => by
      rcases List.mem_cons.mp hp with rfl | hp
      · exact ⟨eI, Ne.symm hIL, hI₀⟩
      · exact ⟨sb' _ _ (off p hp) (N p hp).1, (N p hp).2⟩
    have htk' : s₁.toks ≤ tk' := Nat.le_trans htk hle
    obtain ⟨T, hT⟩ := href i v hP
    subst hT
    refine wpAny_letOwnedTupleGo_listiter st'.1 ?_
    refine wpAny_with_toks (n := s₁.toks) htk' (wpAny_mono (turn i (Value.ref T) I oI m led h' tk' gens s₁.heap _ hP hG ab F' N' (dist_cons off dl) htk') (fun _ s₂ h₂ htk₂ =>
      wpAny_with_toks (n := s₁.toks) htk₂ (wpAny_mono h₂ (fun f s₃ h₃ htk₃ => ?_) fun _ _ e => e)) fun _ _ e => e)
    have go : TurnX h₀ L { s₁ with heap := s₁.heap } I oI (Good (i + 1)) s₃ → ∃ k, k < its.size - i ∧ FX h₀ L s₁ I D its Good k s₃ := by
      rintro ⟨h4, tk4, gens4, m4, led4, rfl, ab4, F4, N4, d4, G4⟩
      refine ⟨its.size - (i + 1), sub_lt_sub hi', i + 1, h4, tk4, gens4, m4, led4, hi', rfl, rfl, ab4, ⟨⟨oI, (N4 _ List.mem_cons_self).1, rI⟩, ?_⟩, F4, fun p hp => N4 p (List.mem_cons_of_mem _ hp), dist_tail d4, dist_head d4, htk₃, G4⟩
      have z := (N' (D, o) (List.mem_cons_of_mem _ (hkp _ _ _ hG))).1
      have z4 := (N4 (D, o) (List.mem_cons_of_mem _ (hkp _ _ _ G4))).1
      exact Heap.IsList.at st'.2 fun o' e => by rw [z] at e; cases e; exact z4
    cases f with
    | next => exact go h₃
    | cont => exact go h₃
    | brk => exact h₃.elim
    | ret v => exact h₃
  · obtain rfl : i = its.size := Nat.le_antisymm hi (Nat.not_lt.mp hi')
    refine wpAny_with_toks (n := tk) (Nat.le_refl _) (W.done _ _ _ st fun h' tk' ext htk' => wpAny_execs_nil ?_)
    have ext' : ∀ b o, b ≠ I → h.get? b = some o → h'.get? b = some o := fun b o hb e => ext b o (fun q => hb (List.mem_singleton.mp q)) e
    refine fin m led h' tk' gens hG ab ?_ (fun p hp => ⟨ext' _ _ (off p hp) (N p hp).1, (N p hp).2⟩) (Nat.le_trans htk htk')
    exact ⟨F.ns.at' fun o e => ext' L o hIL e, fun b o e => ext' b o (fun q => by rw [q, hI₀] at e; cases e) (F.keep b o e), F.above⟩
end
theorem noneS9 : True := by
  k_with_none
  trivial
noncomputable abbrev menu : Str := Str.ofString "&<>\"\u000d\n\ta"
/-- the sign of a number -/
noncomputable def sgI (k : Int) : Nat := [38, 60, 62, 34, 13, 10, 9, 97].getD (k % 8).toNat 38
theorem fm8 (k : Int) : ∃ i, i < 8 ∧ Int.fmod k 8 = ((i : Nat) : Int) ∧ (k % 8).toNat = i := by
  have h1 := Int.emod_nonneg k (b := 8) (by decide)
  have h2 := Int.emod_lt_of_pos k (b := 8) (by decide)
  exact ⟨(k % 8).toNat, by omega, by rw [Int.fmod_eq_emod_of_nonneg _ (by decide)]; omega, rfl⟩
theorem menu_at : ∀ i, i < 8 → Txt.item menu ((i : Nat) : Int) = sg ([38, 60, 62, 34, 13, 10, 9, 97].getD i 38) := by decide +kernel
theorem menu_item (k : Int) : Txt.item menu (Int.fmod k 8) = sg (sgI k) := by
  obtain ⟨i, hi, e, e'⟩ := fm8 k
  unfold sgI
  rw [e, e']
  exact menu_at i hi
theorem menu_len : menu.length = 8 := by decide +kernel
open LCg in
theorem turnI0 {prog : Program} {w : World} {A : Around} {s : Shared} {h₀ : Heap} {L : Addr} {m : Str → Option Value} {env : Env} {elt : PySem.Expr} {y : Str} {scope : Scope} {cl : List (Str × Addr)} {news : Led} {vs : List Value} {ks : List Int} (hI : IntsAre vs ks) (out : Int → Str)
    (turn : ∀ k u ys I oI C oC D m₂ h tk (E' : Value → Shared → Prop), NsObj oC m₂ → m₂ y = some (.int k u) → Fr h₀ L h m → News h₀ L h ((I, oI) :: (C, oC) :: (D, lst ys) :: news) → Off3 I C D news → ((@Ne Nat I C) ∧ (@Ne Nat I D) ∧ (@Ne Nat C D)) → s.toks ≤ tk →
      wpAny (model prog w) A (eval elt (compEnvC scope cl C env)) (CompEnd h₀ L m { s with heap := h, toks := tk } I oI C oC D (lst ys) (fun _ => True) (EndV (out k) news)) E' { s with heap := h, toks := tk }) :
    TurnW prog w A h₀ L m env [] elt y scope cl s (fun i v => vs.toArray[i]? = some v) (fun _ => true) (fun i y => ∃ u, y = .str (out (ks[i]?.getD 0)) u) vs.toArray.size news := by
  intro i v ys I oI C oC D m₂ h tk E' hi hP hC hm F N off ne htk
  have hP' : vs[i]? = some v := by simpa using hP
  obtain ⟨k, u, rfl, hk⟩ := IntsAre.at hI i v hP'
  refine wpAny_tests_nil ?_
  simp only [if_true, hk, Option.getD_some, true_and]
  exact turn k u ys I oI C oC D m₂ h tk E' hC hm F N off ne htk
theorem SrcL.ints {prog : Program} {w : World} {A : Around} {s : Shared} {h₀ : Heap} {L : Addr} {m : Str → Option Value} {env : Env} {elt : PySem.Expr} {x : Str} {scope : Scope} {cl : List (Str × Addr)} {Q : Value → Shared → Prop} {news : Led} {D : Nat} {vs : List Value} {ks : List Int} {ep : Nat} {out : Int → Str}
    (hh : A.handled = none) (F : Fr h₀ L s.heap m) (N : News h₀ L s.heap ((D, listOf vs.toArray ep) :: news)) (hI : IntsAre vs ks) (hsz : ks.length ≤ 1000)
    (h : ∀ g, TurnW prog w A h₀ L m env [] elt x scope cl { s with heap := g } (fun i v => vs.toArray[i]? = some v) (fun _ => true) (fun i y => ∃ u, y = .str (out (ks[i]?.getD 0)) u) vs.toArray.size ((D, listOf vs.toArray ep) :: news))
    (hd : ∀ g, DoneW h₀ L m { s with heap := g } ((D, listOf vs.toArray ep) :: news) Q (MadeL (fun _ => true) (fun i y => ∃ u, y = .str (out (ks[i]?.getD 0)) u) ks.length 0)) :
    SrcL prog w A h₀ L m env [] elt x scope cl Q (.ref D) s := by
  have e : vs.toArray.size = ks.length := by rw [List.size_toArray]; exact IntsAre.length hI
  refine ⟨D, _, vs.toArray, _, _, _, rfl, hh, F, N, List.mem_cons_self, ⟨_, (N _ List.mem_cons_self).1, rfl, _, rfl⟩, by rw [e]; exact Nat.le_trans hsz (by decide), h, ?_⟩
  rw [e]
  exact hd
theorem made_ints {ks : List Int} {out : Int → Str} {ys : List Value} (h : MadeL (fun _ => true) (fun i y => ∃ u, y = .str (out (ks[i]?.getD 0)) u) ks.length 0 ys) : Strs (ks.map out) ys := by
  suffices hh : ∀ k i ys, k + i = ks.length → MadeL (fun _ => true) (fun i y => ∃ u, y = .str (out (ks[i]?.getD 0)) u) k i ys → Strs ((ks.drop i).map out) ys from by
    simpa using hh _ 0 ys (Nat.add_zero _) h
  intro k
  induction k with
  | zero =>
    intro i ys hk hm
    rw [List.drop_of_length_le (by omega)]
    obtain rfl : ys = [] := hm
    trivial
  | succ k ih =>
    intro i ys hk hm
    have hi : i < ks.length := by omega
    rw [List.drop_eq_getElem_cons hi]
    unfold MadeL at hm
    simp only [if_true, List.getElem?_eq_getElem hi, Option.getD_some] at hm
    obtain ⟨y, r, rfl, hO, hr⟩ := hm
    exact ⟨hO, ih (i + 1) r (by omega) hr⟩
/-- the text that the law makes -/
noncomputable def textOf (ns : List Int) : Str := ⟨((ns.take 8 ++ [1, 0, 4, 7, 2, 6, 3]).map sgI).toArray⟩
theorem text_join (ks : List Int) : Txt.join (Str.ofString "") (ks.map fun k => sg (sgI k)) = ⟨(ks.map sgI).toArray⟩ := by
  have := join_ones (ks.map sgI)
  rw [List.map_map] at this
  rw [← this, show (Str.ofString "" : Str) = ⟨#[]⟩ from by decide +kernel]
  exact StrLaws.glued_eq_join _ _
theorem join_text {prog : Program} {w : World} {A : Around} {E : Value → Shared → Prop} {s : Shared} {t : Tok} {Q : Value → Shared → Prop} {D : Addr} {ns : List Int} {ys : List Value} {h₀ : Heap} {L : Addr} {news : Led}
    (hM : MadeL (fun _ => true) (fun i y => ∃ u, y = .str (sg (sgI ((ns.take 8 ++ [1, 0, 4, 7, 2, 6, 3])[i]?.getD 0))) u) (ns.take 8 ++ [1, 0, 4, 7, 2, 6, 3]).length 0 ys) (N : News h₀ L s.heap ((D, LCg.lst ys) :: news))
    (hq : ∀ t' k, s.toks ≤ k → Q (.str (textOf ns) t') { s with toks := k }) : wpAny (model prog w) A (call (.builtin "str.join") [.str (Str.ofString "") t, .ref D]) Q E s := by
  refine wpAny_with_toks (n := s.toks) (Nat.le_refl _) (joinS (b := 1) (made_ints (out := fun k => sg (sgI k)) hM) N ?_ ?_ fun t9 k9 hk9 => ?_)
  · intro y hy
    obtain ⟨k, _, rfl⟩ := List.mem_map.mp hy
    exact (Nat.le_refl 1 : (sg (sgI k)).length ≤ 1)
  · rw [show (Str.ofString "" : Str).length = 0 from by decide +kernel, List.length_map, List.length_append, List.length_take]
    simp only [List.length_cons, List.length_nil]
    omega
  · rw [text_join]
    exact hq t9 k9 hk9
theorem text_size (ns : List Int) : (textOf ns).cps.size ≤ 15 := by
  show ((ns.take 8 ++ [1, 0, 4, 7, 2, 6, 3]).map sgI).toArray.size ≤ 15
  simp only [List.size_toArray, List.length_map, List.length_append, List.length_take, List.length_cons, List.length_nil]
  omega
theorem text_in (ns : List Int) : ∀ c ∈ (textOf ns).cps.toList, c ∈ [38, 60, 62, 34, 13, 10, 9, 97] := by
  intro c hc
  obtain ⟨k, _, rfl⟩ := List.mem_map.mp (show c ∈ (ns.take 8 ++ [1, 0, 4, 7, 2, 6, 3]).map sgI by simpa [textOf] using hc)
  obtain ⟨i, hi, _, e⟩ := fm8 k
  unfold sgI
  rw [e]
  revert hi i
  have : ∀ i, i < 8 → [38, 60, 62, 34, 13, 10, 9, 97].getD i 38 ∈ [38, 60, 62, 34, 13, 10, 9, 97] := by decide
  exact fun i hi _ _ => this i hi
theorem noneS10 : True := by
  k_with_none
  trivial
/-- the three defs and their signs -/
noncomputable def Deed (f : Nat) (sgs : Str) (cs : List Nat) : Prop :=
  (f = 28 ∧ sgs = Str.ofString "&<>" ∧ cs = [60, 62]) ∨ (f = 35 ∧ sgs = Str.ofString "&<>\"\u000d\n\t" ∧ cs = [60, 62, 34, 13, 10, 9]) ∨ (f = 42 ∧ sgs = Str.ofString "&>\"" ∧ cs = [62, 34])
noncomputable abbrev pairO (f : Nat) (sgs : Str) (t : Tok) : Obj := { cls := .type "tuple", data := .seq #[.ref f, .str sgs t] 0 }
/-- where a turn of the law ends -/
noncomputable def TurnL (h₀ : Heap) (L : Nat) (s : Shared) (tx : Str) (tt : Tok) (l : Nat) (T c : Nat) (oT : Obj) (tl : Led) (s₃ : Shared) : Prop :=
  ∃ h tk gens m co cv, s₃ = { s with heap := h, toks := tk, gens := gens } ∧ AllBare gens ∧ Fr h₀ L h m ∧ News h₀ L h ((T, oT) :: (c, co) :: tl) ∧ co.data = .cell cv ∧ m (Str.ofString "text") = some (.str tx tt) ∧ m (Str.ofString "script") = some (.ref l)
theorem SrcX.law {prog : Program} {w : World} {A : Around} {s : Shared} {h₀ : Heap} {L : Nat} {m : Str → Option Value} {env : Env} {target : PySem.Expr} {body : List Stmt} {Q : Flow → Shared → Prop} {D T1 T2 T3 c l : Nat} {co : Obj} {cv : Option Value} {u1 u2 u3 tt : Tok} {tx : Str}
    (hh : A.handled = none) (ab : AllBare s.gens) (F : Fr h₀ L s.heap m) (N : News h₀ L s.heap [(D, listOf #[.ref T1, .ref T2, .ref T3] 0), (T3, pairO 42 (Str.ofString "&>\"") u3), (T2, pairO 35 (Str.ofString "&<>\"\u000d\n\t") u2), (T1, pairO 28 (Str.ofString "&<>") u1), (c, co)])
    (hco : co.data = .cell cv) (htx : m (Str.ofString "text") = some (.str tx tt)) (hsc : m (Str.ofString "script") = some (.ref l)) (l1 : c < T1) (l2 : T1 < T2) (l3 : T2 < T3) (l4 : T3 < D) (ht : 0 < s.toks)
    (turn : ∀ T f sgs cs t m co cv tl h tk gens g (E' : Value → Shared → Prop), Deed f sgs cs → AllBare gens → Fr h₀ L h m → News h₀ L h ((T, pairO f sgs t) :: (c, co) :: tl) → Dist ((T, pairO f sgs t) :: (c, co) :: tl) → co.data = .cell cv → m (Str.ofString "text") = some (.str tx tt) → m (Str.ofString "script") = some (.ref l) → 0 < tk →
      wpAny (model prog w) A (assign target env (.ref T)) (fun _ s₂ => wpAny (model prog w) A (execs body env) (fun f' s₃ => match f' with
        | .next | .cont => TurnL h₀ L { s with heap := g } tx tt l T c (pairO f sgs t) tl s₃
        | .ret v => Q (.ret v) s₃
        | .brk => False) E' s₂) E' { s with heap := h, toks := tk, gens := gens })
    (fin : ∀ m h tk gens led, AllBare gens → Fr h₀ L h m → News h₀ L h led → Q .next { s with heap := h, toks := tk, gens := gens }) :
    SrcX prog w A h₀ L env target body Q (.ref D) s := by
  refine ⟨D, listOf #[.ref T1, .ref T2, .ref T3] 0, #[.ref T1, .ref T2, .ref T3], [(D, listOf #[.ref T1, .ref T2, .ref T3] 0), (T3, pairO 42 (Str.ofString "&>\"") u3), (T2, pairO 35 (Str.ofString "&<>\"\u000d\n\t") u2), (T1, pairO 28 (Str.ofString "&<>") u1), (c, co)], m, fun _ m led => m (Str.ofString "text") = some (.str tx tt) ∧ m (Str.ofString "script") = some (.ref l) ∧ ∃ co cv, co.data = .cell cv ∧ led = [(D, listOf #[.ref T1, .ref T2, .ref T3] 0), (T3, pairO 42 (Str.ofString "&>\"") u3), (T2, pairO 35 (Str.ofString "&<>\"\u000d\n\t") u2), (T1, pairO 28 (Str.ofString "&<>") u1), (c, co)],
    rfl, hh, ab, F, N, ?_, ⟨_, (N _ List.mem_cons_self).1, rfl, _, rfl⟩, ?_, ?_, ⟨htx, hsc, co, cv, hco, rfl⟩, ?_, ?_⟩
  · have lt : ∀ {a : Nat} {o : Obj} {l : Led}, (∀ p ∈ l, p.1 < a) → Dist l → Dist ((a, o) :: l) := fun h d => dist_cons (fun p hp => Nat.ne_of_lt (h p hp)) d
    refine lt (fun p hp => ?_) (lt (fun p hp => ?_) (lt (fun p hp => ?_) (lt (fun p hp => ?_) (lt (fun p hp => nomatch hp) dist_nil))))
    all_goals
      simp only [List.mem_cons, List.not_mem_nil, or_false] at hp
    · rcases hp with rfl | rfl | rfl | rfl
      · exact l4
      · exact Nat.lt_trans l3 l4
      · exact Nat.lt_trans l2 (Nat.lt_trans l3 l4)
      · exact Nat.lt_trans l1 (Nat.lt_trans l2 (Nat.lt_trans l3 l4))
    · rcases hp with rfl | rfl | rfl
      · exact l3
      · exact Nat.lt_trans l2 l3
      · exact Nat.lt_trans l1 (Nat.lt_trans l2 l3)
    · rcases hp with rfl | rfl
      · exact l2
      · exact Nat.lt_trans l1 l2
    · rw [hp]; exact l1
  · intro i v e
    match i, e with
    | 0, e => exact ⟨T1, by simpa using e.symm⟩
    | 1, e => exact ⟨T2, by simpa using e.symm⟩
    | 2, e => exact ⟨T3, by simpa using e.symm⟩
    | n + 3, e => simp at e
  · rintro i m led ⟨_, _, co, cv, _, rfl⟩
    exact List.mem_cons_self
  · rintro i v I oI m led h tk gens g E' hv ⟨h1, h2, co, cv, hcv, rfl⟩ ab' F' N' d' htk
    have ht' : 0 < tk := Nat.lt_of_lt_of_le ht htk
    have key : ∀ T f sgs cs u tl, v = .ref T → Deed f sgs cs → (∀ co, ((I, oI) :: [(D, listOf #[.ref T1, .ref T2, .ref T3] 0), (T3, pairO 42 (Str.ofString "&>\"") u3), (T2, pairO 35 (Str.ofString "&<>\"\u000d\n\t") u2), (T1, pairO 28 (Str.ofString "&<>") u1), (c, co)]).Perm ((T, pairO f sgs u) :: (c, co) :: tl)) →
        wpAny (model prog w) A (assign target env v) (fun _ s₂ => wpAny (model prog w) A (execs body env) (fun f s₃ => match f with
        | .next | .cont => TurnX h₀ L { s with heap := g } I oI (fun m led => m (Str.ofString "text") = some (.str tx tt) ∧ m (Str.ofString "script") = some (.ref l) ∧ ∃ co cv, co.data = .cell cv ∧ led = [(D, listOf #[.ref T1, .ref T2, .ref T3] 0), (T3, pairO 42 (Str.ofString "&>\"") u3), (T2, pairO 35 (Str.ofString "&<>\"\u000d\n\t") u2), (T1, pairO 28 (Str.ofString "&<>") u1), (c, co)]) s₃
        | .ret v => Q (.ret v) s₃
        | .brk => False) E' s₂) E' { s with heap := h, toks := tk, gens := gens } := by
      rintro T f sgs cs u tl rfl hd hp
      refine wpAny_mono (turn T f sgs cs u m co cv tl h tk gens g E' hd ab' F' (News.perm N' (hp co)) (d'.perm (hp co)) hcv h1 h2 ht') (fun _ s₂ h₂ => wpAny_mono h₂ (fun f' s₃ h₃ => ?_) fun _ _ e => e) fun _ _ e => e
      have go : TurnL h₀ L { s with heap := g } tx tt l T c (pairO f sgs u) tl s₃ → TurnX h₀ L { s with heap := g } I oI (fun m led => m (Str.ofString "text") = some (.str tx tt) ∧ m (Str.ofString "script") = some (.ref l) ∧ ∃ co cv, co.data = .cell cv ∧ led = [(D, listOf #[.ref T1, .ref T2, .ref T3] 0), (T3, pairO 42 (Str.ofString "&>\"") u3), (T2, pairO 35 (Str.ofString "&<>\"\u000d\n\t") u2), (T1, pairO 28 (Str.ofString "&<>") u1), (c, co)]) s₃ := by
        rintro ⟨h4, tk4, gens4, m4, co4, cv4, rfl, ab4, F4, N4, hc4, a1, a2⟩
        exact ⟨h4, tk4, gens4, m4, _, rfl, ab4, F4, News.perm N4 (hp co4).symm, d', a1, a2, co4, cv4, hc4, rfl⟩
      cases f' with
      | next => exact go h₃
      | cont => exact go h₃
      | brk => exact h₃
      | ret v => exact h₃
    match i, hv with
    | 0, e => exact key T1 28 _ _ u1 [(I, oI), (D, listOf #[.ref T1, .ref T2, .ref T3] 0), (T3, pairO 42 (Str.ofString "&>\"") u3), (T2, pairO 35 (Str.ofString "&<>\"\u000d\n\t") u2)] (by simpa using e.symm) (.inl ⟨rfl, rfl, rfl⟩) fun co => List.perm_append_comm (l₁ := [(I, oI), (D, _), (T3, _), (T2, _)]) (l₂ := [(T1, _), (c, co)])
    | 1, e => exact key T2 35 _ _ u2 [(I, oI), (D, listOf #[.ref T1, .ref T2, .ref T3] 0), (T3, pairO 42 (Str.ofString "&>\"") u3), (T1, pairO 28 (Str.ofString "&<>") u1)] (by simpa using e.symm) (.inr (.inl ⟨rfl, rfl, rfl⟩)) fun co => (List.perm_middle (l₁ := [(I, oI), (D, _), (T3, _)]) (l₂ := [(T1, _), (c, co)])).trans (List.Perm.cons _ (List.perm_append_comm (l₁ := [(I, oI), (D, _), (T3, _), (T1, _)]) (l₂ := [(c, co)])))
    | 2, e => exact key T3 42 _ _ u3 [(I, oI), (D, listOf #[.ref T1, .ref T2, .ref T3] 0), (T2, pairO 35 (Str.ofString "&<>\"\u000d\n\t") u2), (T1, pairO 28 (Str.ofString "&<>") u1)] (by simpa using e.symm) (.inr (.inr ⟨rfl, rfl, rfl⟩)) fun co => (List.perm_middle (l₁ := [(I, oI), (D, _)]) (l₂ := [(T2, _), (T1, _), (c, co)])).trans (List.Perm.cons _ (List.perm_append_comm (l₁ := [(I, oI), (D, _), (T2, _), (T1, _)]) (l₂ := [(c, co)])))
    | n + 3, e => simp at e
  · rintro m led h tk gens _ ab' F' N' _
    exact fin m h tk gens led ab' F' N'
theorem noneP1 : True := by
  k_with_none
  trivial
section
variable {w : World} {A₀ : Around} {s : Shared} {base h₀ : Heap} {outer : List Env} {L : Addr} {m : Str → Option Value} {env : Env} {rest : Led}
  {R : Result → Shared → Prop} {mean : ExcName → Option Value} {mg mb : Str → Option Value} {d u : Nat} {g : Option (List Code)} {t1 : Tok} {text : Str}
theorem deed_c {f : Nat} {sgs : Str} {cs : List Nat} (hD : Deed f sgs cs)
  (B : Below A₀ base outer h₀) (F : Fr h₀ L s.heap m) (X₀ : (hd.heap_39 w.params).In h₀) (T : Tp mean mg mb h₀)
  (hf : env.frame = some L) (hke : env.scope.kind = .function) (hroom : d + 40 < 1000) (N : News h₀ L s.heap rest) (ht0 : 0 < s.toks) (htx : text.cps.size ≤ 90)
  (k : ∀ h' tk' t', s.toks ≤ tk' → Fr h₀ L h' m → News h₀ L h' rest → R (.ok (.ret (.str (byT (38 :: cs) text) t'))) { s with heap := h', toks := tk' }) :
  codeAny (model PySem.Challenge.rw_mr0322_01.row.prog w) (Ar d env outer g u) (.call (.ref f) ⟨[.str text t1], []⟩) R s := by
  rcases hD with ⟨rfl, _, rfl⟩ | ⟨rfl, _, rfl⟩ | ⟨rfl, _, rfl⟩
  · exact esc_1 B F X₀ T hf hke hroom N ht0 htx k
  · exact esc_2 B F X₀ T hf hke hroom N ht0 htx k
  · exact esc_3 B F X₀ T hf hke hroom N ht0 htx k
end
theorem deed_cps {f : Nat} {sgs : Str} {cs : List Nat} (hD : Deed f sgs cs) : sgs.cps.toList = 38 :: cs ∧ (∀ c ∈ cs, c ∈ sg7 ∧ c ≠ 38) ∧ (38 :: cs).Nodup ∧ (cs.length = 2 ∨ cs.length = 6) := by
  rcases hD with ⟨rfl, rfl, rfl⟩ | ⟨rfl, rfl, rfl⟩ | ⟨rfl, rfl, rfl⟩
  · exact ⟨by decide +kernel, by decide, by decide, by decide⟩
  · exact ⟨by decide +kernel, by decide, by decide, by decide⟩
  · exact ⟨by decide +kernel, by decide, by decide, by decide⟩
theorem str_ext {x y : Str} (h : x.cps.toList = y.cps.toList) : x = y := by
  cases x; cases y
  congr 1
  exact Array.toList_inj.mp h
theorem byT_hom : ∀ (cs : List Nat) (text : Str), (byT cs text).cps.toList = text.cps.toList.flatMap fun a => (byT cs (sg a)).cps.toList := by
  intro cs
  induction cs with
  | nil =>
    intro text
    show text.cps.toList = text.cps.toList.flatMap fun a => [a]
    simp
  | cons c r ih =>
    intro text
    show (byT r (Txt.replace text (sg c) (nmS c))).cps.toList = text.cps.toList.flatMap fun a => (byT r (Txt.replace (sg a) (sg c) (nmS c))).cps.toList
    rw [ih, rep_flat, List.flatMap_assoc]
    congr 1
    funext a
    rw [ih (Txt.replace (sg a) (sg c) (nmS c)), rep_flat]
    show _ = ([a].flatMap _).flatMap _
    simp
theorem join_flat : ∀ l : List Str, (Txt.join (Str.ofString "") l).cps.toList = l.flatMap fun x => x.cps.toList := by
  intro l
  rw [show Txt.join (Str.ofString "") l = Str.join ⟨#[]⟩ l from by rw [show (Str.ofString "" : Str) = ⟨#[]⟩ from by decide +kernel]; exact StrLaws.glued_eq_join _ _]
  induction l with
  | nil => rfl
  | cons x r ih =>
    rw [join_nil_cons, List.flatMap_cons, ← ih]
    show (x.cps ++ _).toList = _
    rw [Array.toList_append]
/-- a sign written at once, by lists -/
noncomputable def onL (S H : List Nat) (a : Nat) : Str := if a ∈ S then (if a ∈ H then amS a else nmS a) else sg a
theorem onT_flat (signs ahead text : Str) : (onT signs ahead text).cps.toList = text.cps.toList.flatMap fun a => (onL signs.cps.toList ahead.cps.toList a).cps.toList := by
  unfold onT
  rw [join_flat, List.flatMap_map]
  rfl
theorem flat_congr {f g : Nat → List Nat} {l : List Nat} (h : ∀ a ∈ l, f a = g a) : l.flatMap f = l.flatMap g := by
  induction l with
  | nil => rfl
  | cons a r ih => rw [List.flatMap_cons, List.flatMap_cons, h a List.mem_cons_self, ih fun b hb => h b (List.mem_cons_of_mem _ hb)]
/-- at once, with nothing ahead, is what the rules in their order tell -/
theorem law_once {f : Nat} {sgs : Str} {cs : List Nat} (hD : Deed f sgs cs) (text : Str) : onT sgs (Str.ofString "") text = byT (38 :: cs) text := by
  obtain ⟨e, h7, _, _⟩ := deed_cps hD
  refine str_ext ?_
  rw [onT_flat, byT_flat h7, e, show (Str.ofString "" : Str).cps.toList = [] from by decide +kernel]
  refine flat_congr fun a _ => ?_
  unfold onL nmL
  split
  · rw [if_neg (by simp)]
  · rfl
/-- the rules in the turned order -/
noncomputable def rot (S : List Nat) (k : Nat) : List Nat := S.drop k ++ S.take k
noncomputable def ahd (S : List Nat) (k : Nat) : List Nat := if k = 0 then [] else S.drop k
theorem turn_signs {f : Nat} {sgs : Str} {cs : List Nat} (hD : Deed f sgs cs) : ∀ k, k < (38 :: cs).length → ∀ a ∈ [38, 60, 62, 34, 13, 10, 9, 97], (byT (rot (38 :: cs) k) (sg a)).cps.toList = (onL (38 :: cs) (ahd (38 :: cs) k) a).cps.toList := by
  rcases hD with ⟨_, _, rfl⟩ | ⟨_, _, rfl⟩ | ⟨_, _, rfl⟩ <;> decide +kernel
theorem law_turn {f : Nat} {sgs turned ahead : Str} {cs : List Nat} {k : Nat} (hD : Deed f sgs cs) (hk : k < (38 :: cs).length) {text : Str} (htx : ∀ c ∈ text.cps.toList, c ∈ [38, 60, 62, 34, 13, 10, 9, 97])
    (h1 : turned.cps.toList = rot (38 :: cs) k) (h2 : ahead.cps.toList = ahd (38 :: cs) k) : onT sgs ahead text = byT turned.cps.toList text := by
  obtain ⟨e, _, _, _⟩ := deed_cps hD
  refine str_ext ?_
  rw [onT_flat, byT_hom, e, h1, h2]
  exact flat_congr fun a ha => (turn_signs hD k hk a (htx a ha)).symm
theorem noneP2 : True := by
  k_with_none
  trivial
theorem am_more {c : Nat} (hc : c ∈ sg7) : (nmS c).cps.toList.length < (amS c).cps.toList.length := sg_cases hc (P := fun c => (nmS c).cps.toList.length < (amS c).cps.toList.length) (by decide +kernel) (by decide +kernel) (by decide +kernel) (by decide +kernel) (by decide +kernel) (by decide +kernel) (by decide +kernel)
theorem flat_le {f g : Nat → List Nat} {l : List Nat} (h : ∀ a, (f a).length ≤ (g a).length) : (l.flatMap f).length ≤ (l.flatMap g).length := by
  induction l with
  | nil => exact Nat.le_refl _
  | cons a r ih => rw [List.flatMap_cons, List.flatMap_cons, List.length_append, List.length_append]; exact Nat.add_le_add (h a) ih
theorem flat_lt {f g : Nat → List Nat} {l : List Nat} {b : Nat} (h : ∀ a, (f a).length ≤ (g a).length) (hb : b ∈ l) (hlt : (f b).length < (g b).length) : (l.flatMap f).length < (l.flatMap g).length := by
  induction l with
  | nil => nomatch hb
  | cons a r ih =>
    rw [List.flatMap_cons, List.flatMap_cons, List.length_append, List.length_append]
    rcases List.mem_cons.mp hb with rfl | hb
    · exact Nat.add_lt_add_of_lt_of_le hlt (flat_le h)
    · exact Nat.add_lt_add_of_le_of_lt (h a) (ih hb)
/-- what comes by the turned rules is what the def tells just where no sign of the text stands ahead -/
theorem once_iff {S H : List Nat} {text : List Nat} (hS : ∀ c ∈ S, c ∈ sg7) (hH : ∀ c ∈ H, c ∈ S) :
    (text.flatMap (fun a => (onL S H a).cps.toList) = text.flatMap fun a => (onL S [] a).cps.toList) ↔ ∀ a ∈ text, a ∉ H := by
  have lt : ∀ a, a ∈ H → (onL S [] a).cps.toList.length < (onL S H a).cps.toList.length := fun a ha => by
    unfold onL
    rw [if_pos (hH a ha), if_pos (hH a ha), if_pos ha, if_neg (by simp)]
    exact am_more (hS a (hH a ha))
  have eq : ∀ a, a ∉ H → onL S [] a = onL S H a := fun a ha => by
    unfold onL
    simp [ha]
  have le : ∀ a, (onL S [] a).cps.toList.length ≤ (onL S H a).cps.toList.length := fun a => by
    by_cases ha : a ∈ H
    · exact Nat.le_of_lt (lt a ha)
    · rw [eq a ha]; exact Nat.le_refl _
  constructor
  · intro h a ha hH'
    have := flat_lt (l := text) le ha (lt a hH')
    rw [h] at this
    exact absurd this (Nat.lt_irrefl _)
  · intro h
    exact flat_congr fun a ha => by rw [eq a (h a ha)]
theorem ahd_sub {S : List Nat} {k : Nat} : ∀ c ∈ ahd S k, c ∈ S := fun c hc => by
  unfold ahd at hc
  split at hc
  · nomatch hc
  · exact List.mem_of_mem_drop hc
theorem law_differs {f : Nat} {sgs turned ahead : Str} {cs : List Nat} {k : Nat} (hD : Deed f sgs cs) (hk : k < (38 :: cs).length) {text : Str} (htx : ∀ c ∈ text.cps.toList, c ∈ [38, 60, 62, 34, 13, 10, 9, 97])
    (h1 : turned.cps.toList = rot (38 :: cs) k) (h2 : ahead.cps.toList = ahd (38 :: cs) k) :
    ((byT turned.cps.toList text).cps.toList == (byT (38 :: cs) text).cps.toList) = ((text.cps.toList.filter fun c => decide (c ∈ ahead.cps.toList)).isEmpty) := by
  obtain ⟨e, h7, _, _⟩ := deed_cps hD
  rw [← law_turn hD hk htx h1 h2, ← law_once hD text, onT_flat, onT_flat, e, h2, show (Str.ofString "" : Str).cps.toList = [] from by decide +kernel]
  have hS : ∀ c ∈ 38 :: cs, c ∈ sg7 := fun c hc => by
    rcases List.mem_cons.mp hc with rfl | hc
    · decide
    · exact (h7 c hc).1
  have hi := once_iff (text := text.cps.toList) hS (ahd_sub (S := 38 :: cs) (k := k))
  rw [Bool.eq_iff_iff, beq_iff_eq, hi, List.isEmpty_iff, List.filter_eq_nil_iff]
  simp only [decide_eq_true_eq]
theorem noneS11 : True := by
  k_with_none
  trivial
theorem strs_are : ∀ {xs : List Str} {ys : List Value}, Strs xs ys → StrsAre ys xs := by
  intro xs
  induction xs with
  | nil => intro ys h; rw [strs_nil h]; exact .nil
  | cons x r ih => intro ys h; obtain ⟨u, q, rfl, hr⟩ := strs_cons h; exact .cons x u (ih hr)
theorem are_dat (n : Led) : ∀ {ys : List Value} {xs : List Str}, StrsAre ys xs → DatAll n ys (xs.map .str)
  | _, _, .nil => .nil
  | _, _, .cons x t h => .cons (.str x t) (are_dat n h)
theorem are_at : ∀ (vs : List Value) (cs : List Nat), vs.length = cs.length → (∀ (j : Nat) v, vs[j]? = some v → ∃ c u, cs[j]? = some c ∧ v = .str (sg c) u) → StrsAre vs (cs.map sg)
  | [], [], _, _ => .nil
  | [], _ :: _, h, _ => nomatch h
  | _ :: _, [], h, _ => nomatch h
  | v :: vs, c :: cs, h, k => by
    obtain ⟨c', u, e, e'⟩ := k 0 v rfl
    cases e
    subst e'
    exact .cons _ u (are_at vs cs (by simpa using h) fun j v hj => k (j + 1) v hj)
section
variable {prog : Program} {w : World} {A : Around} {E : Value → Shared → Prop} {s : Shared} {h₀ : Heap} {L : Addr} {m : Str → Option Value} {news : Led} {Q : Value → Shared → Prop}
theorem sorted_s {x : Str} {t : Tok} (hh : A.handled = none) (F : Fr h₀ L s.heap m) (N : News h₀ L s.heap news) (hz : x.cps.size < 64)
    (h : ∀ (D : Nat) (h' : Heap) (tk : Nat) (vs' : List Value) (ss' : List Str) (e : Nat), Fr h₀ L h' m → News h₀ L h' ((D, listOf vs'.toArray e) :: news) → (∀ p ∈ news, p.1 ≠ D) →
      StrsAre vs' ss' → ss'.Perm (x.cps.toList.map sg) → sortedS ss' = true → Q (.ref D) { s with heap := h', toks := tk }) :
    wpAny (model prog w) A (call (.builtin "sorted") [.str x t]) Q E s := by
  refine Calls.call_function_entry kind_sorted plain_sorted entry_sorted (args_sorted1 _) ?_
  unfold Builtin.«sorted»
  refine wpAny_bind (m := checkCount "sorted" 1 1 _) (wpAny_pure ?_)
  refine wpAny_bind (wpAny_collect_str (by exact hh) x t (fun s' acc hk hg hd ho hI => ?_) (Nat.le_trans (Nat.le_of_lt hz) (by decide)))
  have hS : StrsAre acc.toList (x.cps.toList.map sg) := by
    refine are_at _ _ (by rw [Array.length_toList, Array.length_toList, hI.1]) fun j v hj => ?_
    obtain ⟨c, u, hc, e⟩ := hI.2 j v (by simpa using hj)
    exact ⟨c, u, by simpa using hc, e⟩
  have h64 : acc.toList.length < 64 := by rw [Array.length_toList, hI.1]; exact hz
  refine wpAny_bind (wpAny_newList ?_)
  have hoL : (s'.heap.push (seqObj "list" acc.toList.toArray 0)).get? s'.heap.objs.size = some (seqObj "list" acc.toList.toArray 0) := Heap.get?_push_size _ rfl
  have hlt : ∀ b o, s.heap.get? b = some o → b < s'.heap.objs.size := fun b o e => Heap.lt_size (hk b o e)
  refine wpAny_bind (wpAny_holding (wpAny_call_entry slot_list_sort ⟨_, hoL, rfl⟩ entry_list_sort (list_sort_treeK strKind_oneLt hoL hS.keysOf (fun v₁ v₂ rest e => keyKind_strs (by rw [← e]; exact hS)) h64 fun st' a1 a2 => ⟨_, rfl, ?_⟩) (args_list_sort _)))
  refine wpAny_pure ⟨_, rfl, ?_⟩
  obtain ⟨ss', b1, b2, b3⟩ := sorted_out_str hS a1 a2
  obtain ⟨e, he⟩ := sortedHeap_at (out := (arrOf st').map (·.2)) hoL
  have old : ∀ b o, s.heap.get? b = some o → (sortedHeap (s'.heap.push (seqObj "list" acc.toList.toArray 0)) s'.heap.objs.size acc.toList ((arrOf st').map (fun p : Keyed => p.2))).get? b = some o := fun b o q => by
    rw [sortedHeap_old (Nat.ne_of_lt (hlt b o q)) (by rw [size_push']; exact Nat.lt_succ_of_lt (hlt b o q)), Heap.get?_push_ne _ _ _ (Nat.ne_of_lt (hlt b o q))]
    exact hk b o q
  have es : { s' with heap := sortedHeap (s'.heap.push (seqObj "list" acc.toList.toArray 0)) s'.heap.objs.size acc.toList ((arrOf st').map (fun p : Keyed => p.2)) } = { s with heap := sortedHeap (s'.heap.push (seqObj "list" acc.toList.toArray 0)) s'.heap.objs.size acc.toList ((arrOf st').map (fun p : Keyed => p.2)), toks := s'.toks } := by
    cases s'; cases s; simp_all
  have hn0 : h₀.get? s'.heap.objs.size = none := by
    cases q : h₀.get? s'.heap.objs.size with
    | none => rfl
    | some o' => exact absurd (hlt _ _ (F.keep _ _ q)) (Nat.lt_irrefl _)
  have := h s'.heap.objs.size (sortedHeap (s'.heap.push (seqObj "list" acc.toList.toArray 0)) s'.heap.objs.size acc.toList ((arrOf st').map (fun p : Keyed => p.2))) s'.toks ((arrOf st').map (fun p : Keyed => p.2)).toList ss' e (F.keeps old) (fun p hp => ?_) (fun p hp => Nat.ne_of_lt (hlt _ _ (N p hp).1)) b1 b2 b3
  · rw [← es] at this
    exact this
  · rcases List.mem_cons.mp hp with rfl | hp
    · obtain ⟨oL, _, _, hL, _⟩ := F.ns
      exact ⟨he, Nat.ne_of_gt (hlt _ _ hL), hn0⟩
    · exact ⟨old _ _ (N p hp).1, (N p hp).2⟩
end
theorem noneS12 : True := by
  k_with_none
  trivial
theorem sorted_codes {ss : List Str} {cs : List Nat} (hp : ss.Perm (cs.map sg)) (hs : sortedS ss = true) : ∃ l : List Nat, ss = l.map sg ∧ l.Perm cs ∧ l.Pairwise (· ≤ ·) := by
  have e : ss = (ss.map fun x => x.cps.toList.headD 0).map sg := by
    rw [List.map_map]
    refine (List.map_id _).symm.trans (List.map_congr_left fun x hx => ?_)
    obtain ⟨c, _, rfl⟩ := List.mem_map.mp (hp.mem_iff.mp hx)
    rfl
  refine ⟨ss.map fun x => x.cps.toList.headD 0, e, ?_, ?_⟩
  · have := hp.map fun x => x.cps.toList.headD 0
    rw [List.map_map] at this
    exact this.trans (List.Perm.of_eq ((List.map_congr_left fun c _ => rfl).trans (List.map_id _)))
  · rw [e] at hs
    generalize (ss.map fun x => x.cps.toList.headD 0) = l at hs
    have rise : ∀ (l : List Nat) (p : Nat), risingS (sg p) (l.map sg) = true → (p :: l).Pairwise (· ≤ ·) := by
      intro l
      induction l with
      | nil => intro p _; exact List.pairwise_singleton _ _
      | cons x r ih =>
        intro p h
        have h' : (!PySem.Spec.ltCps (sg x).cps.toList (sg p).cps.toList && risingS (sg x) (r.map sg)) = true := h
        rw [Bool.and_eq_true] at h'
        have i := ih x h'.2
        have le : p ≤ x := by
          have hz := h'.1
          rw [ltCps_eq] at hz
          refine Nat.le_of_not_lt fun q => ?_
          have : [x] < [p] := List.Lex.rel q
          have e2 : decide ((sg x).cps.toList < (sg p).cps.toList) = true := decide_eq_true this
          rw [e2] at hz
          cases hz
        refine List.pairwise_cons.mpr ⟨fun y hy => ?_, i⟩
        rcases List.mem_cons.mp hy with rfl | hy
        · exact le
        · exact Nat.le_trans le ((List.pairwise_cons.mp i).1 y hy)
    cases l with
    | nil => exact List.Pairwise.nil
    | cons x r => exact rise r x hs
theorem sorted_same {s1 s2 : List Str} {cs : List Nat} (p1 : s1.Perm (cs.map sg)) (q1 : sortedS s1 = true) (p2 : s2.Perm (cs.map sg)) (q2 : sortedS s2 = true) : s1 = s2 := by
  obtain ⟨l1, rfl, a1, b1⟩ := sorted_codes p1 q1
  obtain ⟨l2, rfl, a2, b2⟩ := sorted_codes p2 q2
  rw [(a1.trans a2.symm).eq_of_pairwise (fun a b _ _ h1 h2 => Nat.le_antisymm h1 h2) b1 b2]
section
variable {prog : Program} {w : World} {A : Around} {E : Value → Shared → Prop} {s : Shared} {h₀ : Heap} {L : Addr} {m : Str → Option Value} {news : Led} {Q : Value → Shared → Prop}
theorem sorted_l {O : Nat} {ys : List Value} {ss : List Str} (F : Fr h₀ L s.heap m) (N : News h₀ L s.heap news) (hm : (O, LCg.lst ys) ∈ news) (hS : StrsAre ys ss) (h64 : ys.length < 64)
    (h : ∀ (D : Nat) (h' : Heap) (vs' : List Value) (ss' : List Str) (e : Nat), Fr h₀ L h' m → News h₀ L h' ((D, listOf vs'.toArray e) :: news) → (∀ p ∈ news, p.1 ≠ D) → StrsAre vs' ss' → ss'.Perm ss → sortedS ss' = true → Q (.ref D) { s with heap := h' }) :
    wpAny (model prog w) A (call (.builtin "sorted") [.ref O]) Q E s :=
  sorted_N_str F N ⟨_, (N _ hm).1, rfl, _, rfl⟩ hS h64 fun h' vs' ss' e F' N' a b c => h _ h' vs' ss' e F' N' (fun p hp => Nat.ne_of_lt (Nat.lt_succ_of_lt (Heap.lt_size (N p hp).1))) a b c
theorem sg_okay {ss : List Str} {cs : List Nat} (hp : ss.Perm (cs.map sg)) (hc : ∀ c ∈ cs, PyData.strOk (sg c) = true) : ∀ d ∈ ss.map Dat.str, kqdOk 8 d = true := by
  intro d hd
  obtain ⟨x, hx, rfl⟩ := List.mem_map.mp hd
  obtain ⟨c, hc', rfl⟩ := List.mem_map.mp (hp.mem_iff.mp hx)
  exact hc c hc'
/-- two sorted lists of the same signs -/
theorem ne_sorted {a b ka kb : Nat} {xs ys : List Value} {s1 s2 : List Str} {cs : List Nat} (N : News h₀ L s.heap ((b, listOf ys.toArray kb) :: (a, listOf xs.toArray ka) :: news)) (h1 : StrsAre xs s1) (h2 : StrsAre ys s2) (p1 : s1.Perm (cs.map sg)) (q1 : sortedS s1 = true) (p2 : s2.Perm (cs.map sg)) (q2 : sortedS s2 = true)
    (hc : ∀ c ∈ cs, PyData.strOk (sg c) = true) (hu : A.units + 64 < cLine) (h : Q (.bool false) s) : wpAny (model prog w) A (compareOp .NotEq (.ref a) (.ref b)) Q E s := by
  refine kqd_ne N (.tail _ (.head _)) rfl rfl (are_dat [] h1) (fun _ h => nomatch h) (.head _) rfl rfl (are_dat [] h2) (fun _ h => nomatch h) (sg_okay p1 hc) (sg_okay p2 hc) hu ?_
  rw [sorted_same p1 q1 p2 q2]
  simpa using h
/-- a list of strs against the empty list -/
theorem eq_empty {a b ka kb : Nat} {xs : List Value} {ss : List Str} (N : News h₀ L s.heap news) (ha : (a, listOf xs.toArray ka) ∈ news) (hb : (b, listOf #[] kb) ∈ news) (h1 : StrsAre xs ss) (hok : ∀ x ∈ ss, PyData.strOk x = true) (hu : A.units + 64 < cLine)
    (h : Q (.bool ss.isEmpty) s) : wpAny (model prog w) A (compareOp .Eq (.ref a) (.ref b)) Q E s := by
  refine kqd_eq (ys := []) N ha rfl rfl (are_dat [] h1) (fun _ h => nomatch h) hb rfl rfl (DatAll.nil (news := [])) (fun _ h => nomatch h) (fun d hd => ?_) (fun _ h => nomatch h) hu ?_
  · obtain ⟨x, hx, rfl⟩ := List.mem_map.mp hd
    exact hok x hx
  · cases ss with
    | nil => simpa using h
    | cons x r => simpa using h
end
theorem noneP3 : True := by
  k_with_none
  trivial
theorem ordL_vals {tk : Nat} : ∀ {l : List Nd} {cs : List Nat}, l.map Nd.c = cs → (∀ x ∈ l, 1 ≤ x.nt ∧ x.nt < tk) → OrdL tk cs (vals (l.map fun x => (x.c, x.nt)))
  | [], _, e, _ => by subst e; exact True.intro
  | x :: r, _, e, h => by
    subst e
    exact ⟨⟨x.nt, rfl, h x List.mem_cons_self⟩, ordL_vals rfl fun y hy => h y (List.mem_cons_of_mem _ hy)⟩
/-- what a def's sorter is -/
structure StarF (tk : Nat) (cs : List Nat) (ns : List Nd) (x0 : Nd) (xs : List Nd) : Prop where
  st : IsStar ns x0 xs
  no : forA (ns.map Nd.abs) (ns.map Nd.c) [] = some false
  ring : forA (ns.map Nd.abs ++ [(97, [98]), (98, [97])]) (ns.map Nd.c ++ [97, 98]) [] = some true
  ord : OrdL tk (38 :: cs) (vals (ordL x0 0 ++ ordL x0 1))
  a : 97 ∉ ns.map Nd.c
  b : 98 ∉ ns.map Nd.c
  len : ns.length ≤ 40
theorem star_facts {f tk : Nat} {sgs : Str} {cs : List Nat} {ns : List Nd} (hD : Deed f sgs cs) (h : StarN (38 :: cs) 1 tk (38 :: cs).length ns) : ∃ x0 xs, StarF tk cs ns x0 xs := by
  obtain ⟨h1, h2, h3⟩ := h
  rw [List.take_length] at h2
  cases ns with
  | nil => simp at h2
  | cons x0 xs =>
    obtain ⟨e1, e2, e3⟩ := h3 x0 xs rfl
    have c0 : x0.c = 38 := by simpa using (List.cons.inj (by simpa using h2)).1
    have cr : xs.map Nd.c = cs := (List.cons.inj (show x0.c :: xs.map Nd.c = 38 :: cs by simpa using h2)).2
    have ab : (x0 :: xs).map Nd.abs = (38, cs) :: cs.map fun c => (c, []) := by
      show (x0.c, x0.sc.map (·.1)) :: xs.map Nd.abs = _
      rw [c0, e2, List.map_map, ← cr, List.map_map]
      congr 1
      refine List.map_congr_left fun x hx => ?_
      show (x.c, x.sc.map (·.1)) = (x.c, [])
      rw [(e3 x hx).2]; rfl
    have len : xs.length = cs.length := by rw [← cr, List.length_map]
    refine ⟨x0, xs, ⟨rfl, c0, e1, e2, e3, ?_, ?_⟩, ?_, ?_, ?_, ?_, ?_, ?_⟩
    · rw [h2]; exact (deed_cps hD).2.2.1
    · rw [len]; exact (deed_cps hD).2.2.2
    · rw [ab, h2]; rcases hD with ⟨_, _, rfl⟩ | ⟨_, _, rfl⟩ | ⟨_, _, rfl⟩ <;> decide +kernel
    · rw [ab, h2]; rcases hD with ⟨_, _, rfl⟩ | ⟨_, _, rfl⟩ | ⟨_, _, rfl⟩ <;> decide +kernel
    · show OrdL tk (38 :: cs) (vals ([(38, x0.nt)] ++ x0.sc))
      rw [e2]
      exact ⟨⟨x0.nt, rfl, h1 x0 List.mem_cons_self⟩, ordL_vals cr fun y hy => h1 y (List.mem_cons_of_mem _ hy)⟩
    · rw [h2]; rcases hD with ⟨_, _, rfl⟩ | ⟨_, _, rfl⟩ | ⟨_, _, rfl⟩ <;> decide
    · rw [h2]; rcases hD with ⟨_, _, rfl⟩ | ⟨_, _, rfl⟩ | ⟨_, _, rfl⟩ <;> decide
    · rw [List.length_cons, len]; rcases (deed_cps hD).2.2.2 with e | e <;> rw [e] <;> decide
theorem sameUp_nil {frs' : Led} (h : TI.SameUp [] frs') : frs' = [] := by
  have := SameUp.addr h
  simpa using this
/-- a ledger that stands apart, behind a new part -/
theorem dist_more {a b : Led} (ha : Dist a) (hb : Dist b) (h : Ap b a) : Dist (a ++ b) := dist_app ha hb fun p hp q hq e => ap_of h q hq p hp e.symm
theorem fr_top {q : Program} {z : List Str} {mean : ExcName → Option Value} {mg mb : Str → Option Value} {h₀ : Heap} (T : Top q z mean mg mb h₀) : T.heap = h₀ := rfl
theorem deed_sg {f : Nat} {sgs : Str} {cs : List Nat} (hD : Deed f sgs cs) : ∀ c ∈ sgs.cps.toList, c ∈ sg7 := by
  rw [(deed_cps hD).1]
  intro c hc
  rcases List.mem_cons.mp hc with rfl | hc
  · decide
  · exact ((deed_cps hD).2.1 c hc).1
theorem deed_size {f : Nat} {sgs : Str} {cs : List Nat} (hD : Deed f sgs cs) : sgs.cps.size ≤ 7 := by
  rw [← Array.length_toList, (deed_cps hD).1, List.length_cons]
  rcases (deed_cps hD).2.2.2 with e | e <;> rw [e] <;> decide
theorem deed_len {f : Nat} {sgs : Str} {cs : List Nat} (hD : Deed f sgs cs) : (38 :: cs).length ≤ 50 := by
  rw [List.length_cons]
  rcases (deed_cps hD).2.2.2 with e | e <;> rw [e] <;> decide
theorem ordL_are {n : Nat} : ∀ {cs : List Nat} {ys : List Value}, OrdL n cs ys → StrsAre ys (cs.map sg)
  | [], [], _ => .nil
  | [], _ :: _, h => h.elim
  | _ :: _, [], h => h.elim
  | c :: cs, y :: ys, ⟨⟨u, e, _⟩, h⟩ => by subst e; exact .cons _ u (ordL_are h)
theorem ordL_mono {n k : Nat} (hk : n ≤ k) : ∀ {cs : List Nat} {ys : List Value}, OrdL n cs ys → OrdL k cs ys
  | [], [], _ => True.intro
  | [], _ :: _, h => h.elim
  | _ :: _, [], h => h.elim
  | _ :: _, _ :: _, ⟨⟨u, e, h0, h1⟩, h⟩ => ⟨⟨u, e, h0, Nat.lt_of_lt_of_le h1 hk⟩, ordL_mono hk h⟩
theorem ordL_size {n : Nat} {cs : List Nat} {ys : List Value} (h : OrdL n cs ys) : ys.length = cs.length := by simpa using h.len.symm
theorem deed_seven {f : Nat} {sgs : Str} {cs : List Nat} (hD : Deed f sgs cs) : (38 :: cs).length ≤ 7 := by
  rw [List.length_cons]
  rcases (deed_cps hD).2.2.2 with e | e <;> rw [e] <;> decide
theorem deed_ok {f : Nat} {sgs : Str} {cs : List Nat} (hD : Deed f sgs cs) : ∀ c ∈ 38 :: cs, PyData.strOk (sg c) = true := by
  rcases hD with ⟨_, _, rfl⟩ | ⟨_, _, rfl⟩ | ⟨_, _, rfl⟩ <;> decide +kernel
theorem eAmp : Str.ofString "&" = sg 38 := by decide +kernel
theorem eNil : (Str.ofString "" : Str).cps.toList = [] := by decide +kernel
theorem noneP4 : True := by
  k_with_none
  trivial
noncomputable def strOf (l : List Nat) : Str := ⟨l.toArray⟩
theorem strOf_list (l : List Nat) : (strOf l).cps.toList = l := rfl
theorem turn_str {f : Nat} {sgs : Str} {cs : List Nat} (hD : Deed f sgs cs) : ∀ k, k < (38 :: cs).length → Txt.slice sgs (some (k : Int)) none ++ Txt.slice sgs none (some (k : Int)) = strOf (rot (38 :: cs) k) := by
  rcases hD with ⟨_, rfl, rfl⟩ | ⟨_, rfl, rfl⟩ | ⟨_, rfl, rfl⟩ <;> decide +kernel
theorem turn_find {f : Nat} {sgs : Str} {cs : List Nat} (hD : Deed f sgs cs) : ∀ k, k < (38 :: cs).length → 0 ≤ Txt.find (strOf (rot (38 :: cs) k)) (Str.ofString "&") ∧ Txt.slice (strOf (rot (38 :: cs) k)) none (some (Txt.find (strOf (rot (38 :: cs) k)) (Str.ofString "&"))) = strOf (ahd (38 :: cs) k) := by
  rcases hD with ⟨_, _, rfl⟩ | ⟨_, _, rfl⟩ | ⟨_, _, rfl⟩ <;> decide +kernel
theorem turn_mod {f : Nat} {sgs : Str} {cs : List Nat} (hD : Deed f sgs cs) (z : Int) : ∃ k : Nat, k < (38 :: cs).length ∧ Int.fmod z (sgs.length : Int) = (k : Int) ∧ ¬ ((sgs.length : Int) == 0) = true := by
  have e : sgs.length = (38 :: cs).length := by
    show sgs.cps.size = _
    rw [← Array.length_toList, (deed_cps hD).1]
  rw [e, List.length_cons]
  have hp : (0 : Int) < ((cs.length + 1 : Nat) : Int) := by omega
  have h0 := Int.fmod_nonneg_of_pos z hp
  have h1 := Int.fmod_lt_of_pos z hp
  refine ⟨(Int.fmod z ((cs.length + 1 : Nat) : Int)).toNat, by omega, by omega, ?_⟩
  intro q
  have := eq_of_beq q
  omega
theorem rot_size {S : List Nat} {k : Nat} : (rot S k).length = S.length := by
  unfold rot
  rw [List.length_append, List.length_drop, List.length_take]
  omega
theorem rot_mem {S : List Nat} {k : Nat} : ∀ c ∈ rot S k, c ∈ S := fun c hc => by
  unfold rot at hc
  rcases List.mem_append.mp hc with h | h
  · exact List.mem_of_mem_drop h
  · exact List.mem_of_mem_take h
theorem turned_sg {f : Nat} {sgs : Str} {cs : List Nat} (hD : Deed f sgs cs) (k : Nat) : ∀ c ∈ (strOf (rot (38 :: cs) k)).cps.toList, c ∈ sg7 := fun c hc => deed_sg hD c (by rw [(deed_cps hD).1]; exact rot_mem c hc)
theorem turned_size {f : Nat} {sgs : Str} {cs : List Nat} (hD : Deed f sgs cs) (k : Nat) : (strOf (rot (38 :: cs) k)).cps.size ≤ 7 := by
  show ((rot (38 :: cs) k).toArray).size ≤ 7
  rw [List.size_toArray, rot_size]
  exact deed_seven hD
theorem ahead_size {f : Nat} {sgs : Str} {cs : List Nat} (hD : Deed f sgs cs) (k : Nat) : (strOf (ahd (38 :: cs) k)).cps.size ≤ 7 := by
  show ((ahd (38 :: cs) k).toArray).size ≤ 7
  rw [List.size_toArray]
  refine Nat.le_trans ?_ (deed_seven hD)
  unfold ahd
  split
  · exact Nat.zero_le _
  · rw [List.length_drop]; omega
theorem told_size {f : Nat} {sgs : Str} {cs : List Nat} (hD : Deed f sgs cs) {text : Str} (h : text.cps.size ≤ 15) : (byT (38 :: cs) text).cps.size ≤ 90 := by
  rw [← Array.length_toList, byT_flat (deed_cps hD).2.1]
  have one : ∀ a, (nmL (38 :: cs) a).length ≤ 6 := fun a => by
    unfold nmL
    split
    · rename_i ha
      rw [Array.length_toList]
      exact nm_len (deed_sg hD a (by rw [(deed_cps hD).1]; exact ha))
    · exact Nat.le_of_ble_eq_true rfl
  have all : ∀ l : List Nat, (l.flatMap (nmL (38 :: cs))).length ≤ 6 * l.length := fun l => by
    induction l with
    | nil => exact Nat.le_refl _
    | cons a r ih =>
      rw [List.flatMap_cons, List.length_append, List.length_cons]
      have := one a
      omega
  exact Nat.le_trans (all text.cps.toList) (by rw [Array.length_toList]; omega)
theorem text_ok {ns : List Int} {p : Nat → Bool} : ∀ x ∈ ((textOf ns).cps.toList.filter p).map sg, PyData.strOk x = true := fun x hx => by
  obtain ⟨c, hc, rfl⟩ := List.mem_map.mp hx
  have hall : ∀ c ∈ [38, 60, 62, 34, 13, 10, 9, 97], PyData.strOk (sg c) = true := by decide +kernel
  exact hall c (text_in ns c (List.mem_filter.mp hc).1)
section
variable {prog : Program} {w : World} {A : Around} {E : Value → Shared → Prop} {s : Shared} {Q : Value → Shared → Prop}
theorem ne_bool_same {a b : Bool} (e : a = b) (h : Q (.bool false) s) : wpAny (model prog w) A (compareOp .NotEq (.bool a) (.bool b)) Q E s := by
  subst e
  refine ne_bool ?_
  rw [show (a != a) = false from by cases a <;> rfl]
  exact h
end
theorem noneP5 : True := by
  k_with_none
  trivial
theorem good_true {c : ClaimW} {cl : Str → Option Addr} {mean : ExcName → Option Value} {args : List WData} {s₁ s' : Shared} {L : Addr} {m : Str → Option Value} (F : Fr s₁.heap L s'.heap m) (hab : AllBare s'.gens)
    (hn : ∀ cls, c.raises args cls = false) (hp : c.post args (.bool true) args = true) (hos : s'.os = s₁.os := by rfl) : GoodWG c cl mean args s₁ (.ok (.ret (.bool true))) s' :=
  ⟨.inl ⟨.bool true, .bool true, [], rfl, hn, .bool true, hp, fun _ => ⟨List.nodup_nil, fun _ h => nomatch h⟩⟩, .of_keep F.keep, hos, hab⟩
theorem noneG12 : True := by
  k_with_none
  trivial
section
open PySem.W.X
section
variable {prog : Program} {w : World} {A : Around} {h₀ : Heap} {env : Env} {s : Shared} {E : Value → Shared → Prop}
/-- a name bound to a comprehension over a generator: up to its loop -/
theorem assign_start {elt : PySem.Expr} {x y : Str} {px py spos : Pos} {iter : PySem.Expr} {scope : Scope} {pos : Pos} {cl : List (Str × Addr)} {Q : Flow → Shared → Prop}
    (hsw : swapsWith (.ListComp elt [⟨.Name x px, iter, [], 0⟩] scope pos) (some (.Name y py)) spos.line env = pure true)
    (hclos : closureFor scope env = pure cl) (hcell : ∀ y ∈ scope.names, y.2 ≠ .cell) (hkind : scope.kind = .function)
    (hnames : ∀ y ∈ scope.names, y.2 = .local → scope.names.lookup y.1 = some .local)
    (h : wpAny (model prog w) A (eval iter env) (fun xv s₁ => ∃ (G g : Nat) (led : Led), xv = .ref G ∧ s₁.heap.IsGen G g ∧ h₀.StaysIn s₁.heap ∧ NewsO h₀ s₁.heap led ∧ Dist led ∧
      ∀ (C D : Nat) oC h, h₀.StaysIn h → LCg.NsObj oC (fun _ => none) → NewsO h₀ h ((C, oC) :: (D, LCg.lst []) :: led) → Dist ((C, oC) :: (D, LCg.lst []) :: led) →
        codeAny (model prog w) A (.compLoop (.ListComp elt [⟨.Name x px, iter, [], 0⟩] scope pos) 0 (.ref G) (.ref D) (compEnvC scope cl C env)) (compPost (model prog w) A E (some (assign (.Name y py) env)) (fun _ s' => Q .next s') (.ref D) C) { s₁ with heap := h }) E s)
    (hs : ∀ x, foldedSetIterable iter env x = pure x := by intro _; rfl) :
    wpAny (model prog w) A (exec (.Assign [.Name y py] (.ListComp elt [⟨.Name x px, iter, [], 0⟩] scope pos) spos) env) Q E s := by
  rw [exec_Assign_Name_used _ _ _ _ hsw]
  refine wpAny_bind (wpAny_standAt (wpAny_bind ?_))
  show wpAny _ A (do let _ ← comprehension (.ListComp elt [⟨.Name x px, iter, [], 0⟩] scope pos) scope env _ (newList []) false (eval iter env) (some (assign (.Name y py) env))) _ _ s
  refine wpAny_bind (wpAny_mono (wpAny_comprehension_free (use := some (assign (.Name y py) env)) (Q := fun _ s' => Q .next s') rfl hs hclos hkind hnames
    (wpAny_mono h (fun xv s₁ h₁ => ?_) fun _ _ e => e)) (fun _ s' hq => wpAny_pure (wpAny_pure hq)) fun _ _ e => e)
  obtain ⟨G, g, led, rfl, hG, st, N, dl, k⟩ := h₁
  refine wpAny_pyIter_gen hG ?_
  refine wpAny_newObj_type (wpAny_newFunctionEnv hcell (by intro y hy; simp at hy) (fun h₁ hns₁ hsb₁ => ?_) hkind)
  dsimp only at hns₁ hsb₁ ⊢
  generalize hH2 : s₁.heap.push { cls := .type "list", dict := none, data := .seq ([] : List Value).toArray } = H2 at hns₁ hsb₁ ⊢
  have hC : H2.objs.size = s₁.heap.objs.size + 1 := by rw [← hH2, Heap.size_push]
  have lowC : ∀ b, b < s₁.heap.objs.size → b ≠ H2.objs.size := fun b hb => by rw [hC]; exact Nat.ne_of_lt (Nat.lt_succ_of_lt hb)
  have hDC : s₁.heap.objs.size ≠ H2.objs.size := by rw [hC]; exact Nat.ne_of_lt (Nat.lt_succ_self _)
  have old : ∀ b o, s₁.heap.get? b = some o → h₁.get? b = some o := fun b o e => hsb₁.extBut b o (lowC b (Heap.lt_size e)) (Heap.get?_push_of_some _ (hH2 ▸ Heap.get?_push_of_some _ e))
  have hacc : h₁.get? s₁.heap.objs.size = some (LCg.lst []) := hsb₁.extBut _ _ hDC (Heap.get?_push_of_some _ (hH2 ▸ Heap.get?_push_size _ rfl))
  have fresh₀ : ∀ a, s₁.heap.objs.size ≤ a → h₀.get? a = none := fun a ha => by
    cases e : h₀.get? a with
    | none => rfl
    | some o' => exact absurd (Heap.lt_size (st a o' e)) (Nat.not_lt.mpr ha)
  obtain ⟨oC, eC, hoC⟩ := LCg.ns_obj hns₁
  have loop := k H2.objs.size s₁.heap.objs.size oC h₁ (fun b o e => old b o (st b o e)) hoC (fun p hp => by
      rcases List.mem_cons.mp hp with rfl | hp
      · exact ⟨eC, fresh₀ _ (by rw [hC]; exact Nat.le_succ _)⟩
      · rcases List.mem_cons.mp hp with rfl | hp
        · exact ⟨hacc, fresh₀ _ (Nat.le_refl _)⟩
        · exact ⟨old _ _ (N p hp).1, (N p hp).2⟩)
    (dist_cons (fun p hp => by
      rcases List.mem_cons.mp hp with rfl | hp
      · exact hDC
      · exact lowC _ (Heap.lt_size (N p hp).1)) (dist_cons (fun p hp => Nat.ne_of_lt (Heap.lt_size (N p hp).1)) dl))
  exact codeAny_compStart_list loop (wpAny_pyIter_gen (hG.keeps old) loop)
end
section
variable {prog : Program} {w : World} {h₀ : Heap} {d u : Nat} {env : Env} {outer : List Env} {g : Option (List Code)} {s : Shared} {E : Value → Shared → Prop} {m : Str → Option Value}
/-- the source is a generator that is ready; its list is bound -/
inductive SrcGA (prog : Program) (w : World) (h₀ : Heap) (outer : List Env) (L : Nat) (y : Str) (Q : Flow → Shared → Prop) (xv : Value) (s₁ : Shared) : Prop
  | mk (G gN : Nat) (gs : GenState) (nm qn : Value) (rem : List Value) (own news frs : Led) (m : Str → Option Value) : xv = .ref G → TI.Frs outer frs → Fr h₀ L s₁.heap m → News h₀ L s₁.heap (own ++ (frs ++ news)) → Dist (own ++ (frs ++ news)) → (G, genO gN nm qn) ∈ news →
    s₁.gens[gN]? = some gs → Rdy prog w h₀ rem own gs → rem.length ≤ sizeLine → h₀.NoLimit → AllBare s₁.gens →
    (∀ (D : Nat) h tk gens frs', TI.SameUp frs frs' → Fr h₀ L h (fun z => if z = y then some (.ref D) else m z) → News h₀ L h ((D, LCg.lst rem) :: (frs' ++ news)) → Dist ((D, LCg.lst rem) :: (frs' ++ news)) → s₁.toks ≤ tk → AllBare gens → Q .next { s₁ with heap := h, toks := tk, gens := gens }) →
    SrcGA prog w h₀ outer L y Q xv s₁
theorem assignG {x y : Str} {px pe py spos : Pos} {iter : PySem.Expr} {scope : Scope} {pos : Pos} {cl : List (Str × Addr)} {Q : Flow → Shared → Prop} (hd : d + 210 < 1000) (hf : env.frame = some env.locals) (hke : env.scope.kind ≠ .module)
    (hsw : swapsWith (.ListComp (.Name x pe) [⟨.Name x px, iter, [], 0⟩] scope pos) (some (.Name y py)) spos.line env = pure true)
    (hclos : closureFor scope env = pure cl) (hcell : ∀ y ∈ scope.names, y.2 ≠ .cell) (hkind : scope.kind = .function)
    (hnames : ∀ y ∈ scope.names, y.2 = .local → scope.names.lookup y.1 = some .local) (hx : scope.names.lookup x = some .local) (hxd : (x == ("__debug__" : Str)) = false)
    (hy : env.kindOf y = some .local) (hp : (env.scope.kind == .class || (env.scope.kind == .module && env.locals != env.globals)) = false)
    (h : wpAny (model prog w) (Ar d env outer g u) (eval iter env) (SrcGA prog w h₀ outer env.locals y Q) E s)
    (hs : ∀ x, foldedSetIterable iter env x = pure x := by intro _; rfl) :
    wpAny (model prog w) (Ar d env outer g u) (exec (.Assign [.Name y py] (.ListComp (.Name x pe) [⟨.Name x px, iter, [], 0⟩] scope pos) spos) env) Q E s := by
  refine assign_start (h₀ := h₀) hsw hclos hcell hkind hnames (wpAny_mono h (fun xv s₁ h₁ => ?_) fun _ _ e => e) hs
  obtain ⟨G, gN, gs, nm, qn, rem, own, news, frs, m, rfl, Fs, F, N, dl, hG, hgs, hr, hsz, nl, ab, k⟩ := h₁
  have zG := (N _ (List.mem_append_right _ (List.mem_append_right _ hG))).1
  obtain ⟨oL, es, ep, hL, hLr⟩ := F.ns
  obtain ⟨N1, d1⟩ := with_frame F hL N dl
  refine ⟨G, gN, _, rfl, ⟨_, nm, qn, zG, rfl, rfl, rfl⟩, F.keep, N1, d1, fun C D oC h st hC N2 d2 => ?_⟩
  refine gen_comp (s := s₁) (frs := (env.locals, oL) :: frs) (rem0 := rem) hd ⟨hke, hf, ⟨es, ep, hLr.1⟩, Fs⟩ nl hkind hx hxd hG hsz ?_ rem.length rem [] h s₁.toks s₁.gens own ((env.locals, oL) :: frs) oC _ gs rfl rfl hgs hr (TI.SameUp.refl _) st hC N2 d2 (Nat.le_refl _) (BareBut.of ab)
  intro h' tk gens frs2 oC' m' su st' hC' N3 d3 htk ab'
  have zC := (N3 _ List.mem_cons_self)
  obtain ⟨frs', su', F', N5, d5⟩ := drop_frame (a := [(C, oC'), (D, LCg.lst rem)]) F hL su st' N3 d3
  show wpAny _ _ (assign (.Name y py) env (.ref D)) _ _ _
  refine wpAny_assign_Name (wpAny_storeName_local hy F'.ns (fun h₂ hn₂ hs₂ => ?_) hp)
  have hL₀ : h₀.get? env.locals = none := none_at F'
  have F₂ : Fr h₀ env.locals h₂ (fun z => if z = y then some (.ref D) else m z) := ⟨hn₂, fun b o e => hs₂.extBut b o (fun q => by rw [q, hL₀] at e; cases e) (F'.keep b o e), F'.above⟩
  have zC5 := N5 _ List.mem_cons_self
  refine ⟨m', (hC'.ns zC.1).sameBut hs₂ zC5.2.1, fun h'' hs'' => ?_⟩
  have dC := dist_head d5
  exact k D h'' (tk + 1) gens frs' su' (F₂.change hs'' zC5.2.1 zC5.2.2) (fun p hp => by
    have z := N5 p (List.mem_cons_of_mem _ hp)
    exact ⟨hs''.extBut _ _ (dC p hp) (hs₂.extBut _ _ z.2.1 z.1), z.2⟩) (dist_tail d5) (Nat.le_succ_of_le htk) ab'
end
end
theorem noneL5 : True := by
  k_with_none
  trivial
-- addresses that differ: by a fact of the context first
-- a def entered: what is left is its body
theorem rowsL5_3 : True := by
  k_with "kroom" => ((try simp only [depth_under_make, depth_under_kw, depth_in1, depth_deeper, depth_caller, recursionLimit] at *); omega)
  k_with "kne" => first | with_reducible assumption | exact Ne.symm (by with_reducible assumption) | (refine neN ?_; (try dsimp only); first | with_reducible assumption | exact Nat.ne_of_lt (by with_reducible assumption) | exact Nat.ne_of_gt (by with_reducible assumption) | exact Ne.symm (by with_reducible assumption) | (refine' Nat.ne_of_lt (Nat.lt_trans ?z227xh1 ?z227xh2); (case z227xh2 => with_reducible assumption); (case z227xh1 => with_reducible assumption)) | (refine' Nat.ne_of_gt (Nat.lt_trans ?z227xh1 ?z227xh2); (case z227xh2 => with_reducible assumption); (case z227xh1 => with_reducible assumption)) | omega)
  k_with "spl" => first | (refine' Spl.cons ?z228xsp; (case z228xsp => walk_at "spl")) | exact Spl.nil
  k_with "enter" => ((case k6 => k_is); (case k7 => k_is); (case k8 => k_room); (case k9 => exact BindsTo.of_eq rfl); (case c5 => decide); (case kB => exact locs rfl); (case c2 => exact rfl); (case c3 => exact rfl); (case c4 => exact rfl))
  k_with "enterV" => ((case k6 => k_is); (case k7 => k_is); (case k8 => k_room); (case kP => exact rfl); (case kG => exact fun _ => rfl); (case c5 => decide); (case kB => exact fun _ => locs rfl); (case c2 => exact rfl); (case c3 => exact rfl); (case c4 => exact rfl))
  k_with "apart" => first | exact apNil | (refine apCons (by assumption) ?_; walk_at "apart")
  k_with "allne" => first | with_reducible assumption | exact List.forall_mem_nil _ | (refine' fa_cons ?z232xfh ?z232xft; (case z232xfh => k_ne); (case z232xft => walk_at "allne"))
  k_with "sub" => first | exact subNil | exact fun _ h => h | (refine' subCons ?z233xs1 ?z233xs2; (case z233xs1 => k_mem); (case z233xs2 => walk_at "sub")) | (refine' subTail ?z233xs3; (case z233xs3 => walk_at "sub"))
  k_with "pick" => first | exact Pick.head | (refine' Pick.tail ?z234xpk; (case z234xpk => walk_at "pick"))
  k_with "leave" => (refine' ⟨_, _, _, ?z235xka, ?z235xkb, ?z235xkc⟩; (case z235xka => k_asm); (case z235xkb => k_asm); intro _ _ kA; (have na9 := np_of kA (by walk_at "spl")); (repeat (have hx9 := np_head na9; revert hx9; intro _; replace na9 := np_tail na9)); clear na9; replace kA := np_tl kA (by walk_at "spl"); revert kA; intro _)
  k_with "allne" => first | with_reducible assumption | exact lt_all (by with_reducible assumption) | exact List.forall_mem_nil _ | (refine' fa_cons ?z236xfh ?z236xft; (case z236xfh => k_ne); (case z236xft => walk_at "allne"))
  trivial
theorem updB_ne {c : Prop} {i : Decidable c} {a b r : Option Value} (h : ¬ c) (hb : b = r) : (if c then a else b) = r := (if_neg h).trans hb


theorem rowsL5_19 : True := by
  k_with "look" => ((try dsimp only); first | with_reducible assumption | with_reducible exact if_pos rfl | (with_reducible refine updB_ne (by decide) ?_; walk_at "look"))
  k_with "eval Name" => (k_here; k_dflt (refine' nameX_L ?z238xF ?z238xv ?_ ?z238xa ?z238xb; (case z238xF => k_asm); (case z238xa => rfl); (case z238xb => rfl); (case z238xv => walk_at "look"); k_whole))
  k_with "execs nil" => (k_here; (try dsimp only); with_reducible refine gen_toks ?_; intro _ _)
  k_with "execs cons" => (k_here; (try dsimp only); with_reducible refine gen_toks ?_; intro _ _)
  k_with "eval ListComp" => (k_here; k_dflt (refine compL (by k_asm) (by with_unfolding_all rfl) (by decide) (by rfl) (by decide) (by rfl) ?_))
  k_with "exec For Tuple List cons nil" => (k_here; k_dflt (refine forX (by k_asm) ?_ (by intro _; rfl)))
  k_with "pos" => ((try dsimp only); first | with_reducible assumption | exact Nat.succ_pos _ | (refine' Nat.lt_of_lt_of_le ?z243xh1 ?z243xh2; (case z243xh2 => with_reducible assumption); (case z243xh1 => first | exact Nat.succ_pos _ | walk_at "pos")))
  trivial
section
variable {prog : Program} {w : World} {A : Around} {E : Value → Shared → Prop} {s : Shared} {t u : Tok} {Q : Value → Shared → Prop}
theorem ne_same {x : Str} (h : Q (.bool false) s) : wpAny (model prog w) A (compareOp .NotEq (.str x t) (.str x u)) Q E s :=
  P.ne_str (by
    have e : (x.cps.toList != x.cps.toList) = false := by simp
    rw [e]; exact h)
theorem mod_u {a b : Int} (hz : ¬ (b == 0) = true) (h : ∀ (u : Tok) (k : Nat), Q (.int (a.fmod b) u) { s with toks := k }) : wpAny (model prog w) A (binaryOp .Mod (.int a t) (.int b u)) Q E s := AutoIntOps.mod_1 hz (h _ _)
theorem rowsL5_35 : True := by
  k_with "compareOp In str str" => (k_here; first | refine in_yes (by assumption) ?_ | refine in_no (by assumption) ?_)
  trivial
theorem ne_amp (h : Q (.bool false) s) : wpAny (model prog w) A (compareOp .NotEq (.str (sg 38) t) (.str (Str.ofString "&") u)) Q E s := by
  rw [eAmp]
  exact ne_same h
end
theorem deed_keep {f : Nat} {sgs : Str} {cs : List Nat} (w : World) (hD : Deed f sgs cs) : keepIn (hd.heap_39 w.params) (.ref f) = true := by
  rcases hD with ⟨rfl, _⟩ | ⟨rfl, _⟩ | ⟨rfl, _⟩ <;> kernel_rfl
theorem t : PySem.Challenge.rw_mr0322_01.Holds := by
  refine hd (by rfl) (by rfl) (by rfl) ?_
  intro w s₀ s₁ mg mb G Y fa o pm cd doc dV kV ho hd hcd hD hmg hg args vals as hpre hlay hrd hwl hlo
  have KX := kIn_of Y
  have X := (Ground.X G).1
  have V := (Ground.X G).2
  refine Ground.open G ?_
  intro T B D TE TW
  try (refine guard_noD D (by decide +kernel) ?_; clear D)
  obtain ⟨_, _, M⟩ := bmod_of_top T
  have TA := at_of_top T
  try (obtain ⟨_, _, he, B0⟩ := based_of_top T rfl hmg ho hd; have he' : cd = _ := he; subst he'; clear he)
  clear hmg
  wrow_args hpre hlay hrd hwl hlo
  first | refine callC_kw (enter_call ?_) | refine enter_call ?_ | refine callC_kw (enter_callW ?_) | refine enter_callW ?_ | w_how
  w_top on
  have K0 := below_caller (Top.heap T)
  w_call any ho hd hcd hD T F
  clear hd TA
  k_drop
  try k_fold
  all_goals try k_fold
  rename_i ns hsh lay0 hLay hr1 hl2 x5 x4 l vs x1 hLl ra w1 r0 hIv hr2 hlen hc2 h₁ tk₁ co hco N0 XC
  clear hr2 hr1 hl2 lay0 hc2 r0 w1 ra XC
  obtain ⟨m0, hm0, F0⟩ : ∃ m0, m0 (Str.ofString "script") = some (.ref l) ∧ Fr s₁.heap s₁.heap.objs.size h₁ m0 := ⟨_, rfl, F⟩
  clear F
  obtain ⟨cv, hcv⟩ : ∃ v, co.data = .cell v := ⟨_, hco⟩
  clear hco hD hcd M TE TW B V X
  k_steps
  refine SrcL.ints rfl (by k_asm) (by k_asm) (by k_asm) ?hsz (out := fun k => sg (sgI k)) (fun g9 => turnI0 (by k_asm) (fun k => sg (sgI k)) ?turn) ?fin
  case turn =>
    intro k u ys I oI C oC D m₂ h tk E' hC hm F N off ne htk
    simp only [LCg.Off3, and_true] at off
    obtain ⟨⟨o1, o2, o3⟩, ⟨o4, o5, o6⟩, ⟨o7, o8, o9⟩, o10, o11, o12⟩ := off
    dsimp only at htk ⊢
    k_steps
    rw [show Txt.item (Str.ofString "&<>\"\u000d\n\ta") (Int.fmod k 8) = sg (sgI k) from menu_item k]
    exact EndV.mk fun _ h => h
  case hsz => simp only [List.length_append, List.length_take, List.length_cons, List.length_nil]; omega
  case fin =>
    intro g9 D9 h9 tk9 ys hM htk F9 N9 hD9
    dsimp only at htk ⊢
    k_steps
    have hp9 : 0 < tk9 := Nat.lt_of_lt_of_le (Nat.succ_pos _) htk
    refine join_text hM N9 fun t9 k9 hk9 => ?_
    have N10 : News s₁.heap s₁.heap.objs.size h9 [(s₁.heap.objs.size + 1, co)] := News.sub N9 (by walk_at "sub")
    have hp10 : 0 < k9 := Nat.lt_of_lt_of_le hp9 hk9
    clear hD9 N9 htk hM hk9 hp9
    dsimp only
    k_steps
    refine' SrcX.law (tx := textOf ns) (l := l) (tt := t9) rfl ?ab (by k_asm) (by k_asm) hcv (by walk_at "look") (by walk_at "look") (by assumption) (by assumption) (by assumption) (by assumption) ?ht ?turn ?fin
    case ab => exact AllBare.of_eq hg
    case ht => dsimp only; omega
    case turn =>
      intro T0 f sgs cs t m co2 cv2 tl h tk gens g E' hDd hab F N hdi hcv2 htx hsc htk
      dsimp only
      repeat (rename_i x9; clear x9)
      clear ek
      have K1 : Below callerA s₁.heap [] s₁.heap := K0
      clear K0
      have ne2 := dist_head (dist_tail hdi)
      have ne3 : s₁.heap.objs.size + 1 ≠ T0 := dist_head hdi (_, co2) (.head _)
      iterate 13 walk1
      refine callWith_K KX (deed_keep w hDd) ?_
      walk1
      iterate 3 walk1
      refine wpAny_call ?_
      refine deed_c (outer := []) hDd K1 (by k_asm) KX T rfl rfl ?r1 (by k_asm) ?p1 ?q1 ?_
      case r1 => k_room
      case p1 => walk_at "pos"
      case q1 => exact Nat.le_trans (text_size ns) (by decide)
      intro h1 tk1 t1 htk1 F1 N1
      dsimp only at htk1 ⊢
      iterate 3 walk1
      refine assignG (h₀ := s₁.heap) (outer := []) ?rm rfl (fun q => nomatch q) (by with_unfolding_all rfl) (by with_unfolding_all rfl) (by decide) (by rfl) (by decide) (by rfl) (by decide) (by rfl) (by rfl) ?_
      case rm => k_room
      iterate 8 walk1
      refine wpAny_call ?_
      refine sorter_c (cs := cs) (outer := []) K1 (by k_asm) KX T rfl rfl ?r2 (by k_asm) (deed_sg hDd) (Nat.le_trans (deed_size hDd) (by decide)) (deed_cps hDd).1 (deed_cps hDd).2.2.1 (deed_len hDd) ?_
      case r2 => k_room
      intro h2 tk2 self sd D oD u1 u2 u3 u4 u5 u6 nds htk2 F2 N2 D2 A2 hD2 lo2 hS2
      obtain ⟨x0, xs, hS⟩ := star_facts hDd hS2
      dsimp only at htk2 ⊢
      clear hS2
      iterate 2 walk1
      refine wpAny_call ?_
      refine codeAny_with_toks (n := tk2) (Nat.le_refl _) ?_
      refine so_star (frs := []) (outer := []) F2 KX T ?r3 N2 (dist_more D2 hdi A2) hD2 lo2 hS.st hS.no ?_
      case r3 => k_room
      intro G gN gs nm qn own h3 tk3 gens3 F3 N3 D3 hgs hab3 hR hk3
      dsimp only at hab3 hk3 ⊢
      have hO := hS.ord
      refine SrcGA.mk G gN gs nm qn _ own ((G, genO gN nm qn) :: (T0, pairO f sgs t) :: (s₁.heap.objs.size + 1, co2) :: tl) [] _ rfl True.intro F3 N3 D3 List.mem_cons_self hgs hR (by rw [ordL_size hO]; exact Nat.le_trans (deed_seven hDd) (by decide)) T.nolimit (hab3 hab) (fun D5 h5 tk5 gens5 frs5 su5 F5 N5 D5' htk5 hab5 => ?_)
      obtain rfl := sameUp_nil su5
      replace F5 : Fr s₁.heap s₁.heap.objs.size h5 _ := F5
      replace N5 : News s₁.heap s₁.heap.objs.size h5 ((D5, LCg.lst (vals (ordL x0 0 ++ ordL x0 1))) :: (G, genO gN nm qn) :: (T0, pairO f sgs t) :: (s₁.heap.objs.size + 1, co2) :: tl) := N5
      replace D5' : Dist ((D5, LCg.lst (vals (ordL x0 0 ++ ordL x0 1))) :: (G, genO gN nm qn) :: (T0, pairO f sgs t) :: (s₁.heap.objs.size + 1, co2) :: tl) := D5'
      dsimp only at htk5 ⊢
      replace hO := ordL_mono (Nat.le_trans hk3 htk5) hO
      have hp5 : 0 < tk5 := Nat.lt_of_lt_of_le (show 0 < tk2 by walk_at "pos") (Nat.le_trans hk3 htk5)
      clear hR hgs hab3 N3 D3 F3 hS hD2 lo2 N2 F2 D2 A2 su5
      generalize vals (ordL x0 0 ++ ordL x0 1) = ys at *
      clear x0 xs nds own gs
      iterate 10 walk1
      refine sorted_l F5 N5 (.head _) (ordL_are hO) (by rw [ordL_size hO]; exact Nat.lt_of_le_of_lt (deed_seven hDd) (by decide)) ?_
      intro D6 h6 vs6 ss6 e6 F6 N6 n6 hS6 hp6 hs6
      dsimp only
      iterate 6 walk1
      refine wpAny_with_toks (n := tk5) (Nat.le_refl _) ?_
      refine sorted_s rfl F6 N6 (Nat.lt_of_le_of_lt (deed_size hDd) (by decide)) ?_
      intro D7 h7 tk7 vs7 ss7 e7 F7 N7 n7 hS7 hp7 hs7 hk7
      dsimp only at hk7 ⊢
      rw [(deed_cps hDd).1] at hp7
      refine ne_sorted N7 hS6 hS7 hp6 hs6 hp7 hs7 (deed_ok hDd) (Nat.le_of_ble_eq_true rfl) ?_
      have N8 : News s₁.heap s₁.heap.objs.size h7 ((D5, LCg.lst ys) :: (G, genO gN nm qn) :: (T0, pairO f sgs t) :: (s₁.heap.objs.size + 1, co2) :: tl) := fun p hp => N7 p (.tail _ (.tail _ hp))
      clear N7 N6 N5 F6 F5 hS6 hS7 hp6 hp7 hs6 hs7 n6 n7
      replace hO := ordL_mono hk7 hO
      have hp7 : 0 < tk7 := Nat.lt_of_lt_of_le hp5 hk7
      obtain ⟨yr, u0, rfl⟩ : ∃ yr u0, ys = .str (sg 38) u0 :: yr := by
        cases ys with
        | nil => exact hO.elim
        | cons y yr => obtain ⟨⟨u, e, _⟩, _⟩ := hO; exact ⟨yr, u, by rw [e]⟩
      iterate 7 walk1
      refine item_list (items := (Value.str (sg 38) u0 :: yr).toArray) ⟨_, (N8 _ (.head _)).1, rfl, _, rfl⟩ (by decide) (by decide) (x := .str (sg 38) u0) rfl ?_
      iterate 1 walk1
      refine ne_amp ?_
      iterate 6 walk1
      dsimp only
      rename_i k8 hk8
      iterate 13 walk1
      refine wpAny_call ?_
      refine turns_l (order := sgs) (outer := []) K1 (by k_asm) KX T rfl rfl ?r4 (by k_asm) ?p4 ?o4 (deed_sg hDd) (.head _) (text_size ns) (deed_size hDd) ?_
      case r4 => k_room
      case p4 => walk_at "pos"
      case o4 => rw [(deed_cps hDd).1]; exact ordL_mono (Nat.le_of_succ_le (Nat.le_of_succ_le hk8)) hO
      intro h8 tk8 t8 htk8 F8 N9
      dsimp only at htk8 ⊢
      rw [(deed_cps hDd).1]
      iterate 1 walk1
      refine ne_same ?_
      iterate 15 walk1
      refine wpAny_call ?_
      refine once_c (outer := []) K1 (by k_asm) KX T rfl rfl ?r5 (by k_asm) ?p5 (deed_sg hDd) (Nat.le_trans (text_size ns) (by decide)) ?_
      case r5 => k_room
      case p5 => walk_at "pos"
      intro h10 tk10 t10 htk10 F10 N10
      dsimp only at htk10 ⊢
      rw [law_once hDd]
      walk1
      refine ne_same ?_
      iterate 6 walk1
      try dsimp only
      have N11 : News s₁.heap s₁.heap.objs.size h10 ((T0, pairO f sgs t) :: (s₁.heap.objs.size + 1, co2) :: tl) := fun p hp => N10 p (.tail _ (.tail _ hp))
      clear N10 N9 N8 F8 hO D5'
      iterate 8 walk1
      refine wpAny_with_toks (n := tk10) (Nat.le_refl _) ?_
      refine sumK rfl F10 N11 (let ⟨o, a, b⟩ := hLl; ⟨o, F10.keep _ _ a, b⟩) hIv ?_
      intro h12 tk12 t12 F12 N12 hk12
      dsimp only at hk12 ⊢
      iterate 6 walk1
      refine len_str (by have := deed_size hDd; show ¬ ((sgs.cps.size : Int) ≥ 2 ^ 63); omega) ?_
      obtain ⟨k, hk, ek, hz⟩ := turn_mod hDd ns.sum
      refine mod_u hz fun u12 k12 => ?_
      rw [ek]
      dsimp only
      iterate 12 walk1
      refine slice_strN_sn (hsz := ?z1) (s := ⟨_, _, _, _, _⟩) (by k_asm) (by k_asm) ?_
      case z1 => exact Nat.le_trans (deed_size hDd) (by decide)
      intro h13 t13 k13 F13 N13
      iterate 7 walk1
      refine slice_strN_ns (hsz := ?z2) (s := ⟨_, _, _, _, _⟩) (by k_asm) (by k_asm) ?_
      case z2 => exact Nat.le_trans (deed_size hDd) (by decide)
      intro h14 t14 k14 F14 N14
      refine add_str (fun t15 k15 => ?_) ?z3
      case z3 => exact Nat.le_trans (Nat.add_le_add (Nat.le_trans (PyProof.Txt.length_slice_le _ _ _) (deed_size hDd)) (Nat.le_trans (PyProof.Txt.length_slice_le _ _ _) (deed_size hDd))) (by decide)
      rw [turn_str hDd k hk]
      iterate 16 walk1
      refine index_or rfl (fun q _ => absurd (turn_find hDd k hk).1 (by rw [q]; decide)) (fun _ _ => ?_)
      iterate 1 walk1
      refine wpAny_with_toks (n := 1) (show 0 < _ by walk_at "pos") ?_
      refine slice_strN_ns (hsz := ?z4) (s := ⟨_, _, _, _, _⟩) (by k_asm) (by k_asm) ?_
      case z4 => exact Nat.le_trans (turned_size hDd k) (by decide)
      intro h16 t16 k16 F16 N16 hk16
      replace hk16 : 0 < k16 := hk16
      rw [(turn_find hDd k hk).2]
      refine storeX_C F16 N16 rfl (UpdF.tail (Ne.symm ne3) (UpdF.head ne2)) hcv2 ?_
      intro h17 co3 F17 N17 hcv3
      dsimp only
      clear F16 N16
      iterate 12 walk1
      refine wpAny_call ?_
      refine turns_s (order := strOf (rot (38 :: cs) k)) (outer := []) K1 F17 KX T rfl rfl ?r6 N17 ?p6 (turned_sg hDd k) (text_size ns) (turned_size hDd k) ?_
      case r6 => k_room
      case p6 => walk_at "pos"
      intro h18 tk18 t18 htk18 F18 N18
      dsimp only at htk18 ⊢
      replace htk18 : 0 < tk18 := Nat.lt_of_lt_of_le (by walk_at "pos") htk18
      clear F17 N17
      iterate 11 walk1
      refine wpAny_call ?_
      refine once_c (outer := []) K1 F18 KX T rfl rfl ?r7 N18 htk18 (deed_sg hDd) (Nat.le_trans (text_size ns) (by decide)) ?_
      case r7 => k_room
      intro h19 tk19 t19 htk19 F19 N19
      dsimp only at htk19 ⊢
      replace htk19 : 0 < tk19 := Nat.lt_of_lt_of_le htk18 htk19
      rw [law_turn hDd hk (text_in ns) (strOf_list _) (strOf_list _)]
      refine ne_same ?_
      clear F18 N18
      iterate 16 walk1
      refine wpAny_call ?_
      refine turns_s (order := strOf (rot (38 :: cs) k)) (outer := []) K1 F19 KX T rfl rfl ?r8 N19 htk19 (turned_sg hDd k) (text_size ns) (turned_size hDd k) ?_
      case r8 => k_room
      intro h20 tk20 t20 htk20 F20 N20
      dsimp only at htk20 ⊢
      replace htk20 : 0 < tk20 := Nat.lt_of_lt_of_le htk19 htk20
      clear F19 N19
      walk1
      refine P.eq_str ?_
      rw [law_differs hDd hk (text_in ns) (strOf_list _) (strOf_list _)]
      walk1
      refine compS (h₀ := s₁.heap) F20 (by with_unfolding_all rfl) (by decide) (by rfl) (by decide) (by rfl) ?_
      walk1
      refine SrcS.mk rfl F20 N20 (Nat.le_trans (text_size ns) (by decide)) (fun g9 => turnS1 (fun o => decide (o ∈ (strOf (ahd (38 :: cs) k)).cps.toList)) sg ?tu) ?fi
      case tu =>
        intro o u' ys I' oI' C oC D' m₂ h' tk2 E'' hmem hC hm' F' N' off' ne' htk'
        dsimp only at htk' ⊢
        by_cases h2 : o ∈ (strOf (ahd (38 :: cs) k)).cps.toList
        · iterate 3 walk1
          refine in_yes h2 ?_
          iterate 3 walk1
          exact LCg.CompEnd.intro (by k_asm) (by assumption) _ (fun _ h => h) off' trivial ⟨decide_eq_true h2, EndV.mk fun _ h => h⟩
        · iterate 3 walk1
          refine in_no h2 ?_
          iterate 2 walk1
          exact LCg.CompEnd.intro (by k_asm) (by assumption) _ (fun _ h => h) off' trivial ⟨decide_eq_false h2, fun _ h => h⟩
      case fi =>
        intro g9 D9 h9 tk9 ys hM htk F9 N9 hD9
        have hys := made_strs (x := textOf ns) (kc := fun o => decide (o ∈ (strOf (ahd (38 :: cs) k)).cps.toList)) (out := sg) hM
        dsimp only at htk ⊢
        replace htk : 0 < tk9 := Nat.lt_of_lt_of_le htk20 htk
        iterate 3 walk1
        rename_i N21 z1 z2 z3 z4
        refine eq_empty N21 (.tail _ (.head _)) (.head _) (strs_are hys) text_ok (Nat.le_of_ble_eq_true rfl) ?_
        refine ne_bool_same (by rw [List.isEmpty_map]) ?_
        have N22 : News s₁.heap s₁.heap.objs.size _ ((T0, pairO f sgs t) :: (s₁.heap.objs.size + 1, co3) :: tl) := fun p hp => N21 p (.tail _ (.tail _ hp))
        have hdi2 : Dist ((T0, pairO f sgs t) :: (s₁.heap.objs.size + 1, co3) :: tl) := dist_eq hdi rfl
        clear N21 hys hM hD9 z1 z2 z3 z4
        iterate 2 walk1
        refine wpAny_with_toks (n := 1) (show 0 < _ by walk_at "pos") ?_
        iterate 2 walk1
        intro hp22
        replace hp22 : 0 < _ := hp22
        try dsimp only
        iterate 6 walk1
        refine callWith_K KX (deed_keep w hDd) ?_
        iterate 4 walk1
        refine wpAny_call ?_
        refine deed_c (outer := []) hDd K1 (by k_asm) KX T rfl rfl ?r9 (by k_asm) ?p9 (told_size hDd (text_size ns)) ?_
        case r9 => k_room
        case p9 => walk_at "pos"
        intro h23 tk23 t23 htk23 F23 N23
        dsimp only at htk23 ⊢
        replace htk23 : 0 < tk23 := Nat.lt_of_lt_of_le (by walk_at "pos") htk23
        iterate 11 walk1
        refine wpAny_call ?_
        refine once_c (outer := []) K1 F23 KX T rfl rfl ?r10 N23 ?p10 (deed_sg hDd) (Nat.le_trans (told_size hDd (text_size ns)) (by decide)) ?_
        case r10 => k_room
        case p10 => walk_at "pos"
        intro h24 tk24 t24 htk24 F24 N24
        dsimp only at htk24 ⊢
        replace htk24 : 0 < tk24 := Nat.lt_of_lt_of_le (by walk_at "pos") htk24
        rw [law_once hDd]
        refine ne_same ?_
        clear F23 N23 N22
        iterate 15 walk1
        refine wpAny_call ?_
        refine sorter_c (cs := cs) (outer := []) K1 F24 KX T rfl rfl ?r11 N24 (deed_sg hDd) (Nat.le_trans (deed_size hDd) (by decide)) (deed_cps hDd).1 (deed_cps hDd).2.2.1 (deed_len hDd) ?_
        case r11 => k_room
        intro h25 tk25 self2 sd2 Ds2 oD2 v1 v2 v3 v4 v5 v6 nds2 htk25 F25 N25 D25 A25 hD25 lo25 hS25
        obtain ⟨x2, xs2, hS2⟩ := star_facts hDd hS25
        dsimp only at htk25 ⊢
        clear hS25
        iterate 2 walk1
        refine wpAny_call ?_
        refine ring_c (frs := []) (outer := []) K1 F25 KX T rfl rfl ?r12 True.intro N25 (dist_more D25 hdi2 A25) hD25 lo25 hS2.a hS2.b hS2.len hS2.ring hab5 ?_
        case r12 => k_room
        intro h26 tk26 gens26 t26 frs26 hab26 su26 F26 N26 D26
        obtain rfl := sameUp_nil su26
        dsimp only
        walk1
        refine ne_same ?_
        iterate 5 walk1
        iterate 2 walk1
        exact ⟨_, _, _, _, co3, _, rfl, hab26, by k_asm, by k_asm, hcv3, by walk_at "look", by walk_at "look"⟩
    case fin =>
      intro m h tk gens led hab F N
      dsimp only
      k_steps
      exact good_true F hab (fun _ => rfl) (by wrow_post)
end Mine
theorem PySem.Challenge.cw_mr0322_01_holds : PySem.Challenge.rw_mr0322_01.Holds :=
  Mine.t
