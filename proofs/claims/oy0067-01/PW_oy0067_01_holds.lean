import PyProof.Rows.All
import Wide.All
import OpenK.AllK
import Wide.FinOn
import Lean
import PySem.Challenge.RW_oy0067_01
open PySem PySem.W PyProof.Rows
set_option Elab.async false
set_option maxRecDepth 100000
set_option maxHeartbeats 8000000
namespace Mine
noncomputable def stm (i : Nat) : Stmt := (Challenge.rw_oy0067_01.row.prog.main.body[i]?).getD (.Pass ⟨0, 0, 0, 0⟩)
def fPar : Stmt → Arguments
  | .FunctionDef _ p _ _ _ _ _ _ _ _ => p
  | _ => ⟨[], [], none, [], [], none, []⟩
def fBod : Stmt → List Stmt
  | .FunctionDef _ _ b _ _ _ _ _ _ _ => b
  | _ => []
def fSco : Stmt → Scope
  | .FunctionDef _ _ _ _ _ _ s _ _ _ => s
  | _ => { kind := .module, names := [], isGenerator := false, isCoroutine := false }
def fSam : Stmt → Stmt := fun s => s
/-- what the top leaves on the heap and the law needs -/
noncomputable def hd.heap_39 : Params → Frag := fun P =>
  ((nat_lit 2), (PySem.Obj.mk PySem.Value.none (@Option.none Nat) (PySem.Data.dict (List.toArray (@List.nil PySem.DictEntry)) (0 : Nat)) (List.toArray (@List.nil (Option PySem.Value))))) ::
   ((nat_lit 3), (PySem.Obj.mk (PySem.Value.type "dict") (@Option.none Nat) (PySem.Data.dict (List.toArray ((PySem.DictEntry.mk (PySem.PyData.keyHash P (PySem.Str.ofString "__name__")) (PySem.Value.str (PySem.Str.ofString "__name__") (165 : Nat)) (PySem.Value.str (PySem.Str.ofString "law_oy0067_01") (363 : Nat))) :: (PySem.DictEntry.mk (PySem.PyData.keyHash P (PySem.Str.ofString "__doc__")) (PySem.Value.str (PySem.Str.ofString "__doc__") (166 : Nat)) PySem.Value.none) :: (PySem.DictEntry.mk (PySem.PyData.keyHash P (PySem.Str.ofString "__package__")) (PySem.Value.str (PySem.Str.ofString "__package__") (167 : Nat)) PySem.Value.none) :: (PySem.DictEntry.mk (PySem.PyData.keyHash P (PySem.Str.ofString "__loader__")) (PySem.Value.str (PySem.Str.ofString "__loader__") (168 : Nat)) (PySem.Value.builtin "__main__.__loader__#opaque")) :: (PySem.DictEntry.mk (PySem.PyData.keyHash P (PySem.Str.ofString "__spec__")) (PySem.Value.str (PySem.Str.ofString "__spec__") (169 : Nat)) PySem.Value.none) :: (PySem.DictEntry.mk (PySem.PyData.keyHash P (PySem.Str.ofString "__annotations__")) (PySem.Value.str (PySem.Str.ofString "__annotations__") (170 : Nat)) (PySem.Value.ref (6 : Nat))) :: (PySem.DictEntry.mk (PySem.PyData.keyHash P (PySem.Str.ofString "__builtins__")) (PySem.Value.str (PySem.Str.ofString "__builtins__") (171 : Nat)) (PySem.Value.ref (4 : Nat))) :: (PySem.DictEntry.mk (PySem.PyData.keyHash P (PySem.Str.ofString "__file__")) (PySem.Value.str (PySem.Str.ofString "__file__") (173 : Nat)) (PySem.Value.str (PySem.Str.ofString "/claim/cut.py") (172 : Nat))) :: (PySem.DictEntry.mk (PySem.PyData.keyHash P (PySem.Str.ofString "__cached__")) (PySem.Value.str (PySem.Str.ofString "__cached__") (174 : Nat)) PySem.Value.none) :: (PySem.DictEntry.mk (PySem.PyData.keyHash P (PySem.Str.ofString "_wall")) (PySem.Value.str (PySem.Str.ofString "_wall") (193 : Nat)) (PySem.Value.ref (21 : Nat))) :: (PySem.DictEntry.mk (PySem.PyData.keyHash P (PySem.Str.ofString "heapreplace")) (PySem.Value.str (PySem.Str.ofString "heapreplace") (204 : Nat)) (PySem.Value.ref (28 : Nat))) :: (PySem.DictEntry.mk (PySem.PyData.keyHash P (PySem.Str.ofString "heapify")) (PySem.Value.str (PySem.Str.ofString "heapify") (213 : Nat)) (PySem.Value.ref (35 : Nat))) :: (PySem.DictEntry.mk (PySem.PyData.keyHash P (PySem.Str.ofString "_siftdown")) (PySem.Value.str (PySem.Str.ofString "_siftdown") (225 : Nat)) (PySem.Value.ref (42 : Nat))) :: (PySem.DictEntry.mk (PySem.PyData.keyHash P (PySem.Str.ofString "_siftup")) (PySem.Value.str (PySem.Str.ofString "_siftup") (238 : Nat)) (PySem.Value.ref (49 : Nat))) :: (PySem.DictEntry.mk (PySem.PyData.keyHash P (PySem.Str.ofString "bytes_types")) (PySem.Value.str (PySem.Str.ofString "bytes_types") (241 : Nat)) (PySem.Value.ref (50 : Nat))) :: (PySem.DictEntry.mk (PySem.PyData.keyHash P (PySem.Str.ofString "_bytes_from_decode_data")) (PySem.Value.str (PySem.Str.ofString "_bytes_from_decode_data") (248 : Nat)) (PySem.Value.ref (57 : Nat))) :: (PySem.DictEntry.mk (PySem.PyData.keyHash P (PySem.Str.ofString "Error")) (PySem.Value.str (PySem.Str.ofString "Error") (268 : Nat)) (PySem.Value.ref (67 : Nat))) :: (PySem.DictEntry.mk (PySem.PyData.keyHash P (PySem.Str.ofString "_ascii_buffer")) (PySem.Value.str (PySem.Str.ofString "_ascii_buffer") (276 : Nat)) (PySem.Value.ref (77 : Nat))) :: (PySem.DictEntry.mk (PySem.PyData.keyHash P (PySem.Str.ofString "_buffer")) (PySem.Value.str (PySem.Str.ofString "_buffer") (284 : Nat)) (PySem.Value.ref (84 : Nat))) :: (PySem.DictEntry.mk (PySem.PyData.keyHash P (PySem.Str.ofString "_truth")) (PySem.Value.str (PySem.Str.ofString "_truth") (292 : Nat)) (PySem.Value.ref (91 : Nat))) :: (PySem.DictEntry.mk (PySem.PyData.keyHash P (PySem.Str.ofString "_B64")) (PySem.Value.str (PySem.Str.ofString "_B64") (294 : Nat)) (PySem.Value.bytes (List.toArray ((65 : UInt8) :: (66 : UInt8) :: (67 : UInt8) :: (68 : UInt8) :: (69 : UInt8) :: (70 : UInt8) :: (71 : UInt8) :: (72 : UInt8) :: (73 : UInt8) :: (74 : UInt8) :: (75 : UInt8) :: (76 : UInt8) :: (77 : UInt8) :: (78 : UInt8) :: (79 : UInt8) :: (80 : UInt8) :: (81 : UInt8) :: (82 : UInt8) :: (83 : UInt8) :: (84 : UInt8) :: (85 : UInt8) :: (86 : UInt8) :: (87 : UInt8) :: (88 : UInt8) :: (89 : UInt8) :: (90 : UInt8) :: (97 : UInt8) :: (98 : UInt8) :: (99 : UInt8) :: (100 : UInt8) :: (101 : UInt8) :: (102 : UInt8) :: (103 : UInt8) :: (104 : UInt8) :: (105 : UInt8) :: (106 : UInt8) :: (107 : UInt8) :: (108 : UInt8) :: (109 : UInt8) :: (110 : UInt8) :: (111 : UInt8) :: (112 : UInt8) :: (113 : UInt8) :: (114 : UInt8) :: (115 : UInt8) :: (116 : UInt8) :: (117 : UInt8) :: (118 : UInt8) :: (119 : UInt8) :: (120 : UInt8) :: (121 : UInt8) :: (122 : UInt8) :: (48 : UInt8) :: (49 : UInt8) :: (50 : UInt8) :: (51 : UInt8) :: (52 : UInt8) :: (53 : UInt8) :: (54 : UInt8) :: (55 : UInt8) :: (56 : UInt8) :: (57 : UInt8) :: (43 : UInt8) :: (47 : UInt8) :: [])) (293 : Nat))) :: (PySem.DictEntry.mk (PySem.PyData.keyHash P (PySem.Str.ofString "_b64_value")) (PySem.Value.str (PySem.Str.ofString "_b64_value") (301 : Nat)) (PySem.Value.ref (98 : Nat))) :: (PySem.DictEntry.mk (PySem.PyData.keyHash P (PySem.Str.ofString "a2b_base64")) (PySem.Value.str (PySem.Str.ofString "a2b_base64") (317 : Nat)) (PySem.Value.ref (106 : Nat))) :: (PySem.DictEntry.mk (PySem.PyData.keyHash P (PySem.Str.ofString "b2a_base64")) (PySem.Value.str (PySem.Str.ofString "b2a_base64") (331 : Nat)) (PySem.Value.ref (114 : Nat))) :: (PySem.DictEntry.mk (PySem.PyData.keyHash P (PySem.Str.ofString "b64encode")) (PySem.Value.str (PySem.Str.ofString "b64encode") (342 : Nat)) (PySem.Value.ref (122 : Nat))) :: (PySem.DictEntry.mk (PySem.PyData.keyHash P (PySem.Str.ofString "b64decode")) (PySem.Value.str (PySem.Str.ofString "b64decode") (351 : Nat)) (PySem.Value.ref (130 : Nat))) :: (PySem.DictEntry.mk (PySem.PyData.keyHash P (PySem.Str.ofString "_parse_varint")) (PySem.Value.str (PySem.Str.ofString "_parse_varint") (362 : Nat)) (PySem.Value.ref (137 : Nat))) :: (PySem.DictEntry.mk (PySem.PyData.keyHash P (PySem.Str.ofString "_law_signs")) (PySem.Value.str (PySem.Str.ofString "_law_signs") (370 : Nat)) (PySem.Value.ref (144 : Nat))) :: (PySem.DictEntry.mk (PySem.PyData.keyHash P (PySem.Str.ofString "_law_octets")) (PySem.Value.str (PySem.Str.ofString "_law_octets") (378 : Nat)) (PySem.Value.ref (151 : Nat))) :: (PySem.DictEntry.mk (PySem.PyData.keyHash P (PySem.Str.ofString "_law_text")) (PySem.Value.str (PySem.Str.ofString "_law_text") (384 : Nat)) (PySem.Value.ref (156 : Nat))) :: (PySem.DictEntry.mk (PySem.PyData.keyHash P (PySem.Str.ofString "_law_row")) (PySem.Value.str (PySem.Str.ofString "_law_row") (390 : Nat)) (PySem.Value.ref (161 : Nat))) :: (PySem.DictEntry.mk (PySem.PyData.keyHash P (PySem.Str.ofString "_law_put")) (PySem.Value.str (PySem.Str.ofString "_law_put") (396 : Nat)) (PySem.Value.ref (166 : Nat))) :: (PySem.DictEntry.mk (PySem.PyData.keyHash P (PySem.Str.ofString "_law_spread")) (PySem.Value.str (PySem.Str.ofString "_law_spread") (402 : Nat)) (PySem.Value.ref (171 : Nat))) :: (PySem.DictEntry.mk (PySem.PyData.keyHash P (PySem.Str.ofString "_law_read")) (PySem.Value.str (PySem.Str.ofString "_law_read") (408 : Nat)) (PySem.Value.ref (176 : Nat))) :: (PySem.DictEntry.mk (PySem.PyData.keyHash P (PySem.Str.ofString "law")) (PySem.Value.str (PySem.Str.ofString "law") (414 : Nat)) (PySem.Value.ref (181 : Nat))) :: [])) (35 : Nat)) (List.toArray (@List.nil (Option PySem.Value))))) ::
   ((nat_lit 20), (PySem.Obj.mk (PySem.Value.type "code") (@Option.none Nat) (PySem.Data.fields (List.toArray [(PySem.Value.str (PySem.Str.ofString "_wall") (187 : Nat)), (PySem.Value.str (PySem.Str.ofString "_wall") (188 : Nat)), (PySem.Value.str (PySem.Str.ofString "/claim/cut.py") (189 : Nat)), (PySem.Value.int (1 : Int) (0 : Nat)), (PySem.Value.int (1 : Int) (0 : Nat)), (PySem.Value.int (0 : Int) (0 : Nat)), (PySem.Value.int (0 : Int) (0 : Nat)), (PySem.Value.int (3 : Int) (0 : Nat)), (PySem.Value.ref (15 : Nat)), (PySem.Value.bool Bool.true), (PySem.Value.int (181 : Int) (0 : Nat)), (PySem.Value.ref (16 : Nat)), PySem.Value.none, (PySem.Value.ref (17 : Nat)), (PySem.Value.ref (18 : Nat)), (PySem.Value.ref (19 : Nat)), (PySem.Value.int (191 : Int) (0 : Nat)), (PySem.Value.int (1 : Int) (0 : Nat)), (PySem.Value.str (PySem.Str.ofString "/claim/cut.py") (192 : Nat))])) (List.toArray (@List.nil (Option PySem.Value))))) ::
   ((nat_lit 21), (PySem.Obj.mk (PySem.Value.type "function") (@Option.none Nat) (PySem.Data.func (PySem.FuncData.mk (PySem.Str.ofString "_wall") (PySem.Str.ofString "_wall") (by refine (?f1 : (b : Arguments) → fPar (stm 0) = b → Arguments) ?b1 ?h1; (case h1 => (conv => lhs; whnf) <;> exact rfl); (case f1 => exact fun b _ => b)) (PySem.FuncBody.stmts (by refine (?f24 : (b : List Stmt) → fBod (stm 0) = b → List Stmt) ?b24 ?h24; (case h24 => (conv => lhs; whnf) <;> exact rfl); (case f24 => exact fun b _ => b))) (by refine (?f47 : (b : Scope) → fSco (stm 0) = b → Scope) ?b47 ?h47; (case h47 => (conv => lhs; whnf) <;> exact rfl); (case f47 => exact fun b _ => b)) (3 : Nat) (@List.nil (Prod PySem.Str Nat)) PySem.Value.none PySem.Value.none PySem.Value.none (PySem.Value.str (PySem.Str.ofString "__main__") (164 : Nat)) (@Option.none Nat) (PySem.Value.ref (20 : Nat)) PySem.Value.none (0 : Nat))) (List.toArray (@List.nil (Option PySem.Value))))) ::
   ((nat_lit 27), (PySem.Obj.mk (PySem.Value.type "code") (@Option.none Nat) (PySem.Data.fields (List.toArray [(PySem.Value.str (PySem.Str.ofString "heapreplace") (196 : Nat)), (PySem.Value.str (PySem.Str.ofString "heapreplace") (197 : Nat)), (PySem.Value.str (PySem.Str.ofString "/claim/cut.py") (198 : Nat)), (PySem.Value.int (5 : Int) (0 : Nat)), (PySem.Value.int (2 : Int) (0 : Nat)), (PySem.Value.int (0 : Int) (0 : Nat)), (PySem.Value.int (0 : Int) (0 : Nat)), (PySem.Value.int (3 : Int) (0 : Nat)), (PySem.Value.ref (22 : Nat)), (PySem.Value.bool Bool.true), (PySem.Value.int (181 : Int) (0 : Nat)), (PySem.Value.ref (23 : Nat)), PySem.Value.none, (PySem.Value.ref (24 : Nat)), (PySem.Value.ref (25 : Nat)), (PySem.Value.ref (26 : Nat)), (PySem.Value.int (202 : Int) (0 : Nat)), (PySem.Value.int (5 : Int) (0 : Nat)), (PySem.Value.str (PySem.Str.ofString "/claim/cut.py") (203 : Nat))])) (List.toArray (@List.nil (Option PySem.Value))))) ::
   ((nat_lit 28), (PySem.Obj.mk (PySem.Value.type "function") (@Option.none Nat) (PySem.Data.func (PySem.FuncData.mk (PySem.Str.ofString "heapreplace") (PySem.Str.ofString "heapreplace") (by refine (?f2 : (b : Arguments) → fPar (stm 2) = b → Arguments) ?b2 ?h2; (case h2 => (conv => lhs; whnf) <;> exact rfl); (case f2 => exact fun b _ => b)) (PySem.FuncBody.stmts (by refine (?f25 : (b : List Stmt) → fBod (stm 2) = b → List Stmt) ?b25 ?h25; (case h25 => (conv => lhs; whnf) <;> exact rfl); (case f25 => exact fun b _ => b))) (by refine (?f48 : (b : Scope) → fSco (stm 2) = b → Scope) ?b48 ?h48; (case h48 => (conv => lhs; whnf) <;> exact rfl); (case f48 => exact fun b _ => b)) (3 : Nat) (@List.nil (Prod PySem.Str Nat)) PySem.Value.none PySem.Value.none PySem.Value.none (PySem.Value.str (PySem.Str.ofString "cpy313.heapq") (194 : Nat)) (@Option.none Nat) (PySem.Value.ref (27 : Nat)) PySem.Value.none (0 : Nat))) (List.toArray (@List.nil (Option PySem.Value))))) ::
   ((nat_lit 34), (PySem.Obj.mk (PySem.Value.type "code") (@Option.none Nat) (PySem.Data.fields (List.toArray [(PySem.Value.str (PySem.Str.ofString "heapify") (205 : Nat)), (PySem.Value.str (PySem.Str.ofString "heapify") (206 : Nat)), (PySem.Value.str (PySem.Str.ofString "/claim/cut.py") (207 : Nat)), (PySem.Value.int (10 : Int) (0 : Nat)), (PySem.Value.int (1 : Int) (0 : Nat)), (PySem.Value.int (0 : Int) (0 : Nat)), (PySem.Value.int (0 : Int) (0 : Nat)), (PySem.Value.int (3 : Int) (0 : Nat)), (PySem.Value.ref (29 : Nat)), (PySem.Value.bool Bool.true), (PySem.Value.int (181 : Int) (0 : Nat)), (PySem.Value.ref (30 : Nat)), PySem.Value.none, (PySem.Value.ref (31 : Nat)), (PySem.Value.ref (32 : Nat)), (PySem.Value.ref (33 : Nat)), (PySem.Value.int (211 : Int) (0 : Nat)), (PySem.Value.int (10 : Int) (0 : Nat)), (PySem.Value.str (PySem.Str.ofString "/claim/cut.py") (212 : Nat))])) (List.toArray (@List.nil (Option PySem.Value))))) ::
   ((nat_lit 35), (PySem.Obj.mk (PySem.Value.type "function") (@Option.none Nat) (PySem.Data.func (PySem.FuncData.mk (PySem.Str.ofString "heapify") (PySem.Str.ofString "heapify") (by refine (?f3 : (b : Arguments) → fPar (stm 3) = b → Arguments) ?b3 ?h3; (case h3 => (conv => lhs; whnf) <;> exact rfl); (case f3 => exact fun b _ => b)) (PySem.FuncBody.stmts (by refine (?f26 : (b : List Stmt) → fBod (stm 3) = b → List Stmt) ?b26 ?h26; (case h26 => (conv => lhs; whnf) <;> exact rfl); (case f26 => exact fun b _ => b))) (by refine (?f49 : (b : Scope) → fSco (stm 3) = b → Scope) ?b49 ?h49; (case h49 => (conv => lhs; whnf) <;> exact rfl); (case f49 => exact fun b _ => b)) (3 : Nat) (@List.nil (Prod PySem.Str Nat)) PySem.Value.none PySem.Value.none PySem.Value.none (PySem.Value.str (PySem.Str.ofString "cpy313.heapq") (194 : Nat)) (@Option.none Nat) (PySem.Value.ref (34 : Nat)) PySem.Value.none (0 : Nat))) (List.toArray (@List.nil (Option PySem.Value))))) ::
   ((nat_lit 41), (PySem.Obj.mk (PySem.Value.type "code") (@Option.none Nat) (PySem.Data.fields (List.toArray [(PySem.Value.str (PySem.Str.ofString "_siftdown") (214 : Nat)), (PySem.Value.str (PySem.Str.ofString "_siftdown") (215 : Nat)), (PySem.Value.str (PySem.Str.ofString "/claim/cut.py") (216 : Nat)), (PySem.Value.int (14 : Int) (0 : Nat)), (PySem.Value.int (3 : Int) (0 : Nat)), (PySem.Value.int (0 : Int) (0 : Nat)), (PySem.Value.int (0 : Int) (0 : Nat)), (PySem.Value.int (3 : Int) (0 : Nat)), (PySem.Value.ref (36 : Nat)), (PySem.Value.bool Bool.true), (PySem.Value.int (181 : Int) (0 : Nat)), (PySem.Value.ref (37 : Nat)), PySem.Value.none, (PySem.Value.ref (38 : Nat)), (PySem.Value.ref (39 : Nat)), (PySem.Value.ref (40 : Nat)), (PySem.Value.int (223 : Int) (0 : Nat)), (PySem.Value.int (14 : Int) (0 : Nat)), (PySem.Value.str (PySem.Str.ofString "/claim/cut.py") (224 : Nat))])) (List.toArray (@List.nil (Option PySem.Value))))) ::
   ((nat_lit 42), (PySem.Obj.mk (PySem.Value.type "function") (@Option.none Nat) (PySem.Data.func (PySem.FuncData.mk (PySem.Str.ofString "_siftdown") (PySem.Str.ofString "_siftdown") (by refine (?f4 : (b : Arguments) → fPar (stm 4) = b → Arguments) ?b4 ?h4; (case h4 => (conv => lhs; whnf) <;> exact rfl); (case f4 => exact fun b _ => b)) (PySem.FuncBody.stmts (by refine (?f27 : (b : List Stmt) → fBod (stm 4) = b → List Stmt) ?b27 ?h27; (case h27 => (conv => lhs; whnf) <;> exact rfl); (case f27 => exact fun b _ => b))) (by refine (?f50 : (b : Scope) → fSco (stm 4) = b → Scope) ?b50 ?h50; (case h50 => (conv => lhs; whnf) <;> exact rfl); (case f50 => exact fun b _ => b)) (3 : Nat) (@List.nil (Prod PySem.Str Nat)) PySem.Value.none PySem.Value.none PySem.Value.none (PySem.Value.str (PySem.Str.ofString "cpy313.heapq") (194 : Nat)) (@Option.none Nat) (PySem.Value.ref (41 : Nat)) PySem.Value.none (0 : Nat))) (List.toArray (@List.nil (Option PySem.Value))))) ::
   ((nat_lit 48), (PySem.Obj.mk (PySem.Value.type "code") (@Option.none Nat) (PySem.Data.fields (List.toArray [(PySem.Value.str (PySem.Str.ofString "_siftup") (226 : Nat)), (PySem.Value.str (PySem.Str.ofString "_siftup") (227 : Nat)), (PySem.Value.str (PySem.Str.ofString "/claim/cut.py") (228 : Nat)), (PySem.Value.int (25 : Int) (0 : Nat)), (PySem.Value.int (2 : Int) (0 : Nat)), (PySem.Value.int (0 : Int) (0 : Nat)), (PySem.Value.int (0 : Int) (0 : Nat)), (PySem.Value.int (3 : Int) (0 : Nat)), (PySem.Value.ref (43 : Nat)), (PySem.Value.bool Bool.true), (PySem.Value.int (181 : Int) (0 : Nat)), (PySem.Value.ref (44 : Nat)), PySem.Value.none, (PySem.Value.ref (45 : Nat)), (PySem.Value.ref (46 : Nat)), (PySem.Value.ref (47 : Nat)), (PySem.Value.int (236 : Int) (0 : Nat)), (PySem.Value.int (25 : Int) (0 : Nat)), (PySem.Value.str (PySem.Str.ofString "/claim/cut.py") (237 : Nat))])) (List.toArray (@List.nil (Option PySem.Value))))) ::
   ((nat_lit 49), (PySem.Obj.mk (PySem.Value.type "function") (@Option.none Nat) (PySem.Data.func (PySem.FuncData.mk (PySem.Str.ofString "_siftup") (PySem.Str.ofString "_siftup") (by refine (?f5 : (b : Arguments) → fPar (stm 5) = b → Arguments) ?b5 ?h5; (case h5 => (conv => lhs; whnf) <;> exact rfl); (case f5 => exact fun b _ => b)) (PySem.FuncBody.stmts (by refine (?f28 : (b : List Stmt) → fBod (stm 5) = b → List Stmt) ?b28 ?h28; (case h28 => (conv => lhs; whnf) <;> exact rfl); (case f28 => exact fun b _ => b))) (by refine (?f51 : (b : Scope) → fSco (stm 5) = b → Scope) ?b51 ?h51; (case h51 => (conv => lhs; whnf) <;> exact rfl); (case f51 => exact fun b _ => b)) (3 : Nat) (@List.nil (Prod PySem.Str Nat)) PySem.Value.none PySem.Value.none PySem.Value.none (PySem.Value.str (PySem.Str.ofString "cpy313.heapq") (194 : Nat)) (@Option.none Nat) (PySem.Value.ref (48 : Nat)) PySem.Value.none (0 : Nat))) (List.toArray (@List.nil (Option PySem.Value))))) ::
   ((nat_lit 50), (PySem.Obj.mk (PySem.Value.type "tuple") (@Option.none Nat) (PySem.Data.seq (List.toArray [(PySem.Value.type "bytes"), (PySem.Value.type "bytearray")]) (0 : Nat)) (List.toArray (@List.nil (Option PySem.Value))))) ::
   ((nat_lit 56), (PySem.Obj.mk (PySem.Value.type "code") (@Option.none Nat) (PySem.Data.fields (List.toArray [(PySem.Value.str (PySem.Str.ofString "_bytes_from_decode_data") (242 : Nat)), (PySem.Value.str (PySem.Str.ofString "_bytes_from_decode_data") (243 : Nat)), (PySem.Value.str (PySem.Str.ofString "/claim/cut.py") (244 : Nat)), (PySem.Value.int (41 : Int) (0 : Nat)), (PySem.Value.int (1 : Int) (0 : Nat)), (PySem.Value.int (0 : Int) (0 : Nat)), (PySem.Value.int (0 : Int) (0 : Nat)), (PySem.Value.int (3 : Int) (0 : Nat)), (PySem.Value.ref (51 : Nat)), (PySem.Value.bool Bool.true), (PySem.Value.int (181 : Int) (0 : Nat)), (PySem.Value.ref (52 : Nat)), PySem.Value.none, (PySem.Value.ref (53 : Nat)), (PySem.Value.ref (54 : Nat)), (PySem.Value.ref (55 : Nat)), (PySem.Value.int (246 : Int) (0 : Nat)), (PySem.Value.int (41 : Int) (0 : Nat)), (PySem.Value.str (PySem.Str.ofString "/claim/cut.py") (247 : Nat))])) (List.toArray (@List.nil (Option PySem.Value))))) ::
   ((nat_lit 57), (PySem.Obj.mk (PySem.Value.type "function") (@Option.none Nat) (PySem.Data.func (PySem.FuncData.mk (PySem.Str.ofString "_bytes_from_decode_data") (PySem.Str.ofString "_bytes_from_decode_data") (by refine (?f6 : (b : Arguments) → fPar (stm 8) = b → Arguments) ?b6 ?h6; (case h6 => (conv => lhs; whnf) <;> exact rfl); (case f6 => exact fun b _ => b)) (PySem.FuncBody.stmts (by refine (?f29 : (b : List Stmt) → fBod (stm 8) = b → List Stmt) ?b29 ?h29; (case h29 => (conv => lhs; whnf) <;> exact rfl); (case f29 => exact fun b _ => b))) (by refine (?f52 : (b : Scope) → fSco (stm 8) = b → Scope) ?b52 ?h52; (case h52 => (conv => lhs; whnf) <;> exact rfl); (case f52 => exact fun b _ => b)) (3 : Nat) (@List.nil (Prod PySem.Str Nat)) PySem.Value.none PySem.Value.none PySem.Value.none (PySem.Value.str (PySem.Str.ofString "cpy313.base64") (239 : Nat)) (@Option.none Nat) (PySem.Value.ref (56 : Nat)) PySem.Value.none (0 : Nat))) (List.toArray (@List.nil (Option PySem.Value))))) ::
   ((nat_lit 58), (PySem.Obj.mk (PySem.Value.type "tuple") (@Option.none Nat) (PySem.Data.seq (List.toArray [(PySem.Value.type "ValueError")]) (0 : Nat)) (List.toArray (@List.nil (Option PySem.Value))))) ::
   ((nat_lit 65), (PySem.Obj.mk (PySem.Value.type "tuple") (@Option.none Nat) (PySem.Data.seq (List.toArray (@List.nil PySem.Value)) (0 : Nat)) (List.toArray (@List.nil (Option PySem.Value))))) ::
   ((nat_lit 66), (PySem.Obj.mk (PySem.Value.type "dict") (@Option.none Nat) (PySem.Data.dict (List.toArray [(PySem.DictEntry.mk (PySem.PyData.keyHash P (PySem.Str.ofString "__module__")) (PySem.Value.str (PySem.Str.ofString "__module__") (258 : Nat)) (PySem.Value.str (PySem.Str.ofString "binascii") (249 : Nat))), (PySem.DictEntry.mk (PySem.PyData.keyHash P (PySem.Str.ofString "__firstlineno__")) (PySem.Value.str (PySem.Str.ofString "__firstlineno__") (262 : Nat)) (PySem.Value.int (54 : Int) (261 : Nat))), (PySem.DictEntry.mk (PySem.PyData.keyHash P (PySem.Str.ofString "__static_attributes__")) (PySem.Value.str (PySem.Str.ofString "__static_attributes__") (263 : Nat)) (PySem.Value.ref (65 : Nat))), (PySem.DictEntry.mk (PySem.PyData.keyHash P (PySem.Str.ofString "__weakref__")) (PySem.Value.str (PySem.Str.ofString "__weakref__") (265 : Nat)) (PySem.Value.ref (68 : Nat))), (PySem.DictEntry.mk (PySem.PyData.keyHash P (PySem.Str.ofString "__doc__")) (PySem.Value.str (PySem.Str.ofString "__doc__") (266 : Nat)) PySem.Value.none)]) (3 : Nat)) (List.toArray (@List.nil (Option PySem.Value))))) ::
   ((nat_lit 67), (PySem.Obj.mk (PySem.Value.type "type") (@Option.none Nat) (PySem.Data.cls (PySem.ClassData.mk (PySem.Str.ofString "Error") [(PySem.Value.type "ValueError")] [(PySem.Value.ref (67 : Nat)), (PySem.Value.type "ValueError"), (PySem.Value.type "Exception"), (PySem.Value.type "BaseException"), (PySem.Value.type "object")] (66 : Nat) (PySem.Str.ofString "Error") Bool.true (@List.nil PySem.Str) (@List.nil PySem.Value) Bool.false (@Option.none Bool) Bool.false)) (List.toArray [(Option.some (PySem.Value.ref (58 : Nat))), (@Option.none PySem.Value), (Option.some (PySem.Value.str (PySem.Str.ofString "Error") (251 : Nat))), (Option.some (PySem.Value.str (PySem.Str.ofString "Error") (259 : Nat))), (Option.some (PySem.Value.builtin "ValueError.__new__")), (Option.some (PySem.Value.bool Bool.true))]))) ::
   ((nat_lit 68), (PySem.Obj.mk (PySem.Value.type "getset_descriptor") (@Option.none Nat) (PySem.Data.fields (List.toArray [(PySem.Value.str (PySem.Str.ofString "__weakref__") (264 : Nat)), (PySem.Value.ref (67 : Nat)), (PySem.Value.builtin "ExceptionGroup.__weakref__"), PySem.Value.none])) (List.toArray (@List.nil (Option PySem.Value))))) ::
   ((nat_lit 76), (PySem.Obj.mk (PySem.Value.type "code") (@Option.none Nat) (PySem.Data.fields (List.toArray [(PySem.Value.str (PySem.Str.ofString "_ascii_buffer") (269 : Nat)), (PySem.Value.str (PySem.Str.ofString "_ascii_buffer") (270 : Nat)), (PySem.Value.str (PySem.Str.ofString "/claim/cut.py") (271 : Nat)), (PySem.Value.int (56 : Int) (0 : Nat)), (PySem.Value.int (1 : Int) (0 : Nat)), (PySem.Value.int (0 : Int) (0 : Nat)), (PySem.Value.int (0 : Int) (0 : Nat)), (PySem.Value.int (3 : Int) (0 : Nat)), (PySem.Value.ref (71 : Nat)), (PySem.Value.bool Bool.true), (PySem.Value.int (181 : Int) (0 : Nat)), (PySem.Value.ref (72 : Nat)), PySem.Value.none, (PySem.Value.ref (73 : Nat)), (PySem.Value.ref (74 : Nat)), (PySem.Value.ref (75 : Nat)), (PySem.Value.int (274 : Int) (0 : Nat)), (PySem.Value.int (56 : Int) (0 : Nat)), (PySem.Value.str (PySem.Str.ofString "/claim/cut.py") (275 : Nat))])) (List.toArray (@List.nil (Option PySem.Value))))) ::
   ((nat_lit 77), (PySem.Obj.mk (PySem.Value.type "function") (@Option.none Nat) (PySem.Data.func (PySem.FuncData.mk (PySem.Str.ofString "_ascii_buffer") (PySem.Str.ofString "_ascii_buffer") (by refine (?f7 : (b : Arguments) → fPar (stm 11) = b → Arguments) ?b7 ?h7; (case h7 => (conv => lhs; whnf) <;> exact rfl); (case f7 => exact fun b _ => b)) (PySem.FuncBody.stmts (by refine (?f30 : (b : List Stmt) → fBod (stm 11) = b → List Stmt) ?b30 ?h30; (case h30 => (conv => lhs; whnf) <;> exact rfl); (case f30 => exact fun b _ => b))) (by refine (?f53 : (b : Scope) → fSco (stm 11) = b → Scope) ?b53 ?h53; (case h53 => (conv => lhs; whnf) <;> exact rfl); (case f53 => exact fun b _ => b)) (3 : Nat) (@List.nil (Prod PySem.Str Nat)) PySem.Value.none PySem.Value.none PySem.Value.none (PySem.Value.str (PySem.Str.ofString "binascii") (249 : Nat)) (@Option.none Nat) (PySem.Value.ref (76 : Nat)) PySem.Value.none (0 : Nat))) (List.toArray (@List.nil (Option PySem.Value))))) ::
   ((nat_lit 83), (PySem.Obj.mk (PySem.Value.type "code") (@Option.none Nat) (PySem.Data.fields (List.toArray [(PySem.Value.str (PySem.Str.ofString "_buffer") (277 : Nat)), (PySem.Value.str (PySem.Str.ofString "_buffer") (278 : Nat)), (PySem.Value.str (PySem.Str.ofString "/claim/cut.py") (279 : Nat)), (PySem.Value.int (67 : Int) (0 : Nat)), (PySem.Value.int (1 : Int) (0 : Nat)), (PySem.Value.int (0 : Int) (0 : Nat)), (PySem.Value.int (0 : Int) (0 : Nat)), (PySem.Value.int (3 : Int) (0 : Nat)), (PySem.Value.ref (78 : Nat)), (PySem.Value.bool Bool.true), (PySem.Value.int (181 : Int) (0 : Nat)), (PySem.Value.ref (79 : Nat)), PySem.Value.none, (PySem.Value.ref (80 : Nat)), (PySem.Value.ref (81 : Nat)), (PySem.Value.ref (82 : Nat)), (PySem.Value.int (282 : Int) (0 : Nat)), (PySem.Value.int (67 : Int) (0 : Nat)), (PySem.Value.str (PySem.Str.ofString "/claim/cut.py") (283 : Nat))])) (List.toArray (@List.nil (Option PySem.Value))))) ::
   ((nat_lit 84), (PySem.Obj.mk (PySem.Value.type "function") (@Option.none Nat) (PySem.Data.func (PySem.FuncData.mk (PySem.Str.ofString "_buffer") (PySem.Str.ofString "_buffer") (by refine (?f8 : (b : Arguments) → fPar (stm 12) = b → Arguments) ?b8 ?h8; (case h8 => (conv => lhs; whnf) <;> exact rfl); (case f8 => exact fun b _ => b)) (PySem.FuncBody.stmts (by refine (?f31 : (b : List Stmt) → fBod (stm 12) = b → List Stmt) ?b31 ?h31; (case h31 => (conv => lhs; whnf) <;> exact rfl); (case f31 => exact fun b _ => b))) (by refine (?f54 : (b : Scope) → fSco (stm 12) = b → Scope) ?b54 ?h54; (case h54 => (conv => lhs; whnf) <;> exact rfl); (case f54 => exact fun b _ => b)) (3 : Nat) (@List.nil (Prod PySem.Str Nat)) PySem.Value.none PySem.Value.none PySem.Value.none (PySem.Value.str (PySem.Str.ofString "binascii") (249 : Nat)) (@Option.none Nat) (PySem.Value.ref (83 : Nat)) PySem.Value.none (0 : Nat))) (List.toArray (@List.nil (Option PySem.Value))))) ::
   ((nat_lit 90), (PySem.Obj.mk (PySem.Value.type "code") (@Option.none Nat) (PySem.Data.fields (List.toArray [(PySem.Value.str (PySem.Str.ofString "_truth") (285 : Nat)), (PySem.Value.str (PySem.Str.ofString "_truth") (286 : Nat)), (PySem.Value.str (PySem.Str.ofString "/claim/cut.py") (287 : Nat)), (PySem.Value.int (74 : Int) (0 : Nat)), (PySem.Value.int (1 : Int) (0 : Nat)), (PySem.Value.int (0 : Int) (0 : Nat)), (PySem.Value.int (0 : Int) (0 : Nat)), (PySem.Value.int (3 : Int) (0 : Nat)), (PySem.Value.ref (85 : Nat)), (PySem.Value.bool Bool.true), (PySem.Value.int (181 : Int) (0 : Nat)), (PySem.Value.ref (86 : Nat)), PySem.Value.none, (PySem.Value.ref (87 : Nat)), (PySem.Value.ref (88 : Nat)), (PySem.Value.ref (89 : Nat)), (PySem.Value.int (290 : Int) (0 : Nat)), (PySem.Value.int (74 : Int) (0 : Nat)), (PySem.Value.str (PySem.Str.ofString "/claim/cut.py") (291 : Nat))])) (List.toArray (@List.nil (Option PySem.Value))))) ::
   ((nat_lit 91), (PySem.Obj.mk (PySem.Value.type "function") (@Option.none Nat) (PySem.Data.func (PySem.FuncData.mk (PySem.Str.ofString "_truth") (PySem.Str.ofString "_truth") (by refine (?f9 : (b : Arguments) → fPar (stm 13) = b → Arguments) ?b9 ?h9; (case h9 => (conv => lhs; whnf) <;> exact rfl); (case f9 => exact fun b _ => b)) (PySem.FuncBody.stmts (by refine (?f32 : (b : List Stmt) → fBod (stm 13) = b → List Stmt) ?b32 ?h32; (case h32 => (conv => lhs; whnf) <;> exact rfl); (case f32 => exact fun b _ => b))) (by refine (?f55 : (b : Scope) → fSco (stm 13) = b → Scope) ?b55 ?h55; (case h55 => (conv => lhs; whnf) <;> exact rfl); (case f55 => exact fun b _ => b)) (3 : Nat) (@List.nil (Prod PySem.Str Nat)) PySem.Value.none PySem.Value.none PySem.Value.none (PySem.Value.str (PySem.Str.ofString "binascii") (249 : Nat)) (@Option.none Nat) (PySem.Value.ref (90 : Nat)) PySem.Value.none (0 : Nat))) (List.toArray (@List.nil (Option PySem.Value))))) ::
   ((nat_lit 97), (PySem.Obj.mk (PySem.Value.type "code") (@Option.none Nat) (PySem.Data.fields (List.toArray [(PySem.Value.str (PySem.Str.ofString "_b64_value") (295 : Nat)), (PySem.Value.str (PySem.Str.ofString "_b64_value") (296 : Nat)), (PySem.Value.str (PySem.Str.ofString "/claim/cut.py") (297 : Nat)), (PySem.Value.int (80 : Int) (0 : Nat)), (PySem.Value.int (1 : Int) (0 : Nat)), (PySem.Value.int (0 : Int) (0 : Nat)), (PySem.Value.int (0 : Int) (0 : Nat)), (PySem.Value.int (3 : Int) (0 : Nat)), (PySem.Value.ref (92 : Nat)), (PySem.Value.bool Bool.true), (PySem.Value.int (181 : Int) (0 : Nat)), (PySem.Value.ref (93 : Nat)), PySem.Value.none, (PySem.Value.ref (94 : Nat)), (PySem.Value.ref (95 : Nat)), (PySem.Value.ref (96 : Nat)), (PySem.Value.int (299 : Int) (0 : Nat)), (PySem.Value.int (80 : Int) (0 : Nat)), (PySem.Value.str (PySem.Str.ofString "/claim/cut.py") (300 : Nat))])) (List.toArray (@List.nil (Option PySem.Value))))) ::
   ((nat_lit 98), (PySem.Obj.mk (PySem.Value.type "function") (@Option.none Nat) (PySem.Data.func (PySem.FuncData.mk (PySem.Str.ofString "_b64_value") (PySem.Str.ofString "_b64_value") (by refine (?f10 : (b : Arguments) → fPar (stm 15) = b → Arguments) ?b10 ?h10; (case h10 => (conv => lhs; whnf) <;> exact rfl); (case f10 => exact fun b _ => b)) (PySem.FuncBody.stmts (by refine (?f33 : (b : List Stmt) → fBod (stm 15) = b → List Stmt) ?b33 ?h33; (case h33 => (conv => lhs; whnf) <;> exact rfl); (case f33 => exact fun b _ => b))) (by refine (?f56 : (b : Scope) → fSco (stm 15) = b → Scope) ?b56 ?h56; (case h56 => (conv => lhs; whnf) <;> exact rfl); (case f56 => exact fun b _ => b)) (3 : Nat) (@List.nil (Prod PySem.Str Nat)) PySem.Value.none PySem.Value.none PySem.Value.none (PySem.Value.str (PySem.Str.ofString "binascii") (249 : Nat)) (@Option.none Nat) (PySem.Value.ref (97 : Nat)) PySem.Value.none (0 : Nat))) (List.toArray (@List.nil (Option PySem.Value))))) ::
   ((nat_lit 99), (PySem.Obj.mk (PySem.Value.type "dict") (@Option.none Nat) (PySem.Data.dict (List.toArray [(PySem.DictEntry.mk (PySem.PyData.keyHash P (PySem.Str.ofString "strict_mode")) (PySem.Value.str (PySem.Str.ofString "strict_mode") (302 : Nat)) (PySem.Value.bool Bool.false))]) (1 : Nat)) (List.toArray (@List.nil (Option PySem.Value))))) ::
   ((nat_lit 105), (PySem.Obj.mk (PySem.Value.type "code") (@Option.none Nat) (PySem.Data.fields (List.toArray [(PySem.Value.str (PySem.Str.ofString "a2b_base64") (303 : Nat)), (PySem.Value.str (PySem.Str.ofString "a2b_base64") (304 : Nat)), (PySem.Value.str (PySem.Str.ofString "/claim/cut.py") (305 : Nat)), (PySem.Value.int (92 : Int) (0 : Nat)), (PySem.Value.int (1 : Int) (0 : Nat)), (PySem.Value.int (1 : Int) (0 : Nat)), (PySem.Value.int (1 : Int) (0 : Nat)), (PySem.Value.int (3 : Int) (0 : Nat)), (PySem.Value.ref (100 : Nat)), (PySem.Value.bool Bool.true), (PySem.Value.int (181 : Int) (0 : Nat)), (PySem.Value.ref (101 : Nat)), PySem.Value.none, (PySem.Value.ref (102 : Nat)), (PySem.Value.ref (103 : Nat)), (PySem.Value.ref (104 : Nat)), (PySem.Value.int (315 : Int) (0 : Nat)), (PySem.Value.int (92 : Int) (0 : Nat)), (PySem.Value.str (PySem.Str.ofString "/claim/cut.py") (316 : Nat))])) (List.toArray (@List.nil (Option PySem.Value))))) ::
   ((nat_lit 106), (PySem.Obj.mk (PySem.Value.type "function") (@Option.none Nat) (PySem.Data.func (PySem.FuncData.mk (PySem.Str.ofString "a2b_base64") (PySem.Str.ofString "a2b_base64") (by refine (?f11 : (b : Arguments) → fPar (stm 16) = b → Arguments) ?b11 ?h11; (case h11 => (conv => lhs; whnf) <;> exact rfl); (case f11 => exact fun b _ => b)) (PySem.FuncBody.stmts (by refine (?f34 : (b : List Stmt) → fBod (stm 16) = b → List Stmt) ?b34 ?h34; (case h34 => (conv => lhs; whnf) <;> exact rfl); (case f34 => exact fun b _ => b))) (by refine (?f57 : (b : Scope) → fSco (stm 16) = b → Scope) ?b57 ?h57; (case h57 => (conv => lhs; whnf) <;> exact rfl); (case f57 => exact fun b _ => b)) (3 : Nat) (@List.nil (Prod PySem.Str Nat)) PySem.Value.none (PySem.Value.ref (99 : Nat)) PySem.Value.none (PySem.Value.str (PySem.Str.ofString "binascii") (249 : Nat)) (@Option.none Nat) (PySem.Value.ref (105 : Nat)) PySem.Value.none (0 : Nat))) (List.toArray (@List.nil (Option PySem.Value))))) ::
   ((nat_lit 107), (PySem.Obj.mk (PySem.Value.type "dict") (@Option.none Nat) (PySem.Data.dict (List.toArray [(PySem.DictEntry.mk (PySem.PyData.keyHash P (PySem.Str.ofString "newline")) (PySem.Value.str (PySem.Str.ofString "newline") (318 : Nat)) (PySem.Value.bool Bool.true))]) (1 : Nat)) (List.toArray (@List.nil (Option PySem.Value))))) ::
   ((nat_lit 113), (PySem.Obj.mk (PySem.Value.type "code") (@Option.none Nat) (PySem.Data.fields (List.toArray [(PySem.Value.str (PySem.Str.ofString "b2a_base64") (319 : Nat)), (PySem.Value.str (PySem.Str.ofString "b2a_base64") (320 : Nat)), (PySem.Value.str (PySem.Str.ofString "/claim/cut.py") (321 : Nat)), (PySem.Value.int (146 : Int) (0 : Nat)), (PySem.Value.int (1 : Int) (0 : Nat)), (PySem.Value.int (1 : Int) (0 : Nat)), (PySem.Value.int (1 : Int) (0 : Nat)), (PySem.Value.int (3 : Int) (0 : Nat)), (PySem.Value.ref (108 : Nat)), (PySem.Value.bool Bool.true), (PySem.Value.int (181 : Int) (0 : Nat)), (PySem.Value.ref (109 : Nat)), PySem.Value.none, (PySem.Value.ref (110 : Nat)), (PySem.Value.ref (111 : Nat)), (PySem.Value.ref (112 : Nat)), (PySem.Value.int (329 : Int) (0 : Nat)), (PySem.Value.int (146 : Int) (0 : Nat)), (PySem.Value.str (PySem.Str.ofString "/claim/cut.py") (330 : Nat))])) (List.toArray (@List.nil (Option PySem.Value))))) ::
   ((nat_lit 114), (PySem.Obj.mk (PySem.Value.type "function") (@Option.none Nat) (PySem.Data.func (PySem.FuncData.mk (PySem.Str.ofString "b2a_base64") (PySem.Str.ofString "b2a_base64") (by refine (?f12 : (b : Arguments) → fPar (stm 17) = b → Arguments) ?b12 ?h12; (case h12 => (conv => lhs; whnf) <;> exact rfl); (case f12 => exact fun b _ => b)) (PySem.FuncBody.stmts (by refine (?f35 : (b : List Stmt) → fBod (stm 17) = b → List Stmt) ?b35 ?h35; (case h35 => (conv => lhs; whnf) <;> exact rfl); (case f35 => exact fun b _ => b))) (by refine (?f58 : (b : Scope) → fSco (stm 17) = b → Scope) ?b58 ?h58; (case h58 => (conv => lhs; whnf) <;> exact rfl); (case f58 => exact fun b _ => b)) (3 : Nat) (@List.nil (Prod PySem.Str Nat)) PySem.Value.none (PySem.Value.ref (107 : Nat)) PySem.Value.none (PySem.Value.str (PySem.Str.ofString "binascii") (249 : Nat)) (@Option.none Nat) (PySem.Value.ref (113 : Nat)) PySem.Value.none (0 : Nat))) (List.toArray (@List.nil (Option PySem.Value))))) ::
   ((nat_lit 115), (PySem.Obj.mk (PySem.Value.type "tuple") (@Option.none Nat) (PySem.Data.seq (List.toArray [PySem.Value.none]) (0 : Nat)) (List.toArray (@List.nil (Option PySem.Value))))) ::
   ((nat_lit 121), (PySem.Obj.mk (PySem.Value.type "code") (@Option.none Nat) (PySem.Data.fields (List.toArray [(PySem.Value.str (PySem.Str.ofString "b64encode") (334 : Nat)), (PySem.Value.str (PySem.Str.ofString "b64encode") (335 : Nat)), (PySem.Value.str (PySem.Str.ofString "/claim/cut.py") (336 : Nat)), (PySem.Value.int (169 : Int) (0 : Nat)), (PySem.Value.int (2 : Int) (0 : Nat)), (PySem.Value.int (0 : Int) (0 : Nat)), (PySem.Value.int (0 : Int) (0 : Nat)), (PySem.Value.int (3 : Int) (0 : Nat)), (PySem.Value.ref (116 : Nat)), (PySem.Value.bool Bool.true), (PySem.Value.int (181 : Int) (0 : Nat)), (PySem.Value.ref (117 : Nat)), PySem.Value.none, (PySem.Value.ref (118 : Nat)), (PySem.Value.ref (119 : Nat)), (PySem.Value.ref (120 : Nat)), (PySem.Value.int (340 : Int) (0 : Nat)), (PySem.Value.int (169 : Int) (0 : Nat)), (PySem.Value.str (PySem.Str.ofString "/claim/cut.py") (341 : Nat))])) (List.toArray (@List.nil (Option PySem.Value))))) ::
   ((nat_lit 122), (PySem.Obj.mk (PySem.Value.type "function") (@Option.none Nat) (PySem.Data.func (PySem.FuncData.mk (PySem.Str.ofString "b64encode") (PySem.Str.ofString "b64encode") (by refine (?f13 : (b : Arguments) → fPar (stm 19) = b → Arguments) ?b13 ?h13; (case h13 => (conv => lhs; whnf) <;> exact rfl); (case f13 => exact fun b _ => b)) (PySem.FuncBody.stmts (by refine (?f36 : (b : List Stmt) → fBod (stm 19) = b → List Stmt) ?b36 ?h36; (case h36 => (conv => lhs; whnf) <;> exact rfl); (case f36 => exact fun b _ => b))) (by refine (?f59 : (b : Scope) → fSco (stm 19) = b → Scope) ?b59 ?h59; (case h59 => (conv => lhs; whnf) <;> exact rfl); (case f59 => exact fun b _ => b)) (3 : Nat) (@List.nil (Prod PySem.Str Nat)) (PySem.Value.ref (115 : Nat)) PySem.Value.none PySem.Value.none (PySem.Value.str (PySem.Str.ofString "cpy313.base64") (332 : Nat)) (@Option.none Nat) (PySem.Value.ref (121 : Nat)) PySem.Value.none (0 : Nat))) (List.toArray (@List.nil (Option PySem.Value))))) ::
   ((nat_lit 123), (PySem.Obj.mk (PySem.Value.type "tuple") (@Option.none Nat) (PySem.Data.seq (List.toArray [PySem.Value.none, (PySem.Value.bool Bool.false)]) (0 : Nat)) (List.toArray (@List.nil (Option PySem.Value))))) ::
   ((nat_lit 129), (PySem.Obj.mk (PySem.Value.type "code") (@Option.none Nat) (PySem.Data.fields (List.toArray [(PySem.Value.str (PySem.Str.ofString "b64decode") (343 : Nat)), (PySem.Value.str (PySem.Str.ofString "b64decode") (344 : Nat)), (PySem.Value.str (PySem.Str.ofString "/claim/cut.py") (345 : Nat)), (PySem.Value.int (175 : Int) (0 : Nat)), (PySem.Value.int (3 : Int) (0 : Nat)), (PySem.Value.int (0 : Int) (0 : Nat)), (PySem.Value.int (0 : Int) (0 : Nat)), (PySem.Value.int (3 : Int) (0 : Nat)), (PySem.Value.ref (124 : Nat)), (PySem.Value.bool Bool.true), (PySem.Value.int (181 : Int) (0 : Nat)), (PySem.Value.ref (125 : Nat)), PySem.Value.none, (PySem.Value.ref (126 : Nat)), (PySem.Value.ref (127 : Nat)), (PySem.Value.ref (128 : Nat)), (PySem.Value.int (349 : Int) (0 : Nat)), (PySem.Value.int (175 : Int) (0 : Nat)), (PySem.Value.str (PySem.Str.ofString "/claim/cut.py") (350 : Nat))])) (List.toArray (@List.nil (Option PySem.Value))))) ::
   ((nat_lit 130), (PySem.Obj.mk (PySem.Value.type "function") (@Option.none Nat) (PySem.Data.func (PySem.FuncData.mk (PySem.Str.ofString "b64decode") (PySem.Str.ofString "b64decode") (by refine (?f14 : (b : Arguments) → fPar (stm 20) = b → Arguments) ?b14 ?h14; (case h14 => (conv => lhs; whnf) <;> exact rfl); (case f14 => exact fun b _ => b)) (PySem.FuncBody.stmts (by refine (?f37 : (b : List Stmt) → fBod (stm 20) = b → List Stmt) ?b37 ?h37; (case h37 => (conv => lhs; whnf) <;> exact rfl); (case f37 => exact fun b _ => b))) (by refine (?f60 : (b : Scope) → fSco (stm 20) = b → Scope) ?b60 ?h60; (case h60 => (conv => lhs; whnf) <;> exact rfl); (case f60 => exact fun b _ => b)) (3 : Nat) (@List.nil (Prod PySem.Str Nat)) (PySem.Value.ref (123 : Nat)) PySem.Value.none PySem.Value.none (PySem.Value.str (PySem.Str.ofString "cpy313.base64") (332 : Nat)) (@Option.none Nat) (PySem.Value.ref (129 : Nat)) PySem.Value.none (0 : Nat))) (List.toArray (@List.nil (Option PySem.Value))))) ::
   ((nat_lit 136), (PySem.Obj.mk (PySem.Value.type "code") (@Option.none Nat) (PySem.Data.fields (List.toArray [(PySem.Value.str (PySem.Str.ofString "_parse_varint") (354 : Nat)), (PySem.Value.str (PySem.Str.ofString "_parse_varint") (355 : Nat)), (PySem.Value.str (PySem.Str.ofString "/claim/cut.py") (356 : Nat)), (PySem.Value.int (183 : Int) (0 : Nat)), (PySem.Value.int (1 : Int) (0 : Nat)), (PySem.Value.int (0 : Int) (0 : Nat)), (PySem.Value.int (0 : Int) (0 : Nat)), (PySem.Value.int (3 : Int) (0 : Nat)), (PySem.Value.ref (131 : Nat)), (PySem.Value.bool Bool.true), (PySem.Value.int (181 : Int) (0 : Nat)), (PySem.Value.ref (132 : Nat)), PySem.Value.none, (PySem.Value.ref (133 : Nat)), (PySem.Value.ref (134 : Nat)), (PySem.Value.ref (135 : Nat)), (PySem.Value.int (360 : Int) (0 : Nat)), (PySem.Value.int (183 : Int) (0 : Nat)), (PySem.Value.str (PySem.Str.ofString "/claim/cut.py") (361 : Nat))])) (List.toArray (@List.nil (Option PySem.Value))))) ::
   ((nat_lit 137), (PySem.Obj.mk (PySem.Value.type "function") (@Option.none Nat) (PySem.Data.func (PySem.FuncData.mk (PySem.Str.ofString "_parse_varint") (PySem.Str.ofString "_parse_varint") (by refine (?f15 : (b : Arguments) → fPar (stm 22) = b → Arguments) ?b15 ?h15; (case h15 => (conv => lhs; whnf) <;> exact rfl); (case f15 => exact fun b _ => b)) (PySem.FuncBody.stmts (by refine (?f38 : (b : List Stmt) → fBod (stm 22) = b → List Stmt) ?b38 ?h38; (case h38 => (conv => lhs; whnf) <;> exact rfl); (case f38 => exact fun b _ => b))) (by refine (?f61 : (b : Scope) → fSco (stm 22) = b → Scope) ?b61 ?h61; (case h61 => (conv => lhs; whnf) <;> exact rfl); (case f61 => exact fun b _ => b)) (3 : Nat) (@List.nil (Prod PySem.Str Nat)) PySem.Value.none PySem.Value.none PySem.Value.none (PySem.Value.str (PySem.Str.ofString "cpy313.dis") (352 : Nat)) (@Option.none Nat) (PySem.Value.ref (136 : Nat)) PySem.Value.none (0 : Nat))) (List.toArray (@List.nil (Option PySem.Value))))) ::
   ((nat_lit 143), (PySem.Obj.mk (PySem.Value.type "code") (@Option.none Nat) (PySem.Data.fields (List.toArray [(PySem.Value.str (PySem.Str.ofString "_law_signs") (365 : Nat)), (PySem.Value.str (PySem.Str.ofString "_law_signs") (366 : Nat)), (PySem.Value.str (PySem.Str.ofString "/claim/cut.py") (367 : Nat)), (PySem.Value.int (192 : Int) (0 : Nat)), (PySem.Value.int (0 : Int) (0 : Nat)), (PySem.Value.int (0 : Int) (0 : Nat)), (PySem.Value.int (0 : Int) (0 : Nat)), (PySem.Value.int (3 : Int) (0 : Nat)), (PySem.Value.ref (138 : Nat)), (PySem.Value.bool Bool.true), (PySem.Value.int (181 : Int) (0 : Nat)), (PySem.Value.ref (139 : Nat)), PySem.Value.none, (PySem.Value.ref (140 : Nat)), (PySem.Value.ref (141 : Nat)), (PySem.Value.ref (142 : Nat)), (PySem.Value.int (368 : Int) (0 : Nat)), (PySem.Value.int (192 : Int) (0 : Nat)), (PySem.Value.str (PySem.Str.ofString "/claim/cut.py") (369 : Nat))])) (List.toArray (@List.nil (Option PySem.Value))))) ::
   ((nat_lit 144), (PySem.Obj.mk (PySem.Value.type "function") (@Option.none Nat) (PySem.Data.func (PySem.FuncData.mk (PySem.Str.ofString "_law_signs") (PySem.Str.ofString "_law_signs") (by refine (?f16 : (b : Arguments) → fPar (stm 24) = b → Arguments) ?b16 ?h16; (case h16 => (conv => lhs; whnf) <;> exact rfl); (case f16 => exact fun b _ => b)) (PySem.FuncBody.stmts (by refine (?f39 : (b : List Stmt) → fBod (stm 24) = b → List Stmt) ?b39 ?h39; (case h39 => (conv => lhs; whnf) <;> exact rfl); (case f39 => exact fun b _ => b))) (by refine (?f62 : (b : Scope) → fSco (stm 24) = b → Scope) ?b62 ?h62; (case h62 => (conv => lhs; whnf) <;> exact rfl); (case f62 => exact fun b _ => b)) (3 : Nat) (@List.nil (Prod PySem.Str Nat)) PySem.Value.none PySem.Value.none PySem.Value.none (PySem.Value.str (PySem.Str.ofString "law_oy0067_01") (363 : Nat)) (@Option.none Nat) (PySem.Value.ref (143 : Nat)) PySem.Value.none (0 : Nat))) (List.toArray (@List.nil (Option PySem.Value))))) ::
   ((nat_lit 150), (PySem.Obj.mk (PySem.Value.type "code") (@Option.none Nat) (PySem.Data.fields (List.toArray [(PySem.Value.str (PySem.Str.ofString "_law_octets") (371 : Nat)), (PySem.Value.str (PySem.Str.ofString "_law_octets") (372 : Nat)), (PySem.Value.str (PySem.Str.ofString "/claim/cut.py") (373 : Nat)), (PySem.Value.int (194 : Int) (0 : Nat)), (PySem.Value.int (1 : Int) (0 : Nat)), (PySem.Value.int (0 : Int) (0 : Nat)), (PySem.Value.int (0 : Int) (0 : Nat)), (PySem.Value.int (3 : Int) (0 : Nat)), (PySem.Value.ref (145 : Nat)), (PySem.Value.bool Bool.true), (PySem.Value.int (181 : Int) (0 : Nat)), (PySem.Value.ref (146 : Nat)), PySem.Value.none, (PySem.Value.ref (147 : Nat)), (PySem.Value.ref (148 : Nat)), (PySem.Value.ref (149 : Nat)), (PySem.Value.int (376 : Int) (0 : Nat)), (PySem.Value.int (194 : Int) (0 : Nat)), (PySem.Value.str (PySem.Str.ofString "/claim/cut.py") (377 : Nat))])) (List.toArray (@List.nil (Option PySem.Value))))) ::
   ((nat_lit 151), (PySem.Obj.mk (PySem.Value.type "function") (@Option.none Nat) (PySem.Data.func (PySem.FuncData.mk (PySem.Str.ofString "_law_octets") (PySem.Str.ofString "_law_octets") (by refine (?f17 : (b : Arguments) → fPar (stm 25) = b → Arguments) ?b17 ?h17; (case h17 => (conv => lhs; whnf) <;> exact rfl); (case f17 => exact fun b _ => b)) (PySem.FuncBody.stmts (by refine (?f40 : (b : List Stmt) → fBod (stm 25) = b → List Stmt) ?b40 ?h40; (case h40 => (conv => lhs; whnf) <;> exact rfl); (case f40 => exact fun b _ => b))) (by refine (?f63 : (b : Scope) → fSco (stm 25) = b → Scope) ?b63 ?h63; (case h63 => (conv => lhs; whnf) <;> exact rfl); (case f63 => exact fun b _ => b)) (3 : Nat) (@List.nil (Prod PySem.Str Nat)) PySem.Value.none PySem.Value.none PySem.Value.none (PySem.Value.str (PySem.Str.ofString "law_oy0067_01") (363 : Nat)) (@Option.none Nat) (PySem.Value.ref (150 : Nat)) PySem.Value.none (0 : Nat))) (List.toArray (@List.nil (Option PySem.Value))))) ::
   ((nat_lit 155), (PySem.Obj.mk (PySem.Value.type "code") (@Option.none Nat) (PySem.Data.fields (List.toArray [(PySem.Value.str (PySem.Str.ofString "_law_text") (379 : Nat)), (PySem.Value.str (PySem.Str.ofString "_law_text") (380 : Nat)), (PySem.Value.str (PySem.Str.ofString "/claim/cut.py") (381 : Nat)), (PySem.Value.int (200 : Int) (0 : Nat)), (PySem.Value.int (2 : Int) (0 : Nat)), (PySem.Value.int (0 : Int) (0 : Nat)), (PySem.Value.int (0 : Int) (0 : Nat)), (PySem.Value.int (3 : Int) (0 : Nat)), (PySem.Value.ref (152 : Nat)), (PySem.Value.bool Bool.true), (PySem.Value.int (181 : Int) (0 : Nat)), (PySem.Value.ref (153 : Nat)), PySem.Value.none, PySem.Value.none, PySem.Value.none, (PySem.Value.ref (154 : Nat)), (PySem.Value.int (382 : Int) (0 : Nat)), (PySem.Value.int (200 : Int) (0 : Nat)), (PySem.Value.str (PySem.Str.ofString "/claim/cut.py") (383 : Nat))])) (List.toArray (@List.nil (Option PySem.Value))))) ::
   ((nat_lit 156), (PySem.Obj.mk (PySem.Value.type "function") (@Option.none Nat) (PySem.Data.func (PySem.FuncData.mk (PySem.Str.ofString "_law_text") (PySem.Str.ofString "_law_text") (by refine (?f18 : (b : Arguments) → fPar (stm 26) = b → Arguments) ?b18 ?h18; (case h18 => (conv => lhs; whnf) <;> exact rfl); (case f18 => exact fun b _ => b)) (PySem.FuncBody.stmts (by refine (?f41 : (b : List Stmt) → fBod (stm 26) = b → List Stmt) ?b41 ?h41; (case h41 => (conv => lhs; whnf) <;> exact rfl); (case f41 => exact fun b _ => b))) (by refine (?f64 : (b : Scope) → fSco (stm 26) = b → Scope) ?b64 ?h64; (case h64 => (conv => lhs; whnf) <;> exact rfl); (case f64 => exact fun b _ => b)) (3 : Nat) (@List.nil (Prod PySem.Str Nat)) PySem.Value.none PySem.Value.none PySem.Value.none (PySem.Value.str (PySem.Str.ofString "law_oy0067_01") (363 : Nat)) (@Option.none Nat) (PySem.Value.ref (155 : Nat)) PySem.Value.none (0 : Nat))) (List.toArray (@List.nil (Option PySem.Value))))) ::
   ((nat_lit 160), (PySem.Obj.mk (PySem.Value.type "code") (@Option.none Nat) (PySem.Data.fields (List.toArray [(PySem.Value.str (PySem.Str.ofString "_law_row") (385 : Nat)), (PySem.Value.str (PySem.Str.ofString "_law_row") (386 : Nat)), (PySem.Value.str (PySem.Str.ofString "/claim/cut.py") (387 : Nat)), (PySem.Value.int (209 : Int) (0 : Nat)), (PySem.Value.int (1 : Int) (0 : Nat)), (PySem.Value.int (0 : Int) (0 : Nat)), (PySem.Value.int (0 : Int) (0 : Nat)), (PySem.Value.int (3 : Int) (0 : Nat)), (PySem.Value.ref (157 : Nat)), (PySem.Value.bool Bool.true), (PySem.Value.int (181 : Int) (0 : Nat)), (PySem.Value.ref (158 : Nat)), PySem.Value.none, PySem.Value.none, PySem.Value.none, (PySem.Value.ref (159 : Nat)), (PySem.Value.int (388 : Int) (0 : Nat)), (PySem.Value.int (209 : Int) (0 : Nat)), (PySem.Value.str (PySem.Str.ofString "/claim/cut.py") (389 : Nat))])) (List.toArray (@List.nil (Option PySem.Value))))) ::
   ((nat_lit 161), (PySem.Obj.mk (PySem.Value.type "function") (@Option.none Nat) (PySem.Data.func (PySem.FuncData.mk (PySem.Str.ofString "_law_row") (PySem.Str.ofString "_law_row") (by refine (?f19 : (b : Arguments) → fPar (stm 27) = b → Arguments) ?b19 ?h19; (case h19 => (conv => lhs; whnf) <;> exact rfl); (case f19 => exact fun b _ => b)) (PySem.FuncBody.stmts (by refine (?f42 : (b : List Stmt) → fBod (stm 27) = b → List Stmt) ?b42 ?h42; (case h42 => (conv => lhs; whnf) <;> exact rfl); (case f42 => exact fun b _ => b))) (by refine (?f65 : (b : Scope) → fSco (stm 27) = b → Scope) ?b65 ?h65; (case h65 => (conv => lhs; whnf) <;> exact rfl); (case f65 => exact fun b _ => b)) (3 : Nat) (@List.nil (Prod PySem.Str Nat)) PySem.Value.none PySem.Value.none PySem.Value.none (PySem.Value.str (PySem.Str.ofString "law_oy0067_01") (363 : Nat)) (@Option.none Nat) (PySem.Value.ref (160 : Nat)) PySem.Value.none (0 : Nat))) (List.toArray (@List.nil (Option PySem.Value))))) ::
   ((nat_lit 165), (PySem.Obj.mk (PySem.Value.type "code") (@Option.none Nat) (PySem.Data.fields (List.toArray [(PySem.Value.str (PySem.Str.ofString "_law_put") (391 : Nat)), (PySem.Value.str (PySem.Str.ofString "_law_put") (392 : Nat)), (PySem.Value.str (PySem.Str.ofString "/claim/cut.py") (393 : Nat)), (PySem.Value.int (213 : Int) (0 : Nat)), (PySem.Value.int (5 : Int) (0 : Nat)), (PySem.Value.int (0 : Int) (0 : Nat)), (PySem.Value.int (0 : Int) (0 : Nat)), (PySem.Value.int (3 : Int) (0 : Nat)), (PySem.Value.ref (162 : Nat)), (PySem.Value.bool Bool.true), (PySem.Value.int (181 : Int) (0 : Nat)), (PySem.Value.ref (163 : Nat)), PySem.Value.none, PySem.Value.none, PySem.Value.none, (PySem.Value.ref (164 : Nat)), (PySem.Value.int (394 : Int) (0 : Nat)), (PySem.Value.int (213 : Int) (0 : Nat)), (PySem.Value.str (PySem.Str.ofString "/claim/cut.py") (395 : Nat))])) (List.toArray (@List.nil (Option PySem.Value))))) ::
   ((nat_lit 166), (PySem.Obj.mk (PySem.Value.type "function") (@Option.none Nat) (PySem.Data.func (PySem.FuncData.mk (PySem.Str.ofString "_law_put") (PySem.Str.ofString "_law_put") (by refine (?f20 : (b : Arguments) → fPar (stm 28) = b → Arguments) ?b20 ?h20; (case h20 => (conv => lhs; whnf) <;> exact rfl); (case f20 => exact fun b _ => b)) (PySem.FuncBody.stmts (by refine (?f43 : (b : List Stmt) → fBod (stm 28) = b → List Stmt) ?b43 ?h43; (case h43 => (conv => lhs; whnf) <;> exact rfl); (case f43 => exact fun b _ => b))) (by refine (?f66 : (b : Scope) → fSco (stm 28) = b → Scope) ?b66 ?h66; (case h66 => (conv => lhs; whnf) <;> exact rfl); (case f66 => exact fun b _ => b)) (3 : Nat) (@List.nil (Prod PySem.Str Nat)) PySem.Value.none PySem.Value.none PySem.Value.none (PySem.Value.str (PySem.Str.ofString "law_oy0067_01") (363 : Nat)) (@Option.none Nat) (PySem.Value.ref (165 : Nat)) PySem.Value.none (0 : Nat))) (List.toArray (@List.nil (Option PySem.Value))))) ::
   ((nat_lit 170), (PySem.Obj.mk (PySem.Value.type "code") (@Option.none Nat) (PySem.Data.fields (List.toArray [(PySem.Value.str (PySem.Str.ofString "_law_spread") (397 : Nat)), (PySem.Value.str (PySem.Str.ofString "_law_spread") (398 : Nat)), (PySem.Value.str (PySem.Str.ofString "/claim/cut.py") (399 : Nat)), (PySem.Value.int (222 : Int) (0 : Nat)), (PySem.Value.int (1 : Int) (0 : Nat)), (PySem.Value.int (0 : Int) (0 : Nat)), (PySem.Value.int (0 : Int) (0 : Nat)), (PySem.Value.int (3 : Int) (0 : Nat)), (PySem.Value.ref (167 : Nat)), (PySem.Value.bool Bool.true), (PySem.Value.int (181 : Int) (0 : Nat)), (PySem.Value.ref (168 : Nat)), PySem.Value.none, PySem.Value.none, PySem.Value.none, (PySem.Value.ref (169 : Nat)), (PySem.Value.int (400 : Int) (0 : Nat)), (PySem.Value.int (222 : Int) (0 : Nat)), (PySem.Value.str (PySem.Str.ofString "/claim/cut.py") (401 : Nat))])) (List.toArray (@List.nil (Option PySem.Value))))) ::
   ((nat_lit 171), (PySem.Obj.mk (PySem.Value.type "function") (@Option.none Nat) (PySem.Data.func (PySem.FuncData.mk (PySem.Str.ofString "_law_spread") (PySem.Str.ofString "_law_spread") (by refine (?f21 : (b : Arguments) → fPar (stm 29) = b → Arguments) ?b21 ?h21; (case h21 => (conv => lhs; whnf) <;> exact rfl); (case f21 => exact fun b _ => b)) (PySem.FuncBody.stmts (by refine (?f44 : (b : List Stmt) → fBod (stm 29) = b → List Stmt) ?b44 ?h44; (case h44 => (conv => lhs; whnf) <;> exact rfl); (case f44 => exact fun b _ => b))) (by refine (?f67 : (b : Scope) → fSco (stm 29) = b → Scope) ?b67 ?h67; (case h67 => (conv => lhs; whnf) <;> exact rfl); (case f67 => exact fun b _ => b)) (3 : Nat) (@List.nil (Prod PySem.Str Nat)) PySem.Value.none PySem.Value.none PySem.Value.none (PySem.Value.str (PySem.Str.ofString "law_oy0067_01") (363 : Nat)) (@Option.none Nat) (PySem.Value.ref (170 : Nat)) PySem.Value.none (0 : Nat))) (List.toArray (@List.nil (Option PySem.Value))))) ::
   ((nat_lit 175), (PySem.Obj.mk (PySem.Value.type "code") (@Option.none Nat) (PySem.Data.fields (List.toArray [(PySem.Value.str (PySem.Str.ofString "_law_read") (403 : Nat)), (PySem.Value.str (PySem.Str.ofString "_law_read") (404 : Nat)), (PySem.Value.str (PySem.Str.ofString "/claim/cut.py") (405 : Nat)), (PySem.Value.int (231 : Int) (0 : Nat)), (PySem.Value.int (1 : Int) (0 : Nat)), (PySem.Value.int (0 : Int) (0 : Nat)), (PySem.Value.int (0 : Int) (0 : Nat)), (PySem.Value.int (3 : Int) (0 : Nat)), (PySem.Value.ref (172 : Nat)), (PySem.Value.bool Bool.true), (PySem.Value.int (181 : Int) (0 : Nat)), (PySem.Value.ref (173 : Nat)), PySem.Value.none, PySem.Value.none, PySem.Value.none, (PySem.Value.ref (174 : Nat)), (PySem.Value.int (406 : Int) (0 : Nat)), (PySem.Value.int (231 : Int) (0 : Nat)), (PySem.Value.str (PySem.Str.ofString "/claim/cut.py") (407 : Nat))])) (List.toArray (@List.nil (Option PySem.Value))))) ::
   ((nat_lit 176), (PySem.Obj.mk (PySem.Value.type "function") (@Option.none Nat) (PySem.Data.func (PySem.FuncData.mk (PySem.Str.ofString "_law_read") (PySem.Str.ofString "_law_read") (by refine (?f22 : (b : Arguments) → fPar (stm 30) = b → Arguments) ?b22 ?h22; (case h22 => (conv => lhs; whnf) <;> exact rfl); (case f22 => exact fun b _ => b)) (PySem.FuncBody.stmts (by refine (?f45 : (b : List Stmt) → fBod (stm 30) = b → List Stmt) ?b45 ?h45; (case h45 => (conv => lhs; whnf) <;> exact rfl); (case f45 => exact fun b _ => b))) (by refine (?f68 : (b : Scope) → fSco (stm 30) = b → Scope) ?b68 ?h68; (case h68 => (conv => lhs; whnf) <;> exact rfl); (case f68 => exact fun b _ => b)) (3 : Nat) (@List.nil (Prod PySem.Str Nat)) PySem.Value.none PySem.Value.none PySem.Value.none (PySem.Value.str (PySem.Str.ofString "law_oy0067_01") (363 : Nat)) (@Option.none Nat) (PySem.Value.ref (175 : Nat)) PySem.Value.none (0 : Nat))) (List.toArray (@List.nil (Option PySem.Value))))) ::
   ((nat_lit 180), (PySem.Obj.mk (PySem.Value.type "code") (@Option.none Nat) (PySem.Data.fields (List.toArray [(PySem.Value.str (PySem.Str.ofString "law") (409 : Nat)), (PySem.Value.str (PySem.Str.ofString "law") (410 : Nat)), (PySem.Value.str (PySem.Str.ofString "/claim/cut.py") (411 : Nat)), (PySem.Value.int (248 : Int) (0 : Nat)), (PySem.Value.int (1 : Int) (0 : Nat)), (PySem.Value.int (0 : Int) (0 : Nat)), (PySem.Value.int (0 : Int) (0 : Nat)), (PySem.Value.int (3 : Int) (0 : Nat)), (PySem.Value.ref (177 : Nat)), (PySem.Value.bool Bool.true), (PySem.Value.int (181 : Int) (0 : Nat)), (PySem.Value.ref (178 : Nat)), PySem.Value.none, PySem.Value.none, PySem.Value.none, (PySem.Value.ref (179 : Nat)), (PySem.Value.int (412 : Int) (0 : Nat)), (PySem.Value.int (248 : Int) (0 : Nat)), (PySem.Value.str (PySem.Str.ofString "/claim/cut.py") (413 : Nat))])) (List.toArray (@List.nil (Option PySem.Value))))) ::
   ((nat_lit 181), (PySem.Obj.mk (PySem.Value.type "function") (@Option.none Nat) (PySem.Data.func (PySem.FuncData.mk (PySem.Str.ofString "law") (PySem.Str.ofString "law") (by refine (?f23 : (b : Arguments) → fPar (stm 31) = b → Arguments) ?b23 ?h23; (case h23 => (conv => lhs; whnf) <;> exact rfl); (case f23 => exact fun b _ => b)) (PySem.FuncBody.stmts (by refine (?f46 : (b : List Stmt) → fBod (stm 31) = b → List Stmt) ?b46 ?h46; (case h46 => (conv => lhs; whnf) <;> exact rfl); (case f46 => exact fun b _ => b))) (by refine (?f69 : (b : Scope) → fSco (stm 31) = b → Scope) ?b69 ?h69; (case h69 => (conv => lhs; whnf) <;> exact rfl); (case f69 => exact fun b _ => b)) (3 : Nat) (@List.nil (Prod PySem.Str Nat)) PySem.Value.none PySem.Value.none PySem.Value.none (PySem.Value.str (PySem.Str.ofString "law_oy0067_01") (363 : Nat)) (@Option.none Nat) (PySem.Value.ref (180 : Nat)) PySem.Value.none (0 : Nat))) (List.toArray (@List.nil (Option PySem.Value))))) :: []
/-- the part of the text that is pinned -/
noncomputable def hd.view_39 : Program :=
  { Challenge.rw_oy0067_01.row.prog with main := { Challenge.rw_oy0067_01.row.prog.main with body :=
  [(by refine (?f70 : (b : Stmt) → fSam (stm 0) = b → Stmt) ?b70 ?h70; (case h70 => (conv => lhs; whnf) <;> exact rfl); (case f70 => exact fun b _ => b)),
   (by refine (?f71 : (b : Stmt) → fSam (stm 2) = b → Stmt) ?b71 ?h71; (case h71 => (conv => lhs; whnf) <;> exact rfl); (case f71 => exact fun b _ => b)),
   (by refine (?f72 : (b : Stmt) → fSam (stm 3) = b → Stmt) ?b72 ?h72; (case h72 => (conv => lhs; whnf) <;> exact rfl); (case f72 => exact fun b _ => b)),
   (by refine (?f73 : (b : Stmt) → fSam (stm 4) = b → Stmt) ?b73 ?h73; (case h73 => (conv => lhs; whnf) <;> exact rfl); (case f73 => exact fun b _ => b)),
   (by refine (?f74 : (b : Stmt) → fSam (stm 5) = b → Stmt) ?b74 ?h74; (case h74 => (conv => lhs; whnf) <;> exact rfl); (case f74 => exact fun b _ => b)),
   (by refine (?f75 : (b : Stmt) → fSam (stm 7) = b → Stmt) ?b75 ?h75; (case h75 => (conv => lhs; whnf) <;> exact rfl); (case f75 => exact fun b _ => b)),
   (by refine (?f76 : (b : Stmt) → fSam (stm 8) = b → Stmt) ?b76 ?h76; (case h76 => (conv => lhs; whnf) <;> exact rfl); (case f76 => exact fun b _ => b)),
   (by refine (?f77 : (b : Stmt) → fSam (stm 10) = b → Stmt) ?b77 ?h77; (case h77 => (conv => lhs; whnf) <;> exact rfl); (case f77 => exact fun b _ => b)),
   (by refine (?f78 : (b : Stmt) → fSam (stm 11) = b → Stmt) ?b78 ?h78; (case h78 => (conv => lhs; whnf) <;> exact rfl); (case f78 => exact fun b _ => b)),
   (by refine (?f79 : (b : Stmt) → fSam (stm 12) = b → Stmt) ?b79 ?h79; (case h79 => (conv => lhs; whnf) <;> exact rfl); (case f79 => exact fun b _ => b)),
   (by refine (?f80 : (b : Stmt) → fSam (stm 13) = b → Stmt) ?b80 ?h80; (case h80 => (conv => lhs; whnf) <;> exact rfl); (case f80 => exact fun b _ => b)),
   (by refine (?f81 : (b : Stmt) → fSam (stm 14) = b → Stmt) ?b81 ?h81; (case h81 => (conv => lhs; whnf) <;> exact rfl); (case f81 => exact fun b _ => b)),
   (by refine (?f82 : (b : Stmt) → fSam (stm 15) = b → Stmt) ?b82 ?h82; (case h82 => (conv => lhs; whnf) <;> exact rfl); (case f82 => exact fun b _ => b)),
   (by refine (?f83 : (b : Stmt) → fSam (stm 22) = b → Stmt) ?b83 ?h83; (case h83 => (conv => lhs; whnf) <;> exact rfl); (case f83 => exact fun b _ => b)),
   (by refine (?f84 : (b : Stmt) → fSam (stm 24) = b → Stmt) ?b84 ?h84; (case h84 => (conv => lhs; whnf) <;> exact rfl); (case f84 => exact fun b _ => b)),
   (by refine (?f85 : (b : Stmt) → fSam (stm 25) = b → Stmt) ?b85 ?h85; (case h85 => (conv => lhs; whnf) <;> exact rfl); (case f85 => exact fun b _ => b)),
   (by refine (?f86 : (b : Stmt) → fSam (stm 26) = b → Stmt) ?b86 ?h86; (case h86 => (conv => lhs; whnf) <;> exact rfl); (case f86 => exact fun b _ => b)),
   (by refine (?f87 : (b : Stmt) → fSam (stm 27) = b → Stmt) ?b87 ?h87; (case h87 => (conv => lhs; whnf) <;> exact rfl); (case f87 => exact fun b _ => b)),
   (by refine (?f88 : (b : Stmt) → fSam (stm 28) = b → Stmt) ?b88 ?h88; (case h88 => (conv => lhs; whnf) <;> exact rfl); (case f88 => exact fun b _ => b)),
   (by refine (?f89 : (b : Stmt) → fSam (stm 29) = b → Stmt) ?b89 ?h89; (case h89 => (conv => lhs; whnf) <;> exact rfl); (case f89 => exact fun b _ => b)),
   (by refine (?f90 : (b : Stmt) → fSam (stm 30) = b → Stmt) ?b90 ?h90; (case h90 => (conv => lhs; whnf) <;> exact rfl); (case f90 => exact fun b _ => b)),
   (by refine (?f91 : (b : Stmt) → fSam (stm 31) = b → Stmt) ?b91 ?h91; (case h91 => (conv => lhs; whnf) <;> exact rfl); (case f91 => exact fun b _ => b))] } }
noncomputable def kAs : List Nat := (nat_lit 2) :: (nat_lit 3) :: (nat_lit 20) :: (nat_lit 21) :: (nat_lit 27) :: (nat_lit 28) :: (nat_lit 34) :: (nat_lit 35) :: (nat_lit 41) :: (nat_lit 42) :: (nat_lit 48) :: (nat_lit 49) :: (nat_lit 50) :: (nat_lit 56) :: (nat_lit 57) :: (nat_lit 58) :: (nat_lit 65) :: (nat_lit 66) :: (nat_lit 67) :: (nat_lit 68) :: (nat_lit 76) :: (nat_lit 77) :: (nat_lit 83) :: (nat_lit 84) :: (nat_lit 90) :: (nat_lit 91) :: (nat_lit 97) :: (nat_lit 98) :: (nat_lit 99) :: (nat_lit 105) :: (nat_lit 106) :: (nat_lit 107) :: (nat_lit 113) :: (nat_lit 114) :: (nat_lit 115) :: (nat_lit 121) :: (nat_lit 122) :: (nat_lit 123) :: (nat_lit 129) :: (nat_lit 130) :: (nat_lit 136) :: (nat_lit 137) :: (nat_lit 143) :: (nat_lit 144) :: (nat_lit 150) :: (nat_lit 151) :: (nat_lit 155) :: (nat_lit 156) :: (nat_lit 160) :: (nat_lit 161) :: (nat_lit 165) :: (nat_lit 166) :: (nat_lit 170) :: (nat_lit 171) :: (nat_lit 175) :: (nat_lit 176) :: (nat_lit 180) :: (nat_lit 181) :: []
theorem left39 : LeftO Challenge.rw_oy0067_01.row.toRowW.prog Mine.hd.view_39 [Str.ofString "bytes_types", Str.ofString "a2b_base64", Str.ofString "b2a_base64", Str.ofString "b64encode", Str.ofString "b64decode"]
   (fun s => xlAt Mine.hd.view_39 [] s && recOk (RowW.records Challenge.rw_oy0067_01.row.toRowW) s) (Hook.obs (kHook Mine.hd.heap_39 Mine.kAs (fun _ => by kernel_rfl))) (Hook.val (kHook Mine.hd.heap_39 Mine.kAs (fun _ => by kernel_rfl))) 2054 := fun w => by kernel_rfl
open PySem PySem.W PySem.Calls PySem.Spec PyProof.Rows
theorem fillIt : Challenge.rw_oy0067_01 = Challenge.rw_oy0067_01 ∧ hd.heap_39 = hd.heap_39 := by
  k_fill
  exact ⟨rfl, rfl⟩
theorem offTop : True := by
  w_top off
  trivial
local macro_rules | `(tactic| walk_at $s:str) => `(tactic| k_extra $s)
local macro_rules | `(tactic| k_qdec) => `(tactic| decide +kernel)
noncomputable abbrev PR : Program := Challenge.rw_oy0067_01.row.prog
noncomputable abbrev Vw : Program := Mine.hd.view_39
noncomputable abbrev Ls : List Str := looseW Mine.hd.view_39 [Str.ofString "bytes_types", Str.ofString "a2b_base64", Str.ofString "b2a_base64", Str.ofString "b64encode", Str.ofString "b64decode"]
abbrev AA (d u : Nat) : Around := { handled := none, depth := d, frames := none, guards := none, units := u }
def Ext (h h' : Heap) : Prop := ∀ b o, h.get? b = some o → h'.get? b = some o
theorem Ext.refl (h : Heap) : Ext h h := fun _ _ e => e
theorem Ext.trans {a b c : Heap} (x : Ext a b) (y : Ext b c) : Ext a c := fun p o e => y p o (x p o e)

theorem to_AA {α : Type} {M : Model} {A : Around} {t : Sem α} {Q : α → Shared → Prop} {E : Value → Shared → Prop} {s : Shared} {d u : Nat}
    (h : wpAny M (AA d u) t Q E s) (hh : A.handled = none) (hd : A.depth ≤ d) (hu : A.units ≤ u) : wpAny M A t Q E s :=
  fun Γ p hΓ => h Γ p ⟨hΓ.1.trans hh, Nat.le_trans hΓ.2.1 hd, fun _ e => (by cases e), fun _ e => (by cases e), Nat.le_trans hΓ.2.2.2.2 hu⟩

section
variable {w : World} {A : Around} {s : Shared} {mean : ExcName → Option Value} {mg mb : Str → Option Value} {K : Frag} {p : Program} {loose : List Str} {prog : Program}
  {R : Result → Shared → Prop} {name qual : Str} {params : Arguments} {body : List Stmt} {scope : Scope} {dV kV doc pm cdv ct oc : Value} {an od : Option Addr} {osl : Array (Option Value)} {f : Addr} {args : Args} {binds : List (Str × Value)}

theorem enter (X : K.In s.heap) (T : Top p loose mean mg mb s.heap)
    (ho : K.lookup f = some ⟨oc, od, .func (fnOf name qual params body scope dV kV doc pm an cdv ct), osl⟩) (hcd : codeIn K cdv qual = true) (hroom : A.depth < recursionLimit)
    (hbind : BindsTo s (fnOf name qual params body scope dV kV doc pm an cdv ct) args binds) (hloc : ∀ y ∈ binds, scope.names.lookup y.1 = some .local)
    (h : ∀ L' h₁, Fr s.heap L' h₁ (fun y => binds.reverse.lookup y) → News s.heap L' h₁ [] →
      wpAny (model prog w) (A.deeper (envOf qual scope L' f cdv)) (execs body (envOf qual scope L' f cdv))
        (fun fl s' => R (.ok (.ret (match fl with | .ret v => v | _ => .none))) s') (fun _ _ => False)
        { s with heap := h₁, toks := s.toks + binds.length })
    (hco : scope.isCoroutine = false) (hgen : scope.isGenerator = false) (hk : scope.kind = .function)
    (hcell : ∀ x ∈ scope.names, x.2 ≠ .cell) : codeAny (model prog w) A (.call (.ref f) args) R s := by
  refine codeAny_call_def (fd := fnOf name qual params body scope dV kV doc pm an cdv ct) (body := body) (binds := binds) hroom (X _ _ ho) rfl T.nolimit (codeRec_of X hcd) rfl hbind hcell hloc (fun h₁ hns hk₁ => ?_) hco hgen hk
  exact wpAny_mono (h s.heap.objs.size h₁ ⟨hns, hk₁, Nat.le_refl _⟩ News.nil) (fun _ _ x => x) fun _ _ x => x.elim

theorem enterC (X : K.In s.heap) (T : Top p loose mean mg mb s.heap)
    (ho : K.lookup f = some ⟨oc, od, .func (fnOf name qual params body scope dV kV doc pm an cdv ct), osl⟩) (hcd : codeIn K cdv qual = true) (hroom : A.depth < recursionLimit)
    (hbind : BindsTo s (fnOf name qual params body scope dV kV doc pm an cdv ct) args binds)
    (hkind : (binds.all fun y => scope.names.lookup y.1 == some .local || scope.names.lookup y.1 == some .cell) = true)
    (hnd : ((cellsFrom 0 scope.names []).map (·.1)).Nodup)
    (h : ∀ L' h₁ tk cells, Fr s.heap L' h₁ (bindL (envOfC qual scope L' f cdv).kindOf binds fun _ => none) → News s.heap L' h₁ cells →
      CellsAre (bindC (envOfC qual scope L' f cdv).kindOf binds fun _ => none) (cellsFrom (L' + 1) scope.names []) cells →
      wpAny (model prog w) (A.deeper (envOfC qual scope L' f cdv)) (execs body (envOfC qual scope L' f cdv))
        (fun fl s' => R (.ok (.ret (match fl with | .ret v => v | _ => .none))) s') (fun _ _ => False)
        { s with heap := h₁, toks := tk })
    (hco : scope.isCoroutine = false) (hgen : scope.isGenerator = false) (hk : scope.kind = .function) : codeAny (model prog w) A (.call (.ref f) args) R s := by
  refine codeAny_call_function hroom (X _ _ ho) rfl hco hgen rfl (codeRec_of X hcd) (hbind _ _ _ _ ?_)
  refine wpAny_newFunctionEnv_cells hk (kindsX hkind _) fun env' he s' x => ?_
  subst he
  refine ⟨T.nolimit.keeps x.toInCall.keep, codeAny_func ?_⟩
  obtain ⟨h₁, tk, rfl, _⟩ := x.done
  have hk₁ := x.toInCall.keep
  obtain ⟨cells, NC, Y⟩ := Cl.news (h₀ := s.heap) (Nat.le_refl _) fun n c hm => ⟨x.cell n c (lookup_of_mem_nodup (cellsFrom_names scope.names 0 (s.heap.objs.size + 1) [] [] rfl ▸ hnd) hm), x.above n c hm⟩
  exact wpAny_mono (h s.heap.objs.size h₁ tk cells ⟨x.toInCall.ns, fun b o e => hk₁ b o e, Nat.le_refl _⟩ NC Y) (fun _ _ y => y) fun _ _ y => y.elim
end

/-- what a call promises, from the state s on: it ends, keeps all that lies on the heap, and hands back a value as Post says -/
def Ctr (w : World) (s : Shared) (d u : Nat) (f : Value) (args : List Value) (kw : List (Str × Value)) (Post : Value → Heap → Prop) : Prop :=
  ∀ (Q E : Value → Shared → Prop), (∀ v h' tk', Ext s.heap h' → Post v h' → Q v { s with heap := h', toks := tk' }) → wpAny (model PR w) (AA d u) (call f args kw) Q E s

section
variable {w : World} {A : Around} {s : Shared} {h₀ : Heap} {L : Addr} {m : Str → Option Value} {news : List (Addr × Obj)} {Q E : Value → Shared → Prop} {d u : Nat} {f : Value} {args : List Value} {kw : List (Str × Value)} {Post : Value → Heap → Prop}
theorem fr_ext {h h' : Heap} (F : Fr h₀ L h m) (x : Ext h h') : Fr h₀ L h' m := by
  obtain ⟨oL, a1, a2, hL, a3⟩ := F.ns
  exact ⟨⟨oL, a1, a2, x _ _ hL, a3⟩, fun b o e => x _ _ (F.keep b o e), F.above⟩
theorem news_ext {h h' : Heap} (N : News h₀ L h news) (x : Ext h h') : News h₀ L h' news := fun p hp => ⟨x _ _ (N p hp).1, (N p hp).2⟩
theorem news_add {h h' : Heap} {a : Addr} {o : Obj} (F : Fr h₀ L h m) (N : News h₀ L h news) (x : Ext h h') (ha : h.objs.size ≤ a) (ho : h'.get? a = some o) : News h₀ L h' ((a, o) :: news) := by
  intro p hp
  rcases List.mem_cons.mp hp with rfl | hp
  · have hL : @LT.lt Nat _ L h.objs.size := F.ns.lt
    have hA : @LE.le Nat _ h₀.objs.size L := F.above
    have hb : @LE.le Nat _ h.objs.size a := ha
    exact ⟨ho, Nat.ne_of_gt (Nat.lt_of_lt_of_le hL hb), Heap.get?_none_of_le (Nat.le_trans hA (Nat.le_trans (Nat.le_of_lt hL) hb))⟩
  · exact ⟨x _ _ (N p hp).1, (N p hp).2⟩
theorem useC (c : Ctr w s d u f args kw Post) (F : Fr h₀ L s.heap m) (N : News h₀ L s.heap news)
    (h : ∀ v h' tk', Fr h₀ L h' m → News h₀ L h' news → Ext s.heap h' → Post v h' → Q v { s with heap := h', toks := tk' })
    (hh : A.handled = none := by rfl) (hd : A.depth ≤ d := by exact Nat.le_of_ble_eq_true rfl) (hu : A.units ≤ u := by exact Nat.le_of_ble_eq_true rfl) : wpAny (model PR w) A (call f args kw) Q E s :=
  to_AA (c Q E fun v h' tk' x p => h v h' tk' (fr_ext F x) (news_ext N x) x p) hh hd hu
end
def Stop (P : Prop) : Prop := P
theorem Stop.out {P : Prop} (h : Stop P) : P := h
theorem stopQ {α : Type} {M : Model} {A : Around} {t : Sem α} {Q : α → Shared → Prop} {E : Value → Shared → Prop} {s : Shared} (h : wpAny M A t (fun a s => Stop (Q a s)) E s) : wpAny M A t Q E s := h

theorem words_L_1 : True := by
  k_with "call type:type" => (((with_reducible show wpAny _ _ (call _ [Value.bytes _ _]) _ _ _); refine call_type_of (Tx := "bytes") rfl (by decide +kernel) ?_))
  k_with "m dec" => (first | omega | (simp only [decide_eq_true_eq, decide_eq_false_iff_not, Bool.not_eq_true, beq_iff_eq, beq_eq_false_iff_ne, ne_eq, Bool.not_eq_true', Bool.not_eq_false'] ; omega))
  k_with "ite" => ((k_openite; first | (refine ite_pos (by walk_at "m dec") ?_) | (refine ite_neg (by walk_at "m dec") ?_)))
  k_with "m upd" => (first | exact Upd.head (List.forall_mem_nil _) | exact Upd.head (by assumption) | (refine Upd.tail (by first | assumption | (refine neN ?_; omega)) ?_; walk_at "m upd"))
  k_with "m same" => ((intro z h1 h2 h3; (simp only [List.forall_mem_cons, List.not_mem_nil, false_implies, implies_true, and_true, ne_eq] at h2); (try simp only [List.contains_cons, List.contains_nil, Bool.or_false, Bool.or_eq_false_iff, beq_eq_false_iff_ne, ne_eq] at h3); (simp [kstB, h1, h2, h3]; done)))
  k_with "call builtin:list.append" => (((with_reducible show wpAny _ _ (call (Value.builtin _) [Value.ref _, _]) _ _ _); (refine' append_K ?k1 ?k2 ?k3 ?_ ?z; (case k1 => assumption); (case k2 => assumption); (case k3 => walk_at "m upd"); (case z => first | assumption | exact (by assumption : ∀ x : Value, _) _)); intro h9 F9 N9; (try k_sweep)))
  k_with "m ksame" => ((intro z h2 h3; (simp only [List.forall_mem_cons, List.not_mem_nil, false_implies, implies_true, and_true, ne_eq] at h2); (try simp only [List.contains_cons, List.contains_nil, Bool.or_false, Bool.or_eq_false_iff, beq_eq_false_iff_ne, ne_eq] at h3); (simp [kstB, h2, h3]; done)))
  trivial
theorem none_S1 : True := by
  k_with_none
  trivial
theorem words_LS1_1 : True := by
  k_with "call type:type" => (((with_reducible show wpAny _ _ (call _ [Value.bytes _ _]) _ _ _); refine call_type_of (Tx := "bytes") rfl (by decide +kernel) ?_))
  k_with "m dec" => (first | omega | (simp only [decide_eq_true_eq, decide_eq_false_iff_not, Bool.not_eq_true, beq_iff_eq, beq_eq_false_iff_ne, ne_eq, Bool.not_eq_true', Bool.not_eq_false'] ; omega))
  k_with "ite" => ((k_openite; first | (refine ite_pos (by walk_at "m dec") ?_) | (refine ite_neg (by walk_at "m dec") ?_)))
  k_with "m upd" => (first | exact Upd.head (List.forall_mem_nil _) | exact Upd.head (by assumption) | (refine Upd.tail (by first | assumption | (refine neN ?_; omega)) ?_; walk_at "m upd"))
  k_with "m same" => ((intro z h1 h2 h3; (simp only [List.forall_mem_cons, List.not_mem_nil, false_implies, implies_true, and_true, ne_eq] at h2); (try simp only [List.contains_cons, List.contains_nil, Bool.or_false, Bool.or_eq_false_iff, beq_eq_false_iff_ne, ne_eq] at h3); (simp [kstB, h1, h2, h3]; done)))
  k_with "call builtin:list.append" => (((with_reducible show wpAny _ _ (call (Value.builtin _) [Value.ref _, _]) _ _ _); (refine' append_K ?k1 ?k2 ?k3 ?_ ?z; (case k1 => assumption); (case k2 => assumption); (case k3 => walk_at "m upd"); (case z => first | assumption | exact (by assumption : ∀ x : Value, _) _)); intro h9 F9 N9; (try k_sweep)))
  k_with "m ksame" => ((intro z h2 h3; (simp only [List.forall_mem_cons, List.not_mem_nil, false_implies, implies_true, and_true, ne_eq] at h2); (try simp only [List.contains_cons, List.contains_nil, Bool.or_false, Bool.or_eq_false_iff, beq_eq_false_iff_ne, ne_eq] at h3); (simp [kstB, h2, h3]; done)))
  trivial
theorem words_S1_1 : True := by
  k_with "call type:type" => (((with_reducible show wpAny _ _ (call _ [Value.bytes _ _]) _ _ _); refine call_type_of (Tx := "bytes") rfl (by decide +kernel) ?_))
  trivial
theorem ret_int {s : Shared} {Q : Value → Shared → Prop} {x y : Int} {t : Tok} {h : Heap} {tk : Nat} (hret : ∀ v h' tk', Ext s.heap h' → (∃ t, v = .int x t) → Q v { s with heap := h', toks := tk' }) (e : Ext s.heap h) (hxy : y = x) : Q (.int y t) { s with heap := h, toks := tk } := hret _ _ _ e ⟨t, hxy ▸ rfl⟩
def b64val (c : Int) : Int := if 65 ≤ c ∧ c ≤ 90 then c - 65 else if 97 ≤ c ∧ c ≤ 122 then c - 71 else if 48 ≤ c ∧ c ≤ 57 then c + 4 else if c = 43 then 62 else if c = 47 then 63 else 64
theorem c_b64_value {w : World} {mean : ExcName → Option Value} {mg mb : Str → Option Value} {s : Shared} {c : Int} {t : Tok}
    (X : (Mine.hd.heap_39 w.params).In s.heap) (T : Top Vw Ls mean mg mb s.heap)  :
    Ctr w s 900 9000 (.ref 98) [.int c t] [] (fun v h' => ∃ t, v = .int (b64val c) t) := by
  intro Q E hret
  refine wpAny_call ?_
  refine' enter (binds := [(Str.ofString "c", .int c t)]) X T ?k6 ?k7 ?k8 ?k9 ?kB ?_ ?c2 ?c3 ?c4 ?c5
  (case k6 => k_is)
  (case k7 => k_is)
  (case k8 => decide)
  (case k9 => exact BindsTo.of_eq rfl)
  (case kB => exact locs rfl)
  (case c2 => exact rfl)
  (case c3 => exact rfl)
  (case c4 => exact rfl)
  (case c5 => decide)
  intro L h F N
  try dsimp only
  refine stopQ ?_
  k_fold
  k_steps
  all_goals (refine ret_int (s := s) hret (Fr.keep (by assumption)) ?_)
  all_goals (unfold b64val; simp only [decide_eq_true_eq, decide_eq_false_iff_not] at *)
  all_goals (repeat' split) <;> omega
theorem c_truth_false {w : World} {mean : ExcName → Option Value} {mg mb : Str → Option Value} {s : Shared} 
    (X : (Mine.hd.heap_39 w.params).In s.heap) (T : Top Vw Ls mean mg mb s.heap)  :
    Ctr w s 900 9000 (.ref 91) [.bool false] [] (fun v h' => v = .bool false) := by
  intro Q E hret
  refine wpAny_call ?_
  refine' enter (binds := [(Str.ofString "x", .bool false)]) X T ?k6 ?k7 ?k8 ?k9 ?kB ?_ ?c2 ?c3 ?c4 ?c5
  (case k6 => k_is)
  (case k7 => k_is)
  (case k8 => decide)
  (case k9 => exact BindsTo.of_eq rfl)
  (case kB => exact locs rfl)
  (case c2 => exact rfl)
  (case c3 => exact rfl)
  (case c4 => exact rfl)
  (case c5 => decide)
  intro L h F N
  try dsimp only
  refine stopQ ?_
  k_fold
  k_steps
  all_goals (exact hret _ _ _ (Fr.keep (by assumption)) rfl)
theorem c_ascii_buffer {w : World} {mean : ExcName → Option Value} {mg mb : Str → Option Value} {s : Shared} {b : Array UInt8} {t : Tok}
    (X : (Mine.hd.heap_39 w.params).In s.heap) (T : Top Vw Ls mean mg mb s.heap)  :
    Ctr w s 900 9000 (.ref 77) [.bytes b t] [] (fun v h' => v = .bytes b t) := by
  intro Q E hret
  refine wpAny_call ?_
  refine' enter (binds := [(Str.ofString "data", .bytes b t)]) X T ?k6 ?k7 ?k8 ?k9 ?kB ?_ ?c2 ?c3 ?c4 ?c5
  (case k6 => k_is)
  (case k7 => k_is)
  (case k8 => decide)
  (case k9 => exact BindsTo.of_eq rfl)
  (case kB => exact locs rfl)
  (case c2 => exact rfl)
  (case c3 => exact rfl)
  (case c4 => exact rfl)
  (case c5 => decide)
  intro L h F N
  try dsimp only
  refine stopQ ?_
  k_fold
  k_steps
  all_goals (exact hret _ _ _ (Fr.keep (by assumption)) rfl)
theorem c_buffer {w : World} {mean : ExcName → Option Value} {mg mb : Str → Option Value} {s : Shared} {b : Array UInt8} {t : Tok}
    (X : (Mine.hd.heap_39 w.params).In s.heap) (T : Top Vw Ls mean mg mb s.heap)  :
    Ctr w s 900 9000 (.ref 84) [.bytes b t] [] (fun v h' => v = .bytes b t) := by
  intro Q E hret
  refine wpAny_call ?_
  refine' enter (binds := [(Str.ofString "data", .bytes b t)]) X T ?k6 ?k7 ?k8 ?k9 ?kB ?_ ?c2 ?c3 ?c4 ?c5
  (case k6 => k_is)
  (case k7 => k_is)
  (case k8 => decide)
  (case k9 => exact BindsTo.of_eq rfl)
  (case kB => exact locs rfl)
  (case c2 => exact rfl)
  (case c3 => exact rfl)
  (case c4 => exact rfl)
  (case c5 => decide)
  intro L h F N
  try dsimp only
  refine stopQ ?_
  k_fold
  k_steps
  all_goals (exact hret _ _ _ (Fr.keep (by assumption)) rfl)

theorem none_S3 : True := by
  k_with_none
  trivial
theorem words_LS3_1 : True := by
  k_with "call type:type" => (((with_reducible show wpAny _ _ (call _ [Value.bytes _ _]) _ _ _); refine call_type_of (Tx := "bytes") rfl (by decide +kernel) ?_))
  k_with "m dec" => (first | omega | (simp only [decide_eq_true_eq, decide_eq_false_iff_not, Bool.not_eq_true, beq_iff_eq, beq_eq_false_iff_ne, ne_eq, Bool.not_eq_true', Bool.not_eq_false'] ; omega))
  k_with "ite" => ((k_openite; first | (refine ite_pos (by walk_at "m dec") ?_) | (refine ite_neg (by walk_at "m dec") ?_)))
  k_with "m upd" => (first | exact Upd.head (List.forall_mem_nil _) | exact Upd.head (by assumption) | (refine Upd.tail (by first | assumption | (refine neN ?_; omega)) ?_; walk_at "m upd"))
  k_with "m same" => ((intro z h1 h2 h3; (simp only [List.forall_mem_cons, List.not_mem_nil, false_implies, implies_true, and_true, ne_eq] at h2); (try simp only [List.contains_cons, List.contains_nil, Bool.or_false, Bool.or_eq_false_iff, beq_eq_false_iff_ne, ne_eq] at h3); (simp [kstB, h1, h2, h3]; done)))
  k_with "call builtin:list.append" => (((with_reducible show wpAny _ _ (call (Value.builtin _) [Value.ref _, _]) _ _ _); (refine' append_K ?k1 ?k2 ?k3 ?_ ?z; (case k1 => assumption); (case k2 => assumption); (case k3 => walk_at "m upd"); (case z => first | assumption | exact (by assumption : ∀ x : Value, _) _)); intro h9 F9 N9; (try k_sweep)))
  k_with "m ksame" => ((intro z h2 h3; (simp only [List.forall_mem_cons, List.not_mem_nil, false_implies, implies_true, and_true, ne_eq] at h2); (try simp only [List.contains_cons, List.contains_nil, Bool.or_false, Bool.or_eq_false_iff, beq_eq_false_iff_ne, ne_eq] at h3); (simp [kstB, h2, h3]; done)))
  trivial
theorem words_S3_1 : True := by
  k_with "call type:type" => (((with_reducible show wpAny _ _ (call _ [Value.bytes _ _]) _ _ _); refine call_type_of (Tx := "bytes") rfl (by decide +kernel) ?_))
  k_with "m dec" => (first | omega | (simp only [decide_eq_true_eq, decide_eq_false_iff_not, Bool.not_eq_true, beq_iff_eq, beq_eq_false_iff_ne, ne_eq, Bool.not_eq_true', Bool.not_eq_false'] ; omega))
  k_with "ite" => ((k_openite; first | (refine ite_pos (by walk_at "m dec") ?_) | (refine ite_neg (by walk_at "m dec") ?_)))
  k_with "m upd" => (first | exact Upd.head (by assumption) | (refine Upd.tail (by first | assumption | (refine neN ?_; omega)) ?_; walk_at "m upd"))
  k_with "m same" => ((intro z h1 h2 h3; (simp only [List.forall_mem_cons, List.not_mem_nil, false_implies, implies_true, and_true, ne_eq] at h2); (try simp only [List.contains_cons, List.contains_nil, Bool.or_false, Bool.or_eq_false_iff, beq_eq_false_iff_ne, ne_eq] at h3); (simp [kstB, h1, h2, h3]; done)))
  k_with "call builtin:list.append" => (((with_reducible show wpAny _ _ (call (Value.builtin _) [Value.ref _, _]) _ _ _); (refine' append_K ?k1 ?k2 ?k3 ?_ ?z; (case k1 => assumption); (case k2 => assumption); (case k3 => walk_at "m upd"); (case z => assumption)); intro h9 F9 N9; (try k_sweep)))
  k_with "call ref" => (((with_reducible show wpAny _ _ (call (Value.ref 77) _ _) _ _ _); (refine useC (c_ascii_buffer (Frag.In.keeps (by assumption) (Fr.keep (by assumption))) (Top.keeps (by assumption) (Fr.keep (by assumption)))) (by assumption) (by assumption) ?_); intro v9 h9 tk9 F9 N9 x9 p9; subst p9; clear x9; (try dsimp only); (try k_fold)))
  k_with "call ref" => (((with_reducible show wpAny _ _ (call (Value.ref 91) _ _) _ _ _); (refine useC (c_truth_false (Frag.In.keeps (by assumption) (Fr.keep (by assumption))) (Top.keeps (by assumption) (Fr.keep (by assumption)))) (by assumption) (by assumption) ?_); intro v9 h9 tk9 F9 N9 x9 p9; subst p9; clear x9; (try dsimp only); (try k_fold)))
  k_with "call ref" => (((with_reducible show wpAny _ _ (call (Value.ref 98) _ _) _ _ _); (refine useC (c_b64_value (Frag.In.keeps (by assumption) (Fr.keep (by assumption))) (Top.keeps (by assumption) (Fr.keep (by assumption)))) (by assumption) (by assumption) ?_); intro v9 h9 tk9 F9 N9 x9 p9; (obtain ⟨t9, p9⟩ := p9); subst p9; clear x9; (try dsimp only); (try k_fold)))
  trivial
theorem nat_of {x : Int} {k : Nat} (h0 : 0 ≤ x) (h1 : x < (k : Int)) : ∃ a : Nat, x = (a : Int) ∧ a < k := ⟨x.toNat, by omega, by omega⟩
theorem or_2_4 {l v : Int} (h0 : 0 ≤ l) (h1 : l < 64) (h2 : 0 ≤ v) (h3 : v < 64) : Builtin.bitOr (l * 2 ^ Int.toNat 2) (v.fdiv (2 ^ Int.toNat 4)) = l * 4 + v / 16 := by
  obtain ⟨a, rfl, ha⟩ := nat_of (k := 64) h0 h1
  obtain ⟨b, rfl, hb⟩ := nat_of (k := 64) h2 h3
  exact (by decide +kernel : ∀ a : Nat, a < 64 → ∀ b : Nat, b < 64 → Builtin.bitOr ((a : Int) * 2 ^ Int.toNat 2) ((b : Int).fdiv (2 ^ Int.toNat 4)) = (a : Int) * 4 + (b : Int) / 16) a ha b hb
theorem or_4_2 {l v : Int} (h0 : 0 ≤ l) (h1 : l < 16) (h2 : 0 ≤ v) (h3 : v < 64) : Builtin.bitOr (l * 2 ^ Int.toNat 4) (v.fdiv (2 ^ Int.toNat 2)) = l * 16 + v / 4 := by
  obtain ⟨a, rfl, ha⟩ := nat_of (k := 16) h0 h1
  obtain ⟨b, rfl, hb⟩ := nat_of (k := 64) h2 h3
  exact (by decide +kernel : ∀ a : Nat, a < 16 → ∀ b : Nat, b < 64 → Builtin.bitOr ((a : Int) * 2 ^ Int.toNat 4) ((b : Int).fdiv (2 ^ Int.toNat 2)) = (a : Int) * 16 + (b : Int) / 4) a ha b hb
theorem or_6_0 {l v : Int} (h0 : 0 ≤ l) (h1 : l < 4) (h2 : 0 ≤ v) (h3 : v < 64) : Builtin.bitOr (l * 2 ^ Int.toNat 6) v = l * 64 + v := by
  obtain ⟨a, rfl, ha⟩ := nat_of (k := 4) h0 h1
  obtain ⟨b, rfl, hb⟩ := nat_of (k := 64) h2 h3
  exact (by decide +kernel : ∀ a : Nat, a < 4 → ∀ b : Nat, b < 64 → Builtin.bitOr ((a : Int) * 2 ^ Int.toNat 6) (b : Int) = (a : Int) * 64 + (b : Int)) a ha b hb
theorem and_15 {v : Int} (h2 : 0 ≤ v) (h3 : v < 64) : Builtin.bitAnd v 15 = v % 16 := by
  obtain ⟨b, rfl, hb⟩ := nat_of (k := 64) h2 h3
  exact (by decide +kernel : ∀ b : Nat, b < 64 → Builtin.bitAnd (b : Int) 15 = (b : Int) % 16) b hb
theorem and_3 {v : Int} (h2 : 0 ≤ v) (h3 : v < 64) : Builtin.bitAnd v 3 = v % 4 := by
  obtain ⟨b, rfl, hb⟩ := nat_of (k := 64) h2 h3
  exact (by decide +kernel : ∀ b : Nat, b < 64 → Builtin.bitAnd (b : Int) 3 = (b : Int) % 4) b hb

structure A2S where
  q : Int
  l : Int
  o : List Int
def a2bStep (c : A2S) (n : Int) : A2S :=
  if c.q = 0 then ⟨1, b64val n, c.o⟩ else if c.q = 1 then ⟨2, b64val n % 16, c.o ++ [c.l * 4 + b64val n / 16]⟩
  else if c.q = 2 then ⟨3, b64val n % 4, c.o ++ [c.l * 16 + b64val n / 4]⟩ else ⟨0, 0, c.o ++ [c.l * 64 + b64val n]⟩
theorem a2b_s0 {q l n : Int} {o : List Int} (h : q = 0) : a2bStep ⟨q, l, o⟩ n = ⟨1, b64val n, o⟩ := if_pos h
theorem a2b_s1 {q l n : Int} {o : List Int} (h : q = 1) : a2bStep ⟨q, l, o⟩ n = ⟨2, b64val n % 16, o ++ [l * 4 + b64val n / 16]⟩ := (if_neg (by show ¬ q = 0; omega)).trans (if_pos h)
theorem a2b_s2 {q l n : Int} {o : List Int} (h : q = 2) : a2bStep ⟨q, l, o⟩ n = ⟨3, b64val n % 4, o ++ [l * 16 + b64val n / 4]⟩ := (if_neg (by show ¬ q = 0; omega)).trans ((if_neg (by show ¬ q = 1; omega)).trans (if_pos h))
theorem a2b_s3 {q l n : Int} {o : List Int} (h0 : q ≠ 0) (h1 : q ≠ 1) (h2 : q ≠ 2) : a2bStep ⟨q, l, o⟩ n = ⟨0, 0, o ++ [l * 64 + b64val n]⟩ := (if_neg h0).trans ((if_neg h1).trans (if_neg h2))
def A2S.Ok (c : A2S) (k : Nat) : Prop := 0 ≤ c.q ∧ c.q < 4 ∧ c.q = (k : Int) % 4 ∧ 0 ≤ c.l ∧ c.l < 64 ∧ (c.q = 2 → c.l < 16) ∧ (c.q = 3 → c.l < 4) ∧ c.o.length ≤ k ∧ ∀ x ∈ c.o, 0 ≤ x ∧ x < 256
def B64ok (c : Int) : Prop := 0 ≤ b64val c ∧ b64val c < 64 ∧ c ≠ 61
theorem A2S.Ok.step {c : A2S} {k : Nat} {n : Int} (h : c.Ok k) (hn : B64ok n) : (a2bStep c n).Ok (k + 1) := by
  obtain ⟨e1, e2, e3, e4, e5, e6, e7, e8, e9⟩ := h
  obtain ⟨v1, v2, v3⟩ := hn
  unfold a2bStep
  have mem : ∀ {y : Int}, 0 ≤ y → y < 256 → ∀ x ∈ c.o ++ [y], 0 ≤ x ∧ x < 256 := fun h1 h2 x hx => by
    rcases List.mem_append.mp hx with hx | hx
    · exact e9 x hx
    · rw [List.mem_singleton.mp hx]; exact ⟨h1, h2⟩
  split
  · exact ⟨by show (0 : Int) ≤ 1; omega, by show (1 : Int) < 4; omega, by show (1 : Int) = _; omega, v1, v2, fun h => absurd h (by show ¬ (1 : Int) = 2; omega), fun h => absurd h (by show ¬ (1 : Int) = 3; omega), Nat.le_succ_of_le e8, e9⟩
  · split
    · exact ⟨by show (0 : Int) ≤ 2; omega, by show (2 : Int) < 4; omega, by show (2 : Int) = _; omega, by show (0 : Int) ≤ b64val n % 16; omega, by show b64val n % 16 < 64; omega, fun _ => by show b64val n % 16 < 16; omega, fun h => absurd h (by show ¬ (2 : Int) = 3; omega), by show (c.o ++ [_]).length ≤ _; simp; omega, mem (by omega) (by omega)⟩
    · split
      · exact ⟨by show (0 : Int) ≤ 3; omega, by show (3 : Int) < 4; omega, by show (3 : Int) = _; omega, by show (0 : Int) ≤ b64val n % 4; omega, by show b64val n % 4 < 64; omega, fun h => absurd h (by show ¬ (3 : Int) = 2; omega), fun _ => by show b64val n % 4 < 4; omega, by show (c.o ++ [_]).length ≤ _; simp; omega, mem (by omega) (by omega)⟩
      · exact ⟨by show (0 : Int) ≤ 0; omega, by show (0 : Int) < 4; omega, by show (0 : Int) = _; omega, by show (0 : Int) ≤ 0; omega, by show (0 : Int) < 64; omega, fun h => absurd h (by show ¬ (0 : Int) = 2; omega), fun h => absurd h (by show ¬ (0 : Int) = 3; omega), by show (c.o ++ [_]).length ≤ _; simp; omega, mem (by omega) (by omega)⟩
theorem a2b_ok : ∀ (l : List Int) (c : A2S) (k : Nat), c.Ok k → (∀ x ∈ l, B64ok x) → (l.foldl a2bStep c).Ok (k + l.length)
  | [], _, _, h, _ => h
  | n :: r, c, k, h, hv => by
    have := a2b_ok r (a2bStep c n) (k + 1) (h.step (hv n (.head _))) fun x hx => hv x (.tail _ hx)
    rw [List.foldl_cons, List.length_cons, show k + (r.length + 1) = k + 1 + r.length by omega]
    exact this
def a2b0 : A2S := ⟨0, 0, []⟩
theorem a2b0_ok : a2b0.Ok 0 := ⟨by decide, by decide, by decide, by decide, by decide, by decide, by decide, by decide, fun x hx => nomatch hx⟩

structure A2C where
  q : Int
  tq : Tok
  l : Int
  tl : Tok
  tp : Tok
  i : Int
  ti : Tok
  vs : List Value
  n : Nat
  o : List Int
def a2P (pre : List Int) (c : A2C) : Prop := (⟨c.q, c.l, c.o⟩ : A2S) = pre.foldl a2bStep a2b0
theorem a2P_step {pre : List Int} {c : A2C} {n q l : Int} {o : List Int} (h : (⟨c.q, c.l, c.o⟩ : A2S) = pre.foldl a2bStep a2b0) (e : a2bStep ⟨c.q, c.l, c.o⟩ n = ⟨q, l, o⟩) : (⟨q, l, o⟩ : A2S) = (pre ++ [n]).foldl a2bStep a2b0 := by
  rw [List.foldl_append, ← h, ← e]; rfl
theorem ints_snoc {vs : List Value} {ns : List Int} {n : Int} {t : Tok} (h : IntsAre vs ns) : IntsAre (vs ++ [.int n t]) (ns ++ [n]) := h.append (.cons n t .nil)
theorem c_a2b {w : World} {mean : ExcName → Option Value} {mg mb : Str → Option Value} {s : Shared} {b : Array UInt8} {t : Tok}
    (X : (Mine.hd.heap_39 w.params).In s.heap) (T : Top Vw Ls mean mg mb s.heap) (hl : b.size < 1000) (h4 : b.size % 4 = 0) (hv : ∀ c ∈ KBw.bInts b, B64ok c) :
    Ctr w s 850 8500 (.ref 106) [.bytes b t] [(Str.ofString "strict_mode", .bool false)] (fun v h' => ∃ b' t', v = .bytes b' t' ∧ KBw.bInts b' = ((KBw.bInts b).foldl a2bStep a2b0).o) := by
  intro Q E hret
  refine wpAny_call ?_
  refine' enter (binds := [(Str.ofString "data", .bytes b t), (Str.ofString "strict_mode", .bool false)]) X T ?k6 ?k7 ?k8 ?k9 ?kB ?_ ?c2 ?c3 ?c4 ?c5
  (case k6 => k_is)
  (case k7 => k_is)
  (case k8 => decide)
  (case k9 => exact BindsTo.of_eq rfl)
  (case kB => exact locs rfl)
  (case c2 => exact rfl)
  (case c3 => exact rfl)
  (case c4 => exact rfl)
  (case c5 => decide)
  intro L h F N
  try dsimp only
  refine stopQ ?_
  k_fold
  k_steps
  rename Fr _ _ _ _ => F1
  rename News _ _ _ _ => N1
  rename_i l1 _ _ _ _ _ _ _
  refine' KStb.kst_bytes (σ := A2C) (fun c => [(l1, W.listOf c.vs.toArray c.n)]) (fun c => [(Str.ofString "quad_pos", .int c.q c.tq), (Str.ofString "leftchar", .int c.l c.tl), (Str.ofString "pads", .int 0 c.tp), (Str.ofString "i", .int c.i c.ti)])
     (fun c => IntsAre c.vs c.o) [] a2P ⟨0, _, 0, _, _, 0, _, [], 0, []⟩ rfl rfl rfl F1 N1 ?a1 ?a2 ?a3 ?a4 ?a5
  case a1 => exact IntsAre.nil
  case a2 =>
    intro p hp
    simp only [List.mem_cons, List.not_mem_nil, or_false] at hp
    rcases hp with rfl | rfl | rfl | rfl <;> rfl
  case a3 => exact rfl
  case a4 =>
    intro c pre post n t' u' h' tk' own hks hlen hn0 hn1 hoff hf hp F2 N2
    have hok : (A2S.mk c.q c.l c.o).Ok (0 + pre.length) := by
      have q := a2b_ok pre a2b0 0 a2b0_ok fun x hx => hv x (by rw [hks]; exact List.mem_append_left _ hx)
      rw [← show _ = _ from hp] at q; exact q
    obtain ⟨e1, e2, e3, e4, e5, e6, e7, e8, e9⟩ := hok
    obtain ⟨v1, v2, v3⟩ := hv n (by rw [hks]; simp)
    dsimp only at e1 e2 e3 e4 e5 e6 e7 e8
    have hoff1 : ∀ p ∈ own, p.1 ≠ l1 := hoff.ne (.head _)
    have hsz1 : c.vs.toArray.size ≤ sizeLine := by
      have q1 := hf.length
      have q2 := KBw.ints_length b
      rw [List.size_toArray, sizeLine_eq]; omega
    simp only [List.cons_append, List.nil_append] at N2
    refine stopQ ?_
    k_fold
    k_steps
    all_goals (rename Fr _ _ _ _ => F3; rename News _ _ _ _ => N3)
    · refine' kst_end (⟨1, _, b64val n, _, _, c.i + 1, _, c.vs, c.n, c.o⟩ : A2C) F3 N3 (List.forall_mem_singleton.mpr (.head _)) (fun p hp => .tail _ hp) rfl hf ?hk ?hr (a2P_step (q := 1) (l := b64val n) (o := c.o) hp ?hp)
      case hk => kst_all
      case hr => walk_at "m same"
      case hp => exact a2b_s0 (by assumption)
    · rw [or_2_4 e4 e5 v1 v2] at N3
      rw [and_15 v1 v2] at F3
      simp only [List.push_toArray] at N3
      refine' kst_end (⟨2, _, b64val n % 16, _, _, c.i + 1, _, c.vs ++ [_], c.n + 1, c.o ++ [c.l * 4 + b64val n / 16]⟩ : A2C) F3 N3 (List.forall_mem_singleton.mpr (.head _)) (fun p hp => .tail _ hp) rfl (ints_snoc hf) ?hk ?hr (a2P_step hp ?hp)
      case hk => kst_all
      case hr => walk_at "m same"
      case hp => exact a2b_s1 (by assumption)
    · rw [or_4_2 e4 (e6 (by omega)) v1 v2] at N3
      rw [and_3 v1 v2] at F3
      simp only [List.push_toArray] at N3
      refine' kst_end (⟨3, _, b64val n % 4, _, _, c.i + 1, _, c.vs ++ [_], c.n + 1, c.o ++ [c.l * 16 + b64val n / 4]⟩ : A2C) F3 N3 (List.forall_mem_singleton.mpr (.head _)) (fun p hp => .tail _ hp) rfl (ints_snoc hf) ?hk ?hr (a2P_step hp ?hp)
      case hk => kst_all
      case hr => walk_at "m same"
      case hp => exact a2b_s2 (by assumption)
    · rw [or_6_0 e4 (e7 (by omega)) v1 v2] at N3
      simp only [List.push_toArray] at N3
      refine' kst_end (⟨0, _, 0, _, _, c.i + 1, _, c.vs ++ [_], c.n + 1, c.o ++ [c.l * 64 + b64val n]⟩ : A2C) F3 N3 (List.forall_mem_singleton.mpr (.head _)) (fun p hp => .tail _ hp) rfl (ints_snoc hf) ?hk ?hr (a2P_step hp ?hp)
      case hk => kst_all
      case hr => walk_at "m same"
      case hp => exact a2b_s3 (by assumption) (by assumption) (by assumption)
  case a5 =>
    intro c u' h' tk' _ hf hp F2 N2
    have hok : (A2S.mk c.q c.l c.o).Ok (0 + (KBw.bInts b).length) := by
      have q := a2b_ok (KBw.bInts b) a2b0 0 a2b0_ok hv
      rw [← show _ = _ from hp] at q; exact q
    obtain ⟨e1, e2, e3, e4, e5, e6, e7, e8, e9⟩ := hok
    dsimp only at e1 e2 e3 e4 e5 e6 e7 e8
    rw [KBw.ints_length] at e3 e8
    k_steps
    rename Fr _ _ _ _ => F3
    exact hret _ _ _ F3.keep ⟨_, _, rfl, (KBa.ints_make (by assumption)).trans (congrArg A2S.o hp)⟩

theorem none_S4 : True := by
  k_with_none
  trivial
theorem words_LS4_1 : True := by
  k_with "call type:type" => (((with_reducible show wpAny _ _ (call _ [Value.bytes _ _]) _ _ _); refine call_type_of (Tx := "bytes") rfl (by decide +kernel) ?_))
  k_with "m dec" => (first | omega | (simp only [decide_eq_true_eq, decide_eq_false_iff_not, Bool.not_eq_true, beq_iff_eq, beq_eq_false_iff_ne, ne_eq, Bool.not_eq_true', Bool.not_eq_false'] ; omega))
  k_with "ite" => ((k_openite; first | (refine ite_pos (by walk_at "m dec") ?_) | (refine ite_neg (by walk_at "m dec") ?_)))
  k_with "m upd" => (first | exact Upd.head (List.forall_mem_nil _) | exact Upd.head (by assumption) | (refine Upd.tail (by first | assumption | (refine neN ?_; omega)) ?_; walk_at "m upd"))
  k_with "m same" => ((intro z h1 h2 h3; (simp only [List.forall_mem_cons, List.not_mem_nil, false_implies, implies_true, and_true, ne_eq] at h2); (try simp only [List.contains_cons, List.contains_nil, Bool.or_false, Bool.or_eq_false_iff, beq_eq_false_iff_ne, ne_eq] at h3); (simp [kstB, h1, h2, h3]; done)))
  k_with "call builtin:list.append" => (((with_reducible show wpAny _ _ (call (Value.builtin _) [Value.ref _, _]) _ _ _); (refine' append_K ?k1 ?k2 ?k3 ?_ ?z; (case k1 => assumption); (case k2 => assumption); (case k3 => walk_at "m upd"); (case z => first | assumption | exact (by assumption : ∀ x : Value, _) _)); intro h9 F9 N9; (try k_sweep)))
  k_with "m ksame" => ((intro z h2 h3; (simp only [List.forall_mem_cons, List.not_mem_nil, false_implies, implies_true, and_true, ne_eq] at h2); (try simp only [List.contains_cons, List.contains_nil, Bool.or_false, Bool.or_eq_false_iff, beq_eq_false_iff_ne, ne_eq] at h3); (simp [kstB, h2, h3]; done)))
  trivial
theorem words_S4_1 : True := by
  k_with "call type:type" => (((with_reducible show wpAny _ _ (call _ [Value.bytes _ _]) _ _ _); refine call_type_of (Tx := "bytes") rfl (by decide +kernel) ?_))
  k_with "m dec" => (first | omega | (simp only [decide_eq_true_eq, decide_eq_false_iff_not, Bool.not_eq_true, beq_iff_eq, beq_eq_false_iff_ne, ne_eq, Bool.not_eq_true', Bool.not_eq_false'] ; omega))
  k_with "ite" => ((k_openite; first | (refine ite_pos (by walk_at "m dec") ?_) | (refine ite_neg (by walk_at "m dec") ?_)))
  k_with "m upd" => (first | exact Upd.head (by assumption) | (refine Upd.tail (by first | assumption | (refine neN ?_; omega)) ?_; walk_at "m upd"))
  k_with "m same" => ((intro z h1 h2 h3; (simp only [List.forall_mem_cons, List.not_mem_nil, false_implies, implies_true, and_true, ne_eq] at h2); (try simp only [List.contains_cons, List.contains_nil, Bool.or_false, Bool.or_eq_false_iff, beq_eq_false_iff_ne, ne_eq] at h3); (simp [kstB, h1, h2, h3]; done)))
  k_with "call builtin:list.append" => (((with_reducible show wpAny _ _ (call (Value.builtin _) [Value.ref _, _]) _ _ _); (refine' append_K ?k1 ?k2 ?k3 ?_ ?z; (case k1 => assumption); (case k2 => assumption); (case k3 => walk_at "m upd"); (case z => first | assumption | exact (by assumption : ∀ x : Value, _) _)); intro h9 F9 N9; (try k_sweep)))
  k_with "call ref" => (((with_reducible show wpAny _ _ (call (Value.ref 84) _ _) _ _ _); (refine useC (c_buffer (Frag.In.keeps (by assumption) (Fr.keep (by assumption))) (Top.keeps (by assumption) (Fr.keep (by assumption)))) (by assumption) (by assumption) ?_); intro v9 h9 tk9 F9 N9 x9 p9; subst p9; clear x9; (try dsimp only); (try k_fold)))
  k_with "call ref" => (((with_reducible show wpAny _ _ (call (Value.ref 91) _ _) _ _ _); (refine useC (c_truth_false (Frag.In.keeps (by assumption) (Fr.keep (by assumption))) (Top.keeps (by assumption) (Fr.keep (by assumption)))) (by assumption) (by assumption) ?_); intro v9 h9 tk9 F9 N9 x9 p9; subst p9; clear x9; (try dsimp only); (try k_fold)))
  trivial
theorem bitOr_nat (a b : Nat) : Builtin.bitOr (a : Int) (b : Int) = ((a ||| b : Nat) : Int) := by
  unfold Builtin.bitOr Builtin.bitAnd Builtin.bitNot
  have e1 : decide (0 ≤ -(a : Int) - 1) = false := decide_eq_false (by omega)
  have e2 : decide (0 ≤ -(b : Int) - 1) = false := decide_eq_false (by omega)
  rw [e1, e2]
  dsimp only
  have e3 : (-(-(a : Int) - 1) - 1).toNat = a := by omega
  have e4 : (-(-(b : Int) - 1) - 1).toNat = b := by omega
  rw [e3, e4]; omega
theorem bitOr_add {x b : Int} {k : Nat} (hx : 0 ≤ x) (h0 : 0 ≤ b) (h1 : b < (2 ^ k : Nat)) : Builtin.bitOr (x * (2 ^ k : Nat)) b = x * (2 ^ k : Nat) + b := by
  obtain ⟨a, rfl⟩ : ∃ a : Nat, x = (a : Int) := ⟨x.toNat, by omega⟩
  obtain ⟨c, rfl, hc⟩ := nat_of h0 h1
  have e : (a : Int) * (2 ^ k : Nat) = ((a <<< k : Nat) : Int) := by rw [Nat.shiftLeft_eq]; rfl
  rw [e, bitOr_nat, ← Nat.shiftLeft_add_eq_or_of_lt hc]; rfl
section
variable {prog : Program} {w : World} {A : Around} {E : Value → Shared → Prop} {s : Shared} {Q : Value → Shared → Prop} {a b : Int} {t u : Tok}
theorem and63 (h : Q (.int (a % 64) s.toks) { s with toks := s.toks + 1 }) : wpAny (model prog w) A (binaryOp .BitAnd (.int a t) (.int 63 u)) Q E s := and_int (by rw [bitAnd_m6]; exact h)
theorem and65535 (h : Q (.int (a % 65536) s.toks) { s with toks := s.toks + 1 }) : wpAny (model prog w) A (binaryOp .BitAnd (.int a t) (.int 65535 u)) Q E s := and_int (by rw [bitAnd_m16]; exact h)
theorem shr_ {n p : Int} (k : Nat) (hn : n = k) (hp : p = 2 ^ k) (h : Q (.int (a / p) s.toks) { s with toks := s.toks + 1 }) : wpAny (model prog w) A (binaryOp .RShift (.int a t) (.int n u)) Q E s := by
  subst hn hp
  refine rshift_int (by omega) ?_
  rw [Int.fdiv_eq_ediv_of_nonneg _ (Int.pow_nonneg (by decide)), Int.toNat_natCast]; exact h
theorem or_sh {k : Nat} {p : Int} (hp : p = (2 ^ k : Nat)) (ha : 0 ≤ a) (h0 : 0 ≤ b) (h1 : b < (2 ^ k : Nat)) (h : Q (.int (a * p + b) s.toks) { s with toks := s.toks + 1 }) : wpAny (model prog w) A (binaryOp .BitOr (.int (a * p) t) (.int b u)) Q E s := by
  subst hp
  exact or_int (by rw [bitOr_add ha h0 h1]; exact h)
def b64sgn (i : Int) : Int := if i < 26 then i + 65 else if i < 52 then i + 71 else if i < 62 then i - 4 else if i = 62 then 43 else 47
theorem b64_item {value slice : PySem.Expr} {tb : Tok} (h : ∀ t' k, Q (.int (b64sgn (a % 64)) t') { s with toks := k })
    (hs : subscripted slice false (.bytes #[65, 66, 67, 68, 69, 70, 71, 72, 73, 74, 75, 76, 77, 78, 79, 80, 81, 82, 83, 84, 85, 86, 87, 88, 89, 90, 97, 98, 99, 100, 101, 102, 103, 104, 105, 106, 107, 108, 109, 110, 111, 112, 113, 114, 115, 116, 117, 118, 119, 120, 121, 122, 48, 49, 50, 51, 52, 53, 54, 55, 56, 57, 43, 47] tb) (.int (a % 64) u) = operate [.bytes #[65, 66, 67, 68, 69, 70, 71, 72, 73, 74, 75, 76, 77, 78, 79, 80, 81, 82, 83, 84, 85, 86, 87, 88, 89, 90, 97, 98, 99, 100, 101, 102, 103, 104, 105, 106, 107, 108, 109, 110, 111, 112, 113, 114, 115, 116, 117, 118, 119, 120, 121, 122, 48, 49, 50, 51, 52, 53, 54, 55, 56, 57, 43, 47] tb, .int (a % 64) u] (getItem (.bytes #[65, 66, 67, 68, 69, 70, 71, 72, 73, 74, 75, 76, 77, 78, 79, 80, 81, 82, 83, 84, 85, 86, 87, 88, 89, 90, 97, 98, 99, 100, 101, 102, 103, 104, 105, 106, 107, 108, 109, 110, 111, 112, 113, 114, 115, 116, 117, 118, 119, 120, 121, 122, 48, 49, 50, 51, 52, 53, 54, 55, 56, 57, 43, 47] tb) (.int (a % 64) u)) := by with_unfolding_all rfl)
    (ht : ∀ r, letTemporaryGo value (.bytes #[65, 66, 67, 68, 69, 70, 71, 72, 73, 74, 75, 76, 77, 78, 79, 80, 81, 82, 83, 84, 85, 86, 87, 88, 89, 90, 97, 98, 99, 100, 101, 102, 103, 104, 105, 106, 107, 108, 109, 110, 111, 112, 113, 114, 115, 116, 117, 118, 119, 120, 121, 122, 48, 49, 50, 51, 52, 53, 54, 55, 56, 57, 43, 47] tb) r = pure () := by intro _; with_unfolding_all rfl) :
    wpAny (model prog w) A (subscriptTail value slice (.bytes #[65, 66, 67, 68, 69, 70, 71, 72, 73, 74, 75, 76, 77, 78, 79, 80, 81, 82, 83, 84, 85, 86, 87, 88, 89, 90, 97, 98, 99, 100, 101, 102, 103, 104, 105, 106, 107, 108, 109, 110, 111, 112, 113, 114, 115, 116, 117, 118, 119, 120, 121, 122, 48, 49, 50, 51, 52, 53, 54, 55, 56, 57, 43, 47] tb) (.int (a % 64) u)) Q E s := by
  refine KBw.item_K rfl (by decide +kernel) (by omega) (by show a % 64 < 64; omega) (fun t' k _ _ => ?_) hs ht
  have e : (KBw.bInts #[65, 66, 67, 68, 69, 70, 71, 72, 73, 74, 75, 76, 77, 78, 79, 80, 81, 82, 83, 84, 85, 86, 87, 88, 89, 90, 97, 98, 99, 100, 101, 102, 103, 104, 105, 106, 107, 108, 109, 110, 111, 112, 113, 114, 115, 116, 117, 118, 119, 120, 121, 122, 48, 49, 50, 51, 52, 53, 54, 55, 56, 57, 43, 47]).getD (a % 64).toNat 0 = b64sgn (a % 64) := by
    obtain ⟨i, hi, hk⟩ := nat_of (k := 64) (x := a % 64) (by omega) (by omega)
    rw [hi, Int.toNat_natCast]
    exact (by decide +kernel : ∀ i : Nat, i < 64 → (KBw.bInts #[65, 66, 67, 68, 69, 70, 71, 72, 73, 74, 75, 76, 77, 78, 79, 80, 81, 82, 83, 84, 85, 86, 87, 88, 89, 90, 97, 98, 99, 100, 101, 102, 103, 104, 105, 106, 107, 108, 109, 110, 111, 112, 113, 114, 115, 116, 117, 118, 119, 120, 121, 122, 48, 49, 50, 51, 52, 53, 54, 55, 56, 57, 43, 47]).getD i 0 = b64sgn (i : Int)) i hk
  rw [e]; exact h _ _
end
theorem words_S4_2 : True := by
  k_with "binaryOp BitAnd int int" => (first | with_reducible refine and63 ?_ | with_reducible refine and65535 ?_)
  k_with "binaryOp RShift int int" => (first | refine shr_ (p := 4) 2 (by omega) (by decide) ?_ | refine shr_ (p := 16) 4 (by omega) (by decide) ?_ | refine shr_ (p := 64) 6 (by omega) (by decide) ?_ | refine shr_ (p := 1) 0 (by omega) (by decide) ?_)
  k_with "binaryOp BitOr int int" => (k_dflt (refine or_sh (k := 8) (p := 2 ^ Int.toNat 8) rfl (by omega) (by omega) (by show _ < (256 : Int); omega) ?_))
  k_with "subscriptTail" => (((with_reducible show wpAny _ _ (subscriptTail _ _ (Value.bytes _ _) (Value.int (_ % 64) _)) _ _ _); (refine b64_item ?_ ?_ ?_); rotate_left; (with_unfolding_all rfl); (intro _; with_unfolding_all rfl); intro t9 k9; (try dsimp only)))
  trivial
def b2aX (c : Int × Int × List Int) (n : Int) : Int := (c.2.1 * 2 ^ Int.toNat 8 + n) % 65536
def b2aStep (c : Int × Int × List Int) (n : Int) : Int × Int × List Int :=
  if c.1 = 0 then (0 + 8 - 6, b2aX c n, c.2.2 ++ [b64sgn (b2aX c n / 4 % 64)])
  else if c.1 = 2 then (2 + 8 - 6, b2aX c n, c.2.2 ++ [b64sgn (b2aX c n / 16 % 64)])
  else (4 + 8 - 6 - 6, b2aX c n, c.2.2 ++ [b64sgn (b2aX c n / 64 % 64)] ++ [b64sgn (b2aX c n / 1 % 64)])
def B2Ok (c : Int × Int × List Int) (k : Nat) : Prop := (c.1 = 0 ∨ c.1 = 2 ∨ c.1 = 4) ∧ 0 ≤ c.2.1 ∧ c.2.1 < 65536 ∧ (c.1 = 0 → k % 3 = 0) ∧ (c.1 = 2 → k % 3 = 1) ∧ (c.1 = 4 → k % 3 = 2) ∧ c.2.2.length ≤ 2 * k ∧ ∀ x ∈ c.2.2, 0 ≤ x ∧ x < 256
theorem b64sgn_in (x : Int) : 0 ≤ b64sgn (x % 64) ∧ b64sgn (x % 64) < 256 := by
  unfold b64sgn
  (repeat' split) <;> omega
theorem mem_snoc {o : List Int} {y : Int} (e9 : ∀ x ∈ o, 0 ≤ x ∧ x < 256) (h : 0 ≤ y ∧ y < 256) : ∀ x ∈ o ++ [y], 0 ≤ x ∧ x < 256 := fun x hx => by
  rcases List.mem_append.mp hx with hx | hx
  · exact e9 x hx
  · rw [List.mem_singleton.mp hx]; exact h
theorem B2Ok.step {c : Int × Int × List Int} {k : Nat} {n : Int} (h : B2Ok c k) : B2Ok (b2aStep c n) (k + 1) := by
  obtain ⟨lb, lc, o⟩ := c
  obtain ⟨e1, e2, e3, e4, e5, e6, e8, e9⟩ := h
  dsimp only at e1 e2 e3 e4 e5 e6 e8 e9
  have hX : 0 ≤ b2aX (lb, lc, o) n ∧ b2aX (lb, lc, o) n < 65536 := by unfold b2aX; omega
  unfold b2aStep
  rcases e1 with rfl | rfl | rfl
  · have := e4 rfl
    refine ⟨.inr (.inl rfl), hX.1, hX.2, fun h => absurd (show (0 + 8 - 6 : Int) = 0 from h) (by decide), fun _ => by omega, fun h => absurd (show (0 + 8 - 6 : Int) = 4 from h) (by decide), ?_, mem_snoc e9 (b64sgn_in _)⟩
    show (o ++ [_]).length ≤ _
    rw [List.length_append, List.length_singleton]; omega
  · have := e5 rfl
    refine ⟨.inr (.inr rfl), hX.1, hX.2, fun h => absurd (show (2 + 8 - 6 : Int) = 0 from h) (by decide), fun h => absurd (show (2 + 8 - 6 : Int) = 2 from h) (by decide), fun _ => by omega, ?_, mem_snoc e9 (b64sgn_in _)⟩
    show (o ++ [_]).length ≤ _
    rw [List.length_append, List.length_singleton]; omega
  · have := e6 rfl
    refine ⟨.inl rfl, hX.1, hX.2, fun _ => by omega, fun h => absurd (show (4 + 8 - 6 - 6 : Int) = 2 from h) (by decide), fun h => absurd (show (4 + 8 - 6 - 6 : Int) = 4 from h) (by decide), ?_, mem_snoc (mem_snoc e9 (b64sgn_in _)) (b64sgn_in _)⟩
    show (o ++ [_] ++ [_]).length ≤ _
    rw [List.length_append, List.length_append, List.length_singleton, List.length_singleton]; omega
theorem b2a_ok : ∀ (l : List Int) (c : Int × Int × List Int) (k : Nat), B2Ok c k → B2Ok (l.foldl b2aStep c) (k + l.length)
  | [], _, _, h => h
  | n :: r, c, k, h => by
    rw [List.foldl_cons, List.length_cons, show k + (r.length + 1) = k + 1 + r.length by omega]
    exact b2a_ok r _ _ h.step
theorem b2a0_ok : B2Ok (0, 0, []) 0 := ⟨.inl rfl, by decide, by decide, by decide, by decide, by decide, by decide, fun x hx => nomatch hx⟩
theorem b2P_step {pre : List Int} {c d : Int × Int × List Int} {n : Int} (h : c = pre.foldl b2aStep (0, 0, [])) (e : b2aStep c n = d) : d = (pre ++ [n]).foldl b2aStep (0, 0, []) := by
  rw [List.foldl_append, ← h, ← e]; rfl
abbrev B2T : Type := Int × Tok × Int × Tok × List Value × Nat × List Int
theorem c_b2a {w : World} {mean : ExcName → Option Value} {mg mb : Str → Option Value} {s : Shared} {b : Array UInt8} {t : Tok}
    (X : (Mine.hd.heap_39 w.params).In s.heap) (T : Top Vw Ls mean mg mb s.heap) (hl : b.size < 1000) (h3 : b.size % 3 = 0) :
    Ctr w s 850 8500 (.ref 114) [.bytes b t] [(Str.ofString "newline", .bool false)] (fun v h' => ∃ b' t', v = .bytes b' t' ∧ KBw.bInts b' = ((KBw.bInts b).foldl b2aStep (0, 0, [])).2.2) := by
  intro Q E hret
  refine wpAny_call ?_
  refine' enter (binds := [(Str.ofString "data", .bytes b t), (Str.ofString "newline", .bool false)]) X T ?k6 ?k7 ?k8 ?k9 ?kB ?_ ?c2 ?c3 ?c4 ?c5
  (case k6 => k_is)
  (case k7 => k_is)
  (case k8 => decide)
  (case k9 => exact BindsTo.of_eq rfl)
  (case kB => exact locs rfl)
  (case c2 => exact rfl)
  (case c3 => exact rfl)
  (case c4 => exact rfl)
  (case c5 => decide)
  intro L h F N
  try dsimp only
  refine stopQ ?_
  k_fold
  k_steps
  rename Fr _ _ _ _ => F1
  rename News _ _ _ _ => N1
  rename_i l1 _ _ _ _ _
  refine' KStb.kst_bytes (σ := B2T) (fun c => [(l1, W.listOf c.2.2.2.2.1.toArray c.2.2.2.2.2.1)]) (fun c => [(Str.ofString "leftbits", .int c.1 c.2.1), (Str.ofString "leftchar", .int c.2.2.1 c.2.2.2.1)])
     (fun c => IntsAre c.2.2.2.2.1 c.2.2.2.2.2.2) [] (fun pre c => (c.1, c.2.2.1, c.2.2.2.2.2.2) = pre.foldl b2aStep (0, 0, [])) ⟨0, _, 0, _, [], 0, []⟩ rfl rfl rfl F1 N1 ?a1 ?a2 ?a3 ?a4 ?a5
  case a1 => exact IntsAre.nil
  case a2 => kst_all
  case a3 => exact rfl
  case a4 =>
    rintro ⟨lb, tb, lc, tc, vs, nn, os⟩ pre post n t' u' h' tk' own hks hlen hn0 hn1 hoff hf hp F2 N2
    dsimp only at hf hp F2 N2
    have hok := b2a_ok pre _ 0 b2a0_ok
    rw [← hp] at hok
    obtain ⟨hlb, hc0, hc1, _, _, _, hz, _⟩ := hok
    dsimp only at hlb hc0 hc1 hz
    have hoff1 : ∀ p ∈ own, p.1 ≠ l1 := hoff.ne (.head _)
    have hsz0 : vs.length < 2000 := by
      have q1 := hf.length
      have q2 := KBw.ints_length b
      omega
    have hsz1 : vs.toArray.size ≤ sizeLine := by rw [List.size_toArray, sizeLine_eq]; omega
    simp only [List.cons_append, List.nil_append] at N2
    refine stopQ ?_
    k_fold
    rcases hlb with rfl | rfl | rfl
    · k_steps
      rename Fr _ _ _ _ => F3; rename News _ _ _ _ => N3
      simp only [List.push_toArray] at N3
      refine' kst_end ((_, _, _, _, _, _, _) : B2T) F3 N3 (List.forall_mem_singleton.mpr (.head _)) (fun p hp => .tail _ hp) rfl ?hf ?hk ?hr ?hp
      case hf => exact ints_snoc hf
      case hk => kst_all
      case hr => walk_at "m same"
      case hp => exact b2P_step hp rfl
    · k_steps
      rename Fr _ _ _ _ => F3; rename News _ _ _ _ => N3
      simp only [List.push_toArray] at N3
      refine' kst_end ((_, _, _, _, _, _, _) : B2T) F3 N3 (List.forall_mem_singleton.mpr (.head _)) (fun p hp => .tail _ hp) rfl ?hf ?hk ?hr ?hp
      case hf => exact ints_snoc hf
      case hk => kst_all
      case hr => walk_at "m same"
      case hp => exact b2P_step hp rfl
    · have hsz2 : ∀ x : Value, (vs.toArray.push x).size ≤ sizeLine := fun x => by rw [Array.size_push, List.size_toArray, sizeLine_eq]; omega
      k_steps
      rename Fr _ _ _ _ => F3; rename News _ _ _ _ => N3
      simp only [List.push_toArray] at N3
      refine' kst_end ((_, _, _, _, _, _, _) : B2T) F3 N3 (List.forall_mem_singleton.mpr (.head _)) (fun p hp => .tail _ hp) rfl ?hf ?hk ?hr ?hp
      case hf => exact ints_snoc (ints_snoc hf)
      case hk => kst_all
      case hr => walk_at "m same"
      case hp => exact b2P_step hp rfl
  case a5 =>
    intro c u' h' tk' _ hf hp F2 N2
    have hok := b2a_ok (KBw.bInts b) _ 0 b2a0_ok
    rw [← hp] at hok
    obtain ⟨hlb, hc0, hc1, _, g1, g2, hz, e9⟩ := hok
    dsimp only at hlb hc0 hc1 hz g1 g2
    rw [KBw.ints_length] at g1 g2 hz
    have hlb0 : c.1 = 0 := by omega
    k_steps
    rename Fr _ _ _ _ => F3
    exact hret _ _ _ F3.keep ⟨_, _, rfl, (KBa.ints_make (by assumption)).trans (congrArg (fun d => d.2.2) hp)⟩

theorem none_S5 : True := by
  k_with_none
  trivial
theorem words_LS5_1 : True := by
  k_with "call type:type" => (((with_reducible show wpAny _ _ (call _ [Value.bytes _ _]) _ _ _); refine call_type_of (Tx := "bytes") rfl (by decide +kernel) ?_))
  k_with "m dec" => (first | omega | (simp only [decide_eq_true_eq, decide_eq_false_iff_not, Bool.not_eq_true, beq_iff_eq, beq_eq_false_iff_ne, ne_eq, Bool.not_eq_true', Bool.not_eq_false'] ; omega))
  k_with "ite" => ((k_openite; first | (refine ite_pos (by walk_at "m dec") ?_) | (refine ite_neg (by walk_at "m dec") ?_)))
  k_with "m upd" => (first | exact Upd.head (List.forall_mem_nil _) | exact Upd.head (by assumption) | (refine Upd.tail (by first | assumption | (refine neN ?_; omega)) ?_; walk_at "m upd"))
  k_with "m same" => ((intro z h1 h2 h3; (simp only [List.forall_mem_cons, List.not_mem_nil, false_implies, implies_true, and_true, ne_eq] at h2); (try simp only [List.contains_cons, List.contains_nil, Bool.or_false, Bool.or_eq_false_iff, beq_eq_false_iff_ne, ne_eq] at h3); (simp [kstB, h1, h2, h3]; done)))
  k_with "call builtin:list.append" => (((with_reducible show wpAny _ _ (call (Value.builtin _) [Value.ref _, _]) _ _ _); (refine' append_K ?k1 ?k2 ?k3 ?_ ?z; (case k1 => assumption); (case k2 => assumption); (case k3 => walk_at "m upd"); (case z => first | assumption | exact (by assumption : ∀ x : Value, _) _)); intro h9 F9 N9; (try k_sweep)))
  k_with "m ksame" => ((intro z h2 h3; (simp only [List.forall_mem_cons, List.not_mem_nil, false_implies, implies_true, and_true, ne_eq] at h2); (try simp only [List.contains_cons, List.contains_nil, Bool.or_false, Bool.or_eq_false_iff, beq_eq_false_iff_ne, ne_eq] at h3); (simp [kstB, h2, h3]; done)))
  trivial
theorem words_S5_1 : True := by
  k_with "call type:type" => (((with_reducible show wpAny _ _ (call _ [Value.bytes _ _]) _ _ _); refine call_type_of (Tx := "bytes") rfl (by decide +kernel) ?_))
  k_with "m dec" => (first | omega | (simp only [decide_eq_true_eq, decide_eq_false_iff_not, Bool.not_eq_true, beq_iff_eq, beq_eq_false_iff_ne, ne_eq, Bool.not_eq_true', Bool.not_eq_false'] ; omega))
  k_with "ite" => ((k_openite; first | (refine ite_pos (by walk_at "m dec") ?_) | (refine ite_neg (by walk_at "m dec") ?_)))
  k_with "m upd" => (first | exact Upd.head (by assumption) | (refine Upd.tail (by first | assumption | (refine neN ?_; omega)) ?_; walk_at "m upd"))
  k_with "m same" => ((intro z h1 h2 h3; (simp only [List.forall_mem_cons, List.not_mem_nil, false_implies, implies_true, and_true, ne_eq] at h2); (try simp only [List.contains_cons, List.contains_nil, Bool.or_false, Bool.or_eq_false_iff, beq_eq_false_iff_ne, ne_eq] at h3); (simp [kstB, h1, h2, h3]; done)))
  k_with "call builtin:list.append" => (((with_reducible show wpAny _ _ (call (Value.builtin _) [Value.ref _, _]) _ _ _); (refine' append_K ?k1 ?k2 ?k3 ?_ ?z; (case k1 => assumption); (case k2 => assumption); (case k3 => walk_at "m upd"); (case z => first | assumption | exact (by assumption : ∀ x : Value, _) _)); intro h9 F9 N9; (try k_sweep)))
  trivial
open Builtin._codecs in
theorem encode_ascii_tree (x : Str) (t u : Tok) : Builtin.«str.encode» ⟨[.str x t, .str (Str.ofString "ascii") u], []⟩ = (do ret (← encodeRoad "str.encode" (.str x t) x (Str.ofString "ascii") none)) := by kernel_rfl
open Builtin._codecs in
theorem encodeRoad_ascii (id : String) (self : Value) (x : Str) (errors : Option Str) : encodeRoad id self x (Str.ofString "ascii") errors = (do mkBytes (← encodeNarrow id asciiCodec errors self x)) := by
  first | rfl | (unfold encodeRoad; rfl) | (unfold encodeRoad; simp only []; rfl) | decide
theorem foldl_u8 : ∀ (l : List Nat) (acc : Array UInt8), l.foldl (fun acc y => acc ++ ([y.toUInt8] : List UInt8).toArray) acc = acc ++ (l.map fun c => c.toUInt8).toArray
  | [], acc => by simp
  | a :: r, acc => by rw [List.foldl_cons, foldl_u8 r]; simp
theorem two_turns {β : Type} (n : Nat) (b b1 : β) (f : Nat → β → Sem (ForInStep β)) (h1 : ∀ i, f i b = pure (.yield b1)) (h2 : ∀ i, f i b1 = pure (.done b1)) : forIn [0:n + 1] b f = pure b1 := by
  rw [Std.Legacy.Range.forIn_eq_forIn_range']
  have hsz : ([0:n + 1] : Std.Legacy.Range).size = n + 1 := by simp [Std.Legacy.Range.size]
  show forIn (List.range' 0 ([0:n + 1] : Std.Legacy.Range).size 1) b f = _
  rw [hsz, List.range'_succ, List.forIn_cons, h1]
  show (forIn (List.range' (0 + 1) n) b1 f : Sem β) = pure b1
  cases n with
  | zero => rfl
  | succ k => rw [List.range'_succ, List.forIn_cons, h2]; rfl
open Builtin._codecs in
theorem encodeNarrow_ascii (id : String) (errors : Option Str) (self : Value) (a : Nat) (r : List Nat) (hl : (a :: r).length < 1000) (hb : ∀ c ∈ a :: r, c < 128) : encodeNarrow id asciiCodec errors self ⟨⟨a :: r⟩⟩ = pure ((a :: r).map fun c => c.toUInt8).toArray := by
  have hbad : ∀ c ∈ a :: r, asciiCodec.bad c = false := fun c hc => decide_eq_false (by have := hb c hc; omega)
  have hf : (Array.mk (a :: r)).findIdx? asciiCodec.bad = none := by
    rw [Array.findIdx?_eq_none_iff]
    intro y hy
    exact hbad y (by simpa using hy)
  have h0 : asciiCodec.bad a = false := hbad a (.head _)
  have hx : (Array.mk (a :: r)).extract 0 = Array.mk (a :: r) := by simp
  unfold encodeNarrow
  dsimp only
  refine (congrArg (fun t => t >>= _) (two_turns r.length _ (((a :: r).length, ((a :: r).map fun c => c.toUInt8).toArray, ({} : Faults)) : Nat × Array UInt8 × Faults) _ (fun i => ?_) (fun i => ?_))).trans rfl
  · rw [if_neg (by show ¬ (0 > sizeLine); exact Nat.not_lt_zero _)]
    show (if (!asciiCodec.bad a) = true then _ else _) = _
    rw [h0]
    show pure (ForInStep.yield (_, _, _)) = _
    have e1 : (Array.mk (a :: r)).extract 0 (Array.mk (a :: r)).size = Array.mk (a :: r) := Array.extract_size
    simp only [e1, hf, Option.getD_none]
    have e2 : Array.foldl (fun acc y => acc ++ (asciiCodec.bytesOf y).toArray) (#[] : Array UInt8) (Array.mk (a :: r)) = ((a :: r).map fun c => c.toUInt8).toArray := by
      rw [← Array.foldl_toList]
      exact (foldl_u8 (a :: r) #[]).trans (by simp)
    rw [e2]
    simp
  · have hz : (((a :: r).map fun c => c.toUInt8).toArray).size < 1000 := by simpa using hl
    rw [if_neg (by show ¬ (_ > sizeLine); rw [sizeLine_eq]; exact Nat.not_lt.mpr (Nat.le_of_lt (Nat.lt_of_lt_of_le hz (by decide))))]
    have hn : (Array.mk (a :: r))[(a :: r).length]? = none := by simp
    rw [hn]
section
variable {prog : Program} {w : World} {A : Around} {E : Value → Shared → Prop} {s : Shared} {Q : Value → Shared → Prop} {x : Str} {t u : Tok}
theorem call_encode_ascii (hl : x.length < 1000) (h0 : 0 < x.length) (hb : ∀ c ∈ x.cps.toList, c < 128) (h : ∀ b t' k, KBw.bInts b = x.cps.toList.map (fun c : Nat => (c : Int)) → Q (.bytes b t') { s with toks := k }) :
    wpAny (model prog w) A (call (.builtin "str.encode") [.str x t, .str (Str.ofString "ascii") u]) Q E s := by
  refine wpAny_call_entry F.slot_str_encode (typeIs_str _ _ _) F.entry_str_encode ?_ (F.args_str_encode_2 _ _)
  rw [encode_ascii_tree, encodeRoad_ascii]
  obtain ⟨⟨l⟩⟩ := x
  cases l with
  | nil => exact absurd h0 (Nat.lt_irrefl _)
  | cons a r =>
    rw [encodeNarrow_ascii _ _ _ a r hl hb]
    show wpAny (model prog w) A.in1 (mkBytes _ >>= fun v => ret v) _ _ _
    have hz : ¬ (((a :: r).map fun c => c.toUInt8).toArray).size > sizeLine := by
      have : (((a :: r).map fun c => c.toUInt8).toArray).size < 1000 := by rw [List.size_toArray, List.length_map]; exact hl
      rw [sizeLine_eq]; exact Nat.not_lt.mpr (Nat.le_of_lt (Nat.lt_of_lt_of_le this (by decide)))
    unfold mkBytes
    rw [if_neg hz]
    refine fun Γ p hΓ => ?_
    refine ⟨_, rfl, h _ _ _ ?_⟩
    show ((a :: r).map fun c => c.toUInt8).map (fun c => (c.toNat : Int)) = _
    rw [List.map_map]
    refine List.map_congr_left fun c hc => ?_
    have := hb c hc
    show ((c.toUInt8.toNat : Nat) : Int) = (c : Int)
    rw [show c.toUInt8.toNat = c % 256 from rfl, Nat.mod_eq_of_lt (by omega)]
end

theorem none_S6 : True := by
  k_with_none
  trivial
theorem words_LS6_1 : True := by
  k_with "call type:type" => (((with_reducible show wpAny _ _ (call _ [Value.bytes _ _]) _ _ _); refine call_type_of (Tx := "bytes") rfl (by decide +kernel) ?_))
  k_with "m dec" => (first | omega | (simp only [decide_eq_true_eq, decide_eq_false_iff_not, Bool.not_eq_true, beq_iff_eq, beq_eq_false_iff_ne, ne_eq, Bool.not_eq_true', Bool.not_eq_false'] ; omega))
  k_with "ite" => ((k_openite; first | (refine ite_pos (by walk_at "m dec") ?_) | (refine ite_neg (by walk_at "m dec") ?_)))
  k_with "m upd" => (first | exact Upd.head (List.forall_mem_nil _) | exact Upd.head (by assumption) | (refine Upd.tail (by first | assumption | (refine neN ?_; omega)) ?_; walk_at "m upd"))
  k_with "m same" => ((intro z h1 h2 h3; (simp only [List.forall_mem_cons, List.not_mem_nil, false_implies, implies_true, and_true, ne_eq] at h2); (try simp only [List.contains_cons, List.contains_nil, Bool.or_false, Bool.or_eq_false_iff, beq_eq_false_iff_ne, ne_eq] at h3); (simp [kstB, h1, h2, h3]; done)))
  k_with "call builtin:list.append" => (((with_reducible show wpAny _ _ (call (Value.builtin _) [Value.ref _, _]) _ _ _); (refine' append_K ?k1 ?k2 ?k3 ?_ ?z; (case k1 => assumption); (case k2 => assumption); (case k3 => walk_at "m upd"); (case z => first | assumption | exact (by assumption : ∀ x : Value, _) _)); intro h9 F9 N9; (try k_sweep)))
  k_with "m ksame" => ((intro z h2 h3; (simp only [List.forall_mem_cons, List.not_mem_nil, false_implies, implies_true, and_true, ne_eq] at h2); (try simp only [List.contains_cons, List.contains_nil, Bool.or_false, Bool.or_eq_false_iff, beq_eq_false_iff_ne, ne_eq] at h3); (simp [kstB, h2, h3]; done)))
  trivial
theorem words_S6_1 : True := by
  k_with "call type:type" => (((with_reducible show wpAny _ _ (call _ [Value.bytes _ _]) _ _ _); refine call_type_of (Tx := "bytes") rfl (by decide +kernel) ?_))
  k_with "m dec" => (first | omega | (simp only [decide_eq_true_eq, decide_eq_false_iff_not, Bool.not_eq_true, beq_iff_eq, beq_eq_false_iff_ne, ne_eq, Bool.not_eq_true', Bool.not_eq_false'] ; omega))
  k_with "ite" => ((k_openite; first | (refine ite_pos (by walk_at "m dec") ?_) | (refine ite_neg (by walk_at "m dec") ?_)))
  k_with "m upd" => (first | exact Upd.head (by assumption) | (refine Upd.tail (by first | assumption | (refine neN ?_; omega)) ?_; walk_at "m upd"))
  k_with "m same" => ((intro z h1 h2 h3; (simp only [List.forall_mem_cons, List.not_mem_nil, false_implies, implies_true, and_true, ne_eq] at h2); (try simp only [List.contains_cons, List.contains_nil, Bool.or_false, Bool.or_eq_false_iff, beq_eq_false_iff_ne, ne_eq] at h3); (simp [kstB, h1, h2, h3]; done)))
  k_with "call builtin:list.append" => (((with_reducible show wpAny _ _ (call (Value.builtin _) [Value.ref _, _]) _ _ _); (refine' append_K ?k1 ?k2 ?k3 ?_ ?z; (case k1 => assumption); (case k2 => assumption); (case k3 => walk_at "m upd"); (case z => first | assumption | exact (by assumption : ∀ x : Value, _) _)); intro h9 F9 N9; (try k_sweep)))
  trivial
theorem gm_encode {M : Model} {A : Around} {E : Value → Shared → Prop} {s : Shared} {x : Str} {t : Tok} {pl : Sem Bool} {Q : Value × List Value → Shared → Prop} (h : Q (.builtin "str.encode", [.str x t]) s) : wpAny M A (getMethod (.str x t) "encode" pl) Q E s := by
  with_reducible exact GM.of (.str x t) (typeIs_str _ _ _) F.slot_str_encode F.type_str_encode GM.noRef h
theorem words_S6_2 : True := by
  k_with "getMethod str" => (with_reducible refine gm_encode ?_)
  k_with "call builtin:str.encode" => ((k_dflt (refine call_encode_ascii (by assumption) (by assumption) (by assumption) ?_); intro b9 t9 k9 hb9))
  trivial
def Ascii (x : Str) : Prop := ∀ c ∈ x.cps.toList, c < 128
theorem c_bfd {w : World} {mean : ExcName → Option Value} {mg mb : Str → Option Value} {s : Shared} {tx : Str} {t : Tok}
    (X : (Mine.hd.heap_39 w.params).In s.heap) (T : Top Vw Ls mean mg mb s.heap) (hl : tx.length < 1000) (h0 : 0 < tx.length) (hb : ∀ c ∈ tx.cps.toList, c < 128) :
    Ctr w s 900 9000 (.ref 57) [.str tx t] [] (fun v h' => ∃ b t', v = .bytes b t' ∧ KBw.bInts b = tx.cps.toList.map (fun c : Nat => (c : Int))) := by
  intro Q E hret
  refine wpAny_call ?_
  refine' enter (binds := [(Str.ofString "s", .str tx t)]) X T ?k6 ?k7 ?k8 ?k9 ?kB ?_ ?c2 ?c3 ?c4 ?c5
  (case k6 => k_is)
  (case k7 => k_is)
  (case k8 => decide)
  (case k9 => exact BindsTo.of_eq rfl)
  (case kB => exact locs rfl)
  (case c2 => exact rfl)
  (case c3 => exact rfl)
  (case c4 => exact rfl)
  (case c5 => decide)
  intro L h F N
  try dsimp only
  refine stopQ ?_
  k_fold
  k_steps
  rename Fr _ _ _ _ => F3
  exact hret _ _ _ F3.keep ⟨_, _, rfl, by assumption⟩
theorem words_S6_3 : True := by
  k_with "call ref" => (((with_reducible show wpAny _ _ (call (Value.ref 57) _ _) _ _ _); (refine useC (c_bfd (Frag.In.keeps (by assumption) (Fr.keep (by assumption))) (Top.keeps (by assumption) (Fr.keep (by assumption))) (by assumption) (by assumption) (by assumption)) (by assumption) (by assumption) ?_); intro v9 h9 tk9 F9 N9 x9 p9; (obtain ⟨b9, t9, p9, q9⟩ := p9); subst p9; clear x9; (try dsimp only); (try k_fold)))
  trivial
theorem c_b64decode {w : World} {mean : ExcName → Option Value} {mg mb : Str → Option Value} {s : Shared} {tx : Str} {t : Tok}
    (X : (Mine.hd.heap_39 w.params).In s.heap) (T : Top Vw Ls mean mg mb s.heap) (hl : tx.length < 1000) (h0 : 0 < tx.length) (hb : ∀ c ∈ tx.cps.toList, c < 128) (h4 : tx.length % 4 = 0) (hv : ∀ c ∈ tx.cps.toList, B64ok (c : Int)) :
    Ctr w s 800 8000 (.ref 130) [.str tx t] [] (fun v h' => ∃ b t', v = .bytes b t' ∧ KBw.bInts b = ((tx.cps.toList.map (fun c : Nat => (c : Int))).foldl a2bStep a2b0).o) := by
  intro Q E hret
  refine wpAny_call ?_
  refine' enter (binds := [(Str.ofString "s", .str tx t), (Str.ofString "altchars", .none), (Str.ofString "validate", .bool false)]) X T ?k6 ?k7 ?k8 ?k9 ?kB ?_ ?c2 ?c3 ?c4 ?c5
  (case k6 => k_is)
  (case k7 => k_is)
  (case k8 => decide)
  (case k9 => exact binds_K X rfl (by k_is) rfl rfl rfl)
  (case kB => exact locs rfl)
  (case c2 => exact rfl)
  (case c3 => exact rfl)
  (case c4 => exact rfl)
  (case c5 => decide)
  intro L h F N
  try dsimp only
  refine stopQ ?_
  k_fold
  k_steps
  rename_i b9 t9 q9 _ _ _
  have hz : b9.size = tx.length := by rw [← KBw.ints_length, q9, List.length_map]; exact Array.length_toList
  refine useC (kw := [(Str.ofString "strict_mode", .bool false)]) (c_a2b (Frag.In.keeps X (Fr.keep (by assumption))) (Top.keeps T (Fr.keep (by assumption))) (by rw [hz]; exact hl) (by rw [hz]; exact h4) ?_) (by assumption) (by assumption) ?_
  · rw [q9]
    intro c hc
    obtain ⟨n, hn, rfl⟩ := List.mem_map.mp hc
    exact hv n hn
  rintro v h' tk' F' N' - ⟨b', t', rfl, e'⟩
  (try k_fold)
  (try k_steps)
  exact hret _ _ _ F'.keep ⟨_, _, rfl, by rw [e', q9]⟩
theorem c_b64encode {w : World} {mean : ExcName → Option Value} {mg mb : Str → Option Value} {s : Shared} {b : Array UInt8} {t : Tok}
    (X : (Mine.hd.heap_39 w.params).In s.heap) (T : Top Vw Ls mean mg mb s.heap) (hl : b.size < 1000) (h3 : b.size % 3 = 0) :
    Ctr w s 800 8000 (.ref 122) [.bytes b t] [] (fun v h' => ∃ b' t', v = .bytes b' t' ∧ KBw.bInts b' = ((KBw.bInts b).foldl b2aStep (0, 0, [])).2.2) := by
  intro Q E hret
  refine wpAny_call ?_
  refine' enter (binds := [(Str.ofString "s", .bytes b t), (Str.ofString "altchars", .none)]) X T ?k6 ?k7 ?k8 ?k9 ?kB ?_ ?c2 ?c3 ?c4 ?c5
  (case k6 => k_is)
  (case k7 => k_is)
  (case k8 => decide)
  (case k9 => exact binds_K X rfl (by k_is) rfl rfl rfl)
  (case kB => exact locs rfl)
  (case c2 => exact rfl)
  (case c3 => exact rfl)
  (case c4 => exact rfl)
  (case c5 => decide)
  intro L h F N
  try dsimp only
  refine stopQ ?_
  k_fold
  k_steps
  refine useC (kw := [(Str.ofString "newline", .bool false)]) (c_b2a (Frag.In.keeps X (Fr.keep (by assumption))) (Top.keeps T (Fr.keep (by assumption))) hl h3) (by assumption) (by assumption) ?_
  rintro v h' tk' F' N' - ⟨b', t', rfl, e'⟩
  k_fold
  k_steps
  rename Fr _ _ _ _ => F3
  exact hret _ _ _ F3.keep ⟨_, _, rfl, e'⟩

theorem none_S7 : True := by
  k_with_none
  trivial
theorem words_LS7_1 : True := by
  k_with "call type:type" => (((with_reducible show wpAny _ _ (call _ [Value.bytes _ _]) _ _ _); refine call_type_of (Tx := "bytes") rfl (by decide +kernel) ?_))
  k_with "m dec" => (first | omega | (simp only [decide_eq_true_eq, decide_eq_false_iff_not, Bool.not_eq_true, beq_iff_eq, beq_eq_false_iff_ne, ne_eq, Bool.not_eq_true', Bool.not_eq_false'] ; omega))
  k_with "ite" => ((k_openite; first | (refine ite_pos (by walk_at "m dec") ?_) | (refine ite_neg (by walk_at "m dec") ?_)))
  k_with "m upd" => (first | exact Upd.head (List.forall_mem_nil _) | exact Upd.head (by assumption) | (refine Upd.tail (by first | assumption | (refine neN ?_; omega)) ?_; walk_at "m upd"))
  k_with "m same" => ((intro z h1 h2 h3; (simp only [List.forall_mem_cons, List.not_mem_nil, false_implies, implies_true, and_true, ne_eq] at h2); (try simp only [List.contains_cons, List.contains_nil, Bool.or_false, Bool.or_eq_false_iff, beq_eq_false_iff_ne, ne_eq] at h3); (simp [kstB, h1, h2, h3]; done)))
  k_with "call builtin:list.append" => (((with_reducible show wpAny _ _ (call (Value.builtin _) [Value.ref _, _]) _ _ _); (refine' append_K ?k1 ?k2 ?k3 ?_ ?z; (case k1 => assumption); (case k2 => assumption); (case k3 => walk_at "m upd"); (case z => first | assumption | exact (by assumption : ∀ x : Value, _) _)); intro h9 F9 N9; (try k_sweep)))
  k_with "m ksame" => ((intro z h2 h3; (simp only [List.forall_mem_cons, List.not_mem_nil, false_implies, implies_true, and_true, ne_eq] at h2); (try simp only [List.contains_cons, List.contains_nil, Bool.or_false, Bool.or_eq_false_iff, beq_eq_false_iff_ne, ne_eq] at h3); (simp [kstB, h2, h3]; done)))
  trivial
theorem words_S7_1 : True := by
  k_with "call type:type" => (((with_reducible show wpAny _ _ (call _ [Value.bytes _ _]) _ _ _); refine call_type_of (Tx := "bytes") rfl (by decide +kernel) ?_))
  k_with "m dec" => (first | omega | (simp only [decide_eq_true_eq, decide_eq_false_iff_not, Bool.not_eq_true, beq_iff_eq, beq_eq_false_iff_ne, ne_eq, Bool.not_eq_true', Bool.not_eq_false'] ; omega))
  k_with "ite" => ((k_openite; first | (refine ite_pos (by walk_at "m dec") ?_) | (refine ite_neg (by walk_at "m dec") ?_)))
  k_with "m upd" => (first | exact Upd.head (by assumption) | (refine Upd.tail (by first | assumption | (refine neN ?_; omega)) ?_; walk_at "m upd"))
  k_with "m same" => ((intro z h1 h2 h3; (simp only [List.forall_mem_cons, List.not_mem_nil, false_implies, implies_true, and_true, ne_eq] at h2); (try simp only [List.contains_cons, List.contains_nil, Bool.or_false, Bool.or_eq_false_iff, beq_eq_false_iff_ne, ne_eq] at h3); (simp [kstB, h1, h2, h3]; done)))
  k_with "call builtin:list.append" => (((with_reducible show wpAny _ _ (call (Value.builtin _) [Value.ref _, _]) _ _ _); (refine' append_K ?k1 ?k2 ?k3 ?_ ?z; (case k1 => assumption); (case k2 => assumption); (case k3 => walk_at "m upd"); (case z => first | assumption | exact (by assumption : ∀ x : Value, _) _)); intro h9 F9 N9; (try k_sweep)))
  trivial
/-- a place where the walk is to stand still -/
def Halt (P : Prop) : Prop := P
theorem haltQ {P : Prop} (h : Halt P) : P := h
def CtrN (w : World) (s : Shared) (d u : Nat) (f : Value) (args : List Value) (kw : List (Str × Value)) (h₀ : Heap) (L : Addr) (m : Str → Option Value) (Post : Value → List (Addr × Obj) → Prop) : Prop :=
  ∀ (Q E : Value → Shared → Prop), (∀ v h' tk' news', Fr h₀ L h' m → News h₀ L h' news' → Post v news' → Q v { s with heap := h', toks := tk' }) → wpAny (model PR w) (AA d u) (call f args kw) Q E s
theorem useN {w : World} {A : Around} {s : Shared} {h₀ : Heap} {L : Addr} {m : Str → Option Value} {Q E : Value → Shared → Prop} {d u : Nat} {f : Value} {args : List Value} {kw : List (Str × Value)} {Post : Value → List (Addr × Obj) → Prop}
    (c : CtrN w s d u f args kw h₀ L m Post) (h : ∀ v h' tk' news', Fr h₀ L h' m → News h₀ L h' news' → Post v news' → Q v { s with heap := h', toks := tk' })
    (hh : A.handled = none := by rfl) (hd : A.depth ≤ d := by exact Nat.le_of_ble_eq_true rfl) (hu : A.units ≤ u := by exact Nat.le_of_ble_eq_true rfl) : wpAny (model PR w) A (call f args kw) Q E s :=
  to_AA (c Q E h) hh hd hu
section
variable {w : World} {A : Around} {s : Shared} {mean : ExcName → Option Value} {mg mb : Str → Option Value} {K : Frag} {p : Program} {loose : List Str} {prog : Program} {h₀ : Heap} {L : Addr} {m : Str → Option Value} {news : List (Addr × Obj)}
  {R : Result → Shared → Prop} {name qual : Str} {params : Arguments} {body : List Stmt} {scope : Scope} {dV kV doc pm cdv ct oc : Value} {an od : Option Addr} {osl : Array (Option Value)} {f : Addr} {args : Args} {binds : List (Str × Value)}
theorem enterN (F : Fr h₀ L s.heap m) (N : News h₀ L s.heap news) (X : K.In h₀) (T : Top p loose mean mg mb h₀)
    (ho : K.lookup f = some ⟨oc, od, .func (fnOf name qual params body scope dV kV doc pm an cdv ct), osl⟩) (hcd : codeIn K cdv qual = true) (hroom : A.depth < recursionLimit)
    (hbind : BindsTo s (fnOf name qual params body scope dV kV doc pm an cdv ct) args binds) (hloc : ∀ y ∈ binds, scope.names.lookup y.1 = some .local)
    (h : ∀ g L' h₁, K.In g → Top p loose mean mg mb g → Fr g L' h₁ (fun y => binds.reverse.lookup y) → News g L' h₁ news → (∀ p ∈ news, p.1 < L') →
      wpAny (model prog w) (A.deeper (envOf qual scope L' f cdv)) (execs body (envOf qual scope L' f cdv))
        (fun fl s' => LeaveK h₀ L m g R (match fl with | .ret v => v | _ => .none) s') (fun _ _ => False)
        { s with heap := h₁, toks := s.toks + binds.length })
    (hco : scope.isCoroutine = false) (hgen : scope.isGenerator = false) (hk : scope.kind = .function)
    (hcell : ∀ x ∈ scope.names, x.2 ≠ .cell) : codeAny (model prog w) A (.call (.ref f) args) R s := by
  obtain ⟨_, _, st, lv⟩ := groundX (R := R) (A := ktrTop 0 0 none name scope L f cdv [] []) (below_caller h₀) F N rfl rfl hk
  refine codeAny_call_def (fd := fnOf name qual params body scope dV kV doc pm an cdv ct) (body := body) (binds := binds) hroom ((X.keeps F.keep) _ _ ho) rfl (T.nolimit.keeps F.keep) (codeRec_of (X.keeps F.keep) hcd) rfl hbind hcell hloc (fun h₁ hns hk₁ => ?_) hco hgen hk
  exact wpAny_mono (h _ s.heap.objs.size h₁ (X.keeps st) (T.keeps st) ⟨hns, fun b o e => hk₁ b o (of_hideAll _ e), Nat.le_of_eq (hideAll_size _ _)⟩
    (fun p hp => ⟨hk₁ _ _ (N p hp).1, Nat.ne_of_lt (Heap.lt_size (N p hp).1), hideAll_none _ (List.mem_map_of_mem hp)⟩) (fun p hp => Heap.lt_size (N p hp).1)) (fun fl s' hl => lv _ _ hl) fun _ _ y => y.elim
end

/-- an iterator over bytes, at its i-th place -/
def BIt (o : Obj) (b : Array UInt8) (t : Tok) (i : Nat) : Prop := o.cls = .type "bytes_iterator" ∧ o.data = .fields #[.bytes b t, .int i 0]
section
variable {prog : Program} {w : World} {A : Around} {E : Value → Shared → Prop} {s : Shared} {b : Array UInt8} {t : Tok} {i : Nat} {it : Addr} {h₀ : Heap} {L : Addr} {m : Str → Option Value} {rest : List (Addr × Obj)} {o : Obj} {Q : Value → Shared → Prop}
theorem bnext {c : Int} (F : Fr h₀ L s.heap m) (N : News h₀ L s.heap ((it, o) :: rest)) (hr : ∀ p ∈ rest, p.1 ≠ it) (hi : BIt o b t i) (hx : (KBw.bInts b)[i]? = some c)
    (h : ∀ h' o' t' k, Fr h₀ L h' m → News h₀ L h' ((it, o') :: rest) → BIt o' b t (i + 1) → Q (.int c t') { s with heap := h', toks := k }) :
    wpAny (model prog w) A (call (.builtin "next") [.ref it]) Q E s := by
  have hm := N (it, o) (.head _)
  have hit : KBw.IsBytesIter s.heap it b t i := ⟨o, hm.1, hi.1, hi.2⟩
  refine call_function_entry (by decide +kernel) (by decide +kernel) kdk_entry_next (kdk_args_next _) ?_
  unfold Builtin.«next»
  refine wpAny_bind (m := someArgs "next" 1 2 _) (wpAny_of_eq (a := [Value.ref it]) (by first | rfl | kernel_rfl!) ?_)
  dsimp only
  refine wpAny_bind (wpAny_specialOf (name := Str.ofString "__next__") (KBw.iter_typeIs hit) KBw.slot_next.lookup ?_)
  refine wpAny_ite_split (fun hab => absurd hab (by decide)) (fun _ => ?_)
  refine wpAny_bind (wpAny_callSpecial?_slot (name := Str.ofString "__next__") (KBw.iter_typeIs hit) KBw.slot_next (wpAny_call_entry KBw.slot_next (KBw.iter_typeIs hit) KBw.entry_next ?_ (KBw.args_next _)))
  obtain ⟨c', hc', rfl⟩ : ∃ c' : UInt8, b[i]? = some c' ∧ (c'.toNat : Int) = c := by
    unfold KBw.bInts at hx
    rw [List.getElem?_map, Option.map_eq_some_iff] at hx
    obtain ⟨c', h1, h2⟩ := hx
    exact ⟨c', by simpa using h1, h2⟩
  show wpAny _ _ (field (.ref it) 0 >>= _) _ _ s
  refine wpAny_bind (wpAny_field hm.1 hi.2 (x := .bytes b t) rfl ?_)
  show wpAny _ _ (if (Value.bytes b t == Value.none) = true then _ else _) _ _ s
  rw [if_neg (show ¬ ((Value.bytes b t == Value.none) = true) from Bool.false_ne_true)]
  show wpAny _ _ (field (.ref it) 1 >>= _) _ _ s
  refine wpAny_bind (wpAny_field hm.1 hi.2 (x := .int i 0) rfl ?_)
  refine wpAny_bind (wpAny_of_eq (a := b) rfl ?_)
  simp only [Int.toNat_natCast, hc']
  refine wpAny_bind (wpAny_setField hm.1 hi.2 (by simp) (wpAny_bind (wpAny_mkInt (wpAny_pure ⟨_, rfl, wpAny_pure ⟨_, rfl, ?_⟩⟩))))
  have hs := Heap.SameBut.update s.heap it (Obj.mapFields (·.setIfInBounds 1 (rawInt ((i : Int) + 1))))
  refine h _ _ _ _ (F.change hs hm.2.1 hm.2.2) (News.setAt (own := []) N (fun _ hp => nomatch hp) hr hs (Heap.get?_update_self _ hm.1 (Obj.isFreed_of_fields (Obj.data_mapFields hi.2 _)))) ⟨(Obj.cls_mapFields ..).trans hi.1, ?_⟩
  rw [Obj.data_mapFields hi.2]; simp [rawInt]
end

theorem none_S8 : True := by
  k_with_none
  trivial
theorem words_LS8_1 : True := by
  k_with "call type:type" => (((with_reducible show wpAny _ _ (call _ [Value.bytes _ _]) _ _ _); refine call_type_of (Tx := "bytes") rfl (by decide +kernel) ?_))
  k_with "m dec" => (first | omega | (simp only [decide_eq_true_eq, decide_eq_false_iff_not, Bool.not_eq_true, beq_iff_eq, beq_eq_false_iff_ne, ne_eq, Bool.not_eq_true', Bool.not_eq_false'] ; omega))
  k_with "ite" => ((k_openite; first | (refine ite_pos (by walk_at "m dec") ?_) | (refine ite_neg (by walk_at "m dec") ?_)))
  k_with "m upd" => (first | exact Upd.head (List.forall_mem_nil _) | exact Upd.head (by assumption) | (refine Upd.tail (by first | assumption | (refine neN ?_; omega)) ?_; walk_at "m upd"))
  k_with "m same" => ((intro z h1 h2 h3; (simp only [List.forall_mem_cons, List.not_mem_nil, false_implies, implies_true, and_true, ne_eq] at h2); (try simp only [List.contains_cons, List.contains_nil, Bool.or_false, Bool.or_eq_false_iff, beq_eq_false_iff_ne, ne_eq] at h3); (simp [kstB, h1, h2, h3]; done)))
  k_with "call builtin:list.append" => (((with_reducible show wpAny _ _ (call (Value.builtin _) [Value.ref _, _]) _ _ _); (refine' append_K ?k1 ?k2 ?k3 ?_ ?z; (case k1 => assumption); (case k2 => assumption); (case k3 => walk_at "m upd"); (case z => first | assumption | exact (by assumption : ∀ x : Value, _) _)); intro h9 F9 N9; (try k_sweep)))
  k_with "m ksame" => ((intro z h2 h3; (simp only [List.forall_mem_cons, List.not_mem_nil, false_implies, implies_true, and_true, ne_eq] at h2); (try simp only [List.contains_cons, List.contains_nil, Bool.or_false, Bool.or_eq_false_iff, beq_eq_false_iff_ne, ne_eq] at h3); (simp [kstB, h2, h3]; done)))
  trivial
theorem words_S8_1 : True := by
  k_with "call type:type" => (((with_reducible show wpAny _ _ (call _ [Value.bytes _ _]) _ _ _); refine call_type_of (Tx := "bytes") rfl (by decide +kernel) ?_))
  k_with "m dec" => (first | omega | (simp only [decide_eq_true_eq, decide_eq_false_iff_not, Bool.not_eq_true, beq_iff_eq, beq_eq_false_iff_ne, ne_eq, Bool.not_eq_true', Bool.not_eq_false'] ; omega))
  k_with "ite" => ((k_openite; first | (refine ite_pos (by walk_at "m dec") ?_) | (refine ite_neg (by walk_at "m dec") ?_)))
  k_with "m upd" => (first | exact Upd.head (by assumption) | (refine Upd.tail (by first | assumption | (refine neN ?_; omega)) ?_; walk_at "m upd"))
  k_with "m same" => ((intro z h1 h2 h3; (simp only [List.forall_mem_cons, List.not_mem_nil, false_implies, implies_true, and_true, ne_eq] at h2); (try simp only [List.contains_cons, List.contains_nil, Bool.or_false, Bool.or_eq_false_iff, beq_eq_false_iff_ne, ne_eq] at h3); (simp [kstB, h1, h2, h3]; done)))
  k_with "call builtin:list.append" => (((with_reducible show wpAny _ _ (call (Value.builtin _) [Value.ref _, _]) _ _ _); (refine' append_K ?k1 ?k2 ?k3 ?_ ?z; (case k1 => assumption); (case k2 => assumption); (case k3 => walk_at "m upd"); (case z => first | assumption | exact (by assumption : ∀ x : Value, _) _)); intro h9 F9 N9; (try k_sweep)))
  trivial
section
variable {prog : Program} {w : World} {A : Around} {E : Value → Shared → Prop} {s : Shared} {Q : Value → Shared → Prop} {a b : Int} {t u : Tok}
theorem and64_lo (h0 : 0 ≤ a) (h1 : a < 64) (h : Q (.int 0 s.toks) { s with toks := s.toks + 1 }) : wpAny (model prog w) A (binaryOp .BitAnd (.int a t) (.int 64 u)) Q E s := by
  obtain ⟨k, rfl, hk⟩ := nat_of (k := 64) h0 h1
  exact and_int (by rw [(by decide +kernel : ∀ k : Nat, k < 64 → Builtin.bitAnd (k : Int) 64 = 0) k hk]; exact h)
theorem and64_hi (h0 : 64 ≤ a) (h1 : a < 128) (h : Q (.int 64 s.toks) { s with toks := s.toks + 1 }) : wpAny (model prog w) A (binaryOp .BitAnd (.int a t) (.int 64 u)) Q E s := by
  obtain ⟨k, rfl, hk⟩ := nat_of (k := 128) (by omega) h1
  exact and_int (by rw [(by decide +kernel : ∀ k : Nat, k < 128 → 64 ≤ k → Builtin.bitAnd (k : Int) 64 = 64) k hk (by omega)]; exact h)
theorem ior_sh6 (ha : 0 ≤ a) (h0 : 0 ≤ b) (h1 : b < 64) (h : Q (.int (a * 64 + b) s.toks) { s with toks := s.toks + 1 }) : wpAny (model prog w) A (inplaceOp .BitOr (.int (a * 64) t) (.int b u)) Q E s :=
  ior_int (by rw [show a * 64 = a * ((2 ^ 6 : Nat) : Int) from rfl, bitOr_add (k := 6) ha h0 (by show b < (64 : Int); exact h1)]; exact h)
theorem ishl6 (ha : 0 ≤ a) (hb : a < 2 ^ 60) (h : Q (.int (a * 64) s.toks) { s with toks := s.toks + 1 }) : wpAny (model prog w) A (inplaceOp .LShift (.int a t) (.int 6 u)) Q E s :=
  ilshift_int_small (by decide) (by decide) (by omega) h
end
theorem words_S8_2 : True := by
  k_with "binaryOp BitAnd int int" => (first
    | ((with_reducible show wpAny _ _ (binaryOp _ (Value.int _ _) (Value.int 63 _)) _ _ _); k_dflt (refine and63 ?_))
    | ((with_reducible show wpAny _ _ (binaryOp _ (Value.int _ _) (Value.int 64 _)) _ _ _); (first | k_dflt (refine and64_lo (by omega) (by omega) ?_) | k_dflt (refine and64_hi (by omega) (by omega) ?_))))
  k_with "inplaceOp LShift int int" => (((with_reducible show wpAny _ _ (inplaceOp _ (Value.int _ _) (Value.int 6 _)) _ _ _); k_dflt (refine ishl6 (by omega) (by omega) ?_)))
  k_with "inplaceOp BitOr int int" => (((with_reducible show wpAny _ _ (inplaceOp _ (Value.int (_ * 64) _) (Value.int _ _)) _ _ _); k_dflt (refine ior_sh6 (by omega) (by omega) (by omega) ?_)))
  k_with "exec While" => (refine haltQ ?_)
  k_with "KswPost" => (refine haltQ ?_)
  k_with "InvPostN" => (refine haltQ ?_)
  k_with "m ksame" => ((intro z h2 h3; (simp only [List.forall_mem_cons, List.not_mem_nil, false_implies, implies_true, and_true, ne_eq] at h2); (try simp only [List.contains_cons, List.contains_nil, Bool.or_false, Bool.or_eq_false_iff, beq_eq_false_iff_ne, ne_eq] at h3); (simp [kstB, h2, h3]; done)))
  k_with "call builtin:next" => ((k_dflt (refine bnext (by assumption) (by assumption) (by assumption) (by assumption) (by assumption) ?_); intro h9 o9 t9 k9 F9 N9 i9; (try k_sweep)))
  trivial
def VS : List Int → Prop
  | [] => False
  | [c] => 0 ≤ c ∧ c < 64
  | c :: d :: r => 64 ≤ c ∧ c < 128 ∧ VS (d :: r)
def vval : Int → List Int → Int
  | a, [] => a
  | a, c :: r => vval (a * 64 + c % 64) r
def VB (v : Int) (k : Nat) : Prop := (v + 1) * 64 ^ k ≤ 2 ^ 50
abbrev VT : Type := List Int × Int × Tok × Int × Tok × Obj × Nat
theorem vs_bound {v c : Int} {k : Nat} (h : VB v (k + 1)) (h0 : 0 ≤ v) : VB (v * 64 + c % 64) k := by
  unfold VB at *
  refine Int.le_trans ?_ h
  rw [Int.pow_succ, Int.mul_comm (64 ^ k) 64, ← Int.mul_assoc]
  exact Int.mul_le_mul_of_nonneg_right (by omega) (Int.pow_nonneg (by decide))
theorem vs_small {v : Int} {k : Nat} (h : VB v k) (h0 : 0 ≤ v) : v < 2 ^ 60 := by
  unfold VB at h
  have : (v + 1) * 1 ≤ (v + 1) * 64 ^ k := Int.mul_le_mul_of_nonneg_left (by have := Int.pow_pos (n := 64) (m := k) (by decide); omega) (by omega)
  omega
theorem c_varint {w : World} {mean : ExcName → Option Value} {mg mb : Str → Option Value} {s : Shared} {h₀ : Heap} {L : Addr} {m : Str → Option Value} {rest : List (Addr × Obj)} {I : Addr} {o : Obj} {b : Array UInt8} {t : Tok} {i : Nat} {c0 : Int} {r0 tl : List Int}
    (X : (Mine.hd.heap_39 w.params).In h₀) (T : Top Vw Ls mean mg mb h₀) (F0 : Fr h₀ L s.heap m) (N0 : News h₀ L s.heap ((I, o) :: rest)) (hr : ∀ p ∈ rest, p.1 ≠ I) (hI : BIt o b t i) (hd : (KBw.bInts b).drop i = c0 :: r0 ++ tl) (hv : VS (c0 :: r0)) (hb : VB (c0 % 64) r0.length) :
    CtrN w s 880 8800 (.ref 137) [.ref I] [] h₀ L m (fun v news' => ∃ tk o', v = .int (vval 0 (c0 :: r0)) tk ∧ news' = (I, o') :: rest ∧ BIt o' b t (i + r0.length + 1)) := by
  intro Q E hret
  refine wpAny_call ?_
  refine' enterN (binds := [(Str.ofString "iterator", .ref I)]) F0 N0 X T ?k6 ?k7 ?k8 ?k9 ?kB ?_ ?c2 ?c3 ?c4 ?c5
  (case k6 => k_is)
  (case k7 => k_is)
  (case k8 => decide)
  (case k9 => exact BindsTo.of_eq rfl)
  (case kB => exact locs rfl)
  (case c2 => exact rfl)
  (case c3 => exact rfl)
  (case c4 => exact rfl)
  (case c5 => decide)
  intro g L' h₁ X' T' F N hlt
  try dsimp only
  have hx0 : (KBw.bInts b)[i]? = some c0 := by
    have := congrArg (fun l => l[0]?) hd
    simpa using this
  have hc0 : 0 ≤ c0 ∧ c0 < 128 := by
    cases r0 with
    | nil => exact ⟨hv.1, by have := hv.2; omega⟩
    | cons d r => exact ⟨by have := hv.1; omega, hv.2.1⟩
  refine stopQ ?_
  k_fold
  k_steps
  rename Fr _ _ _ _ => F1
  rename News _ _ _ _ => N1
  rename BIt _ _ _ _ => I1
  unfold Halt
  refine' ksw_while (σ := VT) (fun c => (I, c.2.2.2.2.2.1) :: rest) (fun c => [(Str.ofString "b", .int c.2.1 c.2.2.1), (Str.ofString "val", .int c.2.2.2.1 c.2.2.2.2.1)])
    (fun c => BIt c.2.2.2.2.2.1 b t c.2.2.2.2.2.2) [] (fun c => VS (c.2.1 :: c.1) ∧ vval c.2.2.2.1 c.1 = vval 0 (c0 :: r0) ∧ (KBw.bInts b).drop c.2.2.2.2.2.2 = c.1 ++ tl ∧ c.2.2.2.2.2.2 + c.1.length = i + r0.length + 1 ∧ 0 ≤ c.2.2.2.1 ∧ VB c.2.2.2.1 c.1.length) (fun c => c.1.length)
    (r0, c0, _, c0 % 64, _, _, i + 1) F1 N1 I1 ?a2 ?a3 ?a4 ?a5
  case a2 => kst_all
  case a3 =>
    refine ⟨hv, ?_, ?_, by show i + 1 + r0.length = i + r0.length + 1; omega, by show 0 ≤ c0 % 64; omega, hb⟩
    · show vval (c0 % 64) r0 = vval (0 * 64 + c0 % 64) r0
      rw [Int.zero_mul, Int.zero_add]
    · have := congrArg (List.drop 1) hd
      rw [List.drop_drop] at this
      simpa [Nat.add_comm] using this
  case a4 =>
    rintro ⟨rem, cur, tc, val, tv, o2, pos⟩ u h tk hf ⟨p1, p2, p3, p4, p5, p6⟩ F2 N2
    dsimp only at hf p1 p2 p3 p4 p5 p6 F2 N2
    have hsm := vs_small p6 p5
    cases rem with
    | nil =>
      obtain ⟨q1, q2⟩ := p1
      k_steps
      show LeaveK _ _ _ _ _ (Value.int val tv) _
      refine leaveK_ F2 N2 (fun Fc Nc => hret _ _ _ _ Fc Nc ⟨tv, o2, ?_, rfl, ?_⟩)
      · exact congrArg (fun n => Value.int n tv) p2
      · rw [show i + r0.length + 1 = pos from p4.symm]; exact hf
    | cons d r =>
      obtain ⟨q1, q2, q3⟩ := p1
      have hx : (KBw.bInts b)[pos]? = some d := by
        have := congrArg (fun l => l[0]?) p3
        simpa using this
      k_steps
      rename Fr _ _ _ _ => F3
      rename News _ _ _ _ => N3
      rename BIt _ _ _ _ => I3
      refine' ksw_end ((r, d, _, val * 64 + d % 64, _, _, pos + 1) : VT) F3 N3 (fun p hp => hp) I3 ?hk ?hr ⟨q3, p2, ?hp, ?hq, ?h0, vs_bound p6 p5⟩ ?hm
      case hk => kst_all
      case hr => walk_at "m ksame"
      case hp =>
        have := congrArg (List.drop 1) p3
        rw [List.drop_drop] at this
        simpa [Nat.add_comm] using this
      case hq => show pos + 1 + r.length = _; rw [← p4, List.length_cons]; omega
      case h0 => show 0 ≤ val * 64 + d % 64; omega
      case hm => exact Nat.lt_succ_self _
  case a5 => passes_own

theorem none_S9 : True := by
  k_with_none
  trivial
theorem words_LS9_1 : True := by
  k_with "call type:type" => (((with_reducible show wpAny _ _ (call _ [Value.bytes _ _]) _ _ _); refine call_type_of (Tx := "bytes") rfl (by decide +kernel) ?_))
  k_with "m dec" => (first | omega | (simp only [decide_eq_true_eq, decide_eq_false_iff_not, Bool.not_eq_true, beq_iff_eq, beq_eq_false_iff_ne, ne_eq, Bool.not_eq_true', Bool.not_eq_false'] ; omega))
  k_with "ite" => ((k_openite; first | (refine ite_pos (by walk_at "m dec") ?_) | (refine ite_neg (by walk_at "m dec") ?_)))
  k_with "m upd" => (first | exact Upd.head (List.forall_mem_nil _) | exact Upd.head (by assumption) | (refine Upd.tail (by first | assumption | (refine neN ?_; omega)) ?_; walk_at "m upd"))
  k_with "m same" => ((intro z h1 h2 h3; (simp only [List.forall_mem_cons, List.not_mem_nil, false_implies, implies_true, and_true, ne_eq] at h2); (try simp only [List.contains_cons, List.contains_nil, Bool.or_false, Bool.or_eq_false_iff, beq_eq_false_iff_ne, ne_eq] at h3); (simp [kstB, h1, h2, h3]; done)))
  k_with "call builtin:list.append" => (((with_reducible show wpAny _ _ (call (Value.builtin _) [Value.ref _, _]) _ _ _); (refine' append_K ?k1 ?k2 ?k3 ?_ ?z; (case k1 => assumption); (case k2 => assumption); (case k3 => walk_at "m upd"); (case z => first | assumption | exact (by assumption : ∀ x : Value, _) _)); intro h9 F9 N9; (try k_sweep)))
  k_with "m ksame" => ((intro z h2 h3; (simp only [List.forall_mem_cons, List.not_mem_nil, false_implies, implies_true, and_true, ne_eq] at h2); (try simp only [List.contains_cons, List.contains_nil, Bool.or_false, Bool.or_eq_false_iff, beq_eq_false_iff_ne, ne_eq] at h3); (simp [kstB, h2, h3]; done)))
  trivial
theorem words_S9_1 : True := by
  k_with "call type:type" => (((with_reducible show wpAny _ _ (call _ [Value.bytes _ _]) _ _ _); refine call_type_of (Tx := "bytes") rfl (by decide +kernel) ?_))
  k_with "m dec" => (first | omega | (simp only [decide_eq_true_eq, decide_eq_false_iff_not, Bool.not_eq_true, beq_iff_eq, beq_eq_false_iff_ne, ne_eq, Bool.not_eq_true', Bool.not_eq_false'] ; omega))
  k_with "ite" => ((k_openite; first | (refine ite_pos (by walk_at "m dec") ?_) | (refine ite_neg (by walk_at "m dec") ?_)))
  k_with "m upd" => (first | exact Upd.head (by assumption) | (refine Upd.tail (by first | assumption | (refine neN ?_; omega)) ?_; walk_at "m upd"))
  k_with "m same" => ((intro z h1 h2 h3; (simp only [List.forall_mem_cons, List.not_mem_nil, false_implies, implies_true, and_true, ne_eq] at h2); (try simp only [List.contains_cons, List.contains_nil, Bool.or_false, Bool.or_eq_false_iff, beq_eq_false_iff_ne, ne_eq] at h3); (simp [kstB, h1, h2, h3]; done)))
  k_with "call builtin:list.append" => (((with_reducible show wpAny _ _ (call (Value.builtin _) [Value.ref _, _]) _ _ _); (refine' append_K ?k1 ?k2 ?k3 ?_ ?z; (case k1 => assumption); (case k2 => assumption); (case k3 => walk_at "m upd"); (case z => first | assumption | exact (by assumption : ∀ x : Value, _) _)); intro h9 F9 N9; (try k_sweep)))
  trivial
section
variable {prog : Program} {w : World} {A : Around} {E : Value → Shared → Prop} {s : Shared} {Q : Value → Shared → Prop} {a b : Addr} {x y k l : Int} {t1 t2 u1 u2 : Tok}
theorem lt_tup2 (ha : IsTup s.heap a #[.int x t1, .int k t2]) (hb : IsTup s.heap b #[.int y u1, .int l u2]) (hu : A.units < cLine) (h : Q (.bool (decide (x < y ∨ (x = y ∧ k < l)))) s) : wpAny (model prog w) A (compareOp .Lt (.ref a) (.ref b)) Q E s := by
  refine cmp_ofLt (wpAny_richCompare_same_room ha.typeIs hb.typeIs PySem.F.slot_tuple_lt (wpAny_call_entry PySem.F.slot_tuple_lt ha.typeIs PySem.F.entry_tuple_lt ?_ (PySem.F.args_tuple_lt_2 _ _)) hu)
  refine wpAny_bind (m := slotArgs "__lt__" 1 ⟨[.ref a, .ref b], []⟩) (wpAny_of_eq (a := (Value.ref a, [Value.ref b])) rfl ?_)
  dsimp only
  refine wpAny_bind (wpAny_isInstance hb.typeIs isSubtype_tuple_tuple ?_)
  rw [if_neg (by decide)]
  refine wpAny_bind (tupleItemsOf_ ha (wpAny_bind (tupleItemsOf_ hb ?_)))
  simp only [List.zip_cons_cons, List.zip_nil_right, List.forIn_cons, List.forIn_nil]
  refine wpAny_bind (wpAny_bind (wpAny_bind (wpAny_eqBool_int ?_)))
  by_cases hxy : x = y
  · subst hxy
    rw [if_neg (by simp)]
    refine wpAny_pure ?_
    dsimp only
    refine wpAny_bind (wpAny_bind (wpAny_eqBool_int ?_))
    by_cases hkl : k = l
    · subst hkl
      rw [if_neg (by simp)]
      refine wpAny_pure (wpAny_pure ?_)
      dsimp only
      refine wpAny_pure ⟨_, rfl, fun e => (by cases e), ?_⟩
      rw [decide_eq_false (by omega)] at h
      exact h
    · rw [if_pos (by simp [hkl])]
      refine wpAny_bind (wpAny_rule (wpAny_bind (lt_int ?_)))
      refine wpAny_bind (wpAny_pure (wpAny_pure ?_))
      dsimp only
      refine wpAny_pure (wpAny_pure ⟨_, rfl, fun e => (by cases e), ?_⟩)
      rw [show decide (x < x ∨ x = x ∧ k < l) = decide (k < l) from decide_eq_decide.mpr (by omega)] at h
      exact h
  · rw [if_pos (by simp [hxy])]
    refine wpAny_bind (wpAny_rule (wpAny_bind (lt_int ?_)))
    refine wpAny_bind (wpAny_pure (wpAny_pure ?_))
    dsimp only
    refine wpAny_pure (wpAny_pure ⟨_, rfl, fun e => (by cases e), ?_⟩)
    rw [show decide (x < y ∨ x = y ∧ k < l) = decide (x < y) from decide_eq_decide.mpr (by omega)] at h
    exact h
end

theorem none_S10 : True := by
  k_with_none
  trivial
theorem words_LS10_1 : True := by
  k_with "call type:type" => (((with_reducible show wpAny _ _ (call _ [Value.bytes _ _]) _ _ _); refine call_type_of (Tx := "bytes") rfl (by decide +kernel) ?_))
  k_with "m dec" => (first | omega | (simp only [decide_eq_true_eq, decide_eq_false_iff_not, Bool.not_eq_true, beq_iff_eq, beq_eq_false_iff_ne, ne_eq, Bool.not_eq_true', Bool.not_eq_false'] ; omega))
  k_with "ite" => ((k_openite; first | (refine ite_pos (by walk_at "m dec") ?_) | (refine ite_neg (by walk_at "m dec") ?_)))
  k_with "m upd" => (first | exact Upd.head (List.forall_mem_nil _) | exact Upd.head (by assumption) | (refine Upd.tail (by first | assumption | (refine neN ?_; omega)) ?_; walk_at "m upd"))
  k_with "m same" => ((intro z h1 h2 h3; (simp only [List.forall_mem_cons, List.not_mem_nil, false_implies, implies_true, and_true, ne_eq] at h2); (try simp only [List.contains_cons, List.contains_nil, Bool.or_false, Bool.or_eq_false_iff, beq_eq_false_iff_ne, ne_eq] at h3); (simp [kstB, h1, h2, h3]; done)))
  k_with "call builtin:list.append" => (((with_reducible show wpAny _ _ (call (Value.builtin _) [Value.ref _, _]) _ _ _); (refine' append_K ?k1 ?k2 ?k3 ?_ ?z; (case k1 => assumption); (case k2 => assumption); (case k3 => walk_at "m upd"); (case z => first | assumption | exact (by assumption : ∀ x : Value, _) _)); intro h9 F9 N9; (try k_sweep)))
  k_with "m ksame" => ((intro z h2 h3; (simp only [List.forall_mem_cons, List.not_mem_nil, false_implies, implies_true, and_true, ne_eq] at h2); (try simp only [List.contains_cons, List.contains_nil, Bool.or_false, Bool.or_eq_false_iff, beq_eq_false_iff_ne, ne_eq] at h3); (simp [kstB, h2, h3]; done)))
  trivial
theorem words_S10_1 : True := by
  k_with "call type:type" => (((with_reducible show wpAny _ _ (call _ [Value.bytes _ _]) _ _ _); refine call_type_of (Tx := "bytes") rfl (by decide +kernel) ?_))
  k_with "m dec" => (first | omega | (simp only [decide_eq_true_eq, decide_eq_false_iff_not, Bool.not_eq_true, beq_iff_eq, beq_eq_false_iff_ne, ne_eq, Bool.not_eq_true', Bool.not_eq_false'] ; omega))
  k_with "ite" => ((k_openite; first | (refine ite_pos (by walk_at "m dec") ?_) | (refine ite_neg (by walk_at "m dec") ?_)))
  k_with "m upd" => (first | exact Upd.head (by assumption) | (refine Upd.tail (by first | assumption | (refine neN ?_; omega)) ?_; walk_at "m upd"))
  k_with "m same" => ((intro z h1 h2 h3; (simp only [List.forall_mem_cons, List.not_mem_nil, false_implies, implies_true, and_true, ne_eq] at h2); (try simp only [List.contains_cons, List.contains_nil, Bool.or_false, Bool.or_eq_false_iff, beq_eq_false_iff_ne, ne_eq] at h3); (simp [kstB, h1, h2, h3]; done)))
  k_with "call builtin:list.append" => (((with_reducible show wpAny _ _ (call (Value.builtin _) [Value.ref _, _]) _ _ _); (refine' append_K ?k1 ?k2 ?k3 ?_ ?z; (case k1 => assumption); (case k2 => assumption); (case k3 => walk_at "m upd"); (case z => first | assumption | exact (by assumption : ∀ x : Value, _) _)); intro h9 F9 N9; (try k_sweep)))
  trivial
def T2 (news : List (Addr × Obj)) (p : Addr) (x k : Int) : Prop := ∃ t u n, (p, ({ cls := .type "tuple", data := .seq #[.int x t, .int k u] n } : Obj)) ∈ news
section
variable {prog : Program} {w : World} {A : Around} {E : Value → Shared → Prop} {s : Shared} {Q : Value → Shared → Prop} {a b H : Addr} {x y k l : Int} {h₀ : Heap} {L : Addr} {rest : List (Addr × Obj)} {o : Obj}
theorem lt_T2 (N : News h₀ L s.heap ((H, o) :: rest)) (ha : T2 rest a x k) (hb : T2 rest b y l) (hu : A.units < cLine) (h : Q (.bool (decide (x < y ∨ (x = y ∧ k < l)))) s) : wpAny (model prog w) A (compareOp .Lt (.ref a) (.ref b)) Q E s := by
  obtain ⟨t1, t2, n, ha⟩ := ha
  obtain ⟨u1, u2, n', hb⟩ := hb
  exact lt_tup2 ⟨_, (N _ (.tail _ ha)).1, rfl, _, rfl⟩ ⟨_, (N _ (.tail _ hb)).1, rfl, _, rfl⟩ hu h
end
section
variable {prog : Program} {w : World} {A : Around} {E : Value → Shared → Prop} {s : Shared} {h₀ : Heap} {L D : Addr} {m : Str → Option Value} {rest : List (Addr × Obj)} {vs : List Value} {n : Nat} {k : Int} {t : Tok} {v : Value}
theorem set_L {Q : Unit → Shared → Prop} (j : Nat) (F : Fr h₀ L s.heap m) (N : News h₀ L s.heap ((D, W.listOf vs.toArray n) :: rest)) (hH : ∀ p ∈ rest, p.1 ≠ D) (hk : k = j) (hj : j < vs.length) (hz : vs.length ≤ 1000)
    (h : ∀ h', Fr h₀ L h' m → News h₀ L h' ((D, W.listOf (vs.set j v).toArray n) :: rest) → Q () { s with heap := h' }) : wpAny (model prog w) A (setItem (.ref D) (.int k t) v) Q E s := by
  subst hk
  have z := N (D, W.listOf vs.toArray n) (.head _)
  have hs : vs.toArray.size = vs.length := List.size_toArray ..
  refine ki_setAt z.1 (by omega) (by omega) (by omega) (h _ (F.change (Heap.SameBut.update ..) z.2.1 z.2.2) (ki_turn (pre := []) _ N (fun _ hp => nomatch hp) hH ?_ ?_))
  · show vs.toArray.setIfInBounds (Int.toNat j) v = (vs.set j v).toArray
    apply Array.toList_inj.mp
    simp
  · simp
end
theorem words_S10_2 : True := by
  k_with "setItem ref int" => (((with_reducible show wpAny _ _ (setItem (Value.ref _) (Value.int _ _) (Value.ref _)) _ _ _); (first | k_dflt (refine set_L 0 (by assumption) (by assumption) (by assumption) (by first | rfl | omega | decide) (Nat.le_of_ble_eq_true rfl) (Nat.le_of_ble_eq_true rfl) ?_) | k_dflt (refine set_L 1 (by assumption) (by assumption) (by assumption) (by first | rfl | omega | decide) (Nat.le_of_ble_eq_true rfl) (Nat.le_of_ble_eq_true rfl) ?_) | k_dflt (refine set_L 2 (by assumption) (by assumption) (by assumption) (by first | rfl | omega | decide) (Nat.le_of_ble_eq_true rfl) (Nat.le_of_ble_eq_true rfl) ?_)); intro h9 F9 N9; (dsimp only [List.set] at N9); (try k_sweep)))
  k_with "compareOp Lt ref ref" => (((with_reducible show wpAny _ _ (compareOp _ (Value.ref _) (Value.ref _)) _ _ _); k_dflt (refine lt_T2 (by assumption) (by assumption) (by assumption) (by exact Nat.le_of_ble_eq_true rfl) ?_)))
  trivial
def ltP (x k y l : Int) : Bool := decide (x < y ∨ (x = y ∧ k < l))
theorem c_siftdown1 {w : World} {mean : ExcName → Option Value} {mg mb : Str → Option Value} {s : Shared} {h₀ : Heap} {L : Addr} {m : Str → Option Value} {rest : List (Addr × Obj)} {H p0 p1 p2 : Addr} {x0 k0 x1 k1 sp pp : Int} {n : Nat} {ts tp : Tok}
    (X : (Mine.hd.heap_39 w.params).In h₀) (T : Top Vw Ls mean mg mb h₀) (F0 : Fr h₀ L s.heap m) (N0 : News h₀ L s.heap ((H, W.listOf #[.ref p0, .ref p1, .ref p2] n) :: rest)) (hH : ∀ p ∈ rest, p.1 ≠ H) (h0 : T2 rest p0 x0 k0) (h1 : T2 rest p1 x1 k1) (hs : sp = 0) (hp : pp = 1) :
    CtrN w s 870 8700 (.ref 42) [.ref H, .int sp ts, .int pp tp] [] h₀ L m (fun v news' => v = .none ∧ news' = (H, W.listOf (if ltP x1 k1 x0 k0 then #[.ref p1, .ref p0, .ref p2] else #[.ref p0, .ref p1, .ref p2]) n) :: rest) := by
  intro Q E hret
  refine wpAny_call ?_
  refine' enterN (binds := [(Str.ofString "heap", .ref H), (Str.ofString "startpos", .int sp ts), (Str.ofString "pos", .int pp tp)]) F0 N0 X T ?k6 ?k7 ?k8 ?k9 ?kB ?_ ?c2 ?c3 ?c4 ?c5
  (case k6 => k_is)
  (case k7 => k_is)
  (case k8 => decide)
  (case k9 => exact BindsTo.of_eq rfl)
  (case kB => exact locs rfl)
  (case c2 => exact rfl)
  (case c3 => exact rfl)
  (case c4 => exact rfl)
  (case c5 => decide)
  intro g L' h₁ X' T' F N hlt
  try dsimp only
  refine stopQ ?_
  k_fold
  subst hs hp
  k_steps
  all_goals (rename Fr _ _ _ _ => F3; rename News _ _ _ _ => N3)
  · exact leaveK_ F3 N3 fun Fc Nc => hret _ _ _ _ Fc Nc ⟨rfl, by rw [if_pos (show ltP _ _ _ _ = true from decide_eq_true (by assumption))]⟩
  · exact leaveK_ F3 N3 fun Fc Nc => hret _ _ _ _ Fc Nc ⟨rfl, by rw [if_neg (by rw [ltP, decide_eq_false (by assumption)]; exact Bool.false_ne_true)]⟩
theorem c_siftdown2 {w : World} {mean : ExcName → Option Value} {mg mb : Str → Option Value} {s : Shared} {h₀ : Heap} {L : Addr} {m : Str → Option Value} {rest : List (Addr × Obj)} {H p0 p1 p2 : Addr} {x0 k0 x2 k2 sp pp : Int} {n : Nat} {ts tp : Tok}
    (X : (Mine.hd.heap_39 w.params).In h₀) (T : Top Vw Ls mean mg mb h₀) (F0 : Fr h₀ L s.heap m) (N0 : News h₀ L s.heap ((H, W.listOf #[.ref p0, .ref p1, .ref p2] n) :: rest)) (hH : ∀ p ∈ rest, p.1 ≠ H) (h0 : T2 rest p0 x0 k0) (h2 : T2 rest p2 x2 k2) (hs : sp = 0) (hp : pp = 2) :
    CtrN w s 870 8700 (.ref 42) [.ref H, .int sp ts, .int pp tp] [] h₀ L m (fun v news' => v = .none ∧ news' = (H, W.listOf (if ltP x2 k2 x0 k0 then #[.ref p2, .ref p1, .ref p0] else #[.ref p0, .ref p1, .ref p2]) n) :: rest) := by
  intro Q E hret
  refine wpAny_call ?_
  refine' enterN (binds := [(Str.ofString "heap", .ref H), (Str.ofString "startpos", .int sp ts), (Str.ofString "pos", .int pp tp)]) F0 N0 X T ?k6 ?k7 ?k8 ?k9 ?kB ?_ ?c2 ?c3 ?c4 ?c5
  (case k6 => k_is)
  (case k7 => k_is)
  (case k8 => decide)
  (case k9 => exact BindsTo.of_eq rfl)
  (case kB => exact locs rfl)
  (case c2 => exact rfl)
  (case c3 => exact rfl)
  (case c4 => exact rfl)
  (case c5 => decide)
  intro g L' h₁ X' T' F N hlt
  try dsimp only
  refine stopQ ?_
  k_fold
  subst hs hp
  k_steps
  all_goals (rename Fr _ _ _ _ => F3; rename News _ _ _ _ => N3)
  · exact leaveK_ F3 N3 fun Fc Nc => hret _ _ _ _ Fc Nc ⟨rfl, by rw [if_pos (show ltP _ _ _ _ = true from decide_eq_true (by assumption))]⟩
  · exact leaveK_ F3 N3 fun Fc Nc => hret _ _ _ _ Fc Nc ⟨rfl, by rw [if_neg (by rw [ltP, decide_eq_false (by assumption)]; exact Bool.false_ne_true)]⟩
theorem words_S10_3 : True := by
  k_with "call ref" => (((with_reducible show wpAny _ _ (call (Value.ref 42) _ _) _ _ _); (first
    | k_dflt (refine useN (c_siftdown1 (by assumption) (by assumption) (by assumption) (by assumption) (by assumption) (by assumption) (by assumption) rfl rfl) ?_)
    | k_dflt (refine useN (c_siftdown2 (by assumption) (by assumption) (by assumption) (by assumption) (by assumption) (by assumption) (by assumption) rfl rfl) ?_)); rintro v9 h9 tk9 news9 F9 N9 ⟨p9, q9⟩; subst p9 q9; (try dsimp only); (try k_fold)))
  trivial
def sift3 (a b c : Addr × Int × Int) : List (Addr × Int × Int) :=
  if ltP b.2.1 b.2.2 c.2.1 c.2.2 then (if ltP a.2.1 a.2.2 b.2.1 b.2.2 then [a, b, c] else [b, a, c]) else (if ltP a.2.1 a.2.2 c.2.1 c.2.2 then [a, b, c] else [c, b, a])
def rf (q : Addr × Int × Int) : Value := .ref q.1
theorem c_siftup {w : World} {mean : ExcName → Option Value} {mg mb : Str → Option Value} {s : Shared} {h₀ : Heap} {L : Addr} {m : Str → Option Value} {rest : List (Addr × Obj)} {H p0 p1 p2 : Addr} {x0 k0 x1 k1 x2 k2 pp : Int} {n : Nat} {tp : Tok}
    (X : (Mine.hd.heap_39 w.params).In h₀) (T : Top Vw Ls mean mg mb h₀) (F0 : Fr h₀ L s.heap m) (N0 : News h₀ L s.heap ((H, W.listOf #[.ref p0, .ref p1, .ref p2] n) :: rest)) (hH : ∀ p ∈ rest, p.1 ≠ H) (h0 : T2 rest p0 x0 k0) (h1 : T2 rest p1 x1 k1) (h2 : T2 rest p2 x2 k2) (hp : pp = 0) :
    CtrN w s 860 8600 (.ref 49) [.ref H, .int pp tp] [] h₀ L m (fun v news' => v = .none ∧ news' = (H, W.listOf ((sift3 (p0, x0, k0) (p1, x1, k1) (p2, x2, k2)).map rf).toArray n) :: rest) := by
  intro Q E hret
  refine wpAny_call ?_
  refine' enterN (binds := [(Str.ofString "heap", .ref H), (Str.ofString "pos", .int pp tp)]) F0 N0 X T ?k6 ?k7 ?k8 ?k9 ?kB ?_ ?c2 ?c3 ?c4 ?c5
  (case k6 => k_is)
  (case k7 => k_is)
  (case k8 => decide)
  (case k9 => exact BindsTo.of_eq rfl)
  (case kB => exact locs rfl)
  (case c2 => exact rfl)
  (case c3 => exact rfl)
  (case c4 => exact rfl)
  (case c5 => decide)
  intro g L' h₁ X' T' F N hlt
  try dsimp only
  refine stopQ ?_
  k_fold
  subst hp
  k_steps
  all_goals (rename Fr _ _ _ _ => F3; rename News _ _ _ _ => N3)
  · exact leaveK_ F3 N3 fun Fc Nc => hret _ _ _ _ Fc Nc ⟨rfl, by rw [sift3, if_pos (show ltP x1 k1 x2 k2 = true from decide_eq_true (by assumption))]; split <;> rfl⟩
  · exact leaveK_ F3 N3 fun Fc Nc => hret _ _ _ _ Fc Nc ⟨rfl, by rw [sift3, if_neg (show ¬ ltP x1 k1 x2 k2 = true by rw [ltP, decide_eq_false (by assumption)]; exact Bool.false_ne_true)]; split <;> rfl⟩
theorem words_S10_4 : True := by
  k_with "call ref" => (((with_reducible show wpAny _ _ (call (Value.ref 49) _ _) _ _ _); (k_dflt (refine useN (c_siftup (by assumption) (by assumption) (by assumption) (by assumption) (by assumption) (by assumption) (by assumption) (by assumption) rfl) ?_)); rintro v9 h9 tk9 news9 F9 N9 ⟨p9, q9⟩; subst p9 q9; (try dsimp only); (try k_fold)))
  trivial
theorem c_heapreplace {w : World} {mean : ExcName → Option Value} {mg mb : Str → Option Value} {s : Shared} {h₀ : Heap} {L : Addr} {m : Str → Option Value} {rest : List (Addr × Obj)} {H q p0 p1 p2 : Addr} {x k x1 k1 x2 k2 : Int} {n : Nat}
    (X : (Mine.hd.heap_39 w.params).In h₀) (T : Top Vw Ls mean mg mb h₀) (F0 : Fr h₀ L s.heap m) (N0 : News h₀ L s.heap ((H, W.listOf #[.ref p0, .ref p1, .ref p2] n) :: rest)) (hH : ∀ p ∈ rest, p.1 ≠ H) (h0 : T2 rest q x k) (h1 : T2 rest p1 x1 k1) (h2 : T2 rest p2 x2 k2) :
    CtrN w s 850 8500 (.ref 28) [.ref H, .ref q] [] h₀ L m (fun v news' => v = .ref p0 ∧ news' = (H, W.listOf ((sift3 (q, x, k) (p1, x1, k1) (p2, x2, k2)).map rf).toArray n) :: rest) := by
  intro Q E hret
  refine wpAny_call ?_
  refine' enterN (binds := [(Str.ofString "heap", .ref H), (Str.ofString "item", .ref q)]) F0 N0 X T ?k6 ?k7 ?k8 ?k9 ?kB ?_ ?c2 ?c3 ?c4 ?c5
  (case k6 => k_is)
  (case k7 => k_is)
  (case k8 => decide)
  (case k9 => exact BindsTo.of_eq rfl)
  (case kB => exact locs rfl)
  (case c2 => exact rfl)
  (case c3 => exact rfl)
  (case c4 => exact rfl)
  (case c5 => decide)
  intro g L' h₁ X' T' F N hlt
  try dsimp only
  refine stopQ ?_
  k_fold
  k_steps
  rename Fr _ _ _ _ => F3
  rename News _ _ _ _ => N3
  exact leaveK_ F3 N3 fun Fc Nc => hret _ _ _ _ Fc Nc ⟨rfl, rfl⟩

theorem none_S11 : True := by
  k_with_none
  trivial
theorem words_LS11_1 : True := by
  k_with "call type:type" => (((with_reducible show wpAny _ _ (call _ [Value.bytes _ _]) _ _ _); refine call_type_of (Tx := "bytes") rfl (by decide +kernel) ?_))
  k_with "m dec" => (first | omega | (simp only [decide_eq_true_eq, decide_eq_false_iff_not, Bool.not_eq_true, beq_iff_eq, beq_eq_false_iff_ne, ne_eq, Bool.not_eq_true', Bool.not_eq_false'] ; omega))
  k_with "ite" => ((k_openite; first | (refine ite_pos (by walk_at "m dec") ?_) | (refine ite_neg (by walk_at "m dec") ?_)))
  k_with "m upd" => (first | exact Upd.head (List.forall_mem_nil _) | exact Upd.head (by assumption) | (refine Upd.tail (by first | assumption | (refine neN ?_; omega)) ?_; walk_at "m upd"))
  k_with "m same" => ((intro z h1 h2 h3; (simp only [List.forall_mem_cons, List.not_mem_nil, false_implies, implies_true, and_true, ne_eq] at h2); (try simp only [List.contains_cons, List.contains_nil, Bool.or_false, Bool.or_eq_false_iff, beq_eq_false_iff_ne, ne_eq] at h3); (simp [kstB, h1, h2, h3]; done)))
  k_with "call builtin:list.append" => (((with_reducible show wpAny _ _ (call (Value.builtin _) [Value.ref _, _]) _ _ _); (refine' append_K ?k1 ?k2 ?k3 ?_ ?z; (case k1 => assumption); (case k2 => assumption); (case k3 => walk_at "m upd"); (case z => first | assumption | exact (by assumption : ∀ x : Value, _) _)); intro h9 F9 N9; (try k_sweep)))
  k_with "m ksame" => ((intro z h2 h3; (simp only [List.forall_mem_cons, List.not_mem_nil, false_implies, implies_true, and_true, ne_eq] at h2); (try simp only [List.contains_cons, List.contains_nil, Bool.or_false, Bool.or_eq_false_iff, beq_eq_false_iff_ne, ne_eq] at h3); (simp [kstB, h2, h3]; done)))
  trivial
theorem words_S11_1 : True := by
  k_with "call type:type" => (((with_reducible show wpAny _ _ (call _ [Value.bytes _ _]) _ _ _); refine call_type_of (Tx := "bytes") rfl (by decide +kernel) ?_))
  k_with "m dec" => (first | omega | (simp only [decide_eq_true_eq, decide_eq_false_iff_not, Bool.not_eq_true, beq_iff_eq, beq_eq_false_iff_ne, ne_eq, Bool.not_eq_true', Bool.not_eq_false'] ; omega))
  k_with "ite" => ((k_openite; first | (refine ite_pos (by walk_at "m dec") ?_) | (refine ite_neg (by walk_at "m dec") ?_)))
  k_with "m upd" => (first | exact Upd.head (by assumption) | (refine Upd.tail (by first | assumption | (refine neN ?_; omega)) ?_; walk_at "m upd"))
  k_with "m same" => ((intro z h1 h2 h3; (simp only [List.forall_mem_cons, List.not_mem_nil, false_implies, implies_true, and_true, ne_eq] at h2); (try simp only [List.contains_cons, List.contains_nil, Bool.or_false, Bool.or_eq_false_iff, beq_eq_false_iff_ne, ne_eq] at h3); (simp [kstB, h1, h2, h3]; done)))
  k_with "call builtin:list.append" => (((with_reducible show wpAny _ _ (call (Value.builtin _) [Value.ref _, _]) _ _ _); (refine' append_K ?k1 ?k2 ?k3 ?_ ?z; (case k1 => assumption); (case k2 => assumption); (case k3 => walk_at "m upd"); (case z => first | assumption | exact (by assumption : ∀ x : Value, _) _)); intro h9 F9 N9; (try k_sweep)))
  trivial
section
variable {prog : Program} {w : World} {A : Around} {E : Value → Shared → Prop} {s : Shared} {r : Addr} {t u v : Tok}
abbrev rit1 : Obj := { cls := .type "range_iterator", dict := none, data := .fields #[rawInt 0, rawInt 1, rawInt (-1)], slots := #[] }
theorem call_range_rev1 {Q : Value → Shared → Prop} (hr : IsRange s.heap r 0 1 1 t u v) (h : Q (.ref s.heap.objs.size) { s with heap := s.heap.push rit1 }) :
    wpAny (model prog w) A (call (.builtin "range.__reversed__") [.ref r]) Q E s := by
  refine wpAny_call_entry PySem.F.slot_range_reversed ⟨_, hr, rfl⟩ PySem.F.entry_range_reversed ?_ (PySem.F.args_range_reversed_1 _)
  unfold Builtin.«range.__reversed__»
  refine wpAny_bind (wpAny_of_eq (a := Value.ref r) rfl ?_)
  refine wpAny_bind ?_
  unfold Builtin.Range.rangeFields
  refine wpAny_bind (wpAny_field hr rfl (x := .int 0 t) rfl (wpAny_bind (wpAny_of_eq (a := some 0) rfl ?_)))
  refine wpAny_bind (wpAny_field hr rfl (x := .int 1 u) rfl (wpAny_bind (wpAny_of_eq (a := some 1) rfl ?_)))
  refine wpAny_bind (wpAny_field hr rfl (x := .int 1 v) rfl (wpAny_bind (wpAny_of_eq (a := some 1) rfl ?_)))
  refine wpAny_pure ?_
  dsimp only
  rw [if_neg (by decide +kernel), if_pos (by decide +kernel), show Builtin.Range.rangeSize 0 1 1 = 1 by decide +kernel]
  exact wpAny_bind (wpAny_newObj_type (wpAny_pure ⟨_, rfl, h⟩))
theorem code_reversed_range1 {Q₁ : Value → Shared → Prop} (hr : IsRange s.heap r 0 1 1 t u v) (h : Q₁ (.ref s.heap.objs.size) { s with heap := s.heap.push rit1 }) :
    codeAny (model prog w) A (.call (.builtin "reversed.__new__") ⟨[.type "reversed", .ref r], []⟩) (wants Q₁ E) s := by
  refine codeAny_of_tree ?_
  show wpAny _ A.in1 (do checkBuiltinCall "reversed.__new__" ⟨[.type "reversed", .ref r], []⟩; again (.builtin "reversed.__new__" ⟨[.type "reversed", .ref r], []⟩)) _ _ s
  refine wpAny_bind (wpAny_of_eq (F.newCall_reversed_1 _) (wpAny_pure ⟨plainId_quiet F.plain_reversed_new _, codeAny_builtin F.entry_reversed_new ?_⟩))
  rw [Around.under_plainId F.plain_reversed_new _]
  unfold Builtin.«reversed.__new__»
  refine wpAny_bind (wpAny_of_eq (newClass_reversed _) ?_)
  try dsimp only
  refine wpAny_bind (wpAny_of_eq (a := ()) (by first | rfl | kernel_rfl) ?_)
  refine wpAny_bind (wpAny_of_eq (a := ()) (by first | rfl | kernel_rfl) ?_)
  try dsimp only
  refine wpAny_bind (wpAny_specialOf (T := "range") ⟨_, hr, rfl⟩ PySem.F.slot_range_reversed.lookup ?_)
  try dsimp only
  refine wpAny_bind (wpAny_of_eq (PySem.F.slot_range_reversed.bind _) ?_)
  try dsimp only
  rw [if_neg (show ¬ ((Value.builtin "range.__reversed__" == Value.none) = true) from Bool.false_ne_true)]
  refine wpAny_bind (wpAny_rule ?_)
  refine wpAny_bind (m := runValue (.call (.builtin "range.__reversed__") ⟨[.ref r], []⟩)) (show wpAny _ _ (call (.builtin "range.__reversed__") [.ref r]) _ _ _ from call_range_rev1 hr ?_)
  first
  | exact wpAny_pure h
  | exact wpAny_bind (wpAny_pure (wpAny_pure h))
theorem sub_rit_reversed : isSubtype (.type "range_iterator") (.type "reversed") = pure false := by rw [isSubtype_type]; kernel_rfl
theorem call_reversed_range1 {Q : Value → Shared → Prop} (hr : IsRange s.heap r 0 1 1 t u v) (h : Q (.ref s.heap.objs.size) { s with heap := s.heap.push rit1 }) : wpAny (model prog w) A (call (.type "reversed") [.ref r]) Q E s := by
  refine callType_other (U := "range_iterator") (Q₁ := fun obj s₁ => obj = .ref s.heap.objs.size ∧ s₁ = { s with heap := s.heap.push rit1 }) (by decide +kernel) F.create_reversed ⟨_, _, F.mro_reversed⟩ F.made_reversed sub_rit_reversed (F.typeCall_reversed_1 _) (code_reversed_range1 hr ⟨rfl, rfl⟩) ?_
  rintro obj s₁ ⟨rfl, rfl⟩
  exact ⟨⟨_, Heap.get?_push_size _ rfl, rfl⟩, h⟩
end

theorem fd32 : Int.fdiv 3 2 = 1 := by decide
theorem words_S11_2 : True := by
  k_with "call ref" => (((with_reducible show wpAny _ _ (call (Value.ref 49) _ _) _ _ _); (k_dflt (refine useN (c_siftup (by assumption) (by assumption) (by assumption) (by assumption) (by assumption) (by assumption) (by assumption) (by assumption) (by assumption)) ?_)); rintro v9 h9 tk9 news9 F9 N9 ⟨p9, q9⟩; subst p9 q9; (try dsimp only); (try k_fold)))
  k_with "call type:reversed" => (refine haltQ ?_)
  k_with "pyIter ref" => (refine haltQ ?_)
  k_with "InvPostN" => (refine haltQ ?_)
  trivial
theorem c_heapify {w : World} {mean : ExcName → Option Value} {mg mb : Str → Option Value} {s : Shared} {h₀ : Heap} {L : Addr} {m : Str → Option Value} {rest : List (Addr × Obj)} {H p0 p1 p2 : Addr} {x0 k0 x1 k1 x2 k2 : Int} {n : Nat}
    (X : (Mine.hd.heap_39 w.params).In h₀) (T : Top Vw Ls mean mg mb h₀) (F0 : Fr h₀ L s.heap m) (N0 : News h₀ L s.heap ((H, W.listOf #[.ref p0, .ref p1, .ref p2] n) :: rest)) (hH : ∀ p ∈ rest, p.1 ≠ H) (h0 : T2 rest p0 x0 k0) (h1 : T2 rest p1 x1 k1) (h2 : T2 rest p2 x2 k2) :
    CtrN w s 850 8500 (.ref 35) [.ref H] [] h₀ L m (fun v news' => v = .none ∧ news' = (H, W.listOf ((sift3 (p0, x0, k0) (p1, x1, k1) (p2, x2, k2)).map rf).toArray n) :: rest) := by
  intro Q E hret
  refine wpAny_call ?_
  refine' enterN (binds := [(Str.ofString "x", .ref H)]) F0 N0 X T ?k6 ?k7 ?k8 ?k9 ?kB ?_ ?c2 ?c3 ?c4 ?c5
  (case k6 => k_is)
  (case k7 => k_is)
  (case k8 => decide)
  (case k9 => exact BindsTo.of_eq rfl)
  (case kB => exact locs rfl)
  (case c2 => exact rfl)
  (case c3 => exact rfl)
  (case c4 => exact rfl)
  (case c5 => decide)
  intro g L' h₁ X' T' F N hlt
  try dsimp only
  refine stopQ ?_
  k_fold
  k_steps
  rename IsRange _ _ _ _ _ _ _ _ => R1
  rename Fr _ _ _ _ => F1
  rename News _ _ _ _ => N1
  rw [fd32] at R1
  unfold Halt
  refine call_reversed_range1 R1 ?_
  k_steps
  unfold Halt
  refine wpAny_pyIter_rangeiter (x := 0) (left := 1) (step := -1) (Heap.get?_push_size _ rfl) ?_
  have hlt2 : ∀ p ∈ (H, W.listOf #[.ref p0, .ref p1, .ref p2] n) :: rest, ∀ I ∈ [_], p.1 ≠ I := fun p hp I hI => by
    rw [List.mem_singleton.mp hI]; exact Nat.ne_of_lt (Heap.lt_size (N1 p hp).1)
  refine loop_invN (fun i m₁ nx => (i = 0 ∧ m₁ = _ ∧ nx = (H, W.listOf #[.ref p0, .ref p1, .ref p2] n) :: rest) ∨ (i = 1 ∧ nx = (H, W.listOf ((sift3 (p0, x0, k0) (p1, x1, k1) (p2, x2, k2)).map rf).toArray n) :: rest)) (Walks.range rfl _ 0 (-1) 1)
    (fun hm => absurd F1.ns.lt ((List.mem_singleton.mp hm) ▸ Nat.lt_irrefl _)) (fun b hb => by rw [List.mem_singleton.mp hb]; exact next_is_new F1) (fun p hp hI => hlt2 p hp _ hI rfl) (fun p hp hI => hlt2 p hp _ hI rfl)
    (Heap.get?_push_size _ rfl) (F1.push _) (news_ext N1 fun b o e => Heap.get?_push_of_some _ e) (.inl ⟨rfl, rfl, rfl⟩) ?_ ?_
  · rintro i v m₁ nx h tk own hi ⟨tv, rfl⟩ hadr hoff hJ F2 N2
    obtain rfl : i = 0 := by omega
    rcases hJ with ⟨_, rfl, rfl⟩ | ⟨hc, _⟩
    · have hH2 : ∀ p ∈ rest ++ own, p.1 ≠ H := fun p hp => (List.mem_append.mp hp).elim (hH p) fun hp => hoff p hp H (.head _)
      have i0 : (0 : Int) + ((0 : Nat) : Int) * -1 = 0 := by decide
      have h0' : T2 (rest ++ own) p0 x0 k0 := let ⟨a, b, c, d⟩ := h0; ⟨a, b, c, List.mem_append_left _ d⟩
      have h1' : T2 (rest ++ own) p1 x1 k1 := let ⟨a, b, c, d⟩ := h1; ⟨a, b, c, List.mem_append_left _ d⟩
      have h2' : T2 (rest ++ own) p2 x2 k2 := let ⟨a, b, c, d⟩ := h2; ⟨a, b, c, List.mem_append_left _ d⟩
      clear h0 h1 h2 hH N1 F1 N0 F0 hlt2
      rw [List.cons_append] at N2
      k_unmd
      k_fold
      k_steps
      rename Fr _ _ _ _ => F3
      rename News _ _ _ _ => N3
      exact InvEndN.intro F3 N3 (nx := (H, W.listOf ((sift3 (p0, x0, k0) (p1, x1, k1) (p2, x2, k2)).map rf).toArray n) :: rest) (.inr ⟨rfl, rfl⟩) rfl (fun p hp => by rw [← List.cons_append]; exact List.mem_append_left _ hp) (fun p hp => .tail _ (List.mem_append_right _ hp))
    · exact absurd hc (by decide)
  · rintro m₁ nx h tk hJ F2 N2
    rcases hJ with ⟨hc, _⟩ | ⟨_, rfl⟩
    · exact absurd hc (by decide)
    · k_steps
      exact leaveK_ F2 N2 fun Fc Nc => hret _ _ _ _ Fc Nc ⟨rfl, rfl⟩

theorem none_C1 : True := by
  k_with_none
  trivial
theorem words_LC1_1 : True := by
  k_with "call type:type" => (((with_reducible show wpAny _ _ (call _ [Value.bytes _ _]) _ _ _); refine call_type_of (Tx := "bytes") rfl (by decide +kernel) ?_))
  k_with "m dec" => (first | omega | (simp only [decide_eq_true_eq, decide_eq_false_iff_not, Bool.not_eq_true, beq_iff_eq, beq_eq_false_iff_ne, ne_eq, Bool.not_eq_true', Bool.not_eq_false'] ; omega))
  k_with "ite" => ((k_openite; first | (refine ite_pos (by walk_at "m dec") ?_) | (refine ite_neg (by walk_at "m dec") ?_)))
  k_with "m upd" => (first | exact Upd.head (List.forall_mem_nil _) | exact Upd.head (by assumption) | (refine Upd.tail (by first | assumption | (refine neN ?_; omega)) ?_; walk_at "m upd"))
  k_with "m same" => ((intro z h1 h2 h3; (simp only [List.forall_mem_cons, List.not_mem_nil, false_implies, implies_true, and_true, ne_eq] at h2); (try simp only [List.contains_cons, List.contains_nil, Bool.or_false, Bool.or_eq_false_iff, beq_eq_false_iff_ne, ne_eq] at h3); (simp [kstB, h1, h2, h3]; done)))
  k_with "call builtin:list.append" => (((with_reducible show wpAny _ _ (call (Value.builtin _) [Value.ref _, _]) _ _ _); (refine' append_K ?k1 ?k2 ?k3 ?_ ?z; (case k1 => assumption); (case k2 => assumption); (case k3 => walk_at "m upd"); (case z => first | assumption | exact (by assumption : ∀ x : Value, _) _)); intro h9 F9 N9; (try k_sweep)))
  k_with "m ksame" => ((intro z h2 h3; (simp only [List.forall_mem_cons, List.not_mem_nil, false_implies, implies_true, and_true, ne_eq] at h2); (try simp only [List.contains_cons, List.contains_nil, Bool.or_false, Bool.or_eq_false_iff, beq_eq_false_iff_ne, ne_eq] at h3); (simp [kstB, h2, h3]; done)))
  trivial
/-- one loop of a list comprehension, by what holds between its turns: the frame's map, the list D so far, the things made so far -/
def CEnd (g : Heap) (C D : Addr) (fp : List Addr) (own : List (Addr × Obj)) (J : (Str → Option Value) → List Value → List (Addr × Obj) → Prop) (s₁ s₂ : Shared) : Prop :=
  ∃ h' tk m' vs k news, s₂ = { s₁ with heap := h', toks := tk } ∧ Fr g C h' m' ∧ News g C h' ((D, W.listOf vs.toArray k) :: (news ++ own)) ∧ (∀ p ∈ news, p.1 ∉ fp) ∧ (∀ p ∈ news, p.1 ≠ D) ∧ J m' vs news
/-- one turn of a list comprehension's loop; B: what the body, whose end K is wanted, asks -/
def TurnIs (prog : Program) (w : World) (A : Around) (elt : PySem.Expr) (gens : List Comprehension) (scope : Scope) (pos : Pos) (depth : Nat) (tgt : PySem.Expr) (I D : Addr) (cenv : Env) (B : (Shared → Prop) → Shared → Prop) : Prop :=
  (∀ K K' s, (∀ s', K s' → K' s') → B K s → B K' s) ∧ ∀ (Q : PySem.Fin → Shared → Prop) E (K : Shared → Prop) (s : Shared), (∀ s', K s' → Q (.again (.compLoop (.ListComp elt gens scope pos) depth (.ref I) (.ref D) cenv)) s') →
    wpAny (model prog w) A (pyNext (.ref I)) (fun r s₁ => match r with
      | none => Q (.done .next) s₁
      | some v => wpAny (model prog w) A (letOwnedTupleGo tgt (.ref I) v) (fun _ s₂ => wpAny (model prog w) A (assign tgt cenv v) (fun _ s₃ => B K s₃) (fun _ _ => False) s₂) (fun _ _ => False) s₁) E s →
    wpAny (model prog w) A (compTurn (.ListComp elt gens scope pos) depth (.ref I) (.ref D) cenv) Q E s
theorem cl0 {prog : Program} {w : World} {A : Around} {R : Result → Shared → Prop} {s : Shared} {elt tgt : PySem.Expr} {gens : List Comprehension} {scope : Scope} {pos : Pos} {depth : Nat} {I D C : Addr} {cenv : Env} {B : (Shared → Prop) → Shared → Prop} {g : Heap}
    {fp wr : List Addr} {n : Nat} {P : Nat → Value → Prop} {St : Nat → Heap → Prop} {m : Str → Option Value} {vs : List Value} {k : Nat} {news : List (Addr × Obj)}
    (J : Nat → (Str → Option Value) → List Value → List (Addr × Obj) → Prop)
    (hT : TurnIs prog w A elt gens scope pos depth tgt I D cenv B)
    (Wk : Walks prog w A I fp wr n P St) (hC : cenv.locals = C)
    (hCf : C ∉ fp) (hDf : D ∉ fp) (hwr : ∀ b ∈ wr, g.get? b = none) (hst : St 0 s.heap) (F : Fr g C s.heap m) (N : News g C s.heap ((D, W.listOf vs.toArray k) :: news)) (hnf : ∀ p ∈ news, p.1 ∉ fp) (hnD : ∀ p ∈ news, p.1 ≠ D) (hJ : J 0 m vs news)
    (turn : ∀ i v h tk (m₁ : Str → Option Value) vs₁ k₁ news₁ own, i < n → P i v → St (i + 1) h → J i m₁ vs₁ news₁ → (∀ p ∈ news₁, p.1 ∉ fp) → (∀ p ∈ own, p.1 ∈ fp) → (∀ p ∈ news₁ ++ own, p.1 ≠ D) → (∀ b ∈ fp, g.get? b = none → ∀ o, h.get? b = some o → (b, o) ∈ own) → Fr g C h m₁ → News g C h ((D, W.listOf vs₁.toArray k₁) :: (news₁ ++ own)) →
      wpAny (model prog w) A (letOwnedTupleGo tgt (.ref I) v) (fun _ s₂ => wpAny (model prog w) A (assign tgt cenv v) (fun _ s₃ => B (fun s' => CEnd g C D fp own (J (i + 1)) { s with heap := h, toks := tk } s') s₃) (fun _ _ => False) s₂) (fun _ _ => False) { s with heap := h, toks := tk })
    (done : ∀ h tk m₁ vs₁ k₁ news₁, J n m₁ vs₁ news₁ → (∀ p ∈ news₁, p.1 ∉ fp) → (∀ p ∈ news₁, p.1 ≠ D) → Fr g C h m₁ → News g C h ((D, W.listOf vs₁.toArray k₁) :: news₁) → R (.ok .next) { s with heap := h, toks := tk }) :
    codeAny (model prog w) A (.compLoop (.ListComp elt gens scope pos) depth (.ref I) (.ref D) cenv) R s := by
  subst hC
  have hLw : cenv.locals ∉ wr := fun h => hCf (Wk.sub _ h)
  have old : ∀ b o, g.get? b = some o → b ∉ wr := fun b o e hb => by rw [hwr b hb] at e; cases e
  refine codeAny_loop rfl (fun q s' => ∃ h tk m₁ vs₁ k₁ news₁ i, s' = { s with heap := h, toks := tk } ∧ q = n + 1 - i ∧ i ≤ n ∧ St i h ∧ Fr g cenv.locals h m₁ ∧ News g cenv.locals h ((D, W.listOf vs₁.toArray k₁) :: news₁) ∧ (∀ p ∈ news₁, p.1 ∉ fp) ∧ (∀ p ∈ news₁, p.1 ≠ D) ∧ J i m₁ vs₁ news₁) ?_ (n + 1)
    ⟨s.heap, s.toks, m, vs, k, news, 0, rfl, rfl, Nat.zero_le _, hst, F, N, hnf, hnD, hJ⟩
  rintro q s' ⟨h, tk, m₁, vs₁, k₁, news₁, i, rfl, rfl, hi, hst₁, F₁, N₁, hnf₁, hnD₁, hJ₁⟩
  show wpAny _ _ ((compTurn (.ListComp elt gens scope pos) depth (.ref I) (.ref D) cenv).onRaise (fun x => do noteFrame x cenv; theTreesLotGoes x)) _ _ _
  refine wpAny_noted ?_
  refine hT.2 _ _ (fun s' => ∃ q' < n + 1 - i, ∃ h tk m₁ vs₁ k₁ news₁ i, s' = { s with heap := h, toks := tk } ∧ q' = n + 1 - i ∧ i ≤ n ∧ St i h ∧ Fr g cenv.locals h m₁ ∧ News g cenv.locals h ((D, W.listOf vs₁.toArray k₁) :: news₁) ∧ (∀ p ∈ news₁, p.1 ∉ fp) ∧ (∀ p ∈ news₁, p.1 ≠ D) ∧ J i m₁ vs₁ news₁) _ (fun s' hs' => ?_) ?_
  · obtain ⟨q', hq', r⟩ := hs'
    exact ⟨rfl, q', hq', r⟩
  have nw : ∀ p ∈ (D, W.listOf vs₁.toArray k₁) :: news₁, p.1 ∉ fp := fun p hp => by
    rcases List.mem_cons.mp hp with rfl | hp
    · exact hDf
    · exact hnf₁ p hp
  have next : ∀ h₁ : Heap, (∀ b o, b ∉ wr → h.get? b = some o → h₁.get? b = some o) → Fr g cenv.locals h₁ m₁ ∧ News g cenv.locals h₁ ((D, W.listOf vs₁.toArray k₁) :: news₁) := fun h₁ hk₁ =>
    ⟨⟨F₁.ns.at' fun o e => hk₁ _ o hLw e, fun b o e => hk₁ b o (old b o e) (F₁.keep b o e), F₁.above⟩, fun p hp => ⟨hk₁ _ _ (fun hw => nw p hp (Wk.sub _ hw)) (N₁ p hp).1, (N₁ p hp).2⟩⟩
  by_cases hlt : i < n
  · refine Wk.item i _ _ _ hlt hst₁ fun v h₁ tk₁ hP hst₂ hk₁ => ?_
    obtain ⟨F₂, N₂⟩ := next h₁ hk₁
    have Nown : News g cenv.locals h₁ (ownOf g fp h₁) := news_ownOf hCf
    have N₃ : News g cenv.locals h₁ ((D, W.listOf vs₁.toArray k₁) :: (news₁ ++ ownOf g fp h₁)) := fun p hp => by
      rw [← List.cons_append] at hp
      rcases List.mem_append.mp hp with hp | hp
      · exact N₂ p hp
      · exact Nown p hp
    have t := turn i v h₁ tk₁ m₁ vs₁ k₁ news₁ (ownOf g fp h₁) hlt hP hst₂ hJ₁ hnf₁ ownOf_sub (fun p hp => ?_) (fun b hb hn o e => mem_ownOf hb hn e) F₂ N₃
    · refine wpAny_mono t (fun _ s₂ t => wpAny_mono t (fun _ s₃ t => hT.1 _ _ _ (fun s₄ hs₄ => ?_) t) fun _ _ e => e.elim) fun _ _ e => e.elim
      obtain ⟨h₄, tk₄, m₄, vs₄, k₄, news₄, rfl, F₄, N₄, hnf₄, hnD₄, hJ₄⟩ := hs₄
      refine ⟨n + 1 - (i + 1), by omega, h₄, tk₄, m₄, vs₄, k₄, news₄, i + 1, rfl, rfl, hlt, ?_, F₄, fun p hp => N₄ p (by rw [← List.cons_append]; exact List.mem_append_left _ hp), hnf₄, hnD₄, hJ₄⟩
      refine Wk.frame _ _ _ hst₂ fun b hb o e => ?_
      cases hn : g.get? b with
      | some o₀ =>
        have : o₀ = o := by have := F₂.keep b o₀ hn; rw [e] at this; exact (Option.some.inj this).symm
        exact this ▸ F₄.keep b o₀ hn
      | none => exact (N₄ _ (by rw [← List.cons_append]; exact List.mem_append_right _ (mem_ownOf hb hn e))).1
    · rcases List.mem_append.mp hp with hp | hp
      · exact hnD₁ p hp
      · exact fun e => hDf (e ▸ ownOf_sub p hp)
  · have hin : i = n := by omega
    subst hin
    refine Wk.done _ _ _ hst₁ fun h₁ tk₁ hk₁ => ?_
    obtain ⟨F₂, N₂⟩ := next h₁ hk₁
    exact done h₁ tk₁ m₁ vs₁ k₁ news₁ hJ₁ hnf₁ hnD₁ F₂ N₂

/-- the element is reckoned: the value y, the things made -/
def EEnd (g : Heap) (C D : Addr) (fp : List Addr) (own : List (Addr × Obj)) (vs : List Value) (k : Nat) (J : (Str → Option Value) → List Value → List (Addr × Obj) → Prop) (s₁ : Shared) (y : Value) (s₂ : Shared) : Prop :=
  ∃ h' tk m' news, s₂ = { s₁ with heap := h', toks := tk } ∧ Fr g C h' m' ∧ News g C h' ((D, W.listOf vs.toArray k) :: (news ++ own)) ∧ (∀ p ∈ news, p.1 ∉ fp) ∧ (∀ p ∈ news, p.1 ≠ D) ∧ J m' (vs ++ [y]) news
section
variable {prog : Program} {w : World} {A : Around} {env cenv : Env} {elt iter tgt : PySem.Expr} {x : Str} {px : Pos} {ifs : List PySem.Expr} {rest : List Comprehension} {scope : Scope} {cl : List (Str × Addr)} {pos : Pos} {s s₁ s₂ : Shared} {g : Heap} {C D : Addr} {fp : List Addr} {own news : List (Addr × Obj)} {vs : List Value} {k : Nat}
  {J : (Str → Option Value) → List Value → List (Addr × Obj) → Prop}
/-- what one name's storing gives -/
theorem assignC {Q : Unit → Shared → Prop} {E : Value → Shared → Prop} {m : Str → Option Value} {v : Value} (hx : scope.names.lookup x = some .local) (hkind : scope.kind = .function) (F : Fr g C s.heap m) (N : News g C s.heap news)
    (h : ∀ h' tk, Fr g C h' (fun y => if y = x then some v else m y) → News g C h' news → Q () { s with heap := h', toks := tk }) : wpAny (model prog w) A (assign (.Name x px) (compEnvC scope cl C env) v) Q E s :=
  wpAny_assign_Name (wpAny_storeName_local (lookup_relabel_local hx) F.ns (fun h₂ hn₂ hs₂ => h h₂ _ (F.set hn₂ hs₂) (N.set hs₂)) (by simp [compEnvC, relabel, hkind]))
def eltB (prog : Program) (w : World) (A : Around) (elt : PySem.Expr) (cenv : Env) (D : Addr) (K : Shared → Prop) (s : Shared) : Prop :=
  wpAny (model prog w) A (eval elt cenv) (fun y s₁ => wpAny (model prog w) A (call (.builtin "list.append") [.ref D, y]) (fun _ s' => K s') (fun _ _ => False) s₁) (fun _ _ => False) s
theorem eltB_mono {K K' : Shared → Prop} (h : ∀ s', K s' → K' s') (x : eltB prog w A elt cenv D K s) : eltB prog w A elt cenv D K' s :=
  wpAny_mono x (fun _ _ x => wpAny_mono x (fun _ _ k => h _ k) fun _ _ e => e) fun _ _ e => e
theorem body_elt (hl : vs.length ≤ 1000) (hD : ∀ p ∈ own, p.1 ≠ D) (h : wpAny (model prog w) A (eval elt cenv) (EEnd g C D fp own vs k J s₁) (fun _ _ => False) s) :
    eltB prog w A elt cenv D (fun s' => CEnd g C D fp own J s₁ s') s := by
  refine wpAny_mono h (fun y s' hs' => ?_) fun _ _ e => e
  obtain ⟨h', tk', m', news', rfl, F', N', b1, b2, b3⟩ := hs'
  refine append_K F' N' (Upd.head fun p hp => (List.mem_append.mp hp).elim (b2 p) (hD p)) (fun h₂ F₂ N₂ => ?_) (by rw [List.size_toArray, sizeLine_eq]; exact Nat.le_trans hl (by decide))
  simp only [List.push_toArray] at N₂
  exact ⟨h₂, tk', m', vs ++ [y], k + 1, news', rfl, F₂, N₂, b1, b2, b3⟩

/-- what a list comprehension wants behind its iterator: the base g, the source's walk, what holds between the turns -/
def CompAt (prog : Program) (w : World) (A : Around) (env : Env) (elt iter tgt : PySem.Expr) (ifs : List PySem.Expr) (rest : List Comprehension) (scope : Scope) (cl : List (Str × Addr)) (pos : Pos)
    (Qd : Heap → List (Addr × Obj) → Addr → Addr → Heap → Nat → Prop) (it : Value) (s₂ : Shared) : Prop :=
  ∃ (I : Addr) (g : Heap) (fp wr : List Addr) (n : Nat) (P : Nat → Value → Prop) (St : Nat → Heap → Prop) (J : Nat → (Str → Option Value) → List Value → List (Addr × Obj) → Prop) (news₀ : List (Addr × Obj)) (B : Addr → Addr → (Shared → Prop) → Shared → Prop), it = .ref I ∧ Walks prog w A I fp wr n P St ∧ St 0 s₂.heap ∧ (∀ b ∈ fp, b < s₂.heap.objs.size) ∧
    Ext g s₂.heap ∧ g.objs.size ≤ s₂.heap.objs.size ∧ (∀ b ∈ wr, g.get? b = none) ∧ (∀ p ∈ news₀, s₂.heap.get? p.1 = some p.2 ∧ g.get? p.1 = none ∧ p.1 ∉ fp) ∧ (∀ m, J 0 m [] news₀) ∧
    (∀ D C, TurnIs prog w A elt (⟨tgt, iter, ifs, 0⟩ :: rest) scope pos 0 tgt I D (compEnvC scope cl C env) (B D C)) ∧
    (∀ D C i v h tk (m₁ : Str → Option Value) vs₁ k₁ news₁ own, s₂.heap.objs.size ≤ D → i < n → P i v → St (i + 1) h → J i m₁ vs₁ news₁ → (∀ p ∈ news₁, p.1 ∉ fp) → (∀ p ∈ own, p.1 ∈ fp) → (∀ p ∈ news₁ ++ own, p.1 ≠ D) → Fr g C h m₁ → News g C h ((D, W.listOf vs₁.toArray k₁) :: (news₁ ++ own)) →
      wpAny (model prog w) A (letOwnedTupleGo tgt (.ref I) v) (fun _ s₃ => wpAny (model prog w) A (assign tgt (compEnvC scope cl C env) v) (fun _ s₄ => B D C (fun s' => CEnd g C D fp own (J (i + 1)) { s₂ with heap := h, toks := tk } s') s₄) (fun _ _ => False) s₃) (fun _ _ => False) { s₂ with heap := h, toks := tk }) ∧
    (∀ D C h tk (m₁ : Str → Option Value) vs₁ k₁ news₁, s₂.heap.objs.size ≤ D → D < C → J n m₁ vs₁ news₁ → (∀ p ∈ news₁, p.1 ≠ D) → Fr g C h m₁ → News g C h ((D, W.listOf vs₁.toArray k₁) :: news₁) → Qd g ((D, W.listOf vs₁.toArray k₁) :: news₁) D C h tk)

theorem comp_block {E : Value → Shared → Prop} {it : Value} {RR : Value → Addr → Result → Shared → Prop} {Qd : Heap → List (Addr × Obj) → Addr → Addr → Heap → Nat → Prop}
    (hcell : ∀ y ∈ scope.names, y.2 ≠ .cell) (hkind : scope.kind = .function)
    (h : CompAt prog w A env elt iter tgt ifs rest scope cl pos Qd it s₂)
    (hRR : ∀ g led D C h tk, Ext g h → (∃ m, h.Ns C m) → g.get? C = none → (∀ p ∈ led, h.get? p.1 = some p.2 ∧ p.1 ≠ C ∧ g.get? p.1 = none) → Qd g led D C h tk → RR (.ref D) C (.ok .next) { s₂ with heap := h, toks := tk }) :
    wpAny (model prog w) A (newList []) (fun acc s₃ => wpAny (model prog w) A (newFunctionEnv scope env.globals cl [] env.qual none .none (some env)) (fun cenv s₄ =>
      codeAny (model prog w) A (.compStart (.ListComp elt (⟨tgt, iter, ifs, 0⟩ :: rest) scope pos) 0 it acc { cenv with scope := relabel scope env }) (RR acc cenv.locals) s₄) E s₃) E s₂ := by
  obtain ⟨I, g, fp, wr, n, P, St, J, news₀, B, rfl, Wk, hst, hfp, hg, hgs, hwr, hn₀, hJ, hT, turn, done⟩ := h
  refine wpAny_newObj_type (wpAny_newFunctionEnv hcell (by intro y hy; simp at hy) (fun h₁ hns₁ hsb₁ => ?_) hkind)
  dsimp only at hns₁ hsb₁ ⊢
  generalize hH2 : s₂.heap.push { cls := .type "list", dict := none, data := .seq ([] : List Value).toArray } = H2 at hns₁ hsb₁ ⊢
  have hC : H2.objs.size = s₂.heap.objs.size + 1 := by rw [← hH2, Heap.size_push]
  have hDC : s₂.heap.objs.size ≠ H2.objs.size := by rw [hC]; exact Nat.ne_of_lt (Nat.lt_succ_self _)
  have hgC : g.objs.size ≤ H2.objs.size := by rw [hC]; exact Nat.le_succ_of_le hgs
  have old : ∀ b o, s₂.heap.get? b = some o → h₁.get? b = some o := fun b o e => hsb₁.extBut b o (by rw [hC]; exact Nat.ne_of_lt (Nat.lt_succ_of_lt (Heap.lt_size e))) (Heap.get?_push_of_some _ (hH2 ▸ Heap.get?_push_of_some _ e))
  have hacc : h₁.get? s₂.heap.objs.size = some (W.listOf ([] : List Value).toArray 0) := hsb₁.extBut _ _ hDC (Heap.get?_push_of_some _ (hH2 ▸ Heap.get?_push_size _ rfl))
  have hDf : s₂.heap.objs.size ∉ fp := fun hm => Nat.lt_irrefl _ (hfp _ hm)
  have hCf : H2.objs.size ∉ fp := fun hm => by have := hfp _ hm; rw [hC] at this; exact Nat.lt_irrefl _ (Nat.lt_of_succ_lt this)
  have F : Fr g H2.objs.size h₁ _ := ⟨hns₁, fun b o e => old b o (hg b o e), hgC⟩
  have N : News g H2.objs.size h₁ ((s₂.heap.objs.size, W.listOf ([] : List Value).toArray 0) :: news₀) := fun p hp => by
    rcases List.mem_cons.mp hp with rfl | hp
    · exact ⟨hacc, hDC, Heap.get?_none_of_le hgs⟩
    · exact ⟨old _ _ (hn₀ p hp).1, Nat.ne_of_lt (by rw [hC]; exact Nat.lt_succ_of_lt (Heap.lt_size (hn₀ p hp).1)), (hn₀ p hp).2.1⟩
  have loop : ∀ s₃ : Shared, s₃ = { s₂ with heap := h₁, toks := s₂.toks + ([] : List (Str × Value)).length } →
      codeAny (model prog w) A (.compLoop (.ListComp elt (⟨tgt, iter, ifs, 0⟩ :: rest) scope pos) 0 (.ref I) (.ref s₂.heap.objs.size) (compEnvC scope cl H2.objs.size env)) (RR (.ref s₂.heap.objs.size) H2.objs.size) s₃ := by
    rintro s₃ rfl
    refine cl0 J (hT _ _) Wk rfl hCf hDf hwr (Wk.frame _ _ _ hst fun b _ o e => old b o e) F N (fun p hp => (hn₀ p hp).2.2) (fun p hp => Nat.ne_of_lt (Heap.lt_size (hn₀ p hp).1)) (hJ _) ?_ ?_
    · intro i v h tk m₁ vs₁ k₁ news₁ own a1 a2 a3 a4 a5 a6 a7 _ a8 a9
      exact turn _ _ i v h tk m₁ vs₁ k₁ news₁ own (Nat.le_refl _) a1 a2 a3 a4 a5 a6 a7 a8 a9
    · intro h tk m₁ vs₁ k₁ news₁ a1 _ a3 a4 a5
      exact hRR g _ _ _ h tk a4.keep ⟨_, a4.ns⟩ (Heap.get?_none_of_le hgC) (fun p hp => a5 p hp) (done _ _ h tk m₁ vs₁ k₁ news₁ (Nat.le_refl _) (by rw [hC]; exact Nat.lt_succ_self _) a1 a3 a4 a5)
  exact codeAny_compStart_list (loop _ rfl) (Wk.self 0 _ _ _ (Wk.frame _ _ _ hst fun b _ o e => old b o e) (loop _ rfl))
end
section
variable {prog : Program} {w : World} {A : Around} {E : Value → Shared → Prop} {env : Env} {elt iter tgt : PySem.Expr} {ifs : List PySem.Expr} {rest : List Comprehension} {scope : Scope} {cl : List (Str × Addr)} {pos : Pos}
/-- a list comprehension as a value -/
theorem comp_eval {s : Shared} {Q : Value → Shared → Prop} (hclos : closureFor scope env = pure cl) (hcell : ∀ y ∈ scope.names, y.2 ≠ .cell) (hkind : scope.kind = .function)
    (hnames : ∀ y ∈ scope.names, y.2 = .local → scope.names.lookup y.1 = some .local)
    (h : wpAny (model prog w) A (eval iter env) (fun xv s₁ => wpAny (model prog w) A (pyIter xv) (fun it s₂ => CompAt prog w A env elt iter tgt ifs rest scope cl pos
      (fun g led D _ _ _ => ∀ h' tk', Ext g h' → (∀ p ∈ led, h'.get? p.1 = some p.2 ∧ g.get? p.1 = none) → Q (.ref D) { s₂ with heap := h', toks := tk' }) it s₂) E s₁) E s)
    (hs : ∀ x, foldedSetIterable iter env x = pure x := by intro _; rfl) :
    wpAny (model prog w) A (eval (.ListComp elt (⟨tgt, iter, ifs, 0⟩ :: rest) scope pos) env) Q E s := by
  rw [eval_ListComp]
  refine wpAny_comprehension_free (use := none) rfl hs hclos hkind hnames (wpAny_mono h (fun xv s₁ h₁ => wpAny_mono h₁ (fun it s₂ h₂ => ?_) fun _ _ e => e) fun _ _ e => e)
  refine comp_block (RR := fun acc C => compPost (model prog w) A E none Q acc C) hcell hkind h₂ ?_
  rintro g led D C h tk hE ⟨m, hn⟩ hgC hl hq
  refine ⟨m, hn, fun h' hs' => hq h' tk (fun b o e => hs'.extBut b o (fun q => ?_) (hE b o e)) fun p hp => ⟨hs'.extBut _ _ (hl p hp).2.1 (hl p hp).1, (hl p hp).2.2⟩⟩
  rw [q, hgC] at e; cases e

/-- a list comprehension stored at once into a local name -/
theorem comp_assign {s : Shared} {Q : Flow → Shared → Prop} {y : Str} {py spos : Pos}
    (hsw : swapsWith (.ListComp elt (⟨tgt, iter, ifs, 0⟩ :: rest) scope pos) (some (.Name y py)) spos.line env = pure true)
    (hclos : closureFor scope env = pure cl) (hcell : ∀ y ∈ scope.names, y.2 ≠ .cell) (hkind : scope.kind = .function)
    (hnames : ∀ y ∈ scope.names, y.2 = .local → scope.names.lookup y.1 = some .local)
    (hy : env.kindOf y = some .local) (hp : (env.scope.kind == .class || (env.scope.kind == .module && env.locals != env.globals)) = false)
    (h : wpAny (model prog w) A (eval iter env) (fun xv s₁ => wpAny (model prog w) A (pyIter xv) (fun it s₂ => CompAt prog w A env elt iter tgt ifs rest scope cl pos
      (fun g led D _ _ _ => ∃ m, g.Ns env.locals m ∧ (∀ p ∈ led, p.1 ≠ env.locals) ∧ ∀ h' tk', h'.Ns env.locals (fun z => if z = y then some (.ref D) else m z) → (∀ b o, b ≠ env.locals → g.get? b = some o → h'.get? b = some o) → (∀ p ∈ led, h'.get? p.1 = some p.2 ∧ g.get? p.1 = none) → Q .next { s₂ with heap := h', toks := tk' }) it s₂) E s₁) E s)
    (hs : ∀ x, foldedSetIterable iter env x = pure x := by intro _; rfl) :
    wpAny (model prog w) A (exec (.Assign [.Name y py] (.ListComp elt (⟨tgt, iter, ifs, 0⟩ :: rest) scope pos) spos) env) Q E s := by
  rw [exec_Assign_Name_used _ _ _ _ hsw]
  refine wpAny_bind (wpAny_standAt (wpAny_bind ?_))
  show wpAny _ A (do let _ ← comprehension (.ListComp elt (⟨tgt, iter, ifs, 0⟩ :: rest) scope pos) scope env _ (newList []) false (eval iter env) (some (assign (.Name y py) env))) _ _ s
  refine wpAny_bind (wpAny_mono (wpAny_comprehension_free (use := some (assign (.Name y py) env)) (Q := fun _ s' => Q .next s') rfl hs hclos hkind hnames
    (wpAny_mono h (fun xv s₁ h₁ => wpAny_mono h₁ (fun it s₂ h₂ => ?_) fun _ _ e => e) fun _ _ e => e)) (fun _ s' hq => wpAny_pure (wpAny_pure hq)) fun _ _ e => e)
  refine comp_block (RR := fun acc C => compPost (model prog w) A E (some (assign (.Name y py) env)) (fun _ s' => Q .next s') acc C) hcell hkind h₂ ?_
  rintro g led D C h tk hE ⟨mC, hnC⟩ hgC hl ⟨m, hn, hled, hq⟩
  have hLC : env.locals ≠ C := by rintro rfl; obtain ⟨o, _, _, ho, _⟩ := hn; rw [hgC] at ho; cases ho
  show wpAny _ A (assign (.Name y py) env (.ref D)) _ _ _
  refine wpAny_assign_Name (wpAny_storeName_local hy (hn.at' fun o e => hE _ o e) (fun h₂ hn₂ hs₂ => ?_) hp)
  refine ⟨mC, hnC.sameBut hs₂ (Ne.symm hLC), fun h₃ hs₃ => ?_⟩
  refine hq h₃ _ (hn₂.sameBut hs₃ hLC) (fun b o hb e => hs₃.extBut b o (fun q => ?_) (hs₂.extBut b o hb (hE b o e))) fun p hp => ⟨hs₃.extBut _ _ (hl p hp).2.1 (hs₂.extBut _ _ (hled p hp) (hl p hp).1), (hl p hp).2.2⟩
  rw [q, hgC] at e; cases e
end
theorem led_ne {h₀ g h : Heap} {L C : Addr} {m : Str → Option Value} {led : List (Addr × Obj)} (F : Fr h₀ L g m) (N : News g C h led) : ∀ p ∈ led, p.1 ≠ L := fun p hp e => by
  obtain ⟨o, _, _, ho, _⟩ := F.ns
  have := (N p hp).2.2
  rw [e, ho] at this; cases this
theorem after_comp {h₀ g h' : Heap} {L : Addr} {m m' : Str → Option Value} {led news : List (Addr × Obj)} (F : Fr h₀ L g m) (N : News h₀ L g news) (hne : ∀ p ∈ led, p.1 ≠ L) (hns : h'.Ns L m') (hk : ∀ b o, b ≠ L → g.get? b = some o → h'.get? b = some o) (hl : ∀ p ∈ led, h'.get? p.1 = some p.2 ∧ g.get? p.1 = none) :
    Fr h₀ L h' m' ∧ News h₀ L h' (led ++ news) := by
  refine ⟨⟨hns, fun b o e => hk b o (Nat.ne_of_lt (Nat.lt_of_lt_of_le (Heap.lt_size e) F.above)) (F.keep b o e), F.above⟩, fun p hp => ?_⟩
  rcases List.mem_append.mp hp with hp | hp
  · refine ⟨(hl p hp).1, hne p hp, ?_⟩
    cases q : h₀.get? p.1 with
    | none => rfl
    | some o => have := F.keep _ _ q; rw [(hl p hp).2] at this; cases this
  · exact ⟨hk _ _ (N p hp).2.1 (N p hp).1, (N p hp).2⟩


theorem none_C2 : True := by
  k_with_none
  trivial
theorem words_LC2_1 : True := by
  k_with "call type:type" => (((with_reducible show wpAny _ _ (call _ [Value.bytes _ _]) _ _ _); refine call_type_of (Tx := "bytes") rfl (by decide +kernel) ?_))
  k_with "m dec" => (first | omega | (simp only [decide_eq_true_eq, decide_eq_false_iff_not, Bool.not_eq_true, beq_iff_eq, beq_eq_false_iff_ne, ne_eq, Bool.not_eq_true', Bool.not_eq_false'] ; omega))
  k_with "ite" => ((k_openite; first | (refine ite_pos (by walk_at "m dec") ?_) | (refine ite_neg (by walk_at "m dec") ?_)))
  k_with "m upd" => (first | exact Upd.head (List.forall_mem_nil _) | exact Upd.head (by assumption) | (refine Upd.tail (by first | assumption | (refine neN ?_; omega)) ?_; walk_at "m upd"))
  k_with "m same" => ((intro z h1 h2 h3; (simp only [List.forall_mem_cons, List.not_mem_nil, false_implies, implies_true, and_true, ne_eq] at h2); (try simp only [List.contains_cons, List.contains_nil, Bool.or_false, Bool.or_eq_false_iff, beq_eq_false_iff_ne, ne_eq] at h3); (simp [kstB, h1, h2, h3]; done)))
  k_with "call builtin:list.append" => (((with_reducible show wpAny _ _ (call (Value.builtin _) [Value.ref _, _]) _ _ _); (refine' append_K ?k1 ?k2 ?k3 ?_ ?z; (case k1 => assumption); (case k2 => assumption); (case k3 => walk_at "m upd"); (case z => first | assumption | exact (by assumption : ∀ x : Value, _) _)); intro h9 F9 N9; (try k_sweep)))
  k_with "m ksame" => ((intro z h2 h3; (simp only [List.forall_mem_cons, List.not_mem_nil, false_implies, implies_true, and_true, ne_eq] at h2); (try simp only [List.contains_cons, List.contains_nil, Bool.or_false, Bool.or_eq_false_iff, beq_eq_false_iff_ne, ne_eq] at h3); (simp [kstB, h2, h3]; done)))
  trivial

section
variable {prog : Program} {w : World} {A : Around} {E : Value → Shared → Prop} {env cenv : Env} {elt iter iter2 tgt : PySem.Expr} {x y : Str} {px py : Pos} {ifs : List PySem.Expr} {rest : List Comprehension} {scope : Scope} {cl : List (Str × Addr)} {pos p : Pos} {depth : Nat} {I D C : Addr} {g : Heap} {fp wr : List Addr} {n : Nat} {P : Nat → Value → Prop} {St : Nat → Heap → Prop}
theorem wpF {α : Type} {M : Model} {m : Sem α} {Q Q' : α → Shared → Prop} {E : Value → Shared → Prop} {s : Shared} (h : wpAny M A m Q (fun _ _ => False) s) (k : ∀ a s', Q a s' → Q' a s') : wpAny M A m Q' E s := wpAny_mono h k fun _ _ e => e.elim
theorem turn_elt : TurnIs prog w A elt [⟨tgt, iter, [], 0⟩] scope pos 0 tgt I D cenv (eltB prog w A elt cenv D) :=
  ⟨fun _ _ _ h x => eltB_mono h x, fun Q E K s hK h => by
    rw [compTurn_list1]
    refine wpAny_bind (wpAny_standAt (wpAny_bind (wpAny_mono h (fun r s₁ h₁ => ?_) fun _ _ e => e)))
    cases r with
    | none => exact wpAny_pure h₁
    | some v =>
      exact wpAny_bind (wpF h₁ fun _ _ h => wpAny_bind (wpF h fun _ _ h => wpAny_bind (wpAny_bind (wpF h fun _ _ h => wpAny_bind (wpF h fun _ _ h => wpAny_pure (wpAny_pure (hK _ h)))))))⟩
def ifB (prog : Program) (w : World) (A : Around) (c elt : PySem.Expr) (cenv : Env) (D : Addr) (K : Shared → Prop) (s : Shared) : Prop :=
  wpAny (model prog w) A (isTrue c cenv (eval c cenv)) (fun b s₁ => if b = true then eltB prog w A elt cenv D K s₁ else K s₁) (fun _ _ => False) s
theorem turn_if {c : PySem.Expr} : TurnIs prog w A elt [⟨tgt, iter, [c], 0⟩] scope pos 0 tgt I D cenv (ifB prog w A c elt cenv D) :=
  ⟨fun _ _ _ h x => wpAny_mono x (fun b _ k => by cases b with | true => exact eltB_mono h k | false => exact h _ k) fun _ _ e => e, fun Q E K s hK h => by
    rw [compTurn_list]
    refine wpAny_bind (wpAny_standAt (wpAny_bind (wpAny_mono h (fun r s₁ h₁ => ?_) fun _ _ e => e)))
    cases r with
    | none => exact wpAny_pure h₁
    | some v =>
      refine wpAny_bind (wpF h₁ fun _ _ h => wpAny_bind (wpF h fun _ _ h => wpAny_bind (wpAny_tests_one (wpF h fun b s₃ h => ?_))))
      cases b with
      | false => exact wpAny_pure (hK _ h)
      | true => exact wpAny_bind (wpAny_bind (wpF h fun _ _ h => wpAny_bind (wpF h fun _ _ h => wpAny_pure (wpAny_pure (hK _ h)))))⟩
def nestB (prog : Program) (w : World) (A : Around) (e iter2 : PySem.Expr) (cenv : Env) (D : Addr) (K : Shared → Prop) (s : Shared) : Prop :=
  wpAny (model prog w) A (eval iter2 cenv) (fun xv s₁ => wpAny (model prog w) A (pyIter xv) (fun it s₂ => codeAny (model prog w) A (.compStart e 1 it (.ref D) cenv) (fun r s' => match r with | .ok _ => K s' | .error _ => False) s₂) (fun _ _ => False) s₁) (fun _ _ => False) s
theorem turn_nest (hs : ∀ x, foldedSetIterable iter2 cenv x = pure x) : TurnIs prog w A elt [⟨tgt, iter, [], 0⟩, ⟨.Name y py, iter2, [], 0⟩] scope pos 0 tgt I D cenv (nestB prog w A (.ListComp elt [⟨tgt, iter, [], 0⟩, ⟨.Name y py, iter2, [], 0⟩] scope pos) iter2 cenv D) :=
  ⟨fun _ _ _ h x => wpAny_mono x (fun _ _ x => wpAny_mono x (fun _ _ x => codeAny_mono x fun r _ k => by cases r with | ok _ => exact h _ k | error _ => exact k) fun _ _ e => e) fun _ _ e => e, fun Q E K s hK h => by
    unfold compTurn
    refine wpAny_bind (wpAny_standAt (wpAny_bind (wpAny_mono h (fun r s₁ h₁ => ?_) fun _ _ e => e)))
    cases r with
    | none => exact wpAny_pure h₁
    | some v =>
      refine wpAny_bind (wpF h₁ fun _ _ h => wpAny_bind (wpF h fun _ _ h => wpAny_bind (wpAny_tests_nil ?_)))
      refine wpAny_bind (wpF h fun x _ h => wpAny_bind (wpAny_standAt (wpAny_bind (wpAny_of_eq (hs x) (wpAny_bind (wpAny_holding (wpF h fun it _ h => wpAny_bind (wpAny_runOwn (codeAny_mono h fun r _ k => ?_)))))))))
      cases r with
      | error _ => exact k.elim
      | ok _ => exact wpAny_pure (hK _ k)⟩
theorem turn_inner : TurnIs prog w A elt [⟨tgt, iter, [], 0⟩, ⟨.Name y py, iter2, [], 0⟩] scope pos 1 (.Name y py) I D cenv (eltB prog w A elt cenv D) :=
  ⟨fun _ _ _ h x => eltB_mono h x, fun Q E K s hK h => by
    unfold compTurn
    refine wpAny_bind (wpAny_standAt (wpAny_bind (wpAny_mono h (fun r s₁ h₁ => ?_) fun _ _ e => e)))
    cases r with
    | none => exact wpAny_pure h₁
    | some v =>
      refine wpAny_bind (wpF h₁ fun _ _ h => wpAny_bind (wpF h fun _ _ h => wpAny_bind (wpAny_tests_nil ?_)))
      exact wpAny_bind (wpAny_bind (wpF h fun _ _ h => wpAny_bind (wpF h fun _ _ h => wpAny_pure (wpAny_pure (hK _ h)))))⟩
theorem compStart1 {it acc : Value} {R : Result → Shared → Prop} {s : Shared} (h0 : codeAny (model prog w) A (.compLoop (.ListComp elt [⟨tgt, iter, [], 0⟩, ⟨.Name y py, iter2, [], 0⟩] scope pos) 1 it acc cenv) R s)
    (h : wpAny (model prog w) A (pyIter it) (fun it' s' => codeAny (model prog w) A (.compLoop (.ListComp elt [⟨tgt, iter, [], 0⟩, ⟨.Name y py, iter2, [], 0⟩] scope pos) 1 it' acc cenv) R s') (fun _ _ => False) s) :
    codeAny (model prog w) A (.compStart (.ListComp elt [⟨tgt, iter, [], 0⟩, ⟨.Name y py, iter2, [], 0⟩] scope pos) 1 it acc cenv) R s := by
  refine codeAny_of_tree ?_
  show wpAny _ _ ((compStart (.ListComp elt [⟨tgt, iter, [], 0⟩, ⟨.Name y py, iter2, [], 0⟩] scope pos) 1 it acc cenv).onRaise (fun x => do noteFrame x cenv; standAt theWindowsPlace)) _ _ s
  refine wpAny_notedAt ?_
  unfold compStart
  show wpAny _ _ (ask >>= _) _ _ s
  refine wpAny_bind (wpAny_askSetting (wpAny_ite ?_))
  split
  · first
      | exact wpAny_bind (wpAny_pure (wpAny_pure (And.intro rfl h0)))
      | exact wpAny_pure (And.intro rfl h0)
  · refine wpAny_bind (wpAny_rule ?_)
    show wpAny _ _ (standAt iter2.pos >>= _) _ _ s
    exact wpAny_bind (wpAny_standAt (wpAny_bind (wpF h fun it' s' h' => wpAny_pure (And.intro rfl h'))))
/-- the inner loop of a comprehension with two clauses -/
theorem inner_loop {s s₀ : Shared} {I : Addr} {m : Str → Option Value} {vs : List Value} {k : Nat} {news own₀ : List (Addr × Obj)} {fp₀ : List Addr} {J₀ : (Str → Option Value) → List Value → List (Addr × Obj) → Prop} {E : Value → Shared → Prop}
    (J : Nat → (Str → Option Value) → List Value → List (Addr × Obj) → Prop) (Wk : Walks prog w A I fp wr n P St) (hx : scope.names.lookup y = some .local) (hkind : scope.kind = .function)
    (hCf : C ∉ fp) (hDf : D ∉ fp) (hwr : ∀ b ∈ wr, g.get? b = none) (hst : St 0 s.heap) (F : Fr g C s.heap m) (N : News g C s.heap ((D, W.listOf vs.toArray k) :: news)) (hnf : ∀ p ∈ news, p.1 ∉ fp) (hnD : ∀ p ∈ news, p.1 ≠ D) (hJ : J 0 m vs news)
    (turn : ∀ i v h tk (m₁ : Str → Option Value) vs₁ k₁ news₁ own, i < n → P i v → J i m₁ vs₁ news₁ → (∀ p ∈ news₁, p.1 ∉ fp) → (∀ p ∈ own, p.1 ∈ fp) → (∀ p ∈ news₁ ++ own, p.1 ≠ D) → (∃ h', St (i + 1) h' ∧ ∀ b ∈ fp, g.get? b = none → ∀ o, h'.get? b = some o → (b, o) ∈ own) → Fr g C h (fun z => if z = y then some v else m₁ z) → News g C h ((D, W.listOf vs₁.toArray k₁) :: (news₁ ++ own)) →
      eltB prog w A elt (compEnvC scope cl C env) D (fun s' => CEnd g C D fp own (J (i + 1)) { s with heap := h, toks := tk } s') { s with heap := h, toks := tk })
    (done : ∀ h tk m₁ vs₁ k₁ news₁, J n m₁ vs₁ news₁ → (∀ p ∈ news₁, p.1 ≠ D) → Fr g C h m₁ → News g C h ((D, W.listOf vs₁.toArray k₁) :: news₁) → CEnd g C D fp₀ own₀ J₀ s₀ { s with heap := h, toks := tk }) :
    codeAny (model prog w) A (.compStart (.ListComp elt [⟨tgt, iter, [], 0⟩, ⟨.Name y py, iter2, [], 0⟩] scope pos) 1 (.ref I) (.ref D) (compEnvC scope cl C env)) (fun r s' => match r with | .ok _ => CEnd g C D fp₀ own₀ J₀ s₀ s' | .error _ => False) s := by
  have loop : codeAny (model prog w) A (.compLoop (.ListComp elt [⟨tgt, iter, [], 0⟩, ⟨.Name y py, iter2, [], 0⟩] scope pos) 1 (.ref I) (.ref D) (compEnvC scope cl C env)) (fun r s' => match r with | .ok _ => CEnd g C D fp₀ own₀ J₀ s₀ s' | .error _ => False) s := by
    refine cl0 J turn_inner Wk rfl hCf hDf hwr hst F N hnf hnD hJ ?_ ?_
    · intro i v h tk m₁ vs₁ k₁ news₁ own a1 a2 a3 a4 a5 a6 a7 mo a8 a9
      refine wpAny_of_eq (a := ()) rfl (assignC (s := { s with heap := h, toks := tk }) hx hkind a8 a9 fun h' tk' F' N' => ?_)
      exact turn i v h' tk' m₁ vs₁ k₁ news₁ own a1 a2 a4 a5 a6 a7 ⟨h, a3, mo⟩ F' N'
    · intro h tk m₁ vs₁ k₁ news₁ a1 _ a3 a4 a5
      exact done h tk m₁ vs₁ k₁ news₁ a1 a3 a4 a5
  exact compStart1 loop (Wk.self 0 _ _ _ hst loop)

/-- a comprehension over one name, from its source's walk -/
theorem compAtN {Qd : Heap → List (Addr × Obj) → Addr → Addr → Heap → Nat → Prop} {s₂ : Shared} {I : Addr} {news₀ : List (Addr × Obj)} {B : Addr → Addr → (Shared → Prop) → Shared → Prop} (g : Heap) (J : Nat → (Str → Option Value) → List Value → List (Addr × Obj) → Prop)
    (hx : scope.names.lookup x = some .local) (hkind : scope.kind = .function) (Wk : Walks prog w A I fp wr n P St) (hst : St 0 s₂.heap) (hfp : ∀ b ∈ fp, b < s₂.heap.objs.size) (hg : Ext g s₂.heap) (hgs : g.objs.size ≤ s₂.heap.objs.size) (hwr : ∀ b ∈ wr, g.get? b = none)
    (hn₀ : ∀ p ∈ news₀, s₂.heap.get? p.1 = some p.2 ∧ g.get? p.1 = none ∧ p.1 ∉ fp) (hJ : ∀ m, J 0 m [] news₀) (hT : ∀ D C, TurnIs prog w A elt (⟨.Name x px, iter, ifs, 0⟩ :: rest) scope pos 0 (.Name x px) I D (compEnvC scope cl C env) (B D C))
    (turn : ∀ D C i v h tk (m₁ : Str → Option Value) vs₁ k₁ news₁ own, s₂.heap.objs.size ≤ D → i < n → P i v → J i m₁ vs₁ news₁ → (∀ p ∈ news₁, p.1 ∉ fp) → (∀ p ∈ own, p.1 ∈ fp) → (∀ p ∈ news₁ ++ own, p.1 ≠ D) → Fr g C h (fun y => if y = x then some v else m₁ y) → News g C h ((D, W.listOf vs₁.toArray k₁) :: (news₁ ++ own)) →
      B D C (fun s' => CEnd g C D fp own (J (i + 1)) { s₂ with heap := h, toks := tk } s') { s₂ with heap := h, toks := tk })
    (done : ∀ D C h tk (m₁ : Str → Option Value) vs₁ k₁ news₁, s₂.heap.objs.size ≤ D → D < C → J n m₁ vs₁ news₁ → (∀ p ∈ news₁, p.1 ≠ D) → Fr g C h m₁ → News g C h ((D, W.listOf vs₁.toArray k₁) :: news₁) → Qd g ((D, W.listOf vs₁.toArray k₁) :: news₁) D C h tk) :
    CompAt prog w A env elt iter (.Name x px) ifs rest scope cl pos Qd (.ref I) s₂ := by
  refine ⟨I, g, fp, wr, n, P, St, J, news₀, B, rfl, Wk, hst, hfp, hg, hgs, hwr, hn₀, hJ, hT, ?_, done⟩
  intro D C i v h tk m₁ vs₁ k₁ news₁ own a0 a1 a2 a3 a4 a5 a6 a7 a8 a9
  refine wpAny_of_eq (a := ()) rfl (assignC (s := { s₂ with heap := h, toks := tk }) hx hkind a8 a9 fun h' tk' F' N' => ?_)
  exact turn D C i v h' tk' m₁ vs₁ k₁ news₁ own a0 a1 a2 a4 a5 a6 a7 F' N'
/-- the source: range(n) -/
theorem rangeSrc {Qd : Shared → Heap → List (Addr × Obj) → Addr → Addr → Heap → Nat → Prop} {s : Shared} {r : Addr} {b : Int} {t u v : Tok} {news₀ : List (Addr × Obj)} {B : Addr → Addr → (Shared → Prop) → Shared → Prop} (n : Nat) (hr : IsRange s.heap r 0 b 1 t u v) (hn : b = n) (hsm : n ≤ 1000) (g : Heap) (J : Nat → (Str → Option Value) → List Value → List (Addr × Obj) → Prop)
    (hx : scope.names.lookup x = some .local) (hkind : scope.kind = .function) (hg : Ext g s.heap) (hgs : g.objs.size ≤ s.heap.objs.size) (hn₀ : ∀ p ∈ news₀, s.heap.get? p.1 = some p.2 ∧ g.get? p.1 = none) (hJ : ∀ m, J 0 m [] news₀) (hT : ∀ I D C, TurnIs prog w A elt (⟨.Name x px, iter, ifs, 0⟩ :: rest) scope pos 0 (.Name x px) I D (compEnvC scope cl C env) (B D C))
    (turn : ∀ D C (i : Nat) tv h tk (m₁ : Str → Option Value) vs₁ k₁ news₁ own, s.heap.objs.size < D → i < n → J i m₁ vs₁ news₁ → (∀ p ∈ news₁, p.1 ∉ [s.heap.objs.size]) → (∀ p ∈ own, p.1 ∈ [s.heap.objs.size]) → (∀ p ∈ news₁ ++ own, p.1 ≠ D) → Fr g C h (fun y => if y = x then some (.int (i : Int) tv) else m₁ y) → News g C h ((D, W.listOf vs₁.toArray k₁) :: (news₁ ++ own)) →
      B D C (fun s' => CEnd g C D [s.heap.objs.size] own (J (i + 1)) { s with heap := h, toks := tk } s') { s with heap := h, toks := tk })
    (done : ∀ H D C h tk (m₁ : Str → Option Value) vs₁ k₁ news₁, s.heap.objs.size < D → D < C → J n m₁ vs₁ news₁ → (∀ p ∈ news₁, p.1 ≠ D) → Fr g C h m₁ → News g C h ((D, W.listOf vs₁.toArray k₁) :: news₁) → Qd { s with heap := H } g ((D, W.listOf vs₁.toArray k₁) :: news₁) D C h tk) (hh : A.handled = none := by rfl) :
    wpAny (model prog w) A (pyIter (.ref r)) (fun it s₂ => CompAt prog w A env elt iter (.Name x px) ifs rest scope cl pos (Qd s₂) it s₂) E s := by
  subst hn
  have hsz : Builtin.Range.rangeSize 0 (n : Int) 1 = n := by
    unfold Builtin.Range.rangeSize
    rw [if_pos (by decide)]
    split <;> omega
  refine wpAny_pyIter_range hr ?_ ?_
  · unfold Builtin.Range.small
    simp [Builtin.Range.rangeFitsLong, hsz]
    omega
  · rw [hsz]
    refine compAtN (s₂ := { s with heap := s.heap.push { cls := .type "range_iterator", data := .fields #[rawInt 0, rawInt (n : Int), rawInt 1] } }) (news₀ := news₀) g J hx hkind (Walks.range hh s.heap.objs.size 0 1 n) ?_ ?_ ?_ ?_ ?_ ?_ hJ (hT _) ?_ ?_
    · show (s.heap.push _).get? _ = _
      rw [Heap.get?_push_size _ rfl]
      simp
    · intro b hb
      rw [List.mem_singleton.mp hb]
      show _ < (s.heap.push _).objs.size
      rw [Heap.size_push]; exact Nat.lt_succ_self _
    · exact fun b o e => Heap.get?_push_of_some _ (hg b o e)
    · show _ ≤ (s.heap.push _).objs.size
      rw [Heap.size_push]; exact Nat.le_succ_of_le hgs
    · intro b hb
      rw [List.mem_singleton.mp hb]; exact Heap.get?_none_of_le hgs
    · exact fun p hp => ⟨Heap.get?_push_of_some _ (hn₀ p hp).1, (hn₀ p hp).2, fun hm => absurd (Heap.lt_size (hn₀ p hp).1) (List.mem_singleton.mp hm ▸ Nat.lt_irrefl _)⟩
    · rintro D C i v h tk m₁ vs₁ k₁ news₁ own a0 a1 ⟨tv, rfl⟩ a3 a4 a5 a6 a7 a8
      have e : (0 : Int) + (i : Int) * 1 = i := by omega
      rw [e] at a7
      exact turn D C i tv h tk m₁ vs₁ k₁ news₁ own (by have a0' : @LE.le Nat _ (s.heap.push _).objs.size D := a0; rw [Heap.size_push] at a0'; exact Nat.lt_of_succ_le a0') a1 a3 a4 a5 a6 a7 a8
    · intro D C h tk m₁ vs₁ k₁ news₁ a0 a1 a2 a3 a4 a5
      exact done _ D C h tk m₁ vs₁ k₁ news₁ (by have a0' : @LE.le Nat _ (s.heap.push _).objs.size D := a0; rw [Heap.size_push] at a0'; exact Nat.lt_of_succ_le a0') a1 a2 a3 a4 a5
/-- the source: a list below -/
theorem listSrc {Qd : Shared → Heap → List (Addr × Obj) → Addr → Addr → Heap → Nat → Prop} {s : Shared} {l : Addr} {items : Array Value} {B : Addr → Addr → (Shared → Prop) → Shared → Prop} (hl : s.heap.IsList l items) (J : Nat → (Str → Option Value) → List Value → List (Addr × Obj) → Prop)
    (hx : scope.names.lookup x = some .local) (hkind : scope.kind = .function) (hJ : ∀ m, J 0 m [] []) (hT : ∀ I D C, TurnIs prog w A elt (⟨.Name x px, iter, ifs, 0⟩ :: rest) scope pos 0 (.Name x px) I D (compEnvC scope cl C env) (B D C))
    (turn : ∀ D C (i : Nat) v h tk (m₁ : Str → Option Value) vs₁ k₁ news₁ own, s.heap.objs.size < D → i < items.size → items[i]? = some v → J i m₁ vs₁ news₁ → (∀ p ∈ news₁, p.1 ∉ [s.heap.objs.size, l]) → (∀ p ∈ own, p.1 ∈ [s.heap.objs.size, l]) → (∀ p ∈ news₁ ++ own, p.1 ≠ D) → Fr s.heap C h (fun y => if y = x then some v else m₁ y) → News s.heap C h ((D, W.listOf vs₁.toArray k₁) :: (news₁ ++ own)) →
      B D C (fun s' => CEnd s.heap C D [s.heap.objs.size, l] own (J (i + 1)) { s with heap := h, toks := tk } s') { s with heap := h, toks := tk })
    (done : ∀ H D C h tk (m₁ : Str → Option Value) vs₁ k₁ news₁, s.heap.objs.size < D → D < C → J items.size m₁ vs₁ news₁ → (∀ p ∈ news₁, p.1 ≠ D) → Fr s.heap C h m₁ → News s.heap C h ((D, W.listOf vs₁.toArray k₁) :: news₁) → Qd { s with heap := H } s.heap ((D, W.listOf vs₁.toArray k₁) :: news₁) D C h tk) (hh : A.handled = none := by rfl) :
    wpAny (model prog w) A (pyIter (.ref l)) (fun it s₂ => CompAt prog w A env elt iter (.Name x px) ifs rest scope cl pos (Qd s₂) it s₂) E s := by
  have hlt : @LT.lt Nat _ l s.heap.objs.size := by obtain ⟨o, ho, _⟩ := hl; exact Heap.lt_size ho
  refine wpAny_pyIter_list hl ?_
  refine compAtN (s₂ := { s with heap := s.heap.push { cls := .type "list_iterator", data := .fields #[.ref l, .int 0 0] } }) (news₀ := []) s.heap J hx hkind (Walks.list hh s.heap.objs.size l (Nat.ne_of_lt hlt) items) ?_ ?_ ?_ ?_ ?_ (fun _ h => nomatch h) hJ (hT _) ?_ ?_
  · exact ⟨⟨_, Heap.get?_push_size _ rfl, rfl, rfl⟩, hl.at fun o e => Heap.get?_push_of_some _ e⟩
  · intro b hb
    show @LT.lt Nat _ b (s.heap.push _).objs.size
    rw [Heap.size_push]
    rcases List.mem_cons.mp hb with rfl | hb
    · exact Nat.lt_succ_self _
    · rw [List.mem_singleton.mp hb]; exact Nat.lt_succ_of_lt hlt
  · exact fun b o e => Heap.get?_push_of_some _ e
  · show _ ≤ (s.heap.push _).objs.size
    rw [Heap.size_push]; exact Nat.le_succ _
  · intro b hb
    rw [List.mem_singleton.mp hb]; exact Heap.get?_none_of_le (Nat.le_refl _)
  · rintro D C i v h tk m₁ vs₁ k₁ news₁ own a0 a1 a2 a3 a4 a5 a6 a7 a8
    exact turn D C i v h tk m₁ vs₁ k₁ news₁ own (by have a0' : @LE.le Nat _ (s.heap.push _).objs.size D := a0; rw [Heap.size_push] at a0'; exact Nat.lt_of_succ_le a0') a1 a2 a3 a4 a5 a6 a7 a8
  · intro D C h tk m₁ vs₁ k₁ news₁ a0 a1 a2 a3 a4 a5
    exact done _ D C h tk m₁ vs₁ k₁ news₁ (by have a0' : @LE.le Nat _ (s.heap.push _).objs.size D := a0; rw [Heap.size_push] at a0'; exact Nat.lt_of_succ_le a0') a1 a2 a3 a4 a5
/-- the inner loop over a list -/
theorem inner_list {s s₀ : Shared} {l : Addr} {items : Array Value} {m : Str → Option Value} {vs : List Value} {k : Nat} {news own₀ : List (Addr × Obj)} {fp₀ : List Addr} {J₀ : (Str → Option Value) → List Value → List (Addr × Obj) → Prop} {E : Value → Shared → Prop}
    (J : Nat → (Str → Option Value) → List Value → List (Addr × Obj) → Prop) (hl : s.heap.IsList l items) (hC : C ≠ l) (hD : D ≠ l) (hnl : ∀ p ∈ news, p.1 ≠ l) (hx : scope.names.lookup y = some .local) (hkind : scope.kind = .function)
    (F : Fr g C s.heap m) (N : News g C s.heap ((D, W.listOf vs.toArray k) :: news)) (hnD : ∀ p ∈ news, p.1 ≠ D) (hJ : J 0 m vs news)
    (turn : ∀ (i : Nat) v h tk (m₁ : Str → Option Value) vs₁ k₁ news₁ own, i < items.size → items[i]? = some v → J i m₁ vs₁ news₁ → (∀ p ∈ news₁, p.1 ∉ [s.heap.objs.size, l]) → (∀ p ∈ own, p.1 ∈ [s.heap.objs.size, l]) → (∀ p ∈ news₁ ++ own, p.1 ≠ D) → Fr g C h (fun z => if z = y then some v else m₁ z) → News g C h ((D, W.listOf vs₁.toArray k₁) :: (news₁ ++ own)) →
      eltB prog w A elt (compEnvC scope cl C env) D (fun s' => CEnd g C D [s.heap.objs.size, l] own (J (i + 1)) { s with heap := h, toks := tk } s') { s with heap := h, toks := tk })
    (done : ∀ h tk m₁ vs₁ k₁ news₁, J items.size m₁ vs₁ news₁ → (∀ p ∈ news₁, p.1 ≠ D) → Fr g C h m₁ → News g C h ((D, W.listOf vs₁.toArray k₁) :: news₁) → CEnd g C D fp₀ own₀ J₀ s₀ { s with heap := h, toks := tk }) (hh : A.handled = none := by rfl) :
    wpAny (model prog w) A (pyIter (.ref l)) (fun it s₂ => codeAny (model prog w) A (.compStart (.ListComp elt [⟨tgt, iter, [], 0⟩, ⟨.Name y py, iter2, [], 0⟩] scope pos) 1 it (.ref D) (compEnvC scope cl C env)) (fun r s' => match r with | .ok _ => CEnd g C D fp₀ own₀ J₀ s₀ s' | .error _ => False) s₂) E s := by
  have hlt : @LT.lt Nat _ l s.heap.objs.size := by obtain ⟨o, ho, _⟩ := hl; exact Heap.lt_size ho
  refine wpAny_pyIter_list hl ?_
  refine inner_loop (s := { s with heap := s.heap.push { cls := .type "list_iterator", data := .fields #[.ref l, .int 0 0] } }) (E := fun _ _ => False) J (Walks.list hh s.heap.objs.size l (Nat.ne_of_lt hlt) items) hx hkind ?_ ?_ ?_ ?_ (F.push _) (fun p hp => ⟨Heap.get?_push_of_some _ (N p hp).1, (N p hp).2⟩) ?_ hnD hJ (fun i v h tk m₁ vs₁ k₁ news₁ own a1 a2 a3 a4 a5 a6 _ => turn i v h tk m₁ vs₁ k₁ news₁ own a1 a2 a3 a4 a5 a6) done
  · intro hm
    rcases List.mem_cons.mp hm with e | hm
    · exact absurd F.ns.lt (by rw [e]; exact Nat.lt_irrefl _)
    · exact hC (List.mem_singleton.mp hm)
  · intro hm
    rcases List.mem_cons.mp hm with e | hm
    · exact absurd (Heap.lt_size (N _ (.head _)).1) (by rw [e]; exact Nat.lt_irrefl _)
    · exact hD (List.mem_singleton.mp hm)
  · intro b hb
    rw [List.mem_singleton.mp hb]; exact next_is_new F
  · exact ⟨⟨_, Heap.get?_push_size _ rfl, rfl, rfl⟩, hl.at fun o e => Heap.get?_push_of_some _ e⟩
  · intro p hp hm
    rcases List.mem_cons.mp hm with e | hm
    · exact absurd (Heap.lt_size (N p (.tail _ hp)).1) (by rw [e]; exact Nat.lt_irrefl _)
    · exact hnl p hp (List.mem_singleton.mp hm)
/-- the inner loop over range(n) -/
theorem inner_range {s s₀ : Shared} {r : Addr} {b : Int} {t u v : Tok} {m : Str → Option Value} {vs : List Value} {k : Nat} {news own₀ : List (Addr × Obj)} {fp₀ : List Addr} {J₀ : (Str → Option Value) → List Value → List (Addr × Obj) → Prop} {E : Value → Shared → Prop} (n : Nat)
    (J : Nat → (Str → Option Value) → List Value → List (Addr × Obj) → Prop) (hr : IsRange s.heap r 0 b 1 t u v) (hn : b = n) (hsm : n ≤ 1000) (hx : scope.names.lookup y = some .local) (hkind : scope.kind = .function)
    (F : Fr g C s.heap m) (N : News g C s.heap ((D, W.listOf vs.toArray k) :: news)) (hnD : ∀ p ∈ news, p.1 ≠ D) (hJ : J 0 m vs news)
    (turn : ∀ (i : Nat) tv h tk (m₁ : Str → Option Value) vs₁ k₁ news₁ own, i < n → J i m₁ vs₁ news₁ → (∀ p ∈ news₁, p.1 ∉ [s.heap.objs.size]) → (∀ p ∈ own, p.1 ∈ [s.heap.objs.size]) → (∀ p ∈ news₁ ++ own, p.1 ≠ D) → (∃ o, (s.heap.objs.size, o) ∈ own) → Fr g C h (fun z => if z = y then some (.int (i : Int) tv) else m₁ z) → News g C h ((D, W.listOf vs₁.toArray k₁) :: (news₁ ++ own)) →
      eltB prog w A elt (compEnvC scope cl C env) D (fun s' => CEnd g C D [s.heap.objs.size] own (J (i + 1)) { s with heap := h, toks := tk } s') { s with heap := h, toks := tk })
    (done : ∀ h tk m₁ vs₁ k₁ news₁, J n m₁ vs₁ news₁ → (∀ p ∈ news₁, p.1 ≠ D) → Fr g C h m₁ → News g C h ((D, W.listOf vs₁.toArray k₁) :: news₁) → CEnd g C D fp₀ own₀ J₀ s₀ { s with heap := h, toks := tk }) (hh : A.handled = none := by rfl) :
    wpAny (model prog w) A (pyIter (.ref r)) (fun it s₂ => codeAny (model prog w) A (.compStart (.ListComp elt [⟨tgt, iter, [], 0⟩, ⟨.Name y py, iter2, [], 0⟩] scope pos) 1 it (.ref D) (compEnvC scope cl C env)) (fun r s' => match r with | .ok _ => CEnd g C D fp₀ own₀ J₀ s₀ s' | .error _ => False) s₂) E s := by
  subst hn
  have hsz : Builtin.Range.rangeSize 0 (n : Int) 1 = n := by
    unfold Builtin.Range.rangeSize
    rw [if_pos (by decide)]
    split <;> omega
  refine wpAny_pyIter_range hr ?_ ?_
  · unfold Builtin.Range.small
    simp [Builtin.Range.rangeFitsLong, hsz]
    omega
  · rw [hsz]
    refine inner_loop (s := { s with heap := s.heap.push { cls := .type "range_iterator", data := .fields #[rawInt 0, rawInt (n : Int), rawInt 1] } }) (E := fun _ _ => False) J (Walks.range hh s.heap.objs.size 0 1 n) hx hkind ?_ ?_ ?_ ?_ (F.push _) (fun p hp => ⟨Heap.get?_push_of_some _ (N p hp).1, (N p hp).2⟩) ?_ hnD hJ ?_ done
    · exact fun hm => absurd F.ns.lt (by rw [List.mem_singleton.mp hm]; exact Nat.lt_irrefl _)
    · exact fun hm => absurd (Heap.lt_size (N _ (.head _)).1) (by rw [List.mem_singleton.mp hm]; exact Nat.lt_irrefl _)
    · intro b hb
      rw [List.mem_singleton.mp hb]; exact next_is_new F
    · show (s.heap.push _).get? _ = _
      rw [Heap.get?_push_size _ rfl]
      simp
    · exact fun p hp hm => absurd (Heap.lt_size (N p (.tail _ hp)).1) (by rw [List.mem_singleton.mp hm]; exact Nat.lt_irrefl _)
    · rintro i v h tk m₁ vs₁ k₁ news₁ own a1 ⟨tv, rfl⟩ a3 a4 a5 a6 ⟨h', st, mo⟩ a7 a8
      rw [show (0 : Int) + (i : Int) * 1 = i by omega] at a7
      exact turn i tv h tk m₁ vs₁ k₁ news₁ own a1 a3 a4 a5 a6 ⟨_, mo _ (.head _) (next_is_new F) _ st⟩ a7 a8
end


theorem none_U1 : True := by
  k_with_none
  trivial
theorem words_LU1_1 : True := by
  k_with "call type:type" => (((with_reducible show wpAny _ _ (call _ [Value.bytes _ _]) _ _ _); refine call_type_of (Tx := "bytes") rfl (by decide +kernel) ?_))
  k_with "m dec" => (first | omega | (simp only [decide_eq_true_eq, decide_eq_false_iff_not, Bool.not_eq_true, beq_iff_eq, beq_eq_false_iff_ne, ne_eq, Bool.not_eq_true', Bool.not_eq_false'] ; omega))
  k_with "ite" => ((k_openite; first | (refine ite_pos (by walk_at "m dec") ?_) | (refine ite_neg (by walk_at "m dec") ?_)))
  k_with "m upd" => (first | exact Upd.head (List.forall_mem_nil _) | exact Upd.head (by assumption) | (refine Upd.tail (by first | assumption | (refine neN ?_; omega)) ?_; walk_at "m upd"))
  k_with "m same" => ((intro z h1 h2 h3; (simp only [List.forall_mem_cons, List.not_mem_nil, false_implies, implies_true, and_true, ne_eq] at h2); (try simp only [List.contains_cons, List.contains_nil, Bool.or_false, Bool.or_eq_false_iff, beq_eq_false_iff_ne, ne_eq] at h3); (simp [kstB, h1, h2, h3]; done)))
  k_with "call builtin:list.append" => (((with_reducible show wpAny _ _ (call (Value.builtin _) [Value.ref _, _]) _ _ _); (refine' append_K ?k1 ?k2 ?k3 ?_ ?z; (case k1 => assumption); (case k2 => assumption); (case k3 => walk_at "m upd"); (case z => first | assumption | exact (by assumption : ∀ x : Value, _) _)); intro h9 F9 N9; (try k_sweep)))
  k_with "m ksame" => ((intro z h2 h3; (simp only [List.forall_mem_cons, List.not_mem_nil, false_implies, implies_true, and_true, ne_eq] at h2); (try simp only [List.contains_cons, List.contains_nil, Bool.or_false, Bool.or_eq_false_iff, beq_eq_false_iff_ne, ne_eq] at h3); (simp [kstB, h2, h3]; done)))
  trivial
/-- no part of a ledger lies at D -/
def NeAll (D : Addr) : List (Addr × Obj) → Prop
  | [] => True
  | p :: r => p.1 ≠ D ∧ NeAll D r
theorem NeAll.out {D : Addr} : ∀ {l : List (Addr × Obj)}, NeAll D l → ∀ p ∈ l, p.1 ≠ D
  | [], _, _, h => nomatch h
  | _ :: _, ⟨a, b⟩, p, h => by
    cases h with
    | head => exact a
    | tail _ h => exact b.out p h
theorem pick {h₀ h : Heap} {L : Addr} {l : List (Addr × Obj)} (N : News h₀ L h l) (is : List Nat) (k : Nat) : News h₀ L h (is.filterMap (fun i => l[i]?) ++ l.drop k) := fun p hp => N p (by
  rcases List.mem_append.mp hp with hp | hp
  · obtain ⟨i, _, hi⟩ := List.mem_filterMap.mp hp
    exact List.mem_of_getElem? hi
  · exact List.mem_of_mem_drop hp)
theorem pick0 {h₀ h : Heap} {L : Addr} {l : List (Addr × Obj)} (N : News h₀ L h l) (is : List Nat) : News h₀ L h (is.filterMap (fun i => l[i]?)) := fun p hp => N p (by
  obtain ⟨i, _, hi⟩ := List.mem_filterMap.mp hp
  exact List.mem_of_getElem? hi)
theorem kl_ins0 (l : List Value) (y : Value) : kl_ins l 0 y = y :: l := by
  unfold kl_ins
  simp
theorem intsAre_snoc {vs : List Value} {ns : List Int} {n : Int} {t : Tok} (h : IntsAre vs ns) : IntsAre (vs ++ [.int n t]) (ns ++ [n]) := IntsAre.append h (.cons _ _ .nil)
/-- a new list of ints -/
def NewInts (h : Heap) (v : Value) (h' : Heap) (ns : List Int) : Prop := ∃ l vs n, v = .ref l ∧ h.get? l = none ∧ h'.get? l = some (W.listOf vs.toArray n) ∧ IntsAre vs ns
theorem NewInts.mk {h₀ h' : Heap} {L l : Addr} {vs : List Value} {n : Nat} {ns : List Int} {news : List (Addr × Obj)} (N : News h₀ L h' news) (hm : (l, W.listOf vs.toArray n) ∈ news) (hI : IntsAre vs ns) : NewInts h₀ (.ref l) h' ns :=
  ⟨l, vs, n, rfl, (N _ hm).2.2, (N _ hm).1, hI⟩
/-- a thing that a call made goes onto the ledger -/
theorem news_new {h₀ h h' : Heap} {L a : Addr} {m : Str → Option Value} {news : List (Addr × Obj)} {o : Obj} (F : Fr h₀ L h m) (N : News h₀ L h news) (x : Ext h h') (ha : h.get? a = none) (ho : h'.get? a = some o) : News h₀ L h' ((a, o) :: news) := by
  intro p hp
  rcases List.mem_cons.mp hp with rfl | hp
  · refine ⟨ho, fun e => ?_, ?_⟩
    · obtain ⟨oL, _, _, hL, _⟩ := F.ns
      have e' : a = L := e
      rw [← e', ha] at hL; cases hL
    · cases q : h₀.get? a with
      | none => rfl
      | some o => have := F.keep _ _ q; rw [ha] at this; cases this
  · exact ⟨x _ _ (N p hp).1, (N p hp).2⟩
theorem new_ne {h₀ h : Heap} {L a : Addr} {news : List (Addr × Obj)} (N : News h₀ L h news) (ha : h.get? a = none) : ∀ p ∈ news, p.1 ≠ a := fun p hp e => by
  have := (N p hp).1
  rw [e, ha] at this; cases this
theorem fr_ne {h₀ h : Heap} {L l : Addr} {m : Str → Option Value} (F : Fr h₀ L h m) (hl : h.get? l = none) : L ≠ l := fun e => by
  obtain ⟨o, _, _, ho, _⟩ := F.ns
  rw [e, hl] at ho; cases ho
theorem sz_le {vs : List Value} {k : Nat} (h : vs.length ≤ k) (hk : k ≤ 16777216 := by decide) : vs.toArray.size ≤ sizeLine := by
  rw [List.size_toArray, sizeLine_eq]; exact Nat.le_trans h hk
theorem intsAre_one {n : Int} {t : Tok} : IntsAre [.int n t] [n] := .cons _ _ .nil
theorem intsAre_nil' : IntsAre [] [] := .nil
section
variable {prog : Program} {w : World} {A : Around} {E : Value → Shared → Prop} {s : Shared} {Q : Value → Shared → Prop} {a b : Int} {t u : Tok}
theorem fdiv_e (hb : 0 < b ∧ b < 1073741824) (h : Q (.int (a / b) s.toks) { s with toks := s.toks + 1 }) : wpAny (model prog w) A (binaryOp .FloorDiv (.int a t) (.int b u)) Q E s :=
  floordiv_int (Int.ne_of_gt hb.1) (by rw [Int.fdiv_eq_ediv_of_nonneg a (Int.le_of_lt hb.1)]; exact h) (Or.inl (PyProof.noPylong_small (by omega)))
theorem mod_e (hb : 0 < b) (h : Q (.int (a % b) s.toks) { s with toks := s.toks + 1 }) : wpAny (model prog w) A (binaryOp .Mod (.int a t) (.int b u)) Q E s :=
  mod_int' (Int.ne_of_gt hb) (by rw [Int.fmod_eq_emod_of_nonneg a (Int.le_of_lt hb)]; exact h)
theorem mul_r (hb : 0 ≤ b ∧ b < 1073741824) (h : Q (.int (a * b) s.toks) { s with toks := s.toks + 1 }) : wpAny (model prog w) A (binaryOp .Mult (.int a t) (.int b u)) Q E s :=
  mul_int h (IntMulOk.of_right (intBits_le_64 (by omega) (by omega)))
theorem mul_e (ha : 0 ≤ a ∧ a < 1073741824) (h : Q (.int (a * b) s.toks) { s with toks := s.toks + 1 }) : wpAny (model prog w) A (binaryOp .Mult (.int a t) (.int b u)) Q E s :=
  mul_int h (IntMulOk.of_left (intBits_le_64 (by omega) (by omega)))
end

theorem intsAre_at {vs : List Value} {ns : List Int} {i : Nat} {v : Value} (h : IntsAre vs ns) (hv : vs.toArray[i]? = some v) : ∃ n t, v = .int n t ∧ ns[i]? = some n := by
  have hi : i < ns.length := by
    rw [← h.length]
    have := (Array.getElem?_eq_some_iff.mp hv).1
    simpa using this
  obtain ⟨t, ht⟩ := h.get i ns[i] (List.getElem?_eq_getElem hi)
  have : vs[i]? = some v := by simpa using hv
  rw [ht] at this
  exact ⟨_, t, (Option.some.inj this).symm, List.getElem?_eq_getElem hi⟩
theorem fr_same {h₀ h : Heap} {L : Addr} {m : Str → Option Value} {x : Str} {v : Value} (F : Fr h₀ L h m) (e : m x = some v) : Fr h₀ L h (fun y => if y = x then some v else m y) := by
  have : (fun y => if y = x then some v else m y) = m := by
    funext y
    by_cases hy : y = x
    · rw [if_pos hy, hy, e]
    · rw [if_neg hy]
  rw [this]; exact F
theorem lenL {prog : Program} {w : World} {A : Around} {E : Value → Shared → Prop} {s : Shared} {Q : Value → Shared → Prop} {l : Addr} {vs : List Value} {ns : List Int} (hl : s.heap.IsList l vs.toArray) (hi : IntsAre vs ns) (hz : ns.length ≤ 16777216) (h : Q (.int (ns.length : Int) (s.toks + 1)) { s with toks := s.toks + 1 + 1 }) : wpAny (model prog w) A (call (.builtin "len") [.ref l]) Q E s := by
  have e : vs.toArray.size = ns.length := by rw [List.size_toArray, hi.length]
  exact len_list hl (by rw [e]; omega) (by rw [e]; exact h)
theorem itemL {prog : Program} {w : World} {A : Around} {E : Value → Shared → Prop} {s : Shared} {Q : Value → Shared → Prop} {value slice : PySem.Expr} {l : Addr} {vs : List Value} {ns : List Int} {k : Int} {u : Tok} (hl : s.heap.IsList l vs.toArray) (hi : IntsAre vs ns) (hk : 0 ≤ k ∧ k < (ns.length : Int)) (hz : ns.length ≤ 16777216) (h : ∀ t, Q (.int (ns.getD k.toNat 0) t) s)
    (hs : subscripted slice false (.ref l) (.int k u) = operate [.ref l, .int k u] (getItem (.ref l) (.int k u)) := by with_unfolding_all rfl) :
    wpAny (model prog w) A (subscriptTail value slice (.ref l) (.int k u)) Q E s := by
  have hlt : k.toNat < ns.length := by omega
  obtain ⟨t, ht⟩ := hi.get k.toNat ns[k.toNat] (List.getElem?_eq_getElem hlt)
  have e : ns.getD k.toNat 0 = ns[k.toNat] := by rw [List.getD_eq_getElem?_getD, List.getElem?_eq_getElem hlt]; rfl
  exact tail_any hl.typeIs slot_list_getitem.lookup (wpAny_getItem_list hl hk.1 (by omega) (by simpa using ht) (e ▸ h t)) hs
theorem mem_ins3 {α : Type} {a b c d : α} {r : List α} : ∀ p ∈ a :: b :: c :: r, p ∈ a :: b :: c :: d :: r := fun p hp => by
  rcases List.mem_cons.mp hp with rfl | hp
  · exact .head _
  · refine .tail _ ?_
    rcases List.mem_cons.mp hp with rfl | hp
    · exact .head _
    · refine .tail _ ?_
      rcases List.mem_cons.mp hp with rfl | hp
      · exact .head _
      · exact .tail _ (.tail _ hp)


theorem none_O1 : True := by
  k_with_none
  trivial
theorem words_LO1_1 : True := by
  k_with "call type:type" => (((with_reducible show wpAny _ _ (call _ [Value.bytes _ _]) _ _ _); refine call_type_of (Tx := "bytes") rfl (by decide +kernel) ?_))
  k_with "m dec" => (first | omega | (simp only [decide_eq_true_eq, decide_eq_false_iff_not, Bool.not_eq_true, beq_iff_eq, beq_eq_false_iff_ne, ne_eq, Bool.not_eq_true', Bool.not_eq_false'] ; omega))
  k_with "ite" => ((k_openite; first | (refine ite_pos (by walk_at "m dec") ?_) | (refine ite_neg (by walk_at "m dec") ?_)))
  k_with "m upd" => (first | exact Upd.head (List.forall_mem_nil _) | exact Upd.head (by assumption) | (refine Upd.tail (by first | assumption | (refine neN ?_; omega)) ?_; walk_at "m upd"))
  k_with "m same" => ((intro z h1 h2 h3; (simp only [List.forall_mem_cons, List.not_mem_nil, false_implies, implies_true, and_true, ne_eq] at h2); (try simp only [List.contains_cons, List.contains_nil, Bool.or_false, Bool.or_eq_false_iff, beq_eq_false_iff_ne, ne_eq] at h3); (simp [kstB, h1, h2, h3]; done)))
  k_with "call builtin:list.append" => (((with_reducible show wpAny _ _ (call (Value.builtin _) [Value.ref _, _]) _ _ _); (refine' append_K ?k1 ?k2 ?k3 ?_ ?z; (case k1 => assumption); (case k2 => assumption); (case k3 => walk_at "m upd"); (case z => first | assumption | exact (by assumption : ∀ x : Value, _) _)); intro h9 F9 N9; (try k_sweep)))
  k_with "m ksame" => ((intro z h2 h3; (simp only [List.forall_mem_cons, List.not_mem_nil, false_implies, implies_true, and_true, ne_eq] at h2); (try simp only [List.contains_cons, List.contains_nil, Bool.or_false, Bool.or_eq_false_iff, beq_eq_false_iff_ne, ne_eq] at h3); (simp [kstB, h2, h3]; done)))
  trivial
theorem words_O1_1 : True := by
  k_with "call builtin:list.insert" => (((with_reducible show wpAny _ _ (call (Value.builtin _) [Value.ref _, Value.int 0 _, _]) _ _ _); (refine' kl_insert ?F ?N rfl (kl_ins0 _ _) ?U ?z ?_; (case F => assumption); (case N => assumption); (case U => walk_at "m upd"); (case z => assumption)); intro h9 F9 N9; (try k_sweep)))
  k_with "binaryOp FloorDiv int int" => (((with_reducible show wpAny _ _ (binaryOp _ (Value.int _ _) (Value.int _ _)) _ _ _); k_dflt (refine fdiv_e (by first | assumption | decide | omega) ?_)))
  k_with "binaryOp Mod int int" => (((with_reducible show wpAny _ _ (binaryOp _ (Value.int _ _) (Value.int _ _)) _ _ _); k_dflt (refine mod_e (by first | decide | assumption | omega) ?_)))
  k_with "binaryOp Mult int int" => (((with_reducible show wpAny _ _ (binaryOp _ (Value.int _ _) (Value.int _ _)) _ _ _); (first | k_dflt (refine mul_r (by decide) ?_) | k_dflt (refine mul_e (by first | decide | assumption | omega) ?_))))
  k_with "exec While Compare cons nil" => (refine haltQ ?_)
  k_with "exec While" => (refine haltQ ?_)
  k_with "KswPost" => (refine haltQ ?_)
  k_with "pyIter ref" => (refine haltQ ?_)
  k_with "exec Assign cons ListComp" => (refine haltQ ?_)
  k_with "EEnd" => (refine haltQ ?_)
  k_with "InvPostN" => (refine haltQ ?_)
  trivial
def octs (n : Int) : List Int := if n < 64 then [n] else if n < 4096 then [n / 64 + 64, n % 64] else [n / 4096 + 64, n / 64 % 64 + 64, n % 64]
def OctJ (n q : Int) (ns : List Int) : Prop := (q = n ∧ ns = [n % 64]) ∨ (64 ≤ n ∧ q = n / 64 ∧ ns = [n / 64 % 64 + 64, n % 64]) ∨ (4096 ≤ n ∧ q = n / 64 / 64 ∧ ns = [n / 64 / 64 % 64 + 64, n / 64 % 64 + 64, n % 64])
theorem OctJ.len {n q : Int} {ns : List Int} (h : OctJ n q ns) : ns.length ≤ 3 := by
  rcases h with ⟨_, rfl⟩ | ⟨_, _, rfl⟩ | ⟨_, _, rfl⟩ <;> exact Nat.le_of_ble_eq_true rfl
theorem OctJ.done {n q : Int} {ns : List Int} (h : OctJ n q ns) (h0 : 0 ≤ n) (hq : ¬ 63 < q) : ns = octs n := by
  unfold octs
  rcases h with ⟨rfl, rfl⟩ | ⟨a, rfl, rfl⟩ | ⟨a, rfl, rfl⟩
  · rw [if_pos (by omega), Int.emod_eq_of_lt h0 (by omega)]
  · rw [if_neg (by omega), if_pos (by omega), Int.emod_eq_of_lt (by omega) (by omega)]
  · rw [if_neg (by omega), if_neg (by omega), Int.emod_eq_of_lt (by omega) (by omega), Int.ediv_ediv_of_nonneg (by decide)]; rfl
theorem OctJ.step {n q : Int} {ns : List Int} (h : OctJ n q ns) (h0 : 0 ≤ n) (h1 : n < 262144) (hq : 63 < q) : OctJ n (q / 64) ((q / 64 % 64 + 64) :: ns) := by
  rcases h with ⟨rfl, rfl⟩ | ⟨a, rfl, rfl⟩ | ⟨a, rfl, rfl⟩
  · exact .inr (.inl ⟨by omega, rfl, rfl⟩)
  · exact .inr (.inr ⟨by omega, rfl, rfl⟩)
  · omega
theorem OctJ.nn {n q : Int} {ns : List Int} (h : OctJ n q ns) (h0 : 0 ≤ n) : 0 ≤ q := by
  rcases h with ⟨rfl, rfl⟩ | ⟨a, rfl, rfl⟩ | ⟨a, rfl, rfl⟩ <;> omega
theorem c_octets {w : World} {mean : ExcName → Option Value} {mg mb : Str → Option Value} {s : Shared} {n : Int} {t : Tok}
    (X : (Mine.hd.heap_39 w.params).In s.heap) (T : Top Vw Ls mean mg mb s.heap) (h0 : 0 ≤ n) (h1 : n < 262144) :
    Ctr w s 850 8500 (.ref 151) [.int n t] [] (fun v h' => NewInts s.heap v h' (octs n)) := by
  intro Q E hret
  refine wpAny_call ?_
  refine' enter (binds := [(Str.ofString "number", .int n t)]) X T ?k6 ?k7 ?k8 ?k9 ?kB ?_ ?c2 ?c3 ?c4 ?c5
  (case k6 => k_is)
  (case k7 => k_is)
  (case k8 => decide)
  (case k9 => exact BindsTo.of_eq rfl)
  (case kB => exact locs rfl)
  (case c2 => exact rfl)
  (case c3 => exact rfl)
  (case c4 => exact rfl)
  (case c5 => decide)
  intro L h F N
  try dsimp only
  refine stopQ ?_
  k_fold
  k_steps
  rename_i l1 hb lf hl1 F5 N5
  unfold Halt
  refine' ksw_while (σ := Int × Tok × List Value × Nat × List Int) (fun c => [(l1, W.listOf c.2.2.1.toArray c.2.2.2.1)]) (fun c => [(Str.ofString "number", .int c.1 c.2.1)]) (fun c => IntsAre c.2.2.1 c.2.2.2.2) [] (fun c => OctJ n c.1 c.2.2.2.2) (fun c => c.1.toNat)
    (n, t, [.int (n % 64) _], 0, [n % 64]) F5 N5 intsAre_one ?a2 (.inl ⟨rfl, rfl⟩) ?a4 ?a5
  case a5 => passes_own
  case a2 => kst_all
  case a4 =>
    clear N5 F5
    rintro ⟨q, tq, vs, k, ns⟩ u h tk hI hJ F6 N6
    dsimp only at hI hJ F6 N6
    have hz : vs.toArray.size ≤ sizeLine := sz_le (hI.length ▸ hJ.len)
    k_steps
    · rename Fr _ _ _ _ => F7
      rename News _ _ _ _ => N7
      unfold Halt
      have e1 := hJ.step h0 h1 (by assumption)
      have e2 : (q / 64).toNat < q.toNat := by omega
      exact ksw_end ((q / 64, _, .int (q / 64 % 64 + 64) _ :: vs, k + 1, (q / 64 % 64 + 64) :: ns) : Int × Tok × List Value × Nat × List Int) F7 N7 (fun p hp => hp) (IntsAre.cons _ _ hI) (by kst_all) (by walk_at "m ksame") e1 e2
    · rename Fr _ _ _ _ => F7
      rename News _ _ _ _ => N7
      exact hret _ _ _ F7.keep (NewInts.mk N7 (.head _) (hJ.done h0 (by assumption) ▸ hI))


theorem none_U2 : True := by
  k_with_none
  trivial
theorem words_LU2_1 : True := by
  k_with "call type:type" => (((with_reducible show wpAny _ _ (call _ [Value.bytes _ _]) _ _ _); refine call_type_of (Tx := "bytes") rfl (by decide +kernel) ?_))
  k_with "m dec" => (first | omega | (simp only [decide_eq_true_eq, decide_eq_false_iff_not, Bool.not_eq_true, beq_iff_eq, beq_eq_false_iff_ne, ne_eq, Bool.not_eq_true', Bool.not_eq_false'] ; omega))
  k_with "ite" => ((k_openite; first | (refine ite_pos (by walk_at "m dec") ?_) | (refine ite_neg (by walk_at "m dec") ?_)))
  k_with "m upd" => (first | exact Upd.head (List.forall_mem_nil _) | exact Upd.head (by assumption) | (refine Upd.tail (by first | assumption | (refine neN ?_; omega)) ?_; walk_at "m upd"))
  k_with "m same" => ((intro z h1 h2 h3; (simp only [List.forall_mem_cons, List.not_mem_nil, false_implies, implies_true, and_true, ne_eq] at h2); (try simp only [List.contains_cons, List.contains_nil, Bool.or_false, Bool.or_eq_false_iff, beq_eq_false_iff_ne, ne_eq] at h3); (simp [kstB, h1, h2, h3]; done)))
  k_with "call builtin:list.append" => (((with_reducible show wpAny _ _ (call (Value.builtin _) [Value.ref _, _]) _ _ _); (refine' append_K ?k1 ?k2 ?k3 ?_ ?z; (case k1 => assumption); (case k2 => assumption); (case k3 => walk_at "m upd"); (case z => first | assumption | exact (by assumption : ∀ x : Value, _) _)); intro h9 F9 N9; (try k_sweep)))
  k_with "m ksame" => ((intro z h2 h3; (simp only [List.forall_mem_cons, List.not_mem_nil, false_implies, implies_true, and_true, ne_eq] at h2); (try simp only [List.contains_cons, List.contains_nil, Bool.or_false, Bool.or_eq_false_iff, beq_eq_false_iff_ne, ne_eq] at h3); (simp [kstB, h2, h3]; done)))
  trivial
/-- how a turn of a for ends -/
def FEnd (h₀ : Heap) (L : Addr) (fp : List Addr) (own : List (Addr × Obj)) (J : (Str → Option Value) → List (Addr × Obj) → Prop) (s₁ s₂ : Shared) : Prop :=
  ∃ h' tk m' news, s₂ = { s₁ with heap := h', toks := tk } ∧ Fr h₀ L h' m' ∧ News h₀ L h' (news ++ own) ∧ (∀ p ∈ news, p.1 ∉ fp) ∧ J m' news
def FPost (h₀ : Heap) (L : Addr) (fp : List Addr) (own : List (Addr × Obj)) (J : (Str → Option Value) → List (Addr × Obj) → Prop) (s₁ : Shared) (Q : Flow → Shared → Prop) (f : Flow) (s₂ : Shared) : Prop :=
  match f with
  | .ret v => Q (.ret v) s₂
  | .brk => Q .next s₂
  | _ => FEnd h₀ L fp own J s₁ s₂
theorem for0 {prog : Program} {w : World} {A : Around} {env : Env} {s : Shared} {tgt : PySem.Expr} {body : List Stmt} {I : Addr} {fp wr : List Addr} {n : Nat} {P : Nat → Value → Prop} {St : Nat → Heap → Prop} {h₀ : Heap} {m : Str → Option Value} {news : List (Addr × Obj)} {Q : Flow → Shared → Prop}
    (J : Nat → (Str → Option Value) → List (Addr × Obj) → Prop) (Wk : Walks prog w A I fp wr n P St) (hLf : env.locals ∉ fp) (hwr : ∀ b ∈ wr, h₀.get? b = none) (hst : St 0 s.heap) (F : Fr h₀ env.locals s.heap m) (N : News h₀ env.locals s.heap news) (hnf : ∀ p ∈ news, p.1 ∉ fp) (hJ : J 0 m news)
    (turn : ∀ i v h tk (m₁ : Str → Option Value) news₁ own, i < n → P i v → J i m₁ news₁ → (∀ p ∈ news₁, p.1 ∉ fp) → (∀ p ∈ own, p.1 ∈ fp) → Fr h₀ env.locals h m₁ → News h₀ env.locals h (news₁ ++ own) →
      wpAny (model prog w) A (assign tgt env v) (fun _ s₃ => wpAny (model prog w) A (execs body env) (FPost h₀ env.locals fp own (J (i + 1)) { s with heap := h, toks := tk } Q) (fun _ _ => False) s₃) (fun _ _ => False) { s with heap := h, toks := tk })
    (done : ∀ h tk m₁ news₁, J n m₁ news₁ → Fr h₀ env.locals h m₁ → News h₀ env.locals h news₁ → Q .next { s with heap := h, toks := tk })
    (ht : ∀ v, letOwnedTupleGo tgt (.ref I) v = pure () := by intro _; rfl) :
    codeAny (model prog w) A (.forLoop tgt (.ref I) body [] env) (fun r s' => match r with | .ok f => Q f s' | .error e => cameBackBy (model prog w) A env (fun _ _ => False) e s') s := by
  have hLw : env.locals ∉ wr := fun h => hLf (Wk.sub _ h)
  have old : ∀ b o, h₀.get? b = some o → b ∉ wr := fun b o e hb => by rw [hwr b hb] at e; cases e
  refine codeAny_forLoop (fun k s' => ∃ h' tk m' news' i, s' = { s with heap := h', toks := tk } ∧ St i h' ∧ Fr h₀ env.locals h' m' ∧ News h₀ env.locals h' news' ∧ (∀ p ∈ news', p.1 ∉ fp) ∧ J i m' news' ∧ i ≤ n ∧ k = n + 1 - i) ?_ (n + 1)
    ⟨s.heap, s.toks, m, news, 0, rfl, hst, F, N, hnf, hJ, Nat.zero_le _, rfl⟩ ht
  rintro k s' ⟨h', tk, m', news', i, rfl, hst', F', N', hnf', hJ', hi, rfl⟩
  have next : ∀ h₁ : Heap, (∀ b o, b ∉ wr → h'.get? b = some o → h₁.get? b = some o) → Fr h₀ env.locals h₁ m' ∧ News h₀ env.locals h₁ news' := fun h₁ hk₁ =>
    ⟨⟨F'.ns.at' fun o e => hk₁ _ o hLw e, fun b o e => hk₁ b o (old b o e) (F'.keep b o e), F'.above⟩, fun p hp => ⟨hk₁ _ _ (fun hw => hnf' p hp (Wk.sub _ hw)) (N' p hp).1, (N' p hp).2⟩⟩
  by_cases hlt : i < n
  · refine Wk.item i _ _ _ hlt hst' fun v h₁ tk₁ hP hst₁ hk₁ => ?_
    obtain ⟨F₁, N₁⟩ := next h₁ hk₁
    have N₂ : News h₀ env.locals h₁ (news' ++ ownOf h₀ fp h₁) := N₁.append (news_ownOf hLf)
    refine wpAny_mono (turn i v h₁ tk₁ m' news' _ hlt hP hJ' hnf' ownOf_sub F₁ N₂) (fun _ s₂ h₂ => wpAny_mono h₂ (fun f s₃ h₃ => ?_) fun _ _ e => e.elim) fun _ _ e => e.elim
    have fin : FEnd h₀ env.locals fp (ownOf h₀ fp h₁) (J (i + 1)) { s with heap := h₁, toks := tk₁ } s₃ → ∃ m, m < n + 1 - i ∧ ∃ h' tk m' news' i, s₃ = { s with heap := h', toks := tk } ∧ St i h' ∧ Fr h₀ env.locals h' m' ∧ News h₀ env.locals h' news' ∧ (∀ p ∈ news', p.1 ∉ fp) ∧ J i m' news' ∧ i ≤ n ∧ m = n + 1 - i := by
      clear h₃
      rintro ⟨g₃, tk₃, m₃, news₃, rfl, F₃, N₃, hnf₃, hJ₃⟩
      refine ⟨n + 1 - (i + 1), by omega, g₃, tk₃, m₃, news₃, i + 1, rfl, ?_, F₃, fun p hp => N₃ p (List.mem_append_left _ hp), hnf₃, hJ₃, hlt, rfl⟩
      refine Wk.frame _ _ _ hst₁ fun b hb o e => ?_
      cases hn : h₀.get? b with
      | some o₀ =>
        have : o₀ = o := by have := F₁.keep b o₀ hn; rw [e] at this; exact (Option.some.inj this).symm
        exact this ▸ F₃.keep b o₀ hn
      | none => exact (N₃ _ (List.mem_append_right _ (mem_ownOf hb hn e))).1
    cases f with
    | ret v => exact h₃
    | brk => exact h₃
    | cont => exact fin h₃
    | next => exact fin h₃
  · have hin : i = n := by omega
    subst hin
    refine Wk.done _ _ _ hst' fun h₁ tk₁ hk₁ => wpAny_execs_nil ?_
    obtain ⟨F₁, N₁⟩ := next h₁ hk₁
    exact done h₁ tk₁ m' news' hJ' F₁ N₁
def SEnd {σ : Type} (h₀ : Heap) (L : Addr) (Led : σ → List (Addr × Obj)) (ps : σ → List (Str × Value)) (stored : List Str) (m₀ : Str → Option Value) (P : σ → Prop) (own : List (Addr × Obj)) (s₁ s₂ : Shared) : Prop :=
  ∃ c' h' tk m' news', s₂ = { s₁ with heap := h', toks := tk } ∧ Fr h₀ L h' m' ∧ News h₀ L h' news' ∧ (∀ p ∈ Led c' ++ own, p ∈ news') ∧ (∀ p ∈ ps c', m' p.1 = some p.2) ∧ (∀ z, (∀ p ∈ ps c', z ≠ p.1) → stored.contains z = false → m' z = m₀ z) ∧ P c'
def SPost {σ : Type} (h₀ : Heap) (L : Addr) (Led : σ → List (Addr × Obj)) (ps : σ → List (Str × Value)) (stored : List Str) (m₀ : Str → Option Value) (P : σ → Prop) (own : List (Addr × Obj)) (s₁ : Shared) (Q : Flow → Shared → Prop) (f : Flow) (s₂ : Shared) : Prop :=
  match f with
  | .ret v => Q (.ret v) s₂
  | .brk => Q .next s₂
  | _ => SEnd h₀ L Led ps stored m₀ P own s₁ s₂
theorem forWalkS {prog : Program} {w : World} {A : Around} {env : Env} {s : Shared} {tgt : PySem.Expr} {body : List Stmt} {I : Addr} {fp wr : List Addr} {n : Nat} {Pv : Nat → Value → Prop} {St : Nat → Heap → Prop} {h₀ : Heap} {m₀ : Str → Option Value} {Q : Flow → Shared → Prop} {σ : Type} (Led : σ → List (Addr × Obj)) (ps : σ → List (Str × Value)) (stored : List Str) (P : Nat → σ → Prop) (c₀ : σ)
    (Wk : Walks prog w A I fp wr n Pv St) (hLf : env.locals ∉ fp) (hwr : ∀ b ∈ wr, h₀.get? b = none) (hst : St 0 s.heap) (F : Fr h₀ env.locals s.heap m₀) (N : News h₀ env.locals s.heap (Led c₀)) (hnf : ∀ p ∈ Led c₀, p.1 ∉ fp) (hadr : ∀ c, (Led c).map (·.1) = (Led c₀).map (·.1)) (hk : ∀ p ∈ ps c₀, m₀ p.1 = some p.2) (hP : P 0 c₀)
    (turn : ∀ (i : Nat) v c (u : Str → Option Value) h tk own, i < n → Pv i v → P i c → Fr h₀ env.locals h (kstB (fun z => if stored.contains z then u z else m₀ z) (ps c)) → News h₀ env.locals h (Led c ++ own) → (∀ p ∈ own, ∀ q ∈ Led c₀, p.1 ≠ q.1) →
      wpAny (model prog w) A (assign tgt env v) (fun _ s₃ => wpAny (model prog w) A (execs body env) (SPost h₀ env.locals Led ps stored m₀ (P (i + 1)) own { s with heap := h, toks := tk } Q) (fun _ _ => False) s₃) (fun _ _ => False) { s with heap := h, toks := tk })
    (done : ∀ h tk c (u : Str → Option Value), P n c → Fr h₀ env.locals h (kstB (fun z => if stored.contains z then u z else m₀ z) (ps c)) → News h₀ env.locals h (Led c) → Q .next { s with heap := h, toks := tk })
    (ht : ∀ v, letOwnedTupleGo tgt (.ref I) v = pure () := by intro _; rfl) :
    codeAny (model prog w) A (.forLoop tgt (.ref I) body [] env) (fun r s' => match r with | .ok f => Q f s' | .error e => cameBackBy (model prog w) A env (fun _ _ => False) e s') s := by
  have off : ∀ c, ∀ p ∈ Led c, p.1 ∉ fp := fun c p hp hm => by
    have hp' : p.1 ∈ (Led c₀).map (·.1) := hadr c ▸ List.mem_map_of_mem hp
    obtain ⟨q, hq, e⟩ := List.mem_map.mp hp'
    exact hnf q hq (e ▸ hm)
  refine for0 (fun i m₁ nx => ∃ c, nx = Led c ∧ (∀ p ∈ ps c, m₁ p.1 = some p.2) ∧ (∀ z, (∀ p ∈ ps c, z ≠ p.1) → stored.contains z = false → m₁ z = m₀ z) ∧ P i c) Wk hLf hwr hst F N hnf ⟨c₀, rfl, hk, fun _ _ _ => rfl, hP⟩ ?_ ?_ ht
  · rintro i v h tk m₁ nx own hi hv ⟨c, rfl, h1, h2, hp⟩ _ hown F₁ N₁
    refine wpAny_mono (turn i v c m₁ h tk own hi hv hp (ksw_fr h1 h2 F₁) N₁ (fun p hp q hq e => off c₀ q hq (e ▸ hown p hp))) (fun _ s₂ x => wpAny_mono x (fun f s₃ x => ?_) fun _ _ e => e) fun _ _ e => e
    have fin : SEnd h₀ env.locals Led ps stored m₀ (P (i + 1)) own { s with heap := h, toks := tk } s₃ → FEnd h₀ env.locals fp own (fun m₁ nx => ∃ c, nx = Led c ∧ (∀ p ∈ ps c, m₁ p.1 = some p.2) ∧ (∀ z, (∀ p ∈ ps c, z ≠ p.1) → stored.contains z = false → m₁ z = m₀ z) ∧ P (i + 1) c) { s with heap := h, toks := tk } s₃ := by
      clear x
      rintro ⟨c', h', tk', m', news', rfl, F', N', hs, k1, k2, hp'⟩
      exact ⟨h', tk', m', Led c', rfl, F', fun p hp => N' p (hs p hp), off c', c', rfl, k1, k2, hp'⟩
    cases f with
    | ret v => exact x
    | brk => exact x
    | cont => exact fin x
    | next => exact fin x
  · rintro h tk m₁ nx ⟨c, rfl, h1, h2, hp⟩ F₁ N₁
    exact done h tk c m₁ hp (ksw_fr h1 h2 F₁) N₁
theorem forListS {prog : Program} {w : World} {A : Around} {env : Env} {s : Shared} {tgt : PySem.Expr} {body : List Stmt} {l : Addr} {items : Array Value} {h₀ : Heap} {m₀ : Str → Option Value} {Q : Flow → Shared → Prop} {σ : Type} (Led : σ → List (Addr × Obj)) (ps : σ → List (Str × Value)) (stored : List Str) (P : Nat → σ → Prop) (c₀ : σ)
    (hl : s.heap.IsList l items) (hLl : l ≠ env.locals) (F : Fr h₀ env.locals s.heap m₀) (N : News h₀ env.locals s.heap (Led c₀)) (hnl : ∀ p ∈ Led c₀, p.1 ≠ l) (hadr : ∀ c, (Led c).map (·.1) = (Led c₀).map (·.1)) (hk : ∀ p ∈ ps c₀, m₀ p.1 = some p.2) (hP : P 0 c₀)
    (turn : ∀ (i : Nat) v c (u : Str → Option Value) h tk own, i < items.size → items[i]? = some v → P i c → Fr h₀ env.locals h (kstB (fun z => if stored.contains z then u z else m₀ z) (ps c)) → News h₀ env.locals h (Led c ++ own) → (∀ p ∈ own, ∀ q ∈ Led c₀, p.1 ≠ q.1) →
      wpAny (model prog w) A (assign tgt env v) (fun _ s₃ => wpAny (model prog w) A (execs body env) (SPost h₀ env.locals Led ps stored m₀ (P (i + 1)) own { s with heap := h, toks := tk } Q) (fun _ _ => False) s₃) (fun _ _ => False) { s with heap := h, toks := tk })
    (done : ∀ h tk c (u : Str → Option Value), P items.size c → Fr h₀ env.locals h (kstB (fun z => if stored.contains z then u z else m₀ z) (ps c)) → News h₀ env.locals h (Led c) → Q .next { s with heap := h, toks := tk })
    (hh : A.handled = none := by rfl) (ht : ∀ I v, letOwnedTupleGo tgt (.ref I) v = pure () := by intro _ _; rfl) :
    wpAny (model prog w) A (pyIter (.ref l)) (fun it s₂ => codeAny (model prog w) A (.forLoop tgt it body [] env) (fun r s' => match r with | .ok f => Q f s' | .error e => cameBackBy (model prog w) A env (fun _ _ => False) e s') s₂) (fun _ _ => False) s := by
  have hlt : @LT.lt Nat _ l s.heap.objs.size := by obtain ⟨o, ho, _⟩ := hl; exact Heap.lt_size ho
  refine wpAny_pyIter_list hl ?_
  refine forWalkS (s := { s with heap := s.heap.push { cls := .type "list_iterator", data := .fields #[.ref l, .int 0 0] } }) Led ps stored P c₀ (Walks.list hh s.heap.objs.size l (Nat.ne_of_lt hlt) items) ?_ ?_ ?_ (F.push _) (fun p hp => ⟨Heap.get?_push_of_some _ (N p hp).1, (N p hp).2⟩) ?_ hadr hk hP turn done (ht _)
  · intro hm
    rcases List.mem_cons.mp hm with e | hm
    · exact absurd F.ns.lt (by rw [e]; exact Nat.lt_irrefl _)
    · exact hLl (List.mem_singleton.mp hm).symm
  · intro b hb
    rw [List.mem_singleton.mp hb]; exact next_is_new F
  · exact ⟨⟨_, Heap.get?_push_size _ rfl, rfl, rfl⟩, hl.at fun o e => Heap.get?_push_of_some _ e⟩
  · intro p hp hm
    rcases List.mem_cons.mp hm with e | hm
    · exact absurd (Heap.lt_size (N p hp).1) (by rw [e]; exact Nat.lt_irrefl _)
    · exact hnl p hp (List.mem_singleton.mp hm)
/-- the for over range(0, 3 n, 3) -/
theorem forRange3 {prog : Program} {w : World} {A : Around} {env : Env} {s : Shared} {tgt : PySem.Expr} {body : List Stmt} {r : Addr} {b : Int} {t u' v' : Tok} {h₀ : Heap} {m₀ : Str → Option Value} {Q : Flow → Shared → Prop} {σ : Type} (n : Nat) (Led : σ → List (Addr × Obj)) (ps : σ → List (Str × Value)) (stored : List Str) (P : Nat → σ → Prop) (c₀ : σ)
    (hr : IsRange s.heap r 0 b 3 t u' v') (hb : b = 3 * n) (hn : n ≤ 1000000) (F : Fr h₀ env.locals s.heap m₀) (N : News h₀ env.locals s.heap (Led c₀)) (hadr : ∀ c, (Led c).map (·.1) = (Led c₀).map (·.1)) (hk : ∀ p ∈ ps c₀, m₀ p.1 = some p.2) (hP : P 0 c₀)
    (turn : ∀ (i : Nat) tv c (u : Str → Option Value) h tk own, i < n → P i c → Fr h₀ env.locals h (kstB (fun z => if stored.contains z then u z else m₀ z) (ps c)) → News h₀ env.locals h (Led c ++ own) → (∀ p ∈ own, ∀ q ∈ Led c₀, p.1 ≠ q.1) →
      wpAny (model prog w) A (assign tgt env (.int (3 * (i : Int)) tv)) (fun _ s₃ => wpAny (model prog w) A (execs body env) (SPost h₀ env.locals Led ps stored m₀ (P (i + 1)) own { s with heap := h, toks := tk } Q) (fun _ _ => False) s₃) (fun _ _ => False) { s with heap := h, toks := tk })
    (done : ∀ h tk c (u : Str → Option Value), P n c → Fr h₀ env.locals h (kstB (fun z => if stored.contains z then u z else m₀ z) (ps c)) → News h₀ env.locals h (Led c) → Q .next { s with heap := h, toks := tk })
    (hh : A.handled = none := by rfl) (ht : ∀ I v, letOwnedTupleGo tgt (.ref I) v = pure () := by intro _ _; rfl) :
    wpAny (model prog w) A (pyIter (.ref r)) (fun it s₂ => codeAny (model prog w) A (.forLoop tgt it body [] env) (fun r s' => match r with | .ok f => Q f s' | .error e => cameBackBy (model prog w) A env (fun _ _ => False) e s') s₂) (fun _ _ => False) s := by
  subst hb
  have hsz : Builtin.Range.rangeSize 0 (3 * (n : Int)) 3 = n := by
    unfold Builtin.Range.rangeSize
    rw [if_pos (by decide)]
    split <;> omega
  refine wpAny_pyIter_range hr ?_ ?_
  · unfold Builtin.Range.small
    simp [Builtin.Range.rangeFitsLong, hsz]
    omega
  · rw [hsz]
    refine forWalkS (s := { s with heap := s.heap.push { cls := .type "range_iterator", data := .fields #[rawInt 0, rawInt (n : Int), rawInt 3] } }) Led ps stored P c₀ (Walks.range hh s.heap.objs.size 0 3 n) ?_ ?_ ?_ (F.push _) (fun p hp => ⟨Heap.get?_push_of_some _ (N p hp).1, (N p hp).2⟩) ?_ hadr hk hP ?_ done (ht _)
    · exact fun hm => absurd F.ns.lt (by rw [List.mem_singleton.mp hm]; exact Nat.lt_irrefl _)
    · intro b hb
      rw [List.mem_singleton.mp hb]; exact next_is_new F
    · show (s.heap.push _).get? _ = _
      rw [Heap.get?_push_size _ rfl]
      simp
    · exact fun p hp hm => absurd (Heap.lt_size (N p hp).1) (by rw [List.mem_singleton.mp hm]; exact Nat.lt_irrefl _)
    · rintro i v c u h tk own hi ⟨tv, rfl⟩ hp F₁ N₁ ho
      rw [show (0 : Int) + (i : Int) * 3 = 3 * (i : Int) by omega]
      exact turn i tv c u h tk own hi hp F₁ N₁ ho
/-- the ways of a statement that turns one int name and one list, joined -/
def JPost (h₀ : Heap) (L : Addr) (m : Str → Option Value) (x : Str) (R : Int → List Value → List Int → Prop) (mk : List Value → Nat → List (Addr × Obj)) (s : Shared) (fl : Flow) (s' : Shared) : Prop :=
  fl = .next ∧ ∃ q t vs k fs h tk, s' = { s with heap := h, toks := tk } ∧ R q vs fs ∧ Fr h₀ L h (fun y => if y = x then some (.int q t) else m y) ∧ News h₀ L h (mk vs k)
theorem wp_join {M : Model} {A : Around} {t : Sem Flow} {Q : Flow → Shared → Prop} {E : Value → Shared → Prop} {s : Shared} {h₀ : Heap} {L : Addr} {m : Str → Option Value} (x : Str) (R : Int → List Value → List Int → Prop) (mk : List Value → Nat → List (Addr × Obj)) (F : Fr h₀ L s.heap m)
    (h1 : wpAny M A t (JPost h₀ L m x R mk s) E s) (h2 : ∀ q t vs k fs h tk, R q vs fs → Fr h₀ L h (fun y => if y = x then some (.int q t) else m y) → News h₀ L h (mk vs k) → Q .next { s with heap := h, toks := tk }) : wpAny M A t Q E s :=
  wpAny_mono h1 (fun fl s' ⟨e, q, t, vs, k, fs, h, tk, es, r, F, N⟩ => by subst e es; exact h2 q t vs k fs h tk r F N) fun _ _ e => e

section
variable {M : Model} {A : Around} {E : Value → Shared → Prop} {s : Shared} {K : Frag} {h₀ : Heap} {L c : Addr} {m mg mb : Str → Option Value} {p : Program} {loose : List Str} {mean : ExcName → Option Value} {env : Env} {x : Str} {pos : Pos} {v : Value} {Q : Value → Shared → Prop}
theorem nameE_L (F : Fr h₀ L s.heap m) (hL : env.locals = L) (hv : m x = some v) (h : Q v s) (hk : env.scope.kind = .function) (hx : env.kindOf x = some .local) (hd : (x == ("__debug__" : Str)) = false) : wpAny M A (eval (.Name x pos) env) Q E s :=
  wpAny_Name (wpAny_loadName_local hk hx (by rw [hL]; exact F.ns) hv h) hd
theorem nameE_C (F : Fr h₀ L s.heap m) (hc : env.cells.lookup x = some c) (hv : h₀.IsCell c (some v)) (h : Q v s) (hk : env.scope.kind = .function) (hx : env.kindOf x = some .cell) (hd : (x == ("__debug__" : Str)) = false) : wpAny M A (eval (.Name x pos) env) Q E s :=
  wpAny_Name (wpAny_loadName_cell hk hx hc (let ⟨o, ho, r⟩ := hv; ⟨o, F.keep _ _ ho, r⟩) h) hd
theorem nameE_K (F : Fr h₀ L s.heap m) (X : K.In h₀) (T : Top p loose mean mg mb h₀) (e : nsIn K mainGlobals x = some (some v)) (h : Q v s) (hg : env.globals = mainGlobals) (hk : env.scope.kind = .function) (hx : env.kindOf x = some .globalImplicit) (hd : (x == ("__debug__" : Str)) = false) :
    wpAny M A (eval (.Name x pos) env) Q E s := Name_function_global hk hx (loadGlobal_global (by rw [hg]; exact T.g.keeps F.keep) (mg_of X T.g e) h) hd
theorem nameE_B (F : Fr h₀ L s.heap m) (X : K.In h₀) (T : Top p loose mean mg mb h₀) (e : nsIn K mainGlobals x = some none) (hv : bootBuiltins x = some v) (hn : x ≠ "__name__") (h : Q v s) (hg : env.globals = mainGlobals) (hb : env.builtins = builtinsNs) (hk : env.scope.kind = .function) (hx : env.kindOf x = some .globalImplicit) (hd : (x == ("__debug__" : Str)) = false) :
    wpAny M A (eval (.Name x pos) env) Q E s := Name_function_global hk hx (loadGlobal_builtin (by rw [hg]; exact T.g.keeps F.keep) (mg_none_of X T.g e) (by rw [hb]; exact T.b.keeps F.keep) ((T.builtins x hn).trans hv) h) hd
end


theorem none_V1 : True := by
  k_with_none
  trivial
theorem words_LV1_1 : True := by
  k_with "call type:type" => (((with_reducible show wpAny _ _ (call _ [Value.bytes _ _]) _ _ _); refine call_type_of (Tx := "bytes") rfl (by decide +kernel) ?_))
  k_with "m dec" => (first | omega | (simp only [decide_eq_true_eq, decide_eq_false_iff_not, Bool.not_eq_true, beq_iff_eq, beq_eq_false_iff_ne, ne_eq, Bool.not_eq_true', Bool.not_eq_false'] ; omega))
  k_with "ite" => ((k_openite; first | (refine ite_pos (by walk_at "m dec") ?_) | (refine ite_neg (by walk_at "m dec") ?_)))
  k_with "m upd" => (first | exact Upd.head (List.forall_mem_nil _) | exact Upd.head (by assumption) | (refine Upd.tail (by first | assumption | (refine neN ?_; omega)) ?_; walk_at "m upd"))
  k_with "m same" => ((intro z h1 h2 h3; (simp only [List.forall_mem_cons, List.not_mem_nil, false_implies, implies_true, and_true, ne_eq] at h2); (try simp only [List.contains_cons, List.contains_nil, Bool.or_false, Bool.or_eq_false_iff, beq_eq_false_iff_ne, ne_eq] at h3); (simp [kstB, h1, h2, h3]; done)))
  k_with "call builtin:list.append" => (((with_reducible show wpAny _ _ (call (Value.builtin _) [Value.ref _, _]) _ _ _); (refine' append_K ?k1 ?k2 ?k3 ?_ ?z; (case k1 => assumption); (case k2 => assumption); (case k3 => walk_at "m upd"); (case z => first | assumption | exact (by assumption : ∀ x : Value, _) _)); intro h9 F9 N9; (try k_sweep)))
  k_with "m ksame" => ((intro z h2 h3; (simp only [List.forall_mem_cons, List.not_mem_nil, false_implies, implies_true, and_true, ne_eq] at h2); (try simp only [List.contains_cons, List.contains_nil, Bool.or_false, Bool.or_eq_false_iff, beq_eq_false_iff_ne, ne_eq] at h3); (simp [kstB, h2, h3]; done)))
  trivial
theorem news_swap {g h : Heap} {L : Addr} {a b : Addr × Obj} {r : List (Addr × Obj)} (N : News g L h (a :: b :: r)) : News g L h (b :: a :: r) := fun p hp => N p (by
  rcases List.mem_cons.mp hp with rfl | hp
  · exact .tail _ (.head _)
  · rcases List.mem_cons.mp hp with rfl | hp
    · exact .head _
    · exact .tail _ (.tail _ hp))
theorem news_sub {g h : Heap} {L : Addr} {r r' : List (Addr × Obj)} (N : News g L h r) (x : ∀ p ∈ r', p ∈ r) : News g L h r' := fun p hp => N p (x p hp)
abbrev SQ : Type := Addr × Int × Int × Tok × Tok × Nat
def sqo (q : SQ) : Obj := { cls := .type "tuple", data := .seq #[.int q.2.1 q.2.2.2.1, .int q.2.2.1 q.2.2.2.2.1] q.2.2.2.2.2 }
def sqt (q : SQ) : Addr × Int × Int := (q.1, q.2.1, q.2.2.1)
def psift (a b c : Int × Int) : (Int × Int) × (Int × Int) × (Int × Int) :=
  if ltP b.1 b.2 c.1 c.2 then (if ltP a.1 a.2 b.1 b.2 then (a, b, c) else (b, a, c)) else (if ltP a.1 a.2 c.1 c.2 then (a, b, c) else (c, b, a))
theorem sift_sq (a b c : SQ) : ∃ r0 r1 r2 : SQ, sift3 (sqt a) (sqt b) (sqt c) = [sqt r0, sqt r1, sqt r2] ∧ psift (sqt a).2 (sqt b).2 (sqt c).2 = ((sqt r0).2, (sqt r1).2, (sqt r2).2) ∧ ∀ P : SQ → Prop, P a → P b → P c → P r0 ∧ P r1 ∧ P r2 := by
  unfold sift3 psift
  by_cases h1 : ltP (sqt b).2.1 (sqt b).2.2 (sqt c).2.1 (sqt c).2.2 = true
  · by_cases h2 : ltP (sqt a).2.1 (sqt a).2.2 (sqt b).2.1 (sqt b).2.2 = true
    · exact ⟨a, b, c, by rw [if_pos h1, if_pos h2], by rw [if_pos h1, if_pos h2], fun P x y z => ⟨x, y, z⟩⟩
    · exact ⟨b, a, c, by rw [if_pos h1, if_neg h2], by rw [if_pos h1, if_neg h2], fun P x y z => ⟨y, x, z⟩⟩
  · by_cases h2 : ltP (sqt a).2.1 (sqt a).2.2 (sqt c).2.1 (sqt c).2.2 = true
    · exact ⟨a, b, c, by rw [if_neg h1, if_pos h2], by rw [if_neg h1, if_pos h2], fun P x y z => ⟨x, y, z⟩⟩
    · exact ⟨c, b, a, by rw [if_neg h1, if_neg h2], by rw [if_neg h1, if_neg h2], fun P x y z => ⟨z, y, x⟩⟩
def sh3 (x y z k : Int) : Int := [x, y, z].getD k.toNat 0
def spRow (W x y z : Int) : Nat → (Int × Int) × (Int × Int) × (Int × Int) → List Int
  | 0, _ => []
  | n + 1, (a, b, c) => a.2 :: spRow W x y z n (psift (a.1 + 2 * W / sh3 x y z a.2, a.2) b c)
def spread (x y z : Int) : List Int := spRow (x * y * z) x y z (x + y + z).toNat (psift (x * y * z / x, 0) (x * y * z / y, 1) (x * y * z / z, 2))
theorem news_rot3 {g h : Heap} {L : Addr} {a b c : Addr × Obj} {r : List (Addr × Obj)} (N : News g L h (a :: b :: c :: r)) : News g L h (c :: a :: b :: r) := fun p hp => N p (by
  rcases List.mem_cons.mp hp with rfl | hp
  · exact .tail _ (.tail _ (.head _))
  · rcases List.mem_cons.mp hp with rfl | hp
    · exact .head _
    · rcases List.mem_cons.mp hp with rfl | hp
      · exact .tail _ (.head _)
      · exact .tail _ (.tail _ (.tail _ hp)))
theorem sh3_b {x y z k : Int} (h0 : 0 ≤ k) (h2 : k ≤ 2) (hx : 1 ≤ x ∧ x ≤ 5) (hy : 1 ≤ y ∧ y ≤ 5) (hz : 1 ≤ z ∧ z ≤ 5) : 1 ≤ [x, y, z].getD k.toNat 0 ∧ [x, y, z].getD k.toNat 0 ≤ 5 := by
  obtain rfl | rfl | rfl : k = 0 ∨ k = 1 ∨ k = 2 := by omega
  · exact hx
  · exact hy
  · exact hz
theorem eend_push {g : Heap} {C D D' : Addr} {fp : List Addr} {own news : List (Addr × Obj)} {vs : List Value} {k tk : Nat} {J : (Str → Option Value) → List Value → List (Addr × Obj) → Prop} {s₁ : Shared} {h' : Heap} {m' : Str → Option Value} {o : Obj}
    (F' : Fr g C h' m') (N' : News g C h' ((D', o) :: (D, W.listOf vs.toArray k) :: (news ++ own))) (hnf : ∀ p ∈ news, p.1 ∉ fp) (hD' : D' ∉ fp) (hnD : ∀ p ∈ news ++ own, p.1 ≠ D) (hne : D' ≠ D) (hJ : J m' (vs ++ [.ref D']) ((D', o) :: news)) :
    EEnd g C D fp own vs k J s₁ (.ref D') { s₁ with heap := h', toks := tk } := by
  refine ⟨h', tk, m', (D', o) :: news, rfl, F', fun p hp => N' p ?_, List.forall_mem_cons.mpr ⟨hD', hnf⟩, List.forall_mem_cons.mpr ⟨hne, fun p hp => hnD p (List.mem_append_left _ hp)⟩, hJ⟩
  rcases List.mem_cons.mp hp with rfl | hp
  · exact .tail _ (.head _)
  · rcases List.mem_cons.mp hp with rfl | hp
    · exact .head _
    · exact .tail _ (.tail _ hp)
theorem t2_cons {news : List (Addr × Obj)} {q p : Addr} {o : Obj} {x k : Int} (h : T2 news p x k) : T2 ((q, o) :: news) p x k := let ⟨a, b, c, d⟩ := h; ⟨a, b, c, .tail _ d⟩
theorem t2_snoc {ps : List (Addr × Int × Int)} {news : List (Addr × Obj)} {q : Addr} {x k : Int} {t u : Tok} {n : Nat} (h : ∀ r ∈ ps, T2 news r.1 r.2.1 r.2.2) :
    ∀ r ∈ ps ++ [(q, x, k)], T2 ((q, ({ cls := .type "tuple", data := .seq #[.int x t, .int k u] n } : Obj)) :: news) r.1 r.2.1 r.2.2 := fun r hr => by
  rcases List.mem_append.mp hr with hr | hr
  · exact t2_cons (h r hr)
  · rw [List.mem_singleton.mp hr]; exact ⟨t, u, n, .head _⟩
theorem pb {x y a b : Int} (hx : 1 ≤ x ∧ x ≤ a) (hy : 1 ≤ y ∧ y ≤ b) : 1 ≤ x * y ∧ x * y ≤ a * b :=
  ⟨by have := Int.mul_le_mul hx.1 hy.1 (by decide) (by omega); omega, Int.mul_le_mul hx.2 hy.2 (by omega) (by omega)⟩
theorem pb3 {x y z : Int} (hx : 1 ≤ x ∧ x ≤ 5) (hy : 1 ≤ y ∧ y ≤ 5) (hz : 1 ≤ z ∧ z ≤ 5) : 1 ≤ x * y * z ∧ x * y * z ≤ 125 := pb (pb hx hy) hz

theorem words_V1_1 : True := by
  k_with "eval Name" => (((with_reducible show wpAny _ _ (eval (PySem.Expr.Name _ _) (compEnvC _ _ _ _)) _ _ _); (first
    | k_dflt (refine' nameE_L ?k1 ?k2 ?k3 ?_ ?k4 ?k5 ?k6; (case k5 => exact rfl); (case k1 => assumption); (case k2 => exact rfl); (case k3 => exact rfl); (case k4 => exact rfl); (case k6 => decide))
    | k_dflt (refine' nameE_C ?k1 ?k2 ?k3 ?_ ?k4 ?k5 ?k6; (case k5 => exact rfl); (case k1 => assumption); (case k2 => exact rfl); (case k3 => assumption); (case k4 => exact rfl); (case k6 => decide))
    | k_dflt (refine' nameE_K ?k1 ?k2 ?k3 ?e ?_ ?kg ?k4 ?k5 ?k6; (case k5 => exact rfl); (case k1 => assumption); (case k2 => assumption); (case k3 => assumption); (case e => k_is); (case kg => exact rfl); (case k4 => exact rfl); (case k6 => decide))
    | k_dflt (refine' nameE_B ?k1 ?k2 ?k3 ?e ?b ?n ?_ ?kg ?kb ?k4 ?k5 ?k6; (case k5 => exact rfl); (case k1 => assumption); (case k2 => assumption); (case k3 => assumption); (case e => k_is); (case b => boot_by_name); (case n => decide); (case kg => exact rfl); (case kb => exact rfl); (case k4 => exact rfl); (case k6 => decide)))))
  k_with "binaryOp FloorDiv int int" => (((with_reducible show wpAny _ _ (binaryOp _ (Value.int _ _) (Value.int _ _)) _ _ _); k_dflt (refine fdiv_e (by first | assumption | decide | omega) ?_)))
  k_with "binaryOp Mod int int" => (((with_reducible show wpAny _ _ (binaryOp _ (Value.int _ _) (Value.int _ _)) _ _ _); k_dflt (refine mod_e (by first | decide | assumption | omega) ?_)))
  k_with "binaryOp Mult int int" => (((with_reducible show wpAny _ _ (binaryOp _ (Value.int _ _) (Value.int _ _)) _ _ _); (first | k_dflt (refine mul_r (by decide) ?_) | k_dflt (refine mul_e (by first | decide | assumption | omega) ?_))))
  k_with "call ref" => (((with_reducible show wpAny _ _ (call (Value.ref 35) _ _) _ _ _); refine haltQ ?_))
  k_with "call ref" => (((with_reducible show wpAny _ _ (call (Value.ref 28) _ _) _ _ _); refine haltQ ?_))
  k_with "exec While Compare cons nil" => (refine haltQ ?_)
  k_with "exec While" => (refine haltQ ?_)
  k_with "KswPost" => (refine haltQ ?_)
  k_with "pyIter ref" => (refine haltQ ?_)
  k_with "exec Assign cons ListComp" => (refine haltQ ?_)
  k_with "EEnd" => (refine haltQ ?_)
  trivial
theorem c_spread {w : World} {mean : ExcName → Option Value} {mg mb : Str → Option Value} {s : Shared} {a : Addr} {va : List Value} {x y z : Int}
    (X : (Mine.hd.heap_39 w.params).In s.heap) (T : Top Vw Ls mean mg mb s.heap) (ha : s.heap.IsList a va.toArray) (hia : IntsAre va [x, y, z]) (hx : 1 ≤ x ∧ x ≤ 5) (hy : 1 ≤ y ∧ y ≤ 5) (hz : 1 ≤ z ∧ z ≤ 5) :
    Ctr w s 800 8000 (.ref 171) [.ref a] [] (fun v h' => NewInts s.heap v h' (spread x y z)) := by
  intro Q E hret
  refine wpAny_call ?_
  refine' enterC (binds := [(Str.ofString "shares", .ref a)]) X T ?k6 ?k7 ?k8 ?k9 ?kB ?kD ?_ ?c2 ?c3 ?c4
  (case k6 => k_is)
  (case k7 => k_is)
  (case k8 => decide)
  (case k9 => exact BindsTo.of_eq rfl)
  (case kB => exact rfl)
  (case kD => decide +kernel)
  (case c2 => exact rfl)
  (case c3 => exact rfl)
  (case c4 => exact rfl)
  intro L h tk cells F N Y
  have hY := CellsAre.two Y
  obtain ⟨o1, o2, hE, d1, d2⟩ := hY
  subst hE
  have c2 : o2.data = .cell (some (.ref a)) := d2
  clear Y
  k_unmd
  refine stopQ ?_
  k_fold
  k_steps
  rename_i ow F1 N1 dw
  unfold Halt
  have dw1 : ow.data = .cell (some (.int (x * y * z) _)) := dw
  refine comp_assign rfl rfl (by decide) rfl (by decide) rfl rfl ?_
  k_steps
  rename IsRange _ _ _ _ _ _ _ _ => R1
  rename Fr _ _ _ _ => F2
  rename News _ _ _ _ => N2
  unfold Halt
  have hs1 := N2 _ (.head _)
  have hs2 := N2 _ (.tail _ (.head _))
  refine rangeSrc (s := { s with heap := _, toks := _ }) (b := 3) (news₀ := []) 3 R1 (by decide) (by decide) _ (fun i _ vs news => ∃ ps : List (Addr × Int × Int), vs = ps.map rf ∧ ps.map (fun q => q.2) = (List.range i).map (fun (k : Nat) => (x * y * z / [x, y, z].getD (k : Int).toNat 0, (k : Int))) ∧ (∀ q ∈ ps, T2 news q.1 q.2.1 q.2.2) ∧ i ≤ 3) rfl rfl (Ext.refl _) (Nat.le_refl _) (fun _ h => nomatch h) (fun _ => ⟨[], rfl, rfl, fun _ h => (nomatch h), by decide⟩) (fun _ _ _ => turn_elt) ?_ ?_ ?hh
  case hh => rfl
  · rintro D C i tv h tk m₁ vs₁ k₁ news₁ own hD hi ⟨ps, rfl, hps, hT, _⟩ hnf hown hnD F3 N3
    have hlen : (ps.map rf).length ≤ 1000 := by
      have := congrArg List.length hps
      rw [List.length_map, List.length_map, List.length_range] at this
      rw [List.length_map]; omega
    refine body_elt (k := k₁) hlen (fun p hp => hnD p (List.mem_append_right _ hp)) ?_
    have X3 := Frag.In.keeps X F2.keep
    have T3 := Top.keeps T F2.keep
    have ha3 := ha.at fun o e => F2.keep _ o e
    have hc1 : Heap.IsCell _ (L + 1 + 1) (some (.int (x * y * z) _)) := ⟨_, hs1.1, dw1⟩
    have hc2 : Heap.IsCell _ (L + 1) (some (.ref a)) := ⟨_, hs2.1, c2⟩
    have hw := pb3 hx hy hz
    have hsh := sh3_b (x := x) (y := y) (z := z) (k := (i : Int)) (by omega) (by omega) hx hy hz
    generalize x * y * z = W at *
    clear R1 hs1 hs2 dw F2 N2
    have hi2 : (i : Int) < 3 := by omega
    k_steps
    rename_i D9 h9 F9 N9 l9
    have hD9 : D9 ∉ [_] := fun hm => absurd (List.mem_singleton.mp hm) (Nat.ne_of_gt (Nat.lt_trans hD l9.1))
    unfold Halt
    refine eend_push F9 N9 hnf hD9 hnD (Nat.ne_of_gt l9.1) ?_
    exact ⟨ps ++ [(D9, W / [x, y, z].getD (i : Int).toNat 0, (i : Int))], by rw [List.map_append]; rfl, by rw [List.map_append, hps, List.range_succ, List.map_append]; rfl, t2_snoc hT, hi⟩
  · rintro H D C h tk m₁ vs₁ k₁ news₁ hD hDC ⟨ps, rfl, hps, hT, _⟩ hnD F3 N3
    refine ⟨_, F2.ns, led_ne F2 N3, fun h' tk' hns hk hl => ?_⟩
    obtain ⟨F4, N4⟩ := after_comp F2 N2 (led_ne F2 N3) hns hk hl
    obtain ⟨⟨p0, x0, k0⟩, ⟨p1, x1, k1⟩, ⟨p2, x2, k2⟩, rfl⟩ : ∃ q0 q1 q2, ps = [q0, q1, q2] := by
      match ps, congrArg List.length hps with
      | [q0, q1, q2], _ => exact ⟨q0, q1, q2, rfl⟩
    have hps : [(x0, k0), (x1, k1), (x2, k2)] = [(x * y * z / x, 0), (x * y * z / y, 1), (x * y * z / z, 2)] := hps
    simp only [List.cons.injEq, Prod.mk.injEq, and_true] at hps
    obtain ⟨⟨rfl, rfl⟩, ⟨rfl, rfl⟩, ⟨rfl, rfl⟩⟩ := hps
    have hw := pb3 hx hy hz
    have e1 := hT _ (.head _)
    have e2 := hT _ (.tail _ (.head _))
    have e3 := hT _ (.tail _ (.tail _ (.head _)))
    obtain ⟨t0, u0, n0, e1⟩ := e1
    obtain ⟨t1, u1, n1, e2⟩ := e2
    obtain ⟨t2, u2, n2, e3⟩ := e3
    have hcl : ∀ p ∈ [(L + 1 + 1, ow), (L + 1, o2)], p.1 ≠ D := fun p hp => Nat.ne_of_lt (Nat.lt_trans (Heap.lt_size (N2 p hp).1) hD)
    -- the ledger, written anew: the heap's list, its three tuples, the two cells
    obtain ⟨q0, q1, q2, hq, hsm, hN⟩ : ∃ q0 q1 q2 : SQ, (sqt q0 = (p0, x * y * z / x, 0) ∧ sqt q1 = (p1, x * y * z / y, 1) ∧ sqt q2 = (p2, x * y * z / z, 2)) ∧ (∀ q ∈ [q0, q1, q2], q.1 ≠ D) ∧ News s.heap L h' ((D, W.listOf #[.ref p0, .ref p1, .ref p2] k₁) :: [(q0.1, sqo q0), (q1.1, sqo q1), (q2.1, sqo q2), (L + 1 + 1, ow), (L + 1, o2)]) := by
      refine ⟨(p0, _, _, t0, u0, n0), (p1, _, _, t1, u1, n1), (p2, _, _, t2, u2, n2), ⟨rfl, rfl, rfl⟩, ?_, ?_⟩
      · intro q hq
        simp only [List.mem_cons, List.not_mem_nil, or_false] at hq
        rcases hq with rfl | rfl | rfl
        · exact hnD _ e1
        · exact hnD _ e2
        · exact hnD _ e3
      · refine news_sub N4 fun p hp => ?_
        simp only [List.mem_cons, List.not_mem_nil, or_false] at hp
        rcases hp with rfl | rfl | rfl | rfl | rfl | rfl
        · exact List.mem_append_left _ (.head _)
        · exact List.mem_append_left _ (.tail _ e1)
        · exact List.mem_append_left _ (.tail _ e2)
        · exact List.mem_append_left _ (.tail _ e3)
        · exact List.mem_append_right _ (.head _)
        · exact List.mem_append_right _ (.tail _ (.head _))
    obtain ⟨hq0, hq1, hq2⟩ := hq
    have b0 : ∀ q ∈ [q0, q1, q2], 0 ≤ q.2.2.1 ∧ q.2.2.1 ≤ 2 := by
      intro q hq
      simp only [List.mem_cons, List.not_mem_nil, or_false] at hq
      rcases hq with rfl | rfl | rfl
      · have := congrArg (fun t => t.2.2) hq0; exact ⟨by show 0 ≤ (sqt q).2.2; rw [this]; show (0 : Int) ≤ 0; decide, by show (sqt q).2.2 ≤ 2; rw [this]; show (0 : Int) ≤ 2; decide⟩
      · have := congrArg (fun t => t.2.2) hq1; exact ⟨by show 0 ≤ (sqt q).2.2; rw [this]; show (0 : Int) ≤ 1; decide, by show (sqt q).2.2 ≤ 2; rw [this]; show (1 : Int) ≤ 2; decide⟩
      · have := congrArg (fun t => t.2.2) hq2; exact ⟨by show 0 ≤ (sqt q).2.2; rw [this]; show (0 : Int) ≤ 2; decide, by show (sqt q).2.2 ≤ 2; rw [this]; show (2 : Int) ≤ 2; decide⟩
    have m0 : ∀ {q : SQ} {l : List (Addr × Obj)}, (q.1, sqo q) ∈ l → T2 l (sqt q).1 (sqt q).2.1 (sqt q).2.2 := fun h => ⟨_, _, _, h⟩
    rw [show p0 = (sqt q0).1 by rw [hq0], show p1 = (sqt q1).1 by rw [hq1], show p2 = (sqt q2).1 by rw [hq2]] at hN
    have hst : psift (sqt q0).2 (sqt q1).2 (sqt q2).2 = psift (x * y * z / x, 0) (x * y * z / y, 1) (x * y * z / z, 2) := by rw [hq0, hq1, hq2]
    have hH5 : ∀ p ∈ [(q0.1, sqo q0), (q1.1, sqo q1), (q2.1, sqo q2), (L + 1 + 1, ow), (L + 1, o2)], p.1 ≠ D := by
      intro p hp
      simp only [List.mem_cons, List.not_mem_nil, or_false] at hp
      rcases hp with rfl | rfl | rfl | rfl | rfl
      · exact hsm _ (.head _)
      · exact hsm _ (.tail _ (.head _))
      · exact hsm _ (.tail _ (.tail _ (.head _)))
      · exact hcl _ (.head _)
      · exact hcl _ (.tail _ (.head _))
    clear hT hk hl hns F3 N3 R1 hs1 hs2 dw N4 e1 e2 e3 hq0 hq1 hq2 hnD F2 N2
    have N4 := hN
    clear hN
    k_steps
    unfold Halt
    refine useN (c_heapify X T F4 N4 hH5 (m0 (.head _)) (m0 (.tail _ (.head _))) (m0 (.tail _ (.tail _ (.head _))))) ?_
    rintro v9 h9 tk9 news9 F9 N9 ⟨p9, q9⟩
    subst p9 q9
    obtain ⟨r0, r1, r2, f1, f2, f3⟩ := sift_sq q0 q1 q2
    have lcl : ∀ p ∈ [(L + 1 + 1, ow), (L + 1, o2)], p ∈ [(q0.1, sqo q0), (q1.1, sqo q1), (q2.1, sqo q2), (L + 1 + 1, ow), (L + 1, o2)] := fun p hp => .tail _ (.tail _ (.tail _ hp))
    have hin := f3 (fun q => (q.1, sqo q) ∈ [(q0.1, sqo q0), (q1.1, sqo q1), (q2.1, sqo q2), (L + 1 + 1, ow), (L + 1, o2)] ∧ 0 ≤ q.2.2.1 ∧ q.2.2.1 ≤ 2) ⟨.head _, b0 _ (.head _)⟩ ⟨.tail _ (.head _), b0 _ (.tail _ (.head _))⟩ ⟨.tail _ (.tail _ (.head _)), b0 _ (.tail _ (.tail _ (.head _)))⟩
    have N10 : News s.heap L h9 ((D, W.listOf #[.ref r0.1, .ref r1.1, .ref r2.1] k₁) :: [(r0.1, sqo r0), (r1.1, sqo r1), (r2.1, sqo r2), (L + 1 + 1, ow), (L + 1, o2)]) := by
      have N9' : News s.heap L h9 ((D, W.listOf ((sift3 (sqt q0) (sqt q1) (sqt q2)).map rf).toArray k₁) :: [(q0.1, sqo q0), (q1.1, sqo q1), (q2.1, sqo q2), (L + 1 + 1, ow), (L + 1, o2)]) := N9
      rw [f1] at N9'
      refine news_sub N9' fun p hp => ?_
      rcases List.mem_cons.mp hp with rfl | hp
      · exact .head _
      · refine .tail _ ?_
        rcases List.mem_cons.mp hp with rfl | hp
        · exact hin.1.1
        · rcases List.mem_cons.mp hp with rfl | hp
          · exact hin.2.1.1
          · rcases List.mem_cons.mp hp with rfl | hp
            · exact hin.2.2.1
            · exact lcl _ hp
    have hgo : spRow (x * y * z) x y z (x + y + z).toNat ((sqt r0).2, (sqt r1).2, (sqt r2).2) = spread x y z := by
      unfold spread; rw [← hst, f2]
    have hbb : ∀ q ∈ [r0, r1, r2], (0 ≤ q.2.2.1 ∧ q.2.2.1 ≤ 2) ∧ q.1 ≠ D := by
      intro q hq
      simp only [List.mem_cons, List.not_mem_nil, or_false] at hq
      rcases hq with rfl | rfl | rfl
      · exact ⟨hin.1.2, hH5 _ hin.1.1⟩
      · exact ⟨hin.2.1.2, hH5 _ hin.2.1.1⟩
      · exact ⟨hin.2.2.2, hH5 _ hin.2.2.1⟩
    have hs9 := fun q (h : q ∈ [r0, r1, r2]) => (hbb q h)
    clear N9 N4 F4 hin f1 f2 f3 hst b0 hsm hH5 lcl
    k_steps
    rename_i la hb lf hl1 F5 N5
    have hcd : L + 1 + 1 ≠ D ∧ L + 1 ≠ D ∧ L + 1 + 1 ≠ la ∧ L + 1 ≠ la := ⟨hcl _ (.head _), hcl _ (.tail _ (.head _)), Nat.ne_of_lt lf.2.2.2.2.1, Nat.ne_of_lt lf.2.2.2.2.2⟩
    have hDl : D ≠ la := Nat.ne_of_lt lf.1
    have hf0 : ∀ q ∈ [r0, r1, r2], (0 ≤ q.2.2.1 ∧ q.2.2.1 ≤ 2) ∧ q.1 ≠ D ∧ q.1 ≠ la := by
      intro q hq
      refine ⟨(hbb q hq).1, (hbb q hq).2, ?_⟩
      simp only [List.mem_cons, List.not_mem_nil, or_false] at hq
      rcases hq with rfl | rfl | rfl
      · exact Nat.ne_of_lt lf.2.1
      · exact Nat.ne_of_lt lf.2.2.1
      · exact Nat.ne_of_lt lf.2.2.2.1
    unfold Halt
    refine' ksw_while (σ := SQ × SQ × SQ × List Value × Nat × List Int) (fun c => (la, W.listOf c.2.2.2.1.toArray c.2.2.2.2.1) :: (D, W.listOf #[.ref c.1.1, .ref c.2.1.1, .ref c.2.2.1.1] k₁) :: [(c.1.1, sqo c.1), (c.2.1.1, sqo c.2.1), (c.2.2.1.1, sqo c.2.2.1), (L + 1 + 1, ow), (L + 1, o2)]) (fun _ => [])
      (fun c => IntsAre c.2.2.2.1 c.2.2.2.2.2 ∧ ∀ q ∈ [c.1, c.2.1, c.2.2.1], (0 ≤ q.2.2.1 ∧ q.2.2.1 ≤ 2) ∧ q.1 ≠ D ∧ q.1 ≠ la) [Str.ofString "size", Str.ofString "letter"]
      (fun c => c.2.2.2.2.2.length ≤ (x + y + z).toNat ∧ c.2.2.2.2.2 ++ spRow (x * y * z) x y z ((x + y + z).toNat - c.2.2.2.2.2.length) ((sqt c.1).2, (sqt c.2.1).2, (sqt c.2.2.1).2) = spread x y z) (fun c => (x + y + z).toNat - c.2.2.2.2.2.length)
      (r0, r1, r2, [], 0, []) F5 N5 ?a1 ?a2 ?a3 ?a4 ?a5
    case a5 => passes_own
    case a1 => exact ⟨IntsAre.nil, hf0⟩
    case a2 => exact fun p hp => nomatch hp
    case a3 => exact ⟨Nat.zero_le _, hgo⟩
    case a4 =>
      clear hgo hbb hs9 hf0 N5 F5
      rintro ⟨⟨p0, x0, k0, t0, u0, n0⟩, ⟨p1, x1, k1, t1, u1, n1⟩, ⟨p2, x2, k2, t2, u2, n2⟩, vs, nn, ns⟩ u h tk ⟨hI, hT⟩ ⟨hn1, hn2⟩ F6 N6
      dsimp only [sqo, sqt] at hI hT hn1 hn2 F6 N6
      obtain ⟨⟨ka0, kb0⟩, kc0, kd0⟩ := hT _ (.head _)
      obtain ⟨⟨ka1, kb1⟩, kc1, kd1⟩ := hT _ (.tail _ (.head _))
      obtain ⟨⟨ka2, kb2⟩, kc2, kd2⟩ := hT _ (.tail _ (.tail _ (.head _)))
      dsimp only at ka0 kb0 kc0 kd0 ka1 kb1 kc1 kd1 ka2 kb2 kc2 kd2
      have hsh := sh3_b ka0 kb0 hx hy hz
      have hlen := hI.length
      have hsz : vs.toArray.size ≤ sizeLine := by rw [List.size_toArray, sizeLine_eq]; omega
      clear hT
      k_steps
      · unfold Halt
        rename_i D9 h9 F9 N9 l9
        obtain ⟨ta, na, hN9⟩ : ∃ ta na, News s.heap L h9 ((D9, sqo (D9, x0 + 2 * (x * y * z) / [x, y, z].getD k0.toNat 0, k0, ta, u0, na)) :: (la, W.listOf vs.toArray nn) :: (D, W.listOf #[.ref p0, .ref p1, .ref p2] k₁) :: (p0, sqo (p0, x0, k0, t0, u0, n0)) :: (p1, sqo (p1, x1, k1, t1, u1, n1)) :: (p2, sqo (p2, x2, k2, t2, u2, n2)) :: [(L + 1 + 1, ow), (L + 1, o2)]) := ⟨_, _, N9⟩
        clear N9
        obtain ⟨le1, le2, le3, le4, le5, le6, le7⟩ := l9
        have hHd : ∀ p ∈ (D9, sqo (D9, x0 + 2 * (x * y * z) / [x, y, z].getD k0.toNat 0, k0, ta, u0, na)) :: (la, W.listOf vs.toArray nn) :: (p0, sqo (p0, x0, k0, t0, u0, n0)) :: (p1, sqo (p1, x1, k1, t1, u1, n1)) :: (p2, sqo (p2, x2, k2, t2, u2, n2)) :: [(L + 1 + 1, ow), (L + 1, o2)], p.1 ≠ D := by
          intro p hp
          simp only [List.mem_cons, List.not_mem_nil, or_false] at hp
          rcases hp with rfl | rfl | rfl | rfl | rfl | rfl | rfl
          · exact Nat.ne_of_gt le2
          · exact Ne.symm hDl
          · exact kc0
          · exact kc1
          · exact kc2
          · exact hcd.1
          · exact hcd.2.1
        refine useN (c_heapreplace X T F9 (news_rot3 hN9) hHd ⟨_, _, _, .head _⟩ ⟨_, _, _, .tail _ (.tail _ (.tail _ (.head _)))⟩ ⟨_, _, _, .tail _ (.tail _ (.tail _ (.tail _ (.head _))))⟩) ?_
        rintro v9 h10 tk10 news10 F10 N10 ⟨pv, qv⟩
        subst pv qv
        obtain ⟨r0, r1, r2, f1, f2, f3⟩ := sift_sq (D9, x0 + 2 * (x * y * z) / [x, y, z].getD k0.toNat 0, k0, ta, u0, na) (p1, x1, k1, t1, u1, n1) (p2, x2, k2, t2, u2, n2)
        have f4 := f3 (fun q => (q.1, sqo q) ∈ (D9, sqo (D9, x0 + 2 * (x * y * z) / [x, y, z].getD k0.toNat 0, k0, ta, u0, na)) :: (la, W.listOf vs.toArray nn) :: (p0, sqo (p0, x0, k0, t0, u0, n0)) :: (p1, sqo (p1, x1, k1, t1, u1, n1)) :: (p2, sqo (p2, x2, k2, t2, u2, n2)) :: [(L + 1 + 1, ow), (L + 1, o2)] ∧ (0 ≤ q.2.2.1 ∧ q.2.2.1 ≤ 2) ∧ q.1 ≠ D ∧ q.1 ≠ la)
          ⟨.head _, ⟨ka0, kb0⟩, Nat.ne_of_gt le2, Nat.ne_of_gt le1⟩ ⟨.tail _ (.tail _ (.tail _ (.head _))), ⟨ka1, kb1⟩, kc1, kd1⟩ ⟨.tail _ (.tail _ (.tail _ (.tail _ (.head _)))), ⟨ka2, kb2⟩, kc2, kd2⟩
        obtain ⟨g0, g1, g2⟩ := f4
        have N11 : News s.heap L h10 ((la, W.listOf vs.toArray nn) :: (D, W.listOf #[.ref r0.1, .ref r1.1, .ref r2.1] k₁) :: (r0.1, sqo r0) :: (r1.1, sqo r1) :: (r2.1, sqo r2) :: (L + 1 + 1, ow) :: (L + 1, o2) :: [(p0, ({ cls := .type "tuple", data := .seq #[.int x0 t0, .int k0 u0] n0 } : Obj))]) := by
          have N10' : News s.heap L h10 ((D, W.listOf ((sift3 (sqt (D9, x0 + 2 * (x * y * z) / [x, y, z].getD k0.toNat 0, k0, ta, u0, na)) (sqt (p1, x1, k1, t1, u1, n1)) (sqt (p2, x2, k2, t2, u2, n2))).map rf).toArray k₁) :: _) := N10
          rw [f1] at N10'
          refine news_sub N10' fun p hp => ?_
          simp only [List.mem_cons, List.not_mem_nil, or_false] at hp
          rcases hp with rfl | rfl | rfl | rfl | rfl | rfl | rfl | rfl
          · exact .tail _ (.tail _ (.head _))
          · exact .head _
          · exact .tail _ g0.1
          · exact .tail _ g1.1
          · exact .tail _ g2.1
          · exact .tail _ (.tail _ (.tail _ (.tail _ (.tail _ (.tail _ (.head _))))))
          · exact .tail _ (.tail _ (.tail _ (.tail _ (.tail _ (.tail _ (.tail _ (.head _)))))))
          · exact .tail _ (.tail _ (.tail _ (.head _)))
        have hla : ∀ p ∈ (D, W.listOf #[.ref r0.1, .ref r1.1, .ref r2.1] k₁) :: (r0.1, sqo r0) :: (r1.1, sqo r1) :: (r2.1, sqo r2) :: (L + 1 + 1, ow) :: (L + 1, o2) :: [(p0, ({ cls := .type "tuple", data := .seq #[.int x0 t0, .int k0 u0] n0 } : Obj))], p.1 ≠ la := by
          intro p hp
          simp only [List.mem_cons, List.not_mem_nil, or_false] at hp
          rcases hp with rfl | rfl | rfl | rfl | rfl | rfl | rfl
          · exact hDl
          · exact g0.2.2.2
          · exact g1.2.2.2
          · exact g2.2.2.2
          · exact hcd.2.2.1
          · exact hcd.2.2.2
          · exact kd0
        have hlt : (ns.length : Int) < x + (y + (z + 0)) := by assumption
        clear N10 hN9 hHd f1 f3
        k_steps
        rename Fr _ _ _ _ => F12
        rename News _ _ _ _ => N12
        unfold Halt
        simp only [List.push_toArray] at N12
        have hsp : spRow (x * y * z) x y z ((x + y + z).toNat - ns.length) ((x0, k0), (x1, k1), (x2, k2)) = k0 :: spRow (x * y * z) x y z ((x + y + z).toNat - (ns ++ [k0]).length) ((sqt r0).2, (sqt r1).2, (sqt r2).2) := by
          have e : (x + y + z).toNat - ns.length = ((x + y + z).toNat - (ns ++ [k0]).length) + 1 := by rw [List.length_append, List.length_singleton]; omega
          rw [e, spRow, ← f2]
          rfl
        have ef : IntsAre (vs ++ [.int k0 u0]) (ns ++ [k0]) := intsAre_snoc hI
        have e1 : (ns ++ [k0]).length ≤ (x + y + z).toNat := by rw [List.length_append, List.length_singleton]; omega
        have e2 : (x + y + z).toNat - (ns ++ [k0]).length < (x + y + z).toNat - ns.length := by rw [List.length_append, List.length_singleton]; omega
        rw [hsp, List.append_cons] at hn2
        have ev : ∀ q ∈ [r0, r1, r2], (0 ≤ q.2.2.1 ∧ q.2.2.1 ≤ 2) ∧ q.1 ≠ D ∧ q.1 ≠ la := by
          intro q hq
          simp only [List.mem_cons, List.not_mem_nil, or_false] at hq
          rcases hq with rfl | rfl | rfl
          · exact g0.2
          · exact g1.2
          · exact g2.2
        refine ksw_end ((r0, r1, r2, vs ++ [.int k0 u0], nn + 1, ns ++ [k0]) : SQ × SQ × SQ × List Value × Nat × List Int) F12 N12 ?hn ⟨ef, ev⟩ (fun p hp => nomatch hp) ?hr ⟨e1, hn2⟩ e2
        case hn =>
          intro p hp
          simp only [List.mem_cons, List.not_mem_nil, or_false] at hp ⊢
          rcases hp with rfl | rfl | rfl | rfl | rfl | rfl | rfl
          all_goals simp
        case hr => walk_at "m ksame"
      · rename Fr _ _ _ _ => F7
        rename News _ _ _ _ => N7
        have hge : ¬ ((ns.length : Int) < x + (y + (z + 0))) := by assumption
        have hz9 : (x + y + z).toNat - ns.length = 0 := by omega
        rw [hz9] at hn2
        have hn3 : ns = spread x y z := by rw [← hn2]; exact (List.append_nil ns).symm
        exact hret _ _ _ F7.keep (NewInts.mk N7 (.head _) (hn3 ▸ hI))


theorem none_P1 : True := by
  k_with_none
  trivial
theorem words_LP1_1 : True := by
  k_with "call type:type" => (((with_reducible show wpAny _ _ (call _ [Value.bytes _ _]) _ _ _); refine call_type_of (Tx := "bytes") rfl (by decide +kernel) ?_))
  k_with "m dec" => (first | omega | (simp only [decide_eq_true_eq, decide_eq_false_iff_not, Bool.not_eq_true, beq_iff_eq, beq_eq_false_iff_ne, ne_eq, Bool.not_eq_true', Bool.not_eq_false'] ; omega))
  k_with "ite" => ((k_openite; first | (refine ite_pos (by walk_at "m dec") ?_) | (refine ite_neg (by walk_at "m dec") ?_)))
  k_with "m upd" => (first | exact Upd.head (List.forall_mem_nil _) | exact Upd.head (by assumption) | (refine Upd.tail (by first | assumption | (refine neN ?_; omega)) ?_; walk_at "m upd"))
  k_with "m same" => ((intro z h1 h2 h3; (simp only [List.forall_mem_cons, List.not_mem_nil, false_implies, implies_true, and_true, ne_eq] at h2); (try simp only [List.contains_cons, List.contains_nil, Bool.or_false, Bool.or_eq_false_iff, beq_eq_false_iff_ne, ne_eq] at h3); (simp [kstB, h1, h2, h3]; done)))
  k_with "call builtin:list.append" => (((with_reducible show wpAny _ _ (call (Value.builtin _) [Value.ref _, _]) _ _ _); (refine' append_K ?k1 ?k2 ?k3 ?_ ?z; (case k1 => assumption); (case k2 => assumption); (case k3 => walk_at "m upd"); (case z => first | assumption | exact (by assumption : ∀ x : Value, _) _)); intro h9 F9 N9; (try k_sweep)))
  k_with "m ksame" => ((intro z h2 h3; (simp only [List.forall_mem_cons, List.not_mem_nil, false_implies, implies_true, and_true, ne_eq] at h2); (try simp only [List.contains_cons, List.contains_nil, Bool.or_false, Bool.or_eq_false_iff, beq_eq_false_iff_ne, ne_eq] at h3); (simp [kstB, h2, h3]; done)))
  trivial

def placesN (rw : List Int) (l : Int) (n : Nat) : List Int := ((List.range n).filter (fun i => rw.getD i 0 == l)).map (fun i : Nat => (i : Int))
def places (rw : List Int) (l : Int) : List Int := placesN rw l rw.length
def shG (x y z l : Int) : Int := [x, y, z].getD l.toNat 0
def putStep (x y z R : Int) (rw : List Int) (c : Int × List Int) (l : Int) : Int × List Int :=
  if 64 * R * shG x y z l ≤ c.1 then ((rw.length : Int) * (c.1 / 64 / shG x y z l) + (places rw l).getD (c.1 / 64 % shG x y z l).toNat 0, c.1 % 64 :: c.2)
  else ((rw.length : Int) * (c.1 / shG x y z l) + (places rw l).getD (c.1 % shG x y z l).toNat 0, c.2)
def put (x y z R : Int) (rw : List Int) (st : Int) (ls : List Int) : Int × List Int := ls.reverse.foldl (putStep x y z R rw) (st, [])
def RowOk (x y z : Int) (rw : List Int) : Prop := (rw.length : Int) = x + y + z ∧ ∀ l, 0 ≤ l → l ≤ 2 → ((places rw l).length : Int) = shG x y z l
theorem placesN_succ (rw : List Int) (l : Int) (n : Nat) : placesN rw l (n + 1) = if rw.getD n 0 == l then placesN rw l n ++ [(n : Int)] else placesN rw l n := by
  unfold placesN
  rw [List.range_succ, List.filter_append, List.map_append]
  cases h : rw.getD n 0 == l with
  | true => rw [List.filter_cons, h]; rfl
  | false => rw [List.filter_cons, h]; exact List.append_nil _
theorem placesN_yes {rw : List Int} {l : Int} {n : Nat} (h : rw.getD n 0 = l) : placesN rw l (n + 1) = placesN rw l n ++ [(n : Int)] := by
  rw [placesN_succ, if_pos (by rw [h]; exact beq_self_eq_true l)]
theorem placesN_no {rw : List Int} {l : Int} {n : Nat} (h : rw.getD n 0 ≠ l) : placesN rw l (n + 1) = placesN rw l n := by
  rw [placesN_succ, if_neg (by rw [beq_iff_eq]; exact h)]
theorem placesN_len (rw : List Int) (l : Int) (n : Nat) : (placesN rw l n).length ≤ n := by
  unfold placesN
  rw [List.length_map]
  exact Nat.le_trans (List.length_filter_le _ _) (Nat.le_of_eq List.length_range)
theorem putStep_is {x y z R q q1 l : Int} {rw fs fs1 : List Int} (h1 : 64 * R * shG x y z l ≤ q → q1 = q / 64 ∧ fs1 = q % 64 :: fs) (h2 : ¬ 64 * R * shG x y z l ≤ q → q1 = q ∧ fs1 = fs) :
    putStep x y z R rw (q, fs) l = ((rw.length : Int) * (q1 / shG x y z l) + (places rw l).getD (q1 % shG x y z l).toNat 0, fs1) := by
  unfold putStep
  by_cases h : 64 * R * shG x y z l ≤ q
  · obtain ⟨rfl, rfl⟩ := h1 h
    exact if_pos h
  · obtain ⟨rfl, rfl⟩ := h2 h
    exact if_neg h
theorem sh_b {x y z k : Int} (h0 : 0 ≤ k) (h2 : k ≤ 2) (hx : 1 ≤ x ∧ x ≤ 5) (hy : 1 ≤ y ∧ y ≤ 5) (hz : 1 ≤ z ∧ z ≤ 5) : 1 ≤ [x, y, z].getD k.toNat 0 ∧ [x, y, z].getD k.toNat 0 ≤ 5 := by
  obtain rfl | rfl | rfl : k = 0 ∨ k = 1 ∨ k = 2 := by omega
  · exact hx
  · exact hy
  · exact hz

theorem words_P1_1 : True := by
  k_with "eval Name" => (((with_reducible show wpAny _ _ (eval (PySem.Expr.Name _ _) (compEnvC _ _ _ _)) _ _ _); (first
    | k_dflt (refine' nameE_L ?k1 ?k2 ?k3 ?_ ?k4 ?k5 ?k6; (case k5 => exact rfl); (case k1 => assumption); (case k2 => exact rfl); (case k3 => exact rfl); (case k4 => exact rfl); (case k6 => decide))
    | k_dflt (refine' nameE_C ?k1 ?k2 ?k3 ?_ ?k4 ?k5 ?k6; (case k5 => exact rfl); (case k1 => assumption); (case k2 => exact rfl); (case k3 => assumption); (case k4 => exact rfl); (case k6 => decide))
    | k_dflt (refine' nameE_K ?k1 ?k2 ?k3 ?e ?_ ?kg ?k4 ?k5 ?k6; (case k5 => exact rfl); (case k1 => assumption); (case k2 => assumption); (case k3 => assumption); (case e => k_is); (case kg => exact rfl); (case k4 => exact rfl); (case k6 => decide))
    | k_dflt (refine' nameE_B ?k1 ?k2 ?k3 ?e ?b ?n ?_ ?kg ?kb ?k4 ?k5 ?k6; (case k5 => exact rfl); (case k1 => assumption); (case k2 => assumption); (case k3 => assumption); (case e => k_is); (case b => boot_by_name); (case n => decide); (case kg => exact rfl); (case kb => exact rfl); (case k4 => exact rfl); (case k6 => decide)))))
  k_with "call builtin:list.insert" => (((with_reducible show wpAny _ _ (call (Value.builtin _) [Value.ref _, Value.int 0 _, _]) _ _ _); (refine' kl_insert ?F ?N rfl (kl_ins0 _ _) ?U ?z ?_; (case F => assumption); (case N => assumption); (case U => walk_at "m upd"); (case z => assumption)); intro h9 F9 N9; (try k_sweep)))
  k_with "binaryOp FloorDiv int int" => (((with_reducible show wpAny _ _ (binaryOp _ (Value.int _ _) (Value.int _ _)) _ _ _); k_dflt (refine fdiv_e (by first | assumption | decide | omega) ?_)))
  k_with "binaryOp Mod int int" => (((with_reducible show wpAny _ _ (binaryOp _ (Value.int _ _) (Value.int _ _)) _ _ _); k_dflt (refine mod_e (by first | decide | assumption | omega) ?_)))
  k_with "binaryOp Mult int int" => (((with_reducible show wpAny _ _ (binaryOp _ (Value.int _ _) (Value.int _ _)) _ _ _); (first | k_dflt (refine mul_r (by decide) ?_) | k_dflt (refine mul_e (by first | decide | assumption | omega) ?_))))
  k_with "call builtin:len" => (((with_reducible show wpAny _ _ (call (Value.builtin "len") [Value.ref _]) _ _ _); (refine' lenL ?k1 ?k2 ?k3 ?_; (case k1 => is_list); (case k2 => assumption); (case k3 => assumption))))
  k_with "subscriptTail" => (((with_reducible show wpAny _ _ (subscriptTail _ _ (Value.ref _) (Value.int _ _)) _ _ _); (refine' itemL ?k1 ?k2 ?k3 ?k4 ?_ ?k6; (case k1 => is_list); (case k2 => assumption); (case k3 => assumption); (case k4 => assumption); (case k6 => with_unfolding_all rfl)); intro t9))
  k_with "exec While Compare cons nil" => (refine haltQ ?_)
  k_with "exec While" => (refine haltQ ?_)
  k_with "KswPost" => (refine haltQ ?_)
  k_with "pyIter ref" => (refine haltQ ?_)
  k_with "exec Assign cons ListComp" => (refine haltQ ?_)
  k_with "EEnd" => (refine haltQ ?_)
  k_with "InvPostN" => (refine haltQ ?_)
  k_with "exec If" => (refine haltQ ?_)
  k_with "exec For Name" => (refine haltQ ?_)
  k_with "exec For Name Name" => (refine haltQ ?_)
  k_with "exec For Name Subscript" => (refine haltQ ?_)
  trivial
theorem c_put {w : World} {mean : ExcName → Option Value} {mg mb : Str → Option Value} {s : Shared} {r a l : Addr} {vr va vl : List Value} {x y z R st : Int} {rw ls : List Int} {t1 t2 : Tok}
    (X : (Mine.hd.heap_39 w.params).In s.heap) (T : Top Vw Ls mean mg mb s.heap) (hr : s.heap.IsList r vr.toArray) (hir : IntsAre vr rw) (ha : s.heap.IsList a va.toArray) (hia : IntsAre va [x, y, z]) (hl : s.heap.IsList l vl.toArray) (hil : IntsAre vl ls)
    (hx : 1 ≤ x ∧ x ≤ 5) (hy : 1 ≤ y ∧ y ≤ 5) (hz : 1 ≤ z ∧ z ≤ 5) (hR : 1 ≤ R ∧ R ≤ 7) (hrw : RowOk x y z rw) (hls : ∀ k ∈ ls, 0 ≤ k ∧ k ≤ 2) (hlen : ls.length ≤ 7000000) :
    Ctr w s 850 8500 (.ref 166) [.ref r, .ref a, .int R t1, .int st t2, .ref l] [] (fun v h' => ∃ p q t vs n k, v = .ref p ∧ s.heap.get? p = none ∧ s.heap.get? q = none ∧ h'.get? p = some { cls := .type "tuple", data := .seq #[.int (put x y z R rw st ls).1 t, .ref q] n } ∧ h'.get? q = some (W.listOf vs.toArray k) ∧ IntsAre vs (put x y z R rw st ls).2) := by
  have hrz : rw.length ≤ 16777216 := by have := hrw.1; omega
  have hrz1 : rw.length ≤ 1000 := by have := hrw.1; omega
  intro Q E hret
  refine wpAny_call ?_
  refine' enterC (binds := [(Str.ofString "row", .ref r), (Str.ofString "shares", .ref a), (Str.ofString "rounds", .int R t1), (Str.ofString "state", .int st t2), (Str.ofString "letters", .ref l)]) X T ?k6 ?k7 ?k8 ?k9 ?kB ?kD ?_ ?c2 ?c3 ?c4
  (case k6 => k_is)
  (case k7 => k_is)
  (case k8 => decide)
  (case k9 => exact BindsTo.of_eq rfl)
  (case kB => exact rfl)
  (case kD => decide +kernel)
  (case c2 => exact rfl)
  (case c3 => exact rfl)
  (case c4 => exact rfl)
  intro L h tk cells F N Y
  have hY := CellsAre.two Y
  obtain ⟨o1, o2, hE, d1, d2⟩ := hY
  subst hE
  have c2 : o2.data = .cell (some (.ref r)) := d2
  have c1 : o1.data = .cell none := d1
  clear Y d1 d2
  k_unmd
  refine stopQ ?_
  k_fold
  k_steps
  rename_i la hb lf hl1 F5 N5
  unfold Halt
  refine wpAny_For ?_
  k_steps
  rename Fr _ _ _ _ => F6
  rename News _ _ _ _ => N6
  rename_i lr ws hh6 hI6 hC6 lf6
  unfold Halt
  have hlr := (N6 _ (.head _)).1
  have hF6 : @LT.lt Nat _ L lr := Nat.lt_trans (Nat.lt_succ_self L) lf6.2.2
  refine forListS (σ := Int × Tok × List Value × Nat × List Int × Obj) (fun c => [(la, W.listOf c.2.2.1.toArray c.2.2.2.1), (L + 1 + 1, c.2.2.2.2.2), (L + 1, o2)]) (fun c => [(Str.ofString "state", .int c.1 c.2.1)]) [Str.ofString "places"]
    (fun i c => IntsAre c.2.2.1 c.2.2.2.2.1 ∧ (∃ v, c.2.2.2.2.2.data = .cell v) ∧ (c.1, c.2.2.2.2.1) = (ls.reverse.take i).foldl (putStep x y z R rw) (st, []) ∧ c.2.2.2.2.1.length ≤ i) (st, t2, [], 0, [], o1)
    ⟨_, hlr, rfl, 0, rfl⟩ (Nat.ne_of_gt hF6) F6 (pick0 N6 [1, 2, 3]) (NeAll.out ⟨Nat.ne_of_lt lf6.1, Nat.ne_of_lt lf6.2.1, Nat.ne_of_lt lf6.2.2, trivial⟩) (fun _ => rfl) ?hk ⟨.nil, ⟨_, c1⟩, rfl, Nat.le_refl _⟩ ?_ ?_ ?hh
  case hh => rfl
  case hk => kst_all
  · rintro i v ⟨q, tq, vs, k, fs, oL⟩ u h tk own hi hv ⟨hI, ⟨cv, hcv⟩, hput, hfl⟩ F7 N7 hown
    dsimp only at hI hcv hput hfl F7 N7
    obtain ⟨lt, tl, rfl, hlt⟩ := intsAre_at hI6 hv
    have hl0 := hls lt (List.mem_reverse.mp (List.mem_of_getElem? hlt))
    have hsh := sh_b hl0.1 hl0.2 hx hy hz
    have hc3 : ∀ p ∈ (L + 1 + 1, oL) :: (L + 1, o2) :: own, p.1 ≠ la := List.forall_mem_cons.mpr ⟨Nat.ne_of_lt lf.1, List.forall_mem_cons.mpr ⟨Nat.ne_of_lt lf.2, fun p hp => hown p hp _ (.head _)⟩⟩
    have hc4 : ∀ p ∈ (L + 1, o2) :: own, p.1 ≠ L + 1 + 1 := List.forall_mem_cons.mpr ⟨Nat.ne_of_lt (Nat.lt_succ_self _), fun p hp => hown p hp _ (.tail _ (.head _))⟩
    have hil' : i < ls.length := by rw [← hC6, ← hI6.length]; rw [List.size_toArray] at hi; exact hi
    have hsz : vs.toArray.size ≤ sizeLine := sz_le (k := 7000000) (by rw [hI.length]; omega)
    clear N6 F6
    rw [List.cons_append, List.cons_append, List.cons_append, List.nil_append] at N7
    change Fr s.heap L h _ at F7
    change News s.heap L h _ at N7
    refine wpAny_assign_Name (storeX_C F7 N7 rfl (UpdF.tail (Nat.ne_of_gt lf.1) (UpdF.head hc4)) hcv ?_)
    intro h8 oL8 F8 N8 d8
    clear F7 N7
    have hc5 : ∀ p ∈ (L + 1 + 1, oL8) :: (L + 1, o2) :: own, p.1 ≠ la := List.forall_mem_cons.mpr ⟨Nat.ne_of_lt lf.1, fun p hp => hc3 p (.tail _ hp)⟩
    clear hc3 hc4
    k_unmd
    k_fold
    k_steps
    unfold Halt
    refine wp_join (Str.ofString "state") (fun q' vs' fs' => IntsAre vs' fs' ∧ (64 * R * [x, y, z].getD lt.toNat 0 ≤ q → q' = q / 64 ∧ fs' = q % 64 :: fs) ∧ (¬ 64 * R * [x, y, z].getD lt.toNat 0 ≤ q → q' = q ∧ fs' = fs)) (fun vs' k' => (la, W.listOf vs'.toArray k') :: (L + 1 + 1, oL8) :: (L + 1, o2) :: own) F8 ?_ ?_
    · refine wpAny_If ?_
      k_steps
      · rename Fr _ _ _ _ => F9
        rename News _ _ _ _ => N9
        exact ⟨rfl, _, _, _, _, q % 64 :: fs, _, _, rfl, ⟨.cons _ _ hI, fun _ => ⟨rfl, rfl⟩, fun c => absurd (by assumption) c⟩, F9, N9⟩
      · exact ⟨rfl, q, tq, vs, k, fs, _, _, rfl, ⟨hI, fun c => absurd c (by assumption), fun _ => ⟨rfl, rfl⟩⟩, fr_same F8 rfl, N8⟩
    · rintro q1 tq1 vs1 k1 fs1 h9 tk9 ⟨hI1, hq1, hq2⟩ F9 N9
      clear F8 N8
      k_steps
      unfold Halt
      refine comp_assign rfl rfl (by decide) rfl (by decide) rfl rfl ?_
      k_steps
      rename IsRange _ _ _ _ _ _ _ _ => R1
      rename Fr _ _ _ _ => F2
      rename News _ _ _ _ => N2
      unfold Halt
      have hsL := (N2 _ (.tail _ (.head _))).1
      have hsR := (N2 _ (.tail _ (.tail _ (.head _)))).1
      refine rangeSrc (s := { s with heap := _, toks := _ }) (news₀ := []) rw.length R1 ?hb ?hsm _ (fun i _ us ns => IntsAre us (placesN rw lt i) ∧ ns = []) rfl rfl (Ext.refl _) (Nat.le_refl _) (fun _ h => nomatch h) (fun _ => ⟨.nil, rfl⟩) (fun _ _ _ => turn_if) ?_ ?_ ?hh
      case hh => rfl
      case hb => rfl
      case hsm => exact hrz1
      · rintro D C i2 tv h' tk' m₁ us k₁ news₁ own2 hD hi2 ⟨hj, rfl⟩ hnf hown2 hnD F3 N3
        have X3 := Frag.In.keeps X F2.keep
        have T3 := Top.keeps T F2.keep
        have hr3 := hr.at fun o e => F2.keep _ o e
        have hc1 : Heap.IsCell _ (L + 1 + 1) (some (.int lt tl)) := ⟨_, hsL, d8⟩
        have hc2 : Heap.IsCell _ (L + 1) (some (.ref r)) := ⟨_, hsR, c2⟩
        clear R1 hsL hsR F2 N2
        unfold ifB
        k_steps
        · have e : rw.getD (i2 : Int).toNat 0 = lt := by assumption
          refine body_elt (k := k₁) (by rw [hj.length]; exact Nat.le_trans (placesN_len _ _ _) (by omega)) hnD ?_
          k_steps
          exact ⟨h', tk', _, [], rfl, F3, N3, hnf, List.forall_mem_nil _, (placesN_yes e).symm ▸ intsAre_snoc hj, rfl⟩
        · have e : rw.getD (i2 : Int).toNat 0 ≠ lt := by assumption
          exact ⟨h', tk', _, us, k₁, [], rfl, F3, N3, hnf, List.forall_mem_nil _, (placesN_no e).symm ▸ hj, rfl⟩
      · rintro H D C h' tk' m₁ us k₁ news₁ hD hDC ⟨hj, rfl⟩ hnD F3 N3
        refine ⟨_, F2.ns, led_ne F2 N3, fun h' tk' hns hk hl => ?_⟩
        obtain ⟨F4, N4⟩ := after_comp F2 N2 (led_ne F2 N3) hns hk hl
        have N5 := pick N4 [1, 2, 3, 0] 4
        change News s.heap L h' ((la, W.listOf vs1.toArray k1) :: (L + 1 + 1, oL8) :: (L + 1, o2) :: (D, W.listOf us.toArray k₁) :: own) at N5
        have hpl := hrw.2 lt hl0.1 hl0.2
        have hb1 : 0 ≤ q1 % [x, y, z].getD lt.toNat 0 ∧ q1 % [x, y, z].getD lt.toNat 0 < ((placesN rw lt rw.length).length : Int) := ⟨Int.emod_nonneg _ (by omega), by rw [show ((placesN rw lt rw.length).length : Int) = [x, y, z].getD lt.toNat 0 from hpl]; exact Int.emod_lt_of_pos _ (by omega)⟩
        have hpz : (placesN rw lt rw.length).length ≤ 16777216 := Nat.le_trans (placesN_len _ _ _) hrz
        clear hk hl hns F3 N3 R1 hsL hsR N4 F2 N2
        k_steps
        rename Fr _ _ _ _ => F5
        rename News _ _ _ _ => N6
        have hst := putStep_is (rw := rw) hq1 hq2
        have hfl1 : fs1.length ≤ i + 1 := by
          by_cases h : 64 * R * [x, y, z].getD lt.toNat 0 ≤ q
          · rw [(hq1 h).2]; exact Nat.succ_le_succ hfl
          · rw [(hq2 h).2]; exact Nat.le_succ_of_le hfl
        have hpt : ls.reverse.take (i + 1) = ls.reverse.take i ++ [lt] := by rw [List.take_add_one, hlt]; rfl
        exact ⟨(_, _, vs1, k1, fs1, oL8), _, _, _, _, rfl, F5, N6, mem_ins3, by kst_all, by walk_at "m ksame", hI1, ⟨_, d8⟩, by rw [hpt, List.foldl_append, ← hput]; exact hst.symm, hfl1⟩
  · rintro h tk ⟨q, tq, vs, k, fs, oL⟩ u ⟨hI, ⟨cv, hcv⟩, hput, hfl⟩ F7 N7
    dsimp only at hI hcv hput hfl F7 N7
    clear N6 F6
    change Fr s.heap L h _ at F7
    change News s.heap L h _ at N7
    k_unmd
    k_steps
    rename Fr _ _ _ _ => F8
    rename News _ _ _ _ => N8
    have hpe : put x y z R rw st ls = (q, fs) := by
      rw [List.size_toArray, hI6.length, List.take_length] at hput
      exact hput.symm
    have hp1 : (put x y z R rw st ls).1 = q := congrArg (·.1) hpe
    have hp2 : (put x y z R rw st ls).2 = fs := congrArg (·.2) hpe
    refine hret _ _ _ F8.keep ⟨_, la, tq, vs, 0, k, rfl, (N8 _ (.head _)).2.2, (N8 _ (.tail _ (.head _))).2.2, ?_, (N8 _ (.tail _ (.head _))).1, ?_⟩
    · rw [hp1]; exact (N8 _ (.head _)).1
    · rw [hp2]; exact hI


theorem none_T0 : True := by
  k_with_none
  trivial
theorem words_LT0_1 : True := by
  k_with "call type:type" => (((with_reducible show wpAny _ _ (call _ [Value.bytes _ _]) _ _ _); refine call_type_of (Tx := "bytes") rfl (by decide +kernel) ?_))
  k_with "m dec" => (first | omega | (simp only [decide_eq_true_eq, decide_eq_false_iff_not, Bool.not_eq_true, beq_iff_eq, beq_eq_false_iff_ne, ne_eq, Bool.not_eq_true', Bool.not_eq_false'] ; omega))
  k_with "ite" => ((k_openite; first | (refine ite_pos (by walk_at "m dec") ?_) | (refine ite_neg (by walk_at "m dec") ?_)))
  k_with "m upd" => (first | exact Upd.head (List.forall_mem_nil _) | exact Upd.head (by assumption) | (refine Upd.tail (by first | assumption | (refine neN ?_; omega)) ?_; walk_at "m upd"))
  k_with "m same" => ((intro z h1 h2 h3; (simp only [List.forall_mem_cons, List.not_mem_nil, false_implies, implies_true, and_true, ne_eq] at h2); (try simp only [List.contains_cons, List.contains_nil, Bool.or_false, Bool.or_eq_false_iff, beq_eq_false_iff_ne, ne_eq] at h3); (simp [kstB, h1, h2, h3]; done)))
  k_with "call builtin:list.append" => (((with_reducible show wpAny _ _ (call (Value.builtin _) [Value.ref _, _]) _ _ _); (refine' append_K ?k1 ?k2 ?k3 ?_ ?z; (case k1 => assumption); (case k2 => assumption); (case k3 => walk_at "m upd"); (case z => first | assumption | exact (by assumption : ∀ x : Value, _) _)); intro h9 F9 N9; (try k_sweep)))
  k_with "m ksame" => ((intro z h2 h3; (simp only [List.forall_mem_cons, List.not_mem_nil, false_implies, implies_true, and_true, ne_eq] at h2); (try simp only [List.contains_cons, List.contains_nil, Bool.or_false, Bool.or_eq_false_iff, beq_eq_false_iff_ne, ne_eq] at h3); (simp [kstB, h2, h3]; done)))
  trivial
/-- the text of digits to the base 64 -/
def txt (ds : List Int) : Str := ⟨(ds.map fun d => (b64sgn d).toNat).toArray⟩
def signs64 : Str := Str.ofString "ABCDEFGHIJKLMNOPQRSTUVWXYZabcdefghijklmnopqrstuvwxyz0123456789+/"
theorem txt_len (ds : List Int) : (txt ds).length = ds.length := by
  show (List.toArray _).size = _
  rw [List.size_toArray, List.length_map]
theorem txt_cat (a b : List Int) : txt a ++ txt b = txt (a ++ b) := by
  have e : (txt a ++ txt b).cps = (txt (a ++ b)).cps := by
    rw [Str.cps_append]
    show (List.toArray _) ++ (List.toArray _) = List.toArray _
    rw [List.append_toArray, List.map_append]
  exact congrArg Str.mk e
theorem txt_nil : Str.ofString "" = txt [] := by decide +kernel
theorem txt_join : ∀ ds : List Int, Txt.join (Str.ofString "") (ds.map fun d => txt [d]) = txt ds := by
  intro ds
  show Builtin.Str.glued (Str.ofString "") _ = _
  rw [StrLaws.glued_eq_join]
  induction ds with
  | nil => exact txt_nil
  | cons d r ih =>
    cases r with
    | nil => rfl
    | cons e r =>
      show txt [d] ++ Str.ofString "" ++ Str.join (Str.ofString "") ((e :: r).map fun d => txt [d]) = _
      rw [ih, txt_nil, txt_cat, txt_cat]
      rfl
section
variable {prog : Program} {w : World} {A : Around} {E : Value → Shared → Prop} {s : Shared} {Q : Value → Shared → Prop} {t u : Tok}
theorem addT {a b : List Int} (ha : a.length ≤ 8000000) (hb : b.length ≤ 8000000) (h : ∀ t' k, Q (.str (txt (a ++ b)) t') { s with toks := k }) : wpAny (model prog w) A (binaryOp .Add (.str (txt a) t) (.str (txt b) u)) Q E s :=
  add_str (fun t' k => by rw [txt_cat]; exact h t' k) (by rw [txt_len, txt_len, sizeLine_eq]; omega)
theorem item64 {value slice : PySem.Expr} {i : Int} (h0 : 0 ≤ i ∧ i < 64) (h : ∀ t' k, Q (.str (txt [i]) t') { s with toks := k })
    (hs : subscripted slice false (.str signs64 t) (.int i u) = operate [.str signs64 t, .int i u] (getItem (.str signs64 t) (.int i u)) := by with_unfolding_all rfl)
    (ht : ∀ r, letTemporaryGo value (.str signs64 t) r = pure () := by intro _; with_unfolding_all rfl) :
    wpAny (model prog w) A (subscriptTail value slice (.str signs64 t) (.int i u)) Q E s := by
  have hl : (signs64.length : Int) = 64 := by decide +kernel
  refine item_str (fitsSsize_of (N := 9223372036854775808) (by omega) (by omega) (Int.le_refl _)) (by omega) (by omega) (fun _ => ?_) hs ht
  obtain ⟨k, rfl, hk⟩ := nat_of (k := 64) h0.1 h0.2
  rw [(by decide +kernel : ∀ k : Nat, k < 64 → Txt.item signs64 (k : Int) = txt [(k : Int)]) k hk]
  exact h _ _
theorem rep1 {h₀ : Heap} {L l : Addr} {m : Str → Option Value} {news : List (Addr × Obj)} {n x : Int} (F : Fr h₀ L s.heap m) (N : News h₀ L s.heap news) (hl : s.heap.IsList l ([Value.int n t] : List Value).toArray) (hx : 0 ≤ x ∧ x < 3)
    (h : ∀ D vs h', Fr h₀ L h' m → News h₀ L h' ((D, W.listOf vs.toArray 0) :: news) → IntsAre vs (List.replicate x.toNat n) → Q (.ref D) { s with heap := h' }) : wpAny (model prog w) A (binaryOp .Mult (.ref l) (.int x u)) Q E s := by
  refine KMa.mul F N hl (by omega) (by omega) (by show 1 * x.toNat ≤ 256; omega) rfl fun D h' F' N' _ => h D _ h' F' N' ?_
  obtain rfl | rfl | rfl : x = 0 ∨ x = 1 ∨ x = 2 := by omega
  · exact .nil
  · exact .cons _ _ .nil
  · exact .cons _ _ (.cons _ _ .nil)
theorem strs_snoc {vs : List Value} {ys : List Str} {y : Str} {t : Tok} (h : StrsAre vs ys) : StrsAre (vs ++ [.str y t]) (ys ++ [y]) := by
  induction h with
  | nil => exact .cons _ _ .nil
  | cons y t _ ih => exact .cons _ _ ih
theorem strs_len {vs : List Value} {ys : List Str} (h : StrsAre vs ys) : vs.length = ys.length := by
  induction h with
  | nil => rfl
  | cons y t _ ih => exact congrArg Nat.succ ih
theorem sum_ones : ∀ ds : List Int, (((ds.map fun d => txt [d])).map (·.length)).sum = ds.length
  | [] => rfl
  | d :: r => by
    rw [List.map_cons, List.map_cons, List.sum_cons, sum_ones r, txt_len, List.length_cons, List.length_cons, List.length_nil]; omega
theorem joinT {D : Addr} {vs : List Value} {ds : List Int} (hl : s.heap.IsList D vs.toArray) (hi : StrsAre vs (ds.map fun d => txt [d])) (hd : ds.length ≤ 1000000) (h : ∀ t' k, Q (.str (txt ds) t') { s with toks := k }) :
    wpAny (model prog w) A (call (.builtin "str.join") [.str (Str.ofString "") t, .ref D]) Q E s :=
  join_list hl hi (by rw [sum_ones, List.length_map, show (Str.ofString "").length = 0 by decide +kernel]; omega) fun t' k => by rw [txt_join]; exact h t' k
end


theorem none_T1 : True := by
  k_with_none
  trivial
theorem words_LT1_1 : True := by
  k_with "call type:type" => (((with_reducible show wpAny _ _ (call _ [Value.bytes _ _]) _ _ _); refine call_type_of (Tx := "bytes") rfl (by decide +kernel) ?_))
  k_with "m dec" => (first | omega | (simp only [decide_eq_true_eq, decide_eq_false_iff_not, Bool.not_eq_true, beq_iff_eq, beq_eq_false_iff_ne, ne_eq, Bool.not_eq_true', Bool.not_eq_false'] ; omega))
  k_with "ite" => ((k_openite; first | (refine ite_pos (by walk_at "m dec") ?_) | (refine ite_neg (by walk_at "m dec") ?_)))
  k_with "m upd" => (first | exact Upd.head (List.forall_mem_nil _) | exact Upd.head (by assumption) | (refine Upd.tail (by first | assumption | (refine neN ?_; omega)) ?_; walk_at "m upd"))
  k_with "m same" => ((intro z h1 h2 h3; (simp only [List.forall_mem_cons, List.not_mem_nil, false_implies, implies_true, and_true, ne_eq] at h2); (try simp only [List.contains_cons, List.contains_nil, Bool.or_false, Bool.or_eq_false_iff, beq_eq_false_iff_ne, ne_eq] at h3); (simp [kstB, h1, h2, h3]; done)))
  k_with "call builtin:list.append" => (((with_reducible show wpAny _ _ (call (Value.builtin _) [Value.ref _, _]) _ _ _); (refine' append_K ?k1 ?k2 ?k3 ?_ ?z; (case k1 => assumption); (case k2 => assumption); (case k3 => walk_at "m upd"); (case z => first | assumption | exact (by assumption : ∀ x : Value, _) _)); intro h9 F9 N9; (try k_sweep)))
  k_with "m ksame" => ((intro z h2 h3; (simp only [List.forall_mem_cons, List.not_mem_nil, false_implies, implies_true, and_true, ne_eq] at h2); (try simp only [List.contains_cons, List.contains_nil, Bool.or_false, Bool.or_eq_false_iff, beq_eq_false_iff_ne, ne_eq] at h3); (simp [kstB, h2, h3]; done)))
  trivial

def q4 (t : Int) : List Int := [t / 262144 % 64, t / 4096 % 64, t / 64 % 64, t / 1 % 64]
def three (oc : List Int) (i : Nat) : Int := oc.getD (3 * (i : Int)).toNat 0 * 65536 + oc.getD (3 * (i : Int) + 1).toNat 0 * 256 + oc.getD (3 * (i : Int) + 2).toNat 0
def quadN (oc : List Int) (n : Nat) : List Int := (List.range n).flatMap fun i => q4 (three oc i)
def octets (ns : List Int) : List Int := ns.flatMap octs
def padded (oc : List Int) : List Int := List.replicate ((-(oc.length : Int)) % 3).toNat 64 ++ oc
def textOf (ns fs : List Int) : List Int := quadN (padded (octets ns)) ((padded (octets ns)).length / 3) ++ fs

theorem words_T1_1 : True := by
  k_with "eval Name" => (((with_reducible show wpAny _ _ (eval (PySem.Expr.Name _ _) (compEnvC _ _ _ _)) _ _ _); (first
    | k_dflt (refine' nameE_L ?k1 ?k2 ?k3 ?_ ?k4 ?k5 ?k6; (case k5 => exact rfl); (case k1 => assumption); (case k2 => exact rfl); (case k3 => exact rfl); (case k4 => exact rfl); (case k6 => decide))
    | k_dflt (refine' nameE_C ?k1 ?k2 ?k3 ?_ ?k4 ?k5 ?k6; (case k5 => exact rfl); (case k1 => assumption); (case k2 => exact rfl); (case k3 => assumption); (case k4 => exact rfl); (case k6 => decide))
    | k_dflt (refine' nameE_K ?k1 ?k2 ?k3 ?e ?_ ?kg ?k4 ?k5 ?k6; (case k5 => exact rfl); (case k1 => assumption); (case k2 => assumption); (case k3 => assumption); (case e => k_is); (case kg => exact rfl); (case k4 => exact rfl); (case k6 => decide))
    | k_dflt (refine' nameE_B ?k1 ?k2 ?k3 ?e ?b ?n ?_ ?kg ?kb ?k4 ?k5 ?k6; (case k5 => exact rfl); (case k1 => assumption); (case k2 => assumption); (case k3 => assumption); (case e => k_is); (case b => boot_by_name); (case n => decide); (case kg => exact rfl); (case kb => exact rfl); (case k4 => exact rfl); (case k6 => decide)))))
  k_with "call builtin:list.insert" => (((with_reducible show wpAny _ _ (call (Value.builtin _) [Value.ref _, Value.int 0 _, _]) _ _ _); (refine' kl_insert ?F ?N rfl (kl_ins0 _ _) ?U ?z ?_; (case F => assumption); (case N => assumption); (case U => walk_at "m upd"); (case z => assumption)); intro h9 F9 N9; (try k_sweep)))
  k_with "binaryOp FloorDiv int int" => (((with_reducible show wpAny _ _ (binaryOp _ (Value.int _ _) (Value.int _ _)) _ _ _); k_dflt (refine fdiv_e (by first | assumption | decide | omega) ?_)))
  k_with "binaryOp Mod int int" => (((with_reducible show wpAny _ _ (binaryOp _ (Value.int _ _) (Value.int _ _)) _ _ _); k_dflt (refine mod_e (by first | decide | assumption | omega) ?_)))
  k_with "binaryOp Mult int int" => (((with_reducible show wpAny _ _ (binaryOp _ (Value.int _ _) (Value.int _ _)) _ _ _); (first | k_dflt (refine mul_r (by decide) ?_) | k_dflt (refine mul_e (by first | decide | assumption | omega) ?_))))
  k_with "call builtin:len" => (((with_reducible show wpAny _ _ (call (Value.builtin "len") [Value.ref _]) _ _ _); (refine' lenL ?k1 ?k2 ?k3 ?_; (case k1 => is_list); (case k2 => assumption); (case k3 => assumption))))
  k_with "subscriptTail" => (((with_reducible show wpAny _ _ (subscriptTail _ _ (Value.ref _) (Value.int _ _)) _ _ _); (refine' itemL ?k1 ?k2 ?k3 ?k4 ?_ ?k6; (case k1 => is_list); (case k2 => assumption); (case k3 => assumption); (case k4 => assumption); (case k6 => with_unfolding_all rfl)); intro t9))
  k_with "exec While Compare cons nil" => (refine haltQ ?_)
  k_with "exec While" => (refine haltQ ?_)
  k_with "KswPost" => (refine haltQ ?_)
  k_with "pyIter ref" => (refine haltQ ?_)
  k_with "exec Assign cons ListComp" => (refine haltQ ?_)
  k_with "EEnd" => (refine haltQ ?_)
  k_with "InvPostN" => (refine haltQ ?_)
  k_with "call ref" => (((with_reducible show wpAny _ _ (call (Value.ref 151) _ _) _ _ _); refine haltQ ?_))
  k_with "exec For Name" => (refine haltQ ?_)
  k_with "exec For Name Call cons nil" => (refine haltQ ?_)
  k_with "exec For Name List cons nil" => (refine haltQ ?_)
  k_with "exec For Name List" => (refine haltQ ?_)
  k_with "eval ListComp" => (refine haltQ ?_)
  k_with "subscriptTail" => (((with_reducible show wpAny _ _ (subscriptTail _ _ (Value.str _ _) (Value.int _ _)) _ _ _); k_dflt (refine item64 (by assumption) ?_); intro t9 k9))
  k_with "binaryOp Add str str" => (((with_reducible show wpAny _ _ (binaryOp _ (Value.str _ _) (Value.str _ _)) _ _ _); k_dflt (refine addT (by first | assumption | decide) (by first | assumption | exact Nat.le_of_ble_eq_true rfl) ?_); intro t9 k9))
  k_with "binaryOp Mult ref int" => (((with_reducible show wpAny _ _ (binaryOp _ (Value.ref _) (Value.int _ _)) _ _ _); (refine' rep1 ?F ?N ?l ?x ?_; (case F => assumption); (case N => assumption); (case l => is_list); (case x => assumption)); intro D9 vs9 h9 F9 N9 i9))
  k_with "call builtin:str.join" => (((with_reducible show wpAny _ _ (call (Value.builtin "str.join") [Value.str _ _, Value.ref _]) _ _ _); (refine' joinT ?l ?i ?z ?_; (case l => is_list); (case i => assumption); (case z => assumption)); intro t9 k9))
  trivial
theorem c_signs {w : World} {mean : ExcName → Option Value} {mg mb : Str → Option Value} {s : Shared}
    (X : (Mine.hd.heap_39 w.params).In s.heap) (T : Top Vw Ls mean mg mb s.heap) :
    Ctr w s 900 9000 (.ref 144) [] [] (fun v h' => ∃ t, v = .str signs64 t) := by
  intro Q E hret
  refine wpAny_call ?_
  refine' enter (binds := []) X T ?k6 ?k7 ?k8 ?k9 ?kB ?_ ?c2 ?c3 ?c4 ?c5
  (case k6 => k_is)
  (case k7 => k_is)
  (case k8 => decide)
  (case k9 => exact BindsTo.of_eq rfl)
  (case kB => exact locs rfl)
  (case c2 => exact rfl)
  (case c3 => exact rfl)
  (case c4 => exact rfl)
  (case c5 => decide)
  intro L h F N
  try dsimp only
  refine stopQ ?_
  k_fold
  k_steps
  rename Fr _ _ _ _ => F1
  exact hret _ _ _ F1.keep ⟨_, rfl⟩
theorem words_T1_2 : True := by
  k_with "call ref" => (((with_reducible show wpAny _ _ (call (Value.ref 144) _ _) _ _ _); (refine useC (c_signs (Frag.In.keeps (by assumption) (Fr.keep (by assumption))) (Top.keeps (by assumption) (Fr.keep (by assumption)))) (by assumption) (by assumption) ?_); intro v9 h9 tk9 F9 N9 x9 p9; obtain ⟨t9, p9⟩ := p9; subst p9; clear x9; (try dsimp only); (try k_fold)))
  trivial
theorem padded_len (oc : List Int) : (padded oc).length = 3 * ((padded oc).length / 3) ∧ (padded oc).length ≤ oc.length + 2 := by
  unfold padded
  rw [List.length_append, List.length_replicate]
  omega
theorem octets_succ {ns : List Int} {i : Nat} {n : Int} (hn : ns[i]? = some n) : octets (ns.take (i + 1)) = octets (ns.take i) ++ octs n := by
  unfold octets
  rw [List.take_add_one, hn, List.flatMap_append]
  simp
theorem octs_len (n : Int) : (octs n).length ≤ 3 := by
  unfold octs
  split
  · exact Nat.le_of_ble_eq_true rfl
  · split
    · exact Nat.le_of_ble_eq_true rfl
    · exact Nat.le_of_ble_eq_true rfl
theorem octets_len : ∀ ns : List Int, (octets ns).length ≤ 3 * ns.length
  | [] => Nat.le_refl _
  | n :: r => by
    show (octs n ++ octets r).length ≤ _
    have h1 := octs_len n
    have h2 := octets_len r
    rw [List.length_append, List.length_cons]; omega
theorem octets_take (ns : List Int) (i : Nat) : (octets (ns.take i)).length ≤ 3 * ns.length :=
  Nat.le_trans (octets_len _) (Nat.mul_le_mul_left _ (by rw [List.length_take]; exact Nat.min_le_right _ _))
theorem q4_at (T : Int) {j : Nat} {p : Int} (h : ([262144, 4096, 64, 1] : List Int)[j]? = some p) : (q4 T)[j]? = some (T / p % 64) := by
  show (([262144, 4096, 64, 1] : List Int).map fun p => T / p % 64)[j]? = _
  rw [List.getElem?_map, h]; rfl
theorem p4_pos {j : Nat} {p : Int} (h : ([262144, 4096, 64, 1] : List Int)[j]? = some p) : 0 < p ∧ p < 1073741824 :=
  (by decide : ∀ p ∈ ([262144, 4096, 64, 1] : List Int), 0 < p ∧ p < 1073741824) p (List.mem_of_getElem? h)
theorem quadN_succ (oc : List Int) (n : Nat) : quadN oc (n + 1) = quadN oc n ++ q4 (three oc n) := by
  unfold quadN
  rw [List.range_succ, List.flatMap_append]; simp
theorem quadN_len (oc : List Int) : ∀ n, (quadN oc n).length = 4 * n
  | 0 => rfl
  | n + 1 => by rw [quadN_succ, List.length_append, quadN_len oc n]; show 4 * n + 4 = _; omega
theorem c_text {w : World} {mean : ExcName → Option Value} {mg mb : Str → Option Value} {s : Shared} {a f : Addr} {va vf : List Value} {ns fs : List Int}
    (X : (Mine.hd.heap_39 w.params).In s.heap) (T : Top Vw Ls mean mg mb s.heap) (ha : s.heap.IsList a va.toArray) (hia : IntsAre va ns) (hf : s.heap.IsList f vf.toArray) (hif : IntsAre vf fs)
    (hns : ∀ n ∈ ns, 0 ≤ n ∧ n < 262144) (hfs : ∀ n ∈ fs, 0 ≤ n ∧ n < 64) (hnl : ns.length ≤ 100) (hfl : fs.length ≤ 1000) :
    Ctr w s 840 8400 (.ref 156) [.ref a, .ref f] [] (fun v h' => ∃ t, v = .str (txt (textOf ns fs)) t) := by
  intro Q E hret
  refine wpAny_call ?_
  refine' enter (binds := [(Str.ofString "numbers", .ref a), (Str.ofString "figures", .ref f)]) X T ?k6 ?k7 ?k8 ?k9 ?kB ?_ ?c2 ?c3 ?c4 ?c5
  (case k6 => k_is)
  (case k7 => k_is)
  (case k8 => decide)
  (case k9 => exact BindsTo.of_eq rfl)
  (case kB => exact locs rfl)
  (case c2 => exact rfl)
  (case c3 => exact rfl)
  (case c4 => exact rfl)
  (case c5 => decide)
  intro L h F N
  try dsimp only
  refine stopQ ?_
  k_fold
  k_steps
  unfold Halt
  refine comp_assign rfl rfl (by decide) rfl (by decide) rfl rfl ?_
  k_steps
  rename Fr _ _ _ _ => F2
  rename News _ _ _ _ => N2
  unfold Halt
  refine listSrc (s := { s with heap := _, toks := _ }) (ha.at fun o e => F2.keep _ o e) (fun i _ us nw => IntsAre us (octets (ns.take i)) ∧ nw = []) rfl rfl (fun _ => ⟨.nil, rfl⟩) (fun _ _ _ => turn_nest fun _ => rfl) ?_ ?_ ?hh
  case hh => rfl
  · rintro D C i v h' tk' m₁ us k₁ news₁ own hD hi hv ⟨hj, rfl⟩ hnf hown hnD F3 N3
    obtain ⟨n, t, rfl, hn⟩ := intsAre_at hia hv
    have hn' := hns n (List.mem_of_getElem? hn)
    have X3 := Frag.In.keeps X F2.keep
    have T3 := Top.keeps T F2.keep
    clear F2 N2
    unfold nestB
    k_steps
    rename Fr _ _ _ _ => F4
    rename News _ _ _ _ => N4
    unfold Halt
    refine useC (c_octets (Frag.In.keeps X3 F4.keep) (Top.keeps T3 F4.keep) hn'.1 hn'.2) F4 N4 ?_
    rintro v9 h9 tk9 F9 N9 x9 ⟨l2, v2, n2, rfl, hl2, ho2, hi2⟩
    show wpAny _ _ (pyIter _) _ _ _
    have hne := new_ne N4 hl2
    refine inner_list (s := { s with heap := _, toks := _ }) (fun j _ ws nw => IntsAre ws (octets (ns.take i) ++ (octs n).take j) ∧ nw = own) ⟨_, ho2, rfl, n2, rfl⟩ (fr_ne F4 hl2) (hne _ (.head _)) (fun p hp => hne p (.tail _ hp)) rfl rfl F9 N9 hnD ⟨by rw [List.take_zero, List.append_nil]; exact hj, rfl⟩ ?_ ?_ ?hh
    case hh => rfl
    · rintro j v h3 tk3 m3 ws k3 nw own3 hj3 hv3 ⟨hw, rfl⟩ hnf3 hown3 hnD3 F5 N5
      obtain ⟨o, t5, rfl, ho⟩ := intsAre_at hi2 hv3
      have hwl : ws.length ≤ 1000 := by
        have h1 := octets_take ns i
        have h2 := octs_len n
        rw [hw.length, List.length_append, List.length_take]; omega
      refine body_elt (k := k3) hwl (fun p hp => hnD3 p (List.mem_append_right _ hp)) ?_
      k_steps
      rename Fr _ _ _ _ => F6
      rename News _ _ _ _ => N6
      exact ⟨_, _, _, nw, rfl, F6, N6, hnf3, hnD, by rw [List.take_add_one, ho, ← List.append_assoc]; exact intsAre_snoc hw, rfl⟩
    · rintro h3 tk3 m3 ws k3 nw ⟨hw, rfl⟩ hnD3 F5 N5
      rw [List.size_toArray, hi2.length, List.take_length] at hw
      exact ⟨h3, tk3, m3, ws, k3, [], rfl, F5, N5, List.forall_mem_nil _, List.forall_mem_nil _, by rw [octets_succ hn]; exact hw, rfl⟩
  · rintro H D C h' tk' m₁ us k₁ news₁ hD hDC ⟨hj, rfl⟩ hnD F3 N3
    refine ⟨_, F2.ns, led_ne F2 N3, fun h' tk' hns hk hl => ?_⟩
    obtain ⟨F4, N4⟩ := after_comp F2 N2 (led_ne F2 N3) hns hk hl
    rw [List.size_toArray, hia.length, List.take_length] at hj
    have hol : (octets ns).length ≤ 300 := Nat.le_trans (octets_len ns) (by omega)
    have hol' : (octets ns).length ≤ 16777216 := Nat.le_trans hol (by decide)
    have hpd : 0 ≤ (-((octets ns).length : Int)) % 3 ∧ (-((octets ns).length : Int)) % 3 < 3 := ⟨Int.emod_nonneg _ (by decide), Int.emod_lt_of_pos _ (by decide)⟩
    clear hk hl hns F3 N3 F2 N2
    k_steps
    rename Fr _ _ _ _ => F5
    rename News _ _ _ _ => N5
    rename_i lo wo h5 hI5 l5 h6 h7
    rw [txt_nil] at F5
    change IntsAre wo (padded (octets ns)) at hI5
    obtain ⟨hpl, hpl2⟩ := padded_len (octets ns)
    have hplz : (padded (octets ns)).length ≤ 16777216 := by omega
    unfold Halt
    refine wpAny_For ?_
    k_steps
    rename IsRange _ _ _ _ _ _ _ _ => R1
    rename Fr _ _ _ _ => F6
    rename News _ _ _ _ => N6
    unfold Halt
    refine' forRange3 (s := { s with heap := _, toks := _ }) (σ := List Int × Tok) ((padded (octets ns)).length / 3) (fun _ => [(lo, W.listOf wo.toArray 0)]) (fun c => [(Str.ofString "signs", .str (txt c.1) c.2)]) [Str.ofString "k", Str.ofString "three", Str.ofString "power"] (fun i c => c.1 = quadN (padded (octets ns)) i) ([], _)
      R1 ?hb (by omega) F6 (pick0 N6 [0]) (fun _ => rfl) ?hk ?hp ?t1 ?t2 ?hh
    case hh => rfl
    case hb => omega
    case hk => kst_all
    case hp => exact rfl
    case t1 =>
      rintro i tv ⟨ds, td⟩ u h tk own hi hds F7 N7 hown
      dsimp only at hds F7 N7
      subst hds
      rw [List.cons_append, List.nil_append] at N7
      change Fr s.heap L h _ at F7
      change News s.heap L h _ at N7
      clear F6 N6 R1
      have hk0 : 0 ≤ 3 * (i : Int) ∧ 3 * (i : Int) < ((padded (octets ns)).length : Int) := by omega
      have hk1 : 0 ≤ 3 * (i : Int) + 1 ∧ 3 * (i : Int) + 1 < ((padded (octets ns)).length : Int) := by omega
      have hk2 : 0 ≤ 3 * (i : Int) + 2 ∧ 3 * (i : Int) + 2 < ((padded (octets ns)).length : Int) := by omega
      refine wpAny_assign_Name ?_
      k_steps
      rename Fr _ _ _ _ => F8
      rename News _ _ _ _ => N8
      clear hk0 hk1 hk2
      unfold Halt
      refine wpAny_For ?_
      k_steps
      rename Fr _ _ _ _ => F9
      rename News _ _ _ _ => N9
      rename_i lp h9' l9
      have hlp := (N9 _ (.head _)).1
      have hlpL := (N9 _ (.head _)).2.1
      have hoz : ∀ p ∈ (lo, W.listOf wo.toArray 0) :: own, p.1 ≠ lp := List.forall_mem_cons.mpr ⟨Nat.ne_of_lt l9.1, fun p hp => Nat.ne_of_lt (kst_ltOf l9.2 p hp)⟩
      unfold Halt
      refine' forListS (s := { s with heap := _, toks := _ }) (σ := List Int × Tok) (items := ([.int 262144 _, .int 4096 _, .int 64 _, .int 1 _] : List Value).toArray) (fun _ => (lo, W.listOf wo.toArray 0) :: own) (fun c => [(Str.ofString "signs", .str (txt c.1) c.2)]) [Str.ofString "power"] (fun j c => c.1 = quadN (padded (octets ns)) i ++ (q4 (three (padded (octets ns)) i)).take j) (quadN (padded (octets ns)) i, td)
        ⟨_, hlp, rfl, 0, rfl⟩ hlpL F9 (pick N9 [] 1) hoz (fun _ => rfl) ?ik ?ip ?i1 ?i2 ?ih
      case ih => rfl
      case ik => kst_all
      case ip => exact (List.append_nil _).symm
      case i1 =>
        rintro j v ⟨ds, td'⟩ u h tk own' hj hv hds F10 N10 hown'
        obtain ⟨p, tp, rfl, hp⟩ := intsAre_at (.cons _ _ (.cons _ _ (.cons _ _ (.cons _ _ .nil)))) hv
        have hp4 := p4_pos hp
        have hq4 := q4_at (three (padded (octets ns)) i) hp
        change Fr s.heap L h _ at F10
        change News s.heap L h _ at N10
        dsimp only at hds F10
        have hdl : ds.length ≤ 8000000 := by
          have h4 : (q4 (three (padded (octets ns)) i)).length = 4 := rfl
          rw [hds, List.length_append, quadN_len, List.length_take, h4]; omega
        have hit : 0 ≤ three (padded (octets ns)) i / p % 64 ∧ three (padded (octets ns)) i / p % 64 < 64 := ⟨Int.emod_nonneg _ (by decide), Int.emod_lt_of_pos _ (by decide)⟩
        refine wpAny_assign_Name ?_
        k_steps
        rename Fr _ _ _ _ => F11
        rename News _ _ _ _ => N11
        have e : ds ++ [three (padded (octets ns)) i / p % 64] = quadN (padded (octets ns)) i ++ (q4 (three (padded (octets ns)) i)).take (j + 1) := by
          rw [List.take_add_one, hq4, hds, List.append_assoc]; rfl
        refine' ⟨(ds ++ [_], _), _, _, _, _, rfl, F11, N11, fun _ hp => hp, ?zk, ?zr, e⟩
        case zk => kst_all
        case zr => walk_at "m ksame"
      case i2 =>
        rintro h tk ⟨ds, td'⟩ u hds F10 N10
        change Fr s.heap L h _ at F10
        change News s.heap L h _ at N10
        k_steps
        have e : ds = quadN (padded (octets ns)) (i + 1) := by rw [quadN_succ]; exact hds
        refine' ⟨(ds, td'), _, _, _, _, rfl, F10, N10, fun _ hp => hp, ?zk, ?zr, e⟩
        case zk => kst_all
        case zr => walk_at "m ksame"
    case t2 =>
      rintro h tk ⟨ds, td⟩ u hds F7 N7
      dsimp only at hds F7 N7
      subst hds
      change Fr s.heap L h _ at F7
      change News s.heap L h _ at N7
      clear F6 N6 R1
      k_steps
      rename Fr _ _ _ _ => F8
      rename News _ _ _ _ => N8
      unfold Halt
      refine comp_eval rfl (by decide) rfl (by decide) ?_
      k_steps
      rename Fr _ _ _ _ => F9
      rename News _ _ _ _ => N9
      unfold Halt
      refine listSrc (s := { s with heap := _, toks := _ }) (hf.at fun o e => F9.keep _ o e) (fun i _ us nw => StrsAre us ((fs.take i).map fun d => txt [d]) ∧ nw = []) rfl rfl (fun _ => ⟨.nil, rfl⟩) (fun _ _ _ => turn_elt) ?_ ?_ ?hh
      case hh => rfl
      · rintro D C i v h' tk' m₁ us k₁ news₁ own hD hi hv ⟨hj, rfl⟩ hnf hown hnD F3 N3
        obtain ⟨d, t, rfl, hd⟩ := intsAre_at hif hv
        have hd64 := hfs d (List.mem_of_getElem? hd)
        have X3 := Frag.In.keeps X F9.keep
        have T3 := Top.keeps T F9.keep
        have hul : us.length ≤ 1000 := by rw [strs_len hj, List.length_map, List.length_take]; omega
        clear F9 N9
        refine body_elt (k := k₁) hul hnD ?_
        k_steps
        rename Fr _ _ _ _ => F6
        rename News _ _ _ _ => N6
        unfold Halt
        exact ⟨_, _, _, [], rfl, F6, N6, List.forall_mem_nil _, List.forall_mem_nil _, by rw [List.take_add_one, hd, List.map_append]; exact strs_snoc hj, rfl⟩
      · rintro H D C h' tk' m₁ us k₁ news₁ hD hDC ⟨hj, rfl⟩ hnD F3 N3
        intro h' tk' hE hl
        have F10 := fr_ext F9 hE
        have N10 := news_new F9 N9 hE (hl _ (.head _)).2 (hl _ (.head _)).1
        rw [List.size_toArray, hif.length, List.take_length] at hj
        clear F9 N9 F3 N3 hl hE
        have hq1 : (quadN (padded (octets ns)) ((padded (octets ns)).length / 3)).length ≤ 8000000 := by rw [quadN_len]; omega
        have hq2 : fs.length ≤ 8000000 := by omega
        have hq3 : fs.length ≤ 1000000 := by omega
        k_steps
        rename Fr _ _ _ _ => F11
        exact hret _ _ _ F11.keep ⟨_, rfl⟩


theorem none_R1 : True := by
  k_with_none
  trivial
theorem words_LR1_1 : True := by
  k_with "call type:type" => (((with_reducible show wpAny _ _ (call _ [Value.bytes _ _]) _ _ _); refine call_type_of (Tx := "bytes") rfl (by decide +kernel) ?_))
  k_with "m dec" => (first | omega | (simp only [decide_eq_true_eq, decide_eq_false_iff_not, Bool.not_eq_true, beq_iff_eq, beq_eq_false_iff_ne, ne_eq, Bool.not_eq_true', Bool.not_eq_false'] ; omega))
  k_with "ite" => ((k_openite; first | (refine ite_pos (by walk_at "m dec") ?_) | (refine ite_neg (by walk_at "m dec") ?_)))
  k_with "m upd" => (first | exact Upd.head (List.forall_mem_nil _) | exact Upd.head (by assumption) | (refine Upd.tail (by first | assumption | (refine neN ?_; omega)) ?_; walk_at "m upd"))
  k_with "m same" => ((intro z h1 h2 h3; (simp only [List.forall_mem_cons, List.not_mem_nil, false_implies, implies_true, and_true, ne_eq] at h2); (try simp only [List.contains_cons, List.contains_nil, Bool.or_false, Bool.or_eq_false_iff, beq_eq_false_iff_ne, ne_eq] at h3); (simp [kstB, h1, h2, h3]; done)))
  k_with "call builtin:list.append" => (((with_reducible show wpAny _ _ (call (Value.builtin _) [Value.ref _, _]) _ _ _); (refine' append_K ?k1 ?k2 ?k3 ?_ ?z; (case k1 => assumption); (case k2 => assumption); (case k3 => walk_at "m upd"); (case z => first | assumption | exact (by assumption : ∀ x : Value, _) _)); intro h9 F9 N9; (try k_sweep)))
  k_with "m ksame" => ((intro z h2 h3; (simp only [List.forall_mem_cons, List.not_mem_nil, false_implies, implies_true, and_true, ne_eq] at h2); (try simp only [List.contains_cons, List.contains_nil, Bool.or_false, Bool.or_eq_false_iff, beq_eq_false_iff_ne, ne_eq] at h3); (simp [kstB, h2, h3]; done)))
  trivial
/-- a decision tree run with a comparison, its places looked at -/
def kRun {α : Type} (n : Nat) (lt : Nat → Nat → Bool) : KasT α → Option α
  | .ret a => some a
  | .ask i j k => if i < n ∧ j < n then kRun n lt (k (lt i j)) else none
theorem kRun_ok {α : Type} {n : Nat} {lt : Nat → Nat → Bool} {ask : Nat → Nat → (Bool → Shared → Prop) → Shared → Prop} {Q : α → Shared → Prop} {s : Shared} (hask : ∀ i j (C : Bool → Shared → Prop), i < n → j < n → C (lt i j) s → ask i j C s) :
    ∀ (t : KasT α) (a : α), kRun n lt t = some a → Q a s → t.kasWp ask Q s
  | .ret b, a, h, q => by
    have e : b = a := Option.some.inj h
    subst e; exact q
  | .ask i j k, a, h, q => by
    unfold kRun at h
    by_cases hij : i < n ∧ j < n
    · rw [if_pos hij] at h
      exact hask i j _ hij.1 hij.2 (kRun_ok hask (k (lt i j)) a h q)
    · rw [if_neg hij] at h; cases h
def pairO (p : Int × Int) (t u : Tok) (n : Nat) : Obj := { cls := .type "tuple", data := .seq #[.int p.1 t, .int p.2 u] n }
/-- the values are tuples of two ints, of the ledger -/
def PairsIn (l : List (Addr × Obj)) : List Value → List (Int × Int) → Prop
  | [], [] => True
  | v :: vs, p :: ps => (∃ a t u n, v = .ref a ∧ (a, pairO p t u n) ∈ l) ∧ PairsIn l vs ps
  | _, _ => False
theorem PairsIn.len {l : List (Addr × Obj)} : ∀ {vs : List Value} {ps : List (Int × Int)}, PairsIn l vs ps → vs.length = ps.length
  | [], [], _ => rfl
  | [], _ :: _, h => h.elim
  | _ :: _, [], h => h.elim
  | _ :: vs, _ :: ps, h => congrArg Nat.succ h.2.len
theorem PairsIn.sub {l l' : List (Addr × Obj)} (hs : ∀ p ∈ l, p ∈ l') : ∀ {vs : List Value} {ps : List (Int × Int)}, PairsIn l vs ps → PairsIn l' vs ps
  | [], [], _ => trivial
  | [], _ :: _, h => h.elim
  | _ :: _, [], h => h.elim
  | _ :: vs, _ :: ps, ⟨⟨a, t, u, n, e, hm⟩, r⟩ => ⟨⟨a, t, u, n, e, hs _ hm⟩, r.sub hs⟩
theorem PairsIn.snoc {l : List (Addr × Obj)} {a : Addr} {p : Int × Int} {t u : Tok} {n : Nat} (hm : (a, pairO p t u n) ∈ l) : ∀ {vs : List Value} {ps : List (Int × Int)}, PairsIn l vs ps → PairsIn l (vs ++ [.ref a]) (ps ++ [p])
  | [], [], _ => ⟨⟨a, t, u, n, rfl, hm⟩, trivial⟩
  | [], _ :: _, h => h.elim
  | _ :: _, [], h => h.elim
  | _ :: _, _ :: _, ⟨x, r⟩ => ⟨x, r.snoc hm⟩
theorem PairsIn.at' {l : List (Addr × Obj)} : ∀ {vs : List Value} {ps : List (Int × Int)} (i : Nat), PairsIn l vs ps → i < ps.length → ∃ a t u n, vs.getD i .none = .ref a ∧ (a, pairO (ps.getD i (0, 0)) t u n) ∈ l
  | [], [], _, _, hi => absurd hi (Nat.not_lt_zero _)
  | [], _ :: _, _, h, _ => h.elim
  | _ :: _, [], _, h, _ => h.elim
  | _ :: _, _ :: _, 0, ⟨x, _⟩, _ => x
  | _ :: vs, _ :: ps, i + 1, ⟨_, r⟩, hi => PairsIn.at' (vs := vs) (ps := ps) i r (Nat.lt_of_succ_lt_succ hi)
theorem PairsIn.perm {l : List (Addr × Obj)} {vs : List Value} {ps : List (Int × Int)} (h : PairsIn l vs ps) : ∀ (is : List Nat), (∀ i ∈ is, i < ps.length) → PairsIn l (is.map fun i => vs.getD i .none) (is.map fun i => ps.getD i (0, 0))
  | [], _ => trivial
  | i :: is, hi => ⟨h.at' i (hi i (.head _)), h.perm is fun j hj => hi j (.tail _ hj)⟩
def ltI (ps : List (Int × Int)) (i j : Nat) : Bool := ltP (ps.getD i (0, 0)).1 (ps.getD i (0, 0)).2 (ps.getD j (0, 0)).1 (ps.getD j (0, 0)).2
section
variable {prog : Program} {w : World} {A : Around} {E : Value → Shared → Prop} {s : Shared} {h₀ : Heap} {L l : Addr} {m : Str → Option Value} {news : List (Addr × Obj)} {vs : List Value} {ps : List (Int × Int)} {Q : Value → Shared → Prop}
theorem kat_pairs2 (hu : A.units < cLine) {a b : Addr} {p q : Int × Int} {t u t' u' : Tok} {n n' : Nat} {C : Bool → Shared → Prop} (ha : s.heap.get? a = some (pairO p t u n)) (hb : s.heap.get? b = some (pairO q t' u' n')) (h : C (ltP p.1 p.2 q.1 q.2) s) :
    wpAny (model prog w) A (keyLt' (tuples' true) (.ref a) (.ref b)) C (fun _ _ => False) s := by
  refine kat_lt ha rfl hb rfl ?_
  show KatLex prog w A true _ C [(.int p.1 t, .int q.1 t'), (.int p.2 u, .int q.2 u')] 0 s
  refine kat_cons (wpAny_eqBool_int ?_)
  by_cases hxy : p.1 = q.1
  · rw [show (p.1 == q.1) = true from beq_iff_eq.mpr hxy]
    refine kat_yes (kat_cons (wpAny_eqBool_int ?_))
    by_cases hkl : p.2 = q.2
    · rw [show (p.2 == q.2) = true from beq_iff_eq.mpr hkl]
      refine kat_yes (kat_nil ?_)
      rw [show ltP p.1 p.2 q.1 q.2 = decide (2 < 2) from decide_eq_decide.mpr (by omega)] at h
      exact h
    · rw [show (p.2 == q.2) = false from beq_eq_false_iff_ne.mpr hkl]
      refine kat_no (kat_one _ _ (lt_int ?_))
      rw [show ltP p.1 p.2 q.1 q.2 = decide (p.2 < q.2) from decide_eq_decide.mpr (by omega)] at h
      exact h
  · rw [show (p.1 == q.1) = false from beq_eq_false_iff_ne.mpr hxy]
    refine kat_no (oneLt_int ?_)
    rw [show ltP p.1 p.2 q.1 q.2 = decide (p.1 < q.1) from decide_eq_decide.mpr (by omega)] at h
    exact h
theorem PairsIn.tups {h' : Heap} : ∀ {vs : List Value} {ps : List (Int × Int)}, News h₀ L h' news → PairsIn news vs ps → ∃ fs, KatTups h' vs fs ∧ fs.length = ps.length ∧ ∀ f ∈ fs, ∃ x t, f = .int x t
  | [], [], _, _ => ⟨[], trivial, rfl, fun _ h => nomatch h⟩
  | [], _ :: _, _, h => h.elim
  | _ :: _, [], _, h => h.elim
  | _ :: vs, p :: ps, N, ⟨⟨a, t, u, n, e, hm⟩, r⟩ => by
    obtain ⟨fs, h1, h2, h3⟩ := PairsIn.tups N r
    subst e
    exact ⟨.int p.1 t :: fs, KatTups.cons (N _ hm).1 rfl rfl rfl h1, congrArg Nat.succ h2, List.forall_mem_cons.mpr ⟨⟨_, _, rfl⟩, h3⟩⟩
theorem sortedT (F : Fr h₀ L s.heap m) (N : News h₀ L s.heap news) (hl : s.heap.IsList l vs.toArray) (hp : PairsIn news vs ps) (h2 : 2 ≤ ps.length) (h64 : ps.length < 64) (hu : A.units + 2 < cLine) {p : Array Nat} (hr : kRun ps.length (ltI ps) (kas_sort ps.length) = some p) (hpi : ∀ i ∈ p.toList, i < ps.length)
    (k : ∀ D us h' c, Fr h₀ L h' m → News h₀ L h' ((D, W.listOf us.toArray c) :: news) → (∀ q ∈ news, q.1 < D) → PairsIn news us (p.toList.map fun i => ps.getD i (0, 0)) → Q (.ref D) { s with heap := h' }) : wpAny (model prog w) A (call (.builtin "sorted") [.ref l]) Q E s := by
  have hlen := hp.len
  refine kat_sorted F N hl (by omega) (by omega) fun D e1 h' F' N' hD => ?_
  have N2 : News h₀ L h' news := fun q hq => N' q (.tail _ hq)
  obtain ⟨fs, t1, t2, t3⟩ := hp.tups N2
  refine kat_kind (T := .type "int") t1 (by omega) (fun v hv => ?_) rfl ?_
  · obtain ⟨x, t, rfl⟩ := t3 v hv
    exact Looks.of_pure rfl
  · rw [hlen]
    refine kRun_ok (lt := ltI ps) (n := ps.length) (fun i j C hi hj hC => ?_) _ p hr ?_
    · obtain ⟨a, t, u, n, e, hm⟩ := hp.at' i hi
      obtain ⟨b, t', u', n', e', hm'⟩ := hp.at' j hj
      show wpAny _ _ (keyLt' _ (vs.getD i .none) (vs.getD j .none)) _ _ _
      rw [e, e']
      exact kat_pairs2 (by show A.units + 1 + 1 < cLine; omega) (N2 _ hm).1 (N2 _ hm').1 hC
    · exact KasFin.intro F' N' (UpdF.head fun q hq => Nat.ne_of_lt (hD q hq)) fun h3 c F3 N3 => k D _ h3 c F3 N3 hD (hp.perm p.toList hpi)
end
def rowPairs (x y z : Int) : List (Int × Int) := (List.range 3).flatMap fun (k : Nat) => (List.range ([x, y, z].getD (k : Int).toNat 0).toNat).map fun (r : Nat) => ((2 * (r : Int) + 1) * (x * y * z) / [x, y, z].getD (k : Int).toNat 0, (k : Int))
def rowCheck (x y z : Nat) : Bool :=
  let ps := rowPairs x y z
  match kRun ps.length (ltI ps) (kas_sort ps.length) with
  | some p => p.toList.all (fun i => decide (i < ps.length)) && decide ((p.toList.map fun i => (ps.getD i (0, 0)).2) = spread x y z)
  | none => false
section
variable {prog : Program} {w : World} {A : Around} {E : Value → Shared → Prop} {env cenv : Env} {elt iter : PySem.Expr} {x y : Str} {px py pt : Pos} {kk : Nat} {scope : Scope} {cl : List (Str × Addr)} {pos : Pos}
/-- the source: a list of tuples of two ints, below; the target: two names -/
theorem pairSrc {Qd : Shared → Heap → List (Addr × Obj) → Addr → Addr → Heap → Nat → Prop} {s : Shared} {l : Addr} {us : List Value} {ps : List (Int × Int)} {led : List (Addr × Obj)} (hl : s.heap.IsList l us.toArray) (hp : PairsIn led us ps) (hled : ∀ p ∈ led, s.heap.get? p.1 = some p.2) (J : Nat → List Value → Prop)
    (hx : scope.names.lookup x = some .local) (hy : scope.names.lookup y = some .local) (hkind : scope.kind = .function) (hJ : J 0 [])
    (turn : ∀ D C (i : Nat) t u h tk (m₁ : Str → Option Value) vs₁ k₁ own, i < ps.length → J i vs₁ → Fr s.heap C h (fun z => if z = y then some (.int (ps.getD i (0, 0)).2 u) else if z = x then some (.int (ps.getD i (0, 0)).1 t) else m₁ z) → News s.heap C h ((D, W.listOf vs₁.toArray k₁) :: own) → (∀ p ∈ own, p.1 ≠ D) →
      eltB prog w A elt (compEnvC scope cl C env) D (fun s' => CEnd s.heap C D [s.heap.objs.size, l] own (fun _ vs nw => J (i + 1) vs ∧ nw = []) { s with heap := h, toks := tk } s') { s with heap := h, toks := tk })
    (done : ∀ H D C h tk (m₁ : Str → Option Value) vs₁ k₁, J ps.length vs₁ → Fr s.heap C h m₁ → News s.heap C h [(D, W.listOf vs₁.toArray k₁)] → Qd { s with heap := H } s.heap [(D, W.listOf vs₁.toArray k₁)] D C h tk) (hh : A.handled = none := by rfl) :
    wpAny (model prog w) A (pyIter (.ref l)) (fun it s₂ => CompAt prog w A env elt iter (.Tuple [.Name x px, .Name y py] kk pt) [] [] scope cl pos (Qd s₂) it s₂) E s := by
  have hlt : @LT.lt Nat _ l s.heap.objs.size := by obtain ⟨o, ho, _⟩ := hl; exact Heap.lt_size ho
  have hus : us.toArray.size = ps.length := by rw [List.size_toArray, hp.len]
  refine wpAny_pyIter_list hl ?_
  refine ⟨s.heap.objs.size, s.heap, [s.heap.objs.size, l], [s.heap.objs.size], us.toArray.size, _, _, fun i _ vs nw => J i vs ∧ nw = [], [], fun D C => eltB prog w A elt (compEnvC scope cl C env) D, rfl, Walks.list hh s.heap.objs.size l (Nat.ne_of_lt hlt) us.toArray, ?_, ?_, ?_, ?_, ?_, (fun _ h => nomatch h), (fun _ => ⟨hJ, rfl⟩), (fun _ _ => turn_elt), ?_, ?_⟩
  · exact ⟨⟨_, Heap.get?_push_size _ rfl, rfl, rfl⟩, hl.at fun o e => Heap.get?_push_of_some _ e⟩
  · intro b hb
    show @LT.lt Nat _ b (s.heap.push _).objs.size
    rw [Heap.size_push]
    rcases List.mem_cons.mp hb with rfl | hb
    · exact Nat.lt_succ_self _
    · rw [List.mem_singleton.mp hb]; exact Nat.lt_succ_of_lt hlt
  · exact fun b o e => Heap.get?_push_of_some _ e
  · show _ ≤ (s.heap.push _).objs.size
    rw [Heap.size_push]; exact Nat.le_succ _
  · intro b hb
    rw [List.mem_singleton.mp hb]; exact Heap.get?_none_of_le (Nat.le_refl _)
  · rintro D C i v h tk m₁ vs₁ k₁ news₁ own hD hi hv hst ⟨hj, rfl⟩ _ _ hnD F N
    rw [hus] at hi
    obtain ⟨T, t, u, n, e, hm⟩ := hp.at' i hi
    have hv' : v = .ref T := by
      rw [← e, List.getD_eq_getElem?_getD]
      have : us[i]? = some v := by simpa using hv
      rw [this]; rfl
    subst hv'
    have hT := F.keep _ _ (hled _ hm)
    refine wpAny_letOwnedTupleGo_listiter (s := { s with heap := h, toks := tk }) hst.1 ?_
    refine kcp_assign (s := { s with heap := h, toks := tk }) hh (m := m₁) (x := .int (ps.getD i (0, 0)).1 t) (y := .int (ps.getD i (0, 0)).2 u) ⟨_, hT, rfl, n, rfl⟩ (lookup_relabel_local hx) (lookup_relabel_local hy) (by simp [compEnvC, relabel, hkind]) F.ns fun h' tk' hn hk => ?_
    have hC : ∀ b o, s.heap.get? b = some o → b ≠ C := fun b o q => Nat.ne_of_lt (Nat.lt_of_lt_of_le (Heap.lt_size q) F.above)
    exact turn D C i t u h' tk' m₁ vs₁ k₁ own hi hj ⟨hn, fun b o q => hk b o (hC b o q) (F.keep b o q), F.above⟩ (fun p hp => ⟨hk _ _ (N p hp).2.1 (N p hp).1, (N p hp).2⟩) hnD
  · rintro D C h tk m₁ vs₁ k₁ news₁ hD hDC ⟨hj, rfl⟩ hnD F N
    rw [hus] at hj
    exact done _ D C h tk m₁ vs₁ k₁ hj F N
end

theorem rowCheck_all : ∀ x < 5, ∀ y < 5, ∀ z < 5, rowCheck (x + 1) (y + 1) (z + 1) = true := by decide +kernel
theorem rowLen_all : ∀ x < 5, ∀ y < 5, ∀ z < 5, (rowPairs ((x + 1 : Nat) : Int) ((y + 1 : Nat) : Int) ((z + 1 : Nat) : Int)).length = x + y + z + 3 := by decide +kernel
theorem nat5 {x : Int} (h : 1 ≤ x ∧ x ≤ 5) : ∃ a : Nat, a < 5 ∧ x = ((a + 1 : Nat) : Int) := ⟨(x - 1).toNat, by omega, by omega⟩
theorem row_len {x y z : Int} (hx : 1 ≤ x ∧ x ≤ 5) (hy : 1 ≤ y ∧ y ≤ 5) (hz : 1 ≤ z ∧ z ≤ 5) : 2 ≤ (rowPairs x y z).length ∧ (rowPairs x y z).length < 64 := by
  obtain ⟨a, ha, rfl⟩ := nat5 hx
  obtain ⟨b, hb, rfl⟩ := nat5 hy
  obtain ⟨c, hc, rfl⟩ := nat5 hz
  rw [rowLen_all a ha b hb c hc]
  omega
theorem row_run {x y z : Int} (hx : 1 ≤ x ∧ x ≤ 5) (hy : 1 ≤ y ∧ y ≤ 5) (hz : 1 ≤ z ∧ z ≤ 5) : ∃ p, kRun (rowPairs x y z).length (ltI (rowPairs x y z)) (kas_sort (rowPairs x y z).length) = some p ∧ (∀ i ∈ p.toList, i < (rowPairs x y z).length) ∧ (p.toList.map fun i => ((rowPairs x y z).getD i (0, 0)).2) = spread x y z := by
  obtain ⟨a, ha, rfl⟩ := nat5 hx
  obtain ⟨b, hb, rfl⟩ := nat5 hy
  obtain ⟨c, hc, rfl⟩ := nat5 hz
  have h := rowCheck_all a ha b hb c hc
  unfold rowCheck at h
  dsimp only at h
  split at h
  · rename_i p hp
    rw [Bool.and_eq_true, List.all_eq_true, decide_eq_true_eq] at h
    exact ⟨p, hp, fun i hi => of_decide_eq_true (h.1 i hi), h.2⟩
  · cases h


theorem none_R2 : True := by
  k_with_none
  trivial
theorem words_LR2_1 : True := by
  k_with "call type:type" => (((with_reducible show wpAny _ _ (call _ [Value.bytes _ _]) _ _ _); refine call_type_of (Tx := "bytes") rfl (by decide +kernel) ?_))
  k_with "m dec" => (first | omega | (simp only [decide_eq_true_eq, decide_eq_false_iff_not, Bool.not_eq_true, beq_iff_eq, beq_eq_false_iff_ne, ne_eq, Bool.not_eq_true', Bool.not_eq_false'] ; omega))
  k_with "ite" => ((k_openite; first | (refine ite_pos (by walk_at "m dec") ?_) | (refine ite_neg (by walk_at "m dec") ?_)))
  k_with "m upd" => (first | exact Upd.head (List.forall_mem_nil _) | exact Upd.head (by assumption) | (refine Upd.tail (by first | assumption | (refine neN ?_; omega)) ?_; walk_at "m upd"))
  k_with "m same" => ((intro z h1 h2 h3; (simp only [List.forall_mem_cons, List.not_mem_nil, false_implies, implies_true, and_true, ne_eq] at h2); (try simp only [List.contains_cons, List.contains_nil, Bool.or_false, Bool.or_eq_false_iff, beq_eq_false_iff_ne, ne_eq] at h3); (simp [kstB, h1, h2, h3]; done)))
  k_with "call builtin:list.append" => (((with_reducible show wpAny _ _ (call (Value.builtin _) [Value.ref _, _]) _ _ _); (refine' append_K ?k1 ?k2 ?k3 ?_ ?z; (case k1 => assumption); (case k2 => assumption); (case k3 => walk_at "m upd"); (case z => first | assumption | exact (by assumption : ∀ x : Value, _) _)); intro h9 F9 N9; (try k_sweep)))
  k_with "m ksame" => ((intro z h2 h3; (simp only [List.forall_mem_cons, List.not_mem_nil, false_implies, implies_true, and_true, ne_eq] at h2); (try simp only [List.contains_cons, List.contains_nil, Bool.or_false, Bool.or_eq_false_iff, beq_eq_false_iff_ne, ne_eq] at h3); (simp [kstB, h2, h3]; done)))
  trivial

def rowBlk (x y z : Int) (k n : Nat) : List (Int × Int) := (List.range n).map fun (r : Nat) => ((2 * (r : Int) + 1) * (x * y * z) / [x, y, z].getD (k : Int).toNat 0, (k : Int))
def rowTo (x y z : Int) (n : Nat) : List (Int × Int) := (List.range n).flatMap fun (k : Nat) => rowBlk x y z k ([x, y, z].getD (k : Int).toNat 0).toNat
theorem rowTo_succ (x y z : Int) (n : Nat) : rowTo x y z (n + 1) = rowTo x y z n ++ rowBlk x y z n ([x, y, z].getD (n : Int).toNat 0).toNat := by
  unfold rowTo
  rw [List.range_succ, List.flatMap_append]; simp
theorem rowBlk_succ (x y z : Int) (k n : Nat) : rowBlk x y z k (n + 1) = rowBlk x y z k n ++ [((2 * (n : Int) + 1) * (x * y * z) / [x, y, z].getD (k : Int).toNat 0, (k : Int))] := by
  unfold rowBlk
  rw [List.range_succ, List.map_append]; rfl
def spreadOk (x y z : Nat) : Bool :=
  let r := spread x y z
  decide (r.length = x + y + z) && ((List.range 3).all fun l => decide (((places r l).length : Int) = shG x y z l)) && r.all fun e => decide (0 ≤ e ∧ e ≤ 2)
theorem spread_all : ∀ x < 5, ∀ y < 5, ∀ z < 5, spreadOk (x + 1) (y + 1) (z + 1) = true := by decide +kernel
theorem spread_ok {x y z : Int} (hx : 1 ≤ x ∧ x ≤ 5) (hy : 1 ≤ y ∧ y ≤ 5) (hz : 1 ≤ z ∧ z ≤ 5) : RowOk x y z (spread x y z) ∧ ∀ e ∈ spread x y z, 0 ≤ e ∧ e ≤ 2 := by
  obtain ⟨a, ha, rfl⟩ := nat5 hx
  obtain ⟨b, hb, rfl⟩ := nat5 hy
  obtain ⟨c, hc, rfl⟩ := nat5 hz
  have h := spread_all a ha b hb c hc
  unfold spreadOk at h
  dsimp only at h
  rw [Bool.and_eq_true, Bool.and_eq_true, decide_eq_true_eq, List.all_eq_true, List.all_eq_true] at h
  refine ⟨⟨by omega, fun l h0 h2 => ?_⟩, fun e he => of_decide_eq_true (h.2 e he)⟩
  obtain ⟨k, rfl⟩ := Int.eq_ofNat_of_zero_le h0
  exact of_decide_eq_true (h.1.2 k (List.mem_range.mpr (by omega)))
theorem snd_at {ps : List (Int × Int)} {sp : List Int} {i : Nat} (h : ps.map (fun q => q.2) = sp) (hi : i < ps.length) : sp[i]? = some (ps.getD i (0, 0)).2 := by
  rw [← h, List.getElem?_map, List.getD_eq_getElem?_getD, List.getElem?_eq_getElem hi]; rfl
theorem rowBlk_len (x y z : Int) (k n : Nat) : (rowBlk x y z k n).length = n := by
  unfold rowBlk
  rw [List.length_map, List.length_range]
theorem sh5 {x y z : Int} (hx : 1 ≤ x ∧ x ≤ 5) (hy : 1 ≤ y ∧ y ≤ 5) (hz : 1 ≤ z ∧ z ≤ 5) : ∀ k : Nat, ([x, y, z].getD (k : Int).toNat 0).toNat ≤ 5
  | 0 => by show x.toNat ≤ 5; omega
  | 1 => by show y.toNat ≤ 5; omega
  | 2 => by show z.toNat ≤ 5; omega
  | _ + 3 => Nat.zero_le _
theorem rowTo_len {x y z : Int} (h : ∀ k : Nat, ([x, y, z].getD (k : Int).toNat 0).toNat ≤ 5) : ∀ n, (rowTo x y z n).length ≤ 5 * n
  | 0 => Nat.le_refl _
  | n + 1 => by
    rw [rowTo_succ, List.length_append, rowBlk_len]
    have := rowTo_len h n
    have := h n
    omega

theorem words_R2_1 : True := by
  k_with "eval Name" => (((with_reducible show wpAny _ _ (eval (PySem.Expr.Name _ _) (compEnvC _ _ _ _)) _ _ _); (first
    | k_dflt (refine' nameE_L ?k1 ?k2 ?k3 ?_ ?k4 ?k5 ?k6; (case k5 => exact rfl); (case k1 => assumption); (case k2 => exact rfl); (case k3 => exact rfl); (case k4 => exact rfl); (case k6 => decide))
    | k_dflt (refine' nameE_C ?k1 ?k2 ?k3 ?_ ?k4 ?k5 ?k6; (case k5 => exact rfl); (case k1 => assumption); (case k2 => exact rfl); (case k3 => assumption); (case k4 => exact rfl); (case k6 => decide))
    | k_dflt (refine' nameE_K ?k1 ?k2 ?k3 ?e ?_ ?kg ?k4 ?k5 ?k6; (case k5 => exact rfl); (case k1 => assumption); (case k2 => assumption); (case k3 => assumption); (case e => k_is); (case kg => exact rfl); (case k4 => exact rfl); (case k6 => decide))
    | k_dflt (refine' nameE_B ?k1 ?k2 ?k3 ?e ?b ?n ?_ ?kg ?kb ?k4 ?k5 ?k6; (case k5 => exact rfl); (case k1 => assumption); (case k2 => assumption); (case k3 => assumption); (case e => k_is); (case b => boot_by_name); (case n => decide); (case kg => exact rfl); (case kb => exact rfl); (case k4 => exact rfl); (case k6 => decide)))))
  k_with "binaryOp FloorDiv int int" => (((with_reducible show wpAny _ _ (binaryOp _ (Value.int _ _) (Value.int _ _)) _ _ _); k_dflt (refine fdiv_e (by first | assumption | decide | omega) ?_)))
  k_with "binaryOp Mod int int" => (((with_reducible show wpAny _ _ (binaryOp _ (Value.int _ _) (Value.int _ _)) _ _ _); k_dflt (refine mod_e (by first | decide | assumption | omega) ?_)))
  k_with "binaryOp Mult int int" => (((with_reducible show wpAny _ _ (binaryOp _ (Value.int _ _) (Value.int _ _)) _ _ _); (first | k_dflt (refine mul_r (by decide) ?_) | k_dflt (refine mul_e (by first | decide | assumption | omega) ?_))))
  k_with "call builtin:len" => (((with_reducible show wpAny _ _ (call (Value.builtin "len") [Value.ref _]) _ _ _); (refine' lenL ?k1 ?k2 ?k3 ?_; (case k1 => is_list); (case k2 => assumption); (case k3 => assumption))))
  k_with "subscriptTail" => (((with_reducible show wpAny _ _ (subscriptTail _ _ (Value.ref _) (Value.int _ _)) _ _ _); (refine' itemL ?k1 ?k2 ?k3 ?k4 ?_ ?k6; (case k1 => is_list); (case k2 => assumption); (case k3 => assumption); (case k4 => assumption); (case k6 => with_unfolding_all rfl)); intro t9))
  k_with "exec While Compare cons nil" => (refine haltQ ?_)
  k_with "exec While" => (refine haltQ ?_)
  k_with "KswPost" => (refine haltQ ?_)
  k_with "pyIter ref" => (refine haltQ ?_)
  k_with "exec Assign cons ListComp" => (refine haltQ ?_)
  k_with "EEnd" => (refine haltQ ?_)
  k_with "InvPostN" => (refine haltQ ?_)
  k_with "eval ListComp" => (refine haltQ ?_)
  k_with "call builtin:sorted" => (refine haltQ ?_)
  trivial
theorem c_row {w : World} {mean : ExcName → Option Value} {mg mb : Str → Option Value} {s : Shared} {a : Addr} {va : List Value} {x y z : Int}
    (X : (Mine.hd.heap_39 w.params).In s.heap) (T : Top Vw Ls mean mg mb s.heap) (ha : s.heap.IsList a va.toArray) (hia : IntsAre va [x, y, z]) (hx : 1 ≤ x ∧ x ≤ 5) (hy : 1 ≤ y ∧ y ≤ 5) (hz : 1 ≤ z ∧ z ≤ 5) :
    Ctr w s 800 8000 (.ref 161) [.ref a] [] (fun v h' => NewInts s.heap v h' (spread x y z)) := by
  intro Q E hret
  refine wpAny_call ?_
  refine' enterC (binds := [(Str.ofString "shares", .ref a)]) X T ?k6 ?k7 ?k8 ?k9 ?kB ?kD ?_ ?c2 ?c3 ?c4
  (case k6 => k_is)
  (case k7 => k_is)
  (case k8 => decide)
  (case k9 => exact BindsTo.of_eq rfl)
  (case kB => exact rfl)
  (case kD => decide +kernel)
  (case c2 => exact rfl)
  (case c3 => exact rfl)
  (case c4 => exact rfl)
  intro L h tk cells F N Y
  have hY := CellsAre.two Y
  obtain ⟨o1, o2, hE, d1, d2⟩ := hY
  subst hE
  have c2 : o2.data = .cell (some (.ref a)) := d2
  clear Y
  k_unmd
  refine stopQ ?_
  k_fold
  k_steps
  rename_i ow F1 N1 dw
  unfold Halt
  have dw1 : ow.data = .cell (some (.int (x * y * z) _)) := dw
  refine comp_assign rfl rfl (by decide) rfl (by decide) rfl rfl ?_
  k_steps
  rename IsRange _ _ _ _ _ _ _ _ => R1
  rename Fr _ _ _ _ => F2
  rename News _ _ _ _ => N2
  unfold Halt
  have hs1 := N2 _ (.head _)
  have hs2 := N2 _ (.tail _ (.head _))
  have hw := pb3 hx hy hz
  refine rangeSrc (s := { s with heap := _, toks := _ }) (b := 3) (news₀ := []) 3 R1 (by decide) (by decide) _ (fun i _ vs nw => PairsIn nw vs (rowTo x y z i)) rfl rfl (Ext.refl _) (Nat.le_refl _) (fun _ h => nomatch h) (fun _ => trivial) (fun _ _ _ => turn_nest fun _ => rfl) ?_ ?_ ?hh
  case hh => rfl
  · rintro D C i tv h tk m₁ vs₁ k₁ news₁ own hD hi hP hnf hown hnD F3 N3
    have X3 := Frag.In.keeps X F2.keep
    have T3 := Top.keeps T F2.keep
    have ha3 := ha.at fun o e => F2.keep _ o e
    have hc1 : Heap.IsCell _ (L + 1 + 1) (some (.int (x * y * z) _)) := ⟨_, hs1.1, dw1⟩
    have hc2 : Heap.IsCell _ (L + 1) (some (.ref a)) := ⟨_, hs2.1, c2⟩
    have hsh := sh_b (x := x) (y := y) (z := z) (k := (i : Int)) (by omega) (by omega) hx hy hz
    have hi2 : (i : Int) < 3 := by omega
    clear R1 hs1 hs2 dw F2 N2
    unfold nestB
    k_steps
    rename IsRange _ _ _ _ _ _ _ _ => R4
    rename Fr _ _ _ _ => F4
    rename News _ _ _ _ => N4
    unfold Halt
    have hb5 : ([x, y, z].getD (i : Int).toNat 0).toNat ≤ 5 := by omega
    have hbe : [x, y, z].getD (i : Int).toNat 0 = (([x, y, z].getD (i : Int).toNat 0).toNat : Int) := by omega
    have hv15 : vs₁.length ≤ 500 := by
      have := rowTo_len (sh5 hx hy hz) i
      rw [hP.len]; omega
    refine inner_range (s := { s with heap := _, toks := _ }) ([x, y, z].getD (i : Int).toNat 0).toNat (fun j m ws nw => m (Str.ofString "k") = some (.int (i : Int) tv) ∧ ∃ nw', nw = nw' ++ own ∧ PairsIn nw' ws (rowTo x y z i ++ rowBlk x y z i j) ∧ ∀ p ∈ nw', p.1 ∉ [_]) R4 hbe (Nat.le_trans hb5 (by decide)) rfl rfl F4 N4 hnD
      ⟨rfl, news₁, rfl, by show PairsIn _ _ (_ ++ []); rw [List.append_nil]; exact hP, hnf⟩ ?_ ?_ ?hh
    case hh => rfl
    · rintro j tj h3 tk3 m3 ws k3 nw own3 hj ⟨hk, nw', rfl, hw, hnf'⟩ hnf3 hown3 hnD3 ⟨oI, hoI⟩ F5 N5
      have hwl : ws.length ≤ 1000 := by
        have h1 := hP.len
        rw [hw.len, List.length_append, ← h1, rowBlk_len]; omega
      refine body_elt (k := k3) hwl (fun p hp => hnD3 p (List.mem_append_right _ hp)) ?_
      have F5 := fr_same (x := Str.ofString "k") F5 ((if_neg (by decide)).trans hk)
      clear F4 N4 R4
      k_steps
      rename_i D9 h9 F9 N9 l9
      unfold Halt
      have hD9 : D9 ∉ [_] := fun hm => absurd (List.mem_singleton.mp hm) (Nat.ne_of_gt (kst_ltOf l9.2 (_, oI) (List.mem_append_right _ hoI)))
      refine eend_push F9 N9 hnf3 hD9 hnD3 (Nat.ne_of_gt l9.1) ?_
      refine ⟨rfl, (D9, _) :: nw', rfl, ?_, List.forall_mem_cons.mpr ⟨?_, hnf'⟩⟩
      · rw [rowBlk_succ, ← List.append_assoc]
        exact (hw.sub fun p hp => .tail _ hp).snoc (p := (_, _)) (.head _)
      · exact fun hm => absurd (List.mem_singleton.mp hm) (Nat.ne_of_gt (Nat.lt_trans hD l9.1))
    · rintro h3 tk3 m3 ws k3 nw ⟨_, nw', rfl, hw, hnf'⟩ hnD3 F5 N5
      exact ⟨h3, tk3, m3, ws, k3, nw', rfl, F5, N5, hnf', fun p hp => hnD3 p (List.mem_append_left _ hp), by rw [rowTo_succ]; exact hw⟩
  · rintro H D C h' tk' m₁ us k₁ news₁ hD hDC hP hnD F3 N3
    refine ⟨_, F2.ns, led_ne F2 N3, fun h' tk' hns hk hl => ?_⟩
    obtain ⟨F4, N4⟩ := after_comp F2 N2 (led_ne F2 N3) hns hk hl
    clear hk hl hns F3 N3 R1 F2 N2 hs1 hs2 dw
    k_steps
    rename Fr _ _ _ _ => F5
    rename News _ _ _ _ => N5
    unfold Halt
    refine comp_eval rfl (by decide) rfl (by decide) ?_
    k_steps
    obtain ⟨p, hrun, hidx, hout⟩ := row_run hx hy hz
    have hlen := row_len hx hy hz
    unfold Halt
    refine sortedT F5 N5 ⟨_, (N5 _ (.head _)).1, rfl, k₁, rfl⟩ (ps := rowPairs x y z) (PairsIn.sub (fun q hq => .tail _ (List.mem_append_left _ hq)) hP) hlen.1 hlen.2 (by exact Nat.le_of_ble_eq_true rfl) hrun hidx ?_
    intro D2 us2 h2 c2' F6 N6 hD2 hP2
    show wpAny _ _ (pyIter _) _ _ _
    have hmap : (p.toList.map fun i => (rowPairs x y z).getD i (0, 0)).map (fun q => q.2) = spread x y z := by rw [List.map_map]; exact hout
    refine pairSrc (s := { s with heap := _, toks := _ }) ⟨_, (N6 _ (.head _)).1, rfl, _, rfl⟩ hP2 (fun q hq => (N6 q (.tail _ hq)).1) (fun i vs => IntsAre vs ((spread x y z).take i)) rfl rfl rfl .nil ?_ ?_ ?hh
    case hh => rfl
    · intro D3 C3 i t u h3 tk3 m3 vs3 k3 own hi hj F7 N7 hnD3
      have hget := snd_at hmap hi
      have hvl : vs3.length ≤ 1000 := by
        have h1 := (spread_ok hx hy hz).1.1
        rw [hj.length, List.length_take]
        omega
      refine body_elt (k := k3) hvl hnD3 ?_
      clear F6 N6 F5 N5
      k_steps
      unfold Halt
      exact ⟨_, _, _, [], rfl, F7, N7, List.forall_mem_nil _, List.forall_mem_nil _, by rw [List.take_add_one, hget]; exact intsAre_snoc hj, rfl⟩
    · intro H3 D3 C3 h3 tk3 m3 vs3 k3 hj F7 N7 h4 tk4 hE hl
      have F8 := fr_ext F6 hE
      have N8 := news_new F6 N6 hE (hl _ (.head _)).2 (hl _ (.head _)).1
      have hj2 : IntsAre vs3 (spread x y z) := by
        have e : (p.toList.map fun i => (rowPairs x y z).getD i (0, 0)).length = (spread x y z).length := by rw [← hmap]; exact (List.length_map ..).symm
        have hj := hj
        rw [e, List.take_length] at hj; exact hj
      clear F6 N6 F5 N5 F7 N7 hl hE hj
      k_steps
      exact hret _ _ _ F8.keep (NewInts.mk N8 (.head _) hj2)


theorem none_Q0 : True := by
  k_with_none
  trivial
theorem words_LQ0_1 : True := by
  k_with "call type:type" => (((with_reducible show wpAny _ _ (call _ [Value.bytes _ _]) _ _ _); refine call_type_of (Tx := "bytes") rfl (by decide +kernel) ?_))
  k_with "m dec" => (first | omega | (simp only [decide_eq_true_eq, decide_eq_false_iff_not, Bool.not_eq_true, beq_iff_eq, beq_eq_false_iff_ne, ne_eq, Bool.not_eq_true', Bool.not_eq_false'] ; omega))
  k_with "ite" => ((k_openite; first | (refine ite_pos (by walk_at "m dec") ?_) | (refine ite_neg (by walk_at "m dec") ?_)))
  k_with "m upd" => (first | exact Upd.head (List.forall_mem_nil _) | exact Upd.head (by assumption) | (refine Upd.tail (by first | assumption | (refine neN ?_; omega)) ?_; walk_at "m upd"))
  k_with "m same" => ((intro z h1 h2 h3; (simp only [List.forall_mem_cons, List.not_mem_nil, false_implies, implies_true, and_true, ne_eq] at h2); (try simp only [List.contains_cons, List.contains_nil, Bool.or_false, Bool.or_eq_false_iff, beq_eq_false_iff_ne, ne_eq] at h3); (simp [kstB, h1, h2, h3]; done)))
  k_with "call builtin:list.append" => (((with_reducible show wpAny _ _ (call (Value.builtin _) [Value.ref _, _]) _ _ _); (refine' append_K ?k1 ?k2 ?k3 ?_ ?z; (case k1 => assumption); (case k2 => assumption); (case k3 => walk_at "m upd"); (case z => first | assumption | exact (by assumption : ∀ x : Value, _) _)); intro h9 F9 N9; (try k_sweep)))
  k_with "m ksame" => ((intro z h2 h3; (simp only [List.forall_mem_cons, List.not_mem_nil, false_implies, implies_true, and_true, ne_eq] at h2); (try simp only [List.contains_cons, List.contains_nil, Bool.or_false, Bool.or_eq_false_iff, beq_eq_false_iff_ne, ne_eq] at h3); (simp [kstB, h2, h3]; done)))
  trivial
section
variable {prog : Program} {w : World} {A : Around} {E : Value → Shared → Prop} {s : Shared} {h₀ : Heap} {L : Addr} {m : Str → Option Value} {news : List (Addr × Obj)} {Q : Value → Shared → Prop} {b : Array UInt8} {t u : Tok}
theorem iter_b (F : Fr h₀ L s.heap m) (N : News h₀ L s.heap news) (h : ∀ I h' oI, Fr h₀ L h' m → News h₀ L h' ((I, oI) :: news) → (∀ p ∈ news, p.1 < I) → BIt oI b t 0 → Q (.ref I) { s with heap := h' }) : wpAny (model prog w) A (call (.builtin "iter") [.bytes b t]) Q E s := by
  refine call_function_entry (by decide +kernel) (by decide +kernel) kdk_entry_iter (kdk_args_iter _) ?_
  unfold Builtin.«iter»
  refine wpAny_bind (m := someArgs "iter" 1 2 _) (wpAny_of_eq (a := [Value.bytes b t]) (by first | rfl | kernel_rfl!) ?_)
  show wpAny _ _ (pyIter (.bytes b t) >>= _) _ _ _
  refine wpAny_bind (KBw.pyIter_bytes ?_)
  exact wpAny_pure ⟨_, rfl, h _ _ _ (F.push _) (News.push F N _ rfl) (fun q hq => Heap.lt_size (N q hq).1) ⟨rfl, rfl⟩⟩
theorem chr64 {d : Int} (hd : 0 ≤ d ∧ d < 64) (h : Q (.str (txt [d]) s.toks) { s with toks := s.toks + 1 }) : wpAny (model prog w) A (call (.builtin "chr") [.int (b64sgn d) t]) Q E s := by
  refine P.chr_of_int ?_ h
  obtain ⟨k, rfl, hk⟩ := nat_of (k := 64) hd.1 hd.2
  exact (by decide +kernel : ∀ k : Nat, k < 64 → (decide (b64sgn (k : Int) < 0) || decide (b64sgn (k : Int) > 0x10FFFF)) = false) k hk
theorem index64 {d : Int} (hd : 0 ≤ d ∧ d < 64) (h : Q (.int d s.toks) { s with toks := s.toks + 1 }) : wpAny (model prog w) A (call (.builtin "str.index") [.str signs64 t, .str (txt [d]) u]) Q E s := by
  obtain ⟨k, rfl, hk⟩ := nat_of (k := 64) hd.1 hd.2
  exact SC.index ((by decide +kernel : ∀ k : Nat, k < 64 → Builtin.Str.occurrences signs64 (txt [(k : Int)]) 0 signs64.length 1 = [k]) k hk) h
end
theorem txt_codes : ∀ {ds : List Int}, (∀ d ∈ ds, 0 ≤ d ∧ d < 64) → (txt ds).cps.toList.map (fun c : Nat => (c : Int)) = ds.map b64sgn
  | [], _ => rfl
  | d :: r, h => by
    show ((b64sgn d).toNat : Int) :: (txt r).cps.toList.map _ = b64sgn d :: r.map b64sgn
    rw [txt_codes fun e he => h e (.tail _ he)]
    obtain ⟨k, rfl, hk⟩ := nat_of (k := 64) (h d (.head _)).1 (h d (.head _)).2
    rw [(by decide +kernel : ∀ k : Nat, k < 64 → ((b64sgn (k : Int)).toNat : Int) = b64sgn (k : Int)) k hk]
theorem sgn_ok {d : Int} (h : 0 ≤ d ∧ d < 64) : b64val (b64sgn d) = d ∧ B64ok (b64sgn d) ∧ (b64sgn d).toNat < 128 := by
  obtain ⟨k, rfl, hk⟩ := nat_of (k := 64) h.1 h.2
  have := (by decide +kernel : ∀ k : Nat, k < 64 → b64val (b64sgn (k : Int)) = (k : Int) ∧ (0 ≤ b64val (b64sgn (k : Int)) ∧ b64val (b64sgn (k : Int)) < 64 ∧ b64sgn (k : Int) ≠ 61) ∧ (b64sgn (k : Int)).toNat < 128) k hk
  exact this
theorem txt_mem {ds : List Int} (hd : ∀ d ∈ ds, 0 ≤ d ∧ d < 64) : ∀ c ∈ (txt ds).cps.toList, c < 128 ∧ B64ok (c : Int) := fun c hc => by
  have hc' : c ∈ ds.map fun d => (b64sgn d).toNat := hc
  obtain ⟨d, hm, rfl⟩ := List.mem_map.mp hc'
  have h := sgn_ok (hd d hm)
  refine ⟨h.2.2, ?_⟩
  obtain ⟨k, rfl, hk⟩ := nat_of (k := 64) (hd d hm).1 (hd d hm).2
  rw [(by decide +kernel : ∀ k : Nat, k < 64 → ((b64sgn (k : Int)).toNat : Int) = b64sgn (k : Int)) k hk]
  exact h.2.1
/-- a thing of the ledger is hidden from the base -/
theorem hide1 {h₀ h : Heap} {L I : Addr} {m : Str → Option Value} {o : Obj} {news : List (Addr × Obj)} (F : Fr h₀ L h m) (N : News h₀ L h ((I, o) :: news)) (hne : ∀ p ∈ news, p.1 ≠ I) :
    Fr h₀ L (hideAll h [I]) m ∧ News h₀ L (hideAll h [I]) news ∧ Ext (hideAll h [I]) h ∧ (hideAll h [I]).objs.size = h.objs.size ∧ (hideAll h [I]).get? I = none := by
  have hI := N _ (.head _)
  obtain ⟨oL, es, ep, hL, r⟩ := F.ns
  refine ⟨⟨⟨oL, es, ep, hideAll_get _ hL (fun q => hI.2.1 (List.mem_singleton.mp q).symm), r⟩, fun b x e => hideAll_get _ (F.keep b x e) (fun q => ?_), F.above⟩, fun p hp => ⟨hideAll_get _ (N p (.tail _ hp)).1 (fun q => hne p hp (List.mem_singleton.mp q)), (N p (.tail _ hp)).2⟩, fun b x e => of_hideAll _ e, hideAll_size _ _, hideAll_none _ (.head _)⟩
  have := hI.2.2
  rw [← List.mem_singleton.mp q, e] at this; cases this
section
variable {prog : Program} {w : World} {A : Around} {E : Value → Shared → Prop} {env cenv : Env} {elt iter : PySem.Expr} {x : Str} {px : Pos} {scope : Scope} {cl : List (Str × Addr)} {pos : Pos} {b : Array UInt8} {t : Tok}
/-- the source: an iterator over bytes, of the ledger, from its i₀-th place on -/
theorem biterSrc {Qd : Shared → Heap → List (Addr × Obj) → Addr → Addr → Heap → Nat → Prop} {s : Shared} {I : Addr} {oI : Obj} {i₀ n : Nat} (g : Heap) (hg : Ext g s.heap) (hgs : g.objs.size ≤ s.heap.objs.size) (hgI : g.get? I = none) (hI : s.heap.get? I = some oI) (hB : BIt oI b t i₀) (hn : i₀ + n = b.size) (J : Nat → List Value → Prop)
    (hx : scope.names.lookup x = some .local) (hkind : scope.kind = .function) (hJ : J 0 [])
    (turn : ∀ D C (i : Nat) (c : UInt8) u h tk (m₁ : Str → Option Value) vs₁ k₁ own, i < n → b[i₀ + i]? = some c → J i vs₁ → Fr g C h (fun z => if z = x then some (.int (c.toNat : Int) u) else m₁ z) → News g C h ((D, W.listOf vs₁.toArray k₁) :: own) → (∀ p ∈ own, p.1 ≠ D) →
      eltB prog w A elt (compEnvC scope cl C env) D (fun s' => CEnd g C D [I] own (fun _ vs nw => J (i + 1) vs ∧ nw = []) { s with heap := h, toks := tk } s') { s with heap := h, toks := tk })
    (done : ∀ D C h tk (m₁ : Str → Option Value) vs₁ k₁, J n vs₁ → Fr g C h m₁ → News g C h [(D, W.listOf vs₁.toArray k₁)] → Qd s g [(D, W.listOf vs₁.toArray k₁)] D C h tk) (hh : A.handled = none := by rfl) :
    wpAny (model prog w) A (pyIter (.ref I)) (fun it s₂ => CompAt prog w A env elt iter (.Name x px) [] [] scope cl pos (Qd s₂) it s₂) E s := by
  have hit : KBw.IsBytesIter s.heap I b t i₀ := ⟨oI, hI, hB.1, hB.2⟩
  refine KBw.pyIter_self hit ?_
  have W0 := KBw.walks (prog := prog) (w := w) hh I b t
  have Wk : Walks prog w A I [I] [I] n (fun i v => ∃ c u, b[i₀ + i]? = some c ∧ v = .int (c.toNat : Int) u) (fun i h => KBw.IsBytesIter h I b t (i₀ + i)) :=
    ⟨W0.sub, fun i h h' st k => W0.frame _ _ _ st k, fun i s Q E hi st hQ => W0.item (i₀ + i) s Q E (by omega) st hQ, fun s Q E st hQ => W0.done s Q E (hn ▸ st) hQ, fun i s Q E st hQ => W0.self (i₀ + i) s Q E st hQ⟩
  refine compAtN (news₀ := []) g (fun i _ vs nw => J i vs ∧ nw = []) hx hkind Wk hit (fun c hc => by rw [List.mem_singleton.mp hc]; exact Heap.lt_size hI) hg hgs (fun c hc => by rw [List.mem_singleton.mp hc]; exact hgI) (fun _ h => nomatch h) (fun _ => ⟨hJ, rfl⟩) (fun _ _ => turn_elt) ?_ ?_
  · rintro D C i v h tk m₁ vs₁ k₁ news₁ own _ hi ⟨c, u, hc, rfl⟩ ⟨hj, rfl⟩ _ _ hnD F N
    exact turn D C i c u h tk m₁ vs₁ k₁ own hi hc hj F N hnD
  · rintro D C h tk m₁ vs₁ k₁ news₁ _ _ ⟨hj, rfl⟩ _ F N
    exact done D C h tk m₁ vs₁ k₁ hj F N
/-- the source: bytes -/
theorem bytesSrc {Qd : Shared → Heap → List (Addr × Obj) → Addr → Addr → Heap → Nat → Prop} {s : Shared} (J : Nat → List Value → Prop)
    (hx : scope.names.lookup x = some .local) (hkind : scope.kind = .function) (hJ : J 0 [])
    (turn : ∀ D C (i : Nat) (c : UInt8) u h tk (m₁ : Str → Option Value) vs₁ k₁ own, i < b.size → b[i]? = some c → J i vs₁ → Fr s.heap C h (fun z => if z = x then some (.int (c.toNat : Int) u) else m₁ z) → News s.heap C h ((D, W.listOf vs₁.toArray k₁) :: own) → (∀ p ∈ own, p.1 ≠ D) →
      eltB prog w A elt (compEnvC scope cl C env) D (fun s' => CEnd s.heap C D [s.heap.objs.size] own (fun _ vs nw => J (i + 1) vs ∧ nw = []) { s with heap := h, toks := tk } s') { s with heap := h, toks := tk })
    (done : ∀ H D C h tk (m₁ : Str → Option Value) vs₁ k₁, J b.size vs₁ → Fr s.heap C h m₁ → News s.heap C h [(D, W.listOf vs₁.toArray k₁)] → Qd { s with heap := H } s.heap [(D, W.listOf vs₁.toArray k₁)] D C h tk) (hh : A.handled = none := by rfl) :
    wpAny (model prog w) A (pyIter (.bytes b t)) (fun it s₂ => CompAt prog w A env elt iter (.Name x px) [] [] scope cl pos (Qd s₂) it s₂) E s := by
  refine KBw.pyIter_bytes ?_
  have Wk := KBw.walks (prog := prog) (w := w) hh s.heap.objs.size b t
  refine compAtN (s₂ := { s with heap := s.heap.push { cls := .type "bytes_iterator", data := .fields #[.bytes b t, .int 0 0] } }) (news₀ := []) s.heap (fun i _ vs nw => J i vs ∧ nw = []) hx hkind Wk ⟨_, Heap.get?_push_size _ rfl, rfl, rfl⟩ ?_ ?_ ?_ ?_ (fun _ h => nomatch h) (fun _ => ⟨hJ, rfl⟩) (fun _ _ => turn_elt) ?_ ?_
  · intro c hc
    rw [List.mem_singleton.mp hc]
    show @LT.lt Nat _ _ (s.heap.push _).objs.size
    rw [Heap.size_push]; exact Nat.lt_succ_self _
  · exact fun b o e => Heap.get?_push_of_some _ e
  · show _ ≤ (s.heap.push _).objs.size
    rw [Heap.size_push]; exact Nat.le_succ _
  · intro c hc
    rw [List.mem_singleton.mp hc]; exact Heap.get?_none_of_le (Nat.le_refl _)
  · rintro D C i v h tk m₁ vs₁ k₁ news₁ own _ hi ⟨c, u, hc, rfl⟩ ⟨hj, rfl⟩ _ _ hnD F N
    exact turn D C i c u h tk m₁ vs₁ k₁ own hi hc hj F N hnD
  · rintro D C h tk m₁ vs₁ k₁ news₁ _ _ ⟨hj, rfl⟩ _ F N
    exact done _ D C h tk m₁ vs₁ k₁ hj F N
end


theorem none_L0 : True := by
  k_with_none
  trivial
theorem words_LL0_1 : True := by
  k_with "call type:type" => (((with_reducible show wpAny _ _ (call _ [Value.bytes _ _]) _ _ _); refine call_type_of (Tx := "bytes") rfl (by decide +kernel) ?_))
  k_with "m dec" => (first | omega | (simp only [decide_eq_true_eq, decide_eq_false_iff_not, Bool.not_eq_true, beq_iff_eq, beq_eq_false_iff_ne, ne_eq, Bool.not_eq_true', Bool.not_eq_false'] ; omega))
  k_with "ite" => ((k_openite; first | (refine ite_pos (by walk_at "m dec") ?_) | (refine ite_neg (by walk_at "m dec") ?_)))
  k_with "m upd" => (first | exact Upd.head (List.forall_mem_nil _) | exact Upd.head (by assumption) | (refine Upd.tail (by first | assumption | (refine neN ?_; omega)) ?_; walk_at "m upd"))
  k_with "m same" => ((intro z h1 h2 h3; (simp only [List.forall_mem_cons, List.not_mem_nil, false_implies, implies_true, and_true, ne_eq] at h2); (try simp only [List.contains_cons, List.contains_nil, Bool.or_false, Bool.or_eq_false_iff, beq_eq_false_iff_ne, ne_eq] at h3); (simp [kstB, h1, h2, h3]; done)))
  k_with "call builtin:list.append" => (((with_reducible show wpAny _ _ (call (Value.builtin _) [Value.ref _, _]) _ _ _); (refine' append_K ?k1 ?k2 ?k3 ?_ ?z; (case k1 => assumption); (case k2 => assumption); (case k3 => walk_at "m upd"); (case z => first | assumption | exact (by assumption : ∀ x : Value, _) _)); intro h9 F9 N9; (try k_sweep)))
  k_with "m ksame" => ((intro z h2 h3; (simp only [List.forall_mem_cons, List.not_mem_nil, false_implies, implies_true, and_true, ne_eq] at h2); (try simp only [List.contains_cons, List.contains_nil, Bool.or_false, Bool.or_eq_false_iff, beq_eq_false_iff_ne, ne_eq] at h3); (simp [kstB, h2, h3]; done)))
  trivial

theorem drop_os {f : Int × List Int → List Int} {os : List (Int × List Int)} {rest : List Int} {i : Nat} {o : Int × List Int} (ho : os[i]? = some o) :
    (os.flatMap f ++ rest).drop ((os.take i).flatMap f).length = f o ++ ((os.drop (i + 1)).flatMap f ++ rest) ∧ ((os.take (i + 1)).flatMap f).length = ((os.take i).flatMap f).length + (f o).length := by
  have e : os = os.take i ++ o :: os.drop (i + 1) := by
    have h1 := List.take_append_drop (i + 1) os
    rw [List.take_add_one, ho, List.append_assoc] at h1
    exact h1.symm
  refine ⟨?_, ?_⟩
  · have e2 : os.flatMap f ++ rest = (os.take i).flatMap f ++ (f o ++ ((os.drop (i + 1)).flatMap f ++ rest)) := by
      conv => lhs; rw [e]
      rw [List.flatMap_append, List.flatMap_cons, List.append_assoc, List.append_assoc]
    rw [e2, List.drop_left]
  · rw [List.take_add_one, ho, List.flatMap_append, List.length_append]
    simp

def decB (ds : List Int) : List Int := ((ds.map b64sgn).foldl a2bStep a2b0).o
def encB (bs : List Int) : List Int := (bs.foldl b2aStep (0, 0, [])).2.2
def rLet (rw : List Int) (q : Int) : Int := rw.getD (q % (rw.length : Int)).toNat 0
def rAhead (x y z : Int) (rw : List Int) (q : Int) : Int := [x, y, z].getD (rLet rw q).toNat 0 * (q / (rw.length : Int)) + ((rw.take (q % (rw.length : Int)).toNat).count (rLet rw q) : Nat)
def rstep (x y z R : Int) (rw : List Int) (c : Int × List Int) : Option (Int × Int × List Int) :=
  if rAhead x y z rw c.1 < R * (rw.length : Int) then (match c.2 with | [] => none | g :: r => some (rLet rw c.1, 64 * rAhead x y z rw c.1 + g, r)) else some (rLet rw c.1, rAhead x y z rw c.1, c.2)
def RRun (x y z R : Int) (rw : List Int) : Int × List Int → List Int → Int × List Int → Prop
  | c, [], d => c = d
  | c, l :: ls, d => ∃ e, rstep x y z R rw c = some (l, e) ∧ RRun x y z R rw e ls d
theorem RRun.snoc {x y z R : Int} {rw : List Int} {d e : Int × List Int} {l : Int} (h : rstep x y z R rw d = some (l, e)) : ∀ {ls : List Int} {c : Int × List Int}, RRun x y z R rw c ls d → RRun x y z R rw c (ls ++ [l]) e
  | [], _, r => ⟨e, (show _ = d from r) ▸ h, rfl⟩
  | _ :: _, _, ⟨f, h1, r⟩ => ⟨f, h1, r.snoc h⟩
structure ReadIn (x y z R st : Int) (fs ds : List Int) : Prop where
  dlen : ds.length % 4 = 0 ∧ 0 < ds.length ∧ ds.length < 1000
  dok : ∀ d ∈ ds, 0 ≤ d ∧ d < 64
  dec : ∃ (os : List (Int × List Int)) (rest : List Int), decB ds = (os.flatMap fun o => o.1 :: o.2) ++ rest ∧ (∀ o ∈ os, VS (o.1 :: o.2) ∧ VB (o.1 % 64) o.2.length) ∧ (os.map fun o => vval 0 (o.1 :: o.2)) = [x, y, z, R, st] ∧ rest.length % 3 = 0 ∧ rest.length < 1000 ∧ encB rest = fs.map b64sgn
  fok : ∀ f ∈ fs, 0 ≤ f ∧ f < 64
  flen : fs.length ≤ 1000
def ReadP (x y z R : Int) (rw : List Int) (st : Int) (fs : List Int) (q : Int) (gs ls : List Int) : Prop :=
  RRun x y z R rw (st, fs) ls (q, gs) ∧ (R * (x + y + z) ≤ q ∧ q < 64 * (R * (x + y + z))) ∧ (∀ f ∈ gs, 0 ≤ f ∧ f < 64) ∧ ls.length + (6720 * gs.length + q.toNat) ≤ 6720 * 1001 ∧ ∀ k ∈ ls, 0 ≤ k ∧ k ≤ 2
theorem ahead_b {x y z R q : Int} {rw : List Int} (hx : 1 ≤ x ∧ x ≤ 5) (hy : 1 ≤ y ∧ y ≤ 5) (hz : 1 ≤ z ∧ z ≤ 5) (hR : 1 ≤ R ∧ R ≤ 7) (hn : (rw.length : Int) = x + y + z) (hl : 0 ≤ rLet rw q ∧ rLet rw q ≤ 2) (hq : R * (x + y + z) ≤ q) :
    R ≤ rAhead x y z rw q ∧ rAhead x y z rw q < q := by
  unfold rAhead
  rw [hn]
  have hf : 1 ≤ [x, y, z].getD (rLet rw q).toNat 0 ∧ [x, y, z].getD (rLet rw q).toNat 0 + 1 ≤ x + y + z := by
    obtain ⟨h0, h2⟩ := hl
    obtain h | h | h : rLet rw q = 0 ∨ rLet rw q = 1 ∨ rLet rw q = 2 := by omega
    · rw [h]; show 1 ≤ x ∧ x + 1 ≤ _; omega
    · rw [h]; show 1 ≤ y ∧ y + 1 ≤ _; omega
    · rw [h]; show 1 ≤ z ∧ z + 1 ≤ _; omega
  have hnp : 0 < x + y + z := by omega
  generalize [x, y, z].getD (rLet rw q).toNat 0 = f at hf
  generalize rLet rw q = l
  generalize x + y + z = n at hf hnp hq
  have hd : R ≤ q / n := Int.le_ediv_of_mul_le hnp hq
  have hm := Int.emod_nonneg q (Int.ne_of_gt hnp)
  have hc : (rw.take (q % n).toNat).count l ≤ (q % n).toNat := Nat.le_trans List.count_le_length (by rw [List.length_take]; exact Nat.min_le_left _ _)
  have hqd := Int.mul_ediv_add_emod q n
  have h1 : 1 * (q / n) ≤ f * (q / n) := Int.mul_le_mul_of_nonneg_right hf.1 (by omega)
  have h2 : (f + 1) * (q / n) ≤ n * (q / n) := Int.mul_le_mul_of_nonneg_right hf.2 (by omega)
  rw [Int.add_mul] at h2
  omega
theorem ReadP.turn {x y z R q st : Int} {rw fs gs ls gs' : List Int} {a : Int} (hx : 1 ≤ x ∧ x ≤ 5) (hy : 1 ≤ y ∧ y ≤ 5) (hz : 1 ≤ z ∧ z ≤ 5) (hR : 1 ≤ R ∧ R ≤ 7) (hn : (rw.length : Int) = x + y + z) (hl : 0 ≤ rLet rw q ∧ rLet rw q ≤ 2)
    (p : ReadP x y z R rw st fs q gs ls) (e : rstep x y z R rw (q, gs) = some (rLet rw q, a, gs')) (hg : ∀ f ∈ gs', 0 ≤ f ∧ f < 64) (ha : R * (x + y + z) ≤ a ∧ a < 64 * (R * (x + y + z))) (hm : 6720 * gs'.length + a.toNat < 6720 * gs.length + q.toNat) :
    ReadP x y z R rw st fs a gs' (ls ++ [rLet rw q]) :=
  ⟨RRun.snoc e p.1, ha, hg, by rw [List.length_append, List.length_singleton]; have := p.2.2.2.1; omega, fun k hk => (List.mem_append.mp hk).elim (p.2.2.2.2 k) fun h => List.mem_singleton.mp h ▸ hl⟩
theorem ReadP.keep {x y z R q st : Int} {rw fs gs ls : List Int} (hx : 1 ≤ x ∧ x ≤ 5) (hy : 1 ≤ y ∧ y ≤ 5) (hz : 1 ≤ z ∧ z ≤ 5) (hR : 1 ≤ R ∧ R ≤ 7) (hn : (rw.length : Int) = x + y + z) (hl : 0 ≤ rLet rw q ∧ rLet rw q ≤ 2)
    (p : ReadP x y z R rw st fs q gs ls) (h : ¬rAhead x y z rw q < R * (rw.length : Int)) :
    ReadP x y z R rw st fs (rAhead x y z rw q) gs (ls ++ [rLet rw q]) ∧ 6720 * gs.length + (rAhead x y z rw q).toNat < 6720 * gs.length + q.toNat := by
  have hb := ahead_b hx hy hz hR hn hl p.2.1.1
  have hm : 6720 * gs.length + (rAhead x y z rw q).toNat < 6720 * gs.length + q.toNat := by omega
  refine ⟨p.turn hx hy hz hR hn hl ?_ p.2.2.1 ⟨?_, ?_⟩ hm, hm⟩
  · unfold rstep; rw [if_neg h]
  · rw [← hn]; omega
  · have := p.2.1.2; omega
theorem ReadP.pop {x y z R q st g : Int} {rw fs gs ls : List Int} (hx : 1 ≤ x ∧ x ≤ 5) (hy : 1 ≤ y ∧ y ≤ 5) (hz : 1 ≤ z ∧ z ≤ 5) (hR : 1 ≤ R ∧ R ≤ 7) (hn : (rw.length : Int) = x + y + z) (hl : 0 ≤ rLet rw q ∧ rLet rw q ≤ 2)
    (p : ReadP x y z R rw st fs q (g :: gs) ls) (h : rAhead x y z rw q < R * (rw.length : Int)) :
    ReadP x y z R rw st fs (64 * rAhead x y z rw q + g) gs (ls ++ [rLet rw q]) ∧ 6720 * gs.length + (64 * rAhead x y z rw q + g).toNat < 6720 * (g :: gs).length + q.toNat := by
  have hb := ahead_b hx hy hz hR hn hl p.2.1.1
  have hg := p.2.2.1 g (.head _)
  have hR15 : R * (x + y + z) ≤ R * 15 := Int.mul_le_mul_of_nonneg_left (by omega) (by omega)
  rw [hn] at h
  have h6 : R * (x + y + z) ≤ 105 := by omega
  have hm : 6720 * gs.length + (64 * rAhead x y z rw q + g).toNat < 6720 * (g :: gs).length + q.toNat := by rw [List.length_cons]; omega
  refine ⟨p.turn hx hy hz hR hn hl ?_ (fun f hf => p.2.2.1 f (.tail _ hf)) ⟨?_, ?_⟩ hm, hm⟩
  · unfold rstep; dsimp only; rw [hn, if_pos h]
  · omega
  · omega
def ReadOut (h₀ : Heap) (x y z R st : Int) (fs : List Int) (v : Value) (h' : Heap) : Prop :=
  ∃ p lt ll q tq n ws kw vl kl ls, v = .ref p ∧ h₀.get? p = none ∧ h₀.get? lt = none ∧ h₀.get? ll = none ∧ h'.get? p = some { cls := .type "tuple", data := .seq #[.ref lt, .ref ll, .int q tq] n } ∧ h'.get? lt = some (W.listOf ws.toArray kw) ∧ IntsAre ws ([x, y, z, R, st] ++ spread x y z) ∧
    h'.get? ll = some (W.listOf vl.toArray kl) ∧ IntsAre vl ls ∧ ReadP x y z R (spread x y z) st fs q [] ls ∧ rAhead x y z (spread x y z) q < R * ((spread x y z).length : Int)


theorem none_L1 : True := by
  k_with_none
  trivial
theorem words_LL1_1 : True := by
  k_with "call type:type" => (((with_reducible show wpAny _ _ (call _ [Value.bytes _ _]) _ _ _); refine call_type_of (Tx := "bytes") rfl (by decide +kernel) ?_))
  k_with "m dec" => (first | omega | (simp only [decide_eq_true_eq, decide_eq_false_iff_not, Bool.not_eq_true, beq_iff_eq, beq_eq_false_iff_ne, ne_eq, Bool.not_eq_true', Bool.not_eq_false'] ; omega))
  k_with "ite" => ((k_openite; first | (refine ite_pos (by walk_at "m dec") ?_) | (refine ite_neg (by walk_at "m dec") ?_)))
  k_with "m upd" => (first | exact Upd.head (List.forall_mem_nil _) | exact Upd.head (by assumption) | (refine Upd.tail (by first | assumption | (refine neN ?_; omega)) ?_; walk_at "m upd"))
  k_with "m same" => ((intro z h1 h2 h3; (simp only [List.forall_mem_cons, List.not_mem_nil, false_implies, implies_true, and_true, ne_eq] at h2); (try simp only [List.contains_cons, List.contains_nil, Bool.or_false, Bool.or_eq_false_iff, beq_eq_false_iff_ne, ne_eq] at h3); (simp [kstB, h1, h2, h3]; done)))
  k_with "call builtin:list.append" => (((with_reducible show wpAny _ _ (call (Value.builtin _) [Value.ref _, _]) _ _ _); (refine' append_K ?k1 ?k2 ?k3 ?_ ?z; (case k1 => assumption); (case k2 => assumption); (case k3 => walk_at "m upd"); (case z => first | assumption | exact (by assumption : ∀ x : Value, _) _)); intro h9 F9 N9; (try k_sweep)))
  k_with "m ksame" => ((intro z h2 h3; (simp only [List.forall_mem_cons, List.not_mem_nil, false_implies, implies_true, and_true, ne_eq] at h2); (try simp only [List.contains_cons, List.contains_nil, Bool.or_false, Bool.or_eq_false_iff, beq_eq_false_iff_ne, ne_eq] at h3); (simp [kstB, h2, h3]; done)))
  trivial

/-- each place of the row is told by its letter and its turn, and the other way about -/
def RowInv (x y z : Int) (rw : List Int) : Prop :=
  (∀ j : Nat, j < rw.length → (((rw.take j).count (rw.getD j 0) : Nat) : Int) < shG x y z (rw.getD j 0) ∧ (places rw (rw.getD j 0)).getD ((rw.take j).count (rw.getD j 0)) 0 = (j : Int)) ∧
  ∀ l : Int, 0 ≤ l → l ≤ 2 → ∀ i : Nat, (i : Int) < shG x y z l → ∃ p : Nat, (places rw l).getD i 0 = (p : Int) ∧ p < rw.length ∧ rw.getD p 0 = l ∧ (rw.take p).count l = i
def invOk (x y z : Nat) : Bool :=
  let r := spread x y z
  ((List.range r.length).all fun j => decide ((((r.take j).count (r.getD j 0) : Nat) : Int) < shG x y z (r.getD j 0)) && decide ((places r (r.getD j 0)).getD ((r.take j).count (r.getD j 0)) 0 = (j : Int))) &&
  (List.range 3).all fun l => (List.range 5).all fun i => decide (((i : Nat) : Int) < shG x y z (l : Nat)) == false ||
    (decide ((places r (l : Nat)).getD i 0 = (((places r (l : Nat)).getD i 0).toNat : Int)) && decide (((places r (l : Nat)).getD i 0).toNat < r.length) && decide (r.getD ((places r (l : Nat)).getD i 0).toNat 0 = ((l : Nat) : Int)) && decide ((r.take ((places r (l : Nat)).getD i 0).toNat).count ((l : Nat) : Int) = i))
theorem inv_all : ∀ x < 5, ∀ y < 5, ∀ z < 5, invOk (x + 1) (y + 1) (z + 1) = true := by decide +kernel
theorem spread_inv {x y z : Int} (hx : 1 ≤ x ∧ x ≤ 5) (hy : 1 ≤ y ∧ y ≤ 5) (hz : 1 ≤ z ∧ z ≤ 5) : RowInv x y z (spread x y z) := by
  have hs : ∀ l, 0 ≤ l → l ≤ 2 → shG x y z l ≤ 5 := fun l h0 h2 => (sh_b h0 h2 hx hy hz).2
  obtain ⟨a, ha, rfl⟩ := nat5 hx
  obtain ⟨b, hb, rfl⟩ := nat5 hy
  obtain ⟨c, hc, rfl⟩ := nat5 hz
  have h := inv_all a ha b hb c hc
  unfold invOk at h
  dsimp only at h
  rw [Bool.and_eq_true, List.all_eq_true, List.all_eq_true] at h
  refine ⟨fun j hj => ?_, fun l h0 h2 i hi => ?_⟩
  · have := h.1 j (List.mem_range.mpr hj)
    rw [Bool.and_eq_true, decide_eq_true_eq, decide_eq_true_eq] at this
    exact this
  · obtain ⟨k, rfl⟩ := Int.eq_ofNat_of_zero_le h0
    have h5 := hs _ h0 h2
    have h3 := h.2 k (List.mem_range.mpr (by omega))
    rw [List.all_eq_true] at h3
    have h3 := h3 i (List.mem_range.mpr (by omega))
    rw [Bool.or_eq_true] at h3
    rcases h3 with h3 | h3
    · rw [decide_eq_true hi] at h3; exact absurd h3 (by decide)
    · simp only [Bool.and_eq_true, decide_eq_true_eq] at h3
      exact ⟨_, h3.1.1.1, h3.1.1.2, h3.1.2, h3.2⟩
/-- a state -/
def Valid (R n q : Int) : Prop := R * n ≤ q ∧ q < 64 * (R * n)
/-- a row that can be walked both ways -/
def Rw (x y z R : Int) (rw : List Int) : Prop := (rw.length : Int) = x + y + z ∧ (∀ e ∈ rw, 0 ≤ e ∧ e ≤ 2) ∧ RowInv x y z rw ∧ ((1 ≤ R ∧ R ≤ 7) ∧ x + y + z ≤ 15) ∧ ∀ l, 0 ≤ l → l ≤ 2 → 1 ≤ shG x y z l ∧ shG x y z l ≤ 5 ∧ shG x y z l + 2 ≤ x + y + z
theorem rw_of {x y z R : Int} (hx : 1 ≤ x ∧ x ≤ 5) (hy : 1 ≤ y ∧ y ≤ 5) (hz : 1 ≤ z ∧ z ≤ 5) (hR : 1 ≤ R ∧ R ≤ 7) : Rw x y z R (spread x y z) :=
  ⟨(spread_ok hx hy hz).1.1, (spread_ok hx hy hz).2, spread_inv hx hy hz, ⟨hR, by omega⟩, fun l h0 h2 => by
    obtain rfl | rfl | rfl : l = 0 ∨ l = 1 ∨ l = 2 := by omega
    · show 1 ≤ x ∧ x ≤ 5 ∧ x + 2 ≤ _; omega
    · show 1 ≤ y ∧ y ≤ 5 ∧ y + 2 ≤ _; omega
    · show 1 ≤ z ∧ z ≤ 5 ∧ z + 2 ≤ _; omega⟩
/-- one step of the reader, undone by the hand -/
theorem step_back {x y z R q q' l : Int} {rw G G' : List Int} (W : Rw x y z R rw) (hq : Valid R rw.length q') (hG : ∀ g ∈ G, 0 ≤ g ∧ g < 64) (h : rstep x y z R rw (q', G) = some (l, q, G')) :
    putStep x y z R rw (q, G') l = (q', G) ∧ Valid R rw.length q ∧ (∀ g ∈ G', 0 ≤ g ∧ g < 64) := by
  obtain ⟨hn, he, hI, ⟨hR, h15⟩, hs⟩ := W
  obtain ⟨hq1, hq2⟩ := hq
  have hx0 : 0 < (rw.length : Int) := by have := hs 0 (by decide) (by decide); omega
  have hm := Int.emod_nonneg q' (Int.ne_of_gt hx0)
  have hm2 := Int.emod_lt_of_pos q' hx0
  have hj : (q' % (rw.length : Int)).toNat < rw.length := by omega
  obtain ⟨hc, hp⟩ := hI.1 _ hj
  have hl : 0 ≤ rLet rw q' ∧ rLet rw q' ≤ 2 := he _ (by
    unfold rLet
    rw [List.getD_eq_getElem?_getD, List.getElem?_eq_getElem hj]
    exact List.getElem_mem hj)
  obtain ⟨f1, f5, f2⟩ := hs _ hl.1 hl.2
  have hd : R ≤ q' / (rw.length : Int) := Int.le_ediv_of_mul_le hx0 hq1
  have hd2 : q' / (rw.length : Int) < 64 * R := Int.ediv_lt_of_lt_mul hx0 (by rw [Int.mul_assoc]; exact hq2)
  have hqd := Int.mul_ediv_add_emod q' (rw.length : Int)
  have ha : rAhead x y z rw q' = shG x y z (rLet rw q') * (q' / (rw.length : Int)) + (((rw.take (q' % (rw.length : Int)).toNat).count (rLet rw q') : Nat) : Int) := rfl
  change (((rw.take (q' % (rw.length : Int)).toNat).count (rLet rw q') : Nat) : Int) < shG x y z (rLet rw q') at hc
  change (places rw (rLet rw q')).getD ((rw.take (q' % (rw.length : Int)).toNat).count (rLet rw q')) 0 = _ at hp
  unfold rstep at h
  dsimp only at h
  generalize rAhead x y z rw q' = a at ha h
  generalize (rw.take (q' % (rw.length : Int)).toNat).count (rLet rw q') = c at hc hp ha
  generalize q' / (rw.length : Int) = d at hd hd2 hqd ha
  generalize hf : shG x y z (rLet rw q') = f at hc f1 f5 f2 ha
  have hf0 : 0 < f := f1
  have had : a / f = d := by rw [ha, Int.add_comm, Int.add_mul_ediv_left _ _ (Int.ne_of_gt hf0), Int.ediv_eq_zero_of_lt (by omega) hc]; omega
  have ham : a % f = c := by rw [ha, Int.add_comm, Int.add_mul_emod_self_left, Int.emod_eq_of_lt (by omega) hc]
  have e1 : R * f ≤ f * d := by rw [Int.mul_comm]; exact Int.mul_le_mul_of_nonneg_left hd (by omega)
  have e2 : f * (d + 1) ≤ f * (64 * R) := Int.mul_le_mul_of_nonneg_left (by omega) (by omega)
  have e3 : f * (64 * R) = 64 * (R * f) := by rw [Int.mul_comm, Int.mul_assoc]
  have e4 : 64 * R * f = 64 * (R * f) := Int.mul_assoc ..
  rw [Int.mul_add, Int.mul_one] at e2
  have hfin : (rw.length : Int) * (a / f) + (places rw (rLet rw q')).getD (a % f).toNat 0 = q' := by
    rw [had, ham, Int.toNat_natCast, hp, Int.toNat_of_nonneg hm]; exact hqd
  have e5 : R * 1 ≤ R * f := Int.mul_le_mul_of_nonneg_left f1 (by omega)
  have e6 : R * (rw.length : Int) ≤ R * 17 := Int.mul_le_mul_of_nonneg_left (by omega) (by omega)
  by_cases hlo : a < R * (rw.length : Int)
  · rw [if_pos hlo] at h
    cases G with
    | nil => exact absurd h (by simp)
    | cons g r =>
      injection h with h
      injection h with hl' h
      injection h with h1 h2
      subst hl' h1 h2
      have hg := hG g (.head _)
      have hbig : 64 * R * shG x y z (rLet rw q') ≤ 64 * a + g := by rw [hf]; omega
      refine ⟨?_, ⟨by omega, by omega⟩, fun v hv => hG v (.tail _ hv)⟩
      unfold putStep
      rw [if_pos hbig, hf]
      dsimp only
      rw [show (64 * a + g) / 64 = a by omega, show (64 * a + g) % 64 = g by omega, hfin]
  · rw [if_neg hlo] at h
    injection h with h
    injection h with hl' h
    injection h with h1 h2
    subst hl' h1 h2
    have hsm : ¬ 64 * R * shG x y z (rLet rw q') ≤ a := by rw [hf]; omega
    refine ⟨?_, ⟨by omega, ?_⟩, hG⟩
    · unfold putStep
      rw [if_neg hsm, hf]
      dsimp only
      rw [hfin]
    · have e7 : R * f ≤ R * (rw.length : Int) := Int.mul_le_mul_of_nonneg_left (by omega) (by omega)
      omega
/-- one step of the hand, undone by the reader -/
theorem step_on {x y z R q l : Int} {rw F : List Int} (W : Rw x y z R rw) (hq : Valid R rw.length q) (hl : 0 ≤ l ∧ l ≤ 2) (hF : ∀ g ∈ F, 0 ≤ g ∧ g < 64) :
    Valid R rw.length (putStep x y z R rw (q, F) l).1 ∧ (∀ g ∈ (putStep x y z R rw (q, F) l).2, 0 ≤ g ∧ g < 64) ∧ (putStep x y z R rw (q, F) l).2.length ≤ F.length + 1 ∧
      ∀ G, rstep x y z R rw ((putStep x y z R rw (q, F) l).1, (putStep x y z R rw (q, F) l).2 ++ G) = some (l, q, F ++ G) := by
  obtain ⟨hn, he, hI, ⟨hR, h15⟩, hs⟩ := W
  obtain ⟨hq1, hq2⟩ := hq
  have hx0 : 0 < (rw.length : Int) := by have := hs 0 (by decide) (by decide); omega
  obtain ⟨f1, f5, f2⟩ := hs _ hl.1 hl.2
  have core : ∀ q1, R * shG x y z l ≤ q1 → q1 < 64 * (R * shG x y z l) → Valid R rw.length ((rw.length : Int) * (q1 / shG x y z l) + (places rw l).getD (q1 % shG x y z l).toNat 0) ∧
      rLet rw ((rw.length : Int) * (q1 / shG x y z l) + (places rw l).getD (q1 % shG x y z l).toNat 0) = l ∧ rAhead x y z rw ((rw.length : Int) * (q1 / shG x y z l) + (places rw l).getD (q1 % shG x y z l).toNat 0) = q1 := by
    intro q1 h1 h2
    have hm := Int.emod_nonneg q1 (Int.ne_of_gt (show 0 < shG x y z l from f1))
    have hm2 := Int.emod_lt_of_pos q1 (show 0 < shG x y z l from f1)
    obtain ⟨p, hp, hpn, hpl, hpc⟩ := hI.2 l hl.1 hl.2 (q1 % shG x y z l).toNat (by omega)
    rw [hp]
    have hpn' : (p : Int) < rw.length := by omega
    have hmod : ((rw.length : Int) * (q1 / shG x y z l) + (p : Int)) % (rw.length : Int) = p := by
      rw [Int.add_comm, Int.add_mul_emod_self_left, Int.emod_eq_of_lt (by omega) hpn']
    have hdiv : ((rw.length : Int) * (q1 / shG x y z l) + (p : Int)) / (rw.length : Int) = q1 / shG x y z l := by
      rw [Int.add_comm, Int.add_mul_ediv_left _ _ (Int.ne_of_gt hx0), Int.ediv_eq_zero_of_lt (by omega) hpn']; omega
    have hlet : rLet rw ((rw.length : Int) * (q1 / shG x y z l) + (p : Int)) = l := by
      unfold rLet
      rw [hmod, Int.toNat_natCast, hpl]
    have hd1 : R ≤ q1 / shG x y z l := Int.le_ediv_of_mul_le f1 h1
    have hd2 : q1 / shG x y z l < 64 * R := Int.ediv_lt_of_lt_mul f1 (by rw [Int.mul_assoc]; exact h2)
    have a1 : (rw.length : Int) * R ≤ (rw.length : Int) * (q1 / shG x y z l) := Int.mul_le_mul_of_nonneg_left hd1 (by omega)
    have a2 : (rw.length : Int) * (q1 / shG x y z l + 1) ≤ (rw.length : Int) * (64 * R) := Int.mul_le_mul_of_nonneg_left (by omega) (by omega)
    have a3 : (rw.length : Int) * R = R * (rw.length : Int) := Int.mul_comm ..
    have a4 : (rw.length : Int) * (64 * R) = 64 * (R * (rw.length : Int)) := by rw [Int.mul_comm, Int.mul_assoc]
    rw [Int.mul_add, Int.mul_one] at a2
    refine ⟨⟨by omega, by omega⟩, hlet, ?_⟩
    unfold rAhead
    rw [hlet, hmod, hdiv, Int.toNat_natCast, hpc]
    show shG x y z l * (q1 / shG x y z l) + (((q1 % shG x y z l).toNat : Nat) : Int) = q1
    rw [Int.toNat_of_nonneg hm]
    exact Int.mul_ediv_add_emod ..
  have e4 : 64 * R * shG x y z l = 64 * (R * shG x y z l) := Int.mul_assoc ..
  have e7 : R * shG x y z l ≤ R * (rw.length : Int) := Int.mul_le_mul_of_nonneg_left (by omega) (by omega)
  have e8 : R * (rw.length : Int) ≤ R * (64 * shG x y z l) := Int.mul_le_mul_of_nonneg_left (by omega) (by omega)
  have e9 : R * (64 * shG x y z l) = 64 * (R * shG x y z l) := by rw [← Int.mul_assoc, Int.mul_comm R 64, Int.mul_assoc]
  unfold putStep
  by_cases hb : 64 * R * shG x y z l ≤ q
  · rw [if_pos hb]
    dsimp only
    obtain ⟨v, hlet, hah⟩ := core (q / 64) (by omega) (by omega)
    refine ⟨v, List.forall_mem_cons.mpr ⟨by omega, hF⟩, Nat.le_refl _, fun G => ?_⟩
    unfold rstep
    dsimp only
    rw [hlet, hah, if_pos (by omega)]
    show some (l, 64 * (q / 64) + q % 64, F ++ G) = _
    rw [Int.mul_ediv_add_emod]
  · rw [if_neg hb]
    dsimp only
    obtain ⟨v, hlet, hah⟩ := core q (by omega) (by omega)
    refine ⟨v, hF, Nat.le_succ _, fun G => ?_⟩
    unfold rstep
    dsimp only
    rw [hlet, hah, if_neg (by omega)]
theorem put_cons (x y z R : Int) (rw : List Int) (st l : Int) (ls : List Int) : put x y z R rw st (l :: ls) = putStep x y z R rw (put x y z R rw st ls) l := by
  unfold put
  rw [List.reverse_cons, List.foldl_append]
  rfl
/-- what was put is read -/
theorem run_of_put {x y z R : Int} {rw : List Int} {st : Int} (W : Rw x y z R rw) (hst : Valid R rw.length st) : ∀ {ls : List Int}, (∀ k ∈ ls, 0 ≤ k ∧ k ≤ 2) →
    Valid R rw.length (put x y z R rw st ls).1 ∧ (∀ g ∈ (put x y z R rw st ls).2, 0 ≤ g ∧ g < 64) ∧ (put x y z R rw st ls).2.length ≤ ls.length ∧
      ∀ G, RRun x y z R rw ((put x y z R rw st ls).1, (put x y z R rw st ls).2 ++ G) ls (st, G)
  | [], _ => ⟨hst, fun _ h => (List.not_mem_nil h).elim, Nat.le_refl _, fun _ => rfl⟩
  | l :: ls, hl => by
    obtain ⟨v, hf, hn, hr⟩ := run_of_put W hst (ls := ls) fun k hk => hl k (.tail _ hk)
    rw [put_cons]
    obtain ⟨v2, hf2, hn2, hr2⟩ := step_on W v (hl l (.head _)) hf
    exact ⟨v2, hf2, by rw [List.length_cons]; exact Nat.le_trans hn2 (Nat.succ_le_succ hn), fun G => ⟨_, hr2 G, hr G⟩⟩
/-- what was read is put -/
theorem put_of_run {x y z R : Int} {rw : List Int} (W : Rw x y z R rw) {last : Int} : ∀ {ls : List Int} {q : Int} {G : List Int}, Valid R rw.length q → (∀ g ∈ G, 0 ≤ g ∧ g < 64) → RRun x y z R rw (q, G) ls (last, []) → put x y z R rw last ls = (q, G)
  | [], _, _, _, _, h => (show _ = _ from h).symm
  | l :: ls, q, G, hv, hG, ⟨⟨a, G'⟩, h1, h2⟩ => by
    obtain ⟨hp, hv', hG'⟩ := step_back W hv hG h1
    rw [put_cons, put_of_run W hv' hG' h2, hp]
/-- a reader that stops has read all that any reader reads -/
theorem run_prefix {x y z R : Int} {rw : List Int} {d e : Int × List Int} : ∀ {ms ls : List Int} {c : Int × List Int}, RRun x y z R rw c ms d → RRun x y z R rw c ls e → rstep x y z R rw e = none → ls.take ms.length = ms
  | [], _, _, _, _, _ => rfl
  | m :: ms, [], c, ⟨f, h1, _⟩, h2, hn => by
    rw [show c = e from h2, hn] at h1
    exact absurd h1 (by simp)
  | m :: ms, l :: ls, c, ⟨f, h1, h2⟩, ⟨g, h3, h4⟩, hn => by
    rw [h1] at h3
    injection h3 with h3
    injection h3 with h5 h6
    subst h6
    show l :: ls.take ms.length = _
    rw [run_prefix h2 h4 hn, h5]


theorem none_L2 : True := by
  k_with_none
  trivial
theorem words_LL2_1 : True := by
  k_with "call type:type" => (((with_reducible show wpAny _ _ (call _ [Value.bytes _ _]) _ _ _); refine call_type_of (Tx := "bytes") rfl (by decide +kernel) ?_))
  k_with "m dec" => (first | omega | (simp only [decide_eq_true_eq, decide_eq_false_iff_not, Bool.not_eq_true, beq_iff_eq, beq_eq_false_iff_ne, ne_eq, Bool.not_eq_true', Bool.not_eq_false'] ; omega))
  k_with "ite" => ((k_openite; first | (refine ite_pos (by walk_at "m dec") ?_) | (refine ite_neg (by walk_at "m dec") ?_)))
  k_with "m upd" => (first | exact Upd.head (List.forall_mem_nil _) | exact Upd.head (by assumption) | (refine Upd.tail (by first | assumption | (refine neN ?_; omega)) ?_; walk_at "m upd"))
  k_with "m same" => ((intro z h1 h2 h3; (simp only [List.forall_mem_cons, List.not_mem_nil, false_implies, implies_true, and_true, ne_eq] at h2); (try simp only [List.contains_cons, List.contains_nil, Bool.or_false, Bool.or_eq_false_iff, beq_eq_false_iff_ne, ne_eq] at h3); (simp [kstB, h1, h2, h3]; done)))
  k_with "call builtin:list.append" => (((with_reducible show wpAny _ _ (call (Value.builtin _) [Value.ref _, _]) _ _ _); (refine' append_K ?k1 ?k2 ?k3 ?_ ?z; (case k1 => assumption); (case k2 => assumption); (case k3 => walk_at "m upd"); (case z => first | assumption | exact (by assumption : ∀ x : Value, _) _)); intro h9 F9 N9; (try k_sweep)))
  k_with "m ksame" => ((intro z h2 h3; (simp only [List.forall_mem_cons, List.not_mem_nil, false_implies, implies_true, and_true, ne_eq] at h2); (try simp only [List.contains_cons, List.contains_nil, Bool.or_false, Bool.or_eq_false_iff, beq_eq_false_iff_ne, ne_eq] at h3); (simp [kstB, h2, h3]; done)))
  trivial

theorem val_sgn {d : Int} (h : 0 ≤ d ∧ d < 64) : b64val (b64sgn d) = d := by
  obtain ⟨i, rfl, hi⟩ := nat_of (k := 64) h.1 h.2
  exact (by decide +kernel : ∀ i : Nat, i < 64 → b64val (b64sgn (i : Int)) = (i : Int)) i hi
def dec4 : List Int → List Int
  | a :: b :: c :: d :: r => (a * 4 + b / 16) :: (b % 16 * 16 + c / 4) :: (c % 4 * 64 + d) :: dec4 r
  | _ => []
theorem dec4_len : ∀ {ds : List Int}, ds.length % 4 = 0 → (dec4 ds).length = ds.length / 4 * 3
  | [], _ => rfl
  | [_], h => absurd h (by show ¬ 1 % 4 = 0; decide)
  | [_, _], h => absurd h (by show ¬ 2 % 4 = 0; decide)
  | [_, _, _], h => absurd h (by show ¬ 3 % 4 = 0; decide)
  | a :: b :: c :: d :: r, h => by
    have h : (r.length + 4) % 4 = 0 := h
    have := dec4_len (ds := r) (by omega)
    show (dec4 r).length + 3 = (r.length + 4) / 4 * 3
    omega
theorem dec4_append {bs : List Int} : ∀ {as : List Int}, as.length % 4 = 0 → dec4 (as ++ bs) = dec4 as ++ dec4 bs
  | [], _ => rfl
  | [_], h => absurd h (by show ¬ 1 % 4 = 0; decide)
  | [_, _], h => absurd h (by show ¬ 2 % 4 = 0; decide)
  | [_, _, _], h => absurd h (by show ¬ 3 % 4 = 0; decide)
  | a :: b :: c :: d :: r, h => by
    have h : (r.length + 4) % 4 = 0 := h
    have := dec4_append (bs := bs) (as := r) (by omega)
    show _ :: _ :: _ :: dec4 (r ++ bs) = _ :: _ :: _ :: (dec4 r ++ dec4 bs)
    rw [this]
theorem dec_go : ∀ {ds o : List Int}, ds.length % 4 = 0 → (∀ d ∈ ds, 0 ≤ d ∧ d < 64) → (ds.map b64sgn).foldl a2bStep ⟨0, 0, o⟩ = ⟨0, 0, o ++ dec4 ds⟩
  | [], o, _, _ => by rw [show dec4 [] = [] from rfl, List.append_nil]; rfl
  | [_], _, h, _ => absurd h (by show ¬ 1 % 4 = 0; decide)
  | [_, _], _, h, _ => absurd h (by show ¬ 2 % 4 = 0; decide)
  | [_, _, _], _, h, _ => absurd h (by show ¬ 3 % 4 = 0; decide)
  | a :: b :: c :: d :: r, o, h, hd => by
    have h : (r.length + 4) % 4 = 0 := h
    have ha := hd a (.head _)
    have hb := hd b (.tail _ (.head _))
    have hc := hd c (.tail _ (.tail _ (.head _)))
    have hdd := hd d (.tail _ (.tail _ (.tail _ (.head _))))
    show (r.map b64sgn).foldl a2bStep (a2bStep (a2bStep (a2bStep (a2bStep ⟨0, 0, o⟩ (b64sgn a)) (b64sgn b)) (b64sgn c)) (b64sgn d)) = _
    rw [a2b_s0 rfl, a2b_s1 rfl, a2b_s2 rfl, a2b_s3 (by decide) (by decide) (by decide), val_sgn ha, val_sgn hb, val_sgn hc, val_sgn hdd]
    rw [dec_go (by omega) fun v hv => hd v (.tail _ (.tail _ (.tail _ (.tail _ hv))))]
    show A2S.mk _ _ _ = A2S.mk 0 0 (o ++ _ :: _ :: _ :: dec4 r)
    rw [List.append_assoc, List.append_assoc, List.append_assoc]
    rfl
theorem decB_is {ds : List Int} (h : ds.length % 4 = 0) (hd : ∀ d ∈ ds, 0 ≤ d ∧ d < 64) : decB ds = dec4 ds := by
  unfold decB
  rw [show a2b0 = ⟨0, 0, []⟩ from rfl, dec_go h hd]
  rfl
theorem enc3 {x0 A B C : Int} {o : List Int} : b2aStep (b2aStep (b2aStep (0, x0, o) A) B) C = (0, b2aX (4, b2aX (2, b2aX (0, x0, o) A, []) B, []) C, o ++ [b64sgn (b2aX (0, x0, []) A / 4 % 64), b64sgn (b2aX (2, b2aX (0, x0, []) A, []) B / 16 % 64), b64sgn (b2aX (4, b2aX (2, b2aX (0, x0, []) A, []) B, []) C / 64 % 64), b64sgn (b2aX (4, b2aX (2, b2aX (0, x0, []) A, []) B, []) C / 1 % 64)]) := by
  rw [show b2aStep (0, x0, o) A = (2, b2aX (0, x0, []) A, o ++ [b64sgn (b2aX (0, x0, []) A / 4 % 64)]) from rfl]
  rw [show ∀ X o', b2aStep (2, X, o') B = (4, b2aX (2, X, []) B, o' ++ [b64sgn (b2aX (2, X, []) B / 16 % 64)]) from fun _ _ => rfl]
  rw [show ∀ X o', b2aStep (4, X, o') C = (0, b2aX (4, X, []) C, o' ++ [b64sgn (b2aX (4, X, []) C / 64 % 64)] ++ [b64sgn (b2aX (4, X, []) C / 1 % 64)]) from fun _ _ => rfl]
  rw [List.append_assoc, List.append_assoc, List.append_assoc]
  rfl
theorem enc_go : ∀ {ds : List Int} {x0 : Int} {o : List Int}, ds.length % 4 = 0 → (∀ d ∈ ds, 0 ≤ d ∧ d < 64) → ((dec4 ds).foldl b2aStep (0, x0, o)).2.2 = o ++ ds.map b64sgn
  | [], _, o, _, _ => (List.append_nil o).symm
  | [_], _, _, h, _ => absurd h (by show ¬ 1 % 4 = 0; decide)
  | [_, _], _, _, h, _ => absurd h (by show ¬ 2 % 4 = 0; decide)
  | [_, _, _], _, _, h, _ => absurd h (by show ¬ 3 % 4 = 0; decide)
  | a :: b :: c :: d :: r, x0, o, h, hd => by
    have h : (r.length + 4) % 4 = 0 := h
    have ha := hd a (.head _)
    have hb := hd b (.tail _ (.head _))
    have hc := hd c (.tail _ (.tail _ (.head _)))
    have hdd := hd d (.tail _ (.tail _ (.tail _ (.head _))))
    show ((dec4 r).foldl b2aStep (b2aStep (b2aStep (b2aStep (0, x0, o) _) _) _)).2.2 = _
    rw [enc3, enc_go (ds := r) (by omega) fun v hv => hd v (.tail _ (.tail _ (.tail _ (.tail _ hv)))), List.append_assoc]
    have e8 : (2 : Int) ^ Int.toNat 8 = 256 := rfl
    have h1 : b2aX (0, x0, []) (a * 4 + b / 16) / 4 % 64 = a := by unfold b2aX; rw [e8]; dsimp only; omega
    have h2 : b2aX (2, b2aX (0, x0, []) (a * 4 + b / 16), []) (b % 16 * 16 + c / 4) / 16 % 64 = b := by unfold b2aX; rw [e8]; dsimp only; omega
    have h3 : b2aX (4, b2aX (2, b2aX (0, x0, []) (a * 4 + b / 16), []) (b % 16 * 16 + c / 4), []) (c % 4 * 64 + d) / 64 % 64 = c := by unfold b2aX; rw [e8]; dsimp only; omega
    have h4 : b2aX (4, b2aX (2, b2aX (0, x0, []) (a * 4 + b / 16), []) (b % 16 * 16 + c / 4), []) (c % 4 * 64 + d) / 1 % 64 = d := by unfold b2aX; rw [e8]; dsimp only; omega
    rw [h1, h2, h3, h4]
    rfl
theorem q4_in (t : Int) : ∀ d ∈ q4 t, 0 ≤ d ∧ d < 64 := by
  unfold q4
  refine List.forall_mem_cons.mpr ⟨by omega, List.forall_mem_cons.mpr ⟨by omega, List.forall_mem_cons.mpr ⟨by omega, List.forall_mem_singleton.mpr (by omega)⟩⟩⟩
theorem quadN_in (oc : List Int) (n : Nat) : ∀ d ∈ quadN oc n, 0 ≤ d ∧ d < 64 := fun d hd => by
  obtain ⟨i, _, hi⟩ := List.mem_flatMap.mp hd
  exact q4_in _ d hi
theorem dec_quads {oc : List Int} (h : ∀ v ∈ oc, 0 ≤ v ∧ v < 256) : ∀ {n : Nat}, 3 * n ≤ oc.length → dec4 (quadN oc n) = oc.take (3 * n)
  | 0, _ => rfl
  | n + 1, hn => by
    rw [quadN_succ, dec4_append (by rw [quadN_len]; omega), dec_quads h (by omega)]
    have g : ∀ i, i < oc.length → ∃ v, oc[i]? = some v ∧ oc.getD i 0 = v ∧ 0 ≤ v ∧ v < 256 := fun i hi => ⟨oc[i], List.getElem?_eq_getElem hi, by rw [List.getD_eq_getElem?_getD, List.getElem?_eq_getElem hi]; rfl, h _ (List.getElem_mem hi)⟩
    obtain ⟨A, a1, a2, a3⟩ := g (3 * n) (by omega)
    obtain ⟨B, b1, b2, b3⟩ := g (3 * n + 1) (by omega)
    obtain ⟨C, c1, c2, c3⟩ := g (3 * n + 2) (by omega)
    have et : three oc n = A * 65536 + B * 256 + C := by
      unfold three
      rw [show (3 * (n : Int)).toNat = 3 * n by omega, show (3 * (n : Int) + 1).toNat = 3 * n + 1 by omega, show (3 * (n : Int) + 2).toNat = 3 * n + 2 by omega, a2, b2, c2]
    rw [et, show 3 * (n + 1) = 3 * n + 1 + 1 + 1 by omega, List.take_add_one, List.take_add_one, List.take_add_one, a1, b1, c1, List.append_assoc, List.append_assoc]
    refine congrArg _ ?_
    unfold q4
    show [_, _, _] = [A, B, C]
    rw [show (A * 65536 + B * 256 + C) / 262144 % 64 * 4 + (A * 65536 + B * 256 + C) / 4096 % 64 / 16 = A by omega, show (A * 65536 + B * 256 + C) / 4096 % 64 % 16 * 16 + (A * 65536 + B * 256 + C) / 64 % 64 / 4 = B by omega, show (A * 65536 + B * 256 + C) / 64 % 64 % 4 * 64 + (A * 65536 + B * 256 + C) / 1 % 64 = C by omega]
theorem vb_of {v : Int} {k : Nat} (h : v < 64) (hk : k ≤ 2) : VB v k := by
  unfold VB
  obtain rfl | rfl | rfl : k = 0 ∨ k = 1 ∨ k = 2 := by omega
  · show (v + 1) * 1 ≤ 1125899906842624; omega
  · show (v + 1) * 64 ≤ 1125899906842624; omega
  · show (v + 1) * 4096 ≤ 1125899906842624; omega
/-- the numbers of a text, told again -/
theorem nums_os {x y z R st : Int} (hx : 1 ≤ x ∧ x ≤ 5) (hy : 1 ≤ y ∧ y ≤ 5) (hz : 1 ≤ z ∧ z ≤ 5) (hR : 1 ≤ R ∧ R ≤ 7) (h0 : 0 ≤ st) (h1 : st < 262144) : ∃ os : List (Int × List Int), padded (octets [x, y, z, R, st]) = (os.flatMap fun o => o.1 :: o.2) ∧ (∀ o ∈ os, VS (o.1 :: o.2) ∧ VB (o.1 % 64) o.2.length) ∧ (os.map fun o => vval 0 (o.1 :: o.2)) = [x, y, z, R, st] ∧ (∀ v ∈ padded (octets [x, y, z, R, st]), 0 ≤ v ∧ v < 256) ∧ (padded (octets [x, y, z, R, st])).length ≤ 9 := by
  have one : ∀ {v : Int}, 0 ≤ v → v < 64 → VS (v :: []) ∧ VB (v % 64) 0 := fun a b => ⟨⟨a, b⟩, vb_of (by omega) (by decide)⟩
  have ox : ∀ {v : Int}, v < 64 → octs v = [v] := fun h => if_pos h
  have ev : ∀ {v : Int}, 0 ≤ v → v < 64 → vval 0 [v] = v := fun a b => by show 0 * 64 + _ % 64 = _; omega
  have vs2 : ∀ {u v : Int}, 64 ≤ u → u < 128 → 0 ≤ v → v < 64 → VS [u, v] ∧ VB (u % 64) 1 := fun a b c d => ⟨⟨a, b, c, d⟩, vb_of (by omega) (Nat.le_of_ble_eq_true rfl)⟩
  have vs3 : ∀ {u v w : Int}, 64 ≤ u → u < 128 → 64 ≤ v → v < 128 → 0 ≤ w → w < 64 → VS [u, v, w] ∧ VB (u % 64) 2 := fun a b c d e f => ⟨⟨a, b, c, d, e, f⟩, vb_of (by omega) (Nat.le_of_ble_eq_true rfl)⟩
  have e : octets [x, y, z, R, st] = x :: y :: z :: R :: octs st := by
    show octs x ++ (octs y ++ (octs z ++ (octs R ++ (octs st ++ [])))) = _
    rw [ox (by omega), ox (by omega), ox (by omega), ox (by omega), List.append_nil]; rfl
  rw [e]
  by_cases ha : st < 64
  · rw [ox ha]
    refine ⟨[(64, [x]), (y, []), (z, []), (R, []), (st, [])], by with_unfolding_all rfl, ?_, ?_, ?_, Nat.le_trans (padded_len _).2 (Nat.le_of_ble_eq_true rfl)⟩
    · refine List.forall_mem_cons.mpr ⟨vs2 (u := 64) (by decide) (by decide) (by omega) (by omega), List.forall_mem_cons.mpr ⟨one (by omega) (by omega), List.forall_mem_cons.mpr ⟨one (by omega) (by omega), List.forall_mem_cons.mpr ⟨one (by omega) (by omega), List.forall_mem_singleton.mpr (one h0 ha)⟩⟩⟩⟩
    · show [(0 * 64 + 64 % 64) * 64 + x % 64, vval 0 [y], vval 0 [z], vval 0 [R], vval 0 [st]] = _
      rw [ev (by omega) (by omega), ev (by omega) (by omega), ev (by omega) (by omega), ev h0 ha, show (0 * 64 + 64 % 64) * 64 + x % 64 = x by omega]
    · have e0 : padded (x :: y :: z :: R :: [st]) = [64, x, y, z, R, st] := by with_unfolding_all rfl
      rw [e0]
      simp only [List.forall_mem_cons, List.not_mem_nil, false_implies, implies_true, and_true]
      omega
  · by_cases hb : st < 4096
    · rw [show octs st = [st / 64 + 64, st % 64] from (if_neg ha).trans (if_pos hb)]
      refine ⟨[(x, []), (y, []), (z, []), (R, []), (st / 64 + 64, [st % 64])], by with_unfolding_all rfl, ?_, ?_, ?_, Nat.le_trans (padded_len _).2 (Nat.le_of_ble_eq_true rfl)⟩
      · refine List.forall_mem_cons.mpr ⟨one (by omega) (by omega), List.forall_mem_cons.mpr ⟨one (by omega) (by omega), List.forall_mem_cons.mpr ⟨one (by omega) (by omega), List.forall_mem_cons.mpr ⟨one (by omega) (by omega), List.forall_mem_singleton.mpr (vs2 (by omega) (by omega) (by omega) (by omega))⟩⟩⟩⟩
      · show [vval 0 [x], vval 0 [y], vval 0 [z], vval 0 [R], (0 * 64 + (st / 64 + 64) % 64) * 64 + st % 64 % 64] = _
        rw [ev (by omega) (by omega), ev (by omega) (by omega), ev (by omega) (by omega), ev (by omega) (by omega), show (0 * 64 + (st / 64 + 64) % 64) * 64 + st % 64 % 64 = st by omega]
      · have e0 : padded (x :: y :: z :: R :: [st / 64 + 64, st % 64]) = [x, y, z, R, st / 64 + 64, st % 64] := by with_unfolding_all rfl
        rw [e0]
        simp only [List.forall_mem_cons, List.not_mem_nil, false_implies, implies_true, and_true]
        omega
    · rw [show octs st = [st / 4096 + 64, st / 64 % 64 + 64, st % 64] from (if_neg ha).trans (if_neg hb)]
      refine ⟨[(64, [64, x]), (y, []), (z, []), (R, []), (st / 4096 + 64, [st / 64 % 64 + 64, st % 64])], by with_unfolding_all rfl, ?_, ?_, ?_, Nat.le_trans (padded_len _).2 (Nat.le_of_ble_eq_true rfl)⟩
      · refine List.forall_mem_cons.mpr ⟨vs3 (u := 64) (v := 64) (by decide) (by decide) (by decide) (by decide) (by omega) (by omega), List.forall_mem_cons.mpr ⟨one (by omega) (by omega), List.forall_mem_cons.mpr ⟨one (by omega) (by omega), List.forall_mem_cons.mpr ⟨one (by omega) (by omega), List.forall_mem_singleton.mpr (vs3 (by omega) (by omega) (by omega) (by omega) (by omega) (by omega))⟩⟩⟩⟩
      · show [((0 * 64 + 64 % 64) * 64 + 64 % 64) * 64 + x % 64, vval 0 [y], vval 0 [z], vval 0 [R], ((0 * 64 + (st / 4096 + 64) % 64) * 64 + (st / 64 % 64 + 64) % 64) * 64 + st % 64 % 64] = _
        rw [ev (by omega) (by omega), ev (by omega) (by omega), ev (by omega) (by omega), show ((0 * 64 + 64 % 64) * 64 + 64 % 64) * 64 + x % 64 = x by omega, show ((0 * 64 + (st / 4096 + 64) % 64) * 64 + (st / 64 % 64 + 64) % 64) * 64 + st % 64 % 64 = st by omega]
      · have e0 : padded (x :: y :: z :: R :: [st / 4096 + 64, st / 64 % 64 + 64, st % 64]) = [64, 64, x, y, z, R, st / 4096 + 64, st / 64 % 64 + 64, st % 64] := by with_unfolding_all rfl
        rw [e0]
        simp only [List.forall_mem_cons, List.not_mem_nil, false_implies, implies_true, and_true]
        omega
theorem readIn_text {x y z R st : Int} {fs : List Int} (hx : 1 ≤ x ∧ x ≤ 5) (hy : 1 ≤ y ∧ y ≤ 5) (hz : 1 ≤ z ∧ z ≤ 5) (hR : 1 ≤ R ∧ R ≤ 7) (h0 : 0 ≤ st) (h1 : st < 262144) (hf : ∀ f ∈ fs, 0 ≤ f ∧ f < 64) (h4 : fs.length % 4 = 0) (hl : fs.length ≤ 100) :
    ReadIn x y z R st fs (textOf [x, y, z, R, st] fs) := by
  obtain ⟨os, ho, hv, hm, hb, h9⟩ := nums_os hx hy hz hR h0 h1
  have hp := padded_len (octets [x, y, z, R, st])
  have hp1 : 0 < (padded (octets [x, y, z, R, st])).length := by
    have : 0 < (octets [x, y, z, R, st]).length := by
      show 0 < (octs x ++ _).length
      rw [List.length_append]
      have : 0 < (octs x).length := by rw [show octs x = [x] from if_pos (by omega)]; exact Nat.one_pos
      omega
    unfold padded
    rw [List.length_append]
    omega
  have hd : ∀ d ∈ textOf [x, y, z, R, st] fs, 0 ≤ d ∧ d < 64 := fun d hd => (List.mem_append.mp hd).elim (quadN_in _ _ d) (hf d)
  have hlen : (textOf [x, y, z, R, st] fs).length = 4 * ((padded (octets [x, y, z, R, st])).length / 3) + fs.length := by
    unfold textOf
    rw [List.length_append, quadN_len]
  have hz4 : (textOf [x, y, z, R, st] fs).length % 4 = 0 := by omega
  refine ⟨⟨hz4, by omega, by omega⟩, hd, ⟨os, dec4 fs, ?_, hv, hm, by rw [dec4_len h4]; omega, by rw [dec4_len h4]; omega, ?_⟩, hf, by omega⟩
  · rw [decB_is hz4 hd]
    unfold textOf
    rw [dec4_append (by rw [quadN_len]; omega), dec_quads hb (by omega), ← hp.1, List.take_length, ho]
  · unfold encB
    rw [enc_go h4 hf]
    rfl


theorem none_Q1 : True := by
  k_with_none
  trivial
theorem words_LQ1_1 : True := by
  k_with "call type:type" => (((with_reducible show wpAny _ _ (call _ [Value.bytes _ _]) _ _ _); refine call_type_of (Tx := "bytes") rfl (by decide +kernel) ?_))
  k_with "m dec" => (first | omega | (simp only [decide_eq_true_eq, decide_eq_false_iff_not, Bool.not_eq_true, beq_iff_eq, beq_eq_false_iff_ne, ne_eq, Bool.not_eq_true', Bool.not_eq_false'] ; omega))
  k_with "ite" => ((k_openite; first | (refine ite_pos (by walk_at "m dec") ?_) | (refine ite_neg (by walk_at "m dec") ?_)))
  k_with "m upd" => (first | exact Upd.head (List.forall_mem_nil _) | exact Upd.head (by assumption) | (refine Upd.tail (by first | assumption | (refine neN ?_; omega)) ?_; walk_at "m upd"))
  k_with "m same" => ((intro z h1 h2 h3; (simp only [List.forall_mem_cons, List.not_mem_nil, false_implies, implies_true, and_true, ne_eq] at h2); (try simp only [List.contains_cons, List.contains_nil, Bool.or_false, Bool.or_eq_false_iff, beq_eq_false_iff_ne, ne_eq] at h3); (simp [kstB, h1, h2, h3]; done)))
  k_with "call builtin:list.append" => (((with_reducible show wpAny _ _ (call (Value.builtin _) [Value.ref _, _]) _ _ _); (refine' append_K ?k1 ?k2 ?k3 ?_ ?z; (case k1 => assumption); (case k2 => assumption); (case k3 => walk_at "m upd"); (case z => first | assumption | exact (by assumption : ∀ x : Value, _) _)); intro h9 F9 N9; (try k_sweep)))
  k_with "m ksame" => ((intro z h2 h3; (simp only [List.forall_mem_cons, List.not_mem_nil, false_implies, implies_true, and_true, ne_eq] at h2); (try simp only [List.contains_cons, List.contains_nil, Bool.or_false, Bool.or_eq_false_iff, beq_eq_false_iff_ne, ne_eq] at h3); (simp [kstB, h2, h3]; done)))
  trivial

theorem words_Q1_1 : True := by
  k_with "eval Name" => (((with_reducible show wpAny _ _ (eval (PySem.Expr.Name _ _) (compEnvC _ _ _ _)) _ _ _); (first
    | k_dflt (refine' nameE_L ?k1 ?k2 ?k3 ?_ ?k4 ?k5 ?k6; (case k5 => exact rfl); (case k1 => assumption); (case k2 => exact rfl); (case k3 => exact rfl); (case k4 => exact rfl); (case k6 => decide))
    | k_dflt (refine' nameE_C ?k1 ?k2 ?k3 ?_ ?k4 ?k5 ?k6; (case k5 => exact rfl); (case k1 => assumption); (case k2 => exact rfl); (case k3 => assumption); (case k4 => exact rfl); (case k6 => decide))
    | k_dflt (refine' nameE_K ?k1 ?k2 ?k3 ?e ?_ ?kg ?k4 ?k5 ?k6; (case k5 => exact rfl); (case k1 => assumption); (case k2 => assumption); (case k3 => assumption); (case e => k_is); (case kg => exact rfl); (case k4 => exact rfl); (case k6 => decide))
    | k_dflt (refine' nameE_B ?k1 ?k2 ?k3 ?e ?b ?n ?_ ?kg ?kb ?k4 ?k5 ?k6; (case k5 => exact rfl); (case k1 => assumption); (case k2 => assumption); (case k3 => assumption); (case e => k_is); (case b => boot_by_name); (case n => decide); (case kg => exact rfl); (case kb => exact rfl); (case k4 => exact rfl); (case k6 => decide)))))
  k_with "binaryOp FloorDiv int int" => (((with_reducible show wpAny _ _ (binaryOp _ (Value.int _ _) (Value.int _ _)) _ _ _); k_dflt (refine fdiv_e (by first | assumption | decide | omega) ?_)))
  k_with "binaryOp Mod int int" => (((with_reducible show wpAny _ _ (binaryOp _ (Value.int _ _) (Value.int _ _)) _ _ _); k_dflt (refine mod_e (by first | decide | assumption | omega) ?_)))
  k_with "binaryOp Mult int int" => (((with_reducible show wpAny _ _ (binaryOp _ (Value.int _ _) (Value.int _ _)) _ _ _); (first | k_dflt (refine mul_r (by decide) ?_) | k_dflt (refine mul_e (by first | decide | assumption | omega) ?_))))
  k_with "call builtin:len" => (((with_reducible show wpAny _ _ (call (Value.builtin "len") [Value.ref _]) _ _ _); (refine' lenL ?k1 ?k2 ?k3 ?_; (case k1 => is_list); (case k2 => assumption); (case k3 => assumption))))
  k_with "subscriptTail" => (((with_reducible show wpAny _ _ (subscriptTail _ _ (Value.ref _) (Value.int _ _)) _ _ _); (refine' itemL ?k1 ?k2 ?k3 ?k4 ?_ ?k6; (case k1 => is_list); (case k2 => assumption); (case k3 => assumption); (case k4 => assumption); (case k6 => with_unfolding_all rfl)); intro t9))
  k_with "exec While Compare cons nil" => (refine haltQ ?_)
  k_with "exec While" => (refine haltQ ?_)
  k_with "KswPost" => (refine haltQ ?_)
  k_with "pyIter ref" => (refine haltQ ?_)
  k_with "exec Assign cons ListComp" => (refine haltQ ?_)
  k_with "EEnd" => (refine haltQ ?_)
  k_with "InvPostN" => (refine haltQ ?_)
  k_with "eval ListComp" => (refine haltQ ?_)
  k_with "call builtin:iter" => (refine haltQ ?_)
  k_with "pyIter bytes" => (refine haltQ ?_)
  k_with "exec While Constant cons nil" => (refine haltQ ?_)
  k_with "call builtin:chr" => (((with_reducible show wpAny _ _ (call (Value.builtin "chr") [Value.int _ _]) _ _ _); (refine chr64 (by assumption) ?_)))
  k_with "call builtin:str.index" => ((k_dflt (refine index64 (by assumption) ?_)))
  k_with "call ref" => (((with_reducible show wpAny _ _ (call (Value.ref 144) _ _) _ _ _); (refine useC (c_signs (Frag.In.keeps (by assumption) (Fr.keep (by assumption))) (Top.keeps (by assumption) (Fr.keep (by assumption)))) (by assumption) (by assumption) ?_); intro v9 h9 tk9 F9 N9 x9 p9; obtain ⟨t9, p9⟩ := p9; subst p9; clear x9; (try dsimp only); (try k_fold)))
  k_with "call ref" => (((with_reducible show wpAny _ _ (call (Value.ref 130) _ _) _ _ _); refine haltQ ?_))
  k_with "call ref" => (((with_reducible show wpAny _ _ (call (Value.ref 122) _ _) _ _ _); refine haltQ ?_))
  k_with "call ref" => (((with_reducible show wpAny _ _ (call (Value.ref 137) _ _) _ _ _); refine haltQ ?_))
  k_with "call ref" => (((with_reducible show wpAny _ _ (call (Value.ref 171) _ _) _ _ _); refine haltQ ?_))
  trivial
theorem c_read {w : World} {mean : ExcName → Option Value} {mg mb : Str → Option Value} {s : Shared} {x y z R st : Int} {fs ds : List Int} {t : Tok}
    (X : (Mine.hd.heap_39 w.params).In s.heap) (T : Top Vw Ls mean mg mb s.heap) (hx : 1 ≤ x ∧ x ≤ 5) (hy : 1 ≤ y ∧ y ≤ 5) (hz : 1 ≤ z ∧ z ≤ 5) (hR : 1 ≤ R ∧ R ≤ 7) (hst : R * (x + y + z) ≤ st ∧ st < 64 * (R * (x + y + z))) (hin : ReadIn x y z R st fs ds) :
    Ctr w s 750 7500 (.ref 176) [.str (txt ds) t] [] (ReadOut s.heap x y z R st fs) := by
  obtain ⟨⟨hd4, hd0, hd1⟩, hdok, ⟨os, rest, hdec, hos, hval, hr3, hrl, henc⟩, hfok, hflen⟩ := hin
  intro Q E hret
  refine wpAny_call ?_
  refine' enterC (binds := [(Str.ofString "text", .str (txt ds) t)]) X T ?k6 ?k7 ?k8 ?k9 ?kB ?kD ?_ ?c2 ?c3 ?c4
  (case k6 => k_is)
  (case k7 => k_is)
  (case k8 => decide)
  (case k9 => exact BindsTo.of_eq rfl)
  (case kB => exact rfl)
  (case kD => decide +kernel)
  (case c2 => exact rfl)
  (case c3 => exact rfl)
  (case c4 => exact rfl)
  intro L h tk cells F N Y
  obtain ⟨o1, hE, d1⟩ := CellsAre.one Y
  subst hE
  have c1 : o1.data = .cell none := d1
  clear Y d1
  k_unmd
  refine stopQ ?_
  k_fold
  k_steps
  rename Fr _ _ _ _ => F1
  rename News _ _ _ _ => N1
  unfold Halt
  refine useC (c_b64decode (Frag.In.keeps X F1.keep) (Top.keeps T F1.keep) ?d1 ?d2 ?d3 ?d4 ?d5) F1 N1 ?_
  case d1 => rw [txt_len]; exact hd1
  case d2 => rw [txt_len]; exact hd0
  case d3 => exact fun c hc => (txt_mem hdok c hc).1
  case d4 => rw [txt_len]; exact hd4
  case d5 => exact fun c hc => (txt_mem hdok c hc).2
  rintro v9 h9 tk9 F9 N9 x9 ⟨b, tb, rfl, hb⟩
  have hb : KBw.bInts b = decB ds := by rw [hb, txt_codes hdok]; rfl
  clear F1 N1 x9
  k_steps
  rename Fr _ _ _ _ => F1
  rename News _ _ _ _ => N1
  unfold Halt
  refine iter_b F1 N1 ?_
  intro I h2 oI F2 N2 hlt hBI
  clear F1 N1
  have hIL : L + 1 ≠ I := Nat.ne_of_lt (hlt _ (.head _))
  k_steps
  refine storeX_C F2 N2 rfl (UpdF.tail (Ne.symm hIL) (UpdF.head (List.forall_mem_nil _))) c1 ?_
  intro h3 oc F3 N3 dc
  clear F2 N2
  try k_unmd
  try k_fold
  k_steps
  unfold Halt
  refine comp_assign rfl rfl (by decide) rfl (by decide) rfl rfl ?_
  k_steps
  rename IsRange _ _ _ _ _ _ _ _ => R1
  rename Fr _ _ _ _ => F4
  rename News _ _ _ _ => N4
  unfold Halt
  have hIlt := Heap.lt_size (N4 _ (.head _)).1
  obtain ⟨Fg, Ng, hgx, hgs, hgn⟩ := hide1 F4 N4 (NeAll.out ⟨hIL, trivial⟩)
  have hol : os.length = 5 := by have := congrArg List.length hval; rw [List.length_map] at this; exact this
  refine rangeSrc (s := { s with heap := _, toks := _ }) (b := 5) (news₀ := [(I, oI)]) 5 R1 (by decide) (by decide) _ (fun i _ vs nw => ∃ oI', nw = [(I, oI')] ∧ IntsAre vs (([x, y, z, R, st] : List Int).take i) ∧ BIt oI' b tb ((os.take i).flatMap fun o => o.1 :: o.2).length) rfl rfl hgx (Nat.le_of_eq hgs) (List.forall_mem_singleton.mpr ⟨(N4 _ (.head _)).1, hgn⟩) (fun _ => ⟨oI, rfl, .nil, hBI⟩) (fun _ _ _ => turn_elt) ?_ ?_ ?hh
  case hh => rfl
  · rintro D C i tv h tk m₁ vs₁ k₁ news₁ own hD hi ⟨oI', rfl, hj, hB⟩ hnf hown hnD F5 N5
    obtain ⟨o, ho⟩ : ∃ o, os[i]? = some o := ⟨os[i], List.getElem?_eq_getElem (by omega)⟩
    obtain ⟨hdr, hps⟩ := drop_os (f := fun o => o.1 :: o.2) (rest := rest) ho
    have ho2 := hos o (List.mem_of_getElem? ho)
    have hvo : ([x, y, z, R, st] : List Int)[i]? = some (vval 0 (o.1 :: o.2)) := by rw [← hval, List.getElem?_map, ho]; rfl
    have hvl : vs₁.length ≤ 1000 := by rw [hj.length, List.length_take]; exact Nat.le_trans (Nat.min_le_left _ _) (by omega)
    refine body_elt (k := k₁) hvl (fun p hp => hnD p (List.mem_append_right _ hp)) ?_
    have X5 := Frag.In.keeps X Fg.keep
    have T5 := Top.keeps T Fg.keep
    have hc1 : Heap.IsCell _ (L + 1) (some (.ref I)) := ⟨_, (Ng _ (.head _)).1, dc⟩
    clear F4 N4 R1 Fg Ng
    k_steps
    unfold Halt
    have N6 := pick N5 [1, 0] 2
    refine useN (c_varint (rest := (D, W.listOf vs₁.toArray k₁) :: own) X5 T5 F5 N6 (List.forall_mem_cons.mpr ⟨Ne.symm (hnD _ (.head _)), fun p hp e => absurd hIlt (by rw [← e, List.mem_singleton.mp (hown p hp)]; exact Nat.lt_irrefl _)⟩) hB (by rw [hb, hdec]; exact hdr) ho2.1 ho2.2) ?_
    rintro v10 h10 tk10 news10 F10 N10 ⟨tk11, oI2, rfl, rfl, hB2⟩
    exact ⟨_, _, _, [(I, oI2)], rfl, F10, pick N10 [1, 0] 2, List.forall_mem_singleton.mpr (hnf (I, oI') (.head _)), List.forall_mem_singleton.mpr (hnD (I, oI') (.head _)), oI2, rfl, by rw [List.take_add_one, hvo]; exact intsAre_snoc hj, by rw [hps]; exact hB2⟩
  · rintro H D C h' tk' m₁ us k₁ news₁ hD hDC ⟨oI3, rfl, hj, hB⟩ hnD F5 N5
    refine ⟨_, Fg.ns, led_ne Fg N5, fun h' tk' hns hk hl => ?_⟩
    obtain ⟨F6, N6⟩ := after_comp Fg Ng (led_ne Fg N5) hns hk hl
    change IntsAre us [x, y, z, R, st] at hj
    have hID := hnD _ (.head _)
    have hDL : D ≠ L + 1 := Nat.ne_of_gt (Nat.lt_trans (Nat.lt_of_le_of_lt (Nat.le_of_lt (hlt _ (.head _))) hIlt) hD)
    clear hk hl hns F5 N5 R1 F4 N4 Fg Ng hgx hgs hgn hBI
    k_steps
    unfold Halt
    refine comp_eval rfl (by decide) rfl (by decide) ?_
    k_steps
    rename Fr _ _ _ _ => F7
    rename News _ _ _ _ => N7
    unfold Halt
    have N8 := pick0 N7 [1, 0, 2]
    change News s.heap L _ [(I, oI3), (D, W.listOf us.toArray k₁), (L + 1, oc)] at N8
    obtain ⟨Fg, Ng, hgx, hgs, hgn⟩ := hide1 F7 N8 (NeAll.out ⟨Ne.symm hID, hIL, trivial⟩)
    rw [show os.take 5 = os from List.take_of_length_le (by omega)] at hB
    have hbl : (os.flatMap fun o => o.1 :: o.2).length + rest.length = b.size := by rw [← KBw.ints_length b, hb, hdec, List.length_append]
    refine biterSrc (s := { s with heap := _, toks := _ }) _ hgx (Nat.le_of_eq hgs) hgn (N8 _ (.head _)).1 hB hbl (fun i vs => IntsAre vs (rest.take i)) rfl rfl .nil ?_ ?_ ?hh
    case hh => rfl
    · intro D3 C3 i c u h3 tk3 m3 vs3 k3 own hi hc hj3 F9 N9 hnD3
      have hcr : rest[i]? = some (c.toNat : Int) := by
        have e := KBw.ints_get hc
        rw [hb, hdec, List.getElem?_append_right (Nat.le_add_right _ _), Nat.add_sub_cancel_left] at e
        exact e
      have hvl : vs3.length ≤ 1000 := by rw [hj3.length, List.length_take]; omega
      refine body_elt (k := k3) hvl hnD3 ?_
      clear F7 N7 N8 Fg Ng
      k_steps
      unfold Halt
      exact ⟨_, _, _, [], rfl, F9, N9, List.forall_mem_nil _, List.forall_mem_nil _, by rw [List.take_add_one, hcr]; exact intsAre_snoc hj3, rfl⟩
    · intro D3 C3 h3 tk3 m3 vs3 k3 hj3 F9 N9 h4 tk4 hE hl
      have F10 := fr_ext Fg hE
      have N10 := news_new Fg Ng hE (hl _ (.head _)).2 (hl _ (.head _)).1
      rw [List.take_length] at hj3
      have hr8 : ∀ v ∈ rest, 0 ≤ v ∧ v < 256 := fun v hv => KBw.ints_in (b := b) (by rw [hb, hdec]; exact List.mem_append_right _ hv)
      clear F7 N7 N8 Fg Ng hl hE F9 N9 hgx hgs hgn
      k_steps
      rename (KBa.In rest) => hIn
      rename Fr _ _ _ _ => F11
      rename News _ _ _ _ => N11
      have hbr : KBw.bInts (byteArr rest) = rest := KBa.ints_make hIn
      have hbs : (byteArr rest).size = rest.length := by rw [← KBw.ints_length, hbr]
      have N11 := pick0 N11 [1, 2]
      unfold Halt
      refine useC (c_b64encode (Frag.In.keeps X F11.keep) (Top.keeps T F11.keep) (by rw [hbs]; exact hrl) (by rw [hbs]; exact hr3)) F11 N11 ?_
      rintro v12 h12 tk12 F12 N12 x12 ⟨b2, tb2, rfl, hb2⟩
      have hb2 : KBw.bInts b2 = fs.map b64sgn := by rw [hb2, hbr]; exact henc
      change News s.heap L h12 [(D, W.listOf us.toArray k₁), (L + 1, oc)] at N12
      clear F11 N11 x12 hj3 hr8 hIn
      k_steps
      unfold Halt
      refine comp_assign rfl rfl (by decide) rfl (by decide) rfl rfl ?_
      k_steps
      rename Fr _ _ _ _ => F13
      rename News _ _ _ _ => N13
      unfold Halt
      have hfl : fs.length = b2.size := by rw [← KBw.ints_length b2, hb2, List.length_map]
      refine bytesSrc (s := { s with heap := _, toks := _ }) (fun i vs => IntsAre vs (fs.take i)) rfl rfl .nil ?_ ?_ ?hh
      case hh => rfl
      · intro D4 C4 i c u h5 tk5 m5 vs5 k5 own hi hc hj5 F14 N14 hnD5
        obtain ⟨f, hf, hcf⟩ : ∃ f, fs[i]? = some f ∧ (c.toNat : Int) = b64sgn f := by
          have e := KBw.ints_get hc
          rw [hb2, List.getElem?_map, Option.map_eq_some_iff] at e
          obtain ⟨f, h1, h2⟩ := e
          exact ⟨f, h1, h2.symm⟩
        have hf64 := hfok f (List.mem_of_getElem? hf)
        have hvl : vs5.length ≤ 1000 := by rw [hj5.length, List.length_take]; omega
        rw [hcf] at F14
        have X5 := Frag.In.keeps X F13.keep
        have T5 := Top.keeps T F13.keep
        refine body_elt (k := k5) hvl hnD5 ?_
        clear F13 N13
        k_steps
        rename Fr _ _ _ _ => F16
        rename News _ _ _ _ => N16
        unfold Halt
        exact ⟨_, _, _, [], rfl, F16, N16, List.forall_mem_nil _, List.forall_mem_nil _, by rw [List.take_add_one, hf]; exact intsAre_snoc hj5, rfl⟩
      · intro H4 D4 C4 h5 tk5 m5 vs5 k5 hj5 F14 N14
        refine ⟨_, F13.ns, led_ne F13 N14, fun h' tk' hns hk hl => ?_⟩
        have hne4 := new_ne N13 (hl _ (.head _)).2
        obtain ⟨F15, N15⟩ := after_comp F13 N13 (led_ne F13 N14) hns hk hl
        rw [← hfl, List.take_length] at hj5
        clear hk hl hns F14 N14 F13 N13
        k_steps
        rename Fr _ _ _ _ => F16
        rename News _ _ _ _ => N16
        rename (IntsAre _ (List.take 3 _)) => hI3
        change IntsAre _ [x, y, z] at hI3
        rename_i lsh wsh hx1 lx1 hx2 hx3 tst ltu hx4 lx2 hx5 hx6 hx7
        unfold Halt
        refine useC (c_spread (Frag.In.keeps X F16.keep) (Top.keeps T F16.keep) ⟨_, (N16 _ (.tail _ (.head _))).1, rfl, _, rfl⟩ hI3 hx hy hz) F16 N16 ?_
        rintro v17 h17 tk17 F17 N17 x17 ⟨lrow, vrow, nrow, rfl, hn17, ho17, hi17⟩
        have N18 : News s.heap L h17 [(lrow, W.listOf vrow.toArray nrow), (lsh, W.listOf wsh.toArray 0), (D4, W.listOf vs5.toArray k5), (D, W.listOf us.toArray k₁), (L + 1, oc)] := pick0 (news_new F16 N16 x17 hn17 ho17) [0, 2, 3, 4, 5]
        have hDD : D ≠ D4 := hne4 _ (.head _)
        have hcD : L + 1 ≠ D4 := hne4 _ (.tail _ (.head _))
        have hlD : lsh ≠ D4 := Nat.ne_of_gt (lx1 _ (.head _))
        have hrne := new_ne N16 hn17
        have hrD : lrow ≠ D4 := Ne.symm (hrne _ (.tail _ (.tail _ (.head _))))
        clear F16 N16 N17 x17 hn17 ho17 hrne
        k_steps
        rename Fr _ _ _ _ => F19
        rename News _ _ _ _ => N19
        rename_i ll hb1 llt hb2
        unfold Halt
        obtain ⟨hok, hre⟩ := spread_ok hx hy hz
        have hnz : ((spread x y z).length : Int) = x + y + z := hok.1
        have hzz : (spread x y z).length ≤ 16777216 := by omega
        have hn0 : 0 < ((spread x y z).length : Int) := by omega
        have hn1 : 0 < ((spread x y z).length : Int) ∧ ((spread x y z).length : Int) < 1073741824 := by omega
        refine' ksw_while (σ := Int × Tok × List Value × Nat × List Int × List Value × Nat × List Int) (fun c => [(ll, W.listOf c.2.2.2.2.2.1.toArray c.2.2.2.2.2.2.1), (D4, W.listOf c.2.2.1.toArray c.2.2.2.1), (lrow, W.listOf vrow.toArray nrow), (lsh, W.listOf wsh.toArray 0), (D, W.listOf us.toArray k₁), (L + 1, oc)]) (fun c => [(Str.ofString "state", .int c.1 c.2.1)])
          (fun c => IntsAre c.2.2.1 c.2.2.2.2.1 ∧ IntsAre c.2.2.2.2.2.1 c.2.2.2.2.2.2.2) [Str.ofString "letter", Str.ofString "ahead"]
          (fun c => ReadP x y z R (spread x y z) st fs c.1 c.2.2.2.2.1 c.2.2.2.2.2.2.2)
          (fun c => 6720 * c.2.2.2.2.1.length + c.1.toNat) (st, tst, vs5, k5, fs, [], 0, []) F19 (pick0 N19 [0, 3, 1, 2, 4, 5]) ⟨hj5, .nil⟩ (List.forall_mem_singleton.mpr rfl) ⟨rfl, hst, hfok, ?b1, List.forall_mem_nil _⟩ ?b2 ?b3
        case b3 => passes_own
        case b1 =>
          have hR15 : R * (x + y + z) ≤ R * 15 := Int.mul_le_mul_of_nonneg_left (by omega) (by omega)
          show 0 + (6720 * fs.length + st.toNat) ≤ _
          omega
        case b2 =>
          rintro ⟨q, tq, vf, kf, gs, vl, kl, ls⟩ u h tk ⟨hI1, hI2⟩ hP F20 N20
          dsimp only at hI1 hI2 hP F20 N20
          have hqm : 0 ≤ q % ((spread x y z).length : Int) ∧ q % ((spread x y z).length : Int) < ((spread x y z).length : Int) := ⟨Int.emod_nonneg _ (by omega), Int.emod_lt_of_pos _ hn0⟩
          have hlt : 0 ≤ (spread x y z).getD (q % ((spread x y z).length : Int)).toNat 0 ∧ (spread x y z).getD (q % ((spread x y z).length : Int)).toNat 0 ≤ 2 := by
            refine hre _ ?_
            have hlt : (q % ((spread x y z).length : Int)).toNat < (spread x y z).length := by omega
            rw [List.getD_eq_getElem?_getD, List.getElem?_eq_getElem hlt]
            exact List.getElem_mem hlt
          have hsh := sh_b hlt.1 hlt.2 hx hy hz
          have hgl : gs.length ≤ 1000000 := by have := hP.2.2.2.1; omega
          have hvf : vf.length ≤ 16777216 := by rw [hI1.length]; omega
          have hvz : vl.toArray.size ≤ sizeLine := sz_le (k := 16777216) (by rw [hI2.length]; have := hP.2.2.2.1; omega)
          have hlD4 : ll ≠ D4 := Ne.symm (Nat.ne_of_lt llt.2.2.1)
          clear F19 N19 hre
          k_steps
          · rename Fr _ _ _ _ => F21
            rename News _ _ _ _ => N21
            rename (_ < _ * (List.length _ : Int)) => hlo
            rename (decide _ = true) => hemp
            rename (IntsAre _ (_ ++ _)) => hIt
            obtain rfl : gs = [] := of_decide_eq_true hemp
            unfold Halt
            exact hret _ _ _ F21.keep ⟨_, _, ll, q, tq, _, _, _, vl, kl, ls, rfl, (N21 _ (.head _)).2.2, (N21 _ (.tail _ (.head _))).2.2, (N21 _ (.tail _ (.tail _ (.tail _ (.tail _ (.head _)))))).2.2, (N21 _ (.head _)).1, (N21 _ (.tail _ (.head _))).1, hIt, (N21 _ (.tail _ (.tail _ (.tail _ (.tail _ (.head _)))))).1, hI2, hP, hlo⟩
          · rename Fr _ _ _ _ => F21
            rename News _ _ _ _ => N21
            rename (_ < _ * (List.length _ : Int)) => hlo
            rename (decide _ = false) => hemp
            rename (_ < _ ∧ ll < _ ∧ D4 < _ ∧ _) => lla
            rename (ll < _ ∧ D4 < _ ∧ _) => la
            cases gs with
            | nil => exact absurd hemp (by decide)
            | cons g gr =>
              cases hI1 with
              | cons _ tg hI1' =>
                rename_i vf'
                refine kl_popAt (p := []) (q := vf') (k := 0) F21 N21 rfl (seqIndex_of (n := vf'.length + 1) (by decide) (by omega)) rfl (Upd.tail (Nat.ne_of_gt lla.2.2.1) (Upd.tail (Nat.ne_of_gt la.2.1) (Upd.tail hlD4 (Upd.head (List.forall_mem_cons.mpr ⟨hrD, List.forall_mem_cons.mpr ⟨hlD, List.forall_mem_cons.mpr ⟨hDD, List.forall_mem_singleton.mpr hcD⟩⟩⟩))))) hvf ?_
                intro h22 F22 N22
                k_steps
                rename Fr _ _ _ _ => F23
                rename News _ _ _ _ => N23
                unfold Halt
                simp only [List.push_toArray] at N23
                have hk := hP.pop hx hy hz hR hnz hlt hlo
                exact ksw_end ((64 * rAhead x y z (spread x y z) q + g, _, vf', kf + 1, gr, vl ++ [.int (rLet (spread x y z) q) _], kl + 1, ls ++ [rLet (spread x y z) q]) : Int × Tok × List Value × Nat × List Int × List Value × Nat × List Int) F23 N23 (by kst_in) ⟨hI1', intsAre_snoc hI2⟩ (by kst_all) (by walk_at "m ksame") hk.1 hk.2
          · rename Fr _ _ _ _ => F21
            rename News _ _ _ _ => N21
            rename ¬_ => hlo
            unfold Halt
            simp only [List.push_toArray] at N21
            have hk := hP.keep hx hy hz hR hnz hlt hlo
            exact ksw_end ((rAhead x y z (spread x y z) q, _, vf, kf, gs, vl ++ [.int (rLet (spread x y z) q) _], kl + 1, ls ++ [rLet (spread x y z) q]) : Int × Tok × List Value × Nat × List Int × List Value × Nat × List Int) F21 N21 (by kst_in) ⟨hI1, intsAre_snoc hI2⟩ (by kst_all) (by walk_at "m ksame") hk.1 hk.2


theorem none_Z1 : True := by
  k_with_none
  trivial
theorem words_LZ1_1 : True := by
  k_with "call type:type" => (((with_reducible show wpAny _ _ (call _ [Value.bytes _ _]) _ _ _); refine call_type_of (Tx := "bytes") rfl (by decide +kernel) ?_))
  k_with "m dec" => (first | omega | (simp only [decide_eq_true_eq, decide_eq_false_iff_not, Bool.not_eq_true, beq_iff_eq, beq_eq_false_iff_ne, ne_eq, Bool.not_eq_true', Bool.not_eq_false'] ; omega))
  k_with "ite" => ((k_openite; first | (refine ite_pos (by walk_at "m dec") ?_) | (refine ite_neg (by walk_at "m dec") ?_)))
  k_with "m upd" => (first | exact Upd.head (List.forall_mem_nil _) | exact Upd.head (by assumption) | (refine Upd.tail (by first | assumption | (refine neN ?_; omega)) ?_; walk_at "m upd"))
  k_with "m same" => ((intro z h1 h2 h3; (simp only [List.forall_mem_cons, List.not_mem_nil, false_implies, implies_true, and_true, ne_eq] at h2); (try simp only [List.contains_cons, List.contains_nil, Bool.or_false, Bool.or_eq_false_iff, beq_eq_false_iff_ne, ne_eq] at h3); (simp [kstB, h1, h2, h3]; done)))
  k_with "call builtin:list.append" => (((with_reducible show wpAny _ _ (call (Value.builtin _) [Value.ref _, _]) _ _ _); (refine' append_K ?k1 ?k2 ?k3 ?_ ?z; (case k1 => assumption); (case k2 => assumption); (case k3 => walk_at "m upd"); (case z => first | assumption | exact (by assumption : ∀ x : Value, _) _)); intro h9 F9 N9; (try k_sweep)))
  k_with "m ksame" => ((intro z h2 h3; (simp only [List.forall_mem_cons, List.not_mem_nil, false_implies, implies_true, and_true, ne_eq] at h2); (try simp only [List.contains_cons, List.contains_nil, Bool.or_false, Bool.or_eq_false_iff, beq_eq_false_iff_ne, ne_eq] at h3); (simp [kstB, h2, h3]; done)))
  trivial

theorem valid_small {R n q : Int} (hR : 1 ≤ R ∧ R ≤ 7) (hn : 3 ≤ n ∧ n ≤ 15) (h : Valid R n q) : 0 ≤ q ∧ q < 262144 := by
  have h1 : R * n ≤ 7 * 15 := Int.mul_le_mul hR.2 hn.2 (by omega) (by decide)
  have h2 : 0 ≤ R * n := Int.mul_nonneg (by omega) (by omega)
  unfold Valid at h
  omega
theorem nums_ok {x y z R q : Int} (hx : 1 ≤ x ∧ x ≤ 5) (hy : 1 ≤ y ∧ y ≤ 5) (hz : 1 ≤ z ∧ z ≤ 5) (hR : 1 ≤ R ∧ R ≤ 7) (hq : 0 ≤ q ∧ q < 262144) : ∀ n ∈ [x, y, z, R, q], 0 ≤ n ∧ n < 262144 := by
  simp only [List.forall_mem_cons, List.not_mem_nil, false_implies, implies_true, and_true]
  omega
theorem figs_ok {fg us fl : List Int} (h1 : ∀ g ∈ fg, 0 ≤ g ∧ g < 64) (h3 : ∀ g ∈ fl, 0 ≤ g ∧ g < 64) : ∀ g ∈ fg ++ (us.map (fun v => v % 64) ++ fl), 0 ≤ g ∧ g < 64 := by
  refine List.forall_mem_append.mpr ⟨h1, List.forall_mem_append.mpr ⟨fun k hk => ?_, h3⟩⟩
  obtain ⟨v, _, rfl⟩ := List.mem_map.mp hk
  omega
theorem fill_ok (k : Nat) : ∃ fl : List Int, ([62, 63, 27] : List Int).take (-(k : Int) % 4).toNat = fl ∧ (k + fl.length) % 4 = 0 ∧ fl.length ≤ 3 ∧ ∀ g ∈ fl, 0 ≤ g ∧ g < 64 := by
  obtain h | h | h | h : (-(k : Int) % 4).toNat = 0 ∨ (-(k : Int) % 4).toNat = 1 ∨ (-(k : Int) % 4).toNat = 2 ∨ (-(k : Int) % 4).toNat = 3 := by omega
  · rw [h]; exact ⟨[], rfl, by show (k + 0) % 4 = 0; omega, by decide, by decide⟩
  · rw [h]; exact ⟨[62], rfl, by show (k + 1) % 4 = 0; omega, by decide, by decide⟩
  · rw [h]; exact ⟨[62, 63], rfl, by show (k + 2) % 4 = 0; omega, by decide, by decide⟩
  · rw [h]; exact ⟨[62, 63, 27], rfl, by show (k + 3) % 4 = 0; omega, by decide, by decide⟩
theorem slice_tmp {prog : Program} {w : World} {A : Around} {E : Value → Shared → Prop} {s : Shared} {h₀ : Heap} {L : Addr} {m : Str → Option Value} {news : List (Addr × Obj)} {value slice : PySem.Expr} {l : Addr} {vs : List Value} {ns : List Int} {y : Int} {t : Tok} {Q : Value → Shared → Prop}
    (F : Fr h₀ L s.heap m) (N : News h₀ L s.heap news) (hl : s.heap.IsList l vs.toArray) (hi : IntsAre vs ns) (hy : 0 ≤ y) (hsz : vs.toArray.size ≤ sizeLine)
    (h : ∀ D ws h', Fr h₀ L h' m → News h₀ L h' ((D, listOf (List.toArray ws) 0) :: news) → (∀ p ∈ news, p.1 < D) → IntsAre ws (ns.take y.toNat) → Q (.ref D) { s with heap := h' })
    (hs : subscripted slice false (.ref l) (.ref s.heap.objs.size) = operate [.ref s.heap.objs.size, .ref l] (getItem (.ref l) (.ref s.heap.objs.size))) :
    wpAny (model prog w) A (subscriptTail value slice (.ref l) (.ref s.heap.objs.size)) Q E { s with heap := s.heap.push { cls := .type "slice", data := .fields #[.none, .int y t, .none] } } := by
  refine tail_any (Heap.IsList.typeIs (s := { s with heap := s.heap.push { cls := .type "slice", data := .fields #[.none, .int y t, .none] } }) (hl.push _)) list_getitem_lookup
    (wpAny_getItem_list_slice (hl.push _) (Heap.IsSliceOf.new ..) .none (.int _ _) .none (by simp) ?_ hsz) hs
  have N1 := News.push (F.push { cls := .type "slice", data := .fields #[.none, .int y t, .none] }) (N.grown fun _ _ e => Heap.get?_push_of_some _ e) { cls := .type "list", data := .seq (slicePick vs.toArray none (some y) none) }
  rw [Heap.size_push] at N1
  show Q (.ref (s.heap.push _).objs.size) _
  rw [Heap.size_push]
  refine h _ (slicePick vs.toArray none (some y) none).toList _ ((F.push _).push _) ?_ (fun p hp => Nat.lt_succ_of_lt (Heap.lt_size (N p hp).1)) (kmk_upto hi hy)
  rw [Array.toArray_toList]
  exact N1
theorem five : ∀ sc : List Int, ∃ a b c d e, sc.take 5 ++ (List.replicate (5 - ((sc.take 5).length : Int)).toNat [(0 : Int)]).flatten = [a, b, c, d, e]
  | [] => ⟨_, _, _, _, _, rfl⟩
  | [_] => ⟨_, _, _, _, _, rfl⟩
  | [_, _] => ⟨_, _, _, _, _, rfl⟩
  | [_, _, _] => ⟨_, _, _, _, _, rfl⟩
  | [_, _, _, _] => ⟨_, _, _, _, _, rfl⟩
  | a :: b :: c :: d :: e :: r => ⟨a, b, c, d, e, rfl⟩
theorem fiveI {vs : List Value} {sc : List Int} (h : IntsAre vs (sc.take 5 ++ (List.replicate (5 - ((sc.take 5).length : Int)).toNat [(0 : Int)]).flatten)) : ∃ a b c d e, IntsAre vs [a, b, c, d, e] := by
  obtain ⟨a, b, c, d, e, h1⟩ := five sc
  exact ⟨a, b, c, d, e, h1 ▸ h⟩
theorem take3 {f : Nat → Int} {i : Nat} (hi : i < 3) : [f 0, f 1, f 2].take (i + 1) = [f 0, f 1, f 2].take i ++ [f i] := by
  obtain rfl | rfl | rfl : i = 0 ∨ i = 1 ∨ i = 2 := by omega
  · rfl
  · rfl
  · rfl
theorem news_16 {h₀ h : Heap} {L : Addr} {a b c d e f : Addr × Obj} (N : News h₀ L h [a, b, c, d, e, f]) : News h₀ L h [a, f] := fun p hp => N p (by
  rcases List.mem_cons.mp hp with rfl | hp
  · exact .head _
  · exact List.mem_singleton.mp hp ▸ .tail _ (.tail _ (.tail _ (.tail _ (.tail _ (.head _))))))
theorem first_valid {fl e : Int} (h : 0 < 63 * fl) : fl ≤ fl + e % (63 * fl) ∧ fl + e % (63 * fl) < 64 * fl := by
  have h1 := Int.emod_nonneg e (Int.ne_of_gt h)
  have h2 := Int.emod_lt_of_pos e h
  omega
theorem mod5 (a : Int) : 1 ≤ a % 5 + 1 ∧ a % 5 + 1 ≤ 5 := by omega
theorem mod7 (a : Int) : 1 ≤ a % 7 + 1 ∧ a % 7 + 1 ≤ 7 := by omega

theorem words_Z1_1 : True := by
  k_with "eval Name" => (((with_reducible show wpAny _ _ (eval (PySem.Expr.Name _ _) (compEnvC _ _ _ _)) _ _ _); (first
    | k_dflt (refine' nameE_L ?k1 ?k2 ?k3 ?_ ?k4 ?k5 ?k6; (case k5 => exact rfl); (case k1 => assumption); (case k2 => exact rfl); (case k3 => exact rfl); (case k4 => exact rfl); (case k6 => decide))
    | k_dflt (refine' nameE_C ?k1 ?k2 ?k3 ?_ ?k4 ?k5 ?k6; (case k5 => exact rfl); (case k1 => assumption); (case k2 => exact rfl); (case k3 => assumption); (case k4 => exact rfl); (case k6 => decide))
    | k_dflt (refine' nameE_K ?k1 ?k2 ?k3 ?e ?_ ?kg ?k4 ?k5 ?k6; (case k5 => exact rfl); (case k1 => assumption); (case k2 => assumption); (case k3 => assumption); (case e => k_is); (case kg => exact rfl); (case k4 => exact rfl); (case k6 => decide))
    | k_dflt (refine' nameE_B ?k1 ?k2 ?k3 ?e ?b ?n ?_ ?kg ?kb ?k4 ?k5 ?k6; (case k5 => exact rfl); (case k1 => assumption); (case k2 => assumption); (case k3 => assumption); (case e => k_is); (case b => boot_by_name); (case n => decide); (case kg => exact rfl); (case kb => exact rfl); (case k4 => exact rfl); (case k6 => decide)))))
  k_with "binaryOp FloorDiv int int" => (((with_reducible show wpAny _ _ (binaryOp _ (Value.int _ _) (Value.int _ _)) _ _ _); k_dflt (refine fdiv_e (by first | assumption | decide | omega) ?_)))
  k_with "binaryOp Mod int int" => (((with_reducible show wpAny _ _ (binaryOp _ (Value.int _ _) (Value.int _ _)) _ _ _); k_dflt (refine mod_e (by first | decide | assumption | omega) ?_)))
  k_with "binaryOp Mult int int" => (((with_reducible show wpAny _ _ (binaryOp _ (Value.int _ _) (Value.int _ _)) _ _ _); (first | k_dflt (refine mul_r (by decide) ?_) | k_dflt (refine mul_e (by first | decide | assumption | omega) ?_))))
  k_with "call builtin:len" => (((with_reducible show wpAny _ _ (call (Value.builtin "len") [Value.ref _]) _ _ _); (refine' lenL ?k1 ?k2 ?k3 ?_; (case k1 => is_list); (case k2 => assumption); (case k3 => assumption))))
  k_with "subscriptTail" => (((with_reducible show wpAny _ _ (subscriptTail _ _ (Value.ref _) (Value.int _ _)) _ _ _); (refine' itemL ?k1 ?k2 ?k3 ?k4 ?_ ?k6; (case k1 => is_list); (case k2 => assumption); (case k3 => assumption); (case k4 => assumption); (case k6 => with_unfolding_all rfl)); intro t9))
  k_with "exec While Compare cons nil" => (refine haltQ ?_)
  k_with "exec While" => (refine haltQ ?_)
  k_with "KswPost" => (refine haltQ ?_)
  k_with "pyIter ref" => (refine haltQ ?_)
  k_with "exec Assign cons ListComp" => (refine haltQ ?_)
  k_with "EEnd" => (refine haltQ ?_)
  k_with "InvPostN" => (refine haltQ ?_)
  k_with "eval ListComp" => (refine haltQ ?_)
  k_with "exec Assign cons ListComp" => (refine haltQ ?_)
  k_with "subscriptTail List Slice ref ref" => (refine haltQ ?_)
  k_with "call ref" => (((with_reducible show wpAny _ _ (call (Value.ref 161) _ _) _ _ _); refine haltQ ?_))
  k_with "call ref" => (((with_reducible show wpAny _ _ (call (Value.ref 166) _ _) _ _ _); refine haltQ ?_))
  k_with "call ref" => (((with_reducible show wpAny _ _ (call (Value.ref 156) _ _) _ _ _); refine haltQ ?_))
  k_with "call ref" => (((with_reducible show wpAny _ _ (call (Value.ref 176) _ _) _ _ _); refine haltQ ?_))
  trivial
theorem law_holds : PySem.Challenge.rw_oy0067_01.Holds := by
  w_on
  refine holds_law (by kernel_rfl) fun _ => ?_
  refine holds_open (q := Mine.hd.view_39) (loose := [Str.ofString "bytes_types", Str.ofString "a2b_base64", Str.ofString "b2a_base64", Str.ofString "b64encode", Str.ofString "b64decode"]) (Xt := fun s => xlAt Mine.hd.view_39 [] s && recOk (RowW.records Challenge.rw_oy0067_01.row.toRowW) s) (XP := XL Mine.hd.view_39 []) (Yf := Hook.obs (kHook Mine.hd.heap_39 Mine.kAs (fun _ => by kernel_rfl))) (Ya := Hook.val (kHook Mine.hd.heap_39 Mine.kAs (fun _ => by kernel_rfl))) (YP := Hook.says (kHook Mine.hd.heap_39 Mine.kAs (fun _ => by kernel_rfl))) (N := 2054) ?hl (Hook.of (kHook Mine.hd.heap_39 Mine.kAs (fun _ => by kernel_rfl))) (Hook.keeps (kHook Mine.hd.heap_39 Mine.kAs (fun _ => by kernel_rfl))) (fun s e => xl_of s (Bool.and_eq_true_iff.mp e).1) XL.keeps (by rfl) (by rfl) (by rfl) (fun s e => recFacts_of (Bool.and_eq_true_iff.mp e).2) (by rfl) (by first | assumption | decide +kernel) (by decide +kernel) ⟨rfl, rfl, rfl, rfl, rfl, by decide +kernel⟩ ?hw ?hc
  (case hl => exact Mine.left39)
  (case hw => w_witness2)
  case hc =>
    k_go0
    (all_goals try k_fold)
    k_steps
    rename Top _ _ _ _ _ _ => T
    rename (PySem.W.Frag.In (Mine.hd.heap_39 _) _) => X
    rename Fr _ _ _ _ => F1
    rename News _ _ _ _ => N1
    rename (¬ (((63 : Nat) : Int) < _)) => hlen
    rename (IntsAre _ (List.take 5 _ ++ _)) => hI5
    rename Heap.IsList _ _ _ => hL
    rename (_ = Data.cell (some _)) => dc
    rename Shared => s
    rename World => w
    obtain ⟨d0, d1, d2, d3, d4, hI5⟩ := fiveI hI5
    have N2 := news_16 N1
    clear N1
    unfold Halt
    refine comp_assign rfl rfl (by decide) rfl (by decide) rfl rfl ?_
    k_steps
    rename IsRange _ _ _ _ _ _ _ _ => R1
    rename Fr _ _ _ _ => F2
    rename News _ _ _ _ => N2
    unfold Halt
    have hs1 := N2 _ (.head _)
    have hs2 := N2 _ (.tail _ (.head _))
    refine rangeSrc (s := { s with heap := _, toks := _ }) (b := 3) (news₀ := []) 3 R1 (by decide) (by decide) _ (fun i _ vs nw => nw = [] ∧ IntsAre vs (([(d0 + 0) % 5 + 1, (d1 + 1) % 5 + 1, (d2 + 2) % 5 + 1] : List Int).take i)) rfl rfl (Ext.refl _) (Nat.le_refl _) (fun _ h => nomatch h) (fun _ => ⟨rfl, .nil⟩) (fun _ _ _ => turn_elt) ?_ ?_ ?hh
    case hh => rfl
    · rintro D C i tv h tk m₁ vs₁ k₁ news₁ own hD hi ⟨rfl, hP⟩ hnf hown hnD F3 N3
      have ha3 : Heap.IsList _ _ _ := ⟨_, F3.keep _ _ hs1.1, rfl, _, rfl⟩
      have hc1 : Heap.IsCell _ _ (some (.ref _)) := ⟨_, hs2.1, dc⟩
      have hi2 : (i : Int) < 3 := by omega
      have hi5 : (i : Int) < 5 := by omega
      have hvl : vs₁.length ≤ 1000 := by rw [hP.length, List.length_take]; exact Nat.le_trans (Nat.min_le_left _ _) (by omega)
      refine body_elt (k := k₁) hvl (fun p hp => hnD p hp) ?_
      clear R1 hs1 hs2 F2 N2
      k_steps
      unfold Halt
      have e := take3 (f := fun k : Nat => ([d0, d1, d2, d3, d4].getD (k : Int).toNat 0 + (k : Int)) % 5 + 1) hi
      exact ⟨_, _, _, [], rfl, F3, N3, List.forall_mem_nil _, List.forall_mem_nil _, rfl, Eq.mpr (congrArg (IntsAre _) e) (intsAre_snoc hP)⟩
    · rintro H D C h' tk' m₁ us k₁ news₁ hD hDC ⟨rfl, hP⟩ hnD F3 N3
      refine ⟨_, F2.ns, led_ne F2 N3, fun h' tk' hns hk hl => ?_⟩
      obtain ⟨F4, N4⟩ := after_comp F2 N2 (led_ne F2 N3) hns hk hl
      clear hk hl hns F3 N3 R1 F2 N2 hs1 hs2
      change IntsAre us [(d0 + 0) % 5 + 1, (d1 + 1) % 5 + 1, (d2 + 2) % 5 + 1] at hP
      obtain ⟨x, hx, ex⟩ : ∃ x, (1 ≤ x ∧ x ≤ 5) ∧ (d0 + 0) % 5 + 1 = x := ⟨_, mod5 _, rfl⟩
      obtain ⟨y, hy, ey⟩ : ∃ y, (1 ≤ y ∧ y ≤ 5) ∧ (d1 + 1) % 5 + 1 = y := ⟨_, mod5 _, rfl⟩
      obtain ⟨z, hz, ez⟩ : ∃ z, (1 ≤ z ∧ z ≤ 5) ∧ (d2 + 2) % 5 + 1 = z := ⟨_, mod5 _, rfl⟩
      rw [ex, ey, ez] at hP
      k_steps
      rename Fr _ _ _ _ => F5
      rename News _ _ _ _ => N5
      unfold Halt
      refine useC (c_row (Frag.In.keeps X F5.keep) (Top.keeps T F5.keep) ⟨_, (N5 _ (.head _)).1, rfl, _, rfl⟩ hP hx hy hz) F5 N5 ?_
      rintro v6 h6 tk6 F6 N6 x6 ⟨lrow, vrow, nrow, rfl, hn6, ho6, hi6⟩
      have N7 := news_new F5 N5 x6 hn6 ho6
      clear F5 N5 N6 x6 hn6 ho6
      obtain ⟨hok, hre⟩ := spread_ok hx hy hz
      have hnz : ((spread x y z).length : Int) = x + y + z := hok.1
      have hzz : (spread x y z).length ≤ 16777216 := by omega
      have hR := mod7 ([d0, d1, d2, d3, d4].getD (3 : Int).toNat 0)
      have hfl : 0 < 63 * (([d0, d1, d2, d3, d4].getD (3 : Int).toNat 0 % 7 + 1) * ((spread x y z).length : Int)) := Int.mul_pos (by decide) (Int.mul_pos (by omega) (by omega))
      k_steps
      rename Fr _ _ _ _ => F8
      rename News _ _ _ _ => N8
      unfold Halt
      refine comp_eval rfl (by decide) rfl (by decide) ?_
      k_steps
      rename Fr _ _ _ _ => F9
      rename News _ _ _ _ => N9
      rename (IntsAre _ (List.take _ (List.drop 5 _))) => hIs
      rename (List.length (List.take _ (List.drop 5 _)) = _) => hlS
      obtain ⟨ms, hms, hIs⟩ : ∃ ms : List Int, ms.length ≤ 8 ∧ IntsAre _ ms := ⟨_, by rw [hlS]; omega, hIs⟩
      unfold Halt
      refine listSrc (s := { s with heap := _, toks := _ }) ⟨_, (N9 _ (.head _)).1, rfl, _, rfl⟩ (fun i _ us nw => IntsAre us ((ms.map fun v => v % 3).take i) ∧ nw = []) rfl rfl (fun _ => ⟨.nil, rfl⟩) (fun _ _ _ => turn_elt) ?_ ?_ ?hh
      case hh => rfl
      · rintro D C i v h' tk' m₁ us k₁ news₁ own hD hi hv ⟨hj, rfl⟩ hnf hown hnD F3 N3
        obtain ⟨d, t, rfl, hd⟩ := intsAre_at hIs hv
        have hul : us.length ≤ 1000 := by rw [hj.length, List.length_take, List.length_map]; omega
        clear F9 N9
        refine body_elt (k := k₁) hul hnD ?_
        k_steps
        rename Fr _ _ _ _ => F6
        rename News _ _ _ _ => N6
        unfold Halt
        exact ⟨_, _, _, [], rfl, F6, N6, List.forall_mem_nil _, List.forall_mem_nil _, by rw [List.take_add_one, List.getElem?_map, hd]; exact intsAre_snoc hj, rfl⟩
      · rintro H D C h' tk' m₁ us k₁ news₁ hD hDC ⟨hj, rfl⟩ hnD F3 N3
        intro h' tk' hE hl
        have F10 := fr_ext F9 hE
        have N10 := news_new F9 N9 hE (hl _ (.head _)).2 (hl _ (.head _)).1
        have hj : IntsAre us (ms.map fun v => v % 3) := by
          rw [List.size_toArray, hIs.length, ← List.length_map (f := fun v : Int => v % 3), List.take_length] at hj; exact hj
        clear F9 N9 F3 N3 hl hE
        k_steps
        rename Fr _ _ _ _ => F11
        rename News _ _ _ _ => N11
        rename (IntsAre _ (List.map _ ms ++ _)) => hM
        have hm2 : ∀ k ∈ (ms.map fun v => v % 3) ++ [0, 2, 1, 2, 0, 2, 1, 2], 0 ≤ k ∧ k ≤ 2 := by
          refine List.forall_mem_append.mpr ⟨fun k hk => ?_, by decide⟩
          obtain ⟨v, _, rfl⟩ := List.mem_map.mp hk
          omega
        have hml : ((ms.map fun v => v % 3) ++ [0, 2, 1, 2, 0, 2, 1, 2]).length ≤ 16 := by rw [List.length_append, List.length_map]; exact Nat.add_le_add hms (Nat.le_refl _)
        have N12 : News s.heap s.heap.objs.size _ [_, _, _, _, _] := List.forall_mem_cons.mpr ⟨N11 _ (.head _), List.forall_mem_cons.mpr ⟨N11 _ (.tail _ (.tail _ (.tail _ (.tail _ (.head _))))), List.forall_mem_cons.mpr ⟨N11 _ (.tail _ (.tail _ (.tail _ (.tail _ (.tail _ (.head _)))))), List.forall_mem_cons.mpr ⟨N11 _ (.tail _ (.tail _ (.tail _ (.tail _ (.tail _ (.tail _ (.head _))))))), List.forall_mem_singleton.mpr (N11 _ (.tail _ (.tail _ (.tail _ (.tail _ (.tail _ (.tail _ (.tail _ (.head _)))))))))⟩⟩⟩⟩
        clear N11
        unfold Halt
        refine useC (c_put (Frag.In.keeps X F11.keep) (Top.keeps T F11.keep) ⟨_, (N12 _ (.tail _ (.head _))).1, rfl, _, rfl⟩ hi6 ⟨_, (N12 _ (.tail _ (.tail _ (.head _)))).1, rfl, _, rfl⟩ hP ⟨_, (N12 _ (.head _)).1, rfl, _, rfl⟩ hM hx hy hz hR hok hm2 (Nat.le_trans hml (by decide))) F11 N12 ?_
        rintro v13 h13 tk13 F13 N13 x13 ⟨p13, q13, t13, vs13, n13, k13, rfl, hp13, hq13, ho13, hoq13, hi13⟩
        have hrun := run_of_put (rw_of hx hy hz hR) (first_valid (e := [d0, d1, d2, d3, d4].getD (4 : Int).toNat 0 + 100) hfl) hm2
        generalize put x y z _ (spread x y z) _ _ = pr at ho13 hi13 hrun
        obtain ⟨st1, fg⟩ := pr
        obtain ⟨hv1, hf1, hl1, hr1⟩ := hrun
        dsimp only at ho13 hi13 hv1 hf1 hl1 hr1
        have hl1 := Nat.le_trans hl1 hml
        have N14 := news_new F11 N12 x13 hq13 hoq13
        have N15 : News s.heap s.heap.objs.size h13 (_ :: _) := List.forall_mem_cons.mpr ⟨news_new F11 N12 x13 hp13 ho13 _ (.head _), N14⟩
        clear N12 N13 N14 F11
        k_steps
        rename Fr _ _ _ _ => F16
        rename News _ _ _ _ => N16
        unfold Halt
        refine comp_assign rfl rfl (by decide) rfl (by decide) rfl rfl ?_
        k_steps
        rename Fr _ _ _ _ => F17
        rename News _ _ _ _ => N17
        rename (IntsAre _ (List.take _ (List.drop 13 _))) => hIs2
        rename (List.length (List.take _ (List.drop 13 _)) = _) => hlS2
        obtain ⟨us2, hus, hIs2⟩ : ∃ us2 : List Int, us2.length ≤ 6 ∧ IntsAre _ us2 := ⟨_, by rw [hlS2]; omega, hIs2⟩
        unfold Halt
        refine listSrc (s := { s with heap := _, toks := _ }) ⟨_, (N17 _ (.head _)).1, rfl, _, rfl⟩ (fun i _ us nw => IntsAre us ((us2.map fun v => v % 64).take i) ∧ nw = []) rfl rfl (fun _ => ⟨.nil, rfl⟩) (fun _ _ _ => turn_elt) ?_ ?_ ?hh
        case hh => rfl
        · rintro D C i v h' tk' m₁ us k₁ news₁ own hD hi hv ⟨hj, rfl⟩ hnf hown hnD F3 N3
          obtain ⟨d, t, rfl, hd⟩ := intsAre_at hIs2 hv
          have hul : us.length ≤ 1000 := by rw [hj.length, List.length_take, List.length_map]; omega
          clear F17 N17
          refine body_elt (k := k₁) hul hnD ?_
          k_steps
          rename Fr _ _ _ _ => F6
          rename News _ _ _ _ => N6
          unfold Halt
          exact ⟨_, _, _, [], rfl, F6, N6, List.forall_mem_nil _, List.forall_mem_nil _, by rw [List.take_add_one, List.getElem?_map, hd]; exact intsAre_snoc hj, rfl⟩
        · rintro H D C h' tk' m₁ us k₁ news₁ hD hDC ⟨hj, rfl⟩ hnD F3 N3
          refine ⟨_, F17.ns, led_ne F17 N3, fun h' tk' hns hk hl => ?_⟩
          obtain ⟨F18, N18⟩ := after_comp F17 N17 (led_ne F17 N3) hns hk hl
          have hj : IntsAre us (us2.map fun v => v % 64) := by
            rw [List.size_toArray, hIs2.length, ← List.length_map (f := fun v : Int => v % 64), List.take_length] at hj; exact hj
          clear hk hl hns F3 N3 F17 N17
          have hml2 : (us2.map fun v => v % 64).length ≤ 6 := by rw [List.length_map]; exact hus
          have N18 : News _ _ _ [_, _, _, _, _, _, _, _, _] := N18
          (k_with "subscriptTail" => (refine haltQ ?_))
          k_steps
          unfold Halt
          dsimp only
          rename Fr _ _ _ _ => F20
          rename News _ _ _ _ => N20
          have hI20 : ∀ a b c, IntsAre [.int 62 a, .int 63 b, .int 27 c] [62, 63, 27] := fun a b c => .cons _ _ (.cons _ _ (.cons _ _ .nil))
          have hsg : ∀ x : Int, 0 ≤ x % 4 := fun x => Int.emod_nonneg x (by decide)
          refine' slice_tmp (s := { s with heap := _, toks := _ }) F20 N20 ?y3 ?y6 (hsg _) ?y11 ?_ ?y9
          (case y3 => exact ⟨_, (N20 _ (.head _)).1, rfl, _, rfl⟩)
          (case y6 => exact hI20 _ _ _)
          (case y11 => exact Nat.le_of_ble_eq_true rfl)
          (case y9 => with_unfolding_all rfl)
          rintro D21 ws21 h21 F21 N21 l21 hI21
          dsimp only
          obtain ⟨fl, efl, hm4, hl3, hb64⟩ := fill_ok (fg.length + (us2.map fun v => v % 64).length)
          have hI22 : IntsAre ws21 fl := efl ▸ hI21
          have N22 : News _ _ _ [_, _, _, _, _, _] := pick0 N21 [0, 2, 5, 6, 7, 8]
          clear N21 l21 hI21 N20 hI20 hsg F20
          dsimp only at F21
          rename (_ ∧ _ ∧ _ ∧ _ ∧ _ ∧ _ ∧ _ ∧ _ ∧ _) => l1x
          clear l1x
          k_steps
          rename (IntsAre _ ([x, y, z] ++ _)) => hNum
          rename (IntsAre _ (fg ++ _)) => hFig
          rename Fr _ _ _ _ => F23
          rename News _ _ _ _ => N23
          have hfok := figs_ok (us := us2) hf1 hb64
          have hn15 : 3 ≤ ((spread x y z).length : Int) ∧ ((spread x y z).length : Int) ≤ 15 := by omega
          have hsm := valid_small hR hn15 hv1
          have hf4 : (fg ++ ((us2.map fun v => v % 64) ++ fl)).length % 4 = 0 := by rw [List.length_append, List.length_append, ← Nat.add_assoc]; exact hm4
          have hf25 : (fg ++ ((us2.map fun v => v % 64) ++ fl)).length ≤ 100 := by rw [List.length_append, List.length_append]; omega
          have hrun1 := hr1 ((us2.map fun v => v % 64) ++ fl)
          generalize (fg ++ ((us2.map fun v => v % 64) ++ fl)) = fs at hFig hfok hf4 hf25 hrun1
          have N24 : News _ _ _ [_, _, _] := pick0 N23 [7, 8, 9]
          unfold Halt
          refine useC (c_text (Frag.In.keeps X F23.keep) (Top.keeps T F23.keep) ⟨_, (N23 _ (.tail _ (.head _))).1, rfl, _, rfl⟩ hNum ⟨_, (N23 _ (.head _)).1, rfl, _, rfl⟩ hFig (nums_ok hx hy hz hR hsm) hfok (Nat.le_of_ble_eq_true rfl) (Nat.le_trans hf25 (by decide))) F23 N24 ?_
          rintro v25 h25 tk25 F25 N25 x25 ⟨t25, rfl⟩
          clear F23 N23 N24 x25
          k_steps
          rename Fr _ _ _ _ => F26
          rename News _ _ _ _ => N26
          have hst : ([d0, d1, d2, d3, d4].getD (Int.toNat 3) 0 % 7 + 1) * (x + y + z) ≤ st1 ∧ st1 < 64 * (([d0, d1, d2, d3, d4].getD (Int.toNat 3) 0 % 7 + 1) * (x + y + z)) := by rw [← hnz]; exact hv1
          unfold Halt
          refine useC (c_read (Frag.In.keeps X F26.keep) (Top.keeps T F26.keep) hx hy hz hR hst (readIn_text hx hy hz hR hsm.1 hsm.2 hfok hf4 hf25)) F26 N26 ?_
          rintro v27 h27 tk27 F27 N27 x27 ⟨p27, lt27, ll27, q27, tq27, n27, ws27, kw27, vl27, kl27, ls27, rfl, hp27, hlt27, hll27, hgp27, hgl27, hIw27, hgll27, hIl27, hrp27, hra27⟩
          have N28 := news_new F26 N26 x27 hll27 hgll27
          have N29 : News _ _ _ (_ :: _) := List.forall_mem_cons.mpr ⟨news_new F26 N26 x27 hlt27 hgl27 _ (.head _), N28⟩
          have N30 : News s.heap s.heap.objs.size h27 (_ :: _) := List.forall_mem_cons.mpr ⟨news_new F26 N26 x27 hp27 hgp27 _ (.head _), N29⟩
          clear F26 N26 N27 N28 N29 x27 hp27 hlt27 hll27 hgp27 hgl27 hgll27
          have hW := rw_of hx hy hz hR
          have hpre := run_prefix hrun1 hrp27.1 (by unfold rstep; dsimp only; rw [if_pos hra27])
          have hput := put_of_run hW hv1 hfok hrp27.1
          have hlsl : ls27.length ≤ 7000000 := by have := hrp27.2.2.2.1; omega
          have hls2 := hrp27.2.2.2.2
          clear hrun1 hra27 hrp27
          have hpre' : ∀ n : Nat, n = (ms.map fun v => v % 3).length + 8 → ls27.take n = (ms.map fun v => v % 3) ++ [0, 2, 1, 2, 0, 2, 1, 2] := fun n hn => by
            rw [hn, show (ms.map fun v => v % 3).length + 8 = ((ms.map fun v => v % 3) ++ [0, 2, 1, 2, 0, 2, 1, 2]).length from (List.length_append (as := ms.map fun v => v % 3) (bs := [0, 2, 1, 2, 0, 2, 1, 2])).symm]
            exact hpre
          k_steps
          rotate_left
          · rename (¬ List.take _ ls27 = _) => hne
            exact absurd (hpre' _ (by omega)) hne
          unfold Halt
          rename Fr _ _ _ _ => F35
          rename News _ _ _ _ => N35
          have N36 : News _ _ _ [_, _, _] := pick0 N35 [6, 8, 9]
          refine useC (c_put (Frag.In.keeps X F35.keep) (Top.keeps T F35.keep) ⟨_, (N36 _ (.tail _ (.head _))).1, rfl, _, rfl⟩ hi6 ⟨_, (N36 _ (.tail _ (.tail _ (.head _)))).1, rfl, _, rfl⟩ hP ⟨_, (N36 _ (.head _)).1, rfl, _, rfl⟩ hIl27 hx hy hz hR hok hls2 hlsl) F35 N36 ?_
          rintro v37 h37 tk37 F37 N37 x37 ⟨p37, q37, t37, vs37, n37, k37, rfl, hp37, hq37, ho37, hoq37, hi37⟩
          rw [hput] at ho37 hi37
          dsimp only at ho37 hi37
          have N38 := news_new F35 N36 x37 hq37 hoq37
          have N39 : News s.heap s.heap.objs.size h37 (_ :: _) := List.forall_mem_cons.mpr ⟨news_new F35 N36 x37 hp37 ho37 _ (.head _), N38⟩
          clear F35 N35 N36 N37 N38 x37 hp37 hq37 ho37 hoq37
          k_steps
          unfold Halt
          rename Fr _ _ _ _ => F40
          rename News _ _ _ _ => N40
          rename (IntsAre _ ([x, y, z] ++ [_, st1])) => hNum2
          refine useC (c_text (Frag.In.keeps X F40.keep) (Top.keeps T F40.keep) ⟨_, (N40 _ (.head _)).1, rfl, _, rfl⟩ hNum2 ⟨_, (N40 _ (.tail _ (.tail _ (.tail _ (.head _))))).1, rfl, _, rfl⟩ hi37 (nums_ok hx hy hz hR hsm) hfok (Nat.le_of_ble_eq_true rfl) (Nat.le_trans hf25 (by decide))) F40 N40 ?_
          rintro v41 h41 tk41 F41 N41 x41 ⟨t41, rfl⟩
          clear F40 N40 x41
          k_steps


end Mine
theorem PySem.Challenge.cw_oy0067_01_holds : PySem.Challenge.rw_oy0067_01.Holds :=
  Mine.law_holds
