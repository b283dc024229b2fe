import PyProof.Rows.All
import Wide.All
import OpenK.AllK
import Wide.FinOn
import PySem.Challenge.RW_ij0025_01
open PySem PySem.W PyProof.Rows PySem.Spec PySem.Calls
set_option Elab.async false
set_option compiler.extract_closed false
namespace Mine
abbrev H.rr : RowW := PySem.Challenge.rw_ij0025_01.row.toRowW
noncomputable def H.vw : Program := view PySem.Challenge.pw_ij0025_01 [0, 2, 3, 5, 6, 8, 9, 13, 14, 15, 16, 17, 18, 19, 20]
abbrev H.loose : List Str := ["_twin_re_1", "_special_chars_map", "capwords"]
noncomputable abbrev H.xt (s : Shared) : Bool := xlAt H.vw [] s && recOk H.rr.records s
set_option maxRecDepth 100000 in
set_option maxHeartbeats 8000000 in
theorem H.said : OpenLaw.wellSaid PySem.Challenge.rw_ij0025_01 = true := by
  unfold OpenLaw.wellSaid OpenRow.wellSaid OpenRow.partSaid looksOpen
  repeat' (with_reducible refine look_both ?_ ?_)
  all_goals decide +kernel
local macro_rules | `(tactic| o_law) => `(tactic| refine holds_law H.said fun said => ?_)
theorem H.opens (Z : Hook) {d : DefRec} {kwd : List (Str × Expr)} (hdef : defOf H.vw H.rr.name = some (d, kwd)) (hp : H.rr.prog.theDef H.rr.name = some (d.params, d.body, d.scope)) (hk : kwWritten? d.params.kwonlyargs d.params.kw_defaults = some kwd) (k1 : PySem.Challenge.rw_ij0025_01.row.wellSaid = true) (hw : H.rr.promised)
    (hc : LeftO H.rr.prog H.vw H.loose H.xt Z.obs Z.val 3666 ∧ WalkO H.vw H.loose (XL H.vw []) Z.says H.rr d kwd fun f vs => PySem.call f vs) : PySem.Challenge.rw_ij0025_01.row.Holds :=
  PySem.W.holds_open (Xt := H.xt) (XP := XL H.vw []) (YP := Z.says) hc.1 Z.of Z.keeps (fun s e => xl_of s (Bool.and_eq_true_iff.mp e).1) XL.keeps hdef hp hk (fun s e => recFacts_of (Bool.and_eq_true_iff.mp e).2) rfl k1 (by decide +kernel) ⟨rfl, rfl, rfl, rfl, rfl, by decide +kernel⟩ hw hc.2
local macro_rules | `(tactic| o_head $H) => `(tactic| refine H.opens $H (by rfl) (by rfl) (by rfl) (by assumption) ?hw ?hc)
set_option maxRecDepth 100000 in
set_option maxHeartbeats 8000000 in
open_top hd for PySem.Challenge.rw_ij0025_01
noncomputable def H.ad : List Addr := [2, 3, 6, 11, 12, 35, 36, 37, 39, 40, 42, 43, 45, 49, 51, 52, 54, 55, 56, 58, 59, 61, 62, 63, 65, 66, 68, 69, 70, 71, 73, 74, 76, 77, 78, 81, 82, 83, 85, 86, 88, 89, 90, 92, 93, 95, 96, 97, 100, 101, 102, 104, 105, 107, 108, 109, 112, 113, 114, 117, 118, 119, 122, 123]
theorem H.adEq (P : Params) : H.ad = (hd.heap_1 P).map (·.1) := by kernel_rfl
noncomputable def H.k (P : Params) (a : Nat) : Obj := ((hd.heap_1 P).lookup a).getD default
noncomputable def H.fd (P : Params) (a : Nat) : FuncData := match (H.k P a).data with
  | .func f => f
  | _ => default
noncomputable def H.oS1 (P : Params) : Obj := (PySem.Obj.mk (PySem.Value.type "dict") (Option.none) (PySem.Data.dict (List.toArray [(PySem.DictEntry.mk (PySem.PyData.keyHash P (PySem.Str.ofString "builtins")) (PySem.Value.str (PySem.Str.ofString "builtins") (162 : Nat)) (PySem.Value.ref (4 : Nat))), (PySem.DictEntry.mk (PySem.PyData.keyHash P (PySem.Str.ofString "__main__")) (PySem.Value.str (PySem.Str.ofString "__main__") (163 : Nat)) (PySem.Value.ref (5 : Nat))), (PySem.DictEntry.mk (PySem.PyData.keyHash P (PySem.Str.ofString "_sre")) (PySem.Value.str (PySem.Str.ofString "_sre") (244 : Nat)) (PySem.Value.ref (12 : Nat)))]) (3 : Nat)) (List.toArray []))
noncomputable def H.oS3 (P : Params) : Obj := (PySem.Obj.mk (PySem.Value.type "dict") (Option.none) (PySem.Data.dict (List.toArray [(PySem.DictEntry.mk (PySem.PyData.keyHash P (PySem.Str.ofString "__name__")) (PySem.Value.str (PySem.Str.ofString "__name__") (165 : Nat)) (PySem.Value.str (PySem.Str.ofString "__main__") (164 : Nat))), (PySem.DictEntry.mk (PySem.PyData.keyHash P (PySem.Str.ofString "__doc__")) (PySem.Value.str (PySem.Str.ofString "__doc__") (166 : Nat)) PySem.Value.none), (PySem.DictEntry.mk (PySem.PyData.keyHash P (PySem.Str.ofString "__package__")) (PySem.Value.str (PySem.Str.ofString "__package__") (167 : Nat)) PySem.Value.none), (PySem.DictEntry.mk (PySem.PyData.keyHash P (PySem.Str.ofString "__loader__")) (PySem.Value.str (PySem.Str.ofString "__loader__") (168 : Nat)) (PySem.Value.builtin "__main__.__loader__#opaque")), (PySem.DictEntry.mk (PySem.PyData.keyHash P (PySem.Str.ofString "__spec__")) (PySem.Value.str (PySem.Str.ofString "__spec__") (169 : Nat)) PySem.Value.none), (PySem.DictEntry.mk (PySem.PyData.keyHash P (PySem.Str.ofString "__annotations__")) (PySem.Value.str (PySem.Str.ofString "__annotations__") (170 : Nat)) (PySem.Value.ref (6 : Nat))), (PySem.DictEntry.mk (PySem.PyData.keyHash P (PySem.Str.ofString "__builtins__")) (PySem.Value.str (PySem.Str.ofString "__builtins__") (171 : Nat)) (PySem.Value.ref (4 : Nat))), (PySem.DictEntry.mk (PySem.PyData.keyHash P (PySem.Str.ofString "__file__")) (PySem.Value.str (PySem.Str.ofString "__file__") (173 : Nat)) (PySem.Value.str (PySem.Str.ofString "/claim/cut.py") (172 : Nat))), (PySem.DictEntry.mk (PySem.PyData.keyHash P (PySem.Str.ofString "__cached__")) (PySem.Value.str (PySem.Str.ofString "__cached__") (174 : Nat)) PySem.Value.none), (PySem.DictEntry.mk (PySem.PyData.keyHash P (PySem.Str.ofString "_sre")) (PySem.Value.str (PySem.Str.ofString "_sre") (275 : Nat)) (PySem.Value.ref (12 : Nat)))]) (10 : Nat)) (List.toArray []))
noncomputable def H.oS13 (P : Params) : Obj := (PySem.Obj.mk (PySem.Value.type "dict") (Option.none) (PySem.Data.dict (List.toArray [(PySem.DictEntry.mk (PySem.PyData.keyHash P (PySem.Str.ofString "__module__")) (PySem.Value.str (PySem.Str.ofString "__module__") (189 : Nat)) (PySem.Value.str (PySem.Str.ofString "_frozen_importlib") (186 : Nat))), (PySem.DictEntry.mk (PySem.PyData.keyHash P (PySem.Str.ofString "__firstlineno__")) (PySem.Value.str (PySem.Str.ofString "__firstlineno__") (190 : Nat)) (PySem.Value.int (971 : Int) (187 : Nat))), (PySem.DictEntry.mk (PySem.PyData.keyHash P (PySem.Str.ofString "__doc__")) (PySem.Value.str (PySem.Str.ofString "__doc__") (191 : Nat)) (PySem.Value.builtin "_frozen_importlib.BuiltinImporter.__doc__:str#opaque")), (PySem.DictEntry.mk (PySem.PyData.keyHash P (PySem.Str.ofString "_ORIGIN")) (PySem.Value.str (PySem.Str.ofString "_ORIGIN") (192 : Nat)) (PySem.Value.str (PySem.Str.ofString "built-in") (188 : Nat))), (PySem.DictEntry.mk (PySem.PyData.keyHash P (PySem.Str.ofString "find_spec")) (PySem.Value.str (PySem.Str.ofString "find_spec") (193 : Nat)) (PySem.Value.builtin "_frozen_importlib.BuiltinImporter.find_spec#opaque")), (PySem.DictEntry.mk (PySem.PyData.keyHash P (PySem.Str.ofString "create_module")) (PySem.Value.str (PySem.Str.ofString "create_module") (194 : Nat)) (PySem.Value.builtin "_frozen_importlib.BuiltinImporter.create_module#opaque")), (PySem.DictEntry.mk (PySem.PyData.keyHash P (PySem.Str.ofString "exec_module")) (PySem.Value.str (PySem.Str.ofString "exec_module") (195 : Nat)) (PySem.Value.builtin "_frozen_importlib.BuiltinImporter.exec_module#opaque")), (PySem.DictEntry.mk (PySem.PyData.keyHash P (PySem.Str.ofString "get_code")) (PySem.Value.str (PySem.Str.ofString "get_code") (196 : Nat)) (PySem.Value.builtin "_frozen_importlib.BuiltinImporter.get_code#opaque")), (PySem.DictEntry.mk (PySem.PyData.keyHash P (PySem.Str.ofString "get_source")) (PySem.Value.str (PySem.Str.ofString "get_source") (197 : Nat)) (PySem.Value.builtin "_frozen_importlib.BuiltinImporter.get_source#opaque")), (PySem.DictEntry.mk (PySem.PyData.keyHash P (PySem.Str.ofString "is_package")) (PySem.Value.str (PySem.Str.ofString "is_package") (198 : Nat)) (PySem.Value.builtin "_frozen_importlib.BuiltinImporter.is_package#opaque")), (PySem.DictEntry.mk (PySem.PyData.keyHash P (PySem.Str.ofString "load_module")) (PySem.Value.str (PySem.Str.ofString "load_module") (199 : Nat)) (PySem.Value.builtin "_frozen_importlib.BuiltinImporter.load_module#opaque")), (PySem.DictEntry.mk (PySem.PyData.keyHash P (PySem.Str.ofString "__static_attributes__")) (PySem.Value.str (PySem.Str.ofString "__static_attributes__") (200 : Nat)) (PySem.Value.ref (15 : Nat))), (PySem.DictEntry.mk (PySem.PyData.keyHash P (PySem.Str.ofString "__dict__")) (PySem.Value.str (PySem.Str.ofString "__dict__") (202 : Nat)) (PySem.Value.ref (16 : Nat))), (PySem.DictEntry.mk (PySem.PyData.keyHash P (PySem.Str.ofString "__weakref__")) (PySem.Value.str (PySem.Str.ofString "__weakref__") (204 : Nat)) (PySem.Value.ref (17 : Nat)))]) (14 : Nat)) (List.toArray []))
noncomputable def H.oS14 (P : Params) : Obj := (PySem.Obj.mk (PySem.Value.type "type") (Option.none) (PySem.Data.cls (PySem.ClassData.mk (PySem.Str.ofString "BuiltinImporter") [(PySem.Value.type "object")] [(PySem.Value.ref (14 : Nat)), (PySem.Value.type "object")] (13 : Nat) (PySem.Str.ofString "BuiltinImporter") Bool.true [] [] Bool.false (Option.none) Bool.false)) (List.toArray []))
noncomputable def H.oS15 (P : Params) : Obj := (PySem.Obj.mk (PySem.Value.type "tuple") (Option.none) (PySem.Data.seq (List.toArray []) (0 : Nat)) (List.toArray []))
noncomputable def H.oS16 (P : Params) : Obj := (PySem.Obj.mk (PySem.Value.type "getset_descriptor") (Option.none) (PySem.Data.fields (List.toArray [(PySem.Value.str (PySem.Str.ofString "__dict__") (201 : Nat)), (PySem.Value.ref (14 : Nat)), (PySem.Value.builtin "function.__dict__"), (PySem.Value.builtin "function.__dict__#set")])) (List.toArray []))
noncomputable def H.oS17 (P : Params) : Obj := (PySem.Obj.mk (PySem.Value.type "getset_descriptor") (Option.none) (PySem.Data.fields (List.toArray [(PySem.Value.str (PySem.Str.ofString "__weakref__") (203 : Nat)), (PySem.Value.ref (14 : Nat)), (PySem.Value.builtin "ExceptionGroup.__weakref__"), PySem.Value.none])) (List.toArray []))
noncomputable def H.oS18 (P : Params) : Obj := (PySem.Obj.mk PySem.Value.none (Option.none) (PySem.Data.seq (List.toArray [(PySem.Value.int (13 : Int) (0 : Nat)), (PySem.Value.str (PySem.Str.mk (List.toArray [6, 189, 10, 95, 95, 109, 111, 100, 117, 108, 101, 95, 95, 6, 186, 17, 95, 102, 114, 111, 122, 101, 110, 95, 105, 109, 112, 111, 114, 116, 108, 105, 98, 6, 190, 15, 95, 95, 102, 105, 114, 115, 116, 108, 105, 110, 101, 110, 111, 95, 95, 4, 187, 0, 971, 6, 191, 7, 95, 95, 100, 111, 99, 95, 95, 9, 52, 95, 102, 114, 111, 122, 101, 110, 95, 105, 109, 112, 111, 114, 116, 108, 105, 98, 46, 66, 117, 105, 108, 116, 105, 110, 73, 109, 112, 111, 114, 116, 101, 114, 46, 95, 95, 100, 111, 99, 95, 95, 58, 115, 116, 114, 35, 111, 112, 97, 113, 117, 101, 6, 192, 7, 95, 79, 82, 73, 71, 73, 78, 6, 188, 8, 98, 117, 105, 108, 116, 45, 105, 110, 6, 193, 9, 102, 105, 110, 100, 95, 115, 112, 101, 99, 9, 50, 95, 102, 114, 111, 122, 101, 110, 95, 105, 109, 112, 111, 114, 116, 108, 105, 98, 46, 66, 117, 105, 108, 116, 105, 110, 73, 109, 112, 111, 114, 116, 101, 114, 46, 102, 105, 110, 100, 95, 115, 112, 101, 99, 35, 111, 112, 97, 113, 117, 101, 6, 194, 13, 99, 114, 101, 97, 116, 101, 95, 109, 111, 100, 117, 108, 101, 9, 54, 95, 102, 114, 111, 122, 101, 110, 95, 105, 109, 112, 111, 114, 116, 108, 105, 98, 46, 66, 117, 105, 108, 116, 105, 110, 73, 109, 112, 111, 114, 116, 101, 114, 46, 99, 114, 101, 97, 116, 101, 95, 109, 111, 100, 117, 108, 101, 35, 111, 112, 97, 113, 117, 101, 6, 195, 11, 101, 120, 101, 99, 95, 109, 111, 100, 117, 108, 101, 9, 52, 95, 102, 114, 111, 122, 101, 110, 95, 105, 109, 112, 111, 114, 116, 108, 105, 98, 46, 66, 117, 105, 108, 116, 105, 110, 73, 109, 112, 111, 114, 116, 101, 114, 46, 101, 120, 101, 99, 95, 109, 111, 100, 117, 108, 101, 35, 111, 112, 97, 113, 117, 101, 6, 196, 8, 103, 101, 116, 95, 99, 111, 100, 101, 9, 49, 95, 102, 114, 111, 122, 101, 110, 95, 105, 109, 112, 111, 114, 116, 108, 105, 98, 46, 66, 117, 105, 108, 116, 105, 110, 73, 109, 112, 111, 114, 116, 101, 114, 46, 103, 101, 116, 95, 99, 111, 100, 101, 35, 111, 112, 97, 113, 117, 101, 6, 197, 10, 103, 101, 116, 95, 115, 111, 117, 114, 99, 101, 9, 51, 95, 102, 114, 111, 122, 101, 110, 95, 105, 109, 112, 111, 114, 116, 108, 105, 98, 46, 66, 117, 105, 108, 116, 105, 110, 73, 109, 112, 111, 114, 116, 101, 114, 46, 103, 101, 116, 95, 115, 111, 117, 114, 99, 101, 35, 111, 112, 97, 113, 117, 101, 6, 198, 10, 105, 115, 95, 112, 97, 99, 107, 97, 103, 101, 9, 51, 95, 102, 114, 111, 122, 101, 110, 95, 105, 109, 112, 111, 114, 116, 108, 105, 98, 46, 66, 117, 105, 108, 116, 105, 110, 73, 109, 112, 111, 114, 116, 101, 114, 46, 105, 115, 95, 112, 97, 99, 107, 97, 103, 101, 35, 111, 112, 97, 113, 117, 101, 6, 199, 11, 108, 111, 97, 100, 95, 109, 111, 100, 117, 108, 101, 9, 52, 95, 102, 114, 111, 122, 101, 110, 95, 105, 109, 112, 111, 114, 116, 108, 105, 98, 46, 66, 117, 105, 108, 116, 105, 110, 73, 109, 112, 111, 114, 116, 101, 114, 46, 108, 111, 97, 100, 95, 109, 111, 100, 117, 108, 101, 35, 111, 112, 97, 113, 117, 101, 6, 200, 21, 95, 95, 115, 116, 97, 116, 105, 99, 95, 97, 116, 116, 114, 105, 98, 117, 116, 101, 115, 95, 95, 4, 0, 0, 15, 6, 202, 8, 95, 95, 100, 105, 99, 116, 95, 95, 4, 0, 0, 16, 6, 204, 11, 95, 95, 119, 101, 97, 107, 114, 101, 102, 95, 95, 4, 0, 0, 17])) (0 : Nat)), (PySem.Value.bool Bool.true), (PySem.Value.bool Bool.true), (PySem.Value.str (PySem.Str.ofString "") (205 : Nat)), (PySem.Value.int (21 : Int) (0 : Nat)), (PySem.Value.str (PySem.Str.mk (List.toArray [6, 227, 10, 95, 95, 109, 111, 100, 117, 108, 101, 95, 95, 6, 217, 17, 95, 102, 114, 111, 122, 101, 110, 95, 105, 109, 112, 111, 114, 116, 108, 105, 98, 6, 228, 15, 95, 95, 102, 105, 114, 115, 116, 108, 105, 110, 101, 110, 111, 95, 95, 4, 218, 0, 562, 6, 229, 7, 95, 95, 100, 111, 99, 95, 95, 9, 47, 95, 102, 114, 111, 122, 101, 110, 95, 105, 109, 112, 111, 114, 116, 108, 105, 98, 46, 77, 111, 100, 117, 108, 101, 83, 112, 101, 99, 46, 95, 95, 100, 111, 99, 95, 95, 58, 115, 116, 114, 35, 111, 112, 97, 113, 117, 101, 6, 230, 8, 95, 95, 105, 110, 105, 116, 95, 95, 9, 44, 95, 102, 114, 111, 122, 101, 110, 95, 105, 109, 112, 111, 114, 116, 108, 105, 98, 46, 77, 111, 100, 117, 108, 101, 83, 112, 101, 99, 46, 95, 95, 105, 110, 105, 116, 95, 95, 35, 111, 112, 97, 113, 117, 101, 6, 231, 8, 95, 95, 114, 101, 112, 114, 95, 95, 9, 44, 95, 102, 114, 111, 122, 101, 110, 95, 105, 109, 112, 111, 114, 116, 108, 105, 98, 46, 77, 111, 100, 117, 108, 101, 83, 112, 101, 99, 46, 95, 95, 114, 101, 112, 114, 95, 95, 35, 111, 112, 97, 113, 117, 101, 6, 232, 6, 95, 95, 101, 113, 95, 95, 9, 42, 95, 102, 114, 111, 122, 101, 110, 95, 105, 109, 112, 111, 114, 116, 108, 105, 98, 46, 77, 111, 100, 117, 108, 101, 83, 112, 101, 99, 46, 95, 95, 101, 113, 95, 95, 35, 111, 112, 97, 113, 117, 101, 6, 233, 6, 99, 97, 99, 104, 101, 100, 9, 42, 95, 102, 114, 111, 122, 101, 110, 95, 105, 109, 112, 111, 114, 116, 108, 105, 98, 46, 77, 111, 100, 117, 108, 101, 83, 112, 101, 99, 46, 99, 97, 99, 104, 101, 100, 35, 111, 112, 97, 113, 117, 101, 6, 234, 6, 112, 97, 114, 101, 110, 116, 9, 42, 95, 102, 114, 111, 122, 101, 110, 95, 105, 109, 112, 111, 114, 116, 108, 105, 98, 46, 77, 111, 100, 117, 108, 101, 83, 112, 101, 99, 46, 112, 97, 114, 101, 110, 116, 35, 111, 112, 97, 113, 117, 101, 6, 235, 12, 104, 97, 115, 95, 108, 111, 99, 97, 116, 105, 111, 110, 9, 48, 95, 102, 114, 111, 122, 101, 110, 95, 105, 109, 112, 111, 114, 116, 108, 105, 98, 46, 77, 111, 100, 117, 108, 101, 83, 112, 101, 99, 46, 104, 97, 115, 95, 108, 111, 99, 97, 116, 105, 111, 110, 35, 111, 112, 97, 113, 117, 101, 6, 236, 21, 95, 95, 115, 116, 97, 116, 105, 99, 95, 97, 116, 116, 114, 105, 98, 117, 116, 101, 115, 95, 95, 4, 0, 0, 23, 6, 238, 8, 95, 95, 100, 105, 99, 116, 95, 95, 4, 0, 0, 24, 6, 240, 11, 95, 95, 119, 101, 97, 107, 114, 101, 102, 95, 95, 4, 0, 0, 25, 6, 241, 8, 95, 95, 104, 97, 115, 104, 95, 95, 0])) (0 : Nat)), (PySem.Value.bool Bool.true), (PySem.Value.bool Bool.true), (PySem.Value.str (PySem.Str.ofString "") (242 : Nat))]) (1 : Nat)) (List.toArray []))
noncomputable def H.oS19 (P : Params) : Obj := (PySem.Obj.mk (PySem.Value.type "list") (Option.none) (PySem.Data.seq (List.toArray []) (0 : Nat)) (List.toArray []))
noncomputable def H.oS20 (P : Params) : Obj := (PySem.Obj.mk (PySem.Value.type "dict") (Option.none) (PySem.Data.dict (List.toArray [(PySem.DictEntry.mk (PySem.PyData.keyHash P (PySem.Str.ofString "name")) (PySem.Value.str (PySem.Str.ofString "name") (208 : Nat)) (PySem.Value.str (PySem.Str.ofString "_sre") (207 : Nat))), (PySem.DictEntry.mk (PySem.PyData.keyHash P (PySem.Str.ofString "loader")) (PySem.Value.str (PySem.Str.ofString "loader") (209 : Nat)) (PySem.Value.ref (14 : Nat))), (PySem.DictEntry.mk (PySem.PyData.keyHash P (PySem.Str.ofString "origin")) (PySem.Value.str (PySem.Str.ofString "origin") (210 : Nat)) (PySem.Value.str (PySem.Str.ofString "built-in") (184 : Nat))), (PySem.DictEntry.mk (PySem.PyData.keyHash P (PySem.Str.ofString "loader_state")) (PySem.Value.str (PySem.Str.ofString "loader_state") (211 : Nat)) PySem.Value.none), (PySem.DictEntry.mk (PySem.PyData.keyHash P (PySem.Str.ofString "submodule_search_locations")) (PySem.Value.str (PySem.Str.ofString "submodule_search_locations") (212 : Nat)) PySem.Value.none), (PySem.DictEntry.mk (PySem.PyData.keyHash P (PySem.Str.ofString "_uninitialized_submodules")) (PySem.Value.str (PySem.Str.ofString "_uninitialized_submodules") (213 : Nat)) (PySem.Value.ref (19 : Nat))), (PySem.DictEntry.mk (PySem.PyData.keyHash P (PySem.Str.ofString "_set_fileattr")) (PySem.Value.str (PySem.Str.ofString "_set_fileattr") (214 : Nat)) (PySem.Value.bool Bool.false)), (PySem.DictEntry.mk (PySem.PyData.keyHash P (PySem.Str.ofString "_cached")) (PySem.Value.str (PySem.Str.ofString "_cached") (215 : Nat)) PySem.Value.none), (PySem.DictEntry.mk (PySem.PyData.keyHash P (PySem.Str.ofString "_initializing")) (PySem.Value.str (PySem.Str.ofString "_initializing") (243 : Nat)) (PySem.Value.bool Bool.false))]) (9 : Nat)) (List.toArray []))
noncomputable def H.oS21 (P : Params) : Obj := (PySem.Obj.mk (PySem.Value.type "dict") (Option.none) (PySem.Data.dict (List.toArray [(PySem.DictEntry.mk (PySem.PyData.keyHash P (PySem.Str.ofString "__module__")) (PySem.Value.str (PySem.Str.ofString "__module__") (227 : Nat)) (PySem.Value.str (PySem.Str.ofString "_frozen_importlib") (217 : Nat))), (PySem.DictEntry.mk (PySem.PyData.keyHash P (PySem.Str.ofString "__firstlineno__")) (PySem.Value.str (PySem.Str.ofString "__firstlineno__") (228 : Nat)) (PySem.Value.int (562 : Int) (218 : Nat))), (PySem.DictEntry.mk (PySem.PyData.keyHash P (PySem.Str.ofString "__doc__")) (PySem.Value.str (PySem.Str.ofString "__doc__") (229 : Nat)) (PySem.Value.builtin "_frozen_importlib.ModuleSpec.__doc__:str#opaque")), (PySem.DictEntry.mk (PySem.PyData.keyHash P (PySem.Str.ofString "__init__")) (PySem.Value.str (PySem.Str.ofString "__init__") (230 : Nat)) (PySem.Value.builtin "_frozen_importlib.ModuleSpec.__init__#opaque")), (PySem.DictEntry.mk (PySem.PyData.keyHash P (PySem.Str.ofString "__repr__")) (PySem.Value.str (PySem.Str.ofString "__repr__") (231 : Nat)) (PySem.Value.builtin "_frozen_importlib.ModuleSpec.__repr__#opaque")), (PySem.DictEntry.mk (PySem.PyData.keyHash P (PySem.Str.ofString "__eq__")) (PySem.Value.str (PySem.Str.ofString "__eq__") (232 : Nat)) (PySem.Value.builtin "_frozen_importlib.ModuleSpec.__eq__#opaque")), (PySem.DictEntry.mk (PySem.PyData.keyHash P (PySem.Str.ofString "cached")) (PySem.Value.str (PySem.Str.ofString "cached") (233 : Nat)) (PySem.Value.builtin "_frozen_importlib.ModuleSpec.cached#opaque")), (PySem.DictEntry.mk (PySem.PyData.keyHash P (PySem.Str.ofString "parent")) (PySem.Value.str (PySem.Str.ofString "parent") (234 : Nat)) (PySem.Value.builtin "_frozen_importlib.ModuleSpec.parent#opaque")), (PySem.DictEntry.mk (PySem.PyData.keyHash P (PySem.Str.ofString "has_location")) (PySem.Value.str (PySem.Str.ofString "has_location") (235 : Nat)) (PySem.Value.builtin "_frozen_importlib.ModuleSpec.has_location#opaque")), (PySem.DictEntry.mk (PySem.PyData.keyHash P (PySem.Str.ofString "__static_attributes__")) (PySem.Value.str (PySem.Str.ofString "__static_attributes__") (236 : Nat)) (PySem.Value.ref (23 : Nat))), (PySem.DictEntry.mk (PySem.PyData.keyHash P (PySem.Str.ofString "__dict__")) (PySem.Value.str (PySem.Str.ofString "__dict__") (238 : Nat)) (PySem.Value.ref (24 : Nat))), (PySem.DictEntry.mk (PySem.PyData.keyHash P (PySem.Str.ofString "__weakref__")) (PySem.Value.str (PySem.Str.ofString "__weakref__") (240 : Nat)) (PySem.Value.ref (25 : Nat))), (PySem.DictEntry.mk (PySem.PyData.keyHash P (PySem.Str.ofString "__hash__")) (PySem.Value.str (PySem.Str.ofString "__hash__") (241 : Nat)) PySem.Value.none)]) (13 : Nat)) (List.toArray []))
noncomputable def H.oS22 (P : Params) : Obj := (PySem.Obj.mk (PySem.Value.type "type") (Option.none) (PySem.Data.cls (PySem.ClassData.mk (PySem.Str.ofString "ModuleSpec") [(PySem.Value.type "object")] [(PySem.Value.ref (22 : Nat)), (PySem.Value.type "object")] (21 : Nat) (PySem.Str.ofString "ModuleSpec") Bool.true [] [] Bool.false (Option.none) Bool.false)) (List.toArray []))
noncomputable def H.oS23 (P : Params) : Obj := (PySem.Obj.mk (PySem.Value.type "tuple") (Option.none) (PySem.Data.seq (List.toArray [(PySem.Value.str (PySem.Str.ofString "_cached") (219 : Nat)), (PySem.Value.str (PySem.Str.ofString "_set_fileattr") (220 : Nat)), (PySem.Value.str (PySem.Str.ofString "_uninitialized_submodules") (221 : Nat)), (PySem.Value.str (PySem.Str.ofString "loader") (222 : Nat)), (PySem.Value.str (PySem.Str.ofString "loader_state") (223 : Nat)), (PySem.Value.str (PySem.Str.ofString "name") (224 : Nat)), (PySem.Value.str (PySem.Str.ofString "origin") (225 : Nat)), (PySem.Value.str (PySem.Str.ofString "submodule_search_locations") (226 : Nat))]) (0 : Nat)) (List.toArray []))
noncomputable def H.oS24 (P : Params) : Obj := (PySem.Obj.mk (PySem.Value.type "getset_descriptor") (Option.none) (PySem.Data.fields (List.toArray [(PySem.Value.str (PySem.Str.ofString "__dict__") (237 : Nat)), (PySem.Value.ref (22 : Nat)), (PySem.Value.builtin "function.__dict__"), (PySem.Value.builtin "function.__dict__#set")])) (List.toArray []))
noncomputable def H.oS25 (P : Params) : Obj := (PySem.Obj.mk (PySem.Value.type "getset_descriptor") (Option.none) (PySem.Data.fields (List.toArray [(PySem.Value.str (PySem.Str.ofString "__weakref__") (239 : Nat)), (PySem.Value.ref (22 : Nat)), (PySem.Value.builtin "ExceptionGroup.__weakref__"), PySem.Value.none])) (List.toArray []))
noncomputable def H.oS26 (P : Params) : Obj := (PySem.Obj.mk (PySem.Value.ref (22 : Nat)) (Option.some (20 : Nat)) PySem.Data.plain (List.toArray []))
noncomputable def H.oS27 (P : Params) : Obj := (PySem.Obj.mk PySem.Value.none (Option.none) (PySem.Data.seq (List.toArray [(PySem.Value.int (11 : Int) (0 : Nat)), (PySem.Value.str (PySem.Str.mk (List.toArray [(6 : Nat), (247 : Nat), (8 : Nat), (95 : Nat), (95 : Nat), (110 : Nat), (97 : Nat), (109 : Nat), (101 : Nat), (95 : Nat), (95 : Nat), (6 : Nat), (246 : Nat), (4 : Nat), (95 : Nat), (115 : Nat), (114 : Nat), (101 : Nat), (6 : Nat), (248 : Nat), (7 : Nat), (95 : Nat), (95 : Nat), (100 : Nat), (111 : Nat), (99 : Nat), (95 : Nat), (95 : Nat), (0 : Nat), (6 : Nat), (250 : Nat), (11 : Nat), (95 : Nat), (95 : Nat), (112 : Nat), (97 : Nat), (99 : Nat), (107 : Nat), (97 : Nat), (103 : Nat), (101 : Nat), (95 : Nat), (95 : Nat), (6 : Nat), (249 : Nat), (0 : Nat), (6 : Nat), (251 : Nat), (10 : Nat), (95 : Nat), (95 : Nat), (108 : Nat), (111 : Nat), (97 : Nat), (100 : Nat), (101 : Nat), (114 : Nat), (95 : Nat), (95 : Nat), (4 : Nat), (0 : Nat), (0 : Nat), (14 : Nat), (6 : Nat), (252 : Nat), (8 : Nat), (95 : Nat), (95 : Nat), (115 : Nat), (112 : Nat), (101 : Nat), (99 : Nat), (95 : Nat), (95 : Nat), (4 : Nat), (0 : Nat), (0 : Nat), (26 : Nat), (6 : Nat), (253 : Nat), (7 : Nat), (99 : Nat), (111 : Nat), (109 : Nat), (112 : Nat), (105 : Nat), (108 : Nat), (101 : Nat), (9 : Nat), (12 : Nat), (95 : Nat), (115 : Nat), (114 : Nat), (101 : Nat), (46 : Nat), (99 : Nat), (111 : Nat), (109 : Nat), (112 : Nat), (105 : Nat), (108 : Nat), (101 : Nat), (6 : Nat), (254 : Nat), (8 : Nat), (116 : Nat), (101 : Nat), (109 : Nat), (112 : Nat), (108 : Nat), (97 : Nat), (116 : Nat), (101 : Nat), (9 : Nat), (13 : Nat), (95 : Nat), (115 : Nat), (114 : Nat), (101 : Nat), (46 : Nat), (116 : Nat), (101 : Nat), (109 : Nat), (112 : Nat), (108 : Nat), (97 : Nat), (116 : Nat), (101 : Nat), (6 : Nat), (255 : Nat), (11 : Nat), (103 : Nat), (101 : Nat), (116 : Nat), (99 : Nat), (111 : Nat), (100 : Nat), (101 : Nat), (115 : Nat), (105 : Nat), (122 : Nat), (101 : Nat), (9 : Nat), (16 : Nat), (95 : Nat), (115 : Nat), (114 : Nat), (101 : Nat), (46 : Nat), (103 : Nat), (101 : Nat), (116 : Nat), (99 : Nat), (111 : Nat), (100 : Nat), (101 : Nat), (115 : Nat), (105 : Nat), (122 : Nat), (101 : Nat), (6 : Nat), (256 : Nat), (13 : Nat), (97 : Nat), (115 : Nat), (99 : Nat), (105 : Nat), (105 : Nat), (95 : Nat), (105 : Nat), (115 : Nat), (99 : Nat), (97 : Nat), (115 : Nat), (101 : Nat), (100 : Nat), (9 : Nat), (18 : Nat), (95 : Nat), (115 : Nat), (114 : Nat), (101 : Nat), (46 : Nat), (97 : Nat), (115 : Nat), (99 : Nat), (105 : Nat), (105 : Nat), (95 : Nat), (105 : Nat), (115 : Nat), (99 : Nat), (97 : Nat), (115 : Nat), (101 : Nat), (100 : Nat), (6 : Nat), (257 : Nat), (15 : Nat), (117 : Nat), (110 : Nat), (105 : Nat), (99 : Nat), (111 : Nat), (100 : Nat), (101 : Nat), (95 : Nat), (105 : Nat), (115 : Nat), (99 : Nat), (97 : Nat), (115 : Nat), (101 : Nat), (100 : Nat), (9 : Nat), (20 : Nat), (95 : Nat), (115 : Nat), (114 : Nat), (101 : Nat), (46 : Nat), (117 : Nat), (110 : Nat), (105 : Nat), (99 : Nat), (111 : Nat), (100 : Nat), (101 : Nat), (95 : Nat), (105 : Nat), (115 : Nat), (99 : Nat), (97 : Nat), (115 : Nat), (101 : Nat), (100 : Nat), (6 : Nat), (258 : Nat), (13 : Nat), (97 : Nat), (115 : Nat), (99 : Nat), (105 : Nat), (105 : Nat), (95 : Nat), (116 : Nat), (111 : Nat), (108 : Nat), (111 : Nat), (119 : Nat), (101 : Nat), (114 : Nat), (9 : Nat), (18 : Nat), (95 : Nat), (115 : Nat), (114 : Nat), (101 : Nat), (46 : Nat), (97 : Nat), (115 : Nat), (99 : Nat), (105 : Nat), (105 : Nat), (95 : Nat), (116 : Nat), (111 : Nat), (108 : Nat), (111 : Nat), (119 : Nat), (101 : Nat), (114 : Nat), (6 : Nat), (259 : Nat), (15 : Nat), (117 : Nat), (110 : Nat), (105 : Nat), (99 : Nat), (111 : Nat), (100 : Nat), (101 : Nat), (95 : Nat), (116 : Nat), (111 : Nat), (108 : Nat), (111 : Nat), (119 : Nat), (101 : Nat), (114 : Nat), (9 : Nat), (20 : Nat), (95 : Nat), (115 : Nat), (114 : Nat), (101 : Nat), (46 : Nat), (117 : Nat), (110 : Nat), (105 : Nat), (99 : Nat), (111 : Nat), (100 : Nat), (101 : Nat), (95 : Nat), (116 : Nat), (111 : Nat), (108 : Nat), (111 : Nat), (119 : Nat), (101 : Nat), (114 : Nat), (6 : Nat), (261 : Nat), (5 : Nat), (77 : Nat), (65 : Nat), (71 : Nat), (73 : Nat), (67 : Nat), (4 : Nat), (260 : Nat), (0 : Nat), (20230612 : Nat), (6 : Nat), (263 : Nat), (8 : Nat), (67 : Nat), (79 : Nat), (68 : Nat), (69 : Nat), (83 : Nat), (73 : Nat), (90 : Nat), (69 : Nat), (4 : Nat), (262 : Nat), (0 : Nat), (4 : Nat), (6 : Nat), (265 : Nat), (9 : Nat), (77 : Nat), (65 : Nat), (88 : Nat), (82 : Nat), (69 : Nat), (80 : Nat), (69 : Nat), (65 : Nat), (84 : Nat), (4 : Nat), (264 : Nat), (0 : Nat), (4294967295 : Nat), (6 : Nat), (267 : Nat), (9 : Nat), (77 : Nat), (65 : Nat), (88 : Nat), (71 : Nat), (82 : Nat), (79 : Nat), (85 : Nat), (80 : Nat), (83 : Nat), (4 : Nat), (266 : Nat), (0 : Nat), (1073741823 : Nat), (6 : Nat), (269 : Nat), (9 : Nat), (99 : Nat), (111 : Nat), (112 : Nat), (121 : Nat), (114 : Nat), (105 : Nat), (103 : Nat), (104 : Nat), (116 : Nat), (6 : Nat), (268 : Nat), (53 : Nat), (32 : Nat), (83 : Nat), (82 : Nat), (69 : Nat), (32 : Nat), (50 : Nat), (46 : Nat), (50 : Nat), (46 : Nat), (50 : Nat), (32 : Nat), (67 : Nat), (111 : Nat), (112 : Nat), (121 : Nat), (114 : Nat), (105 : Nat), (103 : Nat), (104 : Nat), (116 : Nat), (32 : Nat), (40 : Nat), (99 : Nat), (41 : Nat), (32 : Nat), (49 : Nat), (57 : Nat), (57 : Nat), (55 : Nat), (45 : Nat), (50 : Nat), (48 : Nat), (48 : Nat), (50 : Nat), (32 : Nat), (98 : Nat), (121 : Nat), (32 : Nat), (83 : Nat), (101 : Nat), (99 : Nat), (114 : Nat), (101 : Nat), (116 : Nat), (32 : Nat), (76 : Nat), (97 : Nat), (98 : Nat), (115 : Nat), (32 : Nat), (65 : Nat), (66 : Nat), (32 : Nat)])) (0 : Nat)), (PySem.Value.bool Bool.true), (PySem.Value.bool Bool.false), (PySem.Value.str (PySem.Str.ofString "_sre") (271 : Nat))]) (0 : Nat)) (List.toArray []))
noncomputable def H.oP29 (P : Params) : Obj := (PySem.Obj.mk PySem.Value.none (Option.none) (PySem.Data.fields (List.toArray [])) (List.toArray []))
noncomputable def H.oP30 (P : Params) : Obj := (PySem.Obj.mk (PySem.Value.type "code") (Option.none) (PySem.Data.fields (List.toArray [(PySem.Value.str (PySem.Str.ofString "<module>") (277 : Nat)), (PySem.Value.str (PySem.Str.ofString "<module>") (278 : Nat)), (PySem.Value.str (PySem.Str.ofString "/claim/cut.py") (279 : Nat)), (PySem.Value.int (1 : Int) (0 : Nat)), (PySem.Value.int (0 : Int) (0 : Nat)), (PySem.Value.int (0 : Int) (0 : Nat)), (PySem.Value.int (0 : Int) (0 : Nat)), (PySem.Value.int (0 : Int) (0 : Nat)), (PySem.Value.ref (28 : Nat)), (PySem.Value.bool Bool.false), (PySem.Value.int (276 : Int) (0 : Nat)), (PySem.Value.ref (29 : Nat)), PySem.Value.none, PySem.Value.none, PySem.Value.none, PySem.Value.none, (PySem.Value.int (280 : Int) (0 : Nat)), (PySem.Value.int (1 : Int) (0 : Nat)), (PySem.Value.str (PySem.Str.ofString "/claim/cut.py") (281 : Nat))])) (List.toArray []))
noncomputable def H.oP31 (P : Params) : Obj := (PySem.Obj.mk (PySem.Value.type "frame") (Option.none) PySem.Data.plain (List.toArray [(Option.some (PySem.Value.ref (30 : Nat))), (Option.some (PySem.Value.ref (3 : Nat))), (Option.some (PySem.Value.ref (3 : Nat))), (Option.none), (Option.some (PySem.Value.str (PySem.Str.ofString "__main__") (164 : Nat))), (Option.none), (Option.some (PySem.Value.ref (0 : Nat)))]))
noncomputable def H.oA3 (P : Params) : Obj := (PySem.Obj.mk (PySem.Value.type "dict") (Option.none) (PySem.Data.dict (List.toArray [(PySem.DictEntry.mk (PySem.PyData.keyHash P (PySem.Str.ofString "__name__")) (PySem.Value.str (PySem.Str.ofString "__name__") (165 : Nat)) (PySem.Value.str (PySem.Str.ofString "re") (331 : Nat))), (PySem.DictEntry.mk (PySem.PyData.keyHash P (PySem.Str.ofString "__doc__")) (PySem.Value.str (PySem.Str.ofString "__doc__") (166 : Nat)) PySem.Value.none), (PySem.DictEntry.mk (PySem.PyData.keyHash P (PySem.Str.ofString "__package__")) (PySem.Value.str (PySem.Str.ofString "__package__") (167 : Nat)) PySem.Value.none), (PySem.DictEntry.mk (PySem.PyData.keyHash P (PySem.Str.ofString "__loader__")) (PySem.Value.str (PySem.Str.ofString "__loader__") (168 : Nat)) (PySem.Value.builtin "__main__.__loader__#opaque")), (PySem.DictEntry.mk (PySem.PyData.keyHash P (PySem.Str.ofString "__spec__")) (PySem.Value.str (PySem.Str.ofString "__spec__") (169 : Nat)) PySem.Value.none), (PySem.DictEntry.mk (PySem.PyData.keyHash P (PySem.Str.ofString "__annotations__")) (PySem.Value.str (PySem.Str.ofString "__annotations__") (170 : Nat)) (PySem.Value.ref (6 : Nat))), (PySem.DictEntry.mk (PySem.PyData.keyHash P (PySem.Str.ofString "__builtins__")) (PySem.Value.str (PySem.Str.ofString "__builtins__") (171 : Nat)) (PySem.Value.ref (4 : Nat))), (PySem.DictEntry.mk (PySem.PyData.keyHash P (PySem.Str.ofString "__file__")) (PySem.Value.str (PySem.Str.ofString "__file__") (173 : Nat)) (PySem.Value.str (PySem.Str.ofString "/claim/cut.py") (172 : Nat))), (PySem.DictEntry.mk (PySem.PyData.keyHash P (PySem.Str.ofString "__cached__")) (PySem.Value.str (PySem.Str.ofString "__cached__") (174 : Nat)) PySem.Value.none), (PySem.DictEntry.mk (PySem.PyData.keyHash P (PySem.Str.ofString "_sre")) (PySem.Value.str (PySem.Str.ofString "_sre") (275 : Nat)) (PySem.Value.ref (12 : Nat))), (PySem.DictEntry.mk (PySem.PyData.keyHash P (PySem.Str.ofString "_twin_re_1")) (PySem.Value.str (PySem.Str.ofString "_twin_re_1") (321 : Nat)) (PySem.Value.ref (36 : Nat))), (PySem.DictEntry.mk (PySem.PyData.keyHash P (PySem.Str.ofString "translate")) (PySem.Value.str (PySem.Str.ofString "translate") (330 : Nat)) (PySem.Value.ref (43 : Nat)))]) (12 : Nat)) (List.toArray []))
noncomputable def H.oA29 (P : Params) : Obj := (PySem.Obj.mk PySem.Value.none (Option.none) (PySem.Data.fields (List.toArray [(PySem.Value.int (4 : Int) (0 : Nat)), (PySem.Value.int (0 : Int) (0 : Nat)), (PySem.Value.ref (42 : Nat))])) (List.toArray []))
noncomputable def H.oA32 (P : Params) : Obj := (PySem.Obj.mk (PySem.Value.type "list") (Option.none) (PySem.Data.seq (List.toArray [(PySem.Value.int (14 : Int) (287 : Nat)), (PySem.Value.int (14 : Int) (288 : Nat)), (PySem.Value.int (4 : Int) (289 : Nat)), (PySem.Value.int (1 : Int) (290 : Nat)), (PySem.Value.int (1 : Int) (291 : Nat)), (PySem.Value.int (9 : Int) (292 : Nat)), (PySem.Value.int (0 : Int) (293 : Nat)), (PySem.Value.int (64 : Int) (294 : Nat)), (PySem.Value.int (0 : Int) (295 : Nat)), (PySem.Value.int (1342177280 : Int) (296 : Nat)), (PySem.Value.int (0 : Int) (297 : Nat)), (PySem.Value.int (0 : Int) (298 : Nat)), (PySem.Value.int (0 : Int) (299 : Nat)), (PySem.Value.int (0 : Int) (300 : Nat)), (PySem.Value.int (0 : Int) (301 : Nat)), (PySem.Value.int (17 : Int) (302 : Nat)), (PySem.Value.int (0 : Int) (303 : Nat)), (PySem.Value.int (13 : Int) (304 : Nat)), (PySem.Value.int (11 : Int) (305 : Nat)), (PySem.Value.int (9 : Int) (306 : Nat)), (PySem.Value.int (0 : Int) (307 : Nat)), (PySem.Value.int (64 : Int) (308 : Nat)), (PySem.Value.int (0 : Int) (309 : Nat)), (PySem.Value.int (1342177280 : Int) (310 : Nat)), (PySem.Value.int (0 : Int) (311 : Nat)), (PySem.Value.int (0 : Int) (312 : Nat)), (PySem.Value.int (0 : Int) (313 : Nat)), (PySem.Value.int (0 : Int) (314 : Nat)), (PySem.Value.int (0 : Int) (315 : Nat)), (PySem.Value.int (17 : Int) (316 : Nat)), (PySem.Value.int (1 : Int) (317 : Nat)), (PySem.Value.int (1 : Int) (318 : Nat))]) (0 : Nat)) (List.toArray []))
noncomputable def H.oA33 (P : Params) : Obj := (PySem.Obj.mk (PySem.Value.type "dict") (Option.none) (PySem.Data.dict (List.toArray []) (0 : Nat)) (List.toArray []))
noncomputable def H.oA34 (P : Params) : Obj := (PySem.Obj.mk (PySem.Value.type "tuple") (Option.none) (PySem.Data.seq (List.toArray [PySem.Value.none, PySem.Value.none]) (0 : Nat)) (List.toArray []))
noncomputable def H.oA41 (P : Params) : Obj := (PySem.Obj.mk PySem.Value.none (Option.none) (PySem.Data.func (PySem.FuncData.mk (PySem.Str.ofString "translate") (PySem.Str.ofString "translate") (H.fd P 43).params (H.fd P 43).body (H.fd P 43).scope (0 : Nat) [] PySem.Value.none PySem.Value.none PySem.Value.none PySem.Value.none (Option.none) PySem.Value.none PySem.Value.none (0 : Nat))) (List.toArray []))
noncomputable def H.oB3 (P : Params) : Obj := (PySem.Obj.mk (PySem.Value.type "dict") (Option.none) (PySem.Data.dict (List.toArray [(PySem.DictEntry.mk (PySem.PyData.keyHash P (PySem.Str.ofString "__name__")) (PySem.Value.str (PySem.Str.ofString "__name__") (165 : Nat)) (PySem.Value.str (PySem.Str.ofString "re") (331 : Nat))), (PySem.DictEntry.mk (PySem.PyData.keyHash P (PySem.Str.ofString "__doc__")) (PySem.Value.str (PySem.Str.ofString "__doc__") (166 : Nat)) PySem.Value.none), (PySem.DictEntry.mk (PySem.PyData.keyHash P (PySem.Str.ofString "__package__")) (PySem.Value.str (PySem.Str.ofString "__package__") (167 : Nat)) PySem.Value.none), (PySem.DictEntry.mk (PySem.PyData.keyHash P (PySem.Str.ofString "__loader__")) (PySem.Value.str (PySem.Str.ofString "__loader__") (168 : Nat)) (PySem.Value.builtin "__main__.__loader__#opaque")), (PySem.DictEntry.mk (PySem.PyData.keyHash P (PySem.Str.ofString "__spec__")) (PySem.Value.str (PySem.Str.ofString "__spec__") (169 : Nat)) PySem.Value.none), (PySem.DictEntry.mk (PySem.PyData.keyHash P (PySem.Str.ofString "__annotations__")) (PySem.Value.str (PySem.Str.ofString "__annotations__") (170 : Nat)) (PySem.Value.ref (6 : Nat))), (PySem.DictEntry.mk (PySem.PyData.keyHash P (PySem.Str.ofString "__builtins__")) (PySem.Value.str (PySem.Str.ofString "__builtins__") (171 : Nat)) (PySem.Value.ref (4 : Nat))), (PySem.DictEntry.mk (PySem.PyData.keyHash P (PySem.Str.ofString "__file__")) (PySem.Value.str (PySem.Str.ofString "__file__") (173 : Nat)) (PySem.Value.str (PySem.Str.ofString "/claim/cut.py") (172 : Nat))), (PySem.DictEntry.mk (PySem.PyData.keyHash P (PySem.Str.ofString "__cached__")) (PySem.Value.str (PySem.Str.ofString "__cached__") (174 : Nat)) PySem.Value.none), (PySem.DictEntry.mk (PySem.PyData.keyHash P (PySem.Str.ofString "_sre")) (PySem.Value.str (PySem.Str.ofString "_sre") (275 : Nat)) (PySem.Value.ref (12 : Nat))), (PySem.DictEntry.mk (PySem.PyData.keyHash P (PySem.Str.ofString "_twin_re_1")) (PySem.Value.str (PySem.Str.ofString "_twin_re_1") (321 : Nat)) (PySem.Value.ref (36 : Nat))), (PySem.DictEntry.mk (PySem.PyData.keyHash P (PySem.Str.ofString "translate")) (PySem.Value.str (PySem.Str.ofString "translate") (330 : Nat)) (PySem.Value.ref (43 : Nat))), (PySem.DictEntry.mk (PySem.PyData.keyHash P (PySem.Str.ofString "_special_chars_map")) (PySem.Value.str (PySem.Str.ofString "_special_chars_map") (478 : Nat)) (PySem.Value.ref (45 : Nat)))]) (13 : Nat)) (List.toArray []))
noncomputable def H.oB44 (P : Params) : Obj := (PySem.Obj.mk (PySem.Value.type "bytes_iterator") (Option.none) (PySem.Data.fields (List.toArray [PySem.Value.none, (PySem.Value.int (24 : Int) (0 : Nat))])) (List.toArray []))
noncomputable def H.oB46 (P : Params) : Obj := (PySem.Obj.mk (PySem.Value.type "dict") (Option.none) (PySem.Data.dict (List.toArray []) (2 : Nat)) (List.toArray []))
noncomputable def H.oB48 (P : Params) : Obj := (PySem.Obj.mk (PySem.Value.type "StopIteration") (Option.none) (PySem.Data.fields (List.toArray [(PySem.Value.ref (47 : Nat)), PySem.Value.none, PySem.Value.none, PySem.Value.none, (PySem.Value.bool Bool.false), PySem.Value.none])) (List.toArray []))
noncomputable def H.life : Life := (PySem.Life.mk [] [] [] (0 : Nat) [] [] Bool.false (List.toArray []) [] (0 : Nat) Bool.false Bool.false Bool.false (0 : Int) [(2000 : Int), (10 : Int), (10 : Int)] Bool.false (0 : Nat) Bool.true [] [] (0 : Nat) Bool.false)
noncomputable def H.drawn : Drawn := (PySem.Drawn.mk (0 : Nat) (0 : Nat) (0 : Nat) (0 : Nat))
noncomputable def H.hS (P : Params) : Heap := ⟨⟨[boot_o_0 P, H.oS1 P, H.k P 2, H.oS3 P, boot_o_4 P, boot_o_5 P, boot_o_6 P, boot_o_7 P, boot_o_8 P, boot_o_9 P, boot_o_10 P, H.k P 11, H.k P 12, H.oS13 P, H.oS14 P, H.oS15 P, H.oS16 P, H.oS17 P, H.oS18 P, H.oS19 P, H.oS20 P, H.oS21 P, H.oS22 P, H.oS23 P, H.oS24 P, H.oS25 P, H.oS26 P, H.oS27 P]⟩, H.life⟩
noncomputable def H.hP (P : Params) : Heap := ⟨⟨[boot_o_0 P, H.oS1 P, H.k P 2, H.oS3 P, boot_o_4 P, boot_o_5 P, boot_o_6 P, boot_o_7 P, boot_o_8 P, boot_o_9 P, boot_o_10 P, H.k P 11, H.k P 12, H.oS13 P, H.oS14 P, H.oS15 P, H.oS16 P, H.oS17 P, H.oS18 P, H.oS19 P, H.oS20 P, H.oS21 P, H.oS22 P, H.oS23 P, H.oS24 P, H.oS25 P, H.oS26 P, H.oS27 P, H.oS15 P, H.oP29 P, H.oP30 P, H.oP31 P]⟩, H.life⟩
noncomputable def H.hQ (P : Params) : Heap := ⟨⟨[boot_o_0 P, H.oS1 P, H.k P 2, H.oS3 P, boot_o_4 P, boot_o_5 P, boot_o_6 P, boot_o_7 P, boot_o_8 P, boot_o_9 P, boot_o_10 P, H.k P 11, H.k P 12, H.oS13 P, H.oS14 P, H.oS15 P, H.oS16 P, H.oS17 P, H.oS18 P, H.oS19 P, H.oS20 P, H.oS21 P, H.oS22 P, H.oS23 P, H.oS24 P, H.oS25 P, H.oS26 P, H.oS27 P, H.oS15 P, H.oP29 P, H.oP30 P, H.oP31 P]⟩, H.life⟩
noncomputable def H.hA (P : Params) : Heap := ⟨⟨[boot_o_0 P, H.oS1 P, H.k P 2, H.oA3 P, boot_o_4 P, boot_o_5 P, boot_o_6 P, boot_o_7 P, boot_o_8 P, boot_o_9 P, boot_o_10 P, H.k P 11, H.k P 12, H.oS13 P, H.oS14 P, H.oS15 P, H.oS16 P, H.oS17 P, H.oS18 P, H.oS19 P, H.oS20 P, H.oS21 P, H.oS22 P, H.oS23 P, H.oS24 P, H.oS25 P, H.oS26 P, H.oS27 P, H.oS15 P, H.oA29 P, H.oP30 P, H.oP31 P, H.oA32 P, H.oA33 P, H.oA34 P, H.k P 35, H.k P 36, H.k P 37, H.oP29 P, H.k P 39, H.k P 40, H.oA41 P, H.k P 42, H.k P 43]⟩, H.life⟩
noncomputable def H.hB (P : Params) : Heap := ⟨⟨[boot_o_0 P, H.oS1 P, H.k P 2, H.oB3 P, boot_o_4 P, boot_o_5 P, boot_o_6 P, boot_o_7 P, boot_o_8 P, boot_o_9 P, boot_o_10 P, H.k P 11, H.k P 12, H.oS13 P, H.oS14 P, H.oS15 P, H.oS16 P, H.oS17 P, H.oS18 P, H.oS19 P, H.oS20 P, H.oS21 P, H.oS22 P, H.oS23 P, H.oS24 P, H.oS25 P, H.oS26 P, H.oS27 P, H.oS15 P, H.oA29 P, H.oP30 P, H.oP31 P, H.oA32 P, H.oA33 P, H.oA34 P, H.k P 35, H.k P 36, H.k P 37, H.oP29 P, H.k P 39, H.k P 40, H.oA41 P, H.k P 42, H.k P 43, H.oB44 P, H.k P 45, H.oB46 P, H.oS15 P, H.oB48 P]⟩, H.life⟩
noncomputable def H.ann : Option Value := (Option.some (PySem.Value.ref (6 : Nat)))
noncomputable def H.env : Env := { scope := H.rr.prog.main.scope, locals := mainNs, globals := mainNs, cells := [], code := (PySem.Value.ref (30 : Nat)), frame := some 31 }
noncomputable def H.fp : Pos := (PySem.Pos.mk (0 : Nat) (0 : Nat) (0 : Nat) (0 : Nat))
noncomputable def H.pP : Pos := (PySem.Pos.mk (0 : Nat) (0 : Nat) (0 : Nat) (0 : Nat))
noncomputable def H.pQ : Pos := (PySem.Pos.mk (0 : Nat) (0 : Nat) (0 : Nat) (0 : Nat))
noncomputable def H.pA : Pos := (PySem.Pos.mk (8 : Nat) (0 : Nat) (8 : Nat) (8 : Nat))
noncomputable def H.pB : Pos := (PySem.Pos.mk (9 : Nat) (0 : Nat) (9 : Nat) (18 : Nat))
noncomputable def H.b : List Stmt := behindTheImports H.rr.prog
noncomputable def H.c : Code := .body H.b H.env
theorem H.opened (w : World) : (fencedOpening treeTable H.rr.prog w 3666).map (fun s => (s.heap, s.gens, s.drawn, s.toks)) = some (H.hS w.params, #[], H.drawn, 276) := by
  rewrite [PySem.W.Fast.te14364793385576792824]; kernel_rfl
theorem H.size (w : World) : ((H.hS w.params).isNs mainGlobals && (#[] : Array GenState).size == 0, (H.hS w.params).objs.size, (H.hS w.params).nsMap mainGlobals "__annotations__") = (true, 28, H.ann) := by kernel_rfl
theorem H.pre (w : World) (os : OsState) : topGo treeTable H.rr.prog w 28 H.ann 12 ⟨H.hS w.params, #[], H.drawn, 276, os⟩ (topStub H.rr.prog) = some (⟨H.hP w.params, #[], H.drawn, 282, os⟩, ⟨denote treeTable H.c, H.c, H.pP, [topFrame H.fp]⟩) := by
  rewrite [PySem.W.Fast.te14364793385576792824]; kernel_rfl
theorem H.block (w : World) (os : OsState) : segRun treeTable H.rr.prog w 28 H.ann 1 1 ⟨H.hP w.params, #[], H.drawn, 282, os⟩ (blockOf H.b H.env H.c H.pP [topFrame H.fp]) = some (.next, ⟨H.hQ w.params, #[], H.drawn, 282, os⟩, H.c, H.pQ) := by
  rewrite [PySem.W.Fast.te14364793385576792824]; kernel_rfl
theorem H.ahead (w : World) (os : OsState) : segRun treeTable H.rr.prog w 28 H.ann 1 131 ⟨H.hQ w.params, #[], H.drawn, 282, os⟩ (piecesOf (H.b.take 4) H.env H.c H.pQ [topFrame H.fp]) = some (.next, ⟨H.hA w.params, #[], H.drawn, 333, os⟩, H.c, H.pA) := by
  rewrite [PySem.W.Fast.te14364793385576792824]; kernel_rfl
def H.Comp (w : World) : Prop := ∀ os : OsState, segRun treeTable H.rr.prog w 28 H.ann 1 1253 ⟨H.hA w.params, #[], H.drawn, 333, os⟩ (piecesOf ((H.b.drop 4).take 1) H.env H.c H.pA [topFrame H.fp]) = some (.next, ⟨H.hB w.params, #[], H.drawn, 479, os⟩, H.c, H.pB)
theorem H.way0 (w : World) : H.Comp ((w.withFollow "special-get-raises" false).withFollow "comprehension-iter-twice" false) := fun os => by
  show segRun treeTable H.rr.prog ((w.withFollow "special-get-raises" false).withFollow "comprehension-iter-twice" false) 28 H.ann 1 1253 ⟨H.hA ((w.withFollow "special-get-raises" false).withFollow "comprehension-iter-twice" false).params, #[], H.drawn, 333, os⟩ (piecesOf ((H.b.drop 4).take 1) H.env H.c H.pA [topFrame H.fp]) = some (.next, ⟨H.hB ((w.withFollow "special-get-raises" false).withFollow "comprehension-iter-twice" false).params, #[], H.drawn, 479, os⟩, H.c, H.pB)
  rewrite [PySem.W.Fast.te14364793385576792824]; kernel_rfl
theorem H.way1 (w : World) : H.Comp ((w.withFollow "special-get-raises" true).withFollow "comprehension-iter-twice" false) := fun os => by
  show segRun treeTable H.rr.prog ((w.withFollow "special-get-raises" true).withFollow "comprehension-iter-twice" false) 28 H.ann 1 1253 ⟨H.hA ((w.withFollow "special-get-raises" true).withFollow "comprehension-iter-twice" false).params, #[], H.drawn, 333, os⟩ (piecesOf ((H.b.drop 4).take 1) H.env H.c H.pA [topFrame H.fp]) = some (.next, ⟨H.hB ((w.withFollow "special-get-raises" true).withFollow "comprehension-iter-twice" false).params, #[], H.drawn, 479, os⟩, H.c, H.pB)
  rewrite [PySem.W.Fast.te14364793385576792824]; kernel_rfl
theorem H.way2 (w : World) : H.Comp ((w.withFollow "special-get-raises" false).withFollow "comprehension-iter-twice" true) := fun os => by
  show segRun treeTable H.rr.prog ((w.withFollow "special-get-raises" false).withFollow "comprehension-iter-twice" true) 28 H.ann 1 1253 ⟨H.hA ((w.withFollow "special-get-raises" false).withFollow "comprehension-iter-twice" true).params, #[], H.drawn, 333, os⟩ (piecesOf ((H.b.drop 4).take 1) H.env H.c H.pA [topFrame H.fp]) = some (.next, ⟨H.hB ((w.withFollow "special-get-raises" false).withFollow "comprehension-iter-twice" true).params, #[], H.drawn, 479, os⟩, H.c, H.pB)
  rewrite [PySem.W.Fast.te14364793385576792824]; kernel_rfl
theorem H.way3 (w : World) : H.Comp ((w.withFollow "special-get-raises" true).withFollow "comprehension-iter-twice" true) := fun os => by
  show segRun treeTable H.rr.prog ((w.withFollow "special-get-raises" true).withFollow "comprehension-iter-twice" true) 28 H.ann 1 1253 ⟨H.hA ((w.withFollow "special-get-raises" true).withFollow "comprehension-iter-twice" true).params, #[], H.drawn, 333, os⟩ (piecesOf ((H.b.drop 4).take 1) H.env H.c H.pA [topFrame H.fp]) = some (.next, ⟨H.hB ((w.withFollow "special-get-raises" true).withFollow "comprehension-iter-twice" true).params, #[], H.drawn, 479, os⟩, H.c, H.pB)
  rewrite [PySem.W.Fast.te14364793385576792824]; kernel_rfl
theorem H.wayF (w : World) : H.Comp (w.withFollow "comprehension-iter-twice" false) := byRow2 "special-get-raises" (P := fun w => H.Comp (w.withFollow "comprehension-iter-twice" false)) H.way0 H.way1 w
theorem H.wayT (w : World) : H.Comp (w.withFollow "comprehension-iter-twice" true) := byRow2 "special-get-raises" (P := fun w => H.Comp (w.withFollow "comprehension-iter-twice" true)) H.way2 H.way3 w
theorem H.comp (w : World) : H.Comp w := byRow2 "comprehension-iter-twice" (P := H.Comp) H.wayF H.wayT w
noncomputable def H.look (w : World) (s : Shared) := (staticsOk (importedModules H.rr.prog.main.body) (H.hS w.params) s.heap && namesBound H.rr.prog s.heap && gensDone s && laidKept (H.hS w.params) s.heap, openSeen H.vw H.loose (importedModules H.rr.prog.main.body) H.xt true s, (kmHook hd.heap_1 H.ad H.adEq [57]).obs s)
theorem H.rest (w : World) (os : OsState) : (topRun treeTable H.rr.prog w 28 H.ann 390 ⟨H.hB w.params, #[], H.drawn, 479, os⟩ (restOf (H.b.drop 5) H.env H.c H.pB [topFrame H.fp])).map (H.look w) = some (true, openGood H.vw H.loose, (kmHook hd.heap_1 H.ad H.adEq [57]).val w) := by
  rewrite [PySem.W.Fast.te14364793385576792824]; kernel_rfl
set_option maxRecDepth 100000 in
theorem H.ran {w : World} {os : OsState} {r : Shared} (h : topRun treeTable H.rr.prog w 28 H.ann 390 ⟨H.hB w.params, #[], H.drawn, 479, os⟩ (restOf (H.b.drop 5) H.env H.c H.pB [topFrame H.fp]) = some r) : topRun treeTable H.rr.prog w 28 H.ann 3666 ⟨H.hS w.params, #[], H.drawn, 276, os⟩ (topStub H.rr.prog) = some r := by
  have h2 := piece_app (H.comp w os) h
  have h3 := piece_app (H.ahead w os) h2
  have e : H.b.take 4 ++ ((H.b.drop 4).take 1 ++ H.b.drop 5) = H.b := by
    rw [show H.b.drop 5 = (H.b.drop 4).drop 1 from by rw [List.drop_drop], List.take_append_drop, List.take_append_drop]
  rw [e] at h3
  have h4 := go_top (H.pre w os) (piece_block (H.block w os) h3)
  have h5 := topRun_mono (3666 - (12 + (1 + (131 + (1253 + 390))))) _ _ _ _ h4
  have e5 : (12 + (1 + (131 + (1253 + 390)))) + (3666 - (12 + (1 + (131 + (1253 + 390))))) = 3666 := by decide
  rw [e5] at h5
  exact h5
set_option maxRecDepth 100000 in
theorem H.ways (w : World) : (openEnds treeTable H.rr.prog w 3666).map (fun s => (openSeen H.vw H.loose (importedModules H.rr.prog.main.body) H.xt true s, (kmHook hd.heap_1 H.ad H.adEq [57]).obs s)) = some (openGood H.vw H.loose, (kmHook hd.heap_1 H.ad H.adEq [57]).val w) := by
  obtain ⟨⟨h, gs, d, k, os⟩, e, e'⟩ := Option.map_eq_some_iff.mp (H.opened w)
  obtain ⟨rfl, rfl, rfl, rfl⟩ : h = H.hS w.params ∧ gs = #[] ∧ d = H.drawn ∧ k = 276 := by simpa only [Option.some.injEq, Prod.mk.injEq] using e'
  obtain ⟨z1, z2, z3⟩ : _ ∧ _ ∧ _ := by simpa only [Prod.mk.injEq] using H.size w
  obtain ⟨r, hr, hl⟩ := Option.map_eq_some_iff.mp (H.rest w os)
  obtain ⟨l1, l2, l3⟩ : _ ∧ _ ∧ _ := by simpa only [H.look, Prod.mk.injEq] using hl
  have t : topFrom treeTable H.rr.prog w 3666 ⟨H.hS w.params, #[], H.drawn, 276, os⟩ = some r := by
    unfold topFrom
    dsimp only
    rw [z1, z2, z3, H.ran hr]
    show (match staticsOk (importedModules H.rr.prog.main.body) (H.hS w.params) r.heap && namesBound H.rr.prog r.heap && gensDone r && laidKept (H.hS w.params) r.heap with | true => _ | false => _) = _
    rw [l1]
  unfold openEnds
  rw [e]
  show (topFrom treeTable H.rr.prog w 3666 _).map _ = _
  rw [t]
  exact congrArg some (Prod.ext l2 l3)
theorem H.with {X : Prop} (h : X) : LeftO H.rr.prog H.vw H.loose H.xt (kmHook hd.heap_1 H.ad H.adEq [57]).obs (kmHook hd.heap_1 H.ad H.adEq [57]).val 3666 ∧ X := ⟨H.ways, h⟩
end Mine
set_option maxRecDepth 100000
set_option maxHeartbeats 20000000
set_option maxRecDepth 100000
namespace Mine
theorem lk_list_append : typeLookup (.type "list") "append" = pure (some (.builtin "list.append")) := by rw [typeLookup_type, builtinLookup_eq_fast]; kernel_rfl
theorem slot_md_get : Slot "method_descriptor" "__get__" "method_descriptor.__get__" :=
  .of (owner := "method_descriptor") (n := "__get__") (by rw [typeLookup_type, builtinLookup_eq_fast]; kernel_rfl) (by decide +kernel) (by decide +kernel) (by decide +kernel)
    (by first | exact .inl (by decide +kernel) | exact .inr (by decide +kernel)) (by rw [isSubtype_type]; kernel_rfl)
theorem lk_md_set : typeLookup (.type "method_descriptor") "__set__" = pure none := by rw [typeLookup_type, builtinLookup_eq_fast]; kernel_rfl
theorem lk_md_delete : typeLookup (.type "method_descriptor") "__delete__" = pure none := by rw [typeLookup_type, builtinLookup_eq_fast]; kernel_rfl
theorem entry_md_get : entryFor table "method_descriptor.__get__" = some Builtin.«method_descriptor.__get__» := entryFor_of_tree (by kernel_rfl)
theorem args_md_get (a b c : Value) : argsOk "method_descriptor.__get__" ⟨[a, b, c], []⟩ := by unfold argsOk; kernel_rfl
theorem owner_list_append : (".".intercalate ("list.append".cutAt '.').dropLast) = "list" := by
  have e0 : "list.append".cutAt '.' = ["list", "append"] := by first | rfl | decide +kernel
  rw [e0]; decide +kernel
theorem sub_append_owner : isSubtype (.type "list") (.type (".".intercalate ("list.append".cutAt '.').dropLast)) = pure true := by
  rw [owner_list_append, isSubtype_type]; kernel_rfl
/-- the object that `xs.append` makes -/
abbrev apObj (a : Addr) : Obj := { cls := .type "builtin_function_or_method", data := .fields #[.builtin "list.append", .ref a] }
section
variable {prog : Program} {w : World} {A : Around} {E : Value → Shared → Prop} {h : Heap} {g : Array GenState} {d : Drawn} {t : Nat} {os : OsState} {a : Addr} {xs : Array Value} {k : Nat}
theorem getmd {R : Result → Shared → Prop}
    (hx : h.get? a = some (W.listOf xs k)) (hq : R (.ok (.ret (.ref h.objs.size))) ⟨h.push (apObj a), g, d, t, os⟩) :
    codeAny (model prog w) A (.call (.builtin "method_descriptor.__get__") ⟨[.builtin "list.append", .ref a, .type "list"], []⟩) R ⟨h, g, d, t, os⟩ := by
  have hT : ∀ tk', (⟨h, g, d, tk', os⟩ : Shared).TypeIs (.ref a) "list" := fun _ => ⟨_, hx, rfl⟩
  have hT5 : (⟨h, g, d, t, os⟩ : Shared).TypeIs (.builtin "list.append") "method_descriptor" := F.type_list_append
  have f8 := sub_append_owner
  refine codeAny_call_builtin slot_md_get.plain entry_md_get (slot_md_get.check _ _ _ _ _ _ _ _ hT5 (args_md_get _ _ _) ?_)
  repeat (any_goals (first | assumption | wp_step))
theorem apentry {Q : Fin → Shared → Prop} {tk : Tok}
    (hx : h.get? a = some (W.listOf xs k)) (hq : Q (.done (.ret (.ref h.objs.size))) ⟨h.push (apObj a), g, d, t, os⟩) :
    wpAny (model prog w) A (Builtin.«object.__getattribute__» ⟨[.ref a, .str "append" tk], []⟩) Q E ⟨h, g, d, t, os⟩ := by
  have hT : ∀ tk', (⟨h, g, d, tk', os⟩ : Shared).TypeIs (.ref a) "list" := fun _ => ⟨_, hx, rfl⟩
  have hT5 : (⟨h, g, d, t, os⟩ : Shared).TypeIs (.builtin "list.append") "method_descriptor" := F.type_list_append
  have f6 := lk_list_append
  have f7 := F.type_list_append
  have f8 := slot_md_get.lookup
  have f9 := lk_md_set
  have f10 := lk_md_delete
  repeat (any_goals (first | assumption | exact hT _ | (with_reducible show codeAny _ _ (Code.call (Value.builtin "method_descriptor.__get__") _) _ _; refine getmd hx ?_) | wp_step))
theorem getappend {Q : Value → Shared → Prop}
    (hx : h.get? a = some (W.listOf xs k)) (hq : Q (.ref h.objs.size) ⟨h.push (apObj a), g, d, t + 1, os⟩) :
    wpAny (model prog w) A (getAttr (.ref a) "append" true) Q E ⟨h, g, d, t, os⟩ := by
  have hT : ∀ tk', (⟨h, g, d, tk', os⟩ : Shared).TypeIs (.ref a) "list" := fun _ => ⟨_, hx, rfl⟩
  have f3 := F.slot_list_getattribute.lookup
  have f4 := F.slot_list_getattribute.bind (.ref a)
  have f5 := am_list_getattr_none
  have f6 := lk_list_append
  unfold getAttr getAttrBy
  repeat (any_goals (first | assumption | exact hT _ | (with_reducible show codeAny _ _ (Code.call (Value.builtin "list.__getattribute__") _) _ _; refine codeAny_call_builtin F.slot_list_getattribute.plain F.entry_list_ga (F.slot_list_getattribute.check _ _ _ _ _ _ _ _ (hT _) (F.args_list_getattribute_2 _ _) (apentry hx ?_))) | wp_step))
end
end Mine
set_option maxRecDepth 100000
namespace Mine
theorem mro_object : mroOf (.type "object") = pure [.type "object"] := by rw [mroOf_type]; kernel_rfl
theorem lookup_object_new : typeLookup (.type "object") "__new__" = pure (some (.builtin "object.__new__")) := by rw [typeLookup_type, builtinLookup_eq_fast]; kernel_rfl
theorem slot_object_init : Slot "object" "__init__" "object.__init__" :=
  .of (owner := "object") (n := "__init__") (by rw [typeLookup_type, builtinLookup_eq_fast]; kernel_rfl) (by decide +kernel) (by decide +kernel) (by decide +kernel)
    (by first | exact .inl (by decide +kernel) | exact .inr (by decide +kernel)) (by rw [isSubtype_type]; kernel_rfl)
theorem called_object : TypeCalled "object" "object.__new__" "object.__init__" :=
  ⟨by decide +kernel, by decide +kernel, ⟨_, _, mro_object⟩, madeBy_type mro_object lookup_object_new (by decide +kernel), by decide +kernel, by rw [isSubtype_type]; kernel_rfl, slot_object_init⟩
theorem typeCall_object : checkTypeCall "object" ⟨[], []⟩ = pure () := by kernel_rfl
theorem newCall_object : checkBuiltinCall "object.__new__" ⟨[.type "object"], []⟩ = pure () := by kernel_rfl
theorem entry_object_new : entryFor table "object.__new__" = some Builtin.«object.__new__» := entryFor_of_tree (by kernel_rfl)
theorem madeHere_object : Bind.madeHere "object.__new__" (.type "object") = pure () := by
  unfold Bind.madeHere
  have e : Bind.staticBase (.type "object") = pure (.type "object") := by first | rfl | kernel_rfl
  rw [e]
  simp only [pure_bind, called_object.made]
  first | rfl | kernel_rfl | (simp; rfl)
theorem meets_object_new : Meets (Builtin.«object.__new__» ⟨[.type "object"], []⟩) (fun _ R s => R (.ok (.ret (.ref s.heap.objs.size))) { s with heap := s.heap.push { cls := .type "object" } }) :=
  .of_wp fun prog w A R s h => by
    obtain ⟨hp, g, d, tk, os⟩ := s
    have hmh := madeHere_object
    wp_walk
    all_goals first | exact ⟨_, rfl, h⟩ | exact h
theorem callobject {prog : Program} {w : World} {A : Around} {E : Value → Shared → Prop} {s : Shared} {Q : Value → Shared → Prop} 
  (hq : Q (.ref s.heap.objs.size) { s with heap := s.heap.push { cls := .type "object" } }) : wpAny (model prog w) A (call (.type "object") []) Q E s :=
  callType_meets called_object typeCall_object newCall_object entry_object_new F.entry_object_init meets_object_new (Q₁ := fun v s' => v = .ref s.heap.objs.size ∧ s' = { s with heap := s.heap.push { cls := .type "object" } }) ⟨rfl, rfl⟩
    (fun obj s₁ h => by
      obtain ⟨rfl, rfl⟩ := h
      refine ⟨⟨_, Heap.get?_push_size _ rfl, rfl⟩, by unfold argsOk; kernel_rfl, (fun _ R s => R (.ok (.ret .none)) s), Meets.of_wp fun prog w A R s hs => wpAny_pure ⟨_, rfl, hs⟩, rfl, hq⟩)
theorem sub_list_module : isSubtype (.type "list") (.type "module") = pure false := by rw [isSubtype_type]; kernel_rfl
theorem sub_list_type : isSubtype (.type "list") (.type "type") = pure false := by rw [isSubtype_type]; kernel_rfl
theorem callappend {prog : Program} {w : World} {A : Around} {E : Value → Shared → Prop} {s : Shared} {q a : Addr} {v : Value} {xs : Array Value} {k : Nat} {Q : Value → Shared → Prop} (hx : s.heap.get? q = some (apObj a)) (hl : s.heap.get? a = some (W.listOf xs k)) (hsz : xs.size ≤ sizeLine)
  (hq : Q .none { s with heap := s.heap.update a (Obj.mapSeq (·.push v)) }) : wpAny (model prog w) A (call (.ref q) [v]) Q E s := by
  obtain ⟨h, g, d, t, os⟩ := s
  refine wpAny_call (codeAny_of_tree ?_)
  show wpAny _ _ (callAny (.ref q) _) _ _ _
  dsimp only at hx hl
  refine nd_load hx ?_
  have hT : ∀ tk', (⟨h, g, d, tk', os⟩ : Shared).TypeIs (.ref a) "list" := fun _ => ⟨_, hl, rfl⟩
  have f1 := sub_list_module
  have f2 := sub_list_type
  show wpAny _ _ (checkBoundCall "list.append" ⟨[.ref a, v], []⟩ >>= fun _ => again (.builtin "list.append" ⟨[.ref a, v], []⟩)) _ _ _
  unfold checkBoundCall
  repeat (any_goals (first | assumption | exact hT _ | wp_step))
  refine ⟨Code.quiet_builtin _ (by decide +kernel), codeAny_builtin F.entry_list_append ?_⟩
  show wpAny _ _ (updateSeq a (·.push v) >>= fun _ => ret .none) _ _ _
  exact wpAny_bind (wpAny_updateSeq hl rfl (wpAny_pure hq))
end Mine
set_option maxRecDepth 100000
namespace Mine
theorem cap_found : findCls [] (.type "str") (.type "type") (Str.ofString "capitalize") = some (.val (.builtin "str.capitalize")) := by first | rfl | kernel_rfl
/-- str.capitalize read off the type -/
theorem capAttr {prog : Program} {w : World} {A : Around} {E : Value → Shared → Prop} {s : Shared} {Q : Value → Shared → Prop} {ex : Bool}
    (hq : Q (.builtin "str.capitalize") { s with toks := s.toks + 1 }) :
    wpAny (model prog w) A (getAttr (.type "str") (Str.ofString "capitalize") ex) Q E s := by
  have X : Frag.In [] s.heap := fun _ _ e => by cases e
  have hstub : opaqueClassAbove (.type "str") = pure none := by unfold opaqueClassAbove; dsimp only; rw [show Manifest.isStub "str" = false by decide +kernel]; rfl
  have ht : typeOf (.type "str") = pure (.type "type") := by first | rfl | kernel_rfl
  refine cls_open X (Looks.of_pure hstub) (Looks.of_pure ht) type_tga (looks_hook X (r := none) (by rfl)) (by show subIn [] _ _ = _; rfl) cap_found (wpAny_pure (by show wpAny _ _ (handedOut _) _ _ _; rw [handedOut_of (by decide +kernel)]; exact wpAny_pure hq))
theorem mro_map : mroOf (.type "map") = pure [.type "map", .type "object"] := by rw [mroOf_type]; kernel_rfl
theorem lookup_map_new : typeLookup (.type "map") "__new__" = pure (some (.builtin "map.__new__")) := by rw [typeLookup_type, builtinLookup_eq_fast]; kernel_rfl
theorem slot_map_init : Slot "map" "__init__" "object.__init__" :=
  .of (owner := "object") (n := "__init__") (by rw [typeLookup_type, builtinLookup_eq_fast]; kernel_rfl) (by decide +kernel) (by decide +kernel) (by decide +kernel)
    (by first | exact .inl (by decide +kernel) | exact .inr (by decide +kernel)) (by rw [isSubtype_type]; kernel_rfl)
theorem slot_map_iter : Slot "map" "__iter__" "map.__iter__" :=
  .of (owner := "map") (n := "__iter__") (by rw [typeLookup_type, builtinLookup_eq_fast]; kernel_rfl) (by decide +kernel) (by decide +kernel) (by decide +kernel)
    (by first | exact .inl (by decide +kernel) | exact .inr (by decide +kernel)) (by rw [isSubtype_type]; kernel_rfl)
theorem slot_map_next : Slot "map" "__next__" "map.__next__" :=
  .of (owner := "map") (n := "__next__") (by rw [typeLookup_type, builtinLookup_eq_fast]; kernel_rfl) (by decide +kernel) (by decide +kernel) (by decide +kernel)
    (by first | exact .inl (by decide +kernel) | exact .inr (by decide +kernel)) (by rw [isSubtype_type]; kernel_rfl)
theorem entry_map_iter : entryFor table "map.__iter__" = some Builtin.«dict_keyiterator.__iter__» :=
  entryFor_alias (id' := "dict_keyiterator.__iter__") (by kernel_rfl) (by first | rfl | decide +kernel | (unfold String.splitOn; simp +decide [String.splitOnAux])) (by decide +kernel) (by kernel_rfl)
theorem entry_map_next : entryFor table "map.__next__" = some Builtin.«map.__next__» := entryFor_of_tree (by kernel_rfl)
theorem args_map_iter (a : Value) : argsOk "map.__iter__" ⟨[a], []⟩ := by unfold argsOk; kernel_rfl
theorem args_map_next (a : Value) : argsOk "map.__next__" ⟨[a], []⟩ := by unfold argsOk; kernel_rfl
theorem called_map : TypeCalled "map" "map.__new__" "object.__init__" :=
  ⟨by decide +kernel, by decide +kernel, ⟨_, _, mro_map⟩, madeBy_type mro_map lookup_map_new (by decide +kernel), by decide +kernel, by rw [isSubtype_type]; kernel_rfl, slot_map_init⟩
theorem typeCall_map (a b : Value) : checkTypeCall "map" ⟨[a, b], []⟩ = pure () := by kernel_rfl
theorem newCall_map (a b : Value) : checkBuiltinCall "map.__new__" ⟨[.type "map", a, b], []⟩ = pure () := by kernel_rfl
theorem entry_map_new : entryFor table "map.__new__" = some Builtin.«map.__new__» := entryFor_of_tree (by kernel_rfl)
theorem sub_map : isSubtype (.type "map") (.type "map") = pure true := by rw [isSubtype_type]; kernel_rfl
theorem map_no_len : typeLookup (.type "map") "__len__" = pure none := by rw [typeLookup_type, builtinLookup_eq_fast]; kernel_rfl
theorem map_no_hint : typeLookup (.type "map") "__length_hint__" = pure none := by rw [typeLookup_type, builtinLookup_eq_fast]; kernel_rfl
abbrev mapObj (T : Addr) : Obj := { cls := .type "map", data := .fields #[.ref T, .builtin "str.capitalize"] }
abbrev oneTup (I : Addr) : Obj := { cls := .type "tuple", data := .seq #[.ref I] }
theorem meets_map_new (a : Addr) (xs : Array Value) : Meets (Builtin.«map.__new__» ⟨[.type "map", .builtin "str.capitalize", .ref a], []⟩) (fun _ R s => s.heap.IsList a xs ∧
     R (.ok (.ret (.ref ((s.heap.push { cls := .type "list_iterator", data := .fields #[.ref a, .int 0 0] }).push (oneTup s.heap.objs.size)).objs.size))) { s with heap := ((s.heap.push { cls := .type "list_iterator", data := .fields #[.ref a, .int 0 0] }).push (oneTup s.heap.objs.size)).push (mapObj (s.heap.push { cls := .type "list_iterator", data := .fields #[.ref a, .int 0 0] }).objs.size) }) :=
  .of_wp fun prog w A R s hs => by
    obtain ⟨hp, g, d, tk, os⟩ := s
    obtain ⟨hx, h⟩ := hs
    have hmh := sub_map
    have hL1 : Heap.IsList (Shared.heap ⟨hp, g, d, tk, os⟩) a xs := hx
    wp_walk using wpAny_pyIter_list hL1
    exact ⟨_, rfl, h⟩
section
variable {prog : Program} {w : World} {A : Around} {E : Value → Shared → Prop} {s : Shared}
theorem call_map {a : Addr} {xs : Array Value} {Q : Value → Shared → Prop} (hl : s.heap.IsList a xs)
    (h : ∀ h', h'.get? (s.heap.objs.size + 2) = some (mapObj (s.heap.objs.size + 1)) → h'.get? (s.heap.objs.size + 1) = some (oneTup s.heap.objs.size) → h'.IsListIter s.heap.objs.size a 0 →
      h'.objs.size = s.heap.objs.size + 3 → (∀ c o, s.heap.get? c = some o → h'.get? c = some o) → Q (.ref (s.heap.objs.size + 2)) { s with heap := h' }) :
    wpAny (model prog w) A (call (.type "map") [.builtin "str.capitalize", .ref a]) Q E s := by
  refine callType_new called_map (by decide) (typeCall_map _ _) (newCall_map _ _) (fun obj => F.args_object_init_3 obj _ _) entry_map_new (meets_map_new a xs) ⟨hl, ?_⟩
  have e1 : (s.heap.push { cls := .type "list_iterator", data := .fields #[.ref a, .int 0 0] }).objs.size = s.heap.objs.size + 1 := Heap.size_push ..
  have e2 : ((s.heap.push { cls := .type "list_iterator", data := .fields #[.ref a, .int 0 0] }).push (oneTup s.heap.objs.size)).objs.size = s.heap.objs.size + 2 := by rw [Heap.size_push, e1]
  show _ ∧ _
  have g3 := Heap.get?_push_size ((s.heap.push { cls := .type "list_iterator", data := .fields #[.ref a, .int 0 0] }).push (oneTup s.heap.objs.size)) (o := mapObj (s.heap.push { cls := .type "list_iterator", data := .fields #[.ref a, .int 0 0] }).objs.size) rfl
  have g2 := Heap.get?_push_of_some (mapObj (s.heap.push { cls := .type "list_iterator", data := .fields #[.ref a, .int 0 0] }).objs.size) (Heap.get?_push_size (s.heap.push { cls := .type "list_iterator", data := .fields #[.ref a, .int 0 0] }) (o := oneTup s.heap.objs.size) rfl)
  have g1 := Heap.get?_push_of_some (mapObj (s.heap.push { cls := .type "list_iterator", data := .fields #[.ref a, .int 0 0] }).objs.size) (Heap.get?_push_of_some (oneTup s.heap.objs.size) (Heap.get?_push_size s.heap (o := { cls := .type "list_iterator", data := .fields #[.ref a, .int 0 0] }) rfl))
  refine ⟨⟨_, g3, rfl⟩, ?_⟩
  rw [e2] at g3 ⊢
  rw [e1] at g3 g2 g1 ⊢
  exact h _ g3 g2 ⟨_, g1, rfl, rfl⟩ (by rw [Heap.size_push, e2]) fun c o x => Heap.get?_push_of_some _ (Heap.get?_push_of_some _ (Heap.get?_push_of_some _ x))
theorem map_next_item {z T I a : Addr} {k : Nat} {xs : Array Value} {y : Str} {u : Tok} {Q : Value → Shared → Prop} (hIz : z ≠ I) (hIT : T ≠ I)
    (hz : s.heap.get? z = some (mapObj T)) (hT : s.heap.get? T = some (oneTup I)) (h1 : s.heap.IsListIter I a k) (hl : s.heap.IsList a xs) (hx : xs[k]? = some (.str y u)) (hy : y.length ≤ 5592405)
    (hQ : ∀ h' tk t', h'.IsListIter I a (k + 1) → Heap.SameBut I s.heap h' → Q (.str (Txt.capitalize y) t') { s with heap := h', toks := tk }) :
    wpAny (model prog w) A (Builtin.«map.__next__» ⟨[.ref z], []⟩) (fun fin s' => ∃ v, fin = .done (.ret v) ∧ Q v s') E s := by
  show wpAny _ _ (field (.ref z) 0 >>= _) _ _ _
  refine wpAny_bind (wpAny_field hz rfl (x := .ref T) rfl ?_)
  refine wpAny_bind (wpAny_seqItems hT rfl ?_)
  refine wpAny_bind ?_
  simp only [List.forIn_cons, List.forIn_nil, ← Array.forIn_toList]
  refine wpAny_bind (wpAny_bind (wpAny_holding (wpAny_nextOf_list_item h1 hl hx fun h₂ h1₂ hs₂ => wpAny_pure (wpAny_pure ?_))))
  refine wpAny_bind (wpAny_field (s := { s with heap := h₂ }) (hs₂.extBut _ _ hIz hz) rfl (x := .builtin "str.capitalize") rfl ?_)
  refine wpAny_bind (wpAny_holding (PyProof.Rows.SCL.capitalize hy fun t' tk _ => wpAny_bind (wpAny_letGo (wpAny_pure ⟨_, rfl, hQ _ _ _ h1₂ hs₂⟩))))
theorem map_next_end {z T I a : Addr} {k : Nat} {xs : Array Value} {Q : Fin → Shared → Prop} (hh : A.handled = none) 
    (hz : s.heap.get? z = some (mapObj T)) (hT : s.heap.get? T = some (oneTup I)) (h1 : s.heap.IsListIter I a k) (hl : s.heap.IsList a xs) (hx : xs[k]? = none) 
    (hE : ∀ h' e, Heap.ExtBut I s.heap h' → (∃ o, h'.get? e = some o ∧ o.cls = .type "StopIteration") → E (.ref e) { s with heap := h' }) :
    wpAny (model prog w) A (Builtin.«map.__next__» ⟨[.ref z], []⟩) Q E s := by
  show wpAny _ _ (field (.ref z) 0 >>= _) _ _ _
  refine wpAny_bind (wpAny_field hz rfl (x := .ref T) rfl ?_)
  refine wpAny_bind (wpAny_seqItems hT rfl ?_)
  refine wpAny_bind ?_
  simp only [List.forIn_cons, List.forIn_nil, ← Array.forIn_toList]
  exact wpAny_bind (wpAny_bind (wpAny_holding (wpAny_nextOf_list_end hh h1 hl hx hE)))
theorem Walks.capMap (hh : A.handled = none) (z T I a : Addr) (hIz : z ≠ I) (hIT : T ≠ I) (hIa : a ≠ I) (l : List (Str × Tok)) (hy : ∀ p ∈ l, p.1.length ≤ 5592405) :
    Walks prog w A z [z, T, I, a] [I] l.length
      (fun i v => ∃ p t', l[i]? = some p ∧ v = .str (Txt.capitalize p.1) t')
      (fun i h => h.get? z = some (mapObj T) ∧ h.get? T = some (oneTup I) ∧ h.IsListIter I a i ∧ h.IsList a (strValues l).toArray) where
  sub := fun c hc => by simp at hc ⊢; simp [hc]
  frame := fun i h h' hst hk => by
    obtain ⟨hz, hTI, h1, hl1⟩ := hst
    exact ⟨hk z (by simp) _ hz, hk T (by simp) _ hTI, h1.at fun o e => hk I (by simp) o e, hl1.at fun o e => hk a (by simp) o e⟩
  item := fun i s Q E hi hst hQ => by
    obtain ⟨hz, hTI, h1, hl1⟩ := hst
    have hT : s.TypeIs (.ref z) "map" := ⟨_, hz, rfl⟩
    unfold pyNext
    refine wpAny_bind (wpAny_attempt (wpAny_callSpecial?_slot (name := Str.ofString "__next__") hT slot_map_next
      (wpAny_call_entry slot_map_next hT entry_map_next
        (map_next_item (y := (l[i]).1) (u := (l[i]).2) hIz hIT hz hTI h1 hl1 (by simp [strValues, hi]) (hy _ (List.getElem_mem hi)) fun h' tk t' a1 a2 => wpAny_pure (hQ _ h' tk ⟨l[i], t', by simp [hi], rfl⟩ ?_ ?_)) (args_map_next _))))
    · exact ⟨a2.extBut _ _ hIz hz, a2.extBut _ _ hIT hTI, a1, hl1.extBut a2.extBut hIa⟩
    · intro b o hb e; exact a2.extBut _ _ (fun x => hb (by simp [x])) e
  done := fun s Q E hst hQ => by
    obtain ⟨hz, hTI, h1, hl1⟩ := hst
    have hT : s.TypeIs (.ref z) "map" := ⟨_, hz, rfl⟩
    unfold pyNext
    refine wpAny_bind (wpAny_attempt (wpAny_callSpecial?_slot (name := Str.ofString "__next__") hT slot_map_next
      (wpAny_call_entry slot_map_next hT entry_map_next
        (map_next_end hh hz hTI h1 hl1 (by simp [strValues]) fun h' e hk he => ?_) (args_map_next _))))
    obtain ⟨o, ho, hc⟩ := he
    refine wpAny_bind (wpAny_isInstance (T := "StopIteration") (b := true) ⟨o, ho, hc⟩ isSubtype_stop ?_)
    exact wpAny_pure (hQ _ s.toks fun b o hb e => hk _ _ (fun x => hb (by simp [x])) e)
  self := fun i s Q E hst hQ => by
    have hT : s.TypeIs (.ref z) "map" := ⟨_, hst.1, rfl⟩
    refine wpAny_pyIter_slot hT slot_map_iter (wpAny_call_entry slot_map_iter hT entry_map_iter ?_ (args_map_iter _))
    show wpAny _ _ (ret (.ref z)) _ _ s
    exact wpAny_pure ⟨_, rfl, "map", _, hT, slot_map_next.lookup, hQ⟩
end
end Mine
open Builtin Builtin.Str
set_option maxRecDepth 100000
namespace Mine
section
variable {prog : Program} {w : World} {A : Around} {E : Value → Shared → Prop} {s : Shared} {I : Addr} {fp wr : List Addr} {G : Array GenState → Array GenState → Prop} {n : Nat} {P : Nat → Value → Prop} {St : Nat → Shared → Prop}
/-- collecting over a map object -/
theorem collectMap {Q : List Value → Shared → Prop} (WS : WalksS prog w A.in1 I fp wr G n P St) (hT : ∀ i s, St i s → s.TypeIs (.ref I) "map") (hst : St 0 s) (hfp : ∀ b ∈ fp, b < s.heap.objs.size) (hI : I ∈ fp)
    (hQ : ∀ s' acc, Moved wr G s s' → ItemsOf P acc n → Q acc.toList s') (hn : n ≤ sizeLine) : wpAny (model prog w) A (collect (.ref I)) Q E s := by
  have hSf : s.heap.objs.size ∉ fp := fun hm => Nat.lt_irrefl _ (hfp _ hm)
  have hSI : s.heap.objs.size ≠ I := fun e => hSf (e ▸ hI)
  unfold collect
  refine wpAny_bind (wpAny_runValue (codeAny_builtin F.entry_proto_collect ?_))
  rw [Around.under_plainId F.plain_proto_collect _]
  show wpAny _ A.in1 (newList [] >>= fun l => again (.builtin "list.__iadd__" ⟨[l, .ref I], []⟩)) _ _ s
  refine wpAny_bind (wpAny_newObj_type ?_)
  refine wpAny_pure ⟨plainId_quiet F.plain_list_iadd _, codeAny_builtin F.entry_list_iadd ?_⟩
  rw [Around.under_plainId F.plain_list_iadd _]
  have hst₁ := WS.frame 0 s (s.heap.push (PySem.W.listOf #[] 0)) s.toks hst (Nat.le_refl _) fun b _ o e => Heap.get?_push_of_some _ e
  show wpAny _ A.in1 (Builtin.List.listExtendWith (.ref s.heap.objs.size) (.ref I) (.ref s.heap.objs.size)) _ _ _
  unfold Builtin.List.listExtendWith
  refine wpAny_bind (wpAny_typeOf (hT 0 _ hst₁) ?_)
  have h1 : Builtin.List.listSameRef (.ref s.heap.objs.size) (.ref I) = false := by simp [Builtin.List.listSameRef, hSI]
  rw [if_neg (by rw [h1]; decide)]
  refine wpAny_bind (WS.self 0 _ _ _ hst₁ ?_)
  refine wpAny_bind (wpAny_holding ?_)
  unfold Builtin.List.listLengthHint
  refine wpAny_bind (wpAny_specialOf (hT 0 _ hst₁) map_no_len ?_)
  show wpAny _ A.in1 (specialOf (Value.ref I) (Str.ofString "__length_hint__") >>= _) _ _ _
  refine wpAny_bind (wpAny_specialOf (hT 0 _ hst₁) map_no_hint ?_)
  refine wpAny_pure ?_
  show wpAny _ A.in1 (rule "list.extend.makes-room" >>= fun _ => Builtin.List.listTouch (.ref s.heap.objs.size) >>= fun _ =>
    again (.builtin "list.extend.loop" ⟨[.ref s.heap.objs.size, .ref I, .ref s.heap.objs.size], []⟩)) _ _ _
  refine wpAny_bind (wpAny_rule ?_)
  have hS₁ : (s.heap.push (PySem.W.listOf #[] 0)).get? s.heap.objs.size = some (PySem.W.listOf #[] 0) := Heap.get?_push_size _ rfl
  refine wpAny_bind ?_
  show wpAny _ A.in1 (updateSeq s.heap.objs.size (·.push .none) >>= fun _ => updateSeq s.heap.objs.size (·.pop)) _ _ _
  refine wpAny_bind (wpAny_updateSeq hS₁ rfl ?_)
  have hS₂ := Heap.get?_update_self (Obj.mapSeq (·.push Value.none)) hS₁ rfl
  refine wpAny_updateSeq hS₂ rfl ?_
  have hS₃ := Heap.get?_update_self (Obj.mapSeq (·.pop)) hS₂ rfl
  have oth : ∀ b o, b ≠ s.heap.objs.size → (s.heap.push (PySem.W.listOf #[] 0)).get? b = some o →
      (((s.heap.push (PySem.W.listOf #[] 0)).update s.heap.objs.size (Obj.mapSeq (·.push Value.none))).update s.heap.objs.size (Obj.mapSeq (·.pop))).get? b = some o :=
    fun b o hb e => (Heap.get?_update_other _ _ (Ne.symm hb)).trans ((Heap.get?_update_other _ _ (Ne.symm hb)).trans e)
  refine wpAny_pure ⟨plainId_quiet F.plain_extend_loop _, codeAny_extend_loopS WS hn _ hSf _ n 0 _ _ _ rfl (Nat.zero_le _)
    (WS.frame 0 ({ s with heap := s.heap.push (PySem.W.listOf #[] 0) } : Shared) _ s.toks hst₁ (Nat.le_refl _) fun b hb o e => oth b o (fun h => hSf (h ▸ hb)) e) hS₃ (ItemsOf.nil P) fun s' acc' c' hm hS' hacc => ?_⟩
  show wpAny _ A (load s.heap.objs.size >>= _) _ _ s'
  refine wpAny_bind (wpAny_load hS' ?_)
  refine wpAny_pure (hQ s' acc' (Moved.drop_new (o := PySem.W.listOf #[] 0) (tk := s.toks) (Moved.trans WS.gtrans ((Moved.refl WS.grefl).then_heap (by first | exact Nat.le_refl _ | exact Nat.le_succ _ | omega) fun b o hb e => ?_) hm) (Nat.le_refl _)) hacc)
  exact oth b o (fun h => hb (h ▸ List.mem_cons_self)) e
end
section
variable {prog : Program} {w : World} {A : Around} {E : Value → Shared → Prop} {s : Shared}
/-- sep.join(map(str.capitalize, texts)) -/
theorem joinMap {sep : Str} {t : Tok} {z T I a : Addr} {l : List (Str × Tok)} {Q : Value → Shared → Prop} (hh : A.handled = none) (hIz : z ≠ I) (hIT : T ≠ I) (hIa : a ≠ I)
    (hz : s.heap.get? z = some (mapObj T)) (hT : s.heap.get? T = some (oneTup I)) (h1 : s.heap.IsListIter I a 0) (hl : s.heap.IsList a (strValues l).toArray)
    (hy : ∀ p ∈ l, p.1.length ≤ 5592405) (hn : l.length ≤ sizeLine) (hok : JoinOk sep (l.map fun p => Txt.capitalize p.1) = true)
    (hQ : ∀ h' tk t', (∀ b o, b ≠ I → s.heap.get? b = some o → h'.get? b = some o) → Q (.str (Txt.join sep (l.map fun p => Txt.capitalize p.1)) t') { s with heap := h', toks := tk }) :
    wpAny (model prog w) A (call (.builtin "str.join") [.str sep t, .ref z]) Q E s := by
  have W := Walks.capMap (prog := prog) (w := w) (A := A.in1.in1) hh z T I a hIz hIT hIa l hy
  refine wpAny_call (codeAny_call_builtin F.slot_str_join.plain F.entry_str_join (F.slot_str_join.check _ _ _ _ _ _ _ _ (typeIs_str _ _ _) (F.args_str_join_2 _ _) ?_))
  rw [join_tree_other]
  have hTy : s.TypeIs (.ref z) "map" := ⟨_, hz, rfl⟩
  refine wpAny_bind (wpAny_typeOf hTy ?_)
  show wpAny _ A.in1 ((pyIter (.ref z)).tryCatch _ >>= fun it => collect it >>= fun items => joinTail sep items) _ _ s
  have hlt : ∀ {c o}, s.heap.get? c = some o → c < s.heap.objs.size := fun e => Heap.lt_size e
  have hst : s.heap.get? z = some (mapObj T) ∧ s.heap.get? T = some (oneTup I) ∧ s.heap.IsListIter I a 0 ∧ s.heap.IsList a (strValues l).toArray := ⟨hz, hT, h1, hl⟩
  refine wpAny_bind (wpAny_tryCatch (W.of_in1.self 0 s _ _ hst ?_))
  refine wpAny_bind (collectMap W.toS (fun i s st => ⟨_, st.1, rfl⟩) hst (fun b hb => ?_) (by simp) (fun s' acc hm hacc => ?_) hn)
  · simp at hb
    rcases hb with rfl | rfl | rfl | rfl
    · exact hlt hz
    · exact hlt hT
    · obtain ⟨_, e, _⟩ := h1; exact hlt e
    · obtain ⟨_, e, _⟩ := hl; exact hlt e
  have hs' : s' = { s with heap := s'.heap, toks := s'.toks } := by
    obtain ⟨a1, a2, a3, a4, a5⟩ := hm
    cases s'; cases s; simp_all
  obtain ⟨m, hml⟩ := exists_strValues acc.toList fun v hv => by
    obtain ⟨j, hj, rfl⟩ := Array.mem_iff_getElem.mp (Array.mem_toList_iff.mp hv)
    obtain ⟨p, t', _, e⟩ := hacc.2 j _ (Array.getElem?_eq_getElem hj)
    exact ⟨_, _, e⟩
  have hmap : m.map (·.1) = l.map fun p => Txt.capitalize p.1 := by
    have hlen : m.length = l.length := by
      have := congrArg List.length hml
      simp [strValues] at this
      rw [this]; exact hacc.1
    apply List.ext_getElem
    · simp [hlen]
    · intro j hj hj'
      simp at hj hj'
      have hj2 : j < acc.size := by rw [hacc.1]; exact hj'
      obtain ⟨p, t', e1, e2⟩ := hacc.2 j _ (Array.getElem?_eq_getElem hj2)
      have e3 : (strValues m)[j]? = some acc[j] := by rw [hml]; simp [hj2]
      rw [e2] at e3
      simp [strValues, hj] at e3
      simp [hj'] at e1
      subst e1
      simp [e3.1]
  rw [← hml]
  rw [← hmap] at hok hQ
  unfold JoinOk at hok
  rw [Bool.not_eq_true'] at hok
  have g : Gives (joinTail sep (strValues m)) (joinMade sep m) := by
    have g0 := gives_joinTail sep m hok
    cases m with
    | nil => exact g0
    | cons p r => cases r with
      | nil => exact g0
      | cons q r' => exact g0
  refine g prog w A (wants Q E) s' (post_join m ⟨joinFit_length hok, fun t' k => ?_⟩)
  rw [hs']
  exact hQ _ _ _ fun b o hb e => hm.heap b o (by simpa using hb) e
end
end Mine
open Builtin Builtin.Str
set_option maxRecDepth 100000
namespace Mine
theorem sub_key_lookup : isSubtype (.type "KeyError") (.type "LookupError") = pure true := by rw [isSubtype_type]; kernel_rfl
section
variable {prog : Program} {w : World} {A : Around} {E : Value → Shared → Prop} {s : Shared} {d : Addr} {D : List (PyData × PyData)}
theorem look_hit {c : Nat} {y : Str} {Q : Mapped → Shared → Prop} (T : IntTab prog w s.heap d D) (hl : PySem.Spec.lookup (.int c) D = some (.str y)) (h : ∀ tk, Q (.text y) { s with toks := tk }) :
    wpAny (model prog w) A (tableLookup (.ref d) c) Q E s := by
  obtain ⟨lo, kvs, hd, hf⟩ := T
  obtain ⟨v, hv, hfl⟩ := hf.of_lookup PyProof.V.same_int hl
  unfold tableLookup
  refine wpAny_bind (wpAny_attempt (wpAny_bind (wpAny_mkInt' ?_)))
  refine wpAny_getItem_of (k := (c : Int)) (intKind_is prog w _ _) (hd.keep fun _ _ e => e).mapOf hv ?_
  obtain ⟨tv, rfl⟩ := hfl.str_inv
  exact wpAny_pure (h _)
theorem look_miss {c : Nat} {Q : Mapped → Shared → Prop} (T : IntTab prog w s.heap d D) (hh : A.handled = none) (hl : PySem.Spec.lookup (.int c) D = none) (h : ∀ h' tk, (∀ b o, s.heap.get? b = some o → h'.get? b = some o) → Q .keep { s with heap := h', toks := tk }) :
    wpAny (model prog w) A (tableLookup (.ref d) c) Q E s := by
  obtain ⟨lo, kvs, hd, hf⟩ := T
  unfold tableLookup
  refine wpAny_bind (wpAny_attempt (wpAny_bind (wpAny_mkInt' ?_)))
  refine wpAny_getItem_missing_of (k := (c : Int)) (intKind_is prog w _ _) lo hh (hd.keep fun _ _ e => e).mapOf (hf.none_of_lookup PyProof.V.same_int hl) fun h' e hx => ?_
  obtain ⟨ob, t, ho, hc, _⟩ := hx.there
  refine wpAny_bind (wpAny_isInstance (T := "KeyError") (b := true) ⟨ob, ho, hc⟩ sub_key_lookup ?_)
  exact wpAny_bind (wpAny_rule (wpAny_pure (h _ _ hx.keeps)))
theorem translate_one {c : Nat} {t : Tok} {y : Str} {Q : Value → Shared → Prop} (T : IntTab prog w s.heap d D) (hh : A.handled = none) (hc : c < 128)
    (hl : (PySem.Spec.lookup (.int c) D = none ∧ y = ⟨#[c]⟩) ∨ (PySem.Spec.lookup (.int c) D = some (.str y) ∧ y.length = 2))
    (h : ∀ h' tk t', (∀ b o, s.heap.get? b = some o → h'.get? b = some o) → Q (.str y t') { s with heap := h', toks := tk }) :
    wpAny (model prog w) A (call (.builtin "str.translate") [.str ⟨#[c]⟩ t, .ref d]) Q E s := by
  refine wpAny_call (codeAny_call_builtin F.slot_str_translate.plain F.entry_str_translate (F.slot_str_translate.check _ _ _ _ _ _ _ _ (typeIs_str _ _ _) (F.args_str_translate_2 _ _) ?_))
  unfold Builtin.«str.translate»
  refine wpAny_bind (wpAny_pure ?_)
  simp only [← Array.forIn_toList, List.forIn_cons, List.forIn_nil]
  have hall : (#[c].all fun x => decide (x < 128)) = true := by simp [hc]
  have h0 : tooLong 0 = false := by decide +kernel
  have h1 : tooLong (0 + 1) = false := by decide +kernel
  have h2 : tooLong (0 + 2) = false := by decide +kernel
  have hln : (({ cps := #[c] } : Str).length == 0) = false := rfl
  rw [hln]
  simp only [hall, h0, Bool.false_eq_true, if_false, if_true, List.lookup_nil]
  rcases hl with ⟨hl, rfl⟩ | ⟨hl, hy⟩
  · refine wpAny_bind (wpAny_bind (wpAny_bind (look_miss T hh hl fun h' tk hk => ?_)))
    dsimp only
    refine wpAny_bind (wpAny_pure (wpAny_pure (wpAny_pure ?_)))
    dsimp only
    rw [h1]
    simp only [Bool.false_eq_true, if_false]
    have e : ({ cps := List.foldl (fun acc (p : Str) => acc ++ p.cps) #[] [({ cps := #[c] } : Str)].reverse } : Str) = { cps := #[c] } := by simp
    rw [e]
    exact wpAny_bind (wpAny_mkStr' (wpAny_pure (h _ _ _ hk)) (by show 1 ≤ sizeLine; decide))
  · refine wpAny_bind (wpAny_bind (wpAny_bind (look_hit T hl fun tk => ?_)))
    have e1 : (y.length == 1) = false := by rw [hy]; rfl
    simp only [e1, Bool.false_and, Bool.false_eq_true, if_false]
    refine wpAny_bind (wpAny_pure ?_)
    dsimp only
    refine wpAny_bind (wpAny_rule ?_)
    refine wpAny_bind (look_hit (T.keep fun _ _ e => e) hl fun tk => ?_)
    dsimp only
    refine wpAny_pure (wpAny_pure ?_)
    dsimp only
    rw [hy, h2]
    simp only [Bool.false_eq_true, if_false]
    have e : ({ cps := List.foldl (fun acc (p : Str) => acc ++ p.cps) #[] [y].reverse } : Str) = y := by simp
    rw [e]
    exact wpAny_bind (wpAny_mkStr' (wpAny_pure (h _ _ _ fun _ _ e => e)) (by rw [hy]; decide))
end
end Mine
set_option maxRecDepth 100000
namespace Mine
def Keep (h h' : Heap) : Prop := ∀ b o, h.get? b = some o → h'.get? b = some o
abbrev Ar (dp un : Nat) (fr : Option (List Env)) (gd : Option (List Code)) : Around := { handled := none, depth := dp, frames := fr, guards := gd, units := un }
def Done (Q : Value → Shared → Prop) (v : Value) (s : Shared) : Prop := Q v s
def Halt (P : Prop) : Prop := P
theorem Halt.intro {P : Prop} (h : Halt P) : P := h

theorem enter {prog : Program} {w : World} {A : Around} {s : Shared} {K : Frag} {p : Program} {loose : List Str} {mean : ExcName → Option Value} {mg mb : Str → Option Value}
    {Q E : Value → Shared → Prop} {name qual : Str} {params : Arguments} {body : List Stmt} {scope : Scope} {dV kV doc pm cdv ct oc : Value} {an od : Option Addr} {osl : Array (Option Value)} {f : Addr} {args : List Value} {binds : List (Str × Value)}
    (X : K.In s.heap) (T : Top p loose mean mg mb s.heap)
    (ho : K.lookup f = some ⟨oc, od, .func (fnOf name qual params body scope dV kV doc pm an cdv ct), osl⟩) (hcd : codeIn K cdv qual = true) (hroom : A.depth < recursionLimit)
    (hbind : BindsTo s (fnOf name qual params body scope dV kV doc pm an cdv ct) ⟨args, []⟩ binds) (hloc : ∀ y ∈ binds, scope.names.lookup y.1 = some .local)
    (h : ∀ g L' h₁, Fr g L' h₁ (fun y => binds.reverse.lookup y) → News g L' h₁ [] → K.In g → Top p loose mean mg mb g → g = s.heap → s.heap.objs.size = L' →
      wpAny (model prog w) (A.deeper (envOf qual scope L' f cdv)) (execs body (envOf qual scope L' f cdv))
        (fun fl s' => Done Q (match fl with | .ret v => v | _ => .none) s') (fun _ _ => False)
        { s with heap := h₁, toks := s.toks + binds.length })
    (hco : scope.isCoroutine = false) (hgen : scope.isGenerator = false) (hk : scope.kind = .function)
    (hcell : ∀ x ∈ scope.names, x.2 ≠ .cell) : wpAny (model prog w) A (call (.ref f) args) Q E s := by
  refine wpAny_call (codeAny_call_def (fd := fnOf name qual params body scope dV kV doc pm an cdv ct) (body := body) (binds := binds) hroom (X _ _ ho) rfl T.nolimit (codeRec_of X hcd) rfl hbind hcell hloc (fun h₁ hns hk₁ => ?_) hco hgen hk)
  exact wpAny_mono (h s.heap s.heap.objs.size h₁ ⟨hns, hk₁, Nat.le_refl _⟩ (fun _ hp => nomatch hp) X T rfl rfl) (fun fl s' hl => hl) fun _ _ x => x.elim

theorem enterC {prog : Program} {w : World} {A : Around} {s : Shared} {K : Frag} {p : Program} {loose : List Str} {mean : ExcName → Option Value} {mg mb : Str → Option Value}
    {Q E : Value → Shared → Prop} {name qual : Str} {params : Arguments} {body : List Stmt} {scope : Scope} {dV kV doc pm cdv ct oc : Value} {an od : Option Addr} {osl : Array (Option Value)} {f : Addr} {args : List Value} {binds : List (Str × Value)}
    (X : K.In s.heap) (T : Top p loose mean mg mb s.heap)
    (ho : K.lookup f = some ⟨oc, od, .func (fnOf name qual params body scope dV kV doc pm an cdv ct), osl⟩) (hcd : codeIn K cdv qual = true) (hroom : A.depth < recursionLimit)
    (hbind : BindsTo s (fnOf name qual params body scope dV kV doc pm an cdv ct) ⟨args, []⟩ binds) (hkind : (binds.all fun y => scope.names.lookup y.1 == some .local || scope.names.lookup y.1 == some .cell) = true)
    (hnd : ((cellsFrom 0 scope.names []).map (·.1)).Nodup)
    (h : ∀ g L' h₁ tk cells, Fr g L' h₁ (bindL (envOfC qual scope L' f cdv).kindOf binds fun _ => none) → News g L' h₁ cells →
      CellsAre (bindC (envOfC qual scope L' f cdv).kindOf binds fun _ => none) (cellsFrom (L' + 1) scope.names []) cells → K.In g → Top p loose mean mg mb g → g = s.heap → s.heap.objs.size = L' →
      wpAny (model prog w) (A.deeper (envOfC qual scope L' f cdv)) (execs body (envOfC qual scope L' f cdv))
        (fun fl s' => Done Q (match fl with | .ret v => v | _ => .none) s') (fun _ _ => False)
        { s with heap := h₁, toks := tk })
    (hco : scope.isCoroutine = false) (hgen : scope.isGenerator = false) (hk : scope.kind = .function) : wpAny (model prog w) A (call (.ref f) args) Q E s := by
  refine wpAny_call (codeAny_call_function hroom (X _ _ ho) rfl hco hgen rfl (codeRec_of X hcd) (hbind _ _ _ _ ?_))
  refine wpAny_newFunctionEnv_cells hk (kindsX hkind _) fun env' he s' x => ?_
  subst he
  refine ⟨T.nolimit.keeps x.toInCall.keep, codeAny_func ?_⟩
  obtain ⟨h₁, tk, rfl, _⟩ := x.done
  have hk₁ := x.toInCall.keep
  obtain ⟨cells, NC, Y⟩ := Cl.news (h₀ := s.heap) (Nat.le_refl _) fun n c hm => ⟨x.cell n c (lookup_of_mem_nodup (cellsFrom_names scope.names 0 (s.heap.objs.size + 1) [] [] rfl ▸ hnd) hm), x.above n c hm⟩
  exact wpAny_mono (h s.heap s.heap.objs.size h₁ tk cells ⟨x.toInCall.ns, hk₁, Nat.le_refl _⟩ NC Y X T rfl rfl) (fun fl s' hl => hl) fun _ _ x => x.elim
end Mine
set_option maxRecDepth 100000
namespace Mine
def specialsN : List Nat := [40, 41, 91, 93, 123, 125, 63, 42, 43, 45, 124, 94, 36, 92, 46, 38, 126, 35, 32, 9, 10, 13, 11, 12]
def special (c : Nat) : Bool := specialsN.contains c
/-- the signs that re.escape makes of one sign -/
def esc (c : Nat) : List Nat := if special c then [92, c] else [c]
def spTab : List (Int × PyData) := specialsN.map fun (i : Nat) => ((i : Int), PyData.str ⟨#[92, i]⟩)
theorem spAt : ∀ (l : List Nat) (c : Nat), KTD.datumAt (c : Int) (l.map fun (i : Nat) => ((i : Int), PyData.str ⟨#[92, i]⟩)) = if l.contains c then some (PyData.str ⟨#[92, c]⟩) else none
  | [], c => rfl
  | i :: l, c => by
    show (if decide ((c : Int) = (i : Int)) = true then some (PyData.str ⟨#[92, i]⟩) else KTD.datumAt (c : Int) (l.map fun (i : Nat) => ((i : Int), PyData.str ⟨#[92, i]⟩))) = _
    rw [spAt l c, List.contains_cons]
    by_cases h : c = i
    · subst h; simp
    · have h' : ¬ ((c : Int) = (i : Int)) := fun e => h (by omega)
      simp [h, h']

section
variable {prog : Program} {w : World} {A : Around} {E : Value → Shared → Prop} {s : Shared} {h₀ : Heap} {L a q : Addr} {m : Str → Option Value} {news news' : List (Addr × Obj)} {xs : Array Value} {k : Nat} {Q : Value → Shared → Prop}
theorem getappend_K (F : Fr h₀ L s.heap m) (N : News h₀ L s.heap news) (hm : (a, PySem.W.listOf xs k) ∈ news)
    (h : ∀ q h', Fr h₀ L h' m → News h₀ L h' ((q, apObj a) :: news) → (∀ p ∈ news, p.1 < q) → Q (.ref q) { s with heap := h', toks := s.toks + 1 }) :
    wpAny (model prog w) A (getAttr (.ref a) "append" true) Q E s := by
  have hx := (N _ hm).1
  have h1 := h s.heap.objs.size _ (F.push _) (N.push F _) fun p hp => Heap.lt_size (N p hp).1
  obtain ⟨hh, g, d, t, os⟩ := s
  exact getappend hx h1
def ApP (q a : Addr) (h : Heap) : Prop := h.get? q = some (apObj a)
theorem callWith_ap {env : Env} {pos : Pos} {first : List Value} {e : Expr} {rest : List Expr} (N : News h₀ L s.heap news) (hm : (q, apObj a) ∈ news)
    (h : wpAny (model prog w) A (spliced (backTo pos (starEach (e :: rest) env))) (fun vs s₁ => ApP q a s₁.heap ∧ wpAny (model prog w) A (call (.ref q) (first ++ vs)) Q E s₁) E s)
    (he : starEach (e :: rest) env = (false, eval e env) :: starEach rest env := by rfl) (hplain : (backTo pos (starEach rest env)).any (·.1) = false := by rfl) :
    wpAny (model prog w) A (callWith pos (.ref q) first (backTo pos (starEach (e :: rest) env)) []) Q E s := by
  have _ := (N _ hm).1
  rw [he] at h ⊢
  refine callWith_of (P := ApP q a) (by show ((false || (backTo pos (starEach rest env)).any (·.1)) || false) = false; rw [hplain]; rfl) (fun h X => ⟨.machine, .inr (.inl rfl), ?_⟩) (evalArgs_plain h)
  exact (Looks.ld (part := none) X).andThen .now
theorem callappend_K {n : Nat} {its : Array Value} {v : Value} (F : Fr h₀ L s.heap m) (N : News h₀ L s.heap news) (hq : (q, apObj a) ∈ news) (U : Upd a (PySem.W.listOf its n) (PySem.W.listOf (its.push v) (n + 1)) news news')
    (h : ∀ h', Fr h₀ L h' m → News h₀ L h' news' → Q .none { s with heap := h' }) (hsz : its.size ≤ sizeLine := by size_fits) : wpAny (model prog w) A (call (.ref q) [v]) Q E s := by
  have hx := (N _ hq).1
  obtain ⟨pre, post, rfl, rfl, b1, b2⟩ := U.split
  have z := N (a, PySem.W.listOf its n) (List.mem_append.mpr (.inr (.head _)))
  have hs : Heap.SameBut a s.heap (s.heap.update a (Obj.mapSeq (·.push v))) := Heap.SameBut.update ..
  have ho : (s.heap.update a (Obj.mapSeq (·.push v))).get? a = some (PySem.W.listOf (its.push v) (n + 1)) := by
    rw [Heap.get?_update_self _ z.1 rfl]
    simp [Obj.mapSeq]
  exact callappend hx z.1 hsz (h _ (F.change hs z.2.1 z.2.2) (news_set N b1 b2 hs ho))
theorem callobject_K (F : Fr h₀ L s.heap m) (N : News h₀ L s.heap news)
    (h : ∀ q h', Fr h₀ L h' m → News h₀ L h' ((q, { cls := .type "object" }) :: news) → (∀ p ∈ news, p.1 < q) → Q (.ref q) { s with heap := h' }) :
    wpAny (model prog w) A (call (.type "object") []) Q E s :=
  callobject (h s.heap.objs.size _ (F.push _) (N.push F _) fun p hp => Heap.lt_size (N p hp).1)
theorem getMethod_translate {x : Str} {t : Tok} {pl : Sem Bool} {Q : Value × List Value → Shared → Prop} (h : Q (.builtin "str.translate", [.str x t]) s) :
    wpAny (model prog w) A (getMethod (.str x t) "translate" pl) Q E s := by
  with_reducible exact GM.of (.str x t) (typeIs_str _ _ _) F.slot_str_translate F.type_str_translate GM.noRef h
theorem translate_K {c : Nat} {t : Tok} {d : Addr} (T : KTD.Keyed h₀ d spTab) (F : Fr h₀ L s.heap m) (N : News h₀ L s.heap news) (hh : A.handled = none) (hc : c < 128)
    (h : ∀ h' tk t', Fr h₀ L h' m → News h₀ L h' news → Q (.str ⟨(esc c).toArray⟩ t') { s with heap := h', toks := tk }) :
    wpAny (model prog w) A (call (.builtin "str.translate") [.str ⟨#[c]⟩ t, .ref d]) Q E s := by
  have T' := (T.keep F.keep) prog w
  have hl := KTD.lookup_keyed (k := (c : Int)) (D := spTab)
  have e := spAt specialsN c
  rw [show KTD.datumAt (c : Int) spTab = _ from e] at hl
  refine translate_one (y := ⟨(esc c).toArray⟩) T' hh hc ?_ fun h' tk t' hk => h h' tk t' (F.keeps hk) (N.grown hk)
  rw [hl]
  unfold esc special
  cases hs : specialsN.contains c with
  | true => exact .inr ⟨by simp, by simp [Str.length]⟩
  | false => exact .inl ⟨by simp, by simp⟩
theorem spKeyed {h : Heap} (X : (Mine.hd.heap_1 w.params).In h) : KTD.Keyed h 45 spTab := kt_keyed_in X (by kernel_rfl)
end
end Mine
set_option maxRecDepth 100000
namespace Mine
section
variable {prog : Program} {w : World} {A : Around} {E : Value → Shared → Prop} {s : Shared} {h₀ : Heap} {L a q : Addr} {m : Str → Option Value} {news news' : List (Addr × Obj)} {vs : List Value} {Q : Value → Shared → Prop} {t u : Tok} {l : List Nat}
theorem len_S (hfit : (l.length : Int) < 9223372036854775808) (h : Q (.int l.length (s.toks + 1)) { s with toks := s.toks + 1 + 1 }) : wpAny (model prog w) A (call (.builtin "len") [.str ⟨l.toArray⟩ t]) Q E s := by
  have e : (({ cps := l.toArray } : Str)).length = l.length := by simp [Str.length]
  refine P.len_str (x := ⟨l.toArray⟩) (by rw [e]; omega) ?_
  rw [e]; exact h
theorem sub_S {value slice : Expr} {i : Int} {c : Nat} (h0 : 0 ≤ i) (hi : i < 9223372036854775808) (hc : l[i.toNat]? = some c) (h : Q (.str ⟨#[c]⟩ s.toks) { s with toks := s.toks + 1 })
    (hs : subscripted slice false (.str ⟨l.toArray⟩ t) (.int i u) = operate [.str ⟨l.toArray⟩ t, .int i u] (getItem (.str ⟨l.toArray⟩ t) (.int i u)) := by with_unfolding_all rfl) :
    wpAny (model prog w) A (subscriptTail value slice (.str ⟨l.toArray⟩ t) (.int i u)) Q E s := by
  have hlt : i.toNat < l.length := by
    rcases Nat.lt_or_ge i.toNat l.length with h1 | h1
    · exact h1
    · rw [List.getElem?_eq_none h1] at hc; cases hc
  refine tail_any (typeIs_str _ _ _) F.slot_str_getitem.lookup (P.getItem_str (c := c) ?_ ?_ h) hs
  · simp; omega
  · have e : (({ cps := l.toArray } : Str)).length = l.length := by simp [Str.length]
    rw [e]
    have e2 : seqIndex? i l.length = some i.toNat := by
      have e3 : (i < 0) = False := by simp; omega
      have e4 : (decide (0 ≤ i) && decide (i < (l.length : Int))) = true := by simp; omega
      simp only [seqIndex?, e3, if_false, e4, if_true]
    rw [e2]
    simpa using hc
theorem len_L (hl : s.heap.IsList a vs.toArray) (hfit : (vs.length : Int) < 9223372036854775808) (h : Q (.int vs.length (s.toks + 1)) { s with toks := s.toks + 1 + 1 }) : wpAny (model prog w) A (call (.builtin "len") [.ref a]) Q E s := by
  refine len_list hl (by rw [List.size_toArray]; omega) ?_
  rw [List.size_toArray]; exact h
theorem item_L {value slice : Expr} {k : Int} {v : Value} (hl : s.heap.IsList a vs.toArray) (h0 : 0 ≤ k) (hfit : k < 9223372036854775808) (hx : vs[k.toNat]? = some v) (h : Q v s)
    (hs : subscripted slice false (.ref a) (.int k u) = operate [.ref a, .int k u] (getItem (.ref a) (.int k u)) := by with_unfolding_all rfl) :
    wpAny (model prog w) A (subscriptTail value slice (.ref a) (.int k u)) Q E s :=
  tail_any hl.typeIs slot_list_getitem.lookup (wpAny_getItem_list hl h0 (by omega) (by simpa using hx) h) hs
theorem item_0 {value slice : Expr} {v : Value} (hl : s.heap.IsList a vs.toArray) (hx : vs.head? = some v) (h : Q v s)
    (hs : subscripted slice false (.ref a) (.int 0 u) = operate [.ref a, .int 0 u] (getItem (.ref a) (.int 0 u)) := by with_unfolding_all rfl) :
    wpAny (model prog w) A (subscriptTail value slice (.ref a) (.int 0 u)) Q E s :=
  item_L hl (Int.le_refl 0) (by decide) (by cases vs with | nil => cases hx | cons => simpa using hx) h hs
theorem last_L {value slice : Expr} {v : Value} (hl : s.heap.IsList a vs.toArray) (hn : (vs.length : Int) < 9223372036854775808) (hx : vs.getLast? = some v) (h : Q v s)
    (hs : subscripted slice false (.ref a) (.int (-1) u) = operate [.ref a, .int (-1) u] (getItem (.ref a) (.int (-1) u)) := by with_unfolding_all rfl) :
    wpAny (model prog w) A (subscriptTail value slice (.ref a) (.int (-1) u)) Q E s := by
  have hp : 0 < vs.length := by
    cases vs with
    | nil => cases hx
    | cons => simp
  refine tail_any hl.typeIs slot_list_getitem.lookup (wpAny_getItem_list_neg hl (by decide) (by simp; omega) (by decide) ?_ h) hs
  rw [List.getLast?_eq_getElem?] at hx
  have e : (-1 + (vs.toArray.size : Int)).toNat = vs.length - 1 := by rw [List.size_toArray]; omega
  rw [e]
  simpa using hx
theorem truthy_L {Q : Bool → Shared → Prop} (hl : s.heap.IsList a vs.toArray) (hn : (vs.length : Int) < 9223372036854775808) (h : Q (!vs.isEmpty) { s with toks := s.toks + 1 + 1 }) : wpAny (model prog w) A (truthy (.ref a)) Q E s := by
  refine wpAny_truthy_list hl (by rw [List.size_toArray]; omega) ?_
  have e : (!vs.toArray.isEmpty) = !vs.isEmpty := by cases vs <;> rfl
  rw [e]; exact h
theorem isNot_str_ref {x : Str} (h : Q (.bool true) s) : wpAny (model prog w) A (compareOp .IsNot (.str x t) (.ref a)) Q E s :=
  wpAny_isNot_other rfl (by intro e; cases e) h
theorem is_str_ref {x : Str} (h : Q (.bool false) s) : wpAny (model prog w) A (compareOp .Is (.str x t) (.ref a)) Q E s :=
  wpAny_is_other rfl (by intro e; cases e) h
theorem eq_one {c d : Nat} : (({ cps := #[c] } : Str) == ({ cps := #[d] } : Str)) = decide (c = d) := by
  by_cases h : c = d
  · subst h; simp
  · simp [h]
end
end Mine
namespace Mine
open PySem
theorem isStar (c : Nat) : (({ cps := #[c] } : Str) == Str.ofString "*") = decide (c = 42) := by rw [show Str.ofString "*" = ⟨#[42]⟩ from by decide +kernel, eq_one]
theorem isAsk (c : Nat) : (({ cps := #[c] } : Str) == Str.ofString "?") = decide (c = 63) := by rw [show Str.ofString "?" = ⟨#[63]⟩ from by decide +kernel, eq_one]
theorem isBra (c : Nat) : (({ cps := #[c] } : Str) == Str.ofString "[") = decide (c = 91) := by rw [show Str.ofString "[" = ⟨#[91]⟩ from by decide +kernel, eq_one]
end Mine
namespace Mine
open PySem
def AllNe (d : Addr) : List (Addr × Obj) → Prop
  | [] => True
  | p :: r => @Ne Nat p.1 d ∧ AllNe d r
theorem allNe_of {d : Addr} : ∀ {l : List (Addr × Obj)}, (∀ p ∈ l, p.1 ≠ d) → AllNe d l
  | [], _ => trivial
  | p :: _, h => ⟨h p (.head _), allNe_of fun q hq => h q (.tail _ hq)⟩
theorem news_ne {h₀ h : Heap} {L a : Addr} {news : List (Addr × Obj)} (N : PyProof.Rows.News h₀ L h news) (ha : h.get? a = none) : ∀ p ∈ news, p.1 ≠ a := by
  intro p hp e
  have := (N p hp).1
  rw [e, ha] at this
  cases this
/-- an object that a call made, onto the ledger -/
theorem news_made {h₀ h h' : Heap} {L a : Addr} {o : Obj} {m : Str → Option Value} {news : List (Addr × Obj)} (F : PyProof.Rows.Fr h₀ L h m) (N : PyProof.Rows.News h₀ L h news) (hk : ∀ b o, h.get? b = some o → h'.get? b = some o) (ha : h.get? a = none) (ho : h'.get? a = some o) :
    PyProof.Rows.News h₀ L h' ((a, o) :: news) := by
  intro p hp
  rcases List.mem_cons.mp hp with rfl | hp
  · refine ⟨ho, fun e => ?_, ?_⟩
    · obtain ⟨oL, _, _, hL, _⟩ := F.ns
      dsimp only at e
      rw [← e, ha] at hL; cases hL
    · cases q : h₀.get? a with
      | none => rfl
      | some o' => have := F.keep _ _ q; rw [ha] at this; cases this
  · exact N.grown hk p hp
end Mine
namespace Mine
/-- what one sign of the pattern adds to the parts; none is the mark of a star -/
def trStep (ps : List (Option (List Nat))) (c : Nat) : List (Option (List Nat)) :=
  if c = 42 then (if ps.getLast? = some none then ps else ps ++ [none])
  else if c = 63 then ps ++ [some [46]] else ps ++ [some (esc c)]
def trParts (l : List Nat) : List (Option (List Nat)) := l.foldl trStep []
def PartIs (S : Addr) : Option (List Nat) → Value → Prop
  | none, v => v = .ref S
  | some l, v => ∃ t, v = .str ⟨l.toArray⟩ t
inductive PartsAre (S : Addr) : List (Option (List Nat)) → List Value → Prop
  | nil : PartsAre S [] []
  | cons {p v ps vs} : PartIs S p v → PartsAre S ps vs → PartsAre S (p :: ps) (v :: vs)
theorem PartsAre.snoc {S : Addr} {ps : List (Option (List Nat))} {vs : List Value} {p : Option (List Nat)} {v : Value} (h : PartsAre S ps vs) (hv : PartIs S p v) : PartsAre S (ps ++ [p]) (vs ++ [v]) := by
  induction h with
  | nil => exact .cons hv .nil
  | cons a _ ih => exact .cons a ih
theorem PartsAre.length {S : Addr} {ps : List (Option (List Nat))} {vs : List Value} (h : PartsAre S ps vs) : vs.length = ps.length := by
  induction h with
  | nil => rfl
  | cons _ _ ih => simp [ih]
theorem PartsAre.at {S : Addr} {ps : List (Option (List Nat))} {vs : List Value} (h : PartsAre S ps vs) : ∀ (i : Nat) (p : Option (List Nat)), ps[i]? = some p → ∃ v, vs[i]? = some v ∧ PartIs S p v := by
  induction h with
  | nil => intro i p h; simp at h
  | cons a _ ih =>
    intro i p h
    cases i with
    | zero => simp at h; subst h; exact ⟨_, rfl, a⟩
    | succ i => simp at h ⊢; exact ih i p h
theorem PartsAre.last {S : Addr} {ps : List (Option (List Nat))} {vs : List Value} (h : PartsAre S ps vs) (p : Option (List Nat)) (hp : ps.getLast? = some p) : ∃ v, vs.getLast? = some v ∧ PartIs S p v := by
  rw [List.getLast?_eq_getElem?] at hp ⊢
  rw [h.length]
  exact h.at _ p hp
theorem trStep_length (ps : List (Option (List Nat))) (c : Nat) : (trStep ps c).length ≤ ps.length + 1 := by
  unfold trStep
  (repeat' split) <;> simp
theorem trParts_length : ∀ (l : List Nat) (ps : List (Option (List Nat))), (l.foldl trStep ps).length ≤ ps.length + l.length
  | [], ps => by simp
  | c :: l, ps => by
    have := trParts_length l (trStep ps c)
    have := trStep_length ps c
    simp only [List.foldl_cons, List.length_cons]; omega
theorem trParts_take {l : List Nat} {i : Nat} {c : Nat} (h : l[i]? = some c) : trParts (l.take (i + 1)) = trStep (trParts (l.take i)) c := by
  unfold trParts
  rw [List.take_add_one, h]
  simp
end Mine
namespace Mine
/-- the text that _join_translated_parts makes of its parts; joinG: behind a star, with what the fixed part holds so far -/
def joinG (acc : List Nat) : List (Option (List Nat)) → List Nat
  | [] => [46, 42] ++ acc
  | some p :: r => joinG (acc ++ p) r
  | none :: r => [40, 63, 62, 46, 42, 63] ++ acc ++ [41] ++ joinG [] r
def joinF : List (Option (List Nat)) → List Nat
  | [] => []
  | some p :: r => p ++ joinF r
  | none :: r => joinG [] r
inductive TextsAre : List (List Nat) → List Value → Prop
  | nil : TextsAre [] []
  | cons {u us vs t} : TextsAre us vs → TextsAre (u :: us) (.str ⟨u.toArray⟩ t :: vs)
theorem TextsAre.snoc {us : List (List Nat)} {vs : List Value} {u : List Nat} {t : Tok} (h : TextsAre us vs) : TextsAre (us ++ [u]) (vs ++ [.str ⟨u.toArray⟩ t]) := by
  induction h with
  | nil => exact .cons .nil
  | cons _ ih => exact .cons ih
theorem TextsAre.length {us : List (List Nat)} {vs : List Value} (h : TextsAre us vs) : vs.length = us.length := by
  induction h with
  | nil => rfl
  | cons _ ih => simp [ih]
theorem TextsAre.strs {us : List (List Nat)} {vs : List Value} (h : TextsAre us vs) : StrsAre vs (us.map fun u => ⟨u.toArray⟩) := by
  induction h with
  | nil => exact .nil
  | cons _ ih => exact .cons _ _ ih
theorem fold_flat : ∀ (us : List (List Nat)) (acc : Array Nat), (us.map fun u => ({ cps := u.toArray } : Str)).foldl (fun acc p => acc ++ (#[] : Array Nat) ++ p.cps) acc = acc ++ us.flatten.toArray
  | [], acc => by simp
  | u :: us, acc => by
    rw [List.map_cons, List.foldl_cons, fold_flat us]
    simp
theorem join_flat (us : List (List Nat)) : Txt.join (Str.ofString "") (us.map fun u => ({ cps := u.toArray } : Str)) = { cps := us.flatten.toArray } := by
  have e0 : (Str.ofString "") = ({ cps := #[] } : Str) := by decide +kernel
  rw [e0]
  unfold Txt.join PySem.Builtin.Str.glued
  cases us with
  | nil => rfl
  | cons u us =>
    show ({ cps := ((us.map fun u => ({ cps := u.toArray } : Str))).foldl (fun acc p => acc ++ (#[] : Array Nat) ++ p.cps) u.toArray } : Str) = _
    rw [fold_flat]
    simp
theorem TextsAre.sum (us : List (List Nat)) : ((us.map fun u => ({ cps := u.toArray } : Str)).map (·.length)).sum = us.flatten.length := by
  induction us with
  | nil => rfl
  | cons u us ih => simp only [List.map_cons, List.sum_cons, List.flatten_cons, List.length_append, ih]; simp [Str.length]
section
variable {prog : Program} {w : World} {A : Around} {E : Value → Shared → Prop} {s : Shared} {t : Tok} {Q : Value → Shared → Prop}
theorem join_E {D : Addr} {vs : List Value} {us : List (List Nat)} (hl : s.heap.IsList D vs.toArray) (hi : TextsAre us vs) (hok : us.flatten.length ≤ 1000000)
    (h : ∀ t' k, Q (.str ⟨us.flatten.toArray⟩ t') { s with toks := k }) : wpAny (model prog w) A (call (.builtin "str.join") [.str (Str.ofString "") t, .ref D]) Q E s := by
  refine join_list hl hi.strs ?_ ?_
  · rw [TextsAre.sum, show (Str.ofString "").length = 0 from by decide +kernel]; omega
  · rw [join_flat]; exact h
end
end Mine
namespace Mine
theorem drop_at {α : Type} {l : List α} {i : Nat} {x : α} (h : l[i]? = some x) : l.drop i = x :: l.drop (i + 1) := by
  have hlt : i < l.length := by
    rcases Nat.lt_or_ge i l.length with h1 | h1
    · exact h1
    · rw [List.getElem?_eq_none h1] at h; cases h
  rw [List.drop_eq_getElem_cons hlt]
  rw [List.getElem?_eq_getElem hlt] at h
  cases h; rfl
theorem joinG_acc : ∀ (l : List (Option (List Nat))) (acc : List Nat), acc.length ≤ (joinG acc l).length
  | [], acc => by simp [joinG]; omega
  | some p :: r, acc => by
    have := joinG_acc r (acc ++ p)
    simp only [joinG, List.length_append] at this ⊢; omega
  | none :: r, acc => by simp only [joinG, List.length_append]; omega
end Mine
namespace Mine
theorem dotstar : PySem.Str.ofString ".*" = ⟨[46, 42].toArray⟩ := by decide +kernel
end Mine
namespace Mine
open PySem
theorem str_ext {a b : Str} (h : a.cps.toList = b.cps.toList) : a = b := by
  cases a; cases b; simp at h; simp [h]
theorem head_tail (x : List Nat) : Str.empty ++ Str.ofString "(?s:" ++ ⟨x.toArray⟩ ++ Str.ofString ")\\Z" = ⟨([40, 63, 115, 58] ++ x ++ [41, 92, 90]).toArray⟩ := by
  have e1 : Str.ofString "(?s:" = ⟨[40, 63, 115, 58].toArray⟩ := by decide +kernel
  have e2 : Str.ofString ")\\Z" = ⟨[41, 92, 90].toArray⟩ := by decide +kernel
  rw [e1, e2]
  refine str_ext ?_
  show ((((#[] : Array Nat) ++ [40, 63, 115, 58].toArray) ++ x.toArray) ++ [41, 92, 90].toArray).toList = _
  simp
theorem lazy_fixed (x : List Nat) : Str.empty ++ Str.ofString "(?>.*?" ++ ⟨x.toArray⟩ ++ Str.ofString ")" = ⟨([40, 63, 62, 46, 42, 63] ++ x ++ [41]).toArray⟩ := by
  have e1 : Str.ofString "(?>.*?" = ⟨[40, 63, 62, 46, 42, 63].toArray⟩ := by decide +kernel
  have e2 : Str.ofString ")" = ⟨[41].toArray⟩ := by decide +kernel
  rw [e1, e2]
  refine str_ext ?_
  show ((((#[] : Array Nat) ++ [40, 63, 62, 46, 42, 63].toArray) ++ x.toArray) ++ [41].toArray).toList = _
  simp
end Mine
namespace Mine
open PySem
theorem fit_list {x : List Nat} (h : x.length ≤ 1000000) : (({ cps := x.toArray } : Str)).length ≤ sizeLine := by
  rw [PySem.sizeLine_eq]
  simp [Str.length]
  omega
end Mine
namespace Mine
def Short (ps : List (Option (List Nat))) : Prop := ∀ u, some u ∈ ps → u.length ≤ 2
theorem esc_length (c : Nat) : (esc c).length ≤ 2 := by unfold esc; split <;> simp
theorem trStep_short {ps : List (Option (List Nat))} (h : Short ps) (c : Nat) : Short (trStep ps c) := by
  intro u hu
  unfold trStep at hu
  have h2 := esc_length c
  (repeat' split at hu)
  · exact h u hu
  · simp at hu; exact h u hu
  · simp at hu; rcases hu with hu | rfl
    · exact h u hu
    · simp
  · simp at hu; rcases hu with hu | rfl
    · exact h u hu
    · exact h2
theorem foldl_short : ∀ (l : List Nat) {ps : List (Option (List Nat))}, Short ps → Short (l.foldl trStep ps)
  | [], _, h => h
  | c :: l, _, h => foldl_short l (trStep_short h c)
theorem trParts_short (l : List Nat) : Short (trParts l) := foldl_short l fun u hu => by cases hu
theorem joinG_length : ∀ (ps : List (Option (List Nat))) (acc : List Nat), Short ps → (joinG acc ps).length ≤ acc.length + 2 + 9 * ps.length
  | [], acc, _ => by simp [joinG]
  | some p :: r, acc, h => by
    have h1 := h p (.head _)
    have := joinG_length r (acc ++ p) fun u hu => h u (.tail _ hu)
    simp only [joinG, List.length_append, List.length_cons] at this ⊢; omega
  | none :: r, acc, h => by
    have := joinG_length r [] fun u hu => h u (.tail _ hu)
    simp only [joinG, List.length_append, List.length_cons, List.length_nil] at this ⊢; omega
theorem joinF_length : ∀ (ps : List (Option (List Nat))), Short ps → (joinF ps).length ≤ 2 + 9 * ps.length
  | [], _ => by simp [joinF]
  | some p :: r, h => by
    have h1 := h p (.head _)
    have := joinF_length r fun u hu => h u (.tail _ hu)
    simp only [joinF, List.length_append, List.length_cons] at this ⊢; omega
  | none :: r, h => by
    have := joinG_length r [] fun u hu => h u (.tail _ hu)
    simp only [joinF, List.length_cons, List.length_nil] at this ⊢; omega
def NoNN (ps : List (Option (List Nat))) : Prop := ∀ i : Nat, ps[i]? = some none → ps[i + 1]? ≠ some none
theorem NoNN.snoc {ps : List (Option (List Nat))} {p : Option (List Nat)} (h : NoNN ps) (hp : p = none → ps.getLast? ≠ some none) : NoNN (ps ++ [p]) := by
  intro i hi hi1
  rcases Nat.lt_trichotomy (i + 1) ps.length with h1 | h1 | h1
  · rw [List.getElem?_append_left (by omega)] at hi
    rw [List.getElem?_append_left (by omega)] at hi1
    exact h i hi hi1
  · rw [List.getElem?_append_left (by omega)] at hi
    rw [List.getElem?_append_right (by omega)] at hi1
    have e : i + 1 - ps.length = 0 := by omega
    rw [e] at hi1
    simp at hi1
    refine hp hi1 ?_
    rw [List.getLast?_eq_getElem?, ← h1]
    exact hi
  · rw [List.getElem?_append_right (by omega)] at hi1
    rw [List.getElem?_eq_none (by simp; omega)] at hi1
    cases hi1
theorem trStep_nn {ps : List (Option (List Nat))} (h : NoNN ps) (c : Nat) : NoNN (trStep ps c) := by
  unfold trStep
  (repeat' split)
  · exact h
  · next h1 => exact h.snoc fun _ => h1
  · exact h.snoc fun e => by cases e
  · exact h.snoc fun e => by cases e
theorem foldl_nn : ∀ (l : List Nat) {ps : List (Option (List Nat))}, NoNN ps → NoNN (l.foldl trStep ps)
  | [], _, h => h
  | c :: l, _, h => foldl_nn l (trStep_nn h c)
theorem trParts_nn (l : List Nat) : NoNN (trParts l) := foldl_nn l fun i hi => by simp at hi
/-- the text of translate -/
def trText (l : List Nat) : List Nat := [40, 63, 115, 58] ++ joinF (trParts l) ++ [41, 92, 90]
theorem dotq : PySem.Str.ofString "." = ⟨#[46]⟩ := by decide +kernel
end Mine
namespace Mine
theorem cap_small {l : List (Str × Tok)} {x : Str} (h : ∀ a, a ∈ l.map (·.1) → a.length ≤ x.length) (hn : x.length < 1000) : ∀ p ∈ l, p.1.length ≤ 5592405 := fun p hp => by
  have := h p.1 (List.mem_map_of_mem hp)
  omega
theorem cap_count {l : List (Str × Tok)} {x : Str} (h : l.map (·.1) = Txt.words x) (hn : x.length < 1000) : l.length ≤ sizeLine := by
  have h1 := congrArg List.length h
  have h2 := StrLaws.words_weight x
  rw [List.length_map] at h1
  rw [sizeLine_eq]
  omega
theorem cap_sum : ∀ (ys : List Str), ((ys.map Txt.capitalize).map (·.length)).sum ≤ 3 * (ys.map (·.length)).sum
  | [] => by simp
  | y :: ys => by
    have := cap_sum ys
    have := len_capitalize y
    simp only [List.map_cons, List.sum_cons]; omega
theorem cap_fits {l : List (Str × Tok)} {x : Str} (h : l.map (·.1) = Txt.words x) (hn : x.length < 1000) : JoinOk (Str.ofString " ") (l.map fun p => Txt.capitalize p.1) = true := by
  have e : (l.map fun p => Txt.capitalize p.1) = (l.map (·.1)).map Txt.capitalize := by simp
  rw [e, h]
  have h2 := StrLaws.words_weight x
  have h3 := cap_sum (Txt.words x)
  refine joinOk_of ?_
  rw [show (Str.ofString " ").length = 1 from by decide +kernel, List.length_map]
  omega
theorem cap_words {l : List (Str × Tok)} {x : Str} (h : l.map (·.1) = Txt.words x) : (l.map fun p => Txt.capitalize p.1) = (Txt.words x).map Txt.capitalize := by
  rw [← h]; simp
end Mine
set_option maxRecDepth 100000
namespace Mine
def KsfEnd {σ : Type} (h₀ : Heap) (L : Addr) (s : Shared) (I : Addr) (oI : Obj) (Led : σ → List (Addr × Obj)) (ps : σ → List (Str × Value)) (stored : List Str) (m₀ : Str → Option Value) (P : σ → Prop) (s₂ : Shared) : Prop :=
  ∃ (c' : σ) (h' : Heap) (tk : Nat) (m' : Str → Option Value) (news' : List (Addr × Obj)), s₂ = { s with heap := h', toks := tk } ∧ Fr h₀ L h' m' ∧ News h₀ L h' news' ∧ (I, oI) ∈ news' ∧ (∀ p ∈ Led c', p ∈ news') ∧ (∀ p ∈ ps c', m' p.1 = some p.2) ∧ (∀ z, (∀ p ∈ ps c', z ≠ p.1) → stored.contains z = false → m' z = m₀ z) ∧ P c'
theorem ksf_end {σ : Type} {h₀ : Heap} {L : Addr} {s : Shared} {I : Addr} {oI : Obj} {Led : σ → List (Addr × Obj)} {ps : σ → List (Str × Value)} {stored : List Str} {m₀ m' : Str → Option Value} {P : σ → Prop} {h' : Heap} {tk : Nat} {news' : List (Addr × Obj)} (c' : σ)
    (F : Fr h₀ L h' m') (N : News h₀ L h' news') (hI : (I, oI) ∈ news') (hn : ∀ p ∈ Led c', p ∈ news') (hk : ∀ p ∈ ps c', m' p.1 = some p.2) (hr : ∀ z, (∀ p ∈ ps c', z ≠ p.1) → stored.contains z = false → m' z = m₀ z) (hp : P c') :
    KsfEnd h₀ L s I oI Led ps stored m₀ P { s with heap := h', toks := tk } := ⟨c', h', tk, m', news', rfl, F, N, hI, hn, hk, hr, hp⟩
def KsfPost {σ : Type} (h₀ : Heap) (L : Addr) (s : Shared) (I : Addr) (oI : Obj) (Led : σ → List (Addr × Obj)) (ps : σ → List (Str × Value)) (stored : List Str) (m₀ : Str → Option Value) (P : σ → Prop) (Q : Flow → Shared → Prop) (f : Flow) (s₂ : Shared) : Prop :=
  match f with
  | .ret v => Q (.ret v) s₂
  | .brk => Q .next s₂
  | _ => KsfEnd h₀ L s I oI Led ps stored m₀ P s₂
section
variable {prog : Program} {w : World} {A : Around} {E : Value → Shared → Prop} {Q : Flow → Shared → Prop} {s : Shared} {env : Env} {h₀ : Heap}
theorem ksf_for {σ : Type} {x : Str} {px : Pos} {body : List Stmt} {m₀ : Str → Option Value} {I : Addr} {fp : List Addr} {n : Nat} {Pv : Nat → Value → Prop} {St : Nat → Heap → Prop} (W : Walks prog w A I fp [I] n Pv St)
    (O : Nat → Obj → Prop) (H : Heap → Prop) (Led : σ → List (Addr × Obj)) (ps : σ → List (Str × Value)) (stored : List Str) (P : Nat → σ → Prop) (c₀ : σ)
    (to : ∀ i h oI, h.get? I = some oI → O i oI → H h → St i h) (fro : ∀ i h, St i h → ∃ oI, h.get? I = some oI ∧ O i oI)
    (hH : ∀ c h m, Fr h₀ env.locals h m → News h₀ env.locals h (Led c) → H h)
    (hne : ∀ i c, P i c → ∀ p ∈ Led c, p.1 ≠ I) (hIL : env.locals ≠ I) (hI0 : h₀.get? I = none)
    (F : Fr h₀ env.locals s.heap m₀) (N : News h₀ env.locals s.heap (Led c₀)) (hst : St 0 s.heap) (hk : ∀ p ∈ ps c₀, m₀ p.1 = some p.2) (hp : P 0 c₀)
    (turn : ∀ i v (c : σ) (u : Str → Option Value) h tk oI, i < n → Pv i v → P i c → Fr h₀ env.locals h (kstB (fun z => if stored.contains z then u z else m₀ z) (ps c)) → News h₀ env.locals h ((I, oI) :: Led c) →
      wpAny (model prog w) A (storeName env x v) (fun _ s₂ => wpAny (model prog w) A (execs body env) (KsfPost h₀ env.locals s I oI Led ps stored m₀ (P (i + 1)) Q) E s₂) E { s with heap := h, toks := tk })
    (done : ∀ (c : σ) (u : Str → Option Value) h tk, P n c → Fr h₀ env.locals h (kstB (fun z => if stored.contains z then u z else m₀ z) (ps c)) → News h₀ env.locals h (Led c) → Q .next { s with heap := h, toks := tk })
    (hE : PassesOwn (model prog w) A env E := by passes_own) :
    codeAny (model prog w) A (.forLoop (.Name x px) (.ref I) body [] env) (fun r s' => match r with | .ok f => Q f s' | .error e => cameBackBy (model prog w) A env E e s') s := by
  obtain ⟨oI₀, hI₀, hO₀⟩ := fro 0 _ hst
  refine codeAny_forLoop (fun k s' => ∃ (c : σ) (h' : Heap) (tk : Nat) (m' : Str → Option Value) (i : Nat) (oI : Obj), s' = { s with heap := h', toks := tk } ∧ Fr h₀ env.locals h' m' ∧ News h₀ env.locals h' (Led c) ∧ h'.get? I = some oI ∧ O i oI ∧ (∀ p ∈ ps c, m' p.1 = some p.2) ∧ (∀ z, (∀ p ∈ ps c, z ≠ p.1) → stored.contains z = false → m' z = m₀ z) ∧ P i c ∧ i ≤ n ∧ k = n + 1 - i) ?_ (n + 1)
    ⟨c₀, s.heap, s.toks, m₀, 0, oI₀, rfl, F, N, hI₀, hO₀, hk, fun _ _ _ => rfl, hp, Nat.zero_le _, rfl⟩
  rintro k s' ⟨c, h', tk, m', i, oI, rfl, F', N', hI', hO', h1, h2, hP, hi, rfl⟩
  have stI := to i h' oI hI' hO' (hH c h' m' F' N')
  by_cases hlt : i < n
  · refine W.item i _ _ _ hlt stI fun v h₁ tk₁ hPv hst₁ hk₁ => ?_
    obtain ⟨oI', hI'', hO''⟩ := fro _ _ hst₁
    have F₁ : Fr h₀ env.locals h₁ m' := LCg.fr_but F' hk₁ hIL hI0
    have N₁ : News h₀ env.locals h₁ (Led c) := LCg.news_but N' hk₁ (hne i c hP)
    have N₂ : News h₀ env.locals h₁ ((I, oI') :: Led c) := fun p hp => by
      rcases List.mem_cons.mp hp with rfl | hp
      · exact ⟨hI'', Ne.symm hIL, hI0⟩
      · exact N₁ p hp
    refine wpAny_mono (wpAny_passesOwn hE (wpAny_assign_Name (turn i v c m' h₁ tk₁ oI' hlt hPv hP (ksw_fr h1 h2 F₁) N₂))) (fun _ s₂ q => ?_) fun _ _ x => x
    refine wpAny_mono (wpAny_passesOwn hE q) (fun f s₃ q => ?_) fun _ _ x => x
    cases f with
    | ret v => exact q
    | brk => exact q
    | next =>
      obtain ⟨c', h₃, tk₃, m₃, news₃, rfl, F₃, N₃, hm, hn, hk9, hr9, hp9⟩ := q
      exact ⟨n + 1 - (i + 1), by omega, c', h₃, tk₃, m₃, i + 1, oI', rfl, F₃, fun p hp => N₃ p (hn p hp), (N₃ _ hm).1, hO'', hk9, hr9, hp9, hlt, rfl⟩
    | cont =>
      obtain ⟨c', h₃, tk₃, m₃, news₃, rfl, F₃, N₃, hm, hn, hk9, hr9, hp9⟩ := q
      exact ⟨n + 1 - (i + 1), by omega, c', h₃, tk₃, m₃, i + 1, oI', rfl, F₃, fun p hp => N₃ p (hn p hp), (N₃ _ hm).1, hO'', hk9, hr9, hp9, hlt, rfl⟩
  · obtain rfl : i = n := Nat.le_antisymm hi (Nat.not_lt.mp hlt)
    refine W.done _ _ _ stI fun h₁ tk₁ hk₁ => wpAny_execs_nil ?_
    exact done c m' h₁ tk₁ hP (ksw_fr h1 h2 (LCg.fr_but F' hk₁ hIL hI0)) (LCg.news_but N' hk₁ (hne i c hP))

/-- a loop over a list, from pyIter on -/
theorem ksf_list {σ : Type} {x : Str} {px : Pos} {body : List Stmt} {m₀ : Str → Option Value} {a : Addr} {vs : List Value}
    (Led : σ → List (Addr × Obj)) (ps : σ → List (Str × Value)) (stored : List Str) (P : Nat → σ → Prop) (c₀ : σ) (hh : A.handled = none)
    (hH : ∀ c h m, Fr h₀ env.locals h m → News h₀ env.locals h (Led c) → h.IsList a vs.toArray)
    (hne : ∀ I, I = s.heap.objs.size → ∀ i c, P i c → ∀ p ∈ Led c, p.1 ≠ I)
    (F : Fr h₀ env.locals s.heap m₀) (N : News h₀ env.locals s.heap (Led c₀)) (hk : ∀ p ∈ ps c₀, m₀ p.1 = some p.2) (hp : P 0 c₀)
    (turn : ∀ I i v (c : σ) (u : Str → Option Value) h tk oI, I = s.heap.objs.size → vs[i]? = some v → P i c → Fr h₀ env.locals h (kstB (fun z => if stored.contains z then u z else m₀ z) (ps c)) → News h₀ env.locals h ((I, oI) :: Led c) →
      wpAny (model prog w) A (storeName env x v) (fun _ s₂ => wpAny (model prog w) A (execs body env) (KsfPost h₀ env.locals s I oI Led ps stored m₀ (P (i + 1)) Q) E s₂) E { s with heap := h, toks := tk })
    (done : ∀ (c : σ) (u : Str → Option Value) h tk, P vs.length c → Fr h₀ env.locals h (kstB (fun z => if stored.contains z then u z else m₀ z) (ps c)) → News h₀ env.locals h (Led c) → Q .next { s with heap := h, toks := tk })
    (hE : PassesOwn (model prog w) A env E := by passes_own) :
    wpAny (model prog w) A (pyIter (.ref a)) (fun it s₂ => codeAny (model prog w) A (.forLoop (.Name x px) it body [] env) (fun r s' => match r with | .ok f => Q f s' | .error e => cameBackBy (model prog w) A env E e s') s₂) E s := by
  have hl := hH c₀ _ _ F N
  have hlt : a < s.heap.objs.size := by obtain ⟨_, e, _⟩ := hl; exact Heap.lt_size e
  refine wpAny_pyIter_list hl ?_
  have up : ∀ b o, s.heap.get? b = some o → (s.heap.push { cls := .type "list_iterator", data := .fields #[.ref a, .int 0 0] }).get? b = some o := fun b o e => Heap.get?_push_of_some _ e
  refine ksf_for (Walks.list hh s.heap.objs.size a (Nat.ne_of_lt hlt) vs.toArray) (fun i o => o.cls = .type "list_iterator" ∧ o.data = .fields #[.ref a, .int i 0]) (fun h => h.IsList a vs.toArray) Led ps stored P c₀
    (fun i h oI e o hl => ⟨⟨oI, e, o⟩, hl⟩) (fun i h st => st.1) hH (hne _ rfl) (Nat.ne_of_lt F.ns.lt) (next_is_new F) (F.keeps up) (N.grown up) ⟨⟨_, Heap.get?_push_size _ rfl, rfl, rfl⟩, hl.push _⟩ hk hp ?_ ?_ hE
  · intro i v c u h tk oI hi hv hP F1 N1
    exact turn _ i v c u h tk oI rfl (by simpa using hv) hP F1 N1
  · intro c u h tk hP F1 N1
    exact done c u h tk (by simpa using hP) F1 N1

/-- a loop over the signs of a text of ASCII -/
theorem ksf_text {σ : Type} {x : Str} {px : Pos} {body : List Stmt} {m₀ : Str → Option Value} {l : List Nat} {t : Tok}
    (Led : σ → List (Addr × Obj)) (ps : σ → List (Str × Value)) (stored : List Str) (P : Nat → σ → Prop) (c₀ : σ) (hh : A.handled = none) (hl : ∀ c ∈ l, c < 128)
    (hne : ∀ I, I = s.heap.objs.size → ∀ i c, P i c → ∀ p ∈ Led c, p.1 ≠ I)
    (F : Fr h₀ env.locals s.heap m₀) (N : News h₀ env.locals s.heap (Led c₀)) (hk : ∀ p ∈ ps c₀, m₀ p.1 = some p.2) (hp : P 0 c₀)
    (turn : ∀ I i d tv (c : σ) (u : Str → Option Value) h tk oI, I = s.heap.objs.size → l[i]? = some d → P i c → Fr h₀ env.locals h (kstB (fun z => if stored.contains z then u z else m₀ z) (ps c)) → News h₀ env.locals h ((I, oI) :: Led c) →
      wpAny (model prog w) A (storeName env x (.str ⟨#[d]⟩ tv)) (fun _ s₂ => wpAny (model prog w) A (execs body env) (KsfPost h₀ env.locals s I oI Led ps stored m₀ (P (i + 1)) Q) E s₂) E { s with heap := h, toks := tk })
    (done : ∀ (c : σ) (u : Str → Option Value) h tk, P l.length c → Fr h₀ env.locals h (kstB (fun z => if stored.contains z then u z else m₀ z) (ps c)) → News h₀ env.locals h (Led c) → Q .next { s with heap := h, toks := tk })
    (hE : PassesOwn (model prog w) A env E := by passes_own) :
    wpAny (model prog w) A (pyIter (.str ⟨l.toArray⟩ t)) (fun it s₂ => codeAny (model prog w) A (.forLoop (.Name x px) it body [] env) (fun r s' => match r with | .ok f => Q f s' | .error e => cameBackBy (model prog w) A env E e s') s₂) E s := by
  have ha : (({ cps := l.toArray } : Str)).cps.all (· < 128) = true := by simpa using hl
  refine wpAny_pyIter_ascii ha ?_
  refine ksf_for (Walks.strAscii hh s.heap.objs.size ⟨l.toArray⟩ t) (fun i o => o.cls = .type "str_ascii_iterator" ∧ o.data = .fields #[.str ⟨l.toArray⟩ t, .int i 0]) (fun h => True) Led ps stored P c₀
    (fun i h oI e o hl => ⟨oI, e, o⟩) (fun i h st => st) (fun _ _ _ _ _ => trivial) (hne _ rfl) (Nat.ne_of_lt F.ns.lt) (next_is_new F) (F.keeps fun _ _ e => Heap.get?_push_of_some _ e) (N.grown fun _ _ e => Heap.get?_push_of_some _ e) ⟨_, Heap.get?_push_size _ rfl, rfl, rfl⟩ hk hp ?_ ?_ hE
  · rintro i v c u h tk oI hi ⟨d, tv, hd, rfl⟩ hP F1 N1
    exact turn _ i d tv c u h tk oI rfl (by simpa using hd) hP F1 N1
  · intro c u h tk hP F1 N1
    exact done c u h tk (by simpa using hP) F1 N1
end
section
variable {prog : Program} {w : World} {A : Around} {s : Shared} {h₀ : Heap} {L : Addr} {m : Str → Option Value} {env : Env}
/-- the turns of a comprehension without a test, by an invariant -/
theorem rest_inv {σ : Type} {elt : Expr} {x : Str} {scope : Scope} {cl : List (Str × Addr)} {S : List (Addr × Obj) → Prop} {Pv : Nat → Value → Prop} {Fin : List Value → List (Addr × Obj) → Prop} {n : Nat}
    (Ys : σ → List Value) (Led : σ → List (Addr × Obj)) (P : Nat → σ → Prop)
    (turn : ∀ i (c : σ) v I oI C oC D m₂ h tk (E' : Value → Shared → Prop), i < n → P i c → Pv i v → LCg.NsObj oC m₂ → m₂ x = some v → Fr h₀ L h m → News h₀ L h ((I, oI) :: (C, oC) :: (D, LCg.lst (Ys c)) :: Led c) → LCg.Off3 I C D (Led c) → ((@Ne Nat I C) ∧ (@Ne Nat I D) ∧ (@Ne Nat C D)) →
      wpAny (model prog w) A (eval elt (compEnvC scope cl C env)) (LCg.CompEnd h₀ L m { s with heap := h, toks := tk } I oI C oC D (LCg.lst (Ys c)) S (fun y news' => ∃ c', Ys c' = Ys c ++ [y] ∧ Led c' = news' ∧ P (i + 1) c')) E' { s with heap := h, toks := tk })
    (fin : ∀ c, P n c → Fin (Ys c) (Led c)) : ∀ (k i : Nat) (c : σ), i + k = n → P i c → LCg.CompRest prog w A h₀ L m env elt x scope cl s S Pv Fin k i (Ys c) (Led c)
  | 0, i, c, hk, hP => by
    obtain rfl : i = n := by omega
    exact .zero (fin c hP)
  | k + 1, i, c, hk, hP => by
    refine .succ fun v I oI C oC D m₂ h tk E' hv hC hx F N off ne => ?_
    refine wpAny_mono (turn i c v I oI C oC D m₂ h tk E' (by omega) hP hv hC hx F N off ne) (fun y s₂ q => ?_) fun _ _ e => e
    obtain ⟨h', tk', news', rfl, F', N', off', hS, c', e1, e2, hP'⟩ := q
    refine ⟨h', tk', news', rfl, F', N', off', hS, ?_⟩
    dsimp only
    rw [← e1, ← e2]
    exact rest_inv Ys Led P turn fin k (i + 1) c' (by omega) hP'
/-- the turns of a comprehension with one test, by an invariant -/
theorem restT_inv {σ : Type} {ct elt : Expr} {x : Str} {scope : Scope} {cl : List (Str × Addr)} {S : List (Addr × Obj) → Prop} {Pv : Nat → Value → Prop} {Fin : List Value → List (Addr × Obj) → Prop} {n : Nat}
    (Ys : σ → List Value) (Led : σ → List (Addr × Obj)) (P : Nat → σ → Prop)
    (turn : ∀ i (c : σ) v I oI C oC D m₂ h tk (E' : Value → Shared → Prop), i < n → P i c → Pv i v → LCg.NsObj oC m₂ → m₂ x = some v → Fr h₀ L h m → News h₀ L h ((I, oI) :: (C, oC) :: (D, LCg.lst (Ys c)) :: Led c) → LCg.Off3 I C D (Led c) → ((@Ne Nat I C) ∧ (@Ne Nat I D) ∧ (@Ne Nat C D)) →
      wpAny (model prog w) A (isTrue ct (compEnvC scope cl C env) (eval ct (compEnvC scope cl C env))) (fun ok s' => if ok = true then
        wpAny (model prog w) A (eval elt (compEnvC scope cl C env)) (LCg.CompEnd h₀ L m { s with heap := h, toks := tk } I oI C oC D (LCg.lst (Ys c)) S (fun y news' => ∃ c', Ys c' = Ys c ++ [y] ∧ Led c' = news' ∧ P (i + 1) c')) E' s'
        else LCg.CompEnd h₀ L m { s with heap := h, toks := tk } I oI C oC D (LCg.lst (Ys c)) S (fun _ news' => ∃ c', Ys c' = Ys c ∧ Led c' = news' ∧ P (i + 1) c') Value.none s') E' { s with heap := h, toks := tk })
    (fin : ∀ c, P n c → Fin (Ys c) (Led c)) : ∀ (k i : Nat) (c : σ), i + k = n → P i c → LCt.CompRestT prog w A h₀ L m env ct elt x scope cl s S Pv Fin k i (Ys c) (Led c)
  | 0, i, c, hk, hP => by
    obtain rfl : i = n := by omega
    exact .zero (fin c hP)
  | k + 1, i, c, hk, hP => by
    refine .succ fun v I oI C oC D m₂ h tk E' hv hC hx F N off ne => ?_
    have back : ∀ (ys' : List Value) (y : Value) (s₂ : Shared), LCg.CompEnd h₀ L m { s with heap := h, toks := tk } I oI C oC D (LCg.lst (Ys c)) S (fun y news' => ∃ c', Ys c' = ys' ∧ Led c' = news' ∧ P (i + 1) c') y s₂ →
        LCg.CompEnd h₀ L m { s with heap := h, toks := tk } I oI C oC D (LCg.lst (Ys c)) S (fun y news' => LCt.CompRestT prog w A h₀ L m env ct elt x scope cl s S Pv Fin k (i + 1) ys' news') y s₂ := by
      rintro ys' y s₂ ⟨h', tk', news', rfl, F', N', off', hS, c', e1, e2, hP'⟩
      refine ⟨h', tk', news', rfl, F', N', off', hS, ?_⟩
      rw [← e1, ← e2]
      exact restT_inv Ys Led P turn fin k (i + 1) c' (by omega) hP'
    refine wpAny_mono (turn i c v I oI C oC D m₂ h tk E' (by omega) hP hv hC hx F N off ne) (fun ok s₂ q => ?_) fun _ _ e => e
    cases ok with
    | true =>
      simp only [if_true] at q ⊢
      refine wpAny_mono q (fun y s₃ q => ?_) fun _ _ e => e
      have q2 : LCg.CompEnd h₀ L m { s with heap := h, toks := tk } I oI C oC D (LCg.lst (Ys c)) S (fun y9 news' => ∃ c', Ys c' = Ys c ++ [y] ∧ Led c' = news' ∧ P (i + 1) c') y s₃ := q
      exact back _ y s₃ q2
    | false =>
      simp only [Bool.false_eq_true, if_false] at q ⊢
      exact back _ _ _ q
end
end Mine
namespace Mine
inductive CodesAre : List Nat → List Value → Prop
  | nil : CodesAre [] []
  | cons {c : Nat} {t : Tok} {cs : List Nat} {vs : List Value} : CodesAre cs vs → CodesAre (c :: cs) (.int (c : Int) t :: vs)
theorem CodesAre.snoc {cs : List Nat} {vs : List Value} {c : Nat} {t : Tok} (h : CodesAre cs vs) : CodesAre (cs ++ [c]) (vs ++ [.int (c : Int) t]) := by
  induction h with
  | nil => exact .cons .nil
  | cons _ ih => exact .cons ih
theorem CodesAre.length {cs : List Nat} {vs : List Value} (h : CodesAre cs vs) : vs.length = cs.length := by
  induction h with
  | nil => rfl
  | cons _ ih => simp [ih]
theorem CodesAre.at {cs : List Nat} {vs : List Value} (h : CodesAre cs vs) : ∀ (i : Nat) (v : Value), vs[i]? = some v → ∃ c t, cs[i]? = some c ∧ v = .int (c : Int) t := by
  induction h with
  | nil => intro i v h; simp at h
  | cons _ ih =>
    intro i v h
    cases i with
    | zero => simp at h; subst h; exact ⟨_, _, rfl, rfl⟩
    | succ i =>
      rw [List.getElem?_cons_succ] at h ⊢
      exact ih i v h
theorem CodesAre.ints {cs : List Nat} {vs : List Value} (h : CodesAre cs vs) : IntsAre vs (cs.map fun (n : Nat) => (n : Int)) := by
  induction h with
  | nil => exact .nil
  | cons _ ih => exact .cons _ _ ih
theorem CodesAre.of_ints {vs : List Value} {ns : List Int} (h : IntsAre vs ns) : ∀ cs : List Nat, ns = cs.map (fun (n : Nat) => (n : Int)) → CodesAre cs vs := by
  induction h with
  | nil => intro cs e; cases cs with | nil => exact .nil | cons => simp at e
  | cons n t _ ih => intro cs e; cases cs with | nil => simp at e | cons c cs => simp at e; obtain ⟨rfl, e⟩ := e; exact .cons (ih cs e)
def capStep (p : List Nat × Bool) (c : Nat) : List Nat × Bool :=
  if c = 4 ∨ c = 6 then (p.1, true)
  else (p.1 ++ (if p.2 = true ∧ p.1 ≠ [] then [4] else []) ++ [if c < 4 then c / 2 * 2 + (if p.2 then 1 else 0) else c], false)
def capped (cs : List Nat) : List Nat := (cs.foldl capStep ([], true)).1
theorem fold_take {α β : Type} {f : β → α → β} {b : β} {l : List α} {i : Nat} {c : α} (h : l[i]? = some c) : (l.take (i + 1)).foldl f b = f ((l.take i).foldl f b) c := by
  rw [List.take_add_one, h]
  simp
theorem capStep_length (p : List Nat × Bool) (c : Nat) : (capStep p c).1.length ≤ p.1.length + 2 := by
  unfold capStep
  (repeat' split) <;> simp
theorem cap_length : ∀ (cs : List Nat) (p : List Nat × Bool), (cs.foldl capStep p).1.length ≤ p.1.length + 2 * cs.length
  | [], p => by simp
  | c :: cs, p => by
    have := cap_length cs (capStep p c)
    have := capStep_length p c
    simp only [List.foldl_cons, List.length_cons]; omega
end Mine
namespace Mine
theorem in46 (d : Nat) : (([4, 6] : List Int).any fun x => x == (d : Int)) = decide (d = 4 ∨ d = 6) := by
  by_cases h4 : d = 4
  · subst h4; rfl
  · by_cases h6 : d = 6
    · subst h6; rfl
    · have e4 : ((4 : Int) == (d : Int)) = false := by simp; omega
      have e6 : ((6 : Int) == (d : Int)) = false := by simp; omega
      simp [h4, h6, e4, e6]
end Mine
namespace Mine
theorem fdv0 (d : Nat) : ((d : Int)).fdiv 2 * 2 + 0 = ((d / 2 * 2 + 0 : Nat) : Int) := by
  rw [Int.fdiv_eq_ediv_of_nonneg _ (by decide)]; omega
theorem fdv1 (d : Nat) : ((d : Int)).fdiv 2 * 2 + 1 = ((d / 2 * 2 + 1 : Nat) : Int) := by
  rw [Int.fdiv_eq_ediv_of_nonneg _ (by decide)]; omega
end Mine
namespace Mine
def atomStr : Option Nat → Str
  | none => Str.ofString "any"
  | some c => ⟨#[c]⟩
inductive AtomsAre : List (Option Nat) → List Value → Prop
  | nil : AtomsAre [] []
  | cons {p : Option Nat} {t : Tok} {ps : List (Option Nat)} {vs : List Value} : AtomsAre ps vs → AtomsAre (p :: ps) (.str (atomStr p) t :: vs)
theorem AtomsAre.snoc {ps : List (Option Nat)} {vs : List Value} {p : Option Nat} {t : Tok} (h : AtomsAre ps vs) : AtomsAre (ps ++ [p]) (vs ++ [.str (atomStr p) t]) := by
  induction h with
  | nil => exact .cons .nil
  | cons _ ih => exact .cons ih
theorem AtomsAre.length {ps : List (Option Nat)} {vs : List Value} (h : AtomsAre ps vs) : vs.length = ps.length := by
  induction h with
  | nil => rfl
  | cons _ ih => simp [ih]
theorem AtomsAre.at {ps : List (Option Nat)} {vs : List Value} (h : AtomsAre ps vs) : ∀ (i : Nat) (p : Option Nat), ps[i]? = some p → ∃ t, vs[i]? = some (.str (atomStr p) t) := by
  induction h with
  | nil => intro i p h; simp at h
  | cons _ ih =>
    intro i p h
    cases i with
    | zero => simp at h; subst h; exact ⟨_, rfl⟩
    | succ i =>
      rw [List.getElem?_cons_succ] at h ⊢
      exact ih i p h
def atStep (q : List (Option Nat) × Bool) (c : Nat) : List (Option Nat) × Bool :=
  if q.2 = true ∧ c = 92 then (q.1, false) else (q.1 ++ [if q.2 = true ∧ c = 46 then none else some c], true)
def atomsOf (l : List Nat) : List (Option Nat) := (l.foldl atStep ([], true)).1
theorem atoms_length : ∀ (l : List Nat) (q : List (Option Nat) × Bool), (l.foldl atStep q).1.length ≤ q.1.length + l.length
  | [], q => by simp
  | c :: l, q => by
    have h1 := atoms_length l (atStep q c)
    have h2 : (atStep q c).1.length ≤ q.1.length + 1 := by unfold atStep; split <;> simp
    simp only [List.foldl_cons, List.length_cons]; omega
theorem isBack (c : Nat) : (({ cps := #[c] } : Str) == Str.ofString "\\") = decide (c = 92) := by rw [show Str.ofString "\\" = ⟨#[92]⟩ from by decide +kernel, eq_one]
theorem isDot (c : Nat) : (({ cps := #[c] } : Str) == Str.ofString ".") = decide (c = 46) := by rw [show Str.ofString "." = ⟨#[46]⟩ from by decide +kernel, eq_one]
end Mine
namespace Mine
/-- do the atoms fit the name at this place? -/
def fitsAt (ps : List (Option Nat)) (nm : List Nat) (p : Nat) : Bool := decide (p + ps.length ≤ nm.length) && (List.range ps.length).all fun k => match ps[k]? with | some (some c) => nm[p + k]? == some c | _ => true
end Mine
namespace Mine
def atomOk (ps : List (Option Nat)) (nm : List Nat) (p k : Nat) : Bool := match ps[k]? with | some (some c) => nm[p + k]? == some c | _ => true
theorem range_small {a b : Int} (ha : 0 ≤ a) (ha2 : a < 1000000) (hb : 0 ≤ b) (hb2 : b < 1000000) : Builtin.Range.small a b 1 = true :=
  small_one (Int.le_trans (by decide) ha) (Int.lt_trans ha2 (by decide)) (Int.le_trans (by decide) hb) (Int.lt_trans hb2 (by decide))
theorem range_size {a b : Int} {n : Nat} (h : b - a = (n : Int)) : Builtin.Range.rangeSize a b 1 = ((n : Nat) : Int) := by
  rw [rangeSize_nat, h]; rfl
end Mine
namespace Mine
theorem any_ne (d : Nat) : (({ cps := #[d] } : Str) == Str.ofString "any") = false := by
  rw [show Str.ofString "any" = ⟨#[97, 110, 121]⟩ from by decide +kernel]
  simp
theorem any_ne' (d : Nat) : (Str.ofString "any" == ({ cps := #[d] } : Str)) = false := by
  rw [show Str.ofString "any" = ⟨#[97, 110, 121]⟩ from by decide +kernel]
  simp
theorem atom_any {ps : List (Option Nat)} {nm : List Nat} {p i c9 : Nat} {q9 : Option Nat} (h1 : ps[i]? = some q9) (h2 : nm[((p : Int) + (i : Int)).toNat]? = some c9) :
    ([Str.ofString "any", ({ cps := #[c9] } : Str)].any fun x => x == atomStr q9) = atomOk ps nm p i := by
  have h3 : nm[p + i]? = some c9 := h2
  unfold atomOk
  rw [h1, h3]
  cases q9 with
  | none => simp [atomStr]
  | some d =>
    simp only [atomStr, List.any_cons, List.any_nil, any_ne', eq_one, Bool.or_false, Bool.false_or]
    by_cases h : c9 = d
    · subst h; simp
    · simp [h]
theorem fits_done {ps : List (Option Nat)} {nm : List Nat} {p : Nat} (h : ¬ nm.length < p + ps.length) : decide ((((List.range ps.length).filter fun k => !atomOk ps nm p k).map fun (n : Nat) => (n : Int)) = []) = fitsAt ps nm p := by
  unfold fitsAt
  rw [decide_eq_true (by omega : p + ps.length ≤ nm.length), Bool.true_and]
  have e : ((List.range ps.length).all fun k => match ps[k]? with | some (some c) => nm[p + k]? == some c | _ => true) = (List.range ps.length).all fun k => atomOk ps nm p k := rfl
  rw [e]
  rw [Bool.eq_iff_iff, decide_eq_true_iff, List.map_eq_nil_iff, List.filter_eq_nil_iff, List.all_eq_true]
  simp
theorem fits_not {ps : List (Option Nat)} {nm : List Nat} {p : Nat} (h : nm.length < p + ps.length) : fitsAt ps nm p = false := by
  unfold fitsAt; rw [decide_eq_false (by omega)]; rfl
theorem filter_range_snoc {f : Nat → Bool} {i : Nat} : (List.range (i + 1)).filter f = (List.range i).filter f ++ (if f i = true then [i] else []) := by
  rw [List.range_succ, List.filter_append]
  congr 1
  cases h : f i <;> simp [h]
end Mine
namespace Mine
def minL (a : Nat) : List Nat → Nat
  | [] => a
  | b :: r => minL (min a b) r
/-- the spots of the table behind one code of the pattern -/
def meStep (nm : List Nat) (spots : List Nat) (c : Nat) : List Nat :=
  if c = 8 then (List.range (nm.length + 1 - minL (nm.length + 1) spots)).map (minL (nm.length + 1) spots + ·)
  else (spots.filter fun k => decide (k < nm.length) && (c == 7 || nm[k]? == some c)).map (· + 1)
def meSpots (nm : List Nat) (pat : List Nat) : List Nat := pat.foldl (meStep nm) [0]
def means (pat nm : List Nat) : Bool := (meSpots nm pat).contains nm.length
end Mine
namespace Mine
section
variable {prog : Program} {w : World} {A : Around} {E : Value → Shared → Prop} {s : Shared} {h₀ : Heap} {L a b : Addr} {m : Str → Option Value} {news : List (Addr × Obj)} {vs ws : List Value} {Q : Value → Shared → Prop}
theorem add_L (F : Fr h₀ L s.heap m) (N : News h₀ L s.heap news) (ha : s.heap.IsList a vs.toArray) (hb : s.heap.IsList b ws.toArray)
    (h : ∀ D h', Fr h₀ L h' m → News h₀ L h' ((D, PySem.W.listOf (vs ++ ws).toArray 0) :: news) → (∀ p ∈ news, p.1 < D) → Q (.ref D) { s with heap := h' })
    (hz : vs.length + ws.length ≤ 100000) : wpAny (model prog w) A (binaryOp .Add (.ref a) (.ref b)) Q E s :=
  add_lists F N ha hb (fun h' F' N' => h _ h' F' N' fun p hp => Heap.lt_size (N p hp).1) (by rw [sizeLine_eq]; omega)
end
theorem minL_le : ∀ (l : List Nat) (a : Nat), minL a l ≤ a ∧ ∀ b ∈ l, minL a l ≤ b
  | [], a => ⟨Nat.le_refl _, fun b hb => by cases hb⟩
  | b :: r, a => by
    have h := minL_le r (min a b)
    refine ⟨Nat.le_trans h.1 (Nat.min_le_left _ _), fun c hc => ?_⟩
    rcases List.mem_cons.mp hc with rfl | hc
    · exact Nat.le_trans h.1 (Nat.min_le_right _ _)
    · exact h.2 c hc
theorem minL_mem : ∀ (l : List Nat) (a : Nat), minL a l = a ∨ minL a l ∈ l
  | [], a => .inl rfl
  | b :: r, a => by
    rcases minL_mem r (min a b) with h | h
    · rcases Nat.le_total a b with h1 | h1
      · left; show minL (min a b) r = a; rw [h]; exact Nat.min_eq_left h1
      · right; show minL (min a b) r ∈ b :: r; rw [h, Nat.min_eq_right h1]; exact .head _
    · right; exact .tail _ h
theorem min_eq {l : List Nat} {n : Nat} {M : Int} (h1 : M ∈ (l.map fun (k : Nat) => (k : Int)) ++ [(n : Int) + 1]) (h2 : ∀ a, a ∈ (l.map fun (k : Nat) => (k : Int)) ++ [(n : Int) + 1] → M ≤ a) : M = ((minL (n + 1) l : Nat) : Int) := by
  have h3 := minL_le l (n + 1)
  apply Int.le_antisymm
  · rcases minL_mem l (n + 1) with e | e
    · rw [e]; exact h2 _ (by simp)
    · exact h2 _ (List.mem_append_left _ (List.mem_map_of_mem e))
  · rcases List.mem_append.mp h1 with e | e
    · obtain ⟨k, hk, rfl⟩ := List.mem_map.mp e
      have := h3.2 k hk
      omega
    · rw [List.mem_singleton.mp e]
      have := h3.1
      omega
theorem CodesAre.append {cs ds : List Nat} {vs ws : List Value} (h : CodesAre cs vs) (h2 : CodesAre ds ws) : CodesAre (cs ++ ds) (vs ++ ws) := by
  induction h with
  | nil => exact h2
  | cons _ ih => exact .cons ih
theorem ints_snoc {cs : List Nat} {vs : List Value} {n : Int} {t : Tok} (h : CodesAre cs vs) : IntsAre (vs ++ [.int n t]) ((cs.map fun (k : Nat) => (k : Int)) ++ [n]) := by
  induction h with
  | nil => exact .cons _ _ .nil
  | cons _ ih => exact .cons _ _ ih
def meOk (nm : List Nat) (c k : Nat) : Bool := decide (k < nm.length) && (c == 7 || nm[k]? == some c)
theorem me8 {nm spots : List Nat} {c : Nat} (h : c = 8) : meStep nm spots c = (List.range (nm.length + 1 - minL (nm.length + 1) spots)).map (minL (nm.length + 1) spots + ·) := by
  unfold meStep; rw [if_pos h]
theorem me9 {nm spots : List Nat} {c : Nat} (h : ¬ c = 8) : meStep nm spots c = (spots.filter (meOk nm c)).map (· + 1) := by
  unfold meStep; rw [if_neg h]; rfl
theorem me_length {nm spots : List Nat} {c : Nat} (h : spots.length ≤ nm.length + 1) : (meStep nm spots c).length ≤ nm.length + 1 := by
  unfold meStep
  split
  · simp
  · have := List.length_filter_le (fun k => decide (k < nm.length) && (c == 7 || nm[k]? == some c)) spots
    rw [List.length_map]; omega
theorem in7 {c d : Nat} : (([7, (c : Int)] : List Int).any fun x => x == (d : Int)) = (d == 7 || some c == some d) := by
  simp only [List.any_cons, List.any_nil, Bool.or_false]
  congr 1
  · by_cases h : d = 7
    · subst h; rfl
    · have e : ((7 : Int) == (d : Int)) = false := by simp; omega
      rw [e]; symm; simpa using h
  · by_cases h : c = d
    · subst h; simp
    · have e : ((c : Int) == (d : Int)) = false := by simp; omega
      rw [e]; symm; simpa using h
end Mine
namespace Mine
theorem any_contains (sp : List Nat) (n : Nat) : ((sp.map fun (k : Nat) => (k : Int)).any fun x => x == (n : Int)) = sp.contains n := by
  induction sp with
  | nil => rfl
  | cons a r ih =>
    rw [List.map_cons, List.any_cons, ih, List.contains_cons]
    congr 1
    by_cases h : a = n
    · subst h; simp
    · have e : ((a : Int) == (n : Int)) = false := by simp; omega
      rw [e]; symm; simpa using fun e => h e.symm
end Mine
namespace Mine
/-- the text between the stars: a fixed head, the lazy parts, and what stands behind the last star -/
def midText : List (List Nat) → List Nat
  | [] => []
  | m :: r => [40, 63, 62, 46, 42, 63] ++ m ++ [41] ++ midText r
def endText : Option (List Nat) → List Nat
  | none => []
  | some l => [46, 42] ++ l
def bodyText (pre : List Nat) (mids : List (List Nat)) (last : Option (List Nat)) : List Nat := pre ++ midText mids ++ endText last
def placeLoop (nm : List Nat) : Nat → List (List Nat) → Option Nat
  | spot, [] => some spot
  | spot, m :: r => match ((List.range (nm.length + 1 - spot)).map (spot + ·)).filter (fun k => fitsAt (atomsOf m) nm k) with
    | [] => none
    | p :: _ => placeLoop nm (p + (atomsOf m).length) r
def takes (pre : List Nat) (mids : List (List Nat)) (last : Option (List Nat)) (nm : List Nat) : Bool :=
  fitsAt (atomsOf pre) nm 0 && match placeLoop nm (atomsOf pre).length mids with
    | none => false
    | some spot => match last with
      | none => spot == nm.length
      | some e => decide (spot + (atomsOf e).length ≤ nm.length) && fitsAt (atomsOf e) nm (nm.length - (atomsOf e).length)
end Mine
open Builtin Builtin.Str
set_option maxRecDepth 100000
namespace Mine
section
variable {prog : Program} {w : World} {A : Around} {E : Value → Shared → Prop} {s : Shared} {h₀ : Heap} {L a b : Addr} {m : Str → Option Value} {news : List (Addr × Obj)} {Q : Value → Shared → Prop} {t u : Tok}
/-- what text.split(sep) makes, onto the ledger -/
theorem split_S {x y : Str} {us : List (List Nat)} (F : Fr h₀ L s.heap m) (N : News h₀ L s.heap news) (hy : (y.length == 0) = false) (hsz : x.length ≤ 100000) (hs : Txt.split x y = us.map fun u => ({ cps := u.toArray } : Str))
    (h : ∀ D vs h' tk, Fr h₀ L h' m → News h₀ L h' ((D, PySem.W.listOf (List.toArray vs) 0) :: news) → (∀ p ∈ news, p.1 < D) → TextsAre us vs → Q (.ref D) { s with heap := h', toks := tk }) :
    wpAny (model prog w) A (call (.builtin "str.split") [.str x t, .str y u]) Q E s := by
  have texts : ∀ (us : List (List Nat)) (l : List (Str × Tok)), l.map (·.1) = us.map (fun u => ({ cps := u.toArray } : Str)) → TextsAre us (strValues l) := by
    intro us
    induction us with
    | nil => intro l e; cases l with | nil => exact .nil | cons => simp at e
    | cons u us ih => intro l e; cases l with | nil => simp at e | cons p l => obtain ⟨y9, t9⟩ := p; simp at e; obtain ⟨rfl, e⟩ := e; exact .cons (ih l (by simpa using e))
  have fin : ∀ (l : List (Str × Tok)) (tk : Nat), l.map (·.1) = Txt.split x y → Q (.ref s.heap.objs.size) { s with toks := tk, heap := s.heap.push (PySem.W.listOf (strValues l).toArray 0) } := fun l tk e => by
    refine h _ (strValues l) _ tk (F.keeps fun b o e => Heap.get?_push_of_some _ e) (fun p hp => ?_) (fun p hp => Heap.lt_size (N p hp).1) (texts us l (e.trans hs))
    rcases List.mem_cons.mp hp with rfl | hp
    · exact ⟨Heap.get?_push_size _ rfl, Ne.symm (Nat.ne_of_lt F.ns.lt), next_is_new F⟩
    · exact ⟨Heap.get?_push_of_some _ (N p hp).1, (N p hp).2⟩
  have hx : x.length ≤ sizeLine := by rw [sizeLine_eq]; omega
  cases h1 : (decide (x.length < y.length) || decide (strKind x < strKind y))
  · cases hf : (occurrences x y 0 x.length (x.length + 1)).isEmpty
    · have e1 : Txt.split x y = partsBetween x (occurrences x y 0 x.length (x.length + 1)) y.length := (if_neg (ne_true_of_eq_false h1)).trans (if_neg (ne_true_of_eq_false hf))
      have hle := split_le x y
      rw [e1] at hle
      refine call_meets PySem.F.slot_str_split (typeIs_str _ _ _) PySem.F.entry_str_split (PySem.F.args_str_split_2 _ _) (meets_str_split_sep x y t u h1 hy hf hx (by rw [sizeLine_eq]; omega)) ?_
      show wants Q E _ { s with toks := _, heap := s.heap.push { cls := .type "list", data := .seq (strsFrom s.toks (partsBetween x (occurrences x y 0 x.length (x.length + 1)) y.length)).toArray } }
      rw [strsFrom_eq]
      exact fin (numbered s.toks _) _ ((numbered_texts _ _).trans e1.symm)
    · exact call_meets PySem.F.slot_str_split (typeIs_str _ _ _) PySem.F.entry_str_split (PySem.F.args_str_split_2 _ _) (meets_str_split_not_found x y t u h1 hy hf)
        (fin [(x, t)] s.toks ((if_neg (ne_true_of_eq_false h1)).trans (if_pos hf)).symm)
  · exact call_meets PySem.F.slot_str_split (typeIs_str _ _ _) PySem.F.entry_str_split (PySem.F.args_str_split_2 _ _) (meets_str_split_cannot_occur x y t u h1)
      (fin [(x, t)] s.toks (if_pos h1).symm)
theorem slice_L {value slice : Expr} {vl vu : Value} {lo hi : Option Int} {vs zs : List Value} (F : Fr h₀ L s.heap m) (N : News h₀ L s.heap news) (hl : s.heap.IsList a vs.toArray) (pl : IsPart vl lo) (pu : IsPart vu hi) (e : kms_pick vs lo hi = zs)
    (h : ∀ D h', Fr h₀ L h' m → News h₀ L h' ((D, PySem.W.listOf zs.toArray 0) :: news) → (∀ p ∈ news, p.1 < D) → Q (.ref D) { s with heap := h' })
    (hs : subscripted slice false (.ref a) (.ref s.heap.objs.size) = operate [.ref s.heap.objs.size, .ref a] (getItem (.ref a) (.ref s.heap.objs.size))) (ht : ∀ r, letTemporaryGo value (.ref a) r = pure ()) (hz : vs.length ≤ 100000) :
    wpAny (model prog w) A (subscriptTail value slice (.ref a) (.ref s.heap.objs.size)) Q E { s with heap := s.heap.push { cls := .type "slice", data := .fields #[vl, vu, .none] } } :=
  kms_slice_lit F N hl pl pu (by simpa using e) h hs ht (by rw [sizeLine_eq, List.size_toArray]; omega)
end
theorem pick_from1 (v : Value) (r : List Value) : kms_pick (v :: r) (some 1) none = r := by
  simp [kms_pick, kms_lo, kms_hi]
theorem pick_butlast (r : List Value) (v : Value) : kms_pick (r ++ [v]) none (some (-1)) = r := by
  simp [kms_pick, kms_lo, kms_hi]
theorem str_len (l : List Nat) : (({ cps := l.toArray } : Str)).length = l.length := by simp [Str.length]
theorem seg_mid (a b c : List Nat) : Txt.slice ⟨(a ++ b ++ c).toArray⟩ (some (a.length : Int)) (some ((a.length + b.length : Nat) : Int)) = ⟨b.toArray⟩ := by
  have h := eq_of_beq (slice_closesL (x := ⟨(a ++ b ++ c).toArray⟩) (i := (a.length : Int)) (j := ((a.length + b.length : Nat) : Int)) (by omega) (by omega) (by rw [str_len]; simp; omega))
  rw [h]
  have e1 : (((a.length + b.length : Nat) : Int) - (a.length : Int)).toNat = b.length := by omega
  rw [e1, Int.toNat_natCast]
  simp
theorem seg_to (b c : List Nat) : Txt.slice ⟨(b ++ c).toArray⟩ none (some (b.length : Int)) = ⟨b.toArray⟩ := by
  have h := eq_of_beq (slice_closes_toL (x := ⟨(b ++ c).toArray⟩) (j := (b.length : Int)) (by omega) (by rw [str_len]; simp; omega))
  rw [h]
  have e1 : ((b.length : Int) - 0).toNat = b.length := by omega
  rw [e1]
  simp
theorem seg_from (a b : List Nat) : Txt.slice ⟨(a ++ b).toArray⟩ (some (a.length : Int)) none = ⟨b.toArray⟩ := by
  have h := eq_of_beq (slice_closes_fromL (x := ⟨(a ++ b).toArray⟩) (i := (a.length : Int)) (b := ((a ++ b).length : Int)) (by omega) (by rw [str_len]; simp; omega) (by rw [str_len]))
  rw [h]
  have e1 : (((a ++ b).length : Int) - (a.length : Int)).toNat = b.length := by simp; omega
  rw [e1, Int.toNat_natCast]
  simp
theorem sl1 (b : List Nat) : Txt.slice ⟨([40, 63, 115, 58] ++ b ++ [41, 92, 90]).toArray⟩ none (some 4) = Str.ofString "(?s:" := by
  rw [List.append_assoc]
  exact (seg_to [40, 63, 115, 58] (b ++ [41, 92, 90])).trans (by decide +kernel)
theorem slice_both_neg {x : Str} {i j : Int} (hj : j < 0) (hlo : 0 ≤ (x.length : Int) + j) : Txt.slice x (some i) (some j) = Txt.slice x (some i) (some ((x.length : Int) + j)) := by
  show StrLaws.sliceText x (some i) (some j) = StrLaws.sliceText x (some i) (some ((x.length : Int) + j))
  unfold StrLaws.sliceText
  have e : strSliceIndices (some i) (some j) 1 x.length = strSliceIndices (some i) (some ((x.length : Int) + j)) 1 x.length := by
    have a1 : ¬ ((x.length : Int) + j < 0) := by omega
    have e1 : j + (x.length : Int) = (x.length : Int) + j := by omega
    simp [strSliceIndices, hj, a1, e1]
  rw [e]
theorem sl2 (b : List Nat) : Txt.slice ⟨([40, 63, 115, 58] ++ b ++ [41, 92, 90]).toArray⟩ (some (-3)) none = Str.ofString ")\\Z" := by
  rw [slice_from_neg (by decide), str_len]
  have e : max 0 ((([40, 63, 115, 58] ++ b ++ [41, 92, 90]).length : Int) + -3) = (([40, 63, 115, 58] ++ b).length : Int) := by simp; omega
  rw [e]
  exact (seg_from ([40, 63, 115, 58] ++ b) [41, 92, 90]).trans (by decide +kernel)
theorem sl3 (b : List Nat) : Txt.slice ⟨([40, 63, 115, 58] ++ b ++ [41, 92, 90]).toArray⟩ (some 4) (some (-3)) = ⟨b.toArray⟩ := by
  rw [slice_both_neg (by decide) (by rw [str_len]; simp; omega), str_len]
  have e : ((([40, 63, 115, 58] ++ b ++ [41, 92, 90]).length : Int) + -3) = (([40, 63, 115, 58].length + b.length : Nat) : Int) := by simp; omega
  rw [e]
  exact seg_mid [40, 63, 115, 58] b [41, 92, 90]
theorem sl4 (b : List Nat) : Txt.slice ⟨(b ++ [41]).toArray⟩ (some (-1)) none = Str.ofString ")" := by
  rw [slice_from_neg (by decide), str_len]
  have e : max 0 (((b ++ [41]).length : Int) + -1) = (b.length : Int) := by simp; omega
  rw [e]
  exact (seg_from b [41]).trans (by decide +kernel)
theorem sl5 (b : List Nat) : Txt.slice ⟨(b ++ [41]).toArray⟩ none (some (-1)) = ⟨b.toArray⟩ := by
  rw [slice_to_neg (by decide), str_len]
  have e : max 0 (((b ++ [41]).length : Int) + -1) = (b.length : Int) := by simp; omega
  rw [e]
  exact seg_to b [41]
end Mine
open Builtin Builtin.Str
namespace Mine
end Mine
namespace Mine
open PySem.StrLaws
def joinY (y : List Nat) : List (List Nat) → List Nat
  | [] => []
  | [u] => u
  | u :: v :: r => u ++ y ++ joinY y (v :: r)
def cutsOf (w : Nat) : Nat → List (List Nat) → List Nat
  | _, [] => []
  | _, [_] => []
  | p, u :: v :: r => (p + u.length) :: cutsOf w (p + u.length + w) (v :: r)
def CutsAt (w : Nat) : Nat → Nat → List Nat → Prop
  | _, _, [] => True
  | free, p, c :: r => p ≤ c ∧ free ≤ c ∧ CutsAt w (c + w) (c + 1) r
theorem CutsAt.step {w free p : Nat} : ∀ {cuts : List Nat}, CutsAt w free p cuts → (∀ r, cuts ≠ p :: r) → CutsAt w free (p + 1) cuts
  | [], _, _ => trivial
  | c :: r, h, hne => ⟨by have := h.1; have : c ≠ p := fun e => hne r (by rw [e]); omega, h.2.1, h.2.2⟩
theorem CutsAt.ge {w : Nat} : ∀ {cuts : List Nat} {free p : Nat}, CutsAt w free p cuts → ∀ c ∈ cuts, p ≤ c
  | d :: r, free, p, h, c, hc => by
    rcases List.mem_cons.mp hc with rfl | hc
    · exact h.1
    · have := CutsAt.ge h.2.2 c hc
      have := h.1
      omega
theorem occ_run (s sub : Str) (hi limit : Nat) : ∀ (k p : Nat) (found : Array Nat) (free : Nat) (cuts : List Nat), CutsAt sub.length free p cuts → (∀ c ∈ cuts, c < p + k) →
    (∀ i, p ≤ i → i < p + k → ((i + sub.length ≤ hi ∧ subAt s sub i = true) ↔ i ∈ cuts)) → found.size + cuts.length ≤ limit →
    (forIn (List.range' p k) (found, free) (occBody s sub hi limit)).run.fst.toList = found.toList ++ cuts
  | 0, p, found, free, cuts, hC, hlt, hh, hl => by
    cases cuts with
    | nil => simp
    | cons c r => have := hlt c (.head _); have := hC.1; omega
  | k + 1, p, found, free, cuts, hC, hlt, hh, hl => by
    rw [List.range'_succ, List.forIn_cons]
    have hp := hh p (Nat.le_refl _) (by omega)
    by_cases hm : ∃ r, cuts = p :: r
    · obtain ⟨r, rfl⟩ := hm
      have h1 := hp.mpr (.head _)
      have hlim : found.size < limit := by simp at hl; omega
      have hb : occBody s sub hi limit p (found, free) = pure (ForInStep.yield (found.push p, p + sub.length)) := by
        unfold occBody
        rw [if_pos ⟨⟨⟨hlim, hC.2.1⟩, h1.1⟩, h1.2⟩]
      rw [hb]
      have := occ_run s sub hi limit k (p + 1) (found.push p) (p + sub.length) r hC.2.2 (fun c hc => by have := hlt c (.tail _ hc); omega) (fun i h2 h3 => by
        rw [hh i (by omega) (by omega)]
        constructor
        · intro h
          rcases List.mem_cons.mp h with rfl | h
          · omega
          · exact h
        · exact fun h => .tail _ h) (by simp at hl ⊢; omega)
      show (forIn (List.range' (p + 1) k) (found.push p, p + sub.length) (occBody s sub hi limit)).run.fst.toList = _
      rw [this]; simp
    · have hn : p ∉ cuts := by
        intro h
        cases cuts with
        | nil => cases h
        | cons c r =>
          rcases List.mem_cons.mp h with rfl | h
          · exact hm ⟨r, rfl⟩
          · have := CutsAt.ge hC.2.2 p h
            have := hC.1
            omega
      have hb : occBody s sub hi limit p (found, free) = pure (ForInStep.yield (found, free)) := by
        unfold occBody
        rw [if_neg fun h => hn (hp.mp ⟨h.1.2, h.2⟩)]
      rw [hb]
      exact occ_run s sub hi limit k (p + 1) found free cuts (hC.step fun r e => hm ⟨r, e⟩) (fun c hc => by have := hlt c hc; omega) (fun i h2 h3 => hh i (by omega) (by omega)) hl
theorem cutsOf_at (w : Nat) (hw : 1 ≤ w) : ∀ (us : List (List Nat)) (p free q : Nat), free ≤ p → q ≤ p → CutsAt w free q (cutsOf w p us)
  | [], _, _, _, _, _ => trivial
  | [_], _, _, _, _, _ => trivial
  | u :: v :: r, p, free, q, h1, h2 => ⟨by omega, by omega, cutsOf_at w hw (v :: r) _ _ _ (Nat.le_refl _) (by omega)⟩
theorem cutsOf_ge (w : Nat) : ∀ (us : List (List Nat)) (p : Nat), ∀ c ∈ cutsOf w p us, p ≤ c
  | [], _, c, h => by cases h
  | [_], _, c, h => by cases h
  | u :: v :: r, p, c, h => by
    rcases List.mem_cons.mp h with rfl | h
    · omega
    · have := cutsOf_ge w (v :: r) _ c h; omega
/-- the marker sign of the separator stands where the cuts are -/
theorem marks {y : List Nat} {z j : Nat} (hj : j < y.length) (hz : ∀ i, y[i]? = some z ↔ i = j) : ∀ (us : List (List Nat)) (p m : Nat), (∀ u ∈ us, z ∉ u) →
    ((joinY y us)[m]? = some z ↔ ∃ c ∈ cutsOf y.length p us, c + j = p + m)
  | [], p, m, _ => by simp [joinY, cutsOf]
  | [u], p, m, h => by
    constructor
    · intro e; exact absurd (List.mem_of_getElem? e) (h u (.head _))
    · rintro ⟨c, hc, _⟩; cases hc
  | u :: v :: r, p, m, h => by
    have ih := marks hj hz (v :: r) (p + u.length + y.length) (m - u.length - y.length) fun u hu => h u (.tail _ hu)
    have hge := cutsOf_ge y.length (v :: r) (p + u.length + y.length)
    show ((u ++ y ++ joinY y (v :: r))[m]? = some z) ↔ ∃ c ∈ (p + u.length) :: cutsOf y.length (p + u.length + y.length) (v :: r), c + j = p + m
    rcases Nat.lt_or_ge m u.length with h1 | h1
    · rw [List.append_assoc, List.getElem?_append_left h1]
      constructor
      · intro e; exact absurd (List.mem_of_getElem? e) (h u (.head _))
      · rintro ⟨c, hc, e⟩
        rcases List.mem_cons.mp hc with rfl | hc
        · omega
        · have := hge c hc; omega
    · rcases Nat.lt_or_ge m (u.length + y.length) with h2 | h2
      · rw [List.append_assoc, List.getElem?_append_right h1, List.getElem?_append_left (by omega), hz]
        constructor
        · intro e; exact ⟨_, .head _, by omega⟩
        · rintro ⟨c, hc, e⟩
          rcases List.mem_cons.mp hc with rfl | hc
          · omega
          · have := hge c hc; omega
      · rw [List.getElem?_append_right (by rw [List.length_append]; omega), List.length_append, ← Nat.sub_sub, ih]
        constructor
        · rintro ⟨c, hc, e⟩; exact ⟨c, .tail _ hc, by omega⟩
        · rintro ⟨c, hc, e⟩
          rcases List.mem_cons.mp hc with rfl | hc
          · omega
          · exact ⟨c, hc, by omega⟩
theorem cut_hits {y : List Nat} : ∀ (us : List (List Nat)) (p : Nat), ∀ c ∈ cutsOf y.length p us, p ≤ c ∧ ((joinY y us).drop (c - p)).take y.length = y ∧ c - p + y.length ≤ (joinY y us).length
  | [], _, c, h => by cases h
  | [_], _, c, h => by cases h
  | u :: v :: r, p, c, h => by
    rcases List.mem_cons.mp h with rfl | h
    · refine ⟨by omega, ?_, ?_⟩
      · show ((u ++ y ++ joinY y (v :: r)).drop (p + u.length - p)).take y.length = y
        rw [Nat.add_sub_cancel_left, List.append_assoc, List.drop_left, List.take_left]
      · show p + u.length - p + y.length ≤ (u ++ y ++ joinY y (v :: r)).length
        simp only [List.length_append]; omega
    · have h1 := cut_hits (v :: r) _ c h
      have e : c - p = (u ++ y).length + (c - (p + u.length + y.length)) := by rw [List.length_append]; omega
      refine ⟨by omega, ?_, ?_⟩
      · show ((u ++ y ++ joinY y (v :: r)).drop (c - p)).take y.length = y
        rw [e, ← List.drop_drop, List.drop_left]
        exact h1.2.1
      · show c - p + y.length ≤ (u ++ y ++ joinY y (v :: r)).length
        have := h1.2.2
        simp only [List.length_append] at this ⊢; omega
theorem parts_of {x y : List Nat} : ∀ (us : List (List Nat)) (a : Nat), us ≠ [] → x.drop a = joinY y us → partsFrom ⟨x.toArray⟩ y.length a (cutsOf y.length a us) = us.map fun u => ({ cps := u.toArray } : Str)
  | [], _, h, _ => absurd rfl h
  | [u], a, _, e => by
    show [strSub ⟨x.toArray⟩ a (({ cps := x.toArray } : Str)).length] = [_]
    refine congrArg (· :: []) (str_ext ?_)
    rw [strSub_toList, str_len]
    show (x.drop a).take (x.length - a) = u
    rw [e]
    have hl : (x.drop a).length = u.length := by rw [e]; rfl
    rw [List.length_drop] at hl
    rw [hl]
    exact List.take_length
  | u :: v :: r, a, _, e => by
    have e' : x.drop a = u ++ y ++ joinY y (v :: r) := e
    show strSub ⟨x.toArray⟩ a (a + u.length) :: partsFrom ⟨x.toArray⟩ y.length (a + u.length + y.length) (cutsOf y.length (a + u.length + y.length) (v :: r)) = _
    rw [parts_of (v :: r) (a + u.length + y.length) (by simp) (by rw [Nat.add_assoc, ← List.drop_drop, e', ← List.length_append, List.drop_left]), List.map_cons]
    refine congrArg (· :: _) (str_ext ?_)
    rw [strSub_toList]
    show (x.drop a).take (a + u.length - a) = u
    rw [e', Nat.add_sub_cancel_left, List.append_assoc, List.take_left]
end Mine
namespace Mine
open PySem.StrLaws
theorem CutsAt.count {w N : Nat} : ∀ {cuts : List Nat} {free p : Nat}, CutsAt w free p cuts → (∀ c ∈ cuts, c < N) → p ≤ N → cuts.length ≤ N - p
  | [], _, _, _, _, _ => Nat.zero_le _
  | c :: r, free, p, h, hN, hp => by
    have h1 := hN c (.head _)
    have h2 := h.1
    have := CutsAt.count h.2.2 (fun d hd => hN d (.tail _ hd)) (by omega)
    simp only [List.length_cons]; omega
theorem split_us {y : List Nat} {z j : Nat} (hj : j < y.length) (hz : ∀ i, y[i]? = some z ↔ i = j) {us : List (List Nat)} (hne : us ≠ []) (hu : ∀ u ∈ us, z ∉ u) (hk : PySem.Builtin.Str.strKind ⟨y.toArray⟩ = 1) :
    Txt.split ⟨(joinY y us).toArray⟩ ⟨y.toArray⟩ = us.map fun u => ({ cps := u.toArray } : Str) := by
  have hw : 1 ≤ y.length := by omega
  have hlx := str_len (joinY y us)
  have hly := str_len y
  have hC := cutsOf_at y.length hw us 0 0 0 (Nat.le_refl _) (Nat.le_refl _)
  have hch := cut_hits (y := y) us 0
  have hlt : ∀ c ∈ cutsOf y.length 0 us, c < (joinY y us).length + 1 := fun c hc => by have := (hch c hc).2.2; omega
  have hocc : occurrences ⟨(joinY y us).toArray⟩ ⟨y.toArray⟩ 0 (({ cps := (joinY y us).toArray } : Str)).length ((({ cps := (joinY y us).toArray } : Str)).length + 1) = cutsOf y.length 0 us := by
    rw [occ_eq]
    have := occ_run ⟨(joinY y us).toArray⟩ ⟨y.toArray⟩ (({ cps := (joinY y us).toArray } : Str)).length ((({ cps := (joinY y us).toArray } : Str)).length + 1) ((({ cps := (joinY y us).toArray } : Str)).length + 1 - 0) 0 #[] 0 (cutsOf y.length 0 us) (by rw [hly]; exact hC) (fun c hc => by have := hlt c hc; rw [hlx]; omega) (fun i h2 h3 => by
      rw [hly, hlx, subAt_eq]
      show (i + y.length ≤ (joinY y us).length ∧ ((((joinY y us).drop i).take (({ cps := y.toArray } : Str)).length == y) = true)) ↔ i ∈ cutsOf y.length 0 us
      rw [hly]
      constructor
      · rintro ⟨h4, h5⟩
        have h6 := eq_of_beq h5
        have h7 : (joinY y us)[i + j]? = some z := by
          have h8 : (((joinY y us).drop i).take y.length)[j]? = some z := by rw [h6]; exact (hz j).mpr rfl
          rw [List.getElem?_take_of_lt hj, List.getElem?_drop] at h8
          exact h8
        obtain ⟨c, hc, e⟩ := (marks hj hz us 0 (i + j) hu).mp h7
        have : c = i := by omega
        rw [← this]; exact hc
      · intro hc
        have h4 := hch i hc
        rw [Nat.sub_zero] at h4
        exact ⟨h4.2.2, by rw [h4.2.1]; exact beq_self_eq_true y⟩) (by
      have := hC.count hlt (Nat.zero_le _)
      rw [hlx]
      simpa using this)
    rw [this]; rfl
  have hparts := parts_of (x := joinY y us) (y := y) us 0 hne rfl
  unfold Txt.split
  rw [hocc]
  have one : cutsOf y.length 0 us = [] → us.map (fun u => ({ cps := u.toArray } : Str)) = [⟨(joinY y us).toArray⟩] := fun e => by
    match us, hne, e with
    | [u], _, _ => rfl
    | _ :: _ :: _, _, e => cases e
  split
  · next h =>
    refine (one ?_).symm
    have hk2 : ¬ PySem.Builtin.Str.strKind ⟨(joinY y us).toArray⟩ < PySem.Builtin.Str.strKind ⟨y.toArray⟩ := by
      rw [hk]; unfold PySem.Builtin.Str.strKind; split <;> (try split) <;> decide
    rw [Bool.or_eq_true, decide_eq_true_iff, decide_eq_true_iff, hlx, hly] at h
    rcases h with h | h
    · cases hq : cutsOf y.length 0 us with
      | nil => rfl
      | cons c r =>
        have := (hch c (by rw [hq]; exact .head _)).2.2
        omega
    · exact absurd h hk2
  · split
    · next h => exact (one (by simpa using h)).symm
    · rw [partsBetween_eq, hly]
      exact hparts
end Mine
namespace Mine
/-- signs that neither open a group nor repeat -/
def Plain (u : List Nat) : Prop := ∀ c ∈ u, c < 128 ∧ c ≠ 40 ∧ c ≠ 42
def lastL : Option (List Nat) → List (List Nat)
  | none => []
  | some l => [l]
def appLast (t : List Nat) : List (List Nat) → List (List Nat)
  | [] => []
  | [u] => [u ++ t]
  | u :: v :: r => u :: appLast t (v :: r)
theorem appLast_snoc (t ql : List Nat) : ∀ (qi : List (List Nat)), appLast t (qi ++ [ql]) = qi ++ [ql ++ t]
  | [] => rfl
  | [a] => rfl
  | a :: b :: r => by
    show a :: appLast t ((b :: r) ++ [ql]) = _
    rw [appLast_snoc t ql (b :: r)]; rfl
theorem join_body (t : List Nat) : ∀ (mids : List (List Nat)) (pre : List Nat), joinY [40, 63, 62, 46, 42, 63] (appLast t (pre :: mids.map (· ++ [41]))) = pre ++ midText mids ++ t
  | [], pre => by simp [appLast, joinY, midText]
  | m :: r, pre => by
    show joinY [40, 63, 62, 46, 42, 63] (pre :: appLast t ((m ++ [41]) :: r.map (· ++ [41]))) = _
    have ih := join_body t r (m ++ [41])
    have hc : ∃ v s, appLast t ((m ++ [41]) :: r.map (· ++ [41])) = v :: s := by cases r <;> exact ⟨_, _, rfl⟩
    obtain ⟨v, s, e⟩ := hc
    rw [e] at ih ⊢
    show pre ++ [40, 63, 62, 46, 42, 63] ++ joinY [40, 63, 62, 46, 42, 63] (v :: s) = _
    rw [ih]
    simp [midText]
theorem endText_no40 {last : Option (List Nat)} (h3 : ∀ l, last = some l → Plain l) : 40 ∉ endText last := by
  cases last with
  | none => simp [endText]
  | some l =>
    intro h
    rcases List.mem_append.mp h with h | h
    · simp at h
    · exact ((h3 l rfl) 40 h).2.1 rfl
theorem split_lazy {pre : List Nat} {mids : List (List Nat)} {last : Option (List Nat)} {qi : List (List Nat)} {ql : List Nat} (hq : pre :: mids.map (· ++ [41]) = qi ++ [ql]) (h1 : Plain pre) (h2 : ∀ m ∈ mids, Plain m) (h3 : ∀ l, last = some l → Plain l) :
    Txt.split ⟨(bodyText pre mids last).toArray⟩ (Str.ofString "(?>.*?") = (qi ++ [ql ++ endText last]).map fun u => ({ cps := u.toArray } : Str) := by
  have ey : Str.ofString "(?>.*?" = ⟨[40, 63, 62, 46, 42, 63].toArray⟩ := by decide +kernel
  have e1 : qi ++ [ql ++ endText last] = appLast (endText last) (pre :: mids.map (· ++ [41])) := by rw [hq, appLast_snoc]
  have e2 : bodyText pre mids last = joinY [40, 63, 62, 46, 42, 63] (qi ++ [ql ++ endText last]) := by rw [e1, join_body]; rfl
  have hm : ∀ u ∈ pre :: mids.map (· ++ [41]), 40 ∉ u := by
    intro u hu h
    rcases List.mem_cons.mp hu with rfl | hu
    · exact (h1 40 h).2.1 rfl
    · obtain ⟨m, hm, rfl⟩ := List.mem_map.mp hu
      rcases List.mem_append.mp h with h | h
      · exact (h2 m hm 40 h).2.1 rfl
      · simp at h
  rw [ey, e2]
  refine split_us (z := 40) (j := 0) (by decide) (fun i => ?_) (by simp) (fun u hu h => ?_) (by decide +kernel)
  · match i with
    | 0 => simp
    | 1 => simp
    | 2 => simp
    | 3 => simp
    | 4 => simp
    | 5 => simp
    | n + 6 => simp
  · rcases List.mem_append.mp hu with hu | hu
    · exact hm u (by rw [hq]; exact List.mem_append_left _ hu) h
    · rw [List.mem_singleton.mp hu] at h
      rcases List.mem_append.mp h with h | h
      · exact hm ql (by rw [hq]; simp) h
      · exact endText_no40 h3 h
theorem split_star {ql : List Nat} {last : Option (List Nat)} (h1 : ∀ c ∈ ql, c ≠ 42) (h3 : ∀ l, last = some l → Plain l) :
    Txt.split ⟨(ql ++ endText last).toArray⟩ (Str.ofString ".*") = (ql :: lastL last).map fun u => ({ cps := u.toArray } : Str) := by
  have ey : Str.ofString ".*" = ⟨[46, 42].toArray⟩ := by decide +kernel
  have e2 : ql ++ endText last = joinY [46, 42] (ql :: lastL last) := by cases last <;> simp [endText, lastL, joinY]
  rw [ey, e2]
  refine split_us (z := 42) (j := 1) (by decide) (fun i => ?_) (by simp) (fun u hu h => ?_) (by decide +kernel)
  · match i with
    | 0 => simp
    | 1 => simp
    | n + 2 => simp
  · rcases List.mem_cons.mp hu with rfl | hu
    · exact h1 42 h rfl
    · cases last with
      | none => cases hu
      | some l =>
        rw [List.mem_singleton.mp hu] at h
        exact ((h3 l rfl) 42 h).2.2 rfl
theorem TextsAre.split_last : ∀ {us : List (List Nat)} {u : List Nat} {vs : List Value}, TextsAre (us ++ [u]) vs → ∃ vi t, vs = vi ++ [.str ⟨u.toArray⟩ t] ∧ TextsAre us vi
  | [], u, _, .cons h => by cases h; exact ⟨[], _, rfl, .nil⟩
  | x :: us, u, _, .cons h => by
    obtain ⟨vi, t, rfl, hi⟩ := TextsAre.split_last h
    exact ⟨_ :: vi, t, rfl, .cons hi⟩
theorem TextsAre.at {us : List (List Nat)} {vs : List Value} (h : TextsAre us vs) : ∀ (i : Nat) (v : Value), vs[i]? = some v → ∃ u t, us[i]? = some u ∧ v = .str ⟨u.toArray⟩ t := by
  induction h with
  | nil => intro i v h; simp at h
  | cons _ ih =>
    intro i v h
    cases i with
    | zero => simp at h; subst h; exact ⟨_, _, rfl, rfl⟩
    | succ i =>
      rw [List.getElem?_cons_succ] at h ⊢
      exact ih i v h
theorem snoc_of_cons {α : Type} : ∀ (a : α) (r : List α), ∃ i l, a :: r = i ++ [l]
  | a, [] => ⟨[], a, rfl⟩
  | a, b :: r => by
    obtain ⟨i, l, e⟩ := snoc_of_cons b r
    exact ⟨a :: i, l, by rw [e]; rfl⟩
end Mine
namespace Mine
theorem q_facts {pre : List Nat} {mids : List (List Nat)} {qi : List (List Nat)} {ql : List Nat} (hq : pre :: mids.map (· ++ [41]) = qi ++ [ql]) (h1 : Plain pre) (h2 : ∀ m ∈ mids, Plain m) : qi.length = mids.length ∧ ∀ c ∈ ql, c ≠ 42 := by
  constructor
  · have := congrArg List.length hq
    simp at this
    exact this.symm
  · have hm : ql ∈ pre :: mids.map (· ++ [41]) := by rw [hq]; simp
    intro c hc
    rcases List.mem_cons.mp hm with rfl | hm
    · exact (h1 c hc).2.2
    · obtain ⟨m, hm2, rfl⟩ := List.mem_map.mp hm
      rcases List.mem_append.mp hc with hc | hc
      · exact (h2 m hm2 c hc).2.2
      · simp at hc; omega
theorem lastL_length (last : Option (List Nat)) : (lastL last).length ≤ 1 := by cases last <;> simp [lastL]
end Mine
namespace Mine
theorem mid_length : ∀ {mids : List (List Nat)} {m : List Nat}, m ∈ mids → m.length ≤ (midText mids).length
  | a :: r, m, h => by
    rcases List.mem_cons.mp h with rfl | h
    · simp only [midText, List.length_append]; omega
    · have := mid_length h
      simp only [midText, List.length_append]; omega
theorem takes_no {pre : List Nat} {mids : List (List Nat)} {last : Option (List Nat)} {nm : List Nat} (h : fitsAt (atomsOf pre) nm 0 = false) : takes pre mids last nm = false := by
  unfold takes; rw [h]; rfl
theorem fits_le {ps : List (Option Nat)} {nm : List Nat} {p : Nat} (h : fitsAt ps nm p = true) : p + ps.length ≤ nm.length := by
  unfold fitsAt at h
  rw [Bool.and_eq_true, decide_eq_true_iff] at h
  exact h.1
end Mine
namespace Mine
section
variable {prog : Program} {w : World} {A : Around} {E : Value → Shared → Prop} {s : Shared} {a : Addr} {vs : List Value} {Q : Value → Shared → Prop} {u : Tok}
theorem item_1 {value slice : Expr} {v : Value} (hl : s.heap.IsList a vs.toArray) (hx : (vs.drop 1).head? = some v) (h : Q v s)
    (hs : subscripted slice false (.ref a) (.int 1 u) = operate [.ref a, .int 1 u] (getItem (.ref a) (.int 1 u)) := by with_unfolding_all rfl) :
    wpAny (model prog w) A (subscriptTail value slice (.ref a) (.int 1 u)) Q E s :=
  item_L hl (by decide) (by decide) (by cases vs with | nil => cases hx | cons b r => cases r with | nil => cases hx | cons => simpa using hx) h hs
theorem len_Le {n : Nat} (hl : s.heap.IsList a vs.toArray) (hn : vs.length = n) (hfit : (n : Int) < 9223372036854775808) (h : Q (.int n (s.toks + 1)) { s with toks := s.toks + 1 + 1 }) : wpAny (model prog w) A (call (.builtin "len") [.ref a]) Q E s := by
  subst hn
  exact len_L hl hfit h
end
def placesOf (nm m : List Nat) (spot n : Nat) : List Nat := ((List.range n).map (spot + ·)).filter fun k => fitsAt (atomsOf m) nm k
theorem place_step {nm m : List Nat} {spot : Nat} {r : List (List Nat)} : placeLoop nm spot (m :: r) = match placesOf nm m spot (nm.length + 1 - spot) with | [] => none | p :: _ => placeLoop nm (p + (atomsOf m).length) r := rfl
theorem places_snoc {nm m : List Nat} {spot i : Nat} : placesOf nm m spot (i + 1) = placesOf nm m spot i ++ (if fitsAt (atomsOf m) nm (spot + i) = true then [spot + i] else []) := by
  unfold placesOf
  rw [List.range_succ, List.map_append, List.filter_append]
  congr 1
  cases h : fitsAt (atomsOf m) nm (spot + i) <;> simp [h]
theorem takes_loop {pre : List Nat} {mids : List (List Nat)} {last : Option (List Nat)} {nm : List Nat} (h0 : fitsAt (atomsOf pre) nm 0 = true) (h : placeLoop nm (atomsOf pre).length mids = none) : takes pre mids last nm = false := by
  unfold takes; rw [h0, h]; rfl
theorem takes_some {pre : List Nat} {mids : List (List Nat)} {e : List Nat} {nm : List Nat} {spot : Nat} (h0 : fitsAt (atomsOf pre) nm 0 = true) (h : placeLoop nm (atomsOf pre).length mids = some spot) :
    takes pre mids (some e) nm = (decide (spot + (atomsOf e).length ≤ nm.length) && fitsAt (atomsOf e) nm (nm.length - (atomsOf e).length)) := by
  unfold takes; rw [h0, h]; rfl
theorem takes_none {pre : List Nat} {mids : List (List Nat)} {nm : List Nat} {spot : Nat} (h0 : fitsAt (atomsOf pre) nm 0 = true) (h : placeLoop nm (atomsOf pre).length mids = some spot) :
    takes pre mids none nm = (spot == nm.length) := by
  unfold takes; rw [h0, h]; rfl
theorem spot_lt {n sp i : Nat} (h : i < n + 1 - sp) (hs : sp ≤ n) (hn : n < 400) : sp + i < 2000 := by omega
end Mine
namespace Mine
/-- the signs of the law's alphabet: aAbB .\t?* -/
def signs9 : List Nat := [97, 65, 98, 66, 32, 46, 9, 63, 42]
def sgn (c : Nat) : Nat := signs9.getD c 0
def atomOf (c : Nat) : Option Nat := if c = 7 then none else some (sgn c)
/-- the fixed text of a stretch without a star -/
def segText (q : List Nat) : List Nat := (q.map fun c => if c = 7 then [46] else esc (sgn c)).flatten
theorem atoms_fold (c : Nat) (hc : c < 8) (out : List (Option Nat)) : (if c = 7 then [46] else esc (sgn c)).foldl atStep (out, true) = (out ++ [atomOf c], true) := by
  have h : c = 0 ∨ c = 1 ∨ c = 2 ∨ c = 3 ∨ c = 4 ∨ c = 5 ∨ c = 6 ∨ c = 7 := by omega
  rcases h with rfl | rfl | rfl | rfl | rfl | rfl | rfl | rfl <;> rfl
theorem atoms_seg : ∀ (q : List Nat) (out : List (Option Nat)), (∀ c ∈ q, c < 8) → (segText q).foldl atStep (out, true) = (out ++ q.map atomOf, true)
  | [], out, _ => by simp [segText]
  | c :: q, out, h => by
    have ih := atoms_seg q (out ++ [atomOf c]) fun d hd => h d (.tail _ hd)
    show (((if c = 7 then [46] else esc (sgn c)) ++ segText q)).foldl atStep (out, true) = _
    rw [List.foldl_append, atoms_fold c (h c (.head _)), ih]
    simp
theorem atomsOf_seg {q : List Nat} (h : ∀ c ∈ q, c < 8) : atomsOf (segText q) = q.map atomOf := by
  unfold atomsOf
  rw [atoms_seg q [] h]
  rfl
end Mine
namespace Mine
/-- does a stretch of codes fit the name's codes at a spot? -/
def fitsC (nm : List Nat) : List Nat → Nat → Bool
  | [], k => decide (k ≤ nm.length)
  | c :: q, k => meOk nm c k && fitsC nm q (k + 1)
theorem seg_spots (nm : List Nat) : ∀ (q S : List Nat), (∀ c ∈ q, c ≠ 8) → (∀ k ∈ S, k ≤ nm.length) → q.foldl (meStep nm) S = (S.filter (fitsC nm q)).map (· + q.length)
  | [], S, _, hS => by
    have e : S.filter (fitsC nm []) = S := List.filter_eq_self.mpr fun k hk => by simp [fitsC, hS k hk]
    rw [e]; simp
  | c :: q, S, hq, hS => by
    have h8 : ¬ c = 8 := hq c (.head _)
    rw [List.foldl_cons, me9 h8]
    rw [seg_spots nm q _ (fun d hd => hq d (.tail _ hd)) (fun k hk => by
      obtain ⟨j, hj, rfl⟩ := List.mem_map.mp hk
      have := (List.mem_filter.mp hj).2
      unfold meOk at this
      rw [Bool.and_eq_true, decide_eq_true_iff] at this
      have := this.1
      omega)]
    rw [List.filter_map, List.filter_filter, List.map_map]
    have e1 : (fun k => (fitsC nm q ∘ fun x => x + 1) k && meOk nm c k) = fitsC nm (c :: q) := by
      funext k
      show (fitsC nm q (k + 1) && meOk nm c k) = (meOk nm c k && fitsC nm q (k + 1))
      exact Bool.and_comm _ _
    rw [e1]
    apply List.map_congr_left
    intro k _
    show k + 1 + q.length = k + (q.length + 1)
    omega
end Mine
namespace Mine
theorem sgn_inj {a b : Nat} (ha : a < 9) (hb : b < 9) (h : sgn a = sgn b) : a = b := by
  have key : ∀ a : Fin 9, ∀ b : Fin 9, sgn a.val = sgn b.val → a = b := by decide
  exact congrArg Fin.val (key ⟨a, ha⟩ ⟨b, hb⟩ h)
theorem fitsC_iff (nm : List Nat) : ∀ (q : List Nat) (k : Nat), fitsC nm q k = true ↔ k + q.length ≤ nm.length ∧ ∀ i c, q[i]? = some c → c = 7 ∨ nm[k + i]? = some c
  | [], k => by simp [fitsC]
  | c :: q, k => by
    have ih := fitsC_iff nm q (k + 1)
    show (meOk nm c k && fitsC nm q (k + 1)) = true ↔ _
    rw [Bool.and_eq_true, ih]
    unfold meOk
    simp only [Bool.and_eq_true, decide_eq_true_iff, Bool.or_eq_true, beq_iff_eq, List.length_cons]
    constructor
    · rintro ⟨⟨h1, h2⟩, h3, h4⟩
      refine ⟨by omega, fun i d hd => ?_⟩
      cases i with
      | zero => simp at hd; subst hd; exact h2
      | succ i =>
        have := h4 i d (by simpa using hd)
        rw [show k + 1 + i = k + (i + 1) by omega] at this
        exact this
    · rintro ⟨h1, h2⟩
      refine ⟨⟨by omega, h2 0 c rfl⟩, by omega, fun i d hd => ?_⟩
      have := h2 (i + 1) d (by simpa using hd)
      rw [show k + 1 + i = k + (i + 1) by omega]
      exact this
end Mine
namespace Mine
theorem fitsAt_iff (ps : List (Option Nat)) (nm : List Nat) (p : Nat) : fitsAt ps nm p = true ↔ p + ps.length ≤ nm.length ∧ ∀ i c, ps[i]? = some (some c) → nm[p + i]? = some c := by
  unfold fitsAt
  rw [Bool.and_eq_true, decide_eq_true_iff, List.all_eq_true]
  constructor
  · rintro ⟨h1, h2⟩
    refine ⟨h1, fun i c hc => ?_⟩
    have hi : i < ps.length := by
      rcases Nat.lt_or_ge i ps.length with h | h
      · exact h
      · rw [List.getElem?_eq_none h] at hc; cases hc
    have := h2 i (List.mem_range.mpr hi)
    rw [hc] at this
    exact eq_of_beq this
  · rintro ⟨h1, h2⟩
    refine ⟨h1, fun i _ => ?_⟩
    split
    · next c hc => rw [h2 i c hc]; exact beq_self_eq_true _
    · rfl
theorem fits_codes {q nm : List Nat} (hq : ∀ c ∈ q, c < 8) (hn : ∀ c ∈ nm, c < 7) (k : Nat) : fitsAt (q.map atomOf) (nm.map sgn) k = fitsC nm q k := by
  rw [Bool.eq_iff_iff, fitsAt_iff, fitsC_iff, List.length_map, List.length_map]
  constructor
  · rintro ⟨h1, h2⟩
    refine ⟨h1, fun i c hc => ?_⟩
    by_cases h7 : c = 7
    · exact .inl h7
    · right
      have := h2 i (sgn c) (by rw [List.getElem?_map, hc]; simp [atomOf, h7])
      rw [List.getElem?_map] at this
      cases hd : nm[k + i]? with
      | none => rw [hd] at this; cases this
      | some d =>
        rw [hd] at this
        have e : sgn d = sgn c := by simpa using this
        have hd7 := hn d (List.mem_of_getElem? hd)
        have hc8 := hq c (List.mem_of_getElem? hc)
        rw [sgn_inj (by omega) (by omega) e]
  · rintro ⟨h1, h2⟩
    refine ⟨h1, fun i a ha => ?_⟩
    rw [List.getElem?_map] at ha
    cases hc : q[i]? with
    | none => rw [hc] at ha; cases ha
    | some c =>
      rw [hc] at ha
      have e : atomOf c = some a := by simpa using ha
      unfold atomOf at e
      by_cases h7 : c = 7
      · rw [if_pos h7] at e; cases e
      · rw [if_neg h7] at e
        have e' : sgn c = a := by simpa using e
        rcases h2 i c hc with h | h
        · exact absurd h h7
        · rw [List.getElem?_map, h, ← e']; rfl
end Mine
namespace Mine
/-- all spots from a place to the name's end -/
def fromTo (nm : List Nat) (a : Nat) : List Nat := (List.range (nm.length + 1 - a)).map (a + ·)
theorem star_spots (nm S : List Nat) : meStep nm S 8 = fromTo nm (minL (nm.length + 1) S) := me8 rfl
theorem mem_fromTo {nm : List Nat} {a k : Nat} : k ∈ fromTo nm a ↔ a ≤ k ∧ k ≤ nm.length := by
  unfold fromTo
  rw [List.mem_map]
  constructor
  · rintro ⟨i, hi, rfl⟩
    have := List.mem_range.mp hi
    omega
  · rintro ⟨h1, h2⟩
    exact ⟨k - a, List.mem_range.mpr (by omega), by omega⟩
theorem minL_char {S : List Nat} {N a : Nat} (h1 : a ∈ S ∨ a = N) (h2 : ∀ b ∈ S, a ≤ b) (h3 : a ≤ N) : minL N S = a := by
  have h := minL_le S N
  rcases minL_mem S N with e | e
  · rcases h1 with h1 | h1
    · have := h.2 a h1; omega
    · omega
  · have := h2 _ e
    rcases h1 with h1 | h1
    · have := h.2 a h1; omega
    · have := h.1; omega
theorem min_fromTo {nm : List Nat} {a : Nat} (h : a ≤ nm.length + 1) : minL (nm.length + 1) (fromTo nm a) = a := by
  refine minL_char ?_ (fun b hb => (mem_fromTo.mp hb).1) h
  by_cases e : a = nm.length + 1
  · exact .inr e
  · exact .inl (mem_fromTo.mpr ⟨Nat.le_refl _, by omega⟩)
/-- a second star does nothing -/
theorem star_star (nm S : List Nat) : meStep nm (meStep nm S 8) 8 = meStep nm S 8 := by
  rw [star_spots, star_spots, min_fromTo (minL_le S _).1]
end Mine
namespace Mine
theorem fromTo_sorted (nm : List Nat) (a : Nat) : (fromTo nm a).Pairwise (· < ·) := by
  unfold fromTo
  rw [List.pairwise_map]
  exact List.pairwise_lt_range.imp fun h => by omega
theorem min_seg {nm q : List Nat} {a p : Nat} {r : List Nat} (h : (fromTo nm a).filter (fitsC nm q) = p :: r) :
    minL (nm.length + 1) (((fromTo nm a).filter (fitsC nm q)).map (· + q.length)) = p + q.length := by
  have hs : (p :: r).Pairwise (· < ·) := by rw [← h]; exact (fromTo_sorted nm a).filter _
  have hp : fitsC nm q p = true := (List.mem_filter.mp (by rw [h]; exact .head _ : p ∈ (fromTo nm a).filter (fitsC nm q))).2
  have hle := ((fitsC_iff nm q p).mp hp).1
  rw [h]
  refine minL_char (.inl (List.mem_map_of_mem (.head _))) (fun b hb => ?_) (by omega)
  obtain ⟨k, hk, rfl⟩ := List.mem_map.mp hb
  rcases List.mem_cons.mp hk with rfl | hk
  · exact Nat.le_refl _
  · have := (List.pairwise_cons.mp hs).1 k hk
    omega
end Mine
namespace Mine
/-- the parts of a text, with a sign whether a star stands right ahead -/
def trRec : Bool → List Nat → List (Option (List Nat))
  | _, [] => []
  | st, c :: r => if c = 42 then (if st then trRec true r else none :: trRec true r) else some (if c = 63 then [46] else esc c) :: trRec false r
theorem trParts_rec : ∀ (l : List Nat) (ps : List (Option (List Nat))) (st : Bool), (ps.getLast? = some none ↔ st = true) → l.foldl trStep ps = ps ++ trRec st l
  | [], ps, st, _ => by simp [trRec]
  | c :: l, ps, st, h => by
    rw [List.foldl_cons]
    by_cases hc : c = 42
    · subst hc
      cases st with
      | true =>
        have e : trStep ps 42 = ps := by unfold trStep; rw [if_pos rfl, if_pos (h.mpr rfl)]
        rw [e, trParts_rec l ps true h]
        simp [trRec]
      | false =>
        have hn : ¬ ps.getLast? = some none := fun hh => by have := h.mp hh; cases this
        have e : trStep ps 42 = ps ++ [none] := by unfold trStep; rw [if_pos rfl, if_neg hn]
        rw [e, trParts_rec l (ps ++ [none]) true (by simp)]
        simp [trRec]
    · have e : trStep ps c = ps ++ [some (if c = 63 then [46] else esc c)] := by
        unfold trStep; rw [if_neg hc]
        by_cases h6 : c = 63
        · rw [if_pos h6, if_pos h6]
        · rw [if_neg h6, if_neg h6]
      rw [e, trParts_rec l _ false (by simp)]
      simp [trRec, hc]
theorem trParts_eq (l : List Nat) : trParts l = trRec false l := by
  unfold trParts
  rw [trParts_rec l [] false (by simp)]
  rfl
end Mine
namespace Mine
/-- the stretches behind a star: those ahead of a further star, and the last one -/
def segG : List Nat → List Nat → List (List Nat) × List Nat
  | acc, [] => ([], acc)
  | acc, c :: r => if c = 8 then (if acc = [] then segG [] r else (acc :: (segG [] r).1, (segG [] r).2)) else segG (acc ++ [c]) r
theorem segText_snoc (acc : List Nat) (c : Nat) : segText (acc ++ [c]) = segText acc ++ (if c = 7 then [46] else esc (sgn c)) := by
  unfold segText
  rw [List.map_append, List.flatten_append]
  simp
theorem sgn_star {c : Nat} (hc : c < 9) : sgn c = 42 ↔ c = 8 := by
  constructor
  · intro h; exact sgn_inj hc (by decide) (h.trans (by decide))
  · rintro rfl; decide
theorem sgn_quest {c : Nat} (hc : c < 9) : sgn c = 63 ↔ c = 7 := by
  constructor
  · intro h; exact sgn_inj hc (by decide) (h.trans (by decide))
  · rintro rfl; decide
theorem part_text {c : Nat} (hc : c < 9) : (if sgn c = 63 then [46] else esc (sgn c)) = if c = 7 then [46] else esc (sgn c) := by
  by_cases h : c = 7
  · rw [if_pos h, if_pos ((sgn_quest hc).mpr h)]
  · rw [if_neg h, if_neg fun h' => h ((sgn_quest hc).mp h')]
theorem joinG_seg : ∀ (r acc : List Nat), (∀ c ∈ r, c < 9) → joinG (segText acc) (trRec (decide (acc = [])) (r.map sgn)) = midText ((segG acc r).1.map segText) ++ endText (some (segText (segG acc r).2))
  | [], acc, _ => by
    simp only [List.map_nil, trRec, joinG, segG, midText, endText, List.nil_append]
  | c :: r, acc, h => by
    have hc := h c (.head _)
    have hr : ∀ d ∈ r, d < 9 := fun d hd => h d (.tail _ hd)
    have ih := joinG_seg r [] hr
    rw [decide_eq_true rfl] at ih
    rw [List.map_cons]
    by_cases h8 : c = 8
    · by_cases ha : acc = []
      · subst ha
        rw [decide_eq_true rfl]
        simp only [trRec, (sgn_star hc).mpr h8, if_true, segG, if_pos h8]
        exact ih
      · rw [decide_eq_false ha]
        simp only [trRec, (sgn_star hc).mpr h8, if_true, segG, if_pos h8, if_neg ha, List.map_cons, midText]
        have e : segText [] = [] := rfl
        rw [e] at ih
        simp only [Bool.false_eq_true, if_false, joinG]
        rw [ih]
        simp only [List.append_assoc]
    · have hs : ¬ sgn c = 42 := fun h' => h8 ((sgn_star hc).mp h')
      have ih2 := joinG_seg r (acc ++ [c]) hr
      rw [decide_eq_false (by simp), segText_snoc] at ih2
      simp only [trRec, if_neg hs, joinG, segG, if_neg h8]
      rw [part_text hc]
      exact ih2
theorem joinF_seg : ∀ (pre r : List Nat), (∀ c ∈ pre, c < 8) → (∀ c ∈ r, c < 9) → joinF (trRec false ((pre ++ 8 :: r).map sgn)) = bodyText (segText pre) ((segG [] r).1.map segText) (some (segText (segG [] r).2))
  | [], r, _, hr => by
    have ih := joinG_seg r [] hr
    rw [decide_eq_true rfl] at ih
    have e : sgn 8 = 42 := by decide
    simp only [List.nil_append, List.map_cons, trRec, e, if_true, Bool.false_eq_true, if_false, joinF, bodyText]
    have e2 : segText [] = [] := rfl
    rw [e2] at ih ⊢
    rw [ih, List.nil_append]
  | c :: pre, r, hp, hr => by
    have hc := hp c (.head _)
    have ih := joinF_seg pre r (fun d hd => hp d (.tail _ hd)) hr
    have hs : ¬ sgn c = 42 := fun h' => by have := (sgn_star (by omega)).mp h'; omega
    simp only [List.cons_append, List.map_cons, trRec, if_neg hs, joinF]
    rw [List.map_append, List.map_cons] at ih
    rw [part_text (by omega), List.map_append, List.map_cons, ih]
    simp only [bodyText]
    have e3 : segText (c :: pre) = (if c = 7 then [46] else esc (sgn c)) ++ segText pre := by unfold segText; simp
    rw [e3]
    simp only [List.append_assoc]
theorem trText_seg {pre r : List Nat} (hp : ∀ c ∈ pre, c < 8) (hr : ∀ c ∈ r, c < 9) : trText ((pre ++ 8 :: r).map sgn) = [40, 63, 115, 58] ++ bodyText (segText pre) ((segG [] r).1.map segText) (some (segText (segG [] r).2)) ++ [41, 92, 90] := by
  unfold trText
  rw [trParts_eq, joinF_seg pre r hp hr]
theorem segG_small : ∀ (r acc : List Nat), (∀ c ∈ r, c < 9) → (∀ c ∈ acc, c < 8) → (∀ m ∈ (segG acc r).1, ∀ c ∈ m, c < 8) ∧ ∀ c ∈ (segG acc r).2, c < 8
  | [], acc, _, ha => ⟨fun m hm => by simp [segG] at hm, by simpa [segG] using ha⟩
  | c :: r, acc, h, ha => by
    have hr : ∀ d ∈ r, d < 9 := fun d hd => h d (.tail _ hd)
    have ih := segG_small r [] hr (fun d hd => by cases hd)
    by_cases h8 : c = 8
    · by_cases hac : acc = []
      · simp only [segG, if_pos h8, if_pos hac]; exact ih
      · simp only [segG, if_pos h8, if_neg hac]
        refine ⟨fun m hm => ?_, ih.2⟩
        rcases List.mem_cons.mp hm with rfl | hm
        · exact ha
        · exact ih.1 m hm
    · simp only [segG, if_neg h8]
      refine segG_small r (acc ++ [c]) hr fun d hd => ?_
      rcases List.mem_append.mp hd with hd | hd
      · exact ha d hd
      · rw [List.mem_singleton] at hd; subst hd
        have := h d (.head _); omega
theorem plain_seg {q : List Nat} (h : ∀ c ∈ q, c < 8) : Plain (segText q) := by
  have key : ∀ c : Fin 8, ∀ d ∈ (if c.val = 7 then [46] else esc (sgn c.val)), d < 128 ∧ d ≠ 40 ∧ d ≠ 42 := by decide
  intro d hd
  unfold segText at hd
  rw [List.mem_flatten] at hd
  obtain ⟨l, hl, hdl⟩ := hd
  obtain ⟨c, hc, rfl⟩ := List.mem_map.mp hl
  exact key ⟨c, h c hc⟩ d hdl
theorem empty_stays (nm : List Nat) : ∀ r : List Nat, r.foldl (meStep nm) [] = []
  | [] => rfl
  | c :: r => by
    rw [List.foldl_cons]
    have e : meStep nm [] c = [] := by
      by_cases h : c = 8
      · rw [me8 h]; simp [minL]
      · rw [me9 h]; rfl
    rw [e]; exact empty_stays nm r
def loopEnd (nm : List Nat) (a : Nat) (x : List (List Nat) × List Nat) : Bool :=
  match placeLoop nm a (x.1.map segText) with
  | none => false
  | some spot => decide (spot + (atomsOf (segText x.2)).length ≤ nm.length) && fitsAt (atomsOf (segText x.2)) nm (nm.length - (atomsOf (segText x.2)).length)
theorem fits_seg {q nm : List Nat} (hq : ∀ c ∈ q, c < 8) (hn : ∀ c ∈ nm, c < 7) (k : Nat) : fitsAt (atomsOf (segText q)) (nm.map sgn) k = fitsC nm q k := by
  rw [atomsOf_seg hq]; exact fits_codes hq hn k
theorem seg_len {q : List Nat} (hq : ∀ c ∈ q, c < 8) : (atomsOf (segText q)).length = q.length := by rw [atomsOf_seg hq, List.length_map]
theorem loop_means {nm : List Nat} (hn : ∀ c ∈ nm, c < 7) : ∀ (r acc : List Nat) (a : Nat), (∀ c ∈ r, c < 9) → (∀ c ∈ acc, c < 8) → a ≤ nm.length →
    (r.foldl (meStep nm) (acc.foldl (meStep nm) (fromTo nm a))).contains nm.length = loopEnd (nm.map sgn) a (segG acc r)
  | [], acc, a, _, ha, hal => by
    have hS : ∀ k ∈ fromTo nm a, k ≤ nm.length := fun k hk => (mem_fromTo.mp hk).2
    rw [List.foldl_nil, seg_spots nm acc (fromTo nm a) (fun c hc => by have := ha c hc; omega) hS]
    have e1 : loopEnd (nm.map sgn) a (segG acc []) = (decide (a + (atomsOf (segText acc)).length ≤ (nm.map sgn).length) && fitsAt (atomsOf (segText acc)) (nm.map sgn) ((nm.map sgn).length - (atomsOf (segText acc)).length)) := rfl
    rw [e1, Bool.eq_iff_iff, Bool.and_eq_true, decide_eq_true_iff, List.contains_iff_mem, List.mem_map, seg_len ha, fits_seg ha hn, List.length_map]
    constructor
    · rintro ⟨k, hk, he⟩
      obtain ⟨hk1, hk2⟩ := List.mem_filter.mp hk
      have hk3 := mem_fromTo.mp hk1
      have e : nm.length - acc.length = k := by omega
      rw [e]
      exact ⟨by omega, hk2⟩
    · rintro ⟨h1, h2⟩
      exact ⟨nm.length - acc.length, List.mem_filter.mpr ⟨mem_fromTo.mpr ⟨by omega, by omega⟩, h2⟩, by omega⟩
  | c :: r, acc, a, h, ha, hal => by
    have hr : ∀ d ∈ r, d < 9 := fun d hd => h d (.tail _ hd)
    have hS : ∀ k ∈ fromTo nm a, k ≤ nm.length := fun k hk => (mem_fromTo.mp hk).2
    by_cases h8 : c = 8
    · by_cases hac : acc = []
      · subst hac
        have ih := loop_means hn r [] a hr (fun d hd => by cases hd) hal
        simp only [segG, if_pos h8, if_true]
        rw [← ih, List.foldl_cons]
        simp only [List.foldl_nil]
        rw [h8, star_spots, min_fromTo (by omega)]
      · simp only [segG, if_pos h8, if_neg hac]
        rw [List.foldl_cons, seg_spots nm acc (fromTo nm a) (fun c hc => by have := ha c hc; omega) hS, h8, star_spots]
        simp only [loopEnd, List.map_cons, place_step]
        have hpl : placesOf (nm.map sgn) (segText acc) a ((nm.map sgn).length + 1 - a) = (fromTo nm a).filter (fitsC nm acc) := by
          unfold placesOf fromTo
          rw [List.length_map]
          refine List.filter_congr fun k _ => ?_
          exact fits_seg ha hn k
        rw [hpl]
        cases hf : (fromTo nm a).filter (fitsC nm acc) with
        | nil =>
          have e : fromTo nm (minL (nm.length + 1) (List.map (fun x => x + acc.length) [])) = [] := by simp [minL, fromTo]
          rw [e, empty_stays]
          rfl
        | cons p q =>
          have hp : p ∈ (fromTo nm a).filter (fitsC nm acc) := by rw [hf]; exact .head _
          have hp2 := (fitsC_iff nm acc p).mp (List.mem_filter.mp hp).2
          have ih := loop_means hn r [] (p + acc.length) hr (fun d hd => by cases hd) hp2.1
          have em := min_seg hf
          rw [hf] at em
          rw [em]
          simp only [List.foldl_nil] at ih
          rw [ih, seg_len ha]
          rfl
    · have ih := loop_means hn r (acc ++ [c]) a hr (fun d hd => by
        rcases List.mem_append.mp hd with hd | hd
        · exact ha d hd
        · rw [List.mem_singleton] at hd; subst hd
          have := h d (.head _); omega) hal
      simp only [segG, if_neg h8]
      rw [← ih, List.foldl_append]
      rfl
theorem takes_means {nm pre r : List Nat} (hn : ∀ c ∈ nm, c < 7) (hp : ∀ c ∈ pre, c < 8) (hr : ∀ c ∈ r, c < 9) :
    takes (segText pre) ((segG [] r).1.map segText) (some (segText (segG [] r).2)) (nm.map sgn) = means (pre ++ 8 :: r) nm := by
  unfold means meSpots
  rw [List.foldl_append, List.foldl_cons, seg_spots nm pre [0] (fun c hc => by have := hp c hc; omega) (fun k hk => by rw [List.mem_singleton] at hk; omega)]
  unfold takes
  rw [fits_seg hp hn, seg_len hp]
  cases hf : fitsC nm pre 0 with
  | false =>
    have e : List.filter (fitsC nm pre) [0] = [] := by simp [hf]
    rw [e]
    have e2 : meStep nm (List.map (fun x => x + pre.length) []) 8 = [] := by rw [star_spots]; simp [minL, fromTo]
    rw [e2, empty_stays]
    rfl
  | true =>
    have e : List.filter (fitsC nm pre) [0] = [0] := by simp [hf]
    have hpl := ((fitsC_iff nm pre 0).mp hf).1
    rw [e]
    have e2 : meStep nm (List.map (fun x => x + pre.length) [0]) 8 = fromTo nm pre.length := by
      rw [star_spots]
      congr 1
      simp [minL]
      omega
    rw [e2]
    have key := loop_means hn r [] pre.length hr (fun d hd => by cases hd) (by omega)
    simp only [List.foldl_nil] at key
    rw [key, Bool.true_and]
    rfl
end Mine
namespace Mine
def white1 (c : Nat) : Bool := (9 ≤ c && c ≤ 13) || (28 ≤ c && c ≤ 32)
theorem isSpace_ascii : ∀ c, c < 128 → Unicode.isSpace c = white1 c := by decide +kernel
theorem titleOf_ascii : ∀ c, c < 128 → Unicode.titleOf c = [up1 c] := by decide +kernel
def capL : List Nat → List Nat
  | [] => []
  | c :: r => up1 c :: r.map lo1
def joinL (sep : List Nat) : List (List Nat) → List Nat
  | [] => []
  | [x] => x
  | x :: y :: r => x ++ sep ++ joinL sep (y :: r)
def scanStep (st : List (List Nat) × List Nat) (c : Nat) : List (List Nat) × List Nat :=
  if white1 c then (if st.2 = [] then st else (st.1 ++ [st.2], [])) else (st.1, st.2 ++ [c])
def finL (st : List (List Nat) × List Nat) : List (List Nat) := if st.2 = [] then st.1 else st.1 ++ [st.2]
def wordsL (l : List Nat) : List (List Nat) := finL (l.foldl scanStep ([], []))
def strL (l : List Nat) : Str := ⟨l.toArray⟩
theorem strL_length (l : List Nat) : (strL l).length = l.length := by simp [strL, Str.length]
theorem scan_strL : ∀ (l : List Nat) (st : List (List Nat) × List Nat), (∀ c ∈ l, c < 128) →
    l.foldl KWd.step (st.1.map strL, strL st.2) = ((l.foldl scanStep st).1.map strL, strL (l.foldl scanStep st).2)
  | [], st, _ => rfl
  | c :: l, st, h => by
    rw [List.foldl_cons, List.foldl_cons, ← scan_strL l (scanStep st c) fun d hd => h d (.tail _ hd)]
    congr 1
    unfold KWd.step scanStep
    rw [isSpace_ascii c (h c (.head _))]
    dsimp only
    cases hw : white1 c with
    | true =>
      rw [if_pos rfl, if_pos rfl, strL_length]
      by_cases he : st.2 = []
      · rw [if_pos (by rw [he]; rfl), if_pos he]
      · rw [if_neg (by rw [List.length_eq_zero_iff]; exact he), if_neg he]
        simp [strL, Str.empty]
    | false =>
      rw [if_neg (by simp), if_neg (by simp)]
      dsimp only
      congr 1
      exact Str.ext' (by rw [Str.cps_append]; simp [strL])
theorem words_strL {l : List Nat} (h : ∀ c ∈ l, c < 128) : Txt.words (strL l) = (wordsL l).map strL := by
  rw [KWd.words_scan]
  unfold KWd.fin KWd.scan wordsL finL
  have e : (strL l).cps.toList = l := by simp [strL]
  have k := scan_strL l ([], []) h
  change List.foldl KWd.step ([], Str.empty) l = _ at k
  rw [e, k]
  dsimp only
  rw [strL_length]
  by_cases he : (l.foldl scanStep ([], [])).2 = []
  · rw [if_pos (by rw [he]; rfl), if_pos he]
  · rw [if_neg (by rw [List.length_eq_zero_iff]; exact he), if_neg he]; simp
theorem flatten_mapIdx_two : ∀ (l : List Nat) (f : Nat → Nat → List Nat), (∀ i c, l[i]? = some c → f i c = if i = 0 then [up1 c] else [lo1 c]) → (l.mapIdx f).flatten = capL l
  | [], _, _ => rfl
  | c :: r, f, h => by
    rw [List.mapIdx_cons, List.flatten_cons, h 0 c rfl, flatten_mapIdx_single lo1 r (fun i => f (i + 1)) fun i d hd => by rw [h (i + 1) d hd, if_neg (by omega)]]
    rfl
theorem capitalize_strL {l : List Nat} (h : ∀ c ∈ l, c < 128) : Txt.capitalize (strL l) = strL (capL l) := by
  unfold Txt.capitalize
  by_cases he : l = []
  · subst he; rfl
  · have h0 : ((strL l).length == 0) = false := by rw [strL_length, beq_eq_false_iff_ne]; exact fun h' => he (List.length_eq_zero_iff.mp h')
    rw [h0]
    simp only [Bool.false_eq_true, if_false]
    unfold Txt.capitalized strL
    congr 1
    unfold placed
    apply Array.toList_inj.mp
    rw [Array.toList_flatten, Array.toList_mapIdx, map_toList_mapIdx, flatten_mapIdx_two]
    · intro i c hc
      have hlt := h c (by simpa using List.mem_of_getElem? hc)
      by_cases hi : i = 0
      · rw [if_pos hi, if_pos (by simp [hi])]; exact titleOf_ascii c hlt
      · rw [if_neg hi, if_neg (by simp [hi])]
        have hc' : l.toArray[i]? = some c := by simpa using hc
        unfold Unicode.lowerAt
        rw [hc']
        have hne : (c == 0x3A3) = false := by rw [beq_eq_false_iff_ne]; omega
        simp only [hne, Bool.false_and, Bool.false_eq_true, if_false]
        exact lowerOf_ascii c hlt
theorem join_strL (sep : List Nat) : ∀ us : List (List Nat), Txt.join (strL sep) (us.map strL) = strL (joinL sep us) := by
  intro us
  have e : Txt.join (strL sep) (us.map strL) = Str.join (strL sep) (us.map strL) := by simpa using join_plain_closes (strL sep) (us.map strL)
  rw [e]
  clear e
  induction us with
  | nil => rfl
  | cons u r ih =>
    cases r with
    | nil => rfl
    | cons v r =>
      change strL u ++ strL sep ++ Str.join (strL sep) ((v :: r).map strL) = _
      rw [ih]
      exact Str.ext' (by rw [Str.cps_append, Str.cps_append]; simp [strL, joinL])
def capsStep (p : List Nat × Bool) (c : Nat) : List Nat × Bool :=
  if white1 c then (p.1, true) else (p.1 ++ (if p.2 = true ∧ p.1 ≠ [] then [32] else []) ++ [if p.2 then up1 c else lo1 c], false)
def caps (l : List Nat) : List Nat := (l.foldl capsStep ([], true)).1
theorem joinL_snoc (sep w : List Nat) : ∀ l : List (List Nat), joinL sep (l ++ [w]) = joinL sep l ++ (if l = [] then [] else sep) ++ w
  | [] => by simp [joinL]
  | [x] => by simp [joinL]
  | x :: y :: r => by
    have ih := joinL_snoc sep w (y :: r)
    simp only [List.cons_append] at ih ⊢
    simp only [joinL, ih, List.append_assoc]
    simp
theorem joinL_nil {sep : List Nat} : ∀ {l : List (List Nat)}, (∀ w ∈ l, w ≠ []) → (joinL sep l = [] ↔ l = [])
  | [], _ => by simp [joinL]
  | [x], h => by simp [joinL, h x (.head _)]
  | x :: y :: r, h => by simp [joinL, h x (.head _)]
theorem capL_snoc : ∀ {l : List Nat} (c : Nat), l ≠ [] → capL (l ++ [c]) = capL l ++ [lo1 c]
  | [], _, h => absurd rfl h
  | a :: r, c, _ => by simp [capL]
theorem capL_ne {l : List Nat} (h : l ≠ []) : capL l ≠ [] := by cases l with | nil => exact absurd rfl h | cons => simp [capL]
structure CapsInv (st : List (List Nat) × List Nat) (p : List Nat × Bool) : Prop where
  ne : ∀ w ∈ st.1, w ≠ []
  gap : p.2 = true ↔ st.2 = []
  out : p.1 = joinL [32] ((finL st).map capL)
theorem caps_step {st : List (List Nat) × List Nat} {p : List Nat × Bool} (h : CapsInv st p) (c : Nat) : CapsInv (scanStep st c) (capsStep p c) := by
  obtain ⟨ws, run⟩ := st
  obtain ⟨out, gap⟩ := p
  obtain ⟨h1, h2, h3⟩ := h
  dsimp only at h1 h2 h3
  unfold finL at h3
  dsimp only at h3
  unfold scanStep capsStep
  dsimp only
  cases hw : white1 c with
  | true =>
    rw [if_pos rfl, if_pos rfl]
    by_cases he : run = []
    · rw [if_pos he]
      rw [if_pos he] at h3
      exact ⟨h1, by simp [he], by unfold finL; dsimp only; rw [if_pos he]; exact h3⟩
    · rw [if_neg he]
      rw [if_neg he] at h3
      refine ⟨fun w hw => ?_, by simp, by unfold finL; dsimp only; rw [if_pos rfl]; exact h3⟩
      rcases List.mem_append.mp hw with hw | hw
      · exact h1 w hw
      · rw [List.mem_singleton] at hw; subst hw; exact he
  | false =>
    rw [if_neg (show ¬ (false = true) by simp), if_neg (show ¬ (false = true) by simp)]
    by_cases he : run = []
    · subst he
      have hg : gap = true := h2.mpr rfl
      subst hg
      rw [if_pos rfl] at h3
      refine ⟨h1, by simp, ?_⟩
      unfold finL
      dsimp only
      rw [if_neg (show ¬ ([] ++ [c] : List Nat) = [] by simp), List.map_append, List.map_singleton, joinL_snoc, ← h3]
      have hn : out = [] ↔ ws = [] := by
        rw [h3, joinL_nil]
        · simp
        · intro w hw
          obtain ⟨v, hv, rfl⟩ := List.mem_map.mp hw
          exact capL_ne (h1 v hv)
      by_cases ho : ws = []
      · have ho2 := hn.mpr ho
        subst ho; subst ho2
        simp [capL]
      · have ho2 : out ≠ [] := fun h => ho (hn.mp h)
        rw [if_pos ⟨rfl, ho2⟩, if_neg (show ¬ List.map capL ws = [] by simpa using ho)]
        simp [capL]
    · have hg : gap = false := by
        cases gap with
        | true => exact absurd (h2.mp rfl) he
        | false => rfl
      subst hg
      rw [if_neg he] at h3
      refine ⟨h1, by simp, ?_⟩
      unfold finL
      dsimp only
      rw [if_neg (show ¬ run ++ [c] = [] by simp), if_neg (show ¬ (false = true ∧ out ≠ []) by simp), List.map_append, List.map_singleton, joinL_snoc, h3, List.map_append, List.map_singleton, joinL_snoc, capL_snoc c he]
      simp
theorem caps_inv : ∀ (l : List Nat) (st : List (List Nat) × List Nat) (p : List Nat × Bool), CapsInv st p → CapsInv (l.foldl scanStep st) (l.foldl capsStep p)
  | [], _, _, h => h
  | c :: l, _, _, h => caps_inv l _ _ (caps_step h c)
theorem caps_words (l : List Nat) : joinL [32] ((wordsL l).map capL) = caps l :=
  (caps_inv l ([], []) ([], true) ⟨fun w hw => (by cases hw), by simp, rfl⟩).out.symm
theorem wordsL_small {l : List Nat} (h : ∀ c ∈ l, c < 128) : ∀ w ∈ wordsL l, ∀ c ∈ w, c < 128 := by
  have key : ∀ (l : List Nat) (st : List (List Nat) × List Nat), (∀ c ∈ l, c < 128) → ((∀ w ∈ st.1, ∀ c ∈ w, c < 128) ∧ ∀ c ∈ st.2, c < 128) →
      ((∀ w ∈ (l.foldl scanStep st).1, ∀ c ∈ w, c < 128) ∧ ∀ c ∈ (l.foldl scanStep st).2, c < 128) := by
    intro l
    induction l with
    | nil => intro st _ h; exact h
    | cons c l ih =>
      intro st hl h
      refine ih _ (fun d hd => hl d (.tail _ hd)) ?_
      unfold scanStep
      have hc := hl c (.head _)
      split
      · split
        · exact h
        · refine ⟨fun w hw => ?_, by simp⟩
          rcases List.mem_append.mp hw with hw | hw
          · exact h.1 w hw
          · rw [List.mem_singleton] at hw; subst hw; exact h.2
      · refine ⟨h.1, fun d hd => ?_⟩
        rcases List.mem_append.mp hd with hd | hd
        · exact h.2 d hd
        · rw [List.mem_singleton] at hd; subst hd; exact hc
  have k := key l ([], []) h ⟨fun w hw => (by cases hw), fun c hc => (by cases hc)⟩
  intro w hw
  unfold wordsL finL at hw
  split at hw
  · exact k.1 w hw
  · rcases List.mem_append.mp hw with hw | hw
    · exact k.1 w hw
    · rw [List.mem_singleton] at hw; subst hw; exact k.2
theorem capwords_strL {l : List Nat} (h : ∀ c ∈ l, c < 128) : Txt.join (Str.ofString " ") ((Txt.words (strL l)).map Txt.capitalize) = strL (caps l) := by
  have e : Str.ofString " " = strL [32] := by decide +kernel
  have e2 : ((wordsL l).map strL).map Txt.capitalize = ((wordsL l).map capL).map strL := by
    rw [List.map_map, List.map_map]
    exact List.map_congr_left fun w hw => capitalize_strL (wordsL_small h w hw)
  rw [e, words_strL h, e2, join_strL, caps_words]
end Mine
namespace Mine
theorem caps_codes : ∀ (cs : List Nat) (out : List Nat) (gap : Bool), (∀ c ∈ cs, c < 9) →
    (cs.map sgn).foldl capsStep (out.map sgn, gap) = (((cs.foldl capStep (out, gap)).1).map sgn, (cs.foldl capStep (out, gap)).2)
  | [], _, _, _ => rfl
  | c :: cs, out, gap, h => by
    have key1 : ∀ c : Fin 9, white1 (sgn c.val) = decide (c.val = 4 ∨ c.val = 6) := by decide
    have key2 : ∀ c : Fin 9, ¬ (c.val = 4 ∨ c.val = 6) → up1 (sgn c.val) = sgn (if c.val < 4 then c.val / 2 * 2 + 1 else c.val) ∧ lo1 (sgn c.val) = sgn (if c.val < 4 then c.val / 2 * 2 else c.val) := by decide
    have k1 := key1 ⟨c, h c (.head _)⟩
    have k2 := key2 ⟨c, h c (.head _)⟩
    dsimp only at k1 k2
    rw [List.map_cons, List.foldl_cons, List.foldl_cons]
    have hs : capsStep (out.map sgn, gap) (sgn c) = ((capStep (out, gap) c).1.map sgn, (capStep (out, gap) c).2) := by
      unfold capsStep capStep
      rw [k1]
      by_cases hc : c = 4 ∨ c = 6
      · rw [if_pos (decide_eq_true hc), if_pos hc]
      · obtain ⟨k3, k4⟩ := k2 hc
        rw [if_neg (by rw [decide_eq_false hc]; simp), if_neg hc]
        dsimp only
        rw [k3, k4]
        have e4 : sgn 4 = 32 := by decide
        cases gap with
        | true =>
          by_cases ho : out = []
          · subst ho
            by_cases h4 : c < 4 <;> simp [h4]
          · by_cases h4 : c < 4 <;> simp [h4, ho, e4]
        | false =>
          by_cases h4 : c < 4 <;> simp [h4]
    rw [hs]
    exact caps_codes cs _ _ fun d hd => h d (.tail _ hd)
theorem caps_capped {cs : List Nat} (h : ∀ c ∈ cs, c < 9) : caps (cs.map sgn) = (capped cs).map sgn := by
  unfold caps capped
  have k := caps_codes cs [] true h
  change List.foldl capsStep ([], true) _ = _ at k
  rw [k]
end Mine
namespace Mine
theorem signs_str : Str.ofString "aAbB .\t?*" = ⟨signs9.toArray⟩ := by decide +kernel
theorem signs_get {d : Nat} (h : d < 9) : signs9[d]? = some (sgn d) := by
  have key : ∀ d : Fin 9, signs9[d.val]? = some (sgn d.val) := by decide
  exact key ⟨d, h⟩
section
variable {prog : Program} {w : World} {A : Around} {E : Value → Shared → Prop} {s : Shared} {Q : Value → Shared → Prop} {t u : Tok}
theorem sub_signs {value slice : Expr} {d : Nat} (hd : d < 9) (h : Q (.str ⟨#[sgn d]⟩ s.toks) { s with toks := s.toks + 1 })
    (hs : subscripted slice false (.str ⟨signs9.toArray⟩ t) (.int (d : Int) u) = operate [.str ⟨signs9.toArray⟩ t, .int (d : Int) u] (getItem (.str ⟨signs9.toArray⟩ t) (.int (d : Int) u)) := by with_unfolding_all rfl) :
    wpAny (model prog w) A (subscriptTail value slice (.str (Str.ofString "aAbB .\t?*") t) (.int (d : Int) u)) Q E s := by
  rw [signs_str]
  exact sub_S (by omega) (by omega) (by simpa using signs_get hd) h hs
end
theorem flatten_single : ∀ cs : List Nat, (cs.map fun d => [sgn d]).flatten = cs.map sgn
  | [] => rfl
  | c :: cs => by simp [flatten_single cs]
def fittingOf (x : Nat) : List Nat :=
  if x % 9 < 4 then [x % 9 / 2 * 2 + (x % 9 + x / 9) % 2]
  else if x % 9 = 5 then [5]
  else if x % 9 < 7 then (if x / 9 % 2 = 1 then [10 - x % 9, x % 9] else [10 - x % 9])
  else if x % 9 = 7 then [x / 9 % 7]
  else if x / 9 % 2 = 1 then [x / 9 % 7, x / 9 / 7 % 7] else []
theorem codes1 {n : Nat} {i : Int} {t : Tok} (h : i = (n : Int)) : CodesAre [n] [.int i t] := by subst h; exact .cons .nil
theorem codes2 {n m : Nat} {i j : Int} {t u : Tok} (h : i = (n : Int)) (h2 : j = (m : Int)) : CodesAre [n, m] [.int i t, .int j u] := by subst h; subst h2; exact .cons (.cons .nil)
theorem fmodN (a b : Nat) : (a : Int).fmod (b : Int) = ((a % b : Nat) : Int) := by rw [Int.fmod_eq_emod_of_nonneg _ (Int.natCast_nonneg b)]; rfl
theorem fdivN (a b : Nat) : (a : Int).fdiv (b : Int) = ((a / b : Nat) : Int) := by rw [Int.fdiv_eq_ediv_of_nonneg _ (Int.natCast_nonneg b)]; rfl
end Mine
namespace Mine
theorem CodesAre.snocI {cs : List Nat} {vs : List Value} {n : Nat} {i : Int} {t : Tok} (h : CodesAre cs vs) (e : i = (n : Int)) : CodesAre (cs ++ [n]) (vs ++ [.int i t]) := by subst e; exact h.snoc
theorem codes5 {a b c d e : Tok} : CodesAre [11, 17, 4, 10, 52] [.int 11 a, .int 17 b, .int 4 c, .int 10 d, .int 52 e] := .cons (.cons (.cons (.cons (.cons .nil))))
theorem CodesAre.drop : ∀ {cs : List Nat} {vs : List Value} (_ : CodesAre cs vs) (k : Nat), CodesAre (cs.drop k) (vs.drop k)
  | _, _, h, 0 => h
  | _, _, .nil, k + 1 => by simpa using CodesAre.nil
  | _, _, .cons h, k + 1 => h.drop k
theorem CodesAre.take : ∀ {cs : List Nat} {vs : List Value} (_ : CodesAre cs vs) (k : Nat), CodesAre (cs.take k) (vs.take k)
  | _, _, _, 0 => .nil
  | _, _, .nil, k + 1 => by simpa using CodesAre.nil
  | _, _, .cons h, k + 1 => .cons (h.take k)
theorem pick_drop1 (vs : List Value) : kms_pick vs (some 1) none = vs.drop 1 := by
  cases vs with
  | nil => rfl
  | cons v r => exact pick_from1 v r
theorem pick_neg6 (vs : List Value) : kms_pick vs (some (-6)) none = vs.drop (vs.length - 6) := by
  show List.take _ (List.drop (vs.length - 6) vs) = _
  rw [List.take_of_length_le]
  simp [kms_hi, kms_lo]
theorem pick_less5 (vs : List Value) : kms_pick vs none (some (-5)) = vs.take (vs.length - 5) := by
  simp [kms_pick, kms_lo, kms_hi]
/-- a number of the script as the law draws it -/
def md (x : Int) : Nat := (x.fmod 1000000).toNat
theorem md_eq (x : Int) : x.fmod 1000000 = ((md x : Nat) : Int) := (Int.toNat_of_nonneg (Int.fmod_nonneg_of_pos x (by decide))).symm
theorem md_lt (x : Int) : md x < 1000000 := by
  have h := Int.fmod_lt_of_pos x (show (0 : Int) < 1000000 by decide)
  have := md_eq x
  omega
def fiveN : List Nat := [11, 17, 4, 10, 52]
def drawnN (ns : List Int) : List Nat := (ns.take 8).map md ++ fiveN
theorem drawn_small {ns : List Int} : ∀ x ∈ drawnN ns, x < 1000000 := by
  intro x hx
  unfold drawnN fiveN at hx
  rcases List.mem_append.mp hx with h | h
  · obtain ⟨y, _, rfl⟩ := List.mem_map.mp h
    exact md_lt y
  · simp at h; omega
theorem drawn_length (ns : List Int) : (drawnN ns).length ≤ 13 := by
  unfold drawnN fiveN
  simp; omega
def patN (ns : List Int) : List Nat := (drawnN ns).map (· % 9)
def fitN (ns : List Int) : List Nat := ((drawnN ns).map fittingOf).flatten
def thirdN (ns : List Int) : List Nat := ((drawnN ns).take ((drawnN ns).length - 5)).map (fun x => x / 9 % 7) ++ (fitN ns).drop ((fitN ns).length - 6)
theorem fitting_len (x : Nat) : (fittingOf x).length ≤ 2 := by
  unfold fittingOf
  (repeat' split) <;> simp
theorem fitting_small (x : Nat) : ∀ c ∈ fittingOf x, c < 7 := by
  unfold fittingOf
  intro c hc
  (repeat' split at hc) <;> simp at hc <;> omega
theorem flat_len : ∀ l : List Nat, ((l.map fittingOf).flatten).length ≤ 2 * l.length
  | [] => by simp
  | x :: l => by
    have := flat_len l
    have := fitting_len x
    simp only [List.map_cons, List.flatten_cons, List.length_append, List.length_cons]; omega
theorem fit_length (ns : List Int) : (fitN ns).length ≤ 26 := by
  have := flat_len (drawnN ns)
  have := drawn_length ns
  unfold fitN; omega
theorem fit_small {ns : List Int} : ∀ c ∈ fitN ns, c < 7 := by
  intro c hc
  unfold fitN at hc
  obtain ⟨l, hl, hcl⟩ := List.mem_flatten.mp hc
  obtain ⟨x, _, rfl⟩ := List.mem_map.mp hl
  exact fitting_small x c hcl
theorem third_length (ns : List Int) : (thirdN ns).length ≤ 14 := by
  have := drawn_length ns
  unfold thirdN
  simp only [List.length_append, List.length_map, List.length_take, List.length_drop]; omega
theorem third_small {ns : List Int} : ∀ c ∈ thirdN ns, c < 7 := by
  intro c hc
  unfold thirdN at hc
  rcases List.mem_append.mp hc with h | h
  · obtain ⟨x, _, rfl⟩ := List.mem_map.mp h
    omega
  · exact fit_small c (List.mem_of_mem_drop h)
theorem pat_small {ns : List Int} : ∀ c ∈ patN ns, c < 9 := by
  intro c hc
  obtain ⟨x, _, rfl⟩ := List.mem_map.mp hc
  omega
theorem pat_star {ns : List Int} : 8 ∈ patN ns := by
  unfold patN drawnN fiveN
  simp
theorem capped_keep {d : Nat} (hd : ¬ (d = 4 ∨ d = 6)) (h4 : ¬ d < 4) : ∀ (cs : List Nat) (p : List Nat × Bool), (d ∈ cs ∨ d ∈ p.1) → d ∈ (cs.foldl capStep p).1
  | [], p, h => by simpa using h
  | c :: cs, p, h => by
    refine capped_keep hd h4 cs _ ?_
    rcases h with h | h
    · rcases List.mem_cons.mp h with rfl | h
      · right; unfold capStep; rw [if_neg hd]; simp [h4]
      · exact .inl h
    · right; unfold capStep; split <;> simp [h]
theorem capped_star {cs : List Nat} (h : 8 ∈ cs) : 8 ∈ capped cs := capped_keep (by decide) (by decide) cs _ (.inl h)
theorem capped_bound {n : Nat} (hn : 5 ≤ n) : ∀ (cs : List Nat) (p : List Nat × Bool), (∀ c ∈ cs, c < n) → (∀ c ∈ p.1, c < n) → ∀ c ∈ (cs.foldl capStep p).1, c < n
  | [], p, _, h => by simpa using h
  | c :: cs, p, h1, h2 => by
    refine capped_bound hn cs _ (fun d hd => h1 d (.tail _ hd)) ?_
    have hc := h1 c (.head _)
    unfold capStep
    split
    · exact h2
    · intro d hd
      simp only [List.mem_append] at hd
      rcases hd with (hd | hd) | hd
      · exact h2 d hd
      · split at hd
        · rw [List.mem_singleton] at hd; omega
        · cases hd
      · rw [List.mem_singleton] at hd
        subst hd
        split
        · split <;> omega
        · exact hc
theorem capped_small {n : Nat} (hn : 5 ≤ n) {cs : List Nat} (h : ∀ c ∈ cs, c < n) : ∀ c ∈ capped cs, c < n := capped_bound hn cs _ h (fun c hc => by cases hc)
theorem capped_length (cs : List Nat) : (capped cs).length ≤ 2 * cs.length := by
  have := cap_length cs ([], true)
  unfold capped
  simpa using this
theorem sgn_ascii {c : Nat} (h : c < 9) : sgn c < 128 ∧ sgn c ≠ 91 := by
  have key : ∀ c : Fin 9, sgn c.val < 128 ∧ sgn c.val ≠ 91 := by decide
  exact key ⟨c, h⟩
theorem text_ascii {cs : List Nat} (h : ∀ c ∈ cs, c < 9) : ∀ c ∈ cs.map sgn, c < 128 ∧ c ≠ 91 := by
  intro c hc
  obtain ⟨x, hx, rfl⟩ := List.mem_map.mp hc
  exact sgn_ascii (h x hx)
theorem caps_text {cs : List Nat} (h : ∀ c ∈ cs, c < 9) : Txt.join (Str.ofString " ") ((Txt.words ⟨(cs.map sgn).toArray⟩).map Txt.capitalize) = ⟨((capped cs).map sgn).toArray⟩ := by
  have e := capwords_strL (l := cs.map sgn) fun c hc => (text_ascii h c hc).1
  rw [caps_capped h] at e
  exact e
end Mine
namespace Mine
open PyProof.V
def strD (u : List Nat) : PyData := .str ⟨u.toArray⟩
theorem kt_ok {u : List Nat} (h : ∀ c ∈ u, c < 128) : PyData.strOk ⟨u.toArray⟩ = true := by
  unfold PyData.strOk
  rw [Array.all_eq_true_iff_forall_mem]
  intro c hc
  have := h c (by simpa using hc)
  exact decide_eq_true (by omega)
theorem kt_lay : ∀ us : List (List Nat), (∀ u ∈ us, ∀ c ∈ u, c < 128) → PyData.canLayAll0 (us.map strD) = true
  | [], _ => rfl
  | u :: r, h => by simp [PyData.canLayAll0, PyData.canLay0, strD, kt_lay r fun v hv => h v (.tail _ hv), kt_ok (h u (.head _))]
theorem kt_depth : ∀ us : List (List Nat), PyData.depthAll (us.map strD) = 0
  | [] => rfl
  | _ :: r => by simp [PyData.depthAll, PyData.depth, strD, kt_depth r]
theorem kt_shaped {us : List (List Nat)} (h : ∀ u ∈ us, ∀ c ∈ u, c < 128) : SeqAt.shaped (.list (us.map strD)) = true := by
  simp [SeqAt.shaped, PyData.canLay0, PyData.depth, kt_lay us h, kt_depth]
theorem kt_sameAll : ∀ us : List (List Nat), PySem.Spec.sameAll (us.map strD) (us.map strD) = true
  | [] => by simp [PySem.Spec.sameAll]
  | a :: r => by
    simp only [List.map_cons, PySem.Spec.sameAll, kt_sameAll r, Bool.and_true]
    simp [strD, PySem.Spec.same]
theorem kt_carried : ∀ {us : List (List Nat)} {vs : List Value}, TextsAre us vs → CarriedAll vs (us.map strD)
  | _, _, .nil => .nil
  | _, _, .cons h => .cons (.str _ _) (kt_carried h)
section
variable {prog : Program} {w : World} {A : Around} {E : Value → Shared → Prop} {s : Shared} {a b : Addr} {xs ys : List Value} {us : List (List Nat)} {Q : Value → Shared → Prop}
theorem ne_texts (ha : s.heap.IsList a xs.toArray) (hb : s.heap.IsList b ys.toArray) (hi : TextsAre us xs) (hj : TextsAre us ys) (hA : ∀ u ∈ us, ∀ c ∈ u, c < 128) (hu : A.units + 64 < cLine) (h : Q (.bool false) s) :
    wpAny (model prog w) A (compareOp .NotEq (.ref a) (.ref b)) Q E s :=
  ne_dataH_same (reads_newData ha (kt_carried hi)) (reads_newData hb (kt_carried hj)) (kt_shaped hA) (kt_shaped hA) hu (SeqAt.noMix_of_shape (.list .str) rfl _ _ (list_map_has fun _ => rfl) (list_map_has fun _ => rfl)) (by
    have e : PySem.Spec.same (.list (us.map strD)) (.list (us.map strD)) = true := by simp only [PySem.Spec.same]; exact kt_sameAll us
    rw [e]; exact h)
theorem texts3 {a b c : List Nat} {t u v : Tok} : TextsAre [a, b, c] [.str ⟨a.toArray⟩ t, .str ⟨b.toArray⟩ u, .str ⟨c.toArray⟩ v] := .cons (.cons (.cons .nil))
end
end Mine
namespace Mine
/-! a comprehension of two clauses whose result is the inner name: [z for x in iter for z in iter2] -/
section
variable {elt : PySem.Expr} {g0 : Comprehension} {x z : Str} {px pz pe : Pos} {iter iter2 : PySem.Expr} {scope : Scope} {pos : Pos} {it acc : Value} {env : Env}
theorem turn_two0 : compTurn (.ListComp elt [⟨.Name x px, iter, [], 0⟩, ⟨.Name z pz, iter2, [], 0⟩] scope pos) 0 it acc env =
    (standAt iter.pos >>= fun _ => pyNext it >>= fun r => match r with
      | none => pure (.done .next)
      | some v => letOwnedTupleGo (.Name x px) it v >>= fun _ => assign (.Name x px) env v >>= fun _ =>
        (eval iter2 env >>= fun y => standAt iter2.pos >>= fun _ => foldedSetIterable iter2 env y >>= fun y =>
          holding [y] (pyIter y) >>= fun j => runOwn (.compStart (.ListComp elt [⟨.Name x px, iter, [], 0⟩, ⟨.Name z pz, iter2, [], 0⟩] scope pos) 1 j acc env) env >>= fun _ =>
          again (.compLoop (.ListComp elt [⟨.Name x px, iter, [], 0⟩, ⟨.Name z pz, iter2, [], 0⟩] scope pos) 0 it acc env))) := by rfl
theorem turn_two1 : compTurn (.ListComp elt [g0, ⟨.Name z pz, iter2, [], 0⟩] scope pos) 1 it acc env = (standAt iter2.pos >>= fun _ => pyNext it >>= fun r => match r with
      | none => pure (.done .next)
      | some v => letOwnedTupleGo (.Name z pz) it v >>= fun _ => assign (.Name z pz) env v >>= fun _ =>
        (eval elt env >>= fun y => call (.builtin "list.append") [acc, y] >>= fun _ => pure ()) >>= fun _ =>
          again (.compLoop (.ListComp elt [g0, ⟨.Name z pz, iter2, [], 0⟩] scope pos) 1 it acc env)) := by rfl
end
section
variable {prog : Program} {w : World} {A : Around} {R : Result → Shared → Prop} {s : Shared}
theorem start_two1 {elt : PySem.Expr} {g0 g1 : Comprehension} {scope : Scope} {pos : Pos} {it acc : Value} {env : Env} (ha : g1.is_async = 0)
    (h0 : codeAny (model prog w) A (.compLoop (.ListComp elt [g0, g1] scope pos) 1 it acc env) R s)
    (h : wpAny (model prog w) A (pyIter it) (fun it' s' => codeAny (model prog w) A (.compLoop (.ListComp elt [g0, g1] scope pos) 1 it' acc env) R s')
      (notedBy (model prog w) A env fun x s' => R (.error x) s') s) :
    codeAny (model prog w) A (.compStart (.ListComp elt [g0, g1] scope pos) 1 it acc env) R s := by
  obtain ⟨t1, i1, f1, a1⟩ := g1
  dsimp only at ha
  subst ha
  refine codeAny_of_tree ?_
  show wpAny _ _ ((compStart (.ListComp elt [g0, ⟨t1, i1, f1, 0⟩] scope pos) 1 it acc env).onRaise (fun x => do noteFrame x env; standAt theWindowsPlace)) _ _ s
  refine wpAny_notedAt ?_
  unfold compStart
  show wpAny _ _ (ask >>= _) _ _ s
  refine wpAny_bind (wpAny_askSetting (wpAny_ite ?_))
  split
  · first
      | exact wpAny_bind (wpAny_pure (wpAny_pure (And.intro rfl h0)))
      | exact wpAny_pure (And.intro rfl h0)
  · first
      | exact wpAny_bind (wpAny_rule (wpAny_bind (wpAny_standAt (wpAny_bind (wpAny_mono h (fun it' s' h' => wpAny_pure (And.intro rfl h')) fun _ _ x => x)))))
      | (refine wpAny_bind (wpAny_rule ?_); show wpAny _ _ (standAt i1.pos >>= _) _ _ s; exact wpAny_bind (wpAny_standAt (wpAny_bind (wpAny_mono h (fun it' s' h' => wpAny_pure (And.intro rfl h')) fun _ _ x => x))))
end
end Mine
namespace Mine
open LCg
section
variable {prog : Program} {w : World} {A : Around} {R : Result → Shared → Prop} {s : Shared}
theorem inner_loop {g0 : Comprehension} {z : Str} {pz pe : Pos} {iter2 : PySem.Expr} {scope scope2 : Scope} {cl : List (Str × Addr)} {env : Env} {pos : Pos} {I2 b D C : Addr} {zs : Array Value} {ys : List Value} {m₂ : Str → Option Value}
    (hh : A.handled = none) (hz : scope2.names.lookup z = some .local) (hkind : scope2.kind = .function) (hzd : (z == ("__debug__" : Str)) = false)
    (hns : s.heap.Ns C m₂) (hit : s.heap.IsListIter I2 b 0) (hl : s.heap.IsList b zs) (hD : s.heap.get? D = some (lst ys))
    (hIb : I2 ≠ b) (hIC : I2 ≠ C) (hID : I2 ≠ D) (hbC : b ≠ C) (hbD : b ≠ D) (hCD : C ≠ D) (hsz : ys.length + zs.size ≤ sizeLine)
    (hQ : ∀ h' tk m', (∀ a o, a ∉ [I2, C, D] → s.heap.get? a = some o → h'.get? a = some o) → h'.Ns C m' → h'.get? D = some (lst (ys ++ zs.toList)) → R (.ok .next) { s with heap := h', toks := tk }) :
    codeAny (model prog w) A (.compLoop (.ListComp (.Name z pe) [g0, ⟨.Name z pz, iter2, [], 0⟩] scope pos) 1 (.ref I2) (.ref D) (compEnvC scope2 cl C env)) R s := by
  have W := Walks.list (prog := prog) (w := w) (A := A) hh I2 b (Ne.symm hIb) zs
  refine codeAny_loop rfl (fun k s' => ∃ h' tk i m', s' = { s with heap := h', toks := tk } ∧ i ≤ zs.size ∧ k = zs.size + 1 - i ∧ (∀ a o, a ∉ [I2, C, D] → s.heap.get? a = some o → h'.get? a = some o) ∧
      (h'.IsListIter I2 b i ∧ h'.IsList b zs) ∧ h'.Ns C m' ∧ h'.get? D = some (lst (ys ++ zs.toList.take i))) ?_ (zs.size + 1)
    ⟨s.heap, s.toks, 0, m₂, rfl, Nat.zero_le _, rfl, fun _ _ _ e => e, ⟨hit, hl⟩, hns, by simpa using hD⟩
  rintro k s' ⟨h', tk, i, m', rfl, hi, rfl, hfr, hst, hn', hD'⟩
  show wpAny _ _ ((compTurn (.ListComp (.Name z pe) [g0, ⟨.Name z pz, iter2, [], 0⟩] scope pos) 1 (.ref I2) (.ref D) (compEnvC scope2 cl C env)).onRaise (fun x => do noteFrame x (compEnvC scope2 cl C env); theTreesLotGoes x)) _ _ _
  refine wpAny_noted ?_
  rw [turn_two1]
  refine wpAny_bind (wpAny_standAt (wpAny_bind ?_))
  by_cases hlt : i < zs.size
  · refine W.item i _ _ _ hlt hst fun v h₂ tk₂ hPv hst₂ hk₂ => ?_
    refine wpAny_bind (wpAny_of_eq rfl ?_)
    refine wpAny_bind (wpAny_assign_Name (wpAny_storeName_local (lookup_relabel_local hz) (hn'.at' fun o e => hk₂ _ o (by simpa using Ne.symm hIC) e) (fun h₃ hn₃ hs₃ => ?_) (by simp [compEnvC, relabel, hkind])))
    refine wpAny_bind (wpAny_bind ?_)
    refine ldVarK hn₃ (show (if z = z then some v else m' z) = some v by rw [if_pos rfl]) ?_ (by simp [compEnvC, relabel, hkind]) (lookup_relabel_local hz) hzd
    have hD₃ : h₃.get? D = some (lst (ys ++ zs.toList.take i)) := hs₃.extBut _ _ (Ne.symm hCD) (hk₂ _ _ (by simpa using Ne.symm hID) hD')
    refine wpAny_bind (append_at hD₃ (fun h₄ hs₄ hD₄ => ?_) (by
      rw [List.size_toArray, List.length_append, List.length_take]
      have : min i zs.toList.length ≤ zs.size := by rw [Array.length_toList]; exact Nat.min_le_right _ _
      exact Nat.le_trans (Nat.add_le_add_left this _) hsz))
    refine wpAny_pure (wpAny_pure ⟨rfl, zs.size + 1 - (i + 1), by omega, h₄, _, i + 1, _, rfl, hlt, rfl, fun a o ha e => ?_, ?_, hn₃.sameBut hs₄ hCD, ?_⟩)
    · simp only [List.mem_cons, List.not_mem_nil, or_false, not_or] at ha
      exact hs₄.extBut _ _ ha.2.2 (hs₃.extBut _ _ ha.2.1 (hk₂ _ _ (by simpa using ha.1) (hfr _ _ (by simp [ha]) e)))
    · refine W.frame _ _ _ (W.frame _ _ _ hst₂ fun a ha o e => hs₃.extBut a o ?_ e) fun a ha o e => hs₄.extBut a o ?_ e
      · simp only [List.mem_cons, List.not_mem_nil, or_false] at ha
        rcases ha with rfl | rfl
        · exact hIC
        · exact hbC
      · simp only [List.mem_cons, List.not_mem_nil, or_false] at ha
        rcases ha with rfl | rfl
        · exact hID
        · exact hbD
    · rw [hD₄]
      have hv : zs.toList[i]? = some v := by simpa using hPv
      rw [List.take_add_one, hv, ← List.append_assoc]
      exact congrArg some (lst_snoc _ v)
  · obtain rfl : i = zs.size := Nat.le_antisymm hi (Nat.not_lt.mp hlt)
    refine W.done _ _ _ hst fun h₂ tk₂ hk₂ => wpAny_pure ?_
    refine hQ h₂ tk₂ m' (fun a o ha e => ?_) (hn'.at' fun o e => hk₂ _ o (by simpa using Ne.symm hIC) e) ?_
    · simp only [List.mem_cons, List.not_mem_nil, or_false, not_or] at ha
      exact hk₂ _ _ (by simpa using ha.1) (hfr _ _ (by simp [ha]) e)
    · have := hk₂ _ _ (by simpa using Ne.symm hID) hD'
      rw [List.take_of_length_le (by simp)] at this
      exact this
end
end Mine
namespace Mine
open LCg
def NestEnd (h₀ : Heap) (L : Addr) (m : Str → Option Value) (s : Shared) (I : Addr) (oI : Obj) (C : Addr) (oC : Obj) (D : Addr) (news : List (Addr × Obj)) (ys : List Value) (P : List Value → Prop) (y : Value) (s₂ : Shared) : Prop :=
  ∃ h' tk b zs k, s₂ = { s with heap := h', toks := tk } ∧ y = .ref b ∧ Fr h₀ L h' m ∧ News h₀ L h' ((b, PySem.W.listOf zs.toArray k) :: (I, oI) :: (C, oC) :: (D, lst ys) :: news) ∧ @Ne Nat I b ∧ @Ne Nat C b ∧ @Ne Nat D b ∧ P (ys ++ zs)
theorem NestEnd.intro {h₀ : Heap} {L : Addr} {m : Str → Option Value} {s : Shared} {I : Addr} {oI : Obj} {C : Addr} {oC : Obj} {D : Addr} {news : List (Addr × Obj)} {ys : List Value} {P : List Value → Prop} {b : Addr} {h' : Heap} {tk : Nat} {all : List (Addr × Obj)} (zs : List Value) (k : Nat)
    (F : Fr h₀ L h' m) (N : News h₀ L h' all) (sub : ∀ p ∈ (b, PySem.W.listOf zs.toArray k) :: (I, oI) :: (C, oC) :: (D, lst ys) :: news, p ∈ all) (h1 : @Ne Nat I b) (h2 : @Ne Nat C b) (h3 : @Ne Nat D b) (hP : P (ys ++ zs)) :
    NestEnd h₀ L m s I oI C oC D news ys P (.ref b) { s with heap := h', toks := tk } := ⟨h', tk, b, zs, k, rfl, rfl, F, fun p hp => N p (sub p hp), h1, h2, h3, hP⟩
def NestSrc (prog : Program) (w : World) (A : Around) (h₀ : Heap) (L : Addr) (m : Str → Option Value) (env : Env) (iter2 : PySem.Expr) (x : Str) (scope : Scope) (cl : List (Str × Addr)) (Fin : Shared → List Value → List (Addr × Obj) → Prop) (xv : Value) (s₁ : Shared) : Prop :=
  ∃ ax its news, ∃ P : Nat → List Value → Prop, xv = .ref ax ∧ A.handled = none ∧ Fr h₀ L s₁.heap m ∧ News h₀ L s₁.heap news ∧ SrcAt h₀ ax its news ∧ its.size ≤ sizeLine ∧ P 0 [] ∧ (∀ i ys, P i ys → ys.length ≤ sizeLine) ∧
    (∀ s₂ : Shared, (∃ h, s₂ = { s₁ with heap := h }) → (∀ i v ys I oI C oC D m₂ h tk (E' : Value → Shared → Prop), its[i]? = some v → P i ys → NsObj oC m₂ → m₂ x = some v → Fr h₀ L h m → News h₀ L h ((I, oI) :: (C, oC) :: (D, lst ys) :: news) →
        Off3 I C D news → ((@Ne Nat I C) ∧ (@Ne Nat I D) ∧ (@Ne Nat C D)) →
        wpAny (model prog w) A (eval iter2 (compEnvC scope cl C env)) (NestEnd h₀ L m { s₂ with heap := h, toks := tk } I oI C oC D news ys (P (i + 1))) E' { s₂ with heap := h, toks := tk }) ∧
      ∀ ys, P its.size ys → Fin s₂ ys news)
theorem NestSrc.ledger {prog : Program} {w : World} {A : Around} {h₀ : Heap} {L : Addr} {m : Str → Option Value} {env : Env} {iter2 : PySem.Expr} {x : Str} {scope : Scope} {cl : List (Str × Addr)} {Fin : Shared → List Value → List (Addr × Obj) → Prop} {ax : Addr} {its : Array Value} {k : Nat} {news : List (Addr × Obj)} {s₁ : Shared}
    (P : Nat → List Value → Prop) (hh : A.handled = none) (F : Fr h₀ L s₁.heap m) (N : News h₀ L s₁.heap news) (hm : (ax, ({ cls := .type "list", data := .seq its k } : Obj)) ∈ news) (hsz : its.size ≤ sizeLine) (hP : P 0 []) (hPl : ∀ i ys, P i ys → ys.length ≤ sizeLine)
    (turn : ∀ (g : Heap) i v ys I oI C oC D m₂ h tk (E' : Value → Shared → Prop), its[i]? = some v → P i ys → NsObj oC m₂ → m₂ x = some v → Fr h₀ L h m → News h₀ L h ((I, oI) :: (C, oC) :: (D, lst ys) :: news) →
        Off3 I C D news → ((@Ne Nat I C) ∧ (@Ne Nat I D) ∧ (@Ne Nat C D)) →
        wpAny (model prog w) A (eval iter2 (compEnvC scope cl C env)) (NestEnd h₀ L m { s₁ with heap := h, toks := tk } I oI C oC D news ys (P (i + 1))) E' { s₁ with heap := h, toks := tk })
    (fin : ∀ (g : Heap) ys, P its.size ys → Fin { s₁ with heap := g } ys news) : NestSrc prog w A h₀ L m env iter2 x scope cl Fin (.ref ax) s₁ :=
  ⟨ax, its, news, P, rfl, hh, F, N, .inr ⟨_, hm, rfl, _, rfl⟩, hsz, hP, hPl, fun _ ⟨g, e⟩ => e ▸ ⟨turn g, fin g⟩⟩
section
variable {prog : Program} {w : World} {A : Around} {E : Value → Shared → Prop} {s : Shared} {h₀ : Heap} {L : Addr} {m : Str → Option Value} {env : Env}
theorem nest_block {iter iter2 : PySem.Expr} {x z : Str} {px pz pe : Pos} {scope : Scope} {cl : List (Str × Addr)} {pos : Pos} {s₂ : Shared} {I ax : Addr} {its : Array Value} {news : List (Addr × Obj)} {P : Nat → List Value → Prop}
    {RR : Value → Addr → Result → Shared → Prop} (hh : A.handled = none)
    (hit : s₂.heap.IsListIter I ax 0) (hl : s₂.heap.IsList ax its) (hIax : I ≠ ax) (hSrc : SrcAt h₀ ax its news)
    (hsz : its.size ≤ sizeLine) (hcell : ∀ y ∈ scope.names, y.2 ≠ .cell) (hkind : scope.kind = .function) (hx : scope.names.lookup x = some .local) (hz : scope.names.lookup z = some .local) (hzd : (z == ("__debug__" : Str)) = false)
    (F : Fr h₀ L s₂.heap m) (N : News h₀ L s₂.heap news) (hIL : L ≠ I) (hI₀ : h₀.get? I = none) (off : ∀ p ∈ news, p.1 ≠ I) (hP : P 0 []) (hPl : ∀ i ys, P i ys → ys.length ≤ sizeLine)
    (turn : ∀ i v ys I oI C oC D m₂ h tk (E' : Value → Shared → Prop), its[i]? = some v → P i ys → NsObj oC m₂ → m₂ x = some v → Fr h₀ L h m → News h₀ L h ((I, oI) :: (C, oC) :: (D, lst ys) :: news) →
        Off3 I C D news → ((@Ne Nat I C) ∧ (@Ne Nat I D) ∧ (@Ne Nat C D)) →
        wpAny (model prog w) A (eval iter2 (compEnvC scope cl C env)) (NestEnd h₀ L m { s₂ with heap := h, toks := tk } I oI C oC D news ys (P (i + 1))) E' { s₂ with heap := h, toks := tk })
    (hs2 : ∀ (env : Env) x, foldedSetIterable iter2 env x = pure x)
    (hRR : ∀ D C h tk m' ys, Fr h₀ L h m → News h₀ L h ((D, lst ys) :: news) → Off1 D news → h.Ns C m' → h₀.get? C = none → h₀.get? D = none → C ≠ L → D ≠ L → C ≠ D → (∀ p ∈ news, p.1 ≠ C) → P its.size ys → RR (.ref D) C (.ok .next) { s₂ with heap := h, toks := tk }) :
    wpAny (model prog w) A (newList []) (fun acc s₃ => wpAny (model prog w) A (newFunctionEnv scope env.globals cl [] env.qual none .none (some env)) (fun cenv s₄ =>
      codeAny (model prog w) A (.compStart (.ListComp (.Name z pe) [⟨.Name x px, iter, [], 0⟩, ⟨.Name z pz, iter2, [], 0⟩] scope pos) 0 (.ref I) acc { cenv with scope := relabel scope env }) (RR acc cenv.locals) s₄) E s₃) E s₂ := by
  refine wpAny_newObj_type (wpAny_newFunctionEnv hcell (by intro y hy; simp at hy) (fun h₁ hns₁ hsb₁ => ?_) hkind)
  dsimp only at hns₁ hsb₁ ⊢
  generalize hH2 : s₂.heap.push { cls := .type "list", dict := none, data := .seq ([] : List Value).toArray } = H2 at hns₁ hsb₁ ⊢
  have hC : H2.objs.size = s₂.heap.objs.size + 1 := by rw [← hH2, Heap.size_push]
  generalize hDn : s₂.heap.objs.size = D at *
  generalize hCn : H2.objs.size = C at *
  have hDC : D ≠ C := by rw [hC]; exact Nat.ne_of_lt (Nat.lt_succ_self _)
  have below : ∀ b, b < D → b ≠ C ∧ b ≠ D := fun b hb => ⟨by rw [hC]; exact Nat.ne_of_lt (Nat.lt_succ_of_lt hb), Nat.ne_of_lt hb⟩
  have hIlt : I < D := by obtain ⟨o, e, _⟩ := hit; rw [← hDn]; exact Heap.lt_size e
  have haxlt : ax < D := by obtain ⟨o, e, _⟩ := hl; rw [← hDn]; exact Heap.lt_size e
  have old : ∀ b o, s₂.heap.get? b = some o → h₁.get? b = some o := fun b o e => hsb₁.extBut b o (below b (by rw [← hDn]; exact Heap.lt_size e)).1 (Heap.get?_push_of_some _ (by rw [← hH2]; exact Heap.get?_push_of_some _ e))
  have hacc : h₁.get? D = some (lst []) := hsb₁.extBut _ _ hDC (Heap.get?_push_of_some _ (by rw [← hH2, ← hDn]; exact Heap.get?_push_size _ rfl))
  have fresh₀ : ∀ a, D ≤ a → h₀.get? a = none := fun a ha => by
    cases e : h₀.get? a with
    | none => rfl
    | some o' => exact absurd (Heap.lt_size (F.keep a o' e)) (by rw [hDn]; exact Nat.not_lt.mpr ha)
  have hD₀ : h₀.get? D = none := fresh₀ _ (Nat.le_refl _)
  have hC₀ : h₀.get? C = none := fresh₀ _ (by rw [hC]; exact Nat.le_succ _)
  have hLlt : L < D := by rw [← hDn]; exact F.ns.lt
  have hDL : D ≠ L := Ne.symm (below L hLlt).2
  have hCL : C ≠ L := Ne.symm (below L hLlt).1
  have hIC : I ≠ C := (below I hIlt).1
  have hID : I ≠ D := (below I hIlt).2
  have off3 : ∀ p ∈ news, p.1 ≠ I ∧ p.1 ≠ C ∧ p.1 ≠ D := fun p hp => ⟨off p hp, (below _ (by rw [← hDn]; exact Heap.lt_size (N p hp).1)).1, (below _ (by rw [← hDn]; exact Heap.lt_size (N p hp).1)).2⟩
  have hOff : Off3 I C D news := Off3.of off3
  have W := Walks.list (prog := prog) (w := w) (A := A) hh I ax (Ne.symm hIax) its
  have hst₁ : h₁.IsListIter I ax 0 ∧ h₁.IsList ax its := W.frame 0 _ _ ⟨hit, hl⟩ fun b _ o e => old b o e
  have loop : ∀ s₃ : Shared, s₃ = { s₂ with heap := h₁, toks := s₂.toks + ([] : List (Str × Value)).length } →
      codeAny (model prog w) A (.compLoop (.ListComp (.Name z pe) [⟨.Name x px, iter, [], 0⟩, ⟨.Name z pz, iter2, [], 0⟩] scope pos) 0 (.ref I) (.ref D) (compEnvC scope cl C env))
        (RR (.ref D) C) s₃ := by
    rintro s₃ rfl
    refine codeAny_loop rfl (fun k s' => ∃ h' tk i ys m', s' = { s₂ with heap := h', toks := tk } ∧ i ≤ its.size ∧ k = its.size + 1 - i ∧ (h'.IsListIter I ax i ∧ h'.IsList ax its) ∧ Fr h₀ L h' m ∧ h'.Ns C m' ∧
        News h₀ L h' ((D, lst ys) :: news) ∧ P i ys) ?_ (its.size + 1) ⟨h₁, _, 0, [], _, rfl, Nat.zero_le _, rfl, hst₁, F.keeps old, hns₁, fun p hp => ?_, hP⟩
    · rintro k s' ⟨h', tk, i, ys, m', rfl, hi, rfl, hst', F', hn', N', hP'⟩
      show wpAny _ _ ((compTurn (.ListComp (.Name z pe) [⟨.Name x px, iter, [], 0⟩, ⟨.Name z pz, iter2, [], 0⟩] scope pos) 0 (.ref I) (.ref D) (compEnvC scope cl C env)).onRaise (fun x => do noteFrame x (compEnvC scope cl C env); theTreesLotGoes x)) _ _ _
      refine wpAny_noted ?_
      rw [turn_two0]
      refine wpAny_bind (wpAny_standAt (wpAny_bind ?_))
      by_cases hlt : i < its.size
      · refine W.item i _ _ _ hlt hst' fun v h₂ tk₂ hPv hst₂ hk₂ => ?_
        refine wpAny_bind (wpAny_of_eq rfl ?_)
        refine wpAny_bind (wpAny_assign_Name (wpAny_storeName_local (lookup_relabel_local hx) (hn'.at' fun o e => hk₂ _ o (by simpa using Ne.symm hIC) e) (fun h₃ hn₃ hs₃ => ?_) (by simp [compEnvC, relabel, hkind])))
        have haxC : ax ≠ C := (below ax haxlt).1
        have hst₃ : h₃.IsListIter I ax (i + 1) ∧ h₃.IsList ax its := W.frame _ _ _ hst₂ fun b hb o e => hs₃.extBut b o (by
          simp only [List.mem_cons, List.not_mem_nil, or_false] at hb
          rcases hb with rfl | rfl
          · exact hIC
          · exact haxC) e
        obtain ⟨oI, heI, hoI⟩ := hst₃.1
        obtain ⟨oC, heC, hoC⟩ := ns_obj hn₃
        have F₃ : Fr h₀ L h₃ m := (fr_but F' hk₂ hIL hI₀).change hs₃ hCL hC₀
        have N₂ : News h₀ L h₂ ((D, lst ys) :: news) := news_but N' hk₂ fun p hp => by
          rcases List.mem_cons.mp hp with rfl | hp
          · exact Ne.symm hID
          · exact (off3 p hp).1
        have N₃ : News h₀ L h₃ ((I, oI) :: (C, oC) :: (D, lst ys) :: news) := fun p hp => by
          rcases List.mem_cons.mp hp with rfl | hp
          · exact ⟨heI, Ne.symm hIL, hI₀⟩
          · rcases List.mem_cons.mp hp with rfl | hp
            · exact ⟨heC, hCL, hC₀⟩
            · have z := N₂ p hp
              refine ⟨hs₃.extBut _ _ ?_ z.1, z.2⟩
              rcases List.mem_cons.mp hp with rfl | hp
              · exact hDC
              · exact (off3 p hp).2.1
        refine wpAny_bind (wpAny_mono (turn i v ys I oI C oC D _ h₃ _ _ hPv hP' hoC (by simp) F₃ N₃ hOff ⟨hIC, hID, Ne.symm hDC⟩) (fun y s₄ h₄ => ?_) fun _ _ e => e)
        obtain ⟨h₄, tk₄, b, zs, kz, rfl, rfl, F₄, N₄, hb1, hb2, hb3, hP₄⟩ := h₄
        have zb := (N₄ (b, PySem.W.listOf zs.toArray kz) List.mem_cons_self).1
        have zI := (N₄ (I, oI) (List.mem_cons_of_mem _ List.mem_cons_self)).1
        have zC := (N₄ (C, oC) (List.mem_cons_of_mem _ (List.mem_cons_of_mem _ List.mem_cons_self))).1
        have zD := (N₄ (D, lst ys) (List.mem_cons_of_mem _ (List.mem_cons_of_mem _ (List.mem_cons_of_mem _ List.mem_cons_self)))).1
        have N₄' : News h₀ L h₄ news := fun p hp => N₄ p (List.mem_cons_of_mem _ (List.mem_cons_of_mem _ (List.mem_cons_of_mem _ (List.mem_cons_of_mem _ hp))))
        refine wpAny_bind (wpAny_standAt (wpAny_bind (wpAny_of_eq (hs2 _ _) ?_)))
        have hlb : h₄.IsList b zs.toArray := ⟨_, zb, rfl, _, rfl⟩
        refine wpAny_bind (wpAny_holding (wpAny_pyIter_list hlb ?_))
        generalize hI2 : h₄.objs.size = I2
        have lt₄ : ∀ a o, h₄.get? a = some o → a ≠ I2 := fun a o e => by rw [← hI2]; exact Nat.ne_of_lt (Heap.lt_size e)
        have up : ∀ a o, h₄.get? a = some o → (h₄.push { cls := .type "list_iterator", data := .fields #[.ref b, .int 0 0] }).get? a = some o := fun a o e => Heap.get?_push_of_some _ e
        have hI20 : h₀.get? I2 = none := by
          cases e : h₀.get? I2 with
          | none => rfl
          | some o' => exact absurd rfl (lt₄ _ _ (F₄.keep I2 o' e))
        have hI2L : L ≠ I2 := by rw [← hI2]; exact Nat.ne_of_lt F₄.ns.lt
        have hlst : ys.length + zs.toArray.size ≤ sizeLine := by
          have := hPl _ _ hP₄
          rw [List.length_append] at this
          rw [List.size_toArray]; exact this
        have hit2 : (h₄.push { cls := .type "list_iterator", data := .fields #[.ref b, .int 0 0] }).IsListIter I2 b 0 := ⟨_, by rw [← hI2]; exact Heap.get?_push_size _ rfl, rfl, rfl⟩
        have inner : codeAny (model prog w) A (.compLoop (.ListComp (.Name z pe) [⟨.Name x px, iter, [], 0⟩, ⟨.Name z pz, iter2, [], 0⟩] scope pos) 1 (.ref I2) (.ref D) (compEnvC scope cl C env)) (fun r s' => match r with
            | .ok f => wpAny (model prog w) (A.under (.compLoop (.ListComp (.Name z pe) [⟨.Name x px, iter, [], 0⟩, ⟨.Name z pz, iter2, [], 0⟩] scope pos) 0 (.ref I) (.ref D) (compEnvC scope cl C env))) (again (.compLoop (.ListComp (.Name z pe) [⟨.Name x px, iter, [], 0⟩, ⟨.Name z pz, iter2, [], 0⟩] scope pos) 0 (.ref I) (.ref D) (compEnvC scope cl C env)))
                (fun fin s' => match fin with
                  | .done f => RR (.ref D) C (.ok f) s'
                  | .again c' => c' = .compLoop (.ListComp (.Name z pe) [⟨.Name x px, iter, [], 0⟩, ⟨.Name z pz, iter2, [], 0⟩] scope pos) 0 (.ref I) (.ref D) (compEnvC scope cl C env) ∧ ∃ k, k < its.size + 1 - i ∧ ∃ h' tk i ys m', s' = { s₂ with heap := h', toks := tk } ∧ i ≤ its.size ∧ k = its.size + 1 - i ∧ (h'.IsListIter I ax i ∧ h'.IsList ax its) ∧ Fr h₀ L h' m ∧ h'.Ns C m' ∧ News h₀ L h' ((D, lst ys) :: news) ∧ P i ys)
                (notedBy (model prog w) (A.under (.compLoop (.ListComp (.Name z pe) [⟨.Name x px, iter, [], 0⟩, ⟨.Name z pz, iter2, [], 0⟩] scope pos) 0 (.ref I) (.ref D) (compEnvC scope cl C env))) (compEnvC scope cl C env) fun e s' => RR (.ref D) C (.error e) s') s'
            | .error e => cameBackBy (model prog w) A (compEnvC scope cl C env) (notedBy (model prog w) (A.under (.compLoop (.ListComp (.Name z pe) [⟨.Name x px, iter, [], 0⟩, ⟨.Name z pz, iter2, [], 0⟩] scope pos) 0 (.ref I) (.ref D) (compEnvC scope cl C env))) (compEnvC scope cl C env) fun e s' => RR (.ref D) C (.error e) s') e s')
            { s₂ with heap := h₄.push { cls := .type "list_iterator", data := .fields #[.ref b, .int 0 0] }, toks := tk₄ } := by
          refine inner_loop hh hz hkind hzd ((hoC.ns zC).at' fun o e => up _ _ e) hit2 (hlb.push _) (up _ _ zD) (Ne.symm (lt₄ _ _ zb)) (Ne.symm (lt₄ _ _ zC)) (Ne.symm (lt₄ _ _ zD)) (Ne.symm hb2) (Ne.symm hb3) (Ne.symm hDC) hlst fun h₅ tk₅ m₅ hk₅ hn₅ hD₅ => ?_
          have keep₅ : ∀ a o, h₄.get? a = some o → a ≠ C → a ≠ D → h₅.get? a = some o := fun a o e h1 h2 => hk₅ _ _ (by simp only [List.mem_cons, List.not_mem_nil, or_false, not_or]; exact ⟨lt₄ _ _ e, h1, h2⟩) (up _ _ e)
          have hL₀ : ∀ a o, h₀.get? a = some o → a ≠ C ∧ a ≠ D := fun a o e => ⟨fun q => (by rw [q, hC₀] at e; cases e), fun q => (by rw [q, hD₀] at e; cases e)⟩
          refine wpAny_pure ⟨rfl, its.size + 1 - (i + 1), by omega, h₅, tk₅, i + 1, ys ++ zs, m₅, rfl, hlt, rfl, ?_, ?_, hn₅, fun p hp => ?_, hP₄⟩
          · have hst₄ : h₄.IsListIter I ax (i + 1) ∧ h₄.IsList ax its := ⟨⟨oI, zI, hoI⟩, hSrc.list F₄.keep N₄'⟩
            refine W.frame _ _ _ hst₄ fun a ha o e => keep₅ a o e ?_ ?_
            · simp only [List.mem_cons, List.not_mem_nil, or_false] at ha
              rcases ha with rfl | rfl
              · exact hIC
              · exact haxC
            · simp only [List.mem_cons, List.not_mem_nil, or_false] at ha
              rcases ha with rfl | rfl
              · exact hID
              · exact (below _ haxlt).2
          · exact ⟨F₄.ns.at' fun o e => keep₅ _ _ e (Ne.symm hCL) (Ne.symm hDL), fun a o e => keep₅ a o (F₄.keep a o e) (hL₀ a o e).1 (hL₀ a o e).2, F₄.above⟩
          · rcases List.mem_cons.mp hp with rfl | hp
            · exact ⟨hD₅, hDL, hD₀⟩
            · exact ⟨keep₅ _ _ (N₄' p hp).1 (off3 p hp).2.1 (off3 p hp).2.2, (N₄' p hp).2⟩
        refine wpAny_bind (wpAny_runOwn ?_)
        refine start_two1 rfl inner (wpAny_pyIter_listiter hit2 inner)
      · obtain rfl : i = its.size := Nat.le_antisymm hi (Nat.not_lt.mp hlt)
        refine W.done _ _ _ hst' fun h₂ tk₂ hk₂ => wpAny_pure ?_
        exact hRR _ _ h₂ tk₂ _ ys (fr_but F' hk₂ hIL hI₀) (news_but N' hk₂ fun p hp => by
          rcases List.mem_cons.mp hp with rfl | hp
          · exact Ne.symm hID
          · exact (off3 p hp).1) hOff.one (hn'.at' fun o e => hk₂ _ o (by simpa using Ne.symm hIC) e) hC₀ hD₀ hCL hDL (Ne.symm hDC) (fun p hp => (off3 p hp).2.1) hP'
    · rcases List.mem_cons.mp hp with rfl | hp
      · exact ⟨hacc, hDL, hD₀⟩
      · exact ⟨old _ _ (N p hp).1, (N p hp).2⟩
  exact codeAny_compStart_list (loop _ rfl) (W.self 0 _ _ _ hst₁ (loop _ rfl))
theorem Assign_Nest {iter iter2 : PySem.Expr} {x y z : Str} {px py pz pe : Pos} {scope : Scope} {cl : List (Str × Addr)} {pos spos : Pos} {Q : Flow → Shared → Prop} (F₀ : Fr h₀ L s.heap m) (hLe : env.locals = L)
    (hsw : swapsWith (.ListComp (.Name z pe) [⟨.Name x px, iter, [], 0⟩, ⟨.Name z pz, iter2, [], 0⟩] scope pos) (some (.Name y py)) spos.line env = pure true)
    (hclos : closureFor scope env = pure cl) (hcell : ∀ z ∈ scope.names, z.2 ≠ .cell) (hkind : scope.kind = .function)
    (hnames : ∀ z ∈ scope.names, z.2 = .local → scope.names.lookup z.1 = some .local) (hx : scope.names.lookup x = some .local) (hz : scope.names.lookup z = some .local)
    (hy : env.kindOf y = some .local) (hp : (env.scope.kind == .class || (env.scope.kind == .module && env.locals != env.globals)) = false)
    (h : wpAny (model prog w) A (eval iter env) (NestSrc prog w A h₀ L m env iter2 x scope cl (fun s₂ => FinA h₀ L m s₂ y Q)) E s)
    (hs : ∀ x, foldedSetIterable iter env x = pure x := by intro _; rfl) (hs2 : ∀ (env : Env) x, foldedSetIterable iter2 env x = pure x := by intro _ _; rfl) (hzd : (z == ("__debug__" : Str)) = false := by decide) :
    wpAny (model prog w) A (exec (.Assign [.Name y py] (.ListComp (.Name z pe) [⟨.Name x px, iter, [], 0⟩, ⟨.Name z pz, iter2, [], 0⟩] scope pos) spos) env) Q E s := by
  subst hLe
  rw [exec_Assign_Name_used _ _ _ _ hsw]
  refine wpAny_bind (wpAny_standAt (wpAny_bind ?_))
  show wpAny _ A (do let _ ← comprehension (.ListComp (.Name z pe) [⟨.Name x px, iter, [], 0⟩, ⟨.Name z pz, iter2, [], 0⟩] scope pos) scope env _ (newList []) false (eval iter env) (some (assign (.Name y py) env))) _ _ s
  refine wpAny_bind (wpAny_mono (wpAny_comprehension_free (use := some (assign (.Name y py) env)) (Q := fun _ s' => Q .next s') rfl hs hclos hkind hnames
    (wpAny_mono h (fun xv s₁ h₁ => ?_) fun _ _ e => e)) (fun _ s' hq => wpAny_pure (wpAny_pure hq)) fun _ _ e => e)
  obtain ⟨ax, its, news, P, rfl, hh, F, N, S, hsz, hP, hPl, R⟩ := h₁
  have hl := S.list F.keep N
  have hlt : ax < s₁.heap.objs.size := by obtain ⟨_, e, _⟩ := hl; exact Heap.lt_size e
  refine wpAny_pyIter_list hl ?_
  have up : ∀ b o, s₁.heap.get? b = some o → (s₁.heap.push { cls := .type "list_iterator", data := .fields #[.ref ax, .int 0 0] }).get? b = some o := fun b o e => Heap.get?_push_of_some _ e
  obtain ⟨turn, fin⟩ := R { s₁ with heap := s₁.heap.push { cls := .type "list_iterator", data := .fields #[.ref ax, .int 0 0] } } ⟨_, rfl⟩
  refine nest_block hh ⟨_, Heap.get?_push_size _ rfl, rfl, rfl⟩ (hl.push _) (Nat.ne_of_gt hlt) S hsz hcell hkind hx hz hzd (F.keeps up) (N.grown up) (Nat.ne_of_lt F.ns.lt) (next_is_new F) (fun p hp => Nat.ne_of_lt (Heap.lt_size (N p hp).1)) hP hPl turn hs2 ?_
  intro D C h' tk m' ys F' N' o1 hn hC₀ hD₀ hCL hDL hCD offC hPe
  show wpAny _ A (assign (.Name y py) env (.ref D)) _ _ _
  refine wpAny_assign_Name (wpAny_storeName_local hy F'.ns (fun h₂ hn₂ hs₂ => ?_) hp)
  have hL₀ : h₀.get? env.locals = none := Heap.get?_none_of_le F'.above
  have F₂ : Fr h₀ env.locals h₂ (fun z => if z = y then some (.ref D) else m z) := ⟨hn₂, fun b o e => hs₂.extBut b o (fun q => by rw [q, hL₀] at e; cases e) (F'.keep b o e), F'.above⟩
  refine ⟨m', hn.sameBut hs₂ hCL, fun h'' hs'' => fin ys hPe D h'' _ (F₂.change hs'' hCL hC₀) (fun p hp => ?_) o1⟩
  have z : h₂.get? p.1 = some p.2 := hs₂.extBut _ _ (N' p hp).2.1 (N' p hp).1
  refine ⟨hs''.extBut _ _ ?_ z, (N' p hp).2⟩
  rcases List.mem_cons.mp hp with rfl | hp
  · exact Ne.symm hCD
  · exact offC p hp
end
end Mine
namespace Mine
local macro_rules | `(tactic| walk_at "@n") => `(tactic| exact News.isList (by k_asm) (by k_mem))
local macro_rules | `(tactic| walk_at "@l") => `(tactic| first | (walk_at "@n") | is_list)
local macro_rules | `(tactic| walk_at "@a") => `(tactic| first | with_reducible assumption | assumption)
local macro_rules | `(tactic| walk_at "@o") => `(tactic| first | with_reducible assumption | omega)
local macro_rules | `(tactic| walk_at "@d1") => `(tactic| first | decide | exact Nat.lt_of_lt_of_le (Nat.add_lt_add_right (by assumption) 1) (by decide))
local macro_rules | `(tactic| walk_at "@d3") => `(tactic| first | decide | exact Nat.lt_of_lt_of_le (Nat.add_lt_add_right (by assumption) 3) (by decide))
local macro_rules | `(tactic| k_room) => `(tactic| (show _ < _; (simp only [depth_under_make, depth_under_kw, depth_in1, depth_deeper, depth_caller, recursionLimit]); omega))
local macro_rules | `(tactic| walk_at "exec While Compare cons nil") => `(tactic| refine Halt.intro ?_)
local macro_rules | `(tactic| walk_at "exec While BoolOp cons nil") => `(tactic| refine Halt.intro ?_)
local macro_rules | `(tactic| walk_at "getAttr ref") => `(tactic| (k_here; (with_reducible show wpAny _ _ (getAttr (Value.ref _) (PySem.Str.ofString "append") true) _ _ _); k_dflt (refine' getappend_K ?k1 ?k2 ?k3 ?_; (case k1 | k2 => k_asm); (case k3 => k_mem); k_whole); intro q' h' F' N' l1; (try k_lt l1); (try k_sweep)))
local macro_rules | `(tactic| walk_at "callWith ref") => `(tactic| (k_here; (with_reducible show wpAny _ _ (callWith _ (Value.ref _) _ (backTo _ (starEach (_ :: _) _)) []) _ _ _); k_dflt (refine' callWith_ap ?k1 ?k2 ?_; (case k1 => k_asm); (case k2 => k_mem); k_whole)))
local macro_rules | `(tactic| walk_at "And") => `(tactic| (refine And.intro ?ap ?_; (case ap => k_dflt (show ApP _ _ _; refine News.get (by k_asm) (by k_mem))); try dsimp only [List.nil_append, List.cons_append]))
local macro_rules | `(tactic| walk_at "call ref") => `(tactic| (k_here; (with_reducible show wpAny _ _ (call (Value.ref _) [_]) _ _ _); k_dflt (refine' callappend_K ?k1 ?k2 ?k3 ?k4 ?_ ?z; (case k1 | k2 => k_asm); (case k3 => k_mem); (case k4 => k_upd); (case z => first | size_fits | (simp only [List.size_toArray, Array.size_push, PySem.sizeLine_eq] at *; omega)); k_whole); intro h' F' N'; (try k_sweep)))
local macro_rules | `(tactic| walk_at "call type:object") => `(tactic| (k_here; k_dflt (refine' callobject_K ?k1 ?k2 ?_; (case k1 | k2 => k_asm); k_whole); intro q' h' F' N' l1; (try k_lt l1); (try k_sweep)))
local macro_rules | `(tactic| walk_at "getMethod str") => `(tactic| with_reducible refine getMethod_translate ?_)
local macro_rules | `(tactic| walk_at "call builtin:str.translate") => `(tactic| (k_here; k_dflt (refine' translate_K ?kT ?k1 ?k2 ?hh ?hc ?_; (case k1 | k2 => k_asm); (case kT => exact spKeyed (by k_asm)); (case hh => rfl); (case hc => first | assumption | omega); k_whole); intro h' tk' t' F' N'; (try k_sweep)))
local macro_rules | `(tactic| walk_at "call builtin:len") => `(tactic| (k_here; (with_reducible show wpAny _ _ (call (Value.builtin "len") [Value.str (PySem.Str.mk (List.toArray _)) _]) _ _ _); with_reducible refine len_S (by omega) ?_))
local macro_rules | `(tactic| walk_at "call builtin:len") => `(tactic| (k_here; (with_reducible show wpAny _ _ (call (Value.builtin "len") [Value.ref _]) _ _ _); refine len_L (by walk_at "@l") (by omega) ?_))
local macro_rules | `(tactic| walk_at "subscriptTail") => `(tactic| (k_here; (with_reducible show wpAny _ _ (subscriptTail _ _ (Value.str (PySem.Str.mk (List.toArray _)) _) (Value.int _ _)) _ _ _); refine sub_S (by omega) (by omega) (by walk_at "@a") ?_))
local macro_rules | `(tactic| walk_at "subscriptTail Name Name str int") => `(tactic| (k_here; (with_reducible show wpAny _ _ (subscriptTail _ _ (Value.str (PySem.Str.mk (List.toArray _)) _) (Value.int _ _)) _ _ _); refine sub_S (by omega) (by omega) (by walk_at "@a") ?_))
local macro_rules | `(tactic| walk_at "subscriptTail") => `(tactic| (k_here; (with_reducible show wpAny _ _ (subscriptTail _ _ (Value.ref _) (Value.int (-1) _)) _ _ _); refine last_L (by walk_at "@l") (by omega) (by walk_at "@a") ?_))
local macro_rules | `(tactic| walk_at "subscriptTail Name UnaryOp USub Constant ref int") => `(tactic| (k_here; (with_reducible show wpAny _ _ (subscriptTail _ _ (Value.ref _) (Value.int (-1) _)) _ _ _); refine last_L (by walk_at "@l") (by omega) (by walk_at "@a") ?_))
local macro_rules | `(tactic| walk_at "subscriptTail Name UnaryOp ref int") => `(tactic| (k_here; (with_reducible show wpAny _ _ (subscriptTail _ _ (Value.ref _) (Value.int (-1) _)) _ _ _); refine last_L (by walk_at "@l") (by omega) (by walk_at "@a") ?_))
local macro_rules | `(tactic| walk_at "subscriptTail") => `(tactic| (k_here; (with_reducible show wpAny _ _ (subscriptTail _ _ (Value.ref _) (Value.int _ _)) _ _ _); refine item_L (by walk_at "@l") (by omega) (by omega) (by walk_at "@a") ?_))
local macro_rules | `(tactic| walk_at "subscriptTail Name Name ref int") => `(tactic| (k_here; (with_reducible show wpAny _ _ (subscriptTail _ _ (Value.ref _) (Value.int _ _)) _ _ _); refine item_L (by walk_at "@l") (by omega) (by omega) (by walk_at "@a") ?_))
local macro_rules | `(tactic| walk_at "truthy ref") => `(tactic| (k_here; refine truthy_L (by walk_at "@l") (by omega) ?_))
local macro_rules | `(tactic| walk_at "compareOp IsNot str ref") => `(tactic| with_reducible refine isNot_str_ref ?_)
local macro_rules | `(tactic| walk_at "compareOp Is str ref") => `(tactic| with_reducible refine is_str_ref ?_)
local macro_rules | `(tactic| walk_at "ite") => `(tactic| first | with_reducible refine ite_neg (ne_true_of_eq_false (by assumption)) ?_ | with_reducible refine ite_pos (by walk_at "@a") ?_)
local macro_rules | `(tactic| walk_at "KswEnd") => `(tactic| refine Halt.intro ?_)
local macro_rules | `(tactic| walk_at "call builtin:str.join") => `(tactic| refine Halt.intro ?_)
local macro_rules | `(tactic| walk_at "joinParts") => `(tactic| (k_here; (first | (with_reducible show wpAny _ _ (joinParts _ []) _ _ _) | (with_reducible show wpAny _ _ (joinParts _ (evalEach [] _)) _ _ _)); k_dflt (refine joinParts_nil ?_ (by first | (rw [head_tail]; exact fit_list (by simp only [List.length_append, List.length_cons, List.length_nil]; omega)) | (rw [lazy_fixed]; exact fit_list (by simp only [List.length_append, List.length_cons, List.length_nil]; omega))))))
local macro_rules | `(tactic| walk_at "getAttr type") => `(tactic| (k_here; k_dflt (refine' capAttr ?_; k_whole); (try dsimp only); (try k_sweep)))
local macro_rules | `(tactic| walk_at "call type:map") => `(tactic| refine Halt.intro ?_)
local macro_rules | `(tactic| walk_at "getAttr type:str") => `(tactic| (k_here; k_dflt (refine' capAttr ?_; k_whole); (try dsimp only); (try k_sweep)))
local macro_rules | `(tactic| walk_at "compareOp NotEq ref ref") => `(tactic| (k_here; (with_reducible show wpAny _ _ (compareOp CmpOp.NotEq (Value.ref _) (Value.ref _)) _ _ _); k_dflt (refine' ke_ne_ints ?k1 ?k2 ?k3 ?k4 ?k5 ?_; (case k4 => exact .nil); (case k3 => assumption); (case k1 | k2 => walk_at "@n"); (case k5 => exact Nat.lt_of_lt_of_le (Nat.add_lt_add_right (by assumption) 67) (by decide)))))
local macro_rules | `(tactic| walk_at "compareOp Eq ref ref") => `(tactic| (k_here; (with_reducible show wpAny _ _ (compareOp CmpOp.Eq (Value.ref _) (Value.ref _)) _ _ _); k_dflt (refine' ke_eq_ints ?k1 ?k2 ?k3 ?k4 ?k5 ?_; (case k4 => exact .nil); (case k3 => assumption); (case k1 | k2 => walk_at "@n"); (case k5 => exact Nat.lt_of_lt_of_le (Nat.add_lt_add_right (by assumption) 67) (by decide)))))
local macro_rules | `(tactic| size_fits) => `(tactic| exact Nat.le_of_ble_eq_true rfl)
local macro_rules | `(tactic| walk_at "subscriptTail") => `(tactic| (k_here; (with_reducible show wpAny _ _ (subscriptTail _ _ (Value.ref _) (Value.int 0 _)) _ _ _); refine item_0 (by walk_at "@n") (by with_reducible assumption) ?_))
local macro_rules | `(tactic| walk_at "subscriptTail Name Constant int ref int") => `(tactic| (k_here; (with_reducible show wpAny _ _ (subscriptTail _ _ (Value.ref _) (Value.int 0 _)) _ _ _); refine item_0 (by walk_at "@n") (by with_reducible assumption) ?_))
local macro_rules | `(tactic| walk_at "subscriptTail Name Constant ref int") => `(tactic| (k_here; (with_reducible show wpAny _ _ (subscriptTail _ _ (Value.ref _) (Value.int 0 _)) _ _ _); refine item_0 (by walk_at "@n") (by with_reducible assumption) ?_))
theorem escape_spec {w : World} {dp un : Nat} {fr : Option (List Env)} {gd : Option (List Code)} {s : Shared} {loose : List Str} {mean : ExcName → Option Value} {mg mb : Str → Option Value} {Q E : Value → Shared → Prop}
  (X : (Mine.hd.heap_1 w.params).In s.heap) (T : Top topProg loose mean mg mb s.heap) (hd : dp < 400) (hu : un < 1000)
  {x : Str} {tk : Tok} {c : Nat} (hx : x = ⟨#[c]⟩) (hc : c < 128)
  (ret : ∀ h' tk' t', Keep s.heap h' → Q (.str ⟨(esc c).toArray⟩ t') { s with heap := h', toks := tk' }) : wpAny (model PySem.Challenge.rw_ij0025_01.row.toRowW.prog w) (Ar dp un fr gd) (call (.ref 55) [.str x tk]) Q E s := by
  w_top off
  (have X9 := X); revert X9; k_fill; intro X9; clear X9
  subst hx
  refine' enter X T ?k6 ?k7 ?k8 ?k9 ?kB ?_ ?c2 ?c3 ?c4 ?c5
  case k6 => k_is
  case k7 => k_is
  case k8 => show dp < _; exact Nat.lt_of_lt_of_le hd (by decide)
  case k9 => first | exact BindsTo.of_eq rfl | exact binds_K X rfl (by k_is) rfl rfl rfl
  case c5 => decide
  case kB => exact locs rfl
  case c2 => exact rfl
  case c3 => exact rfl
  case c4 => exact rfl
  k_whole
  intro g' L' h' F' N' X' T' hg hL'
  subst hg
  clear X T
  (try dsimp only); (try k_fold)
  (repeat' (first | (k_unfold; (try dsimp only)) | walk1 | (dsimp only; walk1) | fail "no step"))
  all_goals exact ret _ _ _ (Fr.keep (by assumption))
theorem escape_K {w : World} {dp un : Nat} {fr : Option (List Env)} {gd : Option (List Code)} {s : Shared} {loose : List Str} {mean : ExcName → Option Value} {mg mb : Str → Option Value} {Q E : Value → Shared → Prop} {h₀ : Heap} {L : Addr} {m : Str → Option Value} {news : List (Addr × Obj)} {tk : Tok} {c : Nat}
    (X : (Mine.hd.heap_1 w.params).In h₀) (T : Top topProg loose mean mg mb h₀) (F : Fr h₀ L s.heap m) (N : News h₀ L s.heap news) (hd : dp < 400) (hu : un < 1000) (hc : c < 128)
    (ret : ∀ h' tk' t', Fr h₀ L h' m → News h₀ L h' news → Q (.str ⟨(esc c).toArray⟩ t') { s with heap := h', toks := tk' }) :
    wpAny (model PySem.Challenge.rw_ij0025_01.row.toRowW.prog w) (Ar dp un fr gd) (call (.ref 55) [.str ⟨#[c]⟩ tk]) Q E s :=
  escape_spec (X.keeps F.keep) (T.keeps F.keep) hd hu rfl hc fun h' tk' t' hk => ret h' tk' t' (F.keeps hk) (N.grown hk)
local macro_rules | `(tactic| walk_at "call ref") => `(tactic| (k_here; (with_reducible show wpAny _ _ (call (Value.ref 55) [_]) _ _ _); k_dflt (refine' escape_K ?k1 ?k2 ?k3 ?k4 ?k5 ?k6 ?k7 ?_; (case k1 | k2 | k3 | k4 => k_asm); (case k5 => walk_at "@d1"); (case k6 => walk_at "@d3"); (case k7 => first | assumption | omega); k_whole); intro h' tk' t' F' N'; (try k_sweep)))
theorem transl_spec {w : World} {dp un : Nat} {fr : Option (List Env)} {gd : Option (List Code)} {s : Shared} {loose : List Str} {mean : ExcName → Option Value} {mg mb : Str → Option Value} {Q E : Value → Shared → Prop}
  (X : (Mine.hd.heap_1 w.params).In s.heap) (T : Top topProg loose mean mg mb s.heap) (hd : dp < 390) (hu : un < 900)
  {x q : Str} {l : List Nat} {tk tk2 : Tok} {S : Addr} (hxl : x = ⟨l.toArray⟩) (hq : q = ⟨#[46]⟩) (hx : ∀ c ∈ l, c < 128 ∧ c ≠ 91) (hn2 : l.length < 1000) (hS : s.heap.get? S = some { cls := .type "object" })
  (ret : ∀ a vs k h' tk', Keep s.heap h' → s.heap.get? a = none → h'.get? a = some (PySem.W.listOf vs.toArray k) → PartsAre S (trParts l) vs → Q (.ref a) { s with heap := h', toks := tk' }) : wpAny (model PySem.Challenge.rw_ij0025_01.row.toRowW.prog w) (Ar dp un fr gd) (call (.ref 62) [.str x tk, .ref S, .str q tk2]) Q E s := by
  w_top off
  (have X9 := X); revert X9; k_fill; intro X9; clear X9
  subst hxl hq
  refine' enter X T ?k6 ?k7 ?k8 ?k9 ?kB ?_ ?c2 ?c3 ?c4 ?c5
  case k6 => k_is
  case k7 => k_is
  case k8 => show dp < _; exact Nat.lt_of_lt_of_le hd (by decide)
  case k9 => first | exact BindsTo.of_eq rfl | exact binds_K X rfl (by k_is) rfl rfl rfl
  case c5 => decide
  case kB => exact locs rfl
  case c2 => exact rfl
  case c3 => exact rfl
  case c4 => exact rfl
  k_whole
  intro g' L' h' F' N' X' T' hg hL'
  subst hg
  clear X T
  (try dsimp only); (try k_fold)
  (repeat' (first | (k_unfold; (try dsimp only)) | walk1 | (dsimp only; walk1) | fail "no step"))
  unfold Halt
  rename Fr _ _ _ _ => F1
  rename News _ _ _ _ => N1
  rename_i r hA lA hB tkA q hC lC hD D hE lE hF hG hH
  refine' ksw_while (σ := Nat × Tok × List Value × Nat) (fun c => [(q, apObj r), (r, PySem.W.listOf c.2.2.1.toArray c.2.2.2)]) (fun c => [(Str.ofString "i", Value.int c.1 c.2.1)]) (fun _ => True) [Str.ofString "c"] (fun c => c.1 ≤ l.length ∧ PartsAre S (trParts (l.take c.1)) c.2.2.1 ∧ c.2.2.1.length ≤ c.1) (fun c => l.length - c.1) (0, _, [], 0) F1 (fun p hp => N1 p (List.mem_cons_of_mem _ hp)) trivial ?hk ⟨Nat.zero_le _, .nil, Nat.zero_le _⟩ ?turn
  case hk => kst_all
  case turn =>
    intro c u h3 tk3 hf3 hp3 F3 N3
    obtain ⟨i, ti, vs, k⟩ := c
    dsimp only [kstB] at F3
    dsimp only at N3 hp3
    obtain ⟨hi, hP, hlen⟩ := hp3
    clear F1 N1 hf3
    by_cases hlt : i < l.length
    · obtain ⟨c, hc⟩ : ∃ c, l[i]? = some c := ⟨l[i], by simp [hlt]⟩
      have hcc := hx c (List.mem_of_getElem? hc)
      have hstep := trParts_take hc
      have hb := isBra c
      rw [decide_eq_false hcc.2] at hb
      by_cases h42 : c = 42
      · have h1 := isStar c
        rw [decide_eq_true h42] at h1
        by_cases hl : (trParts (l.take i)).getLast? = some none
        · obtain ⟨v, hv, hvS⟩ := hP.last _ hl
          obtain rfl : v = .ref S := hvS
          have he : vs.isEmpty = false := by cases vs with | nil => cases hv | cons => rfl
          have he' : (!vs.isEmpty) = true := by rw [he]; rfl
          have hn : PartsAre S (trParts (l.take (i + 1))) vs := by
            rw [hstep]; unfold trStep; rw [if_pos h42, if_pos hl]; exact hP
          (repeat' (first | (k_unfold; (try dsimp only)) | walk1 | (dsimp only; walk1) | fail "no step"))
          unfold Halt
          rename Fr _ _ _ _ => F9
          rename News _ _ _ _ => N9
          refine' ksw_end (i + 1, _, vs, k) F9 N9 (by kst_in) trivial ?hk (by ksw_same) ⟨by dsimp only; omega, hn, by dsimp only; omega⟩ (by dsimp only; omega)
          case hk => kst_all
        · have hn : PartsAre S (trParts (l.take (i + 1))) (vs ++ [Value.ref S]) := by
            rw [hstep]; unfold trStep; rw [if_pos h42, if_neg hl]; exact hP.snoc rfl
          by_cases he : vs.isEmpty = true
          · have he' : (!vs.isEmpty) = false := by rw [he]; rfl
            (repeat' (first | (k_unfold; (try dsimp only)) | walk1 | (dsimp only; walk1) | fail "no step"))
            unfold Halt
            rename Fr _ _ _ _ => F9
            rename News _ _ _ _ => N9
            simp only [List.push_toArray] at N9
            refine' ksw_end (i + 1, _, vs ++ [Value.ref S], k + 1) F9 N9 (by kst_in) trivial ?hk (by ksw_same) ⟨by dsimp only; omega, hn, by simp; omega⟩ (by dsimp only; omega)
            case hk => kst_all
          · replace he : vs.isEmpty = false := by simpa using he
            have he' : (!vs.isEmpty) = true := by rw [he]; rfl
            obtain ⟨p, hp9⟩ : ∃ p, (trParts (l.take i)).getLast? = some p := by
              cases hq9 : (trParts (l.take i)).getLast? with
              | some p => exact ⟨p, rfl⟩
              | none =>
                rw [List.getLast?_eq_none_iff] at hq9
                have := hP.length
                rw [hq9] at this
                cases vs with | nil => cases he | cons => simp at this
            obtain ⟨v, hv, hvS⟩ := hP.last _ hp9
            cases p with
            | none => exact absurd hp9 hl
            | some w9 =>
            obtain ⟨t8, rfl⟩ := hvS
            (repeat' (first | (k_unfold; (try dsimp only)) | walk1 | (dsimp only; walk1) | fail "no step"))
            unfold Halt
            rename Fr _ _ _ _ => F9
            rename News _ _ _ _ => N9
            simp only [List.push_toArray] at N9
            refine' ksw_end (i + 1, _, vs ++ [Value.ref S], k + 1) F9 N9 (by kst_in) trivial ?hk (by ksw_same) ⟨by dsimp only; omega, hn, by simp; omega⟩ (by dsimp only; omega)
            case hk => kst_all
      · have h1 := isStar c
        rw [decide_eq_false h42] at h1
        by_cases h63 : c = 63
        · have h2 := isAsk c
          rw [decide_eq_true h63] at h2
          have hn : PartsAre S (trParts (l.take (i + 1))) (vs ++ [Value.str ⟨#[46]⟩ tk2]) := by
            rw [hstep]; unfold trStep; rw [if_neg h42, if_pos h63]; exact hP.snoc ⟨_, rfl⟩
          (repeat' (first | (k_unfold; (try dsimp only)) | walk1 | (dsimp only; walk1) | fail "no step"))
          unfold Halt
          rename Fr _ _ _ _ => F9
          rename News _ _ _ _ => N9
          simp only [List.push_toArray] at N9
          refine' ksw_end (i + 1, _, vs ++ [Value.str ⟨#[46]⟩ tk2], k + 1) F9 N9 (by kst_in) trivial ?hk (by ksw_same) ⟨by dsimp only; omega, hn, by simp; omega⟩ (by dsimp only; omega)
          case hk => kst_all
        · have h2 := isAsk c
          rw [decide_eq_false h63] at h2
          (repeat' (first | (k_unfold; (try dsimp only)) | walk1 | (dsimp only; walk1) | fail "no step"))
          unfold Halt
          rename Fr _ _ _ _ => F9
          rename News _ _ _ _ => N9
          rename_i t9 h9
          simp only [List.push_toArray] at N9
          have hn : PartsAre S (trParts (l.take (i + 1))) (vs ++ [Value.str ⟨(esc c).toArray⟩ t9]) := by
            rw [hstep]; unfold trStep; rw [if_neg h42, if_neg h63]; exact hP.snoc ⟨_, rfl⟩
          refine' ksw_end (i + 1, _, vs ++ [Value.str ⟨(esc c).toArray⟩ t9], k + 1) F9 N9 (by kst_in) trivial ?hk (by ksw_same) ⟨by dsimp only; omega, hn, by simp; omega⟩ (by dsimp only; omega)
          case hk => kst_all
    · have hil : i = l.length := by omega
      subst hil
      rw [List.take_length] at hP
      (repeat' (first | (k_unfold; (try dsimp only)) | walk1 | (dsimp only; walk1) | fail "no step"))
      show Done _ _ _
      rename Fr _ _ _ _ => F9
      rename News _ _ _ _ => N9
      exact ret _ _ _ _ _ F9.keep (N9 _ (.tail _ (.head _))).2.2 (N9 _ (.tail _ (.head _))).1 hP
theorem transl_K {w : World} {dp un : Nat} {fr : Option (List Env)} {gd : Option (List Code)} {s : Shared} {loose : List Str} {mean : ExcName → Option Value} {mg mb : Str → Option Value} {Q E : Value → Shared → Prop} {h₀ : Heap} {L : Addr} {m : Str → Option Value} {news : List (Addr × Obj)} {x q : Str} {l : List Nat} {tk tk2 : Tok} {S : Addr}
    (X : (Mine.hd.heap_1 w.params).In h₀) (T : Top topProg loose mean mg mb h₀) (F : Fr h₀ L s.heap m) (N : News h₀ L s.heap news) (hd : dp < 390) (hu : un < 900)
    (hxl : x = ⟨l.toArray⟩) (hq : q = ⟨#[46]⟩) (hx : ∀ c ∈ l, c < 128 ∧ c ≠ 91) (hn2 : l.length < 1000) (hS : (S, ({ cls := .type "object" } : Obj)) ∈ news)
    (ret : ∀ a vs k h' tk', Fr h₀ L h' m → News h₀ L h' ((a, PySem.W.listOf vs.toArray k) :: news) → PartsAre S (trParts l) vs → Q (.ref a) { s with heap := h', toks := tk' }) :
    wpAny (model PySem.Challenge.rw_ij0025_01.row.toRowW.prog w) (Ar dp un fr gd) (call (.ref 62) [.str x tk, .ref S, .str q tk2]) Q E s :=
  transl_spec (X.keeps F.keep) (T.keeps F.keep) hd hu hxl hq hx hn2 (N.get hS) fun a vs k h' tk' hk hf ho hP => ret a vs k h' tk' (F.keeps hk) (news_made F N hk hf ho) hP
local macro_rules | `(tactic| walk_at "call ref") => `(tactic| (k_here; (with_reducible show wpAny _ _ (call (Value.ref 62) [_, _, _]) _ _ _); k_dflt (refine' transl_K ?k1 ?k2 ?k3 ?k4 ?k5 ?k6 rfl dotq ?k7 ?k8 ?k9 ?_; (case k1 | k2 | k3 | k4 => k_asm); (case k5 => walk_at "@d1"); (case k6 => walk_at "@d3"); (case k7 => assumption); (case k8 => omega); (case k9 => k_mem); k_whole); intro a' vs' k' h' tk' F' N' hP'; (try k_sweep)))
theorem join_spec {w : World} {dp un : Nat} {fr : Option (List Env)} {gd : Option (List Code)} {s : Shared} {loose : List Str} {mean : ExcName → Option Value} {mg mb : Str → Option Value} {Q E : Value → Shared → Prop}
  (X : (Mine.hd.heap_1 w.params).In s.heap) (T : Top topProg loose mean mg mb s.heap) (hd : dp < 390) (hu : un < 900)
  {a S : Addr} {ps : List (Option (List Nat))} {vs : List Value} (hl : s.heap.IsList a vs.toArray) (hP : PartsAre S ps vs) (hn : ps.length < 1000) (hn2 : (joinF ps).length < 100000) (hS : s.heap.get? S = some { cls := .type "object" }) (hNN : ∀ i, ps[i]? = some none → ps[i + 1]? ≠ some none)
  (ret : ∀ h' tk' t', Keep s.heap h' → Q (.str ⟨([40, 63, 115, 58] ++ joinF ps ++ [41, 92, 90]).toArray⟩ t') { s with heap := h', toks := tk' }) : wpAny (model PySem.Challenge.rw_ij0025_01.row.toRowW.prog w) (Ar dp un fr gd) (call (.ref 69) [.ref a, .ref S]) Q E s := by
  w_top off
  (have X9 := X); revert X9; k_fill; intro X9; clear X9
  refine' enter X T ?k6 ?k7 ?k8 ?k9 ?kB ?_ ?c2 ?c3 ?c4 ?c5
  case k6 => k_is
  case k7 => k_is
  case k8 => show dp < _; exact Nat.lt_of_lt_of_le hd (by decide)
  case k9 => first | exact BindsTo.of_eq rfl | exact binds_K X rfl (by k_is) rfl rfl rfl
  case c5 => decide
  case kB => exact locs rfl
  case c2 => exact rfl
  case c3 => exact rfl
  case c4 => exact rfl
  k_whole
  intro g' L' h' F' N' X' T' hg hL'
  subst hg
  clear X T
  (try dsimp only); (try k_fold)
  have hPl := hP.length
  (repeat' (first | (k_unfold; (try dsimp only)) | walk1 | (dsimp only; walk1) | fail "no step"))
  unfold Halt
  rename Fr _ _ _ _ => F1
  rename News _ _ _ _ => N1
  rename_i r hA lA hB tkA q hC lC hD D hE lE hF hG hH
  refine' ksw_while (σ := Nat × Tok × List (List Nat) × List Value × Nat) (fun c => [(q, apObj r), (r, PySem.W.listOf c.2.2.2.1.toArray c.2.2.2.2)]) (fun c => [(Str.ofString "i", Value.int c.1 c.2.1)]) (fun _ => True) [] (fun c => c.1 ≤ ps.length ∧ TextsAre c.2.2.1 c.2.2.2.1 ∧ c.2.2.1.length ≤ c.1 ∧ c.2.2.1.flatten ++ joinF (ps.drop c.1) = joinF ps) (fun c => ps.length - c.1) (0, _, [], [], 0) F1 (fun p hp => N1 p (List.mem_cons_of_mem _ hp)) trivial ?hk ⟨Nat.zero_le _, .nil, Nat.zero_le _, rfl⟩ ?turn
  case hk => kst_all
  case turn =>
    intro c u h3 tk3 hf3 hp3 F3 N3
    obtain ⟨i, ti, us, rs, k⟩ := c
    dsimp only [kstB] at F3
    dsimp only at N3 hp3
    obtain ⟨hi, hTx, hlen, hfl⟩ := hp3
    have hTl := hTx.length
    clear F1 N1 hf3
    by_cases hx : ∃ u9, ps[i]? = some (some u9)
    · obtain ⟨u9, hc⟩ := hx
      have hlt : i < ps.length := by
        rcases Nat.lt_or_ge i ps.length with h1 | h1
        · exact h1
        · rw [List.getElem?_eq_none h1] at hc; cases hc
      have hdr := drop_at hc
      obtain ⟨v, hv, t8, rfl⟩ := hP.at _ _ hc
      rw [hdr] at hfl
      (repeat' (first | (k_unfold; (try dsimp only)) | walk1 | (dsimp only; walk1) | fail "no step"))
      unfold Halt
      rename Fr _ _ _ _ => F9
      rename News _ _ _ _ => N9
      simp only [List.push_toArray] at N9
      refine' ksw_end (i + 1, _, us ++ [u9], rs ++ [Value.str ⟨u9.toArray⟩ t8], k + 1) F9 N9 (by kst_in) trivial ?hk (by ksw_same) ⟨by dsimp only; omega, hTx.snoc, by simp; omega, ?_⟩ (by dsimp only; omega)
      case hk => kst_all
      show (us ++ [u9]).flatten ++ joinF (ps.drop (i + 1)) = _
      rw [← hfl]; simp [joinF]
    · have hy : (i < ps.length ∧ ps[i]? = some none ∧ vs[i]? = some (.ref S) ∧ us.flatten ++ joinG [] (ps.drop (i + 1)) = joinF ps) ∨ (i = ps.length ∧ us.flatten = joinF ps) := by
        rcases Nat.lt_or_ge i ps.length with h1 | h1
        · left
          have hc : ps[i]? = some none := by
            cases hq : ps[i]? with
            | none => rw [List.getElem?_eq_none_iff] at hq; omega
            | some p => cases p with
              | none => rfl
              | some u9 => exact absurd ⟨u9, hq⟩ hx
          obtain ⟨v, hv, hpv⟩ := hP.at _ _ hc
          obtain rfl : v = .ref S := hpv
          rw [drop_at hc] at hfl
          exact ⟨h1, hc, hv, hfl⟩
        · right
          have : i = ps.length := by omega
          subst this
          rw [List.drop_length] at hfl
          exact ⟨rfl, by simpa [joinF] using hfl⟩
      have hin : (i < ps.length ∧ ps[i]? = some none ∧ us.flatten ++ joinG [] (ps.drop (i + 1)) = joinF ps) ∨ (i = ps.length ∧ us.flatten = joinF ps) := by
        rcases hy with ⟨h1, h2, h3, h4⟩ | h
        · exact .inl ⟨h1, h2, h4⟩
        · exact .inr h
      clear hx hfl
      rcases hy with ⟨hlt, hc, hv, _⟩ | ⟨hil, _⟩
      · skip
        (repeat' (first | (k_unfold; (try dsimp only)) | walk1 | (dsimp only; walk1) | fail "no step"))
        unfold Halt
        rename Fr _ _ _ _ => F1
        rename News _ _ _ _ => N1
        refine' ksw_while (σ := Nat × Tok × List (List Nat) × List Value × Nat) (fun c => [(q, apObj r), (r, PySem.W.listOf c.2.2.2.1.toArray c.2.2.2.2)]) (fun c => [(Str.ofString "i", Value.int c.1 c.2.1)]) (fun _ => True) [Str.ofString "fixed"] (fun c => c.1 ≤ ps.length ∧ TextsAre c.2.2.1 c.2.2.2.1 ∧ c.2.2.1.length ≤ 2 * c.1 ∧ ((c.1 < ps.length ∧ ps[c.1]? = some none ∧ c.2.2.1.flatten ++ joinG [] (ps.drop (c.1 + 1)) = joinF ps) ∨ (c.1 = ps.length ∧ c.2.2.1.flatten = joinF ps))) (fun c => ps.length - c.1) (i, _, us, rs, k) F1 (fun p hp => N1 p hp) trivial ?hk ⟨hi, hTx, by dsimp only; omega, hin⟩ ?turn
        case hk => kst_all
        case turn =>
          intro c u h3 tk3 hf3 hp3 F3 N3
          clear hin hTx hlen hTl hi F1 N1
          (try clear hlt hc hv)
          (try clear hil)
          obtain ⟨i, ti, us, rs, k⟩ := c
          dsimp only [kstB] at F3
          dsimp only at N3 hp3
          obtain ⟨hi, hTx, hlen, hin⟩ := hp3
          have hTl := hTx.length
          clear hf3
          rcases hin with ⟨hlt, hc, hfl⟩ | ⟨hil, hfl⟩
          · obtain ⟨v, hv, hpv⟩ := hP.at _ _ hc
            obtain rfl : v = .ref S := hpv
            by_cases hil : i + 1 = ps.length
            · rw [hil, List.drop_length] at hfl
              (repeat' (first | (k_unfold; (try dsimp only)) | walk1 | (dsimp only; walk1) | fail "no step"))
              unfold Halt
              rename Fr _ _ _ _ => F9
              rename News _ _ _ _ => N9
              simp only [List.push_toArray, dotstar] at N9
              have hfl' : (us ++ [[46, 42]]).flatten = joinF ps := by simpa [joinG] using hfl
              refine' join_E (us := us ++ [[46, 42]]) (News.isList N9 (.tail _ (.head _))) hTx.snoc (by rw [hfl']; omega) ?_
              rw [hfl']
              intro t9 tk9
              (repeat' (first | (k_unfold; (try dsimp only)) | walk1 | (dsimp only; walk1) | fail "no step"))
              rw [head_tail]
              show Done _ _ _
              rename Fr _ _ _ _ => F9
              exact ret _ _ _ F9.keep
            · have hnn := hNN i hc
              obtain ⟨u8, hc8⟩ : ∃ u8, ps[i + 1]? = some (some u8) := by
                cases hq : ps[i + 1]? with
                | none => rw [List.getElem?_eq_none_iff] at hq; omega
                | some p => cases p with
                  | none => exact absurd hq hnn
                  | some u9 => exact ⟨u9, rfl⟩
              obtain ⟨v8, hv8, t8, rfl⟩ := hP.at _ _ hc8
              have hgt : i + 1 < vs.length := by omega
              have hne : decide (((i : Int) + 1) = (vs.length : Int)) = false := decide_eq_false (by omega)
              have hne2 : (((i : Int) + 1) == (vs.length : Int)) = false := beq_eq_false_iff_ne.mpr (by omega)
              (repeat' (first | (k_unfold; (try dsimp only)) | walk1 | (dsimp only; walk1) | fail "no step"))
              unfold Halt
              rename Fr _ _ _ _ => F1
              rename News _ _ _ _ => N1
              rename_i z lZ hZ2 hZ3
              clear hne hne2
              refine' ksw_while (σ := Nat × Tok × List (List Nat) × List Value × Nat) (fun c => [(z, PySem.W.listOf c.2.2.2.1.toArray c.2.2.2.2), (q, apObj r), (r, PySem.W.listOf rs.toArray k)]) (fun c => [(Str.ofString "i", Value.int c.1 c.2.1)]) (fun _ => True) [] (fun c => i + 1 ≤ c.1 ∧ c.1 ≤ ps.length ∧ TextsAre c.2.2.1 c.2.2.2.1 ∧ c.2.2.1.length ≤ c.1 ∧ us.flatten ++ joinG c.2.2.1.flatten (ps.drop c.1) = joinF ps) (fun c => ps.length - c.1) (i + 1, _, [], [], 0) F1 (fun p hp => N1 p hp) trivial ?hk ⟨Nat.le_refl _, by dsimp only; omega, .nil, Nat.zero_le _, hfl⟩ ?turn
              case hk => kst_all
              case turn =>
                intro c u h3 tk3 hf3 hp3 F3 N3
                clear F1 N1 hfl hc8 hv8 hf3 hc hv hgt hil
                obtain ⟨j, tj, fs, fv, kf⟩ := c
                dsimp only [kstB] at F3
                dsimp only at N3 hp3
                obtain ⟨hij, hjn, hFx, hflen, hfl⟩ := hp3
                have hFl := hFx.length
                have hfb : fs.flatten.length ≤ (joinF ps).length := by
                  rw [← hfl, List.length_append]
                  have := joinG_acc (ps.drop j) fs.flatten
                  omega
                by_cases hx : ∃ u9, ps[j]? = some (some u9)
                · obtain ⟨u9, hc⟩ := hx
                  have hltj : j < ps.length := by
                    rcases Nat.lt_or_ge j ps.length with h1 | h1
                    · exact h1
                    · rw [List.getElem?_eq_none h1] at hc; cases hc
                  obtain ⟨v, hv, t8, rfl⟩ := hP.at _ _ hc
                  rw [drop_at hc] at hfl
                  (repeat' (first | (k_unfold; (try dsimp only)) | walk1 | (dsimp only; walk1) | fail "no step"))
                  unfold Halt
                  rename Fr _ _ _ _ => F9
                  rename News _ _ _ _ => N9
                  simp only [List.push_toArray] at N9
                  refine' ksw_end (j + 1, _, fs ++ [u9], fv ++ [Value.str ⟨u9.toArray⟩ t8], kf + 1) F9 N9 (by kst_in) trivial ?hk (by ksw_same) ⟨by dsimp only; omega, by dsimp only; omega, hFx.snoc, by simp; omega, ?_⟩ (by dsimp only; omega)
                  case hk => kst_all
                  show us.flatten ++ joinG (fs ++ [u9]).flatten (ps.drop (j + 1)) = _
                  rw [← hfl]; simp [joinG]
                · have hy : (j < ps.length ∧ ps[j]? = some none ∧ vs[j]? = some (.ref S)) ∨ j = ps.length := by
                    rcases Nat.lt_or_ge j ps.length with h1 | h1
                    · left
                      have hc : ps[j]? = some none := by
                        cases hq : ps[j]? with
                        | none => rw [List.getElem?_eq_none_iff] at hq; omega
                        | some p => cases p with
                          | none => rfl
                          | some u9 => exact absurd ⟨u9, hq⟩ hx
                      obtain ⟨v, hv, hpv⟩ := hP.at _ _ hc
                      obtain rfl : v = .ref S := hpv
                      exact ⟨h1, hc, hv⟩
                    · right; omega
                  rcases hy with ⟨hltj, hc, hv⟩ | hjl
                  · rw [drop_at hc] at hfl
                    have hne : decide (((j : Int)) = (vs.length : Int)) = false := decide_eq_false (by omega)
                    have hne2 : (((j : Int)) == (vs.length : Int)) = false := beq_eq_false_iff_ne.mpr (by omega)
                    (repeat' (first | (k_unfold; (try dsimp only)) | walk1 | (dsimp only; walk1) | fail "no step"))
                    unfold Halt
                    rename Fr _ _ _ _ => F9
                    rename News _ _ _ _ => N9
                    refine' join_E (us := fs) (News.isList N9 (.head _)) hFx (by omega) ?_
                    intro t9 tk9
                    (repeat' (first | (k_unfold; (try dsimp only)) | walk1 | (dsimp only; walk1) | fail "no step"))
                    unfold Halt
                    rename Fr _ _ _ _ => F9
                    rename News _ _ _ _ => N9
                    simp only [lazy_fixed, List.push_toArray] at N9
                    refine' ksw_end (j, _, us ++ [[40, 63, 62, 46, 42, 63] ++ fs.flatten ++ [41]], rs ++ [Value.str ⟨([40, 63, 62, 46, 42, 63] ++ fs.flatten ++ [41]).toArray⟩ _], k + 1) F9 N9 (by kst_in) trivial ?hk (by ksw_same) ⟨by dsimp only; omega, hTx.snoc, by simp; omega, .inl ⟨hltj, hc, ?_⟩⟩ (by dsimp only; omega)
                    case hk => kst_all
                    rw [← hfl]; simp [joinG]
                  · subst hjl
                    rw [List.drop_length] at hfl
                    have hne : decide (((ps.length : Int)) = (vs.length : Int)) = true := decide_eq_true (by omega)
                    have hne2 : (((ps.length : Int)) == (vs.length : Int)) = true := beq_iff_eq.mpr (by omega)
                    (repeat' (first | (k_unfold; (try dsimp only)) | walk1 | (dsimp only; walk1) | fail "no step"))
                    unfold Halt
                    rename Fr _ _ _ _ => F9
                    rename News _ _ _ _ => N9
                    refine' join_E (us := fs) (News.isList N9 (.head _)) hFx (by omega) ?_
                    intro t9 tk9
                    (repeat' (first | (k_unfold; (try dsimp only)) | walk1 | (dsimp only; walk1) | fail "no step"))
                    unfold Halt
                    rename Fr _ _ _ _ => F9
                    rename News _ _ _ _ => N9
                    simp only [List.push_toArray, dotstar] at N9
                    refine' ksw_end (ps.length, _, (us ++ [[46, 42]]) ++ [fs.flatten], (rs ++ [Value.str ⟨[46, 42].toArray⟩ _]) ++ [Value.str ⟨fs.flatten.toArray⟩ _], k + 1 + 1) F9 N9 (by kst_in) trivial ?hk (by ksw_same) ⟨Nat.le_refl _, hTx.snoc.snoc, by simp; omega, .inr ⟨rfl, ?_⟩⟩ (by dsimp only; omega)
                    case hk => kst_all
                    rw [← hfl]; simp [joinG]
          · (repeat' (first | (k_unfold; (try dsimp only)) | walk1 | (dsimp only; walk1) | fail "no step"))
            unfold Halt
            rename Fr _ _ _ _ => F9
            rename News _ _ _ _ => N9
            refine' join_E (us := us) (News.isList N9 (.tail _ (.head _))) hTx (by rw [hfl]; omega) ?_
            rw [hfl]
            intro t9 tk9
            (repeat' (first | (k_unfold; (try dsimp only)) | walk1 | (dsimp only; walk1) | fail "no step"))
            rw [head_tail]
            show Done _ _ _
            rename Fr _ _ _ _ => F9
            exact ret _ _ _ F9.keep
      · skip
        have hfl : us.flatten = joinF ps := by
          rcases hin with ⟨h1, _⟩ | h
          · omega
          · exact h.2
        (repeat' (first | (k_unfold; (try dsimp only)) | walk1 | (dsimp only; walk1) | fail "no step"))
        unfold Halt
        rename Fr _ _ _ _ => F1
        rename News _ _ _ _ => N1
        refine' ksw_while (σ := Nat) (fun c => [(q, apObj r), (r, PySem.W.listOf rs.toArray k)]) (fun c => [(Str.ofString "i", Value.int i ti)]) (fun _ => True) [] (fun c => True) (fun c => c) 0 F1 (fun p hp => N1 p hp) trivial ?hk trivial ?turn
        case hk => kst_all
        case turn =>
          intro c u h3 tk3 hf3 hp3 F3 N3
          dsimp only [kstB] at F3
          clear hf3 hp3 F1 N1
          (repeat' (first | (k_unfold; (try dsimp only)) | walk1 | (dsimp only; walk1) | fail "no step"))
          unfold Halt
          rename Fr _ _ _ _ => F9
          rename News _ _ _ _ => N9
          refine' join_E (us := us) (News.isList N9 (.tail _ (.head _))) hTx (by rw [hfl]; omega) ?_
          rw [hfl]
          intro t9 tk9
          (repeat' (first | (k_unfold; (try dsimp only)) | walk1 | (dsimp only; walk1) | fail "no step"))
          rw [head_tail]
          show Done _ _ _
          rename Fr _ _ _ _ => F9
          exact ret _ _ _ F9.keep
theorem join_K {w : World} {dp un : Nat} {fr : Option (List Env)} {gd : Option (List Code)} {s : Shared} {loose : List Str} {mean : ExcName → Option Value} {mg mb : Str → Option Value} {Q E : Value → Shared → Prop} {h₀ : Heap} {L : Addr} {m : Str → Option Value} {news : List (Addr × Obj)} {a S : Addr} {ps : List (Option (List Nat))} {vs : List Value}
    (X : (Mine.hd.heap_1 w.params).In h₀) (T : Top topProg loose mean mg mb h₀) (F : Fr h₀ L s.heap m) (N : News h₀ L s.heap news) (hd : dp < 390) (hu : un < 900)
    (hl : s.heap.IsList a vs.toArray) (hP : PartsAre S ps vs) (hn : ps.length < 1000) (hn2 : (joinF ps).length < 100000) (hS : s.heap.get? S = some { cls := .type "object" }) (hNN : ∀ i, ps[i]? = some none → ps[i + 1]? ≠ some none)
    (ret : ∀ h' tk' t', Fr h₀ L h' m → News h₀ L h' news → Q (.str ⟨([40, 63, 115, 58] ++ joinF ps ++ [41, 92, 90]).toArray⟩ t') { s with heap := h', toks := tk' }) :
    wpAny (model PySem.Challenge.rw_ij0025_01.row.toRowW.prog w) (Ar dp un fr gd) (call (.ref 69) [.ref a, .ref S]) Q E s :=
  join_spec (X.keeps F.keep) (T.keeps F.keep) hd hu hl hP hn hn2 hS hNN fun h' tk' t' hk => ret h' tk' t' (F.keeps hk) (N.grown hk)
local macro_rules | `(tactic| walk_at "call ref") => `(tactic| (k_here; (with_reducible show wpAny _ _ (call (Value.ref 69) [_, _]) _ _ _); k_dflt (refine' join_K ?k1 ?k2 ?k3 ?k4 ?k5 ?k6 ?l1 (by assumption) ?k7 ?k8 ?k9 (trParts_nn _) ?_; (case k1 | k2 | k3 | k4 => k_asm); (case k5 => walk_at "@d1"); (case k6 => walk_at "@d3"); (case l1 => walk_at "@n"); (case k7 | k8 => omega); (case k9 => refine News.get (by k_asm) (by k_mem)); k_whole); intro h' tk' t' F' N'; (try k_sweep)))
theorem translate_spec {w : World} {dp un : Nat} {fr : Option (List Env)} {gd : Option (List Code)} {s : Shared} {loose : List Str} {mean : ExcName → Option Value} {mg mb : Str → Option Value} {Q E : Value → Shared → Prop}
  (X : (Mine.hd.heap_1 w.params).In s.heap) (T : Top topProg loose mean mg mb s.heap) (hd : dp < 380) (hu : un < 800)
  {x : Str} {l : List Nat} {tk : Tok} (hxl : x = ⟨l.toArray⟩) (hx : ∀ c ∈ l, c < 128 ∧ c ≠ 91) (hn : l.length < 1000)
  (ret : ∀ h' tk' t', Keep s.heap h' → Q (.str ⟨(trText l).toArray⟩ t') { s with heap := h', toks := tk' }) : wpAny (model PySem.Challenge.rw_ij0025_01.row.toRowW.prog w) (Ar dp un fr gd) (call (.ref 43) [.str x tk]) Q E s := by
  w_top off
  (have X9 := X); revert X9; k_fill; intro X9; clear X9
  subst hxl
  refine' enter X T ?k6 ?k7 ?k8 ?k9 ?kB ?_ ?c2 ?c3 ?c4 ?c5
  case k6 => k_is
  case k7 => k_is
  case k8 => show dp < _; exact Nat.lt_of_lt_of_le hd (by decide)
  case k9 => first | exact BindsTo.of_eq rfl | exact binds_K X rfl (by k_is) rfl rfl rfl
  case c5 => decide
  case kB => exact locs rfl
  case c2 => exact rfl
  case c3 => exact rfl
  case c4 => exact rfl
  k_whole
  intro g' L' h' F' N' X' T' hg hL'
  subst hg
  clear X T
  (try dsimp only); (try k_fold)
  have hlen := trParts_length l []
  change (trParts l).length ≤ _ at hlen
  simp only [List.length_nil, Nat.zero_add] at hlen
  have hjl := joinF_length _ (trParts_short l)
  (repeat' (first | (k_unfold; (try dsimp only)) | walk1 | (dsimp only; walk1) | fail "no step"))
  all_goals
    show Done _ _ _
    rename Fr _ _ _ _ => F9
    exact ret _ _ _ F9.keep
theorem translate_CK {w : World} {dp un : Nat} {fr : Option (List Env)} {gd : Option (List Code)} {s : Shared} {loose : List Str} {mean : ExcName → Option Value} {mg mb : Str → Option Value} {Q E : Value → Shared → Prop} {h₀ : Heap} {L : Addr} {m : Str → Option Value} {news : List (Addr × Obj)} {x : Str} {l : List Nat} {tk : Tok}
    (X : (Mine.hd.heap_1 w.params).In h₀) (T : Top topProg loose mean mg mb h₀) (F : Fr h₀ L s.heap m) (N : News h₀ L s.heap news) (hd : dp < 380) (hu : un < 800)
    (hxl : x = ⟨l.toArray⟩) (hx : ∀ c ∈ l, c < 128 ∧ c ≠ 91) (hn : l.length < 1000)
    (ret : ∀ h' tk' t', Fr h₀ L h' m → News h₀ L h' news → Q (.str ⟨(trText l).toArray⟩ t') { s with heap := h', toks := tk' }) :
    wpAny (model PySem.Challenge.rw_ij0025_01.row.toRowW.prog w) (Ar dp un fr gd) (call (.ref 43) [.str x tk]) Q E s :=
  translate_spec (X.keeps F.keep) (T.keeps F.keep) hd hu hxl hx hn fun h' tk' t' hk => ret h' tk' t' (F.keeps hk) (N.grown hk)
theorem capwords_spec {w : World} {dp un : Nat} {fr : Option (List Env)} {gd : Option (List Code)} {s : Shared} {loose : List Str} {mean : ExcName → Option Value} {mg mb : Str → Option Value} {Q E : Value → Shared → Prop}
  (X : (Mine.hd.heap_1 w.params).In s.heap) (T : Top topProg loose mean mg mb s.heap) (hd : dp < 380) (hu : un < 800)
  {x : Str} {tk : Tok} (hn : x.length < 1000)
  (ret : ∀ h' tk' t', Keep s.heap h' → Q (.str (Txt.join (Str.ofString " ") ((Txt.words x).map Txt.capitalize)) t') { s with heap := h', toks := tk' }) : wpAny (model PySem.Challenge.rw_ij0025_01.row.toRowW.prog w) (Ar dp un fr gd) (call (.ref 77) [.str x tk]) Q E s := by
  w_top off
  (have X9 := X); revert X9; k_fill; intro X9; clear X9
  refine' enter X T ?k6 ?k7 ?k8 ?k9 ?kB ?_ ?c2 ?c3 ?c4 ?c5
  case k6 => k_is
  case k7 => k_is
  case k8 => show dp < _; exact Nat.lt_of_lt_of_le hd (by decide)
  case k9 => first | exact BindsTo.of_eq rfl | exact binds_K X rfl (by k_is) rfl rfl rfl
  case c5 => decide
  case kB => exact locs rfl
  case c2 => exact rfl
  case c3 => exact rfl
  case c4 => exact rfl
  k_whole
  intro g' L' h' F' N' X' T' hg hL'
  subst hg
  clear X T
  (try dsimp only); (try k_fold)
  (repeat' (first | (k_unfold; (try dsimp only)) | walk1 | (dsimp only; walk1) | fail "no step"))
  unfold Halt
  rename (List.map _ _ = Txt.words _) => e1
  rename (∀ a, a ∈ List.map _ _ → _) => e2
  rename Heap.IsList _ _ _ => hL1
  rename Fr _ _ _ _ => F9
  have ha : _ < _ := (by obtain ⟨o, ho, _⟩ := hL1; exact Heap.lt_size ho)
  refine' call_map hL1 ?_
  intro h2 g1 g2 g3 gsz gk
  (repeat' (first | (k_unfold; (try dsimp only)) | walk1 | (dsimp only; walk1) | fail "no step"))
  unfold Halt
  refine' joinMap rfl (Nat.ne_of_gt (Nat.lt_add_of_pos_right (by decide))) (Nat.ne_of_gt (Nat.lt_add_of_pos_right (by decide))) (Nat.ne_of_lt ha) g1 g2 g3 (by obtain ⟨o, ho, r⟩ := hL1; exact ⟨o, gk _ _ ho, r⟩) (cap_small e2 hn) (cap_count e1 hn) (cap_fits e1 hn) ?_
  intro h3 tk3 t3 hk3
  rw [cap_words e1]
  (repeat' (first | (k_unfold; (try dsimp only)) | walk1 | (dsimp only; walk1) | fail "no step"))
  show Done _ _ _
  refine ret _ _ _ fun b o hb => hk3 _ _ ?_ (gk _ _ (F9.keep _ _ hb))
  have := Heap.lt_size (F9.keep _ _ hb)
  exact Nat.ne_of_lt this
theorem capwords_K {w : World} {dp un : Nat} {fr : Option (List Env)} {gd : Option (List Code)} {s : Shared} {loose : List Str} {mean : ExcName → Option Value} {mg mb : Str → Option Value} {Q E : Value → Shared → Prop} {h₀ : Heap} {L : Addr} {m : Str → Option Value} {news : List (Addr × Obj)} {x : Str} {tk : Tok}
    (X : (Mine.hd.heap_1 w.params).In h₀) (T : Top topProg loose mean mg mb h₀) (F : Fr h₀ L s.heap m) (N : News h₀ L s.heap news) (hd : dp < 380) (hu : un < 800)
    (hn : x.length < 1000)
    (ret : ∀ h' tk' t', Fr h₀ L h' m → News h₀ L h' news → Q (.str (Txt.join (Str.ofString " ") ((Txt.words x).map Txt.capitalize)) t') { s with heap := h', toks := tk' }) :
    wpAny (model PySem.Challenge.rw_ij0025_01.row.toRowW.prog w) (Ar dp un fr gd) (call (.ref 77) [.str x tk]) Q E s :=
  capwords_spec (X.keeps F.keep) (T.keeps F.keep) hd hu hn fun h' tk' t' hk => ret h' tk' t' (F.keeps hk) (N.grown hk)
theorem lfit_spec {w : World} {dp un : Nat} {fr : Option (List Env)} {gd : Option (List Code)} {s : Shared} {loose : List Str} {mean : ExcName → Option Value} {mg mb : Str → Option Value} {Q E : Value → Shared → Prop}
  (X : (Mine.hd.heap_1 w.params).In s.heap) (T : Top topProg loose mean mg mb s.heap) (hd : dp < 390) (hu : un < 900)
  {x : Nat} {tx : Tok} (hx : x < 1000000)
  (ret : ∀ b ws k h' tk', Keep s.heap h' → s.heap.get? b = none → h'.get? b = some (PySem.W.listOf ws.toArray k) → CodesAre (fittingOf x) ws → Q (.ref b) { s with heap := h', toks := tk' }) : wpAny (model PySem.Challenge.rw_ij0025_01.row.toRowW.prog w) (Ar dp un fr gd) (call (.ref 89) [.int (x : Int) tx]) Q E s := by
  w_top off
  (have X9 := X); revert X9; k_fill; intro X9; clear X9
  refine' enter X T ?k6 ?k7 ?k8 ?k9 ?kB ?_ ?c2 ?c3 ?c4 ?c5
  case k6 => k_is
  case k7 => k_is
  case k8 => show dp < _; exact Nat.lt_of_lt_of_le hd (by decide)
  case k9 => first | exact BindsTo.of_eq rfl | exact binds_K X rfl (by k_is) rfl rfl rfl
  case c5 => decide
  case kB => exact locs rfl
  case c2 => exact rfl
  case c3 => exact rfl
  case c4 => exact rfl
  k_whole
  intro g' L' h' F' N' X' T' hg hL'
  subst hg
  clear X T
  (try dsimp only); (try k_fold)
  have e1 : (x : Int).fmod 9 = ((x % 9 : Nat) : Int) := fmodN x 9
  have e2 : (x : Int).fdiv 9 = ((x / 9 : Nat) : Int) := fdivN x 9
  have e3 : ((x : Int).fdiv 9).fmod 2 = ((x / 9 % 2 : Nat) : Int) := by rw [e2]; exact fmodN _ 2
  have e4 : ((x : Int).fdiv 9).fmod 7 = ((x / 9 % 7 : Nat) : Int) := by rw [e2]; exact fmodN _ 7
  have e5 : (((x : Int).fdiv 9).fdiv 7).fmod 7 = ((x / 9 / 7 % 7 : Nat) : Int) := by rw [e2, show ((x / 9 : Nat) : Int).fdiv 7 = ((x / 9 / 7 : Nat) : Int) from fdivN _ 7]; exact fmodN _ 7
  have e6 : ((x : Int).fmod 9).fdiv 2 = ((x % 9 / 2 : Nat) : Int) := by rw [e1]; exact fdivN _ 2
  have e7 : ((x : Int).fmod 9 + (x : Int).fdiv 9).fmod 2 = (((x % 9 + x / 9) % 2 : Nat) : Int) := by rw [e1, e2, ← Int.natCast_add]; exact fmodN _ 2
  (repeat' (first | (k_unfold; (try dsimp only)) | walk1 | (dsimp only; walk1) | fail "no step"))
  all_goals
    show Done _ _ _
    rename Fr _ _ _ _ => F9
    rename News _ _ _ _ => N9
    have hN := N9 _ (.head _)
    refine ret _ _ _ _ _ F9.keep hN.2.2 hN.1 ?_
    clear F9 N9 hN X' T' qk ek
    unfold fittingOf
    (repeat' split) <;> first | (exfalso; omega) | exact .nil | exact codes1 (by omega) | exact codes2 (by omega) (by omega)
theorem lfit_K {w : World} {dp un : Nat} {fr : Option (List Env)} {gd : Option (List Code)} {s : Shared} {loose : List Str} {mean : ExcName → Option Value} {mg mb : Str → Option Value} {Q E : Value → Shared → Prop} {h₀ : Heap} {L : Addr} {m : Str → Option Value} {news : List (Addr × Obj)} {x : Nat} {tx : Tok}
    (X : (Mine.hd.heap_1 w.params).In h₀) (T : Top topProg loose mean mg mb h₀) (F : Fr h₀ L s.heap m) (N : News h₀ L s.heap news) (hd : dp < 390) (hu : un < 900)
    (hx : x < 1000000)
    (ret : ∀ b ws k h' tk', Fr h₀ L h' m → News h₀ L h' ((b, PySem.W.listOf ws.toArray k) :: news) → AllNe b news → CodesAre (fittingOf x) ws → Q (.ref b) { s with heap := h', toks := tk' }) :
    wpAny (model PySem.Challenge.rw_ij0025_01.row.toRowW.prog w) (Ar dp un fr gd) (call (.ref 89) [.int (x : Int) tx]) Q E s :=
  lfit_spec (X.keeps F.keep) (T.keeps F.keep) hd hu hx fun b ws k h' tk' hk hf ho hP => ret b ws k h' tk' (F.keeps hk) (news_made F N hk hf ho) (allNe_of (news_ne N hf)) hP
local macro_rules | `(tactic| walk_at "CompSrc") => `(tactic| refine Halt.intro ?_)
local macro_rules | `(tactic| walk_at "CompSrcT") => `(tactic| refine Halt.intro ?_)
local macro_rules | `(tactic| walk_at "CompEnd") => `(tactic| refine Halt.intro ?_)
local macro_rules | `(tactic| walk_at "FinE") => `(tactic| ((unfold LCg.FinE); intro D' h' tk' F' N' o1'; (try simp only [LCg.Off1, and_true] at o1'); (try simp only [List.nil_append, List.cons_append] at N'); (try dsimp only)))
local macro_rules | `(tactic| walk_at "FinA") => `(tactic| ((unfold LCg.FinA); intro D' h' tk' F' N' o1'; (try simp only [LCg.Off1, and_true] at o1'); (try simp only [List.nil_append, List.cons_append] at N'); (try dsimp only)))
section
local macro_rules | `(tactic| walk_at "eval ListComp") => `(tactic| (k_here; k_dflt (refine LCt.ListComp_T (F₀ := by k_asm) (by with_unfolding_all rfl) (by decide) (by rfl) (by decide) (by rfl) ?_)))
theorem fits_spec {w : World} {dp un : Nat} {fr : Option (List Env)} {gd : Option (List Code)} {s : Shared} {loose : List Str} {mean : ExcName → Option Value} {mg mb : Str → Option Value} {Q E : Value → Shared → Prop}
  (X : (Mine.hd.heap_1 w.params).In s.heap) (T : Top topProg loose mean mg mb s.heap) (hd : dp < 380) (hu : un < 800)
  {a : Addr} {x : Str} {nm : List Nat} {tn : Tok} {p : Nat} {tp : Tok} {ps : List (Option Nat)} {vs : List Value} (hxl : x = ⟨nm.toArray⟩) (hl : s.heap.IsList a vs.toArray) (hP : AtomsAre ps vs) (hv : ps.length < 100000) (hn : nm.length < 1000) (hp : p < 2000)
  (ret : ∀ h' tk', Keep s.heap h' → Q (.bool (fitsAt ps nm p)) { s with heap := h', toks := tk' }) : wpAny (model PySem.Challenge.rw_ij0025_01.row.toRowW.prog w) (Ar dp un fr gd) (call (.ref 113) [.ref a, .str x tn, .int p tp]) Q E s := by
  w_top off
  (have X9 := X); revert X9; k_fill; intro X9; clear X9
  subst hxl
  refine' enterC X T ?k6 ?k7 ?k8 ?k9 ?kB ?kD ?_ ?c2 ?c3 ?c4
  case k6 => k_is
  case k7 => k_is
  case k8 => show dp < _; exact Nat.lt_of_lt_of_le hd (by decide)
  case k9 => first | exact BindsTo.of_eq rfl | exact binds_K X rfl (by k_is) rfl rfl rfl
  case kB => exact rfl
  case kD => decide +kernel
  case c2 => exact rfl
  case c3 => exact rfl
  case c4 => exact rfl
  k_whole
  intro g' L' h' tk' cells' F' N' Y' X' T' hg hL'
  subst hg
  clear X T
  k_cells Y'
  (try simp only [List.cons_append, List.nil_append] at N')
  (try dsimp only); (try k_fold)
  have hvl := hP.length
  by_cases hgt : nm.length < p + ps.length
  · (repeat' (first | (k_unfold; (try dsimp only)) | walk1 | (dsimp only; walk1) | fail "no step"))
    show Done _ _ _
    rename Fr _ _ _ _ => F9
    simp only [fits_not hgt] at ret
    exact ret _ _ F9.keep
  · (repeat' (first | (k_unfold; (try dsimp only)) | walk1 | (dsimp only; walk1) | fail "no step"))
    unfold Halt
    rename Fr _ _ _ _ => F1
    rename News _ _ _ _ => N1
    rename IsRange _ _ _ _ _ _ _ _ => hR
    refine' LCt.CompSrcT.range (n := ps.length) rfl F1 N1 hR (range_small (by decide) (by decide) (by omega) (by omega)) (range_size (by omega)) (by rw [sizeLine_eq]; omega) ?_
    intro g
    refine' restT_inv (n := ps.length) (σ := List Nat × List Value) (fun c => c.2) (fun _ => _) (fun i c => CodesAre c.1 c.2 ∧ c.1 = (List.range i).filter (fun k => !atomOk ps nm p k)) ?turn ?fin ps.length 0 ([], []) (Nat.zero_add _) ⟨.nil, rfl⟩
    case turn =>
      intro i c v I oI C oC D m2 h9 tk9 E9 hi hP9 hv9 hC9 hx9 F9 N9 off9 ne9
      obtain ⟨t9, hv9⟩ := hv9
      rw [Int.zero_add] at hv9
      subst hv9
      obtain ⟨ks, ys⟩ := c
      obtain ⟨q9, hq9⟩ : ∃ q, ps[i]? = some q := ⟨ps[i], by simp [hi]⟩
      obtain ⟨ta, hat⟩ := hP.at _ _ hq9
      obtain ⟨c9, hc9⟩ : ∃ c, nm[((p : Int) + (i : Int)).toNat]? = some c := ⟨nm[((p : Int) + (i : Int)).toNat], by simp⟩
      dsimp only at N9 hP9 ⊢
      clear F1 N1
      have off8 := off9
      try simp only [LCg.Off3, and_true] at off9
      have hfs := filter_range_snoc (f := fun k => !atomOk ps nm p k) (i := i)
      have hat9 := atom_any hq9 hc9
      cases hok : atomOk ps nm p i with
      | true =>
        rw [hok] at hat9 hfs
        (repeat' (first | (k_unfold; (try dsimp only)) | walk1 | (dsimp only; walk1) | fail "no step"))
        unfold Halt
        rename Fr _ _ _ _ => F8
        rename News _ _ _ _ => N8
        refine LCg.CompEnd.intro F8 N8 _ (by lcg_sub) off8 trivial ⟨(ks, ys), rfl, rfl, hP9.1, ?_⟩
        rw [hfs]; simpa using hP9.2
      | false =>
        rw [hok] at hat9 hfs
        (repeat' (first | (k_unfold; (try dsimp only)) | walk1 | (dsimp only; walk1) | fail "no step"))
        unfold Halt
        rename Fr _ _ _ _ => F8
        rename News _ _ _ _ => N8
        refine LCg.CompEnd.intro F8 N8 _ (by lcg_sub) off8 trivial ⟨(ks ++ [i], ys ++ [_]), rfl, rfl, hP9.1.snoc, ?_⟩
        rw [hfs]; simpa using hP9.2
    case fin =>
      intro c hc
      obtain ⟨ks, ys⟩ := c
      dsimp only at hc ⊢
      have hci := hc.1.ints
      clear F1 N1
      (repeat' (first | (k_unfold; (try dsimp only)) | walk1 | (dsimp only; walk1) | fail "no step"))
      show Done _ _ _
      rename Fr _ _ _ _ => F8
      rw [hc.2, fits_done hgt]
      exact ret _ _ F8.keep
theorem fits_K {w : World} {dp un : Nat} {fr : Option (List Env)} {gd : Option (List Code)} {s : Shared} {loose : List Str} {mean : ExcName → Option Value} {mg mb : Str → Option Value} {Q E : Value → Shared → Prop} {h₀ : Heap} {L : Addr} {m : Str → Option Value} {news : List (Addr × Obj)} {a : Addr} {x : Str} {nm : List Nat} {tn : Tok} {p : Nat} {tp : Tok} {ps : List (Option Nat)} {vs : List Value}
    (X : (Mine.hd.heap_1 w.params).In h₀) (T : Top topProg loose mean mg mb h₀) (F : Fr h₀ L s.heap m) (N : News h₀ L s.heap news) (hd : dp < 380) (hu : un < 800)
    (hxl : x = ⟨nm.toArray⟩) (hl : s.heap.IsList a vs.toArray) (hP : AtomsAre ps vs) (hv : ps.length < 100000) (hn : nm.length < 1000) (hp : p < 2000)
    (ret : ∀ h' tk', Fr h₀ L h' m → News h₀ L h' news → Q (.bool (fitsAt ps nm p)) { s with heap := h', toks := tk' }) :
    wpAny (model PySem.Challenge.rw_ij0025_01.row.toRowW.prog w) (Ar dp un fr gd) (call (.ref 113) [.ref a, .str x tn, .int p tp]) Q E s :=
  fits_spec (X.keeps F.keep) (T.keeps F.keep) hd hu hxl hl hP hv hn hp fun h' tk' hk => ret h' tk' (F.keeps hk) (N.grown hk)
theorem fits_KI {w : World} {dp un : Nat} {fr : Option (List Env)} {gd : Option (List Code)} {s : Shared} {loose : List Str} {mean : ExcName → Option Value} {mg mb : Str → Option Value} {Q E : Value → Shared → Prop} {h₀ : Heap} {L : Addr} {m : Str → Option Value} {news : List (Addr × Obj)} {a : Addr} {x : Str} {nm : List Nat} {tn : Tok} {pz : Int} {p : Nat} {tp : Tok} {ps : List (Option Nat)} {vs : List Value}
    (X : (Mine.hd.heap_1 w.params).In h₀) (T : Top topProg loose mean mg mb h₀) (F : Fr h₀ L s.heap m) (N : News h₀ L s.heap news) (hd : dp < 380) (hu : un < 800)
    (hxl : x = ⟨nm.toArray⟩) (hz : pz = (p : Int)) (hl : s.heap.IsList a vs.toArray) (hP : AtomsAre ps vs) (hv : ps.length < 100000) (hn : nm.length < 1000) (hp : p < 2000)
    (ret : ∀ h' tk', Fr h₀ L h' m → News h₀ L h' news → Q (.bool (fitsAt ps nm p)) { s with heap := h', toks := tk' }) :
    wpAny (model PySem.Challenge.rw_ij0025_01.row.toRowW.prog w) (Ar dp un fr gd) (call (.ref 113) [.ref a, .str x tn, .int pz tp]) Q E s := by
  subst hz
  exact fits_K X T F N hd hu hxl hl hP hv hn hp ret
end
section
local macro_rules | `(tactic| walk_at "subscriptTail") => `(tactic| (k_here; (with_reducible show wpAny _ _ (subscriptTail _ _ (Value.str (PySem.Str.ofString _) _) (Value.int _ _)) _ _ _); refine sub_signs (by with_reducible assumption) ?_))
local macro_rules | `(tactic| walk_at "Zz1") => `(tactic| refine Halt.intro ?_)
theorem ltext_spec {w : World} {dp un : Nat} {fr : Option (List Env)} {gd : Option (List Code)} {s : Shared} {loose : List Str} {mean : ExcName → Option Value} {mg mb : Str → Option Value} {Q E : Value → Shared → Prop}
  (X : (Mine.hd.heap_1 w.params).In s.heap) (T : Top topProg loose mean mg mb s.heap) (hd : dp < 390) (hu : un < 900)
  {a : Addr} {cs : List Nat} {vs : List Value} (hl : s.heap.IsList a vs.toArray) (hc : CodesAre cs vs) (hn : cs.length < 400) (hs : ∀ c ∈ cs, c < 9)
  (ret : ∀ h' tk' t', Keep s.heap h' → Q (.str ⟨(cs.map sgn).toArray⟩ t') { s with heap := h', toks := tk' }) : wpAny (model PySem.Challenge.rw_ij0025_01.row.toRowW.prog w) (Ar dp un fr gd) (call (.ref 82) [.ref a]) Q E s := by
  w_top off
  (have X9 := X); revert X9; k_fill; intro X9; clear X9
  refine' enter X T ?k6 ?k7 ?k8 ?k9 ?kB ?_ ?c2 ?c3 ?c4 ?c5
  case k6 => k_is
  case k7 => k_is
  case k8 => show dp < _; exact Nat.lt_of_lt_of_le hd (by decide)
  case k9 => first | exact BindsTo.of_eq rfl | exact binds_K X rfl (by k_is) rfl rfl rfl
  case c5 => decide
  case kB => exact locs rfl
  case c2 => exact rfl
  case c3 => exact rfl
  case c4 => exact rfl
  k_whole
  intro g' L' h' F' N' X' T' hg hL'
  subst hg
  clear X T
  (try dsimp only); (try k_fold)
  have hvl := hc.length
  (repeat' (first | (k_unfold; (try dsimp only)) | walk1 | (dsimp only; walk1) | fail "no step"))
  unfold Halt
  rename Fr _ _ _ _ => F1
  rename News _ _ _ _ => N1
  refine' LCg.CompSrc.base rfl F1 N1 hl (by rw [sizeLine_eq, List.size_toArray]; omega) ?_
  intro g
  refine' rest_inv (n := vs.toArray.size) (σ := List Nat × List Value) (fun c => c.2) (fun _ => _) (fun i c => TextsAre (c.1.map fun d => [sgn d]) c.2 ∧ c.1 = cs.take i) ?turn ?fin vs.toArray.size 0 ([], []) (Nat.zero_add _) ⟨.nil, rfl⟩
  case turn =>
    intro i8 c v I8 oI8 C oC D m2 h9 tk9 E9 hi8 hP9 hv9 hC9 hx9 F9 N9 off9 ne9
    obtain ⟨d, td, hd, rfl⟩ := hc.at _ _ (by simpa using hv9)
    have hd9 : d < 9 := hs _ (List.mem_of_getElem? hd)
    have off8 := off9
    try simp only [LCg.Off3, and_true] at off9
    clear F1 N1
    (repeat' (first | (k_unfold; (try dsimp only)) | walk1 | (dsimp only; walk1) | fail "no step"))
    unfold Halt
    rename Fr _ _ _ _ => F8
    rename News _ _ _ _ => N8
    refine LCg.CompEnd.intro F8 N8 _ (by lcg_sub) off8 (Or.inl hl) ⟨(c.1 ++ [d], c.2 ++ [_]), rfl, rfl, ?_, ?_⟩
    · rw [List.map_append, List.map_singleton]; exact hP9.1.snoc
    · rw [List.take_add_one, hd, hP9.2]; rfl
  case fin =>
    intro c hP
    obtain ⟨h1, h2⟩ := hP
    rw [List.size_toArray, hvl, List.take_length] at h2
    rw [h2] at h1
    clear F1 N1
    (repeat' (first | (k_unfold; (try dsimp only)) | walk1 | (dsimp only; walk1) | fail "no step"))
    unfold Halt
    rename News _ _ _ _ => N5
    refine' join_E (News.isList N5 (by k_mem)) h1 (by rw [flatten_single, List.length_map]; omega) ?_
    clear N5
    intro t9 k9
    rw [flatten_single]
    (repeat' (first | (k_unfold; (try dsimp only)) | walk1 | (dsimp only; walk1) | fail "no step"))
    show Done _ _ _
    rename Fr _ _ _ _ => F8
    exact ret _ _ _ F8.keep
theorem ltext_K {w : World} {dp un : Nat} {fr : Option (List Env)} {gd : Option (List Code)} {s : Shared} {loose : List Str} {mean : ExcName → Option Value} {mg mb : Str → Option Value} {Q E : Value → Shared → Prop} {h₀ : Heap} {L : Addr} {m : Str → Option Value} {news : List (Addr × Obj)} {a : Addr} {cs : List Nat} {vs : List Value}
    (X : (Mine.hd.heap_1 w.params).In h₀) (T : Top topProg loose mean mg mb h₀) (F : Fr h₀ L s.heap m) (N : News h₀ L s.heap news) (hd : dp < 390) (hu : un < 900)
    (hl : s.heap.IsList a vs.toArray) (hc : CodesAre cs vs) (hn : cs.length < 400) (hs : ∀ c ∈ cs, c < 9)
    (ret : ∀ h' tk' t', Fr h₀ L h' m → News h₀ L h' news → Q (.str ⟨(cs.map sgn).toArray⟩ t') { s with heap := h', toks := tk' }) :
    wpAny (model PySem.Challenge.rw_ij0025_01.row.toRowW.prog w) (Ar dp un fr gd) (call (.ref 82) [.ref a]) Q E s :=
  ltext_spec (X.keeps F.keep) (T.keeps F.keep) hd hu hl hc hn hs fun h' tk' t' hk => ret h' tk' t' (F.keeps hk) (N.grown hk)
end
section
local macro_rules | `(tactic| walk_at "exec For") => `(tactic| (k_here; refine wpAny_For ?_))
local macro_rules | `(tactic| walk_at "pyIter ref") => `(tactic| refine Halt.intro ?_)
local macro_rules | `(tactic| walk_at "pyIter str") => `(tactic| refine Halt.intro ?_)
local macro_rules | `(tactic| walk_at "KsfPost") => `(tactic| (dsimp only [KsfPost]))
local macro_rules | `(tactic| walk_at "KsfEnd") => `(tactic| refine Halt.intro ?_)
theorem capped_spec {w : World} {dp un : Nat} {fr : Option (List Env)} {gd : Option (List Code)} {s : Shared} {loose : List Str} {mean : ExcName → Option Value} {mg mb : Str → Option Value} {Q E : Value → Shared → Prop}
  (X : (Mine.hd.heap_1 w.params).In s.heap) (T : Top topProg loose mean mg mb s.heap) (hd : dp < 390) (hu : un < 900)
  {a : Addr} {cs : List Nat} {vs : List Value} (hl : s.heap.IsList a vs.toArray) (hc : CodesAre cs vs) (hn : cs.length < 400)
  (ret : ∀ b ws k h' tk', Keep s.heap h' → s.heap.get? b = none → h'.get? b = some (PySem.W.listOf ws.toArray k) → CodesAre (capped cs) ws → Q (.ref b) { s with heap := h', toks := tk' }) : wpAny (model PySem.Challenge.rw_ij0025_01.row.toRowW.prog w) (Ar dp un fr gd) (call (.ref 96) [.ref a]) Q E s := by
  w_top off
  (have X9 := X); revert X9; k_fill; intro X9; clear X9
  refine' enter X T ?k6 ?k7 ?k8 ?k9 ?kB ?_ ?c2 ?c3 ?c4 ?c5
  case k6 => k_is
  case k7 => k_is
  case k8 => show dp < _; exact Nat.lt_of_lt_of_le hd (by decide)
  case k9 => first | exact BindsTo.of_eq rfl | exact binds_K X rfl (by k_is) rfl rfl rfl
  case c5 => decide
  case kB => exact locs rfl
  case c2 => exact rfl
  case c3 => exact rfl
  case c4 => exact rfl
  k_whole
  intro g' L' h' F' N' X' T' hg hL'
  subst hg
  clear X T
  (try dsimp only); (try k_fold)
  have hvl := hc.length
  (repeat' (first | (k_unfold; (try dsimp only)) | walk1 | (dsimp only; walk1) | fail "no step"))
  unfold Halt
  rename Fr _ _ _ _ => F1
  rename News _ _ _ _ => N1
  rename_i r hA lA hB hC
  have hr := Heap.lt_size (N1 _ (.head _)).1
  refine' ksf_list (σ := List Nat × List Value × Nat × Bool) (vs := vs) (fun c => [(r, PySem.W.listOf c.2.1.toArray c.2.2.1)]) (fun c => [(Str.ofString "gap", Value.bool c.2.2.2)]) [Str.ofString "code"] (fun i c => CodesAre c.1 c.2.1 ∧ (cs.take i).foldl capStep ([], true) = (c.1, c.2.2.2)) ([], [], 0, true) rfl (fun c h m F N => F.lst hl) ?ne F1 (fun p hp => N1 p hp) ?hk ⟨.nil, rfl⟩ ?turn ?done
  case hk => kst_all
  case ne =>
    rintro I rfl i c _ p hp
    rw [List.mem_singleton.mp hp]
    exact Nat.ne_of_lt hr
  case turn =>
    intro I i v c u h3 tk3 oI hI hv hp3 F3 N3
    obtain ⟨out, ws, k, gap⟩ := c
    dsimp only [kstB] at F3
    dsimp only at N3 hp3
    obtain ⟨hO, hfo⟩ := hp3
    obtain ⟨d, td, hd, rfl⟩ := hc.at _ _ hv
    have hOl := hO.length
    have hlen := cap_length (cs.take i) ([], true)
    rw [hfo] at hlen
    simp only [List.length_nil, Nat.zero_add, List.length_take] at hlen
    have hstep := fold_take (f := capStep) (b := ([], true)) hd
    rw [hfo] at hstep
    clear F1 N1
    have hrI : @Ne Nat r I := by rw [hI]; exact Nat.ne_of_lt hr
    have hOi := hO.ints
    by_cases h46 : d = 4 ∨ d = 6
    · have hin : (([4, 6] : List Int).any fun x => x == (d : Int)) = true := by rw [in46]; exact decide_eq_true h46
      have e1 : capStep (out, gap) d = (out, true) := by unfold capStep; rw [if_pos h46]
      rw [e1] at hstep
      (repeat' (first | (k_unfold; (try dsimp only)) | walk1 | (dsimp only; walk1) | fail "no step"))
      unfold Halt
      rename Fr _ _ _ _ => F9
      rename News _ _ _ _ => N9
      refine' ksf_end (out, ws, k, true) F9 N9 (by k_mem) (by kst_in) ?hk (by ksw_same) ⟨hO, hstep⟩
      case hk => kst_all
    · have hin : (([4, 6] : List Int).any fun x => x == (d : Int)) = false := by rw [in46]; exact decide_eq_false h46
      unfold capStep at hstep
      rw [if_neg h46] at hstep
      cases gap with
      | false =>
        rw [if_neg (by simp), List.append_nil] at hstep
        by_cases h4 : d < 4
        · rw [if_pos h4, if_neg (by simp)] at hstep
          (repeat' (first | (k_unfold; (try dsimp only)) | walk1 | (dsimp only; walk1) | fail "no step"))
          unfold Halt
          rename Fr _ _ _ _ => F9
          rename News _ _ _ _ => N9
          simp only [List.push_toArray, fdv0, fdv1] at N9
          refine' ksf_end (out ++ [d / 2 * 2 + 0], ws ++ [Value.int ((d / 2 * 2 + 0 : Nat) : Int) _], k + 1, false) F9 N9 (by k_mem) (by kst_in) ?hk (by ksw_same) ⟨hO.snoc, hstep⟩
          case hk => kst_all
        · rw [if_neg h4] at hstep
          (repeat' (first | (k_unfold; (try dsimp only)) | walk1 | (dsimp only; walk1) | fail "no step"))
          unfold Halt
          rename Fr _ _ _ _ => F9
          rename News _ _ _ _ => N9
          simp only [List.push_toArray, fdv0, fdv1] at N9
          refine' ksf_end (out ++ [d], ws ++ [Value.int (d : Int) _], k + 1, false) F9 N9 (by k_mem) (by kst_in) ?hk (by ksw_same) ⟨hO.snoc, hstep⟩
          case hk => kst_all
      | true =>
        by_cases ho : out = []
        · subst ho
          rw [if_neg (by simp), List.append_nil] at hstep
          by_cases h4 : d < 4
          · rw [if_pos h4, if_pos rfl] at hstep
            (repeat' (first | (k_unfold; (try dsimp only)) | walk1 | (dsimp only; walk1) | fail "no step"))
            unfold Halt
            rename Fr _ _ _ _ => F9
            rename News _ _ _ _ => N9
            simp only [List.push_toArray, fdv0, fdv1] at N9
            refine' ksf_end ([] ++ [d / 2 * 2 + 1], ws ++ [Value.int ((d / 2 * 2 + 1 : Nat) : Int) _], k + 1, false) F9 N9 (by k_mem) (by kst_in) ?hk (by ksw_same) ⟨hO.snoc, hstep⟩
            case hk => kst_all
          · rw [if_neg h4] at hstep
            (repeat' (first | (k_unfold; (try dsimp only)) | walk1 | (dsimp only; walk1) | fail "no step"))
            unfold Halt
            rename Fr _ _ _ _ => F9
            rename News _ _ _ _ => N9
            simp only [List.push_toArray, fdv0, fdv1] at N9
            refine' ksf_end ([] ++ [d], ws ++ [Value.int (d : Int) _], k + 1, false) F9 N9 (by k_mem) (by kst_in) ?hk (by ksw_same) ⟨hO.snoc, hstep⟩
            case hk => kst_all
        · have hb : (!decide ((out.map fun (n : Nat) => (n : Int)) = [])) = true := by simpa using ho
          rw [if_pos ⟨rfl, ho⟩] at hstep
          by_cases h4 : d < 4
          · rw [if_pos h4, if_pos rfl] at hstep
            (repeat' (first | (k_unfold; (try dsimp only)) | walk1 | (dsimp only; walk1) | fail "no step"))
            unfold Halt
            rename Fr _ _ _ _ => F9
            rename News _ _ _ _ => N9
            simp only [List.push_toArray, fdv0, fdv1] at N9
            refine' ksf_end ((out ++ [4]) ++ [d / 2 * 2 + 1], (ws ++ [Value.int ((4 : Nat) : Int) _]) ++ [Value.int ((d / 2 * 2 + 1 : Nat) : Int) _], k + 1 + 1, false) F9 N9 (by k_mem) (by kst_in) ?hk (by ksw_same) ⟨hO.snoc.snoc, hstep⟩
            case hk => kst_all
          · rw [if_neg h4] at hstep
            (repeat' (first | (k_unfold; (try dsimp only)) | walk1 | (dsimp only; walk1) | fail "no step"))
            unfold Halt
            rename Fr _ _ _ _ => F9
            rename News _ _ _ _ => N9
            simp only [List.push_toArray, fdv0, fdv1] at N9
            refine' ksf_end ((out ++ [4]) ++ [d], (ws ++ [Value.int ((4 : Nat) : Int) _]) ++ [Value.int (d : Int) _], k + 1 + 1, false) F9 N9 (by k_mem) (by kst_in) ?hk (by ksw_same) ⟨hO.snoc.snoc, hstep⟩
            case hk => kst_all
  case done =>
    intro c u h3 tk3 hp3 F3 N3
    obtain ⟨out, ws, k, gap⟩ := c
    dsimp only [kstB] at F3
    dsimp only at N3 hp3
    obtain ⟨hO, hfo⟩ := hp3
    rw [hvl, List.take_length] at hfo
    clear F1 N1
    (repeat' (first | (k_unfold; (try dsimp only)) | walk1 | (dsimp only; walk1) | fail "no step"))
    show Done _ _ _
    rename Fr _ _ _ _ => F9
    rename News _ _ _ _ => N9
    have hc9 : capped cs = out := congrArg Prod.fst hfo
    rw [← hc9] at hO
    exact ret _ _ _ _ _ F9.keep (N9 _ (.head _)).2.2 (N9 _ (.head _)).1 hO
theorem capped_K {w : World} {dp un : Nat} {fr : Option (List Env)} {gd : Option (List Code)} {s : Shared} {loose : List Str} {mean : ExcName → Option Value} {mg mb : Str → Option Value} {Q E : Value → Shared → Prop} {h₀ : Heap} {L : Addr} {m : Str → Option Value} {news : List (Addr × Obj)} {a : Addr} {cs : List Nat} {vs : List Value}
    (X : (Mine.hd.heap_1 w.params).In h₀) (T : Top topProg loose mean mg mb h₀) (F : Fr h₀ L s.heap m) (N : News h₀ L s.heap news) (hd : dp < 390) (hu : un < 900)
    (hl : s.heap.IsList a vs.toArray) (hc : CodesAre cs vs) (hn : cs.length < 400)
    (ret : ∀ b ws k h' tk', Fr h₀ L h' m → News h₀ L h' ((b, PySem.W.listOf ws.toArray k) :: news) → AllNe b news → CodesAre (capped cs) ws → Q (.ref b) { s with heap := h', toks := tk' }) :
    wpAny (model PySem.Challenge.rw_ij0025_01.row.toRowW.prog w) (Ar dp un fr gd) (call (.ref 96) [.ref a]) Q E s :=
  capped_spec (X.keeps F.keep) (T.keeps F.keep) hd hu hl hc hn fun b ws k h' tk' hk hf ho hP => ret b ws k h' tk' (F.keeps hk) (news_made F N hk hf ho) (allNe_of (news_ne N hf)) hP
theorem atoms_spec {w : World} {dp un : Nat} {fr : Option (List Env)} {gd : Option (List Code)} {s : Shared} {loose : List Str} {mean : ExcName → Option Value} {mg mb : Str → Option Value} {Q E : Value → Shared → Prop}
  (X : (Mine.hd.heap_1 w.params).In s.heap) (T : Top topProg loose mean mg mb s.heap) (hd : dp < 390) (hu : un < 900)
  {x : Str} {l : List Nat} {tk : Tok} (hxl : x = ⟨l.toArray⟩) (hx : ∀ c ∈ l, c < 128) (hn : l.length < 100000)
  (ret : ∀ b ws k h' tk', Keep s.heap h' → s.heap.get? b = none → h'.get? b = some (PySem.W.listOf ws.toArray k) → AtomsAre (atomsOf l) ws → Q (.ref b) { s with heap := h', toks := tk' }) : wpAny (model PySem.Challenge.rw_ij0025_01.row.toRowW.prog w) (Ar dp un fr gd) (call (.ref 108) [.str x tk]) Q E s := by
  w_top off
  (have X9 := X); revert X9; k_fill; intro X9; clear X9
  subst hxl
  refine' enter X T ?k6 ?k7 ?k8 ?k9 ?kB ?_ ?c2 ?c3 ?c4 ?c5
  case k6 => k_is
  case k7 => k_is
  case k8 => show dp < _; exact Nat.lt_of_lt_of_le hd (by decide)
  case k9 => first | exact BindsTo.of_eq rfl | exact binds_K X rfl (by k_is) rfl rfl rfl
  case c5 => decide
  case kB => exact locs rfl
  case c2 => exact rfl
  case c3 => exact rfl
  case c4 => exact rfl
  k_whole
  intro g' L' h' F' N' X' T' hg hL'
  subst hg
  clear X T
  (try dsimp only); (try k_fold)
  (repeat' (first | (k_unfold; (try dsimp only)) | walk1 | (dsimp only; walk1) | fail "no step"))
  unfold Halt
  rename Fr _ _ _ _ => F1
  rename News _ _ _ _ => N1
  rename_i r hA lA hB hC
  have hr := Heap.lt_size (N1 _ (.head _)).1
  refine' ksf_text (σ := List (Option Nat) × List Value × Nat × Bool) (l := l) (fun c => [(r, PySem.W.listOf c.2.1.toArray c.2.2.1)]) (fun c => [(Str.ofString "bare", Value.bool c.2.2.2)]) [Str.ofString "sign"] (fun i c => AtomsAre c.1 c.2.1 ∧ (l.take i).foldl atStep ([], true) = (c.1, c.2.2.2)) ([], [], 0, true) rfl hx ?ne F1 (fun p hp => N1 p hp) ?hk ⟨.nil, rfl⟩ ?turn ?done
  case hk => kst_all
  case ne =>
    rintro I rfl i c _ p hp
    rw [List.mem_singleton.mp hp]
    exact Nat.ne_of_lt hr
  case turn =>
    intro I i d td c u h3 tk3 oI hI hd hp3 F3 N3
    obtain ⟨out, ws, k, bare⟩ := c
    dsimp only [kstB] at F3
    dsimp only at N3 hp3
    obtain ⟨hO, hfo⟩ := hp3
    have hOl := hO.length
    have hlen := atoms_length (l.take i) ([], true)
    rw [hfo] at hlen
    simp only [List.length_nil, Nat.zero_add, List.length_take] at hlen
    have hstep := fold_take (f := atStep) (b := ([], true)) hd
    rw [hfo] at hstep
    clear F1 N1
    have hrI : @Ne Nat r I := by rw [hI]; exact Nat.ne_of_lt hr
    unfold atStep at hstep
    cases bare with
    | false =>
      rw [if_neg (by simp), if_neg (by simp)] at hstep
      (repeat' (first | (k_unfold; (try dsimp only)) | walk1 | (dsimp only; walk1) | fail "no step"))
      unfold Halt
      rename Fr _ _ _ _ => F9
      rename News _ _ _ _ => N9
      (try simp only [List.push_toArray] at N9)
      refine' ksf_end (out ++ [some d], ws ++ [Value.str (atomStr (some d)) _], k + 1, true) F9 N9 (by k_mem) (by kst_in) ?hk (by ksw_same) ⟨hO.snoc, hstep⟩
      case hk => kst_all
    | true =>
      by_cases h92 : d = 92
      · rw [if_pos ⟨rfl, h92⟩] at hstep
        have h1 := isBack d
        rw [decide_eq_true h92] at h1
        (repeat' (first | (k_unfold; (try dsimp only)) | walk1 | (dsimp only; walk1) | fail "no step"))
        unfold Halt
        rename Fr _ _ _ _ => F9
        rename News _ _ _ _ => N9
        (try simp only [List.push_toArray] at N9)
        refine' ksf_end (out, ws, k, false) F9 N9 (by k_mem) (by kst_in) ?hk (by ksw_same) ⟨hO, hstep⟩
        case hk => kst_all
      · rw [if_neg (by simp [h92])] at hstep
        have h1 := isBack d
        rw [decide_eq_false h92] at h1
        by_cases h46 : d = 46
        · rw [if_pos ⟨rfl, h46⟩] at hstep
          have h2 := isDot d
          rw [decide_eq_true h46] at h2
          (repeat' (first | (k_unfold; (try dsimp only)) | walk1 | (dsimp only; walk1) | fail "no step"))
          unfold Halt
          rename Fr _ _ _ _ => F9
          rename News _ _ _ _ => N9
          (try simp only [List.push_toArray] at N9)
          refine' ksf_end (out ++ [none], ws ++ [Value.str (atomStr none) _], k + 1, true) F9 N9 (by k_mem) (by kst_in) ?hk (by ksw_same) ⟨hO.snoc, hstep⟩
          case hk => kst_all
        · rw [if_neg (by simp [h46])] at hstep
          have h2 := isDot d
          rw [decide_eq_false h46] at h2
          (repeat' (first | (k_unfold; (try dsimp only)) | walk1 | (dsimp only; walk1) | fail "no step"))
          unfold Halt
          rename Fr _ _ _ _ => F9
          rename News _ _ _ _ => N9
          (try simp only [List.push_toArray] at N9)
          refine' ksf_end (out ++ [some d], ws ++ [Value.str (atomStr (some d)) _], k + 1, true) F9 N9 (by k_mem) (by kst_in) ?hk (by ksw_same) ⟨hO.snoc, hstep⟩
          case hk => kst_all
  case done =>
    intro c u h3 tk3 hp3 F3 N3
    obtain ⟨out, ws, k, bare⟩ := c
    dsimp only [kstB] at F3
    dsimp only at N3 hp3
    obtain ⟨hO, hfo⟩ := hp3
    rw [List.take_length] at hfo
    clear F1 N1
    (repeat' (first | (k_unfold; (try dsimp only)) | walk1 | (dsimp only; walk1) | fail "no step"))
    show Done _ _ _
    rename Fr _ _ _ _ => F9
    rename News _ _ _ _ => N9
    have hc9 : atomsOf l = out := congrArg Prod.fst hfo
    rw [← hc9] at hO
    exact ret _ _ _ _ _ F9.keep (N9 _ (.head _)).2.2 (N9 _ (.head _)).1 hO
theorem atoms_K {w : World} {dp un : Nat} {fr : Option (List Env)} {gd : Option (List Code)} {s : Shared} {loose : List Str} {mean : ExcName → Option Value} {mg mb : Str → Option Value} {Q E : Value → Shared → Prop} {h₀ : Heap} {L : Addr} {m : Str → Option Value} {news : List (Addr × Obj)} {x : Str} {l : List Nat} {tk : Tok}
    (X : (Mine.hd.heap_1 w.params).In h₀) (T : Top topProg loose mean mg mb h₀) (F : Fr h₀ L s.heap m) (N : News h₀ L s.heap news) (hd : dp < 390) (hu : un < 900)
    (hxl : x = ⟨l.toArray⟩) (hx : ∀ c ∈ l, c < 128) (hn : l.length < 100000)
    (ret : ∀ b ws k h' tk', Fr h₀ L h' m → News h₀ L h' ((b, PySem.W.listOf ws.toArray k) :: news) → AllNe b news → AtomsAre (atomsOf l) ws → Q (.ref b) { s with heap := h', toks := tk' }) :
    wpAny (model PySem.Challenge.rw_ij0025_01.row.toRowW.prog w) (Ar dp un fr gd) (call (.ref 108) [.str x tk]) Q E s :=
  atoms_spec (X.keeps F.keep) (T.keeps F.keep) hd hu hxl hx hn fun b ws k h' tk' hk hf ho hP => ret b ws k h' tk' (F.keeps hk) (news_made F N hk hf ho) (allNe_of (news_ne N hf)) hP
local macro_rules | `(tactic| walk_at "call ref") => `(tactic| (k_here; (with_reducible show wpAny _ _ (call (Value.ref 108) [_]) _ _ _); k_dflt (refine' atoms_K ?k1 ?k2 ?k3 ?k4 ?k5 ?k6 rfl ?k7 ?k8 ?_; (case k1 | k2 | k3 | k4 => k_asm); (case k5 => walk_at "@d1"); (case k6 => walk_at "@d3"); (case k7 => assumption); (case k8 => omega); k_whole); intro b' ws' k' h' tk' F' N' l1 hA'; have hAl' := AtomsAre.length hA'; (try simp only [AllNe, and_true] at l1); (try k_sweep)))
local macro_rules | `(tactic| walk_at "call ref") => `(tactic| (k_here; (with_reducible show wpAny _ _ (call (Value.ref 113) [_, _, _]) _ _ _); k_dflt (refine' fits_KI ?k1 ?k2 ?k3 ?k4 ?k5 ?k6 rfl ?kz ?kl ?kP ?k7 ?k8 ?k9 ?_; (case k1 | k2 | k3 | k4 => k_asm); (case k5 => walk_at "@d1"); (case k6 => walk_at "@d3"); (case kz => first | with_reducible assumption | with_reducible rfl | rfl); (case kP => with_reducible assumption); (case kl => walk_at "@n"); (case k7 | k8 | k9 => walk_at "@o"); k_whole); intro h' tk' F' N'; (try k_sweep)))
section
local macro_rules | `(tactic| walk_at "exec Assign cons ListComp") => `(tactic| (k_here; k_dflt (refine LCg.Assign_ListComp_U (F₀ := by k_asm) (by rfl) (by with_unfolding_all rfl) (by with_unfolding_all rfl) (by decide) (by rfl) (by decide) (by rfl) (by rfl) (by rfl) ?_)))
local macro_rules | `(tactic| walk_at "exec Assign cons ListComp") => `(tactic| (k_here; lct_look; k_dflt (refine LCt.Assign_ListComp_T (F₀ := by k_asm) (by rfl) (by with_unfolding_all rfl) (by with_unfolding_all rfl) (by decide) (by rfl) (by decide) (by rfl) (by rfl) (by rfl) ?_)))
local macro_rules | `(tactic| walk_at "binaryOp Add ref ref") => `(tactic| (k_here; (with_reducible show wpAny _ _ (binaryOp _ (Value.ref _) (Value.ref _)) _ _ _); k_dflt (refine' add_L ?F ?N ?a ?b ?_ ?z; (case F | N => k_asm); (case a | b => walk_at "@n"); (case z => (simp only [List.length_cons, List.length_nil]; omega)); k_whole); intro D' h' F' N' l1; (try k_lt l1); (try k_sweep)))
local macro_rules | `(tactic| walk_at "call builtin:min") => `(tactic| refine Halt.intro ?_)
theorem means_spec {w : World} {dp un : Nat} {fr : Option (List Env)} {gd : Option (List Code)} {s : Shared} {loose : List Str} {mean : ExcName → Option Value} {mg mb : Str → Option Value} {Q E : Value → Shared → Prop}
  (X : (Mine.hd.heap_1 w.params).In s.heap) (T : Top topProg loose mean mg mb s.heap) (hd : dp < 390) (hu : un < 900)
  {a b : Addr} {pat nm : List Nat} {vs ns : List Value} (hl : s.heap.IsList a vs.toArray) (hl2 : s.heap.IsList b ns.toArray) (hp : CodesAre pat vs) (hq : CodesAre nm ns) (hv : pat.length < 400) (hn : nm.length < 400)
  (ret : ∀ h' tk', Keep s.heap h' → Q (.bool (means pat nm)) { s with heap := h', toks := tk' }) : wpAny (model PySem.Challenge.rw_ij0025_01.row.toRowW.prog w) (Ar dp un fr gd) (call (.ref 101) [.ref a, .ref b]) Q E s := by
  w_top off
  (have X9 := X); revert X9; k_fill; intro X9; clear X9
  refine' enterC X T ?k6 ?k7 ?k8 ?k9 ?kB ?kD ?_ ?c2 ?c3 ?c4
  case k6 => k_is
  case k7 => k_is
  case k8 => show dp < _; exact Nat.lt_of_lt_of_le hd (by decide)
  case k9 => first | exact BindsTo.of_eq rfl | exact binds_K X rfl (by k_is) rfl rfl rfl
  case kB => exact rfl
  case kD => decide +kernel
  case c2 => exact rfl
  case c3 => exact rfl
  case c4 => exact rfl
  k_whole
  intro g' L' h' tk' cells' F' N' Y' X' T' hg hL'
  subst hg
  clear X T
  k_cells Y'
  (try simp only [List.cons_append, List.nil_append] at N')
  (try dsimp only); (try k_fold)
  have hpl := hp.length
  have hnl := hq.length
  (repeat' (first | (k_unfold; (try dsimp only)) | walk1 | (dsimp only; walk1) | fail "no step"))
  unfold Halt
  rename Fr _ _ _ _ => F1
  rename News _ _ _ _ => N1
  rename_i o1 o2 d1 d2 r0 hA lA hB
  replace d2 : o2.data = .cell (some (.ref b)) := d2
  have hr := Heap.lt_size (N1 _ (.head _)).1
  have hc1 := Heap.lt_size (N1 _ (.tail _ (.head _))).1
  have hc2 := Heap.lt_size (N1 _ (.tail _ (.tail _ (.head _)))).1
  dsimp only at hr hc1 hc2
  obtain ⟨Z, hZ⟩ : ∃ Z, Z = hB.objs.size := ⟨_, rfl⟩
  refine' ksf_list (σ := Addr × List Nat × List Value × Nat × Obj) (vs := vs) (fun c => [(c.1, PySem.W.listOf c.2.2.1.toArray c.2.2.2.1), (L' + 1 + 1, c.2.2.2.2), (L' + 1, o2)]) (fun c => [(Str.ofString "spots", Value.ref c.1)]) [] (fun i c => (@Ne Nat c.1 Z ∧ @Ne Nat c.1 (L' + 1 + 1) ∧ @Ne Nat c.1 (L' + 1)) ∧ CodesAre c.2.1 c.2.2.1 ∧ (∃ v, c.2.2.2.2.data = .cell v) ∧ c.2.1.length ≤ nm.length + 1 ∧ c.2.1 = meSpots nm (pat.take i)) (r0, [0], _, _, o1) rfl (fun c h m F N => F.lst hl) ?ne F1 (fun p hp => N1 p hp) ?hk ⟨⟨?z, Nat.ne_of_gt lA.1, Nat.ne_of_gt lA.2⟩, .cons (c := 0) .nil, ⟨_, d1⟩, Nat.succ_le_succ (Nat.zero_le _), rfl⟩ ?turn ?done
  case hk => kst_all
  case z => rw [hZ]; exact Nat.ne_of_lt hr
  case ne =>
    intro I hI i c hc9 p hp
    have hz := hc9.1.1
    rw [hZ] at hz
    rw [hI]
    rcases List.mem_cons.mp hp with rfl | hp
    · exact hz
    rcases List.mem_cons.mp hp with rfl | hp
    · exact Nat.ne_of_lt hc1
    rw [List.mem_singleton.mp hp]
    exact Nat.ne_of_lt hc2
  case turn =>
    intro I i v c u h3 tk3 oI hI hv hp3 F3 N3
    obtain ⟨r, sp, sv, k, oc⟩ := c
    dsimp only [kstB] at F3
    dsimp only at N3 hp3
    obtain ⟨⟨hrZ, hr1, hr2⟩, hS, ⟨v9, hoc⟩, hspl, hfo⟩ := hp3
    obtain ⟨d, td, hd, rfl⟩ := hp.at _ _ hv
    have hSi := hS.ints
    have hSl := hS.length
    clear F1 N1
    have hI0 : @Ne Nat I r := by rw [hI, ← hZ]; exact Ne.symm hrZ
    have hI1 : @Ne Nat I (L' + 1 + 1) := by rw [hI]; exact Nat.ne_of_gt hc1
    have hI2 : @Ne Nat I (L' + 1) := by rw [hI]; exact Nat.ne_of_gt hc2
    have hstep := fold_take (f := meStep nm) (b := [0]) hd
    change meSpots nm (pat.take (i + 1)) = meStep nm (meSpots nm (pat.take i)) d at hstep
    rw [← hfo] at hstep
    have hml := me_length (c := d) hspl
    rw [← hstep] at hml
    by_cases h8 : d = 8
    · rw [me8 h8, ← hnl] at hstep
      have hb8 : decide ((d : Int) = 8) = true := decide_eq_true (by omega)
      have hb9 : ((d : Int) == 8) = true := beq_iff_eq.mpr (by omega)
      (repeat' (first | (k_unfold; (try dsimp only)) | walk1 | (dsimp only; walk1) | fail "no step"))
      unfold Halt
      rename Fr _ _ _ _ => F1
      rename News _ _ _ _ => N1
      rename (Obj.data _ = Data.cell (some _)) => doc8
      refine' kso_min F1 N1 (News.isList N1 (.head _)) (ints_snoc hS) (by simp) rfl ?_
      clear F1 N1
      intro h7 M t7 tk7 F1 N1 hM1 hM2
      obtain rfl := min_eq hM1 hM2
      clear hM1 hM2
      have hle := (minL_le sp (ns.length + 1)).1
      generalize hmn : minL (ns.length + 1) sp = mn at *
      clear F3 N3
      (repeat' (first | (k_unfold; (try dsimp only)) | walk1 | (dsimp only; walk1) | fail "no step"))
      unfold Halt
      rename Fr _ _ _ _ => F1
      rename News _ _ _ _ => N1
      rename IsRange _ _ _ _ _ _ _ _ => hR
      refine' LCg.CompSrc.range (n := ns.length + 1 - mn) rfl F1 N1 hR (range_small (by omega) (by omega) (by omega) (by omega)) (range_size (by omega)) (by rw [sizeLine_eq]; omega) ?_
      intro g
      refine' rest_inv (n := ns.length + 1 - mn) (σ := List Nat × List Value) (fun c => c.2) (fun _ => _) (fun i c => CodesAre c.1 c.2 ∧ c.1 = (List.range i).map (mn + ·)) ?turn2 ?fin (ns.length + 1 - mn) 0 ([], []) (Nat.zero_add _) ⟨.nil, rfl⟩
      case turn2 =>
        intro i8 c v I8 oI8 C oC D m2 h9 tk9 E9 hi8 hP9 hv9 hC9 hx9 F9 N9 off9 ne9
        obtain ⟨t9, hv9⟩ := hv9
        rw [← Int.natCast_add] at hv9
        subst hv9
        obtain ⟨ks, ys⟩ := c
        dsimp only at N9 hP9 ⊢
        clear F1 N1
        have off8 := off9
        try simp only [LCg.Off3, and_true] at off9
        (repeat' (first | (k_unfold; (try dsimp only)) | walk1 | (dsimp only; walk1) | fail "no step"))
        unfold Halt
        rename Fr _ _ _ _ => F8
        rename News _ _ _ _ => N8
        refine LCg.CompEnd.intro F8 N8 _ (by lcg_sub) off8 trivial ⟨(ks ++ [mn + i8], ys ++ [_]), rfl, rfl, hP9.1.snoc, ?_⟩
        rw [List.range_succ, List.map_append, hP9.2]; rfl
      case fin =>
        intro c hc
        obtain ⟨ks, ys⟩ := c
        dsimp only at hc ⊢
        clear F1 N1
        (repeat' (first | (k_unfold; (try dsimp only)) | walk1 | (dsimp only; walk1) | fail "no step"))
        unfold Halt
        rename Fr _ _ _ _ => F8
        rename News _ _ _ _ => N8
        rename_i D8 q8 t8 o8
        refine' ksf_end (D8, ks, ys, ys.length, _) F8 N8 (by k_mem) (by kst_in) ?hk (by ksw_same) ⟨⟨by rw [hZ, ← hI]; k_ne, by k_ne, by k_ne⟩, hc.1, ⟨_, doc8⟩, ?_, ?_⟩
        case hk => kst_all
        all_goals dsimp only
        all_goals rw [hc.2, ← hstep]
        exact hml
    · rw [me9 h8] at hstep
      have hb8 : decide ((d : Int) = 8) = false := decide_eq_false (by omega)
      have hb9 : ((d : Int) == 8) = false := beq_eq_false_iff_ne.mpr (by omega)
      (repeat' (first | (k_unfold; (try dsimp only)) | walk1 | (dsimp only; walk1) | fail "no step"))
      unfold Halt
      rename Fr _ _ _ _ => F1
      rename News _ _ _ _ => N1
      rename (Obj.data _ = Data.cell (some _)) => doc8
      refine' LCt.CompSrcT.ledger (ax := r) (its := sv.toArray) (k := k) rfl F1 N1 (by k_mem) (by rw [sizeLine_eq, List.size_toArray]; omega) ?_
      intro g
      refine' restT_inv (n := sv.toArray.size) (σ := List Nat × List Value) (fun c => c.2) (fun _ => _) (fun i c => CodesAre c.1 c.2 ∧ c.1 = ((sp.take i).filter (meOk nm d)).map (· + 1)) ?turn2 ?fin sv.toArray.size 0 ([], []) (Nat.zero_add _) ⟨.nil, rfl⟩
      case turn2 =>
        intro i8 c v I8 oI8 C oC D m2 h9 tk9 E9 hi8 hP9 hv9 hC9 hx9 F9 N9 off9 ne9
        obtain ⟨e8, te8, he8, rfl⟩ := hS.at _ _ (by simpa using hv9)
        obtain ⟨ks, ys⟩ := c
        dsimp only at N9 hP9 ⊢
        clear F1 N1
        have off8 := off9
        try simp only [LCg.Off3, and_true] at off9
        have htk : ((sp.take (i8 + 1)).filter (meOk nm d)).map (· + 1) = ((sp.take i8).filter (meOk nm d)).map (· + 1) ++ (if meOk nm d e8 = true then [e8 + 1] else []) := by
          rw [List.take_add_one, he8]
          cases hk8 : meOk nm d e8 <;> simp [hk8]
        by_cases hlt8 : e8 < nm.length
        · obtain ⟨v8, hv8⟩ : ∃ v, ns[e8]? = some v := ⟨ns[e8], by simp⟩
          obtain ⟨c8, tc8, hc8, rfl⟩ := hq.at _ _ hv8
          have hok : meOk nm d e8 = ([7, (c8 : Int)] : List Int).any fun x => x == (d : Int) := by
            rw [in7]; unfold meOk; rw [hc8, decide_eq_true hlt8, Bool.true_and]
          cases hb7 : ([7, (c8 : Int)] : List Int).any fun x => x == (d : Int) with
          | true =>
            rw [hok, hb7, if_pos rfl] at htk
            (repeat' (first | (k_unfold; (try dsimp only)) | walk1 | (dsimp only; walk1) | fail "no step"))
            unfold Halt
            rename Fr _ _ _ _ => F8
            rename News _ _ _ _ => N8
            refine LCg.CompEnd.intro F8 N8 _ (by lcg_sub) off8 (by exact Or.inr ⟨_, by k_mem, rfl, _, rfl⟩) ⟨(ks ++ [e8 + 1], ys ++ [Value.int ((e8 + 1 : Nat) : Int) _]), rfl, rfl, hP9.1.snoc, ?_⟩
            rw [htk, hP9.2]
          | false =>
            rw [hok, hb7, if_neg (by simp)] at htk
            (repeat' (first | (k_unfold; (try dsimp only)) | walk1 | (dsimp only; walk1) | fail "no step"))
            unfold Halt
            rename Fr _ _ _ _ => F8
            rename News _ _ _ _ => N8
            refine LCg.CompEnd.intro F8 N8 _ (by lcg_sub) off8 (by exact Or.inr ⟨_, by k_mem, rfl, _, rfl⟩) ⟨(ks, ys), rfl, rfl, hP9.1, ?_⟩
            rw [htk, List.append_nil, hP9.2]
        · have hok : meOk nm d e8 = false := by unfold meOk; rw [decide_eq_false hlt8]; rfl
          rw [hok, if_neg (by simp)] at htk
          (repeat' (first | (k_unfold; (try dsimp only)) | walk1 | (dsimp only; walk1) | fail "no step"))
          unfold Halt
          rename Fr _ _ _ _ => F8
          rename News _ _ _ _ => N8
          refine LCg.CompEnd.intro F8 N8 _ (by lcg_sub) off8 (by exact Or.inr ⟨_, by k_mem, rfl, _, rfl⟩) ⟨(ks, ys), rfl, rfl, hP9.1, ?_⟩
          rw [htk, List.append_nil, hP9.2]
      case fin =>
        intro c hc
        obtain ⟨ks, ys⟩ := c
        dsimp only at hc ⊢
        rw [List.size_toArray, hSl, List.take_length] at hc
        clear F1 N1
        (repeat' (first | (k_unfold; (try dsimp only)) | walk1 | (dsimp only; walk1) | fail "no step"))
        unfold Halt
        rename Fr _ _ _ _ => F8
        rename News _ _ _ _ => N8
        rename_i D8 q8 t8 o8
        refine' ksf_end (D8, ks, ys, ys.length, _) F8 N8 (by k_mem) (by kst_in) ?hk (by ksw_same) ⟨⟨by rw [hZ, ← hI]; k_ne, by k_ne, by k_ne⟩, hc.1, ⟨_, doc8⟩, ?_, ?_⟩
        case hk => kst_all
        all_goals dsimp only
        all_goals rw [hc.2, ← hstep]
        exact hml
  case done =>
    intro c u h3 tk3 hp3 F3 N3
    obtain ⟨r, sp, sv, k, oc⟩ := c
    dsimp only [kstB] at F3
    dsimp only at N3 hp3
    obtain ⟨⟨hrZ, hr1, hr2⟩, hS, ⟨v9, hoc⟩, hspl, hfo⟩ := hp3
    have hSi := hS.ints
    have hSl := hS.length
    rw [hpl, List.take_length] at hfo
    clear F1 N1
    (repeat' (first | (k_unfold; (try dsimp only)) | walk1 | (dsimp only; walk1) | fail "no step"))
    show Done _ _ _
    rename Fr _ _ _ _ => F8
    rw [any_contains, hnl, hfo]
    exact ret _ _ F8.keep
theorem means_K {w : World} {dp un : Nat} {fr : Option (List Env)} {gd : Option (List Code)} {s : Shared} {loose : List Str} {mean : ExcName → Option Value} {mg mb : Str → Option Value} {Q E : Value → Shared → Prop} {h₀ : Heap} {L : Addr} {m : Str → Option Value} {news : List (Addr × Obj)} {a b : Addr} {pat nm : List Nat} {vs ns : List Value}
    (X : (Mine.hd.heap_1 w.params).In h₀) (T : Top topProg loose mean mg mb h₀) (F : Fr h₀ L s.heap m) (N : News h₀ L s.heap news) (hd : dp < 390) (hu : un < 900)
    (hl : s.heap.IsList a vs.toArray) (hl2 : s.heap.IsList b ns.toArray) (hp : CodesAre pat vs) (hq : CodesAre nm ns) (hv : pat.length < 400) (hn : nm.length < 400)
    (ret : ∀ h' tk', Fr h₀ L h' m → News h₀ L h' news → Q (.bool (means pat nm)) { s with heap := h', toks := tk' }) :
    wpAny (model PySem.Challenge.rw_ij0025_01.row.toRowW.prog w) (Ar dp un fr gd) (call (.ref 101) [.ref a, .ref b]) Q E s :=
  means_spec (X.keeps F.keep) (T.keeps F.keep) hd hu hl hl2 hp hq hv hn fun h' tk' hk => ret h' tk' (F.keeps hk) (N.grown hk)
local macro_rules | `(tactic| walk_at "subscriptTail Name Slice str ref") => `(tactic| (k_here; (with_reducible show wpAny _ _ (subscriptTail _ (Expr.Slice none (some _) none _) (Value.str _ _) (Value.ref _)) _ _ _); (with_reducible rename Fr _ _ _ _ => F'); (with_reducible rename News _ _ _ _ => N'); k_dflt ((refine slice_strN_ns (hsz := ?hsz) (s := ⟨_, _, _, _, _⟩) F' N' ?_); (case hsz => walk_at "@a")); clear F' N'; intro h' t' k' F' N'; (try ((rename (Txt.slice _ none (some _) = _) => e'); rw [e']))))
local macro_rules | `(tactic| walk_at "subscriptTail Name Slice str ref") => `(tactic| (k_here; (with_reducible show wpAny _ _ (subscriptTail _ (Expr.Slice (some _) none none _) (Value.str _ _) (Value.ref _)) _ _ _); (with_reducible rename Fr _ _ _ _ => F'); (with_reducible rename News _ _ _ _ => N'); k_dflt ((refine slice_strN_sn (hsz := ?hsz) (s := ⟨_, _, _, _, _⟩) F' N' ?_); (case hsz => walk_at "@a")); clear F' N'; intro h' t' k' F' N'; (try ((rename (Txt.slice _ (some _) none = _) => e'); rw [e']))))
local macro_rules | `(tactic| walk_at "subscriptTail Name Slice str ref") => `(tactic| (k_here; (with_reducible show wpAny _ _ (subscriptTail _ (Expr.Slice (some _) (some _) none _) (Value.str _ _) (Value.ref _)) _ _ _); (with_reducible rename Fr _ _ _ _ => F'); (with_reducible rename News _ _ _ _ => N'); k_dflt ((refine slice_strN_ss (hsz := ?hsz) (s := ⟨_, _, _, _, _⟩) F' N' ?_); (case hsz => walk_at "@a")); clear F' N'; intro h' t' k' F' N'; (try ((rename (Txt.slice _ (some _) (some _) = _) => e'); rw [e']))))
local macro_rules | `(tactic| walk_at "subscriptTail Name Slice ref ref") => `(tactic| (k_here; (with_reducible show wpAny _ _ (subscriptTail _ (PySem.Expr.Slice _ _ none _) (Value.ref _) (Value.ref _)) _ _ _); k_dflt (refine' slice_L ?F ?N ?l ?p ?q ?e ?_ ?s ?t ?z; (case F | N => k_asm); (case l => walk_at "@n"); (case p | q => kmk_part); (case e => walk_at "@a"); (case s => with_unfolding_all rfl); (case t => kmk_pure); (case z => first | assumption | omega)); intro D' h' F' N' l1; (try k_lt l1); (try k_sweep)))
local macro_rules | `(tactic| walk_at "call builtin:str.split") => `(tactic| refine Halt.intro ?_)
local macro_rules | `(tactic| walk_at "call builtin:len") => `(tactic| (k_here; (with_reducible show wpAny _ _ (call (Value.builtin "len") [Value.ref _]) _ _ _); refine len_Le (by walk_at "@n") (by with_reducible assumption) (by walk_at "@o") ?_))
local macro_rules | `(tactic| walk_at "subscriptTail Name Constant ref int") => `(tactic| (k_here; (with_reducible show wpAny _ _ (subscriptTail _ _ (Value.ref _) (Value.int 1 _)) _ _ _); refine item_1 (by walk_at "@n") (by with_reducible assumption) ?_))
local macro_rules | `(tactic| walk_at "subscriptTail Name Constant int ref int") => `(tactic| (k_here; (with_reducible show wpAny _ _ (subscriptTail _ _ (Value.ref _) (Value.int 1 _)) _ _ _); refine item_1 (by walk_at "@n") (by with_reducible assumption) ?_))
theorem takes_spec {w : World} {dp un : Nat} {fr : Option (List Env)} {gd : Option (List Code)} {s : Shared} {loose : List Str} {mean : ExcName → Option Value} {mg mb : Str → Option Value} {Q E : Value → Shared → Prop}
  (X : (Mine.hd.heap_1 w.params).In s.heap) (T : Top topProg loose mean mg mb s.heap) (hd : dp < 370) (hu : un < 700)
  {x y : Str} {pre : List Nat} {mids : List (List Nat)} {last : Option (List Nat)} {le nm : List Nat} {tk tn : Tok} (hx : x = ⟨([40, 63, 115, 58] ++ bodyText pre mids last ++ [41, 92, 90]).toArray⟩) (hy : y = ⟨nm.toArray⟩) (hl : last = some le) (hnm : nm.length < 400) (hbl : (bodyText pre mids last).length < 20000) (hml : mids.length < 400) (hp1 : Plain pre) (hp2 : ∀ m ∈ mids, Plain m) (hp3 : ∀ l, last = some l → Plain l)
  (ret : ∀ h' tk', Keep s.heap h' → Q (.bool (takes pre mids last nm)) { s with heap := h', toks := tk' }) : wpAny (model PySem.Challenge.rw_ij0025_01.row.toRowW.prog w) (Ar dp un fr gd) (call (.ref 118) [.str x tk, .str y tn]) Q E s := by
  w_top off
  (have X9 := X); revert X9; k_fill; intro X9; clear X9
  subst hx hy
  refine' enterC X T ?k6 ?k7 ?k8 ?k9 ?kB ?kD ?_ ?c2 ?c3 ?c4
  case k6 => k_is
  case k7 => k_is
  case k8 => show dp < _; exact Nat.lt_of_lt_of_le hd (by decide)
  case k9 => first | exact BindsTo.of_eq rfl | exact binds_K X rfl (by k_is) rfl rfl rfl
  case kB => exact rfl
  case kD => decide +kernel
  case c2 => exact rfl
  case c3 => exact rfl
  case c4 => exact rfl
  k_whole
  intro g' L' h' tk' cells' F' N' Y' X' T' hg hL'
  subst hg
  clear X T
  k_cells Y'
  (try simp only [List.cons_append, List.nil_append] at N')
  (try dsimp only); (try k_fold)
  rename News _ _ _ _ => N0
  rename Fr _ _ _ _ => F0
  rename_i o1 o2 d1 d2
  replace d2 : o2.data = .cell (some (.str ⟨nm.toArray⟩ tn)) := d2
  have hs1 := sl1 (bodyText pre mids last)
  have hs2 := sl2 (bodyText pre mids last)
  have hs3 := sl3 (bodyText pre mids last)
  have hz1 : (({ cps := ([40, 63, 115, 58] ++ bodyText pre mids last ++ [41, 92, 90]).toArray } : Str)).length ≤ sizeLine := fit_list (by simp only [List.length_append, List.length_cons, List.length_nil]; omega)
  obtain ⟨qi, ql, hq⟩ := snoc_of_cons pre (mids.map (· ++ [41]))
  have hsp1 := split_lazy hq hp1 hp2 hp3
  (repeat' (first | (k_unfold; (try dsimp only)) | walk1 | (dsimp only; walk1) | fail "no step"))
  unfold Halt
  rename Fr _ _ _ _ => F1
  rename News _ _ _ _ => N1
  refine' split_S F1 N1 (by decide +kernel) (by rw [str_len]; omega) hsp1 ?_
  clear F1 N1
  intro D1 vs1 h7 tk7 F1 N1 l1 hT1
  k_lt l1
  obtain ⟨vi, tl, rfl, hTi⟩ := hT1.split_last
  have hgl : (vi ++ [Value.str ⟨(ql ++ endText last).toArray⟩ tl]).getLast? = some (Value.str ⟨(ql ++ endText last).toArray⟩ tl) := by simp
  obtain ⟨hql, hq42⟩ := q_facts hq hp1 hp2
  have hvl := hTi.length
  have hvl1 : (vi ++ [Value.str ⟨(ql ++ endText last).toArray⟩ tl]).length ≤ 1000 := by rw [List.length_append, List.length_singleton]; omega
  have hsp2 := split_star hq42 hp3
  have hqe : (ql ++ endText last).length ≤ 100000 := by
    have hqm : ql ∈ pre :: mids.map (· ++ [41]) := by rw [hq]; simp
    simp only [bodyText, List.length_append] at hbl ⊢
    rcases List.mem_cons.mp hqm with rfl | hqm
    · omega
    · obtain ⟨m, hm, rfl⟩ := List.mem_map.mp hqm
      have := mid_length hm
      simp only [List.length_append, List.length_singleton]; omega
  (repeat' (first | (k_unfold; (try dsimp only)) | walk1 | (dsimp only; walk1) | fail "no step"))
  unfold Halt
  rename Fr _ _ _ _ => F2
  rename News _ _ _ _ => N2
  refine' split_S F2 N2 (by decide +kernel) (by rw [str_len]; exact hqe) hsp2 ?_
  clear F2 N2
  intro D2 vs2 h8 tk8 F2 N2 l2 hT2
  k_lt l2
  obtain ⟨ve, t2, hTe⟩ : ∃ ve t, vs2 = .str ⟨ql.toArray⟩ t :: ve ∧ TextsAre (lastL last) ve := by cases hT2 with | cons h => exact ⟨_, _, rfl, h⟩
  obtain ⟨rfl, hTe⟩ := hTe
  have he0 : (Value.str ⟨ql.toArray⟩ t2 :: ve).head? = some (Value.str ⟨ql.toArray⟩ t2) := rfl
  have hpk := pick_butlast vi (Value.str ⟨(ql ++ endText last).toArray⟩ tl)
  have hel := hTe.length
  have hll := lastL_length last
  have hvl2 : (Value.str ⟨ql.toArray⟩ t2 :: ve).length ≤ 2 := by rw [List.length_cons]; omega
  have hTq := hTi.snoc (u := ql) (t := t2)
  rw [← hq] at hTq
  obtain ⟨pr, tp, hpv, hTp⟩ : ∃ pr t, vi ++ [Value.str ⟨ql.toArray⟩ t2] = .str ⟨pre.toArray⟩ t :: pr ∧ TextsAre (mids.map (· ++ [41])) pr := by
    generalize hg9 : vi ++ [Value.str ⟨ql.toArray⟩ t2] = w9 at hTq
    cases hTq with | cons h => exact ⟨_, _, rfl, h⟩
  have hpk1 := pick_from1 (Value.str ⟨pre.toArray⟩ tp) pr
  rw [← hpv] at hpk1
  have hpt0 : (vi ++ [Value.str ⟨ql.toArray⟩ t2]).head? = some (Value.str ⟨pre.toArray⟩ tp) := by rw [hpv]; rfl
  have hvl3 : (vi ++ [Value.str ⟨ql.toArray⟩ t2]).length ≤ 1000 := by rw [List.length_append, List.length_singleton]; omega
  have hprl := hTp.length
  rw [List.length_map] at hprl
  have hi0 : IntsAre [] [] := .nil
  have hz0 : (0 : Int) = ((0 : Nat) : Int) := rfl
  have hnm9 : nm.length < 1000 := Nat.lt_trans hnm (by decide)
  have hmb : ∀ m ∈ mids, m.length < 20000 := fun m hm => by
    have := mid_length hm
    simp only [bodyText, List.length_append] at hbl; omega
  have hpl : pre.length < 20000 := by simp only [bodyText, List.length_append] at hbl; omega
  have hal := atoms_length pre ([], true)
  change (atomsOf pre).length ≤ _ at hal
  simp only [List.length_nil, Nat.zero_add] at hal
  have hfit0 : ((atomsOf pre).length : Int) < 9223372036854775808 := by omega
  have hpa : ∀ c ∈ pre, c < 128 := fun c hc => (hp1 c hc).1
  clear hz1 hsp1 hsp2 hgl
  subst hl
  obtain ⟨te, rfl⟩ : ∃ t, ve = [Value.str ⟨le.toArray⟩ t] := by cases hTe with | cons h => cases h; exact ⟨_, rfl⟩
  (repeat' (first | (k_unfold; (try dsimp only)) | walk1 | (dsimp only; walk1) | fail "no step"))
  unfold Halt
  rename Fr _ _ _ _ => F3
  rename News _ _ _ _ => N3
  refine' LCt.CompSrcT.ledger rfl F3 N3 (.head _) (by rw [sizeLine_eq, List.size_toArray]; omega) ?_
  intro g
  refine' restT_inv (n := pr.toArray.size) (σ := Unit) (fun _ => []) (fun _ => _) (fun _ _ => True) ?turn2 ?fin pr.toArray.size 0 () (Nat.zero_add _) trivial
  case turn2 =>
    intro i8 c v I8 oI8 C oC D m2 h9 tk9 E9 hi8 hP9 hv9 hC9 hx9 F9 N9 off9 ne9
    obtain ⟨u8, tu8, hu8, rfl⟩ := hTp.at _ _ (by simpa using hv9)
    obtain ⟨m8, hm8, rfl⟩ := List.mem_map.mp (List.mem_of_getElem? hu8)
    have hs4 := sl4 m8
    have hz4 : (({ cps := (m8 ++ [41]).toArray } : Str)).length ≤ sizeLine := fit_list (by rw [List.length_append, List.length_singleton]; have := hmb _ hm8; omega)
    have off8 := off9
    try simp only [LCg.Off3, and_true] at off9
    clear F3 N3
    (repeat' (first | (k_unfold; (try dsimp only)) | walk1 | (dsimp only; walk1) | fail "no step"))
    unfold Halt
    rename Fr _ _ _ _ => F8
    rename News _ _ _ _ => N8
    exact LCg.CompEnd.intro F8 N8 _ (by lcg_sub) off8 (by exact Or.inr ⟨_, by k_mem, rfl, _, rfl⟩) ⟨(), rfl, rfl, trivial⟩
  case fin =>
    intro c hc
    clear F3 N3
    cases hf0 : fitsAt (atomsOf pre) nm 0 with
    | false =>
      (repeat' (first | (k_unfold; (try dsimp only)) | walk1 | (dsimp only; walk1) | fail "no step"))
      show Done _ _ _
      rename Fr _ _ _ _ => F8
      simp only [takes_no hf0] at ret
      exact ret _ _ F8.keep
    | true =>
      (repeat' (first | (k_unfold; (try dsimp only)) | walk1 | (dsimp only; walk1) | fail "no step"))
      unfold Halt
      rename Fr _ _ _ _ => F3
      rename News _ _ _ _ => N3
      rename AtomsAre _ _ => hA9
      rename (Obj.data _ = Data.cell (some (Value.ref _))) => dc9
      rename_i D9 q9 l9
      rename Obj => oc9
      have hple := fits_le hf0
      have N39 : News s.heap L' q9 [(D9, PySem.W.listOf pr.toArray 0), (L' + 1 + 1, oc9), (L' + 1, o2), (D2, PySem.W.listOf (Value.str ⟨ql.toArray⟩ t2 :: [Value.str ⟨le.toArray⟩ te]).toArray 0)] := fun p hp => N3 p ((by lcg_sub : ∀ p ∈ [(D9, PySem.W.listOf pr.toArray 0), (L' + 1 + 1, oc9), (L' + 1, o2), (D2, PySem.W.listOf (Value.str ⟨ql.toArray⟩ t2 :: [Value.str ⟨le.toArray⟩ te]).toArray 0)], p ∈ _) p hp)
      have hD9 := Heap.lt_size (N39 _ (.head _)).1
      have hc9 := Heap.lt_size (N39 _ (.tail _ (.head _))).1
      have hc8 := Heap.lt_size (N39 _ (.tail _ (.tail _ (.head _)))).1
      have hD2 := Heap.lt_size (N39 _ (.tail _ (.tail _ (.tail _ (.head _))))).1
      dsimp only at hD9 hc9 hc8 hD2
      refine' ksf_list (σ := Nat × Tok × Obj) (vs := pr) (fun c => [(D9, PySem.W.listOf pr.toArray 0), (L' + 1 + 1, c.2.2), (L' + 1, o2), (D2, PySem.W.listOf (Value.str ⟨ql.toArray⟩ t2 :: [Value.str ⟨le.toArray⟩ te]).toArray 0)]) (fun c => [(Str.ofString "spot", Value.int (c.1 : Int) c.2.1)]) [Str.ofString "part", Str.ofString "places"] (fun i c => (∃ v, c.2.2.data = .cell v) ∧ c.1 ≤ nm.length ∧ placeLoop nm (atomsOf pre).length mids = placeLoop nm c.1 (mids.drop i)) ((atomsOf pre).length, _, oc9) rfl (fun c h m F N => News.isList N (.head _)) ?ne F3 (fun p hp => N39 p hp) ?hk ⟨⟨_, dc9⟩, by dsimp only; omega, rfl⟩ ?turn3 ?done3
      case hk => kst_all
      case ne =>
        intro I hI i c hc9x p hp
        rw [hI]
        simp only [List.mem_cons, List.not_mem_nil, or_false] at hp
        rcases hp with rfl | rfl | rfl | rfl
        · exact Nat.ne_of_lt hD9
        · exact Nat.ne_of_lt hc9
        · exact Nat.ne_of_lt hc8
        · exact Nat.ne_of_lt hD2
      case turn3 =>
        intro I i v c u h3 tk3 oI hI hv hp3 F4 N4
        obtain ⟨sp, tsp, oc⟩ := c
        dsimp only [kstB] at F4
        dsimp only at N4 hp3
        obtain ⟨⟨v9, hoc⟩, hsp, hpl3⟩ := hp3
        obtain ⟨u8, tu8, hu8, rfl⟩ := hTp.at _ _ hv
        rw [List.getElem?_map] at hu8
        obtain ⟨m8, hm8, rfl⟩ : ∃ m, mids[i]? = some m ∧ m ++ [41] = u8 := by
          cases hq8 : mids[i]? with
          | none => rw [hq8] at hu8; cases hu8
          | some m => rw [hq8] at hu8; exact ⟨m, rfl, by simpa using hu8⟩
        have hm9 := List.mem_of_getElem? hm8
        have hs5 := sl5 m8
        have hmb8 := hmb _ hm9
        have hz4 : (({ cps := (m8 ++ [41]).toArray } : Str)).length ≤ sizeLine := fit_list (by rw [List.length_append, List.length_singleton]; omega)
        have hma : ∀ c ∈ m8, c < 128 := fun c hc => (hp2 _ hm9 c hc).1
        have hal8 := atoms_length m8 ([], true)
        change (atomsOf m8).length ≤ _ at hal8
        simp only [List.length_nil, Nat.zero_add] at hal8
        have hfit8 : ((atomsOf m8).length : Int) < 9223372036854775808 := by omega
        rw [drop_at hm8, place_step] at hpl3
        have hI0 : @Ne Nat I D9 := by rw [hI]; exact Nat.ne_of_gt hD9
        have hI1 : @Ne Nat I (L' + 1 + 1) := by rw [hI]; exact Nat.ne_of_gt hc9
        have hI2 : @Ne Nat I (L' + 1) := by rw [hI]; exact Nat.ne_of_gt hc8
        have hI3 : @Ne Nat I D2 := by rw [hI]; exact Nat.ne_of_gt hD2
        clear F3 N3 hA9 dc9
        (repeat' (first | (k_unfold; (try dsimp only)) | walk1 | (dsimp only; walk1) | fail "no step"))
        unfold Halt
        rename Fr _ _ _ _ => F5
        rename News _ _ _ _ => N5
        rename AtomsAre _ _ => hA5
        rename IsRange _ _ _ _ _ _ _ _ => hR5
        rename (Obj.data _ = Data.cell (some (Value.ref _))) => dc5
        refine' LCt.CompSrcT.range (n := nm.length + 1 - sp) rfl F5 N5 hR5 (range_small (by omega) (by omega) (by omega) (by omega)) (range_size (by omega)) (by rw [sizeLine_eq]; omega) ?_
        intro g
        refine' restT_inv (n := nm.length + 1 - sp) (σ := List Nat × List Value) (fun c => c.2) (fun _ => _) (fun i c => CodesAre c.1 c.2 ∧ c.1 = placesOf nm m8 sp i) ?turn2 ?fin (nm.length + 1 - sp) 0 ([], []) (Nat.zero_add _) ⟨.nil, rfl⟩
        case turn2 =>
          intro i8 c v I8 oI8 C oC D m2 h9 tk9 E9 hi8 hP9 hv9 hC9 hx9 F9 N9 off9 ne9
          obtain ⟨t9, hv9⟩ := hv9
          rw [← Int.natCast_add] at hv9
          subst hv9
          obtain ⟨ks, ys⟩ := c
          dsimp only at N9 hP9 ⊢
          clear F5 N5 F4 N4
          have off8 := off9
          have hsi9 : sp + i8 < 2000 := spot_lt hi8 hsp hnm
          try simp only [LCg.Off3, and_true] at off9
          have hps := places_snoc (nm := nm) (m := m8) (spot := sp) (i := i8)
          cases hf8 : fitsAt (atomsOf m8) nm (sp + i8) with
          | true =>
            rw [hf8, if_pos rfl] at hps
            (repeat' (first | (k_unfold; (try dsimp only)) | walk1 | (dsimp only; walk1) | fail "no step"))
            unfold Halt
            rename Fr _ _ _ _ => F8
            rename News _ _ _ _ => N8
            refine LCg.CompEnd.intro F8 N8 _ (by lcg_sub) off8 trivial ⟨(ks ++ [sp + i8], ys ++ [_]), rfl, rfl, hP9.1.snoc, ?_⟩
            rw [hps, hP9.2]
          | false =>
            rw [hf8, if_neg (by simp), List.append_nil] at hps
            (repeat' (first | (k_unfold; (try dsimp only)) | walk1 | (dsimp only; walk1) | fail "no step"))
            unfold Halt
            rename Fr _ _ _ _ => F8
            rename News _ _ _ _ => N8
            refine LCg.CompEnd.intro F8 N8 _ (by lcg_sub) off8 trivial ⟨(ks, ys), rfl, rfl, hP9.1, ?_⟩
            rw [hps, hP9.2]
        case fin =>
          intro c hc
          obtain ⟨ks, ys⟩ := c
          dsimp only at hc ⊢
          have hci := hc.1.ints
          clear F5 N5 F4 N4
          rw [← hc.2] at hpl3
          cases ks with
          | nil =>
            have hbe : decide ((([] : List Nat).map fun (n : Nat) => (n : Int)) = []) = true := rfl
            (repeat' (first | (k_unfold; (try dsimp only)) | walk1 | (dsimp only; walk1) | fail "no step"))
            show Done _ _ _
            rename Fr _ _ _ _ => F8
            simp only [takes_loop hf0 hpl3] at ret
            exact ret _ _ F8.keep
          | cons p9 r9 =>
            have hbe : decide (((p9 :: r9).map fun (n : Nat) => (n : Int)) = []) = false := decide_eq_false (by simp)
            have hpm : fitsAt (atomsOf m8) nm p9 = true := by
              have : p9 ∈ placesOf nm m8 sp (nm.length + 1 - sp) := by rw [← hc.2]; exact .head _
              exact (List.mem_filter.mp this).2
            have hpl9 := fits_le hpm
            obtain ⟨t9, yr, rfl⟩ : ∃ t yr, ys = Value.int (p9 : Int) t :: yr := by cases hc.1 with | cons h => exact ⟨_, _, rfl⟩
            have hy0 : (Value.int (p9 : Int) t9 :: yr).head? = some (Value.int (p9 : Int) t9) := rfl
            (repeat' (first | (k_unfold; (try dsimp only)) | walk1 | (dsimp only; walk1) | fail "no step"))
            unfold Halt
            rename Fr _ _ _ _ => F8
            rename News _ _ _ _ => N8
            refine' ksf_end (p9 + (atomsOf m8).length, _, _) F8 N8 (by k_mem) (by kst_in) ?hk (by ksw_same) ⟨⟨_, dc5⟩, hpl9, hpl3⟩
            case hk => kst_all
      case done3 =>
        intro c u h3 tk3 hp3 F4 N4
        obtain ⟨sp, tsp, oc⟩ := c
        dsimp only [kstB] at F4
        dsimp only at N4 hp3
        obtain ⟨⟨v9, hoc⟩, hsp, hpl3⟩ := hp3
        rw [hprl, List.drop_length] at hpl3
        change _ = some sp at hpl3
        have hple3 := hp3 le rfl
        have hla : ∀ c ∈ le, c < 128 := fun c hc => (hple3 c hc).1
        have hlel : le.length < 20000 := by simp only [bodyText, endText, List.length_append] at hbl; omega
        have hale := atoms_length le ([], true)
        change (atomsOf le).length ≤ _ at hale
        simp only [List.length_nil, Nat.zero_add] at hale
        have hfite : ((atomsOf le).length : Int) < 9223372036854775808 := by omega
        have hle1 : (List.drop 1 (Value.str ⟨ql.toArray⟩ t2 :: [Value.str ⟨le.toArray⟩ te])).head? = some (Value.str ⟨le.toArray⟩ te) := rfl
        have hln2 : (Value.str ⟨ql.toArray⟩ t2 :: [Value.str ⟨le.toArray⟩ te]).length = 2 := rfl
        clear F3 N3 hA9 dc9
        have htk := takes_some (e := le) hf0 hpl3
        by_cases hge : sp + (atomsOf le).length ≤ nm.length
        · have hzr : (nm.length : Int) - ((atomsOf le).length : Int) = ((nm.length - (atomsOf le).length : Nat) : Int) := (Int.ofNat_sub (Nat.le_trans (Nat.le_add_left _ _) hge)).symm
          have hgd : decide ((sp : Int) ≤ (nm.length : Int) - ((atomsOf le).length : Int)) = true := decide_eq_true (by rw [hzr]; exact Int.ofNat_le.mpr (Nat.le_sub_of_add_le hge))
          have hsr : nm.length - (atomsOf le).length < 2000 := Nat.lt_of_le_of_lt (Nat.sub_le _ _) (Nat.lt_trans hnm (by decide))
          rw [decide_eq_true hge, Bool.true_and] at htk
          rw [htk] at ret
          (repeat' (first | (k_unfold; (try dsimp only)) | walk1 | (dsimp only; walk1) | fail "no step"))
          all_goals
            show Done _ _ _
            rename Fr _ _ _ _ => F8
            exact ret _ _ F8.keep
        · have hgd : decide ((sp : Int) ≤ (nm.length : Int) - ((atomsOf le).length : Int)) = false := decide_eq_false (by omega)
          rw [decide_eq_false hge, Bool.false_and] at htk
          rw [htk] at ret
          (repeat' (first | (k_unfold; (try dsimp only)) | walk1 | (dsimp only; walk1) | fail "no step"))
          all_goals
            show Done _ _ _
            rename Fr _ _ _ _ => F8
            first | exact ret _ _ F8.keep | (rw [hgd]; exact ret _ _ F8.keep)
theorem takes_K {w : World} {dp un : Nat} {fr : Option (List Env)} {gd : Option (List Code)} {s : Shared} {loose : List Str} {mean : ExcName → Option Value} {mg mb : Str → Option Value} {Q E : Value → Shared → Prop} {h₀ : Heap} {L : Addr} {m : Str → Option Value} {news : List (Addr × Obj)} {x y : Str} {pre : List Nat} {mids : List (List Nat)} {le nm : List Nat} {tk tn : Tok}
    (X : (Mine.hd.heap_1 w.params).In h₀) (T : Top topProg loose mean mg mb h₀) (F : Fr h₀ L s.heap m) (N : News h₀ L s.heap news) (hd : dp < 370) (hu : un < 700)
    (hx : x = ⟨([40, 63, 115, 58] ++ bodyText pre mids (some le) ++ [41, 92, 90]).toArray⟩) (hy : y = ⟨nm.toArray⟩) (hnm : nm.length < 400) (hbl : (bodyText pre mids (some le)).length < 20000) (hml : mids.length < 400) (hp1 : Plain pre) (hp2 : ∀ m ∈ mids, Plain m) (hp3 : Plain le)
    (ret : ∀ h' tk', Fr h₀ L h' m → News h₀ L h' news → Q (.bool (takes pre mids (some le) nm)) { s with heap := h', toks := tk' }) :
    wpAny (model PySem.Challenge.rw_ij0025_01.row.toRowW.prog w) (Ar dp un fr gd) (call (.ref 118) [.str x tk, .str y tn]) Q E s :=
  takes_spec (X.keeps F.keep) (T.keeps F.keep) hd hu hx hy rfl hnm hbl hml hp1 hp2 (fun l e => by cases e; exact hp3) fun h' tk' hk => ret h' tk' (F.keeps hk) (N.grown hk)
end
end
theorem segG_len : ∀ (r acc : List Nat), (segG acc r).1.length ≤ r.length
  | [], _ => by simp [segG]
  | c :: r, acc => by
    have h1 := segG_len r []
    have h2 := segG_len r (acc ++ [c])
    simp only [segG, List.length_cons]
    split
    · split
      · omega
      · simp only [List.length_cons]; omega
    · omega
theorem takesP_K {w : World} {dp un : Nat} {fr : Option (List Env)} {gd : Option (List Code)} {s : Shared} {loose : List Str} {mean : ExcName → Option Value} {mg mb : Str → Option Value} {Q E : Value → Shared → Prop} {h₀ : Heap} {L : Addr} {m : Str → Option Value} {news : List (Addr × Obj)} {x y : Str} {pat nm : List Nat} {tk tn : Tok}
    (X : (Mine.hd.heap_1 w.params).In h₀) (T : Top topProg loose mean mg mb h₀) (F : Fr h₀ L s.heap m) (N : News h₀ L s.heap news) (hd : dp < 370) (hu : un < 700)
    (hx : x = ⟨(trText (pat.map sgn)).toArray⟩) (hy : y = ⟨(nm.map sgn).toArray⟩) (hstar : 8 ∈ pat) (hp : ∀ c ∈ pat, c < 9) (hq : ∀ c ∈ nm, c < 7) (hpl : pat.length < 200) (hnl : nm.length < 400)
    (ret : ∀ h' tk', Fr h₀ L h' m → News h₀ L h' news → Q (.bool (means pat nm)) { s with heap := h', toks := tk' }) :
    wpAny (model PySem.Challenge.rw_ij0025_01.row.toRowW.prog w) (Ar dp un fr gd) (call (.ref 118) [.str x tk, .str y tn]) Q E s := by
  obtain ⟨pre, r, rfl, hn⟩ := List.eq_append_cons_of_mem hstar
  have hpre : ∀ c ∈ pre, c < 8 := fun c hc => by
    have h1 := hp c (List.mem_append_left _ hc)
    rcases Nat.lt_or_eq_of_le (Nat.le_of_lt_succ h1) with h2 | h2
    · exact h2
    · subst h2; exact absurd hc hn
  have hr : ∀ c ∈ r, c < 9 := fun c hc => hp c (List.mem_append_right _ (.tail _ hc))
  have hsm := segG_small r [] hr (fun c hc => by cases hc)
  have hlen := joinF_length _ (trParts_short ((pre ++ 8 :: r).map sgn))
  have hparts := trParts_length ((pre ++ 8 :: r).map sgn) []
  change (trParts _).length ≤ _ at hparts
  have hj : joinF (trParts ((pre ++ 8 :: r).map sgn)) = bodyText (segText pre) ((segG [] r).1.map segText) (some (segText (segG [] r).2)) := by rw [trParts_eq, joinF_seg pre r hpre hr]
  rw [hj] at hlen
  rw [List.length_map] at hparts
  have hsl := segG_len r []
  simp only [List.length_append, List.length_cons, List.length_nil] at hpl hparts
  rw [trText_seg hpre hr] at hx
  refine takes_K X T F N hd hu hx hy (by rw [List.length_map]; exact hnl) (by omega) (by rw [List.length_map]; omega) (plain_seg hpre) (fun m hm => ?_) (plain_seg hsm.2) fun h' tk' F' N' => ?_
  · obtain ⟨q, hq, rfl⟩ := List.mem_map.mp hm
    exact plain_seg (hsm.1 q hq)
  · rw [takes_means hq hpre hr]
    exact ret h' tk' F' N'

theorem capwordsP_K {w : World} {dp un : Nat} {fr : Option (List Env)} {gd : Option (List Code)} {s : Shared} {loose : List Str} {mean : ExcName → Option Value} {mg mb : Str → Option Value} {Q E : Value → Shared → Prop} {h₀ : Heap} {L : Addr} {m : Str → Option Value} {news : List (Addr × Obj)} {x : Str} {cs : List Nat} {tk : Tok}
    (X : (Mine.hd.heap_1 w.params).In h₀) (T : Top topProg loose mean mg mb h₀) (F : Fr h₀ L s.heap m) (N : News h₀ L s.heap news) (hd : dp < 380) (hu : un < 800)
    (hx : x = ⟨(cs.map sgn).toArray⟩) (hs : ∀ c ∈ cs, c < 9) (hn : cs.length < 400)
    (ret : ∀ h' tk' t', Fr h₀ L h' m → News h₀ L h' news → Q (.str ⟨((capped cs).map sgn).toArray⟩ t') { s with heap := h', toks := tk' }) :
    wpAny (model PySem.Challenge.rw_ij0025_01.row.toRowW.prog w) (Ar dp un fr gd) (call (.ref 77) [.str x tk]) Q E s := by
  refine capwords_K X T F N hd hu (by rw [hx, str_len, List.length_map]; omega) fun h' tk' t' F' N' => ?_
  rw [hx, caps_text hs]
  exact ret h' tk' t' F' N'
theorem fdm (x a b : Nat) : ((x : Int).fdiv (a : Int)).fmod (b : Int) = ((x / a % b : Nat) : Int) := by rw [fdivN, fmodN]

local macro_rules | `(tactic| walk_at "subscriptTail Name Slice ref ref") => `(tactic| (k_here; (with_reducible show wpAny _ _ (subscriptTail _ (PySem.Expr.Slice _ _ none _) (Value.ref _) (Value.ref _)) _ _ _); k_dflt (refine' slice_L ?F ?N ?l ?p ?q ?e ?_ ?s ?t ?z; (case F | N => k_asm); (case l => walk_at "@n"); (case p | q => kmk_part); (case e => walk_at "@a"); (case s => with_unfolding_all rfl); (case t => kmk_pure); (case z => first | assumption | omega)); intro D' h' F' N' l1; (try k_lt l1); (try k_sweep)))
local macro_rules | `(tactic| walk_at "NestSrc") => `(tactic| refine Halt.intro ?_)
local macro_rules | `(tactic| walk_at "NestEnd") => `(tactic| refine Halt.intro ?_)
local macro_rules | `(tactic| walk_at "exec Assign cons ListComp") => `(tactic| (k_here; k_dflt (refine Assign_Nest (F₀ := by k_asm) (by rfl) (by with_unfolding_all rfl) (by with_unfolding_all rfl) (by decide) (by rfl) (by decide) (by rfl) (by rfl) (by rfl) (by rfl) ?_)))
local macro_rules | `(tactic| walk_at "exec Assign cons ListComp") => `(tactic| (k_here; lcg_look; k_dflt (refine LCg.Assign_ListComp_U (F₀ := by k_asm) (by rfl) (by with_unfolding_all rfl) (by with_unfolding_all rfl) (by decide) (by rfl) (by decide) (by rfl) (by rfl) (by rfl) ?_)))
local macro_rules | `(tactic| walk_at "binaryOp Add ref ref") => `(tactic| (k_here; (with_reducible show wpAny _ _ (binaryOp _ (Value.ref _) (Value.ref _)) _ _ _); k_dflt (refine' add_L ?F ?N ?a ?b ?_ ?z; (case F | N => k_asm); (case a | b => walk_at "@n"); (case z => first | with_reducible assumption | (simp only [List.length_cons, List.length_nil]; omega)); k_whole); intro D' h' F' N' l1; (try k_lt l1); (try k_sweep)))
local macro_rules | `(tactic| walk_at "call ref") => `(tactic| (k_here; (with_reducible show wpAny _ _ (call (Value.ref 89) [_]) _ _ _); k_dflt (refine' lfit_K ?k1 ?k2 ?k3 ?k4 ?k5 ?k6 ?k7 ?_; (case k1 | k2 | k3 | k4 => k_asm); (case k5 => walk_at "@d1"); (case k6 => walk_at "@d3"); (case k7 => with_reducible assumption); k_whole); intro b' ws' k' h' tk' F' N' l1 hA'; have hAl' := CodesAre.length hA'; (try simp only [AllNe, and_true] at l1); (try k_sweep)))
local macro_rules | `(tactic| walk_at "call ref") => `(tactic| (k_here; (with_reducible show wpAny _ _ (call (Value.ref 96) [_]) _ _ _); k_dflt (refine' capped_K ?k1 ?k2 ?k3 ?k4 ?k5 ?k6 ?kl ?k7 ?k8 ?_; (case k1 | k2 | k3 | k4 => k_asm); (case k5 => walk_at "@d1"); (case k6 => walk_at "@d3"); (case kl => walk_at "@n"); (case k7 => with_reducible assumption); (case k8 => walk_at "@o"); k_whole); intro b' ws' k' h' tk' F' N' l1 hA'; have hAl' := CodesAre.length hA'; (try simp only [AllNe, and_true] at l1); (try k_sweep)))
local macro_rules | `(tactic| walk_at "call ref") => `(tactic| (k_here; (with_reducible show wpAny _ _ (call (Value.ref 82) [_]) _ _ _); k_dflt (refine' ltext_K ?k1 ?k2 ?k3 ?k4 ?k5 ?k6 ?kl ?k7 ?k8 ?k9 ?_; (case k1 | k2 | k3 | k4 => k_asm); (case k5 => walk_at "@d1"); (case k6 => walk_at "@d3"); (case kl => walk_at "@n"); (case k7 => with_reducible assumption); (case k8 => walk_at "@o"); (case k9 => with_reducible assumption); k_whole); intro h' tk' t' F' N'; (try k_sweep)))
local macro_rules | `(tactic| walk_at "call ref") => `(tactic| (k_here; (with_reducible show wpAny _ _ (call (Value.ref 101) [_, _]) _ _ _); k_dflt (refine' means_K ?k1 ?k2 ?k3 ?k4 ?k5 ?k6 ?kl ?km ?k7 ?kx ?k8 ?k9 ?_; (case k1 | k2 | k3 | k4 => k_asm); (case k5 => walk_at "@d1"); (case k6 => walk_at "@d3"); (case kl | km => walk_at "@n"); (case k7 | kx => with_reducible assumption); (case k8 | k9 => walk_at "@o"); k_whole); intro h' tk' F' N'; (try k_sweep)))
local macro_rules | `(tactic| walk_at "call ref") => `(tactic| (k_here; (with_reducible show wpAny _ _ (call (Value.ref 118) [_, _]) _ _ _); k_dflt (refine' takesP_K ?k1 ?k2 ?k3 ?k4 ?k5 ?k6 ?ka ?kb ?k7 ?kx ?ky ?k8 ?k9 ?_; (case k1 | k2 | k3 | k4 => k_asm); (case k5 => walk_at "@d1"); (case k6 => walk_at "@d3"); (case ka | kb => rfl); (case k7 | kx | ky => with_reducible assumption); (case k8 | k9 => walk_at "@o"); k_whole); intro h' tk' F' N'; (try k_sweep)))
local macro_rules | `(tactic| walk_at "call ref") => `(tactic| (k_here; (with_reducible show wpAny _ _ (call (Value.ref 77) [_]) _ _ _); k_dflt (refine' capwordsP_K ?k1 ?k2 ?k3 ?k4 ?k5 ?k6 ?ka ?k7 ?k8 ?_; (case k1 | k2 | k3 | k4 => k_asm); (case k5 => walk_at "@d1"); (case k6 => walk_at "@d3"); (case ka => rfl); (case k7 => with_reducible assumption); (case k8 => walk_at "@o"); k_whole); intro h' tk' t' F' N'; (try k_sweep)))
local macro_rules | `(tactic| walk_at "call ref") => `(tactic| (k_here; (with_reducible show wpAny _ _ (call (Value.ref 43) [_]) _ _ _); k_dflt (refine' translate_CK ?k1 ?k2 ?k3 ?k4 ?k5 ?k6 ?ka ?k7 ?k8 ?_; (case k1 | k2 | k3 | k4 => k_asm); (case k5 => walk_at "@d1"); (case k6 => walk_at "@d3"); (case ka => rfl); (case k7 => with_reducible assumption); (case k8 => walk_at "@o"); k_whole); intro h' tk' t' F' N'; (try k_sweep)))
theorem law01 : PySem.Challenge.rw_ij0025_01.Holds := Mine.hd (H.with (by
  k_go0
  (repeat' (first | (k_unfold; (try dsimp only)) | walk1 | (dsimp only; walk1) | fail "no step"))
  unfold Halt
  rename Fr _ _ _ _ => F1
  rename News _ _ _ _ => N1
  rename IntsAre _ (List.take 8 _) => hI8
  rename List Int => ns
  rename_i D1 ws1 h91 hC9 hL9 l1
  have hw1 : ws1.length ≤ 8 := by rw [hI8.length, List.length_take]; omega
  refine' LCg.CompSrc.ledger rfl F1 N1 (.head _) (by rw [sizeLine_eq, List.size_toArray]; omega) ?_
  intro g
  refine' rest_inv (n := ws1.toArray.size) (σ := List Nat × List Value) (fun c => c.2) (fun _ => _) (fun i c => CodesAre c.1 c.2 ∧ c.1 = ((ns.take 8).take i).map md) ?turn ?fin ws1.toArray.size 0 ([], []) (Nat.zero_add _) ⟨.nil, rfl⟩
  case turn =>
    intro i8 c v I8 oI8 C oC D m2 h9 tk9 E9 hi8 hP9 hv9 hC9 hx9 F9 N9 off9 ne9
    obtain ⟨x, tx, rfl, hx⟩ := hI8.at _ _ (by simpa using hv9)
    have off8 := off9
    try simp only [LCg.Off3, and_true] at off9
    clear F1 N1
    (repeat' (first | (k_unfold; (try dsimp only)) | walk1 | (dsimp only; walk1) | fail "no step"))
    unfold Halt
    rename Fr _ _ _ _ => F8
    rename News _ _ _ _ => N8
    refine LCg.CompEnd.intro F8 N8 _ (by lcg_sub) off8 (by exact Or.inr ⟨_, by k_mem, rfl, _, rfl⟩) ⟨(c.1 ++ [md x], c.2 ++ [_]), rfl, rfl, hP9.1.snocI (md_eq x), ?_⟩
    rw [List.take_add_one, hx, hP9.2, List.map_append]; rfl
  case fin =>
    intro c hP
    obtain ⟨cs1, vs1⟩ := c
    obtain ⟨hc1, he1⟩ := hP
    dsimp only at hc1 he1 ⊢
    have hn1 : ws1.toArray.size = (ns.take 8).length := by rw [List.size_toArray, hI8.length]
    rw [hn1, List.take_length] at he1
    clear hn1
    have hl1 := hc1.length
    have hcl1 : cs1.length ≤ 8 := by rw [he1]; simp; omega
    have hcl2 : vs1.length + 5 ≤ 100000 := by omega
    clear F1 N1
    (repeat' (first | (k_unfold; (try dsimp only)) | walk1 | (dsimp only; walk1) | fail "no step"))
    unfold Halt
    rename Fr _ _ _ _ => F2
    rename News _ _ _ _ => N2
    rename_i Da _ tka oa La _ la D2 _ l2 _
    have hc2 : CodesAre (drawnN ns) (vs1 ++ [Value.int 11 tka, Value.int 17 (tka + 1), Value.int 4 (tka + 1 + 1), Value.int 10 (tka + 1 + 1 + 1), Value.int 52 (tka + 1 + 1 + 1 + 1)]) := by
      unfold drawnN fiveN
      rw [← he1]
      exact hc1.append codes5
    obtain ⟨vs2, hv2⟩ : ∃ v, v = vs1 ++ [Value.int 11 tka, Value.int 17 (tka + 1), Value.int 4 (tka + 1 + 1), Value.int 10 (tka + 1 + 1 + 1), Value.int 52 (tka + 1 + 1 + 1 + 1)] := ⟨_, rfl⟩
    rw [← hv2] at hc2 N2
    replace N2 : News _ _ _ [(D2, PySem.W.listOf vs2.toArray 0), (57, tabObj #[])] := fun p hp => N2 p ((by lcg_sub : ∀ p ∈ [(D2, PySem.W.listOf vs2.toArray 0), (57, tabObj #[])], p ∈ _) p hp)
    have hl2 := hc2.length
    have hdl := drawn_length ns
    clear hv2 hc1 he1 hl1 hcl1 hcl2 cs1 vs1 hI8 hw1 hC9 hL9 oa la
    refine' LCg.CompSrc.ledger rfl F2 N2 (.head _) (by rw [sizeLine_eq, List.size_toArray]; omega) ?_
    intro g2
    refine' rest_inv (n := vs2.toArray.size) (σ := List Nat × List Value) (fun c => c.2) (fun _ => _) (fun i c => CodesAre c.1 c.2 ∧ c.1 = ((drawnN ns).take i).map (· % 9)) ?turn ?fin vs2.toArray.size 0 ([], []) (Nat.zero_add _) ⟨.nil, rfl⟩
    case turn =>
      intro i8 c v I8 oI8 C oC D m2 h9 tk9 E9 hi8 hP9 hv9 hC9 hx9 F9 N9 off9 ne9
      obtain ⟨x, tx, hx, rfl⟩ := hc2.at _ _ (by simpa using hv9)
      have off8 := off9
      try simp only [LCg.Off3, and_true] at off9
      clear F2 N2
      (repeat' (first | (k_unfold; (try dsimp only)) | walk1 | (dsimp only; walk1) | fail "no step"))
      unfold Halt
      rename Fr _ _ _ _ => F8
      rename News _ _ _ _ => N8
      refine LCg.CompEnd.intro F8 N8 _ (by lcg_sub) off8 (by exact Or.inr ⟨_, by k_mem, rfl, _, rfl⟩) ⟨(c.1 ++ [x % 9], c.2 ++ [_]), rfl, rfl, hP9.1.snocI (fmodN x 9), ?_⟩
      rw [List.take_add_one, hx, hP9.2, List.map_append]; rfl
    case fin =>
      intro c hP
      obtain ⟨cs3, vs3⟩ := c
      obtain ⟨hc3, he3⟩ := hP
      dsimp only at hc3 he3 ⊢
      rw [List.size_toArray, hl2, List.take_length] at he3
      obtain rfl : cs3 = patN ns := he3
      have hl3 := hc3.length
      clear F2 N2
      (repeat' (first | (k_unfold; (try dsimp only)) | walk1 | (dsimp only; walk1) | fail "no step"))
      unfold Halt
      rename Fr _ _ _ _ => F3
      rename News _ _ _ _ => N3
      rename_i D3 _ _ o3
      refine' NestSrc.ledger (fun i ys => ∃ cs, CodesAre cs ys ∧ cs = (((drawnN ns).take i).map fittingOf).flatten) rfl F3 N3 (.tail _ (.head _)) (by rw [sizeLine_eq, List.size_toArray]; omega) ⟨[], .nil, rfl⟩ ?bnd ?turn ?fin
      case bnd =>
        rintro i ys ⟨cs, hcs, rfl⟩
        rw [hcs.length, sizeLine_eq]
        have := flat_len ((drawnN ns).take i)
        rw [List.length_take] at this
        omega
      case turn =>
        intro g3 i8 v ys I8 oI8 C oC D m2 h9 tk9 E9 hv9 hP9 hC9 hx9 F9 N9 off9 ne9
        obtain ⟨x, tx, hx, rfl⟩ := hc2.at _ _ (by simpa using hv9)
        have hx6 : x < 1000000 := drawn_small x (List.mem_of_getElem? hx)
        have off8 := off9
        try simp only [LCg.Off3, and_true] at off9
        clear F3 N3
        (repeat' (first | (k_unfold; (try dsimp only)) | walk1 | (dsimp only; walk1) | fail "no step"))
        unfold Halt
        rename Fr _ _ _ _ => F8
        rename News _ _ _ _ => N8
        rename CodesAre (fittingOf _) _ => hA8
        rename_i b8 ws8 k8 _ _ _ l8
        obtain ⟨cs8, hcs8, he8⟩ := hP9
        refine NestEnd.intro ws8 k8 F8 N8 (by lcg_sub) (by exact l8.1) (by exact l8.2.1) (by exact l8.2.2.1) ⟨cs8 ++ fittingOf x, hcs8.append hA8, ?_⟩
        rw [List.take_add_one, hx, he8, List.map_append, List.flatten_append]
        simp
      case fin =>
        intro g3 ys hP
        obtain ⟨cs4, hc4, he4⟩ := hP
        rw [List.size_toArray, hl2, List.take_length] at he4
        obtain rfl : cs4 = fitN ns := he4
        have hl4 := hc4.length
        have hfl := fit_length ns
        have hpd1 := pick_drop1 ys
        have hpd6 := pick_neg6 ys
        have hpd5 := pick_less5 vs2
        have hys : ys.length ≤ 100000 := by omega
        have hvs2 : vs2.length ≤ 100000 := by omega
        clear F3 N3
        (repeat' (first | (k_unfold; (try dsimp only)) | walk1 | (dsimp only; walk1) | fail "no step"))
        unfold Halt
        rename Fr _ _ _ _ => F5
        rename News _ _ _ _ => N5
        rename_i D4 _ _ o4 Df1 _ lf1 D5 _ l5
        have hc5 := hc2.take (vs2.length - 5)
        rw [hl2] at hc5
        refine' LCg.CompSrc.ledger rfl F5 N5 (.head _) (by rw [sizeLine_eq, List.size_toArray, List.length_take]; omega) ?_
        intro g5
        refine' rest_inv (n := (List.take (vs2.length - 5) vs2).toArray.size) (σ := List Nat × List Value) (fun c => c.2) (fun _ => _) (fun i c => CodesAre c.1 c.2 ∧ c.1 = (((drawnN ns).take ((drawnN ns).length - 5)).take i).map (fun x => x / 9 % 7)) ?turn ?fin (List.take (vs2.length - 5) vs2).toArray.size 0 ([], []) (Nat.zero_add _) ⟨.nil, rfl⟩
        case turn =>
          intro i8 c v I8 oI8 C oC D m2 h9 tk9 E9 hi8 hP9 hv9 hC9 hx9 F9 N9 off9 ne9
          rw [hl2] at hv9
          obtain ⟨x, tx, hx, rfl⟩ := hc5.at _ _ (by simpa using hv9)
          have off8 := off9
          try simp only [LCg.Off3, and_true] at off9
          clear F5 N5
          (repeat' (first | (k_unfold; (try dsimp only)) | walk1 | (dsimp only; walk1) | fail "no step"))
          unfold Halt
          rename Fr _ _ _ _ => F8
          rename News _ _ _ _ => N8
          refine LCg.CompEnd.intro F8 N8 _ (by lcg_sub) off8 (by exact Or.inr ⟨_, by k_mem, rfl, _, rfl⟩) ⟨(c.1 ++ [x / 9 % 7], c.2 ++ [_]), rfl, rfl, hP9.1.snocI (fdm x 9 7), ?_⟩
          rw [List.take_add_one, hx, hP9.2, List.map_append]; rfl
        case fin =>
          intro c hP
          obtain ⟨cs6, vs6⟩ := c
          obtain ⟨hc6, he6⟩ := hP
          dsimp only at hc6 he6 ⊢
          have hn6 : (List.take (vs2.length - 5) vs2).toArray.size = ((drawnN ns).take ((drawnN ns).length - 5)).length := by rw [List.size_toArray, List.length_take, List.length_take, hl2]
          rw [hn6, List.take_length] at he6
          have hl6 := hc6.length
          have hz6 : vs6.length + (List.drop (ys.length - 6) ys).length ≤ 100000 := by
            rw [hl6, he6, List.length_map, List.length_take, List.length_drop]; omega
          clear hn6 F5 N5
          (repeat' (first | (k_unfold; (try dsimp only)) | walk1 | (dsimp only; walk1) | fail "no step"))
          unfold Halt
          rename Fr _ _ _ _ => F7
          rename News _ _ _ _ => N7
          rename_i D6 _ tk6 o6 D7 _ l7 D8 _ l8 T8 _ lT _
          obtain ⟨zs, hzs⟩ : ∃ z, z = vs6 ++ List.drop (ys.length - 6) ys := ⟨_, rfl⟩
          have hct : CodesAre (thirdN ns) zs := by
            rw [hzs, hl4]
            unfold thirdN
            rw [← he6]
            exact hc6.append (hc4.drop _)
          have hcd := hc4.drop 1
          obtain ⟨yd, hyd⟩ : ∃ z, z = List.drop 1 ys := ⟨_, rfl⟩
          rw [← hyd] at hcd N7
          rw [← hzs] at N7
          replace N7 : News _ _ _ [(T8, PySem.W.listOf #[Value.ref D4, Value.ref Df1, Value.ref D8] 0), (D8, PySem.W.listOf zs.toArray 0), (Df1, PySem.W.listOf yd.toArray 0), (D4, LCg.lst ys), (D3, LCg.lst vs3), (57, tabObj #[])] := fun p hp => N7 p ((by lcg_sub : ∀ p ∈ [(T8, PySem.W.listOf #[Value.ref D4, Value.ref Df1, Value.ref D8] 0), (D8, PySem.W.listOf zs.toArray 0), (Df1, PySem.W.listOf yd.toArray 0), (D4, LCg.lst ys), (D3, LCg.lst vs3), (57, tabObj #[])], p ∈ _) p hp)
          have hcp : CodesAre (patN ns) vs3 := hc3
          have hla : (fitN ns).length < 100 := by omega
          have hlb : ((fitN ns).drop 1).length < 100 := by rw [List.length_drop]; omega
          have hlc : (thirdN ns).length < 100 := by have := third_length ns; omega
          have hsa : ∀ c ∈ fitN ns, c < 7 := fit_small
          have hsb : ∀ c ∈ (fitN ns).drop 1, c < 7 := fun c hc => fit_small c (List.mem_of_mem_drop hc)
          have hsc : ∀ c ∈ thirdN ns, c < 7 := third_small
          have hlp : (patN ns).length < 14 := by unfold patN; rw [List.length_map]; omega
          obtain ⟨fa, hfa⟩ : ∃ z, z = fitN ns := ⟨_, rfl⟩
          obtain ⟨fb, hfb⟩ : ∃ z, z = (fitN ns).drop 1 := ⟨_, rfl⟩
          obtain ⟨fc, hfc⟩ : ∃ z, z = thirdN ns := ⟨_, rfl⟩
          rw [← hfb] at hcd hlb hsb
          rw [← hfa] at hc4 hla hsa
          rw [← hfc] at hct hlc hsc
          have hl3 := hcp.length
          clear hzs hyd hfa hfb hfc hl2 hdl hc5 hz6 hl6 hc6 he6 hpd1 hpd5 hpd6 hys hvs2 hc2 hfl l7 lT o6 l8 o4 lf1 l5 o3 hl4 l2 hc3
          refine' LCg.CompSrc.ledger rfl F7 N7 (.head _) (by exact Nat.le_of_ble_eq_true rfl) ?_
          intro g7
          clear F7 N7
          refine' LCg.CompRest.succ ?_
          intro v I8 oI8 C oC D m2 h9 tk9 E9 hv9 hC9 hx9 F9 N9 off9 ne9
          obtain rfl : Value.ref D4 = v := by simpa using hv9
          have off8 := off9
          try simp only [LCg.Off3, and_true] at off9
          (repeat' (first | (k_unfold; (try dsimp only)) | walk1 | (dsimp only; walk1) | fail "no step"))
          unfold Halt
          rename Fr _ _ _ _ => F8
          rename News _ _ _ _ => N8
          rename CodesAre (capped fa) _ => hda
          rename_i ba wa ka _ _ hwa la
          refine' LCg.CompEnd.intro F8 N8 ((ba, PySem.W.listOf wa.toArray ka) :: _) (by lcg_sub) ⟨⟨Ne.symm la.1, Ne.symm la.2.1, Ne.symm la.2.2.1⟩, off8⟩ (by exact Or.inr ⟨_, by k_mem, rfl, _, rfl⟩) ?_
          (try clear hx9); (try clear hC9); (try clear F9); (try clear N9); (try clear off9); (try clear ne9); (try clear off8); (try clear F8); (try clear N8); (try clear la)
          refine' LCg.CompRest.succ ?_
          intro v I8 oI8 C oC D m2 h9 tk9 E9 hv9 hC9 hx9 F9 N9 off9 ne9
          obtain rfl : Value.ref Df1 = v := by simpa using hv9
          have off8 := off9
          try simp only [LCg.Off3, and_true] at off9
          (repeat' (first | (k_unfold; (try dsimp only)) | walk1 | (dsimp only; walk1) | fail "no step"))
          unfold Halt
          rename Fr _ _ _ _ => F8
          rename News _ _ _ _ => N8
          rename CodesAre (capped fb) _ => hdb
          rename_i bb wb kb _ _ hwb lb
          refine' LCg.CompEnd.intro F8 N8 ((bb, PySem.W.listOf wb.toArray kb) :: _) (by lcg_sub) ⟨⟨Ne.symm lb.1, Ne.symm lb.2.1, Ne.symm lb.2.2.1⟩, off8⟩ (by exact Or.inr ⟨_, by k_mem, rfl, _, rfl⟩) ?_
          (try clear hx9); (try clear hC9); (try clear F9); (try clear N9); (try clear off9); (try clear ne9); (try clear off8); (try clear F8); (try clear N8); (try clear lb)
          refine' LCg.CompRest.succ ?_
          intro v I8 oI8 C oC D m2 h9 tk9 E9 hv9 hC9 hx9 F9 N9 off9 ne9
          obtain rfl : Value.ref D8 = v := by simpa using hv9
          have off8 := off9
          try simp only [LCg.Off3, and_true] at off9
          (repeat' (first | (k_unfold; (try dsimp only)) | walk1 | (dsimp only; walk1) | fail "no step"))
          unfold Halt
          rename Fr _ _ _ _ => F8
          rename News _ _ _ _ => N8
          rename CodesAre (capped fc) _ => hdc
          rename_i bc wc kc _ _ hwc lc
          refine' LCg.CompEnd.intro F8 N8 ((bc, PySem.W.listOf wc.toArray kc) :: _) (by lcg_sub) ⟨⟨Ne.symm lc.1, Ne.symm lc.2.1, Ne.symm lc.2.2.1⟩, off8⟩ (by exact Or.inr ⟨_, by k_mem, rfl, _, rfl⟩) ?_
          (try clear hx9); (try clear hC9); (try clear F9); (try clear N9); (try clear off9); (try clear ne9); (try clear off8); (try clear F8); (try clear N8); (try clear lc)
          refine' LCg.CompRest.zero ?_
          (repeat' (first | (k_unfold; (try dsimp only)) | walk1 | (dsimp only; walk1) | fail "no step"))
          unfold Halt
          rename Fr _ _ _ _ => F10
          rename News _ _ _ _ => N10
          rename_i D10 _ _ o10
          obtain ⟨pt, hpt⟩ : ∃ z, z = patN ns := ⟨_, rfl⟩
          have hps := pat_small (ns := ns)
          have hp8 := pat_star (ns := ns)
          rw [← hpt] at hcp hlp hl3 hps hp8
          clear hpt
          have hsa9 : ∀ c ∈ fa, c < 9 := fun c hc => Nat.lt_trans (hsa c hc) (by decide)
          have hsb9 : ∀ c ∈ fb, c < 9 := fun c hc => Nat.lt_trans (hsb c hc) (by decide)
          have hsc9 : ∀ c ∈ fc, c < 9 := fun c hc => Nat.lt_trans (hsc c hc) (by decide)
          have hka := capped_small (n := 9) (by decide) hsa9
          have hkb := capped_small (n := 9) (by decide) hsb9
          have hkc := capped_small (n := 9) (by decide) hsc9
          have hla4 : fa.length < 400 := by omega
          have hlb4 : fb.length < 400 := by omega
          have hlc4 : fc.length < 400 := by omega
          have hma : (capped fa).length < 400 := by have := capped_length fa; omega
          have hmb : (capped fb).length < 400 := by have := capped_length fb; omega
          have hmc : (capped fc).length < 400 := by have := capped_length fc; omega
          have hpas := text_ascii hps
          have hpp := capped_small (n := 9) (by decide) hps
          have hppa := text_ascii hpp
          have hpl4 : pt.length < 400 := by omega
          have hpl2 : pt.length < 200 := by omega
          have hcpl : (capped pt).length < 200 := by have := capped_length pt; omega
          have hcpl4 : (capped pt).length < 400 := by omega
          have hpm : (pt.map sgn).length < 1000 := by rw [List.length_map]; omega
          have hcpm : ((capped pt).map sgn).length < 1000 := by rw [List.length_map]; omega
          have hcp8 := capped_star hp8
          have hja := capped_small (n := 7) (by decide) hsa
          have hjb := capped_small (n := 7) (by decide) hsb
          have hjc := capped_small (n := 7) (by decide) hsc
          refine' LCg.CompSrc.ledger rfl F10 N10 (.tail _ (.tail _ (.tail _ (.tail _ (.head _))))) (by exact Nat.le_of_ble_eq_true rfl) ?_
          intro g10
          clear F10 N10
          refine' LCg.CompRest.succ ?_
          intro v I8 oI8 C oC D m2 h9 tk9 E9 hv9 hC9 hx9 F9 N9 off9 ne9
          obtain rfl : Value.ref D4 = v := by simpa using hv9
          have off8 := off9
          try simp only [LCg.Off3, and_true] at off9
          (repeat' (first | (k_unfold; (try dsimp only)) | walk1 | (dsimp only; walk1) | fail "no step"))
          unfold Halt
          rename Fr _ _ _ _ => F8
          rename News _ _ _ _ => N8
          refine' LCg.CompEnd.intro F8 N8 _ (by lcg_sub) off8 (by exact Or.inr ⟨_, by k_mem, rfl, _, rfl⟩) ?_
          (try clear hx9); (try clear hC9); (try clear F9); (try clear N9); (try clear off9); (try clear ne9); (try clear off8); (try clear F8); (try clear N8)
          refine' LCg.CompRest.succ ?_
          intro v I8 oI8 C oC D m2 h9 tk9 E9 hv9 hC9 hx9 F9 N9 off9 ne9
          obtain rfl : Value.ref Df1 = v := by simpa using hv9
          have off8 := off9
          try simp only [LCg.Off3, and_true] at off9
          (repeat' (first | (k_unfold; (try dsimp only)) | walk1 | (dsimp only; walk1) | fail "no step"))
          unfold Halt
          rename Fr _ _ _ _ => F8
          rename News _ _ _ _ => N8
          refine' LCg.CompEnd.intro F8 N8 _ (by lcg_sub) off8 (by exact Or.inr ⟨_, by k_mem, rfl, _, rfl⟩) ?_
          (try clear hx9); (try clear hC9); (try clear F9); (try clear N9); (try clear off9); (try clear ne9); (try clear off8); (try clear F8); (try clear N8)
          refine' LCg.CompRest.succ ?_
          intro v I8 oI8 C oC D m2 h9 tk9 E9 hv9 hC9 hx9 F9 N9 off9 ne9
          obtain rfl : Value.ref D8 = v := by simpa using hv9
          have off8 := off9
          try simp only [LCg.Off3, and_true] at off9
          (repeat' (first | (k_unfold; (try dsimp only)) | walk1 | (dsimp only; walk1) | fail "no step"))
          unfold Halt
          rename Fr _ _ _ _ => F8
          rename News _ _ _ _ => N8
          refine' LCg.CompEnd.intro F8 N8 _ (by lcg_sub) off8 (by exact Or.inr ⟨_, by k_mem, rfl, _, rfl⟩) ?_
          (try clear hx9); (try clear hC9); (try clear F9); (try clear N9); (try clear off9); (try clear ne9); (try clear off8); (try clear F8); (try clear N8)
          refine' LCg.CompRest.zero ?_
          (repeat' (first | (k_unfold; (try dsimp only)) | walk1 | (dsimp only; walk1) | fail "no step"))
          unfold Halt
          rename Fr _ _ _ _ => F11
          rename News _ _ _ _ => N11
          refine' LCg.CompSrc.ledger rfl F11 N11 (.tail _ (.head _)) (by exact Nat.le_of_ble_eq_true rfl) ?_
          intro g11
          clear F11 N11
          refine' LCg.CompRest.succ ?_
          intro v I8 oI8 C oC D m2 h9 tk9 E9 hv9 hC9 hx9 F9 N9 off9 ne9
          obtain rfl : Value.ref ba = v := by simpa using hv9
          have off8 := off9
          try simp only [LCg.Off3, and_true] at off9
          (repeat' (first | (k_unfold; (try dsimp only)) | walk1 | (dsimp only; walk1) | fail "no step"))
          unfold Halt
          rename Fr _ _ _ _ => F8
          rename News _ _ _ _ => N8
          refine' LCg.CompEnd.intro F8 N8 _ (by lcg_sub) off8 (by exact Or.inr ⟨_, by k_mem, rfl, _, rfl⟩) ?_
          (try clear hx9); (try clear hC9); (try clear F9); (try clear N9); (try clear off9); (try clear ne9); (try clear off8); (try clear F8); (try clear N8)
          refine' LCg.CompRest.succ ?_
          intro v I8 oI8 C oC D m2 h9 tk9 E9 hv9 hC9 hx9 F9 N9 off9 ne9
          obtain rfl : Value.ref bb = v := by simpa using hv9
          have off8 := off9
          try simp only [LCg.Off3, and_true] at off9
          (repeat' (first | (k_unfold; (try dsimp only)) | walk1 | (dsimp only; walk1) | fail "no step"))
          unfold Halt
          rename Fr _ _ _ _ => F8
          rename News _ _ _ _ => N8
          refine' LCg.CompEnd.intro F8 N8 _ (by lcg_sub) off8 (by exact Or.inr ⟨_, by k_mem, rfl, _, rfl⟩) ?_
          (try clear hx9); (try clear hC9); (try clear F9); (try clear N9); (try clear off9); (try clear ne9); (try clear off8); (try clear F8); (try clear N8)
          refine' LCg.CompRest.succ ?_
          intro v I8 oI8 C oC D m2 h9 tk9 E9 hv9 hC9 hx9 F9 N9 off9 ne9
          obtain rfl : Value.ref bc = v := by simpa using hv9
          have off8 := off9
          try simp only [LCg.Off3, and_true] at off9
          (repeat' (first | (k_unfold; (try dsimp only)) | walk1 | (dsimp only; walk1) | fail "no step"))
          unfold Halt
          rename Fr _ _ _ _ => F8
          rename News _ _ _ _ => N8
          refine' LCg.CompEnd.intro F8 N8 _ (by lcg_sub) off8 (by exact Or.inr ⟨_, by k_mem, rfl, _, rfl⟩) ?_
          (try clear hx9); (try clear hC9); (try clear F9); (try clear N9); (try clear off9); (try clear ne9); (try clear off8); (try clear F8); (try clear N8)
          refine' LCg.CompRest.zero ?_
          (repeat' (first | (k_unfold; (try dsimp only)) | walk1 | (dsimp only; walk1) | fail "no step"))
          rename Fr _ _ _ _ => F12
          rename News _ _ _ _ => N12
          have hta : ∀ u ∈ [(capped fa).map sgn, (capped fb).map sgn, (capped fc).map sgn], ∀ c ∈ u, c < 128 := by
            intro u hu c hc
            simp only [List.mem_cons, List.not_mem_nil, or_false] at hu
            rcases hu with rfl | rfl | rfl
            · exact (text_ascii hka c hc).1
            · exact (text_ascii hkb c hc).1
            · exact (text_ascii hkc c hc).1
          have hn1 : (means pt (capped fa) != means pt (capped fa)) = false := bne_self_eq_false _
          have hn2 : (means pt (capped fb) != means pt (capped fb)) = false := bne_self_eq_false _
          have hn3 : (means pt (capped fc) != means pt (capped fc)) = false := bne_self_eq_false _
          have hm1 : (means (capped pt) (capped fa) != means (capped pt) (capped fa)) = false := bne_self_eq_false _
          have hm2 : (means (capped pt) (capped fb) != means (capped pt) (capped fb)) = false := bne_self_eq_false _
          have hm3 : (means (capped pt) (capped fc) != means (capped pt) (capped fc)) = false := bne_self_eq_false _
          refine' ne_texts (News.isList N12 (.tail _ (.head _))) (News.isList N12 (.head _)) texts3 texts3 hta (by ke_room) ?_
          (repeat' (first | (k_unfold; (try dsimp only)) | walk1 | (dsimp only; walk1) | fail "no step"))
          all_goals kc_close))
end Mine
theorem PySem.Challenge.cw_ij0025_01_holds : PySem.Challenge.rw_ij0025_01.Holds :=
  Mine.law01
