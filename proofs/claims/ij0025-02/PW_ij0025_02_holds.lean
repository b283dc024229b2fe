import PyProof.Rows.All
import Wide.All
import OpenK.AllK
import Wide.FinOn
import PySem.Challenge.RW_ij0025_02
open PySem PySem.W PyProof.Rows PySem.Spec PySem.Calls
set_option Elab.async false
set_option compiler.extract_closed false
namespace Mine
abbrev H.rr : RowW := PySem.Challenge.rw_ij0025_02.row.toRowW
noncomputable def H.vw : Program := view PySem.Challenge.pw_ij0025_02 [0, 4, 5, 7, 8, 10, 11, 13, 14, 15, 16, 17, 18, 19, 20]
abbrev H.loose : List Str := ["capwords", "_twin_re_1", "_special_chars_map"]
noncomputable abbrev H.xt (s : Shared) : Bool := xlAt H.vw [] s && recOk H.rr.records s
set_option maxRecDepth 100000 in
set_option maxHeartbeats 8000000 in
theorem H.said : OpenLaw.wellSaid PySem.Challenge.rw_ij0025_02 = true := by
  unfold OpenLaw.wellSaid OpenRow.wellSaid OpenRow.partSaid looksOpen
  repeat' (with_reducible refine look_both ?_ ?_)
  all_goals decide +kernel
local macro_rules | `(tactic| o_law) => `(tactic| refine holds_law H.said fun said => ?_)
theorem H.opens (Z : Hook) {d : DefRec} {kwd : List (Str × Expr)} (hdef : defOf H.vw H.rr.name = some (d, kwd)) (hp : H.rr.prog.theDef H.rr.name = some (d.params, d.body, d.scope)) (hk : kwWritten? d.params.kwonlyargs d.params.kw_defaults = some kwd) (k1 : PySem.Challenge.rw_ij0025_02.row.wellSaid = true) (hw : H.rr.promised)
    (hc : LeftO H.rr.prog H.vw H.loose H.xt Z.obs Z.val 3688 ∧ WalkO H.vw H.loose (XL H.vw []) Z.says H.rr d kwd fun f vs => PySem.call f vs) : PySem.Challenge.rw_ij0025_02.row.Holds :=
  PySem.W.holds_open (Xt := H.xt) (XP := XL H.vw []) (YP := Z.says) hc.1 Z.of Z.keeps (fun s e => xl_of s (Bool.and_eq_true_iff.mp e).1) XL.keeps hdef hp hk (fun s e => recFacts_of (Bool.and_eq_true_iff.mp e).2) rfl k1 (by decide +kernel) ⟨rfl, rfl, rfl, rfl, rfl, by decide +kernel⟩ hw hc.2
local macro_rules | `(tactic| o_head $H) => `(tactic| refine H.opens $H (by rfl) (by rfl) (by rfl) (by assumption) ?hw ?hc)
set_option maxRecDepth 100000 in
set_option maxHeartbeats 8000000 in
open_top hd for PySem.Challenge.rw_ij0025_02
noncomputable def H.ad : List Addr := [2, 3, 6, 11, 12, 32, 33, 35, 36, 38, 39, 43, 44, 45, 47, 48, 50, 51, 53, 57, 59, 60, 62, 63, 64, 66, 67, 69, 70, 71, 73, 74, 76, 77, 78, 80, 81, 83, 84, 85, 87, 88, 90, 91, 92, 94, 95, 97, 98, 99, 101, 102, 104, 105, 106, 108, 109, 111, 112, 113, 115, 116, 118, 119, 120, 123, 124, 125, 128, 129]
theorem H.adEq (P : Params) : H.ad = (hd.heap_1 P).map (·.1) := by kernel_rfl
noncomputable def H.k (P : Params) (a : Nat) : Obj := ((hd.heap_1 P).lookup a).getD default
noncomputable def H.fd (P : Params) (a : Nat) : FuncData := match (H.k P a).data with
  | .func f => f
  | _ => default
noncomputable def H.oS1 (P : Params) : Obj := (PySem.Obj.mk (PySem.Value.type "dict") (Option.none) (PySem.Data.dict (List.toArray [(PySem.DictEntry.mk (PySem.PyData.keyHash P (PySem.Str.ofString "builtins")) (PySem.Value.str (PySem.Str.ofString "builtins") (162 : Nat)) (PySem.Value.ref (4 : Nat))), (PySem.DictEntry.mk (PySem.PyData.keyHash P (PySem.Str.ofString "__main__")) (PySem.Value.str (PySem.Str.ofString "__main__") (163 : Nat)) (PySem.Value.ref (5 : Nat))), (PySem.DictEntry.mk (PySem.PyData.keyHash P (PySem.Str.ofString "_sre")) (PySem.Value.str (PySem.Str.ofString "_sre") (244 : Nat)) (PySem.Value.ref (12 : Nat)))]) (3 : Nat)) (List.toArray []))
noncomputable def H.oS3 (P : Params) : Obj := (PySem.Obj.mk (PySem.Value.type "dict") (Option.none) (PySem.Data.dict (List.toArray [(PySem.DictEntry.mk (PySem.PyData.keyHash P (PySem.Str.ofString "__name__")) (PySem.Value.str (PySem.Str.ofString "__name__") (165 : Nat)) (PySem.Value.str (PySem.Str.ofString "__main__") (164 : Nat))), (PySem.DictEntry.mk (PySem.PyData.keyHash P (PySem.Str.ofString "__doc__")) (PySem.Value.str (PySem.Str.ofString "__doc__") (166 : Nat)) PySem.Value.none), (PySem.DictEntry.mk (PySem.PyData.keyHash P (PySem.Str.ofString "__package__")) (PySem.Value.str (PySem.Str.ofString "__package__") (167 : Nat)) PySem.Value.none), (PySem.DictEntry.mk (PySem.PyData.keyHash P (PySem.Str.ofString "__loader__")) (PySem.Value.str (PySem.Str.ofString "__loader__") (168 : Nat)) (PySem.Value.builtin "__main__.__loader__#opaque")), (PySem.DictEntry.mk (PySem.PyData.keyHash P (PySem.Str.ofString "__spec__")) (PySem.Value.str (PySem.Str.ofString "__spec__") (169 : Nat)) PySem.Value.none), (PySem.DictEntry.mk (PySem.PyData.keyHash P (PySem.Str.ofString "__annotations__")) (PySem.Value.str (PySem.Str.ofString "__annotations__") (170 : Nat)) (PySem.Value.ref (6 : Nat))), (PySem.DictEntry.mk (PySem.PyData.keyHash P (PySem.Str.ofString "__builtins__")) (PySem.Value.str (PySem.Str.ofString "__builtins__") (171 : Nat)) (PySem.Value.ref (4 : Nat))), (PySem.DictEntry.mk (PySem.PyData.keyHash P (PySem.Str.ofString "__file__")) (PySem.Value.str (PySem.Str.ofString "__file__") (173 : Nat)) (PySem.Value.str (PySem.Str.ofString "/claim/cut.py") (172 : Nat))), (PySem.DictEntry.mk (PySem.PyData.keyHash P (PySem.Str.ofString "__cached__")) (PySem.Value.str (PySem.Str.ofString "__cached__") (174 : Nat)) PySem.Value.none), (PySem.DictEntry.mk (PySem.PyData.keyHash P (PySem.Str.ofString "_sre")) (PySem.Value.str (PySem.Str.ofString "_sre") (275 : Nat)) (PySem.Value.ref (12 : Nat)))]) (10 : Nat)) (List.toArray []))
noncomputable def H.oS13 (P : Params) : Obj := (PySem.Obj.mk (PySem.Value.type "dict") (Option.none) (PySem.Data.dict (List.toArray [(PySem.DictEntry.mk (PySem.PyData.keyHash P (PySem.Str.ofString "__module__")) (PySem.Value.str (PySem.Str.ofString "__module__") (189 : Nat)) (PySem.Value.str (PySem.Str.ofString "_frozen_importlib") (186 : Nat))), (PySem.DictEntry.mk (PySem.PyData.keyHash P (PySem.Str.ofString "__firstlineno__")) (PySem.Value.str (PySem.Str.ofString "__firstlineno__") (190 : Nat)) (PySem.Value.int (971 : Int) (187 : Nat))), (PySem.DictEntry.mk (PySem.PyData.keyHash P (PySem.Str.ofString "__doc__")) (PySem.Value.str (PySem.Str.ofString "__doc__") (191 : Nat)) (PySem.Value.builtin "_frozen_importlib.BuiltinImporter.__doc__:str#opaque")), (PySem.DictEntry.mk (PySem.PyData.keyHash P (PySem.Str.ofString "_ORIGIN")) (PySem.Value.str (PySem.Str.ofString "_ORIGIN") (192 : Nat)) (PySem.Value.str (PySem.Str.ofString "built-in") (188 : Nat))), (PySem.DictEntry.mk (PySem.PyData.keyHash P (PySem.Str.ofString "find_spec")) (PySem.Value.str (PySem.Str.ofString "find_spec") (193 : Nat)) (PySem.Value.builtin "_frozen_importlib.BuiltinImporter.find_spec#opaque")), (PySem.DictEntry.mk (PySem.PyData.keyHash P (PySem.Str.ofString "create_module")) (PySem.Value.str (PySem.Str.ofString "create_module") (194 : Nat)) (PySem.Value.builtin "_frozen_importlib.BuiltinImporter.create_module#opaque")), (PySem.DictEntry.mk (PySem.PyData.keyHash P (PySem.Str.ofString "exec_module")) (PySem.Value.str (PySem.Str.ofString "exec_module") (195 : Nat)) (PySem.Value.builtin "_frozen_importlib.BuiltinImporter.exec_module#opaque")), (PySem.DictEntry.mk (PySem.PyData.keyHash P (PySem.Str.ofString "get_code")) (PySem.Value.str (PySem.Str.ofString "get_code") (196 : Nat)) (PySem.Value.builtin "_frozen_importlib.BuiltinImporter.get_code#opaque")), (PySem.DictEntry.mk (PySem.PyData.keyHash P (PySem.Str.ofString "get_source")) (PySem.Value.str (PySem.Str.ofString "get_source") (197 : Nat)) (PySem.Value.builtin "_frozen_importlib.BuiltinImporter.get_source#opaque")), (PySem.DictEntry.mk (PySem.PyData.keyHash P (PySem.Str.ofString "is_package")) (PySem.Value.str (PySem.Str.ofString "is_package") (198 : Nat)) (PySem.Value.builtin "_frozen_importlib.BuiltinImporter.is_package#opaque")), (PySem.DictEntry.mk (PySem.PyData.keyHash P (PySem.Str.ofString "load_module")) (PySem.Value.str (PySem.Str.ofString "load_module") (199 : Nat)) (PySem.Value.builtin "_frozen_importlib.BuiltinImporter.load_module#opaque")), (PySem.DictEntry.mk (PySem.PyData.keyHash P (PySem.Str.ofString "__static_attributes__")) (PySem.Value.str (PySem.Str.ofString "__static_attributes__") (200 : Nat)) (PySem.Value.ref (15 : Nat))), (PySem.DictEntry.mk (PySem.PyData.keyHash P (PySem.Str.ofString "__dict__")) (PySem.Value.str (PySem.Str.ofString "__dict__") (202 : Nat)) (PySem.Value.ref (16 : Nat))), (PySem.DictEntry.mk (PySem.PyData.keyHash P (PySem.Str.ofString "__weakref__")) (PySem.Value.str (PySem.Str.ofString "__weakref__") (204 : Nat)) (PySem.Value.ref (17 : Nat)))]) (14 : Nat)) (List.toArray []))
noncomputable def H.oS14 (P : Params) : Obj := (PySem.Obj.mk (PySem.Value.type "type") (Option.none) (PySem.Data.cls (PySem.ClassData.mk (PySem.Str.ofString "BuiltinImporter") [(PySem.Value.type "object")] [(PySem.Value.ref (14 : Nat)), (PySem.Value.type "object")] (13 : Nat) (PySem.Str.ofString "BuiltinImporter") Bool.true [] [] Bool.false (Option.none) Bool.false)) (List.toArray []))
noncomputable def H.oS15 (P : Params) : Obj := (PySem.Obj.mk (PySem.Value.type "tuple") (Option.none) (PySem.Data.seq (List.toArray []) (0 : Nat)) (List.toArray []))
noncomputable def H.oS16 (P : Params) : Obj := (PySem.Obj.mk (PySem.Value.type "getset_descriptor") (Option.none) (PySem.Data.fields (List.toArray [(PySem.Value.str (PySem.Str.ofString "__dict__") (201 : Nat)), (PySem.Value.ref (14 : Nat)), (PySem.Value.builtin "function.__dict__"), (PySem.Value.builtin "function.__dict__#set")])) (List.toArray []))
noncomputable def H.oS17 (P : Params) : Obj := (PySem.Obj.mk (PySem.Value.type "getset_descriptor") (Option.none) (PySem.Data.fields (List.toArray [(PySem.Value.str (PySem.Str.ofString "__weakref__") (203 : Nat)), (PySem.Value.ref (14 : Nat)), (PySem.Value.builtin "ExceptionGroup.__weakref__"), PySem.Value.none])) (List.toArray []))
noncomputable def H.oS18 (P : Params) : Obj := (PySem.Obj.mk PySem.Value.none (Option.none) (PySem.Data.seq (List.toArray [(PySem.Value.int (13 : Int) (0 : Nat)), (PySem.Value.str (PySem.Str.mk (List.toArray [6, 189, 10, 95, 95, 109, 111, 100, 117, 108, 101, 95, 95, 6, 186, 17, 95, 102, 114, 111, 122, 101, 110, 95, 105, 109, 112, 111, 114, 116, 108, 105, 98, 6, 190, 15, 95, 95, 102, 105, 114, 115, 116, 108, 105, 110, 101, 110, 111, 95, 95, 4, 187, 0, 971, 6, 191, 7, 95, 95, 100, 111, 99, 95, 95, 9, 52, 95, 102, 114, 111, 122, 101, 110, 95, 105, 109, 112, 111, 114, 116, 108, 105, 98, 46, 66, 117, 105, 108, 116, 105, 110, 73, 109, 112, 111, 114, 116, 101, 114, 46, 95, 95, 100, 111, 99, 95, 95, 58, 115, 116, 114, 35, 111, 112, 97, 113, 117, 101, 6, 192, 7, 95, 79, 82, 73, 71, 73, 78, 6, 188, 8, 98, 117, 105, 108, 116, 45, 105, 110, 6, 193, 9, 102, 105, 110, 100, 95, 115, 112, 101, 99, 9, 50, 95, 102, 114, 111, 122, 101, 110, 95, 105, 109, 112, 111, 114, 116, 108, 105, 98, 46, 66, 117, 105, 108, 116, 105, 110, 73, 109, 112, 111, 114, 116, 101, 114, 46, 102, 105, 110, 100, 95, 115, 112, 101, 99, 35, 111, 112, 97, 113, 117, 101, 6, 194, 13, 99, 114, 101, 97, 116, 101, 95, 109, 111, 100, 117, 108, 101, 9, 54, 95, 102, 114, 111, 122, 101, 110, 95, 105, 109, 112, 111, 114, 116, 108, 105, 98, 46, 66, 117, 105, 108, 116, 105, 110, 73, 109, 112, 111, 114, 116, 101, 114, 46, 99, 114, 101, 97, 116, 101, 95, 109, 111, 100, 117, 108, 101, 35, 111, 112, 97, 113, 117, 101, 6, 195, 11, 101, 120, 101, 99, 95, 109, 111, 100, 117, 108, 101, 9, 52, 95, 102, 114, 111, 122, 101, 110, 95, 105, 109, 112, 111, 114, 116, 108, 105, 98, 46, 66, 117, 105, 108, 116, 105, 110, 73, 109, 112, 111, 114, 116, 101, 114, 46, 101, 120, 101, 99, 95, 109, 111, 100, 117, 108, 101, 35, 111, 112, 97, 113, 117, 101, 6, 196, 8, 103, 101, 116, 95, 99, 111, 100, 101, 9, 49, 95, 102, 114, 111, 122, 101, 110, 95, 105, 109, 112, 111, 114, 116, 108, 105, 98, 46, 66, 117, 105, 108, 116, 105, 110, 73, 109, 112, 111, 114, 116, 101, 114, 46, 103, 101, 116, 95, 99, 111, 100, 101, 35, 111, 112, 97, 113, 117, 101, 6, 197, 10, 103, 101, 116, 95, 115, 111, 117, 114, 99, 101, 9, 51, 95, 102, 114, 111, 122, 101, 110, 95, 105, 109, 112, 111, 114, 116, 108, 105, 98, 46, 66, 117, 105, 108, 116, 105, 110, 73, 109, 112, 111, 114, 116, 101, 114, 46, 103, 101, 116, 95, 115, 111, 117, 114, 99, 101, 35, 111, 112, 97, 113, 117, 101, 6, 198, 10, 105, 115, 95, 112, 97, 99, 107, 97, 103, 101, 9, 51, 95, 102, 114, 111, 122, 101, 110, 95, 105, 109, 112, 111, 114, 116, 108, 105, 98, 46, 66, 117, 105, 108, 116, 105, 110, 73, 109, 112, 111, 114, 116, 101, 114, 46, 105, 115, 95, 112, 97, 99, 107, 97, 103, 101, 35, 111, 112, 97, 113, 117, 101, 6, 199, 11, 108, 111, 97, 100, 95, 109, 111, 100, 117, 108, 101, 9, 52, 95, 102, 114, 111, 122, 101, 110, 95, 105, 109, 112, 111, 114, 116, 108, 105, 98, 46, 66, 117, 105, 108, 116, 105, 110, 73, 109, 112, 111, 114, 116, 101, 114, 46, 108, 111, 97, 100, 95, 109, 111, 100, 117, 108, 101, 35, 111, 112, 97, 113, 117, 101, 6, 200, 21, 95, 95, 115, 116, 97, 116, 105, 99, 95, 97, 116, 116, 114, 105, 98, 117, 116, 101, 115, 95, 95, 4, 0, 0, 15, 6, 202, 8, 95, 95, 100, 105, 99, 116, 95, 95, 4, 0, 0, 16, 6, 204, 11, 95, 95, 119, 101, 97, 107, 114, 101, 102, 95, 95, 4, 0, 0, 17])) (0 : Nat)), (PySem.Value.bool Bool.true), (PySem.Value.bool Bool.true), (PySem.Value.str (PySem.Str.ofString "") (205 : Nat)), (PySem.Value.int (21 : Int) (0 : Nat)), (PySem.Value.str (PySem.Str.mk (List.toArray [6, 227, 10, 95, 95, 109, 111, 100, 117, 108, 101, 95, 95, 6, 217, 17, 95, 102, 114, 111, 122, 101, 110, 95, 105, 109, 112, 111, 114, 116, 108, 105, 98, 6, 228, 15, 95, 95, 102, 105, 114, 115, 116, 108, 105, 110, 101, 110, 111, 95, 95, 4, 218, 0, 562, 6, 229, 7, 95, 95, 100, 111, 99, 95, 95, 9, 47, 95, 102, 114, 111, 122, 101, 110, 95, 105, 109, 112, 111, 114, 116, 108, 105, 98, 46, 77, 111, 100, 117, 108, 101, 83, 112, 101, 99, 46, 95, 95, 100, 111, 99, 95, 95, 58, 115, 116, 114, 35, 111, 112, 97, 113, 117, 101, 6, 230, 8, 95, 95, 105, 110, 105, 116, 95, 95, 9, 44, 95, 102, 114, 111, 122, 101, 110, 95, 105, 109, 112, 111, 114, 116, 108, 105, 98, 46, 77, 111, 100, 117, 108, 101, 83, 112, 101, 99, 46, 95, 95, 105, 110, 105, 116, 95, 95, 35, 111, 112, 97, 113, 117, 101, 6, 231, 8, 95, 95, 114, 101, 112, 114, 95, 95, 9, 44, 95, 102, 114, 111, 122, 101, 110, 95, 105, 109, 112, 111, 114, 116, 108, 105, 98, 46, 77, 111, 100, 117, 108, 101, 83, 112, 101, 99, 46, 95, 95, 114, 101, 112, 114, 95, 95, 35, 111, 112, 97, 113, 117, 101, 6, 232, 6, 95, 95, 101, 113, 95, 95, 9, 42, 95, 102, 114, 111, 122, 101, 110, 95, 105, 109, 112, 111, 114, 116, 108, 105, 98, 46, 77, 111, 100, 117, 108, 101, 83, 112, 101, 99, 46, 95, 95, 101, 113, 95, 95, 35, 111, 112, 97, 113, 117, 101, 6, 233, 6, 99, 97, 99, 104, 101, 100, 9, 42, 95, 102, 114, 111, 122, 101, 110, 95, 105, 109, 112, 111, 114, 116, 108, 105, 98, 46, 77, 111, 100, 117, 108, 101, 83, 112, 101, 99, 46, 99, 97, 99, 104, 101, 100, 35, 111, 112, 97, 113, 117, 101, 6, 234, 6, 112, 97, 114, 101, 110, 116, 9, 42, 95, 102, 114, 111, 122, 101, 110, 95, 105, 109, 112, 111, 114, 116, 108, 105, 98, 46, 77, 111, 100, 117, 108, 101, 83, 112, 101, 99, 46, 112, 97, 114, 101, 110, 116, 35, 111, 112, 97, 113, 117, 101, 6, 235, 12, 104, 97, 115, 95, 108, 111, 99, 97, 116, 105, 111, 110, 9, 48, 95, 102, 114, 111, 122, 101, 110, 95, 105, 109, 112, 111, 114, 116, 108, 105, 98, 46, 77, 111, 100, 117, 108, 101, 83, 112, 101, 99, 46, 104, 97, 115, 95, 108, 111, 99, 97, 116, 105, 111, 110, 35, 111, 112, 97, 113, 117, 101, 6, 236, 21, 95, 95, 115, 116, 97, 116, 105, 99, 95, 97, 116, 116, 114, 105, 98, 117, 116, 101, 115, 95, 95, 4, 0, 0, 23, 6, 238, 8, 95, 95, 100, 105, 99, 116, 95, 95, 4, 0, 0, 24, 6, 240, 11, 95, 95, 119, 101, 97, 107, 114, 101, 102, 95, 95, 4, 0, 0, 25, 6, 241, 8, 95, 95, 104, 97, 115, 104, 95, 95, 0])) (0 : Nat)), (PySem.Value.bool Bool.true), (PySem.Value.bool Bool.true), (PySem.Value.str (PySem.Str.ofString "") (242 : Nat))]) (1 : Nat)) (List.toArray []))
noncomputable def H.oS19 (P : Params) : Obj := (PySem.Obj.mk (PySem.Value.type "list") (Option.none) (PySem.Data.seq (List.toArray []) (0 : Nat)) (List.toArray []))
noncomputable def H.oS20 (P : Params) : Obj := (PySem.Obj.mk (PySem.Value.type "dict") (Option.none) (PySem.Data.dict (List.toArray [(PySem.DictEntry.mk (PySem.PyData.keyHash P (PySem.Str.ofString "name")) (PySem.Value.str (PySem.Str.ofString "name") (208 : Nat)) (PySem.Value.str (PySem.Str.ofString "_sre") (207 : Nat))), (PySem.DictEntry.mk (PySem.PyData.keyHash P (PySem.Str.ofString "loader")) (PySem.Value.str (PySem.Str.ofString "loader") (209 : Nat)) (PySem.Value.ref (14 : Nat))), (PySem.DictEntry.mk (PySem.PyData.keyHash P (PySem.Str.ofString "origin")) (PySem.Value.str (PySem.Str.ofString "origin") (210 : Nat)) (PySem.Value.str (PySem.Str.ofString "built-in") (184 : Nat))), (PySem.DictEntry.mk (PySem.PyData.keyHash P (PySem.Str.ofString "loader_state")) (PySem.Value.str (PySem.Str.ofString "loader_state") (211 : Nat)) PySem.Value.none), (PySem.DictEntry.mk (PySem.PyData.keyHash P (PySem.Str.ofString "submodule_search_locations")) (PySem.Value.str (PySem.Str.ofString "submodule_search_locations") (212 : Nat)) PySem.Value.none), (PySem.DictEntry.mk (PySem.PyData.keyHash P (PySem.Str.ofString "_uninitialized_submodules")) (PySem.Value.str (PySem.Str.ofString "_uninitialized_submodules") (213 : Nat)) (PySem.Value.ref (19 : Nat))), (PySem.DictEntry.mk (PySem.PyData.keyHash P (PySem.Str.ofString "_set_fileattr")) (PySem.Value.str (PySem.Str.ofString "_set_fileattr") (214 : Nat)) (PySem.Value.bool Bool.false)), (PySem.DictEntry.mk (PySem.PyData.keyHash P (PySem.Str.ofString "_cached")) (PySem.Value.str (PySem.Str.ofString "_cached") (215 : Nat)) PySem.Value.none), (PySem.DictEntry.mk (PySem.PyData.keyHash P (PySem.Str.ofString "_initializing")) (PySem.Value.str (PySem.Str.ofString "_initializing") (243 : Nat)) (PySem.Value.bool Bool.false))]) (9 : Nat)) (List.toArray []))
noncomputable def H.oS21 (P : Params) : Obj := (PySem.Obj.mk (PySem.Value.type "dict") (Option.none) (PySem.Data.dict (List.toArray [(PySem.DictEntry.mk (PySem.PyData.keyHash P (PySem.Str.ofString "__module__")) (PySem.Value.str (PySem.Str.ofString "__module__") (227 : Nat)) (PySem.Value.str (PySem.Str.ofString "_frozen_importlib") (217 : Nat))), (PySem.DictEntry.mk (PySem.PyData.keyHash P (PySem.Str.ofString "__firstlineno__")) (PySem.Value.str (PySem.Str.ofString "__firstlineno__") (228 : Nat)) (PySem.Value.int (562 : Int) (218 : Nat))), (PySem.DictEntry.mk (PySem.PyData.keyHash P (PySem.Str.ofString "__doc__")) (PySem.Value.str (PySem.Str.ofString "__doc__") (229 : Nat)) (PySem.Value.builtin "_frozen_importlib.ModuleSpec.__doc__:str#opaque")), (PySem.DictEntry.mk (PySem.PyData.keyHash P (PySem.Str.ofString "__init__")) (PySem.Value.str (PySem.Str.ofString "__init__") (230 : Nat)) (PySem.Value.builtin "_frozen_importlib.ModuleSpec.__init__#opaque")), (PySem.DictEntry.mk (PySem.PyData.keyHash P (PySem.Str.ofString "__repr__")) (PySem.Value.str (PySem.Str.ofString "__repr__") (231 : Nat)) (PySem.Value.builtin "_frozen_importlib.ModuleSpec.__repr__#opaque")), (PySem.DictEntry.mk (PySem.PyData.keyHash P (PySem.Str.ofString "__eq__")) (PySem.Value.str (PySem.Str.ofString "__eq__") (232 : Nat)) (PySem.Value.builtin "_frozen_importlib.ModuleSpec.__eq__#opaque")), (PySem.DictEntry.mk (PySem.PyData.keyHash P (PySem.Str.ofString "cached")) (PySem.Value.str (PySem.Str.ofString "cached") (233 : Nat)) (PySem.Value.builtin "_frozen_importlib.ModuleSpec.cached#opaque")), (PySem.DictEntry.mk (PySem.PyData.keyHash P (PySem.Str.ofString "parent")) (PySem.Value.str (PySem.Str.ofString "parent") (234 : Nat)) (PySem.Value.builtin "_frozen_importlib.ModuleSpec.parent#opaque")), (PySem.DictEntry.mk (PySem.PyData.keyHash P (PySem.Str.ofString "has_location")) (PySem.Value.str (PySem.Str.ofString "has_location") (235 : Nat)) (PySem.Value.builtin "_frozen_importlib.ModuleSpec.has_location#opaque")), (PySem.DictEntry.mk (PySem.PyData.keyHash P (PySem.Str.ofString "__static_attributes__")) (PySem.Value.str (PySem.Str.ofString "__static_attributes__") (236 : Nat)) (PySem.Value.ref (23 : Nat))), (PySem.DictEntry.mk (PySem.PyData.keyHash P (PySem.Str.ofString "__dict__")) (PySem.Value.str (PySem.Str.ofString "__dict__") (238 : Nat)) (PySem.Value.ref (24 : Nat))), (PySem.DictEntry.mk (PySem.PyData.keyHash P (PySem.Str.ofString "__weakref__")) (PySem.Value.str (PySem.Str.ofString "__weakref__") (240 : Nat)) (PySem.Value.ref (25 : Nat))), (PySem.DictEntry.mk (PySem.PyData.keyHash P (PySem.Str.ofString "__hash__")) (PySem.Value.str (PySem.Str.ofString "__hash__") (241 : Nat)) PySem.Value.none)]) (13 : Nat)) (List.toArray []))
noncomputable def H.oS22 (P : Params) : Obj := (PySem.Obj.mk (PySem.Value.type "type") (Option.none) (PySem.Data.cls (PySem.ClassData.mk (PySem.Str.ofString "ModuleSpec") [(PySem.Value.type "object")] [(PySem.Value.ref (22 : Nat)), (PySem.Value.type "object")] (21 : Nat) (PySem.Str.ofString "ModuleSpec") Bool.true [] [] Bool.false (Option.none) Bool.false)) (List.toArray []))
noncomputable def H.oS23 (P : Params) : Obj := (PySem.Obj.mk (PySem.Value.type "tuple") (Option.none) (PySem.Data.seq (List.toArray [(PySem.Value.str (PySem.Str.ofString "_cached") (219 : Nat)), (PySem.Value.str (PySem.Str.ofString "_set_fileattr") (220 : Nat)), (PySem.Value.str (PySem.Str.ofString "_uninitialized_submodules") (221 : Nat)), (PySem.Value.str (PySem.Str.ofString "loader") (222 : Nat)), (PySem.Value.str (PySem.Str.ofString "loader_state") (223 : Nat)), (PySem.Value.str (PySem.Str.ofString "name") (224 : Nat)), (PySem.Value.str (PySem.Str.ofString "origin") (225 : Nat)), (PySem.Value.str (PySem.Str.ofString "submodule_search_locations") (226 : Nat))]) (0 : Nat)) (List.toArray []))
noncomputable def H.oS24 (P : Params) : Obj := (PySem.Obj.mk (PySem.Value.type "getset_descriptor") (Option.none) (PySem.Data.fields (List.toArray [(PySem.Value.str (PySem.Str.ofString "__dict__") (237 : Nat)), (PySem.Value.ref (22 : Nat)), (PySem.Value.builtin "function.__dict__"), (PySem.Value.builtin "function.__dict__#set")])) (List.toArray []))
noncomputable def H.oS25 (P : Params) : Obj := (PySem.Obj.mk (PySem.Value.type "getset_descriptor") (Option.none) (PySem.Data.fields (List.toArray [(PySem.Value.str (PySem.Str.ofString "__weakref__") (239 : Nat)), (PySem.Value.ref (22 : Nat)), (PySem.Value.builtin "ExceptionGroup.__weakref__"), PySem.Value.none])) (List.toArray []))
noncomputable def H.oS26 (P : Params) : Obj := (PySem.Obj.mk (PySem.Value.ref (22 : Nat)) (Option.some (20 : Nat)) PySem.Data.plain (List.toArray []))
noncomputable def H.oS27 (P : Params) : Obj := (PySem.Obj.mk PySem.Value.none (Option.none) (PySem.Data.seq (List.toArray [(PySem.Value.int (11 : Int) (0 : Nat)), (PySem.Value.str (PySem.Str.mk (List.toArray [(6 : Nat), (247 : Nat), (8 : Nat), (95 : Nat), (95 : Nat), (110 : Nat), (97 : Nat), (109 : Nat), (101 : Nat), (95 : Nat), (95 : Nat), (6 : Nat), (246 : Nat), (4 : Nat), (95 : Nat), (115 : Nat), (114 : Nat), (101 : Nat), (6 : Nat), (248 : Nat), (7 : Nat), (95 : Nat), (95 : Nat), (100 : Nat), (111 : Nat), (99 : Nat), (95 : Nat), (95 : Nat), (0 : Nat), (6 : Nat), (250 : Nat), (11 : Nat), (95 : Nat), (95 : Nat), (112 : Nat), (97 : Nat), (99 : Nat), (107 : Nat), (97 : Nat), (103 : Nat), (101 : Nat), (95 : Nat), (95 : Nat), (6 : Nat), (249 : Nat), (0 : Nat), (6 : Nat), (251 : Nat), (10 : Nat), (95 : Nat), (95 : Nat), (108 : Nat), (111 : Nat), (97 : Nat), (100 : Nat), (101 : Nat), (114 : Nat), (95 : Nat), (95 : Nat), (4 : Nat), (0 : Nat), (0 : Nat), (14 : Nat), (6 : Nat), (252 : Nat), (8 : Nat), (95 : Nat), (95 : Nat), (115 : Nat), (112 : Nat), (101 : Nat), (99 : Nat), (95 : Nat), (95 : Nat), (4 : Nat), (0 : Nat), (0 : Nat), (26 : Nat), (6 : Nat), (253 : Nat), (7 : Nat), (99 : Nat), (111 : Nat), (109 : Nat), (112 : Nat), (105 : Nat), (108 : Nat), (101 : Nat), (9 : Nat), (12 : Nat), (95 : Nat), (115 : Nat), (114 : Nat), (101 : Nat), (46 : Nat), (99 : Nat), (111 : Nat), (109 : Nat), (112 : Nat), (105 : Nat), (108 : Nat), (101 : Nat), (6 : Nat), (254 : Nat), (8 : Nat), (116 : Nat), (101 : Nat), (109 : Nat), (112 : Nat), (108 : Nat), (97 : Nat), (116 : Nat), (101 : Nat), (9 : Nat), (13 : Nat), (95 : Nat), (115 : Nat), (114 : Nat), (101 : Nat), (46 : Nat), (116 : Nat), (101 : Nat), (109 : Nat), (112 : Nat), (108 : Nat), (97 : Nat), (116 : Nat), (101 : Nat), (6 : Nat), (255 : Nat), (11 : Nat), (103 : Nat), (101 : Nat), (116 : Nat), (99 : Nat), (111 : Nat), (100 : Nat), (101 : Nat), (115 : Nat), (105 : Nat), (122 : Nat), (101 : Nat), (9 : Nat), (16 : Nat), (95 : Nat), (115 : Nat), (114 : Nat), (101 : Nat), (46 : Nat), (103 : Nat), (101 : Nat), (116 : Nat), (99 : Nat), (111 : Nat), (100 : Nat), (101 : Nat), (115 : Nat), (105 : Nat), (122 : Nat), (101 : Nat), (6 : Nat), (256 : Nat), (13 : Nat), (97 : Nat), (115 : Nat), (99 : Nat), (105 : Nat), (105 : Nat), (95 : Nat), (105 : Nat), (115 : Nat), (99 : Nat), (97 : Nat), (115 : Nat), (101 : Nat), (100 : Nat), (9 : Nat), (18 : Nat), (95 : Nat), (115 : Nat), (114 : Nat), (101 : Nat), (46 : Nat), (97 : Nat), (115 : Nat), (99 : Nat), (105 : Nat), (105 : Nat), (95 : Nat), (105 : Nat), (115 : Nat), (99 : Nat), (97 : Nat), (115 : Nat), (101 : Nat), (100 : Nat), (6 : Nat), (257 : Nat), (15 : Nat), (117 : Nat), (110 : Nat), (105 : Nat), (99 : Nat), (111 : Nat), (100 : Nat), (101 : Nat), (95 : Nat), (105 : Nat), (115 : Nat), (99 : Nat), (97 : Nat), (115 : Nat), (101 : Nat), (100 : Nat), (9 : Nat), (20 : Nat), (95 : Nat), (115 : Nat), (114 : Nat), (101 : Nat), (46 : Nat), (117 : Nat), (110 : Nat), (105 : Nat), (99 : Nat), (111 : Nat), (100 : Nat), (101 : Nat), (95 : Nat), (105 : Nat), (115 : Nat), (99 : Nat), (97 : Nat), (115 : Nat), (101 : Nat), (100 : Nat), (6 : Nat), (258 : Nat), (13 : Nat), (97 : Nat), (115 : Nat), (99 : Nat), (105 : Nat), (105 : Nat), (95 : Nat), (116 : Nat), (111 : Nat), (108 : Nat), (111 : Nat), (119 : Nat), (101 : Nat), (114 : Nat), (9 : Nat), (18 : Nat), (95 : Nat), (115 : Nat), (114 : Nat), (101 : Nat), (46 : Nat), (97 : Nat), (115 : Nat), (99 : Nat), (105 : Nat), (105 : Nat), (95 : Nat), (116 : Nat), (111 : Nat), (108 : Nat), (111 : Nat), (119 : Nat), (101 : Nat), (114 : Nat), (6 : Nat), (259 : Nat), (15 : Nat), (117 : Nat), (110 : Nat), (105 : Nat), (99 : Nat), (111 : Nat), (100 : Nat), (101 : Nat), (95 : Nat), (116 : Nat), (111 : Nat), (108 : Nat), (111 : Nat), (119 : Nat), (101 : Nat), (114 : Nat), (9 : Nat), (20 : Nat), (95 : Nat), (115 : Nat), (114 : Nat), (101 : Nat), (46 : Nat), (117 : Nat), (110 : Nat), (105 : Nat), (99 : Nat), (111 : Nat), (100 : Nat), (101 : Nat), (95 : Nat), (116 : Nat), (111 : Nat), (108 : Nat), (111 : Nat), (119 : Nat), (101 : Nat), (114 : Nat), (6 : Nat), (261 : Nat), (5 : Nat), (77 : Nat), (65 : Nat), (71 : Nat), (73 : Nat), (67 : Nat), (4 : Nat), (260 : Nat), (0 : Nat), (20230612 : Nat), (6 : Nat), (263 : Nat), (8 : Nat), (67 : Nat), (79 : Nat), (68 : Nat), (69 : Nat), (83 : Nat), (73 : Nat), (90 : Nat), (69 : Nat), (4 : Nat), (262 : Nat), (0 : Nat), (4 : Nat), (6 : Nat), (265 : Nat), (9 : Nat), (77 : Nat), (65 : Nat), (88 : Nat), (82 : Nat), (69 : Nat), (80 : Nat), (69 : Nat), (65 : Nat), (84 : Nat), (4 : Nat), (264 : Nat), (0 : Nat), (4294967295 : Nat), (6 : Nat), (267 : Nat), (9 : Nat), (77 : Nat), (65 : Nat), (88 : Nat), (71 : Nat), (82 : Nat), (79 : Nat), (85 : Nat), (80 : Nat), (83 : Nat), (4 : Nat), (266 : Nat), (0 : Nat), (1073741823 : Nat), (6 : Nat), (269 : Nat), (9 : Nat), (99 : Nat), (111 : Nat), (112 : Nat), (121 : Nat), (114 : Nat), (105 : Nat), (103 : Nat), (104 : Nat), (116 : Nat), (6 : Nat), (268 : Nat), (53 : Nat), (32 : Nat), (83 : Nat), (82 : Nat), (69 : Nat), (32 : Nat), (50 : Nat), (46 : Nat), (50 : Nat), (46 : Nat), (50 : Nat), (32 : Nat), (67 : Nat), (111 : Nat), (112 : Nat), (121 : Nat), (114 : Nat), (105 : Nat), (103 : Nat), (104 : Nat), (116 : Nat), (32 : Nat), (40 : Nat), (99 : Nat), (41 : Nat), (32 : Nat), (49 : Nat), (57 : Nat), (57 : Nat), (55 : Nat), (45 : Nat), (50 : Nat), (48 : Nat), (48 : Nat), (50 : Nat), (32 : Nat), (98 : Nat), (121 : Nat), (32 : Nat), (83 : Nat), (101 : Nat), (99 : Nat), (114 : Nat), (101 : Nat), (116 : Nat), (32 : Nat), (76 : Nat), (97 : Nat), (98 : Nat), (115 : Nat), (32 : Nat), (65 : Nat), (66 : Nat), (32 : Nat)])) (0 : Nat)), (PySem.Value.bool Bool.true), (PySem.Value.bool Bool.false), (PySem.Value.str (PySem.Str.ofString "_sre") (271 : Nat))]) (0 : Nat)) (List.toArray []))
noncomputable def H.oP29 (P : Params) : Obj := (PySem.Obj.mk PySem.Value.none (Option.none) (PySem.Data.fields (List.toArray [])) (List.toArray []))
noncomputable def H.oP30 (P : Params) : Obj := (PySem.Obj.mk (PySem.Value.type "code") (Option.none) (PySem.Data.fields (List.toArray [(PySem.Value.str (PySem.Str.ofString "<module>") (277 : Nat)), (PySem.Value.str (PySem.Str.ofString "<module>") (278 : Nat)), (PySem.Value.str (PySem.Str.ofString "/claim/cut.py") (279 : Nat)), (PySem.Value.int (1 : Int) (0 : Nat)), (PySem.Value.int (0 : Int) (0 : Nat)), (PySem.Value.int (0 : Int) (0 : Nat)), (PySem.Value.int (0 : Int) (0 : Nat)), (PySem.Value.int (0 : Int) (0 : Nat)), (PySem.Value.ref (28 : Nat)), (PySem.Value.bool Bool.false), (PySem.Value.int (276 : Int) (0 : Nat)), (PySem.Value.ref (29 : Nat)), PySem.Value.none, PySem.Value.none, PySem.Value.none, PySem.Value.none, (PySem.Value.int (280 : Int) (0 : Nat)), (PySem.Value.int (1 : Int) (0 : Nat)), (PySem.Value.str (PySem.Str.ofString "/claim/cut.py") (281 : Nat))])) (List.toArray []))
noncomputable def H.oP31 (P : Params) : Obj := (PySem.Obj.mk (PySem.Value.type "frame") (Option.none) PySem.Data.plain (List.toArray [(Option.some (PySem.Value.ref (30 : Nat))), (Option.some (PySem.Value.ref (3 : Nat))), (Option.some (PySem.Value.ref (3 : Nat))), (Option.none), (Option.some (PySem.Value.str (PySem.Str.ofString "__main__") (164 : Nat))), (Option.none), (Option.some (PySem.Value.ref (0 : Nat)))]))
noncomputable def H.oA3 (P : Params) : Obj := (PySem.Obj.mk (PySem.Value.type "dict") (Option.none) (PySem.Data.dict (List.toArray [(PySem.DictEntry.mk (PySem.PyData.keyHash P (PySem.Str.ofString "__name__")) (PySem.Value.str (PySem.Str.ofString "__name__") (165 : Nat)) (PySem.Value.str (PySem.Str.ofString "re") (341 : Nat))), (PySem.DictEntry.mk (PySem.PyData.keyHash P (PySem.Str.ofString "__doc__")) (PySem.Value.str (PySem.Str.ofString "__doc__") (166 : Nat)) PySem.Value.none), (PySem.DictEntry.mk (PySem.PyData.keyHash P (PySem.Str.ofString "__package__")) (PySem.Value.str (PySem.Str.ofString "__package__") (167 : Nat)) PySem.Value.none), (PySem.DictEntry.mk (PySem.PyData.keyHash P (PySem.Str.ofString "__loader__")) (PySem.Value.str (PySem.Str.ofString "__loader__") (168 : Nat)) (PySem.Value.builtin "__main__.__loader__#opaque")), (PySem.DictEntry.mk (PySem.PyData.keyHash P (PySem.Str.ofString "__spec__")) (PySem.Value.str (PySem.Str.ofString "__spec__") (169 : Nat)) PySem.Value.none), (PySem.DictEntry.mk (PySem.PyData.keyHash P (PySem.Str.ofString "__annotations__")) (PySem.Value.str (PySem.Str.ofString "__annotations__") (170 : Nat)) (PySem.Value.ref (6 : Nat))), (PySem.DictEntry.mk (PySem.PyData.keyHash P (PySem.Str.ofString "__builtins__")) (PySem.Value.str (PySem.Str.ofString "__builtins__") (171 : Nat)) (PySem.Value.ref (4 : Nat))), (PySem.DictEntry.mk (PySem.PyData.keyHash P (PySem.Str.ofString "__file__")) (PySem.Value.str (PySem.Str.ofString "__file__") (173 : Nat)) (PySem.Value.str (PySem.Str.ofString "/claim/cut.py") (172 : Nat))), (PySem.DictEntry.mk (PySem.PyData.keyHash P (PySem.Str.ofString "__cached__")) (PySem.Value.str (PySem.Str.ofString "__cached__") (174 : Nat)) PySem.Value.none), (PySem.DictEntry.mk (PySem.PyData.keyHash P (PySem.Str.ofString "_sre")) (PySem.Value.str (PySem.Str.ofString "_sre") (275 : Nat)) (PySem.Value.ref (12 : Nat))), (PySem.DictEntry.mk (PySem.PyData.keyHash P (PySem.Str.ofString "capwords")) (PySem.Value.str (PySem.Str.ofString "capwords") (291 : Nat)) (PySem.Value.ref (39 : Nat))), (PySem.DictEntry.mk (PySem.PyData.keyHash P (PySem.Str.ofString "_twin_re_1")) (PySem.Value.str (PySem.Str.ofString "_twin_re_1") (331 : Nat)) (PySem.Value.ref (44 : Nat))), (PySem.DictEntry.mk (PySem.PyData.keyHash P (PySem.Str.ofString "translate")) (PySem.Value.str (PySem.Str.ofString "translate") (340 : Nat)) (PySem.Value.ref (51 : Nat)))]) (13 : Nat)) (List.toArray []))
noncomputable def H.oA29 (P : Params) : Obj := (PySem.Obj.mk PySem.Value.none (Option.none) (PySem.Data.fields (List.toArray [(PySem.Value.int (3 : Int) (0 : Nat)), (PySem.Value.int (0 : Int) (0 : Nat)), (PySem.Value.ref (38 : Nat)), (PySem.Value.int (7 : Int) (0 : Nat)), (PySem.Value.int (0 : Int) (0 : Nat)), (PySem.Value.ref (50 : Nat))])) (List.toArray []))
noncomputable def H.oA37 (P : Params) : Obj := (PySem.Obj.mk PySem.Value.none (Option.none) (PySem.Data.func (PySem.FuncData.mk (PySem.Str.ofString "capwords") (PySem.Str.ofString "capwords") (H.fd P 39).params (H.fd P 39).body (H.fd P 39).scope (0 : Nat) [] PySem.Value.none PySem.Value.none PySem.Value.none PySem.Value.none (Option.none) PySem.Value.none PySem.Value.none (0 : Nat))) (List.toArray []))
noncomputable def H.oA40 (P : Params) : Obj := (PySem.Obj.mk (PySem.Value.type "list") (Option.none) (PySem.Data.seq (List.toArray [(PySem.Value.int (14 : Int) (297 : Nat)), (PySem.Value.int (14 : Int) (298 : Nat)), (PySem.Value.int (4 : Int) (299 : Nat)), (PySem.Value.int (1 : Int) (300 : Nat)), (PySem.Value.int (1 : Int) (301 : Nat)), (PySem.Value.int (9 : Int) (302 : Nat)), (PySem.Value.int (0 : Int) (303 : Nat)), (PySem.Value.int (64 : Int) (304 : Nat)), (PySem.Value.int (0 : Int) (305 : Nat)), (PySem.Value.int (1342177280 : Int) (306 : Nat)), (PySem.Value.int (0 : Int) (307 : Nat)), (PySem.Value.int (0 : Int) (308 : Nat)), (PySem.Value.int (0 : Int) (309 : Nat)), (PySem.Value.int (0 : Int) (310 : Nat)), (PySem.Value.int (0 : Int) (311 : Nat)), (PySem.Value.int (17 : Int) (312 : Nat)), (PySem.Value.int (0 : Int) (313 : Nat)), (PySem.Value.int (13 : Int) (314 : Nat)), (PySem.Value.int (11 : Int) (315 : Nat)), (PySem.Value.int (9 : Int) (316 : Nat)), (PySem.Value.int (0 : Int) (317 : Nat)), (PySem.Value.int (64 : Int) (318 : Nat)), (PySem.Value.int (0 : Int) (319 : Nat)), (PySem.Value.int (1342177280 : Int) (320 : Nat)), (PySem.Value.int (0 : Int) (321 : Nat)), (PySem.Value.int (0 : Int) (322 : Nat)), (PySem.Value.int (0 : Int) (323 : Nat)), (PySem.Value.int (0 : Int) (324 : Nat)), (PySem.Value.int (0 : Int) (325 : Nat)), (PySem.Value.int (17 : Int) (326 : Nat)), (PySem.Value.int (1 : Int) (327 : Nat)), (PySem.Value.int (1 : Int) (328 : Nat))]) (0 : Nat)) (List.toArray []))
noncomputable def H.oA41 (P : Params) : Obj := (PySem.Obj.mk (PySem.Value.type "dict") (Option.none) (PySem.Data.dict (List.toArray []) (0 : Nat)) (List.toArray []))
noncomputable def H.oA42 (P : Params) : Obj := (PySem.Obj.mk (PySem.Value.type "tuple") (Option.none) (PySem.Data.seq (List.toArray [PySem.Value.none, PySem.Value.none]) (0 : Nat)) (List.toArray []))
noncomputable def H.oA49 (P : Params) : Obj := (PySem.Obj.mk PySem.Value.none (Option.none) (PySem.Data.func (PySem.FuncData.mk (PySem.Str.ofString "translate") (PySem.Str.ofString "translate") (H.fd P 51).params (H.fd P 51).body (H.fd P 51).scope (0 : Nat) [] PySem.Value.none PySem.Value.none PySem.Value.none PySem.Value.none (Option.none) PySem.Value.none PySem.Value.none (0 : Nat))) (List.toArray []))
noncomputable def H.oB3 (P : Params) : Obj := (PySem.Obj.mk (PySem.Value.type "dict") (Option.none) (PySem.Data.dict (List.toArray [(PySem.DictEntry.mk (PySem.PyData.keyHash P (PySem.Str.ofString "__name__")) (PySem.Value.str (PySem.Str.ofString "__name__") (165 : Nat)) (PySem.Value.str (PySem.Str.ofString "re") (341 : Nat))), (PySem.DictEntry.mk (PySem.PyData.keyHash P (PySem.Str.ofString "__doc__")) (PySem.Value.str (PySem.Str.ofString "__doc__") (166 : Nat)) PySem.Value.none), (PySem.DictEntry.mk (PySem.PyData.keyHash P (PySem.Str.ofString "__package__")) (PySem.Value.str (PySem.Str.ofString "__package__") (167 : Nat)) PySem.Value.none), (PySem.DictEntry.mk (PySem.PyData.keyHash P (PySem.Str.ofString "__loader__")) (PySem.Value.str (PySem.Str.ofString "__loader__") (168 : Nat)) (PySem.Value.builtin "__main__.__loader__#opaque")), (PySem.DictEntry.mk (PySem.PyData.keyHash P (PySem.Str.ofString "__spec__")) (PySem.Value.str (PySem.Str.ofString "__spec__") (169 : Nat)) PySem.Value.none), (PySem.DictEntry.mk (PySem.PyData.keyHash P (PySem.Str.ofString "__annotations__")) (PySem.Value.str (PySem.Str.ofString "__annotations__") (170 : Nat)) (PySem.Value.ref (6 : Nat))), (PySem.DictEntry.mk (PySem.PyData.keyHash P (PySem.Str.ofString "__builtins__")) (PySem.Value.str (PySem.Str.ofString "__builtins__") (171 : Nat)) (PySem.Value.ref (4 : Nat))), (PySem.DictEntry.mk (PySem.PyData.keyHash P (PySem.Str.ofString "__file__")) (PySem.Value.str (PySem.Str.ofString "__file__") (173 : Nat)) (PySem.Value.str (PySem.Str.ofString "/claim/cut.py") (172 : Nat))), (PySem.DictEntry.mk (PySem.PyData.keyHash P (PySem.Str.ofString "__cached__")) (PySem.Value.str (PySem.Str.ofString "__cached__") (174 : Nat)) PySem.Value.none), (PySem.DictEntry.mk (PySem.PyData.keyHash P (PySem.Str.ofString "_sre")) (PySem.Value.str (PySem.Str.ofString "_sre") (275 : Nat)) (PySem.Value.ref (12 : Nat))), (PySem.DictEntry.mk (PySem.PyData.keyHash P (PySem.Str.ofString "capwords")) (PySem.Value.str (PySem.Str.ofString "capwords") (291 : Nat)) (PySem.Value.ref (39 : Nat))), (PySem.DictEntry.mk (PySem.PyData.keyHash P (PySem.Str.ofString "_twin_re_1")) (PySem.Value.str (PySem.Str.ofString "_twin_re_1") (331 : Nat)) (PySem.Value.ref (44 : Nat))), (PySem.DictEntry.mk (PySem.PyData.keyHash P (PySem.Str.ofString "translate")) (PySem.Value.str (PySem.Str.ofString "translate") (340 : Nat)) (PySem.Value.ref (51 : Nat))), (PySem.DictEntry.mk (PySem.PyData.keyHash P (PySem.Str.ofString "_special_chars_map")) (PySem.Value.str (PySem.Str.ofString "_special_chars_map") (488 : Nat)) (PySem.Value.ref (53 : Nat)))]) (14 : Nat)) (List.toArray []))
noncomputable def H.oB52 (P : Params) : Obj := (PySem.Obj.mk (PySem.Value.type "bytes_iterator") (Option.none) (PySem.Data.fields (List.toArray [PySem.Value.none, (PySem.Value.int (24 : Int) (0 : Nat))])) (List.toArray []))
noncomputable def H.oB54 (P : Params) : Obj := (PySem.Obj.mk (PySem.Value.type "dict") (Option.none) (PySem.Data.dict (List.toArray []) (2 : Nat)) (List.toArray []))
noncomputable def H.oB56 (P : Params) : Obj := (PySem.Obj.mk (PySem.Value.type "StopIteration") (Option.none) (PySem.Data.fields (List.toArray [(PySem.Value.ref (55 : Nat)), PySem.Value.none, PySem.Value.none, PySem.Value.none, (PySem.Value.bool Bool.false), PySem.Value.none])) (List.toArray []))
noncomputable def H.life : Life := (PySem.Life.mk [] [] [] (0 : Nat) [] [] Bool.false (List.toArray []) [] (0 : Nat) Bool.false Bool.false Bool.false (0 : Int) [(2000 : Int), (10 : Int), (10 : Int)] Bool.false (0 : Nat) Bool.true [] [] (0 : Nat) Bool.false)
noncomputable def H.drawn : Drawn := (PySem.Drawn.mk (0 : Nat) (0 : Nat) (0 : Nat) (0 : Nat))
noncomputable def H.hS (P : Params) : Heap := ⟨⟨[boot_o_0 P, H.oS1 P, H.k P 2, H.oS3 P, boot_o_4 P, boot_o_5 P, boot_o_6 P, boot_o_7 P, boot_o_8 P, boot_o_9 P, boot_o_10 P, H.k P 11, H.k P 12, H.oS13 P, H.oS14 P, H.oS15 P, H.oS16 P, H.oS17 P, H.oS18 P, H.oS19 P, H.oS20 P, H.oS21 P, H.oS22 P, H.oS23 P, H.oS24 P, H.oS25 P, H.oS26 P, H.oS27 P]⟩, H.life⟩
noncomputable def H.hP (P : Params) : Heap := ⟨⟨[boot_o_0 P, H.oS1 P, H.k P 2, H.oS3 P, boot_o_4 P, boot_o_5 P, boot_o_6 P, boot_o_7 P, boot_o_8 P, boot_o_9 P, boot_o_10 P, H.k P 11, H.k P 12, H.oS13 P, H.oS14 P, H.oS15 P, H.oS16 P, H.oS17 P, H.oS18 P, H.oS19 P, H.oS20 P, H.oS21 P, H.oS22 P, H.oS23 P, H.oS24 P, H.oS25 P, H.oS26 P, H.oS27 P, H.oS15 P, H.oP29 P, H.oP30 P, H.oP31 P]⟩, H.life⟩
noncomputable def H.hQ (P : Params) : Heap := ⟨⟨[boot_o_0 P, H.oS1 P, H.k P 2, H.oS3 P, boot_o_4 P, boot_o_5 P, boot_o_6 P, boot_o_7 P, boot_o_8 P, boot_o_9 P, boot_o_10 P, H.k P 11, H.k P 12, H.oS13 P, H.oS14 P, H.oS15 P, H.oS16 P, H.oS17 P, H.oS18 P, H.oS19 P, H.oS20 P, H.oS21 P, H.oS22 P, H.oS23 P, H.oS24 P, H.oS25 P, H.oS26 P, H.oS27 P, H.oS15 P, H.oP29 P, H.oP30 P, H.oP31 P]⟩, H.life⟩
noncomputable def H.hA (P : Params) : Heap := ⟨⟨[boot_o_0 P, H.oS1 P, H.k P 2, H.oA3 P, boot_o_4 P, boot_o_5 P, boot_o_6 P, boot_o_7 P, boot_o_8 P, boot_o_9 P, boot_o_10 P, H.k P 11, H.k P 12, H.oS13 P, H.oS14 P, H.oS15 P, H.oS16 P, H.oS17 P, H.oS18 P, H.oS19 P, H.oS20 P, H.oS21 P, H.oS22 P, H.oS23 P, H.oS24 P, H.oS25 P, H.oS26 P, H.oS27 P, H.oS15 P, H.oA29 P, H.oP30 P, H.oP31 P, H.k P 32, H.k P 33, H.oP29 P, H.k P 35, H.k P 36, H.oA37 P, H.k P 38, H.k P 39, H.oA40 P, H.oA41 P, H.oA42 P, H.k P 43, H.k P 44, H.k P 45, H.oP29 P, H.k P 47, H.k P 48, H.oA49 P, H.k P 50, H.k P 51]⟩, H.life⟩
noncomputable def H.hB (P : Params) : Heap := ⟨⟨[boot_o_0 P, H.oS1 P, H.k P 2, H.oB3 P, boot_o_4 P, boot_o_5 P, boot_o_6 P, boot_o_7 P, boot_o_8 P, boot_o_9 P, boot_o_10 P, H.k P 11, H.k P 12, H.oS13 P, H.oS14 P, H.oS15 P, H.oS16 P, H.oS17 P, H.oS18 P, H.oS19 P, H.oS20 P, H.oS21 P, H.oS22 P, H.oS23 P, H.oS24 P, H.oS25 P, H.oS26 P, H.oS27 P, H.oS15 P, H.oA29 P, H.oP30 P, H.oP31 P, H.k P 32, H.k P 33, H.oP29 P, H.k P 35, H.k P 36, H.oA37 P, H.k P 38, H.k P 39, H.oA40 P, H.oA41 P, H.oA42 P, H.k P 43, H.k P 44, H.k P 45, H.oP29 P, H.k P 47, H.k P 48, H.oA49 P, H.k P 50, H.k P 51, H.oB52 P, H.k P 53, H.oB54 P, H.oS15 P, H.oB56 P]⟩, H.life⟩
noncomputable def H.ann : Option Value := (Option.some (PySem.Value.ref (6 : Nat)))
noncomputable def H.env : Env := { scope := H.rr.prog.main.scope, locals := mainNs, globals := mainNs, cells := [], code := (PySem.Value.ref (30 : Nat)), frame := some 31 }
noncomputable def H.fp : Pos := (PySem.Pos.mk (0 : Nat) (0 : Nat) (0 : Nat) (0 : Nat))
noncomputable def H.pP : Pos := (PySem.Pos.mk (0 : Nat) (0 : Nat) (0 : Nat) (0 : Nat))
noncomputable def H.pQ : Pos := (PySem.Pos.mk (0 : Nat) (0 : Nat) (0 : Nat) (0 : Nat))
noncomputable def H.pA : Pos := (PySem.Pos.mk (11 : Nat) (0 : Nat) (11 : Nat) (8 : Nat))
noncomputable def H.pB : Pos := (PySem.Pos.mk (12 : Nat) (0 : Nat) (12 : Nat) (18 : Nat))
noncomputable def H.b : List Stmt := behindTheImports H.rr.prog
noncomputable def H.c : Code := .body H.b H.env
theorem H.opened (w : World) : (fencedOpening treeTable H.rr.prog w 3688).map (fun s => (s.heap, s.gens, s.drawn, s.toks)) = some (H.hS w.params, #[], H.drawn, 276) := by
  rewrite [PySem.W.Fast.te14364793385576792824]; kernel_rfl
theorem H.size (w : World) : ((H.hS w.params).isNs mainGlobals && (#[] : Array GenState).size == 0, (H.hS w.params).objs.size, (H.hS w.params).nsMap mainGlobals "__annotations__") = (true, 28, H.ann) := by kernel_rfl
theorem H.pre (w : World) (os : OsState) : topGo treeTable H.rr.prog w 28 H.ann 12 ⟨H.hS w.params, #[], H.drawn, 276, os⟩ (topStub H.rr.prog) = some (⟨H.hP w.params, #[], H.drawn, 282, os⟩, ⟨denote treeTable H.c, H.c, H.pP, [topFrame H.fp]⟩) := by
  rewrite [PySem.W.Fast.te14364793385576792824]; kernel_rfl
theorem H.block (w : World) (os : OsState) : segRun treeTable H.rr.prog w 28 H.ann 1 1 ⟨H.hP w.params, #[], H.drawn, 282, os⟩ (blockOf H.b H.env H.c H.pP [topFrame H.fp]) = some (.next, ⟨H.hQ w.params, #[], H.drawn, 282, os⟩, H.c, H.pQ) := by
  rewrite [PySem.W.Fast.te14364793385576792824]; kernel_rfl
theorem H.ahead (w : World) (os : OsState) : segRun treeTable H.rr.prog w 28 H.ann 1 171 ⟨H.hQ w.params, #[], H.drawn, 282, os⟩ (piecesOf (H.b.take 6) H.env H.c H.pQ [topFrame H.fp]) = some (.next, ⟨H.hA w.params, #[], H.drawn, 343, os⟩, H.c, H.pA) := by
  rewrite [PySem.W.Fast.te14364793385576792824]; kernel_rfl
def H.Comp (w : World) : Prop := ∀ os : OsState, segRun treeTable H.rr.prog w 28 H.ann 1 1253 ⟨H.hA w.params, #[], H.drawn, 343, os⟩ (piecesOf ((H.b.drop 6).take 1) H.env H.c H.pA [topFrame H.fp]) = some (.next, ⟨H.hB w.params, #[], H.drawn, 489, os⟩, H.c, H.pB)
theorem H.way0 (w : World) : H.Comp ((w.withFollow "special-get-raises" false).withFollow "comprehension-iter-twice" false) := fun os => by
  show segRun treeTable H.rr.prog ((w.withFollow "special-get-raises" false).withFollow "comprehension-iter-twice" false) 28 H.ann 1 1253 ⟨H.hA ((w.withFollow "special-get-raises" false).withFollow "comprehension-iter-twice" false).params, #[], H.drawn, 343, os⟩ (piecesOf ((H.b.drop 6).take 1) H.env H.c H.pA [topFrame H.fp]) = some (.next, ⟨H.hB ((w.withFollow "special-get-raises" false).withFollow "comprehension-iter-twice" false).params, #[], H.drawn, 489, os⟩, H.c, H.pB)
  rewrite [PySem.W.Fast.te14364793385576792824]; kernel_rfl
theorem H.way1 (w : World) : H.Comp ((w.withFollow "special-get-raises" true).withFollow "comprehension-iter-twice" false) := fun os => by
  show segRun treeTable H.rr.prog ((w.withFollow "special-get-raises" true).withFollow "comprehension-iter-twice" false) 28 H.ann 1 1253 ⟨H.hA ((w.withFollow "special-get-raises" true).withFollow "comprehension-iter-twice" false).params, #[], H.drawn, 343, os⟩ (piecesOf ((H.b.drop 6).take 1) H.env H.c H.pA [topFrame H.fp]) = some (.next, ⟨H.hB ((w.withFollow "special-get-raises" true).withFollow "comprehension-iter-twice" false).params, #[], H.drawn, 489, os⟩, H.c, H.pB)
  rewrite [PySem.W.Fast.te14364793385576792824]; kernel_rfl
theorem H.way2 (w : World) : H.Comp ((w.withFollow "special-get-raises" false).withFollow "comprehension-iter-twice" true) := fun os => by
  show segRun treeTable H.rr.prog ((w.withFollow "special-get-raises" false).withFollow "comprehension-iter-twice" true) 28 H.ann 1 1253 ⟨H.hA ((w.withFollow "special-get-raises" false).withFollow "comprehension-iter-twice" true).params, #[], H.drawn, 343, os⟩ (piecesOf ((H.b.drop 6).take 1) H.env H.c H.pA [topFrame H.fp]) = some (.next, ⟨H.hB ((w.withFollow "special-get-raises" false).withFollow "comprehension-iter-twice" true).params, #[], H.drawn, 489, os⟩, H.c, H.pB)
  rewrite [PySem.W.Fast.te14364793385576792824]; kernel_rfl
theorem H.way3 (w : World) : H.Comp ((w.withFollow "special-get-raises" true).withFollow "comprehension-iter-twice" true) := fun os => by
  show segRun treeTable H.rr.prog ((w.withFollow "special-get-raises" true).withFollow "comprehension-iter-twice" true) 28 H.ann 1 1253 ⟨H.hA ((w.withFollow "special-get-raises" true).withFollow "comprehension-iter-twice" true).params, #[], H.drawn, 343, os⟩ (piecesOf ((H.b.drop 6).take 1) H.env H.c H.pA [topFrame H.fp]) = some (.next, ⟨H.hB ((w.withFollow "special-get-raises" true).withFollow "comprehension-iter-twice" true).params, #[], H.drawn, 489, os⟩, H.c, H.pB)
  rewrite [PySem.W.Fast.te14364793385576792824]; kernel_rfl
theorem H.wayF (w : World) : H.Comp (w.withFollow "comprehension-iter-twice" false) := byRow2 "special-get-raises" (P := fun w => H.Comp (w.withFollow "comprehension-iter-twice" false)) H.way0 H.way1 w
theorem H.wayT (w : World) : H.Comp (w.withFollow "comprehension-iter-twice" true) := byRow2 "special-get-raises" (P := fun w => H.Comp (w.withFollow "comprehension-iter-twice" true)) H.way2 H.way3 w
theorem H.comp (w : World) : H.Comp w := byRow2 "comprehension-iter-twice" (P := H.Comp) H.wayF H.wayT w
noncomputable def H.look (w : World) (s : Shared) := (staticsOk (importedModules H.rr.prog.main.body) (H.hS w.params) s.heap && namesBound H.rr.prog s.heap && gensDone s && laidKept (H.hS w.params) s.heap, openSeen H.vw H.loose (importedModules H.rr.prog.main.body) H.xt true s, (kmHook hd.heap_1 H.ad H.adEq [65]).obs s)
theorem H.rest (w : World) (os : OsState) : (topRun treeTable H.rr.prog w 28 H.ann 361 ⟨H.hB w.params, #[], H.drawn, 489, os⟩ (restOf (H.b.drop 7) H.env H.c H.pB [topFrame H.fp])).map (H.look w) = some (true, openGood H.vw H.loose, (kmHook hd.heap_1 H.ad H.adEq [65]).val w) := by
  rewrite [PySem.W.Fast.te14364793385576792824]; kernel_rfl
set_option maxRecDepth 100000 in
theorem H.ran {w : World} {os : OsState} {r : Shared} (h : topRun treeTable H.rr.prog w 28 H.ann 361 ⟨H.hB w.params, #[], H.drawn, 489, os⟩ (restOf (H.b.drop 7) H.env H.c H.pB [topFrame H.fp]) = some r) : topRun treeTable H.rr.prog w 28 H.ann 3688 ⟨H.hS w.params, #[], H.drawn, 276, os⟩ (topStub H.rr.prog) = some r := by
  have h2 := piece_app (H.comp w os) h
  have h3 := piece_app (H.ahead w os) h2
  have e : H.b.take 6 ++ ((H.b.drop 6).take 1 ++ H.b.drop 7) = H.b := by
    rw [show H.b.drop 7 = (H.b.drop 6).drop 1 from by rw [List.drop_drop], List.take_append_drop, List.take_append_drop]
  rw [e] at h3
  have h4 := go_top (H.pre w os) (piece_block (H.block w os) h3)
  have h5 := topRun_mono (3688 - (12 + (1 + (171 + (1253 + 361))))) _ _ _ _ h4
  have e5 : (12 + (1 + (171 + (1253 + 361)))) + (3688 - (12 + (1 + (171 + (1253 + 361))))) = 3688 := by decide
  rw [e5] at h5
  exact h5
set_option maxRecDepth 100000 in
theorem H.ways (w : World) : (openEnds treeTable H.rr.prog w 3688).map (fun s => (openSeen H.vw H.loose (importedModules H.rr.prog.main.body) H.xt true s, (kmHook hd.heap_1 H.ad H.adEq [65]).obs s)) = some (openGood H.vw H.loose, (kmHook hd.heap_1 H.ad H.adEq [65]).val w) := by
  obtain ⟨⟨h, gs, d, k, os⟩, e, e'⟩ := Option.map_eq_some_iff.mp (H.opened w)
  obtain ⟨rfl, rfl, rfl, rfl⟩ : h = H.hS w.params ∧ gs = #[] ∧ d = H.drawn ∧ k = 276 := by simpa only [Option.some.injEq, Prod.mk.injEq] using e'
  obtain ⟨z1, z2, z3⟩ : _ ∧ _ ∧ _ := by simpa only [Prod.mk.injEq] using H.size w
  obtain ⟨r, hr, hl⟩ := Option.map_eq_some_iff.mp (H.rest w os)
  obtain ⟨l1, l2, l3⟩ : _ ∧ _ ∧ _ := by simpa only [H.look, Prod.mk.injEq] using hl
  have t : topFrom treeTable H.rr.prog w 3688 ⟨H.hS w.params, #[], H.drawn, 276, os⟩ = some r := by
    unfold topFrom
    dsimp only
    rw [z1, z2, z3, H.ran hr]
    show (match staticsOk (importedModules H.rr.prog.main.body) (H.hS w.params) r.heap && namesBound H.rr.prog r.heap && gensDone r && laidKept (H.hS w.params) r.heap with | true => _ | false => _) = _
    rw [l1]
  unfold openEnds
  rw [e]
  show (topFrom treeTable H.rr.prog w 3688 _).map _ = _
  rw [t]
  exact congrArg some (Prod.ext l2 l3)
theorem H.with {X : Prop} (h : X) : LeftO H.rr.prog H.vw H.loose H.xt (kmHook hd.heap_1 H.ad H.adEq [65]).obs (kmHook hd.heap_1 H.ad H.adEq [65]).val 3688 ∧ X := ⟨H.ways, h⟩
end Mine
set_option maxRecDepth 100000
set_option maxHeartbeats 20000000
set_option maxRecDepth 100000
namespace Mine
theorem lk_list_append : typeLookup (.type "list") "append" = pure (some (.builtin "list.append")) := by rw [typeLookup_type, builtinLookup_eq_fast]; kernel_rfl
theorem slot_md_get : Slot "method_descriptor" "__get__" "method_descriptor.__get__" :=
  .of (owner := "method_descriptor") (n := "__get__") (by rw [typeLookup_type, builtinLookup_eq_fast]; kernel_rfl) (by decide +kernel) (by decide +kernel) (by decide +kernel)
    (by first | exact .inl (by decide +kernel) | exact .inr (by decide +kernel)) (by rw [isSubtype_type]; kernel_rfl)
theorem lk_md_set : typeLookup (.type "method_descriptor") "__set__" = pure none := by rw [typeLookup_type, builtinLookup_eq_fast]; kernel_rfl
theorem lk_md_delete : typeLookup (.type "method_descriptor") "__delete__" = pure none := by rw [typeLookup_type, builtinLookup_eq_fast]; kernel_rfl
theorem entry_md_get : entryFor table "method_descriptor.__get__" = some Builtin.«method_descriptor.__get__» := entryFor_of_tree (by kernel_rfl)
theorem args_md_get (a b c : Value) : argsOk "method_descriptor.__get__" ⟨[a, b, c], []⟩ := by unfold argsOk; kernel_rfl
theorem owner_list_append : (".".intercalate ("list.append".cutAt '.').dropLast) = "list" := by
  have e0 : "list.append".cutAt '.' = ["list", "append"] := by first | rfl | decide +kernel
  rw [e0]; decide +kernel
theorem sub_append_owner : isSubtype (.type "list") (.type (".".intercalate ("list.append".cutAt '.').dropLast)) = pure true := by
  rw [owner_list_append, isSubtype_type]; kernel_rfl
/-- the object that `xs.append` makes -/
abbrev apObj (a : Addr) : Obj := { cls := .type "builtin_function_or_method", data := .fields #[.builtin "list.append", .ref a] }
section
variable {prog : Program} {w : World} {A : Around} {E : Value → Shared → Prop} {h : Heap} {g : Array GenState} {d : Drawn} {t : Nat} {os : OsState} {a : Addr} {xs : Array Value} {k : Nat}
theorem getmd {R : Result → Shared → Prop}
    (hx : h.get? a = some (W.listOf xs k)) (hq : R (.ok (.ret (.ref h.objs.size))) ⟨h.push (apObj a), g, d, t, os⟩) :
    codeAny (model prog w) A (.call (.builtin "method_descriptor.__get__") ⟨[.builtin "list.append", .ref a, .type "list"], []⟩) R ⟨h, g, d, t, os⟩ := by
  have hT : ∀ tk', (⟨h, g, d, tk', os⟩ : Shared).TypeIs (.ref a) "list" := fun _ => ⟨_, hx, rfl⟩
  have hT5 : (⟨h, g, d, t, os⟩ : Shared).TypeIs (.builtin "list.append") "method_descriptor" := F.type_list_append
  have f8 := sub_append_owner
  refine codeAny_call_builtin slot_md_get.plain entry_md_get (slot_md_get.check _ _ _ _ _ _ _ _ hT5 (args_md_get _ _ _) ?_)
  repeat (any_goals (first | assumption | wp_step))
theorem apentry {Q : Fin → Shared → Prop} {tk : Tok}
    (hx : h.get? a = some (W.listOf xs k)) (hq : Q (.done (.ret (.ref h.objs.size))) ⟨h.push (apObj a), g, d, t, os⟩) :
    wpAny (model prog w) A (Builtin.«object.__getattribute__» ⟨[.ref a, .str "append" tk], []⟩) Q E ⟨h, g, d, t, os⟩ := by
  have hT : ∀ tk', (⟨h, g, d, tk', os⟩ : Shared).TypeIs (.ref a) "list" := fun _ => ⟨_, hx, rfl⟩
  have hT5 : (⟨h, g, d, t, os⟩ : Shared).TypeIs (.builtin "list.append") "method_descriptor" := F.type_list_append
  have f6 := lk_list_append
  have f7 := F.type_list_append
  have f8 := slot_md_get.lookup
  have f9 := lk_md_set
  have f10 := lk_md_delete
  repeat (any_goals (first | assumption | exact hT _ | (with_reducible show codeAny _ _ (Code.call (Value.builtin "method_descriptor.__get__") _) _ _; refine getmd hx ?_) | wp_step))
theorem getappend {Q : Value → Shared → Prop}
    (hx : h.get? a = some (W.listOf xs k)) (hq : Q (.ref h.objs.size) ⟨h.push (apObj a), g, d, t + 1, os⟩) :
    wpAny (model prog w) A (getAttr (.ref a) "append" true) Q E ⟨h, g, d, t, os⟩ := by
  have hT : ∀ tk', (⟨h, g, d, tk', os⟩ : Shared).TypeIs (.ref a) "list" := fun _ => ⟨_, hx, rfl⟩
  have f3 := F.slot_list_getattribute.lookup
  have f4 := F.slot_list_getattribute.bind (.ref a)
  have f5 := am_list_getattr_none
  have f6 := lk_list_append
  unfold getAttr getAttrBy
  repeat (any_goals (first | assumption | exact hT _ | (with_reducible show codeAny _ _ (Code.call (Value.builtin "list.__getattribute__") _) _ _; refine codeAny_call_builtin F.slot_list_getattribute.plain F.entry_list_ga (F.slot_list_getattribute.check _ _ _ _ _ _ _ _ (hT _) (F.args_list_getattribute_2 _ _) (apentry hx ?_))) | wp_step))
end
end Mine
set_option maxRecDepth 100000
namespace Mine
theorem mro_object : mroOf (.type "object") = pure [.type "object"] := by rw [mroOf_type]; kernel_rfl
theorem lookup_object_new : typeLookup (.type "object") "__new__" = pure (some (.builtin "object.__new__")) := by rw [typeLookup_type, builtinLookup_eq_fast]; kernel_rfl
theorem slot_object_init : Slot "object" "__init__" "object.__init__" :=
  .of (owner := "object") (n := "__init__") (by rw [typeLookup_type, builtinLookup_eq_fast]; kernel_rfl) (by decide +kernel) (by decide +kernel) (by decide +kernel)
    (by first | exact .inl (by decide +kernel) | exact .inr (by decide +kernel)) (by rw [isSubtype_type]; kernel_rfl)
theorem called_object : TypeCalled "object" "object.__new__" "object.__init__" :=
  ⟨by decide +kernel, by decide +kernel, ⟨_, _, mro_object⟩, madeBy_type mro_object lookup_object_new (by decide +kernel), by decide +kernel, by rw [isSubtype_type]; kernel_rfl, slot_object_init⟩
theorem typeCall_object : checkTypeCall "object" ⟨[], []⟩ = pure () := by kernel_rfl
theorem newCall_object : checkBuiltinCall "object.__new__" ⟨[.type "object"], []⟩ = pure () := by kernel_rfl
theorem entry_object_new : entryFor table "object.__new__" = some Builtin.«object.__new__» := entryFor_of_tree (by kernel_rfl)
theorem madeHere_object : Bind.madeHere "object.__new__" (.type "object") = pure () := by
  unfold Bind.madeHere
  have e : Bind.staticBase (.type "object") = pure (.type "object") := by first | rfl | kernel_rfl
  rw [e]
  simp only [pure_bind, called_object.made]
  first | rfl | kernel_rfl | (simp; rfl)
theorem meets_object_new : Meets (Builtin.«object.__new__» ⟨[.type "object"], []⟩) (fun _ R s => R (.ok (.ret (.ref s.heap.objs.size))) { s with heap := s.heap.push { cls := .type "object" } }) :=
  .of_wp fun prog w A R s h => by
    obtain ⟨hp, g, d, tk, os⟩ := s
    have hmh := madeHere_object
    wp_walk
    all_goals first | exact ⟨_, rfl, h⟩ | exact h
theorem callobject {prog : Program} {w : World} {A : Around} {E : Value → Shared → Prop} {s : Shared} {Q : Value → Shared → Prop} 
  (hq : Q (.ref s.heap.objs.size) { s with heap := s.heap.push { cls := .type "object" } }) : wpAny (model prog w) A (call (.type "object") []) Q E s :=
  callType_meets called_object typeCall_object newCall_object entry_object_new F.entry_object_init meets_object_new (Q₁ := fun v s' => v = .ref s.heap.objs.size ∧ s' = { s with heap := s.heap.push { cls := .type "object" } }) ⟨rfl, rfl⟩
    (fun obj s₁ h => by
      obtain ⟨rfl, rfl⟩ := h
      refine ⟨⟨_, Heap.get?_push_size _ rfl, rfl⟩, by unfold argsOk; kernel_rfl, (fun _ R s => R (.ok (.ret .none)) s), Meets.of_wp fun prog w A R s hs => wpAny_pure ⟨_, rfl, hs⟩, rfl, hq⟩)
theorem sub_list_module : isSubtype (.type "list") (.type "module") = pure false := by rw [isSubtype_type]; kernel_rfl
theorem sub_list_type : isSubtype (.type "list") (.type "type") = pure false := by rw [isSubtype_type]; kernel_rfl
theorem callappend {prog : Program} {w : World} {A : Around} {E : Value → Shared → Prop} {s : Shared} {q a : Addr} {v : Value} {xs : Array Value} {k : Nat} {Q : Value → Shared → Prop} (hx : s.heap.get? q = some (apObj a)) (hl : s.heap.get? a = some (W.listOf xs k)) (hsz : xs.size ≤ sizeLine)
  (hq : Q .none { s with heap := s.heap.update a (Obj.mapSeq (·.push v)) }) : wpAny (model prog w) A (call (.ref q) [v]) Q E s := by
  obtain ⟨h, g, d, t, os⟩ := s
  refine wpAny_call (codeAny_of_tree ?_)
  show wpAny _ _ (callAny (.ref q) _) _ _ _
  dsimp only at hx hl
  refine nd_load hx ?_
  have hT : ∀ tk', (⟨h, g, d, tk', os⟩ : Shared).TypeIs (.ref a) "list" := fun _ => ⟨_, hl, rfl⟩
  have f1 := sub_list_module
  have f2 := sub_list_type
  show wpAny _ _ (checkBoundCall "list.append" ⟨[.ref a, v], []⟩ >>= fun _ => again (.builtin "list.append" ⟨[.ref a, v], []⟩)) _ _ _
  unfold checkBoundCall
  repeat (any_goals (first | assumption | exact hT _ | wp_step))
  refine ⟨Code.quiet_builtin _ (by decide +kernel), codeAny_builtin F.entry_list_append ?_⟩
  show wpAny _ _ (updateSeq a (·.push v) >>= fun _ => ret .none) _ _ _
  exact wpAny_bind (wpAny_updateSeq hl rfl (wpAny_pure hq))
end Mine
set_option maxRecDepth 100000
namespace Mine
theorem cap_found : findCls [] (.type "str") (.type "type") (Str.ofString "capitalize") = some (.val (.builtin "str.capitalize")) := by first | rfl | kernel_rfl
/-- str.capitalize read off the type -/
theorem capAttr {prog : Program} {w : World} {A : Around} {E : Value → Shared → Prop} {s : Shared} {Q : Value → Shared → Prop} {ex : Bool}
    (hq : Q (.builtin "str.capitalize") { s with toks := s.toks + 1 }) :
    wpAny (model prog w) A (getAttr (.type "str") (Str.ofString "capitalize") ex) Q E s := by
  have X : Frag.In [] s.heap := fun _ _ e => by cases e
  have hstub : opaqueClassAbove (.type "str") = pure none := by unfold opaqueClassAbove; dsimp only; rw [show Manifest.isStub "str" = false by decide +kernel]; rfl
  have ht : typeOf (.type "str") = pure (.type "type") := by first | rfl | kernel_rfl
  refine cls_open X (Looks.of_pure hstub) (Looks.of_pure ht) type_tga (looks_hook X (r := none) (by rfl)) (by show subIn [] _ _ = _; rfl) cap_found (wpAny_pure (by show wpAny _ _ (handedOut _) _ _ _; rw [handedOut_of (by decide +kernel)]; exact wpAny_pure hq))
theorem mro_map : mroOf (.type "map") = pure [.type "map", .type "object"] := by rw [mroOf_type]; kernel_rfl
theorem lookup_map_new : typeLookup (.type "map") "__new__" = pure (some (.builtin "map.__new__")) := by rw [typeLookup_type, builtinLookup_eq_fast]; kernel_rfl
theorem slot_map_init : Slot "map" "__init__" "object.__init__" :=
  .of (owner := "object") (n := "__init__") (by rw [typeLookup_type, builtinLookup_eq_fast]; kernel_rfl) (by decide +kernel) (by decide +kernel) (by decide +kernel)
    (by first | exact .inl (by decide +kernel) | exact .inr (by decide +kernel)) (by rw [isSubtype_type]; kernel_rfl)
theorem slot_map_iter : Slot "map" "__iter__" "map.__iter__" :=
  .of (owner := "map") (n := "__iter__") (by rw [typeLookup_type, builtinLookup_eq_fast]; kernel_rfl) (by decide +kernel) (by decide +kernel) (by decide +kernel)
    (by first | exact .inl (by decide +kernel) | exact .inr (by decide +kernel)) (by rw [isSubtype_type]; kernel_rfl)
theorem slot_map_next : Slot "map" "__next__" "map.__next__" :=
  .of (owner := "map") (n := "__next__") (by rw [typeLookup_type, builtinLookup_eq_fast]; kernel_rfl) (by decide +kernel) (by decide +kernel) (by decide +kernel)
    (by first | exact .inl (by decide +kernel) | exact .inr (by decide +kernel)) (by rw [isSubtype_type]; kernel_rfl)
theorem entry_map_iter : entryFor table "map.__iter__" = some Builtin.«dict_keyiterator.__iter__» :=
  entryFor_alias (id' := "dict_keyiterator.__iter__") (by kernel_rfl) (by first | rfl | decide +kernel | (unfold String.splitOn; simp +decide [String.splitOnAux])) (by decide +kernel) (by kernel_rfl)
theorem entry_map_next : entryFor table "map.__next__" = some Builtin.«map.__next__» := entryFor_of_tree (by kernel_rfl)
theorem args_map_iter (a : Value) : argsOk "map.__iter__" ⟨[a], []⟩ := by unfold argsOk; kernel_rfl
theorem args_map_next (a : Value) : argsOk "map.__next__" ⟨[a], []⟩ := by unfold argsOk; kernel_rfl
theorem called_map : TypeCalled "map" "map.__new__" "object.__init__" :=
  ⟨by decide +kernel, by decide +kernel, ⟨_, _, mro_map⟩, madeBy_type mro_map lookup_map_new (by decide +kernel), by decide +kernel, by rw [isSubtype_type]; kernel_rfl, slot_map_init⟩
theorem typeCall_map (a b : Value) : checkTypeCall "map" ⟨[a, b], []⟩ = pure () := by kernel_rfl
theorem newCall_map (a b : Value) : checkBuiltinCall "map.__new__" ⟨[.type "map", a, b], []⟩ = pure () := by kernel_rfl
theorem entry_map_new : entryFor table "map.__new__" = some Builtin.«map.__new__» := entryFor_of_tree (by kernel_rfl)
theorem sub_map : isSubtype (.type "map") (.type "map") = pure true := by rw [isSubtype_type]; kernel_rfl
theorem map_no_len : typeLookup (.type "map") "__len__" = pure none := by rw [typeLookup_type, builtinLookup_eq_fast]; kernel_rfl
theorem map_no_hint : typeLookup (.type "map") "__length_hint__" = pure none := by rw [typeLookup_type, builtinLookup_eq_fast]; kernel_rfl
abbrev mapObj (T : Addr) : Obj := { cls := .type "map", data := .fields #[.ref T, .builtin "str.capitalize"] }
abbrev oneTup (I : Addr) : Obj := { cls := .type "tuple", data := .seq #[.ref I] }
theorem meets_map_new (a : Addr) (xs : Array Value) : Meets (Builtin.«map.__new__» ⟨[.type "map", .builtin "str.capitalize", .ref a], []⟩) (fun _ R s => s.heap.IsList a xs ∧
     R (.ok (.ret (.ref ((s.heap.push { cls := .type "list_iterator", data := .fields #[.ref a, .int 0 0] }).push (oneTup s.heap.objs.size)).objs.size))) { s with heap := ((s.heap.push { cls := .type "list_iterator", data := .fields #[.ref a, .int 0 0] }).push (oneTup s.heap.objs.size)).push (mapObj (s.heap.push { cls := .type "list_iterator", data := .fields #[.ref a, .int 0 0] }).objs.size) }) :=
  .of_wp fun prog w A R s hs => by
    obtain ⟨hp, g, d, tk, os⟩ := s
    obtain ⟨hx, h⟩ := hs
    have hmh := sub_map
    have hL1 : Heap.IsList (Shared.heap ⟨hp, g, d, tk, os⟩) a xs := hx
    wp_walk using wpAny_pyIter_list hL1
    exact ⟨_, rfl, h⟩
section
variable {prog : Program} {w : World} {A : Around} {E : Value → Shared → Prop} {s : Shared}
theorem call_map {a : Addr} {xs : Array Value} {Q : Value → Shared → Prop} (hl : s.heap.IsList a xs)
    (h : ∀ h', h'.get? (s.heap.objs.size + 2) = some (mapObj (s.heap.objs.size + 1)) → h'.get? (s.heap.objs.size + 1) = some (oneTup s.heap.objs.size) → h'.IsListIter s.heap.objs.size a 0 →
      h'.objs.size = s.heap.objs.size + 3 → (∀ c o, s.heap.get? c = some o → h'.get? c = some o) → Q (.ref (s.heap.objs.size + 2)) { s with heap := h' }) :
    wpAny (model prog w) A (call (.type "map") [.builtin "str.capitalize", .ref a]) Q E s := by
  refine callType_new called_map (by decide) (typeCall_map _ _) (newCall_map _ _) (fun obj => F.args_object_init_3 obj _ _) entry_map_new (meets_map_new a xs) ⟨hl, ?_⟩
  have e1 : (s.heap.push { cls := .type "list_iterator", data := .fields #[.ref a, .int 0 0] }).objs.size = s.heap.objs.size + 1 := Heap.size_push ..
  have e2 : ((s.heap.push { cls := .type "list_iterator", data := .fields #[.ref a, .int 0 0] }).push (oneTup s.heap.objs.size)).objs.size = s.heap.objs.size + 2 := by rw [Heap.size_push, e1]
  show _ ∧ _
  have g3 := Heap.get?_push_size ((s.heap.push { cls := .type "list_iterator", data := .fields #[.ref a, .int 0 0] }).push (oneTup s.heap.objs.size)) (o := mapObj (s.heap.push { cls := .type "list_iterator", data := .fields #[.ref a, .int 0 0] }).objs.size) rfl
  have g2 := Heap.get?_push_of_some (mapObj (s.heap.push { cls := .type "list_iterator", data := .fields #[.ref a, .int 0 0] }).objs.size) (Heap.get?_push_size (s.heap.push { cls := .type "list_iterator", data := .fields #[.ref a, .int 0 0] }) (o := oneTup s.heap.objs.size) rfl)
  have g1 := Heap.get?_push_of_some (mapObj (s.heap.push { cls := .type "list_iterator", data := .fields #[.ref a, .int 0 0] }).objs.size) (Heap.get?_push_of_some (oneTup s.heap.objs.size) (Heap.get?_push_size s.heap (o := { cls := .type "list_iterator", data := .fields #[.ref a, .int 0 0] }) rfl))
  refine ⟨⟨_, g3, rfl⟩, ?_⟩
  rw [e2] at g3 ⊢
  rw [e1] at g3 g2 g1 ⊢
  exact h _ g3 g2 ⟨_, g1, rfl, rfl⟩ (by rw [Heap.size_push, e2]) fun c o x => Heap.get?_push_of_some _ (Heap.get?_push_of_some _ (Heap.get?_push_of_some _ x))
theorem map_next_item {z T I a : Addr} {k : Nat} {xs : Array Value} {y : Str} {u : Tok} {Q : Value → Shared → Prop} (hIz : z ≠ I) (hIT : T ≠ I)
    (hz : s.heap.get? z = some (mapObj T)) (hT : s.heap.get? T = some (oneTup I)) (h1 : s.heap.IsListIter I a k) (hl : s.heap.IsList a xs) (hx : xs[k]? = some (.str y u)) (hy : y.length ≤ 5592405)
    (hQ : ∀ h' tk t', h'.IsListIter I a (k + 1) → Heap.SameBut I s.heap h' → Q (.str (Txt.capitalize y) t') { s with heap := h', toks := tk }) :
    wpAny (model prog w) A (Builtin.«map.__next__» ⟨[.ref z], []⟩) (fun fin s' => ∃ v, fin = .done (.ret v) ∧ Q v s') E s := by
  show wpAny _ _ (field (.ref z) 0 >>= _) _ _ _
  refine wpAny_bind (wpAny_field hz rfl (x := .ref T) rfl ?_)
  refine wpAny_bind (wpAny_seqItems hT rfl ?_)
  refine wpAny_bind ?_
  simp only [List.forIn_cons, List.forIn_nil, ← Array.forIn_toList]
  refine wpAny_bind (wpAny_bind (wpAny_holding (wpAny_nextOf_list_item h1 hl hx fun h₂ h1₂ hs₂ => wpAny_pure (wpAny_pure ?_))))
  refine wpAny_bind (wpAny_field (s := { s with heap := h₂ }) (hs₂.extBut _ _ hIz hz) rfl (x := .builtin "str.capitalize") rfl ?_)
  refine wpAny_bind (wpAny_holding (PyProof.Rows.SCL.capitalize hy fun t' tk _ => wpAny_bind (wpAny_letGo (wpAny_pure ⟨_, rfl, hQ _ _ _ h1₂ hs₂⟩))))
theorem map_next_end {z T I a : Addr} {k : Nat} {xs : Array Value} {Q : Fin → Shared → Prop} (hh : A.handled = none) 
    (hz : s.heap.get? z = some (mapObj T)) (hT : s.heap.get? T = some (oneTup I)) (h1 : s.heap.IsListIter I a k) (hl : s.heap.IsList a xs) (hx : xs[k]? = none) 
    (hE : ∀ h' e, Heap.ExtBut I s.heap h' → (∃ o, h'.get? e = some o ∧ o.cls = .type "StopIteration") → E (.ref e) { s with heap := h' }) :
    wpAny (model prog w) A (Builtin.«map.__next__» ⟨[.ref z], []⟩) Q E s := by
  show wpAny _ _ (field (.ref z) 0 >>= _) _ _ _
  refine wpAny_bind (wpAny_field hz rfl (x := .ref T) rfl ?_)
  refine wpAny_bind (wpAny_seqItems hT rfl ?_)
  refine wpAny_bind ?_
  simp only [List.forIn_cons, List.forIn_nil, ← Array.forIn_toList]
  exact wpAny_bind (wpAny_bind (wpAny_holding (wpAny_nextOf_list_end hh h1 hl hx hE)))
theorem Walks.capMap (hh : A.handled = none) (z T I a : Addr) (hIz : z ≠ I) (hIT : T ≠ I) (hIa : a ≠ I) (l : List (Str × Tok)) (hy : ∀ p ∈ l, p.1.length ≤ 5592405) :
    Walks prog w A z [z, T, I, a] [I] l.length
      (fun i v => ∃ p t', l[i]? = some p ∧ v = .str (Txt.capitalize p.1) t')
      (fun i h => h.get? z = some (mapObj T) ∧ h.get? T = some (oneTup I) ∧ h.IsListIter I a i ∧ h.IsList a (strValues l).toArray) where
  sub := fun c hc => by simp at hc ⊢; simp [hc]
  frame := fun i h h' hst hk => by
    obtain ⟨hz, hTI, h1, hl1⟩ := hst
    exact ⟨hk z (by simp) _ hz, hk T (by simp) _ hTI, h1.at fun o e => hk I (by simp) o e, hl1.at fun o e => hk a (by simp) o e⟩
  item := fun i s Q E hi hst hQ => by
    obtain ⟨hz, hTI, h1, hl1⟩ := hst
    have hT : s.TypeIs (.ref z) "map" := ⟨_, hz, rfl⟩
    unfold pyNext
    refine wpAny_bind (wpAny_attempt (wpAny_callSpecial?_slot (name := Str.ofString "__next__") hT slot_map_next
      (wpAny_call_entry slot_map_next hT entry_map_next
        (map_next_item (y := (l[i]).1) (u := (l[i]).2) hIz hIT hz hTI h1 hl1 (by simp [strValues, hi]) (hy _ (List.getElem_mem hi)) fun h' tk t' a1 a2 => wpAny_pure (hQ _ h' tk ⟨l[i], t', by simp [hi], rfl⟩ ?_ ?_)) (args_map_next _))))
    · exact ⟨a2.extBut _ _ hIz hz, a2.extBut _ _ hIT hTI, a1, hl1.extBut a2.extBut hIa⟩
    · intro b o hb e; exact a2.extBut _ _ (fun x => hb (by simp [x])) e
  done := fun s Q E hst hQ => by
    obtain ⟨hz, hTI, h1, hl1⟩ := hst
    have hT : s.TypeIs (.ref z) "map" := ⟨_, hz, rfl⟩
    unfold pyNext
    refine wpAny_bind (wpAny_attempt (wpAny_callSpecial?_slot (name := Str.ofString "__next__") hT slot_map_next
      (wpAny_call_entry slot_map_next hT entry_map_next
        (map_next_end hh hz hTI h1 hl1 (by simp [strValues]) fun h' e hk he => ?_) (args_map_next _))))
    obtain ⟨o, ho, hc⟩ := he
    refine wpAny_bind (wpAny_isInstance (T := "StopIteration") (b := true) ⟨o, ho, hc⟩ isSubtype_stop ?_)
    exact wpAny_pure (hQ _ s.toks fun b o hb e => hk _ _ (fun x => hb (by simp [x])) e)
  self := fun i s Q E hst hQ => by
    have hT : s.TypeIs (.ref z) "map" := ⟨_, hst.1, rfl⟩
    refine wpAny_pyIter_slot hT slot_map_iter (wpAny_call_entry slot_map_iter hT entry_map_iter ?_ (args_map_iter _))
    show wpAny _ _ (ret (.ref z)) _ _ s
    exact wpAny_pure ⟨_, rfl, "map", _, hT, slot_map_next.lookup, hQ⟩
end
end Mine
open Builtin Builtin.Str
set_option maxRecDepth 100000
namespace Mine
section
variable {prog : Program} {w : World} {A : Around} {E : Value → Shared → Prop} {s : Shared} {I : Addr} {fp wr : List Addr} {G : Array GenState → Array GenState → Prop} {n : Nat} {P : Nat → Value → Prop} {St : Nat → Shared → Prop}
/-- collecting over a map object -/
theorem collectMap {Q : List Value → Shared → Prop} (WS : WalksS prog w A.in1 I fp wr G n P St) (hT : ∀ i s, St i s → s.TypeIs (.ref I) "map") (hst : St 0 s) (hfp : ∀ b ∈ fp, b < s.heap.objs.size) (hI : I ∈ fp)
    (hQ : ∀ s' acc, Moved wr G s s' → ItemsOf P acc n → Q acc.toList s') (hn : n ≤ sizeLine) : wpAny (model prog w) A (collect (.ref I)) Q E s := by
  have hSf : s.heap.objs.size ∉ fp := fun hm => Nat.lt_irrefl _ (hfp _ hm)
  have hSI : s.heap.objs.size ≠ I := fun e => hSf (e ▸ hI)
  unfold collect
  refine wpAny_bind (wpAny_runValue (codeAny_builtin F.entry_proto_collect ?_))
  rw [Around.under_plainId F.plain_proto_collect _]
  show wpAny _ A.in1 (newList [] >>= fun l => again (.builtin "list.__iadd__" ⟨[l, .ref I], []⟩)) _ _ s
  refine wpAny_bind (wpAny_newObj_type ?_)
  refine wpAny_pure ⟨plainId_quiet F.plain_list_iadd _, codeAny_builtin F.entry_list_iadd ?_⟩
  rw [Around.under_plainId F.plain_list_iadd _]
  have hst₁ := WS.frame 0 s (s.heap.push (PySem.W.listOf #[] 0)) s.toks hst (Nat.le_refl _) fun b _ o e => Heap.get?_push_of_some _ e
  show wpAny _ A.in1 (Builtin.List.listExtendWith (.ref s.heap.objs.size) (.ref I) (.ref s.heap.objs.size)) _ _ _
  unfold Builtin.List.listExtendWith
  refine wpAny_bind (wpAny_typeOf (hT 0 _ hst₁) ?_)
  have h1 : Builtin.List.listSameRef (.ref s.heap.objs.size) (.ref I) = false := by simp [Builtin.List.listSameRef, hSI]
  rw [if_neg (by rw [h1]; decide)]
  refine wpAny_bind (WS.self 0 _ _ _ hst₁ ?_)
  refine wpAny_bind (wpAny_holding ?_)
  unfold Builtin.List.listLengthHint
  refine wpAny_bind (wpAny_specialOf (hT 0 _ hst₁) map_no_len ?_)
  show wpAny _ A.in1 (specialOf (Value.ref I) (Str.ofString "__length_hint__") >>= _) _ _ _
  refine wpAny_bind (wpAny_specialOf (hT 0 _ hst₁) map_no_hint ?_)
  refine wpAny_pure ?_
  show wpAny _ A.in1 (rule "list.extend.makes-room" >>= fun _ => Builtin.List.listTouch (.ref s.heap.objs.size) >>= fun _ =>
    again (.builtin "list.extend.loop" ⟨[.ref s.heap.objs.size, .ref I, .ref s.heap.objs.size], []⟩)) _ _ _
  refine wpAny_bind (wpAny_rule ?_)
  have hS₁ : (s.heap.push (PySem.W.listOf #[] 0)).get? s.heap.objs.size = some (PySem.W.listOf #[] 0) := Heap.get?_push_size _ rfl
  refine wpAny_bind ?_
  show wpAny _ A.in1 (updateSeq s.heap.objs.size (·.push .none) >>= fun _ => updateSeq s.heap.objs.size (·.pop)) _ _ _
  refine wpAny_bind (wpAny_updateSeq hS₁ rfl ?_)
  have hS₂ := Heap.get?_update_self (Obj.mapSeq (·.push Value.none)) hS₁ rfl
  refine wpAny_updateSeq hS₂ rfl ?_
  have hS₃ := Heap.get?_update_self (Obj.mapSeq (·.pop)) hS₂ rfl
  have oth : ∀ b o, b ≠ s.heap.objs.size → (s.heap.push (PySem.W.listOf #[] 0)).get? b = some o →
      (((s.heap.push (PySem.W.listOf #[] 0)).update s.heap.objs.size (Obj.mapSeq (·.push Value.none))).update s.heap.objs.size (Obj.mapSeq (·.pop))).get? b = some o :=
    fun b o hb e => (Heap.get?_update_other _ _ (Ne.symm hb)).trans ((Heap.get?_update_other _ _ (Ne.symm hb)).trans e)
  refine wpAny_pure ⟨plainId_quiet F.plain_extend_loop _, codeAny_extend_loopS WS hn _ hSf _ n 0 _ _ _ rfl (Nat.zero_le _)
    (WS.frame 0 ({ s with heap := s.heap.push (PySem.W.listOf #[] 0) } : Shared) _ s.toks hst₁ (Nat.le_refl _) fun b hb o e => oth b o (fun h => hSf (h ▸ hb)) e) hS₃ (ItemsOf.nil P) fun s' acc' c' hm hS' hacc => ?_⟩
  show wpAny _ A (load s.heap.objs.size >>= _) _ _ s'
  refine wpAny_bind (wpAny_load hS' ?_)
  refine wpAny_pure (hQ s' acc' (Moved.drop_new (o := PySem.W.listOf #[] 0) (tk := s.toks) (Moved.trans WS.gtrans ((Moved.refl WS.grefl).then_heap (by first | exact Nat.le_refl _ | exact Nat.le_succ _ | omega) fun b o hb e => ?_) hm) (Nat.le_refl _)) hacc)
  exact oth b o (fun h => hb (h ▸ List.mem_cons_self)) e
end
section
variable {prog : Program} {w : World} {A : Around} {E : Value → Shared → Prop} {s : Shared}
/-- sep.join(map(str.capitalize, texts)) -/
theorem joinMap {sep : Str} {t : Tok} {z T I a : Addr} {l : List (Str × Tok)} {Q : Value → Shared → Prop} (hh : A.handled = none) (hIz : z ≠ I) (hIT : T ≠ I) (hIa : a ≠ I)
    (hz : s.heap.get? z = some (mapObj T)) (hT : s.heap.get? T = some (oneTup I)) (h1 : s.heap.IsListIter I a 0) (hl : s.heap.IsList a (strValues l).toArray)
    (hy : ∀ p ∈ l, p.1.length ≤ 5592405) (hn : l.length ≤ sizeLine) (hok : JoinOk sep (l.map fun p => Txt.capitalize p.1) = true)
    (hQ : ∀ h' tk t', (∀ b o, b ≠ I → s.heap.get? b = some o → h'.get? b = some o) → Q (.str (Txt.join sep (l.map fun p => Txt.capitalize p.1)) t') { s with heap := h', toks := tk }) :
    wpAny (model prog w) A (call (.builtin "str.join") [.str sep t, .ref z]) Q E s := by
  have W := Walks.capMap (prog := prog) (w := w) (A := A.in1.in1) hh z T I a hIz hIT hIa l hy
  refine wpAny_call (codeAny_call_builtin F.slot_str_join.plain F.entry_str_join (F.slot_str_join.check _ _ _ _ _ _ _ _ (typeIs_str _ _ _) (F.args_str_join_2 _ _) ?_))
  rw [join_tree_other]
  have hTy : s.TypeIs (.ref z) "map" := ⟨_, hz, rfl⟩
  refine wpAny_bind (wpAny_typeOf hTy ?_)
  show wpAny _ A.in1 ((pyIter (.ref z)).tryCatch _ >>= fun it => collect it >>= fun items => joinTail sep items) _ _ s
  have hlt : ∀ {c o}, s.heap.get? c = some o → c < s.heap.objs.size := fun e => Heap.lt_size e
  have hst : s.heap.get? z = some (mapObj T) ∧ s.heap.get? T = some (oneTup I) ∧ s.heap.IsListIter I a 0 ∧ s.heap.IsList a (strValues l).toArray := ⟨hz, hT, h1, hl⟩
  refine wpAny_bind (wpAny_tryCatch (W.of_in1.self 0 s _ _ hst ?_))
  refine wpAny_bind (collectMap W.toS (fun i s st => ⟨_, st.1, rfl⟩) hst (fun b hb => ?_) (by simp) (fun s' acc hm hacc => ?_) hn)
  · simp at hb
    rcases hb with rfl | rfl | rfl | rfl
    · exact hlt hz
    · exact hlt hT
    · obtain ⟨_, e, _⟩ := h1; exact hlt e
    · obtain ⟨_, e, _⟩ := hl; exact hlt e
  have hs' : s' = { s with heap := s'.heap, toks := s'.toks } := by
    obtain ⟨a1, a2, a3, a4, a5⟩ := hm
    cases s'; cases s; simp_all
  obtain ⟨m, hml⟩ := exists_strValues acc.toList fun v hv => by
    obtain ⟨j, hj, rfl⟩ := Array.mem_iff_getElem.mp (Array.mem_toList_iff.mp hv)
    obtain ⟨p, t', _, e⟩ := hacc.2 j _ (Array.getElem?_eq_getElem hj)
    exact ⟨_, _, e⟩
  have hmap : m.map (·.1) = l.map fun p => Txt.capitalize p.1 := by
    have hlen : m.length = l.length := by
      have := congrArg List.length hml
      simp [strValues] at this
      rw [this]; exact hacc.1
    apply List.ext_getElem
    · simp [hlen]
    · intro j hj hj'
      simp at hj hj'
      have hj2 : j < acc.size := by rw [hacc.1]; exact hj'
      obtain ⟨p, t', e1, e2⟩ := hacc.2 j _ (Array.getElem?_eq_getElem hj2)
      have e3 : (strValues m)[j]? = some acc[j] := by rw [hml]; simp [hj2]
      rw [e2] at e3
      simp [strValues, hj] at e3
      simp [hj'] at e1
      subst e1
      simp [e3.1]
  rw [← hml]
  rw [← hmap] at hok hQ
  unfold JoinOk at hok
  rw [Bool.not_eq_true'] at hok
  have g : Gives (joinTail sep (strValues m)) (joinMade sep m) := by
    have g0 := gives_joinTail sep m hok
    cases m with
    | nil => exact g0
    | cons p r => cases r with
      | nil => exact g0
      | cons q r' => exact g0
  refine g prog w A (wants Q E) s' (post_join m ⟨joinFit_length hok, fun t' k => ?_⟩)
  rw [hs']
  exact hQ _ _ _ fun b o hb e => hm.heap b o (by simpa using hb) e
end
end Mine
open Builtin Builtin.Str
set_option maxRecDepth 100000
namespace Mine
theorem sub_key_lookup : isSubtype (.type "KeyError") (.type "LookupError") = pure true := by rw [isSubtype_type]; kernel_rfl
section
variable {prog : Program} {w : World} {A : Around} {E : Value → Shared → Prop} {s : Shared} {d : Addr} {D : List (PyData × PyData)}
theorem look_hit {c : Nat} {y : Str} {Q : Mapped → Shared → Prop} (T : IntTab prog w s.heap d D) (hl : PySem.Spec.lookup (.int c) D = some (.str y)) (h : ∀ tk, Q (.text y) { s with toks := tk }) :
    wpAny (model prog w) A (tableLookup (.ref d) c) Q E s := by
  obtain ⟨lo, kvs, hd, hf⟩ := T
  obtain ⟨v, hv, hfl⟩ := hf.of_lookup PyProof.V.same_int hl
  unfold tableLookup
  refine wpAny_bind (wpAny_attempt (wpAny_bind (wpAny_mkInt' ?_)))
  refine wpAny_getItem_of (k := (c : Int)) (intKind_is prog w _ _) (hd.keep fun _ _ e => e).mapOf hv ?_
  obtain ⟨tv, rfl⟩ := hfl.str_inv
  exact wpAny_pure (h _)
theorem look_miss {c : Nat} {Q : Mapped → Shared → Prop} (T : IntTab prog w s.heap d D) (hh : A.handled = none) (hl : PySem.Spec.lookup (.int c) D = none) (h : ∀ h' tk, (∀ b o, s.heap.get? b = some o → h'.get? b = some o) → Q .keep { s with heap := h', toks := tk }) :
    wpAny (model prog w) A (tableLookup (.ref d) c) Q E s := by
  obtain ⟨lo, kvs, hd, hf⟩ := T
  unfold tableLookup
  refine wpAny_bind (wpAny_attempt (wpAny_bind (wpAny_mkInt' ?_)))
  refine wpAny_getItem_missing_of (k := (c : Int)) (intKind_is prog w _ _) lo hh (hd.keep fun _ _ e => e).mapOf (hf.none_of_lookup PyProof.V.same_int hl) fun h' e hx => ?_
  obtain ⟨ob, t, ho, hc, _⟩ := hx.there
  refine wpAny_bind (wpAny_isInstance (T := "KeyError") (b := true) ⟨ob, ho, hc⟩ sub_key_lookup ?_)
  exact wpAny_bind (wpAny_rule (wpAny_pure (h _ _ hx.keeps)))
theorem translate_one {c : Nat} {t : Tok} {y : Str} {Q : Value → Shared → Prop} (T : IntTab prog w s.heap d D) (hh : A.handled = none) (hc : c < 128)
    (hl : (PySem.Spec.lookup (.int c) D = none ∧ y = ⟨#[c]⟩) ∨ (PySem.Spec.lookup (.int c) D = some (.str y) ∧ y.length = 2))
    (h : ∀ h' tk t', (∀ b o, s.heap.get? b = some o → h'.get? b = some o) → Q (.str y t') { s with heap := h', toks := tk }) :
    wpAny (model prog w) A (call (.builtin "str.translate") [.str ⟨#[c]⟩ t, .ref d]) Q E s := by
  refine wpAny_call (codeAny_call_builtin F.slot_str_translate.plain F.entry_str_translate (F.slot_str_translate.check _ _ _ _ _ _ _ _ (typeIs_str _ _ _) (F.args_str_translate_2 _ _) ?_))
  unfold Builtin.«str.translate»
  refine wpAny_bind (wpAny_pure ?_)
  simp only [← Array.forIn_toList, List.forIn_cons, List.forIn_nil]
  have hall : (#[c].all fun x => decide (x < 128)) = true := by simp [hc]
  have h0 : tooLong 0 = false := by decide +kernel
  have h1 : tooLong (0 + 1) = false := by decide +kernel
  have h2 : tooLong (0 + 2) = false := by decide +kernel
  have hln : (({ cps := #[c] } : Str).length == 0) = false := rfl
  rw [hln]
  simp only [hall, h0, Bool.false_eq_true, if_false, if_true, List.lookup_nil]
  rcases hl with ⟨hl, rfl⟩ | ⟨hl, hy⟩
  · refine wpAny_bind (wpAny_bind (wpAny_bind (look_miss T hh hl fun h' tk hk => ?_)))
    dsimp only
    refine wpAny_bind (wpAny_pure (wpAny_pure (wpAny_pure ?_)))
    dsimp only
    rw [h1]
    simp only [Bool.false_eq_true, if_false]
    have e : ({ cps := List.foldl (fun acc (p : Str) => acc ++ p.cps) #[] [({ cps := #[c] } : Str)].reverse } : Str) = { cps := #[c] } := by simp
    rw [e]
    exact wpAny_bind (wpAny_mkStr' (wpAny_pure (h _ _ _ hk)) (by show 1 ≤ sizeLine; decide))
  · refine wpAny_bind (wpAny_bind (wpAny_bind (look_hit T hl fun tk => ?_)))
    have e1 : (y.length == 1) = false := by rw [hy]; rfl
    simp only [e1, Bool.false_and, Bool.false_eq_true, if_false]
    refine wpAny_bind (wpAny_pure ?_)
    dsimp only
    refine wpAny_bind (wpAny_rule ?_)
    refine wpAny_bind (look_hit (T.keep fun _ _ e => e) hl fun tk => ?_)
    dsimp only
    refine wpAny_pure (wpAny_pure ?_)
    dsimp only
    rw [hy, h2]
    simp only [Bool.false_eq_true, if_false]
    have e : ({ cps := List.foldl (fun acc (p : Str) => acc ++ p.cps) #[] [y].reverse } : Str) = y := by simp
    rw [e]
    exact wpAny_bind (wpAny_mkStr' (wpAny_pure (h _ _ _ fun _ _ e => e)) (by rw [hy]; decide))
end
end Mine
set_option maxRecDepth 100000
namespace Mine
def Keep (h h' : Heap) : Prop := ∀ b o, h.get? b = some o → h'.get? b = some o
abbrev Ar (dp un : Nat) (fr : Option (List Env)) (gd : Option (List Code)) : Around := { handled := none, depth := dp, frames := fr, guards := gd, units := un }
def Done (Q : Value → Shared → Prop) (v : Value) (s : Shared) : Prop := Q v s
def Halt (P : Prop) : Prop := P
theorem Halt.intro {P : Prop} (h : Halt P) : P := h

theorem enter {prog : Program} {w : World} {A : Around} {s : Shared} {K : Frag} {p : Program} {loose : List Str} {mean : ExcName → Option Value} {mg mb : Str → Option Value}
    {Q E : Value → Shared → Prop} {name qual : Str} {params : Arguments} {body : List Stmt} {scope : Scope} {dV kV doc pm cdv ct oc : Value} {an od : Option Addr} {osl : Array (Option Value)} {f : Addr} {args : List Value} {binds : List (Str × Value)}
    (X : K.In s.heap) (T : Top p loose mean mg mb s.heap)
    (ho : K.lookup f = some ⟨oc, od, .func (fnOf name qual params body scope dV kV doc pm an cdv ct), osl⟩) (hcd : codeIn K cdv qual = true) (hroom : A.depth < recursionLimit)
    (hbind : BindsTo s (fnOf name qual params body scope dV kV doc pm an cdv ct) ⟨args, []⟩ binds) (hloc : ∀ y ∈ binds, scope.names.lookup y.1 = some .local)
    (h : ∀ g L' h₁, Fr g L' h₁ (fun y => binds.reverse.lookup y) → News g L' h₁ [] → K.In g → Top p loose mean mg mb g → g = s.heap → s.heap.objs.size = L' →
      wpAny (model prog w) (A.deeper (envOf qual scope L' f cdv)) (execs body (envOf qual scope L' f cdv))
        (fun fl s' => Done Q (match fl with | .ret v => v | _ => .none) s') (fun _ _ => False)
        { s with heap := h₁, toks := s.toks + binds.length })
    (hco : scope.isCoroutine = false) (hgen : scope.isGenerator = false) (hk : scope.kind = .function)
    (hcell : ∀ x ∈ scope.names, x.2 ≠ .cell) : wpAny (model prog w) A (call (.ref f) args) Q E s := by
  refine wpAny_call (codeAny_call_def (fd := fnOf name qual params body scope dV kV doc pm an cdv ct) (body := body) (binds := binds) hroom (X _ _ ho) rfl T.nolimit (codeRec_of X hcd) rfl hbind hcell hloc (fun h₁ hns hk₁ => ?_) hco hgen hk)
  exact wpAny_mono (h s.heap s.heap.objs.size h₁ ⟨hns, hk₁, Nat.le_refl _⟩ (fun _ hp => nomatch hp) X T rfl rfl) (fun fl s' hl => hl) fun _ _ x => x.elim

theorem enterC {prog : Program} {w : World} {A : Around} {s : Shared} {K : Frag} {p : Program} {loose : List Str} {mean : ExcName → Option Value} {mg mb : Str → Option Value}
    {Q E : Value → Shared → Prop} {name qual : Str} {params : Arguments} {body : List Stmt} {scope : Scope} {dV kV doc pm cdv ct oc : Value} {an od : Option Addr} {osl : Array (Option Value)} {f : Addr} {args : List Value} {binds : List (Str × Value)}
    (X : K.In s.heap) (T : Top p loose mean mg mb s.heap)
    (ho : K.lookup f = some ⟨oc, od, .func (fnOf name qual params body scope dV kV doc pm an cdv ct), osl⟩) (hcd : codeIn K cdv qual = true) (hroom : A.depth < recursionLimit)
    (hbind : BindsTo s (fnOf name qual params body scope dV kV doc pm an cdv ct) ⟨args, []⟩ binds) (hkind : (binds.all fun y => scope.names.lookup y.1 == some .local || scope.names.lookup y.1 == some .cell) = true)
    (hnd : ((cellsFrom 0 scope.names []).map (·.1)).Nodup)
    (h : ∀ g L' h₁ tk cells, Fr g L' h₁ (bindL (envOfC qual scope L' f cdv).kindOf binds fun _ => none) → News g L' h₁ cells →
      CellsAre (bindC (envOfC qual scope L' f cdv).kindOf binds fun _ => none) (cellsFrom (L' + 1) scope.names []) cells → K.In g → Top p loose mean mg mb g → g = s.heap → s.heap.objs.size = L' →
      wpAny (model prog w) (A.deeper (envOfC qual scope L' f cdv)) (execs body (envOfC qual scope L' f cdv))
        (fun fl s' => Done Q (match fl with | .ret v => v | _ => .none) s') (fun _ _ => False)
        { s with heap := h₁, toks := tk })
    (hco : scope.isCoroutine = false) (hgen : scope.isGenerator = false) (hk : scope.kind = .function) : wpAny (model prog w) A (call (.ref f) args) Q E s := by
  refine wpAny_call (codeAny_call_function hroom (X _ _ ho) rfl hco hgen rfl (codeRec_of X hcd) (hbind _ _ _ _ ?_))
  refine wpAny_newFunctionEnv_cells hk (kindsX hkind _) fun env' he s' x => ?_
  subst he
  refine ⟨T.nolimit.keeps x.toInCall.keep, codeAny_func ?_⟩
  obtain ⟨h₁, tk, rfl, _⟩ := x.done
  have hk₁ := x.toInCall.keep
  obtain ⟨cells, NC, Y⟩ := Cl.news (h₀ := s.heap) (Nat.le_refl _) fun n c hm => ⟨x.cell n c (lookup_of_mem_nodup (cellsFrom_names scope.names 0 (s.heap.objs.size + 1) [] [] rfl ▸ hnd) hm), x.above n c hm⟩
  exact wpAny_mono (h s.heap s.heap.objs.size h₁ tk cells ⟨x.toInCall.ns, hk₁, Nat.le_refl _⟩ NC Y X T rfl rfl) (fun fl s' hl => hl) fun _ _ x => x.elim
end Mine
set_option maxRecDepth 100000
namespace Mine
def specialsN : List Nat := [40, 41, 91, 93, 123, 125, 63, 42, 43, 45, 124, 94, 36, 92, 46, 38, 126, 35, 32, 9, 10, 13, 11, 12]
def special (c : Nat) : Bool := specialsN.contains c
/-- the signs that re.escape makes of one sign -/
def esc (c : Nat) : List Nat := if special c then [92, c] else [c]
def spTab : List (Int × PyData) := specialsN.map fun (i : Nat) => ((i : Int), PyData.str ⟨#[92, i]⟩)
theorem spAt : ∀ (l : List Nat) (c : Nat), KTD.datumAt (c : Int) (l.map fun (i : Nat) => ((i : Int), PyData.str ⟨#[92, i]⟩)) = if l.contains c then some (PyData.str ⟨#[92, c]⟩) else none
  | [], c => rfl
  | i :: l, c => by
    show (if decide ((c : Int) = (i : Int)) = true then some (PyData.str ⟨#[92, i]⟩) else KTD.datumAt (c : Int) (l.map fun (i : Nat) => ((i : Int), PyData.str ⟨#[92, i]⟩))) = _
    rw [spAt l c, List.contains_cons]
    by_cases h : c = i
    · subst h; simp
    · have h' : ¬ ((c : Int) = (i : Int)) := fun e => h (by omega)
      simp [h, h']

section
variable {prog : Program} {w : World} {A : Around} {E : Value → Shared → Prop} {s : Shared} {h₀ : Heap} {L a q : Addr} {m : Str → Option Value} {news news' : List (Addr × Obj)} {xs : Array Value} {k : Nat} {Q : Value → Shared → Prop}
theorem getappend_K (F : Fr h₀ L s.heap m) (N : News h₀ L s.heap news) (hm : (a, PySem.W.listOf xs k) ∈ news)
    (h : ∀ q h', Fr h₀ L h' m → News h₀ L h' ((q, apObj a) :: news) → (∀ p ∈ news, p.1 < q) → Q (.ref q) { s with heap := h', toks := s.toks + 1 }) :
    wpAny (model prog w) A (getAttr (.ref a) "append" true) Q E s := by
  have hx := (N _ hm).1
  have h1 := h s.heap.objs.size _ (F.push _) (N.push F _) fun p hp => Heap.lt_size (N p hp).1
  obtain ⟨hh, g, d, t, os⟩ := s
  exact getappend hx h1
def ApP (q a : Addr) (h : Heap) : Prop := h.get? q = some (apObj a)
theorem callWith_ap {env : Env} {pos : Pos} {first : List Value} {e : Expr} {rest : List Expr} (N : News h₀ L s.heap news) (hm : (q, apObj a) ∈ news)
    (h : wpAny (model prog w) A (spliced (backTo pos (starEach (e :: rest) env))) (fun vs s₁ => ApP q a s₁.heap ∧ wpAny (model prog w) A (call (.ref q) (first ++ vs)) Q E s₁) E s)
    (he : starEach (e :: rest) env = (false, eval e env) :: starEach rest env := by rfl) (hplain : (backTo pos (starEach rest env)).any (·.1) = false := by rfl) :
    wpAny (model prog w) A (callWith pos (.ref q) first (backTo pos (starEach (e :: rest) env)) []) Q E s := by
  have _ := (N _ hm).1
  rw [he] at h ⊢
  refine callWith_of (P := ApP q a) (by show ((false || (backTo pos (starEach rest env)).any (·.1)) || false) = false; rw [hplain]; rfl) (fun h X => ⟨.machine, .inr (.inl rfl), ?_⟩) (evalArgs_plain h)
  exact (Looks.ld (part := none) X).andThen .now
theorem callappend_K {n : Nat} {its : Array Value} {v : Value} (F : Fr h₀ L s.heap m) (N : News h₀ L s.heap news) (hq : (q, apObj a) ∈ news) (U : Upd a (PySem.W.listOf its n) (PySem.W.listOf (its.push v) (n + 1)) news news')
    (h : ∀ h', Fr h₀ L h' m → News h₀ L h' news' → Q .none { s with heap := h' }) (hsz : its.size ≤ sizeLine := by size_fits) : wpAny (model prog w) A (call (.ref q) [v]) Q E s := by
  have hx := (N _ hq).1
  obtain ⟨pre, post, rfl, rfl, b1, b2⟩ := U.split
  have z := N (a, PySem.W.listOf its n) (List.mem_append.mpr (.inr (.head _)))
  have hs : Heap.SameBut a s.heap (s.heap.update a (Obj.mapSeq (·.push v))) := Heap.SameBut.update ..
  have ho : (s.heap.update a (Obj.mapSeq (·.push v))).get? a = some (PySem.W.listOf (its.push v) (n + 1)) := by
    rw [Heap.get?_update_self _ z.1 rfl]
    simp [Obj.mapSeq]
  exact callappend hx z.1 hsz (h _ (F.change hs z.2.1 z.2.2) (news_set N b1 b2 hs ho))
theorem callobject_K (F : Fr h₀ L s.heap m) (N : News h₀ L s.heap news)
    (h : ∀ q h', Fr h₀ L h' m → News h₀ L h' ((q, { cls := .type "object" }) :: news) → (∀ p ∈ news, p.1 < q) → Q (.ref q) { s with heap := h' }) :
    wpAny (model prog w) A (call (.type "object") []) Q E s :=
  callobject (h s.heap.objs.size _ (F.push _) (N.push F _) fun p hp => Heap.lt_size (N p hp).1)
theorem getMethod_translate {x : Str} {t : Tok} {pl : Sem Bool} {Q : Value × List Value → Shared → Prop} (h : Q (.builtin "str.translate", [.str x t]) s) :
    wpAny (model prog w) A (getMethod (.str x t) "translate" pl) Q E s := by
  with_reducible exact GM.of (.str x t) (typeIs_str _ _ _) F.slot_str_translate F.type_str_translate GM.noRef h
theorem translate_K {c : Nat} {t : Tok} {d : Addr} (T : KTD.Keyed h₀ d spTab) (F : Fr h₀ L s.heap m) (N : News h₀ L s.heap news) (hh : A.handled = none) (hc : c < 128)
    (h : ∀ h' tk t', Fr h₀ L h' m → News h₀ L h' news → Q (.str ⟨(esc c).toArray⟩ t') { s with heap := h', toks := tk }) :
    wpAny (model prog w) A (call (.builtin "str.translate") [.str ⟨#[c]⟩ t, .ref d]) Q E s := by
  have T' := (T.keep F.keep) prog w
  have hl := KTD.lookup_keyed (k := (c : Int)) (D := spTab)
  have e := spAt specialsN c
  rw [show KTD.datumAt (c : Int) spTab = _ from e] at hl
  refine translate_one (y := ⟨(esc c).toArray⟩) T' hh hc ?_ fun h' tk t' hk => h h' tk t' (F.keeps hk) (N.grown hk)
  rw [hl]
  unfold esc special
  cases hs : specialsN.contains c with
  | true => exact .inr ⟨by simp, by simp [Str.length]⟩
  | false => exact .inl ⟨by simp, by simp⟩
theorem spKeyed {h : Heap} (X : (Mine.hd.heap_1 w.params).In h) : KTD.Keyed h 53 spTab := kt_keyed_in X (by kernel_rfl)
end
end Mine
set_option maxRecDepth 100000
namespace Mine
section
variable {prog : Program} {w : World} {A : Around} {E : Value → Shared → Prop} {s : Shared} {h₀ : Heap} {L a q : Addr} {m : Str → Option Value} {news news' : List (Addr × Obj)} {vs : List Value} {Q : Value → Shared → Prop} {t u : Tok} {l : List Nat}
theorem len_S (hfit : (l.length : Int) < 9223372036854775808) (h : Q (.int l.length (s.toks + 1)) { s with toks := s.toks + 1 + 1 }) : wpAny (model prog w) A (call (.builtin "len") [.str ⟨l.toArray⟩ t]) Q E s := by
  have e : (({ cps := l.toArray } : Str)).length = l.length := by simp [Str.length]
  refine P.len_str (x := ⟨l.toArray⟩) (by rw [e]; omega) ?_
  rw [e]; exact h
theorem sub_S {value slice : Expr} {i : Int} {c : Nat} (h0 : 0 ≤ i) (hi : i < 9223372036854775808) (hc : l[i.toNat]? = some c) (h : Q (.str ⟨#[c]⟩ s.toks) { s with toks := s.toks + 1 })
    (hs : subscripted slice false (.str ⟨l.toArray⟩ t) (.int i u) = operate [.str ⟨l.toArray⟩ t, .int i u] (getItem (.str ⟨l.toArray⟩ t) (.int i u)) := by with_unfolding_all rfl) :
    wpAny (model prog w) A (subscriptTail value slice (.str ⟨l.toArray⟩ t) (.int i u)) Q E s := by
  have hlt : i.toNat < l.length := by
    rcases Nat.lt_or_ge i.toNat l.length with h1 | h1
    · exact h1
    · rw [List.getElem?_eq_none h1] at hc; cases hc
  refine tail_any (typeIs_str _ _ _) F.slot_str_getitem.lookup (P.getItem_str (c := c) ?_ ?_ h) hs
  · simp; omega
  · have e : (({ cps := l.toArray } : Str)).length = l.length := by simp [Str.length]
    rw [e]
    have e2 : seqIndex? i l.length = some i.toNat := by
      have e3 : (i < 0) = False := by simp; omega
      have e4 : (decide (0 ≤ i) && decide (i < (l.length : Int))) = true := by simp; omega
      simp only [seqIndex?, e3, if_false, e4, if_true]
    rw [e2]
    simpa using hc
theorem len_L (hl : s.heap.IsList a vs.toArray) (hfit : (vs.length : Int) < 9223372036854775808) (h : Q (.int vs.length (s.toks + 1)) { s with toks := s.toks + 1 + 1 }) : wpAny (model prog w) A (call (.builtin "len") [.ref a]) Q E s := by
  refine len_list hl (by rw [List.size_toArray]; omega) ?_
  rw [List.size_toArray]; exact h
theorem item_L {value slice : Expr} {k : Int} {v : Value} (hl : s.heap.IsList a vs.toArray) (h0 : 0 ≤ k) (hfit : k < 9223372036854775808) (hx : vs[k.toNat]? = some v) (h : Q v s)
    (hs : subscripted slice false (.ref a) (.int k u) = operate [.ref a, .int k u] (getItem (.ref a) (.int k u)) := by with_unfolding_all rfl) :
    wpAny (model prog w) A (subscriptTail value slice (.ref a) (.int k u)) Q E s :=
  tail_any hl.typeIs slot_list_getitem.lookup (wpAny_getItem_list hl h0 (by omega) (by simpa using hx) h) hs
theorem item_0 {value slice : Expr} {v : Value} (hl : s.heap.IsList a vs.toArray) (hx : vs.head? = some v) (h : Q v s)
    (hs : subscripted slice false (.ref a) (.int 0 u) = operate [.ref a, .int 0 u] (getItem (.ref a) (.int 0 u)) := by with_unfolding_all rfl) :
    wpAny (model prog w) A (subscriptTail value slice (.ref a) (.int 0 u)) Q E s :=
  item_L hl (Int.le_refl 0) (by decide) (by cases vs with | nil => cases hx | cons => simpa using hx) h hs
theorem last_L {value slice : Expr} {v : Value} (hl : s.heap.IsList a vs.toArray) (hn : (vs.length : Int) < 9223372036854775808) (hx : vs.getLast? = some v) (h : Q v s)
    (hs : subscripted slice false (.ref a) (.int (-1) u) = operate [.ref a, .int (-1) u] (getItem (.ref a) (.int (-1) u)) := by with_unfolding_all rfl) :
    wpAny (model prog w) A (subscriptTail value slice (.ref a) (.int (-1) u)) Q E s := by
  have hp : 0 < vs.length := by
    cases vs with
    | nil => cases hx
    | cons => simp
  refine tail_any hl.typeIs slot_list_getitem.lookup (wpAny_getItem_list_neg hl (by decide) (by simp; omega) (by decide) ?_ h) hs
  rw [List.getLast?_eq_getElem?] at hx
  have e : (-1 + (vs.toArray.size : Int)).toNat = vs.length - 1 := by rw [List.size_toArray]; omega
  rw [e]
  simpa using hx
theorem truthy_L {Q : Bool → Shared → Prop} (hl : s.heap.IsList a vs.toArray) (hn : (vs.length : Int) < 9223372036854775808) (h : Q (!vs.isEmpty) { s with toks := s.toks + 1 + 1 }) : wpAny (model prog w) A (truthy (.ref a)) Q E s := by
  refine wpAny_truthy_list hl (by rw [List.size_toArray]; omega) ?_
  have e : (!vs.toArray.isEmpty) = !vs.isEmpty := by cases vs <;> rfl
  rw [e]; exact h
theorem isNot_str_ref {x : Str} (h : Q (.bool true) s) : wpAny (model prog w) A (compareOp .IsNot (.str x t) (.ref a)) Q E s :=
  wpAny_isNot_other rfl (by intro e; cases e) h
theorem is_str_ref {x : Str} (h : Q (.bool false) s) : wpAny (model prog w) A (compareOp .Is (.str x t) (.ref a)) Q E s :=
  wpAny_is_other rfl (by intro e; cases e) h
theorem eq_one {c d : Nat} : (({ cps := #[c] } : Str) == ({ cps := #[d] } : Str)) = decide (c = d) := by
  by_cases h : c = d
  · subst h; simp
  · simp [h]
end
end Mine
namespace Mine
open PySem
theorem isStar (c : Nat) : (({ cps := #[c] } : Str) == Str.ofString "*") = decide (c = 42) := by rw [show Str.ofString "*" = ⟨#[42]⟩ from by decide +kernel, eq_one]
theorem isAsk (c : Nat) : (({ cps := #[c] } : Str) == Str.ofString "?") = decide (c = 63) := by rw [show Str.ofString "?" = ⟨#[63]⟩ from by decide +kernel, eq_one]
theorem isBra (c : Nat) : (({ cps := #[c] } : Str) == Str.ofString "[") = decide (c = 91) := by rw [show Str.ofString "[" = ⟨#[91]⟩ from by decide +kernel, eq_one]
end Mine
namespace Mine
open PySem
def AllNe (d : Addr) : List (Addr × Obj) → Prop
  | [] => True
  | p :: r => @Ne Nat p.1 d ∧ AllNe d r
theorem allNe_of {d : Addr} : ∀ {l : List (Addr × Obj)}, (∀ p ∈ l, p.1 ≠ d) → AllNe d l
  | [], _ => trivial
  | p :: _, h => ⟨h p (.head _), allNe_of fun q hq => h q (.tail _ hq)⟩
theorem news_ne {h₀ h : Heap} {L a : Addr} {news : List (Addr × Obj)} (N : PyProof.Rows.News h₀ L h news) (ha : h.get? a = none) : ∀ p ∈ news, p.1 ≠ a := by
  intro p hp e
  have := (N p hp).1
  rw [e, ha] at this
  cases this
/-- an object that a call made, onto the ledger -/
theorem news_made {h₀ h h' : Heap} {L a : Addr} {o : Obj} {m : Str → Option Value} {news : List (Addr × Obj)} (F : PyProof.Rows.Fr h₀ L h m) (N : PyProof.Rows.News h₀ L h news) (hk : ∀ b o, h.get? b = some o → h'.get? b = some o) (ha : h.get? a = none) (ho : h'.get? a = some o) :
    PyProof.Rows.News h₀ L h' ((a, o) :: news) := by
  intro p hp
  rcases List.mem_cons.mp hp with rfl | hp
  · refine ⟨ho, fun e => ?_, ?_⟩
    · obtain ⟨oL, _, _, hL, _⟩ := F.ns
      dsimp only at e
      rw [← e, ha] at hL; cases hL
    · cases q : h₀.get? a with
      | none => rfl
      | some o' => have := F.keep _ _ q; rw [ha] at this; cases this
  · exact N.grown hk p hp
end Mine
namespace Mine
/-- what one sign of the pattern adds to the parts; none is the mark of a star -/
def trStep (ps : List (Option (List Nat))) (c : Nat) : List (Option (List Nat)) :=
  if c = 42 then (if ps.getLast? = some none then ps else ps ++ [none])
  else if c = 63 then ps ++ [some [46]] else ps ++ [some (esc c)]
def trParts (l : List Nat) : List (Option (List Nat)) := l.foldl trStep []
def PartIs (S : Addr) : Option (List Nat) → Value → Prop
  | none, v => v = .ref S
  | some l, v => ∃ t, v = .str ⟨l.toArray⟩ t
inductive PartsAre (S : Addr) : List (Option (List Nat)) → List Value → Prop
  | nil : PartsAre S [] []
  | cons {p v ps vs} : PartIs S p v → PartsAre S ps vs → PartsAre S (p :: ps) (v :: vs)
theorem PartsAre.snoc {S : Addr} {ps : List (Option (List Nat))} {vs : List Value} {p : Option (List Nat)} {v : Value} (h : PartsAre S ps vs) (hv : PartIs S p v) : PartsAre S (ps ++ [p]) (vs ++ [v]) := by
  induction h with
  | nil => exact .cons hv .nil
  | cons a _ ih => exact .cons a ih
theorem PartsAre.length {S : Addr} {ps : List (Option (List Nat))} {vs : List Value} (h : PartsAre S ps vs) : vs.length = ps.length := by
  induction h with
  | nil => rfl
  | cons _ _ ih => simp [ih]
theorem PartsAre.at {S : Addr} {ps : List (Option (List Nat))} {vs : List Value} (h : PartsAre S ps vs) : ∀ (i : Nat) (p : Option (List Nat)), ps[i]? = some p → ∃ v, vs[i]? = some v ∧ PartIs S p v := by
  induction h with
  | nil => intro i p h; simp at h
  | cons a _ ih =>
    intro i p h
    cases i with
    | zero => simp at h; subst h; exact ⟨_, rfl, a⟩
    | succ i => simp at h ⊢; exact ih i p h
theorem PartsAre.last {S : Addr} {ps : List (Option (List Nat))} {vs : List Value} (h : PartsAre S ps vs) (p : Option (List Nat)) (hp : ps.getLast? = some p) : ∃ v, vs.getLast? = some v ∧ PartIs S p v := by
  rw [List.getLast?_eq_getElem?] at hp ⊢
  rw [h.length]
  exact h.at _ p hp
theorem trStep_length (ps : List (Option (List Nat))) (c : Nat) : (trStep ps c).length ≤ ps.length + 1 := by
  unfold trStep
  (repeat' split) <;> simp
theorem trParts_length : ∀ (l : List Nat) (ps : List (Option (List Nat))), (l.foldl trStep ps).length ≤ ps.length + l.length
  | [], ps => by simp
  | c :: l, ps => by
    have := trParts_length l (trStep ps c)
    have := trStep_length ps c
    simp only [List.foldl_cons, List.length_cons]; omega
theorem trParts_take {l : List Nat} {i : Nat} {c : Nat} (h : l[i]? = some c) : trParts (l.take (i + 1)) = trStep (trParts (l.take i)) c := by
  unfold trParts
  rw [List.take_add_one, h]
  simp
end Mine
namespace Mine
/-- the text that _join_translated_parts makes of its parts; joinG: behind a star, with what the fixed part holds so far -/
def joinG (acc : List Nat) : List (Option (List Nat)) → List Nat
  | [] => [46, 42] ++ acc
  | some p :: r => joinG (acc ++ p) r
  | none :: r => [40, 63, 62, 46, 42, 63] ++ acc ++ [41] ++ joinG [] r
def joinF : List (Option (List Nat)) → List Nat
  | [] => []
  | some p :: r => p ++ joinF r
  | none :: r => joinG [] r
inductive TextsAre : List (List Nat) → List Value → Prop
  | nil : TextsAre [] []
  | cons {u us vs t} : TextsAre us vs → TextsAre (u :: us) (.str ⟨u.toArray⟩ t :: vs)
theorem TextsAre.snoc {us : List (List Nat)} {vs : List Value} {u : List Nat} {t : Tok} (h : TextsAre us vs) : TextsAre (us ++ [u]) (vs ++ [.str ⟨u.toArray⟩ t]) := by
  induction h with
  | nil => exact .cons .nil
  | cons _ ih => exact .cons ih
theorem TextsAre.length {us : List (List Nat)} {vs : List Value} (h : TextsAre us vs) : vs.length = us.length := by
  induction h with
  | nil => rfl
  | cons _ ih => simp [ih]
theorem TextsAre.strs {us : List (List Nat)} {vs : List Value} (h : TextsAre us vs) : StrsAre vs (us.map fun u => ⟨u.toArray⟩) := by
  induction h with
  | nil => exact .nil
  | cons _ ih => exact .cons _ _ ih
theorem fold_flat : ∀ (us : List (List Nat)) (acc : Array Nat), (us.map fun u => ({ cps := u.toArray } : Str)).foldl (fun acc p => acc ++ (#[] : Array Nat) ++ p.cps) acc = acc ++ us.flatten.toArray
  | [], acc => by simp
  | u :: us, acc => by
    rw [List.map_cons, List.foldl_cons, fold_flat us]
    simp
theorem join_flat (us : List (List Nat)) : Txt.join (Str.ofString "") (us.map fun u => ({ cps := u.toArray } : Str)) = { cps := us.flatten.toArray } := by
  have e0 : (Str.ofString "") = ({ cps := #[] } : Str) := by decide +kernel
  rw [e0]
  unfold Txt.join PySem.Builtin.Str.glued
  cases us with
  | nil => rfl
  | cons u us =>
    show ({ cps := ((us.map fun u => ({ cps := u.toArray } : Str))).foldl (fun acc p => acc ++ (#[] : Array Nat) ++ p.cps) u.toArray } : Str) = _
    rw [fold_flat]
    simp
theorem TextsAre.sum (us : List (List Nat)) : ((us.map fun u => ({ cps := u.toArray } : Str)).map (·.length)).sum = us.flatten.length := by
  induction us with
  | nil => rfl
  | cons u us ih => simp only [List.map_cons, List.sum_cons, List.flatten_cons, List.length_append, ih]; simp [Str.length]
section
variable {prog : Program} {w : World} {A : Around} {E : Value → Shared → Prop} {s : Shared} {t : Tok} {Q : Value → Shared → Prop}
theorem join_E {D : Addr} {vs : List Value} {us : List (List Nat)} (hl : s.heap.IsList D vs.toArray) (hi : TextsAre us vs) (hok : us.flatten.length ≤ 1000000)
    (h : ∀ t' k, Q (.str ⟨us.flatten.toArray⟩ t') { s with toks := k }) : wpAny (model prog w) A (call (.builtin "str.join") [.str (Str.ofString "") t, .ref D]) Q E s := by
  refine join_list hl hi.strs ?_ ?_
  · rw [TextsAre.sum, show (Str.ofString "").length = 0 from by decide +kernel]; omega
  · rw [join_flat]; exact h
end
end Mine
namespace Mine
theorem drop_at {α : Type} {l : List α} {i : Nat} {x : α} (h : l[i]? = some x) : l.drop i = x :: l.drop (i + 1) := by
  have hlt : i < l.length := by
    rcases Nat.lt_or_ge i l.length with h1 | h1
    · exact h1
    · rw [List.getElem?_eq_none h1] at h; cases h
  rw [List.drop_eq_getElem_cons hlt]
  rw [List.getElem?_eq_getElem hlt] at h
  cases h; rfl
theorem joinG_acc : ∀ (l : List (Option (List Nat))) (acc : List Nat), acc.length ≤ (joinG acc l).length
  | [], acc => by simp [joinG]; omega
  | some p :: r, acc => by
    have := joinG_acc r (acc ++ p)
    simp only [joinG, List.length_append] at this ⊢; omega
  | none :: r, acc => by simp only [joinG, List.length_append]; omega
end Mine
namespace Mine
theorem dotstar : PySem.Str.ofString ".*" = ⟨[46, 42].toArray⟩ := by decide +kernel
end Mine
namespace Mine
open PySem
theorem str_ext {a b : Str} (h : a.cps.toList = b.cps.toList) : a = b := by
  cases a; cases b; simp at h; simp [h]
theorem head_tail (x : List Nat) : Str.empty ++ Str.ofString "(?s:" ++ ⟨x.toArray⟩ ++ Str.ofString ")\\Z" = ⟨([40, 63, 115, 58] ++ x ++ [41, 92, 90]).toArray⟩ := by
  have e1 : Str.ofString "(?s:" = ⟨[40, 63, 115, 58].toArray⟩ := by decide +kernel
  have e2 : Str.ofString ")\\Z" = ⟨[41, 92, 90].toArray⟩ := by decide +kernel
  rw [e1, e2]
  refine str_ext ?_
  show ((((#[] : Array Nat) ++ [40, 63, 115, 58].toArray) ++ x.toArray) ++ [41, 92, 90].toArray).toList = _
  simp
theorem lazy_fixed (x : List Nat) : Str.empty ++ Str.ofString "(?>.*?" ++ ⟨x.toArray⟩ ++ Str.ofString ")" = ⟨([40, 63, 62, 46, 42, 63] ++ x ++ [41]).toArray⟩ := by
  have e1 : Str.ofString "(?>.*?" = ⟨[40, 63, 62, 46, 42, 63].toArray⟩ := by decide +kernel
  have e2 : Str.ofString ")" = ⟨[41].toArray⟩ := by decide +kernel
  rw [e1, e2]
  refine str_ext ?_
  show ((((#[] : Array Nat) ++ [40, 63, 62, 46, 42, 63].toArray) ++ x.toArray) ++ [41].toArray).toList = _
  simp
end Mine
namespace Mine
open PySem
theorem fit_list {x : List Nat} (h : x.length ≤ 1000000) : (({ cps := x.toArray } : Str)).length ≤ sizeLine := by
  rw [PySem.sizeLine_eq]
  simp [Str.length]
  omega
end Mine
namespace Mine
def Short (ps : List (Option (List Nat))) : Prop := ∀ u, some u ∈ ps → u.length ≤ 2
theorem esc_length (c : Nat) : (esc c).length ≤ 2 := by unfold esc; split <;> simp
theorem trStep_short {ps : List (Option (List Nat))} (h : Short ps) (c : Nat) : Short (trStep ps c) := by
  intro u hu
  unfold trStep at hu
  have h2 := esc_length c
  (repeat' split at hu)
  · exact h u hu
  · simp at hu; exact h u hu
  · simp at hu; rcases hu with hu | rfl
    · exact h u hu
    · simp
  · simp at hu; rcases hu with hu | rfl
    · exact h u hu
    · exact h2
theorem foldl_short : ∀ (l : List Nat) {ps : List (Option (List Nat))}, Short ps → Short (l.foldl trStep ps)
  | [], _, h => h
  | c :: l, _, h => foldl_short l (trStep_short h c)
theorem trParts_short (l : List Nat) : Short (trParts l) := foldl_short l fun u hu => by cases hu
theorem joinG_length : ∀ (ps : List (Option (List Nat))) (acc : List Nat), Short ps → (joinG acc ps).length ≤ acc.length + 2 + 9 * ps.length
  | [], acc, _ => by simp [joinG]
  | some p :: r, acc, h => by
    have h1 := h p (.head _)
    have := joinG_length r (acc ++ p) fun u hu => h u (.tail _ hu)
    simp only [joinG, List.length_append, List.length_cons] at this ⊢; omega
  | none :: r, acc, h => by
    have := joinG_length r [] fun u hu => h u (.tail _ hu)
    simp only [joinG, List.length_append, List.length_cons, List.length_nil] at this ⊢; omega
theorem joinF_length : ∀ (ps : List (Option (List Nat))), Short ps → (joinF ps).length ≤ 2 + 9 * ps.length
  | [], _ => by simp [joinF]
  | some p :: r, h => by
    have h1 := h p (.head _)
    have := joinF_length r fun u hu => h u (.tail _ hu)
    simp only [joinF, List.length_append, List.length_cons] at this ⊢; omega
  | none :: r, h => by
    have := joinG_length r [] fun u hu => h u (.tail _ hu)
    simp only [joinF, List.length_cons, List.length_nil] at this ⊢; omega
def NoNN (ps : List (Option (List Nat))) : Prop := ∀ i : Nat, ps[i]? = some none → ps[i + 1]? ≠ some none
theorem NoNN.snoc {ps : List (Option (List Nat))} {p : Option (List Nat)} (h : NoNN ps) (hp : p = none → ps.getLast? ≠ some none) : NoNN (ps ++ [p]) := by
  intro i hi hi1
  rcases Nat.lt_trichotomy (i + 1) ps.length with h1 | h1 | h1
  · rw [List.getElem?_append_left (by omega)] at hi
    rw [List.getElem?_append_left (by omega)] at hi1
    exact h i hi hi1
  · rw [List.getElem?_append_left (by omega)] at hi
    rw [List.getElem?_append_right (by omega)] at hi1
    have e : i + 1 - ps.length = 0 := by omega
    rw [e] at hi1
    simp at hi1
    refine hp hi1 ?_
    rw [List.getLast?_eq_getElem?, ← h1]
    exact hi
  · rw [List.getElem?_append_right (by omega)] at hi1
    rw [List.getElem?_eq_none (by simp; omega)] at hi1
    cases hi1
theorem trStep_nn {ps : List (Option (List Nat))} (h : NoNN ps) (c : Nat) : NoNN (trStep ps c) := by
  unfold trStep
  (repeat' split)
  · exact h
  · next h1 => exact h.snoc fun _ => h1
  · exact h.snoc fun e => by cases e
  · exact h.snoc fun e => by cases e
theorem foldl_nn : ∀ (l : List Nat) {ps : List (Option (List Nat))}, NoNN ps → NoNN (l.foldl trStep ps)
  | [], _, h => h
  | c :: l, _, h => foldl_nn l (trStep_nn h c)
theorem trParts_nn (l : List Nat) : NoNN (trParts l) := foldl_nn l fun i hi => by simp at hi
/-- the text of translate -/
def trText (l : List Nat) : List Nat := [40, 63, 115, 58] ++ joinF (trParts l) ++ [41, 92, 90]
theorem dotq : PySem.Str.ofString "." = ⟨#[46]⟩ := by decide +kernel
end Mine
namespace Mine
theorem cap_small {l : List (Str × Tok)} {x : Str} (h : ∀ a, a ∈ l.map (·.1) → a.length ≤ x.length) (hn : x.length < 1000) : ∀ p ∈ l, p.1.length ≤ 5592405 := fun p hp => by
  have := h p.1 (List.mem_map_of_mem hp)
  omega
theorem cap_count {l : List (Str × Tok)} {x : Str} (h : l.map (·.1) = Txt.words x) (hn : x.length < 1000) : l.length ≤ sizeLine := by
  have h1 := congrArg List.length h
  have h2 := StrLaws.words_weight x
  rw [List.length_map] at h1
  rw [sizeLine_eq]
  omega
theorem cap_sum : ∀ (ys : List Str), ((ys.map Txt.capitalize).map (·.length)).sum ≤ 3 * (ys.map (·.length)).sum
  | [] => by simp
  | y :: ys => by
    have := cap_sum ys
    have := len_capitalize y
    simp only [List.map_cons, List.sum_cons]; omega
theorem cap_fits {l : List (Str × Tok)} {x : Str} (h : l.map (·.1) = Txt.words x) (hn : x.length < 1000) : JoinOk (Str.ofString " ") (l.map fun p => Txt.capitalize p.1) = true := by
  have e : (l.map fun p => Txt.capitalize p.1) = (l.map (·.1)).map Txt.capitalize := by simp
  rw [e, h]
  have h2 := StrLaws.words_weight x
  have h3 := cap_sum (Txt.words x)
  refine joinOk_of ?_
  rw [show (Str.ofString " ").length = 1 from by decide +kernel, List.length_map]
  omega
theorem cap_words {l : List (Str × Tok)} {x : Str} (h : l.map (·.1) = Txt.words x) : (l.map fun p => Txt.capitalize p.1) = (Txt.words x).map Txt.capitalize := by
  rw [← h]; simp
end Mine
set_option maxRecDepth 100000
namespace Mine
def KsfEnd {σ : Type} (h₀ : Heap) (L : Addr) (s : Shared) (I : Addr) (oI : Obj) (Led : σ → List (Addr × Obj)) (ps : σ → List (Str × Value)) (stored : List Str) (m₀ : Str → Option Value) (P : σ → Prop) (s₂ : Shared) : Prop :=
  ∃ (c' : σ) (h' : Heap) (tk : Nat) (m' : Str → Option Value) (news' : List (Addr × Obj)), s₂ = { s with heap := h', toks := tk } ∧ Fr h₀ L h' m' ∧ News h₀ L h' news' ∧ (I, oI) ∈ news' ∧ (∀ p ∈ Led c', p ∈ news') ∧ (∀ p ∈ ps c', m' p.1 = some p.2) ∧ (∀ z, (∀ p ∈ ps c', z ≠ p.1) → stored.contains z = false → m' z = m₀ z) ∧ P c'
theorem ksf_end {σ : Type} {h₀ : Heap} {L : Addr} {s : Shared} {I : Addr} {oI : Obj} {Led : σ → List (Addr × Obj)} {ps : σ → List (Str × Value)} {stored : List Str} {m₀ m' : Str → Option Value} {P : σ → Prop} {h' : Heap} {tk : Nat} {news' : List (Addr × Obj)} (c' : σ)
    (F : Fr h₀ L h' m') (N : News h₀ L h' news') (hI : (I, oI) ∈ news') (hn : ∀ p ∈ Led c', p ∈ news') (hk : ∀ p ∈ ps c', m' p.1 = some p.2) (hr : ∀ z, (∀ p ∈ ps c', z ≠ p.1) → stored.contains z = false → m' z = m₀ z) (hp : P c') :
    KsfEnd h₀ L s I oI Led ps stored m₀ P { s with heap := h', toks := tk } := ⟨c', h', tk, m', news', rfl, F, N, hI, hn, hk, hr, hp⟩
def KsfPost {σ : Type} (h₀ : Heap) (L : Addr) (s : Shared) (I : Addr) (oI : Obj) (Led : σ → List (Addr × Obj)) (ps : σ → List (Str × Value)) (stored : List Str) (m₀ : Str → Option Value) (P : σ → Prop) (Q : Flow → Shared → Prop) (f : Flow) (s₂ : Shared) : Prop :=
  match f with
  | .ret v => Q (.ret v) s₂
  | .brk => Q .next s₂
  | _ => KsfEnd h₀ L s I oI Led ps stored m₀ P s₂
section
variable {prog : Program} {w : World} {A : Around} {E : Value → Shared → Prop} {Q : Flow → Shared → Prop} {s : Shared} {env : Env} {h₀ : Heap}
theorem ksf_for {σ : Type} {x : Str} {px : Pos} {body : List Stmt} {m₀ : Str → Option Value} {I : Addr} {fp : List Addr} {n : Nat} {Pv : Nat → Value → Prop} {St : Nat → Heap → Prop} (W : Walks prog w A I fp [I] n Pv St)
    (O : Nat → Obj → Prop) (H : Heap → Prop) (Led : σ → List (Addr × Obj)) (ps : σ → List (Str × Value)) (stored : List Str) (P : Nat → σ → Prop) (c₀ : σ)
    (to : ∀ i h oI, h.get? I = some oI → O i oI → H h → St i h) (fro : ∀ i h, St i h → ∃ oI, h.get? I = some oI ∧ O i oI)
    (hH : ∀ c h m, Fr h₀ env.locals h m → News h₀ env.locals h (Led c) → H h)
    (hne : ∀ i c, P i c → ∀ p ∈ Led c, p.1 ≠ I) (hIL : env.locals ≠ I) (hI0 : h₀.get? I = none)
    (F : Fr h₀ env.locals s.heap m₀) (N : News h₀ env.locals s.heap (Led c₀)) (hst : St 0 s.heap) (hk : ∀ p ∈ ps c₀, m₀ p.1 = some p.2) (hp : P 0 c₀)
    (turn : ∀ i v (c : σ) (u : Str → Option Value) h tk oI, i < n → Pv i v → P i c → Fr h₀ env.locals h (kstB (fun z => if stored.contains z then u z else m₀ z) (ps c)) → News h₀ env.locals h ((I, oI) :: Led c) →
      wpAny (model prog w) A (storeName env x v) (fun _ s₂ => wpAny (model prog w) A (execs body env) (KsfPost h₀ env.locals s I oI Led ps stored m₀ (P (i + 1)) Q) E s₂) E { s with heap := h, toks := tk })
    (done : ∀ (c : σ) (u : Str → Option Value) h tk, P n c → Fr h₀ env.locals h (kstB (fun z => if stored.contains z then u z else m₀ z) (ps c)) → News h₀ env.locals h (Led c) → Q .next { s with heap := h, toks := tk })
    (hE : PassesOwn (model prog w) A env E := by passes_own) :
    codeAny (model prog w) A (.forLoop (.Name x px) (.ref I) body [] env) (fun r s' => match r with | .ok f => Q f s' | .error e => cameBackBy (model prog w) A env E e s') s := by
  obtain ⟨oI₀, hI₀, hO₀⟩ := fro 0 _ hst
  refine codeAny_forLoop (fun k s' => ∃ (c : σ) (h' : Heap) (tk : Nat) (m' : Str → Option Value) (i : Nat) (oI : Obj), s' = { s with heap := h', toks := tk } ∧ Fr h₀ env.locals h' m' ∧ News h₀ env.locals h' (Led c) ∧ h'.get? I = some oI ∧ O i oI ∧ (∀ p ∈ ps c, m' p.1 = some p.2) ∧ (∀ z, (∀ p ∈ ps c, z ≠ p.1) → stored.contains z = false → m' z = m₀ z) ∧ P i c ∧ i ≤ n ∧ k = n + 1 - i) ?_ (n + 1)
    ⟨c₀, s.heap, s.toks, m₀, 0, oI₀, rfl, F, N, hI₀, hO₀, hk, fun _ _ _ => rfl, hp, Nat.zero_le _, rfl⟩
  rintro k s' ⟨c, h', tk, m', i, oI, rfl, F', N', hI', hO', h1, h2, hP, hi, rfl⟩
  have stI := to i h' oI hI' hO' (hH c h' m' F' N')
  by_cases hlt : i < n
  · refine W.item i _ _ _ hlt stI fun v h₁ tk₁ hPv hst₁ hk₁ => ?_
    obtain ⟨oI', hI'', hO''⟩ := fro _ _ hst₁
    have F₁ : Fr h₀ env.locals h₁ m' := LCg.fr_but F' hk₁ hIL hI0
    have N₁ : News h₀ env.locals h₁ (Led c) := LCg.news_but N' hk₁ (hne i c hP)
    have N₂ : News h₀ env.locals h₁ ((I, oI') :: Led c) := fun p hp => by
      rcases List.mem_cons.mp hp with rfl | hp
      · exact ⟨hI'', Ne.symm hIL, hI0⟩
      · exact N₁ p hp
    refine wpAny_mono (wpAny_passesOwn hE (wpAny_assign_Name (turn i v c m' h₁ tk₁ oI' hlt hPv hP (ksw_fr h1 h2 F₁) N₂))) (fun _ s₂ q => ?_) fun _ _ x => x
    refine wpAny_mono (wpAny_passesOwn hE q) (fun f s₃ q => ?_) fun _ _ x => x
    cases f with
    | ret v => exact q
    | brk => exact q
    | next =>
      obtain ⟨c', h₃, tk₃, m₃, news₃, rfl, F₃, N₃, hm, hn, hk9, hr9, hp9⟩ := q
      exact ⟨n + 1 - (i + 1), by omega, c', h₃, tk₃, m₃, i + 1, oI', rfl, F₃, fun p hp => N₃ p (hn p hp), (N₃ _ hm).1, hO'', hk9, hr9, hp9, hlt, rfl⟩
    | cont =>
      obtain ⟨c', h₃, tk₃, m₃, news₃, rfl, F₃, N₃, hm, hn, hk9, hr9, hp9⟩ := q
      exact ⟨n + 1 - (i + 1), by omega, c', h₃, tk₃, m₃, i + 1, oI', rfl, F₃, fun p hp => N₃ p (hn p hp), (N₃ _ hm).1, hO'', hk9, hr9, hp9, hlt, rfl⟩
  · obtain rfl : i = n := Nat.le_antisymm hi (Nat.not_lt.mp hlt)
    refine W.done _ _ _ stI fun h₁ tk₁ hk₁ => wpAny_execs_nil ?_
    exact done c m' h₁ tk₁ hP (ksw_fr h1 h2 (LCg.fr_but F' hk₁ hIL hI0)) (LCg.news_but N' hk₁ (hne i c hP))

/-- a loop over a list, from pyIter on -/
theorem ksf_list {σ : Type} {x : Str} {px : Pos} {body : List Stmt} {m₀ : Str → Option Value} {a : Addr} {vs : List Value}
    (Led : σ → List (Addr × Obj)) (ps : σ → List (Str × Value)) (stored : List Str) (P : Nat → σ → Prop) (c₀ : σ) (hh : A.handled = none)
    (hH : ∀ c h m, Fr h₀ env.locals h m → News h₀ env.locals h (Led c) → h.IsList a vs.toArray)
    (hne : ∀ I, I = s.heap.objs.size → ∀ i c, P i c → ∀ p ∈ Led c, p.1 ≠ I)
    (F : Fr h₀ env.locals s.heap m₀) (N : News h₀ env.locals s.heap (Led c₀)) (hk : ∀ p ∈ ps c₀, m₀ p.1 = some p.2) (hp : P 0 c₀)
    (turn : ∀ I i v (c : σ) (u : Str → Option Value) h tk oI, I = s.heap.objs.size → vs[i]? = some v → P i c → Fr h₀ env.locals h (kstB (fun z => if stored.contains z then u z else m₀ z) (ps c)) → News h₀ env.locals h ((I, oI) :: Led c) →
      wpAny (model prog w) A (storeName env x v) (fun _ s₂ => wpAny (model prog w) A (execs body env) (KsfPost h₀ env.locals s I oI Led ps stored m₀ (P (i + 1)) Q) E s₂) E { s with heap := h, toks := tk })
    (done : ∀ (c : σ) (u : Str → Option Value) h tk, P vs.length c → Fr h₀ env.locals h (kstB (fun z => if stored.contains z then u z else m₀ z) (ps c)) → News h₀ env.locals h (Led c) → Q .next { s with heap := h, toks := tk })
    (hE : PassesOwn (model prog w) A env E := by passes_own) :
    wpAny (model prog w) A (pyIter (.ref a)) (fun it s₂ => codeAny (model prog w) A (.forLoop (.Name x px) it body [] env) (fun r s' => match r with | .ok f => Q f s' | .error e => cameBackBy (model prog w) A env E e s') s₂) E s := by
  have hl := hH c₀ _ _ F N
  have hlt : a < s.heap.objs.size := by obtain ⟨_, e, _⟩ := hl; exact Heap.lt_size e
  refine wpAny_pyIter_list hl ?_
  have up : ∀ b o, s.heap.get? b = some o → (s.heap.push { cls := .type "list_iterator", data := .fields #[.ref a, .int 0 0] }).get? b = some o := fun b o e => Heap.get?_push_of_some _ e
  refine ksf_for (Walks.list hh s.heap.objs.size a (Nat.ne_of_lt hlt) vs.toArray) (fun i o => o.cls = .type "list_iterator" ∧ o.data = .fields #[.ref a, .int i 0]) (fun h => h.IsList a vs.toArray) Led ps stored P c₀
    (fun i h oI e o hl => ⟨⟨oI, e, o⟩, hl⟩) (fun i h st => st.1) hH (hne _ rfl) (Nat.ne_of_lt F.ns.lt) (next_is_new F) (F.keeps up) (N.grown up) ⟨⟨_, Heap.get?_push_size _ rfl, rfl, rfl⟩, hl.push _⟩ hk hp ?_ ?_ hE
  · intro i v c u h tk oI hi hv hP F1 N1
    exact turn _ i v c u h tk oI rfl (by simpa using hv) hP F1 N1
  · intro c u h tk hP F1 N1
    exact done c u h tk (by simpa using hP) F1 N1

/-- a loop over the signs of a text of ASCII -/
theorem ksf_text {σ : Type} {x : Str} {px : Pos} {body : List Stmt} {m₀ : Str → Option Value} {l : List Nat} {t : Tok}
    (Led : σ → List (Addr × Obj)) (ps : σ → List (Str × Value)) (stored : List Str) (P : Nat → σ → Prop) (c₀ : σ) (hh : A.handled = none) (hl : ∀ c ∈ l, c < 128)
    (hne : ∀ I, I = s.heap.objs.size → ∀ i c, P i c → ∀ p ∈ Led c, p.1 ≠ I)
    (F : Fr h₀ env.locals s.heap m₀) (N : News h₀ env.locals s.heap (Led c₀)) (hk : ∀ p ∈ ps c₀, m₀ p.1 = some p.2) (hp : P 0 c₀)
    (turn : ∀ I i d tv (c : σ) (u : Str → Option Value) h tk oI, I = s.heap.objs.size → l[i]? = some d → P i c → Fr h₀ env.locals h (kstB (fun z => if stored.contains z then u z else m₀ z) (ps c)) → News h₀ env.locals h ((I, oI) :: Led c) →
      wpAny (model prog w) A (storeName env x (.str ⟨#[d]⟩ tv)) (fun _ s₂ => wpAny (model prog w) A (execs body env) (KsfPost h₀ env.locals s I oI Led ps stored m₀ (P (i + 1)) Q) E s₂) E { s with heap := h, toks := tk })
    (done : ∀ (c : σ) (u : Str → Option Value) h tk, P l.length c → Fr h₀ env.locals h (kstB (fun z => if stored.contains z then u z else m₀ z) (ps c)) → News h₀ env.locals h (Led c) → Q .next { s with heap := h, toks := tk })
    (hE : PassesOwn (model prog w) A env E := by passes_own) :
    wpAny (model prog w) A (pyIter (.str ⟨l.toArray⟩ t)) (fun it s₂ => codeAny (model prog w) A (.forLoop (.Name x px) it body [] env) (fun r s' => match r with | .ok f => Q f s' | .error e => cameBackBy (model prog w) A env E e s') s₂) E s := by
  have ha : (({ cps := l.toArray } : Str)).cps.all (· < 128) = true := by simpa using hl
  refine wpAny_pyIter_ascii ha ?_
  refine ksf_for (Walks.strAscii hh s.heap.objs.size ⟨l.toArray⟩ t) (fun i o => o.cls = .type "str_ascii_iterator" ∧ o.data = .fields #[.str ⟨l.toArray⟩ t, .int i 0]) (fun h => True) Led ps stored P c₀
    (fun i h oI e o hl => ⟨oI, e, o⟩) (fun i h st => st) (fun _ _ _ _ _ => trivial) (hne _ rfl) (Nat.ne_of_lt F.ns.lt) (next_is_new F) (F.keeps fun _ _ e => Heap.get?_push_of_some _ e) (N.grown fun _ _ e => Heap.get?_push_of_some _ e) ⟨_, Heap.get?_push_size _ rfl, rfl, rfl⟩ hk hp ?_ ?_ hE
  · rintro i v c u h tk oI hi ⟨d, tv, hd, rfl⟩ hP F1 N1
    exact turn _ i d tv c u h tk oI rfl (by simpa using hd) hP F1 N1
  · intro c u h tk hP F1 N1
    exact done c u h tk (by simpa using hP) F1 N1
end
section
variable {prog : Program} {w : World} {A : Around} {s : Shared} {h₀ : Heap} {L : Addr} {m : Str → Option Value} {env : Env}
/-- the turns of a comprehension without a test, by an invariant -/
theorem rest_inv {σ : Type} {elt : Expr} {x : Str} {scope : Scope} {cl : List (Str × Addr)} {S : List (Addr × Obj) → Prop} {Pv : Nat → Value → Prop} {Fin : List Value → List (Addr × Obj) → Prop} {n : Nat}
    (Ys : σ → List Value) (Led : σ → List (Addr × Obj)) (P : Nat → σ → Prop)
    (turn : ∀ i (c : σ) v I oI C oC D m₂ h tk (E' : Value → Shared → Prop), i < n → P i c → Pv i v → LCg.NsObj oC m₂ → m₂ x = some v → Fr h₀ L h m → News h₀ L h ((I, oI) :: (C, oC) :: (D, LCg.lst (Ys c)) :: Led c) → LCg.Off3 I C D (Led c) → ((@Ne Nat I C) ∧ (@Ne Nat I D) ∧ (@Ne Nat C D)) →
      wpAny (model prog w) A (eval elt (compEnvC scope cl C env)) (LCg.CompEnd h₀ L m { s with heap := h, toks := tk } I oI C oC D (LCg.lst (Ys c)) S (fun y news' => ∃ c', Ys c' = Ys c ++ [y] ∧ Led c' = news' ∧ P (i + 1) c')) E' { s with heap := h, toks := tk })
    (fin : ∀ c, P n c → Fin (Ys c) (Led c)) : ∀ (k i : Nat) (c : σ), i + k = n → P i c → LCg.CompRest prog w A h₀ L m env elt x scope cl s S Pv Fin k i (Ys c) (Led c)
  | 0, i, c, hk, hP => by
    obtain rfl : i = n := by omega
    exact .zero (fin c hP)
  | k + 1, i, c, hk, hP => by
    refine .succ fun v I oI C oC D m₂ h tk E' hv hC hx F N off ne => ?_
    refine wpAny_mono (turn i c v I oI C oC D m₂ h tk E' (by omega) hP hv hC hx F N off ne) (fun y s₂ q => ?_) fun _ _ e => e
    obtain ⟨h', tk', news', rfl, F', N', off', hS, c', e1, e2, hP'⟩ := q
    refine ⟨h', tk', news', rfl, F', N', off', hS, ?_⟩
    dsimp only
    rw [← e1, ← e2]
    exact rest_inv Ys Led P turn fin k (i + 1) c' (by omega) hP'
/-- the turns of a comprehension with one test, by an invariant -/
theorem restT_inv {σ : Type} {ct elt : Expr} {x : Str} {scope : Scope} {cl : List (Str × Addr)} {S : List (Addr × Obj) → Prop} {Pv : Nat → Value → Prop} {Fin : List Value → List (Addr × Obj) → Prop} {n : Nat}
    (Ys : σ → List Value) (Led : σ → List (Addr × Obj)) (P : Nat → σ → Prop)
    (turn : ∀ i (c : σ) v I oI C oC D m₂ h tk (E' : Value → Shared → Prop), i < n → P i c → Pv i v → LCg.NsObj oC m₂ → m₂ x = some v → Fr h₀ L h m → News h₀ L h ((I, oI) :: (C, oC) :: (D, LCg.lst (Ys c)) :: Led c) → LCg.Off3 I C D (Led c) → ((@Ne Nat I C) ∧ (@Ne Nat I D) ∧ (@Ne Nat C D)) →
      wpAny (model prog w) A (isTrue ct (compEnvC scope cl C env) (eval ct (compEnvC scope cl C env))) (fun ok s' => if ok = true then
        wpAny (model prog w) A (eval elt (compEnvC scope cl C env)) (LCg.CompEnd h₀ L m { s with heap := h, toks := tk } I oI C oC D (LCg.lst (Ys c)) S (fun y news' => ∃ c', Ys c' = Ys c ++ [y] ∧ Led c' = news' ∧ P (i + 1) c')) E' s'
        else LCg.CompEnd h₀ L m { s with heap := h, toks := tk } I oI C oC D (LCg.lst (Ys c)) S (fun _ news' => ∃ c', Ys c' = Ys c ∧ Led c' = news' ∧ P (i + 1) c') Value.none s') E' { s with heap := h, toks := tk })
    (fin : ∀ c, P n c → Fin (Ys c) (Led c)) : ∀ (k i : Nat) (c : σ), i + k = n → P i c → LCt.CompRestT prog w A h₀ L m env ct elt x scope cl s S Pv Fin k i (Ys c) (Led c)
  | 0, i, c, hk, hP => by
    obtain rfl : i = n := by omega
    exact .zero (fin c hP)
  | k + 1, i, c, hk, hP => by
    refine .succ fun v I oI C oC D m₂ h tk E' hv hC hx F N off ne => ?_
    have back : ∀ (ys' : List Value) (y : Value) (s₂ : Shared), LCg.CompEnd h₀ L m { s with heap := h, toks := tk } I oI C oC D (LCg.lst (Ys c)) S (fun y news' => ∃ c', Ys c' = ys' ∧ Led c' = news' ∧ P (i + 1) c') y s₂ →
        LCg.CompEnd h₀ L m { s with heap := h, toks := tk } I oI C oC D (LCg.lst (Ys c)) S (fun y news' => LCt.CompRestT prog w A h₀ L m env ct elt x scope cl s S Pv Fin k (i + 1) ys' news') y s₂ := by
      rintro ys' y s₂ ⟨h', tk', news', rfl, F', N', off', hS, c', e1, e2, hP'⟩
      refine ⟨h', tk', news', rfl, F', N', off', hS, ?_⟩
      rw [← e1, ← e2]
      exact restT_inv Ys Led P turn fin k (i + 1) c' (by omega) hP'
    refine wpAny_mono (turn i c v I oI C oC D m₂ h tk E' (by omega) hP hv hC hx F N off ne) (fun ok s₂ q => ?_) fun _ _ e => e
    cases ok with
    | true =>
      simp only [if_true] at q ⊢
      refine wpAny_mono q (fun y s₃ q => ?_) fun _ _ e => e
      have q2 : LCg.CompEnd h₀ L m { s with heap := h, toks := tk } I oI C oC D (LCg.lst (Ys c)) S (fun y9 news' => ∃ c', Ys c' = Ys c ++ [y] ∧ Led c' = news' ∧ P (i + 1) c') y s₃ := q
      exact back _ y s₃ q2
    | false =>
      simp only [Bool.false_eq_true, if_false] at q ⊢
      exact back _ _ _ q
end
end Mine
namespace Mine
inductive CodesAre : List Nat → List Value → Prop
  | nil : CodesAre [] []
  | cons {c : Nat} {t : Tok} {cs : List Nat} {vs : List Value} : CodesAre cs vs → CodesAre (c :: cs) (.int (c : Int) t :: vs)
theorem CodesAre.snoc {cs : List Nat} {vs : List Value} {c : Nat} {t : Tok} (h : CodesAre cs vs) : CodesAre (cs ++ [c]) (vs ++ [.int (c : Int) t]) := by
  induction h with
  | nil => exact .cons .nil
  | cons _ ih => exact .cons ih
theorem CodesAre.length {cs : List Nat} {vs : List Value} (h : CodesAre cs vs) : vs.length = cs.length := by
  induction h with
  | nil => rfl
  | cons _ ih => simp [ih]
theorem CodesAre.at {cs : List Nat} {vs : List Value} (h : CodesAre cs vs) : ∀ (i : Nat) (v : Value), vs[i]? = some v → ∃ c t, cs[i]? = some c ∧ v = .int (c : Int) t := by
  induction h with
  | nil => intro i v h; simp at h
  | cons _ ih =>
    intro i v h
    cases i with
    | zero => simp at h; subst h; exact ⟨_, _, rfl, rfl⟩
    | succ i =>
      rw [List.getElem?_cons_succ] at h ⊢
      exact ih i v h
theorem CodesAre.ints {cs : List Nat} {vs : List Value} (h : CodesAre cs vs) : IntsAre vs (cs.map fun (n : Nat) => (n : Int)) := by
  induction h with
  | nil => exact .nil
  | cons _ ih => exact .cons _ _ ih
theorem CodesAre.of_ints {vs : List Value} {ns : List Int} (h : IntsAre vs ns) : ∀ cs : List Nat, ns = cs.map (fun (n : Nat) => (n : Int)) → CodesAre cs vs := by
  induction h with
  | nil => intro cs e; cases cs with | nil => exact .nil | cons => simp at e
  | cons n t _ ih => intro cs e; cases cs with | nil => simp at e | cons c cs => simp at e; obtain ⟨rfl, e⟩ := e; exact .cons (ih cs e)
def capStep (p : List Nat × Bool) (c : Nat) : List Nat × Bool :=
  if c = 4 ∨ c = 6 then (p.1, true)
  else (p.1 ++ (if p.2 = true ∧ p.1 ≠ [] then [4] else []) ++ [if c < 4 then c / 2 * 2 + (if p.2 then 1 else 0) else c], false)
def capped (cs : List Nat) : List Nat := (cs.foldl capStep ([], true)).1
theorem fold_take {α β : Type} {f : β → α → β} {b : β} {l : List α} {i : Nat} {c : α} (h : l[i]? = some c) : (l.take (i + 1)).foldl f b = f ((l.take i).foldl f b) c := by
  rw [List.take_add_one, h]
  simp
theorem capStep_length (p : List Nat × Bool) (c : Nat) : (capStep p c).1.length ≤ p.1.length + 2 := by
  unfold capStep
  (repeat' split) <;> simp
theorem cap_length : ∀ (cs : List Nat) (p : List Nat × Bool), (cs.foldl capStep p).1.length ≤ p.1.length + 2 * cs.length
  | [], p => by simp
  | c :: cs, p => by
    have := cap_length cs (capStep p c)
    have := capStep_length p c
    simp only [List.foldl_cons, List.length_cons]; omega
end Mine
namespace Mine
theorem in46 (d : Nat) : (([4, 6] : List Int).any fun x => x == (d : Int)) = decide (d = 4 ∨ d = 6) := by
  by_cases h4 : d = 4
  · subst h4; rfl
  · by_cases h6 : d = 6
    · subst h6; rfl
    · have e4 : ((4 : Int) == (d : Int)) = false := by simp; omega
      have e6 : ((6 : Int) == (d : Int)) = false := by simp; omega
      simp [h4, h6, e4, e6]
end Mine
namespace Mine
theorem fdv0 (d : Nat) : ((d : Int)).fdiv 2 * 2 + 0 = ((d / 2 * 2 + 0 : Nat) : Int) := by
  rw [Int.fdiv_eq_ediv_of_nonneg _ (by decide)]; omega
theorem fdv1 (d : Nat) : ((d : Int)).fdiv 2 * 2 + 1 = ((d / 2 * 2 + 1 : Nat) : Int) := by
  rw [Int.fdiv_eq_ediv_of_nonneg _ (by decide)]; omega
end Mine
namespace Mine
def atomStr : Option Nat → Str
  | none => Str.ofString "any"
  | some c => ⟨#[c]⟩
inductive AtomsAre : List (Option Nat) → List Value → Prop
  | nil : AtomsAre [] []
  | cons {p : Option Nat} {t : Tok} {ps : List (Option Nat)} {vs : List Value} : AtomsAre ps vs → AtomsAre (p :: ps) (.str (atomStr p) t :: vs)
theorem AtomsAre.snoc {ps : List (Option Nat)} {vs : List Value} {p : Option Nat} {t : Tok} (h : AtomsAre ps vs) : AtomsAre (ps ++ [p]) (vs ++ [.str (atomStr p) t]) := by
  induction h with
  | nil => exact .cons .nil
  | cons _ ih => exact .cons ih
theorem AtomsAre.length {ps : List (Option Nat)} {vs : List Value} (h : AtomsAre ps vs) : vs.length = ps.length := by
  induction h with
  | nil => rfl
  | cons _ ih => simp [ih]
theorem AtomsAre.at {ps : List (Option Nat)} {vs : List Value} (h : AtomsAre ps vs) : ∀ (i : Nat) (p : Option Nat), ps[i]? = some p → ∃ t, vs[i]? = some (.str (atomStr p) t) := by
  induction h with
  | nil => intro i p h; simp at h
  | cons _ ih =>
    intro i p h
    cases i with
    | zero => simp at h; subst h; exact ⟨_, rfl⟩
    | succ i =>
      rw [List.getElem?_cons_succ] at h ⊢
      exact ih i p h
def atStep (q : List (Option Nat) × Bool) (c : Nat) : List (Option Nat) × Bool :=
  if q.2 = true ∧ c = 92 then (q.1, false) else (q.1 ++ [if q.2 = true ∧ c = 46 then none else some c], true)
def atomsOf (l : List Nat) : List (Option Nat) := (l.foldl atStep ([], true)).1
theorem atoms_length : ∀ (l : List Nat) (q : List (Option Nat) × Bool), (l.foldl atStep q).1.length ≤ q.1.length + l.length
  | [], q => by simp
  | c :: l, q => by
    have h1 := atoms_length l (atStep q c)
    have h2 : (atStep q c).1.length ≤ q.1.length + 1 := by unfold atStep; split <;> simp
    simp only [List.foldl_cons, List.length_cons]; omega
theorem isBack (c : Nat) : (({ cps := #[c] } : Str) == Str.ofString "\\") = decide (c = 92) := by rw [show Str.ofString "\\" = ⟨#[92]⟩ from by decide +kernel, eq_one]
theorem isDot (c : Nat) : (({ cps := #[c] } : Str) == Str.ofString ".") = decide (c = 46) := by rw [show Str.ofString "." = ⟨#[46]⟩ from by decide +kernel, eq_one]
end Mine
namespace Mine
/-- do the atoms fit the name at this place? -/
def fitsAt (ps : List (Option Nat)) (nm : List Nat) (p : Nat) : Bool := decide (p + ps.length ≤ nm.length) && (List.range ps.length).all fun k => match ps[k]? with | some (some c) => nm[p + k]? == some c | _ => true
end Mine
namespace Mine
def atomOk (ps : List (Option Nat)) (nm : List Nat) (p k : Nat) : Bool := match ps[k]? with | some (some c) => nm[p + k]? == some c | _ => true
theorem range_small {a b : Int} (ha : 0 ≤ a) (ha2 : a < 1000000) (hb : 0 ≤ b) (hb2 : b < 1000000) : Builtin.Range.small a b 1 = true :=
  small_one (Int.le_trans (by decide) ha) (Int.lt_trans ha2 (by decide)) (Int.le_trans (by decide) hb) (Int.lt_trans hb2 (by decide))
theorem range_size {a b : Int} {n : Nat} (h : b - a = (n : Int)) : Builtin.Range.rangeSize a b 1 = ((n : Nat) : Int) := by
  rw [rangeSize_nat, h]; rfl
end Mine
namespace Mine
theorem any_ne (d : Nat) : (({ cps := #[d] } : Str) == Str.ofString "any") = false := by
  rw [show Str.ofString "any" = ⟨#[97, 110, 121]⟩ from by decide +kernel]
  simp
theorem any_ne' (d : Nat) : (Str.ofString "any" == ({ cps := #[d] } : Str)) = false := by
  rw [show Str.ofString "any" = ⟨#[97, 110, 121]⟩ from by decide +kernel]
  simp
theorem atom_any {ps : List (Option Nat)} {nm : List Nat} {p i c9 : Nat} {q9 : Option Nat} (h1 : ps[i]? = some q9) (h2 : nm[((p : Int) + (i : Int)).toNat]? = some c9) :
    ([Str.ofString "any", ({ cps := #[c9] } : Str)].any fun x => x == atomStr q9) = atomOk ps nm p i := by
  have h3 : nm[p + i]? = some c9 := h2
  unfold atomOk
  rw [h1, h3]
  cases q9 with
  | none => simp [atomStr]
  | some d =>
    simp only [atomStr, List.any_cons, List.any_nil, any_ne', eq_one, Bool.or_false, Bool.false_or]
    by_cases h : c9 = d
    · subst h; simp
    · simp [h]
theorem fits_done {ps : List (Option Nat)} {nm : List Nat} {p : Nat} (h : ¬ nm.length < p + ps.length) : decide ((((List.range ps.length).filter fun k => !atomOk ps nm p k).map fun (n : Nat) => (n : Int)) = []) = fitsAt ps nm p := by
  unfold fitsAt
  rw [decide_eq_true (by omega : p + ps.length ≤ nm.length), Bool.true_and]
  have e : ((List.range ps.length).all fun k => match ps[k]? with | some (some c) => nm[p + k]? == some c | _ => true) = (List.range ps.length).all fun k => atomOk ps nm p k := rfl
  rw [e]
  rw [Bool.eq_iff_iff, decide_eq_true_iff, List.map_eq_nil_iff, List.filter_eq_nil_iff, List.all_eq_true]
  simp
theorem fits_not {ps : List (Option Nat)} {nm : List Nat} {p : Nat} (h : nm.length < p + ps.length) : fitsAt ps nm p = false := by
  unfold fitsAt; rw [decide_eq_false (by omega)]; rfl
theorem filter_range_snoc {f : Nat → Bool} {i : Nat} : (List.range (i + 1)).filter f = (List.range i).filter f ++ (if f i = true then [i] else []) := by
  rw [List.range_succ, List.filter_append]
  congr 1
  cases h : f i <;> simp [h]
end Mine
namespace Mine
def minL (a : Nat) : List Nat → Nat
  | [] => a
  | b :: r => minL (min a b) r
/-- the spots of the table behind one code of the pattern -/
def meStep (nm : List Nat) (spots : List Nat) (c : Nat) : List Nat :=
  if c = 8 then (List.range (nm.length + 1 - minL (nm.length + 1) spots)).map (minL (nm.length + 1) spots + ·)
  else (spots.filter fun k => decide (k < nm.length) && (c == 7 || nm[k]? == some c)).map (· + 1)
def meSpots (nm : List Nat) (pat : List Nat) : List Nat := pat.foldl (meStep nm) [0]
def means (pat nm : List Nat) : Bool := (meSpots nm pat).contains nm.length
end Mine
namespace Mine
section
variable {prog : Program} {w : World} {A : Around} {E : Value → Shared → Prop} {s : Shared} {h₀ : Heap} {L a b : Addr} {m : Str → Option Value} {news : List (Addr × Obj)} {vs ws : List Value} {Q : Value → Shared → Prop}
theorem add_L (F : Fr h₀ L s.heap m) (N : News h₀ L s.heap news) (ha : s.heap.IsList a vs.toArray) (hb : s.heap.IsList b ws.toArray)
    (h : ∀ D h', Fr h₀ L h' m → News h₀ L h' ((D, PySem.W.listOf (vs ++ ws).toArray 0) :: news) → (∀ p ∈ news, p.1 < D) → Q (.ref D) { s with heap := h' })
    (hz : vs.length + ws.length ≤ 100000) : wpAny (model prog w) A (binaryOp .Add (.ref a) (.ref b)) Q E s :=
  add_lists F N ha hb (fun h' F' N' => h _ h' F' N' fun p hp => Heap.lt_size (N p hp).1) (by rw [sizeLine_eq]; omega)
end
theorem minL_le : ∀ (l : List Nat) (a : Nat), minL a l ≤ a ∧ ∀ b ∈ l, minL a l ≤ b
  | [], a => ⟨Nat.le_refl _, fun b hb => by cases hb⟩
  | b :: r, a => by
    have h := minL_le r (min a b)
    refine ⟨Nat.le_trans h.1 (Nat.min_le_left _ _), fun c hc => ?_⟩
    rcases List.mem_cons.mp hc with rfl | hc
    · exact Nat.le_trans h.1 (Nat.min_le_right _ _)
    · exact h.2 c hc
theorem minL_mem : ∀ (l : List Nat) (a : Nat), minL a l = a ∨ minL a l ∈ l
  | [], a => .inl rfl
  | b :: r, a => by
    rcases minL_mem r (min a b) with h | h
    · rcases Nat.le_total a b with h1 | h1
      · left; show minL (min a b) r = a; rw [h]; exact Nat.min_eq_left h1
      · right; show minL (min a b) r ∈ b :: r; rw [h, Nat.min_eq_right h1]; exact .head _
    · right; exact .tail _ h
theorem min_eq {l : List Nat} {n : Nat} {M : Int} (h1 : M ∈ (l.map fun (k : Nat) => (k : Int)) ++ [(n : Int) + 1]) (h2 : ∀ a, a ∈ (l.map fun (k : Nat) => (k : Int)) ++ [(n : Int) + 1] → M ≤ a) : M = ((minL (n + 1) l : Nat) : Int) := by
  have h3 := minL_le l (n + 1)
  apply Int.le_antisymm
  · rcases minL_mem l (n + 1) with e | e
    · rw [e]; exact h2 _ (by simp)
    · exact h2 _ (List.mem_append_left _ (List.mem_map_of_mem e))
  · rcases List.mem_append.mp h1 with e | e
    · obtain ⟨k, hk, rfl⟩ := List.mem_map.mp e
      have := h3.2 k hk
      omega
    · rw [List.mem_singleton.mp e]
      have := h3.1
      omega
theorem CodesAre.append {cs ds : List Nat} {vs ws : List Value} (h : CodesAre cs vs) (h2 : CodesAre ds ws) : CodesAre (cs ++ ds) (vs ++ ws) := by
  induction h with
  | nil => exact h2
  | cons _ ih => exact .cons ih
theorem ints_snoc {cs : List Nat} {vs : List Value} {n : Int} {t : Tok} (h : CodesAre cs vs) : IntsAre (vs ++ [.int n t]) ((cs.map fun (k : Nat) => (k : Int)) ++ [n]) := by
  induction h with
  | nil => exact .cons _ _ .nil
  | cons _ ih => exact .cons _ _ ih
def meOk (nm : List Nat) (c k : Nat) : Bool := decide (k < nm.length) && (c == 7 || nm[k]? == some c)
theorem me8 {nm spots : List Nat} {c : Nat} (h : c = 8) : meStep nm spots c = (List.range (nm.length + 1 - minL (nm.length + 1) spots)).map (minL (nm.length + 1) spots + ·) := by
  unfold meStep; rw [if_pos h]
theorem me9 {nm spots : List Nat} {c : Nat} (h : ¬ c = 8) : meStep nm spots c = (spots.filter (meOk nm c)).map (· + 1) := by
  unfold meStep; rw [if_neg h]; rfl
theorem me_length {nm spots : List Nat} {c : Nat} (h : spots.length ≤ nm.length + 1) : (meStep nm spots c).length ≤ nm.length + 1 := by
  unfold meStep
  split
  · simp
  · have := List.length_filter_le (fun k => decide (k < nm.length) && (c == 7 || nm[k]? == some c)) spots
    rw [List.length_map]; omega
theorem in7 {c d : Nat} : (([7, (c : Int)] : List Int).any fun x => x == (d : Int)) = (d == 7 || some c == some d) := by
  simp only [List.any_cons, List.any_nil, Bool.or_false]
  congr 1
  · by_cases h : d = 7
    · subst h; rfl
    · have e : ((7 : Int) == (d : Int)) = false := by simp; omega
      rw [e]; symm; simpa using h
  · by_cases h : c = d
    · subst h; simp
    · have e : ((c : Int) == (d : Int)) = false := by simp; omega
      rw [e]; symm; simpa using h
end Mine
namespace Mine
theorem any_contains (sp : List Nat) (n : Nat) : ((sp.map fun (k : Nat) => (k : Int)).any fun x => x == (n : Int)) = sp.contains n := by
  induction sp with
  | nil => rfl
  | cons a r ih =>
    rw [List.map_cons, List.any_cons, ih, List.contains_cons]
    congr 1
    by_cases h : a = n
    · subst h; simp
    · have e : ((a : Int) == (n : Int)) = false := by simp; omega
      rw [e]; symm; simpa using fun e => h e.symm
end Mine
namespace Mine
/-- the text between the stars: a fixed head, the lazy parts, and what stands behind the last star -/
def midText : List (List Nat) → List Nat
  | [] => []
  | m :: r => [40, 63, 62, 46, 42, 63] ++ m ++ [41] ++ midText r
def endText : Option (List Nat) → List Nat
  | none => []
  | some l => [46, 42] ++ l
def bodyText (pre : List Nat) (mids : List (List Nat)) (last : Option (List Nat)) : List Nat := pre ++ midText mids ++ endText last
def placeLoop (nm : List Nat) : Nat → List (List Nat) → Option Nat
  | spot, [] => some spot
  | spot, m :: r => match ((List.range (nm.length + 1 - spot)).map (spot + ·)).filter (fun k => fitsAt (atomsOf m) nm k) with
    | [] => none
    | p :: _ => placeLoop nm (p + (atomsOf m).length) r
def takes (pre : List Nat) (mids : List (List Nat)) (last : Option (List Nat)) (nm : List Nat) : Bool :=
  fitsAt (atomsOf pre) nm 0 && match placeLoop nm (atomsOf pre).length mids with
    | none => false
    | some spot => match last with
      | none => spot == nm.length
      | some e => decide (spot + (atomsOf e).length ≤ nm.length) && fitsAt (atomsOf e) nm (nm.length - (atomsOf e).length)
end Mine
open Builtin Builtin.Str
set_option maxRecDepth 100000
namespace Mine
section
variable {prog : Program} {w : World} {A : Around} {E : Value → Shared → Prop} {s : Shared} {h₀ : Heap} {L a b : Addr} {m : Str → Option Value} {news : List (Addr × Obj)} {Q : Value → Shared → Prop} {t u : Tok}
/-- what text.split(sep) makes, onto the ledger -/
theorem split_S {x y : Str} {us : List (List Nat)} (F : Fr h₀ L s.heap m) (N : News h₀ L s.heap news) (hy : (y.length == 0) = false) (hsz : x.length ≤ 100000) (hs : Txt.split x y = us.map fun u => ({ cps := u.toArray } : Str))
    (h : ∀ D vs h' tk, Fr h₀ L h' m → News h₀ L h' ((D, PySem.W.listOf (List.toArray vs) 0) :: news) → (∀ p ∈ news, p.1 < D) → TextsAre us vs → Q (.ref D) { s with heap := h', toks := tk }) :
    wpAny (model prog w) A (call (.builtin "str.split") [.str x t, .str y u]) Q E s := by
  have texts : ∀ (us : List (List Nat)) (l : List (Str × Tok)), l.map (·.1) = us.map (fun u => ({ cps := u.toArray } : Str)) → TextsAre us (strValues l) := by
    intro us
    induction us with
    | nil => intro l e; cases l with | nil => exact .nil | cons => simp at e
    | cons u us ih => intro l e; cases l with | nil => simp at e | cons p l => obtain ⟨y9, t9⟩ := p; simp at e; obtain ⟨rfl, e⟩ := e; exact .cons (ih l (by simpa using e))
  have fin : ∀ (l : List (Str × Tok)) (tk : Nat), l.map (·.1) = Txt.split x y → Q (.ref s.heap.objs.size) { s with toks := tk, heap := s.heap.push (PySem.W.listOf (strValues l).toArray 0) } := fun l tk e => by
    refine h _ (strValues l) _ tk (F.keeps fun b o e => Heap.get?_push_of_some _ e) (fun p hp => ?_) (fun p hp => Heap.lt_size (N p hp).1) (texts us l (e.trans hs))
    rcases List.mem_cons.mp hp with rfl | hp
    · exact ⟨Heap.get?_push_size _ rfl, Ne.symm (Nat.ne_of_lt F.ns.lt), next_is_new F⟩
    · exact ⟨Heap.get?_push_of_some _ (N p hp).1, (N p hp).2⟩
  have hx : x.length ≤ sizeLine := by rw [sizeLine_eq]; omega
  cases h1 : (decide (x.length < y.length) || decide (strKind x < strKind y))
  · cases hf : (occurrences x y 0 x.length (x.length + 1)).isEmpty
    · have e1 : Txt.split x y = partsBetween x (occurrences x y 0 x.length (x.length + 1)) y.length := (if_neg (ne_true_of_eq_false h1)).trans (if_neg (ne_true_of_eq_false hf))
      have hle := split_le x y
      rw [e1] at hle
      refine call_meets PySem.F.slot_str_split (typeIs_str _ _ _) PySem.F.entry_str_split (PySem.F.args_str_split_2 _ _) (meets_str_split_sep x y t u h1 hy hf hx (by rw [sizeLine_eq]; omega)) ?_
      show wants Q E _ { s with toks := _, heap := s.heap.push { cls := .type "list", data := .seq (strsFrom s.toks (partsBetween x (occurrences x y 0 x.length (x.length + 1)) y.length)).toArray } }
      rw [strsFrom_eq]
      exact fin (numbered s.toks _) _ ((numbered_texts _ _).trans e1.symm)
    · exact call_meets PySem.F.slot_str_split (typeIs_str _ _ _) PySem.F.entry_str_split (PySem.F.args_str_split_2 _ _) (meets_str_split_not_found x y t u h1 hy hf)
        (fin [(x, t)] s.toks ((if_neg (ne_true_of_eq_false h1)).trans (if_pos hf)).symm)
  · exact call_meets PySem.F.slot_str_split (typeIs_str _ _ _) PySem.F.entry_str_split (PySem.F.args_str_split_2 _ _) (meets_str_split_cannot_occur x y t u h1)
      (fin [(x, t)] s.toks (if_pos h1).symm)
theorem slice_L {value slice : Expr} {vl vu : Value} {lo hi : Option Int} {vs zs : List Value} (F : Fr h₀ L s.heap m) (N : News h₀ L s.heap news) (hl : s.heap.IsList a vs.toArray) (pl : IsPart vl lo) (pu : IsPart vu hi) (e : kms_pick vs lo hi = zs)
    (h : ∀ D h', Fr h₀ L h' m → News h₀ L h' ((D, PySem.W.listOf zs.toArray 0) :: news) → (∀ p ∈ news, p.1 < D) → Q (.ref D) { s with heap := h' })
    (hs : subscripted slice false (.ref a) (.ref s.heap.objs.size) = operate [.ref s.heap.objs.size, .ref a] (getItem (.ref a) (.ref s.heap.objs.size))) (ht : ∀ r, letTemporaryGo value (.ref a) r = pure ()) (hz : vs.length ≤ 100000) :
    wpAny (model prog w) A (subscriptTail value slice (.ref a) (.ref s.heap.objs.size)) Q E { s with heap := s.heap.push { cls := .type "slice", data := .fields #[vl, vu, .none] } } :=
  kms_slice_lit F N hl pl pu (by simpa using e) h hs ht (by rw [sizeLine_eq, List.size_toArray]; omega)
end
theorem pick_from1 (v : Value) (r : List Value) : kms_pick (v :: r) (some 1) none = r := by
  simp [kms_pick, kms_lo, kms_hi]
theorem pick_butlast (r : List Value) (v : Value) : kms_pick (r ++ [v]) none (some (-1)) = r := by
  simp [kms_pick, kms_lo, kms_hi]
theorem str_len (l : List Nat) : (({ cps := l.toArray } : Str)).length = l.length := by simp [Str.length]
theorem seg_mid (a b c : List Nat) : Txt.slice ⟨(a ++ b ++ c).toArray⟩ (some (a.length : Int)) (some ((a.length + b.length : Nat) : Int)) = ⟨b.toArray⟩ := by
  have h := eq_of_beq (slice_closesL (x := ⟨(a ++ b ++ c).toArray⟩) (i := (a.length : Int)) (j := ((a.length + b.length : Nat) : Int)) (by omega) (by omega) (by rw [str_len]; simp; omega))
  rw [h]
  have e1 : (((a.length + b.length : Nat) : Int) - (a.length : Int)).toNat = b.length := by omega
  rw [e1, Int.toNat_natCast]
  simp
theorem seg_to (b c : List Nat) : Txt.slice ⟨(b ++ c).toArray⟩ none (some (b.length : Int)) = ⟨b.toArray⟩ := by
  have h := eq_of_beq (slice_closes_toL (x := ⟨(b ++ c).toArray⟩) (j := (b.length : Int)) (by omega) (by rw [str_len]; simp; omega))
  rw [h]
  have e1 : ((b.length : Int) - 0).toNat = b.length := by omega
  rw [e1]
  simp
theorem seg_from (a b : List Nat) : Txt.slice ⟨(a ++ b).toArray⟩ (some (a.length : Int)) none = ⟨b.toArray⟩ := by
  have h := eq_of_beq (slice_closes_fromL (x := ⟨(a ++ b).toArray⟩) (i := (a.length : Int)) (b := ((a ++ b).length : Int)) (by omega) (by rw [str_len]; simp; omega) (by rw [str_len]))
  rw [h]
  have e1 : (((a ++ b).length : Int) - (a.length : Int)).toNat = b.length := by simp; omega
  rw [e1, Int.toNat_natCast]
  simp
theorem sl1 (b : List Nat) : Txt.slice ⟨([40, 63, 115, 58] ++ b ++ [41, 92, 90]).toArray⟩ none (some 4) = Str.ofString "(?s:" := by
  rw [List.append_assoc]
  exact (seg_to [40, 63, 115, 58] (b ++ [41, 92, 90])).trans (by decide +kernel)
theorem slice_both_neg {x : Str} {i j : Int} (hj : j < 0) (hlo : 0 ≤ (x.length : Int) + j) : Txt.slice x (some i) (some j) = Txt.slice x (some i) (some ((x.length : Int) + j)) := by
  show StrLaws.sliceText x (some i) (some j) = StrLaws.sliceText x (some i) (some ((x.length : Int) + j))
  unfold StrLaws.sliceText
  have e : strSliceIndices (some i) (some j) 1 x.length = strSliceIndices (some i) (some ((x.length : Int) + j)) 1 x.length := by
    have a1 : ¬ ((x.length : Int) + j < 0) := by omega
    have e1 : j + (x.length : Int) = (x.length : Int) + j := by omega
    simp [strSliceIndices, hj, a1, e1]
  rw [e]
theorem sl2 (b : List Nat) : Txt.slice ⟨([40, 63, 115, 58] ++ b ++ [41, 92, 90]).toArray⟩ (some (-3)) none = Str.ofString ")\\Z" := by
  rw [slice_from_neg (by decide), str_len]
  have e : max 0 ((([40, 63, 115, 58] ++ b ++ [41, 92, 90]).length : Int) + -3) = (([40, 63, 115, 58] ++ b).length : Int) := by simp; omega
  rw [e]
  exact (seg_from ([40, 63, 115, 58] ++ b) [41, 92, 90]).trans (by decide +kernel)
theorem sl3 (b : List Nat) : Txt.slice ⟨([40, 63, 115, 58] ++ b ++ [41, 92, 90]).toArray⟩ (some 4) (some (-3)) = ⟨b.toArray⟩ := by
  rw [slice_both_neg (by decide) (by rw [str_len]; simp; omega), str_len]
  have e : ((([40, 63, 115, 58] ++ b ++ [41, 92, 90]).length : Int) + -3) = (([40, 63, 115, 58].length + b.length : Nat) : Int) := by simp; omega
  rw [e]
  exact seg_mid [40, 63, 115, 58] b [41, 92, 90]
theorem sl4 (b : List Nat) : Txt.slice ⟨(b ++ [41]).toArray⟩ (some (-1)) none = Str.ofString ")" := by
  rw [slice_from_neg (by decide), str_len]
  have e : max 0 (((b ++ [41]).length : Int) + -1) = (b.length : Int) := by simp; omega
  rw [e]
  exact (seg_from b [41]).trans (by decide +kernel)
theorem sl5 (b : List Nat) : Txt.slice ⟨(b ++ [41]).toArray⟩ none (some (-1)) = ⟨b.toArray⟩ := by
  rw [slice_to_neg (by decide), str_len]
  have e : max 0 (((b ++ [41]).length : Int) + -1) = (b.length : Int) := by simp; omega
  rw [e]
  exact seg_to b [41]
end Mine
open Builtin Builtin.Str
namespace Mine
end Mine
namespace Mine
open PySem.StrLaws
def joinY (y : List Nat) : List (List Nat) → List Nat
  | [] => []
  | [u] => u
  | u :: v :: r => u ++ y ++ joinY y (v :: r)
def cutsOf (w : Nat) : Nat → List (List Nat) → List Nat
  | _, [] => []
  | _, [_] => []
  | p, u :: v :: r => (p + u.length) :: cutsOf w (p + u.length + w) (v :: r)
def CutsAt (w : Nat) : Nat → Nat → List Nat → Prop
  | _, _, [] => True
  | free, p, c :: r => p ≤ c ∧ free ≤ c ∧ CutsAt w (c + w) (c + 1) r
theorem CutsAt.step {w free p : Nat} : ∀ {cuts : List Nat}, CutsAt w free p cuts → (∀ r, cuts ≠ p :: r) → CutsAt w free (p + 1) cuts
  | [], _, _ => trivial
  | c :: r, h, hne => ⟨by have := h.1; have : c ≠ p := fun e => hne r (by rw [e]); omega, h.2.1, h.2.2⟩
theorem CutsAt.ge {w : Nat} : ∀ {cuts : List Nat} {free p : Nat}, CutsAt w free p cuts → ∀ c ∈ cuts, p ≤ c
  | d :: r, free, p, h, c, hc => by
    rcases List.mem_cons.mp hc with rfl | hc
    · exact h.1
    · have := CutsAt.ge h.2.2 c hc
      have := h.1
      omega
theorem occ_run (s sub : Str) (hi limit : Nat) : ∀ (k p : Nat) (found : Array Nat) (free : Nat) (cuts : List Nat), CutsAt sub.length free p cuts → (∀ c ∈ cuts, c < p + k) →
    (∀ i, p ≤ i → i < p + k → ((i + sub.length ≤ hi ∧ subAt s sub i = true) ↔ i ∈ cuts)) → found.size + cuts.length ≤ limit →
    (forIn (List.range' p k) (found, free) (occBody s sub hi limit)).run.fst.toList = found.toList ++ cuts
  | 0, p, found, free, cuts, hC, hlt, hh, hl => by
    cases cuts with
    | nil => simp
    | cons c r => have := hlt c (.head _); have := hC.1; omega
  | k + 1, p, found, free, cuts, hC, hlt, hh, hl => by
    rw [List.range'_succ, List.forIn_cons]
    have hp := hh p (Nat.le_refl _) (by omega)
    by_cases hm : ∃ r, cuts = p :: r
    · obtain ⟨r, rfl⟩ := hm
      have h1 := hp.mpr (.head _)
      have hlim : found.size < limit := by simp at hl; omega
      have hb : occBody s sub hi limit p (found, free) = pure (ForInStep.yield (found.push p, p + sub.length)) := by
        unfold occBody
        rw [if_pos ⟨⟨⟨hlim, hC.2.1⟩, h1.1⟩, h1.2⟩]
      rw [hb]
      have := occ_run s sub hi limit k (p + 1) (found.push p) (p + sub.length) r hC.2.2 (fun c hc => by have := hlt c (.tail _ hc); omega) (fun i h2 h3 => by
        rw [hh i (by omega) (by omega)]
        constructor
        · intro h
          rcases List.mem_cons.mp h with rfl | h
          · omega
          · exact h
        · exact fun h => .tail _ h) (by simp at hl ⊢; omega)
      show (forIn (List.range' (p + 1) k) (found.push p, p + sub.length) (occBody s sub hi limit)).run.fst.toList = _
      rw [this]; simp
    · have hn : p ∉ cuts := by
        intro h
        cases cuts with
        | nil => cases h
        | cons c r =>
          rcases List.mem_cons.mp h with rfl | h
          · exact hm ⟨r, rfl⟩
          · have := CutsAt.ge hC.2.2 p h
            have := hC.1
            omega
      have hb : occBody s sub hi limit p (found, free) = pure (ForInStep.yield (found, free)) := by
        unfold occBody
        rw [if_neg fun h => hn (hp.mp ⟨h.1.2, h.2⟩)]
      rw [hb]
      exact occ_run s sub hi limit k (p + 1) found free cuts (hC.step fun r e => hm ⟨r, e⟩) (fun c hc => by have := hlt c hc; omega) (fun i h2 h3 => hh i (by omega) (by omega)) hl
theorem cutsOf_at (w : Nat) (hw : 1 ≤ w) : ∀ (us : List (List Nat)) (p free q : Nat), free ≤ p → q ≤ p → CutsAt w free q (cutsOf w p us)
  | [], _, _, _, _, _ => trivial
  | [_], _, _, _, _, _ => trivial
  | u :: v :: r, p, free, q, h1, h2 => ⟨by omega, by omega, cutsOf_at w hw (v :: r) _ _ _ (Nat.le_refl _) (by omega)⟩
theorem cutsOf_ge (w : Nat) : ∀ (us : List (List Nat)) (p : Nat), ∀ c ∈ cutsOf w p us, p ≤ c
  | [], _, c, h => by cases h
  | [_], _, c, h => by cases h
  | u :: v :: r, p, c, h => by
    rcases List.mem_cons.mp h with rfl | h
    · omega
    · have := cutsOf_ge w (v :: r) _ c h; omega
/-- the marker sign of the separator stands where the cuts are -/
theorem marks {y : List Nat} {z j : Nat} (hj : j < y.length) (hz : ∀ i, y[i]? = some z ↔ i = j) : ∀ (us : List (List Nat)) (p m : Nat), (∀ u ∈ us, z ∉ u) →
    ((joinY y us)[m]? = some z ↔ ∃ c ∈ cutsOf y.length p us, c + j = p + m)
  | [], p, m, _ => by simp [joinY, cutsOf]
  | [u], p, m, h => by
    constructor
    · intro e; exact absurd (List.mem_of_getElem? e) (h u (.head _))
    · rintro ⟨c, hc, _⟩; cases hc
  | u :: v :: r, p, m, h => by
    have ih := marks hj hz (v :: r) (p + u.length + y.length) (m - u.length - y.length) fun u hu => h u (.tail _ hu)
    have hge := cutsOf_ge y.length (v :: r) (p + u.length + y.length)
    show ((u ++ y ++ joinY y (v :: r))[m]? = some z) ↔ ∃ c ∈ (p + u.length) :: cutsOf y.length (p + u.length + y.length) (v :: r), c + j = p + m
    rcases Nat.lt_or_ge m u.length with h1 | h1
    · rw [List.append_assoc, List.getElem?_append_left h1]
      constructor
      · intro e; exact absurd (List.mem_of_getElem? e) (h u (.head _))
      · rintro ⟨c, hc, e⟩
        rcases List.mem_cons.mp hc with rfl | hc
        · omega
        · have := hge c hc; omega
    · rcases Nat.lt_or_ge m (u.length + y.length) with h2 | h2
      · rw [List.append_assoc, List.getElem?_append_right h1, List.getElem?_append_left (by omega), hz]
        constructor
        · intro e; exact ⟨_, .head _, by omega⟩
        · rintro ⟨c, hc, e⟩
          rcases List.mem_cons.mp hc with rfl | hc
          · omega
          · have := hge c hc; omega
      · rw [List.getElem?_append_right (by rw [List.length_append]; omega), List.length_append, ← Nat.sub_sub, ih]
        constructor
        · rintro ⟨c, hc, e⟩; exact ⟨c, .tail _ hc, by omega⟩
        · rintro ⟨c, hc, e⟩
          rcases List.mem_cons.mp hc with rfl | hc
          · omega
          · exact ⟨c, hc, by omega⟩
theorem cut_hits {y : List Nat} : ∀ (us : List (List Nat)) (p : Nat), ∀ c ∈ cutsOf y.length p us, p ≤ c ∧ ((joinY y us).drop (c - p)).take y.length = y ∧ c - p + y.length ≤ (joinY y us).length
  | [], _, c, h => by cases h
  | [_], _, c, h => by cases h
  | u :: v :: r, p, c, h => by
    rcases List.mem_cons.mp h with rfl | h
    · refine ⟨by omega, ?_, ?_⟩
      · show ((u ++ y ++ joinY y (v :: r)).drop (p + u.length - p)).take y.length = y
        rw [Nat.add_sub_cancel_left, List.append_assoc, List.drop_left, List.take_left]
      · show p + u.length - p + y.length ≤ (u ++ y ++ joinY y (v :: r)).length
        simp only [List.length_append]; omega
    · have h1 := cut_hits (v :: r) _ c h
      have e : c - p = (u ++ y).length + (c - (p + u.length + y.length)) := by rw [List.length_append]; omega
      refine ⟨by omega, ?_, ?_⟩
      · show ((u ++ y ++ joinY y (v :: r)).drop (c - p)).take y.length = y
        rw [e, ← List.drop_drop, List.drop_left]
        exact h1.2.1
      · show c - p + y.length ≤ (u ++ y ++ joinY y (v :: r)).length
        have := h1.2.2
        simp only [List.length_append] at this ⊢; omega
theorem parts_of {x y : List Nat} : ∀ (us : List (List Nat)) (a : Nat), us ≠ [] → x.drop a = joinY y us → partsFrom ⟨x.toArray⟩ y.length a (cutsOf y.length a us) = us.map fun u => ({ cps := u.toArray } : Str)
  | [], _, h, _ => absurd rfl h
  | [u], a, _, e => by
    show [strSub ⟨x.toArray⟩ a (({ cps := x.toArray } : Str)).length] = [_]
    refine congrArg (· :: []) (str_ext ?_)
    rw [strSub_toList, str_len]
    show (x.drop a).take (x.length - a) = u
    rw [e]
    have hl : (x.drop a).length = u.length := by rw [e]; rfl
    rw [List.length_drop] at hl
    rw [hl]
    exact List.take_length
  | u :: v :: r, a, _, e => by
    have e' : x.drop a = u ++ y ++ joinY y (v :: r) := e
    show strSub ⟨x.toArray⟩ a (a + u.length) :: partsFrom ⟨x.toArray⟩ y.length (a + u.length + y.length) (cutsOf y.length (a + u.length + y.length) (v :: r)) = _
    rw [parts_of (v :: r) (a + u.length + y.length) (by simp) (by rw [Nat.add_assoc, ← List.drop_drop, e', ← List.length_append, List.drop_left]), List.map_cons]
    refine congrArg (· :: _) (str_ext ?_)
    rw [strSub_toList]
    show (x.drop a).take (a + u.length - a) = u
    rw [e', Nat.add_sub_cancel_left, List.append_assoc, List.take_left]
end Mine
namespace Mine
open PySem.StrLaws
theorem CutsAt.count {w N : Nat} : ∀ {cuts : List Nat} {free p : Nat}, CutsAt w free p cuts → (∀ c ∈ cuts, c < N) → p ≤ N → cuts.length ≤ N - p
  | [], _, _, _, _, _ => Nat.zero_le _
  | c :: r, free, p, h, hN, hp => by
    have h1 := hN c (.head _)
    have h2 := h.1
    have := CutsAt.count h.2.2 (fun d hd => hN d (.tail _ hd)) (by omega)
    simp only [List.length_cons]; omega
theorem split_us {y : List Nat} {z j : Nat} (hj : j < y.length) (hz : ∀ i, y[i]? = some z ↔ i = j) {us : List (List Nat)} (hne : us ≠ []) (hu : ∀ u ∈ us, z ∉ u) (hk : PySem.Builtin.Str.strKind ⟨y.toArray⟩ = 1) :
    Txt.split ⟨(joinY y us).toArray⟩ ⟨y.toArray⟩ = us.map fun u => ({ cps := u.toArray } : Str) := by
  have hw : 1 ≤ y.length := by omega
  have hlx := str_len (joinY y us)
  have hly := str_len y
  have hC := cutsOf_at y.length hw us 0 0 0 (Nat.le_refl _) (Nat.le_refl _)
  have hch := cut_hits (y := y) us 0
  have hlt : ∀ c ∈ cutsOf y.length 0 us, c < (joinY y us).length + 1 := fun c hc => by have := (hch c hc).2.2; omega
  have hocc : occurrences ⟨(joinY y us).toArray⟩ ⟨y.toArray⟩ 0 (({ cps := (joinY y us).toArray } : Str)).length ((({ cps := (joinY y us).toArray } : Str)).length + 1) = cutsOf y.length 0 us := by
    rw [occ_eq]
    have := occ_run ⟨(joinY y us).toArray⟩ ⟨y.toArray⟩ (({ cps := (joinY y us).toArray } : Str)).length ((({ cps := (joinY y us).toArray } : Str)).length + 1) ((({ cps := (joinY y us).toArray } : Str)).length + 1 - 0) 0 #[] 0 (cutsOf y.length 0 us) (by rw [hly]; exact hC) (fun c hc => by have := hlt c hc; rw [hlx]; omega) (fun i h2 h3 => by
      rw [hly, hlx, subAt_eq]
      show (i + y.length ≤ (joinY y us).length ∧ ((((joinY y us).drop i).take (({ cps := y.toArray } : Str)).length == y) = true)) ↔ i ∈ cutsOf y.length 0 us
      rw [hly]
      constructor
      · rintro ⟨h4, h5⟩
        have h6 := eq_of_beq h5
        have h7 : (joinY y us)[i + j]? = some z := by
          have h8 : (((joinY y us).drop i).take y.length)[j]? = some z := by rw [h6]; exact (hz j).mpr rfl
          rw [List.getElem?_take_of_lt hj, List.getElem?_drop] at h8
          exact h8
        obtain ⟨c, hc, e⟩ := (marks hj hz us 0 (i + j) hu).mp h7
        have : c = i := by omega
        rw [← this]; exact hc
      · intro hc
        have h4 := hch i hc
        rw [Nat.sub_zero] at h4
        exact ⟨h4.2.2, by rw [h4.2.1]; exact beq_self_eq_true y⟩) (by
      have := hC.count hlt (Nat.zero_le _)
      rw [hlx]
      simpa using this)
    rw [this]; rfl
  have hparts := parts_of (x := joinY y us) (y := y) us 0 hne rfl
  unfold Txt.split
  rw [hocc]
  have one : cutsOf y.length 0 us = [] → us.map (fun u => ({ cps := u.toArray } : Str)) = [⟨(joinY y us).toArray⟩] := fun e => by
    match us, hne, e with
    | [u], _, _ => rfl
    | _ :: _ :: _, _, e => cases e
  split
  · next h =>
    refine (one ?_).symm
    have hk2 : ¬ PySem.Builtin.Str.strKind ⟨(joinY y us).toArray⟩ < PySem.Builtin.Str.strKind ⟨y.toArray⟩ := by
      rw [hk]; unfold PySem.Builtin.Str.strKind; split <;> (try split) <;> decide
    rw [Bool.or_eq_true, decide_eq_true_iff, decide_eq_true_iff, hlx, hly] at h
    rcases h with h | h
    · cases hq : cutsOf y.length 0 us with
      | nil => rfl
      | cons c r =>
        have := (hch c (by rw [hq]; exact .head _)).2.2
        omega
    · exact absurd h hk2
  · split
    · next h => exact (one (by simpa using h)).symm
    · rw [partsBetween_eq, hly]
      exact hparts
end Mine
namespace Mine
/-- signs that neither open a group nor repeat -/
def Plain (u : List Nat) : Prop := ∀ c ∈ u, c < 128 ∧ c ≠ 40 ∧ c ≠ 42
def lastL : Option (List Nat) → List (List Nat)
  | none => []
  | some l => [l]
def appLast (t : List Nat) : List (List Nat) → List (List Nat)
  | [] => []
  | [u] => [u ++ t]
  | u :: v :: r => u :: appLast t (v :: r)
theorem appLast_snoc (t ql : List Nat) : ∀ (qi : List (List Nat)), appLast t (qi ++ [ql]) = qi ++ [ql ++ t]
  | [] => rfl
  | [a] => rfl
  | a :: b :: r => by
    show a :: appLast t ((b :: r) ++ [ql]) = _
    rw [appLast_snoc t ql (b :: r)]; rfl
theorem join_body (t : List Nat) : ∀ (mids : List (List Nat)) (pre : List Nat), joinY [40, 63, 62, 46, 42, 63] (appLast t (pre :: mids.map (· ++ [41]))) = pre ++ midText mids ++ t
  | [], pre => by simp [appLast, joinY, midText]
  | m :: r, pre => by
    show joinY [40, 63, 62, 46, 42, 63] (pre :: appLast t ((m ++ [41]) :: r.map (· ++ [41]))) = _
    have ih := join_body t r (m ++ [41])
    have hc : ∃ v s, appLast t ((m ++ [41]) :: r.map (· ++ [41])) = v :: s := by cases r <;> exact ⟨_, _, rfl⟩
    obtain ⟨v, s, e⟩ := hc
    rw [e] at ih ⊢
    show pre ++ [40, 63, 62, 46, 42, 63] ++ joinY [40, 63, 62, 46, 42, 63] (v :: s) = _
    rw [ih]
    simp [midText]
theorem endText_no40 {last : Option (List Nat)} (h3 : ∀ l, last = some l → Plain l) : 40 ∉ endText last := by
  cases last with
  | none => simp [endText]
  | some l =>
    intro h
    rcases List.mem_append.mp h with h | h
    · simp at h
    · exact ((h3 l rfl) 40 h).2.1 rfl
theorem split_lazy {pre : List Nat} {mids : List (List Nat)} {last : Option (List Nat)} {qi : List (List Nat)} {ql : List Nat} (hq : pre :: mids.map (· ++ [41]) = qi ++ [ql]) (h1 : Plain pre) (h2 : ∀ m ∈ mids, Plain m) (h3 : ∀ l, last = some l → Plain l) :
    Txt.split ⟨(bodyText pre mids last).toArray⟩ (Str.ofString "(?>.*?") = (qi ++ [ql ++ endText last]).map fun u => ({ cps := u.toArray } : Str) := by
  have ey : Str.ofString "(?>.*?" = ⟨[40, 63, 62, 46, 42, 63].toArray⟩ := by decide +kernel
  have e1 : qi ++ [ql ++ endText last] = appLast (endText last) (pre :: mids.map (· ++ [41])) := by rw [hq, appLast_snoc]
  have e2 : bodyText pre mids last = joinY [40, 63, 62, 46, 42, 63] (qi ++ [ql ++ endText last]) := by rw [e1, join_body]; rfl
  have hm : ∀ u ∈ pre :: mids.map (· ++ [41]), 40 ∉ u := by
    intro u hu h
    rcases List.mem_cons.mp hu with rfl | hu
    · exact (h1 40 h).2.1 rfl
    · obtain ⟨m, hm, rfl⟩ := List.mem_map.mp hu
      rcases List.mem_append.mp h with h | h
      · exact (h2 m hm 40 h).2.1 rfl
      · simp at h
  rw [ey, e2]
  refine split_us (z := 40) (j := 0) (by decide) (fun i => ?_) (by simp) (fun u hu h => ?_) (by decide +kernel)
  · match i with
    | 0 => simp
    | 1 => simp
    | 2 => simp
    | 3 => simp
    | 4 => simp
    | 5 => simp
    | n + 6 => simp
  · rcases List.mem_append.mp hu with hu | hu
    · exact hm u (by rw [hq]; exact List.mem_append_left _ hu) h
    · rw [List.mem_singleton.mp hu] at h
      rcases List.mem_append.mp h with h | h
      · exact hm ql (by rw [hq]; simp) h
      · exact endText_no40 h3 h
theorem split_star {ql : List Nat} {last : Option (List Nat)} (h1 : ∀ c ∈ ql, c ≠ 42) (h3 : ∀ l, last = some l → Plain l) :
    Txt.split ⟨(ql ++ endText last).toArray⟩ (Str.ofString ".*") = (ql :: lastL last).map fun u => ({ cps := u.toArray } : Str) := by
  have ey : Str.ofString ".*" = ⟨[46, 42].toArray⟩ := by decide +kernel
  have e2 : ql ++ endText last = joinY [46, 42] (ql :: lastL last) := by cases last <;> simp [endText, lastL, joinY]
  rw [ey, e2]
  refine split_us (z := 42) (j := 1) (by decide) (fun i => ?_) (by simp) (fun u hu h => ?_) (by decide +kernel)
  · match i with
    | 0 => simp
    | 1 => simp
    | n + 2 => simp
  · rcases List.mem_cons.mp hu with rfl | hu
    · exact h1 42 h rfl
    · cases last with
      | none => cases hu
      | some l =>
        rw [List.mem_singleton.mp hu] at h
        exact ((h3 l rfl) 42 h).2.2 rfl
theorem TextsAre.split_last : ∀ {us : List (List Nat)} {u : List Nat} {vs : List Value}, TextsAre (us ++ [u]) vs → ∃ vi t, vs = vi ++ [.str ⟨u.toArray⟩ t] ∧ TextsAre us vi
  | [], u, _, .cons h => by cases h; exact ⟨[], _, rfl, .nil⟩
  | x :: us, u, _, .cons h => by
    obtain ⟨vi, t, rfl, hi⟩ := TextsAre.split_last h
    exact ⟨_ :: vi, t, rfl, .cons hi⟩
theorem TextsAre.at {us : List (List Nat)} {vs : List Value} (h : TextsAre us vs) : ∀ (i : Nat) (v : Value), vs[i]? = some v → ∃ u t, us[i]? = some u ∧ v = .str ⟨u.toArray⟩ t := by
  induction h with
  | nil => intro i v h; simp at h
  | cons _ ih =>
    intro i v h
    cases i with
    | zero => simp at h; subst h; exact ⟨_, _, rfl, rfl⟩
    | succ i =>
      rw [List.getElem?_cons_succ] at h ⊢
      exact ih i v h
theorem snoc_of_cons {α : Type} : ∀ (a : α) (r : List α), ∃ i l, a :: r = i ++ [l]
  | a, [] => ⟨[], a, rfl⟩
  | a, b :: r => by
    obtain ⟨i, l, e⟩ := snoc_of_cons b r
    exact ⟨a :: i, l, by rw [e]; rfl⟩
end Mine
namespace Mine
theorem q_facts {pre : List Nat} {mids : List (List Nat)} {qi : List (List Nat)} {ql : List Nat} (hq : pre :: mids.map (· ++ [41]) = qi ++ [ql]) (h1 : Plain pre) (h2 : ∀ m ∈ mids, Plain m) : qi.length = mids.length ∧ ∀ c ∈ ql, c ≠ 42 := by
  constructor
  · have := congrArg List.length hq
    simp at this
    exact this.symm
  · have hm : ql ∈ pre :: mids.map (· ++ [41]) := by rw [hq]; simp
    intro c hc
    rcases List.mem_cons.mp hm with rfl | hm
    · exact (h1 c hc).2.2
    · obtain ⟨m, hm2, rfl⟩ := List.mem_map.mp hm
      rcases List.mem_append.mp hc with hc | hc
      · exact (h2 m hm2 c hc).2.2
      · simp at hc; omega
theorem lastL_length (last : Option (List Nat)) : (lastL last).length ≤ 1 := by cases last <;> simp [lastL]
end Mine
namespace Mine
theorem mid_length : ∀ {mids : List (List Nat)} {m : List Nat}, m ∈ mids → m.length ≤ (midText mids).length
  | a :: r, m, h => by
    rcases List.mem_cons.mp h with rfl | h
    · simp only [midText, List.length_append]; omega
    · have := mid_length h
      simp only [midText, List.length_append]; omega
theorem takes_no {pre : List Nat} {mids : List (List Nat)} {last : Option (List Nat)} {nm : List Nat} (h : fitsAt (atomsOf pre) nm 0 = false) : takes pre mids last nm = false := by
  unfold takes; rw [h]; rfl
theorem fits_le {ps : List (Option Nat)} {nm : List Nat} {p : Nat} (h : fitsAt ps nm p = true) : p + ps.length ≤ nm.length := by
  unfold fitsAt at h
  rw [Bool.and_eq_true, decide_eq_true_iff] at h
  exact h.1
end Mine
namespace Mine
section
variable {prog : Program} {w : World} {A : Around} {E : Value → Shared → Prop} {s : Shared} {a : Addr} {vs : List Value} {Q : Value → Shared → Prop} {u : Tok}
theorem item_1 {value slice : Expr} {v : Value} (hl : s.heap.IsList a vs.toArray) (hx : (vs.drop 1).head? = some v) (h : Q v s)
    (hs : subscripted slice false (.ref a) (.int 1 u) = operate [.ref a, .int 1 u] (getItem (.ref a) (.int 1 u)) := by with_unfolding_all rfl) :
    wpAny (model prog w) A (subscriptTail value slice (.ref a) (.int 1 u)) Q E s :=
  item_L hl (by decide) (by decide) (by cases vs with | nil => cases hx | cons b r => cases r with | nil => cases hx | cons => simpa using hx) h hs
theorem len_Le {n : Nat} (hl : s.heap.IsList a vs.toArray) (hn : vs.length = n) (hfit : (n : Int) < 9223372036854775808) (h : Q (.int n (s.toks + 1)) { s with toks := s.toks + 1 + 1 }) : wpAny (model prog w) A (call (.builtin "len") [.ref a]) Q E s := by
  subst hn
  exact len_L hl hfit h
end
def placesOf (nm m : List Nat) (spot n : Nat) : List Nat := ((List.range n).map (spot + ·)).filter fun k => fitsAt (atomsOf m) nm k
theorem place_step {nm m : List Nat} {spot : Nat} {r : List (List Nat)} : placeLoop nm spot (m :: r) = match placesOf nm m spot (nm.length + 1 - spot) with | [] => none | p :: _ => placeLoop nm (p + (atomsOf m).length) r := rfl
theorem places_snoc {nm m : List Nat} {spot i : Nat} : placesOf nm m spot (i + 1) = placesOf nm m spot i ++ (if fitsAt (atomsOf m) nm (spot + i) = true then [spot + i] else []) := by
  unfold placesOf
  rw [List.range_succ, List.map_append, List.filter_append]
  congr 1
  cases h : fitsAt (atomsOf m) nm (spot + i) <;> simp [h]
theorem takes_loop {pre : List Nat} {mids : List (List Nat)} {last : Option (List Nat)} {nm : List Nat} (h0 : fitsAt (atomsOf pre) nm 0 = true) (h : placeLoop nm (atomsOf pre).length mids = none) : takes pre mids last nm = false := by
  unfold takes; rw [h0, h]; rfl
theorem takes_some {pre : List Nat} {mids : List (List Nat)} {e : List Nat} {nm : List Nat} {spot : Nat} (h0 : fitsAt (atomsOf pre) nm 0 = true) (h : placeLoop nm (atomsOf pre).length mids = some spot) :
    takes pre mids (some e) nm = (decide (spot + (atomsOf e).length ≤ nm.length) && fitsAt (atomsOf e) nm (nm.length - (atomsOf e).length)) := by
  unfold takes; rw [h0, h]; rfl
theorem takes_none {pre : List Nat} {mids : List (List Nat)} {nm : List Nat} {spot : Nat} (h0 : fitsAt (atomsOf pre) nm 0 = true) (h : placeLoop nm (atomsOf pre).length mids = some spot) :
    takes pre mids none nm = (spot == nm.length) := by
  unfold takes; rw [h0, h]; rfl
theorem spot_lt {n sp i : Nat} (h : i < n + 1 - sp) (hs : sp ≤ n) (hn : n < 400) : sp + i < 2000 := by omega
end Mine
namespace Mine
/-- the parts of a text, with a sign whether a star stands right ahead -/
def trRec : Bool → List Nat → List (Option (List Nat))
  | _, [] => []
  | st, c :: r => if c = 42 then (if st then trRec true r else none :: trRec true r) else some (if c = 63 then [46] else esc c) :: trRec false r
theorem trParts_rec : ∀ (l : List Nat) (ps : List (Option (List Nat))) (st : Bool), (ps.getLast? = some none ↔ st = true) → l.foldl trStep ps = ps ++ trRec st l
  | [], ps, st, _ => by simp [trRec]
  | c :: l, ps, st, h => by
    rw [List.foldl_cons]
    by_cases hc : c = 42
    · subst hc
      cases st with
      | true =>
        have e : trStep ps 42 = ps := by unfold trStep; rw [if_pos rfl, if_pos (h.mpr rfl)]
        rw [e, trParts_rec l ps true h]
        simp [trRec]
      | false =>
        have hn : ¬ ps.getLast? = some none := fun hh => by have := h.mp hh; cases this
        have e : trStep ps 42 = ps ++ [none] := by unfold trStep; rw [if_pos rfl, if_neg hn]
        rw [e, trParts_rec l (ps ++ [none]) true (by simp)]
        simp [trRec]
    · have e : trStep ps c = ps ++ [some (if c = 63 then [46] else esc c)] := by
        unfold trStep; rw [if_neg hc]
        by_cases h6 : c = 63
        · rw [if_pos h6, if_pos h6]
        · rw [if_neg h6, if_neg h6]
      rw [e, trParts_rec l _ false (by simp)]
      simp [trRec, hc]
theorem trParts_eq (l : List Nat) : trParts l = trRec false l := by
  unfold trParts
  rw [trParts_rec l [] false (by simp)]
  rfl
end Mine
namespace Mine
def white1 (c : Nat) : Bool := (9 ≤ c && c ≤ 13) || (28 ≤ c && c ≤ 32)
theorem isSpace_ascii : ∀ c, c < 128 → Unicode.isSpace c = white1 c := by decide +kernel
theorem titleOf_ascii : ∀ c, c < 128 → Unicode.titleOf c = [up1 c] := by decide +kernel
def capL : List Nat → List Nat
  | [] => []
  | c :: r => up1 c :: r.map lo1
def joinL (sep : List Nat) : List (List Nat) → List Nat
  | [] => []
  | [x] => x
  | x :: y :: r => x ++ sep ++ joinL sep (y :: r)
def scanStep (st : List (List Nat) × List Nat) (c : Nat) : List (List Nat) × List Nat :=
  if white1 c then (if st.2 = [] then st else (st.1 ++ [st.2], [])) else (st.1, st.2 ++ [c])
def finL (st : List (List Nat) × List Nat) : List (List Nat) := if st.2 = [] then st.1 else st.1 ++ [st.2]
def wordsL (l : List Nat) : List (List Nat) := finL (l.foldl scanStep ([], []))
def strL (l : List Nat) : Str := ⟨l.toArray⟩
theorem strL_length (l : List Nat) : (strL l).length = l.length := by simp [strL, Str.length]
theorem scan_strL : ∀ (l : List Nat) (st : List (List Nat) × List Nat), (∀ c ∈ l, c < 128) →
    l.foldl KWd.step (st.1.map strL, strL st.2) = ((l.foldl scanStep st).1.map strL, strL (l.foldl scanStep st).2)
  | [], st, _ => rfl
  | c :: l, st, h => by
    rw [List.foldl_cons, List.foldl_cons, ← scan_strL l (scanStep st c) fun d hd => h d (.tail _ hd)]
    congr 1
    unfold KWd.step scanStep
    rw [isSpace_ascii c (h c (.head _))]
    dsimp only
    cases hw : white1 c with
    | true =>
      rw [if_pos rfl, if_pos rfl, strL_length]
      by_cases he : st.2 = []
      · rw [if_pos (by rw [he]; rfl), if_pos he]
      · rw [if_neg (by rw [List.length_eq_zero_iff]; exact he), if_neg he]
        simp [strL, Str.empty]
    | false =>
      rw [if_neg (by simp), if_neg (by simp)]
      dsimp only
      congr 1
      exact Str.ext' (by rw [Str.cps_append]; simp [strL])
theorem words_strL {l : List Nat} (h : ∀ c ∈ l, c < 128) : Txt.words (strL l) = (wordsL l).map strL := by
  rw [KWd.words_scan]
  unfold KWd.fin KWd.scan wordsL finL
  have e : (strL l).cps.toList = l := by simp [strL]
  have k := scan_strL l ([], []) h
  change List.foldl KWd.step ([], Str.empty) l = _ at k
  rw [e, k]
  dsimp only
  rw [strL_length]
  by_cases he : (l.foldl scanStep ([], [])).2 = []
  · rw [if_pos (by rw [he]; rfl), if_pos he]
  · rw [if_neg (by rw [List.length_eq_zero_iff]; exact he), if_neg he]; simp
theorem flatten_mapIdx_two : ∀ (l : List Nat) (f : Nat → Nat → List Nat), (∀ i c, l[i]? = some c → f i c = if i = 0 then [up1 c] else [lo1 c]) → (l.mapIdx f).flatten = capL l
  | [], _, _ => rfl
  | c :: r, f, h => by
    rw [List.mapIdx_cons, List.flatten_cons, h 0 c rfl, flatten_mapIdx_single lo1 r (fun i => f (i + 1)) fun i d hd => by rw [h (i + 1) d hd, if_neg (by omega)]]
    rfl
theorem capitalize_strL {l : List Nat} (h : ∀ c ∈ l, c < 128) : Txt.capitalize (strL l) = strL (capL l) := by
  unfold Txt.capitalize
  by_cases he : l = []
  · subst he; rfl
  · have h0 : ((strL l).length == 0) = false := by rw [strL_length, beq_eq_false_iff_ne]; exact fun h' => he (List.length_eq_zero_iff.mp h')
    rw [h0]
    simp only [Bool.false_eq_true, if_false]
    unfold Txt.capitalized strL
    congr 1
    unfold placed
    apply Array.toList_inj.mp
    rw [Array.toList_flatten, Array.toList_mapIdx, map_toList_mapIdx, flatten_mapIdx_two]
    · intro i c hc
      have hlt := h c (by simpa using List.mem_of_getElem? hc)
      by_cases hi : i = 0
      · rw [if_pos hi, if_pos (by simp [hi])]; exact titleOf_ascii c hlt
      · rw [if_neg hi, if_neg (by simp [hi])]
        have hc' : l.toArray[i]? = some c := by simpa using hc
        unfold Unicode.lowerAt
        rw [hc']
        have hne : (c == 0x3A3) = false := by rw [beq_eq_false_iff_ne]; omega
        simp only [hne, Bool.false_and, Bool.false_eq_true, if_false]
        exact lowerOf_ascii c hlt
theorem join_strL (sep : List Nat) : ∀ us : List (List Nat), Txt.join (strL sep) (us.map strL) = strL (joinL sep us) := by
  intro us
  have e : Txt.join (strL sep) (us.map strL) = Str.join (strL sep) (us.map strL) := by simpa using join_plain_closes (strL sep) (us.map strL)
  rw [e]
  clear e
  induction us with
  | nil => rfl
  | cons u r ih =>
    cases r with
    | nil => rfl
    | cons v r =>
      change strL u ++ strL sep ++ Str.join (strL sep) ((v :: r).map strL) = _
      rw [ih]
      exact Str.ext' (by rw [Str.cps_append, Str.cps_append]; simp [strL, joinL])
def capsStep (p : List Nat × Bool) (c : Nat) : List Nat × Bool :=
  if white1 c then (p.1, true) else (p.1 ++ (if p.2 = true ∧ p.1 ≠ [] then [32] else []) ++ [if p.2 then up1 c else lo1 c], false)
def caps (l : List Nat) : List Nat := (l.foldl capsStep ([], true)).1
theorem joinL_snoc (sep w : List Nat) : ∀ l : List (List Nat), joinL sep (l ++ [w]) = joinL sep l ++ (if l = [] then [] else sep) ++ w
  | [] => by simp [joinL]
  | [x] => by simp [joinL]
  | x :: y :: r => by
    have ih := joinL_snoc sep w (y :: r)
    simp only [List.cons_append] at ih ⊢
    simp only [joinL, ih, List.append_assoc]
    simp
theorem joinL_nil {sep : List Nat} : ∀ {l : List (List Nat)}, (∀ w ∈ l, w ≠ []) → (joinL sep l = [] ↔ l = [])
  | [], _ => by simp [joinL]
  | [x], h => by simp [joinL, h x (.head _)]
  | x :: y :: r, h => by simp [joinL, h x (.head _)]
theorem capL_snoc : ∀ {l : List Nat} (c : Nat), l ≠ [] → capL (l ++ [c]) = capL l ++ [lo1 c]
  | [], _, h => absurd rfl h
  | a :: r, c, _ => by simp [capL]
theorem capL_ne {l : List Nat} (h : l ≠ []) : capL l ≠ [] := by cases l with | nil => exact absurd rfl h | cons => simp [capL]
structure CapsInv (st : List (List Nat) × List Nat) (p : List Nat × Bool) : Prop where
  ne : ∀ w ∈ st.1, w ≠ []
  gap : p.2 = true ↔ st.2 = []
  out : p.1 = joinL [32] ((finL st).map capL)
theorem caps_step {st : List (List Nat) × List Nat} {p : List Nat × Bool} (h : CapsInv st p) (c : Nat) : CapsInv (scanStep st c) (capsStep p c) := by
  obtain ⟨ws, run⟩ := st
  obtain ⟨out, gap⟩ := p
  obtain ⟨h1, h2, h3⟩ := h
  dsimp only at h1 h2 h3
  unfold finL at h3
  dsimp only at h3
  unfold scanStep capsStep
  dsimp only
  cases hw : white1 c with
  | true =>
    rw [if_pos rfl, if_pos rfl]
    by_cases he : run = []
    · rw [if_pos he]
      rw [if_pos he] at h3
      exact ⟨h1, by simp [he], by unfold finL; dsimp only; rw [if_pos he]; exact h3⟩
    · rw [if_neg he]
      rw [if_neg he] at h3
      refine ⟨fun w hw => ?_, by simp, by unfold finL; dsimp only; rw [if_pos rfl]; exact h3⟩
      rcases List.mem_append.mp hw with hw | hw
      · exact h1 w hw
      · rw [List.mem_singleton] at hw; subst hw; exact he
  | false =>
    rw [if_neg (show ¬ (false = true) by simp), if_neg (show ¬ (false = true) by simp)]
    by_cases he : run = []
    · subst he
      have hg : gap = true := h2.mpr rfl
      subst hg
      rw [if_pos rfl] at h3
      refine ⟨h1, by simp, ?_⟩
      unfold finL
      dsimp only
      rw [if_neg (show ¬ ([] ++ [c] : List Nat) = [] by simp), List.map_append, List.map_singleton, joinL_snoc, ← h3]
      have hn : out = [] ↔ ws = [] := by
        rw [h3, joinL_nil]
        · simp
        · intro w hw
          obtain ⟨v, hv, rfl⟩ := List.mem_map.mp hw
          exact capL_ne (h1 v hv)
      by_cases ho : ws = []
      · have ho2 := hn.mpr ho
        subst ho; subst ho2
        simp [capL]
      · have ho2 : out ≠ [] := fun h => ho (hn.mp h)
        rw [if_pos ⟨rfl, ho2⟩, if_neg (show ¬ List.map capL ws = [] by simpa using ho)]
        simp [capL]
    · have hg : gap = false := by
        cases gap with
        | true => exact absurd (h2.mp rfl) he
        | false => rfl
      subst hg
      rw [if_neg he] at h3
      refine ⟨h1, by simp, ?_⟩
      unfold finL
      dsimp only
      rw [if_neg (show ¬ run ++ [c] = [] by simp), if_neg (show ¬ (false = true ∧ out ≠ []) by simp), List.map_append, List.map_singleton, joinL_snoc, h3, List.map_append, List.map_singleton, joinL_snoc, capL_snoc c he]
      simp
theorem caps_inv : ∀ (l : List Nat) (st : List (List Nat) × List Nat) (p : List Nat × Bool), CapsInv st p → CapsInv (l.foldl scanStep st) (l.foldl capsStep p)
  | [], _, _, h => h
  | c :: l, _, _, h => caps_inv l _ _ (caps_step h c)
theorem caps_words (l : List Nat) : joinL [32] ((wordsL l).map capL) = caps l :=
  (caps_inv l ([], []) ([], true) ⟨fun w hw => (by cases hw), by simp, rfl⟩).out.symm
theorem wordsL_small {l : List Nat} (h : ∀ c ∈ l, c < 128) : ∀ w ∈ wordsL l, ∀ c ∈ w, c < 128 := by
  have key : ∀ (l : List Nat) (st : List (List Nat) × List Nat), (∀ c ∈ l, c < 128) → ((∀ w ∈ st.1, ∀ c ∈ w, c < 128) ∧ ∀ c ∈ st.2, c < 128) →
      ((∀ w ∈ (l.foldl scanStep st).1, ∀ c ∈ w, c < 128) ∧ ∀ c ∈ (l.foldl scanStep st).2, c < 128) := by
    intro l
    induction l with
    | nil => intro st _ h; exact h
    | cons c l ih =>
      intro st hl h
      refine ih _ (fun d hd => hl d (.tail _ hd)) ?_
      unfold scanStep
      have hc := hl c (.head _)
      split
      · split
        · exact h
        · refine ⟨fun w hw => ?_, by simp⟩
          rcases List.mem_append.mp hw with hw | hw
          · exact h.1 w hw
          · rw [List.mem_singleton] at hw; subst hw; exact h.2
      · refine ⟨h.1, fun d hd => ?_⟩
        rcases List.mem_append.mp hd with hd | hd
        · exact h.2 d hd
        · rw [List.mem_singleton] at hd; subst hd; exact hc
  have k := key l ([], []) h ⟨fun w hw => (by cases hw), fun c hc => (by cases hc)⟩
  intro w hw
  unfold wordsL finL at hw
  split at hw
  · exact k.1 w hw
  · rcases List.mem_append.mp hw with hw | hw
    · exact k.1 w hw
    · rw [List.mem_singleton] at hw; subst hw; exact k.2
theorem capwords_strL {l : List Nat} (h : ∀ c ∈ l, c < 128) : Txt.join (Str.ofString " ") ((Txt.words (strL l)).map Txt.capitalize) = strL (caps l) := by
  have e : Str.ofString " " = strL [32] := by decide +kernel
  have e2 : ((wordsL l).map strL).map Txt.capitalize = ((wordsL l).map capL).map strL := by
    rw [List.map_map, List.map_map]
    exact List.map_congr_left fun w hw => capitalize_strL (wordsL_small h w hw)
  rw [e, words_strL h, e2, join_strL, caps_words]
end Mine
namespace Mine
theorem lt_one (c d : Nat) : (({ cps := #[c] } : Str).cps.toList < ({ cps := #[d] } : Str).cps.toList) ↔ c < d := by
  show [c] < [d] ↔ c < d
  constructor
  · intro h
    cases h with
    | rel h => exact h
    | cons h => cases h
  · exact fun h => .rel h
theorem s65 : Str.ofString "A" = ⟨#[65]⟩ := by decide +kernel
theorem s90 : Str.ofString "Z" = ⟨#[90]⟩ := by decide +kernel
theorem s97 : Str.ofString "a" = ⟨#[97]⟩ := by decide +kernel
theorem s122 : Str.ofString "z" = ⟨#[122]⟩ := by decide +kernel
theorem lo_a {c : Nat} (h : ({ cps := #[c] } : Str).cps.toList < (Str.ofString "A").cps.toList) : lo1 c = c := by
  rw [s65, lt_one] at h; unfold lo1; rw [if_neg (by omega)]
theorem lo_b {c : Nat} (h : (Str.ofString "Z").cps.toList < ({ cps := #[c] } : Str).cps.toList) : lo1 c = c := by
  rw [s90, lt_one] at h; unfold lo1; rw [if_neg (by omega)]
theorem lo_c {c : Nat} (h1 : ¬ ({ cps := #[c] } : Str).cps.toList < (Str.ofString "A").cps.toList) (h2 : ¬ (Str.ofString "Z").cps.toList < ({ cps := #[c] } : Str).cps.toList) : lo1 c = ((c : Int) + 32).toNat := by
  rw [s65, lt_one] at h1; rw [s90, lt_one] at h2; unfold lo1; rw [if_pos (by omega)]; omega
theorem up_a {c : Nat} (h : ({ cps := #[c] } : Str).cps.toList < (Str.ofString "a").cps.toList) : up1 c = c := by
  rw [s97, lt_one] at h; unfold up1; rw [if_neg (by omega)]
theorem up_b {c : Nat} (h : (Str.ofString "z").cps.toList < ({ cps := #[c] } : Str).cps.toList) : up1 c = c := by
  rw [s122, lt_one] at h; unfold up1; rw [if_neg (by omega)]
theorem up_ge {c : Nat} (h1 : ¬ ({ cps := #[c] } : Str).cps.toList < (Str.ofString "a").cps.toList) : 97 ≤ c := by
  rw [s97, lt_one] at h1; omega
theorem up_c {c : Nat} (h1 : ¬ ({ cps := #[c] } : Str).cps.toList < (Str.ofString "a").cps.toList) (h2 : ¬ (Str.ofString "z").cps.toList < ({ cps := #[c] } : Str).cps.toList) : up1 c = ((c : Int) - 32).toNat := by
  rw [s97, lt_one] at h1; rw [s122, lt_one] at h2; unfold up1; rw [if_pos (by omega)]; omega
def tab14 : List Nat := [97, 65, 98, 115, 90, 95, 49, 42, 63, 46, 40, 32, 9, 39]
def pieceOf (x : Nat) (mk : List Nat) : List Nat :=
  if x % 16 < 14 then [tab14.getD (x % 16) 0] else if x % 16 = 14 then mk else if x / 16 % 128 ∈ [28, 29, 30, 31, 91] then [98] else [x / 16 % 128]
theorem fmodN (a b : Nat) : (a : Int).fmod (b : Int) = ((a % b : Nat) : Int) := by rw [Int.fmod_eq_emod_of_nonneg _ (Int.natCast_nonneg b)]; rfl
theorem fdivN (a b : Nat) : (a : Int).fdiv (b : Int) = ((a / b : Nat) : Int) := by rw [Int.fdiv_eq_ediv_of_nonneg _ (Int.natCast_nonneg b)]; rfl
theorem fdm (x a b : Nat) : ((x : Int).fdiv (a : Int)).fmod (b : Int) = ((x / a % b : Nat) : Int) := by rw [fdivN, fmodN]
theorem p_a {x : Nat} {mk : List Nat} (h : (x : Int).fmod 16 < 14) : (⟨(pieceOf x mk).toArray⟩ : Str) = Txt.item (Str.ofString "aAbsZ_1*?.( \t'") ((x : Int).fmod 16) := by
  have key : ∀ d : Fin 14, Txt.item (Str.ofString "aAbsZ_1*?.( \t'") ((d.val : Nat) : Int) = ⟨#[tab14.getD d.val 0]⟩ := by decide +kernel
  have e := fmodN x 16
  change (x : Int).fmod 16 = _ at e
  rw [e] at h ⊢
  have hx : x % 16 < 14 := by omega
  rw [key ⟨x % 16, hx⟩]
  unfold pieceOf
  rw [if_pos hx]
theorem p_b {x : Nat} {mk : List Nat} (h1 : ¬ (x : Int).fmod 16 < 14) (h2 : (x : Int).fmod 16 = 14) : (⟨(pieceOf x mk).toArray⟩ : Str) = ⟨mk.toArray⟩ := by
  have e := fmodN x 16
  change (x : Int).fmod 16 = _ at e
  rw [e] at h1 h2
  unfold pieceOf
  rw [if_neg (by omega), if_pos (by omega)]
theorem any5 (n : Nat) : ([28, 29, 30, 31, 91] : List Int).any (fun y => y == (n : Int)) = decide (n ∈ ([28, 29, 30, 31, 91] : List Nat)) := by
  rw [Bool.eq_iff_iff, decide_eq_true_iff]
  simp only [List.any_cons, List.any_nil, Bool.or_false, Bool.or_eq_true, beq_iff_eq, List.mem_cons, List.not_mem_nil, or_false]
  omega
theorem p_c {x : Nat} {mk : List Nat} (h1 : ¬ (x : Int).fmod 16 < 14) (h2 : (x : Int).fmod 16 ≠ 14) (h3 : ([28, 29, 30, 31, 91] : List Int).any (fun y => y == ((x : Int).fdiv 16).fmod 128) = true) : (⟨(pieceOf x mk).toArray⟩ : Str) = Str.ofString "b" := by
  have e := fmodN x 16
  change (x : Int).fmod 16 = _ at e
  have e3 := fdm x 16 128
  change ((x : Int).fdiv 16).fmod 128 = _ at e3
  rw [e] at h1 h2
  rw [e3, any5, decide_eq_true_iff] at h3
  unfold pieceOf
  rw [if_neg (by omega), if_neg (by omega), if_pos h3]
  decide +kernel
theorem p_d {x : Nat} {mk : List Nat} (h1 : ¬ (x : Int).fmod 16 < 14) (h2 : (x : Int).fmod 16 ≠ 14) (h3 : ([28, 29, 30, 31, 91] : List Int).any (fun y => y == ((x : Int).fdiv 16).fmod 128) = false) : (⟨(pieceOf x mk).toArray⟩ : Str) = ⟨#[(((x : Int).fdiv 16).fmod 128).toNat]⟩ := by
  have e := fmodN x 16
  change (x : Int).fmod 16 = _ at e
  have e3 := fdm x 16 128
  change ((x : Int).fdiv 16).fmod 128 = _ at e3
  rw [e] at h1 h2
  rw [e3, any5, decide_eq_false_iff_not] at h3
  unfold pieceOf
  rw [if_neg (by omega), if_neg (by omega), if_neg h3, e3]
  rfl
def specialR : List Nat := [40, 41, 93, 123, 125, 43, 45, 124, 94, 36, 92, 46, 38, 126, 35, 32, 9, 10, 13, 11, 12]
def runSign (c : Nat) : List Nat :=
  if c = 63 then [46] else if c ∈ specialR then [92, c] else [c]
def runOf (l : List Nat) : List Nat := (l.map runSign).flatten
theorem run_in : ∀ d : Nat, d < 128 → (Builtin.Str.occurrences (Str.ofString "()]{}+-|^$\\.&~# \t\n\r\x0b\x0c") { cps := #[d] } 0 (Str.ofString "()]{}+-|^$\\.&~# \t\n\r\x0b\x0c").length 1).isEmpty = !decide (d ∈ specialR) := by decide +kernel
theorem eq_chr (c d : Nat) : (({ cps := #[c] } : Str) == { cps := #[d] }) = decide (c = d) := by
  rw [Bool.eq_iff_iff, decide_eq_true_iff, beq_iff_eq]
  constructor
  · intro h; injection h with h; simpa using h
  · rintro rfl; rfl
theorem is_quest (d : Nat) : (({ cps := #[d] } : Str) == Str.ofString "?") = decide (d = 63) := by rw [show Str.ofString "?" = ⟨#[63]⟩ from by decide +kernel, eq_chr]
theorem l_dot : (Str.ofString ".").cps.toList = [46] := by decide +kernel
theorem l_back (d : Nat) : (Str.ofString "\\" ++ { cps := #[d] } : Str).cps.toList = [92, d] := by
  rw [show Str.ofString "\\" = ⟨#[92]⟩ from by decide +kernel, Str.cps_append]; rfl
theorem runOf_snoc (l : List Nat) (c : Nat) : runOf (l ++ [c]) = runOf l ++ runSign c := by unfold runOf; simp
theorem runOf_length : ∀ l : List Nat, (runOf l).length ≤ 2 * l.length
  | [] => by simp [runOf]
  | c :: l => by
    have ih := runOf_length l
    have h : (runSign c).length ≤ 2 := by unfold runSign; (repeat' split) <;> simp
    have e : runOf (c :: l) = runSign c ++ runOf l := by unfold runOf; simp
    rw [e, List.length_append, List.length_cons]; omega
section
variable {prog : Program} {w : World} {A : Around} {E : Value → Shared → Prop} {s : Shared} {Q : Value → Shared → Prop}
theorem app_list (a : List Nat) (y : Str) : (⟨a.toArray⟩ : Str) ++ y = ⟨(a ++ y.cps.toList).toArray⟩ := Str.ext' (by rw [Str.cps_append]; simp)
theorem iadd_L {a : List Nat} {y : Str} {t u : Tok} (ha : a.length ≤ 1000000) (hy : y.length ≤ 1000000) (h : ∀ t' k, Q (.str ⟨(a ++ y.cps.toList).toArray⟩ t') { s with toks := k }) :
    wpAny (model prog w) A (inplaceOp .Add (.str ⟨a.toArray⟩ t) (.str y u)) Q E s := by
  refine SBL.iadd (fun t' k _ => ?_) (by rw [sizeLine_eq, show (({ cps := a.toArray } : Str)).length = a.length from by simp [Str.length]]; omega)
  rw [app_list]
  exact h t' k
end
def whiteL : List Nat := [32, 9, 10, 13, 11, 12]
def bwStep (p : List Nat × Bool) (c : Nat) : List Nat × Bool := if c ∈ whiteL then (p.1 ++ [32], true) else (p.1 ++ [if p.2 then up1 c else lo1 c], false)
def byWhite (l : List Nat) : List Nat := (l.foldl bwStep ([], false)).1
theorem white_in : ∀ d : Nat, d < 128 → (Builtin.Str.occurrences (Str.ofString " \t\n\r\x0b\x0c") { cps := #[d] } 0 (Str.ofString " \t\n\r\x0b\x0c").length 1).isEmpty = !decide (d ∈ whiteL) := by decide +kernel
theorem l_blank : (Str.ofString " ").cps.toList = [32] := by decide +kernel
theorem bw_length : ∀ (l : List Nat) (p : List Nat × Bool), (l.foldl bwStep p).1.length = p.1.length + l.length
  | [], p => by simp
  | c :: l, p => by
    rw [List.foldl_cons, bw_length l]
    have h : (bwStep p c).1.length = p.1.length + 1 := by unfold bwStep; split <;> simp
    rw [h, List.length_cons]; omega
theorem foldl_take {α β : Type} {f : β → α → β} {b : β} {l : List α} {i : Nat} {c : α} (h : l[i]? = some c) : (l.take (i + 1)).foldl f b = f ((l.take i).foldl f b) c := by
  rw [List.take_add_one, h]
  simp
end Mine
namespace Mine
open Builtin Builtin.Str
theorem slice_both_big {x : Str} {i j : Int} (hj : (x.length : Int) ≤ j) : Txt.slice x (some i) (some j) = Txt.slice x (some i) (some (x.length : Int)) := by
  show StrLaws.sliceText x (some i) (some j) = StrLaws.sliceText x (some i) (some (x.length : Int))
  unfold StrLaws.sliceText
  have e : strSliceIndices (some i) (some j) 1 x.length = strSliceIndices (some i) (some (x.length : Int)) 1 x.length := by
    have a1 : ¬ (j < 0) := by omega
    have a2 : ¬ ((x.length : Int) < 0) := by omega
    have a3 : min j (x.length : Int) = (x.length : Int) := by omega
    simp [strSliceIndices, a1, a2, a3]
  rw [e]
theorem sl_at (l : List Nat) (k m : Nat) (hk : k ≤ l.length) : Txt.slice ⟨l.toArray⟩ (some (k : Int)) (some ((k : Int) + (m : Int))) = ⟨((l.drop k).take m).toArray⟩ := by
  by_cases h : k + m ≤ l.length
  · have e := eq_of_beq (slice_closesL (x := ⟨l.toArray⟩) (i := (k : Int)) (j := (k : Int) + (m : Int)) (by omega) (by omega) (by rw [str_len]; omega))
    rw [e]
    have e1 : ((k : Int) + (m : Int) - (k : Int)).toNat = m := by omega
    rw [e1, Int.toNat_natCast]
  · have e := eq_of_beq (slice_closesL (x := ⟨l.toArray⟩) (i := (k : Int)) (j := (l.length : Int)) (by omega) (by omega) (by rw [str_len]; omega))
    rw [slice_both_big (by rw [str_len]; omega), str_len, e]
    have e1 : ((l.length : Int) - (k : Int)).toNat = l.length - k := by omega
    rw [e1, Int.toNat_natCast]
    simp only
    rw [List.take_of_length_le (by simp), List.take_of_length_le (by simp; omega)]
/-- capitalized by a mark, sign by sign: how many signs of a found mark are left, and whether a piece begins -/
def bm (mk : List Nat) : Nat → Bool → List Nat → List Nat
  | _, _, [] => []
  | k + 1, f, c :: r => c :: bm mk k f r
  | 0, f, c :: r => if (c :: r).take mk.length = mk then c :: bm mk (mk.length - 1) true r else (if f then up1 c else lo1 c) :: bm mk 0 false r
def byMark (mk l : List Nat) : List Nat := bm mk 0 true l
theorem bm_skip (mk : List Nat) (f : Bool) : ∀ (p r : List Nat), bm mk p.length f (p ++ r) = p ++ bm mk 0 f r
  | [], r => by simp
  | c :: p, r => by simp only [List.length_cons, List.cons_append, bm, bm_skip mk f p r]
theorem bm_hit {mk : List Nat} {f : Bool} {l : List Nat} (hm : mk ≠ []) (h : l.take mk.length = mk) : bm mk 0 f l = mk ++ bm mk 0 true (l.drop mk.length) := by
  cases l with
  | nil => rw [List.take_nil] at h; exact absurd h.symm hm
  | cons c r =>
    rw [bm, if_pos h]
    cases mk with
    | nil => exact absurd rfl hm
    | cons a q =>
      simp only [List.length_cons, List.take_succ_cons, List.cons.injEq] at h
      obtain ⟨rfl, h⟩ := h
      simp only [List.length_cons, Nat.add_sub_cancel, List.drop_succ_cons, List.cons_append, List.cons.injEq, true_and]
      have e := bm_skip (c :: q) true (r.take q.length) (r.drop q.length)
      rw [List.take_append_drop] at e
      have hl : (r.take q.length).length = q.length := by rw [h]
      rw [hl] at e
      rw [e, h]
theorem bm_miss {mk : List Nat} {f : Bool} {c : Nat} {r : List Nat} (h : ¬ (c :: r).take mk.length = mk) : bm mk 0 f (c :: r) = (if f then up1 c else lo1 c) :: bm mk 0 false r := by
  rw [bm, if_neg h]
theorem bm_length (mk : List Nat) : ∀ (l : List Nat) (k : Nat) (f : Bool), (bm mk k f l).length = l.length
  | [], k, f => by cases k <;> simp [bm]
  | c :: r, k + 1, f => by simp only [bm, List.length_cons, bm_length mk r]
  | c :: r, 0, f => by
    simp only [bm]
    split <;> simp only [List.length_cons, bm_length mk r]
theorem eq_strs (a b : List Nat) : (({ cps := a.toArray } : Str) == { cps := b.toArray }) = decide (a = b) := by
  rw [Bool.eq_iff_iff, decide_eq_true_iff, beq_iff_eq]
  constructor
  · intro h; injection h with h; simpa using h
  · rintro rfl; rfl
end Mine
namespace Mine
open Builtin Builtin.Str PySem.StrLaws
/-- where the loop finds a marker: signs still taken by the last find, place, rest -/
def cm (mk : List Nat) : Nat → Nat → List Nat → List Nat
  | _, _, [] => []
  | k + 1, p, _ :: r => cm mk k (p + 1) r
  | 0, p, c :: r => if (c :: r).take mk.length = mk then p :: cm mk (mk.length - 1) (p + 1) r else cm mk 0 (p + 1) r
theorem occ_loop {mk : List Nat} (hm : 1 ≤ mk.length) (L : List Nat) (limit : Nat) (hlim : L.length < limit) : ∀ (l : List Nat) (p : Nat) (found : Array Nat) (free : Nat), l = L.drop p → p ≤ L.length → found.size ≤ p →
    (forIn (List.range' p (l.length + 1)) (found, free) (occBody ⟨L.toArray⟩ ⟨mk.toArray⟩ L.length limit)).run.fst.toList = found.toList ++ cm mk (free - p) p l := by
  have hlen : (({ cps := mk.toArray } : Str)).length = mk.length := str_len mk
  have hsub : ∀ i, subAt ⟨L.toArray⟩ ⟨mk.toArray⟩ i = ((L.drop i).take mk.length == mk) := fun i => by
    rw [subAt_eq]; show ((L.drop i).take (({ cps := mk.toArray } : Str)).length == mk) = _; rw [hlen]
  intro l
  induction l with
  | nil =>
    intro p found free hl hp hf
    have hpl : p = L.length := by
      have := congrArg List.length hl
      simp at this; omega
    rw [List.range'_succ, List.forIn_cons]
    have hb : occBody ⟨L.toArray⟩ ⟨mk.toArray⟩ L.length limit p (found, free) = pure (ForInStep.yield (found, free)) := by
      unfold occBody
      rw [if_neg (by rintro ⟨⟨_, h⟩, _⟩; rw [hlen] at h; omega)]
    rw [hb]
    simp [cm]
  | cons c r ih =>
    intro p found free hl hp hf
    have hpl : p < L.length := by
      have := congrArg List.length hl
      simp at this; omega
    have hr : r = L.drop (p + 1) := by rw [← List.drop_drop, ← hl]; rfl
    rw [List.length_cons, List.range'_succ, List.forIn_cons]
    by_cases hfree : free ≤ p
    · have e0 : free - p = 0 := by omega
      rw [e0]
      by_cases hit : (c :: r).take mk.length = mk
      · have hfit : p + mk.length ≤ L.length := by
          have h1 := congrArg List.length hit
          have h2 := congrArg List.length hl
          rw [List.length_take] at h1
          rw [List.length_drop] at h2
          omega
        have hb : occBody ⟨L.toArray⟩ ⟨mk.toArray⟩ L.length limit p (found, free) = pure (ForInStep.yield (found.push p, p + mk.length)) := by
          unfold occBody
          rw [if_pos ⟨⟨⟨by dsimp only; omega, hfree⟩, by rw [hlen]; exact hfit⟩, by rw [hsub, ← hl, hit]; exact beq_self_eq_true mk⟩, hlen]
        rw [hb]
        have := ih (p + 1) (found.push p) (p + mk.length) hr (by omega) (by simp; omega)
        show (forIn (List.range' (p + 1) (r.length + 1)) (found.push p, p + mk.length) (occBody ⟨L.toArray⟩ ⟨mk.toArray⟩ L.length limit)).run.fst.toList = _
        rw [this]
        have e1 : p + mk.length - (p + 1) = mk.length - 1 := by omega
        rw [e1, cm, if_pos hit]
        simp
      · have hb : occBody ⟨L.toArray⟩ ⟨mk.toArray⟩ L.length limit p (found, free) = pure (ForInStep.yield (found, free)) := by
          unfold occBody
          rw [if_neg (by
            rintro ⟨_, h⟩
            rw [hsub, ← hl] at h
            exact hit (eq_of_beq h))]
        rw [hb]
        have := ih (p + 1) found free hr (by omega) (by omega)
        show (forIn (List.range' (p + 1) (r.length + 1)) (found, free) (occBody ⟨L.toArray⟩ ⟨mk.toArray⟩ L.length limit)).run.fst.toList = _
        rw [this]
        have e1 : free - (p + 1) = 0 := by omega
        rw [e1, cm, if_neg hit]
    · have hb : occBody ⟨L.toArray⟩ ⟨mk.toArray⟩ L.length limit p (found, free) = pure (ForInStep.yield (found, free)) := by
        unfold occBody
        rw [if_neg (by rintro ⟨⟨⟨_, h⟩, _⟩, _⟩; exact hfree h)]
      rw [hb]
      have := ih (p + 1) found free hr (by omega) (by omega)
      show (forIn (List.range' (p + 1) (r.length + 1)) (found, free) (occBody ⟨L.toArray⟩ ⟨mk.toArray⟩ L.length limit)).run.fst.toList = _
      rw [this]
      obtain ⟨k, hk⟩ : ∃ k, free - p = k + 1 := ⟨free - p - 1, by omega⟩
      have e1 : free - (p + 1) = k := by omega
      rw [e1, hk, cm]
/-- the pieces between the finds -/
def consHead (c : Nat) : List (List Nat) → List (List Nat)
  | [] => [[c]]
  | u :: us => (c :: u) :: us
def spM (mk : List Nat) : Nat → List Nat → List (List Nat)
  | _, [] => [[]]
  | k + 1, _ :: r => spM mk k r
  | 0, c :: r => if (c :: r).take mk.length = mk then [] :: spM mk (mk.length - 1) r else consHead c (spM mk 0 r)
theorem consHead_ne (c : Nat) (us : List (List Nat)) : consHead c us ≠ [] := by cases us <;> simp [consHead]
theorem spM_ne (mk : List Nat) : ∀ (l : List Nat) (k : Nat), spM mk k l ≠ []
  | [], k => by cases k <;> simp [spM]
  | c :: r, k + 1 => by simp only [spM]; exact spM_ne mk r k
  | c :: r, 0 => by
    simp only [spM]
    split
    · simp
    · exact consHead_ne _ _
theorem joinY_consHead (y : List Nat) (c : Nat) {us : List (List Nat)} (h : us ≠ []) : joinY y (consHead c us) = c :: joinY y us := by
  match us, h with
  | [u], _ => rfl
  | u :: v :: r, _ => simp [consHead, joinY]
theorem joinY_nil_cons (y : List Nat) {us : List (List Nat)} (h : us ≠ []) : joinY y ([] :: us) = y ++ joinY y us := by
  match us, h with
  | u :: r, _ => simp [joinY]
theorem cutsOf_consHead (w p c : Nat) {us : List (List Nat)} (h : us ≠ []) : cutsOf w p (consHead c us) = cutsOf w (p + 1) us := by
  match us, h with
  | [u], _ => rfl
  | u :: v :: r, _ =>
    simp only [consHead, cutsOf, List.length_cons]
    have e : p + (u.length + 1) = p + 1 + u.length := by omega
    rw [e]
theorem join_spM {mk : List Nat} (hm : 1 ≤ mk.length) : ∀ (l : List Nat) (k : Nat), k ≤ l.length → l.take k ++ joinY mk (spM mk k l) = l
  | [], k, h => by
    have : k = 0 := by simpa using h
    subst this; simp [spM, joinY]
  | c :: r, k + 1, h => by
    simp only [spM, List.take_succ_cons, List.cons_append]
    rw [join_spM hm r k (by simpa using h)]
  | c :: r, 0, _ => by
    simp only [spM, List.take_zero, List.nil_append]
    split
    · next hit =>
      rw [joinY_nil_cons mk (spM_ne mk r _)]
      have hl : mk.length - 1 ≤ r.length := by
        have := congrArg List.length hit
        rw [List.length_take, List.length_cons] at this; omega
      have ih := join_spM hm r (mk.length - 1) hl
      have e : mk = c :: r.take (mk.length - 1) := by
        conv => lhs; rw [← hit]
        obtain ⟨n, hn⟩ : ∃ n, mk.length = n + 1 := ⟨mk.length - 1, by omega⟩
        rw [hn]; rfl
      rw [show mk ++ joinY mk (spM mk (mk.length - 1) r) = (c :: r.take (mk.length - 1)) ++ joinY mk (spM mk (mk.length - 1) r) from by rw [← e], List.cons_append, ih]
    · rw [joinY_consHead mk c (spM_ne mk r 0)]
      have ih := join_spM hm r 0 (Nat.zero_le _)
      rw [List.take_zero, List.nil_append] at ih
      rw [ih]
theorem cm_cuts {mk : List Nat} (hm : 1 ≤ mk.length) : ∀ (l : List Nat) (k p : Nat), k ≤ l.length → cm mk k p l = cutsOf mk.length (p + k) (spM mk k l)
  | [], k, p, _ => by cases k <;> simp [cm, spM, cutsOf]
  | c :: r, k + 1, p, h => by
    simp only [cm, spM]
    rw [cm_cuts hm r k (p + 1) (by simpa using h)]
    congr 1
    omega
  | c :: r, 0, p, _ => by
    simp only [cm, spM]
    split
    · next hit =>
      have hl : mk.length - 1 ≤ r.length := by
        have := congrArg List.length hit
        rw [List.length_take, List.length_cons] at this; omega
      rw [cm_cuts hm r (mk.length - 1) (p + 1) hl]
      cases hs : spM mk (mk.length - 1) r with
      | nil => exact absurd hs (spM_ne mk r _)
      | cons u us =>
        simp only [cutsOf, List.length_nil, Nat.add_zero]
        congr 2
        omega
    · rw [cutsOf_consHead _ _ _ (spM_ne mk r 0), cm_cuts hm r 0 (p + 1) (Nat.zero_le _)]
theorem kind_ascii {mk : List Nat} (h : ∀ c ∈ mk, c < 128) : PySem.Builtin.Str.strKind ⟨mk.toArray⟩ = 1 := by
  unfold PySem.Builtin.Str.strKind
  rw [if_pos]
  rw [Array.all_eq_true_iff_forall_mem]
  intro c hc
  have := h c (by simpa using hc)
  exact decide_eq_true (by omega)
theorem split_M {mk l : List Nat} (hm : 1 ≤ mk.length) (ha : ∀ c ∈ mk, c < 128) : Txt.split ⟨l.toArray⟩ ⟨mk.toArray⟩ = (spM mk 0 l).map fun u => ({ cps := u.toArray } : Str) := by
  have hk := kind_ascii ha
  have hj : joinY mk (spM mk 0 l) = l := by
    have := join_spM hm l 0 (Nat.zero_le _)
    simpa using this
  have hlx := str_len l
  have hly := str_len mk
  have hne := spM_ne mk l 0
  have hocc : occurrences ⟨l.toArray⟩ ⟨mk.toArray⟩ 0 (({ cps := l.toArray } : Str)).length ((({ cps := l.toArray } : Str)).length + 1) = cutsOf mk.length 0 (spM mk 0 l) := by
    rw [occ_eq, hlx]
    have := occ_loop hm l (l.length + 1) (Nat.lt_succ_self _) l 0 #[] 0 rfl (Nat.zero_le _) (Nat.zero_le _)
    show (forIn (List.range' 0 (l.length + 1 - 0)) (#[], 0) (occBody ⟨l.toArray⟩ ⟨mk.toArray⟩ l.length (l.length + 1))).run.fst.toList = _
    rw [Nat.sub_zero, this, cm_cuts hm l (0 - 0) 0 (Nat.zero_le _)]
    simp
  have hch : ∀ c ∈ cutsOf mk.length 0 (spM mk 0 l), c + mk.length ≤ l.length := fun c hc => by
    have h := (cut_hits (y := mk) (spM mk 0 l) 0 c hc).2.2
    rw [hj] at h
    simpa using h
  have hparts := parts_of (x := l) (y := mk) (spM mk 0 l) 0 hne (by rw [hj]; rfl)
  have one : cutsOf mk.length 0 (spM mk 0 l) = [] → (spM mk 0 l).map (fun u => ({ cps := u.toArray } : Str)) = [⟨l.toArray⟩] := fun e => by
    match h : spM mk 0 l, hne, e with
    | [u], _, _ =>
      rw [h] at hj
      have : u = l := hj
      rw [this]; rfl
    | _ :: _ :: _, _, e => cases e
  unfold Txt.split
  rw [hocc]
  split
  · next h =>
    refine (one ?_).symm
    have hk2 : ¬ PySem.Builtin.Str.strKind ⟨l.toArray⟩ < PySem.Builtin.Str.strKind ⟨mk.toArray⟩ := by
      rw [hk]; unfold PySem.Builtin.Str.strKind; split <;> (try split) <;> decide
    rw [Bool.or_eq_true, decide_eq_true_iff, decide_eq_true_iff, hlx, hly] at h
    rcases h with h | h
    · cases hq : cutsOf mk.length 0 (spM mk 0 l) with
      | nil => rfl
      | cons c r =>
        have := hch c (by rw [hq]; exact .head _)
        omega
    · exact absurd h hk2
  · split
    · next h => exact (one (by simpa using h)).symm
    · rw [partsBetween_eq, hly]
      exact hparts
/-- small letters but for the first sign, if a piece begins here -/
def capF (f : Bool) (u : List Nat) : List Nat := if f then capL u else u.map lo1
def capHead (f : Bool) : List (List Nat) → List (List Nat)
  | [] => []
  | u :: us => capF f u :: us.map capL
theorem joinL_Y (y : List Nat) : ∀ us : List (List Nat), joinL y us = joinY y us
  | [] => rfl
  | [_] => rfl
  | u :: v :: r => by simp only [joinL, joinY, joinL_Y y (v :: r)]
theorem bm_spM {mk : List Nat} (hm : 1 ≤ mk.length) : ∀ (l : List Nat) (k : Nat) (f : Bool), k ≤ l.length → bm mk k f l = l.take k ++ joinY mk (capHead f (spM mk k l))
  | [], k, f, h => by
    have : k = 0 := by simpa using h
    subst this
    cases f <;> simp [bm, spM, capHead, capF, capL, joinY]
  | c :: r, k + 1, f, h => by
    simp only [bm, spM, List.take_succ_cons, List.cons_append]
    rw [bm_spM hm r k f (by simpa using h)]
  | c :: r, 0, f, _ => by
    simp only [bm, spM, List.take_zero, List.nil_append]
    split
    · next hit =>
      have hl : mk.length - 1 ≤ r.length := by
        have := congrArg List.length hit
        rw [List.length_take, List.length_cons] at this; omega
      have ih := bm_spM hm r (mk.length - 1) true hl
      have e : mk = c :: r.take (mk.length - 1) := by
        conv => lhs; rw [← hit]
        obtain ⟨n, hn⟩ : ∃ n, mk.length = n + 1 := ⟨mk.length - 1, by omega⟩
        rw [hn]; rfl
      have e2 : capHead f ([] :: spM mk (mk.length - 1) r) = [] :: capHead true (spM mk (mk.length - 1) r) := by
        cases hs : spM mk (mk.length - 1) r with
        | nil => exact absurd hs (spM_ne mk r _)
        | cons u us => cases f <;> simp [capHead, capF, capL]
      have hne : capHead true (spM mk (mk.length - 1) r) ≠ [] := by
        cases hs : spM mk (mk.length - 1) r with
        | nil => exact absurd hs (spM_ne mk r _)
        | cons u us => simp [capHead]
      rw [ih, e2, joinY_nil_cons mk hne]
      rw [show mk ++ joinY mk (capHead true (spM mk (mk.length - 1) r)) = (c :: r.take (mk.length - 1)) ++ joinY mk (capHead true (spM mk (mk.length - 1) r)) from by rw [← e]]
      rfl
    · have ih := bm_spM hm r 0 false (Nat.zero_le _)
      rw [List.take_zero, List.nil_append] at ih
      rw [ih]
      have e2 : capHead f (consHead c (spM mk 0 r)) = consHead (if f then up1 c else lo1 c) (capHead false (spM mk 0 r)) := by
        cases hs : spM mk 0 r with
        | nil => exact absurd hs (spM_ne mk r _)
        | cons u us => cases f <;> simp [capHead, capF, capL, consHead]
      have hne : capHead false (spM mk 0 r) ≠ [] := by
        cases hs : spM mk 0 r with
        | nil => exact absurd hs (spM_ne mk r _)
        | cons u us => simp [capHead]
      rw [e2, joinY_consHead mk _ hne]
theorem spM_small {mk : List Nat} : ∀ (l : List Nat) (k : Nat), (∀ c ∈ l, c < 128) → ∀ u ∈ spM mk k l, ∀ c ∈ u, c < 128
  | [], k, _, u, hu, c, hc => by
    have : u = [] := by cases k <;> simpa [spM] using hu
    subst this; cases hc
  | d :: r, k + 1, h, u, hu, c, hc => by
    simp only [spM] at hu
    exact spM_small r k (fun x hx => h x (.tail _ hx)) u hu c hc
  | d :: r, 0, h, u, hu, c, hc => by
    have hr : ∀ x ∈ r, x < 128 := fun x hx => h x (.tail _ hx)
    simp only [spM] at hu
    split at hu
    · rcases List.mem_cons.mp hu with rfl | hu
      · cases hc
      · exact spM_small r _ hr u hu c hc
    · cases hs : spM mk 0 r with
      | nil => exact absurd hs (spM_ne mk r _)
      | cons v vs =>
        rw [hs, consHead] at hu
        rcases List.mem_cons.mp hu with rfl | hu
        · rcases List.mem_cons.mp hc with rfl | hc
          · exact h _ (.head _)
          · exact spM_small r 0 hr v (by rw [hs]; exact .head _) c hc
        · exact spM_small r 0 hr u (by rw [hs]; exact .tail _ hu) c hc
/-- capwords with a marker, on lists of signs -/
theorem capwords_mark {mk l : List Nat} (hm : 1 ≤ mk.length) (ha : ∀ c ∈ mk, c < 128) (hl : ∀ c ∈ l, c < 128) :
    Txt.join ⟨mk.toArray⟩ ((Txt.split ⟨l.toArray⟩ ⟨mk.toArray⟩).map Txt.capitalize) = ⟨(byMark mk l).toArray⟩ := by
  rw [split_M hm ha]
  have e2 : ((spM mk 0 l).map fun u => ({ cps := u.toArray } : Str)).map Txt.capitalize = ((spM mk 0 l).map capL).map strL := by
    rw [List.map_map, List.map_map]
    exact List.map_congr_left fun w hw => capitalize_strL (spM_small l 0 hl w hw)
  rw [e2]
  have e3 := join_strL mk ((spM mk 0 l).map capL)
  have e4 : joinL mk ((spM mk 0 l).map capL) = byMark mk l := by
    unfold byMark
    rw [bm_spM hm l 0 true (Nat.zero_le _), List.take_zero, List.nil_append, joinL_Y]
    cases hs : spM mk 0 l with
    | nil => exact absurd hs (spM_ne mk l _)
    | cons u us => simp [capHead, capF]
  rw [e4] at e3
  exact e3
end Mine
namespace Mine
def sp (z : Nat) (l : List Nat) : List (List Nat) := spM [z] 0 l
theorem sp_nil (z : Nat) : sp z [] = [[]] := rfl
theorem sp_hit (z : Nat) (r : List Nat) : sp z (z :: r) = [] :: sp z r := by
  unfold sp
  conv => lhs; unfold spM
  rw [if_pos (by simp)]
  rfl
theorem sp_miss {z c : Nat} (h : c ≠ z) (r : List Nat) : sp z (c :: r) = consHead c (sp z r) := by
  unfold sp
  conv => lhs; unfold spM
  rw [if_neg (by simpa using h)]
theorem sp_ne (z : Nat) (l : List Nat) : sp z l ≠ [] := spM_ne [z] l 0
def wtail : List (List Nat) → List Nat
  | [] => []
  | [u] => [46, 42] ++ runOf u
  | u :: v :: r => (if u = [] then [] else [40, 63, 62, 46, 42, 63] ++ runOf u ++ [41]) ++ wtail (v :: r)
def wbody : List (List Nat) → List Nat
  | [] => []
  | u :: us => runOf u ++ wtail us
def writing (l : List Nat) : List Nat := [40, 63, 115, 58] ++ wbody (sp 42 l) ++ [41, 92, 90]
def prep (acc : List Nat) : List (List Nat) → List (List Nat)
  | [] => [acc]
  | u :: us => (acc ++ u) :: us
theorem prep_hit (acc : List Nat) (us : List (List Nat)) : prep acc ([] :: us) = acc :: us := by simp [prep]
theorem prep_miss (acc : List Nat) (c : Nat) {us : List (List Nat)} (h : us ≠ []) : prep acc (consHead c us) = prep (acc ++ [c]) us := by
  cases us with
  | nil => exact absurd rfl h
  | cons u us => simp [prep, consHead]
theorem prep_nil {us : List (List Nat)} (h : us ≠ []) : prep [] us = us := by
  cases us with
  | nil => exact absurd rfl h
  | cons u us => simp [prep]
theorem esc_run : ∀ c : Nat, c < 128 → c ≠ 91 → c ≠ 42 → (if c = 63 then [46] else esc c) = runSign c := by
  have key : ∀ c : Fin 128, c.val ≠ 91 → c.val ≠ 42 → (if c.val = 63 then [46] else esc c.val) = runSign c.val := by decide
  exact fun c h => key ⟨c, h⟩
theorem wtail_cons {u : List Nat} {us : List (List Nat)} (h : us ≠ []) : wtail (u :: us) = (if u = [] then [] else [40, 63, 62, 46, 42, 63] ++ runOf u ++ [41]) ++ wtail us := by
  cases us with
  | nil => exact absurd rfl h
  | cons v r => rfl
theorem joinG_run : ∀ (l acc : List Nat), (∀ c ∈ l, c < 128 ∧ c ≠ 91) → joinG (runOf acc) (trRec (decide (acc = [])) l) = wtail (prep acc (sp 42 l))
  | [], acc, _ => by simp [trRec, joinG, sp_nil, prep, wtail]
  | c :: l, acc, h => by
    have hc := h c (.head _)
    have hl : ∀ d ∈ l, d < 128 ∧ d ≠ 91 := fun d hd => h d (.tail _ hd)
    have ih := joinG_run l [] hl
    rw [decide_eq_true rfl, prep_nil (sp_ne 42 l)] at ih
    have e0 : runOf [] = [] := rfl
    rw [e0] at ih
    by_cases h42 : c = 42
    · subst h42
      rw [sp_hit, prep_hit, wtail_cons (sp_ne 42 l)]
      by_cases ha : acc = []
      · subst ha
        rw [decide_eq_true rfl, if_pos rfl, e0]
        simp only [trRec, if_true, List.nil_append]
        exact ih
      · rw [decide_eq_false ha, if_neg ha]
        simp only [trRec, if_true, Bool.false_eq_true, if_false, joinG]
        rw [ih]
    · rw [sp_miss h42, prep_miss acc c (sp_ne 42 l)]
      have ih2 := joinG_run l (acc ++ [c]) hl
      rw [decide_eq_false (by simp), runOf_snoc] at ih2
      simp only [trRec, if_neg h42, joinG]
      rw [esc_run c hc.1 hc.2 h42]
      exact ih2
theorem joinF_run : ∀ (l : List Nat), (∀ c ∈ l, c < 128 ∧ c ≠ 91) → joinF (trRec false l) = wbody (sp 42 l)
  | [], _ => by simp [trRec, joinF, sp_nil, wbody, wtail, runOf]
  | c :: l, h => by
    have hc := h c (.head _)
    have hl : ∀ d ∈ l, d < 128 ∧ d ≠ 91 := fun d hd => h d (.tail _ hd)
    by_cases h42 : c = 42
    · subst h42
      have ih := joinG_run l [] hl
      rw [decide_eq_true rfl, prep_nil (sp_ne 42 l)] at ih
      rw [sp_hit]
      simp only [trRec, if_true, Bool.false_eq_true, if_false, joinF, wbody]
      exact ih
    · have ih := joinF_run l hl
      rw [sp_miss h42]
      simp only [trRec, if_neg h42, joinF]
      rw [ih, esc_run c hc.1 hc.2 h42]
      cases hs : sp 42 l with
      | nil => exact absurd hs (sp_ne 42 l)
      | cons u us =>
        have e : runOf (c :: u) = runSign c ++ runOf u := by unfold runOf; simp
        simp only [consHead, wbody, e, List.append_assoc]
theorem trText_writing {l : List Nat} (h : ∀ c ∈ l, c < 128 ∧ c ≠ 91) : trText l = writing l := by
  unfold trText writing
  rw [trParts_eq, joinF_run l h]
end Mine
namespace Mine
def markS : List Nat := [97, 95, 49, 61, 98]
structure MarkOk (mk : List Nat) : Prop where
  ne : mk ≠ []
  ok : ∀ c ∈ mk, c ∈ markS
theorem mark_plain {c : Nat} (h : c ∈ markS) : runSign c = [c] ∧ c ≠ 42 ∧ c ≠ 46 ∧ c ≠ 92 ∧ c ≠ 40 ∧ c ≠ 41 ∧ c ≠ 63 ∧ c ≠ 62 ∧ c ≠ 58 ∧ c ≠ 115 ∧ c ≠ 90 ∧ c < 128 ∧ c ∉ specialR := by
  simp only [markS, List.mem_cons, List.not_mem_nil, or_false] at h
  rcases h with rfl | rfl | rfl | rfl | rfl <;> decide
theorem MarkOk.pos {mk : List Nat} (h : MarkOk mk) : 1 ≤ mk.length := by cases mk with | nil => exact absurd rfl h.ne | cons => simp
/-- a sign outside the marker begins no find -/
theorem MarkOk.miss {mk : List Nat} (h : MarkOk mk) {c : Nat} (hc : c ∉ markS) (r : List Nat) : ¬ (c :: r).take mk.length = mk := by
  intro e
  obtain ⟨n, hn⟩ : ∃ n, mk.length = n + 1 := ⟨mk.length - 1, by have := h.pos; omega⟩
  rw [hn, List.take_succ_cons] at e
  exact hc (h.ok c (by rw [← e]; exact .head _))
theorem bm_pass {mk : List Nat} (h : MarkOk mk) {f : Bool} {c : Nat} (hc : c ∉ markS) (hu : up1 c = c) (hl : lo1 c = c) (r : List Nat) : bm mk 0 f (c :: r) = c :: bm mk 0 false r := by
  rw [bm_miss (h.miss hc r), hu, hl]
  cases f <;> rfl
theorem runOf_cons (c : Nat) (l : List Nat) : runOf (c :: l) = runSign c ++ runOf l := by unfold runOf; simp
theorem runOf_app (a b : List Nat) : runOf (a ++ b) = runOf a ++ runOf b := by unfold runOf; simp
theorem runOf_plain : ∀ {a : List Nat}, (∀ c ∈ a, runSign c = [c]) → runOf a = a
  | [], _ => rfl
  | c :: a, h => by rw [runOf_cons, h c (.head _), runOf_plain fun d hd => h d (.tail _ hd)]; rfl
theorem take_back {t : Nat} {tail : List Nat} (ht : t ∉ markS) : ∀ (r w : List Nat), (∀ c ∈ w, c ∈ markS) → (runOf r ++ t :: tail).take w.length = w → r.take w.length = w
  | _, [], _, _ => by simp
  | [], a :: w, h, e => by
    simp only [runOf, List.map_nil, List.flatten_nil, List.nil_append, List.length_cons, List.take_succ_cons, List.cons.injEq] at e
    exact absurd (h a (.head _)) (by rw [← e.1]; exact ht)
  | d :: r, a :: w, h, e => by
    have ha := mark_plain (h a (.head _))
    rw [runOf_cons] at e
    unfold runSign at e
    split at e
    · simp only [List.cons_append, List.nil_append, List.length_cons, List.take_succ_cons, List.cons.injEq] at e
      exact absurd e.1.symm ha.2.2.1
    · split at e
      · simp only [List.cons_append, List.nil_append, List.length_cons, List.take_succ_cons, List.cons.injEq] at e
        exact absurd e.1.symm ha.2.2.2.1
      · simp only [List.cons_append, List.nil_append, List.length_cons, List.take_succ_cons, List.cons.injEq] at e
        obtain ⟨rfl, e⟩ := e
        rw [List.length_cons, List.take_succ_cons, take_back ht r w (fun c hc => h c (.tail _ hc)) e]
theorem case_plain : ∀ c : Nat, c < 128 → runSign c = [c] → runSign (up1 c) = [up1 c] ∧ runSign (lo1 c) = [lo1 c] := by
  have key : ∀ c : Fin 128, runSign c.val = [c.val] → runSign (up1 c.val) = [up1 c.val] ∧ runSign (lo1 c.val) = [lo1 c.val] := by decide
  exact fun c h => key ⟨c, h⟩
theorem case_special : ∀ c ∈ specialR, up1 c = c ∧ lo1 c = c ∧ c ∉ markS ∧ runSign c = [92, c] := by decide
theorem runSign_cases (c : Nat) : (c = 63 ∧ runSign c = [46]) ∨ (c ∈ specialR ∧ runSign c = [92, c]) ∨ (c ≠ 63 ∧ c ∉ specialR ∧ runSign c = [c]) := by
  unfold runSign
  by_cases h : c = 63
  · rw [if_pos h]; exact .inl ⟨h, rfl⟩
  · rw [if_neg h]
    by_cases h2 : c ∈ specialR
    · rw [if_pos h2]; exact .inr (.inl ⟨h2, rfl⟩)
    · rw [if_neg h2]; exact .inr (.inr ⟨h, h2, rfl⟩)
/-- a sign behind a run: neither in a marker nor a letter -/
def Stop (t : Nat) : Prop := t = 40 ∨ t = 41 ∨ t = 46
theorem Stop.facts {t : Nat} (h : Stop t) : t ∉ markS ∧ up1 t = t ∧ lo1 t = t ∧ white1 t = false := by
  rcases h with rfl | rfl | rfl <;> decide
theorem bm_run {mk : List Nat} (h : MarkOk mk) {t : Nat} (ht : Stop t) (tail : List Nat) : ∀ (n : Nat) (r : List Nat) (f : Bool), r.length ≤ n → (∀ c ∈ r, c < 128) → bm mk 0 f (runOf r ++ t :: tail) = runOf (bm mk 0 f r) ++ t :: bm mk 0 false tail := by
  obtain ⟨t1, t2, t3, _⟩ := ht.facts
  intro n
  induction n with
  | zero =>
    intro r f hr _
    have : r = [] := List.length_eq_zero_iff.mp (by omega)
    subst this
    show bm mk 0 f (t :: tail) = runOf (bm mk 0 f []) ++ _
    rw [bm_pass h t1 t2 t3]
    cases f <;> rfl
  | succ n ih =>
    intro r f hr ha
    cases r with
    | nil =>
      show bm mk 0 f (t :: tail) = runOf (bm mk 0 f []) ++ _
      rw [bm_pass h t1 t2 t3]
      cases f <;> rfl
    | cons c r =>
      have hca := ha c (.head _)
      have hra : ∀ d ∈ r, d < 128 := fun d hd => ha d (.tail _ hd)
      simp only [List.length_cons] at hr
      by_cases hit : (c :: r).take mk.length = mk
      · obtain ⟨r2, hr2⟩ : ∃ r2, c :: r = mk ++ r2 := ⟨(c :: r).drop mk.length, by
          have h9 := List.take_append_drop mk.length (c :: r)
          rw [hit] at h9
          exact h9.symm⟩
        have hmp : runOf mk = mk := runOf_plain fun d hd => (mark_plain (h.ok d hd)).1
        have hl2 : r2.length ≤ n := by
          have := congrArg List.length hr2
          rw [List.length_append, List.length_cons] at this
          have := h.pos
          omega
        have ha2 : ∀ d ∈ r2, d < 128 := fun d hd => ha d (by rw [hr2]; exact List.mem_append_right _ hd)
        rw [hr2, runOf_app, hmp, List.append_assoc]
        have b1 := bm_hit (f := f) (l := mk ++ (runOf r2 ++ t :: tail)) h.ne (by simp)
        have b2 := bm_hit (f := f) (l := mk ++ r2) h.ne (by simp)
        rw [List.drop_left] at b1 b2
        rw [b1, b2, runOf_app, hmp, ih r2 true hl2 ha2, List.append_assoc]
      · have hmf : bm mk 0 f (c :: r) = (if f then up1 c else lo1 c) :: bm mk 0 false r := bm_miss hit
        rw [hmf, runOf_cons, runOf_cons]
        rcases runSign_cases c with ⟨rfl, e⟩ | ⟨hs, e⟩ | ⟨h63, hs, e⟩
        · have e2 : (if f = true then up1 63 else lo1 63) = 63 := by cases f <;> decide
          rw [e2, e]
          simp only [List.cons_append, List.nil_append]
          rw [bm_pass h (by decide) (by decide) (by decide), ih r false (by omega) hra]
        · obtain ⟨s1, s2, s3, s4⟩ := case_special c hs
          have e2 : (if f = true then up1 c else lo1 c) = c := by cases f <;> simp [s1, s2]
          rw [e2, e]
          simp only [List.cons_append, List.nil_append]
          rw [bm_pass h (by decide) (by decide) (by decide), bm_pass h s3 s1 s2, ih r false (by omega) hra]
        · rw [e]
          have hmiss : ¬ (c :: (runOf r ++ t :: tail)).take mk.length = mk := by
            intro hh
            obtain ⟨a, w, rfl⟩ : ∃ a w, mk = a :: w := by cases mk with | nil => exact absurd rfl h.ne | cons a w => exact ⟨a, w, rfl⟩
            simp only [List.length_cons, List.take_succ_cons, List.cons.injEq] at hh hit
            exact hit ⟨hh.1, take_back t1 r w (fun d hd => h.ok d (.tail _ hd)) hh.2⟩
          simp only [List.cons_append, List.nil_append]
          rw [bm_miss hmiss, ih r false (by omega) hra]
          have e2 : runSign (if f = true then up1 c else lo1 c) = [if f = true then up1 c else lo1 c] := by
            cases f
            · exact (case_plain c hca e).2
            · exact (case_plain c hca e).1
          rw [e2]
          rfl
theorem wtail_stop : ∀ us : List (List Nat), ∃ t X, wtail us ++ [41, 92, 90] = t :: X ∧ Stop t
  | [] => ⟨41, [92, 90], rfl, .inr (.inl rfl)⟩
  | [u] => ⟨46, _, rfl, .inr (.inr rfl)⟩
  | u :: v :: r => by
    by_cases hu : u = []
    · obtain ⟨t, X, h1, h2⟩ := wtail_stop (v :: r)
      exact ⟨t, X, by rw [wtail, if_pos hu]; exact h1, h2⟩
    · exact ⟨40, _, by rw [wtail, if_neg hu]; rfl, .inl rfl⟩
theorem bm_nil {mk : List Nat} {f : Bool} : bm mk 0 f [] = [] := by cases f <;> rfl
theorem bm_eq_nil {mk : List Nat} {f : Bool} {u : List Nat} : bm mk 0 f u = [] ↔ u = [] := by
  constructor
  · intro h
    have := bm_length mk u 0 f
    rw [h] at this
    exact List.length_eq_zero_iff.mp this.symm
  · rintro rfl; exact bm_nil
theorem bm_runs {mk : List Nat} (h : MarkOk mk) (u : List Nat) (us : List (List Nat)) (f : Bool) (hu : ∀ c ∈ u, c < 128) :
    bm mk 0 f (runOf u ++ (wtail us ++ [41, 92, 90])) = runOf (bm mk 0 f u) ++ bm mk 0 false (wtail us ++ [41, 92, 90]) := by
  obtain ⟨t, X, e, ht⟩ := wtail_stop us
  obtain ⟨t1, t2, t3, _⟩ := ht.facts
  rw [e, bm_run h ht X u.length u f (Nat.le_refl _) hu, bm_pass h t1 t2 t3]
theorem bm_wtail {mk : List Nat} (h : MarkOk mk) : ∀ us : List (List Nat), (∀ u ∈ us, ∀ c ∈ u, c < 128) → bm mk 0 false (wtail us ++ [41, 92, 90]) = wtail (us.map (bm mk 0 false)) ++ [41, 92, 122]
  | [], _ => by
    show bm mk 0 false [41, 92, 90] = _
    rw [bm_pass h (by decide) (by decide) (by decide), bm_pass h (by decide) (by decide) (by decide), bm_miss (h.miss (by decide) _), bm_nil]
    rfl
  | [u], hu => by
    show bm mk 0 false ([46, 42] ++ runOf u ++ 41 :: [92, 90]) = [46, 42] ++ runOf (bm mk 0 false u) ++ [41, 92, 122]
    simp only [List.cons_append, List.nil_append]
    rw [bm_pass h (by decide) (by decide) (by decide), bm_pass h (by decide) (by decide) (by decide), bm_run h (.inr (.inl rfl)) [92, 90] u.length u false (Nat.le_refl _) (hu u (.head _)),
      bm_pass h (by decide) (by decide) (by decide), bm_miss (h.miss (by decide) _), bm_nil]
    rfl
  | u :: v :: r, hu => by
    have ih := bm_wtail h (v :: r) fun w hw => hu w (.tail _ hw)
    have e1 : wtail (u :: v :: r) = (if u = [] then [] else [40, 63, 62, 46, 42, 63] ++ runOf u ++ [41]) ++ wtail (v :: r) := rfl
    have e2 : wtail ((u :: v :: r).map (bm mk 0 false)) = (if bm mk 0 false u = [] then [] else [40, 63, 62, 46, 42, 63] ++ runOf (bm mk 0 false u) ++ [41]) ++ wtail ((v :: r).map (bm mk 0 false)) := rfl
    rw [e1, e2]
    by_cases hu0 : u = []
    · rw [if_pos hu0, if_pos (bm_eq_nil.mpr hu0)]
      exact ih
    · rw [if_neg hu0, if_neg fun hh => hu0 (bm_eq_nil.mp hh)]
      simp only [List.append_assoc, List.cons_append, List.nil_append] at ih ⊢
      rw [bm_pass h (by decide) (by decide) (by decide), bm_pass h (by decide) (by decide) (by decide), bm_pass h (by decide) (by decide) (by decide), bm_pass h (by decide) (by decide) (by decide), bm_pass h (by decide) (by decide) (by decide), bm_pass h (by decide) (by decide) (by decide),
        bm_run h (.inr (.inl rfl)) _ u.length u false (Nat.le_refl _) (hu u (.head _)), ih]
end Mine
namespace Mine
theorem sp_prefix (z : Nat) : ∀ {l u : List Nat} {us : List (List Nat)}, sp z l = u :: us → ∃ rest, l = u ++ rest
  | [], u, us, h => by rw [sp_nil] at h; injection h with h1 h2; subst h1; exact ⟨[], rfl⟩
  | c :: r, u, us, h => by
    by_cases hc : c = z
    · subst hc
      rw [sp_hit] at h
      injection h with h1 h2; subst h1; exact ⟨_, rfl⟩
    · rw [sp_miss hc] at h
      cases hs : sp z r with
      | nil => exact absurd hs (sp_ne z r)
      | cons v vs =>
        rw [hs, consHead] at h
        injection h with h1 h2
        obtain ⟨rest, e⟩ := sp_prefix z hs
        exact ⟨rest, by rw [← h1, e]; rfl⟩
theorem sp_app {z : Nat} : ∀ (a : List Nat) (l : List Nat), (∀ c ∈ a, c ≠ z) → sp z (a ++ l) = prep a (sp z l)
  | [], l, _ => by rw [List.nil_append, prep_nil (sp_ne z l)]
  | c :: a, l, h => by
    rw [List.cons_append, sp_miss (h c (.head _)), sp_app a l fun d hd => h d (.tail _ hd)]
    cases hs : sp z l with
    | nil => exact absurd hs (sp_ne z l)
    | cons u us => rfl
def mapRuns (g h : List Nat → List Nat) : List (List Nat) → List (List Nat)
  | [] => []
  | u :: us => g u :: us.map h
theorem case_ne42 : ∀ c : Nat, c ≠ 42 → up1 c ≠ 42 ∧ lo1 c ≠ 42 := by
  intro c hc
  unfold up1 lo1
  constructor
  · split <;> omega
  · split <;> omega
theorem sp_bm {mk : List Nat} (h : MarkOk mk) : ∀ (n : Nat) (l : List Nat) (f : Bool), l.length ≤ n → sp 42 (bm mk 0 f l) = mapRuns (bm mk 0 f) (bm mk 0 false) (sp 42 l) := by
  intro n
  induction n with
  | zero =>
    intro l f hl
    have : l = [] := List.length_eq_zero_iff.mp (by omega)
    subst this
    rw [bm_nil, sp_nil]; simp [mapRuns, bm_nil]
  | succ n ih =>
    intro l f hl
    cases l with
    | nil => rw [bm_nil, sp_nil]; simp [mapRuns, bm_nil]
    | cons c r =>
      simp only [List.length_cons] at hl
      by_cases hit : (c :: r).take mk.length = mk
      · obtain ⟨r2, hr2⟩ : ∃ r2, c :: r = mk ++ r2 := ⟨(c :: r).drop mk.length, by
          have h9 := List.take_append_drop mk.length (c :: r)
          rw [hit] at h9
          exact h9.symm⟩
        have hl2 : r2.length ≤ n := by
          have := congrArg List.length hr2
          rw [List.length_append, List.length_cons] at this
          have := h.pos
          omega
        have h42 : ∀ d ∈ mk, d ≠ 42 := fun d hd => (mark_plain (h.ok d hd)).2.1
        rw [hr2]
        have b1 := bm_hit (f := f) (l := mk ++ r2) h.ne (by simp)
        rw [List.drop_left] at b1
        rw [b1, sp_app mk _ h42, sp_app mk _ h42, ih r2 true hl2]
        cases hs : sp 42 r2 with
        | nil => exact absurd hs (sp_ne 42 r2)
        | cons u us =>
          have b2 := bm_hit (f := f) (l := mk ++ u) h.ne (by simp)
          rw [List.drop_left] at b2
          simp only [mapRuns, prep, b2]
      · rw [bm_miss hit]
        by_cases hc : c = 42
        · subst hc
          have e : (if f = true then up1 42 else lo1 42) = 42 := by cases f <;> decide
          rw [e, sp_hit, sp_hit, ih r false (by omega)]
          cases hs : sp 42 r with
          | nil => exact absurd hs (sp_ne 42 r)
          | cons u us => simp [mapRuns, bm_nil]
        · have hc' : (if f = true then up1 c else lo1 c) ≠ 42 := by
            cases f
            · exact (case_ne42 c hc).2
            · exact (case_ne42 c hc).1
          rw [sp_miss hc', sp_miss hc, ih r false (by omega)]
          cases hs : sp 42 r with
          | nil => exact absurd hs (sp_ne 42 r)
          | cons u us =>
            obtain ⟨rest, e⟩ := sp_prefix 42 hs
            have hmiss : ¬ (c :: u).take mk.length = mk := by
              intro hh
              refine hit ?_
              have hlen := congrArg List.length hh
              rw [List.length_take] at hlen
              rw [e, show c :: (u ++ rest) = (c :: u) ++ rest from rfl, List.take_append_of_le_length (by omega)]
              exact hh
            simp only [mapRuns, consHead, bm_miss hmiss]
theorem writing_z (runs : List (List Nat)) : ([40, 63, 115, 58] ++ wbody runs ++ [41, 92, 90]).dropLast ++ [122] = [40, 63, 115, 58] ++ wbody runs ++ [41, 92, 122] := by
  have e : [40, 63, 115, 58] ++ wbody runs ++ [41, 92, 90] = ([40, 63, 115, 58] ++ wbody runs ++ [41, 92]) ++ [90] := by simp
  rw [e, List.dropLast_concat]
  simp
theorem sp_small {z : Nat} {l : List Nat} (h : ∀ c ∈ l, c < 128) : ∀ u ∈ sp z l, ∀ c ∈ u, c < 128 := spM_small l 0 h
/-- capwords by the mark of what translate writes -/
theorem mark_writing {mk pat : List Nat} (h : MarkOk mk) (hp : ∀ c ∈ mk ++ pat, c < 128) :
    byMark mk (writing (mk ++ pat)) = (writing (byMark mk (mk ++ pat))).dropLast ++ [122] := by
  have h42 : ∀ d ∈ mk, d ≠ 42 := fun d hd => (mark_plain (h.ok d hd)).2.1
  have hsm := sp_small (z := 42) hp
  unfold writing
  rw [writing_z]
  unfold byMark
  rw [sp_bm h _ _ true (Nat.le_refl _)]
  rw [sp_app mk pat h42] at hsm ⊢
  cases hs : sp 42 pat with
  | nil => exact absurd hs (sp_ne 42 pat)
  | cons u us =>
    rw [hs] at hsm
    simp only [prep] at hsm ⊢
    simp only [mapRuns, wbody]
    have hb : bm mk 0 false (mk ++ u) = bm mk 0 true (mk ++ u) := by
      have b1 := bm_hit (f := false) (l := mk ++ u) h.ne (by simp)
      have b2 := bm_hit (f := true) (l := mk ++ u) h.ne (by simp)
      rw [b1, b2]
    have k1 := bm_runs h (mk ++ u) us false (hsm _ (.head _))
    rw [bm_wtail h us fun w hw => hsm w (.tail _ hw), hb] at k1
    simp only [List.append_assoc, List.cons_append, List.nil_append] at k1 ⊢
    rw [bm_pass h (by decide) (by decide) (by decide), bm_pass h (by decide) (by decide) (by decide), bm_miss (h.miss (by decide) _), bm_pass h (by decide) (by decide) (by decide), k1]
    rfl
end Mine
namespace Mine
/-- by white signs: a blank for each, great behind it -/
def bwf : Bool → List Nat → List Nat
  | _, [] => []
  | f, c :: r => if c ∈ whiteL then 32 :: bwf true r else (if f then up1 c else lo1 c) :: bwf false r
theorem bwf_fold : ∀ (l out : List Nat) (f : Bool), (l.foldl bwStep (out, f)).1 = out ++ bwf f l
  | [], out, f => by cases f <;> simp [bwf]
  | c :: l, out, f => by
    rw [List.foldl_cons]
    by_cases hw : c ∈ whiteL
    · have e : bwStep (out, f) c = (out ++ [32], true) := by unfold bwStep; rw [if_pos hw]
      rw [e, bwf_fold l _ _, bwf, if_pos hw]; simp
    · have e : bwStep (out, f) c = (out ++ [if f then up1 c else lo1 c], false) := by unfold bwStep; rw [if_neg hw]
      rw [e, bwf_fold l _ _, bwf, if_neg hw]; simp
theorem byWhite_bwf (l : List Nat) : byWhite l = bwf false l := by
  unfold byWhite; rw [bwf_fold]; rfl
theorem bwf_nil {f : Bool} : bwf f [] = [] := by cases f <;> rfl
theorem bwf_length : ∀ (l : List Nat) (f : Bool), (bwf f l).length = l.length
  | [], f => by rw [bwf_nil]
  | c :: l, f => by
    rw [bwf]
    split <;> simp only [List.length_cons, bwf_length l]
theorem bwf_eq_nil {f : Bool} {u : List Nat} : bwf f u = [] ↔ u = [] := by
  constructor
  · intro h
    have := bwf_length u f
    rw [h] at this
    exact List.length_eq_zero_iff.mp this.symm
  · rintro rfl; exact bwf_nil
theorem sp_bwf : ∀ (l : List Nat) (f : Bool), sp 42 (bwf f l) = mapRuns (bwf f) (bwf false) (sp 42 l)
  | [], f => by rw [bwf_nil, sp_nil]; simp [mapRuns, bwf_nil]
  | c :: r, f => by
    rw [bwf]
    by_cases hw : c ∈ whiteL
    · have hc : c ≠ 42 := by rintro rfl; exact absurd hw (by decide)
      rw [if_pos hw, sp_miss (by decide), sp_miss hc, sp_bwf r true]
      cases hs : sp 42 r with
      | nil => exact absurd hs (sp_ne 42 r)
      | cons u us => simp only [mapRuns, consHead, bwf, if_pos hw]
    · rw [if_neg hw]
      by_cases hc : c = 42
      · subst hc
        have e : (if f = true then up1 42 else lo1 42) = 42 := by cases f <;> decide
        rw [e, sp_hit, sp_hit, sp_bwf r false]
        cases hs : sp 42 r with
        | nil => exact absurd hs (sp_ne 42 r)
        | cons u us => simp [mapRuns, bwf_nil]
      · have hc' : (if f = true then up1 c else lo1 c) ≠ 42 := by
          cases f
          · exact (case_ne42 c hc).2
          · exact (case_ne42 c hc).1
        rw [sp_miss hc', sp_miss hc, sp_bwf r false]
        cases hs : sp 42 r with
        | nil => exact absurd hs (sp_ne 42 r)
        | cons u us => simp only [mapRuns, consHead, bwf, if_neg hw]
/-- capwords behind its first sign, as one pass: a blank is owed -/
def cs : Bool → List Nat → List Nat
  | _, [] => []
  | f, c :: r => if white1 c then cs true r else (if f then [32, up1 c] else [lo1 c]) ++ cs false r
theorem caps_fold : ∀ (l out : List Nat) (f : Bool), out ≠ [] → (l.foldl capsStep (out, f)).1 = out ++ cs f l
  | [], out, f, _ => by cases f <;> simp [cs]
  | c :: l, out, f, h => by
    rw [List.foldl_cons]
    cases hw : white1 c with
    | true =>
      have e : capsStep (out, f) c = (out, true) := by unfold capsStep; rw [if_pos hw]
      rw [e, caps_fold l _ _ h, cs, if_pos hw]
    | false =>
      have e : capsStep (out, f) c = (out ++ (if f then [32, up1 c] else [lo1 c]), false) := by
        unfold capsStep; rw [if_neg (by rw [hw]; simp)]
        cases f <;> simp [h]
      rw [e, caps_fold l _ _ (by cases f <;> simp), cs, if_neg (show ¬ white1 c = true by rw [hw]; simp)]
      simp
theorem caps_cons {c : Nat} (h : white1 c = false) (r : List Nat) : caps (c :: r) = up1 c :: cs false r := by
  unfold caps
  rw [List.foldl_cons]
  have e : capsStep ([], true) c = ([up1 c], false) := by
    unfold capsStep; rw [if_neg (by rw [h]; simp)]; simp
  rw [e]
  exact caps_fold r _ _ (by simp)
def owed (f : Bool) : List Nat := if f then [32] else []
theorem cs_pass {f : Bool} {c : Nat} (hw : white1 c = false) (hu : up1 c = c) (hl : lo1 c = c) (r : List Nat) : cs f (c :: r) = owed f ++ c :: cs false r := by
  rw [cs, if_neg (by rw [hw]; simp)]
  cases f <;> simp [owed, hu, hl]
/-- signs of the law's patterns -/
def Sign (c : Nat) : Prop := c < 128 ∧ ¬ (28 ≤ c ∧ c ≤ 31)
theorem white_sign {c : Nat} (h : Sign c) : white1 c = true ↔ c ∈ whiteL := by
  have key : ∀ c : Fin 128, ¬ (28 ≤ c.val ∧ c.val ≤ 31) → (white1 c.val = true ↔ c.val ∈ whiteL) := by decide
  exact key ⟨c, h.1⟩ h.2
theorem white_special : ∀ c ∈ whiteL, c ∈ specialR ∧ c ≠ 63 := by decide
theorem cs_run {t : Nat} (ht : Stop t) (tail : List Nat) : ∀ (r : List Nat) (f : Bool), (∀ c ∈ r, Sign c) → cs f (runOf r ++ t :: tail) = owed f ++ runOf (bwf f r) ++ t :: cs false tail
  | [], f, _ => by
    obtain ⟨_, t2, t3, t4⟩ := ht.facts
    rw [bwf_nil]
    show cs f (t :: tail) = _
    rw [cs_pass t4 t2 t3]
    simp [runOf]
  | c :: r, f, h => by
    have hc := h c (.head _)
    have hr : ∀ d ∈ r, Sign d := fun d hd => h d (.tail _ hd)
    rw [runOf_cons, bwf]
    by_cases hw : c ∈ whiteL
    · obtain ⟨s1, s2⟩ := white_special c hw
      obtain ⟨_, _, _, s4⟩ := case_special c s1
      rw [if_pos hw, runOf_cons, s4]
      simp only [List.cons_append, List.nil_append]
      rw [cs_pass (by decide) (by decide) (by decide), cs, if_pos ((white_sign hc).mpr hw), cs_run ht tail r true hr]
      have e : runSign 32 = [92, 32] := by decide
      rw [e]
      simp [owed]
    · have hw1 : white1 c = false := by
        cases hh : white1 c with
        | false => rfl
        | true => exact absurd ((white_sign hc).mp hh) hw
      rw [if_neg hw, runOf_cons]
      rcases runSign_cases c with ⟨rfl, e⟩ | ⟨hs, e⟩ | ⟨h63, hs, e⟩
      · have e2 : (if f = true then up1 63 else lo1 63) = 63 := by cases f <;> decide
        rw [e2, e]
        simp only [List.cons_append, List.nil_append]
        rw [cs_pass (by decide) (by decide) (by decide), cs_run ht tail r false hr]
        simp [owed]
      · obtain ⟨s1, s2, s3, s4⟩ := case_special c hs
        have e2 : (if f = true then up1 c else lo1 c) = c := by cases f <;> simp [s1, s2]
        rw [e2, e]
        simp only [List.cons_append, List.nil_append]
        rw [cs_pass (by decide) (by decide) (by decide), cs_pass hw1 s1 s2, cs_run ht tail r false hr]
        simp [owed]
      · have e2 : runSign (if f = true then up1 c else lo1 c) = [if f = true then up1 c else lo1 c] := by
          cases f
          · exact (case_plain c hc.1 e).2
          · exact (case_plain c hc.1 e).1
        rw [e2, e]
        simp only [List.cons_append, List.nil_append]
        rw [cs, if_neg (by rw [hw1]; simp), cs_run ht tail r false hr]
        cases f <;> simp [owed]
theorem cs_runs (u : List Nat) (us : List (List Nat)) (f : Bool) (hu : ∀ c ∈ u, Sign c) :
    cs f (runOf u ++ (wtail us ++ [41, 92, 90])) = owed f ++ runOf (bwf f u) ++ cs false (wtail us ++ [41, 92, 90]) := by
  obtain ⟨t, X, e, ht⟩ := wtail_stop us
  obtain ⟨t1, t2, t3, t4⟩ := ht.facts
  rw [e, cs_run ht X u f hu, cs_pass t4 t2 t3]
  rfl
theorem cs_step {c : Nat} (hw : white1 c = false) (hl : lo1 c = c) (r : List Nat) : cs false (c :: r) = c :: cs false r := by
  rw [cs, if_neg (by rw [hw]; simp)]
  simp [hl]
theorem cs_end : cs false [92, 90] = [92, 122] := by decide
theorem cs_wtail : ∀ us : List (List Nat), (∀ u ∈ us, ∀ c ∈ u, Sign c) → cs false (wtail us ++ [41, 92, 90]) = wtail (us.map (bwf false)) ++ [41, 92, 122]
  | [], _ => by decide
  | [u], hu => by
    show cs false ([46, 42] ++ runOf u ++ 41 :: [92, 90]) = [46, 42] ++ runOf (bwf false u) ++ [41, 92, 122]
    simp only [List.cons_append, List.nil_append]
    rw [cs_step (by decide) (by decide), cs_step (by decide) (by decide), cs_run (.inr (.inl rfl)) [92, 90] u false (hu u (.head _)), cs_end]
    simp [owed]
  | u :: v :: r, hu => by
    have ih := cs_wtail (v :: r) fun w hw => hu w (.tail _ hw)
    have e1 : wtail (u :: v :: r) = (if u = [] then [] else [40, 63, 62, 46, 42, 63] ++ runOf u ++ [41]) ++ wtail (v :: r) := rfl
    have e2 : wtail ((u :: v :: r).map (bwf false)) = (if bwf false u = [] then [] else [40, 63, 62, 46, 42, 63] ++ runOf (bwf false u) ++ [41]) ++ wtail ((v :: r).map (bwf false)) := rfl
    rw [e1, e2]
    by_cases hu0 : u = []
    · rw [if_pos hu0, if_pos (bwf_eq_nil.mpr hu0)]
      exact ih
    · rw [if_neg hu0, if_neg fun hh => hu0 (bwf_eq_nil.mp hh)]
      simp only [List.append_assoc, List.cons_append, List.nil_append] at ih ⊢
      rw [cs_step (by decide) (by decide), cs_step (by decide) (by decide), cs_step (by decide) (by decide), cs_step (by decide) (by decide), cs_step (by decide) (by decide), cs_step (by decide) (by decide),
        cs_run (.inr (.inl rfl)) _ u false (hu u (.head _)), ih]
      simp [owed]
/-- capwords without a marker of what translate writes -/
theorem white_writing {pat : List Nat} (hp : ∀ c ∈ pat, Sign c) : caps (writing pat) = (writing (byWhite pat)).dropLast ++ [122] := by
  have hsm : ∀ u ∈ sp 42 pat, ∀ c ∈ u, Sign c := by
    have key : ∀ (l : List Nat), (∀ c ∈ l, Sign c) → ∀ u ∈ sp 42 l, ∀ c ∈ u, Sign c := by
      intro l
      induction l with
      | nil => intro _ u hu c hc; rw [sp_nil, List.mem_singleton] at hu; subst hu; cases hc
      | cons d r ih =>
        intro h u hu c hc
        have hr := ih fun x hx => h x (.tail _ hx)
        by_cases hd : d = 42
        · subst hd
          rw [sp_hit] at hu
          rcases List.mem_cons.mp hu with rfl | hu
          · cases hc
          · exact hr u hu c hc
        · rw [sp_miss hd] at hu
          cases hs : sp 42 r with
          | nil => exact absurd hs (sp_ne 42 r)
          | cons v vs =>
            rw [hs, consHead] at hu
            rcases List.mem_cons.mp hu with rfl | hu
            · rcases List.mem_cons.mp hc with rfl | hc
              · exact h _ (.head _)
              · exact hr v (by rw [hs]; exact .head _) c hc
            · exact hr u (by rw [hs]; exact .tail _ hu) c hc
    exact key pat hp
  unfold writing
  rw [writing_z, byWhite_bwf, sp_bwf]
  cases hs : sp 42 pat with
  | nil => exact absurd hs (sp_ne 42 pat)
  | cons u us =>
    rw [hs] at hsm
    simp only [mapRuns, wbody]
    have k1 := cs_runs u us false (hsm u (.head _))
    rw [cs_wtail us fun w hw => hsm w (.tail _ hw)] at k1
    simp only [List.append_assoc, List.cons_append, List.nil_append] at k1 ⊢
    rw [caps_cons (by decide), cs_step (by decide) (by decide), cs_step (by decide) (by decide), cs_step (by decide) (by decide), k1]
    have e40 : up1 40 = 40 := by decide
    rw [e40]
    simp [owed]
end Mine
namespace Mine
def nz (us : List (List Nat)) : List (List Nat) := us.filter fun w => !decide (w = [])
def sq : Bool → Bool → List Nat → List Nat
  | _, _, [] => []
  | st, f, c :: r => if c = 32 then sq st true r else (if f && st then [32, c] else [c]) ++ sq true false r
def tj (us : List (List Nat)) : List Nat := ((nz us).map (32 :: ·)).flatten
theorem joinL_cons (w : List Nat) : ∀ ws : List (List Nat), joinL [32] (w :: ws) = w ++ (ws.map (32 :: ·)).flatten
  | [] => by simp [joinL]
  | v :: r => by simp [joinL, joinL_cons v r]
theorem nz_nil (us : List (List Nat)) : nz ([] :: us) = nz us := by simp [nz]
theorem nz_cons {u : List Nat} (h : u ≠ []) (us : List (List Nat)) : nz (u :: us) = u :: nz us := by simp [nz, h]
theorem tj_nil (us : List (List Nat)) : tj ([] :: us) = tj us := by unfold tj; rw [nz_nil]
theorem sq_sp : ∀ (x u : List Nat) (us : List (List Nat)), sp 32 x = u :: us → sq true false x = u ++ tj us ∧ sq true true x = tj (u :: us) ∧ ∀ f, sq false f x = joinL [32] (nz (u :: us))
  | [], u, us, h => by
    rw [sp_nil] at h
    injection h with h1 h2
    subst h1; subst h2
    simp [sq, tj, nz, joinL]
  | c :: r, u, us, h => by
    cases hs : sp 32 r with
    | nil => exact absurd hs (sp_ne 32 r)
    | cons v vs =>
      obtain ⟨i1, i2, i3⟩ := sq_sp r v vs hs
      by_cases hc : c = 32
      · subst hc
        rw [sp_hit, hs] at h
        injection h with h1 h2
        subst h1; subst h2
        refine ⟨?_, ?_, fun f => ?_⟩
        · rw [sq, if_pos rfl, i2]; rfl
        · rw [sq, if_pos rfl, i2, tj_nil]
        · rw [sq, if_pos rfl, i3, nz_nil]
      · rw [sp_miss hc, hs, consHead] at h
        injection h with h1 h2
        subst h1; subst h2
        refine ⟨?_, ?_, fun f => ?_⟩
        · rw [sq, if_neg hc, i1]; simp
        · rw [sq, if_neg hc, i1]
          unfold tj
          rw [nz_cons (by simp)]
          simp
        · rw [sq, if_neg hc, i1, nz_cons (by simp), joinL_cons]
          simp [tj]
theorem case_32 : ∀ c : Nat, c ≠ 32 → up1 c ≠ 32 ∧ lo1 c ≠ 32 := by
  intro c hc
  unfold up1 lo1
  constructor
  · split <;> omega
  · split <;> omega
theorem up_case : ∀ c : Nat, up1 (up1 c) = up1 c ∧ up1 (lo1 c) = up1 c := by
  intro c
  unfold up1 lo1
  constructor
  · (repeat' split) <;> omega
  · (repeat' split) <;> omega
theorem white_no {c : Nat} (h : Sign c) (hw : c ∉ whiteL) : white1 c = false := by
  cases hh : white1 c with
  | false => rfl
  | true => exact absurd ((white_sign h).mp hh) hw
theorem not32 {c : Nat} (hw : c ∉ whiteL) : c ≠ 32 := by rintro rfl; exact hw (by decide)
theorem sq_cs : ∀ (p : List Nat) (f : Bool), (∀ c ∈ p, Sign c) → sq true f (bwf f p) = cs f p
  | [], f, _ => by rw [bwf_nil]; cases f <;> rfl
  | c :: r, f, h => by
    have hr : ∀ d ∈ r, Sign d := fun d hd => h d (.tail _ hd)
    rw [bwf, cs]
    by_cases hw : c ∈ whiteL
    · rw [if_pos hw, if_pos ((white_sign (h c (.head _))).mpr hw), sq, if_pos rfl, sq_cs r true hr]
    · have hw1 := white_no (h c (.head _)) hw
      have h32 := case_32 c (not32 hw)
      have hx : (if f = true then up1 c else lo1 c) ≠ 32 := by
        cases f
        · exact h32.2
        · exact h32.1
      rw [if_neg hw, if_neg (show ¬ white1 c = true by rw [hw1]; simp), sq, if_neg hx, sq_cs r false hr]
      cases f <;> simp
theorem caps_white {c : Nat} (h : white1 c = true) (r : List Nat) : caps (c :: r) = caps r := by
  unfold caps
  rw [List.foldl_cons]
  have e : capsStep ([], true) c = ([], true) := by unfold capsStep; rw [if_pos h]
  rw [e]
/-- capwords of the pattern itself: the strewn words with one blank between and a great first sign -/
theorem line_caps : ∀ (p : List Nat) (f g : Bool), (∀ c ∈ p, Sign c) → (∃ c ∈ p, c ∉ whiteL) → ∃ d r, sq false g (bwf f p) = d :: r ∧ caps p = up1 d :: r
  | [], _, _, _, h => by obtain ⟨c, hc, _⟩ := h; cases hc
  | c :: r, f, g, h, hex => by
    have hr : ∀ d ∈ r, Sign d := fun d hd => h d (.tail _ hd)
    rw [bwf]
    by_cases hw : c ∈ whiteL
    · have hex2 : ∃ d ∈ r, d ∉ whiteL := by
        obtain ⟨d, hd, hdw⟩ := hex
        rcases List.mem_cons.mp hd with rfl | hd
        · exact absurd hw hdw
        · exact ⟨d, hd, hdw⟩
      rw [if_pos hw, sq, if_pos rfl, caps_white ((white_sign (h c (.head _))).mpr hw)]
      exact line_caps r true true hr hex2
    · have hw1 := white_no (h c (.head _)) hw
      have h32 := case_32 c (not32 hw)
      have hx : (if f = true then up1 c else lo1 c) ≠ 32 := by
        cases f
        · exact h32.2
        · exact h32.1
      rw [if_neg hw, sq, if_neg hx, sq_cs r false hr, caps_cons hw1]
      refine ⟨if f then up1 c else lo1 c, cs false r, by simp, ?_⟩
      have := up_case c
      cases f
      · simp [this.2]
      · simp [this.1]
theorem line_words {p : List Nat} (h : ∀ c ∈ p, Sign c) (hex : ∃ c ∈ p, c ∉ whiteL) : ∃ d r, joinL [32] (nz (sp 32 (byWhite p))) = d :: r ∧ caps p = up1 d :: r := by
  cases hs : sp 32 (byWhite p) with
  | nil => exact absurd hs (sp_ne 32 _)
  | cons u us =>
    rw [← (sq_sp _ u us hs).2.2 false, byWhite_bwf]
    exact line_caps p false false h hex
/-- signs that translate can read as they are -/
def Good (c : Nat) : Prop := c < 128 ∧ c ≠ 91 ∧ ¬ (28 ≤ c ∧ c ≤ 31)
theorem Good.sign {c : Nat} (h : Good c) : Sign c := ⟨h.1, h.2.2⟩
theorem Good.up {c : Nat} (h : Good c) : Good (up1 c) := by
  obtain ⟨h1, h2, h3⟩ := h
  unfold up1 Good
  split <;> omega
theorem Good.lo {c : Nat} (h : Good c) : Good (lo1 c) := by
  obtain ⟨h1, h2, h3⟩ := h
  unfold lo1 Good
  split <;> omega
theorem bm_good (mk : List Nat) : ∀ (l : List Nat) (k : Nat) (f : Bool), (∀ c ∈ l, Good c) → ∀ c ∈ bm mk k f l, Good c
  | [], k, f, _, c, hc => by cases k <;> simp [bm] at hc
  | d :: r, k + 1, f, h, c, hc => by
    simp only [bm] at hc
    rcases List.mem_cons.mp hc with rfl | hc
    · exact h _ (.head _)
    · exact bm_good mk r k f (fun x hx => h x (.tail _ hx)) c hc
  | d :: r, 0, f, h, c, hc => by
    have hr : ∀ x ∈ r, Good x := fun x hx => h x (.tail _ hx)
    have hd := h d (.head _)
    simp only [bm] at hc
    split at hc
    · rcases List.mem_cons.mp hc with rfl | hc
      · exact hd
      · exact bm_good mk r _ true hr c hc
    · rcases List.mem_cons.mp hc with rfl | hc
      · split
        · exact hd.up
        · exact hd.lo
      · exact bm_good mk r 0 false hr c hc
theorem bwf_good : ∀ (l : List Nat) (f : Bool), (∀ c ∈ l, Good c) → ∀ c ∈ bwf f l, Good c
  | [], f, _, c, hc => by rw [bwf_nil] at hc; cases hc
  | d :: r, f, h, c, hc => by
    have hr : ∀ x ∈ r, Good x := fun x hx => h x (.tail _ hx)
    have hd := h d (.head _)
    rw [bwf] at hc
    split at hc
    · rcases List.mem_cons.mp hc with rfl | hc
      · exact ⟨by decide, by decide, by decide⟩
      · exact bwf_good r true hr c hc
    · rcases List.mem_cons.mp hc with rfl | hc
      · split
        · exact hd.up
        · exact hd.lo
      · exact bwf_good r false hr c hc
theorem capsStep_good {p : List Nat × Bool} {c : Nat} (hp : ∀ d ∈ p.1, Good d) (hc : Good c) : ∀ d ∈ (capsStep p c).1, Good d := by
  unfold capsStep
  split
  · exact hp
  · intro d hd
    simp only [List.mem_append] at hd
    rcases hd with (hd | hd) | hd
    · exact hp d hd
    · split at hd
      · rw [List.mem_singleton] at hd; subst hd; exact ⟨by decide, by decide, by decide⟩
      · cases hd
    · rw [List.mem_singleton] at hd
      subst hd
      split
      · exact hc.up
      · exact hc.lo
theorem caps_good {l : List Nat} (h : ∀ c ∈ l, Good c) : ∀ c ∈ caps l, Good c := by
  have key : ∀ (l : List Nat) (p : List Nat × Bool), (∀ c ∈ l, Good c) → (∀ d ∈ p.1, Good d) → ∀ d ∈ (l.foldl capsStep p).1, Good d := by
    intro l
    induction l with
    | nil => intro p _ hp; exact hp
    | cons c l ih => intro p h hp; exact ih _ (fun d hd => h d (.tail _ hd)) (capsStep_good hp (h c (.head _)))
  exact key l _ h fun d hd => (by cases hd)
theorem tab_good : ∀ c ∈ tab14, Good c := by
  intro c hc
  have key : ∀ c ∈ tab14, c < 128 ∧ c ≠ 91 ∧ ¬ (28 ≤ c ∧ c ≤ 31) := by decide
  exact key c hc
theorem mark_good {mk : List Nat} (h : MarkOk mk) : ∀ c ∈ mk, Good c := by
  intro c hc
  have key : ∀ c ∈ markS, c < 128 ∧ c ≠ 91 ∧ ¬ (28 ≤ c ∧ c ≤ 31) := by decide
  exact key c (h.ok c hc)
theorem piece_good {x : Nat} {mk : List Nat} (h : MarkOk mk) : ∀ c ∈ pieceOf x mk, Good c := by
  intro c hc
  unfold pieceOf at hc
  split at hc
  · next hx =>
    rw [List.mem_singleton] at hc
    subst hc
    have key : ∀ d : Fin 14, tab14.getD d.val 0 ∈ tab14 := by decide
    exact tab_good _ (key ⟨x % 16, hx⟩)
  · split at hc
    · exact mark_good h c hc
    · split at hc
      · rw [List.mem_singleton] at hc
        subst hc
        exact ⟨by decide, by decide, by decide⟩
      · next hn =>
        rw [List.mem_singleton] at hc
        subst hc
        simp only [List.mem_cons, List.not_mem_nil, or_false] at hn
        unfold Good
        omega
theorem piece_length {x : Nat} {mk : List Nat} (h : mk.length ≤ 2) : (pieceOf x mk).length ≤ 2 := by
  unfold pieceOf
  (repeat' split) <;> first | omega | (simp; done) | (simp; omega)
theorem runSign_ascii {c : Nat} (h : c < 128) : ∀ d ∈ runSign c, d < 128 := by
  intro d hd
  rcases runSign_cases c with ⟨rfl, e⟩ | ⟨_, e⟩ | ⟨_, _, e⟩ <;> rw [e] at hd <;> simp at hd <;> omega
theorem runOf_ascii {l : List Nat} (h : ∀ c ∈ l, c < 128) : ∀ d ∈ runOf l, d < 128 := by
  intro d hd
  unfold runOf at hd
  obtain ⟨u, hu, hdu⟩ := List.mem_flatten.mp hd
  obtain ⟨c, hc, rfl⟩ := List.mem_map.mp hu
  exact runSign_ascii (h c hc) d hdu
theorem wtail_ascii : ∀ us : List (List Nat), (∀ u ∈ us, ∀ c ∈ u, c < 128) → ∀ d ∈ wtail us, d < 128
  | [], _, d, hd => by cases hd
  | [u], h, d, hd => by
    rcases List.mem_append.mp hd with hd | hd
    · simp at hd; omega
    · exact runOf_ascii (h u (.head _)) d hd
  | u :: v :: r, h, d, hd => by
    rw [wtail] at hd
    rcases List.mem_append.mp hd with hd | hd
    · split at hd
      · cases hd
      · simp only [List.mem_append] at hd
        rcases hd with (hd | hd) | hd
        · simp at hd; omega
        · exact runOf_ascii (h u (.head _)) d hd
        · simp at hd; omega
    · exact wtail_ascii (v :: r) (fun w hw => h w (.tail _ hw)) d hd
theorem writing_ascii {l : List Nat} (h : ∀ c ∈ l, c < 128) : ∀ d ∈ writing l, d < 128 := by
  intro d hd
  have hsm := sp_small (z := 42) h
  unfold writing at hd
  simp only [List.mem_append] at hd
  rcases hd with (hd | hd) | hd
  · simp at hd; omega
  · cases hs : sp 42 l with
    | nil => exact absurd hs (sp_ne 42 l)
    | cons u us =>
      rw [hs] at hd hsm
      rw [wbody] at hd
      rcases List.mem_append.mp hd with hd | hd
      · exact runOf_ascii (hsm u (.head _)) d hd
      · exact wtail_ascii us (fun w hw => hsm w (.tail _ hw)) d hd
  · simp at hd; omega
end Mine
namespace Mine
theorem texts_pairs : ∀ {us : List (List Nat)} {vs : List Value}, TextsAre us vs → ∃ l : List (Str × Tok), vs = strValues l ∧ l.map (·.1) = us.map fun u => ({ cps := u.toArray } : Str)
  | _, _, .nil => ⟨[], rfl, rfl⟩
  | _, _, .cons (u := u) (t := t) h => by
    obtain ⟨l, e1, e2⟩ := texts_pairs h
    exact ⟨(⟨u.toArray⟩, t) :: l, by rw [e1]; rfl, by simp [e2]⟩
theorem joinY_weight (y : List Nat) (hy : 1 ≤ y.length) : ∀ us : List (List Nat), us ≠ [] → (us.map List.length).sum + us.length ≤ (joinY y us).length + 1
  | [], h => absurd rfl h
  | [u], _ => by simp [joinY]
  | u :: v :: r, _ => by
    have ih := joinY_weight y hy (v :: r) (by simp)
    simp only [joinY, List.map_cons, List.sum_cons, List.length_cons, List.length_append] at ih ⊢
    omega
theorem le_sum_mem : ∀ {l : List Nat} {a : Nat}, a ∈ l → a ≤ l.sum
  | b :: l, a, h => by
    rw [List.sum_cons]
    rcases List.mem_cons.mp h with rfl | h
    · omega
    · have := le_sum_mem h; omega
theorem pairs_small {l : List (Str × Tok)} {us : List (List Nat)} {n : Nat} (e : l.map (·.1) = us.map fun u => ({ cps := u.toArray } : Str)) (hw : (us.map List.length).sum + us.length ≤ n) (hn : n < 100000) : ∀ p ∈ l, p.1.length ≤ 5592405 := fun p hp => by
  have h1 : p.1 ∈ us.map fun u => ({ cps := u.toArray } : Str) := by rw [← e]; exact List.mem_map_of_mem hp
  obtain ⟨u, hu, e2⟩ := List.mem_map.mp h1
  have h2 : u.length ≤ (us.map List.length).sum := le_sum_mem (List.mem_map_of_mem hu)
  rw [← e2, str_len]
  omega
theorem pairs_count {l : List (Str × Tok)} {us : List (List Nat)} {n : Nat} (e : l.map (·.1) = us.map fun u => ({ cps := u.toArray } : Str)) (hw : (us.map List.length).sum + us.length ≤ n) (hn : n < 100000) : l.length ≤ sizeLine := by
  have h1 := congrArg List.length e
  rw [List.length_map, List.length_map] at h1
  rw [sizeLine_eq]; omega
theorem pairs_caps {l : List (Str × Tok)} {us : List (List Nat)} (e : l.map (·.1) = us.map fun u => ({ cps := u.toArray } : Str)) : (l.map fun p => Txt.capitalize p.1) = (us.map fun u => ({ cps := u.toArray } : Str)).map Txt.capitalize := by
  rw [← e]; simp
theorem pairs_fit {l : List (Str × Tok)} {us : List (List Nat)} {n : Nat} {mk : List Nat} (e : l.map (·.1) = us.map fun u => ({ cps := u.toArray } : Str)) (hw : (us.map List.length).sum + us.length ≤ n) (hn : n < 1000) (hm : mk.length < 10) : JoinOk ⟨mk.toArray⟩ (l.map fun p => Txt.capitalize p.1) = true := by
  rw [pairs_caps e]
  have h3 := cap_sum (us.map fun u => ({ cps := u.toArray } : Str))
  have h4 : ((us.map fun u => ({ cps := u.toArray } : Str)).map (·.length)).sum = (us.map List.length).sum := by
    rw [List.map_map]
    exact congrArg List.sum (List.map_congr_left fun u _ => str_len u)
  rw [h4] at h3
  refine joinOk_of ?_
  rw [str_len, List.length_map, List.length_map]
  have h5 : us.length * mk.length ≤ 1000 * 10 := Nat.mul_le_mul (by omega) (by omega)
  omega
end Mine
namespace Mine
theorem t_open : Str.ofString "(?s:" = ⟨[40, 63, 115, 58].toArray⟩ := by decide +kernel
theorem t_lazy : Str.ofString "(?>.*?" = ⟨[40, 63, 62, 46, 42, 63].toArray⟩ := by decide +kernel
theorem t_close : Str.ofString ")" = ⟨[41].toArray⟩ := by decide +kernel
theorem t_any : Str.ofString ".*" = ⟨[46, 42].toArray⟩ := by decide +kernel
theorem t_end : Str.ofString ")\\Z" = ⟨[41, 92, 90].toArray⟩ := by decide +kernel
theorem t_z : Str.ofString "z" = ⟨[122].toArray⟩ := by decide +kernel
theorem t_star : Str.ofString "*" = ⟨[42].toArray⟩ := by decide +kernel
theorem t_blank : Str.ofString " " = ⟨[32].toArray⟩ := by decide +kernel
theorem t_none : Str.ofString "" = ⟨([] : List Nat).toArray⟩ := by decide +kernel
section
variable {prog : Program} {w : World} {A : Around} {E : Value → Shared → Prop} {s : Shared} {Q : Value → Shared → Prop} {x y : Str} {a b : List Nat} {t u : Tok}
theorem add_S (ea : x = ⟨a.toArray⟩) (eb : y = ⟨b.toArray⟩) (hz : a.length + b.length ≤ 1000000) (h : ∀ t' k, Q (.str ⟨(a ++ b).toArray⟩ t') { s with toks := k }) :
    wpAny (model prog w) A (binaryOp .Add (.str x t) (.str y u)) Q E s := by
  subst ea; subst eb
  refine SBL.add (fun t' k _ => ?_) (by rw [str_len, str_len, sizeLine_eq]; omega)
  rw [show (({ cps := a.toArray } : Str) ++ { cps := b.toArray }) = ⟨(a ++ b).toArray⟩ from Str.ext' (by rw [Str.cps_append]; simp)]
  exact h t' k
theorem iadd_S (ea : x = ⟨a.toArray⟩) (eb : y = ⟨b.toArray⟩) (hz : a.length + b.length ≤ 1000000) (h : ∀ t' k, Q (.str ⟨(a ++ b).toArray⟩ t') { s with toks := k }) :
    wpAny (model prog w) A (inplaceOp .Add (.str x t) (.str y u)) Q E s := by
  subst ea; subst eb
  refine SBL.iadd (fun t' k _ => ?_) (by rw [str_len, str_len, sizeLine_eq]; omega)
  rw [show (({ cps := a.toArray } : Str) ++ { cps := b.toArray }) = ⟨(a ++ b).toArray⟩ from Str.ext' (by rw [Str.cps_append]; simp)]
  exact h t' k
end
def lz (us : List (List Nat)) : List Nat := (us.map fun u => if u = [] then [] else [40, 63, 62, 46, 42, 63] ++ runOf u ++ [41]).flatten
theorem wtail_snoc : ∀ (mid : List (List Nat)) (la : List Nat), wtail (mid ++ [la]) = lz mid ++ [46, 42] ++ runOf la
  | [], la => by simp [wtail, lz]
  | u :: r, la => by
    rw [List.cons_append, wtail_cons (by simp), wtail_snoc r la]
    have e : lz (u :: r) = (if u = [] then [] else [40, 63, 62, 46, 42, 63] ++ runOf u ++ [41]) ++ lz r := by simp [lz]
    rw [e]
    simp only [List.append_assoc]
theorem lz_snoc (us : List (List Nat)) (u : List Nat) : lz (us ++ [u]) = lz us ++ (if u = [] then [] else [40, 63, 62, 46, 42, 63] ++ runOf u ++ [41]) := by simp [lz]
theorem runOf_nil {u : List Nat} : runOf u = [] ↔ u = [] := by
  constructor
  · intro h
    cases u with
    | nil => rfl
    | cons c r =>
      rw [runOf_cons] at h
      rcases runSign_cases c with ⟨_, e⟩ | ⟨_, e⟩ | ⟨_, _, e⟩ <;> rw [e] at h <;> simp at h
  · rintro rfl; rfl
theorem lz_length : ∀ us : List (List Nat), (lz us).length ≤ 2 * (us.map List.length).sum + 7 * us.length
  | [] => by simp [lz]
  | u :: r => by
    have ih := lz_length r
    have h := runOf_length u
    have e : lz (u :: r) = (if u = [] then [] else [40, 63, 62, 46, 42, 63] ++ runOf u ++ [41]) ++ lz r := by simp [lz]
    rw [e, List.length_append, List.map_cons, List.sum_cons, List.length_cons]
    split
    · simp; omega
    · simp only [List.length_append, List.length_cons, List.length_nil]; omega
theorem pick_mid (v z : Value) (r : List Value) : kms_pick (v :: (r ++ [z])) (some 1) (some (-1)) = r := by
  simp [kms_pick, kms_lo, kms_hi]
theorem pick_one (v : Value) : kms_pick [v] (some 1) (some (-1)) = [] := by
  simp [kms_pick, kms_lo, kms_hi]

theorem sum_take : ∀ (us : List (List Nat)) (i : Nat), ((us.take i).map List.length).sum ≤ (us.map List.length).sum
  | [], i => by simp
  | u :: r, 0 => by simp
  | u :: r, i + 1 => by
    have := sum_take r i
    simp only [List.take_succ_cons, List.map_cons, List.sum_cons]; omega
theorem ne_empty (u : List Nat) : (({ cps := u.toArray } : Str) != Str.ofString "") = !decide (u = []) := by
  rw [t_none, bne, eq_strs]
end Mine
namespace Mine
local macro_rules | `(tactic| k_room) => `(tactic| (show _ < _; (simp only [depth_under_make, depth_under_kw, depth_in1, depth_deeper, depth_caller, recursionLimit]); omega))
local macro_rules | `(tactic| walk_at "exec While Compare cons nil") => `(tactic| refine Halt.intro ?_)
local macro_rules | `(tactic| walk_at "exec While BoolOp cons nil") => `(tactic| refine Halt.intro ?_)
local macro_rules | `(tactic| walk_at "getAttr ref") => `(tactic| (k_here; (with_reducible show wpAny _ _ (getAttr (Value.ref _) (PySem.Str.ofString "append") true) _ _ _); k_dflt (refine' getappend_K ?k1 ?k2 ?k3 ?_; (case k1 => k_asm); (case k2 => k_asm); (case k3 => k_mem); k_whole); intro q' h' F' N' l1; (try k_lt l1); (try k_sweep)))
local macro_rules | `(tactic| walk_at "callWith ref") => `(tactic| (k_here; (with_reducible show wpAny _ _ (callWith _ (Value.ref _) _ (backTo _ (starEach (_ :: _) _)) []) _ _ _); k_dflt (refine' callWith_ap ?k1 ?k2 ?_; (case k1 => k_asm); (case k2 => k_mem); k_whole)))
local macro_rules | `(tactic| walk_at "And") => `(tactic| (refine And.intro ?ap ?_; (case ap => k_dflt (show ApP _ _ _; refine News.get (by k_asm) (by k_mem))); try dsimp only [List.nil_append, List.cons_append]))
local macro_rules | `(tactic| walk_at "call ref") => `(tactic| (k_here; (with_reducible show wpAny _ _ (call (Value.ref _) [_]) _ _ _); k_dflt (refine' callappend_K ?k1 ?k2 ?k3 ?k4 ?_ ?z; (case k1 => k_asm); (case k2 => k_asm); (case k3 => k_mem); (case k4 => k_upd); (case z => first | size_fits | (simp only [List.size_toArray, Array.size_push, PySem.sizeLine_eq] at *; omega)); k_whole); intro h' F' N'; (try k_sweep)))
local macro_rules | `(tactic| walk_at "call type:object") => `(tactic| (k_here; k_dflt (refine' callobject_K ?k1 ?k2 ?_; (case k1 => k_asm); (case k2 => k_asm); k_whole); intro q' h' F' N' l1; (try k_lt l1); (try k_sweep)))
local macro_rules | `(tactic| walk_at "getMethod str") => `(tactic| with_reducible refine getMethod_translate ?_)
local macro_rules | `(tactic| walk_at "call builtin:str.translate") => `(tactic| (k_here; k_dflt (refine' translate_K ?kT ?k1 ?k2 ?hh ?hc ?_; (case k1 => k_asm); (case k2 => k_asm); (case kT => exact spKeyed (by k_asm)); (case hh => rfl); (case hc => first | assumption | omega); k_whole); intro h' tk' t' F' N'; (try k_sweep)))
local macro_rules | `(tactic| walk_at "call builtin:len") => `(tactic| (k_here; (with_reducible show wpAny _ _ (call (Value.builtin "len") [Value.str (PySem.Str.mk (List.toArray _)) _]) _ _ _); with_reducible refine len_S (by omega) ?_))
local macro_rules | `(tactic| walk_at "call builtin:len") => `(tactic| (k_here; (with_reducible show wpAny _ _ (call (Value.builtin "len") [Value.ref _]) _ _ _); refine len_L (by first | (exact News.isList (by k_asm) (by k_mem)) | is_list) (by omega) ?_))
local macro_rules | `(tactic| walk_at "subscriptTail") => `(tactic| (k_here; (with_reducible show wpAny _ _ (subscriptTail _ _ (Value.str (PySem.Str.mk (List.toArray _)) _) (Value.int _ _)) _ _ _); refine sub_S (by omega) (by omega) (by first | with_reducible assumption | assumption) ?_))
local macro_rules | `(tactic| walk_at "subscriptTail Name Name str int") => `(tactic| (k_here; (with_reducible show wpAny _ _ (subscriptTail _ _ (Value.str (PySem.Str.mk (List.toArray _)) _) (Value.int _ _)) _ _ _); refine sub_S (by omega) (by omega) (by first | with_reducible assumption | assumption) ?_))
local macro_rules | `(tactic| walk_at "subscriptTail") => `(tactic| (k_here; (with_reducible show wpAny _ _ (subscriptTail _ _ (Value.ref _) (Value.int (-1) _)) _ _ _); refine last_L (by first | (exact News.isList (by k_asm) (by k_mem)) | is_list) (by omega) (by first | with_reducible assumption | assumption) ?_))
local macro_rules | `(tactic| walk_at "subscriptTail Name UnaryOp USub Constant ref int") => `(tactic| (k_here; (with_reducible show wpAny _ _ (subscriptTail _ _ (Value.ref _) (Value.int (-1) _)) _ _ _); refine last_L (by first | (exact News.isList (by k_asm) (by k_mem)) | is_list) (by omega) (by first | with_reducible assumption | assumption) ?_))
local macro_rules | `(tactic| walk_at "subscriptTail Name UnaryOp ref int") => `(tactic| (k_here; (with_reducible show wpAny _ _ (subscriptTail _ _ (Value.ref _) (Value.int (-1) _)) _ _ _); refine last_L (by first | (exact News.isList (by k_asm) (by k_mem)) | is_list) (by omega) (by first | with_reducible assumption | assumption) ?_))
local macro_rules | `(tactic| walk_at "subscriptTail") => `(tactic| (k_here; (with_reducible show wpAny _ _ (subscriptTail _ _ (Value.ref _) (Value.int _ _)) _ _ _); refine item_L (by first | (exact News.isList (by k_asm) (by k_mem)) | is_list) (by omega) (by omega) (by first | with_reducible assumption | assumption) ?_))
local macro_rules | `(tactic| walk_at "subscriptTail Name Name ref int") => `(tactic| (k_here; (with_reducible show wpAny _ _ (subscriptTail _ _ (Value.ref _) (Value.int _ _)) _ _ _); refine item_L (by first | (exact News.isList (by k_asm) (by k_mem)) | is_list) (by omega) (by omega) (by first | with_reducible assumption | assumption) ?_))
local macro_rules | `(tactic| walk_at "truthy ref") => `(tactic| (k_here; refine truthy_L (by first | (exact News.isList (by k_asm) (by k_mem)) | is_list) (by omega) ?_))
local macro_rules | `(tactic| walk_at "compareOp IsNot str ref") => `(tactic| with_reducible refine isNot_str_ref ?_)
local macro_rules | `(tactic| walk_at "compareOp Is str ref") => `(tactic| with_reducible refine is_str_ref ?_)
local macro_rules | `(tactic| walk_at "ite") => `(tactic| first | with_reducible refine ite_neg (ne_true_of_eq_false (by assumption)) ?_ | with_reducible refine ite_pos (by first | with_reducible assumption | assumption) ?_)
local macro_rules | `(tactic| walk_at "KswEnd") => `(tactic| refine Halt.intro ?_)
local macro_rules | `(tactic| walk_at "call builtin:str.join") => `(tactic| refine Halt.intro ?_)
local macro_rules | `(tactic| walk_at "joinParts") => `(tactic| (k_here; (first | (with_reducible show wpAny _ _ (joinParts _ []) _ _ _) | (with_reducible show wpAny _ _ (joinParts _ (evalEach [] _)) _ _ _)); k_dflt (refine joinParts_nil ?_ (by first | (rw [head_tail]; exact fit_list (by simp only [List.length_append, List.length_cons, List.length_nil]; omega)) | (rw [lazy_fixed]; exact fit_list (by simp only [List.length_append, List.length_cons, List.length_nil]; omega))))))
local macro_rules | `(tactic| walk_at "getAttr type") => `(tactic| (k_here; k_dflt (refine' capAttr ?_; k_whole); (try dsimp only); (try k_sweep)))
local macro_rules | `(tactic| walk_at "call type:map") => `(tactic| refine Halt.intro ?_)
local macro_rules | `(tactic| walk_at "getAttr type:str") => `(tactic| (k_here; k_dflt (refine' capAttr ?_; k_whole); (try dsimp only); (try k_sweep)))
local macro_rules | `(tactic| walk_at "compareOp NotEq ref ref") => `(tactic| (k_here; (with_reducible show wpAny _ _ (compareOp CmpOp.NotEq (Value.ref _) (Value.ref _)) _ _ _); k_dflt (refine' ke_ne_ints ?k1 ?k2 ?k3 ?k4 ?k5 ?_; (case k4 => exact .nil); (case k3 => assumption); (case k1 => exact News.isList (by k_asm) (by k_mem)); (case k2 => exact News.isList (by k_asm) (by k_mem)); (case k5 => exact Nat.lt_of_lt_of_le (Nat.add_lt_add_right (by assumption) 67) (by decide)))))
local macro_rules | `(tactic| walk_at "compareOp Eq ref ref") => `(tactic| (k_here; (with_reducible show wpAny _ _ (compareOp CmpOp.Eq (Value.ref _) (Value.ref _)) _ _ _); k_dflt (refine' ke_eq_ints ?k1 ?k2 ?k3 ?k4 ?k5 ?_; (case k4 => exact .nil); (case k3 => assumption); (case k1 => exact News.isList (by k_asm) (by k_mem)); (case k2 => exact News.isList (by k_asm) (by k_mem)); (case k5 => exact Nat.lt_of_lt_of_le (Nat.add_lt_add_right (by assumption) 67) (by decide)))))
local macro_rules | `(tactic| size_fits) => `(tactic| exact Nat.le_of_ble_eq_true rfl)
local macro_rules | `(tactic| walk_at "subscriptTail") => `(tactic| (k_here; (with_reducible show wpAny _ _ (subscriptTail _ _ (Value.ref _) (Value.int 0 _)) _ _ _); refine item_0 (by exact News.isList (by k_asm) (by k_mem)) (by with_reducible assumption) ?_))
local macro_rules | `(tactic| walk_at "subscriptTail Name Constant int ref int") => `(tactic| (k_here; (with_reducible show wpAny _ _ (subscriptTail _ _ (Value.ref _) (Value.int 0 _)) _ _ _); refine item_0 (by exact News.isList (by k_asm) (by k_mem)) (by with_reducible assumption) ?_))
local macro_rules | `(tactic| walk_at "subscriptTail Name Constant ref int") => `(tactic| (k_here; (with_reducible show wpAny _ _ (subscriptTail _ _ (Value.ref _) (Value.int 0 _)) _ _ _); refine item_0 (by exact News.isList (by k_asm) (by k_mem)) (by with_reducible assumption) ?_))
theorem escape_spec {w : World} {dp un : Nat} {fr : Option (List Env)} {gd : Option (List Code)} {s : Shared} {loose : List Str} {mean : ExcName → Option Value} {mg mb : Str → Option Value} {Q E : Value → Shared → Prop}
  (X : (Mine.hd.heap_1 w.params).In s.heap) (T : Top topProg loose mean mg mb s.heap) (hd : dp < 400) (hu : un < 1000)
  {x : Str} {tk : Tok} {c : Nat} (hx : x = ⟨#[c]⟩) (hc : c < 128)
  (ret : ∀ h' tk' t', Keep s.heap h' → Q (.str ⟨(esc c).toArray⟩ t') { s with heap := h', toks := tk' }) : wpAny (model PySem.Challenge.rw_ij0025_02.row.toRowW.prog w) (Ar dp un fr gd) (call (.ref 63) [.str x tk]) Q E s := by
  w_top off
  (have X9 := X); revert X9; k_fill; intro X9; clear X9
  subst hx
  refine' enter X T ?k6 ?k7 ?k8 ?k9 ?kB ?_ ?c2 ?c3 ?c4 ?c5
  case k6 => k_is
  case k7 => k_is
  case k8 => show dp < _; exact Nat.lt_of_lt_of_le hd (by decide)
  case k9 => first | exact BindsTo.of_eq rfl | exact binds_K X rfl (by k_is) rfl rfl rfl
  case c5 => decide
  case kB => exact locs rfl
  case c2 => exact rfl
  case c3 => exact rfl
  case c4 => exact rfl
  k_whole
  intro g' L' h' F' N' X' T' hg hL'
  subst hg
  clear X T
  (try dsimp only); (try k_fold)
  (repeat' (first | (k_unfold; (try dsimp only)) | walk1 | (dsimp only; walk1) | fail "no step"))
  all_goals exact ret _ _ _ (Fr.keep (by assumption))
theorem escape_K {w : World} {dp un : Nat} {fr : Option (List Env)} {gd : Option (List Code)} {s : Shared} {loose : List Str} {mean : ExcName → Option Value} {mg mb : Str → Option Value} {Q E : Value → Shared → Prop} {h₀ : Heap} {L : Addr} {m : Str → Option Value} {news : List (Addr × Obj)} {tk : Tok} {c : Nat}
    (X : (Mine.hd.heap_1 w.params).In h₀) (T : Top topProg loose mean mg mb h₀) (F : Fr h₀ L s.heap m) (N : News h₀ L s.heap news) (hd : dp < 400) (hu : un < 1000) (hc : c < 128)
    (ret : ∀ h' tk' t', Fr h₀ L h' m → News h₀ L h' news → Q (.str ⟨(esc c).toArray⟩ t') { s with heap := h', toks := tk' }) :
    wpAny (model PySem.Challenge.rw_ij0025_02.row.toRowW.prog w) (Ar dp un fr gd) (call (.ref 63) [.str ⟨#[c]⟩ tk]) Q E s :=
  escape_spec (X.keeps F.keep) (T.keeps F.keep) hd hu rfl hc fun h' tk' t' hk => ret h' tk' t' (F.keeps hk) (N.grown hk)
local macro_rules | `(tactic| walk_at "call ref") => `(tactic| (k_here; (with_reducible show wpAny _ _ (call (Value.ref 63) [_]) _ _ _); k_dflt (refine' escape_K ?k1 ?k2 ?k3 ?k4 ?k5 ?k6 ?k7 ?_; (case k1 => k_asm); (case k2 => k_asm); (case k3 => k_asm); (case k4 => k_asm); (case k5 => exact Nat.lt_of_lt_of_le (Nat.add_lt_add_right (by assumption) 1) (by decide)); (case k6 => exact Nat.lt_of_lt_of_le (Nat.add_lt_add_right (by assumption) 3) (by decide)); (case k7 => first | assumption | omega); k_whole); intro h' tk' t' F' N'; (try k_sweep)))
theorem transl_spec {w : World} {dp un : Nat} {fr : Option (List Env)} {gd : Option (List Code)} {s : Shared} {loose : List Str} {mean : ExcName → Option Value} {mg mb : Str → Option Value} {Q E : Value → Shared → Prop}
  (X : (Mine.hd.heap_1 w.params).In s.heap) (T : Top topProg loose mean mg mb s.heap) (hd : dp < 390) (hu : un < 900)
  {x q : Str} {l : List Nat} {tk tk2 : Tok} {S : Addr} (hxl : x = ⟨l.toArray⟩) (hq : q = ⟨#[46]⟩) (hx : ∀ c ∈ l, c < 128 ∧ c ≠ 91) (hn2 : l.length < 1000) (hS : s.heap.get? S = some { cls := .type "object" })
  (ret : ∀ a vs k h' tk', Keep s.heap h' → s.heap.get? a = none → h'.get? a = some (PySem.W.listOf vs.toArray k) → PartsAre S (trParts l) vs → Q (.ref a) { s with heap := h', toks := tk' }) : wpAny (model PySem.Challenge.rw_ij0025_02.row.toRowW.prog w) (Ar dp un fr gd) (call (.ref 70) [.str x tk, .ref S, .str q tk2]) Q E s := by
  w_top off
  (have X9 := X); revert X9; k_fill; intro X9; clear X9
  subst hxl hq
  refine' enter X T ?k6 ?k7 ?k8 ?k9 ?kB ?_ ?c2 ?c3 ?c4 ?c5
  case k6 => k_is
  case k7 => k_is
  case k8 => show dp < _; exact Nat.lt_of_lt_of_le hd (by decide)
  case k9 => first | exact BindsTo.of_eq rfl | exact binds_K X rfl (by k_is) rfl rfl rfl
  case c5 => decide
  case kB => exact locs rfl
  case c2 => exact rfl
  case c3 => exact rfl
  case c4 => exact rfl
  k_whole
  intro g' L' h' F' N' X' T' hg hL'
  subst hg
  clear X T
  (try dsimp only); (try k_fold)
  (repeat' (first | (k_unfold; (try dsimp only)) | walk1 | (dsimp only; walk1) | fail "no step"))
  unfold Halt
  rename Fr _ _ _ _ => F1
  rename News _ _ _ _ => N1
  rename_i r hA lA hB tkA q hC lC hD D hE lE hF hG hH
  refine' ksw_while (σ := Nat × Tok × List Value × Nat) (fun c => [(q, apObj r), (r, PySem.W.listOf c.2.2.1.toArray c.2.2.2)]) (fun c => [(Str.ofString "i", Value.int c.1 c.2.1)]) (fun _ => True) [Str.ofString "c"] (fun c => c.1 ≤ l.length ∧ PartsAre S (trParts (l.take c.1)) c.2.2.1 ∧ c.2.2.1.length ≤ c.1) (fun c => l.length - c.1) (0, _, [], 0) F1 (fun p hp => N1 p (List.mem_cons_of_mem _ hp)) trivial ?hk ⟨Nat.zero_le _, .nil, Nat.zero_le _⟩ ?turn
  case hk => kst_all
  case turn =>
    intro c u h3 tk3 hf3 hp3 F3 N3
    obtain ⟨i, ti, vs, k⟩ := c
    dsimp only [kstB] at F3
    dsimp only at N3 hp3
    obtain ⟨hi, hP, hlen⟩ := hp3
    clear F1 N1 hf3
    by_cases hlt : i < l.length
    · obtain ⟨c, hc⟩ : ∃ c, l[i]? = some c := ⟨l[i], by simp [hlt]⟩
      have hcc := hx c (List.mem_of_getElem? hc)
      have hstep := trParts_take hc
      have hb := isBra c
      rw [decide_eq_false hcc.2] at hb
      by_cases h42 : c = 42
      · have h1 := isStar c
        rw [decide_eq_true h42] at h1
        by_cases hl : (trParts (l.take i)).getLast? = some none
        · obtain ⟨v, hv, hvS⟩ := hP.last _ hl
          obtain rfl : v = .ref S := hvS
          have he : vs.isEmpty = false := by cases vs with | nil => cases hv | cons => rfl
          have he' : (!vs.isEmpty) = true := by rw [he]; rfl
          have hn : PartsAre S (trParts (l.take (i + 1))) vs := by
            rw [hstep]; unfold trStep; rw [if_pos h42, if_pos hl]; exact hP
          (repeat' (first | (k_unfold; (try dsimp only)) | walk1 | (dsimp only; walk1) | fail "no step"))
          unfold Halt
          rename Fr _ _ _ _ => F9
          rename News _ _ _ _ => N9
          refine' ksw_end (i + 1, _, vs, k) F9 N9 (by kst_in) trivial ?hk (by ksw_same) ⟨by dsimp only; omega, hn, by dsimp only; omega⟩ (by dsimp only; omega)
          case hk => kst_all
        · have hn : PartsAre S (trParts (l.take (i + 1))) (vs ++ [Value.ref S]) := by
            rw [hstep]; unfold trStep; rw [if_pos h42, if_neg hl]; exact hP.snoc rfl
          by_cases he : vs.isEmpty = true
          · have he' : (!vs.isEmpty) = false := by rw [he]; rfl
            (repeat' (first | (k_unfold; (try dsimp only)) | walk1 | (dsimp only; walk1) | fail "no step"))
            unfold Halt
            rename Fr _ _ _ _ => F9
            rename News _ _ _ _ => N9
            simp only [List.push_toArray] at N9
            refine' ksw_end (i + 1, _, vs ++ [Value.ref S], k + 1) F9 N9 (by kst_in) trivial ?hk (by ksw_same) ⟨by dsimp only; omega, hn, by simp; omega⟩ (by dsimp only; omega)
            case hk => kst_all
          · replace he : vs.isEmpty = false := by simpa using he
            have he' : (!vs.isEmpty) = true := by rw [he]; rfl
            obtain ⟨p, hp9⟩ : ∃ p, (trParts (l.take i)).getLast? = some p := by
              cases hq9 : (trParts (l.take i)).getLast? with
              | some p => exact ⟨p, rfl⟩
              | none =>
                rw [List.getLast?_eq_none_iff] at hq9
                have := hP.length
                rw [hq9] at this
                cases vs with | nil => cases he | cons => simp at this
            obtain ⟨v, hv, hvS⟩ := hP.last _ hp9
            cases p with
            | none => exact absurd hp9 hl
            | some w9 =>
            obtain ⟨t8, rfl⟩ := hvS
            (repeat' (first | (k_unfold; (try dsimp only)) | walk1 | (dsimp only; walk1) | fail "no step"))
            unfold Halt
            rename Fr _ _ _ _ => F9
            rename News _ _ _ _ => N9
            simp only [List.push_toArray] at N9
            refine' ksw_end (i + 1, _, vs ++ [Value.ref S], k + 1) F9 N9 (by kst_in) trivial ?hk (by ksw_same) ⟨by dsimp only; omega, hn, by simp; omega⟩ (by dsimp only; omega)
            case hk => kst_all
      · have h1 := isStar c
        rw [decide_eq_false h42] at h1
        by_cases h63 : c = 63
        · have h2 := isAsk c
          rw [decide_eq_true h63] at h2
          have hn : PartsAre S (trParts (l.take (i + 1))) (vs ++ [Value.str ⟨#[46]⟩ tk2]) := by
            rw [hstep]; unfold trStep; rw [if_neg h42, if_pos h63]; exact hP.snoc ⟨_, rfl⟩
          (repeat' (first | (k_unfold; (try dsimp only)) | walk1 | (dsimp only; walk1) | fail "no step"))
          unfold Halt
          rename Fr _ _ _ _ => F9
          rename News _ _ _ _ => N9
          simp only [List.push_toArray] at N9
          refine' ksw_end (i + 1, _, vs ++ [Value.str ⟨#[46]⟩ tk2], k + 1) F9 N9 (by kst_in) trivial ?hk (by ksw_same) ⟨by dsimp only; omega, hn, by simp; omega⟩ (by dsimp only; omega)
          case hk => kst_all
        · have h2 := isAsk c
          rw [decide_eq_false h63] at h2
          (repeat' (first | (k_unfold; (try dsimp only)) | walk1 | (dsimp only; walk1) | fail "no step"))
          unfold Halt
          rename Fr _ _ _ _ => F9
          rename News _ _ _ _ => N9
          rename_i t9 h9
          simp only [List.push_toArray] at N9
          have hn : PartsAre S (trParts (l.take (i + 1))) (vs ++ [Value.str ⟨(esc c).toArray⟩ t9]) := by
            rw [hstep]; unfold trStep; rw [if_neg h42, if_neg h63]; exact hP.snoc ⟨_, rfl⟩
          refine' ksw_end (i + 1, _, vs ++ [Value.str ⟨(esc c).toArray⟩ t9], k + 1) F9 N9 (by kst_in) trivial ?hk (by ksw_same) ⟨by dsimp only; omega, hn, by simp; omega⟩ (by dsimp only; omega)
          case hk => kst_all
    · have hil : i = l.length := by omega
      subst hil
      rw [List.take_length] at hP
      (repeat' (first | (k_unfold; (try dsimp only)) | walk1 | (dsimp only; walk1) | fail "no step"))
      show Done _ _ _
      rename Fr _ _ _ _ => F9
      rename News _ _ _ _ => N9
      exact ret _ _ _ _ _ F9.keep (N9 _ (.tail _ (.head _))).2.2 (N9 _ (.tail _ (.head _))).1 hP
theorem transl_K {w : World} {dp un : Nat} {fr : Option (List Env)} {gd : Option (List Code)} {s : Shared} {loose : List Str} {mean : ExcName → Option Value} {mg mb : Str → Option Value} {Q E : Value → Shared → Prop} {h₀ : Heap} {L : Addr} {m : Str → Option Value} {news : List (Addr × Obj)} {x q : Str} {l : List Nat} {tk tk2 : Tok} {S : Addr}
    (X : (Mine.hd.heap_1 w.params).In h₀) (T : Top topProg loose mean mg mb h₀) (F : Fr h₀ L s.heap m) (N : News h₀ L s.heap news) (hd : dp < 390) (hu : un < 900)
    (hxl : x = ⟨l.toArray⟩) (hq : q = ⟨#[46]⟩) (hx : ∀ c ∈ l, c < 128 ∧ c ≠ 91) (hn2 : l.length < 1000) (hS : (S, ({ cls := .type "object" } : Obj)) ∈ news)
    (ret : ∀ a vs k h' tk', Fr h₀ L h' m → News h₀ L h' ((a, PySem.W.listOf vs.toArray k) :: news) → PartsAre S (trParts l) vs → Q (.ref a) { s with heap := h', toks := tk' }) :
    wpAny (model PySem.Challenge.rw_ij0025_02.row.toRowW.prog w) (Ar dp un fr gd) (call (.ref 70) [.str x tk, .ref S, .str q tk2]) Q E s :=
  transl_spec (X.keeps F.keep) (T.keeps F.keep) hd hu hxl hq hx hn2 (N.get hS) fun a vs k h' tk' hk hf ho hP => ret a vs k h' tk' (F.keeps hk) (news_made F N hk hf ho) hP
local macro_rules | `(tactic| walk_at "call ref") => `(tactic| (k_here; (with_reducible show wpAny _ _ (call (Value.ref 70) [_, _, _]) _ _ _); k_dflt (refine' transl_K ?k1 ?k2 ?k3 ?k4 ?k5 ?k6 rfl dotq ?k7 ?k8 ?k9 ?_; (case k1 => k_asm); (case k2 => k_asm); (case k3 => k_asm); (case k4 => k_asm); (case k5 => exact Nat.lt_of_lt_of_le (Nat.add_lt_add_right (by assumption) 1) (by decide)); (case k6 => exact Nat.lt_of_lt_of_le (Nat.add_lt_add_right (by assumption) 3) (by decide)); (case k7 => assumption); (case k8 => omega); (case k9 => k_mem); k_whole); intro a' vs' k' h' tk' F' N' hP'; (try k_sweep)))
theorem join_spec {w : World} {dp un : Nat} {fr : Option (List Env)} {gd : Option (List Code)} {s : Shared} {loose : List Str} {mean : ExcName → Option Value} {mg mb : Str → Option Value} {Q E : Value → Shared → Prop}
  (X : (Mine.hd.heap_1 w.params).In s.heap) (T : Top topProg loose mean mg mb s.heap) (hd : dp < 390) (hu : un < 900)
  {a S : Addr} {ps : List (Option (List Nat))} {vs : List Value} (hl : s.heap.IsList a vs.toArray) (hP : PartsAre S ps vs) (hn : ps.length < 1000) (hn2 : (joinF ps).length < 100000) (hS : s.heap.get? S = some { cls := .type "object" }) (hNN : ∀ i, ps[i]? = some none → ps[i + 1]? ≠ some none)
  (ret : ∀ h' tk' t', Keep s.heap h' → Q (.str ⟨([40, 63, 115, 58] ++ joinF ps ++ [41, 92, 90]).toArray⟩ t') { s with heap := h', toks := tk' }) : wpAny (model PySem.Challenge.rw_ij0025_02.row.toRowW.prog w) (Ar dp un fr gd) (call (.ref 77) [.ref a, .ref S]) Q E s := by
  w_top off
  (have X9 := X); revert X9; k_fill; intro X9; clear X9
  refine' enter X T ?k6 ?k7 ?k8 ?k9 ?kB ?_ ?c2 ?c3 ?c4 ?c5
  case k6 => k_is
  case k7 => k_is
  case k8 => show dp < _; exact Nat.lt_of_lt_of_le hd (by decide)
  case k9 => first | exact BindsTo.of_eq rfl | exact binds_K X rfl (by k_is) rfl rfl rfl
  case c5 => decide
  case kB => exact locs rfl
  case c2 => exact rfl
  case c3 => exact rfl
  case c4 => exact rfl
  k_whole
  intro g' L' h' F' N' X' T' hg hL'
  subst hg
  clear X T
  (try dsimp only); (try k_fold)
  have hPl := hP.length
  (repeat' (first | (k_unfold; (try dsimp only)) | walk1 | (dsimp only; walk1) | fail "no step"))
  unfold Halt
  rename Fr _ _ _ _ => F1
  rename News _ _ _ _ => N1
  rename_i r hA lA hB tkA q hC lC hD D hE lE hF hG hH
  refine' ksw_while (σ := Nat × Tok × List (List Nat) × List Value × Nat) (fun c => [(q, apObj r), (r, PySem.W.listOf c.2.2.2.1.toArray c.2.2.2.2)]) (fun c => [(Str.ofString "i", Value.int c.1 c.2.1)]) (fun _ => True) [] (fun c => c.1 ≤ ps.length ∧ TextsAre c.2.2.1 c.2.2.2.1 ∧ c.2.2.1.length ≤ c.1 ∧ c.2.2.1.flatten ++ joinF (ps.drop c.1) = joinF ps) (fun c => ps.length - c.1) (0, _, [], [], 0) F1 (fun p hp => N1 p (List.mem_cons_of_mem _ hp)) trivial ?hk ⟨Nat.zero_le _, .nil, Nat.zero_le _, rfl⟩ ?turn
  case hk => kst_all
  case turn =>
    intro c u h3 tk3 hf3 hp3 F3 N3
    obtain ⟨i, ti, us, rs, k⟩ := c
    dsimp only [kstB] at F3
    dsimp only at N3 hp3
    obtain ⟨hi, hTx, hlen, hfl⟩ := hp3
    have hTl := hTx.length
    clear F1 N1 hf3
    by_cases hx : ∃ u9, ps[i]? = some (some u9)
    · obtain ⟨u9, hc⟩ := hx
      have hlt : i < ps.length := by
        rcases Nat.lt_or_ge i ps.length with h1 | h1
        · exact h1
        · rw [List.getElem?_eq_none h1] at hc; cases hc
      have hdr := drop_at hc
      obtain ⟨v, hv, t8, rfl⟩ := hP.at _ _ hc
      rw [hdr] at hfl
      (repeat' (first | (k_unfold; (try dsimp only)) | walk1 | (dsimp only; walk1) | fail "no step"))
      unfold Halt
      rename Fr _ _ _ _ => F9
      rename News _ _ _ _ => N9
      simp only [List.push_toArray] at N9
      refine' ksw_end (i + 1, _, us ++ [u9], rs ++ [Value.str ⟨u9.toArray⟩ t8], k + 1) F9 N9 (by kst_in) trivial ?hk (by ksw_same) ⟨by dsimp only; omega, hTx.snoc, by simp; omega, ?_⟩ (by dsimp only; omega)
      case hk => kst_all
      show (us ++ [u9]).flatten ++ joinF (ps.drop (i + 1)) = _
      rw [← hfl]; simp [joinF]
    · have hy : (i < ps.length ∧ ps[i]? = some none ∧ vs[i]? = some (.ref S) ∧ us.flatten ++ joinG [] (ps.drop (i + 1)) = joinF ps) ∨ (i = ps.length ∧ us.flatten = joinF ps) := by
        rcases Nat.lt_or_ge i ps.length with h1 | h1
        · left
          have hc : ps[i]? = some none := by
            cases hq : ps[i]? with
            | none => rw [List.getElem?_eq_none_iff] at hq; omega
            | some p => cases p with
              | none => rfl
              | some u9 => exact absurd ⟨u9, hq⟩ hx
          obtain ⟨v, hv, hpv⟩ := hP.at _ _ hc
          obtain rfl : v = .ref S := hpv
          rw [drop_at hc] at hfl
          exact ⟨h1, hc, hv, hfl⟩
        · right
          have : i = ps.length := by omega
          subst this
          rw [List.drop_length] at hfl
          exact ⟨rfl, by simpa [joinF] using hfl⟩
      have hin : (i < ps.length ∧ ps[i]? = some none ∧ us.flatten ++ joinG [] (ps.drop (i + 1)) = joinF ps) ∨ (i = ps.length ∧ us.flatten = joinF ps) := by
        rcases hy with ⟨h1, h2, h3, h4⟩ | h
        · exact .inl ⟨h1, h2, h4⟩
        · exact .inr h
      clear hx hfl
      rcases hy with ⟨hlt, hc, hv, _⟩ | ⟨hil, _⟩
      · skip
        (repeat' (first | (k_unfold; (try dsimp only)) | walk1 | (dsimp only; walk1) | fail "no step"))
        unfold Halt
        rename Fr _ _ _ _ => F1
        rename News _ _ _ _ => N1
        refine' ksw_while (σ := Nat × Tok × List (List Nat) × List Value × Nat) (fun c => [(q, apObj r), (r, PySem.W.listOf c.2.2.2.1.toArray c.2.2.2.2)]) (fun c => [(Str.ofString "i", Value.int c.1 c.2.1)]) (fun _ => True) [Str.ofString "fixed"] (fun c => c.1 ≤ ps.length ∧ TextsAre c.2.2.1 c.2.2.2.1 ∧ c.2.2.1.length ≤ 2 * c.1 ∧ ((c.1 < ps.length ∧ ps[c.1]? = some none ∧ c.2.2.1.flatten ++ joinG [] (ps.drop (c.1 + 1)) = joinF ps) ∨ (c.1 = ps.length ∧ c.2.2.1.flatten = joinF ps))) (fun c => ps.length - c.1) (i, _, us, rs, k) F1 (fun p hp => N1 p hp) trivial ?hk ⟨hi, hTx, by dsimp only; omega, hin⟩ ?turn
        case hk => kst_all
        case turn =>
          intro c u h3 tk3 hf3 hp3 F3 N3
          clear hin hTx hlen hTl hi F1 N1
          (try clear hlt hc hv)
          (try clear hil)
          obtain ⟨i, ti, us, rs, k⟩ := c
          dsimp only [kstB] at F3
          dsimp only at N3 hp3
          obtain ⟨hi, hTx, hlen, hin⟩ := hp3
          have hTl := hTx.length
          clear hf3
          rcases hin with ⟨hlt, hc, hfl⟩ | ⟨hil, hfl⟩
          · obtain ⟨v, hv, hpv⟩ := hP.at _ _ hc
            obtain rfl : v = .ref S := hpv
            by_cases hil : i + 1 = ps.length
            · rw [hil, List.drop_length] at hfl
              (repeat' (first | (k_unfold; (try dsimp only)) | walk1 | (dsimp only; walk1) | fail "no step"))
              unfold Halt
              rename Fr _ _ _ _ => F9
              rename News _ _ _ _ => N9
              simp only [List.push_toArray, dotstar] at N9
              have hfl' : (us ++ [[46, 42]]).flatten = joinF ps := by simpa [joinG] using hfl
              refine' join_E (us := us ++ [[46, 42]]) (News.isList N9 (.tail _ (.head _))) hTx.snoc (by rw [hfl']; omega) ?_
              rw [hfl']
              intro t9 tk9
              (repeat' (first | (k_unfold; (try dsimp only)) | walk1 | (dsimp only; walk1) | fail "no step"))
              rw [head_tail]
              show Done _ _ _
              rename Fr _ _ _ _ => F9
              exact ret _ _ _ F9.keep
            · have hnn := hNN i hc
              obtain ⟨u8, hc8⟩ : ∃ u8, ps[i + 1]? = some (some u8) := by
                cases hq : ps[i + 1]? with
                | none => rw [List.getElem?_eq_none_iff] at hq; omega
                | some p => cases p with
                  | none => exact absurd hq hnn
                  | some u9 => exact ⟨u9, rfl⟩
              obtain ⟨v8, hv8, t8, rfl⟩ := hP.at _ _ hc8
              have hgt : i + 1 < vs.length := by omega
              have hne : decide (((i : Int) + 1) = (vs.length : Int)) = false := decide_eq_false (by omega)
              have hne2 : (((i : Int) + 1) == (vs.length : Int)) = false := beq_eq_false_iff_ne.mpr (by omega)
              (repeat' (first | (k_unfold; (try dsimp only)) | walk1 | (dsimp only; walk1) | fail "no step"))
              unfold Halt
              rename Fr _ _ _ _ => F1
              rename News _ _ _ _ => N1
              rename_i z lZ hZ2 hZ3
              clear hne hne2
              refine' ksw_while (σ := Nat × Tok × List (List Nat) × List Value × Nat) (fun c => [(z, PySem.W.listOf c.2.2.2.1.toArray c.2.2.2.2), (q, apObj r), (r, PySem.W.listOf rs.toArray k)]) (fun c => [(Str.ofString "i", Value.int c.1 c.2.1)]) (fun _ => True) [] (fun c => i + 1 ≤ c.1 ∧ c.1 ≤ ps.length ∧ TextsAre c.2.2.1 c.2.2.2.1 ∧ c.2.2.1.length ≤ c.1 ∧ us.flatten ++ joinG c.2.2.1.flatten (ps.drop c.1) = joinF ps) (fun c => ps.length - c.1) (i + 1, _, [], [], 0) F1 (fun p hp => N1 p hp) trivial ?hk ⟨Nat.le_refl _, by dsimp only; omega, .nil, Nat.zero_le _, hfl⟩ ?turn
              case hk => kst_all
              case turn =>
                intro c u h3 tk3 hf3 hp3 F3 N3
                clear F1 N1 hfl hc8 hv8 hf3 hc hv hgt hil
                obtain ⟨j, tj, fs, fv, kf⟩ := c
                dsimp only [kstB] at F3
                dsimp only at N3 hp3
                obtain ⟨hij, hjn, hFx, hflen, hfl⟩ := hp3
                have hFl := hFx.length
                have hfb : fs.flatten.length ≤ (joinF ps).length := by
                  rw [← hfl, List.length_append]
                  have := joinG_acc (ps.drop j) fs.flatten
                  omega
                by_cases hx : ∃ u9, ps[j]? = some (some u9)
                · obtain ⟨u9, hc⟩ := hx
                  have hltj : j < ps.length := by
                    rcases Nat.lt_or_ge j ps.length with h1 | h1
                    · exact h1
                    · rw [List.getElem?_eq_none h1] at hc; cases hc
                  obtain ⟨v, hv, t8, rfl⟩ := hP.at _ _ hc
                  rw [drop_at hc] at hfl
                  (repeat' (first | (k_unfold; (try dsimp only)) | walk1 | (dsimp only; walk1) | fail "no step"))
                  unfold Halt
                  rename Fr _ _ _ _ => F9
                  rename News _ _ _ _ => N9
                  simp only [List.push_toArray] at N9
                  refine' ksw_end (j + 1, _, fs ++ [u9], fv ++ [Value.str ⟨u9.toArray⟩ t8], kf + 1) F9 N9 (by kst_in) trivial ?hk (by ksw_same) ⟨by dsimp only; omega, by dsimp only; omega, hFx.snoc, by simp; omega, ?_⟩ (by dsimp only; omega)
                  case hk => kst_all
                  show us.flatten ++ joinG (fs ++ [u9]).flatten (ps.drop (j + 1)) = _
                  rw [← hfl]; simp [joinG]
                · have hy : (j < ps.length ∧ ps[j]? = some none ∧ vs[j]? = some (.ref S)) ∨ j = ps.length := by
                    rcases Nat.lt_or_ge j ps.length with h1 | h1
                    · left
                      have hc : ps[j]? = some none := by
                        cases hq : ps[j]? with
                        | none => rw [List.getElem?_eq_none_iff] at hq; omega
                        | some p => cases p with
                          | none => rfl
                          | some u9 => exact absurd ⟨u9, hq⟩ hx
                      obtain ⟨v, hv, hpv⟩ := hP.at _ _ hc
                      obtain rfl : v = .ref S := hpv
                      exact ⟨h1, hc, hv⟩
                    · right; omega
                  rcases hy with ⟨hltj, hc, hv⟩ | hjl
                  · rw [drop_at hc] at hfl
                    have hne : decide (((j : Int)) = (vs.length : Int)) = false := decide_eq_false (by omega)
                    have hne2 : (((j : Int)) == (vs.length : Int)) = false := beq_eq_false_iff_ne.mpr (by omega)
                    (repeat' (first | (k_unfold; (try dsimp only)) | walk1 | (dsimp only; walk1) | fail "no step"))
                    unfold Halt
                    rename Fr _ _ _ _ => F9
                    rename News _ _ _ _ => N9
                    refine' join_E (us := fs) (News.isList N9 (.head _)) hFx (by omega) ?_
                    intro t9 tk9
                    (repeat' (first | (k_unfold; (try dsimp only)) | walk1 | (dsimp only; walk1) | fail "no step"))
                    unfold Halt
                    rename Fr _ _ _ _ => F9
                    rename News _ _ _ _ => N9
                    simp only [lazy_fixed, List.push_toArray] at N9
                    refine' ksw_end (j, _, us ++ [[40, 63, 62, 46, 42, 63] ++ fs.flatten ++ [41]], rs ++ [Value.str ⟨([40, 63, 62, 46, 42, 63] ++ fs.flatten ++ [41]).toArray⟩ _], k + 1) F9 N9 (by kst_in) trivial ?hk (by ksw_same) ⟨by dsimp only; omega, hTx.snoc, by simp; omega, .inl ⟨hltj, hc, ?_⟩⟩ (by dsimp only; omega)
                    case hk => kst_all
                    rw [← hfl]; simp [joinG]
                  · subst hjl
                    rw [List.drop_length] at hfl
                    have hne : decide (((ps.length : Int)) = (vs.length : Int)) = true := decide_eq_true (by omega)
                    have hne2 : (((ps.length : Int)) == (vs.length : Int)) = true := beq_iff_eq.mpr (by omega)
                    (repeat' (first | (k_unfold; (try dsimp only)) | walk1 | (dsimp only; walk1) | fail "no step"))
                    unfold Halt
                    rename Fr _ _ _ _ => F9
                    rename News _ _ _ _ => N9
                    refine' join_E (us := fs) (News.isList N9 (.head _)) hFx (by omega) ?_
                    intro t9 tk9
                    (repeat' (first | (k_unfold; (try dsimp only)) | walk1 | (dsimp only; walk1) | fail "no step"))
                    unfold Halt
                    rename Fr _ _ _ _ => F9
                    rename News _ _ _ _ => N9
                    simp only [List.push_toArray, dotstar] at N9
                    refine' ksw_end (ps.length, _, (us ++ [[46, 42]]) ++ [fs.flatten], (rs ++ [Value.str ⟨[46, 42].toArray⟩ _]) ++ [Value.str ⟨fs.flatten.toArray⟩ _], k + 1 + 1) F9 N9 (by kst_in) trivial ?hk (by ksw_same) ⟨Nat.le_refl _, hTx.snoc.snoc, by simp; omega, .inr ⟨rfl, ?_⟩⟩ (by dsimp only; omega)
                    case hk => kst_all
                    rw [← hfl]; simp [joinG]
          · (repeat' (first | (k_unfold; (try dsimp only)) | walk1 | (dsimp only; walk1) | fail "no step"))
            unfold Halt
            rename Fr _ _ _ _ => F9
            rename News _ _ _ _ => N9
            refine' join_E (us := us) (News.isList N9 (.tail _ (.head _))) hTx (by rw [hfl]; omega) ?_
            rw [hfl]
            intro t9 tk9
            (repeat' (first | (k_unfold; (try dsimp only)) | walk1 | (dsimp only; walk1) | fail "no step"))
            rw [head_tail]
            show Done _ _ _
            rename Fr _ _ _ _ => F9
            exact ret _ _ _ F9.keep
      · skip
        have hfl : us.flatten = joinF ps := by
          rcases hin with ⟨h1, _⟩ | h
          · omega
          · exact h.2
        (repeat' (first | (k_unfold; (try dsimp only)) | walk1 | (dsimp only; walk1) | fail "no step"))
        unfold Halt
        rename Fr _ _ _ _ => F1
        rename News _ _ _ _ => N1
        refine' ksw_while (σ := Nat) (fun c => [(q, apObj r), (r, PySem.W.listOf rs.toArray k)]) (fun c => [(Str.ofString "i", Value.int i ti)]) (fun _ => True) [] (fun c => True) (fun c => c) 0 F1 (fun p hp => N1 p hp) trivial ?hk trivial ?turn
        case hk => kst_all
        case turn =>
          intro c u h3 tk3 hf3 hp3 F3 N3
          dsimp only [kstB] at F3
          clear hf3 hp3 F1 N1
          (repeat' (first | (k_unfold; (try dsimp only)) | walk1 | (dsimp only; walk1) | fail "no step"))
          unfold Halt
          rename Fr _ _ _ _ => F9
          rename News _ _ _ _ => N9
          refine' join_E (us := us) (News.isList N9 (.tail _ (.head _))) hTx (by rw [hfl]; omega) ?_
          rw [hfl]
          intro t9 tk9
          (repeat' (first | (k_unfold; (try dsimp only)) | walk1 | (dsimp only; walk1) | fail "no step"))
          rw [head_tail]
          show Done _ _ _
          rename Fr _ _ _ _ => F9
          exact ret _ _ _ F9.keep
theorem join_K {w : World} {dp un : Nat} {fr : Option (List Env)} {gd : Option (List Code)} {s : Shared} {loose : List Str} {mean : ExcName → Option Value} {mg mb : Str → Option Value} {Q E : Value → Shared → Prop} {h₀ : Heap} {L : Addr} {m : Str → Option Value} {news : List (Addr × Obj)} {a S : Addr} {ps : List (Option (List Nat))} {vs : List Value}
    (X : (Mine.hd.heap_1 w.params).In h₀) (T : Top topProg loose mean mg mb h₀) (F : Fr h₀ L s.heap m) (N : News h₀ L s.heap news) (hd : dp < 390) (hu : un < 900)
    (hl : s.heap.IsList a vs.toArray) (hP : PartsAre S ps vs) (hn : ps.length < 1000) (hn2 : (joinF ps).length < 100000) (hS : s.heap.get? S = some { cls := .type "object" }) (hNN : ∀ i, ps[i]? = some none → ps[i + 1]? ≠ some none)
    (ret : ∀ h' tk' t', Fr h₀ L h' m → News h₀ L h' news → Q (.str ⟨([40, 63, 115, 58] ++ joinF ps ++ [41, 92, 90]).toArray⟩ t') { s with heap := h', toks := tk' }) :
    wpAny (model PySem.Challenge.rw_ij0025_02.row.toRowW.prog w) (Ar dp un fr gd) (call (.ref 77) [.ref a, .ref S]) Q E s :=
  join_spec (X.keeps F.keep) (T.keeps F.keep) hd hu hl hP hn hn2 hS hNN fun h' tk' t' hk => ret h' tk' t' (F.keeps hk) (N.grown hk)
local macro_rules | `(tactic| walk_at "call ref") => `(tactic| (k_here; (with_reducible show wpAny _ _ (call (Value.ref 77) [_, _]) _ _ _); k_dflt (refine' join_K ?k1 ?k2 ?k3 ?k4 ?k5 ?k6 ?l1 (by assumption) ?k7 ?k8 ?k9 (trParts_nn _) ?_; (case k1 => k_asm); (case k2 => k_asm); (case k3 => k_asm); (case k4 => k_asm); (case k5 => exact Nat.lt_of_lt_of_le (Nat.add_lt_add_right (by assumption) 1) (by decide)); (case k6 => exact Nat.lt_of_lt_of_le (Nat.add_lt_add_right (by assumption) 3) (by decide)); (case l1 => exact News.isList (by k_asm) (by k_mem)); (case k7 => omega); (case k8 => omega); (case k9 => refine News.get (by k_asm) (by k_mem)); k_whole); intro h' tk' t' F' N'; (try k_sweep)))
theorem translate_spec {w : World} {dp un : Nat} {fr : Option (List Env)} {gd : Option (List Code)} {s : Shared} {loose : List Str} {mean : ExcName → Option Value} {mg mb : Str → Option Value} {Q E : Value → Shared → Prop}
  (X : (Mine.hd.heap_1 w.params).In s.heap) (T : Top topProg loose mean mg mb s.heap) (hd : dp < 380) (hu : un < 800)
  {x : Str} {l : List Nat} {tk : Tok} (hxl : x = ⟨l.toArray⟩) (hx : ∀ c ∈ l, c < 128 ∧ c ≠ 91) (hn : l.length < 1000)
  (ret : ∀ h' tk' t', Keep s.heap h' → Q (.str ⟨(trText l).toArray⟩ t') { s with heap := h', toks := tk' }) : wpAny (model PySem.Challenge.rw_ij0025_02.row.toRowW.prog w) (Ar dp un fr gd) (call (.ref 51) [.str x tk]) Q E s := by
  w_top off
  (have X9 := X); revert X9; k_fill; intro X9; clear X9
  subst hxl
  refine' enter X T ?k6 ?k7 ?k8 ?k9 ?kB ?_ ?c2 ?c3 ?c4 ?c5
  case k6 => k_is
  case k7 => k_is
  case k8 => show dp < _; exact Nat.lt_of_lt_of_le hd (by decide)
  case k9 => first | exact BindsTo.of_eq rfl | exact binds_K X rfl (by k_is) rfl rfl rfl
  case c5 => decide
  case kB => exact locs rfl
  case c2 => exact rfl
  case c3 => exact rfl
  case c4 => exact rfl
  k_whole
  intro g' L' h' F' N' X' T' hg hL'
  subst hg
  clear X T
  (try dsimp only); (try k_fold)
  have hlen := trParts_length l []
  change (trParts l).length ≤ _ at hlen
  simp only [List.length_nil, Nat.zero_add] at hlen
  have hjl := joinF_length _ (trParts_short l)
  (repeat' (first | (k_unfold; (try dsimp only)) | walk1 | (dsimp only; walk1) | fail "no step"))
  all_goals
    show Done _ _ _
    rename Fr _ _ _ _ => F9
    exact ret _ _ _ F9.keep
theorem translate_CK {w : World} {dp un : Nat} {fr : Option (List Env)} {gd : Option (List Code)} {s : Shared} {loose : List Str} {mean : ExcName → Option Value} {mg mb : Str → Option Value} {Q E : Value → Shared → Prop} {h₀ : Heap} {L : Addr} {m : Str → Option Value} {news : List (Addr × Obj)} {x : Str} {l : List Nat} {tk : Tok}
    (X : (Mine.hd.heap_1 w.params).In h₀) (T : Top topProg loose mean mg mb h₀) (F : Fr h₀ L s.heap m) (N : News h₀ L s.heap news) (hd : dp < 380) (hu : un < 800)
    (hxl : x = ⟨l.toArray⟩) (hx : ∀ c ∈ l, c < 128 ∧ c ≠ 91) (hn : l.length < 1000)
    (ret : ∀ h' tk' t', Fr h₀ L h' m → News h₀ L h' news → Q (.str ⟨(trText l).toArray⟩ t') { s with heap := h', toks := tk' }) :
    wpAny (model PySem.Challenge.rw_ij0025_02.row.toRowW.prog w) (Ar dp un fr gd) (call (.ref 51) [.str x tk]) Q E s :=
  translate_spec (X.keeps F.keep) (T.keeps F.keep) hd hu hxl hx hn fun h' tk' t' hk => ret h' tk' t' (F.keeps hk) (N.grown hk)
theorem capwords_spec {w : World} {dp un : Nat} {fr : Option (List Env)} {gd : Option (List Code)} {s : Shared} {loose : List Str} {mean : ExcName → Option Value} {mg mb : Str → Option Value} {Q E : Value → Shared → Prop}
  (X : (Mine.hd.heap_1 w.params).In s.heap) (T : Top topProg loose mean mg mb s.heap) (hd : dp < 380) (hu : un < 800)
  {x : Str} {tk : Tok} (hn : x.length < 1000)
  (ret : ∀ h' tk' t', Keep s.heap h' → Q (.str (Txt.join (Str.ofString " ") ((Txt.words x).map Txt.capitalize)) t') { s with heap := h', toks := tk' }) : wpAny (model PySem.Challenge.rw_ij0025_02.row.toRowW.prog w) (Ar dp un fr gd) (call (.ref 39) [.str x tk]) Q E s := by
  w_top off
  (have X9 := X); revert X9; k_fill; intro X9; clear X9
  refine' enter X T ?k6 ?k7 ?k8 ?k9 ?kB ?_ ?c2 ?c3 ?c4 ?c5
  case k6 => k_is
  case k7 => k_is
  case k8 => show dp < _; exact Nat.lt_of_lt_of_le hd (by decide)
  case k9 => first | exact BindsTo.of_eq rfl | exact binds_K X rfl (by k_is) rfl rfl rfl
  case c5 => decide
  case kB => exact locs rfl
  case c2 => exact rfl
  case c3 => exact rfl
  case c4 => exact rfl
  k_whole
  intro g' L' h' F' N' X' T' hg hL'
  subst hg
  clear X T
  (try dsimp only); (try k_fold)
  (repeat' (first | (k_unfold; (try dsimp only)) | walk1 | (dsimp only; walk1) | fail "no step"))
  unfold Halt
  rename (List.map _ _ = Txt.words _) => e1
  rename (∀ a, a ∈ List.map _ _ → _) => e2
  rename Heap.IsList _ _ _ => hL1
  rename Fr _ _ _ _ => F9
  have ha : _ < _ := (by obtain ⟨o, ho, _⟩ := hL1; exact Heap.lt_size ho)
  refine' call_map hL1 ?_
  intro h2 g1 g2 g3 gsz gk
  (repeat' (first | (k_unfold; (try dsimp only)) | walk1 | (dsimp only; walk1) | fail "no step"))
  unfold Halt
  refine' joinMap rfl (Nat.ne_of_gt (Nat.lt_add_of_pos_right (by decide))) (Nat.ne_of_gt (Nat.lt_add_of_pos_right (by decide))) (Nat.ne_of_lt ha) g1 g2 g3 (by obtain ⟨o, ho, r⟩ := hL1; exact ⟨o, gk _ _ ho, r⟩) (cap_small e2 hn) (cap_count e1 hn) (cap_fits e1 hn) ?_
  intro h3 tk3 t3 hk3
  rw [cap_words e1]
  (repeat' (first | (k_unfold; (try dsimp only)) | walk1 | (dsimp only; walk1) | fail "no step"))
  show Done _ _ _
  refine ret _ _ _ fun b o hb => hk3 _ _ ?_ (gk _ _ (F9.keep _ _ hb))
  have := Heap.lt_size (F9.keep _ _ hb)
  exact Nat.ne_of_lt this
theorem capwords_K {w : World} {dp un : Nat} {fr : Option (List Env)} {gd : Option (List Code)} {s : Shared} {loose : List Str} {mean : ExcName → Option Value} {mg mb : Str → Option Value} {Q E : Value → Shared → Prop} {h₀ : Heap} {L : Addr} {m : Str → Option Value} {news : List (Addr × Obj)} {x : Str} {tk : Tok}
    (X : (Mine.hd.heap_1 w.params).In h₀) (T : Top topProg loose mean mg mb h₀) (F : Fr h₀ L s.heap m) (N : News h₀ L s.heap news) (hd : dp < 380) (hu : un < 800)
    (hn : x.length < 1000)
    (ret : ∀ h' tk' t', Fr h₀ L h' m → News h₀ L h' news → Q (.str (Txt.join (Str.ofString " ") ((Txt.words x).map Txt.capitalize)) t') { s with heap := h', toks := tk' }) :
    wpAny (model PySem.Challenge.rw_ij0025_02.row.toRowW.prog w) (Ar dp un fr gd) (call (.ref 39) [.str x tk]) Q E s :=
  capwords_spec (X.keeps F.keep) (T.keeps F.keep) hd hu hn fun h' tk' t' hk => ret h' tk' t' (F.keeps hk) (N.grown hk)
theorem small_spec {w : World} {dp un : Nat} {fr : Option (List Env)} {gd : Option (List Code)} {s : Shared} {loose : List Str} {mean : ExcName → Option Value} {mg mb : Str → Option Value} {Q E : Value → Shared → Prop}
  (X : (Mine.hd.heap_1 w.params).In s.heap) (T : Top topProg loose mean mg mb s.heap) (hd : dp < 390) (hu : un < 900)
  {x : Str} {c : Nat} {tk : Tok} (hx : x = ⟨#[c]⟩) (hc : c < 128)
  (ret : ∀ h' tk' t', Keep s.heap h' → Q (.str ⟨#[lo1 c]⟩ t') { s with heap := h', toks := tk' }) : wpAny (model PySem.Challenge.rw_ij0025_02.row.toRowW.prog w) (Ar dp un fr gd) (call (.ref 84) [.str x tk]) Q E s := by
  w_top off
  (have X9 := X); revert X9; k_fill; intro X9; clear X9
  subst hx
  refine' enter X T ?k6 ?k7 ?k8 ?k9 ?kB ?_ ?c2 ?c3 ?c4 ?c5
  case k6 => k_is
  case k7 => k_is
  case k8 => show dp < _; exact Nat.lt_of_lt_of_le hd (by decide)
  case k9 => first | exact BindsTo.of_eq rfl | exact binds_K X rfl (by k_is) rfl rfl rfl
  case c5 => decide
  case kB => exact locs rfl
  case c2 => exact rfl
  case c3 => exact rfl
  case c4 => exact rfl
  k_whole
  intro g' L' h' F' N' X' T' hg hL'
  subst hg
  clear X T
  (try dsimp only); (try k_fold)
  (repeat' (first | (k_unfold; (try dsimp only)) | walk1 | (dsimp only; walk1) | fail "no step"))
  all_goals
    show Done _ _ _
    rename Fr _ _ _ _ => F9
    have F8 := F9.keep
    clear F9
    first
      | (rw [lo_a (by with_reducible assumption)] at ret; exact ret _ _ _ F8)
      | (rw [lo_b (by with_reducible assumption)] at ret; exact ret _ _ _ F8)
      | (rw [lo_c (by with_reducible assumption) (by with_reducible assumption)] at ret; exact ret _ _ _ F8)
theorem small_K {w : World} {dp un : Nat} {fr : Option (List Env)} {gd : Option (List Code)} {s : Shared} {loose : List Str} {mean : ExcName → Option Value} {mg mb : Str → Option Value} {Q E : Value → Shared → Prop} {h₀ : Heap} {L : Addr} {m : Str → Option Value} {news : List (Addr × Obj)} {x : Str} {c : Nat} {tk : Tok}
    (X : (Mine.hd.heap_1 w.params).In h₀) (T : Top topProg loose mean mg mb h₀) (F : Fr h₀ L s.heap m) (N : News h₀ L s.heap news) (hd : dp < 390) (hu : un < 900)
    (hx : x = ⟨#[c]⟩) (hc : c < 128)
    (ret : ∀ h' tk' t', Fr h₀ L h' m → News h₀ L h' news → Q (.str ⟨#[lo1 c]⟩ t') { s with heap := h', toks := tk' }) :
    wpAny (model PySem.Challenge.rw_ij0025_02.row.toRowW.prog w) (Ar dp un fr gd) (call (.ref 84) [.str x tk]) Q E s :=
  small_spec (X.keeps F.keep) (T.keeps F.keep) hd hu hx hc fun h' tk' t' hk => ret h' tk' t' (F.keeps hk) (N.grown hk)
theorem great_spec {w : World} {dp un : Nat} {fr : Option (List Env)} {gd : Option (List Code)} {s : Shared} {loose : List Str} {mean : ExcName → Option Value} {mg mb : Str → Option Value} {Q E : Value → Shared → Prop}
  (X : (Mine.hd.heap_1 w.params).In s.heap) (T : Top topProg loose mean mg mb s.heap) (hd : dp < 390) (hu : un < 900)
  {x : Str} {c : Nat} {tk : Tok} (hx : x = ⟨#[c]⟩) (hc : c < 128)
  (ret : ∀ h' tk' t', Keep s.heap h' → Q (.str ⟨#[up1 c]⟩ t') { s with heap := h', toks := tk' }) : wpAny (model PySem.Challenge.rw_ij0025_02.row.toRowW.prog w) (Ar dp un fr gd) (call (.ref 91) [.str x tk]) Q E s := by
  w_top off
  (have X9 := X); revert X9; k_fill; intro X9; clear X9
  subst hx
  refine' enter X T ?k6 ?k7 ?k8 ?k9 ?kB ?_ ?c2 ?c3 ?c4 ?c5
  case k6 => k_is
  case k7 => k_is
  case k8 => show dp < _; exact Nat.lt_of_lt_of_le hd (by decide)
  case k9 => first | exact BindsTo.of_eq rfl | exact binds_K X rfl (by k_is) rfl rfl rfl
  case c5 => decide
  case kB => exact locs rfl
  case c2 => exact rfl
  case c3 => exact rfl
  case c4 => exact rfl
  k_whole
  intro g' L' h' F' N' X' T' hg hL'
  subst hg
  clear X T
  (try dsimp only); (try k_fold)
  (repeat' (first | (k_unfold; (try dsimp only)) | walk1 | (dsimp only; walk1) | fail "no step"))
  all_goals first | (have h97 := up_ge (c := c) (by with_reducible assumption); (repeat' (first | (k_unfold; (try dsimp only)) | walk1 | (dsimp only; walk1) | fail "no step"))) | skip
  all_goals
    show Done _ _ _
    rename Fr _ _ _ _ => F9
    have F8 := F9.keep
    clear F9
    first
      | (rw [up_a (by with_reducible assumption)] at ret; exact ret _ _ _ F8)
      | (rw [up_b (by with_reducible assumption)] at ret; exact ret _ _ _ F8)
      | (rw [up_c (by with_reducible assumption) (by with_reducible assumption)] at ret; exact ret _ _ _ F8)
theorem great_K {w : World} {dp un : Nat} {fr : Option (List Env)} {gd : Option (List Code)} {s : Shared} {loose : List Str} {mean : ExcName → Option Value} {mg mb : Str → Option Value} {Q E : Value → Shared → Prop} {h₀ : Heap} {L : Addr} {m : Str → Option Value} {news : List (Addr × Obj)} {x : Str} {c : Nat} {tk : Tok}
    (X : (Mine.hd.heap_1 w.params).In h₀) (T : Top topProg loose mean mg mb h₀) (F : Fr h₀ L s.heap m) (N : News h₀ L s.heap news) (hd : dp < 390) (hu : un < 900)
    (hx : x = ⟨#[c]⟩) (hc : c < 128)
    (ret : ∀ h' tk' t', Fr h₀ L h' m → News h₀ L h' news → Q (.str ⟨#[up1 c]⟩ t') { s with heap := h', toks := tk' }) :
    wpAny (model PySem.Challenge.rw_ij0025_02.row.toRowW.prog w) (Ar dp un fr gd) (call (.ref 91) [.str x tk]) Q E s :=
  great_spec (X.keeps F.keep) (T.keeps F.keep) hd hu hx hc fun h' tk' t' hk => ret h' tk' t' (F.keeps hk) (N.grown hk)
theorem piece_spec {w : World} {dp un : Nat} {fr : Option (List Env)} {gd : Option (List Code)} {s : Shared} {loose : List Str} {mean : ExcName → Option Value} {mg mb : Str → Option Value} {Q E : Value → Shared → Prop}
  (X : (Mine.hd.heap_1 w.params).In s.heap) (T : Top topProg loose mean mg mb s.heap) (hd : dp < 390) (hu : un < 900)
  {x : Nat} {m : Str} {mk : List Nat} {tx tm : Tok} (hm : m = ⟨mk.toArray⟩)
  (ret : ∀ h' tk' t', Keep s.heap h' → Q (.str ⟨(pieceOf x mk).toArray⟩ t') { s with heap := h', toks := tk' }) : wpAny (model PySem.Challenge.rw_ij0025_02.row.toRowW.prog w) (Ar dp un fr gd) (call (.ref 98) [.int (x : Int) tx, .str m tm]) Q E s := by
  w_top off
  (have X9 := X); revert X9; k_fill; intro X9; clear X9
  subst hm
  refine' enter X T ?k6 ?k7 ?k8 ?k9 ?kB ?_ ?c2 ?c3 ?c4 ?c5
  case k6 => k_is
  case k7 => k_is
  case k8 => show dp < _; exact Nat.lt_of_lt_of_le hd (by decide)
  case k9 => first | exact BindsTo.of_eq rfl | exact binds_K X rfl (by k_is) rfl rfl rfl
  case c5 => decide
  case kB => exact locs rfl
  case c2 => exact rfl
  case c3 => exact rfl
  case c4 => exact rfl
  k_whole
  intro g' L' h' F' N' X' T' hg hL'
  subst hg
  clear X T
  (try dsimp only); (try k_fold)
  have e1 : (x : Int).fmod 16 = ((x % 16 : Nat) : Int) := fmodN x 16
  have e2 : (x : Int).fdiv 16 = ((x / 16 : Nat) : Int) := fdivN x 16
  have e3 : ((x : Int).fdiv 16).fmod 128 = ((x / 16 % 128 : Nat) : Int) := by rw [e2]; exact fmodN _ 128
  (repeat' (first | (k_unfold; (try dsimp only)) | walk1 | (dsimp only; walk1) | fail "no step"))
  all_goals
    show Done _ _ _
    rename Fr _ _ _ _ => F9
    have F8 := F9.keep
    clear F9
    first
      | (rw [p_a (by with_reducible assumption)] at ret; exact ret _ _ _ F8)
      | (rw [p_b (by with_reducible assumption) (by with_reducible assumption)] at ret; exact ret _ _ _ F8)
      | (rw [p_c (by with_reducible assumption) (by with_reducible assumption) (by with_reducible assumption)] at ret; exact ret _ _ _ F8)
      | (rw [p_d (by with_reducible assumption) (by with_reducible assumption) (by with_reducible assumption)] at ret; exact ret _ _ _ F8)
theorem piece_K {w : World} {dp un : Nat} {fr : Option (List Env)} {gd : Option (List Code)} {s : Shared} {loose : List Str} {mean : ExcName → Option Value} {mg mb : Str → Option Value} {Q E : Value → Shared → Prop} {h₀ : Heap} {L : Addr} {m : Str → Option Value} {news : List (Addr × Obj)} {x : Nat} {y : Str} {mk : List Nat} {tx tm : Tok}
    (X : (Mine.hd.heap_1 w.params).In h₀) (T : Top topProg loose mean mg mb h₀) (F : Fr h₀ L s.heap m) (N : News h₀ L s.heap news) (hd : dp < 390) (hu : un < 900)
    (hm : y = ⟨mk.toArray⟩)
    (ret : ∀ h' tk' t', Fr h₀ L h' m → News h₀ L h' news → Q (.str ⟨(pieceOf x mk).toArray⟩ t') { s with heap := h', toks := tk' }) :
    wpAny (model PySem.Challenge.rw_ij0025_02.row.toRowW.prog w) (Ar dp un fr gd) (call (.ref 98) [.int (x : Int) tx, .str y tm]) Q E s :=
  piece_spec (X.keeps F.keep) (T.keeps F.keep) hd hu hm fun h' tk' t' hk => ret h' tk' t' (F.keeps hk) (N.grown hk)
section
local macro_rules | `(tactic| walk_at "exec For") => `(tactic| (k_here; refine wpAny_For ?_))
local macro_rules | `(tactic| walk_at "pyIter ref") => `(tactic| refine Halt.intro ?_)
local macro_rules | `(tactic| walk_at "pyIter str") => `(tactic| refine Halt.intro ?_)
local macro_rules | `(tactic| walk_at "KsfPost") => `(tactic| (dsimp only [KsfPost]))
local macro_rules | `(tactic| walk_at "KsfEnd") => `(tactic| refine Halt.intro ?_)
local macro_rules | `(tactic| walk_at "inplaceOp Add str str") => `(tactic| (k_here; (with_reducible show wpAny _ _ (inplaceOp _ (Value.str (PySem.Str.mk (List.toArray _)) _) (Value.str _ _)) _ _ _); refine iadd_L (by with_reducible assumption) (by first | exact Nat.le_of_ble_eq_true rfl | with_reducible assumption | omega) ?_; intro _ _))
theorem run_spec {w : World} {dp un : Nat} {fr : Option (List Env)} {gd : Option (List Code)} {s : Shared} {loose : List Str} {mean : ExcName → Option Value} {mg mb : Str → Option Value} {Q E : Value → Shared → Prop}
  (X : (Mine.hd.heap_1 w.params).In s.heap) (T : Top topProg loose mean mg mb s.heap) (hd : dp < 390) (hu : un < 900)
  {x : Str} {l : List Nat} {tk : Tok} (hxl : x = ⟨l.toArray⟩) (hx : ∀ c ∈ l, c < 128) (hn : l.length < 100000)
  (ret : ∀ h' tk' t', Keep s.heap h' → Q (.str ⟨(runOf l).toArray⟩ t') { s with heap := h', toks := tk' }) : wpAny (model PySem.Challenge.rw_ij0025_02.row.toRowW.prog w) (Ar dp un fr gd) (call (.ref 119) [.str x tk]) Q E s := by
  w_top off
  (have X9 := X); revert X9; k_fill; intro X9; clear X9
  subst hxl
  refine' enter X T ?k6 ?k7 ?k8 ?k9 ?kB ?_ ?c2 ?c3 ?c4 ?c5
  case k6 => k_is
  case k7 => k_is
  case k8 => show dp < _; exact Nat.lt_of_lt_of_le hd (by decide)
  case k9 => first | exact BindsTo.of_eq rfl | exact binds_K X rfl (by k_is) rfl rfl rfl
  case c5 => decide
  case kB => exact locs rfl
  case c2 => exact rfl
  case c3 => exact rfl
  case c4 => exact rfl
  k_whole
  intro g' L' h' F' N' X' T' hg hL'
  subst hg
  clear X T
  (try dsimp only); (try k_fold)
  (repeat' (first | (k_unfold; (try dsimp only)) | walk1 | (dsimp only; walk1) | fail "no step"))
  unfold Halt
  rename Fr _ _ _ _ => F1
  rename News _ _ _ _ => N1
  refine' ksf_text (σ := List Nat × Tok) (l := l) (fun c => []) (fun c => [(Str.ofString "out", Value.str ⟨c.1.toArray⟩ c.2)]) [Str.ofString "sign"] (fun i c => c.1 = runOf (l.take i)) ([], _) rfl hx ?ne F1 (fun p hp => N1 p hp) ?hk rfl ?turn ?done
  case hk => kst_all
  case ne => intro I hI i c _ p hp; cases hp
  case turn =>
    intro I i d td c u h3 tk3 oI hI hd hp3 F3 N3
    obtain ⟨out, tko⟩ := c
    dsimp only [kstB] at F3
    dsimp only at N3 hp3
    clear F1 N1
    have hd8 : d < 128 := hx d (List.mem_of_getElem? hd)
    have hol : out.length ≤ 1000000 := by
      have := runOf_length (l.take i)
      rw [← hp3, List.length_take] at this
      omega
    have hst : runOf (l.take (i + 1)) = out ++ runSign d := by rw [List.take_add_one, hd, hp3]; exact runOf_snoc _ d
    unfold runSign at hst
    have hq := is_quest d
    by_cases h63 : d = 63
    · rw [decide_eq_true h63] at hq
      rw [if_pos h63] at hst
      (repeat' (first | (k_unfold; (try dsimp only)) | walk1 | (dsimp only; walk1) | fail "no step"))
      unfold Halt
      rename Fr _ _ _ _ => F9
      rename News _ _ _ _ => N9
      refine' ksf_end (out ++ (Str.ofString ".").cps.toList, _) F9 N9 (by k_mem) (by kst_in) ?hk (by ksw_same) (by rw [hst, l_dot])
      case hk => kst_all
    · rw [decide_eq_false h63] at hq
      rw [if_neg h63] at hst
      have hin := run_in d hd8
      by_cases hsp : d ∈ specialR
      · rw [decide_eq_true hsp] at hin
        rw [if_pos hsp] at hst
        simp only [Bool.not_true] at hin
        (repeat' (first | (k_unfold; (try dsimp only)) | walk1 | (dsimp only; walk1) | fail "no step"))
        unfold Halt
        rename Fr _ _ _ _ => F9
        rename News _ _ _ _ => N9
        refine' ksf_end (out ++ (Str.ofString "\\" ++ { cps := #[d] } : Str).cps.toList, _) F9 N9 (by k_mem) (by kst_in) ?hk (by ksw_same) (by rw [hst, l_back])
        case hk => kst_all
      · rw [decide_eq_false hsp] at hin
        rw [if_neg hsp] at hst
        simp only [Bool.not_false] at hin
        (repeat' (first | (k_unfold; (try dsimp only)) | walk1 | (dsimp only; walk1) | fail "no step"))
        unfold Halt
        rename Fr _ _ _ _ => F9
        rename News _ _ _ _ => N9
        refine' ksf_end (out ++ ({ cps := #[d] } : Str).cps.toList, _) F9 N9 (by k_mem) (by kst_in) ?hk (by ksw_same) (by rw [hst])
        case hk => kst_all
  case done =>
    intro c u h3 tk3 hp3 F3 N3
    obtain ⟨out, tko⟩ := c
    dsimp only [kstB] at F3
    dsimp only at N3 hp3
    rw [List.take_length] at hp3
    subst hp3
    clear F1 N1
    (repeat' (first | (k_unfold; (try dsimp only)) | walk1 | (dsimp only; walk1) | fail "no step"))
    show Done _ _ _
    rename Fr _ _ _ _ => F9
    exact ret _ _ _ F9.keep
theorem run_K {w : World} {dp un : Nat} {fr : Option (List Env)} {gd : Option (List Code)} {s : Shared} {loose : List Str} {mean : ExcName → Option Value} {mg mb : Str → Option Value} {Q E : Value → Shared → Prop} {h₀ : Heap} {L : Addr} {m : Str → Option Value} {news : List (Addr × Obj)} {x : Str} {l : List Nat} {tk : Tok}
    (X : (Mine.hd.heap_1 w.params).In h₀) (T : Top topProg loose mean mg mb h₀) (F : Fr h₀ L s.heap m) (N : News h₀ L s.heap news) (hd : dp < 390) (hu : un < 900)
    (hxl : x = ⟨l.toArray⟩) (hx : ∀ c ∈ l, c < 128) (hn : l.length < 100000)
    (ret : ∀ h' tk' t', Fr h₀ L h' m → News h₀ L h' news → Q (.str ⟨(runOf l).toArray⟩ t') { s with heap := h', toks := tk' }) :
    wpAny (model PySem.Challenge.rw_ij0025_02.row.toRowW.prog w) (Ar dp un fr gd) (call (.ref 119) [.str x tk]) Q E s :=
  run_spec (X.keeps F.keep) (T.keeps F.keep) hd hu hxl hx hn fun h' tk' t' hk => ret h' tk' t' (F.keeps hk) (N.grown hk)
local macro_rules | `(tactic| walk_at "call ref") => `(tactic| (k_here; (with_reducible show wpAny _ _ (call (Value.ref 84) [_]) _ _ _); k_dflt (refine' small_K ?k1 ?k2 ?k3 ?k4 ?k5 ?k6 ?ka ?k7 ?_; (case k1 => k_asm); (case k2 => k_asm); (case k3 => k_asm); (case k4 => k_asm); (case k5 => first | decide | exact Nat.lt_of_lt_of_le (Nat.add_lt_add_right (by assumption) 1) (by decide)); (case k6 => first | decide | exact Nat.lt_of_lt_of_le (Nat.add_lt_add_right (by assumption) 3) (by decide)); (case ka => rfl); (case k7 => with_reducible assumption); k_whole); intro h' tk' t' F' N'; (try k_sweep)))
local macro_rules | `(tactic| walk_at "call ref") => `(tactic| (k_here; (with_reducible show wpAny _ _ (call (Value.ref 91) [_]) _ _ _); k_dflt (refine' great_K ?k1 ?k2 ?k3 ?k4 ?k5 ?k6 ?ka ?k7 ?_; (case k1 => k_asm); (case k2 => k_asm); (case k3 => k_asm); (case k4 => k_asm); (case k5 => first | decide | exact Nat.lt_of_lt_of_le (Nat.add_lt_add_right (by assumption) 1) (by decide)); (case k6 => first | decide | exact Nat.lt_of_lt_of_le (Nat.add_lt_add_right (by assumption) 3) (by decide)); (case ka => rfl); (case k7 => with_reducible assumption); k_whole); intro h' tk' t' F' N'; (try k_sweep)))
theorem white_spec {w : World} {dp un : Nat} {fr : Option (List Env)} {gd : Option (List Code)} {s : Shared} {loose : List Str} {mean : ExcName → Option Value} {mg mb : Str → Option Value} {Q E : Value → Shared → Prop}
  (X : (Mine.hd.heap_1 w.params).In s.heap) (T : Top topProg loose mean mg mb s.heap) (hd : dp < 380) (hu : un < 800)
  {x : Str} {l : List Nat} {tk : Tok} (hxl : x = ⟨l.toArray⟩) (hx : ∀ c ∈ l, c < 128) (hn : l.length < 100000)
  (ret : ∀ h' tk' t', Keep s.heap h' → Q (.str ⟨(byWhite l).toArray⟩ t') { s with heap := h', toks := tk' }) : wpAny (model PySem.Challenge.rw_ij0025_02.row.toRowW.prog w) (Ar dp un fr gd) (call (.ref 112) [.str x tk]) Q E s := by
  w_top off
  (have X9 := X); revert X9; k_fill; intro X9; clear X9
  subst hxl
  refine' enter X T ?k6 ?k7 ?k8 ?k9 ?kB ?_ ?c2 ?c3 ?c4 ?c5
  case k6 => k_is
  case k7 => k_is
  case k8 => show dp < _; exact Nat.lt_of_lt_of_le hd (by decide)
  case k9 => first | exact BindsTo.of_eq rfl | exact binds_K X rfl (by k_is) rfl rfl rfl
  case c5 => decide
  case kB => exact locs rfl
  case c2 => exact rfl
  case c3 => exact rfl
  case c4 => exact rfl
  k_whole
  intro g' L' h' F' N' X' T' hg hL'
  subst hg
  clear X T
  (try dsimp only); (try k_fold)
  (repeat' (first | (k_unfold; (try dsimp only)) | walk1 | (dsimp only; walk1) | fail "no step"))
  unfold Halt
  rename Fr _ _ _ _ => F1
  rename News _ _ _ _ => N1
  refine' ksf_text (σ := List Nat × Tok × Bool) (l := l) (fun c => []) (fun c => [(Str.ofString "out", Value.str ⟨c.1.toArray⟩ c.2.1), (Str.ofString "first", Value.bool c.2.2)]) [Str.ofString "sign"] (fun i c => (l.take i).foldl bwStep ([], false) = (c.1, c.2.2)) ([], _, false) rfl hx ?ne F1 (fun p hp => N1 p hp) ?hk rfl ?turn ?done
  case hk => kst_all
  case ne => intro I hI i c _ p hp; cases hp
  case turn =>
    intro I i d td c u h3 tk3 oI hI hd hp3 F3 N3
    obtain ⟨out, tko, fst⟩ := c
    dsimp only [kstB] at F3
    dsimp only at N3 hp3
    clear F1 N1
    have hd8 : d < 128 := hx d (List.mem_of_getElem? hd)
    have hol : out.length ≤ 1000000 := by
      have := bw_length (l.take i) ([], false)
      rw [hp3, List.length_take] at this
      simp only [List.length_nil] at this
      omega
    have hst := foldl_take (f := bwStep) (b := ([], false)) hd
    rw [hp3] at hst
    unfold bwStep at hst
    have hin := white_in d hd8
    by_cases hw : d ∈ whiteL
    · rw [decide_eq_true hw] at hin
      rw [if_pos hw] at hst
      simp only [Bool.not_true] at hin
      (repeat' (first | (k_unfold; (try dsimp only)) | walk1 | (dsimp only; walk1) | fail "no step"))
      unfold Halt
      rename Fr _ _ _ _ => F9
      rename News _ _ _ _ => N9
      refine' ksf_end (out ++ (Str.ofString " ").cps.toList, _, true) F9 N9 (by k_mem) (by kst_in) ?hk (by ksw_same) (by rw [l_blank]; exact hst)
      case hk => kst_all
    · rw [decide_eq_false hw] at hin
      rw [if_neg hw] at hst
      simp only [Bool.not_false] at hin
      cases fst with
      | true =>
        (repeat' (first | (k_unfold; (try dsimp only)) | walk1 | (dsimp only; walk1) | fail "no step"))
        unfold Halt
        rename Fr _ _ _ _ => F9
        rename News _ _ _ _ => N9
        refine' ksf_end (out ++ ({ cps := #[up1 d] } : Str).cps.toList, _, false) F9 N9 (by k_mem) (by kst_in) ?hk (by ksw_same) hst
        case hk => kst_all
      | false =>
        (repeat' (first | (k_unfold; (try dsimp only)) | walk1 | (dsimp only; walk1) | fail "no step"))
        unfold Halt
        rename Fr _ _ _ _ => F9
        rename News _ _ _ _ => N9
        refine' ksf_end (out ++ ({ cps := #[lo1 d] } : Str).cps.toList, _, false) F9 N9 (by k_mem) (by kst_in) ?hk (by ksw_same) hst
        case hk => kst_all
  case done =>
    intro c u h3 tk3 hp3 F3 N3
    obtain ⟨out, tko, fst⟩ := c
    dsimp only [kstB] at F3
    dsimp only at N3 hp3
    rw [List.take_length] at hp3
    have hp4 : byWhite l = out := congrArg Prod.fst hp3
    subst hp4
    clear F1 N1
    (repeat' (first | (k_unfold; (try dsimp only)) | walk1 | (dsimp only; walk1) | fail "no step"))
    show Done _ _ _
    rename Fr _ _ _ _ => F9
    exact ret _ _ _ F9.keep
theorem white_K {w : World} {dp un : Nat} {fr : Option (List Env)} {gd : Option (List Code)} {s : Shared} {loose : List Str} {mean : ExcName → Option Value} {mg mb : Str → Option Value} {Q E : Value → Shared → Prop} {h₀ : Heap} {L : Addr} {m : Str → Option Value} {news : List (Addr × Obj)} {x : Str} {l : List Nat} {tk : Tok}
    (X : (Mine.hd.heap_1 w.params).In h₀) (T : Top topProg loose mean mg mb h₀) (F : Fr h₀ L s.heap m) (N : News h₀ L s.heap news) (hd : dp < 380) (hu : un < 800)
    (hxl : x = ⟨l.toArray⟩) (hx : ∀ c ∈ l, c < 128) (hn : l.length < 100000)
    (ret : ∀ h' tk' t', Fr h₀ L h' m → News h₀ L h' news → Q (.str ⟨(byWhite l).toArray⟩ t') { s with heap := h', toks := tk' }) :
    wpAny (model PySem.Challenge.rw_ij0025_02.row.toRowW.prog w) (Ar dp un fr gd) (call (.ref 112) [.str x tk]) Q E s :=
  white_spec (X.keeps F.keep) (T.keeps F.keep) hd hu hxl hx hn fun h' tk' t' hk => ret h' tk' t' (F.keeps hk) (N.grown hk)
end
section
local macro_rules | `(tactic| walk_at "subscriptTail Name Slice ref ref") => `(tactic| (k_here; (with_reducible show wpAny _ _ (subscriptTail _ (PySem.Expr.Slice _ _ none _) (Value.ref _) (Value.ref _)) _ _ _); k_dflt (refine' slice_L ?F ?N ?l ?p ?q ?e ?_ ?s ?t ?z; (case F => k_asm); (case N => k_asm); (case l => exact News.isList (by k_asm) (by k_mem)); (case p => kmk_part); (case q => kmk_part); (case e => first | with_reducible assumption | assumption); (case s => with_unfolding_all rfl); (case t => kmk_pure); (case z => first | assumption | omega)); intro D' h' F' N' l1; (try k_lt l1); (try k_sweep)))
local macro_rules | `(tactic| walk_at "subscriptTail Name Slice str ref") => `(tactic| (k_here; (with_reducible show wpAny _ _ (subscriptTail _ (Expr.Slice none (some _) none _) (Value.str _ _) (Value.ref _)) _ _ _); (with_reducible rename Fr _ _ _ _ => F'); (with_reducible rename News _ _ _ _ => N'); k_dflt ((refine slice_strN_ns (hsz := ?hsz) (s := ⟨_, _, _, _, _⟩) F' N' ?_); (case hsz => first | with_reducible assumption | assumption)); clear F' N'; intro h' t' k' F' N'; (try ((rename (Txt.slice _ none (some _) = _) => e'); rw [e']))))
local macro_rules | `(tactic| walk_at "subscriptTail Name Slice str ref") => `(tactic| (k_here; (with_reducible show wpAny _ _ (subscriptTail _ (Expr.Slice (some _) none none _) (Value.str _ _) (Value.ref _)) _ _ _); (with_reducible rename Fr _ _ _ _ => F'); (with_reducible rename News _ _ _ _ => N'); k_dflt ((refine slice_strN_sn (hsz := ?hsz) (s := ⟨_, _, _, _, _⟩) F' N' ?_); (case hsz => first | with_reducible assumption | assumption)); clear F' N'; intro h' t' k' F' N'; (try ((rename (Txt.slice _ (some _) none = _) => e'); rw [e']))))
local macro_rules | `(tactic| walk_at "subscriptTail Name Slice str ref") => `(tactic| (k_here; (with_reducible show wpAny _ _ (subscriptTail _ (Expr.Slice (some _) (some _) none _) (Value.str _ _) (Value.ref _)) _ _ _); (with_reducible rename Fr _ _ _ _ => F'); (with_reducible rename News _ _ _ _ => N'); k_dflt ((refine slice_strN_ss (hsz := ?hsz) (s := ⟨_, _, _, _, _⟩) F' N' ?_); (case hsz => first | with_reducible assumption | assumption)); clear F' N'; intro h' t' k' F' N'; (try ((rename (Txt.slice _ (some _) (some _) = _) => e'); rw [e']))))
local macro_rules | `(tactic| walk_at "call ref") => `(tactic| (k_here; (with_reducible show wpAny _ _ (call (Value.ref 84) [_]) _ _ _); k_dflt (refine' small_K ?k1 ?k2 ?k3 ?k4 ?k5 ?k6 ?ka ?k7 ?_; (case k1 => k_asm); (case k2 => k_asm); (case k3 => k_asm); (case k4 => k_asm); (case k5 => first | decide | exact Nat.lt_of_lt_of_le (Nat.add_lt_add_right (by assumption) 1) (by decide)); (case k6 => first | decide | exact Nat.lt_of_lt_of_le (Nat.add_lt_add_right (by assumption) 3) (by decide)); (case ka => rfl); (case k7 => with_reducible assumption); k_whole); intro h' tk' t' F' N'; (try k_sweep)))
local macro_rules | `(tactic| walk_at "call ref") => `(tactic| (k_here; (with_reducible show wpAny _ _ (call (Value.ref 91) [_]) _ _ _); k_dflt (refine' great_K ?k1 ?k2 ?k3 ?k4 ?k5 ?k6 ?ka ?k7 ?_; (case k1 => k_asm); (case k2 => k_asm); (case k3 => k_asm); (case k4 => k_asm); (case k5 => first | decide | exact Nat.lt_of_lt_of_le (Nat.add_lt_add_right (by assumption) 1) (by decide)); (case k6 => first | decide | exact Nat.lt_of_lt_of_le (Nat.add_lt_add_right (by assumption) 3) (by decide)); (case ka => rfl); (case k7 => with_reducible assumption); k_whole); intro h' tk' t' F' N'; (try k_sweep)))
local macro_rules | `(tactic| walk_at "Zz1") => `(tactic| refine Halt.intro ?_)
theorem mark_spec {w : World} {dp un : Nat} {fr : Option (List Env)} {gd : Option (List Code)} {s : Shared} {loose : List Str} {mean : ExcName → Option Value} {mg mb : Str → Option Value} {Q E : Value → Shared → Prop}
  (X : (Mine.hd.heap_1 w.params).In s.heap) (T : Top topProg loose mean mg mb s.heap) (hd : dp < 380) (hu : un < 800)
  {x y : Str} {l mk : List Nat} {tk tm : Tok} (hxl : x = ⟨l.toArray⟩) (hyl : y = ⟨mk.toArray⟩) (hx : ∀ c ∈ l, c < 128) (hn : l.length < 100000) (hm : mk ≠ []) (hml : mk.length < 10)
  (ret : ∀ h' tk' t', Keep s.heap h' → Q (.str ⟨(byMark mk l).toArray⟩ t') { s with heap := h', toks := tk' }) : wpAny (model PySem.Challenge.rw_ij0025_02.row.toRowW.prog w) (Ar dp un fr gd) (call (.ref 105) [.str x tk, .str y tm]) Q E s := by
  w_top off
  (have X9 := X); revert X9; k_fill; intro X9; clear X9
  subst hxl hyl
  refine' enter X T ?k6 ?k7 ?k8 ?k9 ?kB ?_ ?c2 ?c3 ?c4 ?c5
  case k6 => k_is
  case k7 => k_is
  case k8 => show dp < _; exact Nat.lt_of_lt_of_le hd (by decide)
  case k9 => first | exact BindsTo.of_eq rfl | exact binds_K X rfl (by k_is) rfl rfl rfl
  case c5 => decide
  case kB => exact locs rfl
  case c2 => exact rfl
  case c3 => exact rfl
  case c4 => exact rfl
  k_whole
  intro g' L' h' F' N' X' T' hg hL'
  subst hg
  clear X T
  (try dsimp only); (try k_fold)
  have hzl : (({ cps := l.toArray } : Str)).length ≤ sizeLine := fit_list (by omega)
  (repeat' (first | (k_unfold; (try dsimp only)) | walk1 | (dsimp only; walk1) | fail "no step"))
  unfold Halt
  rename Fr _ _ _ _ => F1
  rename News _ _ _ _ => N1
  rename_i r _ _ _ _ _
  refine' ksw_while (σ := Nat × Tok × List (List Nat) × List Value × Nat × Bool) (fun c => [(r, PySem.W.listOf c.2.2.2.1.toArray c.2.2.2.2.1)]) (fun c => [(Str.ofString "k", Value.int c.1 c.2.1), (Str.ofString "first", Value.bool c.2.2.2.2.2)]) (fun _ => True) [] (fun c => c.1 ≤ l.length ∧ TextsAre c.2.2.1 c.2.2.2.1 ∧ c.2.2.1.length ≤ c.1 ∧ c.2.2.1.flatten ++ bm mk 0 c.2.2.2.2.2 (l.drop c.1) = byMark mk l) (fun c => l.length - c.1) (0, _, [], [], 0, true) F1 (fun p hp => N1 p hp) trivial ?hk ⟨Nat.zero_le _, .nil, Nat.le_refl _, rfl⟩ ?turn
  case hk => kst_all
  case turn =>
    intro c u h3 tk3 hf3 hp3 F3 N3
    obtain ⟨i, ti, us, vs, k, fst⟩ := c
    dsimp only [kstB] at F3
    dsimp only at N3 hp3
    obtain ⟨hi, hP, hlen, hfl⟩ := hp3
    clear F1 N1 hf3
    have hvl := hP.length
    by_cases hlt : i < l.length
    · obtain ⟨c, hc⟩ : ∃ c, l[i]? = some c := ⟨l[i], by simp [hlt]⟩
      have hc8 : c < 128 := hx c (List.mem_of_getElem? hc)
      have hsl := sl_at l i mk.length hi
      have hdr := drop_at hc
      have hq := eq_strs ((l.drop i).take mk.length) mk
      have hm0 : 0 < mk.length := by cases mk with | nil => exact absurd rfl hm | cons => simp
      by_cases hit : (l.drop i).take mk.length = mk
      · rw [decide_eq_true hit] at hq
        rw [bm_hit hm hit, List.drop_drop] at hfl
        have hile : i + mk.length ≤ l.length := by
          have := congrArg List.length hit
          rw [List.length_take, List.length_drop] at this
          omega
        (repeat' (first | (k_unfold; (try dsimp only)) | walk1 | (dsimp only; walk1) | fail "no step"))
        unfold Halt
        rename Fr _ _ _ _ => F9
        rename News _ _ _ _ => N9
        simp only [List.push_toArray] at N9
        refine' ksw_end (i + mk.length, _, us ++ [mk], vs ++ [Value.str ⟨mk.toArray⟩ tm], k + 1, true) F9 N9 (by kst_in) trivial ?hk (by ksw_same) ⟨hile, hP.snoc, by simp; omega, by simpa using hfl⟩ (by dsimp only; omega)
        case hk => kst_all
      · rw [decide_eq_false hit] at hq
        rw [hdr] at hit hfl
        rw [bm_miss hit] at hfl
        cases fst with
        | true =>
          (repeat' (first | (k_unfold; (try dsimp only)) | walk1 | (dsimp only; walk1) | fail "no step"))
          unfold Halt
          rename Fr _ _ _ _ => F9
          rename News _ _ _ _ => N9
          simp only [List.push_toArray] at N9
          refine' ksw_end (i + 1, _, us ++ [[up1 c]], vs ++ [Value.str ⟨[up1 c].toArray⟩ _], k + 1, false) F9 N9 (by kst_in) trivial ?hk (by ksw_same) ⟨hlt, hP.snoc, by simp; omega, by simpa using hfl⟩ (by dsimp only; omega)
          case hk => kst_all
        | false =>
          (repeat' (first | (k_unfold; (try dsimp only)) | walk1 | (dsimp only; walk1) | fail "no step"))
          unfold Halt
          rename Fr _ _ _ _ => F9
          rename News _ _ _ _ => N9
          simp only [List.push_toArray] at N9
          refine' ksw_end (i + 1, _, us ++ [[lo1 c]], vs ++ [Value.str ⟨[lo1 c].toArray⟩ _], k + 1, false) F9 N9 (by kst_in) trivial ?hk (by ksw_same) ⟨hlt, hP.snoc, by simp; omega, by simpa using hfl⟩ (by dsimp only; omega)
          case hk => kst_all
    · have hil : i = l.length := by omega
      subst hil
      rw [List.drop_length] at hfl
      simp only [bm, List.append_nil] at hfl
      have hok : us.flatten.length ≤ 1000000 := by
        rw [hfl]
        have := bm_length mk l 0 true
        unfold byMark; omega
      (repeat' (first | (k_unfold; (try dsimp only)) | walk1 | (dsimp only; walk1) | fail "no step"))
      unfold Halt
      rename News _ _ _ _ => N5
      refine' join_E (News.isList N5 (by k_mem)) hP hok ?_
      clear N5
      intro t9 k9
      rw [hfl]
      (repeat' (first | (k_unfold; (try dsimp only)) | walk1 | (dsimp only; walk1) | fail "no step"))
      show Done _ _ _
      rename Fr _ _ _ _ => F9
      exact ret _ _ _ F9.keep
theorem mark_K {w : World} {dp un : Nat} {fr : Option (List Env)} {gd : Option (List Code)} {s : Shared} {loose : List Str} {mean : ExcName → Option Value} {mg mb : Str → Option Value} {Q E : Value → Shared → Prop} {h₀ : Heap} {L : Addr} {m : Str → Option Value} {news : List (Addr × Obj)} {x y : Str} {l mk : List Nat} {tk tm : Tok}
    (X : (Mine.hd.heap_1 w.params).In h₀) (T : Top topProg loose mean mg mb h₀) (F : Fr h₀ L s.heap m) (N : News h₀ L s.heap news) (hd : dp < 380) (hu : un < 800)
    (hxl : x = ⟨l.toArray⟩) (hyl : y = ⟨mk.toArray⟩) (hx : ∀ c ∈ l, c < 128) (hn : l.length < 100000) (hm : mk ≠ []) (hml : mk.length < 10)
    (ret : ∀ h' tk' t', Fr h₀ L h' m → News h₀ L h' news → Q (.str ⟨(byMark mk l).toArray⟩ t') { s with heap := h', toks := tk' }) :
    wpAny (model PySem.Challenge.rw_ij0025_02.row.toRowW.prog w) (Ar dp un fr gd) (call (.ref 105) [.str x tk, .str y tm]) Q E s :=
  mark_spec (X.keeps F.keep) (T.keeps F.keep) hd hu hxl hyl hx hn hm hml fun h' tk' t' hk => ret h' tk' t' (F.keeps hk) (N.grown hk)
end
section
local macro_rules | `(tactic| walk_at "call builtin:str.split") => `(tactic| refine Halt.intro ?_)
theorem capmark_spec {w : World} {dp un : Nat} {fr : Option (List Env)} {gd : Option (List Code)} {s : Shared} {loose : List Str} {mean : ExcName → Option Value} {mg mb : Str → Option Value} {Q E : Value → Shared → Prop}
  (X : (Mine.hd.heap_1 w.params).In s.heap) (T : Top topProg loose mean mg mb s.heap) (hd : dp < 380) (hu : un < 800)
  {x y : Str} {l mk : List Nat} {tk tm : Tok} (hxl : x = ⟨l.toArray⟩) (hyl : y = ⟨mk.toArray⟩) (hm : 1 ≤ mk.length) (hm2 : mk.length < 10) (ha : ∀ c ∈ mk, c < 128) (hl : ∀ c ∈ l, c < 128) (hn : l.length < 900)
  (ret : ∀ h' tk' t', Keep s.heap h' → Q (.str ⟨(byMark mk l).toArray⟩ t') { s with heap := h', toks := tk' }) : wpAny (model PySem.Challenge.rw_ij0025_02.row.toRowW.prog w) (Ar dp un fr gd) (call (.ref 39) [.str x tk, .str y tm]) Q E s := by
  w_top off
  (have X9 := X); revert X9; k_fill; intro X9; clear X9
  subst hxl hyl
  refine' enter X T ?k6 ?k7 ?k8 ?k9 ?kB ?_ ?c2 ?c3 ?c4 ?c5
  case k6 => k_is
  case k7 => k_is
  case k8 => show dp < _; exact Nat.lt_of_lt_of_le hd (by decide)
  case k9 => first | exact BindsTo.of_eq rfl | exact binds_K X rfl (by k_is) rfl rfl rfl
  case c5 => decide
  case kB => exact locs rfl
  case c2 => exact rfl
  case c3 => exact rfl
  case c4 => exact rfl
  k_whole
  intro g' L' h' F' N' X' T' hg hL'
  subst hg
  clear X T
  (try dsimp only); (try k_fold)
  have hy3 : ¬ ((({ cps := mk.toArray } : Str).length : Int) = 0) := by rw [str_len]; omega
  have hz1 : (({ cps := mk.toArray } : Str).length == 0) = false := by rw [str_len]; exact beq_eq_false_iff_ne.mpr (by omega)
  (repeat' (first | (k_unfold; (try dsimp only)) | walk1 | (dsimp only; walk1) | fail "no step"))
  rotate_left
  · exact absurd (by assumption) hy3
  unfold Halt
  rename Fr _ _ _ _ => F1
  rename News _ _ _ _ => N1
  refine' split_S F1 N1 hz1 (by rw [str_len]; omega) (split_M hm ha) ?_
  clear F1 N1
  intro D1 vs1 h7 tk7 F9 N9 l1 hT1
  obtain ⟨ps, rfl, hps⟩ := texts_pairs hT1
  have hw := joinY_weight mk hm (spM mk 0 l) (spM_ne mk l 0)
  have hj : joinY mk (spM mk 0 l) = l := by
    have := join_spM hm l 0 (Nat.zero_le _)
    simpa using this
  rw [hj] at hw
  have hL1 := News.isList N9 (.head _)
  clear l1
  (repeat' (first | (k_unfold; (try dsimp only)) | walk1 | (dsimp only; walk1) | fail "no step"))
  unfold Halt
  rename Fr _ _ _ _ => F9
  have ha9 : _ < _ := (by obtain ⟨o, ho, _⟩ := hL1; exact Heap.lt_size ho)
  refine' call_map hL1 ?_
  intro h2 g1 g2 g3 gsz gk
  (repeat' (first | (k_unfold; (try dsimp only)) | walk1 | (dsimp only; walk1) | fail "no step"))
  unfold Halt
  refine' joinMap rfl (Nat.ne_of_gt (Nat.lt_add_of_pos_right (by decide))) (Nat.ne_of_gt (Nat.lt_add_of_pos_right (by decide))) (Nat.ne_of_lt ha9) g1 g2 g3 (by obtain ⟨o, ho, r⟩ := hL1; exact ⟨o, gk _ _ ho, r⟩) (pairs_small hps hw (by omega)) (pairs_count hps hw (by omega)) (pairs_fit hps hw (by omega) hm2) ?_
  intro h3 tk3 t3 hk3
  have hcm := capwords_mark hm ha hl
  rw [split_M hm ha] at hcm
  rw [pairs_caps hps, hcm]
  (repeat' (first | (k_unfold; (try dsimp only)) | walk1 | (dsimp only; walk1) | fail "no step"))
  show Done _ _ _
  refine ret _ _ _ fun b o hb => hk3 _ _ ?_ (gk _ _ (F9.keep _ _ hb))
  have := Heap.lt_size (F9.keep _ _ hb)
  exact Nat.ne_of_lt this
theorem capmark_K {w : World} {dp un : Nat} {fr : Option (List Env)} {gd : Option (List Code)} {s : Shared} {loose : List Str} {mean : ExcName → Option Value} {mg mb : Str → Option Value} {Q E : Value → Shared → Prop} {h₀ : Heap} {L : Addr} {m : Str → Option Value} {news : List (Addr × Obj)} {x y : Str} {l mk : List Nat} {tk tm : Tok}
    (X : (Mine.hd.heap_1 w.params).In h₀) (T : Top topProg loose mean mg mb h₀) (F : Fr h₀ L s.heap m) (N : News h₀ L s.heap news) (hd : dp < 380) (hu : un < 800)
    (hxl : x = ⟨l.toArray⟩) (hyl : y = ⟨mk.toArray⟩) (hm : 1 ≤ mk.length) (hm2 : mk.length < 10) (ha : ∀ c ∈ mk, c < 128) (hl : ∀ c ∈ l, c < 128) (hn : l.length < 900)
    (ret : ∀ h' tk' t', Fr h₀ L h' m → News h₀ L h' news → Q (.str ⟨(byMark mk l).toArray⟩ t') { s with heap := h', toks := tk' }) :
    wpAny (model PySem.Challenge.rw_ij0025_02.row.toRowW.prog w) (Ar dp un fr gd) (call (.ref 39) [.str x tk, .str y tm]) Q E s :=
  capmark_spec (X.keeps F.keep) (T.keeps F.keep) hd hu hxl hyl hm hm2 ha hl hn fun h' tk' t' hk => ret h' tk' t' (F.keeps hk) (N.grown hk)
end
section
local macro_rules | `(tactic| walk_at "CompSrc") => `(tactic| refine Halt.intro ?_)
local macro_rules | `(tactic| walk_at "CompSrcT") => `(tactic| refine Halt.intro ?_)
local macro_rules | `(tactic| walk_at "CompEnd") => `(tactic| refine Halt.intro ?_)
local macro_rules | `(tactic| walk_at "FinE") => `(tactic| ((unfold LCg.FinE); intro D' h' tk' F' N' o1'; (try simp only [LCg.Off1, and_true] at o1'); (try simp only [List.nil_append, List.cons_append] at N'); (try dsimp only)))
local macro_rules | `(tactic| walk_at "exec For") => `(tactic| (k_here; refine wpAny_For ?_))
local macro_rules | `(tactic| walk_at "pyIter ref") => `(tactic| refine Halt.intro ?_)
local macro_rules | `(tactic| walk_at "pyIter str") => `(tactic| refine Halt.intro ?_)
local macro_rules | `(tactic| walk_at "KsfPost") => `(tactic| (dsimp only [KsfPost]))
local macro_rules | `(tactic| walk_at "KsfEnd") => `(tactic| refine Halt.intro ?_)
local macro_rules | `(tactic| walk_at "FinA") => `(tactic| ((unfold LCg.FinA); intro D' h' tk' F' N' o1'; (try simp only [LCg.Off1, and_true] at o1'); (try simp only [List.nil_append, List.cons_append] at N'); (try dsimp only)))
local macro_rules | `(tactic| walk_at "exec Assign cons ListComp") => `(tactic| (k_here; lcg_look; k_dflt (refine LCg.Assign_ListComp_U (F₀ := by k_asm) (by rfl) (by with_unfolding_all rfl) (by with_unfolding_all rfl) (by decide) (by rfl) (by decide) (by rfl) (by rfl) (by rfl) ?_)))
local macro_rules | `(tactic| walk_at "subscriptTail Name Slice ref ref") => `(tactic| (k_here; (with_reducible show wpAny _ _ (subscriptTail _ (PySem.Expr.Slice _ _ none _) (Value.ref _) (Value.ref _)) _ _ _); k_dflt (refine' slice_L ?F ?N ?l ?p ?q ?e ?_ ?s ?t ?z; (case F => k_asm); (case N => k_asm); (case l => exact News.isList (by k_asm) (by k_mem)); (case p => kmk_part); (case q => kmk_part); (case e => first | with_reducible assumption | assumption); (case s => with_unfolding_all rfl); (case t => kmk_pure); (case z => first | assumption | omega)); intro D' h' F' N' l1; (try k_lt l1); (try k_sweep)))
local macro_rules | `(tactic| walk_at "call builtin:str.split") => `(tactic| refine Halt.intro ?_)
local macro_rules | `(tactic| walk_at "call builtin:len") => `(tactic| (k_here; (with_reducible show wpAny _ _ (call (Value.builtin "len") [Value.ref _]) _ _ _); refine len_Le (by exact News.isList (by k_asm) (by k_mem)) (by with_reducible assumption) (by first | with_reducible assumption | omega) ?_))
local macro_rules | `(tactic| walk_at "binaryOp Add str str") => `(tactic| (k_here; (with_reducible show wpAny _ _ (binaryOp _ (Value.str _ _) (Value.str _ _)) _ _ _); refine add_S (by first | with_reducible exact t_open | with_reducible exact t_lazy | with_reducible exact t_close | with_reducible exact t_any | with_reducible exact t_end | with_reducible exact t_z | with_reducible rfl) (by first | with_reducible exact t_open | with_reducible exact t_lazy | with_reducible exact t_close | with_reducible exact t_any | with_reducible exact t_end | with_reducible exact t_z | with_reducible rfl) (by first | with_reducible assumption | (simp only [List.length_append, List.length_cons, List.length_nil]; omega)) ?_; intro _ _))
local macro_rules | `(tactic| walk_at "inplaceOp Add str str") => `(tactic| (k_here; (with_reducible show wpAny _ _ (inplaceOp _ (Value.str _ _) (Value.str _ _)) _ _ _); refine iadd_S (by first | with_reducible exact t_open | with_reducible exact t_lazy | with_reducible exact t_close | with_reducible exact t_any | with_reducible exact t_end | with_reducible exact t_z | with_reducible rfl) (by first | with_reducible exact t_open | with_reducible exact t_lazy | with_reducible exact t_close | with_reducible exact t_any | with_reducible exact t_end | with_reducible exact t_z | with_reducible rfl) (by first | with_reducible assumption | (simp only [List.length_append, List.length_cons, List.length_nil]; omega)) ?_; intro _ _))
local macro_rules | `(tactic| walk_at "call ref") => `(tactic| (k_here; (with_reducible show wpAny _ _ (call (Value.ref 119) [_]) _ _ _); k_dflt (refine' run_K ?k1 ?k2 ?k3 ?k4 ?k5 ?k6 ?ka ?k7 ?k8 ?_; (case k1 => k_asm); (case k2 => k_asm); (case k3 => k_asm); (case k4 => k_asm); (case k5 => first | decide | exact Nat.lt_of_lt_of_le (Nat.add_lt_add_right (by assumption) 1) (by decide)); (case k6 => first | decide | exact Nat.lt_of_lt_of_le (Nat.add_lt_add_right (by assumption) 3) (by decide)); (case ka => rfl); (case k7 => with_reducible assumption); (case k8 => first | with_reducible assumption | omega); k_whole); intro h' tk' t' F' N'; (try k_sweep)))
theorem writing_spec {w : World} {dp un : Nat} {fr : Option (List Env)} {gd : Option (List Code)} {s : Shared} {loose : List Str} {mean : ExcName → Option Value} {mg mb : Str → Option Value} {Q E : Value → Shared → Prop}
  (X : (Mine.hd.heap_1 w.params).In s.heap) (T : Top topProg loose mean mg mb s.heap) (hd : dp < 380) (hu : un < 800)
  {x : Str} {l : List Nat} {tk : Tok} (hxl : x = ⟨l.toArray⟩) (hx : ∀ c ∈ l, c < 128) (hn : l.length < 1000)
  (ret : ∀ h' tk' t', Keep s.heap h' → Q (.str ⟨(writing l).toArray⟩ t') { s with heap := h', toks := tk' }) : wpAny (model PySem.Challenge.rw_ij0025_02.row.toRowW.prog w) (Ar dp un fr gd) (call (.ref 124) [.str x tk]) Q E s := by
  w_top off
  (have X9 := X); revert X9; k_fill; intro X9; clear X9
  subst hxl
  refine' enter X T ?k6 ?k7 ?k8 ?k9 ?kB ?_ ?c2 ?c3 ?c4 ?c5
  case k6 => k_is
  case k7 => k_is
  case k8 => show dp < _; exact Nat.lt_of_lt_of_le hd (by decide)
  case k9 => first | exact BindsTo.of_eq rfl | exact binds_K X rfl (by k_is) rfl rfl rfl
  case c5 => decide
  case kB => exact locs rfl
  case c2 => exact rfl
  case c3 => exact rfl
  case c4 => exact rfl
  k_whole
  intro g' L' h' F' N' X' T' hg hL'
  subst hg
  clear X T
  (try dsimp only); (try k_fold)
  have hsp := split_M (mk := [42]) (l := l) (by decide) (by decide)
  change _ = (sp 42 l).map _ at hsp
  rw [← t_star] at hsp
  have hsm := sp_small (z := 42) hx
  have hwt := joinY_weight [42] (by decide) (sp 42 l) (sp_ne 42 l)
  have hj : joinY [42] (sp 42 l) = l := by
    have := join_spM (mk := [42]) (by decide) l 0 (Nat.zero_le _)
    rw [List.take_zero, List.nil_append] at this
    exact this
  rw [hj] at hwt
  (repeat' (first | (k_unfold; (try dsimp only)) | walk1 | (dsimp only; walk1) | fail "no step"))
  unfold Halt
  rename Fr _ _ _ _ => F1
  rename News _ _ _ _ => N1
  refine' split_S F1 N1 (by decide +kernel) (by rw [str_len]; omega) hsp ?_
  clear F1 N1
  intro D1 vs1 h7 tk7 F1 N1 l1 hT1
  have hl1 := hT1.length
  (repeat' (first | (k_unfold; (try dsimp only)) | walk1 | (dsimp only; walk1) | fail "no step"))
  unfold Halt
  rename Fr _ _ _ _ => F2
  rename News _ _ _ _ => N2
  refine' LCg.CompSrc.ledger rfl F2 N2 (.head _) (by rw [sizeLine_eq, List.size_toArray]; omega) ?_
  intro g2
  refine' rest_inv (n := vs1.toArray.size) (σ := List (List Nat) × List Value) (fun c => c.2) (fun _ => _) (fun i c => TextsAre c.1 c.2 ∧ c.1 = ((sp 42 l).take i).map runOf) ?turn ?fin vs1.toArray.size 0 ([], []) (Nat.zero_add _) ⟨.nil, rfl⟩
  case turn =>
    intro i8 c v I8 oI8 C oC D m2 h9 tk9 E9 hi8 hP9 hv9 hC9 hx9 F9 N9 off9 ne9
    obtain ⟨u, tu, hu, rfl⟩ := hT1.at _ _ (by simpa using hv9)
    have hum := List.mem_of_getElem? hu
    have hua := hsm u hum
    have hul : u.length < 100000 := by
      have := le_sum_mem (List.mem_map_of_mem (f := List.length) hum)
      omega
    have off8 := off9
    try simp only [LCg.Off3, and_true] at off9
    clear F2 N2
    (repeat' (first | (k_unfold; (try dsimp only)) | walk1 | (dsimp only; walk1) | fail "no step"))
    unfold Halt
    rename Fr _ _ _ _ => F8
    rename News _ _ _ _ => N8
    refine LCg.CompEnd.intro F8 N8 _ (by lcg_sub) off8 (by exact Or.inr ⟨_, by k_mem, rfl, _, rfl⟩) ⟨(c.1 ++ [runOf u], c.2 ++ [_]), rfl, rfl, hP9.1.snoc, ?_⟩
    rw [List.take_add_one, hu, hP9.2, List.map_append]; rfl
  case fin =>
    intro c hP
    obtain ⟨us3, vs3⟩ := c
    obtain ⟨hT3, he3⟩ := hP
    dsimp only at hT3 he3 ⊢
    rw [List.size_toArray, hl1, List.take_length] at he3
    clear F2 N2
    subst he3
    cases hs : sp 42 l with
    | nil => exact absurd hs (sp_ne 42 l)
    | cons u0 ut =>
      have hwr : writing l = [40, 63, 115, 58] ++ (runOf u0 ++ wtail ut) ++ [41, 92, 90] := by unfold writing; rw [hs]; rfl
      rw [hwr] at ret
      rw [hs] at hT3 hwt
      rw [List.map_cons] at hT3
      obtain ⟨t0, rt, rfl, hTt⟩ : ∃ t r, vs3 = .str ⟨(runOf u0).toArray⟩ t :: r ∧ TextsAre (ut.map runOf) r := by cases hT3 with | cons h => exact ⟨_, _, rfl, h⟩
      have hh0 : (Value.str ⟨(runOf u0).toArray⟩ t0 :: rt).head? = some (Value.str ⟨(runOf u0).toArray⟩ t0) := rfl
      have hr0 := runOf_length u0
      rw [List.map_cons, List.sum_cons, List.length_cons] at hwt
      rcases List.eq_nil_or_concat ut with rfl | ⟨mid, la, rfl⟩
      · have hrt : rt = [] := by cases hTt; rfl
        subst hrt
        have hpk := pick_one (Value.str ⟨(runOf u0).toArray⟩ t0)
        (repeat' (first | (k_unfold; (try dsimp only)) | walk1 | (dsimp only; walk1) | fail "no step"))
        unfold Halt
        rename Fr _ _ _ _ => F4
        rename News _ _ _ _ => N4
        rename_i D3 _ _ o3 tt _ _ D5 _ l5
        have N45 : News s.heap L' _ [(D5, PySem.W.listOf (List.toArray []) 0), (D3, LCg.lst [Value.str ⟨(runOf u0).toArray⟩ t0])] := fun p hp => N4 p ((by lcg_sub : ∀ p ∈ [(D5, PySem.W.listOf (List.toArray []) 0), (D3, LCg.lst [Value.str ⟨(runOf u0).toArray⟩ t0])], p ∈ _) p hp)
        have hD5 := Heap.lt_size (N45 _ (.head _)).1
        have hD3 := Heap.lt_size (N45 _ (.tail _ (.head _))).1
        dsimp only at hD5 hD3
        clear N4 l5 o3
        refine' ksf_list (σ := List Nat × Tok) (vs := []) (fun c => [(D5, PySem.W.listOf (List.toArray []) 0), (D3, LCg.lst [Value.str ⟨(runOf u0).toArray⟩ t0])]) (fun c => [(Str.ofString "text", Value.str ⟨c.1.toArray⟩ c.2)]) [Str.ofString "run"] (fun i c => c.1 = [40, 63, 115, 58] ++ runOf u0 ++ lz (([] : List (List Nat)).take i)) ([40, 63, 115, 58] ++ runOf u0, tt) rfl (fun c h m F N => News.isList N (.head _)) ?ne F4 (fun p hp => N45 p hp) ?hk (by simp [lz]) ?turn3 ?done3
        case hk => kst_all
        case ne =>
          intro I hI i c hc9x p hp
          rw [hI]
          simp only [List.mem_cons, List.not_mem_nil, or_false] at hp
          rcases hp with rfl | rfl
          · exact Nat.ne_of_lt hD5
          · exact Nat.ne_of_lt hD3
        case turn3 =>
          intro I i v c u h3 tk3 oI hI hv
          cases hv
        case done3 =>
          intro c u h3 tk3 hp3 F6 N6
          obtain ⟨tx, tkx⟩ := c
          dsimp only [kstB] at F6
          dsimp only at N6 hp3
          have htx : tx = [40, 63, 115, 58] ++ runOf u0 := by rw [hp3]; simp [lz]
          clear hp3
          subst htx
          clear F4 N45
          have hlr : ([Value.str ⟨(runOf u0).toArray⟩ t0] : List Value).length = 1 := rfl
          (repeat' (first | (k_unfold; (try dsimp only)) | walk1 | (dsimp only; walk1) | fail "no step"))
          show Done _ _ _
          rename Fr _ _ _ _ => F9
          have e9 : [40, 63, 115, 58] ++ (runOf u0 ++ wtail []) ++ [41, 92, 90] = [40, 63, 115, 58] ++ runOf u0 ++ [41, 92, 90] := by simp [wtail]
          rw [e9] at ret
          exact ret _ _ _ F9.keep
      · rw [List.concat_eq_append] at *
        rw [List.map_append, List.map_singleton] at hTt
        obtain ⟨ri, tl, rfl, hTm⟩ := TextsAre.split_last hTt
        have hpk := pick_mid (Value.str ⟨(runOf u0).toArray⟩ t0) (Value.str ⟨(runOf la).toArray⟩ tl) ri
        rw [wtail_snoc] at ret
        rw [List.map_append, List.sum_append, List.length_append, List.map_singleton, List.length_singleton, List.sum_cons, List.sum_nil] at hwt
        have hrl := runOf_length la
        have hril := hTm.length
        rw [List.length_map] at hril
        have hvz : (Value.str ⟨(runOf u0).toArray⟩ t0 :: (ri ++ [Value.str ⟨(runOf la).toArray⟩ tl])).length ≤ 100000 := by
          simp only [List.length_cons, List.length_append, List.length_nil]; omega
        (repeat' (first | (k_unfold; (try dsimp only)) | walk1 | (dsimp only; walk1) | fail "no step"))
        unfold Halt
        rename Fr _ _ _ _ => F4
        rename News _ _ _ _ => N4
        rename_i D3 _ _ o3 tt _ _ D5 _ l5
        have N45 : News s.heap L' _ [(D5, PySem.W.listOf (List.toArray ri) 0), (D3, LCg.lst (Value.str ⟨(runOf u0).toArray⟩ t0 :: (ri ++ [Value.str ⟨(runOf la).toArray⟩ tl])))] := fun p hp => N4 p ((by lcg_sub : ∀ p ∈ [(D5, PySem.W.listOf (List.toArray ri) 0), (D3, LCg.lst (Value.str ⟨(runOf u0).toArray⟩ t0 :: (ri ++ [Value.str ⟨(runOf la).toArray⟩ tl])))], p ∈ _) p hp)
        have hD5 := Heap.lt_size (N45 _ (.head _)).1
        have hD3 := Heap.lt_size (N45 _ (.tail _ (.head _))).1
        dsimp only at hD5 hD3
        clear N4 l5 o3
        refine' ksf_list (σ := List Nat × Tok) (vs := ri) (fun c => [(D5, PySem.W.listOf (List.toArray ri) 0), (D3, LCg.lst (Value.str ⟨(runOf u0).toArray⟩ t0 :: (ri ++ [Value.str ⟨(runOf la).toArray⟩ tl])))]) (fun c => [(Str.ofString "text", Value.str ⟨c.1.toArray⟩ c.2)]) [Str.ofString "run"] (fun i c => c.1 = [40, 63, 115, 58] ++ runOf u0 ++ lz (mid.take i)) ([40, 63, 115, 58] ++ runOf u0, tt) rfl (fun c h m F N => News.isList N (.head _)) ?ne F4 (fun p hp => N45 p hp) ?hk (by simp [lz]) ?turn3 ?done3
        case hk => kst_all
        case ne =>
          intro I hI i c hc9x p hp
          rw [hI]
          simp only [List.mem_cons, List.not_mem_nil, or_false] at hp
          rcases hp with rfl | rfl
          · exact Nat.ne_of_lt hD5
          · exact Nat.ne_of_lt hD3
        case turn3 =>
          intro I i v c u h3 tk3 oI hI hv hp3 F6 N6
          obtain ⟨tx, tkx⟩ := c
          dsimp only [kstB] at F6
          dsimp only at N6 hp3
          obtain ⟨u8, tu8, hu8, rfl⟩ := hTm.at _ _ hv
          rw [List.getElem?_map] at hu8
          obtain ⟨m8, hm8, rfl⟩ : ∃ m, mid[i]? = some m ∧ runOf m = u8 := by
            cases hq8 : mid[i]? with
            | none => rw [hq8] at hu8; cases hu8
            | some m => rw [hq8] at hu8; exact ⟨m, rfl, by simpa using hu8⟩
          have hm9 := List.mem_of_getElem? hm8
          have hml : m8.length ≤ (mid.map List.length).sum := le_sum_mem (List.mem_map_of_mem (f := List.length) hm9)
          have hrm := runOf_length m8
          have hlz := lz_length (mid.take i)
          have hts : ((mid.take i).map List.length).sum ≤ (mid.map List.length).sum := sum_take mid i
          rw [List.length_take] at hlz
          have htl : tx.length ≤ 20000 := by
            rw [hp3]
            simp only [List.length_append, List.length_cons, List.length_nil]; omega
          have hst : [40, 63, 115, 58] ++ runOf u0 ++ lz (mid.take (i + 1)) = tx ++ (if m8 = [] then [] else [40, 63, 62, 46, 42, 63] ++ runOf m8 ++ [41]) := by
            rw [List.take_add_one, hm8, hp3]
            show _ ++ lz (mid.take i ++ [m8]) = _
            rw [lz_snoc]
            simp only [List.append_assoc]
          have hne := ne_empty (runOf m8)
          clear F4 N45
          have hI0 : @Ne Nat I D5 := by rw [hI]; exact Nat.ne_of_gt hD5
          have hI1 : @Ne Nat I D3 := by rw [hI]; exact Nat.ne_of_gt hD3
          by_cases hm0 : m8 = []
          · rw [if_pos hm0] at hst
            rw [decide_eq_true (runOf_nil.mpr hm0)] at hne
            simp only [Bool.not_true] at hne
            (repeat' (first | (k_unfold; (try dsimp only)) | walk1 | (dsimp only; walk1) | fail "no step"))
            unfold Halt
            rename Fr _ _ _ _ => F8
            rename News _ _ _ _ => N8
            refine' ksf_end (tx, _) F8 N8 (by k_mem) (by kst_in) ?hk (by ksw_same) (by rw [hst]; simp)
            case hk => kst_all
          · rw [if_neg hm0] at hst
            rw [decide_eq_false (fun h => hm0 (runOf_nil.mp h))] at hne
            simp only [Bool.not_false] at hne
            (repeat' (first | (k_unfold; (try dsimp only)) | walk1 | (dsimp only; walk1) | fail "no step"))
            unfold Halt
            rename Fr _ _ _ _ => F8
            rename News _ _ _ _ => N8
            refine' ksf_end (tx ++ ([40, 63, 62, 46, 42, 63] ++ runOf m8 ++ [41]), _) F8 N8 (by k_mem) (by kst_in) ?hk (by ksw_same) (by rw [hst])
            case hk => kst_all
        case done3 =>
          intro c u h3 tk3 hp3 F6 N6
          obtain ⟨tx, tkx⟩ := c
          dsimp only [kstB] at F6
          dsimp only at N6 hp3
          rw [hril, List.take_length] at hp3
          have hlz := lz_length mid
          have htl : tx.length ≤ 20000 := by
            rw [hp3]
            simp only [List.length_append, List.length_cons, List.length_nil]; omega
          clear F4 N45
          have hgl : (Value.str ⟨(runOf u0).toArray⟩ t0 :: (ri ++ [Value.str ⟨(runOf la).toArray⟩ tl])).getLast? = some (Value.str ⟨(runOf la).toArray⟩ tl) := by
            rw [← List.cons_append, List.getLast?_concat]
          have hlr : (Value.str ⟨(runOf u0).toArray⟩ t0 :: (ri ++ [Value.str ⟨(runOf la).toArray⟩ tl])).length = mid.length + 2 := by
            simp only [List.length_cons, List.length_append, List.length_nil]; omega
          have hfit9 : ((mid.length + 2 : Nat) : Int) < 9223372036854775808 := by omega
          (repeat' (first | (k_unfold; (try dsimp only)) | walk1 | (dsimp only; walk1) | fail "no step"))
          show Done _ _ _
          rename Fr _ _ _ _ => F9
          have e9 : [40, 63, 115, 58] ++ (runOf u0 ++ (lz mid ++ [46, 42] ++ runOf la)) ++ [41, 92, 90] = tx ++ ([46, 42] ++ runOf la) ++ [41, 92, 90] := by rw [hp3]; simp only [List.append_assoc]
          rw [e9] at ret
          exact ret _ _ _ F9.keep
theorem writing_K {w : World} {dp un : Nat} {fr : Option (List Env)} {gd : Option (List Code)} {s : Shared} {loose : List Str} {mean : ExcName → Option Value} {mg mb : Str → Option Value} {Q E : Value → Shared → Prop} {h₀ : Heap} {L : Addr} {m : Str → Option Value} {news : List (Addr × Obj)} {x : Str} {l : List Nat} {tk : Tok}
    (X : (Mine.hd.heap_1 w.params).In h₀) (T : Top topProg loose mean mg mb h₀) (F : Fr h₀ L s.heap m) (N : News h₀ L s.heap news) (hd : dp < 380) (hu : un < 800)
    (hxl : x = ⟨l.toArray⟩) (hx : ∀ c ∈ l, c < 128) (hn : l.length < 1000)
    (ret : ∀ h' tk' t', Fr h₀ L h' m → News h₀ L h' news → Q (.str ⟨(writing l).toArray⟩ t') { s with heap := h', toks := tk' }) :
    wpAny (model PySem.Challenge.rw_ij0025_02.row.toRowW.prog w) (Ar dp un fr gd) (call (.ref 124) [.str x tk]) Q E s :=
  writing_spec (X.keeps F.keep) (T.keeps F.keep) hd hu hxl hx hn fun h' tk' t' hk => ret h' tk' t' (F.keeps hk) (N.grown hk)
end
theorem translateW_K {w : World} {dp un : Nat} {fr : Option (List Env)} {gd : Option (List Code)} {s : Shared} {loose : List Str} {mean : ExcName → Option Value} {mg mb : Str → Option Value} {Q E : Value → Shared → Prop} {h₀ : Heap} {L : Addr} {m : Str → Option Value} {news : List (Addr × Obj)} {x : Str} {l : List Nat} {tk : Tok}
    (X : (Mine.hd.heap_1 w.params).In h₀) (T : Top topProg loose mean mg mb h₀) (F : Fr h₀ L s.heap m) (N : News h₀ L s.heap news) (hd : dp < 380) (hu : un < 800)
    (hxl : x = ⟨l.toArray⟩) (hx : ∀ c ∈ l, Good c) (hn : l.length < 100)
    (ret : ∀ h' tk' t', Fr h₀ L h' m → News h₀ L h' news → Q (.str ⟨(writing l).toArray⟩ t') { s with heap := h', toks := tk' }) :
    wpAny (model PySem.Challenge.rw_ij0025_02.row.toRowW.prog w) (Ar dp un fr gd) (call (.ref 51) [.str x tk]) Q E s := by
  have hh : ∀ c ∈ l, c < 128 ∧ c ≠ 91 := fun c hc => ⟨(hx c hc).1, (hx c hc).2.1⟩
  refine translate_CK X T F N hd hu hxl hh (by omega) fun h' tk' t' F' N' => ?_
  rw [trText_writing hh]
  exact ret h' tk' t' F' N'
theorem capwordsW_K {w : World} {dp un : Nat} {fr : Option (List Env)} {gd : Option (List Code)} {s : Shared} {loose : List Str} {mean : ExcName → Option Value} {mg mb : Str → Option Value} {Q E : Value → Shared → Prop} {h₀ : Heap} {L : Addr} {m : Str → Option Value} {news : List (Addr × Obj)} {x : Str} {l : List Nat} {tk : Tok}
    (X : (Mine.hd.heap_1 w.params).In h₀) (T : Top topProg loose mean mg mb h₀) (F : Fr h₀ L s.heap m) (N : News h₀ L s.heap news) (hd : dp < 380) (hu : un < 800)
    (hxl : x = ⟨l.toArray⟩) (hx : ∀ c ∈ l, c < 128) (hn : l.length < 900)
    (ret : ∀ h' tk' t', Fr h₀ L h' m → News h₀ L h' news → Q (.str ⟨(caps l).toArray⟩ t') { s with heap := h', toks := tk' }) :
    wpAny (model PySem.Challenge.rw_ij0025_02.row.toRowW.prog w) (Ar dp un fr gd) (call (.ref 39) [.str x tk]) Q E s := by
  refine capwords_K X T F N hd hu (by rw [hxl, str_len]; omega) fun h' tk' t' F' N' => ?_
  rw [hxl, show Txt.join (Str.ofString " ") ((Txt.words { cps := l.toArray }).map Txt.capitalize) = ⟨(caps l).toArray⟩ from capwords_strL hx]
  exact ret h' tk' t' F' N'

theorem CodesAre.snocI {cs : List Nat} {vs : List Value} {n : Nat} {i : Int} {t : Tok} (h : CodesAre cs vs) (e : i = (n : Int)) : CodesAre (cs ++ [n]) (vs ++ [.int i t]) := by subst e; exact h.snoc
def md (x : Int) : Nat := (x.fmod 1000000).toNat
theorem md_eq (x : Int) : x.fmod 1000000 = ((md x : Nat) : Int) := (Int.toNat_of_nonneg (Int.fmod_nonneg_of_pos x (by decide))).symm
def nineN : List Nat := [1, 11, 14, 4, 7, 0, 11, 11, 1]
def drawnN (ns : List Int) : List Nat := (ns.take 10).map md ++ nineN
theorem drawn_length (ns : List Int) : (drawnN ns).length ≤ 19 := by
  unfold drawnN nineN
  simp; omega
theorem codes9 {a b c d e f g h i : Tok} : CodesAre nineN [.int 1 a, .int 11 b, .int 14 c, .int 4 d, .int 7 e, .int 0 f, .int 11 g, .int 11 h, .int 1 i] := .cons (.cons (.cons (.cons (.cons (.cons (.cons (.cons (.cons .nil))))))))
section
variable {prog : Program} {w : World} {A : Around} {E : Value → Shared → Prop} {s : Shared} {Q : Value → Shared → Prop} {h₀ : Heap} {L : Addr} {m : Str → Option Value} {news : List (Addr × Obj)}
theorem sum_cast : ∀ cs : List Nat, (cs.map fun (n : Nat) => (n : Int)).sum = ((cs.sum : Nat) : Int)
  | [] => rfl
  | c :: cs => by rw [List.map_cons, List.sum_cons, List.sum_cons, sum_cast cs]; omega
theorem sum_L {a : Addr} {vs : List Value} {cs : List Nat} (F : Fr h₀ L s.heap m) (N : News h₀ L s.heap news) (hh : A.handled = none) (hl : s.heap.IsList a vs.toArray) (hc : CodesAre cs vs)
    (h : ∀ h' tk t', Fr h₀ L h' m → News h₀ L h' news → Q (.int ((cs.sum : Nat) : Int) t') { s with heap := h', toks := tk }) : wpAny (model prog w) A (call (.builtin "sum") [.ref a]) Q E s := by
  have hall := hc.ints.allInts
  obtain ⟨xs, e⟩ := hall.items
  rw [e] at hl
  refine sum_intListG hh hl fun h' tk t' hk => ?_
  have e2 : preSum (numAt xs) xs.size = ((cs.sum : Nat) : Int) := by
    have h1 := hc.ints.numsOf
    have h2 : vs = (intItems xs).toList := by rw [← e]
    rw [h2, nums_intItems] at h1
    rw [preSum_eq, List.take_of_length_le (by simp), ← sum_cast]
    exact congrArg List.sum h1
  rw [e2]
  exact h h' tk t' (F.keeps hk) (N.grown hk)
end
theorem t_marks : Str.ofString "a_1=b" = ⟨markS.toArray⟩ := by decide +kernel
theorem marks_get {d : Nat} (h : d < 5) : markS[d]? = some (markS.getD d 0) := by
  have key : ∀ d : Fin 5, markS[d.val]? = some (markS.getD d.val 0) := by decide
  exact key ⟨d, h⟩
theorem marks_in {d : Nat} (h : d < 5) : markS.getD d 0 ∈ markS := by
  have key : ∀ d : Fin 5, markS.getD d.val 0 ∈ markS := by decide
  exact key ⟨d, h⟩
section
variable {prog : Program} {w : World} {A : Around} {E : Value → Shared → Prop} {s : Shared} {Q : Value → Shared → Prop} {t u : Tok}
theorem sub_mark {value slice : Expr} {i : Int} {d : Nat} (hi : i = (d : Int)) (hd : d < 5) (h : Q (.str ⟨[markS.getD d 0].toArray⟩ s.toks) { s with toks := s.toks + 1 })
    (hs : subscripted slice false (.str ⟨markS.toArray⟩ t) (.int i u) = operate [.str ⟨markS.toArray⟩ t, .int i u] (getItem (.str ⟨markS.toArray⟩ t) (.int i u)) := by with_unfolding_all rfl) :
    wpAny (model prog w) A (subscriptTail value slice (.str (Str.ofString "a_1=b") t) (.int i u)) Q E s := by
  rw [t_marks]
  exact sub_S (by omega) (by omega) (by rw [hi]; simpa using marks_get hd) h hs
end
/-- the law's marker -/
def markN (tot : Nat) : List Nat := [markS.getD (tot % 5) 0] ++ (if tot / 25 % 2 = 1 then [markS.getD (tot / 5 % 5) 0] else [])
theorem markN_ok (tot : Nat) : MarkOk (markN tot) := by
  refine ⟨by simp [markN], fun c hc => ?_⟩
  unfold markN at hc
  rcases List.mem_append.mp hc with hc | hc
  · rw [List.mem_singleton] at hc; subst hc; exact marks_in (Nat.mod_lt _ (by decide))
  · split at hc
    · rw [List.mem_singleton] at hc; subst hc; exact marks_in (Nat.mod_lt _ (by decide))
    · cases hc
theorem markN_length (tot : Nat) : (markN tot).length ≤ 2 := by
  unfold markN
  split <;> simp
def Hold (P : Prop) : Prop := P
@[reducible] def frMap {h₀ : Heap} {L : Addr} {h : Heap} {m : Str → Option Value} (_ : Fr h₀ L h m) : Str → Option Value := m
def patN (ns : List Int) (mk : List Nat) : List Nat := ((drawnN ns).map fun x => pieceOf x mk).flatten
theorem pat_good {ns : List Int} {mk : List Nat} (h : MarkOk mk) : ∀ c ∈ patN ns mk, Good c := by
  intro c hc
  unfold patN at hc
  obtain ⟨u, hu, hcu⟩ := List.mem_flatten.mp hc
  obtain ⟨x, _, rfl⟩ := List.mem_map.mp hu
  exact piece_good h c hcu
theorem flat_pieces {mk : List Nat} (h : mk.length ≤ 2) : ∀ l : List Nat, ((l.map fun x => pieceOf x mk).flatten).length ≤ 2 * l.length
  | [] => by simp
  | x :: l => by
    have := flat_pieces h l
    have := piece_length (x := x) h
    simp only [List.map_cons, List.flatten_cons, List.length_append, List.length_cons]; omega
theorem pat_length {ns : List Int} {mk : List Nat} (h : mk.length ≤ 2) : (patN ns mk).length ≤ 38 := by
  have := flat_pieces h (drawnN ns)
  have := drawn_length ns
  unfold patN; omega
theorem pat_black {ns : List Int} {mk : List Nat} : ∃ c ∈ patN ns mk, c ∉ whiteL := by
  refine ⟨65, ?_, by decide⟩
  unfold patN
  refine List.mem_flatten.mpr ⟨[65], List.mem_map.mpr ⟨1, ?_, by simp [pieceOf, tab14]⟩, .head _⟩
  unfold drawnN nineN
  simp
theorem writing_length {l : List Nat} (h : ∀ c ∈ l, c < 128 ∧ c ≠ 91) (hl : l.length ≤ 40) : (writing l).length ≤ 400 := by
  rw [← trText_writing h]
  have h1 := joinF_length _ (trParts_short l)
  have h2 := trParts_length l []
  change (trParts l).length ≤ _ at h2
  unfold trText
  simp only [List.length_append, List.length_cons, List.length_nil] at h2 ⊢
  omega
theorem writing_ne (l : List Nat) : writing l ≠ [] := by unfold writing; simp
theorem sl_last {l : List Nat} (h : l ≠ []) : Txt.slice ⟨l.toArray⟩ none (some (-1)) = ⟨l.dropLast.toArray⟩ := by
  have e : l = l.dropLast ++ [l.getLast h] := (List.dropLast_concat_getLast h).symm
  rw [slice_to_neg (by decide), str_len]
  have e1 : max 0 ((l.length : Int) + -1) = (l.dropLast.length : Int) := by
    have : 0 < l.length := List.length_pos_iff.mpr h
    rw [List.length_dropLast]; omega
  rw [e1]
  conv => lhs; rw [e]
  rw [List.dropLast_concat]
  exact seg_to _ _
theorem sl_rest (d : Nat) (r : List Nat) : Txt.slice ⟨(d :: r).toArray⟩ (some 1) none = ⟨r.toArray⟩ := seg_from [d] r
theorem join_sp {prog : Program} {w : World} {A : Around} {E : Value → Shared → Prop} {s : Shared} {Q : Value → Shared → Prop} {t : Tok} {D : Addr} {vs : List Value} {us : List (List Nat)} {l : List Nat} (he : joinL [32] us = l) (hl : s.heap.IsList D vs.toArray) (hi : TextsAre us vs) (hok : (us.map List.length).sum + us.length ≤ 100000)
    (h : ∀ t' k, Q (.str ⟨l.toArray⟩ t') { s with toks := k }) : wpAny (model prog w) A (call (.builtin "str.join") [.str (Str.ofString " ") t, .ref D]) Q E s := by
  subst he
  refine join_list hl hi.strs ?_ ?_
  · rw [show (Str.ofString " ").length = 1 from by decide +kernel, List.length_map, List.map_map]
    have e : (us.map (Str.length ∘ fun u => ({ cps := u.toArray } : Str))).sum = (us.map List.length).sum := congrArg List.sum (List.map_congr_left fun u _ => str_len u)
    first | (rw [e]; omega) | omega
  · have e := join_strL [32] us
    intro t' k
    rw [t_blank]
    rw [show Txt.join ⟨[32].toArray⟩ (us.map fun u => ({ cps := u.toArray } : Str)) = ⟨(joinL [32] us).toArray⟩ from e]
    exact h t' k
theorem nz_weight : ∀ us : List (List Nat), ((nz us).map List.length).sum + (nz us).length ≤ (us.map List.length).sum + us.length
  | [] => by simp [nz]
  | u :: us => by
    have ih := nz_weight us
    by_cases h : u = []
    · subst h
      rw [nz_nil, List.map_cons, List.sum_cons, List.length_cons]
      omega
    · rw [nz_cons h]
      simp only [List.map_cons, List.sum_cons, List.length_cons]
      omega
theorem joinL_len : ∀ us : List (List Nat), (joinL [32] us).length ≤ (us.map List.length).sum + us.length
  | [] => by simp [joinL]
  | [u] => by simp [joinL]
  | u :: v :: r => by
    have ih := joinL_len (v :: r)
    simp only [joinL, List.length_append, List.map_cons, List.sum_cons, List.length_cons, List.length_nil] at ih ⊢
    omega
theorem add_E {prog : Program} {w : World} {A : Around} {E : Value → Shared → Prop} {s : Shared} {Q : Value → Shared → Prop} {x y : Str} {a b l : List Nat} {t u : Tok} (ea : x = ⟨a.toArray⟩) (eb : y = ⟨b.toArray⟩) (he : a ++ b = l) (hz : l.length ≤ 1000000) (h : ∀ t' k, Q (.str ⟨l.toArray⟩ t') { s with toks := k }) :
    wpAny (model prog w) A (binaryOp .Add (.str x t) (.str y u)) Q E s := by
  subst he
  exact add_S ea eb (by rw [List.length_append] at hz; exact hz) h

local macro_rules | `(tactic| walk_at "CompSrc") => `(tactic| refine Halt.intro ?_)
local macro_rules | `(tactic| walk_at "CompSrcT") => `(tactic| refine Halt.intro ?_)
local macro_rules | `(tactic| walk_at "CompEnd") => `(tactic| refine Halt.intro ?_)
local macro_rules | `(tactic| walk_at "FinE") => `(tactic| ((unfold LCg.FinE); intro D' h' tk' F' N' o1'; (try simp only [LCg.Off1, and_true] at o1'); (try simp only [List.nil_append, List.cons_append] at N'); (try dsimp only)))
local macro_rules | `(tactic| walk_at "subscriptTail Name Slice ref ref") => `(tactic| (k_here; (with_reducible show wpAny _ _ (subscriptTail _ (PySem.Expr.Slice _ _ none _) (Value.ref _) (Value.ref _)) _ _ _); k_dflt (refine' slice_L ?F ?N ?l ?p ?q ?e ?_ ?s ?t ?z; (case F => k_asm); (case N => k_asm); (case l => exact News.isList (by k_asm) (by k_mem)); (case p => kmk_part); (case q => kmk_part); (case e => first | with_reducible assumption | assumption); (case s => with_unfolding_all rfl); (case t => kmk_pure); (case z => first | assumption | omega)); intro D' h' F' N' l1; (try k_lt l1); (try k_sweep)))
local macro_rules | `(tactic| walk_at "subscriptTail Name Slice str ref") => `(tactic| (k_here; (with_reducible show wpAny _ _ (subscriptTail _ (Expr.Slice none (some _) none _) (Value.str _ _) (Value.ref _)) _ _ _); (with_reducible rename Fr _ _ _ _ => F'); (with_reducible rename News _ _ _ _ => N'); k_dflt ((refine slice_strN_ns (hsz := ?hsz) (s := ⟨_, _, _, _, _⟩) F' N' ?_); (case hsz => first | with_reducible assumption | assumption)); clear F' N'; intro h' t' k' F' N'; (try ((rename (Txt.slice _ none (some _) = _) => e'); rw [e']))))
local macro_rules | `(tactic| walk_at "subscriptTail Name Slice str ref") => `(tactic| (k_here; (with_reducible show wpAny _ _ (subscriptTail _ (Expr.Slice (some _) none none _) (Value.str _ _) (Value.ref _)) _ _ _); (with_reducible rename Fr _ _ _ _ => F'); (with_reducible rename News _ _ _ _ => N'); k_dflt ((refine slice_strN_sn (hsz := ?hsz) (s := ⟨_, _, _, _, _⟩) F' N' ?_); (case hsz => first | with_reducible assumption | assumption)); clear F' N'; intro h' t' k' F' N'; (try ((rename (Txt.slice _ (some _) none = _) => e'); rw [e']))))
local macro_rules | `(tactic| walk_at "subscriptTail Name Slice str ref") => `(tactic| (k_here; (with_reducible show wpAny _ _ (subscriptTail _ (Expr.Slice (some _) (some _) none _) (Value.str _ _) (Value.ref _)) _ _ _); (with_reducible rename Fr _ _ _ _ => F'); (with_reducible rename News _ _ _ _ => N'); k_dflt ((refine slice_strN_ss (hsz := ?hsz) (s := ⟨_, _, _, _, _⟩) F' N' ?_); (case hsz => first | with_reducible assumption | assumption)); clear F' N'; intro h' t' k' F' N'; (try ((rename (Txt.slice _ (some _) (some _) = _) => e'); rw [e']))))
local macro_rules | `(tactic| walk_at "call builtin:str.split") => `(tactic| refine Halt.intro ?_)
local macro_rules | `(tactic| walk_at "eval ListComp") => `(tactic| (k_here; lct_look; k_dflt (refine LCt.ListComp_T (F₀ := by k_asm) (by with_unfolding_all rfl) (by decide) (by rfl) (by decide) (by rfl) ?_)))
local macro_rules | `(tactic| walk_at "FinA") => `(tactic| ((unfold LCg.FinA); intro D' h' tk' F' N' o1'; (try simp only [LCg.Off1, and_true] at o1'); (try simp only [List.nil_append, List.cons_append] at N'); (try dsimp only)))
local macro_rules | `(tactic| walk_at "binaryOp Add ref ref") => `(tactic| (k_here; (with_reducible show wpAny _ _ (binaryOp _ (Value.ref _) (Value.ref _)) _ _ _); k_dflt (refine' add_L ?F ?N ?a ?b ?_ ?z; (case F => k_asm); (case N => k_asm); (case a => exact News.isList (by k_asm) (by k_mem)); (case b => exact News.isList (by k_asm) (by k_mem)); (case z => first | with_reducible assumption | (simp only [List.length_cons, List.length_nil]; omega)); k_whole); intro D' h' F' N' l1; (try k_lt l1); (try k_sweep)))
local macro_rules | `(tactic| walk_at "exec Assign cons ListComp") => `(tactic| (k_here; k_dflt (refine LCg.Assign_ListComp_U (F₀ := by k_asm) (by rfl) (by with_unfolding_all rfl) (by with_unfolding_all rfl) (by decide) (by rfl) (by decide) (by rfl) (by rfl) (by rfl) ?_)))
local macro_rules | `(tactic| walk_at "subscriptTail") => `(tactic| (k_here; (with_reducible show wpAny _ _ (subscriptTail _ _ (Value.str (PySem.Str.ofString _) _) (Value.int _ _)) _ _ _); refine sub_mark (by with_reducible assumption) (by with_reducible assumption) ?_))
local macro_rules | `(tactic| walk_at "call builtin:sum") => `(tactic| refine Halt.intro ?_)
local macro_rules | `(tactic| walk_at "exec If") => `(tactic| refine Halt.intro ?_)
local macro_rules | `(tactic| walk_at "subscriptTail Name Constant str int") => `(tactic| (k_here; (with_reducible show wpAny _ _ (subscriptTail _ _ (Value.str (PySem.Str.mk (List.toArray _)) _) (Value.int _ _)) _ _ _); refine sub_S (by decide) (by decide) (by with_reducible assumption) ?_))
local macro_rules | `(tactic| walk_at "binaryOp Add str str") => `(tactic| (k_here; (with_reducible show wpAny _ _ (binaryOp _ (Value.str _ _) (Value.str _ _)) _ _ _); refine add_S (by first | with_reducible exact t_open | with_reducible exact t_lazy | with_reducible exact t_close | with_reducible exact t_any | with_reducible exact t_end | with_reducible exact t_z | with_reducible rfl) (by first | with_reducible exact t_open | with_reducible exact t_lazy | with_reducible exact t_close | with_reducible exact t_any | with_reducible exact t_end | with_reducible exact t_z | with_reducible rfl) (by first | with_reducible assumption | ((try simp only [List.length_append, List.length_cons, List.length_nil]); omega)) ?_; intro _ _))
local macro_rules | `(tactic| walk_at "inplaceOp Add str str") => `(tactic| (k_here; (with_reducible show wpAny _ _ (inplaceOp _ (Value.str _ _) (Value.str _ _)) _ _ _); refine iadd_S (by first | with_reducible exact t_open | with_reducible exact t_lazy | with_reducible exact t_close | with_reducible exact t_any | with_reducible exact t_end | with_reducible exact t_z | with_reducible rfl) (by first | with_reducible exact t_open | with_reducible exact t_lazy | with_reducible exact t_close | with_reducible exact t_any | with_reducible exact t_end | with_reducible exact t_z | with_reducible rfl) (by first | with_reducible assumption | ((try simp only [List.length_append, List.length_cons, List.length_nil]); omega)) ?_; intro _ _))
local macro_rules | `(tactic| walk_at "binaryOp Add str str") => `(tactic| (k_here; (with_reducible show wpAny _ _ (binaryOp _ (Value.str _ _) (Value.str _ _)) _ _ _); refine add_E (by first | with_reducible exact t_open | with_reducible exact t_lazy | with_reducible exact t_close | with_reducible exact t_any | with_reducible exact t_end | with_reducible exact t_z | with_reducible rfl) (by first | with_reducible exact t_open | with_reducible exact t_lazy | with_reducible exact t_close | with_reducible exact t_any | with_reducible exact t_end | with_reducible exact t_z | with_reducible rfl) (by with_reducible assumption) (by with_reducible assumption) ?_; intro _ _))
local macro_rules | `(tactic| walk_at "call ref") => `(tactic| (k_here; (with_reducible show wpAny _ _ (call (Value.ref 98) [_, _]) _ _ _); k_dflt (refine' piece_K ?k1 ?k2 ?k3 ?k4 ?k5 ?k6 ?ka ?_; (case k1 => k_asm); (case k2 => k_asm); (case k3 => k_asm); (case k4 => k_asm); (case k5 => first | decide | exact Nat.lt_of_lt_of_le (Nat.add_lt_add_right (by assumption) 1) (by decide)); (case k6 => first | decide | exact Nat.lt_of_lt_of_le (Nat.add_lt_add_right (by assumption) 3) (by decide)); (case ka => rfl); k_whole); intro h' tk' t' F' N'; (try k_sweep)))
local macro_rules | `(tactic| walk_at "call ref") => `(tactic| (k_here; (with_reducible show wpAny _ _ (call (Value.ref 119) [_]) _ _ _); k_dflt (refine' run_K ?k1 ?k2 ?k3 ?k4 ?k5 ?k6 ?ka ?k7 ?k8 ?_; (case k1 => k_asm); (case k2 => k_asm); (case k3 => k_asm); (case k4 => k_asm); (case k5 => first | decide | exact Nat.lt_of_lt_of_le (Nat.add_lt_add_right (by assumption) 1) (by decide)); (case k6 => first | decide | exact Nat.lt_of_lt_of_le (Nat.add_lt_add_right (by assumption) 3) (by decide)); (case ka => rfl); (case k7 => with_reducible assumption); (case k8 => first | with_reducible assumption | omega); k_whole); intro h' tk' t' F' N'; (try k_sweep)))
local macro_rules | `(tactic| walk_at "call ref") => `(tactic| (k_here; (with_reducible show wpAny _ _ (call (Value.ref 112) [_]) _ _ _); k_dflt (refine' white_K ?k1 ?k2 ?k3 ?k4 ?k5 ?k6 ?ka ?k7 ?k8 ?_; (case k1 => k_asm); (case k2 => k_asm); (case k3 => k_asm); (case k4 => k_asm); (case k5 => first | decide | exact Nat.lt_of_lt_of_le (Nat.add_lt_add_right (by assumption) 1) (by decide)); (case k6 => first | decide | exact Nat.lt_of_lt_of_le (Nat.add_lt_add_right (by assumption) 3) (by decide)); (case ka => rfl); (case k7 => with_reducible assumption); (case k8 => first | with_reducible assumption | omega); k_whole); intro h' tk' t' F' N'; (try k_sweep)))
local macro_rules | `(tactic| walk_at "call ref") => `(tactic| (k_here; (with_reducible show wpAny _ _ (call (Value.ref 91) [_]) _ _ _); k_dflt (refine' great_K ?k1 ?k2 ?k3 ?k4 ?k5 ?k6 ?ka ?k7 ?_; (case k1 => k_asm); (case k2 => k_asm); (case k3 => k_asm); (case k4 => k_asm); (case k5 => first | decide | exact Nat.lt_of_lt_of_le (Nat.add_lt_add_right (by assumption) 1) (by decide)); (case k6 => first | decide | exact Nat.lt_of_lt_of_le (Nat.add_lt_add_right (by assumption) 3) (by decide)); (case ka => rfl); (case k7 => with_reducible assumption); k_whole); intro h' tk' t' F' N'; (try k_sweep)))
local macro_rules | `(tactic| walk_at "call ref") => `(tactic| (k_here; (with_reducible show wpAny _ _ (call (Value.ref 51) [_]) _ _ _); k_dflt (refine' translateW_K ?k1 ?k2 ?k3 ?k4 ?k5 ?k6 ?ka ?k7 ?k8 ?_; (case k1 => k_asm); (case k2 => k_asm); (case k3 => k_asm); (case k4 => k_asm); (case k5 => first | decide | exact Nat.lt_of_lt_of_le (Nat.add_lt_add_right (by assumption) 1) (by decide)); (case k6 => first | decide | exact Nat.lt_of_lt_of_le (Nat.add_lt_add_right (by assumption) 3) (by decide)); (case ka => rfl); (case k7 => with_reducible assumption); (case k8 => first | with_reducible assumption | omega); k_whole); intro h' tk' t' F' N'; (try k_sweep)))
local macro_rules | `(tactic| walk_at "call ref") => `(tactic| (k_here; (with_reducible show wpAny _ _ (call (Value.ref 39) [_]) _ _ _); k_dflt (refine' capwordsW_K ?k1 ?k2 ?k3 ?k4 ?k5 ?k6 ?ka ?k7 ?k8 ?_; (case k1 => k_asm); (case k2 => k_asm); (case k3 => k_asm); (case k4 => k_asm); (case k5 => first | decide | exact Nat.lt_of_lt_of_le (Nat.add_lt_add_right (by assumption) 1) (by decide)); (case k6 => first | decide | exact Nat.lt_of_lt_of_le (Nat.add_lt_add_right (by assumption) 3) (by decide)); (case ka => rfl); (case k7 => with_reducible assumption); (case k8 => first | with_reducible assumption | omega); k_whole); intro h' tk' t' F' N'; (try k_sweep)))
local macro_rules | `(tactic| walk_at "call ref") => `(tactic| (k_here; (with_reducible show wpAny _ _ (call (Value.ref 39) [_, _]) _ _ _); k_dflt (refine' capmark_K ?k1 ?k2 ?k3 ?k4 ?k5 ?k6 ?ka ?kb ?k7 ?k8 ?k9 ?kx ?ky ?_; (case k1 => k_asm); (case k2 => k_asm); (case k3 => k_asm); (case k4 => k_asm); (case k5 => first | decide | exact Nat.lt_of_lt_of_le (Nat.add_lt_add_right (by assumption) 1) (by decide)); (case k6 => first | decide | exact Nat.lt_of_lt_of_le (Nat.add_lt_add_right (by assumption) 3) (by decide)); (case ka => rfl); (case kb => rfl); (case k7 => with_reducible assumption); (case k8 => with_reducible assumption); (case k9 => with_reducible assumption); (case kx => with_reducible assumption); (case ky => first | with_reducible assumption | omega); k_whole); intro h' tk' t' F' N'; (try k_sweep)))
local macro_rules | `(tactic| walk_at "call ref") => `(tactic| (k_here; (with_reducible show wpAny _ _ (call (Value.ref 105) [_, _]) _ _ _); k_dflt (refine' mark_K ?k1 ?k2 ?k3 ?k4 ?k5 ?k6 ?ka ?kb ?k7 ?k8 ?k9 ?kx ?_; (case k1 => k_asm); (case k2 => k_asm); (case k3 => k_asm); (case k4 => k_asm); (case k5 => first | decide | exact Nat.lt_of_lt_of_le (Nat.add_lt_add_right (by assumption) 1) (by decide)); (case k6 => first | decide | exact Nat.lt_of_lt_of_le (Nat.add_lt_add_right (by assumption) 3) (by decide)); (case ka => rfl); (case kb => rfl); (case k7 => with_reducible assumption); (case k8 => first | with_reducible assumption | omega); (case k9 => with_reducible assumption); (case kx => with_reducible assumption); k_whole); intro h' tk' t' F' N'; (try k_sweep)))
local macro_rules | `(tactic| walk_at "call ref") => `(tactic| (k_here; (with_reducible show wpAny _ _ (call (Value.ref 124) [_]) _ _ _); k_dflt (refine' writing_K ?k1 ?k2 ?k3 ?k4 ?k5 ?k6 ?ka ?k7 ?k8 ?_; (case k1 => k_asm); (case k2 => k_asm); (case k3 => k_asm); (case k4 => k_asm); (case k5 => first | decide | exact Nat.lt_of_lt_of_le (Nat.add_lt_add_right (by assumption) 1) (by decide)); (case k6 => first | decide | exact Nat.lt_of_lt_of_le (Nat.add_lt_add_right (by assumption) 3) (by decide)); (case ka => rfl); (case k7 => with_reducible assumption); (case k8 => first | with_reducible assumption | omega); k_whole); intro h' tk' t' F' N'; (try k_sweep)))
theorem law02 : PySem.Challenge.rw_ij0025_02.Holds := Mine.hd (H.with (by
  k_go0
  (repeat' (first | (k_unfold; (try dsimp only)) | walk1 | (dsimp only; walk1) | fail "no step"))
  unfold Halt
  rename Fr _ _ _ _ => F1
  rename News _ _ _ _ => N1
  rename IntsAre _ (List.take 10 _) => hI8
  rename List Int => ns
  rename Obj => oM
  rename (Obj.data _ = _) => dM
  rename_i D1 ws1 h91 hC9 hL9 l1
  have hw1 : ws1.length ≤ 10 := by rw [hI8.length, List.length_take]; omega
  refine' LCg.CompSrc.ledger rfl F1 N1 (.head _) (by rw [sizeLine_eq, List.size_toArray]; omega) ?_
  intro g
  refine' rest_inv (n := ws1.toArray.size) (σ := List Nat × List Value) (fun c => c.2) (fun _ => _) (fun i c => CodesAre c.1 c.2 ∧ c.1 = ((ns.take 10).take i).map md) ?turn ?fin ws1.toArray.size 0 ([], []) (Nat.zero_add _) ⟨.nil, rfl⟩
  case turn =>
    intro i8 c v I8 oI8 C oC D m2 h9 tk9 E9 hi8 hP9 hv9 hC9 hx9 F9 N9 off9 ne9
    obtain ⟨x, tx, rfl, hx⟩ := hI8.at _ _ (by simpa using hv9)
    have off8 := off9
    try simp only [LCg.Off3, and_true] at off9
    clear F1 N1
    (repeat' (first | (k_unfold; (try dsimp only)) | walk1 | (dsimp only; walk1) | fail "no step"))
    unfold Halt
    rename Fr _ _ _ _ => F8
    rename News _ _ _ _ => N8
    refine LCg.CompEnd.intro F8 N8 _ (by lcg_sub) off8 (by exact Or.inr ⟨_, by k_mem, rfl, _, rfl⟩) ⟨(c.1 ++ [md x], c.2 ++ [_]), rfl, rfl, hP9.1.snocI (md_eq x), ?_⟩
    rw [List.take_add_one, hx, hP9.2, List.map_append]; rfl
  case fin =>
    intro c hP
    obtain ⟨cs1, vs1⟩ := c
    obtain ⟨hc1, he1⟩ := hP
    dsimp only at hc1 he1 ⊢
    have hn1 : ws1.toArray.size = (ns.take 10).length := by rw [List.size_toArray, hI8.length]
    rw [hn1, List.take_length] at he1
    clear hn1
    have hl1 := hc1.length
    have hcl1 : cs1.length ≤ 10 := by rw [he1]; simp; omega
    have hcl2 : vs1.length + 9 ≤ 100000 := by omega
    clear F1 N1
    (repeat' (first | (k_unfold; (try dsimp only)) | walk1 | (dsimp only; walk1) | fail "no step"))
    rename Fr _ _ _ _ => F2
    rename News _ _ _ _ => N2
    rename_i Da _ tka oa La _ la D2 _ l2 _
    have hc2 : CodesAre (drawnN ns) (vs1 ++ [Value.int 1 tka, Value.int 11 (tka + 1), Value.int 14 (tka + 1 + 1), Value.int 4 (tka + 1 + 1 + 1), Value.int 7 (tka + 1 + 1 + 1 + 1), Value.int 0 (tka + 1 + 1 + 1 + 1 + 1), Value.int 11 (tka + 1 + 1 + 1 + 1 + 1 + 1), Value.int 11 (tka + 1 + 1 + 1 + 1 + 1 + 1 + 1), Value.int 1 (tka + 1 + 1 + 1 + 1 + 1 + 1 + 1 + 1)]) := by
      unfold drawnN
      rw [← he1]
      exact hc1.append codes9
    obtain ⟨vs2, hv2⟩ : ∃ v, v = vs1 ++ [Value.int 1 tka, Value.int 11 (tka + 1), Value.int 14 (tka + 1 + 1), Value.int 4 (tka + 1 + 1 + 1), Value.int 7 (tka + 1 + 1 + 1 + 1), Value.int 0 (tka + 1 + 1 + 1 + 1 + 1), Value.int 11 (tka + 1 + 1 + 1 + 1 + 1 + 1), Value.int 11 (tka + 1 + 1 + 1 + 1 + 1 + 1 + 1), Value.int 1 (tka + 1 + 1 + 1 + 1 + 1 + 1 + 1 + 1)] := ⟨_, rfl⟩
    rw [← hv2] at hc2 N2
    replace N2 : News _ _ _ [(D2, PySem.W.listOf vs2.toArray 0), (_, oM), (65, tabObj #[])] := fun p hp => N2 p (by
      simp only [List.mem_cons, List.not_mem_nil, or_false] at hp
      rcases hp with rfl | rfl | rfl
      · exact .head _
      · exact .tail _ (.tail _ (.tail _ (.tail _ (.head _))))
      · exact .tail _ (.tail _ (.tail _ (.tail _ (.tail _ (.head _))))))
    have hi2 := hc2.ints
    have hl2 := hc2.length
    have hdl := drawn_length ns
    clear hv2 hc1 he1 hl1 hcl1 hcl2 cs1 vs1 hI8 hw1 hC9 hL9 oa la
    (repeat' (first | (k_unfold; (try dsimp only)) | walk1 | (dsimp only; walk1) | fail "no step"))
    unfold Halt
    refine' sum_L F2 N2 rfl (News.isList N2 (.head _)) hc2 ?_
    clear F2 N2 hi2
    intro h22 tk22 t22 F2 N2
    obtain ⟨tot, htot⟩ : ∃ t, t = (drawnN ns).sum := ⟨_, rfl⟩
    rw [← htot]
    have he1 : (tot : Int).fmod 5 = ((tot % 5 : Nat) : Int) := fmodN tot 5
    have hd1 : tot % 5 < 5 := Nat.mod_lt _ (by decide)
    have he2 : ((tot : Int).fdiv 5).fmod 5 = ((tot / 5 % 5 : Nat) : Int) := fdm tot 5 5
    have hd2 : tot / 5 % 5 < 5 := Nat.mod_lt _ (by decide)
    have he3 : ((tot : Int).fdiv 25).fmod 2 = ((tot / 25 % 2 : Nat) : Int) := fdm tot 25 2
    (repeat' (first | (k_unfold; (try dsimp only)) | walk1 | (dsimp only; walk1) | fail "no step"))
    unfold Halt
    rename Shared => s1
    rename Fr _ _ _ _ => F3
    rename News _ _ _ _ => N3
    rename (Obj.data _ = _) => dM1
    rename Obj => oM1
    refine' wpAny_mono (Q := fun fl s' => Hold (fl = Flow.next ∧ ∃ h' tk' o t, s' = { s1 with heap := h', toks := tk' } ∧ Fr (ghostOf s1.heap [(69, 65)]) s1.heap.objs.size h' (frMap F3) ∧ News (ghostOf s1.heap [(69, 65)]) s1.heap.objs.size h' [(D2, PySem.W.listOf vs2.toArray 0), (s1.heap.objs.size + 1, o), (65, tabObj #[])] ∧ o.data = Data.cell (some (Value.str ⟨(markN tot).toArray⟩ t)))) ?hif ?hrest (fun _ _ x => x)
    case hif =>
      refine wpAny_If ?_
      by_cases hpar : tot / 25 % 2 = 1
      · have he4 : ((tot : Int).fdiv 25).fmod 2 = 1 := by rw [he3, hpar]; rfl
        have hmk : markN tot = [markS.getD (tot % 5) 0] ++ [markS.getD (tot / 5 % 5) 0] := by unfold markN; rw [if_pos hpar]
        (repeat' (first | (k_unfold; (try dsimp only)) | walk1 | (dsimp only; walk1) | fail "no step"))
        all_goals first
          | exact absurd he4 (by with_reducible assumption)
          | exact absurd (by with_reducible assumption) he4
          | (unfold Hold
             rename Fr _ _ _ _ => F8
             rename News _ _ _ _ => N8
             rename (Obj.data _ = _) => dM8
             rw [hmk]
             exact ⟨rfl, _, _, _, _, rfl, F8, N8, dM8⟩)
      · have he4 : ¬ ((tot : Int).fdiv 25).fmod 2 = 1 := by rw [he3]; omega
        have hmk : markN tot = [markS.getD (tot % 5) 0] := by unfold markN; rw [if_neg hpar]; rfl
        (repeat' (first | (k_unfold; (try dsimp only)) | walk1 | (dsimp only; walk1) | fail "no step"))
        all_goals first
          | exact absurd he4 (by with_reducible assumption)
          | exact absurd (by with_reducible assumption) he4
          | (unfold Hold
             rename Fr _ _ _ _ => F8
             rename News _ _ _ _ => N8
             rename (Obj.data _ = _) => dM8
             rw [hmk]
             exact ⟨rfl, _, _, _, _, rfl, F8, N8, dM8⟩)
    case hrest =>
      intro fl s' hH
      unfold Hold at hH
      obtain ⟨rfl, h24, tk24, oM2, t24, rfl, F4, N4, dM2⟩ := hH
      dsimp only [frMap] at F4
      clear F3 N3
      obtain ⟨mk, hmk⟩ : ∃ m, m = markN tot := ⟨_, rfl⟩
      have hmo := markN_ok tot
      have hml := markN_length tot
      rw [← hmk] at dM2 hmo hml
      clear hmk he1 hd1 he2 hd2 he3 htot
      (repeat' (first | (k_unfold; (try dsimp only)) | walk1 | (dsimp only; walk1) | fail "no step"))
      unfold Halt
      rename Fr _ _ _ _ => F5
      rename News _ _ _ _ => N5
      refine' LCg.CompSrc.ledger rfl F5 N5 (.head _) (by rw [sizeLine_eq, List.size_toArray]; omega) ?_
      intro g5
      refine' rest_inv (n := vs2.toArray.size) (σ := List (List Nat) × List Value) (fun c => c.2) (fun _ => _) (fun i c => TextsAre c.1 c.2 ∧ c.1 = ((drawnN ns).take i).map (fun x => pieceOf x mk)) ?turn ?fin vs2.toArray.size 0 ([], []) (Nat.zero_add _) ⟨.nil, rfl⟩
      case turn =>
        intro i8 c v I8 oI8 C oC D m2 h9 tk9 E9 hi8 hP9 hv9 hC9 hx9 F9 N9 off9 ne9
        obtain ⟨x, tx, hx, rfl⟩ := hc2.at _ _ (by simpa using hv9)
        have off8 := off9
        try simp only [LCg.Off3, and_true] at off9
        clear F5 N5
        (repeat' (first | (k_unfold; (try dsimp only)) | walk1 | (dsimp only; walk1) | fail "no step"))
        unfold Halt
        rename Fr _ _ _ _ => F8
        rename News _ _ _ _ => N8
        refine LCg.CompEnd.intro F8 N8 _ (by lcg_sub) off8 (by exact Or.inr ⟨_, by k_mem, rfl, _, rfl⟩) ⟨(c.1 ++ [pieceOf x mk], c.2 ++ [_]), rfl, rfl, hP9.1.snoc, ?_⟩
        rw [List.take_add_one, hx, hP9.2, List.map_append]; rfl
      case fin =>
        intro c hP
        obtain ⟨us6, vs6⟩ := c
        obtain ⟨hT6, he6⟩ := hP
        dsimp only at hT6 he6 ⊢
        rw [List.size_toArray, hl2, List.take_length] at he6
        subst he6
        clear F5 N5
        (repeat' (first | (k_unfold; (try dsimp only)) | walk1 | (dsimp only; walk1) | fail "no step"))
        unfold Halt
        rename News _ _ _ _ => N5
        refine' join_E (News.isList N5 (by k_mem)) hT6 (by have := pat_length (ns := ns) hml; change (patN ns mk).length ≤ _; omega) ?_

        intro t9 k9
        generalize hpat : (List.map (fun x => pieceOf x mk) (drawnN ns)).flatten = pat
        have hpg : ∀ c ∈ pat, Good c := by rw [← hpat]; exact pat_good hmo
        have hpl : pat.length ≤ 38 := by rw [← hpat]; exact pat_length hml
        have hpb : ∃ c ∈ pat, c ∉ whiteL := by rw [← hpat]; exact pat_black
        clear hpat hT6 hc2 hl2 hdl
        have hm0 := hmo.ne
        have hm1 := hmo.pos
        have hm10 : mk.length < 10 := by omega
        have hma : ∀ c ∈ mk, c < 128 := fun c hc => (mark_good hmo c hc).1
        have hwg : ∀ c ∈ mk ++ pat, Good c := fun c hc => (List.mem_append.mp hc).elim (mark_good hmo c) (hpg c)
        have hwa : ∀ c ∈ mk ++ pat, c < 128 := fun c hc => (hwg c hc).1
        have hwh : ∀ c ∈ mk ++ pat, c < 128 ∧ c ≠ 91 := fun c hc => ⟨(hwg c hc).1, (hwg c hc).2.1⟩
        have hwl : (mk ++ pat).length ≤ 40 := by rw [List.length_append]; omega
        have hwl2 : (mk ++ pat).length < 100 := by omega
        have hwl3 : (mk ++ pat).length < 900 := by omega
        have hwl4 : (mk ++ pat).length < 1000 := by omega
        have hwl5 : (mk ++ pat).length < 100000 := by omega
        have hbg : ∀ c ∈ byMark mk (mk ++ pat), Good c := bm_good mk _ 0 true hwg
        have hba : ∀ c ∈ byMark mk (mk ++ pat), c < 128 := fun c hc => (hbg c hc).1
        have hbl : (byMark mk (mk ++ pat)).length ≤ 40 := by unfold byMark; rw [bm_length]; exact hwl
        have hbl2 : (byMark mk (mk ++ pat)).length < 100 := by omega
        have hbl4 : (byMark mk (mk ++ pat)).length < 1000 := by omega
        have hta : ∀ c ∈ writing (mk ++ pat), c < 128 := writing_ascii hwa
        have htl := writing_length hwh hwl
        have htl3 : (writing (mk ++ pat)).length < 900 := by omega
        have hsg : ∀ c ∈ byWhite pat, Good c := by rw [byWhite_bwf]; exact bwf_good _ _ hpg
        have hsa : ∀ c ∈ byWhite pat, c < 128 := fun c hc => (hsg c hc).1
        have hpa : ∀ c ∈ pat, c < 128 := fun c hc => (hpg c hc).1
        have hpl2 : pat.length < 100 := by omega
        have hpl3 : pat.length < 900 := by omega
        have hpl5 : pat.length < 100000 := by omega
        have hsl : (byWhite pat).length ≤ 38 := by rw [byWhite_bwf, bwf_length]; exact hpl
        have hsl2 : (byWhite pat).length < 100 := by omega
        have hsl4 : (byWhite pat).length < 1000 := by omega
        have hpta : ∀ c ∈ writing pat, c < 128 := writing_ascii hpa
        have hptl := writing_length (fun c hc => ⟨(hpg c hc).1, (hpg c hc).2.1⟩) (show pat.length ≤ 40 by omega)
        have hptl3 : (writing pat).length < 900 := by omega
        have hcg : ∀ c ∈ caps pat, Good c := caps_good hpg
        have hca : ∀ c ∈ caps pat, c < 128 := fun c hc => (hcg c hc).1
        have hq1 : (({ cps := (writing (mk ++ pat)).toArray } : Str) != { cps := (writing (mk ++ pat)).toArray }) = false := bne_self_eq_false _
        have hq2 : (({ cps := (writing (byMark mk (mk ++ pat))).toArray } : Str) != { cps := (writing (byMark mk (mk ++ pat))).toArray }) = false := bne_self_eq_false _
        have hq3 : (({ cps := (byMark mk (writing (mk ++ pat))).toArray } : Str) != { cps := ((writing (byMark mk (mk ++ pat))).dropLast ++ [122]).toArray }) = false := by rw [mark_writing hmo hwa]; exact bne_self_eq_false _
        have hq4 : (({ cps := (writing (byWhite pat)).toArray } : Str) != { cps := (writing (byWhite pat)).toArray }) = false := bne_self_eq_false _
        have hq5 : (({ cps := (caps (writing pat)).toArray } : Str) != { cps := ((writing (byWhite pat)).dropLast ++ [122]).toArray }) = false := by rw [white_writing fun c hc => (hpg c hc).sign]; exact bne_self_eq_false _
        have hs1 := sl_last (writing_ne (byMark mk (mk ++ pat)))
        have hbwl := writing_length (fun c hc => ⟨(hbg c hc).1, (hbg c hc).2.1⟩) hbl
        have hswl := writing_length (fun c hc => ⟨(hsg c hc).1, (hsg c hc).2.1⟩) (show (byWhite pat).length ≤ 40 by omega)
        have hz1 : (({ cps := (writing (byMark mk (mk ++ pat))).toArray } : Str)).length ≤ sizeLine := fit_list (by omega)
        have hz2 : (({ cps := (writing (byWhite pat)).toArray } : Str)).length ≤ sizeLine := fit_list (by omega)
        have hadd1 : (writing (byMark mk (mk ++ pat))).dropLast.length + [122].length ≤ 1000000 := by rw [List.length_dropLast]; simp; omega
        have hadd2 : (writing (byWhite pat)).dropLast.length + [122].length ≤ 1000000 := by rw [List.length_dropLast]; simp; omega
        (repeat' (first | (k_unfold; (try dsimp only)) | walk1 | (dsimp only; walk1) | fail "no step"))
        unfold Halt
        refine wpAny_If ?_
        (repeat' (first | (k_unfold; (try dsimp only)) | walk1 | (dsimp only; walk1) | fail "no step"))
        unfold Halt
        refine wpAny_If ?_
        (repeat' (first | (k_unfold; (try dsimp only)) | walk1 | (dsimp only; walk1) | fail "no step"))
        have hs2 := sl_last (writing_ne (byWhite pat))
        unfold Halt
        refine wpAny_If ?_
        obtain ⟨d9, r9, hln, hcp⟩ := line_words (fun c hc => (hpg c hc).sign) hpb
        have hsp := split_M (mk := [32]) (l := byWhite pat) (by decide) (by decide)
        change _ = (sp 32 (byWhite pat)).map _ at hsp
        rw [← t_blank] at hsp
        (repeat' (first | (k_unfold; (try dsimp only)) | walk1 | (dsimp only; walk1) | fail "no step"))
        unfold Halt
        rename Fr _ _ _ _ => F6
        rename News _ _ _ _ => N6
        refine' split_S F6 N6 (by decide +kernel) (by rw [str_len]; omega) hsp ?_
        clear F6 N6
        intro D7 vs7 h7 tk7 F7 N7 l7 hT7
        k_lt l7
        have hl7 := hT7.length
        have hwt := joinY_weight [32] (by decide) (sp 32 (byWhite pat)) (sp_ne 32 _)
        have hj7 : joinY [32] (sp 32 (byWhite pat)) = byWhite pat := by
          have := join_spM (mk := [32]) (by decide) (byWhite pat) 0 (Nat.zero_le _)
          rw [List.take_zero, List.nil_append] at this
          exact this
        rw [hj7] at hwt
        (repeat' (first | (k_unfold; (try dsimp only)) | walk1 | (dsimp only; walk1) | fail "no step"))
        unfold Halt
        rename Fr _ _ _ _ => F8
        rename News _ _ _ _ => N8
        refine' LCt.CompSrcT.ledger rfl F8 N8 (.head _) (by rw [sizeLine_eq, List.size_toArray]; omega) ?_
        intro g8
        refine' restT_inv (n := vs7.toArray.size) (σ := List (List Nat) × List Value) (fun c => c.2) (fun _ => _) (fun i c => TextsAre c.1 c.2 ∧ c.1 = nz ((sp 32 (byWhite pat)).take i)) ?turn2 ?fin vs7.toArray.size 0 ([], []) (Nat.zero_add _) ⟨.nil, rfl⟩
        case turn2 =>
          intro i8 c v I8 oI8 C oC D m2 h9 tk9 E9 hi8 hP9 hv9 hC9 hx9 F9 N9 off9 ne9
          obtain ⟨us9, ys9⟩ := c
          obtain ⟨u, tu, hu, rfl⟩ := hT7.at _ _ (by simpa using hv9)
          dsimp only at N9 hP9 ⊢
          have off8 := off9
          try simp only [LCg.Off3, and_true] at off9
          clear F8 N8
          have hne := ne_empty u
          by_cases hu0 : u = []
          · rw [decide_eq_true hu0] at hne
            simp only [Bool.not_true] at hne
            (repeat' (first | (k_unfold; (try dsimp only)) | walk1 | (dsimp only; walk1) | fail "no step"))
            unfold Halt
            rename Fr _ _ _ _ => F6
            rename News _ _ _ _ => N6
            refine LCg.CompEnd.intro F6 N6 _ (by lcg_sub) off8 (by exact Or.inr ⟨_, by k_mem, rfl, _, rfl⟩) ⟨(us9, ys9), rfl, rfl, hP9.1, ?_⟩
            rw [List.take_add_one, hu, hP9.2, hu0]
            simp [nz]
          · rw [decide_eq_false hu0] at hne
            simp only [Bool.not_false] at hne
            (repeat' (first | (k_unfold; (try dsimp only)) | walk1 | (dsimp only; walk1) | fail "no step"))
            unfold Halt
            rename Fr _ _ _ _ => F6
            rename News _ _ _ _ => N6
            refine LCg.CompEnd.intro F6 N6 _ (by lcg_sub) off8 (by exact Or.inr ⟨_, by k_mem, rfl, _, rfl⟩) ⟨(us9 ++ [u], ys9 ++ [_]), rfl, rfl, hP9.1.snoc, ?_⟩
            rw [List.take_add_one, hu, hP9.2]
            simp [nz, hu0]
        case fin =>
          intro c hP
          obtain ⟨us9, ys9⟩ := c
          obtain ⟨hT9x, he9⟩ := hP
          dsimp only at hT9x he9 ⊢
          rw [List.size_toArray, hl7, List.take_length] at he9
          rw [← he9] at hln
          clear F8 N8
          have hcp9 : caps pat = [up1 d9] ++ r9 := hcp
          have hd9 : d9 < 128 := by
            have h := hca (up1 d9) (by rw [hcp9]; exact .head _)
            unfold up1 at h
            split at h <;> omega
          have hnzl : (us9.map List.length).sum + us9.length ≤ 60 := by
            rw [he9]
            have := nz_weight (sp 32 (byWhite pat))
            omega
          have hr9l : (d9 :: r9).length ≤ 60 := by
            have := joinL_len us9
            rw [hln] at this
            omega
          have hr9m : r9.length ≤ 60 := by rw [List.length_cons] at hr9l; omega
          have hl9l : (caps pat).length < 100 := by rw [hcp9]; simp; omega
          have hl9l2 : (caps pat).length < 1000 := by omega
          have h0x : (d9 :: r9)[(0 : Int).toNat]? = some d9 := rfl
          have hslr := sl_rest d9 r9
          have hz3 : (({ cps := (d9 :: r9).toArray } : Str)).length ≤ sizeLine := fit_list (by omega)
          have hadd3 : (caps pat).length ≤ 1000000 := by omega
          have hae : [up1 d9] ++ r9 = caps pat := hcp9.symm
          have hq6 : (({ cps := (caps pat).toArray } : Str) == { cps := (caps pat).toArray }) = true := beq_self_eq_true _
          have hq7 : (({ cps := (writing (caps pat)).toArray } : Str) == { cps := (writing (caps pat)).toArray }) = true := beq_self_eq_true _
          (repeat' (first | (k_unfold; (try dsimp only)) | walk1 | (dsimp only; walk1) | fail "no step"))
          unfold Halt
          rename News _ _ _ _ => N5
          refine' join_sp hln (News.isList N5 (by k_mem)) hT9x (Nat.le_trans hnzl (by decide)) ?_
          intro t9 k9
          clear hq1 hq2 hq3 hq4 hq5 hz1 hz2 hadd1 hadd2 hbwl hswl htl hptl
          (repeat' (first | (k_unfold; (try dsimp only)) | walk1 | (dsimp only; walk1) | fail "no step"))
          all_goals kc_close))
end Mine
theorem PySem.Challenge.cw_ij0025_02_holds : PySem.Challenge.rw_ij0025_02.Holds :=
  Mine.law02
