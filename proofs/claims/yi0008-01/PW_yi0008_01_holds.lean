import PyProof.Rows.All
import Wide.All
import OpenK.AllK
import Wide.FinOn
import Lean
import PySem.Challenge.RW_yi0008_01
open PySem PySem.W PyProof.Rows PySem.Calls
set_option Elab.async false
set_option maxRecDepth 100000
set_option maxHeartbeats 800000
set_option rowWalk.seconds 0
set_option linter.unusedVariables false
set_option compiler.extract_closed false
namespace Mine
-- the head: the row's looks, the start of the top's run, then open_top with own lines for o_law and o_head (the rest: HdB)
noncomputable section
set_option maxHeartbeats 8000000
noncomputable def nth (k : Nat) : Stmt := (PySem.Challenge.rw_yi0008_01.row.prog.main.body[k]?).getD (.Pass default)
noncomputable def vw : Program := { PySem.Challenge.rw_yi0008_01.row.prog with main := { PySem.Challenge.rw_yi0008_01.row.prog.main with body := [nth 0, nth 2, nth 3, nth 5, nth 6, nth 7, nth 9, nth 10] } }
noncomputable def hE : Env := { scope := PySem.Challenge.rw_yi0008_01.row.prog.main.scope, locals := mainNs, globals := mainNs, cells := [], code := .ref 13, frame := some 14 }
noncomputable def hB : List Stmt := behindTheImports PySem.Challenge.rw_yi0008_01.row.prog
noncomputable def hC : Code := .body hB hE
noncomputable def p0 : Pos := ⟨0, 0, 0, 0⟩
noncomputable def f45 : Obj := { cls := .type "code", data := .fields #[.str (Str.ofString "<module>") 182, .str (Str.ofString "<module>") 183, .str (Str.ofString "/claim/cut.py") 184, .int 1 0, .int 0 0, .int 0 0, .int 0 0, .int 0 0, .ref 11, .bool false, .int 181 0, .ref 12, .none, .none, .none, .none, .int 185 0, .int 1 0, .str (Str.ofString "/claim/cut.py") 186] }
noncomputable def f46 : Obj := { cls := .type "frame", slots := #[some (.ref 13), some (.ref 3), some (.ref 3), none, some (.str (Str.ofString "__main__") 164), none, some (.ref 0)] }
noncomputable def hH (P : Params) : Heap := { objs := #[boot_o_0 P, boot_o_1 P, boot_o_2 P, boot_o_3 P, boot_o_4 P, boot_o_5 P, boot_o_6 P, boot_o_7 P, boot_o_8 P, boot_o_9 P, boot_o_10 P, { cls := .type "tuple", data := .seq #[] }, { cls := .none, data := .fields #[] }, f45, f46] }
noncomputable def hT (P : Params) : BT := .node (boot_o_0 P)
    (.node (boot_o_1 P) (.node (boot_o_3 P) (.node (boot_o_7 P) .nil .nil) (.node { cls := .type "tuple", data := .seq #[] } .nil .nil)) (.node (boot_o_5 P) (.node (boot_o_9 P) .nil .nil) (.node f45 .nil .nil)))
    (.node (boot_o_2 P) (.node (boot_o_4 P) (.node (boot_o_8 P) .nil .nil) (.node { cls := .none, data := .fields #[] } .nil .nil)) (.node (boot_o_6 P) (.node (boot_o_10 P) .nil .nil) (.node f46 .nil .nil)))
noncomputable abbrev hS (w : World) (os : OsState) : SharedT := ⟨hT w.params, 15, {}, #[], {}, 187, os⟩
theorem h_pre (w : World) (os : OsState) : topGo treeTable PySem.Challenge.rw_yi0008_01.row.prog w 11 (some (.ref 6)) 12 ⟨boot_heap w.params, #[], boot_drawn, boot_toks, os⟩ (topStub PySem.Challenge.rw_yi0008_01.row.prog) = some (⟨hH w.params, #[], {}, 187, os⟩, ⟨denote treeTable hC, hC, p0, [topFrame p0]⟩) := by kernel_rfl
theorem h_block (w : World) (os : OsState) : segRun treeTable PySem.Challenge.rw_yi0008_01.row.prog w 11 (some (.ref 6)) 1 1 ⟨hH w.params, #[], {}, 187, os⟩ (blockOf hB hE hC p0 [topFrame p0]) = some (.next, (hS w os).abs, hC, p0) := by kernel_rfl
theorem h_fin {w : World} {s : Shared} {c : Code} {q : Pos} : topRun treeTable PySem.Challenge.rw_yi0008_01.row.prog w 11 (some (.ref 6)) 2 s ⟨doneF .next, c, q, [topFrame p0]⟩ = some s := by
  obtain ⟨h, g, d, k, os⟩ := s
  rfl
theorem h_size (w : World) : ((boot_heap w.params).isNs mainGlobals && (#[] : Array GenState).size == 0, (boot_heap w.params).objs.size, (boot_heap w.params).nsMap mainGlobals "__annotations__") = (true, 11, some (.ref 6)) := by kernel_rfl
theorem h_open : ∀ w : World, (fencedOpening treeTable PySem.Challenge.rw_yi0008_01.row.prog w 6198).map (fun s => (s.heap, s.gens, s.drawn, s.toks)) = some (boot_heap w.params, Array.mk [], boot_drawn, boot_toks) :=
  boot_open (by kernel_rfl) (by rfl) (fun s => by kernel_rfl)
noncomputable abbrev lo : List Str := [Str.ofString "PolynomialRing", Str.ofString "PolynomialNTT"]
theorem said_ : PySem.Challenge.rw_yi0008_01.wellSaid = true := by
  unfold OpenLaw.wellSaid OpenRow.wellSaid OpenRow.partSaid looksOpen
  repeat' with_reducible refine look_both ?_ ?_
  all_goals (try rw [PySem.W.Fast.te8377067652309620493])
  all_goals (try rw [PySem.W.Fast.te8326940854005059898])
  all_goals (try rw [PySem.W.Fast.te17119622794617984870])
  all_goals as_aux_lemma => decide +kernel
set_option hygiene false in
local macro_rules | `(tactic| o_head $H) => `(tactic| (refine (fun (hz : _ ∧ _) => holds_open (q := Mine.vw) (loose := Mine.lo) (Xt := fun s => xlAt Mine.vw [] s && recOk (RowW.records (OpenRow.toRowW (OpenLaw.row PySem.Challenge.rw_yi0008_01))) s) (XP := XL Mine.vw []) (Yf := Hook.obs $H) (Ya := Hook.val $H) (YP := Hook.says $H) (N := 6198) hz.1 (Hook.of $H) (Hook.keeps $H) (fun s e => xl_of s (Bool.and_eq_true_iff.mp e).1) XL.keeps (by rfl) (by rfl) (by rfl) (fun s e => recFacts_of (Bool.and_eq_true_iff.mp e).2) (by rfl) (by first | assumption | decide +kernel) (by decide +kernel) ⟨rfl, rfl, rfl, rfl, rfl, by decide +kernel⟩ ?hw hz.2) ?hc))
local macro_rules | `(tactic| o_law) => `(tactic| refine holds_law Mine.said_ fun said => ?_)
open_top hd for PySem.Challenge.rw_yi0008_01
end

-- the top's run in three pieces: the states after its 4th and 7th statement written out (wip/Gen.lean prints asL, q.., tr..), the row's own parts by their way
noncomputable section
set_option maxHeartbeats 8000000
namespace HG
noncomputable def sAt (l : List Stmt) (k : Nat) : Stmt := (l[k]?).getD (.Pass default)
noncomputable def fnA : Stmt → Arguments
  | .FunctionDef _ a _ _ _ _ _ _ _ _ => a
  | _ => ⟨[], [], none, [], [], none, []⟩
noncomputable def fnB : Stmt → List Stmt
  | .FunctionDef _ _ b _ _ _ _ _ _ _ => b
  | _ => []
noncomputable def fnS : Stmt → Scope
  | .FunctionDef _ _ _ _ _ _ s _ _ _ => s
  | _ => default
noncomputable def clB : Stmt → List Stmt
  | .ClassDef _ _ _ b _ _ _ _ _ _ _ => b
  | _ => []
noncomputable def clS : Stmt → Scope
  | .ClassDef _ _ _ _ _ _ s _ _ _ _ => s
  | _ => default
noncomputable abbrev st := Str.ofString
noncomputable abbrev kh := PyData.keyHash
noncomputable abbrev vs := Value.str
noncomputable abbrev vi := Value.int
noncomputable abbrev vr := Value.ref
noncomputable abbrev de := DictEntry.mk
noncomputable abbrev tn := BT.node
noncomputable abbrev tz := BT.nil
noncomputable def kO (a : Nat) (P : Params) : Obj := ((Mine.hd.heap_1 P).lookup a).getD default
noncomputable def asL : List Nat := [2, 3, 15, 17, 18, 20, 21, 29, 31, 32, 34, 35, 36, 38, 39, 41, 42, 43, 45, 46, 48, 49, 50, 52, 53, 55, 56, 57, 58, 59, 60, 61, 71, 73, 74, 76, 77, 78, 80, 81, 83, 84, 85, 87, 88, 90, 91, 92, 95, 96, 97, 99, 100, 102, 103, 104, 106, 107, 109, 110, 111, 113, 114, 116, 117, 118, 121, 122, 123, 126, 127, 128, 131, 132, 133, 135, 136, 138, 139, 140, 142, 143, 145, 146, 147, 149, 150, 152, 153, 154, 157, 158, 159, 161, 162, 164, 165, 166, 168, 169, 171, 172, 173, 175, 176, 178, 179, 180, 183, 184, 185, 187, 188, 190, 191, 192, 194, 195, 197, 198, 199, 201, 202, 204, 205, 206, 208, 209, 211, 212, 213, 215, 216, 218, 219, 220, 221, 222, 223, 224, 227, 234, 237, 238, 239, 241, 242, 244, 245, 246, 247, 248, 249, 251, 252, 254, 255, 256, 257, 259, 260, 262, 263, 264, 265, 267, 268, 270, 271, 272, 273, 275, 276, 278, 279, 280, 281, 282, 285, 292, 294, 295, 297, 298, 299, 301, 302, 304, 305, 306, 308, 309, 311, 312, 313, 315, 316, 318, 319, 320, 322, 323, 325, 326, 327, 329, 330, 332, 333, 334, 336, 337, 339, 340, 341, 343, 344, 346, 347, 348, 349, 350, 353, 360, 362, 363, 365, 366, 367, 369, 370, 372, 373, 374, 376, 377, 379, 380, 381, 383, 384, 386, 387, 388, 389, 390, 391, 393, 394, 396, 397, 398, 400, 401, 403, 404, 405, 407, 408, 410, 411, 412, 414, 415, 417, 418, 419, 422, 423, 424, 425, 426, 429, 431, 432, 434, 435, 436, 439, 440]
noncomputable def q1 (P : Params) : Obj := (Obj.mk (Value.type "dict") Option.none (Data.dict #[(de (kh P (st "__name__")) (vs (st "__name__") 165) (vs (st "kyber_py.polynomials.polynomials_generic") 194)), (de (kh P (st "__doc__")) (vs (st "__doc__") 166) Value.none), (de (kh P (st "__package__")) (vs (st "__package__") 167) Value.none), (de (kh P (st "__loader__")) (vs (st "__loader__") 168) (Value.builtin "__main__.__loader__#opaque")), (de (kh P (st "__spec__")) (vs (st "__spec__") 169) Value.none), (de (kh P (st "__annotations__")) (vs (st "__annotations__") 170) (vr 6)), (de (kh P (st "__builtins__")) (vs (st "__builtins__") 171) (vr 4)), (de (kh P (st "__file__")) (vs (st "__file__") 173) (vs (st "/claim/cut.py") 172)), (de (kh P (st "__cached__")) (vs (st "__cached__") 174) Value.none), (de (kh P (st "_wall")) (vs (st "_wall") 193) (vr 21)), (de (kh P (st "GenericPolynomialRing")) (vs (st "GenericPolynomialRing") 248) (vr 59)), (de (kh P (st "GenericPolynomial")) (vs (st "GenericPolynomial") 447) (vr 222))] 12) #[])
noncomputable def q2 (P : Params) : Obj := (Obj.mk (Value.type "tuple") Option.none (Data.seq #[] 0) #[])
noncomputable def q3 (P : Params) : Obj := (Obj.mk Value.none Option.none (Data.fields #[(vi 1 0), (vi 0 0), (vr 20), (vi 5 0), (vi 0 0), (vr 27), (vi 23 0), (vi 0 0), (vr 69)]) #[])
noncomputable def q4 (P : Params) : Obj := (Obj.mk (Value.type "code") Option.none (Data.fields #[(vs (st "<module>") 182), (vs (st "<module>") 183), (vs (st "/claim/cut.py") 184), (vi 1 0), (vi 0 0), (vi 0 0), (vi 0 0), (vi 0 0), (vr 11), (Value.bool Bool.false), (vi 181 0), (vr 12), Value.none, Value.none, Value.none, Value.none, (vi 185 0), (vi 1 0), (vs (st "/claim/cut.py") 186)]) #[])
noncomputable def q5 (P : Params) : Obj := (Obj.mk (Value.type "frame") Option.none Data.plain #[(Option.some (vr 13)), (Option.some (vr 3)), (Option.some (vr 3)), Option.none, (Option.some (vs (st "__main__") 164)), Option.none, (Option.some (vr 0))])
noncomputable def q6 (P : Params) : Obj := (Obj.mk Value.none Option.none (Data.fields #[]) #[])
noncomputable def q7 (P : Params) : Obj := (Obj.mk Value.none Option.none (Data.func (FuncData.mk (st "_wall") (st "_wall") (fnA (nth 0)) (FuncBody.stmts (fnB (nth 0))) (fnS (nth 0)) 0 [] Value.none Value.none Value.none Value.none Option.none Value.none Value.none 0)) #[])
noncomputable def q8 (P : Params) : Obj := (Obj.mk (Value.type "builtin_function_or_method") Option.none (Data.fields #[(Value.builtin "type.__prepare__"), (Value.type "type")]) #[])
noncomputable def q9 (P : Params) : Obj := (Obj.mk (Value.type "dict") Option.none (Data.dict #[(de (kh P (st "__module__")) (vs (st "__module__") 203) (vs (st "kyber_py.polynomials.polynomials_generic") 194)), (de (kh P (st "__qualname__")) (vs (st "__qualname__") 205) (vs (st "GenericPolynomialRing") 204)), (de (kh P (st "__firstlineno__")) (vs (st "__firstlineno__") 207) (vi 5 206)), (de (kh P (st "__init__")) (vs (st "__init__") 216) (vr 35)), (de (kh P (st "zero")) (vs (st "zero") 223) (vr 42)), (de (kh P (st "gen")) (vs (st "gen") 230) (vr 49)), (de (kh P (st "__call__")) (vs (st "__call__") 238) (vr 56)), (de (kh P (st "__static_attributes__")) (vs (st "__static_attributes__") 241) (vr 57))] 8) #[])
noncomputable def q10 (P : Params) : Obj := (Obj.mk Value.none Option.none (Data.fields #[(vi 7 0), (vi 4 0), (vr 34), (vi 11 0), (vi 4 0), (vr 41), (vi 14 0), (vi 4 0), (vr 48), (vi 17 0), (vi 4 0), (vr 55)]) #[])
noncomputable def q11 (P : Params) : Obj := (Obj.mk (Value.type "code") Option.none (Data.fields #[(vs (st "GenericPolynomialRing") 198), (vs (st "GenericPolynomialRing") 199), (vs (st "/claim/cut.py") 200), (vi 5 0), (vi 0 0), (vi 0 0), (vi 0 0), (vi 0 0), (vr 25), (Value.bool Bool.false), (vi 181 0), (vr 26), Value.none, Value.none, Value.none, Value.none, (vi 201 0), (vi 5 0), (vs (st "/claim/cut.py") 202)]) #[])
noncomputable def q12 (P : Params) : Obj := (Obj.mk (Value.type "frame") Option.none Data.plain #[(Option.some (vr 27)), (Option.some (vr 3)), (Option.some (vr 24)), Option.none, (Option.some (vs (st "kyber_py.polynomials.polynomials_generic") 194)), Option.none, (Option.some (vr 0))])
noncomputable def q13 (P : Params) : Obj := (Obj.mk Value.none Option.none (Data.func (FuncData.mk (st "__init__") (st "GenericPolynomialRing.__init__") (fnA (sAt (clB (nth 2)) 0)) (FuncBody.stmts (fnB (sAt (clB (nth 2)) 0))) (fnS (sAt (clB (nth 2)) 0)) 0 [] Value.none Value.none Value.none Value.none Option.none Value.none Value.none 0)) #[])
noncomputable def q14 (P : Params) : Obj := (Obj.mk Value.none Option.none (Data.func (FuncData.mk (st "zero") (st "GenericPolynomialRing.zero") (fnA (sAt (clB (nth 2)) 1)) (FuncBody.stmts (fnB (sAt (clB (nth 2)) 1))) (fnS (sAt (clB (nth 2)) 1)) 0 [] Value.none Value.none Value.none Value.none Option.none Value.none Value.none 0)) #[])
noncomputable def q15 (P : Params) : Obj := (Obj.mk Value.none Option.none (Data.func (FuncData.mk (st "gen") (st "GenericPolynomialRing.gen") (fnA (sAt (clB (nth 2)) 2)) (FuncBody.stmts (fnB (sAt (clB (nth 2)) 2))) (fnS (sAt (clB (nth 2)) 1)) 0 [] Value.none Value.none Value.none Value.none Option.none Value.none Value.none 0)) #[])
noncomputable def q16 (P : Params) : Obj := (Obj.mk Value.none Option.none (Data.func (FuncData.mk (st "__call__") (st "GenericPolynomialRing.__call__") (fnA (sAt (clB (nth 2)) 3)) (FuncBody.stmts (fnB (sAt (clB (nth 2)) 3))) (fnS (sAt (clB (nth 2)) 3)) 0 [] Value.none Value.none Value.none Value.none Option.none Value.none Value.none 0)) #[])
noncomputable def q17 (P : Params) : Obj := (Obj.mk (Value.type "type") Option.none (Data.cls (ClassData.mk (st "GenericPolynomialRing") [(Value.type "object")] [(vr 59), (Value.type "object")] 58 (st "GenericPolynomialRing") Bool.true [] [] Bool.false Option.none Bool.false)) #[Option.none, Option.none, (Option.some (vs (st "GenericPolynomialRing") 196)), (Option.some (vs (st "GenericPolynomialRing") 204)), (Option.some (Value.builtin "object.__new__")), (Option.some (Value.bool Bool.true))])
noncomputable def q18 (P : Params) : Obj := (Obj.mk (Value.type "super") Option.none (Data.fields #[(vr 59), (vr 59), (vr 59)]) #[])
noncomputable def q19 (P : Params) : Obj := (Obj.mk (Value.type "builtin_function_or_method") Option.none (Data.fields #[(Value.builtin "object.__init_subclass__"), (vr 59)]) #[])
noncomputable def q20 (P : Params) : Obj := (Obj.mk (Value.type "dict") Option.none (Data.dict #[(de (kh P (st "__module__")) (vs (st "__module__") 256) (vs (st "kyber_py.polynomials.polynomials_generic") 194)), (de (kh P (st "__qualname__")) (vs (st "__qualname__") 258) (vs (st "GenericPolynomial") 257)), (de (kh P (st "__firstlineno__")) (vs (st "__firstlineno__") 260) (vi 23 259)), (de (kh P (st "__init__")) (vs (st "__init__") 269) (vr 77)), (de (kh P (st "is_zero")) (vs (st "is_zero") 276) (vr 84)), (de (kh P (st "is_constant")) (vs (st "is_constant") 283) (vr 91)), (de (kh P (st "_parse_coefficients")) (vs (st "_parse_coefficients") 289) (vr 96)), (de (kh P (st "reduce_coefficients")) (vs (st "reduce_coefficients") 296) (vr 103)), (de (kh P (st "_add_mod_q")) (vs (st "_add_mod_q") 305) (vr 110)), (de (kh P (st "_sub_mod_q")) (vs (st "_sub_mod_q") 314) (vr 117)), (de (kh P (st "_schoolbook_multiplication")) (vs (st "_schoolbook_multiplication") 320) (vr 122)), (de (kh P (st "__neg__")) (vs (st "__neg__") 326) (vr 127)), (de (kh P (st "_add_")) (vs (st "_add_") 332) (vr 132)), (de (kh P (st "__add__")) (vs (st "__add__") 341) (vr 139)), (de (kh P (st "__radd__")) (vs (st "__radd__") 349) (vr 146)), (de (kh P (st "__iadd__")) (vs (st "__iadd__") 357) (vr 153)), (de (kh P (st "_sub_")) (vs (st "_sub_") 363) (vr 158)), (de (kh P (st "__sub__")) (vs (st "__sub__") 372) (vr 165)), (de (kh P (st "__rsub__")) (vs (st "__rsub__") 380) (vr 172)), (de (kh P (st "__isub__")) (vs (st "__isub__") 388) (vr 179)), (de (kh P (st "__mul__")) (vs (st "__mul__") 394) (vr 184)), (de (kh P (st "__rmul__")) (vs (st "__rmul__") 402) (vr 191)), (de (kh P (st "__imul__")) (vs (st "__imul__") 410) (vr 198)), (de (kh P (st "__pow__")) (vs (st "__pow__") 420) (vr 205)), (de (kh P (st "__eq__")) (vs (st "__eq__") 428) (vr 212)), (de (kh P (st "__getitem__")) (vs (st "__getitem__") 436) (vr 219)), (de (kh P (st "__static_attributes__")) (vs (st "__static_attributes__") 439) (vr 220))] 27) #[])
noncomputable def q21 (P : Params) : Obj := (Obj.mk Value.none Option.none (Data.fields #[(vi 25 0), (vi 4 0), (vr 76), (vi 29 0), (vi 4 0), (vr 83), (vi 32 0), (vi 4 0), (vr 90), (vi 35 0), (vi 4 0), (vr 95), (vi 43 0), (vi 4 0), (vr 102), (vi 46 0), (vi 4 0), (vr 109), (vi 49 0), (vi 4 0), (vr 116), (vi 52 0), (vi 4 0), (vr 121), (vi 65 0), (vi 4 0), (vr 126), (vi 69 0), (vi 4 0), (vr 131), (vi 79 0), (vi 4 0), (vr 138), (vi 83 0), (vi 4 0), (vr 145), (vi 86 0), (vi 4 0), (vr 152), (vi 90 0), (vi 4 0), (vr 157), (vi 100 0), (vi 4 0), (vr 164), (vi 104 0), (vi 4 0), (vr 171), (vi 107 0), (vi 4 0), (vr 178), (vi 111 0), (vi 4 0), (vr 183), (vi 120 0), (vi 4 0), (vr 190), (vi 123 0), (vi 4 0), (vr 197), (vi 127 0), (vi 4 0), (vr 204), (vi 141 0), (vi 4 0), (vr 211), (vi 149 0), (vi 4 0), (vr 218)]) #[])
noncomputable def q22 (P : Params) : Obj := (Obj.mk (Value.type "code") Option.none (Data.fields #[(vs (st "GenericPolynomial") 251), (vs (st "GenericPolynomial") 252), (vs (st "/claim/cut.py") 253), (vi 23 0), (vi 0 0), (vi 0 0), (vi 0 0), (vi 0 0), (vr 67), (Value.bool Bool.false), (vi 181 0), (vr 68), Value.none, Value.none, Value.none, Value.none, (vi 254 0), (vi 23 0), (vs (st "/claim/cut.py") 255)]) #[])
noncomputable def q23 (P : Params) : Obj := (Obj.mk (Value.type "frame") Option.none Data.plain #[(Option.some (vr 69)), (Option.some (vr 3)), (Option.some (vr 66)), Option.none, (Option.some (vs (st "kyber_py.polynomials.polynomials_generic") 194)), Option.none, (Option.some (vr 0))])
noncomputable def q24 (P : Params) : Obj := (Obj.mk Value.none Option.none (Data.func (FuncData.mk (st "__init__") (st "GenericPolynomial.__init__") (fnA (sAt (clB (nth 3)) 0)) (FuncBody.stmts (fnB (sAt (clB (nth 3)) 0))) (fnS (sAt (clB (nth 3)) 0)) 0 [] Value.none Value.none Value.none Value.none Option.none Value.none Value.none 0)) #[])
noncomputable def q25 (P : Params) : Obj := (Obj.mk Value.none Option.none (Data.func (FuncData.mk (st "is_zero") (st "GenericPolynomial.is_zero") (fnA (sAt (clB (nth 3)) 1)) (FuncBody.stmts (fnB (sAt (clB (nth 3)) 1))) (fnS (sAt (clB (nth 2)) 1)) 0 [] Value.none Value.none Value.none Value.none Option.none Value.none Value.none 0)) #[])
noncomputable def q26 (P : Params) : Obj := (Obj.mk Value.none Option.none (Data.func (FuncData.mk (st "is_constant") (st "GenericPolynomial.is_constant") (fnA (sAt (clB (nth 3)) 2)) (FuncBody.stmts (fnB (sAt (clB (nth 3)) 2))) (fnS (sAt (clB (nth 3)) 2)) 0 [] Value.none Value.none Value.none Value.none Option.none Value.none Value.none 0)) #[])
noncomputable def q27 (P : Params) : Obj := (Obj.mk Value.none Option.none (Data.func (FuncData.mk (st "_parse_coefficients") (st "GenericPolynomial._parse_coefficients") (fnA (sAt (clB (nth 3)) 3)) (FuncBody.stmts (fnB (sAt (clB (nth 3)) 3))) (fnS (sAt (clB (nth 3)) 3)) 0 [] Value.none Value.none Value.none Value.none Option.none Value.none Value.none 0)) #[])
noncomputable def q28 (P : Params) : Obj := (Obj.mk Value.none Option.none (Data.func (FuncData.mk (st "reduce_coefficients") (st "GenericPolynomial.reduce_coefficients") (fnA (sAt (clB (nth 3)) 4)) (FuncBody.stmts (fnB (sAt (clB (nth 3)) 4))) (fnS (sAt (clB (nth 2)) 1)) 0 [] Value.none Value.none Value.none Value.none Option.none Value.none Value.none 0)) #[])
noncomputable def q29 (P : Params) : Obj := (Obj.mk Value.none Option.none (Data.func (FuncData.mk (st "_add_mod_q") (st "GenericPolynomial._add_mod_q") (fnA (sAt (clB (nth 3)) 5)) (FuncBody.stmts (fnB (sAt (clB (nth 3)) 5))) (fnS (sAt (clB (nth 3)) 5)) 0 [] Value.none Value.none Value.none Value.none Option.none Value.none Value.none 0)) #[])
noncomputable def q30 (P : Params) : Obj := (Obj.mk Value.none Option.none (Data.func (FuncData.mk (st "_sub_mod_q") (st "GenericPolynomial._sub_mod_q") (fnA (sAt (clB (nth 3)) 6)) (FuncBody.stmts (fnB (sAt (clB (nth 3)) 6))) (fnS (sAt (clB (nth 3)) 5)) 0 [] Value.none Value.none Value.none Value.none Option.none Value.none Value.none 0)) #[])
noncomputable def q31 (P : Params) : Obj := (Obj.mk Value.none Option.none (Data.func (FuncData.mk (st "_schoolbook_multiplication") (st "GenericPolynomial._schoolbook_multiplication") (fnA (sAt (clB (nth 3)) 7)) (FuncBody.stmts (fnB (sAt (clB (nth 3)) 7))) (fnS (sAt (clB (nth 3)) 7)) 0 [] Value.none Value.none Value.none Value.none Option.none Value.none Value.none 0)) #[])
noncomputable def q32 (P : Params) : Obj := (Obj.mk Value.none Option.none (Data.func (FuncData.mk (st "__neg__") (st "GenericPolynomial.__neg__") (fnA (sAt (clB (nth 3)) 8)) (FuncBody.stmts (fnB (sAt (clB (nth 3)) 8))) (fnS (sAt (clB (nth 3)) 8)) 0 [] Value.none Value.none Value.none Value.none Option.none Value.none Value.none 0)) #[])
noncomputable def q33 (P : Params) : Obj := (Obj.mk Value.none Option.none (Data.func (FuncData.mk (st "_add_") (st "GenericPolynomial._add_") (fnA (sAt (clB (nth 3)) 9)) (FuncBody.stmts (fnB (sAt (clB (nth 3)) 9))) (fnS (sAt (clB (nth 3)) 9)) 0 [] Value.none Value.none Value.none Value.none Option.none Value.none Value.none 0)) #[])
noncomputable def q34 (P : Params) : Obj := (Obj.mk Value.none Option.none (Data.func (FuncData.mk (st "__add__") (st "GenericPolynomial.__add__") (fnA (sAt (clB (nth 3)) 10)) (FuncBody.stmts (fnB (sAt (clB (nth 3)) 10))) (fnS (sAt (clB (nth 3)) 10)) 0 [] Value.none Value.none Value.none Value.none Option.none Value.none Value.none 0)) #[])
noncomputable def q35 (P : Params) : Obj := (Obj.mk Value.none Option.none (Data.func (FuncData.mk (st "__radd__") (st "GenericPolynomial.__radd__") (fnA (sAt (clB (nth 3)) 11)) (FuncBody.stmts (fnB (sAt (clB (nth 3)) 11))) (fnS (sAt (clB (nth 3)) 11)) 0 [] Value.none Value.none Value.none Value.none Option.none Value.none Value.none 0)) #[])
noncomputable def q36 (P : Params) : Obj := (Obj.mk Value.none Option.none (Data.func (FuncData.mk (st "__iadd__") (st "GenericPolynomial.__iadd__") (fnA (sAt (clB (nth 3)) 12)) (FuncBody.stmts (fnB (sAt (clB (nth 3)) 12))) (fnS (sAt (clB (nth 3)) 11)) 0 [] Value.none Value.none Value.none Value.none Option.none Value.none Value.none 0)) #[])
noncomputable def q37 (P : Params) : Obj := (Obj.mk Value.none Option.none (Data.func (FuncData.mk (st "_sub_") (st "GenericPolynomial._sub_") (fnA (sAt (clB (nth 3)) 13)) (FuncBody.stmts (fnB (sAt (clB (nth 3)) 13))) (fnS (sAt (clB (nth 3)) 9)) 0 [] Value.none Value.none Value.none Value.none Option.none Value.none Value.none 0)) #[])
noncomputable def q38 (P : Params) : Obj := (Obj.mk Value.none Option.none (Data.func (FuncData.mk (st "__sub__") (st "GenericPolynomial.__sub__") (fnA (sAt (clB (nth 3)) 14)) (FuncBody.stmts (fnB (sAt (clB (nth 3)) 14))) (fnS (sAt (clB (nth 3)) 10)) 0 [] Value.none Value.none Value.none Value.none Option.none Value.none Value.none 0)) #[])
noncomputable def q39 (P : Params) : Obj := (Obj.mk Value.none Option.none (Data.func (FuncData.mk (st "__rsub__") (st "GenericPolynomial.__rsub__") (fnA (sAt (clB (nth 3)) 15)) (FuncBody.stmts (fnB (sAt (clB (nth 3)) 15))) (fnS (sAt (clB (nth 3)) 11)) 0 [] Value.none Value.none Value.none Value.none Option.none Value.none Value.none 0)) #[])
noncomputable def q40 (P : Params) : Obj := (Obj.mk Value.none Option.none (Data.func (FuncData.mk (st "__isub__") (st "GenericPolynomial.__isub__") (fnA (sAt (clB (nth 3)) 16)) (FuncBody.stmts (fnB (sAt (clB (nth 3)) 16))) (fnS (sAt (clB (nth 3)) 11)) 0 [] Value.none Value.none Value.none Value.none Option.none Value.none Value.none 0)) #[])
noncomputable def q41 (P : Params) : Obj := (Obj.mk Value.none Option.none (Data.func (FuncData.mk (st "__mul__") (st "GenericPolynomial.__mul__") (fnA (sAt (clB (nth 3)) 17)) (FuncBody.stmts (fnB (sAt (clB (nth 3)) 17))) (fnS (sAt (clB (nth 3)) 17)) 0 [] Value.none Value.none Value.none Value.none Option.none Value.none Value.none 0)) #[])
noncomputable def q42 (P : Params) : Obj := (Obj.mk Value.none Option.none (Data.func (FuncData.mk (st "__rmul__") (st "GenericPolynomial.__rmul__") (fnA (sAt (clB (nth 3)) 18)) (FuncBody.stmts (fnB (sAt (clB (nth 3)) 18))) (fnS (sAt (clB (nth 3)) 11)) 0 [] Value.none Value.none Value.none Value.none Option.none Value.none Value.none 0)) #[])
noncomputable def q43 (P : Params) : Obj := (Obj.mk Value.none Option.none (Data.func (FuncData.mk (st "__imul__") (st "GenericPolynomial.__imul__") (fnA (sAt (clB (nth 3)) 19)) (FuncBody.stmts (fnB (sAt (clB (nth 3)) 19))) (fnS (sAt (clB (nth 3)) 11)) 0 [] Value.none Value.none Value.none Value.none Option.none Value.none Value.none 0)) #[])
noncomputable def q44 (P : Params) : Obj := (Obj.mk Value.none Option.none (Data.func (FuncData.mk (st "__pow__") (st "GenericPolynomial.__pow__") (fnA (sAt (clB (nth 3)) 20)) (FuncBody.stmts (fnB (sAt (clB (nth 3)) 20))) (fnS (sAt (clB (nth 3)) 20)) 0 [] Value.none Value.none Value.none Value.none Option.none Value.none Value.none 0)) #[])
noncomputable def q45 (P : Params) : Obj := (Obj.mk Value.none Option.none (Data.func (FuncData.mk (st "__eq__") (st "GenericPolynomial.__eq__") (fnA (sAt (clB (nth 3)) 21)) (FuncBody.stmts (fnB (sAt (clB (nth 3)) 21))) (fnS (sAt (clB (nth 3)) 21)) 0 [] Value.none Value.none Value.none Value.none Option.none Value.none Value.none 0)) #[])
noncomputable def q46 (P : Params) : Obj := (Obj.mk Value.none Option.none (Data.func (FuncData.mk (st "__getitem__") (st "GenericPolynomial.__getitem__") (fnA (sAt (clB (nth 3)) 22)) (FuncBody.stmts (fnB (sAt (clB (nth 3)) 22))) (fnS (sAt (clB (nth 3)) 22)) 0 [] Value.none Value.none Value.none Value.none Option.none Value.none Value.none 0)) #[])
noncomputable def q47 (P : Params) : Obj := (Obj.mk (Value.type "type") Option.none (Data.cls (ClassData.mk (st "GenericPolynomial") [(Value.type "object")] [(vr 222), (Value.type "object")] 221 (st "GenericPolynomial") Bool.true [] [] Bool.false Option.none Bool.false)) #[Option.none, Option.none, (Option.some (vs (st "GenericPolynomial") 249)), (Option.some (vs (st "GenericPolynomial") 257)), (Option.some (Value.builtin "object.__new__")), (Option.some (Value.bool Bool.true))])
noncomputable def q48 (P : Params) : Obj := (Obj.mk (Value.type "super") Option.none (Data.fields #[(vr 222), (vr 222), (vr 222)]) #[])
noncomputable def q49 (P : Params) : Obj := (Obj.mk (Value.type "builtin_function_or_method") Option.none (Data.fields #[(Value.builtin "object.__init_subclass__"), (vr 222)]) #[])
noncomputable def tr3 (P : Params) : BT := (tn (boot_o_0 P) (tn (boot_o_1 P) (tn (q1 P) (tn (boot_o_7 P) (tn (kO 15 P) (tn (kO 31 P) (tn (q19 P) (tn (kO 127 P) tz tz) (tn (kO 191 P) tz tz)) (tn (kO 95 P) (tn (kO 159 P) tz tz) (tn (kO 223 P) tz tz))) (tn (q15 P) (tn (q6 P) (tn (kO 143 P) tz tz) (tn (q6 P) tz tz)) (tn (kO 111 P) (tn (kO 175 P) tz tz) tz))) (tn (q8 P) (tn (kO 39 P) (tn (kO 71 P) (tn (kO 135 P) tz tz) (tn (kO 199 P) tz tz)) (tn (kO 103 P) (tn (q6 P) tz tz) tz)) (tn (kO 55 P) (tn (kO 87 P) (tn (q36 P) tz tz) (tn (kO 215 P) tz tz)) (tn (q6 P) (tn (kO 183 P) tz tz) tz)))) (tn (q2 P) (tn (q7 P) (tn (kO 35 P) (tn (q2 P) (tn (kO 131 P) tz tz) (tn (kO 195 P) tz tz)) (tn (kO 99 P) (tn (q38 P) tz tz) tz)) (tn (q6 P) (tn (kO 83 P) (tn (kO 147 P) tz tz) (tn (kO 211 P) tz tz)) (tn (q30 P) (tn (kO 179 P) tz tz) tz))) (tn (q11 P) (tn (kO 43 P) (tn (q24 P) (tn (kO 139 P) tz tz) (tn (q44 P) tz tz)) (tn (kO 107 P) (tn (kO 171 P) tz tz) tz)) (tn (q17 P) (tn (kO 91 P) (tn (q6 P) tz tz) (tn (kO 219 P) tz tz)) (tn (kO 123 P) (tn (kO 187 P) tz tz) tz))))) (tn (boot_o_5 P) (tn (boot_o_9 P) (tn (kO 17 P) (tn (q13 P) (tn (q8 P) (tn (q6 P) tz tz) (tn (q6 P) tz tz)) (tn (kO 97 P) (tn (kO 161 P) tz tz) (tn (q48 P) tz tz))) (tn (kO 49 P) (tn (kO 81 P) (tn (kO 145 P) tz tz) (tn (kO 209 P) tz tz)) (tn (kO 113 P) (tn (q40 P) tz tz) tz))) (tn (q2 P) (tn (kO 41 P) (tn (kO 73 P) (tn (q34 P) tz tz) (tn (kO 201 P) tz tz)) (tn (q6 P) (tn (kO 169 P) tz tz) tz)) (tn (kO 57 P) (tn (q26 P) (tn (kO 153 P) tz tz) (tn (q46 P) tz tz)) (tn (kO 121 P) (tn (kO 185 P) tz tz) tz)))) (tn (q4 P) (tn (kO 21 P) (tn (q6 P) (tn (q22 P) (tn (kO 133 P) tz tz) (tn (kO 197 P) tz tz)) (tn (q28 P) (tn (kO 165 P) tz tz) tz)) (tn (kO 53 P) (tn (kO 85 P) (tn (kO 149 P) tz tz) (tn (kO 213 P) tz tz)) (tn (kO 117 P) (tn (q6 P) tz tz) tz))) (tn (kO 29 P) (tn (kO 45 P) (tn (kO 77 P) (tn (q6 P) tz tz) (tn (kO 205 P) tz tz)) (tn (kO 109 P) (tn (kO 173 P) tz tz) tz)) (tn (kO 61 P) (tn (q6 P) (tn (kO 157 P) tz tz) (tn (kO 221 P) tz tz)) (tn (q32 P) (tn (q42 P) tz tz) tz)))))) (tn (boot_o_2 P) (tn (boot_o_4 P) (tn (boot_o_8 P) (tn (q6 P) (tn (kO 32 P) (tn (q2 P) (tn (kO 128 P) tz tz) (tn (kO 192 P) tz tz)) (tn (kO 96 P) (tn (q6 P) tz tz) (tn (kO 224 P) tz tz))) (tn (kO 48 P) (tn (kO 80 P) (tn (q35 P) tz tz) (tn (kO 208 P) tz tz)) (tn (q6 P) (tn (kO 176 P) tz tz) tz))) (tn (q9 P) (tn (q14 P) (tn (q6 P) (tn (kO 136 P) tz tz) (tn (q6 P) tz tz)) (tn (kO 104 P) (tn (kO 168 P) tz tz) tz)) (tn (kO 56 P) (tn (kO 88 P) (tn (kO 152 P) tz tz) (tn (kO 216 P) tz tz)) (tn (q31 P) (tn (kO 184 P) tz tz) tz)))) (tn (q3 P) (tn (kO 20 P) (tn (kO 36 P) (tn (q21 P) (tn (kO 132 P) tz tz) (tn (q43 P) tz tz)) (tn (kO 100 P) (tn (kO 164 P) tz tz) tz)) (tn (kO 52 P) (tn (kO 84 P) (tn (q6 P) tz tz) (tn (kO 212 P) tz tz)) (tn (kO 116 P) (tn (kO 180 P) tz tz) tz))) (tn (q12 P) (tn (q6 P) (tn (kO 76 P) (tn (kO 140 P) tz tz) (tn (kO 204 P) tz tz)) (tn (q29 P) (tn (kO 172 P) tz tz) tz)) (tn (kO 60 P) (tn (kO 92 P) (tn (q37 P) tz tz) (tn (kO 220 P) tz tz)) (tn (q6 P) (tn (kO 188 P) tz tz) tz))))) (tn (boot_o_6 P) (tn (boot_o_10 P) (tn (kO 18 P) (tn (kO 34 P) (tn (q20 P) (tn (q33 P) tz tz) (tn (kO 194 P) tz tz)) (tn (q6 P) (tn (kO 162 P) tz tz) (tn (q49 P) tz tz))) (tn (kO 50 P) (tn (q25 P) (tn (kO 146 P) tz tz) (tn (q45 P) tz tz)) (tn (kO 114 P) (tn (kO 178 P) tz tz) tz))) (tn (q10 P) (tn (kO 42 P) (tn (kO 74 P) (tn (kO 138 P) tz tz) (tn (kO 202 P) tz tz)) (tn (kO 106 P) (tn (q39 P) tz tz) tz)) (tn (kO 58 P) (tn (kO 90 P) (tn (kO 154 P) tz tz) (tn (kO 218 P) tz tz)) (tn (kO 122 P) (tn (q6 P) tz tz) tz)))) (tn (q5 P) (tn (q2 P) (tn (kO 38 P) (tn (q23 P) (tn (q6 P) tz tz) (tn (kO 198 P) tz tz)) (tn (kO 102 P) (tn (kO 166 P) tz tz) tz)) (tn (q16 P) (tn (q6 P) (tn (kO 150 P) tz tz) (tn (q6 P) tz tz)) (tn (kO 118 P) (tn (q41 P) tz tz) tz))) (tn (q6 P) (tn (kO 46 P) (tn (kO 78 P) (tn (kO 142 P) tz tz) (tn (kO 206 P) tz tz)) (tn (kO 110 P) (tn (q6 P) tz tz) tz)) (tn (q18 P) (tn (q27 P) (tn (kO 158 P) tz tz) (tn (q47 P) tz tz)) (tn (kO 126 P) (tn (kO 190 P) tz tz) tz)))))))
noncomputable def q50 (P : Params) : Obj := (Obj.mk (Value.type "dict") Option.none (Data.dict #[(de (kh P (st "__name__")) (vs (st "__name__") 165) (vs (st "kyber_py.polynomials.polynomials") 448)), (de (kh P (st "__doc__")) (vs (st "__doc__") 166) Value.none), (de (kh P (st "__package__")) (vs (st "__package__") 167) Value.none), (de (kh P (st "__loader__")) (vs (st "__loader__") 168) (Value.builtin "__main__.__loader__#opaque")), (de (kh P (st "__spec__")) (vs (st "__spec__") 169) Value.none), (de (kh P (st "__annotations__")) (vs (st "__annotations__") 170) (vr 6)), (de (kh P (st "__builtins__")) (vs (st "__builtins__") 171) (vr 4)), (de (kh P (st "__file__")) (vs (st "__file__") 173) (vs (st "/claim/cut.py") 172)), (de (kh P (st "__cached__")) (vs (st "__cached__") 174) Value.none), (de (kh P (st "_wall")) (vs (st "_wall") 193) (vr 21)), (de (kh P (st "GenericPolynomialRing")) (vs (st "GenericPolynomialRing") 248) (vr 59)), (de (kh P (st "GenericPolynomial")) (vs (st "GenericPolynomial") 447) (vr 222)), (de (kh P (st "PolynomialRing")) (vs (st "PolynomialRing") 533) (vr 282)), (de (kh P (st "Polynomial")) (vs (st "Polynomial") 624) (vr 350))] 14) #[])
noncomputable def q51 (P : Params) : Obj := (Obj.mk Value.none Option.none (Data.fields #[(vi 1 0), (vi 0 0), (vr 20), (vi 5 0), (vi 0 0), (vr 27), (vi 23 0), (vi 0 0), (vr 69), (vi 152 0), (vi 0 0), (vr 232), (vi 183 0), (vi 0 0), (vr 290)]) #[])
noncomputable def q52 (P : Params) : Obj := (Obj.mk (Value.type "dict") Option.none (Data.dict #[(de (kh P (st "__module__")) (vs (st "__module__") 457) (vs (st "kyber_py.polynomials.polynomials") 448)), (de (kh P (st "__qualname__")) (vs (st "__qualname__") 459) (vs (st "PolynomialRing") 458)), (de (kh P (st "__firstlineno__")) (vs (st "__firstlineno__") 461) (vi 152 460)), (de (kh P (st "__init__")) (vs (st "__init__") 467) (vr 238)), (de (kh P (st "_br")) (vs (st "_br") 488) (vr 247)), (de (kh P (st "ntt_sample")) (vs (st "ntt_sample") 496) (vr 255)), (de (kh P (st "cbd")) (vs (st "cbd") 506) (vr 263)), (de (kh P (st "decode")) (vs (st "decode") 516) (vr 271)), (de (kh P (st "__call__")) (vs (st "__call__") 525) (vr 279)), (de (kh P (st "__static_attributes__")) (vs (st "__static_attributes__") 530) (vr 280))] 10) #[])
noncomputable def q53 (P : Params) : Obj := (Obj.mk Value.none Option.none (Data.fields #[(vi 154 0), (vi 4 0), (vr 237), (vi 162 0), (vi 4 0), (vr 244), (vi 166 0), (vi 4 0), (vr 254), (vi 169 0), (vi 4 0), (vr 262), (vi 172 0), (vi 4 0), (vr 270), (vi 175 0), (vi 4 0), (vr 278)]) #[])
noncomputable def q54 (P : Params) : Obj := (Obj.mk (Value.type "code") Option.none (Data.fields #[(vs (st "PolynomialRing") 452), (vs (st "PolynomialRing") 453), (vs (st "/claim/cut.py") 454), (vi 152 0), (vi 0 0), (vi 0 0), (vi 0 0), (vi 0 0), (vr 230), (Value.bool Bool.false), (vi 181 0), (vr 231), Value.none, Value.none, Value.none, Value.none, (vi 455 0), (vi 152 0), (vs (st "/claim/cut.py") 456)]) #[])
noncomputable def q55 (P : Params) : Obj := (Obj.mk (Value.type "frame") Option.none Data.plain #[(Option.some (vr 232)), (Option.some (vr 3)), (Option.some (vr 229)), Option.none, (Option.some (vs (st "kyber_py.polynomials.polynomials") 448)), Option.none, (Option.some (vr 0))])
noncomputable def q56 (P : Params) : Obj := (Obj.mk Value.none Option.none (Data.func (FuncData.mk (st "__init__") (st "PolynomialRing.__init__") (fnA (sAt (clB (nth 5)) 0)) (FuncBody.stmts (fnB (sAt (clB (nth 5)) 0))) (fnS (sAt (clB (nth 5)) 0)) 0 [] Value.none Value.none Value.none Value.none Option.none Value.none Value.none 0)) #[])
noncomputable def q57 (P : Params) : Obj := (Obj.mk Value.none Option.none (Data.func (FuncData.mk (st "_br") (st "PolynomialRing._br") (fnA (sAt (clB (nth 5)) 1)) (FuncBody.stmts (fnB (sAt (clB (nth 5)) 1))) (fnS (sAt (clB (nth 5)) 1)) 0 [] Value.none Value.none Value.none Value.none Option.none Value.none Value.none 0)) #[])
noncomputable def q58 (P : Params) : Obj := (Obj.mk Value.none Option.none (Data.func (FuncData.mk (st "ntt_sample") (st "PolynomialRing.ntt_sample") (fnA (sAt (clB (nth 5)) 2)) (FuncBody.stmts (fnB (sAt (clB (nth 5)) 2))) (fnS (sAt (clB (nth 5)) 2)) 0 [] Value.none Value.none Value.none Value.none Option.none Value.none Value.none 0)) #[])
noncomputable def q59 (P : Params) : Obj := (Obj.mk Value.none Option.none (Data.func (FuncData.mk (st "cbd") (st "PolynomialRing.cbd") (fnA (sAt (clB (nth 5)) 3)) (FuncBody.stmts (fnB (sAt (clB (nth 5)) 3))) (fnS (sAt (clB (nth 5)) 3)) 0 [] Value.none Value.none Value.none Value.none Option.none Value.none Value.none 0)) #[])
noncomputable def q60 (P : Params) : Obj := (Obj.mk Value.none Option.none (Data.func (FuncData.mk (st "decode") (st "PolynomialRing.decode") (fnA (sAt (clB (nth 5)) 4)) (FuncBody.stmts (fnB (sAt (clB (nth 5)) 4))) (fnS (sAt (clB (nth 5)) 4)) 0 [] Value.none Value.none Value.none Value.none Option.none Value.none Value.none 0)) #[])
noncomputable def q61 (P : Params) : Obj := (Obj.mk Value.none Option.none (Data.func (FuncData.mk (st "__call__") (st "PolynomialRing.__call__") (fnA (sAt (clB (nth 5)) 5)) (FuncBody.stmts (fnB (sAt (clB (nth 5)) 5))) (fnS (sAt (clB (nth 5)) 5)) 0 [] Value.none Value.none Value.none Value.none Option.none Value.none Value.none 0)) #[])
noncomputable def q62 (P : Params) : Obj := (Obj.mk (Value.type "super") Option.none (Data.fields #[(vr 282), (vr 282), (vr 282)]) #[])
noncomputable def q63 (P : Params) : Obj := (Obj.mk (Value.type "builtin_function_or_method") Option.none (Data.fields #[(Value.builtin "object.__init_subclass__"), (vr 282)]) #[])
noncomputable def q64 (P : Params) : Obj := (Obj.mk (Value.type "dict") Option.none (Data.dict #[(de (kh P (st "__module__")) (vs (st "__module__") 541) (vs (st "kyber_py.polynomials.polynomials") 448)), (de (kh P (st "__qualname__")) (vs (st "__qualname__") 543) (vs (st "Polynomial") 542)), (de (kh P (st "__firstlineno__")) (vs (st "__firstlineno__") 545) (vi 183 544)), (de (kh P (st "__init__")) (vs (st "__init__") 554) (vr 298)), (de (kh P (st "encode")) (vs (st "encode") 562) (vr 305)), (de (kh P (st "_compress_ele")) (vs (st "_compress_ele") 571) (vr 312)), (de (kh P (st "_decompress_ele")) (vs (st "_decompress_ele") 580) (vr 319)), (de (kh P (st "compress")) (vs (st "compress") 588) (vr 326)), (de (kh P (st "decompress")) (vs (st "decompress") 596) (vr 333)), (de (kh P (st "to_ntt")) (vs (st "to_ntt") 611) (vr 340)), (de (kh P (st "from_ntt")) (vs (st "from_ntt") 618) (vr 347)), (de (kh P (st "__static_attributes__")) (vs (st "__static_attributes__") 621) (vr 348))] 12) #[])
noncomputable def q65 (P : Params) : Obj := (Obj.mk Value.none Option.none (Data.fields #[(vi 185 0), (vi 4 0), (vr 297), (vi 189 0), (vi 4 0), (vr 304), (vi 192 0), (vi 4 0), (vr 311), (vi 195 0), (vi 4 0), (vr 318), (vi 198 0), (vi 4 0), (vr 325), (vi 201 0), (vi 4 0), (vr 332), (vi 204 0), (vi 4 0), (vr 339), (vi 224 0), (vi 4 0), (vr 346)]) #[])
noncomputable def q66 (P : Params) : Obj := (Obj.mk (Value.type "code") Option.none (Data.fields #[(vs (st "Polynomial") 536), (vs (st "Polynomial") 537), (vs (st "/claim/cut.py") 538), (vi 183 0), (vi 0 0), (vi 0 0), (vi 0 0), (vi 0 0), (vr 288), (Value.bool Bool.false), (vi 181 0), (vr 289), Value.none, Value.none, Value.none, Value.none, (vi 539 0), (vi 183 0), (vs (st "/claim/cut.py") 540)]) #[])
noncomputable def q67 (P : Params) : Obj := (Obj.mk (Value.type "frame") Option.none Data.plain #[(Option.some (vr 290)), (Option.some (vr 3)), (Option.some (vr 287)), Option.none, (Option.some (vs (st "kyber_py.polynomials.polynomials") 448)), Option.none, (Option.some (vr 0))])
noncomputable def q68 (P : Params) : Obj := (Obj.mk Value.none Option.none (Data.func (FuncData.mk (st "__init__") (st "Polynomial.__init__") (fnA (sAt (clB (nth 6)) 0)) (FuncBody.stmts (fnB (sAt (clB (nth 6)) 0))) (fnS (sAt (clB (nth 3)) 0)) 0 [] Value.none Value.none Value.none Value.none Option.none Value.none Value.none 0)) #[])
noncomputable def q69 (P : Params) : Obj := (Obj.mk Value.none Option.none (Data.func (FuncData.mk (st "encode") (st "Polynomial.encode") (fnA (sAt (clB (nth 6)) 1)) (FuncBody.stmts (fnB (sAt (clB (nth 6)) 1))) (fnS (sAt (clB (nth 6)) 1)) 0 [] Value.none Value.none Value.none Value.none Option.none Value.none Value.none 0)) #[])
noncomputable def q70 (P : Params) : Obj := (Obj.mk Value.none Option.none (Data.func (FuncData.mk (st "_compress_ele") (st "Polynomial._compress_ele") (fnA (sAt (clB (nth 6)) 2)) (FuncBody.stmts (fnB (sAt (clB (nth 6)) 2))) (fnS (sAt (clB (nth 6)) 2)) 0 [] Value.none Value.none Value.none Value.none Option.none Value.none Value.none 0)) #[])
noncomputable def q71 (P : Params) : Obj := (Obj.mk Value.none Option.none (Data.func (FuncData.mk (st "_decompress_ele") (st "Polynomial._decompress_ele") (fnA (sAt (clB (nth 6)) 3)) (FuncBody.stmts (fnB (sAt (clB (nth 6)) 3))) (fnS (sAt (clB (nth 6)) 2)) 0 [] Value.none Value.none Value.none Value.none Option.none Value.none Value.none 0)) #[])
noncomputable def q72 (P : Params) : Obj := (Obj.mk Value.none Option.none (Data.func (FuncData.mk (st "compress") (st "Polynomial.compress") (fnA (sAt (clB (nth 6)) 4)) (FuncBody.stmts (fnB (sAt (clB (nth 6)) 4))) (fnS (sAt (clB (nth 6)) 1)) 0 [] Value.none Value.none Value.none Value.none Option.none Value.none Value.none 0)) #[])
noncomputable def q73 (P : Params) : Obj := (Obj.mk Value.none Option.none (Data.func (FuncData.mk (st "decompress") (st "Polynomial.decompress") (fnA (sAt (clB (nth 6)) 5)) (FuncBody.stmts (fnB (sAt (clB (nth 6)) 5))) (fnS (sAt (clB (nth 6)) 1)) 0 [] Value.none Value.none Value.none Value.none Option.none Value.none Value.none 0)) #[])
noncomputable def q74 (P : Params) : Obj := (Obj.mk Value.none Option.none (Data.func (FuncData.mk (st "to_ntt") (st "Polynomial.to_ntt") (fnA (sAt (clB (nth 6)) 6)) (FuncBody.stmts (fnB (sAt (clB (nth 6)) 6))) (fnS (sAt (clB (nth 6)) 6)) 0 [] Value.none Value.none Value.none Value.none Option.none Value.none Value.none 0)) #[])
noncomputable def q75 (P : Params) : Obj := (Obj.mk Value.none Option.none (Data.func (FuncData.mk (st "from_ntt") (st "Polynomial.from_ntt") (fnA (sAt (clB (nth 6)) 7)) (FuncBody.stmts (fnB (sAt (clB (nth 6)) 7))) (fnS (sAt (clB (nth 6)) 7)) 0 [] Value.none Value.none Value.none Value.none Option.none Value.none Value.none 0)) #[])
noncomputable def q76 (P : Params) : Obj := (Obj.mk (Value.type "type") Option.none (Data.cls (ClassData.mk (st "Polynomial") [(vr 222)] [(vr 350), (vr 222), (Value.type "object")] 349 (st "Polynomial") Bool.true [] [] Bool.false Option.none Bool.false)) #[(Option.some (vr 285)), Option.none, (Option.some (vs (st "Polynomial") 534)), (Option.some (vs (st "Polynomial") 542)), (Option.some (Value.builtin "object.__new__")), (Option.some (Value.bool Bool.true))])
noncomputable def q77 (P : Params) : Obj := (Obj.mk (Value.type "super") Option.none (Data.fields #[(vr 350), (vr 350), (vr 350)]) #[])
noncomputable def q78 (P : Params) : Obj := (Obj.mk (Value.type "builtin_function_or_method") Option.none (Data.fields #[(Value.builtin "object.__init_subclass__"), (vr 350)]) #[])
noncomputable def tr6 (P : Params) : BT := (tn (boot_o_0 P) (tn (boot_o_1 P) (tn (q50 P) (tn (boot_o_7 P) (tn (kO 15 P) (tn (kO 31 P) (tn (q19 P) (tn (kO 127 P) (tn (kO 255 P) tz tz) tz) (tn (kO 191 P) (tn (kO 319 P) tz tz) tz)) (tn (kO 95 P) (tn (kO 159 P) (tn (q64 P) tz tz) tz) (tn (kO 223 P) (tn (q77 P) tz tz) tz))) (tn (q15 P) (tn (q6 P) (tn (kO 143 P) (tn (kO 271 P) tz tz) tz) (tn (q6 P) (tn (q6 P) tz tz) tz)) (tn (kO 111 P) (tn (kO 175 P) (tn (q69 P) tz tz) tz) (tn (kO 239 P) tz tz)))) (tn (q8 P) (tn (kO 39 P) (tn (kO 71 P) (tn (kO 135 P) (tn (kO 263 P) tz tz) tz) (tn (kO 199 P) (tn (kO 327 P) tz tz) tz)) (tn (kO 103 P) (tn (q6 P) (tn (kO 295 P) tz tz) tz) (tn (q53 P) tz tz))) (tn (kO 55 P) (tn (kO 87 P) (tn (q36 P) (tn (kO 279 P) tz tz) tz) (tn (kO 215 P) (tn (kO 343 P) tz tz) tz)) (tn (q6 P) (tn (kO 183 P) (tn (kO 311 P) tz tz) tz) (tn (kO 247 P) tz tz))))) (tn (q2 P) (tn (q7 P) (tn (kO 35 P) (tn (q2 P) (tn (kO 131 P) (tn (kO 259 P) tz tz) tz) (tn (kO 195 P) (tn (kO 323 P) tz tz) tz)) (tn (kO 99 P) (tn (q38 P) (tn (q67 P) tz tz) tz) (tn (kO 227 P) tz tz))) (tn (q6 P) (tn (kO 83 P) (tn (kO 147 P) (tn (kO 275 P) tz tz) tz) (tn (kO 211 P) (tn (kO 339 P) tz tz) tz)) (tn (q30 P) (tn (kO 179 P) (tn (q6 P) tz tz) tz) (tn (q57 P) tz tz)))) (tn (q11 P) (tn (kO 43 P) (tn (q24 P) (tn (kO 139 P) (tn (kO 267 P) tz tz) tz) (tn (q44 P) (tn (q73 P) tz tz) tz)) (tn (kO 107 P) (tn (kO 171 P) (tn (kO 299 P) tz tz) tz) (tn (q6 P) tz tz))) (tn (kO 59 P) (tn (kO 91 P) (tn (q6 P) (tn (q62 P) tz tz) tz) (tn (kO 219 P) (tn (kO 347 P) tz tz) tz)) (tn (kO 123 P) (tn (kO 187 P) (tn (kO 315 P) tz tz) tz) (tn (kO 251 P) tz tz)))))) (tn (boot_o_5 P) (tn (boot_o_9 P) (tn (kO 17 P) (tn (q13 P) (tn (q8 P) (tn (q6 P) (tn (kO 257 P) tz tz) tz) (tn (q6 P) (tn (q6 P) tz tz) tz)) (tn (kO 97 P) (tn (kO 161 P) (tn (q65 P) tz tz) tz) (tn (q48 P) tz tz))) (tn (kO 49 P) (tn (kO 81 P) (tn (kO 145 P) (tn (kO 273 P) tz tz) tz) (tn (kO 209 P) (tn (kO 337 P) tz tz) tz)) (tn (kO 113 P) (tn (q40 P) (tn (kO 305 P) tz tz) tz) (tn (kO 241 P) tz tz)))) (tn (q2 P) (tn (kO 41 P) (tn (kO 73 P) (tn (q34 P) (tn (kO 265 P) tz tz) tz) (tn (kO 201 P) (tn (kO 329 P) tz tz) tz)) (tn (q6 P) (tn (kO 169 P) (tn (kO 297 P) tz tz) tz) (tn (q55 P) tz tz))) (tn (kO 57 P) (tn (q26 P) (tn (kO 153 P) (tn (kO 281 P) tz tz) tz) (tn (q46 P) (tn (q75 P) tz tz) tz)) (tn (kO 121 P) (tn (kO 185 P) (tn (kO 313 P) tz tz) tz) (tn (kO 249 P) tz tz))))) (tn (q4 P) (tn (kO 21 P) (tn (q6 P) (tn (q22 P) (tn (kO 133 P) (tn (q59 P) tz tz) tz) (tn (kO 197 P) (tn (kO 325 P) tz tz) tz)) (tn (q28 P) (tn (kO 165 P) (tn (q6 P) tz tz) tz) (tn (q52 P) tz tz))) (tn (kO 53 P) (tn (kO 85 P) (tn (kO 149 P) (tn (q61 P) tz tz) tz) (tn (kO 213 P) (tn (kO 341 P) tz tz) tz)) (tn (kO 117 P) (tn (q6 P) (tn (kO 309 P) tz tz) tz) (tn (kO 245 P) tz tz)))) (tn (kO 29 P) (tn (kO 45 P) (tn (kO 77 P) (tn (q6 P) (tn (q60 P) tz tz) tz) (tn (kO 205 P) (tn (kO 333 P) tz tz) tz)) (tn (kO 109 P) (tn (kO 173 P) (tn (kO 301 P) tz tz) tz) (tn (kO 237 P) tz tz))) (tn (kO 61 P) (tn (q6 P) (tn (kO 157 P) (tn (kO 285 P) tz tz) tz) (tn (kO 221 P) (tn (kO 349 P) tz tz) tz)) (tn (q32 P) (tn (q42 P) (tn (q71 P) tz tz) tz) (tn (q58 P) tz tz))))))) (tn (boot_o_2 P) (tn (boot_o_4 P) (tn (boot_o_8 P) (tn (q6 P) (tn (kO 32 P) (tn (q2 P) (tn (kO 128 P) (tn (kO 256 P) tz tz) tz) (tn (kO 192 P) (tn (kO 320 P) tz tz) tz)) (tn (kO 96 P) (tn (q6 P) (tn (q2 P) tz tz) tz) (tn (kO 224 P) (tn (q78 P) tz tz) tz))) (tn (kO 48 P) (tn (kO 80 P) (tn (q35 P) (tn (kO 272 P) tz tz) tz) (tn (kO 208 P) (tn (kO 336 P) tz tz) tz)) (tn (q6 P) (tn (kO 176 P) (tn (kO 304 P) tz tz) tz) (tn (q6 P) tz tz)))) (tn (q9 P) (tn (q14 P) (tn (q6 P) (tn (kO 136 P) (tn (kO 264 P) tz tz) tz) (tn (q6 P) (tn (q6 P) tz tz) tz)) (tn (kO 104 P) (tn (kO 168 P) (tn (q68 P) tz tz) tz) (tn (q54 P) tz tz))) (tn (kO 56 P) (tn (kO 88 P) (tn (kO 152 P) (tn (kO 280 P) tz tz) tz) (tn (kO 216 P) (tn (kO 344 P) tz tz) tz)) (tn (q31 P) (tn (kO 184 P) (tn (kO 312 P) tz tz) tz) (tn (kO 248 P) tz tz))))) (tn (q51 P) (tn (kO 20 P) (tn (kO 36 P) (tn (q21 P) (tn (kO 132 P) (tn (kO 260 P) tz tz) tz) (tn (q43 P) (tn (q72 P) tz tz) tz)) (tn (kO 100 P) (tn (kO 164 P) (tn (kO 292 P) tz tz) tz) (tn (q8 P) tz tz))) (tn (kO 52 P) (tn (kO 84 P) (tn (q6 P) (tn (kO 276 P) tz tz) tz) (tn (kO 212 P) (tn (kO 340 P) tz tz) tz)) (tn (kO 116 P) (tn (kO 180 P) (tn (kO 308 P) tz tz) tz) (tn (kO 244 P) tz tz)))) (tn (q12 P) (tn (q6 P) (tn (kO 76 P) (tn (kO 140 P) (tn (kO 268 P) tz tz) tz) (tn (kO 204 P) (tn (kO 332 P) tz tz) tz)) (tn (q29 P) (tn (kO 172 P) (tn (q6 P) tz tz) tz) (tn (q56 P) tz tz))) (tn (kO 60 P) (tn (kO 92 P) (tn (q37 P) (tn (q63 P) tz tz) tz) (tn (kO 220 P) (tn (kO 348 P) tz tz) tz)) (tn (q6 P) (tn (kO 188 P) (tn (kO 316 P) tz tz) tz) (tn (kO 252 P) tz tz)))))) (tn (boot_o_6 P) (tn (boot_o_10 P) (tn (kO 18 P) (tn (kO 34 P) (tn (q20 P) (tn (q33 P) (tn (q6 P) tz tz) tz) (tn (kO 194 P) (tn (kO 322 P) tz tz) tz)) (tn (q6 P) (tn (kO 162 P) (tn (q66 P) tz tz) tz) (tn (q49 P) tz tz))) (tn (kO 50 P) (tn (q25 P) (tn (kO 146 P) (tn (q6 P) tz tz) tz) (tn (q45 P) (tn (q74 P) tz tz) tz)) (tn (kO 114 P) (tn (kO 178 P) (tn (kO 306 P) tz tz) tz) (tn (kO 242 P) tz tz)))) (tn (q10 P) (tn (kO 42 P) (tn (kO 74 P) (tn (kO 138 P) (tn (q6 P) tz tz) tz) (tn (kO 202 P) (tn (kO 330 P) tz tz) tz)) (tn (kO 106 P) (tn (q39 P) (tn (kO 298 P) tz tz) tz) (tn (kO 234 P) tz tz))) (tn (kO 58 P) (tn (kO 90 P) (tn (kO 154 P) (tn (kO 282 P) tz tz) tz) (tn (kO 218 P) (tn (kO 346 P) tz tz) tz)) (tn (kO 122 P) (tn (q6 P) (tn (q6 P) tz tz) tz) (tn (q6 P) tz tz))))) (tn (q5 P) (tn (q2 P) (tn (kO 38 P) (tn (q23 P) (tn (q6 P) (tn (kO 262 P) tz tz) tz) (tn (kO 198 P) (tn (kO 326 P) tz tz) tz)) (tn (kO 102 P) (tn (kO 166 P) (tn (kO 294 P) tz tz) tz) (tn (q2 P) tz tz))) (tn (q16 P) (tn (q6 P) (tn (kO 150 P) (tn (kO 278 P) tz tz) tz) (tn (q6 P) (tn (q6 P) tz tz) tz)) (tn (kO 118 P) (tn (q41 P) (tn (q70 P) tz tz) tz) (tn (kO 246 P) tz tz)))) (tn (q6 P) (tn (kO 46 P) (tn (kO 78 P) (tn (kO 142 P) (tn (kO 270 P) tz tz) tz) (tn (kO 206 P) (tn (kO 334 P) tz tz) tz)) (tn (kO 110 P) (tn (q6 P) (tn (kO 302 P) tz tz) tz) (tn (kO 238 P) tz tz))) (tn (q18 P) (tn (q27 P) (tn (kO 158 P) (tn (q8 P) tz tz) tz) (tn (kO 222 P) (tn (q76 P) tz tz) tz)) (tn (kO 126 P) (tn (kO 190 P) (tn (kO 318 P) tz tz) tz) (tn (kO 254 P) tz tz))))))))
noncomputable def q79 (P : Params) : Obj := (Obj.mk Value.none Option.none (Data.fields #[(vi 1 0), (vi 0 0), (vr 20), (vi 5 0), (vi 0 0), (vr 27), (vi 23 0), (vi 0 0), (vr 69), (vi 152 0), (vi 0 0), (vr 232), (vi 183 0), (vi 0 0), (vr 290), (vi 226 0), (vi 0 0), (vr 358), (vi 294 0), (vi 0 0), (vr 434), (vi 298 0), (vi 0 0), (vr 439)]) #[])
noncomputable def q80 (P : Params) : Obj := (Obj.mk (Value.type "dict") Option.none (Data.dict #[(de (kh P (st "__module__")) (vs (st "__module__") 632) (vs (st "kyber_py.polynomials.polynomials") 448)), (de (kh P (st "__qualname__")) (vs (st "__qualname__") 634) (vs (st "PolynomialNTT") 633)), (de (kh P (st "__firstlineno__")) (vs (st "__firstlineno__") 636) (vi 226 635)), (de (kh P (st "__init__")) (vs (st "__init__") 645) (vr 366)), (de (kh P (st "to_ntt")) (vs (st "to_ntt") 652) (vr 373)), (de (kh P (st "from_ntt")) (vs (st "from_ntt") 669) (vr 380)), (de (kh P (st "_ntt_base_multiplication")) (vs (st "_ntt_base_multiplication") 694) (vr 389)), (de (kh P (st "_ntt_coefficient_multiplication")) (vs (st "_ntt_coefficient_multiplication") 710) (vr 397)), (de (kh P (st "_ntt_multiplication")) (vs (st "_ntt_multiplication") 719) (vr 404)), (de (kh P (st "__add__")) (vs (st "__add__") 728) (vr 411)), (de (kh P (st "__sub__")) (vs (st "__sub__") 737) (vr 418)), (de (kh P (st "__mul__")) (vs (st "__mul__") 743) (vr 423)), (de (kh P (st "__static_attributes__")) (vs (st "__static_attributes__") 746) (vr 424))] 13) #[])
noncomputable def q81 (P : Params) : Obj := (Obj.mk Value.none Option.none (Data.fields #[(vi 228 0), (vi 4 0), (vr 365), (vi 232 0), (vi 4 0), (vr 372), (vi 235 0), (vi 4 0), (vr 379), (vi 259 0), (vi 4 0), (vr 386), (vi 264 0), (vi 4 0), (vr 396), (vi 273 0), (vi 4 0), (vr 403), (vi 277 0), (vi 4 0), (vr 410), (vi 281 0), (vi 4 0), (vr 417), (vi 285 0), (vi 4 0), (vr 422)]) #[])
noncomputable def q82 (P : Params) : Obj := (Obj.mk (Value.type "code") Option.none (Data.fields #[(vs (st "PolynomialNTT") 627), (vs (st "PolynomialNTT") 628), (vs (st "/claim/cut.py") 629), (vi 226 0), (vi 0 0), (vi 0 0), (vi 0 0), (vi 0 0), (vr 356), (Value.bool Bool.false), (vi 181 0), (vr 357), Value.none, Value.none, Value.none, Value.none, (vi 630 0), (vi 226 0), (vs (st "/claim/cut.py") 631)]) #[])
noncomputable def q83 (P : Params) : Obj := (Obj.mk (Value.type "frame") Option.none Data.plain #[(Option.some (vr 358)), (Option.some (vr 3)), (Option.some (vr 355)), Option.none, (Option.some (vs (st "kyber_py.polynomials.polynomials") 448)), Option.none, (Option.some (vr 0))])
noncomputable def q84 (P : Params) : Obj := (Obj.mk Value.none Option.none (Data.func (FuncData.mk (st "__init__") (st "PolynomialNTT.__init__") (fnA (sAt (clB (nth 7)) 0)) (FuncBody.stmts (fnB (sAt (clB (nth 7)) 0))) (fnS (sAt (clB (nth 3)) 0)) 0 [] Value.none Value.none Value.none Value.none Option.none Value.none Value.none 0)) #[])
noncomputable def q85 (P : Params) : Obj := (Obj.mk Value.none Option.none (Data.func (FuncData.mk (st "to_ntt") (st "PolynomialNTT.to_ntt") (fnA (sAt (clB (nth 7)) 1)) (FuncBody.stmts (fnB (sAt (clB (nth 7)) 1))) (fnS (sAt (clB (nth 6)) 7)) 0 [] Value.none Value.none Value.none Value.none Option.none Value.none Value.none 0)) #[])
noncomputable def q86 (P : Params) : Obj := (Obj.mk Value.none Option.none (Data.func (FuncData.mk (st "from_ntt") (st "PolynomialNTT.from_ntt") (fnA (sAt (clB (nth 7)) 2)) (FuncBody.stmts (fnB (sAt (clB (nth 7)) 2))) (fnS (sAt (clB (nth 7)) 2)) 0 [] Value.none Value.none Value.none Value.none Option.none Value.none Value.none 0)) #[])
noncomputable def q87 (P : Params) : Obj := (Obj.mk Value.none Option.none (Data.func (FuncData.mk (st "_ntt_base_multiplication") (st "PolynomialNTT._ntt_base_multiplication") (fnA (sAt (clB (nth 7)) 3)) (FuncBody.stmts (fnB (sAt (clB (nth 7)) 3))) (fnS (sAt (clB (nth 7)) 3)) 0 [] Value.none Value.none Value.none Value.none Option.none Value.none Value.none 0)) #[])
noncomputable def q88 (P : Params) : Obj := (Obj.mk Value.none Option.none (Data.func (FuncData.mk (st "_ntt_coefficient_multiplication") (st "PolynomialNTT._ntt_coefficient_multiplication") (fnA (sAt (clB (nth 7)) 4)) (FuncBody.stmts (fnB (sAt (clB (nth 7)) 4))) (fnS (sAt (clB (nth 7)) 4)) 0 [] Value.none Value.none Value.none Value.none Option.none Value.none Value.none 0)) #[])
noncomputable def q89 (P : Params) : Obj := (Obj.mk Value.none Option.none (Data.func (FuncData.mk (st "_ntt_multiplication") (st "PolynomialNTT._ntt_multiplication") (fnA (sAt (clB (nth 7)) 5)) (FuncBody.stmts (fnB (sAt (clB (nth 7)) 5))) (fnS (sAt (clB (nth 3)) 10)) 0 [] Value.none Value.none Value.none Value.none Option.none Value.none Value.none 0)) #[])
noncomputable def q90 (P : Params) : Obj := (Obj.mk Value.none Option.none (Data.func (FuncData.mk (st "__add__") (st "PolynomialNTT.__add__") (fnA (sAt (clB (nth 7)) 6)) (FuncBody.stmts (fnB (sAt (clB (nth 7)) 6))) (fnS (sAt (clB (nth 3)) 10)) 0 [] Value.none Value.none Value.none Value.none Option.none Value.none Value.none 0)) #[])
noncomputable def q91 (P : Params) : Obj := (Obj.mk Value.none Option.none (Data.func (FuncData.mk (st "__sub__") (st "PolynomialNTT.__sub__") (fnA (sAt (clB (nth 7)) 7)) (FuncBody.stmts (fnB (sAt (clB (nth 7)) 7))) (fnS (sAt (clB (nth 3)) 10)) 0 [] Value.none Value.none Value.none Value.none Option.none Value.none Value.none 0)) #[])
noncomputable def q92 (P : Params) : Obj := (Obj.mk Value.none Option.none (Data.func (FuncData.mk (st "__mul__") (st "PolynomialNTT.__mul__") (fnA (sAt (clB (nth 7)) 8)) (FuncBody.stmts (fnB (sAt (clB (nth 7)) 8))) (fnS (sAt (clB (nth 7)) 8)) 0 [] Value.none Value.none Value.none Value.none Option.none Value.none Value.none 0)) #[])
noncomputable def q93 (P : Params) : Obj := (Obj.mk (Value.type "super") Option.none (Data.fields #[(vr 426), (vr 426), (vr 426)]) #[])
noncomputable def q94 (P : Params) : Obj := (Obj.mk (Value.type "builtin_function_or_method") Option.none (Data.fields #[(Value.builtin "object.__init_subclass__"), (vr 426)]) #[])
noncomputable def q95 (P : Params) : Obj := (Obj.mk Value.none Option.none (Data.func (FuncData.mk (st "_law_draw") (st "_law_draw") (fnA (nth 9)) (FuncBody.stmts (fnB (nth 9))) (fnS (nth 9)) 0 [] Value.none Value.none Value.none Value.none Option.none Value.none Value.none 0)) #[])
noncomputable def q96 (P : Params) : Obj := (Obj.mk Value.none Option.none (Data.func (FuncData.mk (st "law") (st "law") (fnA (nth 10)) (FuncBody.stmts (fnB (nth 10))) (fnS (nth 10)) 0 [] Value.none Value.none Value.none Value.none Option.none Value.none Value.none 0)) #[])
noncomputable def tr10 (P : Params) : BT := (tn (boot_o_0 P) (tn (boot_o_1 P) (tn (kO 3 P) (tn (boot_o_7 P) (tn (kO 15 P) (tn (kO 31 P) (tn (q19 P) (tn (kO 127 P) (tn (kO 255 P) tz tz) (tn (kO 383 P) tz tz)) (tn (kO 191 P) (tn (kO 319 P) tz tz) tz)) (tn (kO 95 P) (tn (kO 159 P) (tn (q64 P) tz tz) (tn (kO 415 P) tz tz)) (tn (kO 223 P) (tn (q77 P) tz tz) tz))) (tn (q15 P) (tn (q6 P) (tn (kO 143 P) (tn (kO 271 P) tz tz) (tn (q6 P) tz tz)) (tn (q6 P) (tn (q6 P) tz tz) tz)) (tn (kO 111 P) (tn (kO 175 P) (tn (q69 P) tz tz) (tn (kO 431 P) tz tz)) (tn (kO 239 P) (tn (kO 367 P) tz tz) tz)))) (tn (q8 P) (tn (kO 39 P) (tn (kO 71 P) (tn (kO 135 P) (tn (kO 263 P) tz tz) (tn (kO 391 P) tz tz)) (tn (kO 199 P) (tn (kO 327 P) tz tz) tz)) (tn (kO 103 P) (tn (q6 P) (tn (kO 295 P) tz tz) (tn (kO 423 P) tz tz)) (tn (q53 P) (tn (q83 P) tz tz) tz))) (tn (kO 55 P) (tn (kO 87 P) (tn (q36 P) (tn (kO 279 P) tz tz) (tn (kO 407 P) tz tz)) (tn (kO 215 P) (tn (kO 343 P) tz tz) tz)) (tn (q6 P) (tn (kO 183 P) (tn (kO 311 P) tz tz) (tn (kO 439 P) tz tz)) (tn (kO 247 P) (tn (q6 P) tz tz) tz))))) (tn (q2 P) (tn (q7 P) (tn (kO 35 P) (tn (q2 P) (tn (kO 131 P) (tn (kO 259 P) tz tz) (tn (kO 387 P) tz tz)) (tn (kO 195 P) (tn (kO 323 P) tz tz) tz)) (tn (kO 99 P) (tn (q38 P) (tn (q67 P) tz tz) (tn (kO 419 P) tz tz)) (tn (kO 227 P) (tn (q80 P) tz tz) tz))) (tn (q6 P) (tn (kO 83 P) (tn (kO 147 P) (tn (kO 275 P) tz tz) (tn (kO 403 P) tz tz)) (tn (kO 211 P) (tn (kO 339 P) tz tz) tz)) (tn (q30 P) (tn (kO 179 P) (tn (q6 P) tz tz) (tn (kO 435 P) tz tz)) (tn (q57 P) (tn (q85 P) tz tz) tz)))) (tn (q11 P) (tn (kO 43 P) (tn (q24 P) (tn (kO 139 P) (tn (kO 267 P) tz tz) (tn (q88 P) tz tz)) (tn (q44 P) (tn (q73 P) tz tz) tz)) (tn (kO 107 P) (tn (kO 171 P) (tn (kO 299 P) tz tz) (tn (q93 P) tz tz)) (tn (q6 P) (tn (kO 363 P) tz tz) tz))) (tn (kO 59 P) (tn (kO 91 P) (tn (q6 P) (tn (q62 P) tz tz) (tn (kO 411 P) tz tz)) (tn (kO 219 P) (tn (kO 347 P) tz tz) tz)) (tn (kO 123 P) (tn (kO 187 P) (tn (kO 315 P) tz tz) tz) (tn (kO 251 P) (tn (kO 379 P) tz tz) tz)))))) (tn (boot_o_5 P) (tn (boot_o_9 P) (tn (kO 17 P) (tn (q13 P) (tn (q8 P) (tn (q6 P) (tn (kO 257 P) tz tz) (tn (q87 P) tz tz)) (tn (q6 P) (tn (q6 P) tz tz) tz)) (tn (kO 97 P) (tn (kO 161 P) (tn (q65 P) tz tz) (tn (kO 417 P) tz tz)) (tn (q48 P) (tn (kO 353 P) tz tz) tz))) (tn (kO 49 P) (tn (kO 81 P) (tn (kO 145 P) (tn (kO 273 P) tz tz) (tn (kO 401 P) tz tz)) (tn (kO 209 P) (tn (kO 337 P) tz tz) tz)) (tn (kO 113 P) (tn (q40 P) (tn (kO 305 P) tz tz) (tn (q95 P) tz tz)) (tn (kO 241 P) (tn (kO 369 P) tz tz) tz)))) (tn (q2 P) (tn (kO 41 P) (tn (kO 73 P) (tn (q34 P) (tn (kO 265 P) tz tz) (tn (kO 393 P) tz tz)) (tn (kO 201 P) (tn (kO 329 P) tz tz) tz)) (tn (q6 P) (tn (kO 169 P) (tn (kO 297 P) tz tz) (tn (kO 425 P) tz tz)) (tn (q55 P) (tn (q6 P) tz tz) tz))) (tn (kO 57 P) (tn (q26 P) (tn (kO 153 P) (tn (kO 281 P) tz tz) (tn (q90 P) tz tz)) (tn (q46 P) (tn (q75 P) tz tz) tz)) (tn (kO 121 P) (tn (kO 185 P) (tn (kO 313 P) tz tz) tz) (tn (kO 249 P) (tn (kO 377 P) tz tz) tz))))) (tn (q4 P) (tn (kO 21 P) (tn (q6 P) (tn (q22 P) (tn (kO 133 P) (tn (q59 P) tz tz) (tn (kO 389 P) tz tz)) (tn (kO 197 P) (tn (kO 325 P) tz tz) tz)) (tn (q28 P) (tn (kO 165 P) (tn (q6 P) tz tz) (tn (q92 P) tz tz)) (tn (q52 P) (tn (q81 P) tz tz) tz))) (tn (kO 53 P) (tn (kO 85 P) (tn (kO 149 P) (tn (q61 P) tz tz) (tn (kO 405 P) tz tz)) (tn (kO 213 P) (tn (kO 341 P) tz tz) tz)) (tn (kO 117 P) (tn (q6 P) (tn (kO 309 P) tz tz) (tn (q6 P) tz tz)) (tn (kO 245 P) (tn (kO 373 P) tz tz) tz)))) (tn (kO 29 P) (tn (kO 45 P) (tn (kO 77 P) (tn (q6 P) (tn (q60 P) tz tz) (tn (kO 397 P) tz tz)) (tn (kO 205 P) (tn (kO 333 P) tz tz) tz)) (tn (kO 109 P) (tn (kO 173 P) (tn (kO 301 P) tz tz) (tn (kO 429 P) tz tz)) (tn (kO 237 P) (tn (kO 365 P) tz tz) tz))) (tn (kO 61 P) (tn (q6 P) (tn (kO 157 P) (tn (kO 285 P) tz tz) (tn (q6 P) tz tz)) (tn (kO 221 P) (tn (kO 349 P) tz tz) tz)) (tn (q32 P) (tn (q42 P) (tn (q71 P) tz tz) tz) (tn (q58 P) (tn (kO 381 P) tz tz) tz))))))) (tn (boot_o_2 P) (tn (boot_o_4 P) (tn (boot_o_8 P) (tn (q6 P) (tn (kO 32 P) (tn (q2 P) (tn (kO 128 P) (tn (kO 256 P) tz tz) (tn (kO 384 P) tz tz)) (tn (kO 192 P) (tn (kO 320 P) tz tz) tz)) (tn (kO 96 P) (tn (q6 P) (tn (q2 P) tz tz) (tn (q91 P) tz tz)) (tn (kO 224 P) (tn (q78 P) tz tz) tz))) (tn (kO 48 P) (tn (kO 80 P) (tn (q35 P) (tn (kO 272 P) tz tz) (tn (kO 400 P) tz tz)) (tn (kO 208 P) (tn (kO 336 P) tz tz) tz)) (tn (q6 P) (tn (kO 176 P) (tn (kO 304 P) tz tz) (tn (kO 432 P) tz tz)) (tn (q6 P) (tn (q6 P) tz tz) tz)))) (tn (q9 P) (tn (q14 P) (tn (q6 P) (tn (kO 136 P) (tn (kO 264 P) tz tz) (tn (q6 P) tz tz)) (tn (q6 P) (tn (q6 P) tz tz) tz)) (tn (kO 104 P) (tn (kO 168 P) (tn (q68 P) tz tz) (tn (kO 424 P) tz tz)) (tn (q54 P) (tn (kO 360 P) tz tz) tz))) (tn (kO 56 P) (tn (kO 88 P) (tn (kO 152 P) (tn (kO 280 P) tz tz) (tn (kO 408 P) tz tz)) (tn (kO 216 P) (tn (kO 344 P) tz tz) tz)) (tn (q31 P) (tn (kO 184 P) (tn (kO 312 P) tz tz) (tn (kO 440 P) tz tz)) (tn (kO 248 P) (tn (kO 376 P) tz tz) tz))))) (tn (q79 P) (tn (kO 20 P) (tn (kO 36 P) (tn (q21 P) (tn (kO 132 P) (tn (kO 260 P) tz tz) (tn (kO 388 P) tz tz)) (tn (q43 P) (tn (q72 P) tz tz) tz)) (tn (kO 100 P) (tn (kO 164 P) (tn (kO 292 P) tz tz) (tn (q6 P) tz tz)) (tn (q8 P) (tn (q2 P) tz tz) tz))) (tn (kO 52 P) (tn (kO 84 P) (tn (q6 P) (tn (kO 276 P) tz tz) (tn (kO 404 P) tz tz)) (tn (kO 212 P) (tn (kO 340 P) tz tz) tz)) (tn (kO 116 P) (tn (kO 180 P) (tn (kO 308 P) tz tz) (tn (kO 436 P) tz tz)) (tn (kO 244 P) (tn (kO 372 P) tz tz) tz)))) (tn (q12 P) (tn (q6 P) (tn (kO 76 P) (tn (kO 140 P) (tn (kO 268 P) tz tz) (tn (kO 396 P) tz tz)) (tn (kO 204 P) (tn (kO 332 P) tz tz) tz)) (tn (q29 P) (tn (kO 172 P) (tn (q6 P) tz tz) (tn (q94 P) tz tz)) (tn (q56 P) (tn (q84 P) tz tz) tz))) (tn (kO 60 P) (tn (kO 92 P) (tn (q37 P) (tn (q63 P) tz tz) (tn (kO 412 P) tz tz)) (tn (kO 220 P) (tn (kO 348 P) tz tz) tz)) (tn (q6 P) (tn (kO 188 P) (tn (kO 316 P) tz tz) tz) (tn (kO 252 P) (tn (kO 380 P) tz tz) tz)))))) (tn (boot_o_6 P) (tn (boot_o_10 P) (tn (kO 18 P) (tn (kO 34 P) (tn (q20 P) (tn (q33 P) (tn (q6 P) tz tz) (tn (kO 386 P) tz tz)) (tn (kO 194 P) (tn (kO 322 P) tz tz) tz)) (tn (q6 P) (tn (kO 162 P) (tn (q66 P) tz tz) (tn (kO 418 P) tz tz)) (tn (q49 P) (tn (q8 P) tz tz) tz))) (tn (kO 50 P) (tn (q25 P) (tn (kO 146 P) (tn (q6 P) tz tz) (tn (q89 P) tz tz)) (tn (q45 P) (tn (q74 P) tz tz) tz)) (tn (kO 114 P) (tn (kO 178 P) (tn (kO 306 P) tz tz) (tn (kO 434 P) tz tz)) (tn (kO 242 P) (tn (kO 370 P) tz tz) tz)))) (tn (q10 P) (tn (kO 42 P) (tn (kO 74 P) (tn (kO 138 P) (tn (q6 P) tz tz) (tn (kO 394 P) tz tz)) (tn (kO 202 P) (tn (kO 330 P) tz tz) tz)) (tn (kO 106 P) (tn (q39 P) (tn (kO 298 P) tz tz) (tn (kO 426 P) tz tz)) (tn (kO 234 P) (tn (kO 362 P) tz tz) tz))) (tn (kO 58 P) (tn (kO 90 P) (tn (kO 154 P) (tn (kO 282 P) tz tz) (tn (kO 410 P) tz tz)) (tn (kO 218 P) (tn (kO 346 P) tz tz) tz)) (tn (kO 122 P) (tn (q6 P) (tn (q6 P) tz tz) tz) (tn (q6 P) (tn (q86 P) tz tz) tz))))) (tn (q5 P) (tn (q2 P) (tn (kO 38 P) (tn (q23 P) (tn (q6 P) (tn (kO 262 P) tz tz) (tn (kO 390 P) tz tz)) (tn (kO 198 P) (tn (kO 326 P) tz tz) tz)) (tn (kO 102 P) (tn (kO 166 P) (tn (kO 294 P) tz tz) (tn (kO 422 P) tz tz)) (tn (q2 P) (tn (q82 P) tz tz) tz))) (tn (q16 P) (tn (q6 P) (tn (kO 150 P) (tn (kO 278 P) tz tz) (tn (q6 P) tz tz)) (tn (q6 P) (tn (q6 P) tz tz) tz)) (tn (kO 118 P) (tn (q41 P) (tn (q70 P) tz tz) (tn (q96 P) tz tz)) (tn (kO 246 P) (tn (kO 374 P) tz tz) tz)))) (tn (q6 P) (tn (kO 46 P) (tn (kO 78 P) (tn (kO 142 P) (tn (kO 270 P) tz tz) (tn (kO 398 P) tz tz)) (tn (kO 206 P) (tn (kO 334 P) tz tz) tz)) (tn (kO 110 P) (tn (q6 P) (tn (kO 302 P) tz tz) (tn (q6 P) tz tz)) (tn (kO 238 P) (tn (kO 366 P) tz tz) tz))) (tn (q18 P) (tn (q27 P) (tn (kO 158 P) (tn (q8 P) tz tz) (tn (kO 414 P) tz tz)) (tn (kO 222 P) (tn (kO 350 P) tz tz) tz)) (tn (kO 126 P) (tn (kO 190 P) (tn (kO 318 P) tz tz) tz) (tn (kO 254 P) (tn (q6 P) tz tz) tz))))))))
noncomputable def hp10 (P : Params) : Heap := { objs := #[(boot_o_0 P), (boot_o_1 P), (boot_o_2 P), (kO 3 P), (boot_o_4 P), (boot_o_5 P), (boot_o_6 P), (boot_o_7 P), (boot_o_8 P), (boot_o_9 P), (boot_o_10 P), (q2 P), (q79 P), (q4 P), (q5 P), (kO 15 P), (q6 P), (kO 17 P), (kO 18 P), (q7 P), (kO 20 P), (kO 21 P), (q2 P), (q8 P), (q9 P), (q2 P), (q10 P), (q11 P), (q12 P), (kO 29 P), (q6 P), (kO 31 P), (kO 32 P), (q13 P), (kO 34 P), (kO 35 P), (kO 36 P), (q6 P), (kO 38 P), (kO 39 P), (q14 P), (kO 41 P), (kO 42 P), (kO 43 P), (q6 P), (kO 45 P), (kO 46 P), (q15 P), (kO 48 P), (kO 49 P), (kO 50 P), (q6 P), (kO 52 P), (kO 53 P), (q16 P), (kO 55 P), (kO 56 P), (kO 57 P), (kO 58 P), (kO 59 P), (kO 60 P), (kO 61 P), (q18 P), (q19 P), (q2 P), (q8 P), (q20 P), (q2 P), (q21 P), (q22 P), (q23 P), (kO 71 P), (q6 P), (kO 73 P), (kO 74 P), (q24 P), (kO 76 P), (kO 77 P), (kO 78 P), (q6 P), (kO 80 P), (kO 81 P), (q25 P), (kO 83 P), (kO 84 P), (kO 85 P), (q6 P), (kO 87 P), (kO 88 P), (q26 P), (kO 90 P), (kO 91 P), (kO 92 P), (q6 P), (q27 P), (kO 95 P), (kO 96 P), (kO 97 P), (q6 P), (kO 99 P), (kO 100 P), (q28 P), (kO 102 P), (kO 103 P), (kO 104 P), (q6 P), (kO 106 P), (kO 107 P), (q29 P), (kO 109 P), (kO 110 P), (kO 111 P), (q6 P), (kO 113 P), (kO 114 P), (q30 P), (kO 116 P), (kO 117 P), (kO 118 P), (q6 P), (q31 P), (kO 121 P), (kO 122 P), (kO 123 P), (q6 P), (q32 P), (kO 126 P), (kO 127 P), (kO 128 P), (q6 P), (q33 P), (kO 131 P), (kO 132 P), (kO 133 P), (q6 P), (kO 135 P), (kO 136 P), (q34 P), (kO 138 P), (kO 139 P), (kO 140 P), (q6 P), (kO 142 P), (kO 143 P), (q35 P), (kO 145 P), (kO 146 P), (kO 147 P), (q6 P), (kO 149 P), (kO 150 P), (q36 P), (kO 152 P), (kO 153 P), (kO 154 P), (q6 P), (q37 P), (kO 157 P), (kO 158 P), (kO 159 P), (q6 P), (kO 161 P), (kO 162 P), (q38 P), (kO 164 P), (kO 165 P), (kO 166 P), (q6 P), (kO 168 P), (kO 169 P), (q39 P), (kO 171 P), (kO 172 P), (kO 173 P), (q6 P), (kO 175 P), (kO 176 P), (q40 P), (kO 178 P), (kO 179 P), (kO 180 P), (q6 P), (q41 P), (kO 183 P), (kO 184 P), (kO 185 P), (q6 P), (kO 187 P), (kO 188 P), (q42 P), (kO 190 P), (kO 191 P), (kO 192 P), (q6 P), (kO 194 P), (kO 195 P), (q43 P), (kO 197 P), (kO 198 P), (kO 199 P), (q6 P), (kO 201 P), (kO 202 P), (q44 P), (kO 204 P), (kO 205 P), (kO 206 P), (q6 P), (kO 208 P), (kO 209 P), (q45 P), (kO 211 P), (kO 212 P), (kO 213 P), (q6 P), (kO 215 P), (kO 216 P), (q46 P), (kO 218 P), (kO 219 P), (kO 220 P), (kO 221 P), (kO 222 P), (kO 223 P), (kO 224 P), (q48 P), (q49 P), (kO 227 P), (q8 P), (q52 P), (q2 P), (q53 P), (q54 P), (q55 P), (kO 234 P), (q6 P), (q56 P), (kO 237 P), (kO 238 P), (kO 239 P), (q6 P), (kO 241 P), (kO 242 P), (q57 P), (kO 244 P), (kO 245 P), (kO 246 P), (kO 247 P), (kO 248 P), (kO 249 P), (q6 P), (kO 251 P), (kO 252 P), (q58 P), (kO 254 P), (kO 255 P), (kO 256 P), (kO 257 P), (q6 P), (kO 259 P), (kO 260 P), (q59 P), (kO 262 P), (kO 263 P), (kO 264 P), (kO 265 P), (q6 P), (kO 267 P), (kO 268 P), (q60 P), (kO 270 P), (kO 271 P), (kO 272 P), (kO 273 P), (q6 P), (kO 275 P), (kO 276 P), (q61 P), (kO 278 P), (kO 279 P), (kO 280 P), (kO 281 P), (kO 282 P), (q62 P), (q63 P), (kO 285 P), (q8 P), (q64 P), (q2 P), (q65 P), (q66 P), (q67 P), (kO 292 P), (q6 P), (kO 294 P), (kO 295 P), (q68 P), (kO 297 P), (kO 298 P), (kO 299 P), (q6 P), (kO 301 P), (kO 302 P), (q69 P), (kO 304 P), (kO 305 P), (kO 306 P), (q6 P), (kO 308 P), (kO 309 P), (q70 P), (kO 311 P), (kO 312 P), (kO 313 P), (q6 P), (kO 315 P), (kO 316 P), (q71 P), (kO 318 P), (kO 319 P), (kO 320 P), (q6 P), (kO 322 P), (kO 323 P), (q72 P), (kO 325 P), (kO 326 P), (kO 327 P), (q6 P), (kO 329 P), (kO 330 P), (q73 P), (kO 332 P), (kO 333 P), (kO 334 P), (q6 P), (kO 336 P), (kO 337 P), (q74 P), (kO 339 P), (kO 340 P), (kO 341 P), (q6 P), (kO 343 P), (kO 344 P), (q75 P), (kO 346 P), (kO 347 P), (kO 348 P), (kO 349 P), (kO 350 P), (q77 P), (q78 P), (kO 353 P), (q8 P), (q80 P), (q2 P), (q81 P), (q82 P), (q83 P), (kO 360 P), (q6 P), (kO 362 P), (kO 363 P), (q84 P), (kO 365 P), (kO 366 P), (kO 367 P), (q6 P), (kO 369 P), (kO 370 P), (q85 P), (kO 372 P), (kO 373 P), (kO 374 P), (q6 P), (kO 376 P), (kO 377 P), (q86 P), (kO 379 P), (kO 380 P), (kO 381 P), (q6 P), (kO 383 P), (kO 384 P), (q87 P), (kO 386 P), (kO 387 P), (kO 388 P), (kO 389 P), (kO 390 P), (kO 391 P), (q6 P), (kO 393 P), (kO 394 P), (q88 P), (kO 396 P), (kO 397 P), (kO 398 P), (q6 P), (kO 400 P), (kO 401 P), (q89 P), (kO 403 P), (kO 404 P), (kO 405 P), (q6 P), (kO 407 P), (kO 408 P), (q90 P), (kO 410 P), (kO 411 P), (kO 412 P), (q6 P), (kO 414 P), (kO 415 P), (q91 P), (kO 417 P), (kO 418 P), (kO 419 P), (q6 P), (q92 P), (kO 422 P), (kO 423 P), (kO 424 P), (kO 425 P), (kO 426 P), (q93 P), (q94 P), (kO 429 P), (q6 P), (kO 431 P), (kO 432 P), (q95 P), (kO 434 P), (kO 435 P), (kO 436 P), (q6 P), (q96 P), (kO 439 P), (kO 440 P)] }
noncomputable abbrev hseg := @PySem.W.Fast.tw10110043849684766642
noncomputable abbrev htab := @PySem.W.Fast.tw14364793385576792824
noncomputable abbrev hseen := @PySem.W.Fast.tw4187177175401517315
noncomputable abbrev himp := @PySem.W.Fast.tw5923862056798008813
noncomputable abbrev sA (w : World) (os : OsState) : SharedT := ⟨tr3 w.params, 227, {}, #[], {}, 448, os⟩
noncomputable abbrev sB (w : World) (os : OsState) : SharedT := ⟨tr6 w.params, 353, {}, #[], {}, 625, os⟩
noncomputable abbrev pA : Pos := ⟨23, 0, 150, 31⟩
noncomputable abbrev pB : Pos := ⟨183, 0, 225, 59⟩
theorem pcA0 (w : World) (os : OsState) : hseg htab PySem.Challenge.rw_yi0008_01.row.prog w 11 (some (.ref 6)) 1 1270 (hS w os) (piecesOf (hB.take 4) hE hC p0 [topFrame p0]) = some (.next, sA w os, hC, pA) := by kernel_rfl
theorem pcB0 (w : World) (os : OsState) : hseg htab PySem.Challenge.rw_yi0008_01.row.prog w 11 (some (.ref 6)) 1 1034 (sA w os) (piecesOf ((hB.drop 4).take 3) hE hC pA [topFrame p0]) = some (.next, sB w os, hC, pB) := by kernel_rfl
theorem pcA (w : World) (os : OsState) : segRunT treeTable PySem.Challenge.rw_yi0008_01.row.prog w 11 (some (.ref 6)) 1 1270 (hS w os) (piecesOf (hB.take 4) hE hC p0 [topFrame p0]) = some (.next, sA w os, hC, pA) := by
  rw [show @segRunT = hseg from PySem.W.Fast.te10110043849684766642, show treeTable = htab from PySem.W.Fast.te14364793385576792824]
  exact pcA0 w os
theorem pcB (w : World) (os : OsState) : segRunT treeTable PySem.Challenge.rw_yi0008_01.row.prog w 11 (some (.ref 6)) 1 1034 (sA w os) (piecesOf ((hB.drop 4).take 3) hE hC pA [topFrame p0]) = some (.next, sB w os, hC, pB) := by
  rw [show @segRunT = hseg from PySem.W.Fast.te10110043849684766642, show treeTable = htab from PySem.W.Fast.te14364793385576792824]
  exact pcB0 w os
noncomputable abbrev sC (w : World) (os : OsState) : SharedT := ⟨tr10 w.params, 441, {}, #[], {}, 766, os⟩
noncomputable abbrev pC : Pos := ⟨298, 0, 342, 56⟩
noncomputable abbrev sE (w : World) (os : OsState) : Shared := ⟨hp10 w.params, #[], {}, 766, os⟩
theorem pcC0 (w : World) (os : OsState) : hseg htab PySem.Challenge.rw_yi0008_01.row.prog w 11 (some (.ref 6)) 1 735 (sB w os) (piecesOf ((hB.drop 4).drop 3) hE hC pB [topFrame p0]) = some (.next, sC w os, hC, pC) := by kernel_rfl
theorem pcC (w : World) (os : OsState) : segRunT treeTable PySem.Challenge.rw_yi0008_01.row.prog w 11 (some (.ref 6)) 1 735 (sB w os) (piecesOf ((hB.drop 4).drop 3) hE hC pB [topFrame p0]) = some (.next, sC w os, hC, pC) := by
  rw [show @segRunT = hseg from PySem.W.Fast.te10110043849684766642, show treeTable = htab from PySem.W.Fast.te14364793385576792824]
  exact pcC0 w os
theorem absC (w : World) (os : OsState) : (sC w os).abs = sE w os := by kernel_rfl
theorem h_run (w : World) (os : OsState) : topRun treeTable PySem.Challenge.rw_yi0008_01.row.prog w 11 (some (.ref 6)) (12 + (1 + (1270 + (1034 + (735 + 2))))) ⟨boot_heap w.params, #[], boot_drawn, boot_toks, os⟩ (topStub PySem.Challenge.rw_yi0008_01.row.prog) = some (sE w os) := by
  refine go_top (h_pre w os) (piece_block (h_block w os) ?_)
  have k3 := piece_app (rest := []) (segRun_of (pcC w os)) (piece_nil h_fin)
  rw [List.append_nil, absC] at k3
  have k2 := piece_app (rest := (hB.drop 4).drop 3) (segRun_of (pcB w os)) k3
  rw [List.take_append_drop] at k2
  have k1 := piece_app (rest := hB.drop 4) (segRun_of (pcA w os)) k2
  rw [List.take_append_drop] at k1
  exact k1
noncomputable abbrev xt (s : Shared) : Bool := xlAt Mine.vw [] s && recOk (RowW.records (OpenRow.toRowW (OpenLaw.row PySem.Challenge.rw_yi0008_01))) s
noncomputable abbrev sn (w : World) (os : OsState) := hseen vw lo (himp PySem.Challenge.rw_yi0008_01.row.prog.main.body) xt true (sE w os)
theorem l0 (w : World) (os : OsState) : (staticsOk (himp PySem.Challenge.rw_yi0008_01.row.prog.main.body) (boot_heap w.params) (hp10 w.params) && namesBound PySem.Challenge.rw_yi0008_01.row.prog (hp10 w.params) && gensDone (sE w os) && laidKept (boot_heap w.params) (hp10 w.params)) = true := by kernel_rfl
theorem l1 (w : World) (os : OsState) : (sn w os).1 = expectedOf vw := by kernel_rfl
theorem l2 (w : World) (os : OsState) : (sn w os).2.1 = bltViewBooted := by kernel_rfl
theorem l3 (w : World) (os : OsState) : (sn w os).2.2.1 = true := by kernel_rfl
theorem l4 (w : World) (os : OsState) : (sn w os).2.2.2.1 = true := by kernel_rfl
theorem l5 (w : World) (os : OsState) : (sn w os).2.2.2.2.1 = pinGoodD (drecsOf vw) := by kernel_rfl
theorem l6 (w : World) (os : OsState) : (sn w os).2.2.2.2.2.1 = plainGoodE vw (looseW vw lo) := by kernel_rfl
theorem l7 (w : World) (os : OsState) : (sn w os).2.2.2.2.2.2.1 = plainGoodD vw lo := by kernel_rfl
theorem l8 (w : World) (os : OsState) : (sn w os).2.2.2.2.2.2.2.1 = wideGood vw := by kernel_rfl
theorem l9 (w : World) (os : OsState) : (sn w os).2.2.2.2.2.2.2.2 = clsGoodW vw lo := by kernel_rfl
noncomputable abbrev hk : Hook := kHook Mine.hd.heap_1 asL (fun _ => by kernel_rfl)
theorem l10 (w : World) (os : OsState) : hk.obs (sE w os) = hk.val w := by kernel_rfl
theorem lk (w : World) (os : OsState) : openSeen vw lo (importedModules PySem.Challenge.rw_yi0008_01.row.prog.main.body) xt true (sE w os) = openGood vw lo := by
  rw [show @openSeen = hseen from PySem.W.Fast.te4187177175401517315, show @importedModules = himp from PySem.W.Fast.te5923862056798008813]
  exact Prod.ext (l1 w os) (Prod.ext (l2 w os) (Prod.ext (l3 w os) (Prod.ext (l4 w os) (Prod.ext (l5 w os) (Prod.ext (l6 w os) (Prod.ext (l7 w os) (Prod.ext (l8 w os) (l9 w os))))))))
theorem left : LeftO PySem.Challenge.rw_yi0008_01.row.prog vw lo xt hk.obs hk.val 6198 true := by
  refine LeftO.of_pieces h_open h_size h_run (by rfl) fun w => funext fun os => ?_
  refine Prod.ext ?_ (Prod.ext (lk w os) (l10 w os))
  show (staticsOk (importedModules PySem.Challenge.rw_yi0008_01.row.prog.main.body) (boot_heap w.params) (hp10 w.params) && namesBound PySem.Challenge.rw_yi0008_01.row.prog (hp10 w.params) && gensDone (sE w os) && laidKept (boot_heap w.params) (hp10 w.params)) = true
  rw [show @importedModules = himp from PySem.W.Fast.te5923862056798008813]
  exact l0 w os
end HG
end

section Zip
open PyProof.Rows.LCg (NsObj lst ns_obj lst_snoc)
variable {prog : Program} {w : World} {A : Around} {E : Value → Shared → Prop} {s : Shared} {h₀ : Heap} {L : Addr} {m : Str → Option Value} {env : Env}

/-- the end of a turn of a comprehension over a zip: the ledger stands, an int came -/
noncomputable def ZEnd (h₀ : Heap) (L : Addr) (m : Str → Option Value) (s₁ : Shared) (led : List (Addr × Obj)) (r : Int) (y : Value) (s₂ : Shared) : Prop :=
  ∃ h' tk, s₂ = { s₁ with heap := h', toks := tk } ∧ Fr h₀ L h' m ∧ News h₀ L h' led ∧ ∃ t, y = .int r t
theorem ZEnd.intro {s₁ : Shared} {led all : List (Addr × Obj)} {r r' : Int} {h' : Heap} {tk : Nat} {t : Tok} (F : Fr h₀ L h' m) (N : News h₀ L h' all) (sub : ∀ p ∈ led, p ∈ all) (e : r' = r) :
    ZEnd h₀ L m s₁ led r (.int r' t) { s₁ with heap := h', toks := tk } := by
  subst e
  exact ⟨h', tk, rfl, F, fun p hp => N p (sub p hp), t, rfl⟩
noncomputable def ZTurn (prog : Program) (w : World) (A : Around) (h₀ : Heap) (L : Addr) (m : Str → Option Value) (env : Env) (elt : Expr) (x x₂ : Str) (scope : Scope) (cl : List (Str × Addr)) (s : Shared) (ns ks : List Int) (g : Int → Int → Int) (news : List (Addr × Obj)) : Prop :=
  ∀ (a b : Int) (ta tb : Tok) (C D : Addr) (oC oD : Obj) (own : List (Addr × Obj)) (m₂ : Str → Option Value) (h : Heap) (tk : Nat) (E' : Value → Shared → Prop),
    a ∈ ns → b ∈ ks → NsObj oC m₂ → m₂ x = some (.int a ta) → m₂ x₂ = some (.int b tb) → Fr h₀ L h m → News h₀ L h ((C, oC) :: (D, oD) :: (news ++ own)) →
    wpAny (model prog w) A (eval elt (compEnvC scope cl C env)) (ZEnd h₀ L m { s with heap := h, toks := tk } ((C, oC) :: (D, oD) :: (news ++ own)) (g a b)) E' { s with heap := h, toks := tk }
noncomputable abbrev zSt (z TI TO i1 i2 l1 l2 : Addr) (xs ys : Array Value) (i : Nat) (h : Heap) : Prop :=
  IsZip h z TI TO .none ∧ IsPair h TI (.ref i1) (.ref i2) ∧ (∃ a b, IsPair h TO a b) ∧ h.IsListIter i1 l1 i ∧ h.IsListIter i2 l2 i ∧ h.IsList l1 xs ∧ h.IsList l2 ys
noncomputable def ZFin (h₀ : Heap) (L : Addr) (m : Str → Option Value) (s₁ : Shared) (ns ks : List Int) (g : Int → Int → Int) (y : Str) (news : List (Addr × Obj)) (Q : Flow → Shared → Prop) : Prop :=
  ∀ (D : Addr) (h : Heap) (tk : Nat) (ys : List Value) (n : Nat), IntsAre ys (List.zipWith g ns ks) → (List.zipWith g ns ks).length = ns.length → Fr h₀ L h (fun z => if z = y then some (.ref D) else m z) → News h₀ L h ((D, listOf ys.toArray n) :: news) → (∀ p ∈ news, p.1 < D) →
      Q .next { s₁ with heap := h, toks := tk }
noncomputable def ZSrc (prog : Program) (w : World) (A : Around) (h₀ : Heap) (L : Addr) (m : Str → Option Value) (env : Env) (elt : Expr) (x x₂ : Str) (scope : Scope) (cl : List (Str × Addr)) (y : Str) (Q : Flow → Shared → Prop) (xv : Value) (s₁ : Shared) : Prop :=
  ∃ (z TI TO i1 i2 l1 l2 : Addr) (vs us : List Value) (ns ks : List Int) (n1 n2 : Nat) (g : Int → Int → Int) (news : List (Addr × Obj)),
    xv = .ref z ∧ A.handled = none ∧ Fr h₀ L s₁.heap m ∧ News h₀ L s₁.heap news ∧ (l1, listOf vs.toArray n1) ∈ news ∧ (l2, listOf us.toArray n2) ∈ news ∧ IntsAre vs ns ∧ IntsAre us ks ∧ ns.length = ks.length ∧ ns.length ≤ sizeLine ∧
    ZipApart z TI TO i1 i2 l1 l2 ∧ zSt z TI TO i1 i2 l1 l2 vs.toArray us.toArray 0 s₁.heap ∧ (∀ b ∈ [z, TI, TO, i1, i2], h₀.get? b = none ∧ b ≠ L ∧ ∀ p ∈ news, p.1 ≠ b) ∧
    ZTurn prog w A h₀ L m env elt x x₂ scope cl s₁ ns ks g news ∧
    ZFin h₀ L m s₁ ns ks g y news Q

theorem zip_take {g : Int → Int → Int} {ns ks : List Int} {i : Nat} {a b : Int} (ha : ns[i]? = some a) (hb : ks[i]? = some b) :
    List.zipWith g (ns.take (i + 1)) (ks.take (i + 1)) = List.zipWith g (ns.take i) (ks.take i) ++ [g a b] := by
  obtain ⟨h1, e1⟩ := List.getElem?_eq_some_iff.mp ha
  obtain ⟨h2, e2⟩ := List.getElem?_eq_some_iff.mp hb
  rw [List.take_add_one, List.take_add_one, ha, hb]
  rw [List.zipWith_append (by rw [List.length_take, List.length_take]; omega)]
  rfl

theorem Assign_ListComp_Z {elt iter : Expr} {x x₂ y : Str} {px px₂ tp py : Pos} {kk : Nat} {scope : Scope} {cl : List (Str × Addr)} {pos spos : Pos} {Q : Flow → Shared → Prop} (F₀ : Fr h₀ L s.heap m) (hLe : env.locals = L)
    (hsw : swapsWith (.ListComp elt [⟨.Tuple [.Name x px, .Name x₂ px₂] kk tp, iter, [], 0⟩] scope pos) (some (.Name y py)) spos.line env = pure true)
    (hclos : closureFor scope env = pure cl) (hcell : ∀ z ∈ scope.names, z.2 ≠ .cell) (hkind : scope.kind = .function)
    (hnames : ∀ z ∈ scope.names, z.2 = .local → scope.names.lookup z.1 = some .local) (hx : scope.names.lookup x = some .local) (hx₂ : scope.names.lookup x₂ = some .local) (hxx : ¬ x = x₂)
    (hy : env.kindOf y = some .local) (hp : (env.scope.kind == .class || (env.scope.kind == .module && env.locals != env.globals)) = false)
    (h : wpAny (model prog w) A (eval iter env) (ZSrc prog w A h₀ L m env elt x x₂ scope cl y Q) E s)
    (hs : ∀ x, foldedSetIterable iter env x = pure x) :
    wpAny (model prog w) A (exec (.Assign [.Name y py] (.ListComp elt [⟨.Tuple [.Name x px, .Name x₂ px₂] kk tp, iter, [], 0⟩] scope pos) spos) env) Q E s := by
  subst hLe
  rw [exec_Assign_Name_used _ _ _ _ hsw]
  refine wpAny_bind (wpAny_standAt (wpAny_bind ?_))
  show wpAny _ A (do let _ ← comprehension (.ListComp elt [⟨.Tuple [.Name x px, .Name x₂ px₂] kk tp, iter, [], 0⟩] scope pos) scope env _ (newList []) false (eval iter env) (some (assign (.Name y py) env))) _ _ s
  refine wpAny_bind (wpAny_mono (wpAny_comprehension_free (use := some (assign (.Name y py) env)) (Q := fun _ s' => Q .next s') rfl hs hclos hkind hnames
    (wpAny_mono h (fun xv s₁ h₁ => ?_) fun _ _ e => e)) (fun _ s' hq => wpAny_pure (wpAny_pure hq)) fun _ _ e => e)
  obtain ⟨z, TI, TO, i1, i2, l1, l2, vs, us, ns, ks, n1, n2, g, news, rfl, hh, F, N, m1, m2, I1, I2, hlen, hsz, ap, hst, hoff, turn, fin⟩ := h₁
  have hn1 : vs.length = ns.length := I1.length
  have hn2 : us.length = ks.length := I2.length
  have W := WalksT.zip2 (prog := prog) (w := w) hh z TI TO i1 i2 l1 l2 ap vs.toArray us.toArray
  have hmin : min vs.toArray.size us.toArray.size = ns.length := by simp; omega
  rw [hmin] at W
  refine W.self 0 _ _ _ hst ?_
  refine wpAny_newObj_type (wpAny_newFunctionEnv hcell (by intro y hy; simp at hy) (fun h₁ hns₁ hsb₁ => ?_) hkind)
  dsimp only at hns₁ hsb₁ ⊢
  generalize hH2 : s₁.heap.push { cls := .type "list", dict := none, data := .seq ([] : List Value).toArray } = H2 at hns₁ hsb₁ ⊢
  have hC : H2.objs.size = s₁.heap.objs.size + 1 := by rw [← hH2, Heap.size_push]
  have hDC : s₁.heap.objs.size ≠ H2.objs.size := by rw [hC]; exact Nat.ne_of_lt (Nat.lt_succ_self _)
  have below : ∀ b, b < s₁.heap.objs.size → b ≠ H2.objs.size ∧ b ≠ s₁.heap.objs.size := fun b hb => ⟨by rw [hC]; exact Nat.ne_of_lt (Nat.lt_succ_of_lt hb), Nat.ne_of_lt hb⟩
  have old : ∀ b o, s₁.heap.get? b = some o → h₁.get? b = some o := fun b o e => hsb₁.extBut b o (below b (Heap.lt_size e)).1 (Heap.get?_push_of_some _ (hH2 ▸ Heap.get?_push_of_some _ e))
  have hacc : h₁.get? s₁.heap.objs.size = some (lst []) := hsb₁.extBut _ _ hDC (Heap.get?_push_of_some _ (hH2 ▸ Heap.get?_push_size _ rfl))
  have lt5 : ∀ b ∈ [z, TI, TO, i1, i2, l1, l2], b < s₁.heap.objs.size := by
    obtain ⟨q1, q2, ⟨_, _, q3⟩, ⟨_, q4, _⟩, ⟨_, q5, _⟩, ⟨_, q6, _⟩, ⟨_, q7, _⟩⟩ := hst
    intro b hb
    simp only [List.mem_cons, List.not_mem_nil, or_false] at hb
    rcases hb with rfl | rfl | rfl | rfl | rfl | rfl | rfl
    · exact Heap.lt_size q1
    · exact Heap.lt_size q2
    · exact Heap.lt_size q3
    · exact Heap.lt_size q4
    · exact Heap.lt_size q5
    · exact Heap.lt_size q6
    · exact Heap.lt_size q7
  have hDf : s₁.heap.objs.size ∉ [z, TI, TO, i1, i2, l1, l2] := fun hm => Nat.lt_irrefl _ (lt5 _ hm)
  have hCf : H2.objs.size ∉ [z, TI, TO, i1, i2, l1, l2] := fun hm => by have := lt5 _ hm; rw [hC] at this; exact Nat.lt_irrefl _ (Nat.lt_of_succ_lt this)
  have hst₁ : zSt z TI TO i1 i2 l1 l2 vs.toArray us.toArray 0 h₁ := W.frame _ _ _ hst fun b _ o e => old b o e
  have fresh : ∀ a, s₁.heap.objs.size ≤ a → s₁.heap.get? a = none := fun a ha => by
    cases e : s₁.heap.get? a with
    | none => rfl
    | some o' => exact absurd (Heap.lt_size e) (Nat.not_lt.mpr ha)
  have fresh₀ : ∀ a, s₁.heap.objs.size ≤ a → h₀.get? a = none := fun a ha => by
    cases e : h₀.get? a with
    | none => rfl
    | some o' => have := F.keep a o' e; rw [fresh a ha] at this; cases this
  have hD₀ : h₀.get? s₁.heap.objs.size = none := fresh₀ _ (Nat.le_refl _)
  have hC₀ : h₀.get? H2.objs.size = none := fresh₀ _ (by rw [hC]; exact Nat.le_succ _)
  have hLlt : env.locals < s₁.heap.objs.size := F.ns.lt
  have hDL : s₁.heap.objs.size ≠ env.locals := Ne.symm (below _ hLlt).2
  have hCL : H2.objs.size ≠ env.locals := Ne.symm (below _ hLlt).1
  have newsD : ∀ p ∈ news, p.1 < s₁.heap.objs.size := fun p hp => Heap.lt_size (N p hp).1
  have wrL : env.locals ∉ [z, TO, i1, i2] := fun hm => by
    simp only [List.mem_cons, List.not_mem_nil, or_false] at hm
    rcases hm with e | e | e | e
    · exact (hoff z (by simp)).2.1 e.symm
    · exact (hoff TO (by simp)).2.1 e.symm
    · exact (hoff i1 (by simp)).2.1 e.symm
    · exact (hoff i2 (by simp)).2.1 e.symm
  have wr5 : ∀ b, b ∈ [z, TO, i1, i2] → b ∈ [z, TI, TO, i1, i2] := fun b hb => by
    simp only [List.mem_cons, List.not_mem_nil, or_false] at hb ⊢
    rcases hb with e | e | e | e <;> simp [e]
  have wrH : ∀ b o, h₀.get? b = some o → b ∉ [z, TO, i1, i2] := fun b o e hm => by
    have := (hoff b (wr5 b hm)).1; rw [e] at this; cases this
  have wrN : ∀ p ∈ news, p.1 ∉ [z, TO, i1, i2] := fun p hp hm => (hoff p.1 (wr5 _ hm)).2.2 p hp rfl
  have wrD : s₁.heap.objs.size ∉ [z, TO, i1, i2] := fun hm => hDf (W.sub _ hm)
  have wrC : H2.objs.size ∉ [z, TO, i1, i2] := fun hm => hCf (W.sub _ hm)
  have loop : ∀ s₃ : Shared, s₃ = { s₁ with heap := h₁, toks := s₁.toks + ([] : List (Str × Value)).length } →
      codeAny (model prog w) A (.compLoop (.ListComp elt [⟨.Tuple [.Name x px, .Name x₂ px₂] kk tp, iter, [], 0⟩] scope pos) 0 (.ref z) (.ref s₁.heap.objs.size) (compEnvC scope cl H2.objs.size env))
        (compPost (model prog w) A E (some (assign (.Name y py) env)) (fun _ s' => Q .next s') (.ref s₁.heap.objs.size) H2.objs.size) s₃ := by
    rintro s₃ rfl
    refine kcp_loop
      (fun k s' => ∃ h' tk i ys m', s' = { s₁ with heap := h', toks := tk } ∧ i ≤ ns.length ∧ k = ns.length + 1 - i ∧ ys.length = i ∧ IntsAre ys (List.zipWith g (ns.take i) (ks.take i)) ∧ zSt z TI TO i1 i2 l1 l2 vs.toArray us.toArray i h' ∧ Fr h₀ env.locals h' m ∧ h'.Ns H2.objs.size m' ∧
        News h₀ env.locals h' ((s₁.heap.objs.size, lst ys) :: news)) ?_ (ns.length + 1)
      ⟨h₁, _, 0, [], _, rfl, Nat.zero_le _, rfl, rfl, by simpa using IntsAre.nil, hst₁, F.keeps old, hns₁, fun p hp => ?_⟩
    · rintro k s' ⟨h', tk, i, ys, m', rfl, hi, rfl, hyl, hyi, hst', F', hn', N'⟩
      by_cases hlt : i < ns.length
      · refine W.item i _ _ _ hlt hst' fun T' vals h₂ tk₂ hPv hTge hT hMid hk₂ => ?_
        obtain ⟨va, vb, hva, hvb, rfl⟩ := hPv
        refine W.go _ _ _ i T' _ _ _ hMid fun h₃ hst₃ hk₃ => ?_
        have hT₃ : h₃.IsTuple T' #[va, vb] := hT.at fun o e => hk₃ _ o (W.apart _ _ _ hMid) e
        have up₃ : ∀ c o, c ∉ [z, TO, i1, i2] → h'.get? c = some o → h₃.get? c = some o := fun c o hc e => hk₃ c o hc (hk₂ c o hc e)
        obtain ⟨na, ta, rfl, hna⟩ := IntsAre.at I1 i va (by simpa using hva)
        obtain ⟨nb, tb, rfl, hnb⟩ := IntsAre.at I2 i vb (by simpa using hvb)
        refine kcp_assign (env := compEnvC scope cl H2.objs.size env) hh hT₃ (lookup_relabel_local hx) (lookup_relabel_local hx₂) (by simp [compEnvC, relabel, hkind]) (hn'.at' fun o e => up₃ _ o wrC e) fun h₄ tk₄ hn₄ hs₄ => ?_
        have up : ∀ c o, c ∉ [z, TO, i1, i2] → c ≠ H2.objs.size → h'.get? c = some o → h₄.get? c = some o := fun c o h1 h2 e => hs₄ c o h2 (up₃ c o h1 e)
        have hst₄ : zSt z TI TO i1 i2 l1 l2 vs.toArray us.toArray (i + 1) h₄ := W.frame _ _ _ hst₃ fun b hb o e => hs₄ b o (fun q => hCf (by have q' : b = H2.objs.size := q; rw [← q']; exact hb)) e
        obtain ⟨oC, heC, hoC⟩ := ns_obj hn₄
        have F₄ : Fr h₀ env.locals h₄ m := ⟨F'.ns.at' fun o e => up _ o wrL (Ne.symm hCL) e, fun c o e => up c o (wrH c o e) (fun q => by rw [q, hC₀] at e; cases e) (F'.keep c o e), F'.above⟩
        obtain ⟨q1, q2, ⟨xa, xb, q3⟩, q4, q5, q6, q7⟩ := hst₄
        obtain ⟨o4, g4, r4⟩ := q4
        obtain ⟨o5, g5, r5⟩ := q5
        have N₄ : News h₀ env.locals h₄ ((H2.objs.size, oC) :: (s₁.heap.objs.size, lst ys) :: (news ++ [(z, _), (TI, _), (TO, _), (i1, o4), (i2, o5)])) := fun p hp => by
          rcases List.mem_cons.mp hp with rfl | hp
          · exact ⟨heC, hCL, hC₀⟩
          rcases List.mem_cons.mp hp with rfl | hp
          · have zz := N' _ (List.mem_cons_self)
            exact ⟨up _ _ wrD hDC zz.1, zz.2⟩
          rcases List.mem_append.mp hp with hp | hp
          · have zz := N' _ (List.mem_cons_of_mem _ hp)
            exact ⟨up _ _ (wrN p hp) (below _ (newsD p hp)).1 zz.1, zz.2⟩
          · simp only [List.mem_cons, List.not_mem_nil, or_false] at hp
            rcases hp with rfl | rfl | rfl | rfl | rfl
            · exact ⟨q1, (hoff z (by simp)).2.1, (hoff z (by simp)).1⟩
            · exact ⟨q2, (hoff TI (by simp)).2.1, (hoff TI (by simp)).1⟩
            · exact ⟨q3, (hoff TO (by simp)).2.1, (hoff TO (by simp)).1⟩
            · exact ⟨g4, (hoff i1 (by simp)).2.1, (hoff i1 (by simp)).1⟩
            · exact ⟨g5, (hoff i2 (by simp)).2.1, (hoff i2 (by simp)).1⟩
        refine wpAny_mono (turn na nb ta tb H2.objs.size s₁.heap.objs.size oC _ _ _ h₄ _ _ (List.mem_of_getElem? hna) (List.mem_of_getElem? hnb) hoC (by simp [hxx]) (by simp) F₄ N₄) (fun yv s₅ h₅ => ?_) fun _ _ e => e
        obtain ⟨h₅, tk₅, rfl, F₅, N₅, tr, rfl⟩ := h₅
        have zC := (N₅ (H2.objs.size, oC) List.mem_cons_self).1
        have zD := (N₅ (s₁.heap.objs.size, lst ys) (List.mem_cons_of_mem _ List.mem_cons_self)).1
        have zO : ∀ p ∈ news ++ [(z, _), (TI, _), (TO, _), (i1, o4), (i2, o5)], h₅.get? p.1 = some p.2 ∧ p.1 ≠ env.locals ∧ h₀.get? p.1 = none := fun p hp => N₅ p (List.mem_cons_of_mem _ (List.mem_cons_of_mem _ hp))
        refine append_at (hsz := by show ys.toArray.size ≤ sizeLine; rw [List.size_toArray, hyl]; exact Nat.le_trans hi hsz) zD fun h₆ hs₆ hD₆ => ?_
        have up6 : ∀ b o, b ≠ s₁.heap.objs.size → h₅.get? b = some o → h₆.get? b = some o := fun b o hb e => hs₆.extBut b o hb e
        have nD : ∀ b ∈ [z, TI, TO, i1, i2, l1, l2], b ≠ s₁.heap.objs.size := fun b hb => Nat.ne_of_lt (lt5 b hb)
        refine ⟨ns.length + 1 - (i + 1), by omega, h₆, tk₅, i + 1, ys ++ [.int (g na nb) tr], _, rfl, hlt, rfl, by rw [List.length_append, List.length_singleton, hyl], ?_, ?_, F₅.change hs₆ hDL hD₀,
          (hoC.ns zC).sameBut hs₆ (Ne.symm hDC), fun p hp => ?_⟩
        · rw [zip_take hna hnb]
          exact IntsAre.append hyi (.cons _ tr .nil)
        · refine ⟨up6 _ _ (nD z (by simp)) (zO (z, _) (List.mem_append.mpr (.inr (by simp)))).1, up6 _ _ (nD TI (by simp)) (zO (TI, _) (List.mem_append.mpr (.inr (by simp)))).1, ⟨xa, xb, up6 _ _ (nD TO (by simp)) (zO (TO, _) (List.mem_append.mpr (.inr (by simp)))).1⟩,
            ⟨o4, up6 _ _ (nD i1 (by simp)) (zO (i1, o4) (List.mem_append.mpr (.inr (by simp)))).1, r4⟩, ⟨o5, up6 _ _ (nD i2 (by simp)) (zO (i2, o5) (List.mem_append.mpr (.inr (by simp)))).1, r5⟩, ?_, ?_⟩
          · exact ⟨_, up6 _ _ (nD l1 (by simp)) (zO _ (List.mem_append.mpr (.inl m1))).1, rfl, _, rfl⟩
          · exact ⟨_, up6 _ _ (nD l2 (by simp)) (zO _ (List.mem_append.mpr (.inl m2))).1, rfl, _, rfl⟩
        · rcases List.mem_cons.mp hp with rfl | hp
          · exact ⟨hD₆.trans (congrArg some (lst_snoc ys _)), hDL, hD₀⟩
          · have zz := zO p (List.mem_append.mpr (.inl hp))
            exact ⟨up6 _ _ (below _ (newsD p hp)).2 zz.1, zz.2⟩
      · obtain rfl : i = ns.length := Nat.le_antisymm hi (Nat.not_lt.mp hlt)
        refine W.done _ _ _ hst' fun h₂ tk₂ hk₂ => ?_
        have hys : IntsAre ys (List.zipWith g ns ks) := by
          rw [List.take_length, hlen, List.take_length] at hyi
          exact hyi
        have F₂ : Fr h₀ env.locals h₂ m := ⟨F'.ns.at' fun o e => hk₂ _ o wrL e, fun c o e => hk₂ c o (wrH c o e) (F'.keep c o e), F'.above⟩
        have N₂ : News h₀ env.locals h₂ ((s₁.heap.objs.size, lst ys) :: news) := fun p hp => by
          have zz := N' p hp
          refine ⟨hk₂ _ _ ?_ zz.1, zz.2⟩
          rcases List.mem_cons.mp hp with rfl | hp
          · exact wrD
          · exact wrN p hp
        show wpAny _ A (assign (.Name y py) env (.ref s₁.heap.objs.size)) _ _ _
        refine wpAny_assign_Name (wpAny_storeName_local hy F₂.ns (fun h₃ hn₃ hs₃ => ?_) hp)
        have hL₀ : h₀.get? env.locals = none := Heap.get?_none_of_le F₂.above
        have F₃ : Fr h₀ env.locals h₃ (fun z => if z = y then some (.ref s₁.heap.objs.size) else m z) := ⟨hn₃, fun b o e => hs₃.extBut b o (fun q => by rw [q, hL₀] at e; cases e) (F₂.keep b o e), F₂.above⟩
        have hnC : h₂.Ns H2.objs.size m' := hn'.at' fun o e => hk₂ _ o wrC e
        refine ⟨m', hnC.sameBut hs₃ hCL, fun h'' hs'' => ?_⟩
        refine fin s₁.heap.objs.size h'' _ ys ys.length hys (by rw [List.length_zipWith]; omega) (F₃.change hs'' hCL hC₀) (fun p hp => ?_) newsD
        have z3 : h₃.get? p.1 = some p.2 := hs₃.extBut _ _ (N₂ p hp).2.1 (N₂ p hp).1
        refine ⟨hs''.extBut _ _ ?_ z3, (N₂ p hp).2⟩
        rcases List.mem_cons.mp hp with rfl | hp
        · exact hDC
        · exact (below _ (newsD p hp)).1
    · rcases List.mem_cons.mp hp with rfl | hp
      · exact ⟨hacc, hDL, hD₀⟩
      · exact ⟨old _ _ (N p hp).1, (N p hp).2⟩
  exact codeAny_compStart_list (loop _ rfl) (W.self 0 _ _ _ hst₁ (loop _ rfl))

theorem zip_src {elt : Expr} {x x₂ y : Str} {scope : Scope} {cl : List (Str × Addr)} {Q : Flow → Shared → Prop} {l1 l2 : Addr} {vs us : List Value} {ns ks : List Int} {n1 n2 : Nat} {news : List (Addr × Obj)} (g : Int → Int → Int)
    (hh : A.handled = none) (F : Fr h₀ L s.heap m) (N : News h₀ L s.heap news) (m1 : (l1, listOf vs.toArray n1) ∈ news) (m2 : (l2, listOf us.toArray n2) ∈ news) (I1 : IntsAre vs ns) (I2 : IntsAre us ks) (hlen : ns.length = ks.length) (hsz : ns.length ≤ sizeLine)
    (turn : ZTurn prog w A h₀ L m env elt x x₂ scope cl s ns ks g news)
    (fin : ZFin h₀ L m s ns ks g y news Q) :
    wpAny (model prog w) A (call (.type "zip") [.ref l1, .ref l2]) (ZSrc prog w A h₀ L m env elt x x₂ scope cl y Q) E s := by
  have hl1 : s.heap.IsList l1 vs.toArray := ⟨_, (N _ m1).1, rfl, _, rfl⟩
  have hl2 : s.heap.IsList l2 us.toArray := ⟨_, (N _ m2).1, rfl, _, rfl⟩
  have a1 : l1 < s.heap.objs.size := Heap.lt_size (N _ m1).1
  have a2 : l2 < s.heap.objs.size := Heap.lt_size (N _ m2).1
  refine call_zip_2 hl1 hl2 fun h' hz hTI hTO hi1 hi2 _ hk => ?_
  refine ⟨_, _, _, _, _, l1, l2, vs, us, ns, ks, n1, n2, g, news, rfl, hh, F.keeps hk, N.grown hk, m1, m2, I1, I2, hlen, hsz, zipApart_new a1 a2,
    ⟨hz, hTI, ⟨_, _, hTO⟩, hi1, hi2, Heap.IsList.at hl1 (fun o e => hk _ o e), Heap.IsList.at hl2 (fun o e => hk _ o e)⟩, ?_, turn, fin⟩
  have fresh₀ : ∀ a, s.heap.objs.size ≤ a → h₀.get? a = none := fun a ha => by
    cases e : h₀.get? a with
    | none => rfl
    | some o' => exact absurd (Heap.lt_size (F.keep a o' e)) (Nat.not_lt.mpr ha)
  have hL : L < s.heap.objs.size := F.ns.lt
  have key : ∀ b, s.heap.objs.size ≤ b → h₀.get? b = none ∧ b ≠ L ∧ ∀ p ∈ news, p.1 ≠ b := fun b hb =>
    ⟨fresh₀ b hb, Nat.ne_of_gt (Nat.lt_of_lt_of_le hL hb), fun p hp => Nat.ne_of_lt (Nat.lt_of_lt_of_le (Heap.lt_size (N p hp).1) hb)⟩
  intro b hb
  simp only [List.mem_cons, List.not_mem_nil, or_false] at hb
  rcases hb with rfl | rfl | rfl | rfl | rfl
  · exact key _ (Nat.le_add_right _ 4)
  · exact key _ (Nat.le_add_right _ 2)
  · exact key _ (Nat.le_add_right _ 3)
  · exact key _ (Nat.le_refl _)
  · exact key _ (Nat.le_add_right _ 1)
end Zip

section MapC
open PyProof.Rows.LCg (NsObj lst ns_obj lst_snoc fr_but news_but)
variable {prog : Program} {w : World} {A : Around} {E : Value → Shared → Prop} {s : Shared} {h₀ : Heap} {L : Addr} {m : Str → Option Value} {env : Env}

/-- a turn of a comprehension over one list -/
noncomputable def MTurn (prog : Program) (w : World) (A : Around) (h₀ : Heap) (L : Addr) (m : Str → Option Value) (env : Env) (elt : Expr) (x : Str) (scope : Scope) (cl : List (Str × Addr)) (s : Shared) (ns : List Int) (g : Int → Int) (news : List (Addr × Obj)) : Prop :=
  ∀ (a : Int) (ta : Tok) (C D : Addr) (oC oD : Obj) (own : List (Addr × Obj)) (m₂ : Str → Option Value) (h : Heap) (tk : Nat) (E' : Value → Shared → Prop),
    a ∈ ns → NsObj oC m₂ → m₂ x = some (.int a ta) → Fr h₀ L h m → News h₀ L h ((C, oC) :: (D, oD) :: (news ++ own)) →
    wpAny (model prog w) A (eval elt (compEnvC scope cl C env)) (ZEnd h₀ L m { s with heap := h, toks := tk } ((C, oC) :: (D, oD) :: (news ++ own)) (g a)) E' { s with heap := h, toks := tk }
noncomputable def MFin (h₀ : Heap) (L : Addr) (m : Str → Option Value) (s₁ : Shared) (ns : List Int) (g : Int → Int) (y : Str) (news : List (Addr × Obj)) (Q : Flow → Shared → Prop) : Prop :=
  ∀ (D : Addr) (h : Heap) (tk : Nat) (ys : List Value) (n : Nat), IntsAre ys (ns.map g) → (ns.map g).length = ns.length → Fr h₀ L h (fun z => if z = y then some (.ref D) else m z) → News h₀ L h ((D, listOf ys.toArray n) :: news) → (∀ p ∈ news, p.1 < D) →
      Q .next { s₁ with heap := h, toks := tk }
noncomputable def MSrc (prog : Program) (w : World) (A : Around) (h₀ : Heap) (L : Addr) (m : Str → Option Value) (env : Env) (elt : Expr) (x : Str) (scope : Scope) (cl : List (Str × Addr)) (y : Str) (Q : Flow → Shared → Prop) (xv : Value) (s₁ : Shared) : Prop :=
  ∃ (l1 : Addr) (vs : List Value) (ns : List Int) (n1 : Nat) (g : Int → Int) (news : List (Addr × Obj)),
    xv = .ref l1 ∧ A.handled = none ∧ Fr h₀ L s₁.heap m ∧ News h₀ L s₁.heap news ∧ (l1, listOf vs.toArray n1) ∈ news ∧ IntsAre vs ns ∧ ns.length ≤ sizeLine ∧
    MTurn prog w A h₀ L m env elt x scope cl s₁ ns g news ∧ MFin h₀ L m s₁ ns g y news Q
theorem msrc {elt : Expr} {x y : Str} {scope : Scope} {cl : List (Str × Addr)} {Q : Flow → Shared → Prop} {l1 : Addr} {vs : List Value} {ns : List Int} {n1 : Nat} {news : List (Addr × Obj)} (g : Int → Int)
    (hh : A.handled = none) (F : Fr h₀ L s.heap m) (N : News h₀ L s.heap news) (m1 : (l1, listOf vs.toArray n1) ∈ news) (I1 : IntsAre vs ns) (hsz : ns.length ≤ sizeLine)
    (turn : MTurn prog w A h₀ L m env elt x scope cl s ns g news) (fin : MFin h₀ L m s ns g y news Q) : MSrc prog w A h₀ L m env elt x scope cl y Q (.ref l1) s :=
  ⟨l1, vs, ns, n1, g, news, rfl, hh, F, N, m1, I1, hsz, turn, fin⟩

theorem Assign_ListComp_M {elt iter : Expr} {x y : Str} {px py : Pos} {scope : Scope} {cl : List (Str × Addr)} {pos spos : Pos} {Q : Flow → Shared → Prop} (F₀ : Fr h₀ L s.heap m) (hLe : env.locals = L)
    (hsw : swapsWith (.ListComp elt [⟨.Name x px, iter, [], 0⟩] scope pos) (some (.Name y py)) spos.line env = pure true)
    (hclos : closureFor scope env = pure cl) (hcell : ∀ z ∈ scope.names, z.2 ≠ .cell) (hkind : scope.kind = .function)
    (hnames : ∀ z ∈ scope.names, z.2 = .local → scope.names.lookup z.1 = some .local) (hx : scope.names.lookup x = some .local)
    (hy : env.kindOf y = some .local) (hp : (env.scope.kind == .class || (env.scope.kind == .module && env.locals != env.globals)) = false)
    (h : wpAny (model prog w) A (eval iter env) (MSrc prog w A h₀ L m env elt x scope cl y Q) E s)
    (hs : ∀ x, foldedSetIterable iter env x = pure x) :
    wpAny (model prog w) A (exec (.Assign [.Name y py] (.ListComp elt [⟨.Name x px, iter, [], 0⟩] scope pos) spos) env) Q E s := by
  subst hLe
  rw [exec_Assign_Name_used _ _ _ _ hsw]
  refine wpAny_bind (wpAny_standAt (wpAny_bind ?_))
  show wpAny _ A (do let _ ← comprehension (.ListComp elt [⟨.Name x px, iter, [], 0⟩] scope pos) scope env _ (newList []) false (eval iter env) (some (assign (.Name y py) env))) _ _ s
  refine wpAny_bind (wpAny_mono (wpAny_comprehension_free (use := some (assign (.Name y py) env)) (Q := fun _ s' => Q .next s') rfl hs hclos hkind hnames
    (wpAny_mono h (fun xv s₁ h₁ => ?_) fun _ _ e => e)) (fun _ s' hq => wpAny_pure (wpAny_pure hq)) fun _ _ e => e)
  obtain ⟨l1, vs, ns, n1, g, news, rfl, hh, F, N, m1, I1, hsz, turn, fin⟩ := h₁
  have hn1 : vs.length = ns.length := I1.length
  have hl1 : s₁.heap.IsList l1 vs.toArray := ⟨_, (N _ m1).1, rfl, _, rfl⟩
  have hlt1 : l1 < s₁.heap.objs.size := Heap.lt_size (N _ m1).1
  refine wpAny_pyIter_list hl1 ?_
  generalize hI0 : s₁.heap.objs.size = I0
  have W := Walks.list (prog := prog) (w := w) hh I0 l1 (Nat.ne_of_lt (hI0 ▸ hlt1)) vs.toArray
  have hvn : vs.toArray.size = ns.length := by simp; omega
  rw [hvn] at W
  generalize hH1 : s₁.heap.push { cls := .type "list_iterator", data := .fields #[.ref l1, .int 0 0] } = H1
  have h1sz : H1.objs.size = I0 + 1 := by rw [← hH1, Heap.size_push, hI0]
  have up1 : ∀ b o, s₁.heap.get? b = some o → H1.get? b = some o := fun b o e => hH1 ▸ Heap.get?_push_of_some _ e
  have hst : H1.IsListIter I0 l1 0 ∧ H1.IsList l1 vs.toArray := ⟨⟨_, by rw [← hH1, ← hI0]; exact Heap.get?_push_size _ rfl, rfl, rfl⟩, hl1.at fun o e => up1 _ o e⟩
  have hLlt0 : env.locals < I0 := hI0 ▸ F.ns.lt
  have hlt2 : l1 < I0 := hI0 ▸ hlt1
  have fresh0 : ∀ a, I0 ≤ a → h₀.get? a = none := fun a ha => by
    cases e : h₀.get? a with
    | none => rfl
    | some o' =>
      have h1 := Heap.lt_size (F.keep a o' e)
      rw [hI0] at h1
      exact absurd h1 (Nat.not_lt.mpr ha)
  replace F := F.keeps up1
  have newsI : ∀ p ∈ news, p.1 < I0 := fun p hp => hI0 ▸ Heap.lt_size (N p hp).1
  replace N := N.grown up1
  have hLI : env.locals ≠ I0 := Nat.ne_of_lt hLlt0
  have hI₀ : h₀.get? I0 = none := fresh0 _ (Nat.le_refl _)
  refine wpAny_newObj_type (wpAny_newFunctionEnv hcell (by intro y hy; simp at hy) (fun h₁ hns₁ hsb₁ => ?_) hkind)
  dsimp only at hns₁ hsb₁ ⊢
  generalize hH2 : H1.push { cls := .type "list", dict := none, data := .seq ([] : List Value).toArray } = H2 at hns₁ hsb₁ ⊢
  generalize hDz : H1.objs.size = D0 at h1sz hns₁ hsb₁ ⊢
  have hC : H2.objs.size = D0 + 1 := by rw [← hH2, Heap.size_push, hDz]
  have hDC : D0 ≠ H2.objs.size := by rw [hC]; exact Nat.ne_of_lt (Nat.lt_succ_self _)
  have below : ∀ b, b < D0 → b ≠ H2.objs.size ∧ b ≠ D0 := fun b hb => ⟨by rw [hC]; exact Nat.ne_of_lt (Nat.lt_succ_of_lt hb), Nat.ne_of_lt hb⟩
  have ltD : ∀ b o, H1.get? b = some o → b < D0 := fun b o e => hDz ▸ Heap.lt_size e
  have old : ∀ b o, H1.get? b = some o → h₁.get? b = some o := fun b o e => hsb₁.extBut b o (below b (ltD b o e)).1 (Heap.get?_push_of_some _ (hH2 ▸ Heap.get?_push_of_some _ e))
  have hacc : h₁.get? D0 = some (lst []) := hsb₁.extBut _ _ hDC (Heap.get?_push_of_some _ (by rw [← hH2, ← hDz]; exact Heap.get?_push_size _ rfl))
  have hIlt : I0 < D0 := by rw [h1sz]; exact Nat.lt_succ_self _
  have hl1D : l1 < D0 := Nat.lt_trans hlt2 hIlt
  have hDf : D0 ∉ [I0, l1] := fun hm => by
    simp only [List.mem_cons, List.not_mem_nil, or_false] at hm
    rcases hm with e | e
    · exact absurd e (Nat.ne_of_gt hIlt)
    · exact absurd e (Nat.ne_of_gt hl1D)
  have hCf : H2.objs.size ∉ [I0, l1] := fun hm => by
    rw [hC] at hm
    simp only [List.mem_cons, List.not_mem_nil, or_false] at hm
    rcases hm with e | e
    · exact absurd e (Nat.ne_of_gt (Nat.lt_succ_of_lt hIlt))
    · exact absurd e (Nat.ne_of_gt (Nat.lt_succ_of_lt hl1D))
  have hst₁ := W.frame _ _ _ hst fun b _ o e => old b o e
  have hD₀ : h₀.get? D0 = none := fresh0 _ (Nat.le_of_lt hIlt)
  have hC₀ : h₀.get? H2.objs.size = none := fresh0 _ (by rw [hC]; exact Nat.le_succ_of_le (Nat.le_of_lt hIlt))
  have hDL : D0 ≠ env.locals := Nat.ne_of_gt (Nat.lt_trans hLlt0 hIlt)
  have hCL : H2.objs.size ≠ env.locals := Nat.ne_of_gt (by rw [hC]; exact Nat.lt_succ_of_lt (Nat.lt_trans hLlt0 hIlt))
  have hCI : I0 ≠ H2.objs.size := Nat.ne_of_lt (by rw [hC]; exact Nat.lt_succ_of_lt hIlt)
  have hDI : I0 ≠ D0 := Nat.ne_of_lt hIlt
  have newsD : ∀ p ∈ news, p.1 < D0 := fun p hp => Nat.lt_trans (newsI p hp) hIlt
  have wr1 : ∀ b, b ≠ I0 → b ∉ [I0] := fun b hb hm => hb (List.mem_singleton.mp hm)
  have wrH : ∀ b o, h₀.get? b = some o → b ∉ [I0] := fun b o e hm => by
    rw [List.mem_singleton.mp hm, hI₀] at e; cases e
  have loop : ∀ s₃ : Shared, s₃ = { s₁ with heap := h₁, toks := s₁.toks + ([] : List (Str × Value)).length } →
      codeAny (model prog w) A (.compLoop (.ListComp elt [⟨.Name x px, iter, [], 0⟩] scope pos) 0 (.ref I0) (.ref D0) (compEnvC scope cl H2.objs.size env))
        (compPost (model prog w) A E (some (assign (.Name y py) env)) (fun _ s' => Q .next s') (.ref D0) H2.objs.size) s₃ := by
    rintro s₃ rfl
    refine codeAny_compLoop_tests
      (fun k s' => ∃ h' tk i ys m', s' = { s₁ with heap := h', toks := tk } ∧ i ≤ ns.length ∧ k = ns.length + 1 - i ∧ ys.length = i ∧ IntsAre ys ((ns.take i).map g) ∧ (h'.IsListIter I0 l1 i ∧ h'.IsList l1 vs.toArray) ∧ Fr h₀ env.locals h' m ∧ h'.Ns H2.objs.size m' ∧
        News h₀ env.locals h' ((D0, lst ys) :: news)) ?_ (ns.length + 1)
      ⟨h₁, _, 0, [], _, rfl, Nat.zero_le _, rfl, rfl, by simpa using IntsAre.nil, hst₁, F.keeps old, hns₁, fun p hp => ?_⟩
    · rintro k s' ⟨h', tk, i, ys, m', rfl, hi, rfl, hyl, hyi, hst', F', hn', N'⟩
      by_cases hlt : i < ns.length
      · refine W.item i _ _ _ hlt hst' fun v h₂ tk₂ hPv hst₂ hk₂ => ?_
        obtain ⟨na, ta, rfl, hna⟩ := IntsAre.at I1 i v (by simpa using hPv)
        refine wpAny_assign_Name (wpAny_storeName_local (lookup_relabel_local hx) (hn'.at' fun o e => hk₂ _ o (wr1 _ (Ne.symm hCI)) e) (fun h₄ hn₄ hs₄ => ?_) (by simp [compEnvC, relabel, hkind]))
        refine wpAny_tests_nil ?_
        simp only [if_true]
        have up : ∀ c o, c ≠ I0 → c ≠ H2.objs.size → h'.get? c = some o → h₄.get? c = some o := fun c o h1 h2 e => hs₄.extBut c o h2 (hk₂ c o (wr1 _ h1) e)
        have hst₄ := W.frame _ _ _ hst₂ fun b hb o e => hs₄.extBut b o (fun q => hCf (by have q' : b = H2.objs.size := q; rw [← q']; exact hb)) e
        obtain ⟨oC, heC, hoC⟩ := ns_obj hn₄
        have F₄ : Fr h₀ env.locals h₄ m := ⟨F'.ns.at' fun o e => up _ o hLI (Ne.symm hCL) e, fun c o e => up c o (fun q => by rw [q, hI₀] at e; cases e) (fun q => by rw [q, hC₀] at e; cases e) (F'.keep c o e), F'.above⟩
        obtain ⟨⟨o4, g4, r4⟩, q5⟩ := hst₄
        have N₄ : News h₀ env.locals h₄ ((H2.objs.size, oC) :: (D0, lst ys) :: (news ++ [(I0, o4)])) := fun p hp => by
          rcases List.mem_cons.mp hp with rfl | hp
          · exact ⟨heC, hCL, hC₀⟩
          rcases List.mem_cons.mp hp with rfl | hp
          · have zz := N' _ (List.mem_cons_self)
            exact ⟨up _ _ (Ne.symm hDI) hDC zz.1, zz.2⟩
          rcases List.mem_append.mp hp with hp | hp
          · have zz := N' _ (List.mem_cons_of_mem _ hp)
            exact ⟨up _ _ (Nat.ne_of_lt (newsI p hp)) (below _ (newsD p hp)).1 zz.1, zz.2⟩
          · rw [List.mem_singleton.mp hp]
            exact ⟨g4, Ne.symm hLI, hI₀⟩
        refine wpAny_mono (turn na ta H2.objs.size D0 oC _ _ _ h₄ _ _ (List.mem_of_getElem? hna) hoC (by simp) F₄ N₄) (fun yv s₅ h₅ => ?_) fun _ _ e => e
        obtain ⟨h₅, tk₅, rfl, F₅, N₅, tr, rfl⟩ := h₅
        have zC := (N₅ (H2.objs.size, oC) List.mem_cons_self).1
        have zD := (N₅ (D0, lst ys) (List.mem_cons_of_mem _ List.mem_cons_self)).1
        have zO : ∀ p ∈ news ++ [(I0, o4)], h₅.get? p.1 = some p.2 ∧ p.1 ≠ env.locals ∧ h₀.get? p.1 = none := fun p hp => N₅ p (List.mem_cons_of_mem _ (List.mem_cons_of_mem _ hp))
        refine append_at (hsz := by show ys.toArray.size ≤ sizeLine; rw [List.size_toArray, hyl]; exact Nat.le_trans hi hsz) zD fun h₆ hs₆ hD₆ => ?_
        have up6 : ∀ b o, b ≠ D0 → h₅.get? b = some o → h₆.get? b = some o := fun b o hb e => hs₆.extBut b o hb e
        refine ⟨ns.length + 1 - (i + 1), by omega, h₆, tk₅, i + 1, ys ++ [.int (g na) tr], _, rfl, hlt, rfl, by rw [List.length_append, List.length_singleton, hyl], ?_, ?_, F₅.change hs₆ hDL hD₀,
          (hoC.ns zC).sameBut hs₆ (Ne.symm hDC), fun p hp => ?_⟩
        · rw [List.take_add_one, hna, List.map_append]
          exact IntsAre.append hyi (.cons _ tr .nil)
        · exact ⟨⟨o4, up6 _ _ hDI (zO (I0, o4) (List.mem_append.mpr (.inr (by simp)))).1, r4⟩, ⟨_, up6 _ _ (Nat.ne_of_lt hl1D) (zO _ (List.mem_append.mpr (.inl m1))).1, rfl, _, rfl⟩⟩
        · rcases List.mem_cons.mp hp with rfl | hp
          · exact ⟨hD₆.trans (congrArg some (lst_snoc ys _)), hDL, hD₀⟩
          · have zz := zO p (List.mem_append.mpr (.inl hp))
            exact ⟨up6 _ _ (below _ (newsD p hp)).2 zz.1, zz.2⟩
      · obtain rfl : i = ns.length := Nat.le_antisymm hi (Nat.not_lt.mp hlt)
        refine W.done _ _ _ hst' fun h₂ tk₂ hk₂ => ?_
        rw [List.take_length] at hyi
        have F₂ : Fr h₀ env.locals h₂ m := ⟨F'.ns.at' fun o e => hk₂ _ o (wr1 _ hLI) e, fun c o e => hk₂ c o (wrH c o e) (F'.keep c o e), F'.above⟩
        have N₂ : News h₀ env.locals h₂ ((D0, lst ys) :: news) := fun p hp => by
          have zz := N' p hp
          refine ⟨hk₂ _ _ ?_ zz.1, zz.2⟩
          rcases List.mem_cons.mp hp with rfl | hp
          · exact wr1 _ (Ne.symm hDI)
          · exact wr1 _ (Nat.ne_of_lt (newsI p hp))
        show wpAny _ A (assign (.Name y py) env (.ref D0)) _ _ _
        refine wpAny_assign_Name (wpAny_storeName_local hy F₂.ns (fun h₃ hn₃ hs₃ => ?_) hp)
        have hL₀ : h₀.get? env.locals = none := Heap.get?_none_of_le F₂.above
        have F₃ : Fr h₀ env.locals h₃ (fun z => if z = y then some (.ref D0) else m z) := ⟨hn₃, fun b o e => hs₃.extBut b o (fun q => by rw [q, hL₀] at e; cases e) (F₂.keep b o e), F₂.above⟩
        have hnC : h₂.Ns H2.objs.size m' := hn'.at' fun o e => hk₂ _ o (wr1 _ (Ne.symm hCI)) e
        refine ⟨m', hnC.sameBut hs₃ hCL, fun h'' hs'' => ?_⟩
        refine fin D0 h'' _ ys ys.length hyi (List.length_map ..) (F₃.change hs'' hCL hC₀) (fun p hp => ?_) newsD
        have z3 : h₃.get? p.1 = some p.2 := hs₃.extBut _ _ (N₂ p hp).2.1 (N₂ p hp).1
        refine ⟨hs''.extBut _ _ ?_ z3, (N₂ p hp).2⟩
        rcases List.mem_cons.mp hp with rfl | hp
        · exact hDC
        · exact (below _ (newsD p hp)).1
    · rcases List.mem_cons.mp hp with rfl | hp
      · exact ⟨hacc, hDL, hD₀⟩
      · exact ⟨old _ _ (N p hp).1, (N p hp).2⟩
  exact codeAny_compStart_list (loop _ rfl) (W.self 0 _ _ _ hst₁ (loop _ rfl))
end MapC

section MapE
open PyProof.Rows.LCg (NsObj lst ns_obj lst_snoc fr_but news_but)
variable {prog : Program} {w : World} {A : Around} {E : Value → Shared → Prop} {s : Shared} {h₀ : Heap} {L : Addr} {m : Str → Option Value} {env : Env}
noncomputable def MFinE (h₀ : Heap) (L : Addr) (m : Str → Option Value) (s₁ : Shared) (ns : List Int) (g : Int → Int) (news : List (Addr × Obj)) (Q : Value → Shared → Prop) : Prop :=
  ∀ (D : Addr) (h : Heap) (tk : Nat) (ys : List Value) (n : Nat), IntsAre ys (ns.map g) → (ns.map g).length = ns.length → Fr h₀ L h m → News h₀ L h ((D, listOf ys.toArray n) :: news) → (∀ p ∈ news, p.1 < D) →
      Q (.ref D) { s₁ with heap := h, toks := tk }
noncomputable def MSrcE (prog : Program) (w : World) (A : Around) (h₀ : Heap) (L : Addr) (m : Str → Option Value) (env : Env) (elt : Expr) (x : Str) (scope : Scope) (cl : List (Str × Addr)) (Q : Value → Shared → Prop) (xv : Value) (s₁ : Shared) : Prop :=
  ∃ (l1 : Addr) (vs : List Value) (ns : List Int) (n1 : Nat) (g : Int → Int) (news : List (Addr × Obj)),
    xv = .ref l1 ∧ A.handled = none ∧ Fr h₀ L s₁.heap m ∧ News h₀ L s₁.heap news ∧ (l1, listOf vs.toArray n1) ∈ news ∧ IntsAre vs ns ∧ ns.length ≤ sizeLine ∧
    MTurn prog w A h₀ L m env elt x scope cl s₁ ns g news ∧ MFinE h₀ L m s₁ ns g news Q
theorem msrcE {elt : Expr} {x : Str} {scope : Scope} {cl : List (Str × Addr)} {Q : Value → Shared → Prop} {l1 : Addr} {vs : List Value} {ns : List Int} {n1 : Nat} {news : List (Addr × Obj)} (g : Int → Int)
    (hh : A.handled = none) (F : Fr h₀ L s.heap m) (N : News h₀ L s.heap news) (m1 : (l1, listOf vs.toArray n1) ∈ news) (I1 : IntsAre vs ns) (hsz : ns.length ≤ sizeLine)
    (turn : MTurn prog w A h₀ L m env elt x scope cl s ns g news) (fin : MFinE h₀ L m s ns g news Q) : MSrcE prog w A h₀ L m env elt x scope cl Q (.ref l1) s :=
  ⟨l1, vs, ns, n1, g, news, rfl, hh, F, N, m1, I1, hsz, turn, fin⟩
theorem ListComp_M {elt iter : Expr} {x : Str} {px : Pos} {scope : Scope} {cl : List (Str × Addr)} {pos : Pos} {Q : Value → Shared → Prop} (F₀ : Fr h₀ L s.heap m) (hLe : env.locals = L)
    (hclos : closureFor scope env = pure cl) (hcell : ∀ z ∈ scope.names, z.2 ≠ .cell) (hkind : scope.kind = .function)
    (hnames : ∀ z ∈ scope.names, z.2 = .local → scope.names.lookup z.1 = some .local) (hx : scope.names.lookup x = some .local)
    (h : wpAny (model prog w) A (eval iter env) (MSrcE prog w A h₀ L m env elt x scope cl Q) E s)
    (hs : ∀ x, foldedSetIterable iter env x = pure x) :
    wpAny (model prog w) A (eval (.ListComp elt [⟨.Name x px, iter, [], 0⟩] scope pos) env) Q E s := by
  subst hLe
  rw [eval_ListComp]
  refine wpAny_comprehension_free (use := none) rfl hs hclos hkind hnames (wpAny_mono h (fun xv s₁ h₁ => ?_) fun _ _ e => e)
  obtain ⟨l1, vs, ns, n1, g, news, rfl, hh, F, N, m1, I1, hsz, turn, fin⟩ := h₁
  have hn1 : vs.length = ns.length := I1.length
  have hl1 : s₁.heap.IsList l1 vs.toArray := ⟨_, (N _ m1).1, rfl, _, rfl⟩
  have hlt1 : l1 < s₁.heap.objs.size := Heap.lt_size (N _ m1).1
  refine wpAny_pyIter_list hl1 ?_
  generalize hI0 : s₁.heap.objs.size = I0
  have W := Walks.list (prog := prog) (w := w) hh I0 l1 (Nat.ne_of_lt (hI0 ▸ hlt1)) vs.toArray
  have hvn : vs.toArray.size = ns.length := by simp; omega
  rw [hvn] at W
  generalize hH1 : s₁.heap.push { cls := .type "list_iterator", data := .fields #[.ref l1, .int 0 0] } = H1
  have h1sz : H1.objs.size = I0 + 1 := by rw [← hH1, Heap.size_push, hI0]
  have up1 : ∀ b o, s₁.heap.get? b = some o → H1.get? b = some o := fun b o e => hH1 ▸ Heap.get?_push_of_some _ e
  have hst : H1.IsListIter I0 l1 0 ∧ H1.IsList l1 vs.toArray := ⟨⟨_, by rw [← hH1, ← hI0]; exact Heap.get?_push_size _ rfl, rfl, rfl⟩, hl1.at fun o e => up1 _ o e⟩
  have hLlt0 : env.locals < I0 := hI0 ▸ F.ns.lt
  have hlt2 : l1 < I0 := hI0 ▸ hlt1
  have fresh0 : ∀ a, I0 ≤ a → h₀.get? a = none := fun a ha => by
    cases e : h₀.get? a with
    | none => rfl
    | some o' =>
      have h1 := Heap.lt_size (F.keep a o' e)
      rw [hI0] at h1
      exact absurd h1 (Nat.not_lt.mpr ha)
  replace F := F.keeps up1
  have newsI : ∀ p ∈ news, p.1 < I0 := fun p hp => hI0 ▸ Heap.lt_size (N p hp).1
  replace N := N.grown up1
  have hLI : env.locals ≠ I0 := Nat.ne_of_lt hLlt0
  have hI₀ : h₀.get? I0 = none := fresh0 _ (Nat.le_refl _)
  refine wpAny_newObj_type (wpAny_newFunctionEnv hcell (by intro y hy; simp at hy) (fun h₁ hns₁ hsb₁ => ?_) hkind)
  dsimp only at hns₁ hsb₁ ⊢
  generalize hH2 : H1.push { cls := .type "list", dict := none, data := .seq ([] : List Value).toArray } = H2 at hns₁ hsb₁ ⊢
  generalize hDz : H1.objs.size = D0 at h1sz hns₁ hsb₁ ⊢
  have hC : H2.objs.size = D0 + 1 := by rw [← hH2, Heap.size_push, hDz]
  have hDC : D0 ≠ H2.objs.size := by rw [hC]; exact Nat.ne_of_lt (Nat.lt_succ_self _)
  have below : ∀ b, b < D0 → b ≠ H2.objs.size ∧ b ≠ D0 := fun b hb => ⟨by rw [hC]; exact Nat.ne_of_lt (Nat.lt_succ_of_lt hb), Nat.ne_of_lt hb⟩
  have ltD : ∀ b o, H1.get? b = some o → b < D0 := fun b o e => hDz ▸ Heap.lt_size e
  have old : ∀ b o, H1.get? b = some o → h₁.get? b = some o := fun b o e => hsb₁.extBut b o (below b (ltD b o e)).1 (Heap.get?_push_of_some _ (hH2 ▸ Heap.get?_push_of_some _ e))
  have hacc : h₁.get? D0 = some (lst []) := hsb₁.extBut _ _ hDC (Heap.get?_push_of_some _ (by rw [← hH2, ← hDz]; exact Heap.get?_push_size _ rfl))
  have hIlt : I0 < D0 := by rw [h1sz]; exact Nat.lt_succ_self _
  have hl1D : l1 < D0 := Nat.lt_trans hlt2 hIlt
  have hDf : D0 ∉ [I0, l1] := fun hm => by
    simp only [List.mem_cons, List.not_mem_nil, or_false] at hm
    rcases hm with e | e
    · exact absurd e (Nat.ne_of_gt hIlt)
    · exact absurd e (Nat.ne_of_gt hl1D)
  have hCf : H2.objs.size ∉ [I0, l1] := fun hm => by
    rw [hC] at hm
    simp only [List.mem_cons, List.not_mem_nil, or_false] at hm
    rcases hm with e | e
    · exact absurd e (Nat.ne_of_gt (Nat.lt_succ_of_lt hIlt))
    · exact absurd e (Nat.ne_of_gt (Nat.lt_succ_of_lt hl1D))
  have hst₁ := W.frame _ _ _ hst fun b _ o e => old b o e
  have hD₀ : h₀.get? D0 = none := fresh0 _ (Nat.le_of_lt hIlt)
  have hC₀ : h₀.get? H2.objs.size = none := fresh0 _ (by rw [hC]; exact Nat.le_succ_of_le (Nat.le_of_lt hIlt))
  have hDL : D0 ≠ env.locals := Nat.ne_of_gt (Nat.lt_trans hLlt0 hIlt)
  have hCL : H2.objs.size ≠ env.locals := Nat.ne_of_gt (by rw [hC]; exact Nat.lt_succ_of_lt (Nat.lt_trans hLlt0 hIlt))
  have hCI : I0 ≠ H2.objs.size := Nat.ne_of_lt (by rw [hC]; exact Nat.lt_succ_of_lt hIlt)
  have hDI : I0 ≠ D0 := Nat.ne_of_lt hIlt
  have newsD : ∀ p ∈ news, p.1 < D0 := fun p hp => Nat.lt_trans (newsI p hp) hIlt
  have wr1 : ∀ b, b ≠ I0 → b ∉ [I0] := fun b hb hm => hb (List.mem_singleton.mp hm)
  have wrH : ∀ b o, h₀.get? b = some o → b ∉ [I0] := fun b o e hm => by
    rw [List.mem_singleton.mp hm, hI₀] at e; cases e
  have loop : ∀ s₃ : Shared, s₃ = { s₁ with heap := h₁, toks := s₁.toks + ([] : List (Str × Value)).length } →
      codeAny (model prog w) A (.compLoop (.ListComp elt [⟨.Name x px, iter, [], 0⟩] scope pos) 0 (.ref I0) (.ref D0) (compEnvC scope cl H2.objs.size env))
        (compPost (model prog w) A E none Q (.ref D0) H2.objs.size) s₃ := by
    rintro s₃ rfl
    refine codeAny_compLoop_tests
      (fun k s' => ∃ h' tk i ys m', s' = { s₁ with heap := h', toks := tk } ∧ i ≤ ns.length ∧ k = ns.length + 1 - i ∧ ys.length = i ∧ IntsAre ys ((ns.take i).map g) ∧ (h'.IsListIter I0 l1 i ∧ h'.IsList l1 vs.toArray) ∧ Fr h₀ env.locals h' m ∧ h'.Ns H2.objs.size m' ∧
        News h₀ env.locals h' ((D0, lst ys) :: news)) ?_ (ns.length + 1)
      ⟨h₁, _, 0, [], _, rfl, Nat.zero_le _, rfl, rfl, by simpa using IntsAre.nil, hst₁, F.keeps old, hns₁, fun p hp => ?_⟩
    · rintro k s' ⟨h', tk, i, ys, m', rfl, hi, rfl, hyl, hyi, hst', F', hn', N'⟩
      by_cases hlt : i < ns.length
      · refine W.item i _ _ _ hlt hst' fun v h₂ tk₂ hPv hst₂ hk₂ => ?_
        obtain ⟨na, ta, rfl, hna⟩ := IntsAre.at I1 i v (by simpa using hPv)
        refine wpAny_assign_Name (wpAny_storeName_local (lookup_relabel_local hx) (hn'.at' fun o e => hk₂ _ o (wr1 _ (Ne.symm hCI)) e) (fun h₄ hn₄ hs₄ => ?_) (by simp [compEnvC, relabel, hkind]))
        refine wpAny_tests_nil ?_
        simp only [if_true]
        have up : ∀ c o, c ≠ I0 → c ≠ H2.objs.size → h'.get? c = some o → h₄.get? c = some o := fun c o h1 h2 e => hs₄.extBut c o h2 (hk₂ c o (wr1 _ h1) e)
        have hst₄ := W.frame _ _ _ hst₂ fun b hb o e => hs₄.extBut b o (fun q => hCf (by have q' : b = H2.objs.size := q; rw [← q']; exact hb)) e
        obtain ⟨oC, heC, hoC⟩ := ns_obj hn₄
        have F₄ : Fr h₀ env.locals h₄ m := ⟨F'.ns.at' fun o e => up _ o hLI (Ne.symm hCL) e, fun c o e => up c o (fun q => by rw [q, hI₀] at e; cases e) (fun q => by rw [q, hC₀] at e; cases e) (F'.keep c o e), F'.above⟩
        obtain ⟨⟨o4, g4, r4⟩, q5⟩ := hst₄
        have N₄ : News h₀ env.locals h₄ ((H2.objs.size, oC) :: (D0, lst ys) :: (news ++ [(I0, o4)])) := fun p hp => by
          rcases List.mem_cons.mp hp with rfl | hp
          · exact ⟨heC, hCL, hC₀⟩
          rcases List.mem_cons.mp hp with rfl | hp
          · have zz := N' _ (List.mem_cons_self)
            exact ⟨up _ _ (Ne.symm hDI) hDC zz.1, zz.2⟩
          rcases List.mem_append.mp hp with hp | hp
          · have zz := N' _ (List.mem_cons_of_mem _ hp)
            exact ⟨up _ _ (Nat.ne_of_lt (newsI p hp)) (below _ (newsD p hp)).1 zz.1, zz.2⟩
          · rw [List.mem_singleton.mp hp]
            exact ⟨g4, Ne.symm hLI, hI₀⟩
        refine wpAny_mono (turn na ta H2.objs.size D0 oC _ _ _ h₄ _ _ (List.mem_of_getElem? hna) hoC (by simp) F₄ N₄) (fun yv s₅ h₅ => ?_) fun _ _ e => e
        obtain ⟨h₅, tk₅, rfl, F₅, N₅, tr, rfl⟩ := h₅
        have zC := (N₅ (H2.objs.size, oC) List.mem_cons_self).1
        have zD := (N₅ (D0, lst ys) (List.mem_cons_of_mem _ List.mem_cons_self)).1
        have zO : ∀ p ∈ news ++ [(I0, o4)], h₅.get? p.1 = some p.2 ∧ p.1 ≠ env.locals ∧ h₀.get? p.1 = none := fun p hp => N₅ p (List.mem_cons_of_mem _ (List.mem_cons_of_mem _ hp))
        refine append_at (hsz := by show ys.toArray.size ≤ sizeLine; rw [List.size_toArray, hyl]; exact Nat.le_trans hi hsz) zD fun h₆ hs₆ hD₆ => ?_
        have up6 : ∀ b o, b ≠ D0 → h₅.get? b = some o → h₆.get? b = some o := fun b o hb e => hs₆.extBut b o hb e
        refine ⟨ns.length + 1 - (i + 1), by omega, h₆, tk₅, i + 1, ys ++ [.int (g na) tr], _, rfl, hlt, rfl, by rw [List.length_append, List.length_singleton, hyl], ?_, ?_, F₅.change hs₆ hDL hD₀,
          (hoC.ns zC).sameBut hs₆ (Ne.symm hDC), fun p hp => ?_⟩
        · rw [List.take_add_one, hna, List.map_append]
          exact IntsAre.append hyi (.cons _ tr .nil)
        · exact ⟨⟨o4, up6 _ _ hDI (zO (I0, o4) (List.mem_append.mpr (.inr (by simp)))).1, r4⟩, ⟨_, up6 _ _ (Nat.ne_of_lt hl1D) (zO _ (List.mem_append.mpr (.inl m1))).1, rfl, _, rfl⟩⟩
        · rcases List.mem_cons.mp hp with rfl | hp
          · exact ⟨hD₆.trans (congrArg some (lst_snoc ys _)), hDL, hD₀⟩
          · have zz := zO p (List.mem_append.mpr (.inl hp))
            exact ⟨up6 _ _ (below _ (newsD p hp)).2 zz.1, zz.2⟩
      · obtain rfl : i = ns.length := Nat.le_antisymm hi (Nat.not_lt.mp hlt)
        refine W.done _ _ _ hst' fun h₂ tk₂ hk₂ => ?_
        rw [List.take_length] at hyi
        have F₂ : Fr h₀ env.locals h₂ m := ⟨F'.ns.at' fun o e => hk₂ _ o (wr1 _ hLI) e, fun c o e => hk₂ c o (wrH c o e) (F'.keep c o e), F'.above⟩
        have N₂ : News h₀ env.locals h₂ ((D0, lst ys) :: news) := fun p hp => by
          have zz := N' p hp
          refine ⟨hk₂ _ _ ?_ zz.1, zz.2⟩
          rcases List.mem_cons.mp hp with rfl | hp
          · exact wr1 _ (Ne.symm hDI)
          · exact wr1 _ (Nat.ne_of_lt (newsI p hp))
        have hnC : h₂.Ns H2.objs.size m' := hn'.at' fun o e => hk₂ _ o (wr1 _ (Ne.symm hCI)) e
        refine ⟨m', hnC, fun h'' hs'' => ?_⟩
        refine fin D0 h'' _ ys ys.length hyi (List.length_map ..) (F₂.change hs'' hCL hC₀) (fun p hp => ?_) newsD
        refine ⟨hs''.extBut _ _ ?_ (N₂ p hp).1, (N₂ p hp).2⟩
        rcases List.mem_cons.mp hp with rfl | hp
        · exact hDC
        · exact (below _ (newsD p hp)).1
    · rcases List.mem_cons.mp hp with rfl | hp
      · exact ⟨hacc, hDL, hD₀⟩
      · exact ⟨old _ _ (N p hp).1, (N p hp).2⟩
  exact codeAny_compStart_list (loop _ rfl) (W.self 0 _ _ _ hst₁ (loop _ rfl))
end MapE

noncomputable abbrev polyD (h1 h2 : Int) (t1 t2 : Tok) (r l : Addr) : Obj := dictOf [⟨h1, .str (Str.ofString "parent") t1, .ref r⟩, ⟨h2, .str (Str.ofString "coeffs") t2, .ref l⟩] 2
noncomputable abbrev ringD (h1 h2 h3 h4 : Int) (t1 t2 t3 t4 t5 t6 t7 : Tok) (zl : Addr) : Obj :=
  dictOf [⟨h1, .str (Str.ofString "q") t1, .int 3329 t5⟩, ⟨h2, .str (Str.ofString "n") t2, .int 256 t6⟩, ⟨h3, .str (Str.ofString "ntt_zetas") t3, .ref zl⟩, ⟨h4, .str (Str.ofString "ntt_f") t4, .int 3303 t7⟩] 4
noncomputable abbrev addL (ns ks : List Int) : List Int := List.zipWith (fun a b => (a + b).fmod 3329) ns ks
noncomputable abbrev subL (ns ks : List Int) : List Int := List.zipWith (fun a b => (a - b).fmod 3329) ns ks

/-- one butterfly of the transform, as the code does it on the list -/
noncomputable def bf (z l : Int) (c : List Int) (j : Int) : List Int :=
  (c.set (j + l).toNat (c.getD j.toNat 0 - z * c.getD (j + l).toNat 0)).set j.toNat
    ((c.set (j + l).toNat (c.getD j.toNat 0 - z * c.getD (j + l).toNat 0)).getD j.toNat 0 + z * c.getD (j + l).toNat 0)
noncomputable def blk (z l start : Int) (c : List Int) : List Int := (rangeKs start l.toNat).foldl (bf z l) c
/-- b blocks of a layer: half length l, the first root at k0 -/
noncomputable def lay (zs : List Int) (l k0 : Int) (b : Nat) (c : List Int) : List Int :=
  (List.range b).foldl (fun c (i : Nat) => blk (zs.getD (k0 + i).toNat 0) l (2 * l * i) c) c
/-- i layers -/
noncomputable def lays (zs : List Int) (i : Nat) (c : List Int) : List Int :=
  (List.range i).foldl (fun c (i : Nat) => lay zs (2 ^ (7 - i)) (2 ^ i) (2 ^ i) c) c
noncomputable def nttL (zs c : List Int) : List Int := (lays zs 7 c).map (fun x => x.fmod 3329)
/-- one butterfly of the way back -/
noncomputable def bi (z l : Int) (c : List Int) (j : Int) : List Int :=
  let c1 := c.set j.toNat (c.getD j.toNat 0 + c.getD (j + l).toNat 0)
  let c2 := c1.set (j + l).toNat (c1.getD (j + l).toNat 0 - c.getD j.toNat 0)
  c2.set (j + l).toNat (z * c2.getD (j + l).toNat 0)
noncomputable def blkI (z l start : Int) (c : List Int) : List Int := (rangeKs start l.toNat).foldl (bi z l) c
noncomputable def layI (zs : List Int) (l k0 : Int) (b : Nat) (c : List Int) : List Int :=
  (List.range b).foldl (fun c (i : Nat) => blkI (zs.getD (k0 - i).toNat 0) l (2 * l * i) c) c
noncomputable def laysI (zs : List Int) (i : Nat) (c : List Int) : List Int :=
  (List.range i).foldl (fun c (i : Nat) => layI zs (2 ^ (i + 1)) (2 ^ (7 - i) - 1) (2 ^ (6 - i)) c) c
noncomputable def inttL (zs c : List Int) : List Int := (laysI zs 7 c).map (fun x => (x * 3303).fmod 3329)

noncomputable def Stop (P : Prop) : Prop := P
theorem Stop.out {P : Prop} (h : Stop P) : P := h

section
variable {M : Model} {A : Around} {E : Value → Shared → Prop} {s : Shared} {K : Frag} {env : Env} {pos : Pos} {x C : Addr} {ox : Obj} {od : Option Obj} {first : List Value} {Q : Value → Shared → Prop}
/-- an own object called with keywords -/
theorem inst_callKW {e : Expr} {rest : List Expr} {kws : List Keyword} (_X : K.In s.heap) (_I : InstAt s.heap x ox C od) (hd : ox.data = .plain) (hall : (backToKw pos (keywordEach kws env)).all (·.1.isSome) = true)
    (h : wpAny M A (spliced (backTo pos (starEach (e :: rest) env))) (fun vs s₁ => wpAny M A (evalAll ((backToKw pos (keywordEach kws env)).map (·.2)))
      (fun ks s₂ => kco_P K x C ox od s₂.heap ∧ wpAny M A (call (.ref x) (first ++ vs) (((backToKw pos (keywordEach kws env)).filterMap (·.1)).zip ks)) Q E s₂) E s₁) E s)
    (hplain : ((backTo pos (starEach (e :: rest) env)).any (·.1) || (backToKw pos (keywordEach kws env)).any (·.1.isNone)) = false) (he : starEach (e :: rest) env = (false, eval e env) :: starEach rest env) :
    wpAny M A (callWith pos (.ref x) first (backTo pos (starEach (e :: rest) env)) (backToKw pos (keywordEach kws env))) Q E s :=
  kco_callWith_of hplain hd (evalArgs_kw2 hall h he)
end
theorem cmpBack_ref {Q : Value → Shared → Prop} {a : Addr} {s' : Shared} (h : Q (.ref a) s') : PySem.W.CmpBack Q (.ref a) s' := h

section Rng
variable {prog : Program} {w : World} {A : Around} {E : Value → Shared → Prop} {s : Shared} {env : Env} {h₀ : Heap} {x : Str} {body : List Stmt} {Q : Flow → Shared → Prop}
/-- a for over a range: a state and a word, the loop's own name may be among the named values -/
theorem rng {σ : Type} {r : Addr} {a₀ b₀ : Int} {t₀ u₀ v₀ : Tok} {n : Nat} {m₀ : Str → Option Value} (Led : σ → List (Addr × Obj)) (ps : σ → List (Str × Value)) (Facts : σ → Prop) (stored : List Str) (P : List Int → σ → Prop) (c₀ : σ)
    (hh : A.handled = none) (hr : IsRange s.heap r a₀ b₀ 1 t₀ u₀ v₀) (hsmall : Builtin.Range.small a₀ b₀ 1 = true) (hn : Builtin.Range.rangeSize a₀ b₀ 1 = (n : Int)) (F : Fr h₀ env.locals s.heap m₀) (N : News h₀ env.locals s.heap (Led c₀)) (hf : Facts c₀) (hk : ∀ p ∈ ps c₀, m₀ p.1 = some p.2) (hp : P [] c₀)
    (turn : ∀ (c : σ) (pre : List Int) (k : Int) t (u : Str → Option Value) h tk own, k = a₀ + (pre.length : Int) → pre.length < n → OwnOff own ((Led c₀).map (·.1)) → Facts c → P pre c →
      Fr h₀ env.locals h (fun y => if y = x then some (.int k t) else kstB (fun z => if stored.contains z then u z else m₀ z) (ps c) y) → News h₀ env.locals h (Led c ++ own) →
      wpAny (model prog w) A (execs body env) (InvPostN h₀ env.locals (KstS Led ps Facts x stored m₀ P (pre ++ [k])) own ((Led c₀).map (·.1)) { s with heap := h, toks := tk } Q) E { s with heap := h, toks := tk })
    (done : ∀ (c : σ) (u : Str → Option Value) h tk, Facts c → P (rangeKs a₀ n) c → Fr h₀ env.locals h (kstB (fun z => if z = x then u z else if stored.contains z then u z else m₀ z) (ps c)) → News h₀ env.locals h (Led c) → Q .next { s with heap := h, toks := tk }) :
    wpAny (model prog w) A (pyIter (.ref r)) (fun it s₂ => LoopAtV prog w A h₀ env x body Q E it s₂) E s := by
  refine wpAny_pyIter_range hr hsmall ?_
  have W : Walks prog w A s.heap.objs.size [s.heap.objs.size] [s.heap.objs.size] n (fun i v => i < n ∧ ∃ t, v = .int (a₀ + i * 1) t)
      (fun i h => IsRangeIter h s.heap.objs.size (a₀ + (i : Nat) * 1) ((n : Int) - (i : Nat)) 1) := (Walks.range hh _ a₀ 1 n).bound
  have one : ∀ b, b ∈ [s.heap.objs.size] → b = s.heap.objs.size := fun b hb => List.mem_singleton.mp hb
  refine loop_invN (fun i m nx => KstS Led ps Facts x stored m₀ P ((rangeKs a₀ n).take i) m nx) W (fun hm => absurd F.ns.lt (one _ hm ▸ Nat.lt_irrefl _)) (fun b hb => one b hb ▸ next_is_new F)
    (fun p hp hI => absurd (Heap.lt_size (N p hp).1) (one _ hI ▸ Nat.lt_irrefl _)) (fun p hp hI => absurd (Heap.lt_size (N p hp).1) (one _ hI ▸ Nat.lt_irrefl _))
    (by show IsRangeIter _ _ _ _ _; rw [hn]; simpa using Heap.get?_push_size _ rfl) (F.push _) (fun p hp => ⟨Heap.get?_push_of_some _ (N p hp).1, (N p hp).2⟩) ⟨c₀, rfl, hf, hk, fun _ _ _ _ => rfl, by simpa using hp⟩ ?_ ?_
  · rintro i v m₁ nx h tk own hi ⟨_, t, rfl⟩ _ hoff ⟨c, rfl, hf', h1, h2, hp'⟩ F₁ N₁
    have e1 : a₀ + (i : Int) * 1 = a₀ + (i : Int) := by omega
    rw [e1] at F₁
    have hk' : (rangeKs a₀ n)[i]? = some (a₀ + (i : Int)) := by simp [rangeKs, hi]
    have hs : (rangeKs a₀ n).take (i + 1) = (rangeKs a₀ n).take i ++ [a₀ + (i : Int)] := by simp [List.take_add_one, hk']
    have hlen : ((rangeKs a₀ n).take i).length = i := by rw [List.length_take, rangeKs_length]; omega
    rw [hs]
    exact turn c _ _ t m₁ h tk own (by rw [hlen]) (by rw [hlen]; exact hi) hoff hf' hp' (kst_fr h1 h2 F₁) N₁
  · rintro m₁ nx h tk ⟨c, rfl, hf', h1, h2, hp'⟩ F₁ N₁
    rw [List.take_of_length_le (Nat.le_of_eq (rangeKs_length _ _))] at hp'
    have em : kstB (fun z => if z = x then m₁ z else if stored.contains z then m₁ z else m₀ z) (ps c) = m₁ := by
      funext y
      refine kstB_eq h1 fun hn => ?_
      by_cases hy : y = x
      · rw [if_pos hy]
      · rw [if_neg hy]
        cases h3 : stored.contains y with
        | true => simp
        | false => simp only [Bool.false_eq_true, if_false]; exact (h2 y hy hn h3).symm
    exact done c m₁ h tk hf' hp' (em.symm ▸ F₁) N₁
end Rng

theorem bf_length (z l : Int) (c : List Int) (j : Int) : (bf z l c j).length = c.length := by simp [bf]
theorem foldl_bf_length (z l : Int) (js : List Int) : ∀ c : List Int, (js.foldl (bf z l) c).length = c.length := by
  induction js with
  | nil => intro c; rfl
  | cons j r ih => intro c; rw [List.foldl_cons, ih, bf_length]
theorem blk_length (z l st : Int) (c : List Int) : (blk z l st c).length = c.length := foldl_bf_length z l _ c
theorem lay_succ (zs : List Int) (l k0 : Int) (b : Nat) (c : List Int) : lay zs l k0 (b + 1) c = blk (zs.getD (k0 + b).toNat 0) l (2 * l * b) (lay zs l k0 b c) := by
  simp [lay, List.range_succ, List.foldl_append]
theorem lay_length (zs : List Int) (l k0 : Int) (c : List Int) : ∀ b : Nat, (lay zs l k0 b c).length = c.length
  | 0 => rfl
  | b + 1 => by rw [lay_succ, blk_length, lay_length zs l k0 c b]
theorem lays_succ (zs : List Int) (i : Nat) (c : List Int) : lays zs (i + 1) c = lay zs (2 ^ (7 - i)) (2 ^ i) (2 ^ i) (lays zs i c) := by
  simp [lays, List.range_succ, List.foldl_append]
theorem lays_length (zs : List Int) (c : List Int) : ∀ i : Nat, (lays zs i c).length = c.length
  | 0 => rfl
  | i + 1 => by rw [lays_succ, lay_length, lays_length zs c i]

theorem pw7 (i : Nat) (h : i < 7) : ∃ (k : Nat), (2 : Int) ^ i = (k : Int) ∧ 2 ^ i = k ∧ 2 ≤ (2 : Int) ^ (7 - i) ∧ (2 : Int) ^ (7 - i) ≤ 128 ∧ 1 ≤ k ∧ k ≤ 64 ∧ (2 : Int) ^ (7 - i) * (k : Int) = 128 ∧ (2 : Int) ^ (7 - i) = 2 * 2 ^ (7 - (i + 1)) ∧ (2 : Int) ^ (i + 1) = 2 * (k : Int) := by
  have : i = 0 ∨ i = 1 ∨ i = 2 ∨ i = 3 ∨ i = 4 ∨ i = 5 ∨ i = 6 := by omega
  rcases this with rfl | rfl | rfl | rfl | rfl | rfl | rfl <;> exact ⟨_, by rfl, rfl, by decide, by decide, by decide, by decide, by decide, by decide, by decide⟩
theorem inb {l b : Int} {k0 : Int} (hl : 0 < l) (h : l * k0 = 128) (hb0 : 0 ≤ b) (hb : b ≤ k0) : 0 ≤ 2 * l * b ∧ 2 * l * b ≤ 256 ∧ (2 * l * b < 256 → b < k0) ∧ (b < k0 → 2 * l * b + 2 * l ≤ 256) ∧ (¬ 2 * l * b < 256 → b = k0) := by
  have e1 : 2 * l * b = 2 * (l * b) := Int.mul_assoc ..
  have e2 : l * b ≤ l * k0 := Int.mul_le_mul_of_nonneg_left hb (Int.le_of_lt hl)
  have e3 : 0 ≤ l * b := Int.mul_nonneg (Int.le_of_lt hl) hb0
  have e4 : b < k0 → l * b + l ≤ l * k0 := fun hlt => by
    have : l * (b + 1) ≤ l * k0 := Int.mul_le_mul_of_nonneg_left (by omega) (Int.le_of_lt hl)
    rw [Int.mul_add, Int.mul_one] at this; exact this
  have e5 : ¬ b < k0 → b = k0 := fun hn => by omega
  rw [e1]
  refine ⟨by omega, by omega, fun hlt => ?_, fun hlt => by have := e4 hlt; omega, fun hn => ?_⟩
  · apply Classical.byContradiction
    intro hn
    rw [e5 hn] at hlt
    omega
  · apply Classical.byContradiction
    intro hne
    have := e4 (by omega)
    omega
theorem zs_bnd {zs : List Int} {k : Int} (bz : ∀ z ∈ zs, 0 ≤ z ∧ z < 3329) (h0 : 0 ≤ k) (h1 : k < zs.length) : 0 ≤ zs.getD k.toNat 0 ∧ zs.getD k.toNat 0 < 3329 := by
  have h : k.toNat < zs.length := by omega
  have e : zs.getD k.toNat 0 = zs[k.toNat] := by simp [List.getD, h]
  rw [e]
  exact bz _ (List.getElem_mem h)
noncomputable def Hid (P : Prop) : Prop := P
theorem Hid.mk {P : Prop} (h : P) : Hid P := h
theorem Hid.out {P : Prop} (h : Hid P) : P := h
structure LS1 where
  k : Int
  tk : Tok
  l : Int
  tl : Tok
  us : List Value
  c : List Int
structure LS2 where
  k : Int
  tk : Tok
  st : Int
  ts : Tok
  us : List Value
  c : List Int
structure LS3 where
  j : Int
  tj : Tok
  us : List Value
  c : List Int
/-- one place of a list changed by a function -/
noncomputable def md (f : Int → Int) (c : List Int) (j : Int) : List Int := c.set j.toNat (f (c.getD j.toNat 0))
theorem md_length (f : Int → Int) (c : List Int) (j : Int) : (md f c j).length = c.length := by simp [md]
theorem foldl_md_length (f : Int → Int) (js : List Int) : ∀ c : List Int, (js.foldl (md f) c).length = c.length := by
  induction js with
  | nil => intro c; rfl
  | cons j r ih => intro c; rw [List.foldl_cons, ih, md_length]
theorem rangeKs_succ (a : Int) (n : Nat) : rangeKs a (n + 1) = rangeKs a n ++ [a + n] := by simp [rangeKs, List.range_succ]
theorem foldl_md (f : Int → Int) (c : List Int) : ∀ n : Nat, n ≤ c.length → (rangeKs 0 n).foldl (md f) c = (c.take n).map f ++ c.drop n
  | 0, _ => by simp [rangeKs]
  | n + 1, h => by
    rw [rangeKs_succ, List.foldl_append, foldl_md f c n (by omega)]
    show md f _ (0 + (n : Int)) = _
    have e : (0 + (n : Int)).toNat = n := by omega
    have hl : ((c.take n).map f).length = n := by rw [List.length_map, List.length_take]; omega
    have hd : c.drop n = c[n] :: c.drop (n + 1) := List.drop_eq_getElem_cons (by omega)
    unfold md
    have eg : (List.map f (List.take n c) ++ c[n] :: List.drop (n + 1) c).getD n 0 = c[n] := by
      rw [List.getD_eq_getElem?_getD, List.getElem?_append_right (by omega), hl, Nat.sub_self]
      rfl
    rw [e, hd, eg, List.set_append_right _ _ (by omega), hl, Nat.sub_self, List.take_add_one, List.getElem?_eq_getElem (by omega), List.map_append, List.append_assoc]
    rfl
theorem foldl_md_all (f : Int → Int) {c : List Int} {n : Nat} (h : c.length = n) : (rangeKs 0 n).foldl (md f) c = c.map f := by
  subst h
  rw [foldl_md f c _ (Nat.le_refl _)]
  simp
structure LS4 where
  us : List Value
  c : List Int

theorem bi_length (z l : Int) (c : List Int) (j : Int) : (bi z l c j).length = c.length := by simp [bi]
theorem foldl_bi_length (z l : Int) (js : List Int) : ∀ c : List Int, (js.foldl (bi z l) c).length = c.length := by
  induction js with
  | nil => intro c; rfl
  | cons j r ih => intro c; rw [List.foldl_cons, ih, bi_length]
theorem blkI_length (z l st : Int) (c : List Int) : (blkI z l st c).length = c.length := foldl_bi_length z l _ c
theorem layI_succ (zs : List Int) (l k0 : Int) (b : Nat) (c : List Int) : layI zs l k0 (b + 1) c = blkI (zs.getD (k0 - b).toNat 0) l (2 * l * b) (layI zs l k0 b c) := by
  simp [layI, List.range_succ, List.foldl_append]
theorem layI_length (zs : List Int) (l k0 : Int) (c : List Int) : ∀ b : Nat, (layI zs l k0 b c).length = c.length
  | 0 => rfl
  | b + 1 => by rw [layI_succ, blkI_length, layI_length zs l k0 c b]
theorem laysI_succ (zs : List Int) (i : Nat) (c : List Int) : laysI zs (i + 1) c = layI zs (2 ^ (i + 1)) (2 ^ (7 - i) - 1) (2 ^ (6 - i)) (laysI zs i c) := by
  simp [laysI, List.range_succ, List.foldl_append]
theorem laysI_length (zs : List Int) (c : List Int) : ∀ i : Nat, (laysI zs i c).length = c.length
  | 0 => rfl
  | i + 1 => by rw [laysI_succ, layI_length, laysI_length zs c i]
theorem pw7I (i : Nat) (h : i < 7) : ∃ (k : Nat), 2 ^ (6 - i) = k ∧ 2 ≤ (2 : Int) ^ (i + 1) ∧ (2 : Int) ^ (i + 1) ≤ 128 ∧ 1 ≤ k ∧ k ≤ 64 ∧ (2 : Int) ^ (i + 1) * (k : Int) = 128 ∧ (2 : Int) ^ (i + 1 + 1) = 2 ^ (i + 1) * 2 ∧ (2 : Int) ^ (7 - i) = 2 * (k : Int) ∧ (2 : Int) ^ (7 - (i + 1)) = (k : Int) := by
  have : i = 0 ∨ i = 1 ∨ i = 2 ∨ i = 3 ∨ i = 4 ∨ i = 5 ∨ i = 6 := by omega
  rcases this with rfl | rfl | rfl | rfl | rfl | rfl | rfl <;> exact ⟨_, rfl, by decide, by decide, by decide, by decide, by decide, by decide, by decide, by decide⟩

theorem mulok_of {ns : List Int} {c o : Int} (h : ∀ c ∈ ns, IntMulOk c o) (hc : c ∈ ns) : IntMulOk c o := h c hc
noncomputable abbrev mulL (o : Int) (ns : List Int) : List Int := ns.map fun c => (c * o).fmod 3329
noncomputable abbrev radL (ns : List Int) : List Int := ns.set 0 ((ns.getD 0 0 + 0).fmod 3329)
theorem copy_led {prog : Program} {w : World} {A : Around} {E : Value → Shared → Prop} {s : Shared} {h₀ : Heap} {L l : Addr} {m : Str → Option Value} {news : List (Addr × Obj)} {vs : List Value} {ns : List Int} {n : Nat} {Q : Value → Shared → Prop} (F : Fr h₀ L s.heap m) (N : News h₀ L s.heap news)
    (hm : (l, listOf vs.toArray n) ∈ news) (I : IntsAre vs ns) (e : ns.length = 256)
    (h : ∀ D h', Fr h₀ L h' m → News h₀ L h' ((D, listOf vs.toArray 0) :: news) → (∀ q ∈ news, q.1 < D) → Q (.ref D) { s with heap := h' }) :
    wpAny (model prog w) A (call (.builtin "list.copy") [.ref l]) Q E s :=
  PyProof.Rows.copy_list F N ⟨_, (N _ hm).1, rfl, n, rfl⟩ (fun h' F' N' => h _ h' F' N' fun q hq => Heap.lt_size (N q hq).1) (by rw [I.length, e]; decide)

theorem and127 : ∀ n : Fin 128, Builtin.bitAnd (n.val : Int) (2 ^ Int.toNat 7 - 1) = (n.val : Int) := by decide
theorem and127' {i : Int} (h0 : 0 ≤ i) (h1 : i < 128) : Builtin.bitAnd i (2 ^ Int.toNat 7 - 1) = i := by
  have h := and127 ⟨i.toNat, by omega⟩
  have e : ((i.toNat : Nat) : Int) = i := by omega
  simp only [e] at h
  exact h
theorem bin_len : ∀ n : Fin 128, (baseText "0b" 2 (n.val : Int)).length ≤ 9 := by decide +kernel
theorem bin_len' {i : Int} (h0 : 0 ≤ i) (h1 : i < 128) : (baseText "0b" 2 i).length ≤ 9 := by
  have h := bin_len ⟨i.toNat, by omega⟩
  have e : ((i.toNat : Nat) : Int) = i := by omega
  simp only [e] at h
  exact h
theorem bin7 {prog : Program} {w : World} {A : Around} {E : Value → Shared → Prop} {s : Shared} {i : Int} {t : Tok} {Q : Value → Shared → Prop} (h0 : 0 ≤ i) (h1 : i < 128)
    (h : ∀ x : PySem.Str, x = baseText "0b" 2 i → x.length ≤ 9 → Q (.str x s.toks) { s with toks := s.toks + 1 }) :
    wpAny (model prog w) A (call (.builtin "bin") [.int (Builtin.bitAnd i (2 ^ Int.toNat 7 - 1)) t]) Q E s := by
  rw [and127' h0 h1]
  have hl := bin_len' h0 h1
  exact P.bin_of_int (h _ rfl hl) (Nat.le_trans hl (by decide))

noncomputable def brT : List Int := [0, 64, 32, 96, 16, 80, 48, 112, 8, 72, 40, 104, 24, 88, 56, 120, 4, 68, 36, 100, 20, 84, 52, 116, 12, 76, 44, 108, 28, 92, 60, 124, 2, 66, 34, 98, 18, 82, 50, 114, 10, 74, 42, 106, 26, 90, 58, 122, 6, 70, 38, 102, 22, 86, 54, 118, 14, 78, 46, 110, 30, 94, 62, 126, 1, 65, 33, 97, 17, 81, 49, 113, 9, 73, 41, 105, 25, 89, 57, 121, 5, 69, 37, 101, 21, 85, 53, 117, 13, 77, 45, 109, 29, 93, 61, 125, 3, 67, 35, 99, 19, 83, 51, 115, 11, 75, 43, 107, 27, 91, 59, 123, 7, 71, 39, 103, 23, 87, 55, 119, 15, 79, 47, 111, 31, 95, 63, 127]
noncomputable def ZT : List Int := [1, 1729, 2580, 3289, 2642, 630, 1897, 848, 1062, 1919, 193, 797, 2786, 3260, 569, 1746, 296, 2447, 1339, 1476, 3046, 56, 2240, 1333, 1426, 2094, 535, 2882, 2393, 2879, 1974, 821, 289, 331, 3253, 1756, 1197, 2304, 2277, 2055, 650, 1977, 2513, 632, 2865, 33, 1320, 1915, 2319, 1435, 807, 452, 1438, 2868, 1534, 2402, 2647, 2617, 1481, 648, 2474, 3110, 1227, 910, 17, 2761, 583, 2649, 1637, 723, 2288, 1100, 1409, 2662, 3281, 233, 756, 2156, 3015, 3050, 1703, 1651, 2789, 1789, 1847, 952, 1461, 2687, 939, 2308, 2437, 2388, 733, 2337, 268, 641, 1584, 2298, 2037, 3220, 375, 2549, 2090, 1645, 1063, 319, 2773, 757, 2099, 561, 2466, 2594, 2804, 1092, 403, 1026, 1143, 2150, 2775, 886, 1722, 1212, 1874, 1029, 2110, 2935, 885, 2154]
noncomputable def revText (i : Int) (uk : Tok) : PySem.Str := Txt.sliceBy (Txt.zfill (Txt.slice (baseText "0b" 2 i) (some 2) none) 7) none none (-1, uk)
theorem br_gives : ∀ i : Nat, i < 128 → ∀ uk t u : Tok, Gives (Builtin.«int.__new__» ⟨[.type "int", .str (revText (i : Int) uk) t, .int 2 u], []⟩) (.int (brT.getD i 0))
  | 0, _ => fun _ _ _ => .of_eq (by kernel_rfl)
  | 1, _ => fun _ _ _ => .of_eq (by kernel_rfl)
  | 2, _ => fun _ _ _ => .of_eq (by kernel_rfl)
  | 3, _ => fun _ _ _ => .of_eq (by kernel_rfl)
  | 4, _ => fun _ _ _ => .of_eq (by kernel_rfl)
  | 5, _ => fun _ _ _ => .of_eq (by kernel_rfl)
  | 6, _ => fun _ _ _ => .of_eq (by kernel_rfl)
  | 7, _ => fun _ _ _ => .of_eq (by kernel_rfl)
  | 8, _ => fun _ _ _ => .of_eq (by kernel_rfl)
  | 9, _ => fun _ _ _ => .of_eq (by kernel_rfl)
  | 10, _ => fun _ _ _ => .of_eq (by kernel_rfl)
  | 11, _ => fun _ _ _ => .of_eq (by kernel_rfl)
  | 12, _ => fun _ _ _ => .of_eq (by kernel_rfl)
  | 13, _ => fun _ _ _ => .of_eq (by kernel_rfl)
  | 14, _ => fun _ _ _ => .of_eq (by kernel_rfl)
  | 15, _ => fun _ _ _ => .of_eq (by kernel_rfl)
  | 16, _ => fun _ _ _ => .of_eq (by kernel_rfl)
  | 17, _ => fun _ _ _ => .of_eq (by kernel_rfl)
  | 18, _ => fun _ _ _ => .of_eq (by kernel_rfl)
  | 19, _ => fun _ _ _ => .of_eq (by kernel_rfl)
  | 20, _ => fun _ _ _ => .of_eq (by kernel_rfl)
  | 21, _ => fun _ _ _ => .of_eq (by kernel_rfl)
  | 22, _ => fun _ _ _ => .of_eq (by kernel_rfl)
  | 23, _ => fun _ _ _ => .of_eq (by kernel_rfl)
  | 24, _ => fun _ _ _ => .of_eq (by kernel_rfl)
  | 25, _ => fun _ _ _ => .of_eq (by kernel_rfl)
  | 26, _ => fun _ _ _ => .of_eq (by kernel_rfl)
  | 27, _ => fun _ _ _ => .of_eq (by kernel_rfl)
  | 28, _ => fun _ _ _ => .of_eq (by kernel_rfl)
  | 29, _ => fun _ _ _ => .of_eq (by kernel_rfl)
  | 30, _ => fun _ _ _ => .of_eq (by kernel_rfl)
  | 31, _ => fun _ _ _ => .of_eq (by kernel_rfl)
  | 32, _ => fun _ _ _ => .of_eq (by kernel_rfl)
  | 33, _ => fun _ _ _ => .of_eq (by kernel_rfl)
  | 34, _ => fun _ _ _ => .of_eq (by kernel_rfl)
  | 35, _ => fun _ _ _ => .of_eq (by kernel_rfl)
  | 36, _ => fun _ _ _ => .of_eq (by kernel_rfl)
  | 37, _ => fun _ _ _ => .of_eq (by kernel_rfl)
  | 38, _ => fun _ _ _ => .of_eq (by kernel_rfl)
  | 39, _ => fun _ _ _ => .of_eq (by kernel_rfl)
  | 40, _ => fun _ _ _ => .of_eq (by kernel_rfl)
  | 41, _ => fun _ _ _ => .of_eq (by kernel_rfl)
  | 42, _ => fun _ _ _ => .of_eq (by kernel_rfl)
  | 43, _ => fun _ _ _ => .of_eq (by kernel_rfl)
  | 44, _ => fun _ _ _ => .of_eq (by kernel_rfl)
  | 45, _ => fun _ _ _ => .of_eq (by kernel_rfl)
  | 46, _ => fun _ _ _ => .of_eq (by kernel_rfl)
  | 47, _ => fun _ _ _ => .of_eq (by kernel_rfl)
  | 48, _ => fun _ _ _ => .of_eq (by kernel_rfl)
  | 49, _ => fun _ _ _ => .of_eq (by kernel_rfl)
  | 50, _ => fun _ _ _ => .of_eq (by kernel_rfl)
  | 51, _ => fun _ _ _ => .of_eq (by kernel_rfl)
  | 52, _ => fun _ _ _ => .of_eq (by kernel_rfl)
  | 53, _ => fun _ _ _ => .of_eq (by kernel_rfl)
  | 54, _ => fun _ _ _ => .of_eq (by kernel_rfl)
  | 55, _ => fun _ _ _ => .of_eq (by kernel_rfl)
  | 56, _ => fun _ _ _ => .of_eq (by kernel_rfl)
  | 57, _ => fun _ _ _ => .of_eq (by kernel_rfl)
  | 58, _ => fun _ _ _ => .of_eq (by kernel_rfl)
  | 59, _ => fun _ _ _ => .of_eq (by kernel_rfl)
  | 60, _ => fun _ _ _ => .of_eq (by kernel_rfl)
  | 61, _ => fun _ _ _ => .of_eq (by kernel_rfl)
  | 62, _ => fun _ _ _ => .of_eq (by kernel_rfl)
  | 63, _ => fun _ _ _ => .of_eq (by kernel_rfl)
  | 64, _ => fun _ _ _ => .of_eq (by kernel_rfl)
  | 65, _ => fun _ _ _ => .of_eq (by kernel_rfl)
  | 66, _ => fun _ _ _ => .of_eq (by kernel_rfl)
  | 67, _ => fun _ _ _ => .of_eq (by kernel_rfl)
  | 68, _ => fun _ _ _ => .of_eq (by kernel_rfl)
  | 69, _ => fun _ _ _ => .of_eq (by kernel_rfl)
  | 70, _ => fun _ _ _ => .of_eq (by kernel_rfl)
  | 71, _ => fun _ _ _ => .of_eq (by kernel_rfl)
  | 72, _ => fun _ _ _ => .of_eq (by kernel_rfl)
  | 73, _ => fun _ _ _ => .of_eq (by kernel_rfl)
  | 74, _ => fun _ _ _ => .of_eq (by kernel_rfl)
  | 75, _ => fun _ _ _ => .of_eq (by kernel_rfl)
  | 76, _ => fun _ _ _ => .of_eq (by kernel_rfl)
  | 77, _ => fun _ _ _ => .of_eq (by kernel_rfl)
  | 78, _ => fun _ _ _ => .of_eq (by kernel_rfl)
  | 79, _ => fun _ _ _ => .of_eq (by kernel_rfl)
  | 80, _ => fun _ _ _ => .of_eq (by kernel_rfl)
  | 81, _ => fun _ _ _ => .of_eq (by kernel_rfl)
  | 82, _ => fun _ _ _ => .of_eq (by kernel_rfl)
  | 83, _ => fun _ _ _ => .of_eq (by kernel_rfl)
  | 84, _ => fun _ _ _ => .of_eq (by kernel_rfl)
  | 85, _ => fun _ _ _ => .of_eq (by kernel_rfl)
  | 86, _ => fun _ _ _ => .of_eq (by kernel_rfl)
  | 87, _ => fun _ _ _ => .of_eq (by kernel_rfl)
  | 88, _ => fun _ _ _ => .of_eq (by kernel_rfl)
  | 89, _ => fun _ _ _ => .of_eq (by kernel_rfl)
  | 90, _ => fun _ _ _ => .of_eq (by kernel_rfl)
  | 91, _ => fun _ _ _ => .of_eq (by kernel_rfl)
  | 92, _ => fun _ _ _ => .of_eq (by kernel_rfl)
  | 93, _ => fun _ _ _ => .of_eq (by kernel_rfl)
  | 94, _ => fun _ _ _ => .of_eq (by kernel_rfl)
  | 95, _ => fun _ _ _ => .of_eq (by kernel_rfl)
  | 96, _ => fun _ _ _ => .of_eq (by kernel_rfl)
  | 97, _ => fun _ _ _ => .of_eq (by kernel_rfl)
  | 98, _ => fun _ _ _ => .of_eq (by kernel_rfl)
  | 99, _ => fun _ _ _ => .of_eq (by kernel_rfl)
  | 100, _ => fun _ _ _ => .of_eq (by kernel_rfl)
  | 101, _ => fun _ _ _ => .of_eq (by kernel_rfl)
  | 102, _ => fun _ _ _ => .of_eq (by kernel_rfl)
  | 103, _ => fun _ _ _ => .of_eq (by kernel_rfl)
  | 104, _ => fun _ _ _ => .of_eq (by kernel_rfl)
  | 105, _ => fun _ _ _ => .of_eq (by kernel_rfl)
  | 106, _ => fun _ _ _ => .of_eq (by kernel_rfl)
  | 107, _ => fun _ _ _ => .of_eq (by kernel_rfl)
  | 108, _ => fun _ _ _ => .of_eq (by kernel_rfl)
  | 109, _ => fun _ _ _ => .of_eq (by kernel_rfl)
  | 110, _ => fun _ _ _ => .of_eq (by kernel_rfl)
  | 111, _ => fun _ _ _ => .of_eq (by kernel_rfl)
  | 112, _ => fun _ _ _ => .of_eq (by kernel_rfl)
  | 113, _ => fun _ _ _ => .of_eq (by kernel_rfl)
  | 114, _ => fun _ _ _ => .of_eq (by kernel_rfl)
  | 115, _ => fun _ _ _ => .of_eq (by kernel_rfl)
  | 116, _ => fun _ _ _ => .of_eq (by kernel_rfl)
  | 117, _ => fun _ _ _ => .of_eq (by kernel_rfl)
  | 118, _ => fun _ _ _ => .of_eq (by kernel_rfl)
  | 119, _ => fun _ _ _ => .of_eq (by kernel_rfl)
  | 120, _ => fun _ _ _ => .of_eq (by kernel_rfl)
  | 121, _ => fun _ _ _ => .of_eq (by kernel_rfl)
  | 122, _ => fun _ _ _ => .of_eq (by kernel_rfl)
  | 123, _ => fun _ _ _ => .of_eq (by kernel_rfl)
  | 124, _ => fun _ _ _ => .of_eq (by kernel_rfl)
  | 125, _ => fun _ _ _ => .of_eq (by kernel_rfl)
  | 126, _ => fun _ _ _ => .of_eq (by kernel_rfl)
  | 127, _ => fun _ _ _ => .of_eq (by kernel_rfl)
  | n + 128, h => absurd h (by omega)
theorem pow_gives : ∀ e : Nat, e < 128 → ∀ t u v : Tok, Gives (Builtin.«int.__pow__» ⟨[.int 17 t, .int (e : Int) u, .int 3329 v], []⟩) (.int ((Builtin.powMod 17 e 3329 : Nat) : Int))
  | 0, _ => fun _ _ _ => .of_eq (by kernel_rfl)
  | 1, _ => fun _ _ _ => .of_eq (by kernel_rfl)
  | 2, _ => fun _ _ _ => .of_eq (by kernel_rfl)
  | 3, _ => fun _ _ _ => .of_eq (by kernel_rfl)
  | 4, _ => fun _ _ _ => .of_eq (by kernel_rfl)
  | 5, _ => fun _ _ _ => .of_eq (by kernel_rfl)
  | 6, _ => fun _ _ _ => .of_eq (by kernel_rfl)
  | 7, _ => fun _ _ _ => .of_eq (by kernel_rfl)
  | 8, _ => fun _ _ _ => .of_eq (by kernel_rfl)
  | 9, _ => fun _ _ _ => .of_eq (by kernel_rfl)
  | 10, _ => fun _ _ _ => .of_eq (by kernel_rfl)
  | 11, _ => fun _ _ _ => .of_eq (by kernel_rfl)
  | 12, _ => fun _ _ _ => .of_eq (by kernel_rfl)
  | 13, _ => fun _ _ _ => .of_eq (by kernel_rfl)
  | 14, _ => fun _ _ _ => .of_eq (by kernel_rfl)
  | 15, _ => fun _ _ _ => .of_eq (by kernel_rfl)
  | 16, _ => fun _ _ _ => .of_eq (by kernel_rfl)
  | 17, _ => fun _ _ _ => .of_eq (by kernel_rfl)
  | 18, _ => fun _ _ _ => .of_eq (by kernel_rfl)
  | 19, _ => fun _ _ _ => .of_eq (by kernel_rfl)
  | 20, _ => fun _ _ _ => .of_eq (by kernel_rfl)
  | 21, _ => fun _ _ _ => .of_eq (by kernel_rfl)
  | 22, _ => fun _ _ _ => .of_eq (by kernel_rfl)
  | 23, _ => fun _ _ _ => .of_eq (by kernel_rfl)
  | 24, _ => fun _ _ _ => .of_eq (by kernel_rfl)
  | 25, _ => fun _ _ _ => .of_eq (by kernel_rfl)
  | 26, _ => fun _ _ _ => .of_eq (by kernel_rfl)
  | 27, _ => fun _ _ _ => .of_eq (by kernel_rfl)
  | 28, _ => fun _ _ _ => .of_eq (by kernel_rfl)
  | 29, _ => fun _ _ _ => .of_eq (by kernel_rfl)
  | 30, _ => fun _ _ _ => .of_eq (by kernel_rfl)
  | 31, _ => fun _ _ _ => .of_eq (by kernel_rfl)
  | 32, _ => fun _ _ _ => .of_eq (by kernel_rfl)
  | 33, _ => fun _ _ _ => .of_eq (by kernel_rfl)
  | 34, _ => fun _ _ _ => .of_eq (by kernel_rfl)
  | 35, _ => fun _ _ _ => .of_eq (by kernel_rfl)
  | 36, _ => fun _ _ _ => .of_eq (by kernel_rfl)
  | 37, _ => fun _ _ _ => .of_eq (by kernel_rfl)
  | 38, _ => fun _ _ _ => .of_eq (by kernel_rfl)
  | 39, _ => fun _ _ _ => .of_eq (by kernel_rfl)
  | 40, _ => fun _ _ _ => .of_eq (by kernel_rfl)
  | 41, _ => fun _ _ _ => .of_eq (by kernel_rfl)
  | 42, _ => fun _ _ _ => .of_eq (by kernel_rfl)
  | 43, _ => fun _ _ _ => .of_eq (by kernel_rfl)
  | 44, _ => fun _ _ _ => .of_eq (by kernel_rfl)
  | 45, _ => fun _ _ _ => .of_eq (by kernel_rfl)
  | 46, _ => fun _ _ _ => .of_eq (by kernel_rfl)
  | 47, _ => fun _ _ _ => .of_eq (by kernel_rfl)
  | 48, _ => fun _ _ _ => .of_eq (by kernel_rfl)
  | 49, _ => fun _ _ _ => .of_eq (by kernel_rfl)
  | 50, _ => fun _ _ _ => .of_eq (by kernel_rfl)
  | 51, _ => fun _ _ _ => .of_eq (by kernel_rfl)
  | 52, _ => fun _ _ _ => .of_eq (by kernel_rfl)
  | 53, _ => fun _ _ _ => .of_eq (by kernel_rfl)
  | 54, _ => fun _ _ _ => .of_eq (by kernel_rfl)
  | 55, _ => fun _ _ _ => .of_eq (by kernel_rfl)
  | 56, _ => fun _ _ _ => .of_eq (by kernel_rfl)
  | 57, _ => fun _ _ _ => .of_eq (by kernel_rfl)
  | 58, _ => fun _ _ _ => .of_eq (by kernel_rfl)
  | 59, _ => fun _ _ _ => .of_eq (by kernel_rfl)
  | 60, _ => fun _ _ _ => .of_eq (by kernel_rfl)
  | 61, _ => fun _ _ _ => .of_eq (by kernel_rfl)
  | 62, _ => fun _ _ _ => .of_eq (by kernel_rfl)
  | 63, _ => fun _ _ _ => .of_eq (by kernel_rfl)
  | 64, _ => fun _ _ _ => .of_eq (by kernel_rfl)
  | 65, _ => fun _ _ _ => .of_eq (by kernel_rfl)
  | 66, _ => fun _ _ _ => .of_eq (by kernel_rfl)
  | 67, _ => fun _ _ _ => .of_eq (by kernel_rfl)
  | 68, _ => fun _ _ _ => .of_eq (by kernel_rfl)
  | 69, _ => fun _ _ _ => .of_eq (by kernel_rfl)
  | 70, _ => fun _ _ _ => .of_eq (by kernel_rfl)
  | 71, _ => fun _ _ _ => .of_eq (by kernel_rfl)
  | 72, _ => fun _ _ _ => .of_eq (by kernel_rfl)
  | 73, _ => fun _ _ _ => .of_eq (by kernel_rfl)
  | 74, _ => fun _ _ _ => .of_eq (by kernel_rfl)
  | 75, _ => fun _ _ _ => .of_eq (by kernel_rfl)
  | 76, _ => fun _ _ _ => .of_eq (by kernel_rfl)
  | 77, _ => fun _ _ _ => .of_eq (by kernel_rfl)
  | 78, _ => fun _ _ _ => .of_eq (by kernel_rfl)
  | 79, _ => fun _ _ _ => .of_eq (by kernel_rfl)
  | 80, _ => fun _ _ _ => .of_eq (by kernel_rfl)
  | 81, _ => fun _ _ _ => .of_eq (by kernel_rfl)
  | 82, _ => fun _ _ _ => .of_eq (by kernel_rfl)
  | 83, _ => fun _ _ _ => .of_eq (by kernel_rfl)
  | 84, _ => fun _ _ _ => .of_eq (by kernel_rfl)
  | 85, _ => fun _ _ _ => .of_eq (by kernel_rfl)
  | 86, _ => fun _ _ _ => .of_eq (by kernel_rfl)
  | 87, _ => fun _ _ _ => .of_eq (by kernel_rfl)
  | 88, _ => fun _ _ _ => .of_eq (by kernel_rfl)
  | 89, _ => fun _ _ _ => .of_eq (by kernel_rfl)
  | 90, _ => fun _ _ _ => .of_eq (by kernel_rfl)
  | 91, _ => fun _ _ _ => .of_eq (by kernel_rfl)
  | 92, _ => fun _ _ _ => .of_eq (by kernel_rfl)
  | 93, _ => fun _ _ _ => .of_eq (by kernel_rfl)
  | 94, _ => fun _ _ _ => .of_eq (by kernel_rfl)
  | 95, _ => fun _ _ _ => .of_eq (by kernel_rfl)
  | 96, _ => fun _ _ _ => .of_eq (by kernel_rfl)
  | 97, _ => fun _ _ _ => .of_eq (by kernel_rfl)
  | 98, _ => fun _ _ _ => .of_eq (by kernel_rfl)
  | 99, _ => fun _ _ _ => .of_eq (by kernel_rfl)
  | 100, _ => fun _ _ _ => .of_eq (by kernel_rfl)
  | 101, _ => fun _ _ _ => .of_eq (by kernel_rfl)
  | 102, _ => fun _ _ _ => .of_eq (by kernel_rfl)
  | 103, _ => fun _ _ _ => .of_eq (by kernel_rfl)
  | 104, _ => fun _ _ _ => .of_eq (by kernel_rfl)
  | 105, _ => fun _ _ _ => .of_eq (by kernel_rfl)
  | 106, _ => fun _ _ _ => .of_eq (by kernel_rfl)
  | 107, _ => fun _ _ _ => .of_eq (by kernel_rfl)
  | 108, _ => fun _ _ _ => .of_eq (by kernel_rfl)
  | 109, _ => fun _ _ _ => .of_eq (by kernel_rfl)
  | 110, _ => fun _ _ _ => .of_eq (by kernel_rfl)
  | 111, _ => fun _ _ _ => .of_eq (by kernel_rfl)
  | 112, _ => fun _ _ _ => .of_eq (by kernel_rfl)
  | 113, _ => fun _ _ _ => .of_eq (by kernel_rfl)
  | 114, _ => fun _ _ _ => .of_eq (by kernel_rfl)
  | 115, _ => fun _ _ _ => .of_eq (by kernel_rfl)
  | 116, _ => fun _ _ _ => .of_eq (by kernel_rfl)
  | 117, _ => fun _ _ _ => .of_eq (by kernel_rfl)
  | 118, _ => fun _ _ _ => .of_eq (by kernel_rfl)
  | 119, _ => fun _ _ _ => .of_eq (by kernel_rfl)
  | 120, _ => fun _ _ _ => .of_eq (by kernel_rfl)
  | 121, _ => fun _ _ _ => .of_eq (by kernel_rfl)
  | 122, _ => fun _ _ _ => .of_eq (by kernel_rfl)
  | 123, _ => fun _ _ _ => .of_eq (by kernel_rfl)
  | 124, _ => fun _ _ _ => .of_eq (by kernel_rfl)
  | 125, _ => fun _ _ _ => .of_eq (by kernel_rfl)
  | 126, _ => fun _ _ _ => .of_eq (by kernel_rfl)
  | 127, _ => fun _ _ _ => .of_eq (by kernel_rfl)
  | n + 128, h => absurd h (by omega)
theorem brT_lt : ∀ i : Fin 128, 0 ≤ brT.getD i.val 0 ∧ brT.getD i.val 0 < 128 := by decide +kernel
theorem zt_eq : ∀ i : Fin 128, ((Builtin.powMod 17 (brT.getD i.val 0).toNat 3329 : Nat) : Int) = ZT.getD i.val 0 := by decide +kernel
theorem text_len : ∀ i : Fin 128, (Txt.zfill (Txt.slice (baseText "0b" 2 (i.val : Int)) (some 2) none) 7).length ≤ 7 := by decide +kernel
theorem text_len' {bx : PySem.Str} {i : Int} (h0 : 0 ≤ i) (h1 : i < 128) (hb : bx = baseText "0b" 2 i) : (Txt.zfill (Txt.slice bx (some 2) none) 7).length ≤ 7 := by
  have h := text_len ⟨i.toNat, by omega⟩
  have e : ((i.toNat : Nat) : Int) = i := by omega
  simp only [e] at h
  rw [hb]; exact h
theorem callee_br {prog : Program} {w : World} {A : Around} {E : Value → Shared → Prop} {s : Shared} {i : Int} {bx : PySem.Str} {uk t u : Tok} {Q : Value → Shared → Prop} (h0 : 0 ≤ i) (h1 : i < 128) (hb : bx = baseText "0b" 2 i)
    (h : Q (.int (brT.getD i.toNat 0) s.toks) { s with toks := s.toks + 1 }) :
    wpAny (model prog w) A (call (.type "int") [.str (Txt.sliceBy (Txt.zfill (Txt.slice bx (some 2) none) 7) none none (-1, uk)) t, .int 2 u]) Q E s := by
  have e : ((i.toNat : Nat) : Int) = i := by omega
  have g := br_gives i.toNat (by omega) uk t u
  rw [e] at g
  subst hb
  exact callType_new F.called_int F.newNe_int (by kernel_rfl) (by kernel_rfl) (fun obj => F.args_object_init_3 obj _ _) F.entry_int_new g.meets (show (Made.int _).post _ s from ⟨rfl, h⟩)

theorem fm (x : Int) : x.fmod 3329 = x % 3329 := Int.fmod_eq_emod_of_nonneg x (by decide)
theorem p_sub {A B : List Int} : subL B A = List.zipWith (fun za zb => (zb - za).fmod 3329) A B := by
  refine List.ext_getElem (by simp [Nat.min_comm]) fun i h1 h2 => ?_
  simp only [List.getElem_zipWith]
theorem rad_get {A : List Int} {i : Nat} (h : i < A.length) : ∃ x : Int, (radL A)[i]? = some x ∧ (x = A[i] ∨ x = A[i] % 3329) := by
  unfold radL
  rw [List.getElem?_set]
  split
  · rename_i e
    subst e
    rw [if_pos h]
    refine ⟨_, rfl, .inr ?_⟩
    rw [fm, Int.add_zero, List.getD_eq_getElem?_getD, List.getElem?_eq_getElem h]; rfl
  · exact ⟨_, List.getElem?_eq_getElem h, .inl rfl⟩
theorem p_sum {A B : List Int} (a : A.length = 256) (b : B.length = 256) : addL (addL (radL A) B) A = List.zipWith (fun za zb => (2 * za + zb).fmod 3329) A B := by
  have hr : (radL A).length = A.length := List.length_set ..
  refine List.ext_getElem (by simp [a, b]) fun i h1 h2 => ?_
  have hi : i < 256 := by simp [a, b] at h2; omega
  simp only [List.getElem_zipWith]
  obtain ⟨x, hx, hx'⟩ := rad_get (A := A) (i := i) (by omega)
  have e : (radL A)[i]'(by omega) = x := by rw [List.getElem?_eq_getElem (by omega)] at hx; exact Option.some.inj hx
  rw [e]
  simp only [fm]
  rcases hx' with rfl | rfl <;> omega
theorem p_mix {A B : List Int} {s : Int} (a : A.length = 256) (b : B.length = 256) : subL (addL (mulL s A) B) A = List.zipWith (fun za zb => (s * za + zb - za).fmod 3329) A B := by
  refine List.ext_getElem (by simp [a, b]) fun i h1 h2 => ?_
  simp only [List.getElem_zipWith, List.getElem_map, fm]
  rw [Int.mul_comm s]
  omega
theorem p_step {A B : List Int} {s : Int} (a : A.length = 256) (b : B.length = 256) : mulL s (subL (addL A B) A) = List.map (fun za => (s * za).fmod 3329) B := by
  refine List.ext_getElem (by simp [a, b]) fun i h1 h2 => ?_
  simp only [List.getElem_zipWith, List.getElem_map, fm]
  have e : ∀ x y : Int, ((x + y) % 3329 - x) % 3329 = y % 3329 := fun x y => by omega
  rw [e, Int.mul_comm s, Int.mul_emod, Int.emod_emod_of_dvd _ (Int.dvd_refl _), ← Int.mul_emod]
theorem p_times {A : List Int} {s : Int} : mulL s A = List.map (fun za => (za * s).fmod 3329) A := rfl

/-- C is x times A and y times B, place by place, modulo 3329 -/
noncomputable def Rel (x y : Int) (A B C : List Int) : Prop := A.length = C.length ∧ B.length = C.length ∧ ∀ n : Nat, ∃ t : Int, C.getD n 0 = x * A.getD n 0 + y * B.getD n 0 + 3329 * t
theorem getD_set (c : List Int) (i n : Nat) (v : Int) : (c.set i v).getD n 0 = if i = n ∧ n < c.length then v else c.getD n 0 := by
  simp only [List.getD_eq_getElem?_getD, List.getElem?_set]
  by_cases h : i = n
  · subst h
    by_cases h2 : i < c.length
    · simp [h2]
    · simp [h2]
  · simp [h]
theorem Rel.set {x y : Int} {A B C : List Int} (h : Rel x y A B C) (i : Nat) {a b c : Int} (e : ∃ t : Int, c = x * a + y * b + 3329 * t) : Rel x y (A.set i a) (B.set i b) (C.set i c) := by
  obtain ⟨h1, h2, h3⟩ := h
  refine ⟨by simpa using h1, by simpa using h2, fun n => ?_⟩
  rw [getD_set, getD_set, getD_set, h1, h2]
  split
  · exact e
  · exact h3 n
theorem Rel.bf {x y : Int} {A B C : List Int} (h : Rel x y A B C) (z l j : Int) : Rel x y (Mine.bf z l A j) (Mine.bf z l B j) (Mine.bf z l C j) := by
  unfold Mine.bf
  obtain ⟨t1, e1⟩ := h.2.2 j.toNat
  obtain ⟨t2, e2⟩ := h.2.2 (j + l).toNat
  have h' := h.set (j + l).toNat (a := A.getD j.toNat 0 - z * A.getD (j + l).toNat 0) (b := B.getD j.toNat 0 - z * B.getD (j + l).toNat 0) (c := C.getD j.toNat 0 - z * C.getD (j + l).toNat 0) ⟨t1 - z * t2, by rw [e1, e2]; grind⟩
  obtain ⟨t3, e3⟩ := h'.2.2 j.toNat
  exact h'.set j.toNat ⟨t3 + z * t2, by rw [e3, e2]; grind⟩
theorem Rel.bi {x y : Int} {A B C : List Int} (h : Rel x y A B C) (z l j : Int) : Rel x y (Mine.bi z l A j) (Mine.bi z l B j) (Mine.bi z l C j) := by
  unfold Mine.bi
  obtain ⟨t1, e1⟩ := h.2.2 j.toNat
  obtain ⟨t2, e2⟩ := h.2.2 (j + l).toNat
  have h1 := h.set j.toNat (a := A.getD j.toNat 0 + A.getD (j + l).toNat 0) (b := B.getD j.toNat 0 + B.getD (j + l).toNat 0) (c := C.getD j.toNat 0 + C.getD (j + l).toNat 0) ⟨t1 + t2, by rw [e1, e2]; grind⟩
  dsimp only
  generalize A.set j.toNat (A.getD j.toNat 0 + A.getD (j + l).toNat 0) = A1 at *
  generalize B.set j.toNat (B.getD j.toNat 0 + B.getD (j + l).toNat 0) = B1 at *
  generalize C.set j.toNat (C.getD j.toNat 0 + C.getD (j + l).toNat 0) = C1 at *
  obtain ⟨t3, e3⟩ := h1.2.2 (j + l).toNat
  have h2 := h1.set (j + l).toNat (a := A1.getD (j + l).toNat 0 - A.getD j.toNat 0) (b := B1.getD (j + l).toNat 0 - B.getD j.toNat 0) (c := C1.getD (j + l).toNat 0 - C.getD j.toNat 0) ⟨t3 - t1, by rw [e1, e3]; grind⟩
  obtain ⟨t4, e4⟩ := h2.2.2 (j + l).toNat
  exact h2.set (j + l).toNat ⟨z * t4, by rw [e4]; grind⟩
theorem Rel.fold {ι : Type} {x y : Int} {f : List Int → ι → List Int} (hf : ∀ i {A B C : List Int}, Rel x y A B C → Rel x y (f A i) (f B i) (f C i)) :
    ∀ (is : List ι) {A B C : List Int}, Rel x y A B C → Rel x y (is.foldl f A) (is.foldl f B) (is.foldl f C)
  | [], _, _, _, h => h
  | i :: r, _, _, _, h => Rel.fold hf r (hf i h)
theorem Rel.blk {x y : Int} {A B C : List Int} (h : Rel x y A B C) (z l st : Int) : Rel x y (Mine.blk z l st A) (Mine.blk z l st B) (Mine.blk z l st C) :=
  Rel.fold (f := Mine.bf z l) (fun _ _ _ _ h => h.bf _ _ _) _ h
theorem Rel.lay {x y : Int} {A B C : List Int} (h : Rel x y A B C) (zs : List Int) (l k0 : Int) (b : Nat) : Rel x y (Mine.lay zs l k0 b A) (Mine.lay zs l k0 b B) (Mine.lay zs l k0 b C) :=
  Rel.fold (f := fun c (i : Nat) => Mine.blk (zs.getD (k0 + i).toNat 0) l (2 * l * i) c) (fun _ _ _ _ h => h.blk _ _ _) _ h
theorem Rel.lays {x y : Int} {A B C : List Int} (h : Rel x y A B C) (zs : List Int) (i : Nat) : Rel x y (Mine.lays zs i A) (Mine.lays zs i B) (Mine.lays zs i C) :=
  Rel.fold (f := fun c (i : Nat) => Mine.lay zs (2 ^ (7 - i)) (2 ^ i) (2 ^ i) c) (fun _ _ _ _ h => h.lay _ _ _ _) _ h
theorem Rel.blkI {x y : Int} {A B C : List Int} (h : Rel x y A B C) (z l st : Int) : Rel x y (Mine.blkI z l st A) (Mine.blkI z l st B) (Mine.blkI z l st C) :=
  Rel.fold (f := Mine.bi z l) (fun _ _ _ _ h => h.bi _ _ _) _ h
theorem Rel.layI {x y : Int} {A B C : List Int} (h : Rel x y A B C) (zs : List Int) (l k0 : Int) (b : Nat) : Rel x y (Mine.layI zs l k0 b A) (Mine.layI zs l k0 b B) (Mine.layI zs l k0 b C) :=
  Rel.fold (f := fun c (i : Nat) => Mine.blkI (zs.getD (k0 - i).toNat 0) l (2 * l * i) c) (fun _ _ _ _ h => h.blkI _ _ _) _ h
theorem Rel.laysI {x y : Int} {A B C : List Int} (h : Rel x y A B C) (zs : List Int) (i : Nat) : Rel x y (Mine.laysI zs i A) (Mine.laysI zs i B) (Mine.laysI zs i C) :=
  Rel.fold (f := fun c (i : Nat) => Mine.layI zs (2 ^ (i + 1)) (2 ^ (7 - i) - 1) (2 ^ (6 - i)) c) (fun _ _ _ _ h => h.layI _ _ _ _) _ h
theorem getD_map (f : Int → Int) (h0 : f 0 = 0) (c : List Int) (n : Nat) : (c.map f).getD n 0 = f (c.getD n 0) := by
  simp only [List.getD_eq_getElem?_getD, List.getElem?_map]
  cases c[n]? <;> simp [h0]
theorem fm_dec (x : Int) : ∃ t : Int, x.fmod 3329 = x + 3329 * t := ⟨-(x.fdiv 3329), by have := Int.mul_fdiv_add_fmod x 3329; omega⟩
theorem Rel.mod {x y u : Int} {A B C : List Int} (h : Rel x y A B C) : Rel x y (A.map fun c => (c * u).fmod 3329) (B.map fun c => (c * u).fmod 3329) (C.map fun c => (c * u).fmod 3329) := by
  obtain ⟨h1, h2, h3⟩ := h
  refine ⟨by simpa using h1, by simpa using h2, fun n => ?_⟩
  rw [getD_map _ (by simp), getD_map _ (by simp), getD_map _ (by simp)]
  obtain ⟨t, e⟩ := h3 n
  obtain ⟨t1, e1⟩ := fm_dec (A.getD n 0 * u)
  obtain ⟨t2, e2⟩ := fm_dec (B.getD n 0 * u)
  obtain ⟨t3, e3⟩ := fm_dec (C.getD n 0 * u)
  refine ⟨t3 + t * u - x * t1 - y * t2, ?_⟩
  rw [e3, e2, e1, e]
  grind
theorem Rel.inttL {x y : Int} {A B C : List Int} (h : Rel x y A B C) (zs : List Int) : Rel x y (Mine.inttL zs A) (Mine.inttL zs B) (Mine.inttL zs C) := (h.laysI zs 7).mod
theorem set_at {c : List Int} {i n : Nat} {v : Int} (h : i < c.length) : (c.set i v).getD n 0 = if n = i then v else c.getD n 0 := by
  rw [getD_set]
  by_cases e : n = i
  · rw [if_pos e, if_pos ⟨e.symm, by omega⟩]
  · rw [if_neg e, if_neg (by omega)]
theorem bf_at {z : Int} {l j n : Nat} {c : List Int} (hl : 0 < l) (hb : j + l < c.length) : (Mine.bf z l c j).getD n 0 = if n = j then c.getD j 0 + z * c.getD (j + l) 0 else if n = j + l then c.getD j 0 - z * c.getD (j + l) 0 else c.getD n 0 := by
  unfold Mine.bf
  have e1 : ((j : Int) + (l : Int)).toNat = j + l := by omega
  have e2 : (j : Int).toNat = j := by omega
  rw [e1, e2, set_at (by rw [List.length_set]; omega), set_at hb, set_at hb, if_neg (c := j = j + l) (by omega)]
theorem bi_at {z : Int} {l j n : Nat} {c : List Int} (hl : 0 < l) (hb : j + l < c.length) : (Mine.bi z l c j).getD n 0 = if n = j then c.getD j 0 + c.getD (j + l) 0 else if n = j + l then z * (c.getD (j + l) 0 - c.getD j 0) else c.getD n 0 := by
  unfold Mine.bi
  have e1 : ((j : Int) + (l : Int)).toNat = j + l := by omega
  have e2 : (j : Int).toNat = j := by omega
  dsimp only
  rw [e1, e2, set_at (by (try simp only [List.length_set]); omega), set_at (by (try simp only [List.length_set]); omega), set_at (by (try simp only [List.length_set]); omega), set_at (by (try simp only [List.length_set]); omega), set_at (by (try simp only [List.length_set]); omega), if_pos (c := j + l = j + l) rfl, if_neg (c := j + l = j) (by omega)]
  by_cases h1 : n = j
  · rw [if_neg (by omega), if_neg (by omega), if_pos h1, if_pos h1]
  · rw [if_neg (c := n = j) h1, if_neg (c := n = j) h1]
    by_cases h2 : n = j + l
    · rw [if_pos h2, if_pos h2]
    · rw [if_neg h2, if_neg h2, if_neg h2]
theorem blk_at {z : Int} {l st : Nat} {c : List Int} (hl : 0 < l) (hb : st + 2 * l ≤ c.length) (n : Nat) : ∀ m : Nat, m ≤ l → ((rangeKs st m).foldl (Mine.bf z l) c).getD n 0 = if st ≤ n ∧ n < st + m then c.getD n 0 + z * c.getD (n + l) 0 else if st + l ≤ n ∧ n < st + l + m then c.getD (n - l) 0 - z * c.getD n 0 else c.getD n 0
  | 0, _ => by rw [if_neg (by omega), if_neg (by omega)]; rfl
  | m + 1, h => by
    have len : ((rangeKs st m).foldl (Mine.bf z l) c).length = c.length := foldl_bf_length ..
    have e : (st : Int) + (m : Int) = ((st + m : Nat) : Int) := by omega
    rw [rangeKs_succ, List.foldl_append]
    show (Mine.bf z l _ ((st : Int) + (m : Int))).getD n 0 = _
    rw [e, bf_at hl (by rw [len]; omega), blk_at hl hb n m (by omega), blk_at hl hb (st + m) m (by omega), blk_at hl hb (st + m + l) m (by omega)]
    rw [if_neg (c := st ≤ st + m ∧ st + m < st + m) (by omega), if_neg (c := st + l ≤ st + m ∧ _) (by omega), if_neg (c := st ≤ st + m + l ∧ _) (by omega), if_neg (c := st + l ≤ st + m + l ∧ _) (by omega)]
    by_cases h1 : n = st + m
    · subst h1
      rw [if_pos rfl, if_pos (by omega)]
    · rw [if_neg h1]
      by_cases h2 : n = st + m + l
      · subst h2
        rw [if_pos rfl, if_neg (by omega), if_pos (by omega), show st + m + l - l = st + m by omega]
      · rw [if_neg h2]
        by_cases h3 : st ≤ n ∧ n < st + m
        · rw [if_pos h3, if_pos (by omega)]
        · rw [if_neg h3, if_neg (c := st ≤ n ∧ n < st + (m + 1)) (by omega)]
          by_cases h4 : st + l ≤ n ∧ n < st + l + m
          · rw [if_pos h4, if_pos (by omega)]
          · rw [if_neg h4, if_neg (by omega)]
theorem blkI_at {z : Int} {l st : Nat} {c : List Int} (hl : 0 < l) (hb : st + 2 * l ≤ c.length) (n : Nat) : ∀ m : Nat, m ≤ l → ((rangeKs st m).foldl (Mine.bi z l) c).getD n 0 = if st ≤ n ∧ n < st + m then c.getD n 0 + c.getD (n + l) 0 else if st + l ≤ n ∧ n < st + l + m then z * (c.getD n 0 - c.getD (n - l) 0) else c.getD n 0
  | 0, _ => by rw [if_neg (by omega), if_neg (by omega)]; rfl
  | m + 1, h => by
    have len : ((rangeKs st m).foldl (Mine.bi z l) c).length = c.length := foldl_bi_length ..
    have e : (st : Int) + (m : Int) = ((st + m : Nat) : Int) := by omega
    rw [rangeKs_succ, List.foldl_append]
    show (Mine.bi z l _ ((st : Int) + (m : Int))).getD n 0 = _
    rw [e, bi_at hl (by rw [len]; omega), blkI_at hl hb n m (by omega), blkI_at hl hb (st + m) m (by omega), blkI_at hl hb (st + m + l) m (by omega)]
    rw [if_neg (c := st ≤ st + m ∧ st + m < st + m) (by omega), if_neg (c := st + l ≤ st + m ∧ _) (by omega), if_neg (c := st ≤ st + m + l ∧ _) (by omega), if_neg (c := st + l ≤ st + m + l ∧ _) (by omega)]
    by_cases h1 : n = st + m
    · subst h1
      rw [if_pos rfl, if_pos (by omega)]
    · rw [if_neg h1]
      by_cases h2 : n = st + m + l
      · subst h2
        rw [if_pos rfl, if_neg (by omega), if_pos (by omega), show st + m + l - l = st + m by omega]
      · rw [if_neg h2]
        by_cases h3 : st ≤ n ∧ n < st + m
        · rw [if_pos h3, if_pos (by omega)]
        · rw [if_neg h3, if_neg (c := st ≤ n ∧ n < st + (m + 1)) (by omega)]
          by_cases h4 : st + l ≤ n ∧ n < st + l + m
          · rw [if_pos h4, if_pos (by omega)]
          · rw [if_neg h4, if_neg (by omega)]
theorem blk_cmp {l q b : Nat} : (q < b → 2 * l * q + 2 * l ≤ 2 * l * b) ∧ (b < q → 2 * l * b + 2 * l ≤ 2 * l * q) :=
  ⟨fun h => by have := Nat.mul_le_mul_left (2 * l) h; rw [Nat.mul_succ] at this; exact this, fun h => by have := Nat.mul_le_mul_left (2 * l) h; rw [Nat.mul_succ] at this; exact this⟩
theorem lay_at {zs : List Int} {l k0 : Nat} {c : List Int} (hl : 0 < l) (q r : Nat) (hr : r < 2 * l) : ∀ b : Nat, 2 * l * b ≤ c.length → (Mine.lay zs l k0 b c).getD (2 * l * q + r) 0 =
    if q < b then (if r < l then c.getD (2 * l * q + r) 0 + zs.getD (k0 + q) 0 * c.getD (2 * l * q + r + l) 0 else c.getD (2 * l * q + r - l) 0 - zs.getD (k0 + q) 0 * c.getD (2 * l * q + r) 0) else c.getD (2 * l * q + r) 0
  | 0, _ => by rw [if_neg (by omega)]; rfl
  | b + 1, hb => by
    have e1 : 2 * (l : Int) * (b : Int) = ((2 * l * b : Nat) : Int) := by simp
    have e2 : ((k0 : Int) + (b : Int)).toNat = k0 + b := by omega
    have hb' : 2 * l * b + 2 * l ≤ c.length := by rw [Nat.mul_succ] at hb; exact hb
    have len : (Mine.lay zs l k0 b c).length = c.length := lay_length ..
    rw [lay_succ, e1, e2]
    unfold Mine.blk
    rw [Int.toNat_natCast, blk_at hl (by rw [len]; exact hb') _ l (Nat.le_refl _)]
    obtain ⟨c1, c2⟩ := blk_cmp (l := l) (q := q) (b := b)
    rcases Nat.lt_trichotomy q b with h | h | h
    · replace c1 := c1 h
      rw [if_neg (by omega), if_neg (by omega), lay_at hl q r hr b (by omega), if_pos h, if_pos (c := q < b + 1) (by omega)]
    · subst h
      rw [if_pos (Nat.lt_succ_self q)]
      by_cases h2 : r < l
      · have i1 := lay_at (zs := zs) (k0 := k0) (c := c) hl q r hr q (by omega)
        have i2 := lay_at (zs := zs) (k0 := k0) (c := c) hl q (r + l) (by omega) q (by omega)
        rw [if_neg (Nat.lt_irrefl q)] at i1 i2
        rw [if_pos (by omega), if_pos h2, i1, Nat.add_assoc, i2]
      · have i1 := lay_at (zs := zs) (k0 := k0) (c := c) hl q r hr q (by omega)
        have i2 := lay_at (zs := zs) (k0 := k0) (c := c) hl q (r - l) (by omega) q (by omega)
        rw [if_neg (Nat.lt_irrefl q)] at i1 i2
        rw [if_neg (by omega), if_pos (by omega), if_neg h2, i1, show 2 * l * q + r - l = 2 * l * q + (r - l) by omega, i2]
    · replace c2 := c2 h
      rw [if_neg (by omega), if_neg (by omega), lay_at hl q r hr b (by omega), if_neg (by omega), if_neg (by omega)]
theorem layI_at {zs : List Int} {l k0 : Nat} {c : List Int} (hl : 0 < l) (q r : Nat) (hr : r < 2 * l) : ∀ b : Nat, 2 * l * b ≤ c.length → b ≤ k0 + 1 → (Mine.layI zs l k0 b c).getD (2 * l * q + r) 0 =
    if q < b then (if r < l then c.getD (2 * l * q + r) 0 + c.getD (2 * l * q + r + l) 0 else zs.getD (k0 - q) 0 * (c.getD (2 * l * q + r) 0 - c.getD (2 * l * q + r - l) 0)) else c.getD (2 * l * q + r) 0
  | 0, _, _ => by rw [if_neg (by omega)]; rfl
  | b + 1, hb, hk => by
    have e1 : 2 * (l : Int) * (b : Int) = ((2 * l * b : Nat) : Int) := by simp
    have e2 : ((k0 : Int) - (b : Int)).toNat = k0 - b := by omega
    have hb' : 2 * l * b + 2 * l ≤ c.length := by rw [Nat.mul_succ] at hb; exact hb
    have len : (Mine.layI zs l k0 b c).length = c.length := layI_length ..
    rw [layI_succ, e1, e2]
    unfold Mine.blkI
    rw [Int.toNat_natCast, blkI_at hl (by rw [len]; exact hb') _ l (Nat.le_refl _)]
    obtain ⟨c1, c2⟩ := blk_cmp (l := l) (q := q) (b := b)
    rcases Nat.lt_trichotomy q b with h | h | h
    · replace c1 := c1 h
      rw [if_neg (by omega), if_neg (by omega), layI_at hl q r hr b (by omega) (by omega), if_pos h, if_pos (c := q < b + 1) (by omega)]
    · subst h
      rw [if_pos (Nat.lt_succ_self q)]
      by_cases h2 : r < l
      · have i1 := layI_at (zs := zs) (k0 := k0) (c := c) hl q r hr q (by omega) (by omega)
        have i2 := layI_at (zs := zs) (k0 := k0) (c := c) hl q (r + l) (by omega) q (by omega) (by omega)
        rw [if_neg (Nat.lt_irrefl q)] at i1 i2
        rw [if_pos (by omega), if_pos h2, i1, Nat.add_assoc, i2]
      · have i1 := layI_at (zs := zs) (k0 := k0) (c := c) hl q r hr q (by omega) (by omega)
        have i2 := layI_at (zs := zs) (k0 := k0) (c := c) hl q (r - l) (by omega) q (by omega) (by omega)
        rw [if_neg (Nat.lt_irrefl q)] at i1 i2
        rw [if_neg (by omega), if_pos (by omega), if_neg h2, i1, show 2 * l * q + r - l = 2 * l * q + (r - l) by omega, i2]
    · replace c2 := c2 h
      rw [if_neg (by omega), if_neg (by omega), layI_at hl q r hr b (by omega) (by omega), if_neg (by omega), if_neg (by omega)]
/-- a layer and its way back: twice what was -/
theorem lay_back {zs : List Int} {l K : Nat} {c : List Int} (hl : 0 < l) (hK : 0 < K) (h : 2 * l * K = c.length) (hz : ∀ q : Nat, q < K → (zs.getD (K + q) 0 * zs.getD (2 * K - 1 - q) 0 + 1) % 3329 = 0) :
    Rel 2 0 c c (Mine.layI zs l ((2 * K - 1 : Nat) : Int) K (Mine.lay zs l K K c)) := by
  have len : (Mine.lay zs l K K c).length = c.length := lay_length ..
  refine ⟨by rw [layI_length, len], by rw [layI_length, len], fun n => ?_⟩
  by_cases hn : n < c.length
  · have hd := Nat.div_add_mod n (2 * l)
    have hm := Nat.mod_lt n (show 2 * l > 0 by omega)
    have hq : n / (2 * l) < K := Nat.div_lt_of_lt_mul (by omega)
    generalize n / (2 * l) = q at *
    generalize n % (2 * l) = r at *
    subst hd
    rw [layI_at hl q r hm K (by rw [len]; omega) (by omega), if_pos hq]
    by_cases h2 : r < l
    · have i1 := lay_at (zs := zs) (k0 := K) (c := c) hl q r hm K (by omega)
      have i2 := lay_at (zs := zs) (k0 := K) (c := c) hl q (r + l) (by omega) K (by omega)
      rw [if_pos hq, if_pos h2] at i1
      rw [if_pos hq, if_neg (by omega)] at i2
      rw [if_pos h2, i1, Nat.add_assoc, i2, show 2 * l * q + (r + l) - l = 2 * l * q + r by omega]
      exact ⟨0, by omega⟩
    · have i1 := lay_at (zs := zs) (k0 := K) (c := c) hl q r hm K (by omega)
      have i2 := lay_at (zs := zs) (k0 := K) (c := c) hl q (r - l) (by omega) K (by omega)
      rw [if_pos hq, if_neg h2] at i1
      rw [if_pos hq, if_pos (by omega)] at i2
      rw [if_neg h2, i1, show 2 * l * q + r - l = 2 * l * q + (r - l) by omega, i2, show 2 * l * q + (r - l) + l = 2 * l * q + r by omega]
      obtain ⟨t, e⟩ : ∃ t : Int, zs.getD (K + q) 0 * zs.getD (2 * K - 1 - q) 0 = 3329 * t - 1 := ⟨(zs.getD (K + q) 0 * zs.getD (2 * K - 1 - q) 0 + 1) / 3329, by have := hz q hq; omega⟩
      refine ⟨-2 * t * c.getD (2 * l * q + r) 0, ?_⟩
      generalize zs.getD (K + q) 0 = u at *
      generalize zs.getD (2 * K - 1 - q) 0 = v at *
      generalize c.getD (2 * l * q + r) 0 = w
      generalize c.getD (2 * l * q + (r - l)) 0 = w'
      grind
  · have z1 : c.getD n 0 = 0 := by rw [List.getD_eq_getElem?_getD, List.getElem?_eq_none (by omega)]; rfl
    have z2 : (Mine.layI zs l ((2 * K - 1 : Nat) : Int) K (Mine.lay zs l K K c)).getD n 0 = 0 := by rw [List.getD_eq_getElem?_getD, List.getElem?_eq_none (by rw [layI_length, len]; omega)]; rfl
    exact ⟨0, by rw [z1, z2]; rfl⟩

theorem zt_neg : ∀ m : Fin 7, ∀ q : Fin 64, q.val < 2 ^ m.val → (ZT.getD (2 ^ m.val + q.val) 0 * ZT.getD (2 * 2 ^ m.val - 1 - q.val) 0 + 1) % 3329 = 0 := by decide +kernel
theorem Rel.trans {x y : Int} {A B C : List Int} (h : Rel x 0 A A B) (k : Rel y 0 B B C) : Rel (x * y) 0 A A C := by
  refine ⟨h.1.trans k.1, h.1.trans k.1, fun n => ?_⟩
  obtain ⟨t, e⟩ := h.2.2 n
  obtain ⟨u, f⟩ := k.2.2 n
  exact ⟨y * t + u, by rw [f, e]; grind⟩
theorem zt_back {c : List Int} (hc : c.length = 256) {j : Nat} (hj : j < 7) :
    Rel 2 0 c c (Mine.layI ZT (2 ^ (j + 1)) (2 ^ (7 - j) - 1) (2 ^ (6 - j)) (Mine.lay ZT (2 ^ (7 - (6 - j))) (2 ^ (6 - j)) (2 ^ (6 - j)) c)) := by
  have h64 : 2 ^ (6 - j) ≤ 64 := Nat.pow_le_pow_right (n := 2) (by omega) (show 6 - j ≤ 6 by omega)
  have h := lay_back (zs := ZT) (l := 2 ^ (j + 1)) (K := 2 ^ (6 - j)) (c := c) (Nat.pow_pos (by decide)) (Nat.pow_pos (by decide)) (by
    rw [hc, ← Nat.pow_succ', ← Nat.pow_add, show j + 1 + 1 + (6 - j) = 8 by omega]) (fun q hq => zt_neg ⟨6 - j, by omega⟩ ⟨q, by omega⟩ hq)
  have e1 : 7 - (6 - j) = j + 1 := by omega
  have e2 : ((2 * 2 ^ (6 - j) - 1 : Nat) : Int) = 2 ^ (7 - j) - 1 := by
    have : 2 ^ (7 - j) = 2 * 2 ^ (6 - j) := by rw [show 7 - j = (6 - j) + 1 by omega, Nat.pow_succ']
    rw [← this, Int.natCast_sub (Nat.pow_pos (by decide)), Int.natCast_pow]; rfl
  rw [e2, Int.natCast_pow, Int.natCast_pow] at h
  rw [e1]
  exact h
/-- each layer has its way back -/
noncomputable def Inv (zs : List Int) : Prop := ∀ {c : List Int}, c.length = 256 → ∀ {j : Nat}, j < 7 → Rel 2 0 c c (Mine.layI zs (2 ^ (j + 1)) (2 ^ (7 - j) - 1) (2 ^ (6 - j)) (Mine.lay zs (2 ^ (7 - (6 - j))) (2 ^ (6 - j)) (2 ^ (6 - j)) c))
theorem zt_inv : Inv ZT := fun hc _ hj => zt_back hc hj
section
variable {zs : List Int} (Z : Inv zs)
theorem Rel.refl (A : List Int) : Rel 1 0 A A A := ⟨rfl, rfl, fun n => ⟨0, by omega⟩⟩
theorem laysI_0 {zs c : List Int} : Mine.laysI zs 0 c = c := rfl
include Z in
theorem laysI_back {c : List Int} (hc : c.length = 256) (j : Nat) : j ≤ 7 → Rel (2 ^ j) 0 (Mine.lays zs (7 - j) c) (Mine.lays zs (7 - j) c) (Mine.laysI zs j (Mine.lays zs 7 c)) := by
  induction j with
  | zero =>
    intro _
    rw [laysI_0, Nat.sub_zero, Int.pow_zero]
    exact Rel.refl _
  | succ j ih =>
    intro h
    have ih := (ih (by omega)).layI zs (2 ^ (j + 1)) (2 ^ (7 - j) - 1) (2 ^ (6 - j))
    have hb := Z (c := Mine.lays zs (6 - j) c) (by rw [lays_length, hc]) (j := j) (by omega)
    rw [← lays_succ, show 6 - j + 1 = 7 - j by omega] at hb
    rw [← laysI_succ] at ih
    have := hb.trans ih
    rw [show 7 - (j + 1) = 6 - j by omega, Int.pow_succ, Int.mul_comm]
    exact this
theorem rel_fm {x : Int} {A B : List Int} (h : Rel x 0 A A B) : Rel x 0 A A (B.map fun c => c.fmod 3329) := by
  refine ⟨by simpa using h.1, by simpa using h.1, fun n => ?_⟩
  obtain ⟨t, e⟩ := h.2.2 n
  rw [getD_map _ (by rfl)]
  obtain ⟨u, f⟩ := fm_dec (B.getD n 0)
  exact ⟨t + u, by rw [f, e]; grind⟩
theorem nttL_length (zs c : List Int) : (nttL zs c).length = c.length := by unfold nttL; rw [List.length_map, lays_length]
theorem inttL_length (zs c : List Int) : (inttL zs c).length = c.length := by unfold inttL; rw [List.length_map, laysI_length]
include Z in
theorem ntt_back {A : List Int} (hA : A.length = 256) : Rel 1 0 A A (inttL zs (nttL zs A)) := by
  have h1 : Rel 1 0 (Mine.lays zs 7 A) (Mine.lays zs 7 A) (nttL zs A) := rel_fm (Rel.refl _)
  have h2 := (laysI_back Z hA 7 (by omega)).trans (h1.laysI zs 7)
  refine ⟨by rw [inttL_length, nttL_length], by rw [inttL_length, nttL_length], fun n => ?_⟩
  obtain ⟨t, e⟩ := h2.2.2 n
  unfold inttL
  rw [getD_map _ (by rfl)]
  obtain ⟨u, f⟩ := fm_dec ((Mine.laysI zs 7 (nttL zs A)).getD n 0 * 3303)
  refine ⟨127 * A.getD n 0 + 3303 * t + u, ?_⟩
  rw [f, e]
  show (2 ^ 7 * 1 * A.getD n 0 + 0 * A.getD n 0 + 3329 * t) * 3303 + 3329 * u = _
  omega
theorem intt_rng {zs A : List Int} : ∀ c ∈ inttL zs A, 0 ≤ c ∧ c < 3329 := fun c hc => by
  obtain ⟨i, hi, rfl⟩ := List.mem_map.mp hc
  exact ⟨Int.fmod_nonneg_of_pos _ (by decide), Int.fmod_lt_of_pos _ (by decide)⟩
theorem getD_of {A : List Int} {i : Nat} (h : i < A.length) : A.getD i 0 = A[i] := by rw [List.getD_eq_getElem?_getD, List.getElem?_eq_getElem h]; rfl
theorem fin_pure {x y : Int} {A B P R D : List Int} (hA : A.length = 256) (hB : B.length = 256) (hD : D.length = 256) (h1 : Rel 1 0 A A P) (h2 : Rel 1 0 B B R) (h : Rel x y P R D) (hr : ∀ c ∈ D, 0 ≤ c ∧ c < 3329) : D = List.zipWith (fun a b => (x * a + y * b) % 3329) A B := by
  refine List.ext_getElem (by rw [hD, List.length_zipWith, hA, hB]; rfl) fun i i1 i2 => ?_
  rw [List.getElem_zipWith]
  obtain ⟨r1, r2⟩ := hr _ (List.getElem_mem i1)
  obtain ⟨t, e⟩ := h.2.2 i
  obtain ⟨t1, e1⟩ := h1.2.2 i
  obtain ⟨t2, e2⟩ := h2.2.2 i
  rw [getD_of i1, e1, e2, getD_of (A := A) (by omega), getD_of (A := B) (by omega)] at e
  have : D[i] = x * A[i] + y * B[i] + 3329 * (t + x * t1 + y * t2) := by rw [e]; grind
  generalize x * A[i] + y * B[i] = X at *
  generalize t + x * t1 + y * t2 = T at *
  omega
include Z in
/-- what comes back of a list that is x times the one and y times the other transform -/
theorem fin_rel {x y : Int} {A B C : List Int} (hA : A.length = 256) (hB : B.length = 256) (h : Rel x y (nttL zs A) (nttL zs B) C) : inttL zs C = List.zipWith (fun a b => (x * a + y * b) % 3329) A B :=
  fin_pure hA hB (by rw [inttL_length, ← h.1, nttL_length, hA]) (ntt_back Z hA) (ntt_back Z hB) (h.inttL zs) intt_rng
/-- what stands at the places -/
theorem rel_of {x y : Int} {A B C : List Int} (hA : A.length = 256) (hB : B.length = 256) (hC : C.length = 256) (h : ∀ (i : Nat) (a : i < A.length) (b : i < B.length) (c : i < C.length), (C[i] - (x * A[i] + y * B[i])) % 3329 = 0) : Rel x y A B C := by
  refine ⟨hA.trans hC.symm, hB.trans hC.symm, fun n => ?_⟩
  by_cases hn : n < 256
  · have := h n (by omega) (by omega) (by omega)
    rw [getD_of (A := A) (by omega), getD_of (A := B) (by omega), getD_of (A := C) (by omega)]
    exact ⟨(C[n] - (x * A[n] + y * B[n])) / 3329, by omega⟩
  · have e : ∀ {Z : List Int}, Z.length = 256 → Z.getD n 0 = 0 := fun hz => by rw [List.getD_eq_getElem?_getD, List.getElem?_eq_none (by omega)]; rfl
    rw [e hA, e hB, e hC]
    exact ⟨0, by omega⟩
section
variable {A B : List Int} {s : Int} (a : A.length = 256) (b : B.length = 256)
include Z a b
theorem n_add : inttL zs (addL (nttL zs A) (nttL zs B)) = addL A B := by
  have a' : (nttL zs A).length = 256 := by rw [nttL_length, a]
  have b' : (nttL zs B).length = 256 := by rw [nttL_length, b]
  rw [fin_rel Z (x := 1) (y := 1) a b (rel_of a' b' (by rw [List.length_zipWith, a', b']; rfl) fun i h1 h2 h3 => by rw [List.getElem_zipWith, fm]; omega)]
  unfold addL
  simp only [fm, Int.one_mul]
theorem n_sub : inttL zs (subL (nttL zs A) (nttL zs B)) = subL A B := by
  have a' : (nttL zs A).length = 256 := by rw [nttL_length, a]
  have b' : (nttL zs B).length = 256 := by rw [nttL_length, b]
  rw [fin_rel Z (x := 1) (y := -1) a b (rel_of a' b' (by rw [List.length_zipWith, a', b']; rfl) fun i h1 h2 h3 => by rw [List.getElem_zipWith, fm]; omega)]
  unfold subL
  exact congrArg (fun f => List.zipWith f A B) (funext fun x => funext fun y => by rw [fm]; omega)
theorem n_sum : inttL zs (addL (addL (radL (nttL zs A)) (nttL zs B)) (nttL zs A)) = addL (addL (radL A) B) A := by
  have a' : (nttL zs A).length = 256 := by rw [nttL_length, a]
  have b' : (nttL zs B).length = 256 := by rw [nttL_length, b]
  rw [p_sum a b, p_sum a' b', fin_rel Z (x := 2) (y := 1) a b (rel_of a' b' (by rw [List.length_zipWith, a', b']; rfl) fun i h1 h2 h3 => by rw [List.getElem_zipWith, fm]; omega)]
  simp only [fm, Int.one_mul]
theorem n_mix : inttL zs (subL (addL (mulL s (nttL zs A)) (nttL zs B)) (nttL zs A)) = subL (addL (mulL s A) B) A := by
  have a' : (nttL zs A).length = 256 := by rw [nttL_length, a]
  have b' : (nttL zs B).length = 256 := by rw [nttL_length, b]
  rw [p_mix a b, p_mix a' b', fin_rel Z (x := s - 1) (y := 1) a b (rel_of a' b' (by rw [List.length_zipWith, a', b']; rfl) fun i h1 h2 h3 => by rw [List.getElem_zipWith, fm, Int.sub_mul]; omega)]
  exact congrArg (fun f => List.zipWith f A B) (funext fun x => funext fun y => by rw [fm, Int.sub_mul, Int.one_mul, Int.one_mul, show s * x - x + y = s * x + y - x by omega])
theorem n_step : inttL zs (mulL s (subL (addL (nttL zs A) (nttL zs B)) (nttL zs A))) = mulL s (subL (addL A B) A) := by
  have a' : (nttL zs A).length = 256 := by rw [nttL_length, a]
  have b' : (nttL zs B).length = 256 := by rw [nttL_length, b]
  rw [p_step a b, p_step a' b', fin_rel Z (x := 0) (y := s) a b (rel_of a' b' (by rw [List.length_map, b']) fun i h1 h2 h3 => by rw [List.getElem_map, fm]; omega)]
  refine List.ext_getElem (by rw [List.length_zipWith, List.length_map, a, b]; rfl) fun i h1 h2 => ?_
  rw [List.getElem_zipWith, List.getElem_map, fm, Int.zero_mul, Int.zero_add]
end
include Z in
theorem n_mul {A : List Int} {s : Int} (a : A.length = 256) : inttL zs (mulL s (nttL zs A)) = mulL s A := by
  have a' : (nttL zs A).length = 256 := by rw [nttL_length, a]
  rw [fin_rel Z (x := s) (y := 0) a a (rel_of a' a' (by rw [List.length_map, a']) fun i h1 h2 h3 => by rw [List.getElem_map, fm, Int.mul_comm s]; omega)]
  refine List.ext_getElem (by rw [List.length_zipWith, List.length_map, a]; rfl) fun i h1 h2 => ?_
  rw [List.getElem_zipWith, List.getElem_map, fm, Int.mul_comm s, Int.zero_mul, Int.add_zero]
include Z in
theorem n_id {A : List Int} (a : A.length = 256) : inttL zs (nttL zs A) = A.map fun x => x.fmod 3329 := by
  have a' : (nttL zs A).length = 256 := by rw [nttL_length, a]
  rw [fin_rel Z (x := 1) (y := 0) a a (rel_of a' a' a' fun i h1 h2 h3 => by omega)]
  refine List.ext_getElem (by rw [List.length_zipWith, List.length_map, a]; rfl) fun i h1 h2 => ?_
  rw [List.getElem_zipWith, List.getElem_map, fm, Int.one_mul, Int.zero_mul, Int.add_zero]
end

/-- the law's own statements and scope, as the row holds them -/
noncomputable def lawStm : List Stmt := match PySem.Challenge.rw_yi0008_01.prog.main.body.getLast? with
  | some (.FunctionDef _ _ b _ _ _ _ _ _ _) => b
  | _ => []
noncomputable def lawScp : Scope := match PySem.Challenge.rw_yi0008_01.prog.main.body.getLast? with
  | some (.FunctionDef _ _ _ _ _ _ c _ _ _) => c
  | _ => { kind := .function, names := [], isGenerator := false, isCoroutine := false, more := [] }
noncomputable def forBody : Option Stmt → List Stmt
  | some (.For _ _ b _ _) => b
  | _ => []
section
variable {prog : Program} {w : World} {A : Around} {E : Value → Shared → Prop} {s : Shared} {h₀ : Heap} {L a b : Addr} {news : List (Addr × Obj)} {vs us : List Value} {n k : Nat} {ns : List Int} {Q : Value → Shared → Prop}
theorem ne_led (N : News h₀ L s.heap news) (ha : (a, listOf vs.toArray n) ∈ news) (hb : (b, listOf us.toArray k) ∈ news) (hi : IntsAre vs ns) (hj : IntsAre us ns) (hu : A.units + 64 < cLine)
    (h : Q (.bool false) s) : wpAny (model prog w) A (compareOp .NotEq (.ref a) (.ref b)) Q E s :=
  ne_intsK ⟨_, (N _ ha).1, rfl, _, rfl⟩ hi ⟨_, (N _ hb).1, rfl, _, rfl⟩ hj hu (by rw [decide_eq_true (rfl : ns = ns)]; exact h)
theorem eq_led (N : News h₀ L s.heap news) (ha : (a, listOf vs.toArray n) ∈ news) (hb : (b, listOf us.toArray k) ∈ news) (hi : IntsAre vs ns) (hj : IntsAre us ns) (hu : A.units + 64 < cLine)
    (h : Q (.bool true) s) : wpAny (model prog w) A (compareOp .Eq (.ref a) (.ref b)) Q E s :=
  eq_intsK ⟨_, (N _ ha).1, rfl, _, rfl⟩ hi ⟨_, (N _ hb).1, rfl, _, rfl⟩ hj hu (by rw [decide_eq_true (rfl : ns = ns)]; exact h)
end
noncomputable def forTgt : Option Stmt → Expr
  | some (.For t _ _ _ _) => t
  | _ => .Name (Str.ofString "p") ⟨0, 0, 0, 0⟩
noncomputable abbrev tupO (x y : Addr) : Obj := { cls := .type "tuple", data := .seq #[.ref x, .ref y] }
noncomputable def Sub (R R' : List (Addr × Obj)) : Prop := ∀ p ∈ R, p ∈ R'
theorem Sub.mem {R R' : List (Addr × Obj)} {p : Addr × Obj} (h : Sub R R') (hp : p ∈ R) : p ∈ R' := h p hp
theorem loadX_L {M : Model} {A : Around} {E : Value → Shared → Prop} {s : Shared} {h₀ : Heap} {L a : Addr} {m : Str → Option Value} {cn : Str} {cs : Scope} {ccd : Value} {cl : List (Str × Addr)} {x : Str} {v : Value} {Q : Value → Shared → Prop}
    (F : Fr h₀ L s.heap m) (hk : cs.kind = .function) (hx : (envX cn cs L a ccd cl).kindOf x = some .local) (hv : m x = some v) (h : Q v s) : wpAny M A (loadName (envX cn cs L a ccd cl) x) Q E s :=
  wpAny_loadName_local hk hx F.ns hv h

section
set_option hygiene false in
local macro_rules | `(tactic| walk_at "q_k") => `(tactic| ((case k1 => k_asm); (case k2 => k_asm); (case k3 => k_asm); (case k4 => k_asm); (case k5 => k_asm); (case k6 => rfl)))
set_option hygiene false in
local macro_rules | `(tactic| walk_at "q_x") => `(tactic| ((case mx => k_mem); (case mdx => k_mem); (case ml => k_mem)))
set_option hygiene false in
local macro_rules | `(tactic| walk_at "q_y") => `(tactic| ((case my => k_mem); (case mdy => k_mem); (case ml2 => k_mem)))
set_option hygiene false in
local macro_rules | `(tactic| walk_at "q_r") => `(tactic| ((case mr => k_mem); (case mdr => k_mem)))
set_option hygiene false in
local macro_rules | `(tactic| walk_at "q_i") => `(tactic| ((case i1 => with_reducible assumption); (case i2 => with_reducible assumption); (case e1 => with_reducible assumption); (case e2 => with_reducible assumption)))
set_option hygiene false in
local macro_rules | `(tactic| walk_at "q_u") => `(tactic| ((case hd => ktr_room); (case hu => ktr_units)))
set_option hygiene false in
local macro_rules | `(tactic| walk_at "q_n") => `(tactic| (intro oz odz ol oh1 oh2 ot1 ot2 oh otk oys on oF oN ol1 ol2 ol3 oI oL; (try dsimp only)))
set_option hygiene false in
local macro_rules | `(tactic| walk_at "q_l") => `(tactic| (intro oz odz ol oh1 oh2 ot1 ot2 oh otk oys on oF oN ol1 ol2 ol3 oI oL; (try k_lt ol1); (try k_lt2 ol2); (try k_lt2 ol3); (try dsimp only)))
set_option hygiene false in
local macro_rules | `(tactic| walk_at "q_m") => `(tactic| ((case m1 => k_mem); (case kC => first | exact Or.inl rfl | exact Or.inr rfl); (case m2 => k_mem); (case m3 => k_mem); (case m4 => k_mem); (case m5 => k_mem); (case m6 => k_mem); (case m7 => k_mem); (case m8 => k_mem); (case ka => with_reducible assumption); (case kb => with_reducible assumption); (case kc => with_reducible assumption); (case kd => with_reducible assumption); (case ke => ktr_room); (case kf => ktr_units)))
set_option hygiene false in
local macro_rules | `(tactic| walk_at "q_c") => `(tactic| ((case k7 => k_mem); (case k8 => k_mem); (case k9 => k_mem); (case ka => with_reducible assumption); (case kb => first | with_reducible assumption | omega | ((simp only [List.length_map, List.length_set, List.length_zipWith]); omega)); (case kc => ktr_room); (case kd => ktr_units)))
set_option hygiene false in
local macro_rules | `(tactic| walk_at "q_d") => `(tactic| (intro rx rdx rh1 rh2 rt1 rt2 rh rtk rF rN rl1 rl2; (try k_lt rl1); (try k_lt2 rl2); (try k_lt2 rl2); (try dsimp only)))
set_option hygiene false in
local macro_rules | `(tactic| o_head ($H, 1)) => `(tactic| (refine' $H ?k1 ?k2 ?k3 ?k4 ?k5 ?k6 ?k7 ?k8 ?k9 ?ka ?kb ?kc ?kd ?_; walk_at "q_k"; walk_at "q_c"; k_whole))
set_option hygiene false in
local macro_rules | `(tactic| o_head ($H, 2)) => `(tactic| (refine' $H ?k1 ?k2 ?k3 ?k4 ?k5 ?k6 ?kC ?m1 ?m2 ?m3 ?m4 ?m5 ?m6 ?m7 ?m8 ?ka ?kb ?kc ?kd ?ke ?kf ?_; walk_at "q_k"; walk_at "q_m"; k_whole))
set_option hygiene false in
local macro_rules | `(tactic| o_head ($H, 3)) => `(tactic| (refine' $H ?k1 ?k2 ?k3 ?k4 ?k5 ?k6 ?off ?mx ?mdx ?mr ?mdr ?mz ?i1 ?e1 ?iz ?ez ?bz ?hd ?hu ?_; walk_at "q_k"; (case off => with_reducible assumption); (case mx => k_mem); (case mdx => k_mem); walk_at "q_r"; (case mz => k_mem); (case i1 => with_reducible assumption); (case e1 => with_reducible assumption); (case iz => with_reducible assumption); (case ez => with_reducible assumption); (case bz => with_reducible assumption); walk_at "q_u"; k_whole))
set_option hygiene false in
local macro_rules | `(tactic| o_head ($H, 4)) => `(tactic| (refine' $H ?N ?a ?b ?i ?j ?u ?_; (case N => k_asm); (case a => k_mem); (case b => k_mem); (case i => with_reducible assumption); (case j => with_reducible assumption); (case u => ktr_units); k_whole))
set_option hygiene false in
local macro_rules | `(tactic| o_head ($H, 5)) => `(tactic| (refine' $H _ ?k1 ?k2 ?k3 ?k4 ?k6 ?k9 ?_ ?_; (case k1 => rfl); (case k2 => k_asm); (case k3 => k_asm); (case k4 => k_mem); (case k6 => with_reducible assumption); (case k9 => exact Mine.len_fits (by with_reducible assumption)); rotate_left))
set_option hygiene false in
local macro_rules | `(tactic| o_head ($H, 6)) => `(tactic| (refine' $H ?k1 ?k2 ?k3 ?k4 ?k5 ?k6 ?mx ?mdx ?ml ?my ?mdy ?ml2 ?mr ?mdr ?i1 ?i2 ?e1 ?e2 ?hd ?hu ?_; walk_at "q_k"; walk_at "q_x"; walk_at "q_y"; walk_at "q_r"; (case i1 => with_reducible assumption); (case i2 => with_reducible assumption); (case e1 => walk_at "my_len"); (case e2 => walk_at "my_len"); walk_at "q_u"))
set_option hygiene false in
local macro_rules | `(tactic| o_head ($H, 7)) => `(tactic| (refine' $H ?k1 ?k2 ?k3 ?k4 ?k5 ?k6 ?mx ?mdx ?ml ?mr ?mdr ?i1 ?e1 ?hd ?hu ?_; walk_at "q_k"; walk_at "q_x"; walk_at "q_r"; (case i1 => with_reducible assumption); (case e1 => walk_at "my_len"); walk_at "q_u"))
set_option hygiene false in
local macro_rules | `(tactic| o_head ($H, 8)) => `(tactic| (refine' $H ?k1 ?k2 ?k3 ?k4 ?k5 ?k6 ?mx ?mdx ?hd ?hu ?_; walk_at "q_k"; (case mx => k_mem); (case mdx => k_mem); walk_at "q_u"))
set_option hygiene false in
local macro_rules | `(tactic| o_head ($H, 9)) => `(tactic| (refine' $H ?k1 ?k2 ?k3 ?k4 ?k5 ?k6 ?mx ?mdx ?ml ?my ?mdy ?ml2 ?mr ?mdr ?i1 ?i2 ?e1 ?e2 ?hd ?hu ?_; walk_at "q_k"; walk_at "q_x"; walk_at "q_y"; walk_at "q_r"; walk_at "q_i"; walk_at "q_u"))
set_option hygiene false in
local macro_rules | `(tactic| o_head ($H, 10)) => `(tactic| (refine' $H ?k1 ?k2 ?k3 ?k4 ?k5 ?k6 ?mx ?mdx ?ml ?mr ?mdr ?i1 ?e1 ?hm ?hd ?hu ?_; walk_at "q_k"; walk_at "q_x"; walk_at "q_r"; (case i1 => with_reducible assumption); (case e1 => with_reducible assumption); (case hm => walk_at "my_mulok"); walk_at "q_u"))
set_option hygiene false in
local macro_rules | `(tactic| o_head ($H, 11)) => `(tactic| (refine' $H ?k1 ?k2 ?k3 ?k4 ?k5 ?k6 ?mx ?mdx ?ml ?my ?mdy ?ml2 ?mr ?mdr ?i1 ?i2 ?e1 ?e2 ?mll ?hd ?hu ?_; walk_at "q_k"; (case mll => k_mem); walk_at "q_x"; walk_at "q_y"; walk_at "q_r"; walk_at "q_i"; walk_at "q_u"))
set_option hygiene false in
local macro_rules | `(tactic| o_head ($H, 12)) => `(tactic| (refine' $H ?V ?F ?N ?lt ?l1 ?l2 ?I ?e1 ?mw ?Iw ?e ?_; (case V => with_reducible assumption); (case F => k_asm); (case N => with_reducible assumption); (case lt => with_reducible assumption); (case l1 => with_reducible assumption); (case l2 => with_reducible assumption); (case I => with_reducible assumption); (case e1 => with_reducible assumption); (case mw => k_mem); (case Iw => with_reducible assumption); (case e => with_reducible assumption)))
set_option hygiene false in
local macro_rules | `(tactic| o_head ($H, 50)) => `(tactic| with_reducible show wpAny _ _ (call (Value.ref $H) [Value.ref _, Value.ref _] _) _ _ _)
set_option hygiene false in
local macro_rules | `(tactic| o_head ($H, 51)) => `(tactic| with_reducible show wpAny _ _ (call (Value.ref $H) [Value.ref _, Value.int _ _] _) _ _ _)
local macro_rules | `(tactic| ktr_room) => `(tactic| (first | decide | ((try simp only [depth_mark, depth_under_make, depth_under_kw, depth_in1, depth_deeper, depth_caller]); (try dsimp only [ktrTop]); (have hrl9 : recursionLimit = 1000 := rfl); omega)))
local macro_rules | `(tactic| ktr_units) => `(tactic| ((try simp only [units_in1, units_deeper, units_under_make, Around.mark_units, units_caller]); (try dsimp only [ktrTop]); (have hcl9 : cLine = 9900 := rfl); omega))
local macro_rules | `(tactic| k_room) => `(tactic| ktr_room)
local macro_rules | `(tactic| k_units) => `(tactic| ktr_units)
section
local macro_rules | `(tactic| k_mem) => `(tactic| ((try show _ ∈ _); (repeat (refine List.mem_cons_of_mem _ ?_)); first | ktr_member | (refine List.mem_append.mpr (Or.inl ?_); ktr_member)))
local macro_rules | `(tactic| k_all) => `(tactic| first | assumption | (refine List.forall_mem_append.mpr ⟨?_, ?_⟩ <;> assumption))
theorem pow_bind (a b c : Value) : Builtin.Builtins.bindParams "pow" ["base", "exp", "mod"] 2 ⟨[a, b, c], []⟩ = pure [some a, some b, some c] := by kernel_rfl
theorem inv_eq (t u v : Tok) : Builtin.«int.__pow__» ⟨[.int 128 t, .int (-1) u, .int 3329 v], []⟩ = (rule "int.pow.inverse" >>= fun _ => (Made.int 3303).tree) := by kernel_rfl
theorem pow_entry : entryFor table "pow" = some Builtin.«pow» := entryFor_of_tree (by kernel_rfl)
theorem pow_any {prog : Program} {w : World} {A : Around} {E : Value → Shared → Prop} {s : Shared} {b e m r : Int} {t u v : Tok} {Q : Value → Shared → Prop}
    (g : Gives (Builtin.«int.__pow__» ⟨[.int b t, .int e u, .int m v], []⟩) (.int r))
    (h : Q (.int r s.toks) { s with toks := s.toks + 1 }) :
    wpAny (model prog w) A (call (.builtin "pow") [.int b t, .int e u, .int m v]) Q E s := by
  refine Calls.call_function_entry (by decide +kernel) (by decide +kernel) pow_entry (by unfold argsOk; kernel_rfl) ?_
  unfold Builtin.«pow»
  simp only [pow_bind, pure_bind, Option.getD_some]
  refine wpAny_bind (wpAny_rule ?_)
  refine wpAny_bind (wpAny_typeOf (T := "int") (typeIs_int _ _ _) ?_)
  refine wpAny_bind (wpAny_of_eq (F.slot_int_pow.lookup) ?_)
  dsimp only
  refine wpAny_bind (wpAny_callSpecial?_slot (T := "int") (typeIs_int _ _ _) F.slot_int_pow (call_gives F.slot_int_pow (typeIs_int _ _ _) F.entry_int_pow (F.args_int_pow_3 _ _ _) g ?_))
  exact wpAny_pure ⟨_, rfl, h⟩
theorem inv_gives (t u v : Tok) : Gives (Builtin.«int.__pow__» ⟨[.int 128 t, .int (-1) u, .int 3329 v], []⟩) (.int 3303) := .of_wp (by
  intro M A E s Q h
  rw [inv_eq]
  refine wpAny_bind (wpAny_rule ?_)
  exact wpAny_bind (wpAny_mkInt (wpAny_pure ⟨_, rfl, h⟩)))
theorem pow_call {prog : Program} {w : World} {A : Around} {E : Value → Shared → Prop} {s : Shared} {i : Int} {t u v : Tok} {Q : Value → Shared → Prop} (h0 : 0 ≤ i) (h1 : i < 128)
    (h : Q (.int (ZT.getD i.toNat 0) s.toks) { s with toks := s.toks + 1 }) :
    wpAny (model prog w) A (call (.builtin "pow") [.int 17 t, .int (brT.getD i.toNat 0) u, .int 3329 v]) Q E s := by
  have b := brT_lt ⟨i.toNat, by omega⟩
  have z := zt_eq ⟨i.toNat, by omega⟩
  dsimp only at b z
  have g := pow_gives (brT.getD i.toNat 0).toNat (by omega) t u v
  rw [show (((brT.getD i.toNat 0).toNat : Nat) : Int) = brT.getD i.toNat 0 by omega, z] at g
  exact pow_any g h
theorem inv_call {prog : Program} {w : World} {A : Around} {E : Value → Shared → Prop} {s : Shared} {t u v : Tok} {Q : Value → Shared → Prop}
    (h : Q (.int 3303 s.toks) { s with toks := s.toks + 1 }) :
    wpAny (model prog w) A (call (.builtin "pow") [.int 128 t, .int (-1) u, .int 3329 v]) Q E s := pow_any (inv_gives _ _ _) h

section
variable {prog : Program} {w : World} {M : Model} {A : Around} {E : Value → Shared → Prop} {s : Shared} {K : Frag} {x C L f f0 : Addr} {h₀ : Heap} {m : Str → Option Value} {od : Option Obj}
theorem int_mul_inst (a : Int) (t : Tok) (l C d : Addr) : Meets (Builtin.«int.__mul__» ⟨[.int a t, .ref l], []⟩) (fun _ R s => s.heap.get? l = some (instObj C d) ∧ R (.ok (.ret Value.notImplemented)) s) :=
  .of_wp fun prog w A R s h => by obtain ⟨hp, g, d, tk, os⟩ := s; obtain ⟨hl, h⟩ := h; wp_walk; exact ⟨_, rfl, h⟩
theorem int_add_inst (a : Int) (t : Tok) (l C d : Addr) : Meets (Builtin.«int.__add__» ⟨[.int a t, .ref l], []⟩) (fun _ R s => s.heap.get? l = some (instObj C d) ∧ R (.ok (.ret Value.notImplemented)) s) :=
  .of_wp fun prog w A R s h => by obtain ⟨hp, g, d, tk, os⟩ := s; obtain ⟨hl, h⟩ := h; wp_walk; exact ⟨_, rfl, h⟩
theorem call_mul {i : Int} {t : Tok} {d : Addr} {Q : Value → Shared → Prop} (hl : s.heap.get? x = some (instObj C d)) (h : Q .notImplemented s) : wpAny (model prog w) A (call (.builtin "int.__mul__") [.int i t, .ref x]) Q E s :=
  call_meets (T := "int") (name := PySem.dunder "mul") F.slot_int_mul (typeIs_int s i t) F.entry_int_mul (F.args_int_mul_2 _ _) (int_mul_inst i t x C d) ⟨hl, h⟩
theorem try_mul {i : Int} {t : Tok} {d : Addr} {Q : Option Value → Shared → Prop} (hl : s.heap.get? x = some (instObj C d)) (h : Q none s) : wpAny (model prog w) A (tryMethod (.int i t) (PySem.dunder "mul") (.ref x)) Q E s := by
  unfold tryMethod
  have hc : wpAny (model prog w) A (call (.builtin "int.__mul__") ((.int i t) :: [.ref x]) []) (fun v s' => wpAny (model prog w) A (match some v with | some .notImplemented | none => pure none | some v => pure (some v)) Q E s') E s := call_mul hl (wpAny_pure h)
  exact wpAny_bind (wpAny_callSpecial?_slot (self := .int i t) (T := "int") (name := PySem.dunder "mul") (id := "int.__mul__") (args := [.ref x]) (kw := []) (typeIs_int s i t) F.slot_int_mul hc)
theorem call_add {i : Int} {t : Tok} {d : Addr} {Q : Value → Shared → Prop} (hl : s.heap.get? x = some (instObj C d)) (h : Q .notImplemented s) : wpAny (model prog w) A (call (.builtin "int.__add__") [.int i t, .ref x]) Q E s :=
  call_meets (T := "int") (name := PySem.dunder "add") F.slot_int_add (typeIs_int s i t) F.entry_int_add (F.args_int_add_2 _ _) (int_add_inst i t x C d) ⟨hl, h⟩
theorem try_add {i : Int} {t : Tok} {d : Addr} {Q : Option Value → Shared → Prop} (hl : s.heap.get? x = some (instObj C d)) (h : Q none s) : wpAny (model prog w) A (tryMethod (.int i t) (PySem.dunder "add") (.ref x)) Q E s := by
  unfold tryMethod
  have hc : wpAny (model prog w) A (call (.builtin "int.__add__") ((.int i t) :: [.ref x]) []) (fun v s' => wpAny (model prog w) A (match some v with | some .notImplemented | none => pure none | some v => pure (some v)) Q E s') E s := call_add hl (wpAny_pure h)
  exact wpAny_bind (wpAny_callSpecial?_slot (self := .int i t) (T := "int") (name := PySem.dunder "add") (id := "int.__add__") (args := [.ref x]) (kw := []) (typeIs_int s i t) F.slot_int_add hc)
theorem binR {op : Operator} {nm : String} {i : Int} {t : Tok} {ox : Obj} {Q : Value → Shared → Prop} (F : Fr h₀ L s.heap m) (X₀ : K.In h₀) (I : InstAt s.heap x ox C od) (hi : op.info.2 = nm) (hc : selfFirst K C = true)
    (hs : findIn K (.ref C) (PySem.dunder nm) = some (some (.ref f0))) (hr : findIn K (.ref C) (dunderR nm) = some (some (.ref f))) (hf : isFn K (.ref f) = true)
    (hfill : fillsNumberSlot (.type "int") nm = pure true) (hsub : subIn K (.ref C) (.type "int") = some false)
    (ht : ∀ Q' : Option Value → Shared → Prop, Q' none s → wpAny (model prog w) A (tryMethod (.int i t) (PySem.dunder nm) (.ref x)) Q' E s)
    (h : wpAny (model prog w) A (call (.ref f) [.ref x, .int i t]) (W.CmpBack Q) E s) : wpAny (model prog w) A (binaryOp op (.int i t) (.ref x)) Q E s := by
  have X := X₀.keeps F.keep
  obtain ⟨cd, rest, hcd, hm⟩ := ksp_first hc
  rcases hi' : op.info with ⟨sym, nm'⟩
  rw [hi'] at hi
  dsimp only at hi
  subst hi
  have one := ksp_try X I hr hf h
  obtain ⟨hh, g, d, tt, os⟩ := s
  have L1 : Looks (model prog w) hh (typeOf (.int i t)) (.type "int") := Looks.of_pure rfl
  have L2 : Looks (model prog w) hh (typeOf (.ref x)) (.ref C) := I.type
  have L3 : Looks (model prog w) hh (fillsNumberSlot (.type "int") nm') true := Looks.of_pure hfill
  have L4 : Looks (model prog w) hh (fillsNumberSlot (.ref C) nm') true := fills_K X hcd hm hs
  have L5 : Looks (model prog w) hh (isSubtype (.ref C) (.type "int")) false := looks_subIn X hsub
  have L7 : Looks (model prog w) hh (numberSlotInPython (.type "int") nm') false := Looks.of_pure rfl
  have hne : (Value.type "int" == Value.ref C) = false := Bool.eq_false_iff.mpr fun q => by cases beq_iff_eq.mp q
  simp only [binaryOp, hi']
  refine wpAny_holding (wpAny_bind ?_)
  unfold binaryOp1
  refine wpAny_bind (L1.at (wpAny_bind (L2.at (wpAny_bind (L3.at ?_)))))
  simp only [hne, Bool.false_eq_true, if_false]
  ksp_lk
  refine ht _ ?_
  dsimp only
  ksp_lk
  refine wpAny_mono one (fun r s' hr' => ?_) fun _ _ e => e
  obtain ⟨v, rfl, hq⟩ := hr'
  ksp_lk
  exact hq
end

section
open PyProof.Rows.LCg (lst)
variable {prog : Program} {w : World} {A : Around} {E : Value → Shared → Prop} {s : Shared} {h₀ : Heap} {L : Addr} {m : Str → Option Value}
noncomputable def SumEnd (h₀ : Heap) (L : Addr) (m : Str → Option Value) (s : Shared) (S I : Addr) (oS oI : Obj) (l : Addr) (vs : List Value) (n : Nat) (Go : Value → List (Addr × Obj) → Prop) (r : Value) (s1 : Shared) : Prop :=
  ∃ h1 tk1 keep1 a, r = .ref a ∧ s1 = { s with heap := h1, toks := tk1 } ∧ Fr h₀ L h1 m ∧ News h₀ L h1 ((S, oS) :: (I, oI) :: keep1) ∧ (∀ p ∈ keep1, p.1 ≠ S) ∧ (∀ p ∈ keep1, p.1 ≠ I) ∧ (l, listOf vs.toArray n) ∈ keep1 ∧ Go (.ref a) keep1
/-- what is left of a sum over a list of instances -/
noncomputable def SumGo (prog : Program) (w : World) (A : Around) (h₀ : Heap) (L : Addr) (m : Str → Option Value) (s : Shared) (S I l : Addr) (vs : List Value) (n : Nat) (Q : Value → Shared → Prop) : List Value → Value → List (Addr × Obj) → Prop
  | [], tot, keep => ∀ h tk, Fr h₀ L h m → News h₀ L h keep → Q tot { s with heap := h, toks := tk }
  | v :: rest, tot, keep => ∀ (h : Heap) (tk : Nat) (oS oI : Obj) (E' : Value → Shared → Prop), Fr h₀ L h m → News h₀ L h ((S, oS) :: (I, oI) :: keep) →
      wpAny (model prog w) A.in1 (binaryOp .Add tot v) (SumEnd h₀ L m s S I oS oI l vs n (SumGo prog w A h₀ L m s S I l vs n Q rest)) E' { s with heap := h, toks := tk }
theorem sum_loop {S I l : Addr} {vs : List Value} {n : Nat} {Q : Value → Shared → Prop} {R : Result → Shared → Prop} (hh : A.handled = none) (hSI : S ≠ I) (hlS : l ≠ S) (hlI : l ≠ I) (hR : ∀ v s', Q v s' → R (.ok (.ret v)) s')
    (hS₀ : h₀.get? S = none) (hI₀ : h₀.get? I = none) (hSL : S ≠ L) (hIL : I ≠ L) (href : ∀ v ∈ vs, ∃ a, v = .ref a) :
    ∀ (rest : List Value) (i : Nat) (tot : Value) (c : Nat) (st : Int) (keep : List (Addr × Obj)) (h : Heap) (tk : Nat), vs.drop i = rest → i ≤ vs.length →
      ((∃ t, tot = .int 0 t) ∧ st = 0 ∨ (∃ a, tot = .ref a) ∧ st = 2) → Fr h₀ L h m → News h₀ L h keep → (∀ p ∈ keep, p.1 ≠ S) → (∀ p ∈ keep, p.1 ≠ I) → (l, listOf vs.toArray n) ∈ keep →
      h.get? S = some { cls := .type "list", dict := none, data := .seq #[tot] c, slots := #[] } → h.IsListIter I l i → SumGo prog w A h₀ L m s S I l vs n Q rest tot keep →
      codeAny (model prog w) A (.builtin "sum.loop" ⟨[.ref I, .ref S, rawInt st, rawInt 0], []⟩) R { s with heap := h, toks := tk } := by
  intro rest
  induction rest with
  | nil =>
    intro i tot c st keep h tk hd hi ht Fr₁ N₁ kS kI hl hS hI go
    have hin : i = vs.length := by have := congrArg List.length hd; simp at this; omega
    have W := Walks.list (prog := prog) (w := w) (A := A.in1) hh I l hlI vs.toArray
    have hil : h.IsList l vs.toArray := ⟨_, (N₁ _ hl).1, rfl, n, rfl⟩
    refine codeAny_builtin F.entry_sum_loop ?_
    rw [Around.under_plainId F.plain_sum_loop _]
    show wpAny _ A.in1 (seqItems? (.ref S) >>= _) _ _ _
    refine wpAny_bind (wpAny_seqItems hS rfl ?_)
    show wpAny _ A.in1 (tryCatch (pyNext (.ref I)) _ >>= _) _ _ _
    refine wpAny_bind (wpAny_tryCatch (W.done _ _ _ ⟨by rw [List.size_toArray, ← hin]; exact hI, hil⟩ fun h' tk' hk => ?_))
    have wr1 : ∀ b, b ≠ I → b ∉ [I] := fun b hb hm => hb (List.mem_singleton.mp hm)
    have Fr₂ : Fr h₀ L h' m := ⟨Fr₁.ns.at' fun o e => hk _ o (wr1 _ (Ne.symm hIL)) e, fun c o e => hk c o (wr1 _ fun q => by rw [q, hI₀] at e; cases e) (Fr₁.keep c o e), Fr₁.above⟩
    have N₂ : News h₀ L h' keep := fun p hp => ⟨hk _ _ (wr1 _ (kI p hp)) (N₁ p hp).1, (N₁ p hp).2⟩
    rcases ht with ⟨⟨t, rfl⟩, rfl⟩ | ⟨⟨a, rfl⟩, rfl⟩
    · exact wpAny_pure (hR _ _ (go h' tk' Fr₂ N₂))
    · exact wpAny_pure (hR _ _ (go h' tk' Fr₂ N₂))
  | cons v rest ih =>
    intro i tot c st keep h tk hd hi ht Fr₁ N₁ kS kI hl hS hI go
    have hlt : i < vs.length := by have := congrArg List.length hd; simp at this; omega
    have hvi : vs[i]? = some v := by rw [← List.head?_drop, hd]; rfl
    have hd' : vs.drop (i + 1) = rest := by rw [← List.tail_drop, hd]; rfl
    obtain ⟨va, rfl⟩ := href v (List.mem_of_getElem? hvi)
    have W := Walks.list (prog := prog) (w := w) (A := A.in1) hh I l hlI vs.toArray
    have hil : h.IsList l vs.toArray := ⟨_, (N₁ _ hl).1, rfl, n, rfl⟩
    refine codeAny_builtin F.entry_sum_loop ?_
    rw [Around.under_plainId F.plain_sum_loop _]
    show wpAny _ A.in1 (seqItems? (.ref S) >>= _) _ _ _
    refine wpAny_bind (wpAny_seqItems hS rfl ?_)
    show wpAny _ A.in1 (tryCatch (pyNext (.ref I)) _ >>= _) _ _ _
    refine wpAny_bind (wpAny_tryCatch (W.item i _ _ _ (by rw [List.size_toArray]; exact hlt) ⟨hI, hil⟩ fun v' h' tk' hP hst' hk => ?_))
    obtain rfl : v' = .ref va := Option.some.inj ((by simpa using hP : vs[i]? = some v').symm.trans hvi)
    have wr1 : ∀ b, b ≠ I → b ∉ [I] := fun b hb hm => hb (List.mem_singleton.mp hm)
    have Fr₂ : Fr h₀ L h' m := ⟨Fr₁.ns.at' fun o e => hk _ o (wr1 _ (Ne.symm hIL)) e, fun c o e => hk c o (wr1 _ fun q => by rw [q, hI₀] at e; cases e) (Fr₁.keep c o e), Fr₁.above⟩
    have N₂ : News h₀ L h' keep := fun p hp => ⟨hk _ _ (wr1 _ (kI p hp)) (N₁ p hp).1, (N₁ p hp).2⟩
    obtain ⟨⟨oI, gI, rI⟩, -⟩ := hst'
    have hS' := hk S _ (wr1 _ hSI) hS
    have N₃ : News h₀ L h' ((S, { cls := .type "list", dict := none, data := .seq #[tot] c, slots := #[] }) :: (I, oI) :: keep) := fun p hp => by
      rcases List.mem_cons.mp hp with rfl | hp
      · exact ⟨hS', hSL, hS₀⟩
      rcases List.mem_cons.mp hp with rfl | hp
      · exact ⟨gI, hIL, hI₀⟩
      exact N₂ p hp
    have fin : ∀ (r : Value) (s1 : Shared), (∃ h1 tk1 keep1 a, r = .ref a ∧ s1 = { s with heap := h1, toks := tk1 } ∧ Fr h₀ L h1 m ∧ News h₀ L h1 ((S, { cls := .type "list", dict := none, data := .seq #[tot] c, slots := #[] }) :: (I, oI) :: keep1) ∧
        (∀ p ∈ keep1, p.1 ≠ S) ∧ (∀ p ∈ keep1, p.1 ≠ I) ∧ (l, listOf vs.toArray n) ∈ keep1 ∧ SumGo prog w A h₀ L m s S I l vs n Q rest (.ref a) keep1) → ∀ E, 
        wpAny (model prog w) A.in1 (do
            updateSeq S fun _ => #[r]
            letGo [tot, .ref va]
            updateSeq S fun _ => #[r]
            (again (.builtin "sum.loop" ⟨[.ref I, .ref S, rawInt 2, rawInt 0], []⟩) : Sem PySem.Fin)) (fun fin s' => match fin with | .done f => R (.ok f) s' | .again c' => c'.quiet = true ∧ codeAny (model prog w) A c' R s') E s1 := by
      rintro r s1 ⟨h1, tk1, keep1, a, rfl, rfl, F1, N1, k1S, k1I, hl1, go'⟩ E
      have hS1 := (N1 _ List.mem_cons_self).1
      have hI1 := (N1 _ (List.mem_cons_of_mem _ List.mem_cons_self)).1
      refine wpAny_bind (wpAny_updateSeq hS1 rfl ?_)
      have hS2 := Heap.get?_update_self (Obj.mapSeq fun _ => #[Value.ref a]) hS1 rfl
      refine wpAny_bind (wpAny_letGo ?_)
      refine wpAny_bind (wpAny_updateSeq hS2 rfl (wpAny_pure ⟨plainId_quiet F.plain_sum_loop _, ih (i + 1) (.ref a) _ 2 keep1 _ tk1 hd' hlt (.inr ⟨⟨a, rfl⟩, rfl⟩) ?_ ?_ k1S k1I hl1 (Heap.get?_update_self _ hS2 rfl) ?_ go'⟩))
      all_goals have up : ∀ b o, b ≠ S → h1.get? b = some o → ((h1.update S (Obj.mapSeq fun _ => #[Value.ref a])).update S (Obj.mapSeq fun _ => #[Value.ref a])).get? b = some o := fun b o hb e =>
        (Heap.get?_update_other _ _ (fun q : S = b => hb q.symm)).trans ((Heap.get?_update_other _ _ (fun q : S = b => hb q.symm)).trans e)
      · exact ⟨F1.ns.at' fun o e => up _ o (Ne.symm hSL) e, fun c o e => up c o (fun q => by rw [q, hS₀] at e; cases e) (F1.keep c o e), F1.above⟩
      · exact fun p hp => ⟨up _ _ (k1S p hp) (N1 p (List.mem_cons_of_mem _ (List.mem_cons_of_mem _ hp))).1, (N1 p (List.mem_cons_of_mem _ (List.mem_cons_of_mem _ hp))).2⟩
      · exact ⟨oI, up _ _ (Ne.symm hSI) hI1, rI⟩
    rcases ht with ⟨⟨t, rfl⟩, rfl⟩ | ⟨⟨a, rfl⟩, rfl⟩
    · show wpAny _ A.in1 (rule "sum.leaves-ints" >>= _) _ _ _
      refine wpAny_bind (wpAny_rule ?_)
      show wpAny _ A.in1 ((holding [Value.ref va] (binaryOp .Add (.int 0 t) (.ref va))).attempt >>= _) _ _ _
      refine wpAny_bind (wpAny_attempt (wpAny_holding (wpAny_mono (go h' tk' _ oI _ Fr₂ N₃) (fun r s1 hq => ?_) fun _ _ e => e)))
      obtain ⟨h1, tk1, keep1, a, rfl, rest'⟩ := hq
      exact fin _ _ ⟨h1, tk1, keep1, a, rfl, rest'⟩ _
    · show wpAny _ A.in1 ((holding [Value.ref va] (binaryOp .Add (.ref a) (.ref va))).attempt >>= _) _ _ _
      refine wpAny_bind (wpAny_attempt (wpAny_holding (wpAny_mono (go h' tk' _ oI _ Fr₂ N₃) (fun r s1 hq => ?_) fun _ _ e => e)))
      obtain ⟨h1, tk1, keep1, a', rfl, rest'⟩ := hq
      exact fin _ _ ⟨h1, tk1, keep1, a', rfl, rest'⟩ _
theorem sum_own {l : Addr} {vs : List Value} {n : Nat} {news : List (Addr × Obj)} {Q : Value → Shared → Prop} (hh : A.handled = none) (Fm : Fr h₀ L s.heap m) (N : News h₀ L s.heap news) (hm : (l, listOf vs.toArray n) ∈ news)
    (href : ∀ v ∈ vs, ∃ a, v = .ref a)
    (go : ∀ (S I : Addr) (t : Tok), (∀ q ∈ news, q.1 < I) → I < S → SumGo prog w A h₀ L m s S I l vs n Q vs (.int 0 t) news) : wpAny (model prog w) A (call (.builtin "sum") [.ref l]) Q E s := by
  have hl1 : s.heap.IsList l vs.toArray := ⟨_, (N _ hm).1, rfl, _, rfl⟩
  refine call_function_tree F.kind_sum F.plain_sum F.entry_sum (F.args_sum1 _) ?_
  unfold Builtin.«sum»
  simp only [List.length_cons, List.length_nil]
  rw [if_neg (by decide)]
  refine wpAny_bind (wpAny_of_eq (show Builtin.Builtins.bindParams "sum" ["start"] 0 { } = pure [none] from rfl) ?_)
  refine wpAny_bind (wpAny_pyIter_list hl1 ?_)
  refine wpAny_bind (wpAny_mkInt ?_)
  refine wpAny_bind (wpAny_pure ?_)
  simp only [List.forIn_cons, List.forIn_nil]
  refine wpAny_bind (wpAny_bind (wpAny_bind (wpAny_isInstance (T := "int") (b := false) (typeIs_int _ _ _) PySem.sub_int_str ?_)))
  simp only [Bool.false_eq_true, if_false]
  refine wpAny_pure (wpAny_bind (wpAny_bind (wpAny_isInstance (T := "int") (b := false) (typeIs_int _ _ _) PySem.sub_int_bytes ?_)))
  simp only [Bool.false_eq_true, if_false]
  refine wpAny_pure (wpAny_bind (wpAny_bind (wpAny_isInstance (T := "int") (b := false) (typeIs_int _ _ _) PySem.sub_int_bytearray ?_)))
  simp only [Bool.false_eq_true, if_false]
  refine wpAny_pure (wpAny_pure ?_)
  refine wpAny_bind (wpAny_newObj_type ?_)
  have hlt : ∀ q ∈ news, q.1 < s.heap.objs.size := fun q hq => Heap.lt_size (N q hq).1
  have fresh : ∀ a, s.heap.objs.size ≤ a → h₀.get? a = none := fun a ha => by
    cases e : h₀.get? a with
    | none => rfl
    | some o => exact absurd (Heap.lt_size (Fm.keep a o e)) (Nat.not_lt.mpr ha)
  have hLs : L < s.heap.objs.size := Fm.ns.lt
  generalize hI0 : s.heap.objs.size = I at *
  generalize hH1 : s.heap.push { cls := .type "list_iterator", data := .fields #[.ref l, .int 0 0] } = H1
  have hS1 : H1.objs.size = I + 1 := by rw [← hH1, Heap.size_push, hI0]
  have g1 : ∀ b o, s.heap.get? b = some o → H1.get? b = some o := fun b o e => hH1 ▸ Heap.get?_push_of_some _ e
  have gI : H1.IsListIter I l 0 := ⟨_, by rw [← hH1, ← hI0]; exact Heap.get?_push_size _ rfl, rfl, rfl⟩
  have g2 : ∀ b o, s.heap.get? b = some o → (H1.push { cls := .type "list", data := .seq #[.int 0 s.toks] }).get? b = some o := fun b o e => Heap.get?_push_of_some _ (g1 b o e)
  refine wpAny_pure ⟨plainId_quiet F.plain_sum_loop _, sum_loop (s := s) (h₀ := h₀) (L := L) (m := m) hh (S := H1.objs.size) (I := I) (l := l) (vs := vs) (n := n) (Q := Q) ?_ ?_ ?_ (fun v s' hq => hq) ?_ ?_ ?_ ?_ href vs 0 (.int 0 s.toks) 0 0 news _ _ rfl (Nat.zero_le _) (.inl ⟨⟨_, rfl⟩, rfl⟩) ?_ ?_ ?_ ?_ hm (Heap.get?_push_size _ rfl) ?_ (go _ _ _ hlt ?_)⟩
  · rw [hS1]; exact Nat.succ_ne_self _
  · rw [hS1]; exact Nat.ne_of_lt (Nat.lt_succ_of_lt (hlt _ hm))
  · exact Nat.ne_of_lt (hlt _ hm)
  · exact fresh _ (by rw [hS1]; exact Nat.le_succ _)
  · exact fresh _ (Nat.le_refl _)
  · rw [hS1]; exact Nat.ne_of_gt (Nat.lt_succ_of_lt hLs)
  · exact Nat.ne_of_gt hLs
  · exact Fm.keeps g2
  · exact fun p hp => ⟨g2 _ _ (N p hp).1, (N p hp).2⟩
  · exact fun p hp => by rw [hS1]; exact Nat.ne_of_lt (Nat.lt_succ_of_lt (hlt _ hp))
  · exact fun p hp => Nat.ne_of_lt (hlt _ hp)
  · obtain ⟨o, go, r⟩ := gI
    exact ⟨o, Heap.get?_push_of_some _ go, r⟩
  · rw [hS1]; exact Nat.lt_succ_self _
end

noncomputable def drawF (ns : List Int) (k : Int) : Int := if k < (ns.length : Int) then ns.getD k.toNat 0 else 200 + 17 * k + 31 * k * k
theorem draw_len {prog : Program} {w : World} {A : Around} {E : Value → Shared → Prop} {s : Shared} {h₀ : Heap} {L : Addr} {m : Str → Option Value} {sl : Addr} {vs : List Value} {ns : List Int} {Q : Value → Shared → Prop} (F : Fr h₀ L s.heap m) (S : h₀.IsList sl vs.toArray) (I : IntsAre vs ns) (hn : ns.length ≤ 63)
    (h : Q (.int (ns.length : Int) (s.toks + 1)) { s with toks := s.toks + 1 + 1 }) : wpAny (model prog w) A (call (.builtin "len") [.ref sl]) Q E s := by
  have e2 : vs.toArray.size = ns.length := by rw [List.size_toArray, I.length]
  exact len_list (S.at fun o e => F.keep _ o e) (by rw [e2]; omega) (by rw [e2]; exact h)
section
local macro_rules | `(tactic| walk_at "call builtin:len") => `(tactic| (k_here; k_dflt (refine Mine.draw_len (by k_asm) (by assumption) (by assumption) (by assumption) ?_)))
variable {w : World} {mean : ExcName → Option Value} {mg mb : Str → Option Value} {p : Program} {loose : List Str}
  {dp un : Nat} {gd : Option (List Code)} {cn : Str} {cs : Scope} {a : Addr} {ccd : Value} {cl : List (Str × Addr)} {outer : List Env} {A₀ : Around} {base h₀ : Heap} {L : Addr} {m : Str → Option Value} {s : Shared} {Q E : Value → Shared → Prop} {news : List (Addr × Obj)}
  {sl : Addr} {vs : List Value} {ns : List Int} {k : Int} {kt : Tok}
theorem draw_call (B : Below A₀ base outer h₀) (F : Fr h₀ L s.heap m) (X : (Mine.hd.heap_1 w.params).In h₀) (N : News h₀ L s.heap news) (T : Top p loose mean mg mb h₀) (hk : cs.kind = .function)
    (S : h₀.IsList sl vs.toArray) (I : IntsAre vs ns) (hn : ns.length ≤ 63) (k0 : 0 ≤ k) (k1 : k < 1000)
    (hd : dp + 16 < recursionLimit) (hu : un + 128 < cLine)
    (ret : ∀ (t : Tok) (h' : Heap) (tk' : Nat), Fr h₀ L h' m → News h₀ L h' news → Q (.int (drawF ns k) t) { s with heap := h', toks := tk' }) :
    wpAny (model PySem.Challenge.rw_yi0008_01.row.prog w) (ktrTop dp un gd cn cs L a ccd cl outer) (call (.ref 435) [.ref sl, .int k kt]) Q E s := by
  revert X; k_fill; intro X
  obtain ⟨ck, cnm, cg, cco, cmo⟩ := cs
  cases hk
  refine wpAny_call ?_
  k_dflt k_enter
  (with_reducible rename Fr h₀ L _ m => FG)
  have S' := S.at fun o e => FG.keep _ o e
  clear S F
  k_steps
  · rw [show ns.getD k.toNat 0 = drawF ns k by unfold drawF; rw [if_pos (by assumption)]]
    exact ret _ _ _ (by k_asm) (by k_asm)
  · rw [show 200 + 17 * k + 31 * k * k = drawF ns k by unfold drawF; rw [if_neg (by assumption)]]
    exact ret _ _ _ (by k_asm) (by k_asm)
end
noncomputable def ManyIs (mm X : Int) : Prop := mm = if 256 < X then 256 else X
theorem many_gen {prog : Program} {w : World} {A : Around} {E : Value → Shared → Prop} {s : Shared} {env : Env} {x : Str} {t : Tok} {Q : Unit → Shared → Prop} (X : Int) (h0 : 0 ≤ X)
    (h : ∀ mm : Int, ManyIs mm X → 0 ≤ mm → mm ≤ 256 → wpAny (model prog w) A (storeName env x (.int mm t)) Q E s) : wpAny (model prog w) A (storeName env x (.int (if 256 < X then 256 else X) t)) Q E s :=
  h _ rfl (by split <;> omega) (by split <;> omega)
theorem dA {k mm : Int} (h : k < 0 + ((mm - 0).toNat : Int)) (m0 : 0 ≤ mm) (m1 : mm ≤ 256) : 2 + k < 1000 := by omega
theorem dB {k mm : Int} (h : k < 0 + ((256 - (0:Int)).toNat : Int)) (m1 : mm ≤ 256) : 2 + mm + k < 1000 := by omega
theorem dA0 {k : Int} (h : 0 ≤ k) : 0 ≤ 2 + k := by omega
theorem dB0 {k mm : Int} (h : 0 ≤ k) (m0 : 0 ≤ mm) : 0 ≤ 2 + mm + k := by omega

open Builtin.Int in
theorem draw_bits {ns : List Int} (hL : (PyData.list (ns.map PyData.int)).layable0 = true) {k : Int} (k0 : 0 ≤ k) (k1 : k < 1000) : intBits (drawF ns k) ≤ 1048576 := by
  unfold drawF
  by_cases h : k < (ns.length : Int)
  · rw [if_pos h]
    have hk : k.toNat < ns.length := by omega
    refine intBits_le_of_item (ns := ns) ?_ hL
    rw [List.getD_eq_getElem?_getD, List.getElem?_eq_getElem hk]
    exact List.getElem_mem hk
  · rw [if_neg h]
    refine Nat.le_trans (intBits_le_64 ?_ ?_) (by decide)
    · have : 0 ≤ 31 * k * k := Int.mul_nonneg (by omega) k0
      omega
    · have h1 : 31 * k * k ≤ 31 * 1000 * 1000 := Int.mul_le_mul (by omega) (by omega) k0 (by omega)
      omega
open Builtin.Int in
theorem big_of {ns A : List Int} (hL : (PyData.list (ns.map PyData.int)).layable0 = true) (h : ∀ c ∈ A, intBits c ≤ 1048576) :
    (∀ c ∈ A, IntMulOk c (drawF ns 1)) ∧ ∀ c ∈ A, IntMulOk (drawF ns 1) c :=
  ⟨fun c hc => IntMulOk.of_le (h c hc) (draw_bits hL (by omega) (by omega)) (by omega), fun c hc => IntMulOk.of_le (draw_bits hL (by omega) (by omega)) (h c hc) (by omega)⟩
theorem aGen {vs : List Value} {ns : List Int} {mm : Int} (h : IntsAre vs ((rangeKs 0 (mm - 0).toNat).map (fun k => drawF ns (2 + k)) ++ (List.replicate (256 - mm).toNat [(0 : Int)]).flatten)) (m0 : 0 ≤ mm) (m1 : mm ≤ 256)
    (hL : (PyData.list (ns.map PyData.int)).layable0 = true) :
    ∃ A : List Int, IntsAre vs A ∧ A.length = 256 ∧ (∀ c ∈ A, IntMulOk c (drawF ns 1)) ∧ (∀ c ∈ A, IntMulOk (drawF ns 1) c) := by
  refine ⟨_, h, ?_, big_of hL fun c hc => ?_⟩
  · simp only [List.length_append, List.length_map, rangeKs_length, List.length_flatten, List.map_replicate, List.length_singleton, List.sum_replicate_nat]
    omega
  · rcases List.mem_append.mp hc with hc | hc
    · obtain ⟨k, hk, rfl⟩ := List.mem_map.mp hc
      have := mem_rangeKs hk
      exact draw_bits hL (by omega) (by omega)
    · obtain ⟨l, hl, hc⟩ := List.mem_flatten.mp hc
      rw [(List.mem_replicate.mp hl).2] at hc
      rw [List.mem_singleton.mp hc]
      decide
theorem bGen {vs : List Value} {ns : List Int} {mm : Int} (h : IntsAre vs ((rangeKs 0 (256 - (0:Int)).toNat).map (fun k => drawF ns (2 + mm + k)))) (m0 : 0 ≤ mm) (m1 : mm ≤ 256)
    (hL : (PyData.list (ns.map PyData.int)).layable0 = true) :
    ∃ A : List Int, IntsAre vs A ∧ A.length = 256 ∧ (∀ c ∈ A, IntMulOk c (drawF ns 1)) ∧ (∀ c ∈ A, IntMulOk (drawF ns 1) c) := by
  refine ⟨_, h, ?_, big_of hL fun c hc => ?_⟩
  · simp only [List.length_map, rangeKs_length]
    omega
  · obtain ⟨k, hk, rfl⟩ := List.mem_map.mp hc
    have := mem_rangeKs hk
    exact draw_bits hL (by omega) (by omega)
theorem mulok_fm {A : List Int} {o : Int} (h : ∀ c ∈ A, 0 ≤ c ∧ c < 3329) : ∀ c ∈ A, IntMulOk c o := fun c hc =>
  IntMulOk.of_left (intBits_le_64 (by have := h c hc; omega) (by have := h c hc; omega))
theorem fm_rng (x : Int) : 0 ≤ x.fmod 3329 ∧ x.fmod 3329 < 3329 := ⟨Int.fmod_nonneg_of_pos _ (by decide), Int.fmod_lt_of_pos _ (by decide)⟩
theorem zip_rng {A B : List Int} (f : Int → Int → Int) : ∀ c ∈ List.zipWith (fun a b => (f a b).fmod 3329) A B, 0 ≤ c ∧ c < 3329 := fun c hc => by
  obtain ⟨i, hi, rfl⟩ := List.mem_iff_getElem.mp hc
  rw [List.getElem_zipWith]
  exact fm_rng _
theorem map_rng {A : List Int} (f : Int → Int) : ∀ c ∈ A.map (fun a => (f a).fmod 3329), 0 ≤ c ∧ c < 3329 := fun c hc => by
  obtain ⟨i, hi, rfl⟩ := List.mem_map.mp hc
  exact fm_rng _
theorem mulok_add {A B : List Int} {o : Int} : ∀ c ∈ addL A B, IntMulOk c o := mulok_fm (zip_rng _)
theorem mulok_sub {A B : List Int} {o : Int} : ∀ c ∈ subL A B, IntMulOk c o := mulok_fm (zip_rng _)
theorem mulok_mul {A : List Int} {b o : Int} : ∀ c ∈ mulL b A, IntMulOk c o := mulok_fm (map_rng _)
theorem mulok_ntt {A zs : List Int} {o : Int} : ∀ c ∈ nttL zs A, IntMulOk c o := mulok_fm (map_rng fun x => x)
theorem mulok_r {ns : List Int} {c o : Int} (h : ∀ c ∈ ns, IntMulOk o c) (hc : c ∈ ns) : IntMulOk o c := h c hc
theorem len_eq {A B : List Int} (a : A.length = 256) (b : B.length = 256) : A.length = B.length := a.trans b.symm
theorem len_fits {A : List Int} (a : A.length = 256) : A.length ≤ sizeLine := by rw [a, sizeLine_eq]; decide
theorem mulok_a {ns : List Int} {c o : Int} (hc : c ∈ ns) (h : ∀ c ∈ ns, IntMulOk c o) : IntMulOk c o := h c hc
theorem mulok_b {ns : List Int} {c o : Int} (hc : c ∈ ns) (h : ∀ c ∈ ns, IntMulOk o c) : IntMulOk o c := h c hc

section
variable {w : World} {mean : ExcName → Option Value} {mg mb : Str → Option Value} {p : Program} {loose : List Str}
  {dp un : Nat} {gd : Option (List Code)} {cn : Str} {cs : Scope} {a : Addr} {ccd : Value} {cl : List (Str × Addr)} {outer : List Env} {A₀ : Around} {base h₀ : Heap} {L : Addr} {m : Str → Option Value} {s : Shared} {Q E : Value → Shared → Prop} {news : List (Addr × Obj)} {x dx r l1 : Addr} {h1 h2 : Int} {t1 t2 : Tok}
theorem isi_no (B : Below A₀ base outer h₀) (F : Fr h₀ L s.heap m) (X : (Mine.hd.heap_1 w.params).In h₀) (N : News h₀ L s.heap news) (T : Top p loose mean mg mb h₀) (hk : cs.kind = .function)
    (mx : (x, instObj 350 dx) ∈ news) (mdx : (dx, polyD h1 h2 t1 t2 r l1) ∈ news) (hd : dp + 16 < recursionLimit) (hu : un + 128 < cLine)
    (ret : ∀ (h' : Heap) (tk' : Nat), Fr h₀ L h' m → News h₀ L h' news → Q (.bool false) { s with heap := h', toks := tk' }) :
    wpAny (model PySem.Challenge.rw_yi0008_01.row.prog w) (ktrTop dp un gd cn cs L a ccd cl outer) (call (.builtin "isinstance") [.ref x, .ref 426]) Q E s := by
  revert X; k_fill; intro X
  obtain ⟨ck, cnm, cg, cco, cmo⟩ := cs
  cases hk
  k_steps
  exact ret _ _ (by k_asm) (by k_asm)
theorem isi_yes (B : Below A₀ base outer h₀) (F : Fr h₀ L s.heap m) (X : (Mine.hd.heap_1 w.params).In h₀) (N : News h₀ L s.heap news) (T : Top p loose mean mg mb h₀) (hk : cs.kind = .function)
    (mx : (x, instObj 426 dx) ∈ news) (mdx : (dx, polyD h1 h2 t1 t2 r l1) ∈ news) (hd : dp + 16 < recursionLimit) (hu : un + 128 < cLine)
    (ret : ∀ (h' : Heap) (tk' : Nat), Fr h₀ L h' m → News h₀ L h' news → Q (.bool true) { s with heap := h', toks := tk' }) :
    wpAny (model PySem.Challenge.rw_yi0008_01.row.prog w) (ktrTop dp un gd cn cs L a ccd cl outer) (call (.builtin "isinstance") [.ref x, .ref 426]) Q E s := by
  revert X; k_fill; intro X
  obtain ⟨ck, cnm, cg, cco, cmo⟩ := cs
  cases hk
  k_steps
  exact ret _ _ (by k_asm) (by k_asm)
end

section
local macro_rules | `(tactic| walk_at "exec Assign cons ListComp") => `(tactic| (k_here; (with_reducible show wpAny _ _ (exec (Stmt.Assign [_] (Expr.ListComp _ [Comprehension.mk (Expr.Tuple [_, _] _ _) _ [] _] _ _) _) _) _ _ _); k_dflt (refine Mine.Assign_ListComp_Z (by k_asm) (by rfl) (by with_unfolding_all rfl) (by with_unfolding_all rfl) (by decide) (by rfl) (by decide) (by rfl) (by rfl) (by decide) (by rfl) (by rfl) ?_ (by intro _; rfl))))
local macro_rules | `(tactic| walk_at "call type:zip") => `(tactic| (k_here; (with_reducible show wpAny _ _ (call (Value.type "zip") [Value.ref _, Value.ref _]) _ _ _); k_dflt (refine' Mine.zip_src _ ?k1 ?k2 ?k3 ?k4 ?k5 ?k6 ?k7 ?k8 ?k9 ?_ ?_; (case k1 => rfl); (case k2 => k_asm); (case k3 => k_asm); (case k4 => k_mem); (case k5 => k_mem); (case k6 => with_reducible assumption); (case k7 => with_reducible assumption); (case k8 => omega); (case k9 => (rw [PySem.sizeLine_eq]; omega)); rotate_left)))
local macro_rules | `(tactic| walk_at "ZTurn") => `(tactic| (unfold Mine.ZTurn; intro za zb zta ztb zC zD zoC zoD zown zm zh ztk zE zha zhb zhC zhx zhy zF zN; (try simp only [List.cons_append, List.nil_append] at zN); (try dsimp only); (try k_fold)))
local macro_rules | `(tactic| walk_at "ZFin") => `(tactic| (unfold Mine.ZFin; intro zD zh ztk zys zn zI zlen zF zN zlt; (try k_lt zlt); (try dsimp only)))
local macro_rules | `(tactic| walk_at "ZEnd") => `(tactic| (refine Mine.ZEnd.intro (by k_asm) (by k_asm) (by ((try simp only [List.cons_append, List.nil_append]); kcf_all)) ?zz; (case zz => rfl)))
local macro_rules | `(tactic| walk_at "call builtin:len") => `(tactic| (k_here; (with_reducible show wpAny _ _ (call (Value.builtin "len") [Value.ref _]) _ _ _); k_dflt (refine' kst_len ?k1 ?k2 ?k3 ?k4 ?_; (case k1 => k_asm); (case k2 => k_mem); (case k3 => exact IntsAre.length (by assumption)); (case k4 => omega); k_whole)))
section
variable {w : World} {mean : ExcName → Option Value} {mg mb : Str → Option Value} {p : Program} {loose : List Str}
  {dp un : Nat} {gd : Option (List Code)} {cn : Str} {cs : Scope} {a : Addr} {ccd : Value} {cl : List (Str × Addr)} {outer : List Env} {A₀ : Around} {base h₀ : Heap} {L : Addr} {m : Str → Option Value} {s : Shared} {Q E : Value → Shared → Prop} {news : List (Addr × Obj)}
  {x dx y dy r dr zl l1 l2 C : Addr} {h1 h2 h3 h4 h5 h6 h7 h8 : Int} {t1 t2 t3 t4 t5 t6 t7 t8 t9 t10 t11 : Tok} {vs us : List Value} {n1 n2 : Nat} {ns ks : List Int}
theorem add_list (B : Below A₀ base outer h₀) (F : Fr h₀ L s.heap m) (X : (Mine.hd.heap_1 w.params).In h₀) (N : News h₀ L s.heap news) (T : Top p loose mean mg mb h₀) (hk : cs.kind = .function)
    (hC : C = 350 ∨ C = 426)
    (mx : (x, instObj C dx) ∈ news) (mdx : (dx, polyD h1 h2 t1 t2 r l1) ∈ news) (ml : (l1, listOf vs.toArray n1) ∈ news)
    (my : (y, instObj C dy) ∈ news) (mdy : (dy, polyD h3 h4 t3 t4 r l2) ∈ news) (ml2 : (l2, listOf us.toArray n2) ∈ news)
    (mr : (r, instObj 282 dr) ∈ news) (mdr : (dr, ringD h5 h6 h7 h8 t5 t6 t7 t8 t9 t10 t11 zl) ∈ news)
    (I1 : IntsAre vs ns) (I2 : IntsAre us ks) (e1 : ns.length = 256) (e2 : ks.length = 256)
    (hd : dp + 8 < recursionLimit) (hu : un + 64 < cLine)
    (ret : ∀ (D : Addr) (h' : Heap) (tk' : Nat) (ys : List Value) (n : Nat), Fr h₀ L h' m → News h₀ L h' ((D, listOf ys.toArray n) :: news) → (∀ q ∈ news, q.1 < D) → IntsAre ys (addL ns ks) → (addL ns ks).length = 256 → Q (.ref D) { s with heap := h', toks := tk' }) :
    wpAny (model PySem.Challenge.rw_yi0008_01.row.prog w) (ktrTop dp un gd cn cs L a ccd cl outer) (call (.ref 132) [.ref x, .ref y]) Q E s := by
  revert X; k_fill; intro X
  obtain ⟨ck, cnm, cg, cco, cmo⟩ := cs
  cases hk
  rcases hC with rfl | rfl
  all_goals
    refine wpAny_call ?_
    k_dflt k_enter
    k_steps
    refine ret _ _ _ _ _ (by k_asm) (kst_newsOf (by k_asm) (by kcf_all)) (kst_ltOf (And.right (by assumption))) (by assumption) (by rw [List.length_zipWith]; omega)
theorem sub_list (B : Below A₀ base outer h₀) (F : Fr h₀ L s.heap m) (X : (Mine.hd.heap_1 w.params).In h₀) (N : News h₀ L s.heap news) (T : Top p loose mean mg mb h₀) (hk : cs.kind = .function)
    (hC : C = 350 ∨ C = 426)
    (mx : (x, instObj C dx) ∈ news) (mdx : (dx, polyD h1 h2 t1 t2 r l1) ∈ news) (ml : (l1, listOf vs.toArray n1) ∈ news)
    (my : (y, instObj C dy) ∈ news) (mdy : (dy, polyD h3 h4 t3 t4 r l2) ∈ news) (ml2 : (l2, listOf us.toArray n2) ∈ news)
    (mr : (r, instObj 282 dr) ∈ news) (mdr : (dr, ringD h5 h6 h7 h8 t5 t6 t7 t8 t9 t10 t11 zl) ∈ news)
    (I1 : IntsAre vs ns) (I2 : IntsAre us ks) (e1 : ns.length = 256) (e2 : ks.length = 256)
    (hd : dp + 8 < recursionLimit) (hu : un + 64 < cLine)
    (ret : ∀ (D : Addr) (h' : Heap) (tk' : Nat) (ys : List Value) (n : Nat), Fr h₀ L h' m → News h₀ L h' ((D, listOf ys.toArray n) :: news) → (∀ q ∈ news, q.1 < D) → IntsAre ys (subL ns ks) → (subL ns ks).length = 256 → Q (.ref D) { s with heap := h', toks := tk' }) :
    wpAny (model PySem.Challenge.rw_yi0008_01.row.prog w) (ktrTop dp un gd cn cs L a ccd cl outer) (call (.ref 158) [.ref x, .ref y]) Q E s := by
  revert X; k_fill; intro X
  obtain ⟨ck, cnm, cg, cco, cmo⟩ := cs
  cases hk
  rcases hC with rfl | rfl
  all_goals
    refine wpAny_call ?_
    k_dflt k_enter
    k_steps
    refine ret _ _ _ _ _ (by k_asm) (kst_newsOf (by k_asm) (by kcf_all)) (kst_ltOf (And.right (by assumption))) (by assumption) (by rw [List.length_zipWith]; omega)
end

section
variable {w : World} {mean : ExcName → Option Value} {mg mb : Str → Option Value} {p : Program} {loose : List Str}
  {dp un : Nat} {gd : Option (List Code)} {cn : Str} {cs : Scope} {a : Addr} {ccd : Value} {cl : List (Str × Addr)} {outer : List Env} {A₀ : Around} {base h₀ : Heap} {L : Addr} {m : Str → Option Value} {s : Shared} {Q E : Value → Shared → Prop} {news : List (Addr × Obj)}
  {x dx y dy r dr zl l1 l2 C : Addr} {h1 h2 h3 h4 h5 h6 h7 h8 : Int} {t1 t2 t3 t4 t5 t6 t7 t8 t9 t10 t11 : Tok} {vs us : List Value} {n1 n2 : Nat} {ns ks : List Int}
theorem ring_call (B : Below A₀ base outer h₀) (F : Fr h₀ L s.heap m) (X : (Mine.hd.heap_1 w.params).In h₀) (N : News h₀ L s.heap news) (T : Top p loose mean mg mb h₀) (hk : cs.kind = .function)
    (mr : (r, instObj 282 dr) ∈ news) (mdr : (dr, ringD h5 h6 h7 h8 t5 t6 t7 t8 t9 t10 t11 zl) ∈ news)
    (ml : (l1, listOf vs.toArray n1) ∈ news) (I1 : IntsAre vs ns) (e1 : ns.length = 256)
    (hd : dp + 8 < recursionLimit) (hu : un + 64 < cLine)
    (ret : ∀ (x dx : Addr) (h1 h2 : Int) (t1 t2 : Tok) (h' : Heap) (tk' : Nat), Fr h₀ L h' m → News h₀ L h' ((x, instObj 350 dx) :: (dx, polyD h1 h2 t1 t2 r l1) :: news) → (∀ q ∈ news, q.1 < dx) → dx < x → Q (.ref x) { s with heap := h', toks := tk' }) :
    wpAny (model PySem.Challenge.rw_yi0008_01.row.prog w) (ktrTop dp un gd cn cs L a ccd cl outer) (call (.ref r) [.ref l1]) Q E s := by
  revert X; k_fill; intro X
  obtain ⟨ck, cnm, cg, cco, cmo⟩ := cs
  cases hk
  k_steps
  exact ret _ _ _ _ _ _ _ _ (by k_asm) (by k_asm) (by assumption) (by assumption)
end

section
set_option hygiene false in
local macro_rules | `(tactic| walk_at "call ref") => `(tactic| (k_here; (with_reducible show wpAny _ _ (call (Value.ref _) [Value.ref _] []) _ _ _); k_dflt (o_head (Mine.ring_call, 1)); walk_at "q_d"))
local macro_rules | `(tactic| walk_at "callWith ref") => `(tactic| (k_here; (with_reducible show wpAny _ _ (callWith _ (Value.ref _) _ (backTo _ (starEach (_ :: _) _)) (backToKw _ (keywordEach (_ :: _) _))) _ _ _); k_dflt (refine' Mine.inst_callKW ?k1 ?k2 ?k3 ?k4 ?_ (by rfl) (by rfl); (case k1 => k_in); (case k2 => k_inst); (case k3 => rfl); (case k4 => exact rfl); k_whole)))
local macro_rules | `(tactic| walk_at "getMethod ref") => `(tactic| (k_here; (with_reducible show wpAny _ _ (getMethod (Value.ref _) (Str.ofString "parent") _) _ _ _); k_dflt (refine' kmu_own ?k1 ?k2 ?k3 ?k4 ?k5 ?_; (case k1 => k_asm); (case k2 => k_asm); (case k3 => k_inst); (case k4 => k_is); (case k5 => k_is); k_whole)))
section
local macro_rules | `(tactic| walk_at "exec While Compare cons nil") => `(tactic| (refine Mine.Stop.out ?_))
local macro_rules | `(tactic| walk_at "pyIter ref") => `(tactic| (refine Mine.Stop.out ?_))
local macro_rules | `(tactic| walk_at "my_same") => `(tactic| (first | (intro z hz h2 h3; (simp only [List.forall_mem_cons, List.not_mem_nil, false_implies, implies_true, and_true, ne_eq] at h2 hz); (have e3 := h3); (simp only [List.contains_cons, List.contains_nil, Bool.or_false, Bool.or_eq_false_iff, beq_eq_false_iff_ne, ne_eq] at e3); simp only [kstB, h2, e3, h3, hz, if_false, Bool.false_eq_true, ite_false]; done) | (intro z h2 h3; (simp only [List.forall_mem_cons, List.not_mem_nil, false_implies, implies_true, and_true, ne_eq] at h2); (have e3 := h3); (simp only [List.contains_cons, List.contains_nil, Bool.or_false, Bool.or_eq_false_iff, beq_eq_false_iff_ne, ne_eq] at e3); first | (simp only [kstB, h2, e3, h3, if_false, Bool.false_eq_true, ite_false]; done) | (simp [kstB, h2, e3]; done))))
local macro_rules | `(tactic| walk_at "InvEndN") => `(tactic| (refine Mine.Stop.out ?_))
local macro_rules | `(tactic| walk_at "KswEnd") => `(tactic| (refine Mine.Stop.out ?_))
section
variable {w : World} {mean : ExcName → Option Value} {mg mb : Str → Option Value} {p : Program} {loose : List Str}
  {dp un : Nat} {gd : Option (List Code)} {cn : Str} {cs : Scope} {a : Addr} {ccd : Value} {cl : List (Str × Addr)} {outer : List Env} {A₀ : Around} {base h₀ : Heap} {L : Addr} {m : Str → Option Value} {s : Shared} {Q E : Value → Shared → Prop} {rest : List (Addr × Obj)}
  {x dx y dy r dr zl lc C : Addr} {h1 h2 h3 h4 h5 h6 h7 h8 : Int} {t1 t2 t3 t4 t5 t6 t7 t8 t9 t10 t11 : Tok} {vs us zvs : List Value} {n1 n2 : Nat} {ns zs : List Int}
theorem to_ntt_core (B : Below A₀ base outer h₀) (F : Fr h₀ L s.heap m) (X : (Mine.hd.heap_1 w.params).In h₀) (N : News h₀ L s.heap ((lc, listOf vs.toArray n1) :: rest)) (T : Top p loose mean mg mb h₀) (hk : cs.kind = .function)
    (off : ∀ p ∈ rest, p.1 ≠ lc)
    (mx : (x, instObj 350 dx) ∈ rest) (mdx : (dx, polyD h1 h2 t1 t2 r lc) ∈ rest)
    (mr : (r, instObj 282 dr) ∈ rest) (mdr : (dr, ringD h5 h6 h7 h8 t5 t6 t7 t8 t9 t10 t11 zl) ∈ rest) (mz : (zl, listOf zvs.toArray n2) ∈ rest)
    (I1 : IntsAre vs ns) (e1 : ns.length = 256) (Iz : IntsAre zvs zs) (ez : zs.length = 128) (bz : ∀ z ∈ zs, 0 ≤ z ∧ z < 3329)
    (hd : dp + 16 < recursionLimit) (hu : un + 128 < cLine)
    (ret : ∀ (y dy : Addr) (h1 h2 : Int) (t1 t2 : Tok) (h' : Heap) (tk' : Nat) (us : List Value), Fr h₀ L h' m → News h₀ L h' ((y, instObj 426 dy) :: (dy, polyD h1 h2 t1 t2 r lc) :: (lc, listOf us.toArray n1) :: rest) → IntsAre us (nttL zs ns) → (∀ q ∈ rest, q.1 < dy) → dy < y → lc < dy → Q (.ref y) { s with heap := h', toks := tk' }) :
    wpAny (model PySem.Challenge.rw_yi0008_01.row.prog w) (ktrTop dp un gd cn cs L a ccd cl outer) (call (.ref 340) [.ref x]) Q E s := by
  revert X; k_fill; intro X
  obtain ⟨ck, cnm, cg, cco, cmo⟩ := cs
  cases hk
  refine wpAny_call ?_
  k_dflt k_enter
  k_steps
  (with_reducible rename Fr _ _ _ _ => Fw)
  (with_reducible rename News _ _ _ _ => Nw)
  show wpAny _ _ _ _ _ _
  refine ksw_while (σ := LS1) (fun c => (lc, listOf c.us.toArray n1) :: rest) (fun c => [(Str.ofString "k", .int c.k c.tk), (Str.ofString "l", .int c.l c.tl)]) (fun c => IntsAre c.us c.c)
    [Str.ofString "start", Str.ofString "zeta", Str.ofString "j", Str.ofString "t"] (fun c => ∃ i : Nat, i ≤ 7 ∧ c.k = 2 ^ i ∧ c.l = 2 ^ (7 - i) ∧ c.c = lays zs i ns) (fun c => c.l.toNat) ⟨1, _, 128, _, vs, ns⟩
    Fw (kst_newsOf Nw (by kcf_all)) I1 (by kst_all) ⟨0, by omega, rfl, rfl, rfl⟩ ?_
  clear Fw Nw
  rintro ⟨k, tk, l, tl, us, c⟩ u hh tkk hI ⟨i, hi, hk', hl', hc'⟩ Fr₁ Nw₁
  dsimp only at hI hk' hl' hc' Fr₁ Nw₁ ⊢
  have hlen : c.length = 256 := by rw [hc', lays_length, e1]
  by_cases hi7 : i < 7
  · obtain ⟨kb, p1, p2, p3, p4, p5, p6, p7, p8, p9⟩ := pw7 i hi7
    rw [p1] at hk'
    rw [← hl'] at p3 p4 p7 p8
    replace hl' := Hid.mk hl'
    replace p1 := Hid.mk p1
    replace p2 := Hid.mk p2
    replace p7 := Hid.mk p7
    replace p8 := Hid.mk p8
    replace p9 := Hid.mk p9
    k_steps
    (with_reducible rename Fr _ _ _ _ => Fw)
    (with_reducible rename News _ _ _ _ => Nw)
    show wpAny _ _ _ _ _ _
    refine ksw_while (σ := LS2) (fun c => (lc, listOf c.us.toArray n1) :: rest) (fun c => [(Str.ofString "k", .int c.k c.tk), (Str.ofString "start", .int c.st c.ts)]) (fun c => IntsAre c.us c.c)
      [Str.ofString "zeta", Str.ofString "j", Str.ofString "t"] (fun d => ∃ b : Nat, b ≤ kb ∧ d.k = kb + b ∧ d.st = 2 * l * b ∧ d.c = lay zs l kb b c) (fun c => (256 - c.st).toNat) ⟨k, _, 0, _, us, c⟩
      Fw (kst_newsOf Nw (by kcf_all)) hI (by kst_all) ⟨0, Nat.zero_le _, by rw [hk']; simp, by simp, rfl⟩ ?_
    clear Fw Nw
    rintro ⟨k', tk', st, ts, us', c'⟩ u' hh' tkk' hI' ⟨b, hb, hk2, hst, hc2⟩ Fr₂ Nw₂
    dsimp only at hI' hk2 hst hc2 Fr₂ Nw₂ ⊢
    have hlen' : c'.length = 256 := by rw [hc2, lay_length, hlen]
    obtain ⟨q1, q2, q3, q4, q5⟩ := inb (l := l) (b := (b : Int)) (k0 := (kb : Int)) (by omega) p7.out (by omega) (by omega)
    rw [← hst] at q1 q2 q3 q4 q5
    replace hst := Hid.mk hst
    by_cases hlt : st < 256
    · replace q3 := q3 hlt
      replace q4 := q4 q3
      replace q5 := Hid.mk q5
      obtain ⟨z1, z2⟩ := zs_bnd (k := k') bz (by omega) (by omega)
      k_steps
      generalize hze : zs.getD k'.toNat 0 = ze at *
      (with_reducible rename Fr _ _ _ _ => Fw)
      (with_reducible rename News _ _ _ _ => Nw)
      (with_reducible rename IsRange _ _ _ _ _ _ _ _ => Rg)
      show wpAny _ _ _ _ _ _
      refine rng (σ := LS3) (fun c => (lc, listOf c.us.toArray n1) :: rest) (fun d => [(Str.ofString "j", .int d.j d.tj)]) (fun d => IntsAre d.us d.c) [Str.ofString "t"]
        (fun pre d => (pre ≠ [] → d.j = st + pre.length - 1) ∧ d.c = pre.foldl (bf ze l) c') ⟨st, _, us', c'⟩ (by rfl) Rg (small_one (by omega) (by omega) (by omega) (by omega)) (rangeSize_nat _ _)
        Fw (kst_newsOf Nw (by kcf_all)) (by assumption) (by kst_all) ⟨fun h => absurd rfl h, rfl⟩ ?_ ?_
      · clear Fw Nw Rg
        rintro ⟨j, tj, us2, c2⟩ pre kk tt u2 hh2 tkk2 own hkk hpl hown hI2 ⟨hj, hc3⟩ Fr₃ Nw₃
        have hown' : ∀ p ∈ own, p.1 ≠ lc := fun p hp => hown p hp lc List.mem_cons_self
        dsimp only at hkk hpl hI2 hj hc3 Fr₃ Nw₃ ⊢
        simp only [List.cons_append] at Nw₃
        have hlen2 : c2.length = 256 := by rw [hc3, foldl_bf_length, hlen']
        k_steps
        (with_reducible rename Fr _ _ _ _ => Fw)
        (with_reducible rename News _ _ _ _ => Nw)
        (with_reducible rename IntsAre _ _ => Iw)
        exact kst_end (σ := LS3) ⟨kk, _, _, _⟩ Fw Nw (by kcf_all) (by kcf_all) (by rfl) Iw (by kst_all) (by walk_at "my_same") ⟨fun _ => by simp; omega, by rw [List.foldl_append, ← hc3]; rfl⟩
      · clear Fw Nw Rg
        rintro ⟨j, tj, us2, c2⟩ u2 hh2 tkk2 hI2 ⟨hj, hc3⟩ Fr₃ Nw₃
        dsimp only at hI2 hj hc3 Fr₃ Nw₃ ⊢
        have el : (st + l - st).toNat = l.toNat := by omega
        rw [el] at hj hc3
        have hj' : j = st + l - 1 := by
          rw [hj (by intro h; have := congrArg List.length h; rw [rangeKs_length] at this; simp at this; omega), rangeKs_length]
          omega
        k_steps
        (with_reducible rename Fr _ _ _ _ => Fw)
        (with_reducible rename News _ _ _ _ => Nw)
        refine ksw_end (σ := LS2) ⟨k' + 1, _, l + (j + 1), _, us2, c2⟩ Fw (kst_newsOf Nw (by kcf_all)) (fun _ hp => hp) hI2 (by kst_all) (by walk_at "my_same") ⟨b + 1, by omega, by (show k' + 1 = (kb : Int) + ((b + 1 : Nat) : Int)); omega, ?_, ?_⟩ (by (show (256 - (l + (j + 1))).toNat < (256 - st).toNat); omega)
        · show l + (j + 1) = 2 * l * ((b + 1 : Nat) : Int)
          rw [Int.natCast_succ, Int.mul_add, Int.mul_one, ← hst.out]
          omega
        · show c2 = _
          rw [lay_succ, ← hc2, ← hk2, hze, ← hst.out, hc3]
          rfl
    · have hbk : (b : Int) = kb := q5 hlt
      have hbk' : b = kb := by omega
      k_steps
      (with_reducible rename Fr _ _ _ _ => Fw)
      (with_reducible rename News _ _ _ _ => Nw)
      have e2 : l.fdiv 2 = 2 ^ (7 - (i + 1)) := by
        rw [p8.out, Int.mul_comm, Int.mul_fdiv_cancel _ (by decide)]
      refine ksw_end (σ := LS1) ⟨k', _, _, _, us', c'⟩ Fw (kst_newsOf Nw (by kcf_all)) (fun _ hp => hp) (by assumption) (by kst_all) (by walk_at "my_same") ⟨i + 1, by omega, ?_, ?_, ?_⟩ ?_
      · show k' = 2 ^ (i + 1)
        rw [p9.out]; omega
      · exact e2
      · show c' = lays zs (i + 1) ns
        rw [lays_succ, ← hc', ← hl'.out, p1.out, p2.out, hc2, hbk']
      · show (l.fdiv (2 ^ Int.toNat 1)).toNat < l.toNat
        have e3 : l.fdiv (2 ^ Int.toNat 1) = 2 ^ (7 - (i + 1)) := e2
        rw [e3]
        have e4 := p8.out
        generalize (2 : Int) ^ (7 - (i + 1)) = M at e4
        omega
  · have hi' : i = 7 := by omega
    have hl1 : l = 1 := by rw [hl', hi']; rfl
    subst hi'
    k_steps
    (with_reducible rename Fr _ _ _ _ => Fw)
    (with_reducible rename News _ _ _ _ => Nw)
    (with_reducible rename IsRange _ _ _ _ _ _ _ _ => Rg)
    show wpAny _ _ _ _ _ _
    refine rng (σ := LS4) (n := 256) (fun c => (lc, listOf c.us.toArray n1) :: rest) (fun d => []) (fun d => IntsAre d.us d.c) [] (fun pre d => d.c = pre.foldl (md (fun x => x.fmod 3329)) c) ⟨us, c⟩ (by rfl) Rg (by decide) (by decide)
      Fw (kst_newsOf Nw (by kcf_all)) (by assumption) (by kst_all) rfl ?_ ?_
    · clear Fw Nw Rg
      rintro ⟨us2, c2⟩ pre kk tt u2 hh2 tkk2 own hkk hpl hown hI2 hc3 Fr₃ Nw₃
      have hown' : ∀ p ∈ own, p.1 ≠ lc := fun p hp => hown p hp lc List.mem_cons_self
      dsimp only at hkk hpl hI2 hc3 Fr₃ Nw₃ ⊢
      simp only [List.cons_append] at Nw₃
      have hlen2 : c2.length = 256 := by rw [hc3, foldl_md_length, hlen]
      k_steps
      (with_reducible rename Fr _ _ _ _ => Fw)
      (with_reducible rename News _ _ _ _ => Nw)
      (with_reducible rename IntsAre _ _ => Iw)
      exact kst_end (σ := LS4) ⟨_, _⟩ Fw Nw (by kcf_all) (by kcf_all) (by rfl) Iw (by kst_all) (by walk_at "my_same") (by show _ = _; rw [List.foldl_append, ← hc3]; rfl)
    · clear Fw Nw Rg
      rintro ⟨us2, c2⟩ u2 hh2 tkk2 hI2 hc3 Fr₃ Nw₃
      dsimp only at hI2 hc3 Fr₃ Nw₃ ⊢
      rw [foldl_md_all _ hlen] at hc3
      have hlen2 : c2.length = 256 := by rw [hc3, List.length_map, hlen]
      k_steps
      rw [hc3, hc'] at hI2
      exact ret _ _ _ _ _ _ _ _ _ (by k_asm) (kst_newsOf (by k_asm) (by kcf_all)) hI2 (kst_ltOf (And.right (by assumption))) (by assumption) (And.left (by assumption))
end

section
variable {w : World} {mean : ExcName → Option Value} {mg mb : Str → Option Value} {p : Program} {loose : List Str}
  {dp un : Nat} {gd : Option (List Code)} {cn : Str} {cs : Scope} {a : Addr} {ccd : Value} {cl : List (Str × Addr)} {outer : List Env} {A₀ : Around} {base h₀ : Heap} {L : Addr} {m : Str → Option Value} {s : Shared} {Q E : Value → Shared → Prop} {rest : List (Addr × Obj)}
  {x dx y dy r dr zl lc C : Addr} {h1 h2 h3 h4 h5 h6 h7 h8 : Int} {t1 t2 t3 t4 t5 t6 t7 t8 t9 t10 t11 : Tok} {vs us zvs : List Value} {n1 n2 : Nat} {ns zs : List Int}
theorem from_ntt_core (B : Below A₀ base outer h₀) (F : Fr h₀ L s.heap m) (X : (Mine.hd.heap_1 w.params).In h₀) (N : News h₀ L s.heap ((lc, listOf vs.toArray n1) :: rest)) (T : Top p loose mean mg mb h₀) (hk : cs.kind = .function)
    (off : ∀ p ∈ rest, p.1 ≠ lc)
    (mx : (x, instObj 426 dx) ∈ rest) (mdx : (dx, polyD h1 h2 t1 t2 r lc) ∈ rest)
    (mr : (r, instObj 282 dr) ∈ rest) (mdr : (dr, ringD h5 h6 h7 h8 t5 t6 t7 t8 t9 t10 t11 zl) ∈ rest) (mz : (zl, listOf zvs.toArray n2) ∈ rest)
    (I1 : IntsAre vs ns) (e1 : ns.length = 256) (Iz : IntsAre zvs zs) (ez : zs.length = 128) (bz : ∀ z ∈ zs, 0 ≤ z ∧ z < 3329)
    (hd : dp + 16 < recursionLimit) (hu : un + 128 < cLine)
    (ret : ∀ (y dy : Addr) (h1 h2 : Int) (t1 t2 : Tok) (h' : Heap) (tk' : Nat) (us : List Value), Fr h₀ L h' m → News h₀ L h' ((y, instObj 350 dy) :: (dy, polyD h1 h2 t1 t2 r lc) :: (lc, listOf us.toArray n1) :: rest) → IntsAre us (inttL zs ns) → (∀ q ∈ rest, q.1 < dy) → dy < y → lc < dy → Q (.ref y) { s with heap := h', toks := tk' }) :
    wpAny (model PySem.Challenge.rw_yi0008_01.row.prog w) (ktrTop dp un gd cn cs L a ccd cl outer) (call (.ref 380) [.ref x]) Q E s := by
  revert X; k_fill; intro X
  obtain ⟨ck, cnm, cg, cco, cmo⟩ := cs
  cases hk
  refine wpAny_call ?_
  k_dflt k_enter
  k_steps
  (with_reducible rename Fr _ _ _ _ => Fw)
  (with_reducible rename News _ _ _ _ => Nw)
  show wpAny _ _ _ _ _ _
  refine ksw_while (σ := LS1) (fun c => (lc, listOf c.us.toArray n1) :: rest) (fun c => [(Str.ofString "k", .int c.k c.tk), (Str.ofString "l", .int c.l c.tl)]) (fun c => IntsAre c.us c.c)
    [Str.ofString "start", Str.ofString "zeta", Str.ofString "j", Str.ofString "t"] (fun c => ∃ i : Nat, i ≤ 7 ∧ c.k = 2 ^ (7 - i) - 1 ∧ c.l = 2 ^ (i + 1) ∧ c.c = laysI zs i ns) (fun c => (256 - c.l).toNat) ⟨128 - 1, _, 2, _, vs, ns⟩
    Fw (kst_newsOf Nw (by kcf_all)) I1 (by kst_all) ⟨0, by omega, rfl, rfl, rfl⟩ ?_
  clear Fw Nw
  rintro ⟨k, tk, l, tl, us, c⟩ u hh tkk hI ⟨i, hi, hk', hl', hc'⟩ Fr₁ Nw₁
  dsimp only at hI hk' hl' hc' Fr₁ Nw₁ ⊢
  have hlen : c.length = 256 := by rw [hc', laysI_length, e1]
  by_cases hi7 : i < 7
  · obtain ⟨kb, p1, p3, p4, p5, p6, p7, p8, p9, p10⟩ := pw7I i hi7
    rw [p9] at hk'
    rw [← hl'] at p3 p4 p7 p8
    replace hl' := Hid.mk hl'
    replace p1 := Hid.mk p1
    replace p7 := Hid.mk p7
    replace p8 := Hid.mk p8
    replace p9 := Hid.mk p9
    replace p10 := Hid.mk p10
    k_steps
    (with_reducible rename Fr _ _ _ _ => Fw)
    (with_reducible rename News _ _ _ _ => Nw)
    show wpAny _ _ _ _ _ _
    refine ksw_while (σ := LS2) (fun c => (lc, listOf c.us.toArray n1) :: rest) (fun c => [(Str.ofString "k", .int c.k c.tk), (Str.ofString "start", .int c.st c.ts)]) (fun c => IntsAre c.us c.c)
      [Str.ofString "zeta", Str.ofString "j", Str.ofString "t"] (fun d => ∃ b : Nat, b ≤ kb ∧ d.k = k - b ∧ d.st = 2 * l * b ∧ d.c = layI zs l k b c) (fun c => (256 - c.st).toNat) ⟨k, _, 0, _, us, c⟩
      Fw (kst_newsOf Nw (by kcf_all)) hI (by kst_all) ⟨0, Nat.zero_le _, by simp, by simp, rfl⟩ ?_
    clear Fw Nw
    rintro ⟨k', tk', st, ts, us', c'⟩ u' hh' tkk' hI' ⟨b, hb, hk2, hst, hc2⟩ Fr₂ Nw₂
    dsimp only at hI' hk2 hst hc2 Fr₂ Nw₂ ⊢
    have hlen' : c'.length = 256 := by rw [hc2, layI_length, hlen]
    obtain ⟨q1, q2, q3, q4, q5⟩ := inb (l := l) (b := (b : Int)) (k0 := (kb : Int)) (by omega) p7.out (by omega) (by omega)
    rw [← hst] at q1 q2 q3 q4 q5
    replace hst := Hid.mk hst
    by_cases hlt : st < 256
    · replace q3 := q3 hlt
      replace q4 := q4 q3
      replace q5 := Hid.mk q5
      obtain ⟨z1, z2⟩ := zs_bnd (k := k') bz (by omega) (by omega)
      k_steps
      generalize hze : zs.getD k'.toNat 0 = ze at *
      (with_reducible rename Fr _ _ _ _ => Fw)
      (with_reducible rename News _ _ _ _ => Nw)
      (with_reducible rename IsRange _ _ _ _ _ _ _ _ => Rg)
      show wpAny _ _ _ _ _ _
      refine rng (σ := LS3) (fun c => (lc, listOf c.us.toArray n1) :: rest) (fun d => [(Str.ofString "j", .int d.j d.tj)]) (fun d => IntsAre d.us d.c) [Str.ofString "t"]
        (fun pre d => (pre ≠ [] → d.j = st + pre.length - 1) ∧ d.c = pre.foldl (bi ze l) c') ⟨st, _, us', c'⟩ (by rfl) Rg (small_one (by omega) (by omega) (by omega) (by omega)) (rangeSize_nat _ _)
        Fw (kst_newsOf Nw (by kcf_all)) (by assumption) (by kst_all) ⟨fun h => absurd rfl h, rfl⟩ ?_ ?_
      · clear Fw Nw Rg
        rintro ⟨j, tj, us2, c2⟩ pre kk tt u2 hh2 tkk2 own hkk hpl hown hI2 ⟨hj, hc3⟩ Fr₃ Nw₃
        have hown' : ∀ p ∈ own, p.1 ≠ lc := fun p hp => hown p hp lc List.mem_cons_self
        dsimp only at hkk hpl hI2 hj hc3 Fr₃ Nw₃ ⊢
        simp only [List.cons_append] at Nw₃
        have hlen2 : c2.length = 256 := by rw [hc3, foldl_bi_length, hlen']
        k_steps
        (with_reducible rename Fr _ _ _ _ => Fw)
        (with_reducible rename News _ _ _ _ => Nw)
        (with_reducible rename IntsAre _ _ => Iw)
        exact kst_end (σ := LS3) ⟨kk, _, _, _⟩ Fw Nw (by kcf_all) (by kcf_all) (by rfl) Iw (by kst_all) (by walk_at "my_same") ⟨fun _ => by simp; omega, by rw [List.foldl_append, ← hc3]; rfl⟩
      · clear Fw Nw Rg
        rintro ⟨j, tj, us2, c2⟩ u2 hh2 tkk2 hI2 ⟨hj, hc3⟩ Fr₃ Nw₃
        dsimp only at hI2 hj hc3 Fr₃ Nw₃ ⊢
        have el : (st + l - st).toNat = l.toNat := by omega
        rw [el] at hj hc3
        have hj' : j = st + l - 1 := by
          rw [hj (by intro h; have := congrArg List.length h; rw [rangeKs_length] at this; simp at this; omega), rangeKs_length]
          omega
        k_steps
        (with_reducible rename Fr _ _ _ _ => Fw)
        (with_reducible rename News _ _ _ _ => Nw)
        refine ksw_end (σ := LS2) ⟨k' - 1, _, j + l + 1, _, us2, c2⟩ Fw (kst_newsOf Nw (by kcf_all)) (fun _ hp => hp) hI2 (by kst_all) (by walk_at "my_same") ⟨b + 1, by omega, by (show k' - 1 = k - ((b + 1 : Nat) : Int)); omega, ?_, ?_⟩ (by (show (256 - (j + l + 1)).toNat < (256 - st).toNat); omega)
        · show j + l + 1 = 2 * l * ((b + 1 : Nat) : Int)
          rw [Int.natCast_succ, Int.mul_add, Int.mul_one, ← hst.out]
          omega
        · show c2 = _
          rw [layI_succ, ← hc2, ← hk2, hze, ← hst.out, hc3]
          rfl
    · have hbk : (b : Int) = kb := q5 hlt
      have hbk' : b = kb := by omega
      k_steps
      (with_reducible rename Fr _ _ _ _ => Fw)
      (with_reducible rename News _ _ _ _ => Nw)
      refine ksw_end (σ := LS1) ⟨k', _, _, _, us', c'⟩ Fw (kst_newsOf Nw (by kcf_all)) (fun _ hp => hp) (by assumption) (by kst_all) (by walk_at "my_same") ⟨i + 1, by omega, ?_, ?_, ?_⟩ ?_
      · show k' = 2 ^ (7 - (i + 1)) - 1
        rw [p10.out]; omega
      · exact p8.out.symm
      · show c' = laysI zs (i + 1) ns
        rw [laysI_succ, ← hc', ← hl'.out, p9.out, ← hk', p1.out, hc2, hbk']
      · show (256 - l * 2 ^ Int.toNat 1).toNat < (256 - l).toNat
        have e3 : (2 : Int) ^ Int.toNat 1 = 2 := rfl
        rw [e3]
        omega
  · have hi' : i = 7 := by omega
    have hl1 : l = 256 := by rw [hl', hi']; rfl
    subst hi'
    k_steps
    (with_reducible rename Fr _ _ _ _ => Fw)
    (with_reducible rename News _ _ _ _ => Nw)
    (with_reducible rename IsRange _ _ _ _ _ _ _ _ => Rg)
    show wpAny _ _ _ _ _ _
    refine rng (σ := LS4) (n := 256) (fun c => (lc, listOf c.us.toArray n1) :: rest) (fun d => []) (fun d => IntsAre d.us d.c) [] (fun pre d => d.c = pre.foldl (md (fun x => (x * 3303).fmod 3329)) c) ⟨us, c⟩ (by rfl) Rg (by decide) (by decide)
      Fw (kst_newsOf Nw (by kcf_all)) (by assumption) (by kst_all) rfl ?_ ?_
    · clear Fw Nw Rg
      rintro ⟨us2, c2⟩ pre kk tt u2 hh2 tkk2 own hkk hpl hown hI2 hc3 Fr₃ Nw₃
      have hown' : ∀ p ∈ own, p.1 ≠ lc := fun p hp => hown p hp lc List.mem_cons_self
      dsimp only at hkk hpl hI2 hc3 Fr₃ Nw₃ ⊢
      simp only [List.cons_append] at Nw₃
      have hlen2 : c2.length = 256 := by rw [hc3, foldl_md_length, hlen]
      k_steps
      (with_reducible rename Fr _ _ _ _ => Fw)
      (with_reducible rename News _ _ _ _ => Nw)
      (with_reducible rename IntsAre _ _ => Iw)
      exact kst_end (σ := LS4) ⟨_, _⟩ Fw Nw (by kcf_all) (by kcf_all) (by rfl) Iw (by kst_all) (by walk_at "my_same") (by show _ = _; rw [List.foldl_append, ← hc3]; rfl)
    · clear Fw Nw Rg
      rintro ⟨us2, c2⟩ u2 hh2 tkk2 hI2 hc3 Fr₃ Nw₃
      dsimp only at hI2 hc3 Fr₃ Nw₃ ⊢
      rw [foldl_md_all _ hlen] at hc3
      have hlen2 : c2.length = 256 := by rw [hc3, List.length_map, hlen]
      k_steps
      rw [hc3, hc'] at hI2
      exact ret _ _ _ _ _ _ _ _ _ (by k_asm) (kst_newsOf (by k_asm) (by kcf_all)) hI2 (kst_ltOf (And.right (by assumption))) (by assumption) (And.left (by assumption))
end

end
section
set_option hygiene false in
local macro_rules | `(tactic| walk_at "call ref") => `(tactic| (k_here; o_head (132, 50); k_dflt (o_head (Mine.add_list, 2)); intro ax ah atk ays an aF aN al1 aI aL; (try k_lt al1); (try dsimp only)))
set_option hygiene false in
local macro_rules | `(tactic| walk_at "call ref") => `(tactic| (k_here; o_head (158, 50); k_dflt (o_head (Mine.sub_list, 2)); intro ax ah atk ays an aF aN al1 aI aL; (try k_lt al1); (try dsimp only)))
section
variable {w : World} {mean : ExcName → Option Value} {mg mb : Str → Option Value} {p : Program} {loose : List Str}
  {dp un : Nat} {gd : Option (List Code)} {cn : Str} {cs : Scope} {a : Addr} {ccd : Value} {cl : List (Str × Addr)} {outer : List Env} {A₀ : Around} {base h₀ : Heap} {L : Addr} {m : Str → Option Value} {s : Shared} {Q E : Value → Shared → Prop} {news : List (Addr × Obj)}
  {x dx y dy r dr zl l1 l2 C : Addr} {h1 h2 h3 h4 h5 h6 h7 h8 : Int} {t1 t2 t3 t4 t5 t6 t7 t8 t9 t10 t11 : Tok} {vs us : List Value} {n1 n2 : Nat} {ns ks : List Int} {o : Int} {ot : Tok}
theorem add_P (B : Below A₀ base outer h₀) (F : Fr h₀ L s.heap m) (X : (Mine.hd.heap_1 w.params).In h₀) (N : News h₀ L s.heap news) (T : Top p loose mean mg mb h₀) (hk : cs.kind = .function)
    (mx : (x, instObj 350 dx) ∈ news) (mdx : (dx, polyD h1 h2 t1 t2 r l1) ∈ news) (ml : (l1, listOf vs.toArray n1) ∈ news)
    (my : (y, instObj 350 dy) ∈ news) (mdy : (dy, polyD h3 h4 t3 t4 r l2) ∈ news) (ml2 : (l2, listOf us.toArray n2) ∈ news)
    (mr : (r, instObj 282 dr) ∈ news) (mdr : (dr, ringD h5 h6 h7 h8 t5 t6 t7 t8 t9 t10 t11 zl) ∈ news)
    (I1 : IntsAre vs ns) (I2 : IntsAre us ks) (e1 : ns.length = 256) (e2 : ks.length = 256)
    (hd : dp + 32 < recursionLimit) (hu : un + 256 < cLine)
    (ret : ∀ (z dz l : Addr) (h1 h2 : Int) (t1 t2 : Tok) (h' : Heap) (tk' : Nat) (ys : List Value) (n : Nat), Fr h₀ L h' m → News h₀ L h' ((z, instObj 350 dz) :: (dz, polyD h1 h2 t1 t2 r l) :: (l, listOf ys.toArray n) :: news) → (∀ q ∈ news, q.1 < l) → l < dz → dz < z → IntsAre ys (addL ns ks) → (addL ns ks).length = 256 → Q (.ref z) { s with heap := h', toks := tk' }) :
    wpAny (model PySem.Challenge.rw_yi0008_01.row.prog w) (ktrTop dp un gd cn cs L a ccd cl outer) (call (.ref 139) [.ref x, .ref y]) Q E s := by
  revert X; k_fill; intro X
  obtain ⟨ck, cnm, cg, cco, cmo⟩ := cs
  cases hk
  refine wpAny_call ?_
  k_dflt k_enter
  k_steps
  exact ret _ _ _ _ _ _ _ _ _ _ _ (by k_asm) (kst_newsOf (by k_asm) (by kcf_all)) (by first | assumption | exact kst_ltOf (by assumption) | exact kst_ltOf (And.right (by assumption)) | exact kst_ltOf (And.right (And.right (by assumption)))) (And.left (by assumption)) (by assumption) (by assumption) (by assumption)
theorem add_N (B : Below A₀ base outer h₀) (F : Fr h₀ L s.heap m) (X : (Mine.hd.heap_1 w.params).In h₀) (N : News h₀ L s.heap news) (T : Top p loose mean mg mb h₀) (hk : cs.kind = .function)
    (mx : (x, instObj 426 dx) ∈ news) (mdx : (dx, polyD h1 h2 t1 t2 r l1) ∈ news) (ml : (l1, listOf vs.toArray n1) ∈ news)
    (my : (y, instObj 426 dy) ∈ news) (mdy : (dy, polyD h3 h4 t3 t4 r l2) ∈ news) (ml2 : (l2, listOf us.toArray n2) ∈ news)
    (mr : (r, instObj 282 dr) ∈ news) (mdr : (dr, ringD h5 h6 h7 h8 t5 t6 t7 t8 t9 t10 t11 zl) ∈ news)
    (I1 : IntsAre vs ns) (I2 : IntsAre us ks) (e1 : ns.length = 256) (e2 : ks.length = 256)
    (hd : dp + 32 < recursionLimit) (hu : un + 256 < cLine)
    (ret : ∀ (z dz l : Addr) (h1 h2 : Int) (t1 t2 : Tok) (h' : Heap) (tk' : Nat) (ys : List Value) (n : Nat), Fr h₀ L h' m → News h₀ L h' ((z, instObj 426 dz) :: (dz, polyD h1 h2 t1 t2 r l) :: (l, listOf ys.toArray n) :: news) → (∀ q ∈ news, q.1 < l) → l < dz → dz < z → IntsAre ys (addL ns ks) → (addL ns ks).length = 256 → Q (.ref z) { s with heap := h', toks := tk' }) :
    wpAny (model PySem.Challenge.rw_yi0008_01.row.prog w) (ktrTop dp un gd cn cs L a ccd cl outer) (call (.ref 411) [.ref x, .ref y]) Q E s := by
  revert X; k_fill; intro X
  obtain ⟨ck, cnm, cg, cco, cmo⟩ := cs
  cases hk
  refine wpAny_call ?_
  k_dflt k_enter
  k_steps
  exact ret _ _ _ _ _ _ _ _ _ _ _ (by k_asm) (kst_newsOf (by k_asm) (by kcf_all)) (by first | assumption | exact kst_ltOf (by assumption) | exact kst_ltOf (And.right (by assumption)) | exact kst_ltOf (And.right (And.right (by assumption)))) (And.left (by assumption)) (by assumption) (by assumption) (by assumption)
theorem sub_P (B : Below A₀ base outer h₀) (F : Fr h₀ L s.heap m) (X : (Mine.hd.heap_1 w.params).In h₀) (N : News h₀ L s.heap news) (T : Top p loose mean mg mb h₀) (hk : cs.kind = .function)
    (mx : (x, instObj 350 dx) ∈ news) (mdx : (dx, polyD h1 h2 t1 t2 r l1) ∈ news) (ml : (l1, listOf vs.toArray n1) ∈ news)
    (my : (y, instObj 350 dy) ∈ news) (mdy : (dy, polyD h3 h4 t3 t4 r l2) ∈ news) (ml2 : (l2, listOf us.toArray n2) ∈ news)
    (mr : (r, instObj 282 dr) ∈ news) (mdr : (dr, ringD h5 h6 h7 h8 t5 t6 t7 t8 t9 t10 t11 zl) ∈ news)
    (I1 : IntsAre vs ns) (I2 : IntsAre us ks) (e1 : ns.length = 256) (e2 : ks.length = 256)
    (hd : dp + 32 < recursionLimit) (hu : un + 256 < cLine)
    (ret : ∀ (z dz l : Addr) (h1 h2 : Int) (t1 t2 : Tok) (h' : Heap) (tk' : Nat) (ys : List Value) (n : Nat), Fr h₀ L h' m → News h₀ L h' ((z, instObj 350 dz) :: (dz, polyD h1 h2 t1 t2 r l) :: (l, listOf ys.toArray n) :: news) → (∀ q ∈ news, q.1 < l) → l < dz → dz < z → IntsAre ys (subL ns ks) → (subL ns ks).length = 256 → Q (.ref z) { s with heap := h', toks := tk' }) :
    wpAny (model PySem.Challenge.rw_yi0008_01.row.prog w) (ktrTop dp un gd cn cs L a ccd cl outer) (call (.ref 165) [.ref x, .ref y]) Q E s := by
  revert X; k_fill; intro X
  obtain ⟨ck, cnm, cg, cco, cmo⟩ := cs
  cases hk
  refine wpAny_call ?_
  k_dflt k_enter
  k_steps
  exact ret _ _ _ _ _ _ _ _ _ _ _ (by k_asm) (kst_newsOf (by k_asm) (by kcf_all)) (by first | assumption | exact kst_ltOf (by assumption) | exact kst_ltOf (And.right (by assumption)) | exact kst_ltOf (And.right (And.right (by assumption)))) (And.left (by assumption)) (by assumption) (by assumption) (by assumption)
theorem sub_N (B : Below A₀ base outer h₀) (F : Fr h₀ L s.heap m) (X : (Mine.hd.heap_1 w.params).In h₀) (N : News h₀ L s.heap news) (T : Top p loose mean mg mb h₀) (hk : cs.kind = .function)
    (mx : (x, instObj 426 dx) ∈ news) (mdx : (dx, polyD h1 h2 t1 t2 r l1) ∈ news) (ml : (l1, listOf vs.toArray n1) ∈ news)
    (my : (y, instObj 426 dy) ∈ news) (mdy : (dy, polyD h3 h4 t3 t4 r l2) ∈ news) (ml2 : (l2, listOf us.toArray n2) ∈ news)
    (mr : (r, instObj 282 dr) ∈ news) (mdr : (dr, ringD h5 h6 h7 h8 t5 t6 t7 t8 t9 t10 t11 zl) ∈ news)
    (I1 : IntsAre vs ns) (I2 : IntsAre us ks) (e1 : ns.length = 256) (e2 : ks.length = 256)
    (hd : dp + 32 < recursionLimit) (hu : un + 256 < cLine)
    (ret : ∀ (z dz l : Addr) (h1 h2 : Int) (t1 t2 : Tok) (h' : Heap) (tk' : Nat) (ys : List Value) (n : Nat), Fr h₀ L h' m → News h₀ L h' ((z, instObj 426 dz) :: (dz, polyD h1 h2 t1 t2 r l) :: (l, listOf ys.toArray n) :: news) → (∀ q ∈ news, q.1 < l) → l < dz → dz < z → IntsAre ys (subL ns ks) → (subL ns ks).length = 256 → Q (.ref z) { s with heap := h', toks := tk' }) :
    wpAny (model PySem.Challenge.rw_yi0008_01.row.prog w) (ktrTop dp un gd cn cs L a ccd cl outer) (call (.ref 418) [.ref x, .ref y]) Q E s := by
  revert X; k_fill; intro X
  obtain ⟨ck, cnm, cg, cco, cmo⟩ := cs
  cases hk
  refine wpAny_call ?_
  k_dflt k_enter
  k_steps
  exact ret _ _ _ _ _ _ _ _ _ _ _ (by k_asm) (kst_newsOf (by k_asm) (by kcf_all)) (by first | assumption | exact kst_ltOf (by assumption) | exact kst_ltOf (And.right (by assumption)) | exact kst_ltOf (And.right (And.right (by assumption)))) (And.left (by assumption)) (by assumption) (by assumption) (by assumption)
end

section
local macro_rules | `(tactic| walk_at "exec Assign cons ListComp") => `(tactic| (k_here; (with_reducible show wpAny _ _ (exec (Stmt.Assign [_] (Expr.ListComp _ [Comprehension.mk (Expr.Name _ _) (Expr.Attribute _ _ _) [] _] _ _) _) _) _ _ _); k_dflt (refine Mine.Assign_ListComp_M (by k_asm) (by rfl) (by with_unfolding_all rfl) (by with_unfolding_all rfl) (by decide) (by rfl) (by decide) (by rfl) (by rfl) (by rfl) ?_ (by intro _; rfl))))
local macro_rules | `(tactic| walk_at "exec Assign cons ListComp") => `(tactic| (k_here; (with_reducible show wpAny _ _ (exec (Stmt.Assign [_] (Expr.ListComp _ [Comprehension.mk (Expr.Name _ _) (Expr.Name _ _) [] _] _ _) _) _) _ _ _); k_dflt (refine Mine.Assign_ListComp_M (by k_asm) (by rfl) (by with_unfolding_all rfl) (by with_unfolding_all rfl) (by decide) (by rfl) (by decide) (by rfl) (by rfl) (by rfl) ?_ (by intro _; rfl))))
local macro_rules | `(tactic| walk_at "MSrc") => `(tactic| (k_here; k_dflt (refine' Mine.msrc _ ?k1 ?k2 ?k3 ?k4 ?k6 ?k9 ?_ ?_; (case k1 => rfl); (case k2 => k_asm); (case k3 => k_asm); (case k4 => k_mem); (case k6 => with_reducible assumption); (case k9 => (rw [PySem.sizeLine_eq]; omega)); rotate_left)))
local macro_rules | `(tactic| walk_at "MTurn") => `(tactic| (unfold Mine.MTurn; intro za zta zC zD zoC zoD zown zm zh ztk zE zha zhC zhx zF zN; (try simp only [List.cons_append, List.nil_append] at zN); (try dsimp only); (try k_fold)))
local macro_rules | `(tactic| walk_at "MFin") => `(tactic| (unfold Mine.MFin; intro zD zh ztk zys zn zI zlen zF zN zlt; (try k_lt zlt); (try dsimp only)))
local macro_rules | `(tactic| walk_at "binaryOp Mult int int") => `(tactic| (with_reducible refine PyProof.Rows.mul_int ?_ (Mine.mulok_of (by assumption) (by assumption))))
local macro_rules | `(tactic| walk_at "getMethod ref") => `(tactic| (k_here; (with_reducible show wpAny _ _ (getMethod (Value.ref _) (PySem.Str.ofString "copy") _) _ _ _); k_dflt (refine' kl_method ?N ?m PySem.F.slot_list_copy PySem.F.type_list_copy ?_; (case N => k_asm); (case m => k_mem))))
local macro_rules | `(tactic| walk_at "call builtin:list.copy") => `(tactic| (k_here; (with_reducible show wpAny _ _ (call (Value.builtin _) [Value.ref _]) _ _ _); k_dflt (refine' Mine.copy_led ?k1 ?k2 ?k3 ?k4 ?k5 ?_; (case k1 => k_asm); (case k2 => k_asm); (case k3 => k_mem); (case k4 => with_reducible assumption); (case k5 => with_reducible assumption); k_whole); intro cD ch cF cN cl1; (try k_lt cl1)))
section
variable {w : World} {mean : ExcName → Option Value} {mg mb : Str → Option Value} {p : Program} {loose : List Str}
  {dp un : Nat} {gd : Option (List Code)} {cn : Str} {cs : Scope} {a : Addr} {ccd : Value} {cl : List (Str × Addr)} {outer : List Env} {A₀ : Around} {base h₀ : Heap} {L : Addr} {m : Str → Option Value} {s : Shared} {Q E : Value → Shared → Prop} {news : List (Addr × Obj)}
  {x dx y dy r dr zl l1 l2 C : Addr} {h1 h2 h3 h4 h5 h6 h7 h8 : Int} {t1 t2 t3 t4 t5 t6 t7 t8 t9 t10 t11 : Tok} {vs us : List Value} {n1 n2 : Nat} {ns ks : List Int} {o : Int} {ot : Tok}
theorem mul_P (B : Below A₀ base outer h₀) (F : Fr h₀ L s.heap m) (X : (Mine.hd.heap_1 w.params).In h₀) (N : News h₀ L s.heap news) (T : Top p loose mean mg mb h₀) (hk : cs.kind = .function)
    (mx : (x, instObj 350 dx) ∈ news) (mdx : (dx, polyD h1 h2 t1 t2 r l1) ∈ news) (ml : (l1, listOf vs.toArray n1) ∈ news)
    (mr : (r, instObj 282 dr) ∈ news) (mdr : (dr, ringD h5 h6 h7 h8 t5 t6 t7 t8 t9 t10 t11 zl) ∈ news)
    (I1 : IntsAre vs ns) (e1 : ns.length = 256) (hm : ∀ c ∈ ns, IntMulOk c o)
    (hd : dp + 32 < recursionLimit) (hu : un + 256 < cLine)
    (ret : ∀ (z dz l : Addr) (h1 h2 : Int) (t1 t2 : Tok) (h' : Heap) (tk' : Nat) (ys : List Value) (n : Nat), Fr h₀ L h' m → News h₀ L h' ((z, instObj 350 dz) :: (dz, polyD h1 h2 t1 t2 r l) :: (l, listOf ys.toArray n) :: news) → (∀ q ∈ news, q.1 < l) → l < dz → dz < z → IntsAre ys (mulL o ns) → (mulL o ns).length = 256 → Q (.ref z) { s with heap := h', toks := tk' }) :
    wpAny (model PySem.Challenge.rw_yi0008_01.row.prog w) (ktrTop dp un gd cn cs L a ccd cl outer) (call (.ref 184) [.ref x, .int o ot]) Q E s := by
  revert X; k_fill; intro X
  obtain ⟨ck, cnm, cg, cco, cmo⟩ := cs
  cases hk
  refine wpAny_call ?_
  k_dflt k_enter
  k_steps
  exact ret _ _ _ _ _ _ _ _ _ _ _ (by k_asm) (kst_newsOf (by k_asm) (by kcf_all)) (by first | assumption | exact kst_ltOf (by assumption) | exact kst_ltOf (And.right (by assumption)) | exact kst_ltOf (And.right (And.right (by assumption)))) (And.left (by assumption)) (by assumption) (by assumption) (by rw [List.length_map]; exact e1)
theorem mul_N (B : Below A₀ base outer h₀) (F : Fr h₀ L s.heap m) (X : (Mine.hd.heap_1 w.params).In h₀) (N : News h₀ L s.heap news) (T : Top p loose mean mg mb h₀) (hk : cs.kind = .function)
    (mx : (x, instObj 426 dx) ∈ news) (mdx : (dx, polyD h1 h2 t1 t2 r l1) ∈ news) (ml : (l1, listOf vs.toArray n1) ∈ news)
    (mr : (r, instObj 282 dr) ∈ news) (mdr : (dr, ringD h5 h6 h7 h8 t5 t6 t7 t8 t9 t10 t11 zl) ∈ news)
    (I1 : IntsAre vs ns) (e1 : ns.length = 256) (hm : ∀ c ∈ ns, IntMulOk c o)
    (hd : dp + 32 < recursionLimit) (hu : un + 256 < cLine)
    (ret : ∀ (z dz l : Addr) (h1 h2 : Int) (t1 t2 : Tok) (h' : Heap) (tk' : Nat) (ys : List Value) (n : Nat), Fr h₀ L h' m → News h₀ L h' ((z, instObj 426 dz) :: (dz, polyD h1 h2 t1 t2 r l) :: (l, listOf ys.toArray n) :: news) → (∀ q ∈ news, q.1 < l) → l < dz → dz < z → IntsAre ys (mulL o ns) → (mulL o ns).length = 256 → Q (.ref z) { s with heap := h', toks := tk' }) :
    wpAny (model PySem.Challenge.rw_yi0008_01.row.prog w) (ktrTop dp un gd cn cs L a ccd cl outer) (call (.ref 423) [.ref x, .int o ot]) Q E s := by
  revert X; k_fill; intro X
  obtain ⟨ck, cnm, cg, cco, cmo⟩ := cs
  cases hk
  refine wpAny_call ?_
  k_dflt k_enter
  k_steps
  exact ret _ _ _ _ _ _ _ _ _ _ _ (by k_asm) (kst_newsOf (by k_asm) (by kcf_all)) (by first | assumption | exact kst_ltOf (by assumption) | exact kst_ltOf (And.right (by assumption)) | exact kst_ltOf (And.right (And.right (by assumption)))) (And.left (by assumption)) (by assumption) (by assumption) (by rw [List.length_map]; exact e1)
end

section
variable {w : World} {mean : ExcName → Option Value} {mg mb : Str → Option Value} {p : Program} {loose : List Str}
  {dp un : Nat} {gd : Option (List Code)} {cn : Str} {cs : Scope} {a : Addr} {ccd : Value} {cl : List (Str × Addr)} {outer : List Env} {A₀ : Around} {base h₀ : Heap} {L : Addr} {m : Str → Option Value} {s : Shared} {Q E : Value → Shared → Prop} {news : List (Addr × Obj)}
  {x dx y dy r dr zl l1 l2 C : Addr} {h1 h2 h3 h4 h5 h6 h7 h8 : Int} {t1 t2 t3 t4 t5 t6 t7 t8 t9 t10 t11 : Tok} {vs us : List Value} {n1 n2 : Nat} {ns ks : List Int} {o : Int} {ot : Tok}
theorem radd_P (B : Below A₀ base outer h₀) (F : Fr h₀ L s.heap m) (X : (Mine.hd.heap_1 w.params).In h₀) (N : News h₀ L s.heap news) (T : Top p loose mean mg mb h₀) (hk : cs.kind = .function)
    (mx : (x, instObj 350 dx) ∈ news) (mdx : (dx, polyD h1 h2 t1 t2 r l1) ∈ news) (ml : (l1, listOf vs.toArray n1) ∈ news)
    (mr : (r, instObj 282 dr) ∈ news) (mdr : (dr, ringD h5 h6 h7 h8 t5 t6 t7 t8 t9 t10 t11 zl) ∈ news)
    (I1 : IntsAre vs ns) (e1 : ns.length = 256)
    (hd : dp + 32 < recursionLimit) (hu : un + 256 < cLine)
    (ret : ∀ (z dz l : Addr) (h1 h2 : Int) (t1 t2 : Tok) (h' : Heap) (tk' : Nat) (ys : List Value) (n : Nat), Fr h₀ L h' m → News h₀ L h' ((z, instObj 350 dz) :: (dz, polyD h1 h2 t1 t2 r l) :: (l, listOf ys.toArray n) :: news) → (∀ q ∈ news, q.1 < l) → l < dz → dz < z → IntsAre ys (radL ns) → (radL ns).length = 256 → Q (.ref z) { s with heap := h', toks := tk' }) :
    wpAny (model PySem.Challenge.rw_yi0008_01.row.prog w) (ktrTop dp un gd cn cs L a ccd cl outer) (call (.ref 146) [.ref x, .int 0 ot]) Q E s := by
  revert X; k_fill; intro X
  obtain ⟨ck, cnm, cg, cco, cmo⟩ := cs
  cases hk
  refine wpAny_call ?_
  k_dflt k_enter
  k_steps
  exact ret _ _ _ _ _ _ _ _ _ _ _ (by k_asm) (kst_newsOf (by k_asm) (by kcf_all)) (by first | assumption | exact kst_ltOf (by assumption) | exact kst_ltOf (And.right (by assumption)) | exact kst_ltOf (And.right (And.right (by assumption)))) (And.left (by assumption)) (by assumption) (by assumption) (by rw [List.length_set]; exact e1)
theorem radd_N (B : Below A₀ base outer h₀) (F : Fr h₀ L s.heap m) (X : (Mine.hd.heap_1 w.params).In h₀) (N : News h₀ L s.heap news) (T : Top p loose mean mg mb h₀) (hk : cs.kind = .function)
    (mx : (x, instObj 426 dx) ∈ news) (mdx : (dx, polyD h1 h2 t1 t2 r l1) ∈ news) (ml : (l1, listOf vs.toArray n1) ∈ news)
    (mr : (r, instObj 282 dr) ∈ news) (mdr : (dr, ringD h5 h6 h7 h8 t5 t6 t7 t8 t9 t10 t11 zl) ∈ news)
    (I1 : IntsAre vs ns) (e1 : ns.length = 256)
    (hd : dp + 32 < recursionLimit) (hu : un + 256 < cLine)
    (ret : ∀ (z dz l : Addr) (h1 h2 : Int) (t1 t2 : Tok) (h' : Heap) (tk' : Nat) (ys : List Value) (n : Nat), Fr h₀ L h' m → News h₀ L h' ((z, instObj 426 dz) :: (dz, polyD h1 h2 t1 t2 r l) :: (l, listOf ys.toArray n) :: news) → (∀ q ∈ news, q.1 < l) → l < dz → dz < z → IntsAre ys (radL ns) → (radL ns).length = 256 → Q (.ref z) { s with heap := h', toks := tk' }) :
    wpAny (model PySem.Challenge.rw_yi0008_01.row.prog w) (ktrTop dp un gd cn cs L a ccd cl outer) (call (.ref 146) [.ref x, .int 0 ot]) Q E s := by
  revert X; k_fill; intro X
  obtain ⟨ck, cnm, cg, cco, cmo⟩ := cs
  cases hk
  refine wpAny_call ?_
  k_dflt k_enter
  k_steps
  exact ret _ _ _ _ _ _ _ _ _ _ _ (by k_asm) (kst_newsOf (by k_asm) (by kcf_all)) (by first | assumption | exact kst_ltOf (by assumption) | exact kst_ltOf (And.right (by assumption)) | exact kst_ltOf (And.right (And.right (by assumption)))) (And.left (by assumption)) (by assumption) (by assumption) (by rw [List.length_set]; exact e1)
end

section
local macro_rules | `(tactic| walk_at "call ref") => `(tactic| (k_here; (k_dflt (show wpAny _ _ (call (Value.ref 380) _ _) _ _ _)); (refine Mine.Stop.out ?_)))
set_option hygiene false in
local macro_rules | `(tactic| walk_at "call ref") => `(tactic| (k_here; (k_dflt (show wpAny _ _ (call (Value.ref 380) [Value.ref _] []) _ _ _)); k_dflt (o_head (Mine.from_ntt_core, 3)); intro ny ndy nh1 nh2 nt1 nt2 nh ntk nus nF nN nI nl1 nl2 nl3; (try dsimp only)))
set_option hygiene false in
local macro_rules | `(tactic| walk_at "compareOp NotEq ref ref") => `(tactic| (k_here; k_dflt (o_head (Mine.ne_led, 4))))
local macro_rules | `(tactic| walk_at "eval ListComp") => `(tactic| (k_here; (with_reducible show wpAny _ _ (eval (Expr.ListComp _ [Comprehension.mk (Expr.Name _ _) (Expr.Name _ _) [] _] _ _) _) _ _ _); k_dflt (refine Mine.ListComp_M (by k_asm) (by rfl) (by with_unfolding_all rfl) (by decide) (by rfl) (by decide) (by rfl) ?_ (by intro _; rfl))))
set_option hygiene false in
local macro_rules | `(tactic| walk_at "MSrcE") => `(tactic| (k_here; k_dflt (o_head (Mine.msrcE, 5))))
local macro_rules | `(tactic| walk_at "MFinE") => `(tactic| (unfold Mine.MFinE; intro zD zh ztk zys zn zI zlen zF zN zlt; (try k_lt zlt); (try dsimp only)))
section
variable {w : World} {mean : ExcName → Option Value} {mg mb : Str → Option Value} {p : Program} {loose : List Str}
  {dp un : Nat} {gd : Option (List Code)} {cs : Scope} {a : Addr} {ccd : Value} {cl : List (Str × Addr)} {outer : List Env} {A₀ : Around} {base h₀ : Heap} {L : Addr} {m : Str → Option Value} {s : Shared} {Q : Flow → Shared → Prop} {R : List (Addr × Obj)}
  {xf df xg dg r dr zl lf lg la lb : Addr} {h1 h2 h3 h4 h5 h6 h7 h8 : Int} {t1 t2 t3 t4 t5 t6 t7 t8 t9 t10 t11 : Tok} {vf vg va vb zvs : List Value} {nf ng na nb n2 : Nat} {zs ga gb : List Int} {bd : List Stmt}
theorem P31 (hsc : cs = lawScp) (hbd : bd = lawStm.drop 31) (B : Below A₀ base outer h₀)
    (F : Fr h₀ L s.heap (fun y => if y = Str.ofString "fh" then some (.ref xf) else if y = Str.ofString "gh" then some (.ref xg) else if y = Str.ofString "a" then some (.ref la) else if y = Str.ofString "b" then some (.ref lb) else m y)) (X : (Mine.hd.heap_1 w.params).In h₀)
    (N : News h₀ L s.heap ((lf, listOf vf.toArray nf) :: (lg, listOf vg.toArray ng) :: R)) (T : Top p loose mean mg mb h₀) (off : ∀ p ∈ (lg, listOf vg.toArray ng) :: R, p.1 ≠ lf) (off2 : ∀ p ∈ R, p.1 ≠ lg)
    (mx : (xf, instObj 426 df) ∈ R) (mdx : (df, polyD h1 h2 t1 t2 r lf) ∈ R) (my : (xg, instObj 426 dg) ∈ R) (mdy : (dg, polyD h3 h4 t3 t4 r lg) ∈ R)
    (mr : (r, instObj 282 dr) ∈ R) (mdr : (dr, ringD h5 h6 h7 h8 t5 t6 t7 t8 t9 t10 t11 zl) ∈ R) (mz : (zl, listOf zvs.toArray n2) ∈ R) (mla : (la, listOf va.toArray na) ∈ R) (mlb : (lb, listOf vb.toArray nb) ∈ R)
    (If : IntsAre vf (nttL zs ga)) (Ig : IntsAre vg (nttL zs gb)) (ef : (nttL zs ga).length = 256) (eg : (nttL zs gb).length = 256) (Ia : IntsAre va ga) (Ib : IntsAre vb gb) (ea : ga.length = 256) (eb : gb.length = 256)
    (Iz : IntsAre zvs zs) (ez : zs.length = 128) (bz : ∀ z ∈ zs, 0 ≤ z ∧ z < 3329) (Z : Inv zs)
    (hd : dp + 16 < recursionLimit) (hu : un + 128 < cLine)
    (ret : ∀ (h' : Heap) (tk' : Nat), Fr h₀ L h' (fun y => if y = Str.ofString "fh" then some (.ref xf) else if y = Str.ofString "gh" then some (.ref xg) else if y = Str.ofString "a" then some (.ref la) else if y = Str.ofString "b" then some (.ref lb) else m y) → Q (.ret (.bool true)) { s with heap := h', toks := tk' }) :
    wpAny (model PySem.Challenge.rw_yi0008_01.row.prog w) (ktrTop dp un gd (Str.ofString "law") cs L a ccd cl outer) (execs bd (envX (Str.ofString "law") cs L a ccd cl)) Q (fun _ _ => False) s := by
  have nf := n_id Z ea
  have ng := n_id Z eb
  conv at hbd => rhs; whnf
  conv at hsc => rhs; whnf
  subst hbd hsc
  revert X; k_fill; intro X
  k_steps
  (with_reducible rename News _ _ _ _ => Nw)
  have N2 := kst_newsOf (l' := (lg, listOf vg.toArray _) :: R) Nw (fun _ hp => .tail _ (.tail _ (.tail _ (.tail _ hp))))
  clear Nw
  show wpAny _ _ _ _ _ _
  k_steps
  rw [decide_eq_true ng]
  exact ret _ _ (by k_asm)
end

end
end
end
end
end
section
local macro_rules | `(tactic| walk_at "my_len") => `(tactic| first | with_reducible assumption | omega | ((simp only [List.length_map, List.length_set, List.length_zipWith, Mine.nttL_length, Mine.inttL_length]); omega))
local macro_rules | `(tactic| walk_at "CmpBack") => `(tactic| refine Mine.cmpBack_ref ?_)
local macro_rules | `(tactic| walk_at "my_mulok") => `(tactic| with_reducible assumption)
set_option hygiene false in
local macro_rules | `(tactic| walk_at "call ref") => `(tactic| (k_here; o_head (139, 50); k_dflt ((o_head (Mine.add_P, 6)); k_whole); walk_at "q_l"))
set_option hygiene false in
local macro_rules | `(tactic| walk_at "call ref") => `(tactic| (k_here; o_head (411, 50); k_dflt ((o_head (Mine.add_N, 6)); k_whole); walk_at "q_l"))
set_option hygiene false in
local macro_rules | `(tactic| walk_at "call ref") => `(tactic| (k_here; o_head (146, 51); k_dflt ((first | (o_head (Mine.radd_P, 7)) | (o_head (Mine.radd_N, 7))); k_whole); walk_at "q_l"))
local macro_rules | `(tactic| walk_at "binaryOp Add int ref") => `(tactic| (k_here; k_dflt (refine' Mine.binR (nm := "add") ?F ?X ?I ?hi ?hC ?hS ?hR ?hF ?hfill ?hsub ?ht ?_; (case F => k_asm); (case X => k_asm); (case I => k_inst); (case hi => rfl); (case hC => k_is); (case hS => k_is); (case hR => k_is); (case hF => k_is); (case hfill => exact PySem.F.fills_int_add); (case hsub => k_is); (case ht => exact fun _ hq => Mine.try_add (News.get (by k_asm) (by k_mem)) hq); k_whole)))
theorem keep3 {S z dz l : Addr} {oz odz ol : Obj} {news : List (Addr × Obj)} (a : S < l) (h1 : l < dz) (h2 : dz < z) (hn : ∀ p ∈ news, p.1 ≠ S) : ∀ p ∈ (z, oz) :: (dz, odz) :: (l, ol) :: news, p.1 ≠ S := by
  intro p hp
  rcases List.mem_cons.mp hp with rfl | hp
  · exact Nat.ne_of_gt (Nat.lt_trans a (Nat.lt_trans h1 h2))
  rcases List.mem_cons.mp hp with rfl | hp
  · exact Nat.ne_of_gt (Nat.lt_trans a h1)
  rcases List.mem_cons.mp hp with rfl | hp
  · exact Nat.ne_of_gt a
  · exact hn p hp
theorem sumEnd {h₀ : Heap} {L : Addr} {m : Str → Option Value} {s : Shared} {S I ll z dz l : Addr} {oS oI oz odz ol : Obj} {vs : List Value} {n : Nat} {Go : Value → List (Addr × Obj) → Prop} {hh1 : Heap} {tk1 : Nat} {P : Prop} {rest keep : List (Addr × Obj)}
    (F : Fr h₀ L hh1 m) (N : News h₀ L hh1 ((z, oz) :: (dz, odz) :: (l, ol) :: (S, oS) :: (I, oI) :: rest)) (h : @LT.lt Nat _ S l ∧ @LT.lt Nat _ I l ∧ P) (h1 : l < dz) (h2 : dz < z) (nS : ∀ p ∈ keep, p.1 ≠ S) (nI : ∀ p ∈ keep, p.1 ≠ I)
    (sub : ∀ p ∈ keep, p ∈ rest) (hl : (ll, listOf vs.toArray n) ∈ keep) (go : Go (.ref z) ((z, oz) :: (dz, odz) :: (l, ol) :: keep)) : SumEnd h₀ L m s S I oS oI ll vs n Go (.ref z) { s with heap := hh1, toks := tk1 } :=
  ⟨_, _, (z, oz) :: (dz, odz) :: (l, ol) :: keep, z, rfl, rfl, F, kst_newsOf N (by
    intro p hp
    simp only [List.mem_cons] at hp ⊢
    rcases hp with hp | hp | hp | hp | hp | hp
    · exact Or.inr (Or.inr (Or.inr (Or.inl hp)))
    · exact Or.inr (Or.inr (Or.inr (Or.inr (Or.inl hp))))
    · exact Or.inl hp
    · exact Or.inr (Or.inl hp)
    · exact Or.inr (Or.inr (Or.inl hp))
    · exact Or.inr (Or.inr (Or.inr (Or.inr (Or.inr (sub _ hp)))))), keep3 h.1 h1 h2 nS, keep3 h.2.1 h1 h2 nI, List.mem_cons_of_mem _ (List.mem_cons_of_mem _ (List.mem_cons_of_mem _ hl)), go⟩
theorem lt_tr {I S : Addr} {news : List (Addr × Obj)} (h : ∀ q ∈ news, q.1 < I) (hl : I < S) : ∀ q ∈ news, q.1 < S := fun q hq => Nat.lt_trans (h q hq) hl
theorem fin_lt {S I l : Addr} {P : Prop} {news : List (Addr × Obj)} (lI : ∀ q ∈ news, q.1 < I) (h : @LT.lt Nat _ S l ∧ @LT.lt Nat _ I l ∧ P) : ∀ q ∈ news, q.1 < l := lt_tr lI h.2.1
theorem refs3 {x y z : Addr} : ∀ v ∈ [Value.ref x, Value.ref y, Value.ref z], ∃ a, v = Value.ref a := by
  intro v hv
  simp only [List.mem_cons, List.not_mem_nil, or_false] at hv
  rcases hv with rfl | rfl | rfl <;> exact ⟨_, rfl⟩
theorem lt_ne {S : Addr} {news : List (Addr × Obj)} (h : ∀ q ∈ news, q.1 < S) : ∀ q ∈ news, q.1 ≠ S := fun q hq => Nat.ne_of_lt (h q hq)
section
variable {w : World} {mean : ExcName → Option Value} {mg mb : Str → Option Value} {p : Program} {loose : List Str}
  {dp un : Nat} {gd : Option (List Code)} {cn : Str} {cs : Scope} {a : Addr} {ccd : Value} {cl : List (Str × Addr)} {outer : List Env} {A₀ : Around} {base h₀ : Heap} {L : Addr} {m : Str → Option Value} {s : Shared} {Q E : Value → Shared → Prop} {news : List (Addr × Obj)}
  {x dx y dy r dr zl l1 l2 C : Addr} {h1 h2 h3 h4 h5 h6 h7 h8 : Int} {t1 t2 t3 t4 t5 t6 t7 t8 t9 t10 t11 : Tok} {vs us : List Value} {n1 n2 : Nat} {ns ks : List Int} {o : Int} {ot : Tok} {ll : Addr} {nn : Nat}
theorem sum_P (B : Below A₀ base outer h₀) (F : Fr h₀ L s.heap m) (X : (Mine.hd.heap_1 w.params).In h₀) (N : News h₀ L s.heap news) (T : Top p loose mean mg mb h₀) (hk : cs.kind = .function)
    (mx : (x, instObj 350 dx) ∈ news) (mdx : (dx, polyD h1 h2 t1 t2 r l1) ∈ news) (ml : (l1, listOf vs.toArray n1) ∈ news)
    (my : (y, instObj 350 dy) ∈ news) (mdy : (dy, polyD h3 h4 t3 t4 r l2) ∈ news) (ml2 : (l2, listOf us.toArray n2) ∈ news)
    (mr : (r, instObj 282 dr) ∈ news) (mdr : (dr, ringD h5 h6 h7 h8 t5 t6 t7 t8 t9 t10 t11 zl) ∈ news)
    (I1 : IntsAre vs ns) (I2 : IntsAre us ks) (e1 : ns.length = 256) (e2 : ks.length = 256) (mll : (ll, listOf [Value.ref x, Value.ref y, Value.ref x].toArray nn) ∈ news)
    (hd : dp + 64 < recursionLimit) (hu : un + 600 < cLine)
    (ret : ∀ (z dz l : Addr) (h1 h2 : Int) (t1 t2 : Tok) (h' : Heap) (tk' : Nat) (ys : List Value) (n : Nat), Fr h₀ L h' m → News h₀ L h' ((z, instObj 350 dz) :: (dz, polyD h1 h2 t1 t2 r l) :: (l, listOf ys.toArray n) :: news) → (∀ q ∈ news, q.1 < l) → l < dz → dz < z → IntsAre ys (addL (addL (radL ns) ks) ns) → (addL (addL (radL ns) ks) ns).length = 256 → Q (.ref z) { s with heap := h', toks := tk' }) :
    wpAny (model PySem.Challenge.rw_yi0008_01.row.prog w) (ktrTop dp un gd cn cs L a ccd cl outer) (call (.builtin "sum") [.ref ll]) Q E s := by
  revert X; k_fill; intro X
  obtain ⟨ck, cnm, cg, cco, cmo⟩ := cs
  cases hk
  refine Mine.sum_own rfl F N mll refs3 ?_
  intro S I t lI lS
  have nS := lt_ne (lt_tr lI lS)
  have nI := lt_ne lI
  intro h1 tk1 oS1 oI1 E1 F1 N1
  try clear F
  k_steps
  refine sumEnd (by k_asm) (by k_asm) (by assumption) (by assumption) (by assumption) nS nI (by kcf_all) mll ?_
  intro h2 tk2 oS2 oI2 E2 F2 N2
  try clear F
  k_steps
  refine sumEnd (by k_asm) (by k_asm) (by assumption) (by assumption) (by assumption) nS nI (by kcf_all) mll ?_
  intro h3 tk3 oS3 oI3 E3 F3 N3
  try clear F
  k_steps
  refine sumEnd (by k_asm) (by k_asm) (by assumption) (by assumption) (by assumption) nS nI (by kcf_all) mll ?_
  intro h4 tk4 F4 N4
  exact ret _ _ _ _ _ _ _ _ _ _ _ F4 N4 (fin_lt (S := S) lI (by assumption)) (by assumption) (by assumption) (by assumption) (by assumption)
theorem sum_N (B : Below A₀ base outer h₀) (F : Fr h₀ L s.heap m) (X : (Mine.hd.heap_1 w.params).In h₀) (N : News h₀ L s.heap news) (T : Top p loose mean mg mb h₀) (hk : cs.kind = .function)
    (mx : (x, instObj 426 dx) ∈ news) (mdx : (dx, polyD h1 h2 t1 t2 r l1) ∈ news) (ml : (l1, listOf vs.toArray n1) ∈ news)
    (my : (y, instObj 426 dy) ∈ news) (mdy : (dy, polyD h3 h4 t3 t4 r l2) ∈ news) (ml2 : (l2, listOf us.toArray n2) ∈ news)
    (mr : (r, instObj 282 dr) ∈ news) (mdr : (dr, ringD h5 h6 h7 h8 t5 t6 t7 t8 t9 t10 t11 zl) ∈ news)
    (I1 : IntsAre vs ns) (I2 : IntsAre us ks) (e1 : ns.length = 256) (e2 : ks.length = 256) (mll : (ll, listOf [Value.ref x, Value.ref y, Value.ref x].toArray nn) ∈ news)
    (hd : dp + 64 < recursionLimit) (hu : un + 600 < cLine)
    (ret : ∀ (z dz l : Addr) (h1 h2 : Int) (t1 t2 : Tok) (h' : Heap) (tk' : Nat) (ys : List Value) (n : Nat), Fr h₀ L h' m → News h₀ L h' ((z, instObj 426 dz) :: (dz, polyD h1 h2 t1 t2 r l) :: (l, listOf ys.toArray n) :: news) → (∀ q ∈ news, q.1 < l) → l < dz → dz < z → IntsAre ys (addL (addL (radL ns) ks) ns) → (addL (addL (radL ns) ks) ns).length = 256 → Q (.ref z) { s with heap := h', toks := tk' }) :
    wpAny (model PySem.Challenge.rw_yi0008_01.row.prog w) (ktrTop dp un gd cn cs L a ccd cl outer) (call (.builtin "sum") [.ref ll]) Q E s := by
  revert X; k_fill; intro X
  obtain ⟨ck, cnm, cg, cco, cmo⟩ := cs
  cases hk
  refine Mine.sum_own rfl F N mll refs3 ?_
  intro S I t lI lS
  have nS := lt_ne (lt_tr lI lS)
  have nI := lt_ne lI
  intro h1 tk1 oS1 oI1 E1 F1 N1
  try clear F
  k_steps
  refine sumEnd (by k_asm) (by k_asm) (by assumption) (by assumption) (by assumption) nS nI (by kcf_all) mll ?_
  intro h2 tk2 oS2 oI2 E2 F2 N2
  try clear F
  k_steps
  refine sumEnd (by k_asm) (by k_asm) (by assumption) (by assumption) (by assumption) nS nI (by kcf_all) mll ?_
  intro h3 tk3 oS3 oI3 E3 F3 N3
  try clear F
  k_steps
  refine sumEnd (by k_asm) (by k_asm) (by assumption) (by assumption) (by assumption) nS nI (by kcf_all) mll ?_
  intro h4 tk4 F4 N4
  exact ret _ _ _ _ _ _ _ _ _ _ _ F4 N4 (fin_lt (S := S) lI (by assumption)) (by assumption) (by assumption) (by assumption) (by assumption)
end

end
section
local macro_rules | `(tactic| walk_at "call builtin:bin") => `(tactic| (k_here; k_dflt (refine Mine.bin7 (by assumption) (by assumption) ?_; intro bx bxe bxl)))
local macro_rules | `(tactic| walk_at "subscriptTail Name Slice str ref") => `(tactic| (k_here; dsimp only; k_dflt (refine slice_strK_nn (hsz := ?hsz) (s := ⟨_, _, _, _, _⟩) (by assumption) (by assumption) (by decide) ?_; (case hsz => exact Nat.le_trans (Mine.text_len' (by assumption) (by assumption) (by assumption)) (by decide)); intro _ _ _ _ _)))
section
variable {w : World} {mean : ExcName → Option Value} {mg mb : Str → Option Value} {p : Program} {loose : List Str}
  {dp un : Nat} {gd : Option (List Code)} {cn : Str} {cs : Scope} {a : Addr} {ccd : Value} {cl : List (Str × Addr)} {outer : List Env} {A₀ : Around} {base h₀ : Heap} {L : Addr} {m : Str → Option Value} {s : Shared} {Q E : Value → Shared → Prop} {news : List (Addr × Obj)}
  {i : Int} {ti tk : Tok}
theorem br_call (B : Below A₀ base outer h₀) (F : Fr h₀ L s.heap m) (X : (Mine.hd.heap_1 w.params).In h₀) (N : News h₀ L s.heap news) (T : Top p loose mean mg mb h₀) (hk : cs.kind = .function)
    (i0 : 0 ≤ i) (i1 : i < 128)
    (hd : dp + 16 < recursionLimit) (hu : un + 128 < cLine)
    (ret : ∀ (t : Tok) (h' : Heap) (tk' : Nat), Fr h₀ L h' m → News h₀ L h' news → Q (.int (brT.getD i.toNat 0) t) { s with heap := h', toks := tk' }) :
    wpAny (model PySem.Challenge.rw_yi0008_01.row.prog w) (ktrTop dp un gd cn cs L a ccd cl outer) (call (.ref 245) [.int i ti, .int 7 tk]) Q E s := by
  revert X; k_fill; intro X
  obtain ⟨ck, cnm, cg, cco, cmo⟩ := cs
  cases hk
  refine wpAny_call ?_
  k_dflt k_enter
  k_steps
  refine Mine.callee_br (by assumption) (by assumption) (by assumption) ?_
  dsimp only
  k_steps
  exact ret _ _ _ (by assumption) (by assumption)
end

end
section
set_option hygiene false in
local macro_rules | `(tactic| walk_at "call ref") => `(tactic| (k_here; (with_reducible show wpAny _ _ (call (Value.ref 245) [Value.int _ _, Value.int _ _] _) _ _ _); k_dflt (refine' Mine.br_call ?k1 ?k2 ?k3 ?k4 ?k5 ?k6 ?k7 ?k8 ?k9 ?ka ?_; walk_at "q_k"; (case k7 => first | assumption | omega); (case k8 => first | assumption | omega); (case k9 => ktr_room); (case ka => ktr_units); k_whole); intro brt brh brk brF brN; (try dsimp only)))
local macro_rules | `(tactic| walk_at "call builtin:pow") => `(tactic| (k_here; k_dflt (first | refine Mine.inv_call ?_ | refine Mine.pow_call (by first | assumption | omega) (by first | assumption | omega) ?_)))
local macro_rules | `(tactic| walk_at "CompSrc") => `(tactic| (k_here; k_dflt (refine LCg.CompSrc.range (by rfl) (by k_asm) (by k_asm) (by assumption) (by decide) (by rfl) (by exact Nat.le_of_ble_eq_true rfl) ?_; intro g'; (refine' kcf_range (fun k => Mine.ZT.getD k.toNat 0) (fun k' t' I' oI' C' oC' D' m' ys' h' tk' E' hlo' hhi' hC' hx' F' N' off' ne' hMark' => ?_) ?_); (all_goals (try (simp only [LCg.Off3, and_true] at off'))); (all_goals (try k_fold)))))
local macro_rules | `(tactic| walk_at "exec Assign cons ListComp") => `(tactic| (k_here; fail "mine"))
section
variable {w : World} {mean : ExcName → Option Value} {mg mb : Str → Option Value} {p : Program} {loose : List Str}
  {dp un : Nat} {gd : Option (List Code)} {cn : Str} {cs : Scope} {a : Addr} {ccd : Value} {cl : List (Str × Addr)} {outer : List Env} {A₀ : Around} {base h₀ : Heap} {L : Addr} {m : Str → Option Value} {s : Shared} {Q E : Value → Shared → Prop} {c1 c2 c3 : Addr} {o1 o2 o3 : Obj}
theorem new_ring (B : Below A₀ base outer h₀) (F : Fr h₀ L s.heap m) (X : (Mine.hd.heap_1 w.params).In h₀) (N : News h₀ L s.heap [(c1, o1), (c2, o2), (c3, o3)]) (T : Top p loose mean mg mb h₀) (hk : cs.kind = .function)
    (hd : dp + 24 < recursionLimit) (hu : un + 256 < cLine)
    (ret : ∀ (r dr zl : Addr) (h1 h2 h3 h4 : Int) (t1 t2 t3 t4 t5 t6 t7 : Tok) (zvs : List Value) (nz : Nat) (h' : Heap) (tk' : Nat), Fr h₀ L h' m → News h₀ L h' [(r, instObj 282 dr), (dr, ringD h1 h2 h3 h4 t1 t2 t3 t4 t5 t6 t7 zl), (zl, listOf zvs.toArray nz), (c1, o1), (c2, o2), (c3, o3)] → IntsAre zvs ZT → (@LT.lt Nat _ c1 dr ∧ @LT.lt Nat _ c2 dr ∧ @LT.lt Nat _ c3 dr) → @LT.lt Nat _ dr r → (@Ne Nat r zl ∧ @Ne Nat dr zl ∧ @Ne Nat c1 zl ∧ @Ne Nat c2 zl ∧ @Ne Nat c3 zl) → Q (.ref r) { s with heap := h', toks := tk' }) :
    wpAny (model PySem.Challenge.rw_yi0008_01.row.prog w) (ktrTop dp un gd cn cs L a ccd cl outer) (call (.ref 282) []) Q E s := by
  revert X; k_fill; intro X
  obtain ⟨ck, cnm, cg, cco, cmo⟩ := cs
  cases hk

  k_steps
  have zt : (rangeKs 0 (128 - (0:Int)).toNat).map (fun k => Mine.ZT.getD k.toNat 0) = ZT := by decide +kernel
  refine ret _ _ _ _ _ _ _ _ _ _ _ _ _ _ _ _ _ _ (by k_asm) (kst_newsOf (by assumption) (by kcf_all)) ?_ (by assumption) (by assumption) (And.right (And.right (by assumption)))
  rw [← zt]
  assumption
end

end
section
set_option hygiene false in
local macro_rules | `(tactic| walk_at "call builtin:isinstance") => `(tactic| (k_here; (with_reducible show wpAny _ _ (call _ [Value.ref _, Value.ref 426]) _ _ _); k_dflt ((first | (o_head (Mine.isi_no, 8)) | (o_head (Mine.isi_yes, 8))); k_whole); intro ih itk iF iN; (try dsimp only)))
section
set_option hygiene false in
local macro_rules | `(tactic| walk_at "call ref") => `(tactic| (k_here; (k_dflt (show wpAny _ _ (call (Value.ref 380) [Value.ref _] []) _ _ _)); k_dflt (o_head (Mine.from_ntt_core, 3)); intro ny ndy nh1 nh2 nt1 nt2 nh ntk nus nF nN nI nl1 nl2 nl3; (try dsimp only)))
set_option hygiene false in
local macro_rules | `(tactic| walk_at "compareOp NotEq ref ref") => `(tactic| (k_here; k_dflt (o_head (Mine.ne_led, 4))))
section
variable {w : World} {mean : ExcName → Option Value} {mg mb : Str → Option Value} {p : Program} {loose : List Str}
  {dp un : Nat} {gd : Option (List Code)} {cs : Scope} {a : Addr} {ccd : Value} {cl : List (Str × Addr)} {outer : List Env} {A₀ : Around} {base h₀ : Heap} {L : Addr} {m : Str → Option Value} {s : Shared} {Q : Flow → Shared → Prop} {rest : List (Addr × Obj)}
  {x dx r dr zl lc W : Addr} {h1 h2 h3 h4 h5 h6 h7 h8 : Int} {t1 t2 t3 t4 t5 t6 t7 t8 t9 t10 t11 : Tok} {vs us ws zvs : List Value} {n1 n2 n3 : Nat} {ns zs ds : List Int} {bd : List Stmt}
theorem turn_ok (hsc : cs = lawScp) (hbd : bd = forBody lawStm[30]?) (B : Below A₀ base outer h₀) (F : Fr h₀ L s.heap (fun y => if y = Str.ofString "want" then some (.ref W) else if y = Str.ofString "p" then some (.ref x) else m y)) (X : (Mine.hd.heap_1 w.params).In h₀)
    (N : News h₀ L s.heap ((lc, listOf vs.toArray n1) :: rest)) (T : Top p loose mean mg mb h₀) (off : ∀ p ∈ rest, p.1 ≠ lc)
    (mx : (x, instObj 426 dx) ∈ rest) (mdx : (dx, polyD h1 h2 t1 t2 r lc) ∈ rest)
    (mr : (r, instObj 282 dr) ∈ rest) (mdr : (dr, ringD h5 h6 h7 h8 t5 t6 t7 t8 t9 t10 t11 zl) ∈ rest) (mz : (zl, listOf zvs.toArray n2) ∈ rest)
    (I1 : IntsAre vs ns) (e1 : ns.length = 256) (Iz : IntsAre zvs zs) (ez : zs.length = 128) (bz : ∀ z ∈ zs, 0 ≤ z ∧ z < 3329)
    (mw : (W, listOf ws.toArray n3) ∈ rest) (Iw : IntsAre ws ds) (e : inttL zs ns = ds)
    (hd : dp + 16 < recursionLimit) (hu : un + 128 < cLine)
    (ret : ∀ (h' : Heap) (tk' : Nat), Fr h₀ L h' (fun y => if y = Str.ofString "want" then some (.ref W) else if y = Str.ofString "p" then some (.ref x) else m y) → News h₀ L h' rest → Q .next { s with heap := h', toks := tk' }) :
    wpAny (model PySem.Challenge.rw_yi0008_01.row.prog w) (ktrTop dp un gd (Str.ofString "law") cs L a ccd cl outer) (execs bd (envX (Str.ofString "law") cs L a ccd cl)) Q (fun _ _ => False) s := by
  subst e
  conv at hbd => rhs; whnf
  conv at hsc => rhs; whnf
  subst hbd hsc
  revert X; k_fill; intro X
  k_steps
  exact ret _ _ (by k_asm) (kst_newsOf (by k_asm) (fun _ hp => .tail _ (.tail _ (.tail _ hp))))
end

end
/-- one of the asked: the polynomial, its list, what it holds, the list wanted -/
structure Ask where
  T : Addr
  x : Addr
  dx : Addr
  lc : Addr
  W : Addr
  h1 : Int
  h2 : Int
  t1 : Tok
  t2 : Tok
  vs : List Value
  ws : List Value
  n1 : Nat
  n3 : Nat
  ns : List Int
  ds : List Int
noncomputable abbrev Ask.ent (i : Ask) : Addr × Obj := (i.lc, listOf i.vs.toArray i.n1)
structure AskOk (r : Addr) (zs : List Int) (R : List (Addr × Obj)) (i : Ask) : Prop where
  mT : (i.T, tupO i.x i.W) ∈ R
  mx : (i.x, instObj 426 i.dx) ∈ R
  mdx : (i.dx, polyD i.h1 i.h2 i.t1 i.t2 r i.lc) ∈ R
  mw : (i.W, listOf i.ws.toArray i.n3) ∈ R
  I1 : IntsAre i.vs i.ns
  e1 : i.ns.length = 256
  Iw : IntsAre i.ws i.ds
  e : inttL zs i.ns = i.ds
  off : ∀ p ∈ R, p.1 ≠ i.lc
theorem fr_pw {h₀ h : Heap} {L : Addr} {m m₀ : Str → Option Value} (hm : ∀ z, z ≠ Str.ofString "p" → z ≠ Str.ofString "want" → m z = m₀ z) (F : Fr h₀ L h m) : Fr h₀ L h (fun z => if z = Str.ofString "p" then m z else if z = Str.ofString "want" then m z else m₀ z) := by
  have e : m = (fun z => if z = Str.ofString "p" then m z else if z = Str.ofString "want" then m z else m₀ z) := by
    funext z
    by_cases h1 : z = Str.ofString "p"
    · rw [if_pos h1]
    · rw [if_neg h1]
      by_cases h2 : z = Str.ofString "want"
      · rw [if_pos h2]
      · rw [if_neg h2]; exact hm z h1 h2
  rw [← e]; exact F
section
variable {w : World} {mean : ExcName → Option Value} {mg mb : Str → Option Value} {p : Program} {loose : List Str}
  {dp un : Nat} {gd : Option (List Code)} {cs : Scope} {a : Addr} {ccd : Value} {cl : List (Str × Addr)} {outer : List Env} {A₀ : Around} {base h₀ : Heap} {L : Addr} {m₀ : Str → Option Value} {s : Shared} {Q : Flow → Shared → Prop} {R : List (Addr × Obj)}
  {r dr zl ax I : Addr} {lo : Obj} {h5 h6 h7 h8 : Int} {t5 t6 t7 t8 t9 t10 t11 : Tok} {zvs : List Value} {n2 : Nat} {zs : List Int} {bd : List Stmt} {tg : Expr}
theorem asked_loop (hsc : cs = lawScp) (hbd : bd = forBody lawStm[30]?) (htg : tg = forTgt lawStm[30]?) (B : Below A₀ base outer h₀) (X : (Mine.hd.heap_1 w.params).In h₀) (T : Top p loose mean mg mb h₀)
    (mr : (r, instObj 282 dr) ∈ R) (mdr : (dr, ringD h5 h6 h7 h8 t5 t6 t7 t8 t9 t10 t11 zl) ∈ R) (mz : (zl, listOf zvs.toArray n2) ∈ R)
    (Iz : IntsAre zvs zs) (ez : zs.length = 128) (bz : ∀ z ∈ zs, 0 ≤ z ∧ z < 3329) (max : (ax, lo) ∈ R)
    (hd : dp + 16 < recursionLimit) (hu : un + 128 < cLine)
    (fin : ∀ (u : Str → Option Value) (h' : Heap) (tk' : Nat), Fr h₀ L h' (fun z => if z = Str.ofString "p" then u z else if z = Str.ofString "want" then u z else m₀ z) → News h₀ L h' R → Q .next { s with heap := h', toks := tk' }) :
    ∀ (its : List Ask) (m : Str → Option Value), (∀ z, z ≠ Str.ofString "p" → z ≠ Str.ofString "want" → m z = m₀ z) → (∀ i ∈ its, AskOk r zs R i) → its.Pairwise (fun i j => j.lc ≠ i.lc) → (∀ p ∈ its.map Ask.ent ++ R, p.1 < I) →
      ItemsRest PySem.Challenge.rw_yi0008_01.row.prog w (ktrTop dp un gd (Str.ofString "law") cs L a ccd cl outer) (fun _ _ => False) h₀ (envX (Str.ofString "law") cs L a ccd cl) tg bd Q s [(I, "list_iterator")] [(ax, lo)] (its.map (fun i => .val (.ref i.T))) m (its.map Ask.ent ++ R) := by
  intro its
  induction its with
  | nil => exact fun m hm _ _ _ => ItemsRest.zero fun h tk F N => fin m h tk (fr_pw hm F) N
  | cons i its ih =>
    intro m hm ok pw lt
    refine ItemsRest.val fun h tk F => AllObj.cons fun o hc => AllObj.nil fun N => ?_
    obtain ⟨mT, mx, mdx, mw, I1, e1, Iw, e, off⟩ := ok i List.mem_cons_self
    have hnI : ∀ p ∈ its.map Ask.ent ++ R, p.1 ≠ I := fun p hp => Nat.ne_of_lt (lt p (.tail _ hp))
    have off' : ∀ p ∈ (I, o) :: (its.map Ask.ent ++ R), p.1 ≠ i.lc := by
      intro p hp
      rcases List.mem_cons.mp hp with rfl | hp
      · exact Nat.ne_of_gt (lt _ List.mem_cons_self)
      rcases List.mem_append.mp hp with hp | hp
      · obtain ⟨j, hj, rfl⟩ := List.mem_map.mp hp
        exact (List.pairwise_cons.mp pw).1 j hj
      · exact off p hp
    have N1 : News h₀ L h ((i.lc, listOf i.vs.toArray i.n1) :: (I, o) :: (its.map Ask.ent ++ R)) := kst_newsOf N (by
      intro p hp
      rcases List.mem_cons.mp hp with rfl | hp
      · exact .tail _ (.head _)
      rcases List.mem_cons.mp hp with rfl | hp
      · exact .head _
      · exact .tail _ (.tail _ hp))
    have go : ∀ (h' : Heap) (tk' : Nat) (m' : Str → Option Value), (∀ z, z ≠ Str.ofString "p" → z ≠ Str.ofString "want" → m' z = m₀ z) → Fr h₀ L h' m' → News h₀ L h' ((I, o) :: (its.map Ask.ent ++ R)) →
        UnrEndW h₀ L { s with heap := h, toks := tk } [(I, o)] (fun m' n' => SubL [(ax, lo)] n' ∧ ItemsRest PySem.Challenge.rw_yi0008_01.row.prog w (ktrTop dp un gd (Str.ofString "law") cs L a ccd cl outer) (fun _ _ => False) h₀ (envX (Str.ofString "law") cs L a ccd cl) tg bd Q s [(I, "list_iterator")] [(ax, lo)] (its.map (fun i => .val (.ref i.T))) m' n') { s with heap := h', toks := tk' } := fun h' tk' m' hm' F' N' =>
      ⟨h', tk', m', its.map Ask.ent ++ R, rfl, F', N', fun p hp q hq => by rw [List.mem_singleton.mp hq]; exact hnI p hp, ⟨List.mem_append_right _ max, trivial⟩,
        ih m' hm' (fun j hj => ok j (.tail _ hj)) (List.pairwise_cons.mp pw).2 fun p hp => lt p (.tail _ hp)⟩
    have sub : ∀ p ∈ R, p ∈ (I, o) :: (its.map Ask.ent ++ R) := fun p hp => .tail _ (List.mem_append_right _ hp)
    clear N lt hnI ih max
    generalize (I, o) :: (its.map Ask.ent ++ R) = rest at N1 off' go sub
    replace mT := sub _ mT
    have tail : ∀ (h' : Heap) (tk' : Nat), Fr h₀ L h' (fun y => if y = Str.ofString "want" then some (.ref i.W) else if y = Str.ofString "p" then some (.ref i.x) else m y) → News h₀ L h' ((i.lc, listOf i.vs.toArray i.n1) :: rest) →
        wpAny (model PySem.Challenge.rw_yi0008_01.row.prog w) (ktrTop dp un gd (Str.ofString "law") cs L a ccd cl outer) (execs bd (envX (Str.ofString "law") cs L a ccd cl)) (UnrPostW h₀ L { s with heap := h, toks := tk } [(I, o)] (fun m' n' => SubL [(ax, lo)] n' ∧ ItemsRest PySem.Challenge.rw_yi0008_01.row.prog w (ktrTop dp un gd (Str.ofString "law") cs L a ccd cl outer) (fun _ _ => False) h₀ (envX (Str.ofString "law") cs L a ccd cl) tg bd Q s [(I, "list_iterator")] [(ax, lo)] (its.map (fun i => .val (.ref i.T))) m' n') Q) (fun _ _ => False) { s with heap := h', toks := tk' } := fun h' tk' F' N' =>
      turn_ok hsc hbd B F' X N' T off' (sub _ mx) (sub _ mdx) (sub _ mr) (sub _ mdr) (sub _ mz) I1 e1 Iz ez bz (sub _ mw) Iw e hd hu fun h'' tk'' F'' N'' =>
        go h'' tk'' _ (fun z z1 z2 => by rw [if_neg z2, if_neg z1]; exact hm z z1 z2) F'' N''
    generalize (UnrPostW h₀ L { s with heap := h, toks := tk } [(I, o)] (fun m' n' => SubL [(ax, lo)] n' ∧ ItemsRest PySem.Challenge.rw_yi0008_01.row.prog w (ktrTop dp un gd (Str.ofString "law") cs L a ccd cl outer) (fun _ _ => False) h₀ (envX (Str.ofString "law") cs L a ccd cl) tg bd Q s [(I, "list_iterator")] [(ax, lo)] (its.map (fun i => .val (.ref i.T))) m' n') Q) = QQ at tail ⊢
    clear go fin ok pw sub off off' hbd
    conv at htg => rhs; whnf
    conv at hsc => rhs; whnf
    subst htg hsc
    revert X; k_fill; intro X
    k_steps
    exact tail _ _ (by k_asm) (by k_asm)
end

section
variable {w : World} {mean : ExcName → Option Value} {mg mb : Str → Option Value} {p : Program} {loose : List Str}
  {dp un : Nat} {gd : Option (List Code)} {cs : Scope} {a : Addr} {ccd : Value} {cl : List (Str × Addr)} {outer : List Env} {A₀ : Around} {base h₀ : Heap} {L : Addr} {m m₀ : Str → Option Value} {s : Shared} {Q : Flow → Shared → Prop} {news : List (Addr × Obj)}
  {x dx r lc I : Addr} {h1 h2 : Int} {t1 t2 : Tok} {bd : List Stmt} {lp : Addr × Obj}
theorem plain_turn (hsc : cs = lawScp) (hbd : bd = forBody lawStm[22]?) (B : Below A₀ base outer h₀) (F : Fr h₀ L s.heap (fun y => if y = Str.ofString "p" then some (.ref x) else m y)) (X : (Mine.hd.heap_1 w.params).In h₀)
    (N : News h₀ L s.heap news) (T : Top p loose mean mg mb h₀) (mx : (x, instObj 350 dx) ∈ news) (mdx : (dx, polyD h1 h2 t1 t2 r lc) ∈ news)
    (hd : dp + 16 < recursionLimit) (hu : un + 128 < cLine)
    (ret : ∀ (h' : Heap) (tk' : Nat), Fr h₀ L h' (fun y => if y = Str.ofString "p" then some (.ref x) else m y) → News h₀ L h' news → Q .next { s with heap := h', toks := tk' }) :
    wpAny (model PySem.Challenge.rw_yi0008_01.row.prog w) (ktrTop dp un gd (Str.ofString "law") cs L a ccd cl outer) (execs bd (envX (Str.ofString "law") cs L a ccd cl)) Q (fun _ _ => False) s := by
  conv at hbd => rhs; whnf
  conv at hsc => rhs; whnf
  subst hbd hsc
  revert X; k_fill; intro X
  k_steps
  exact ret _ _ (by k_asm) (by k_asm)
/-- one of the plain: an object and its dict -/
noncomputable def PlainOk (r : Addr) (news : List (Addr × Obj)) (x : Addr) : Prop := ∃ dx h1 h2 t1 t2 lc, (x, instObj 350 dx) ∈ news ∧ (dx, polyD h1 h2 t1 t2 r lc) ∈ news
theorem plain_loop (hsc : cs = lawScp) (hbd : bd = forBody lawStm[22]?) (B : Below A₀ base outer h₀) (X : (Mine.hd.heap_1 w.params).In h₀) (T : Top p loose mean mg mb h₀) (hlp : lp ∈ news) (hI : ∀ p ∈ news, p.1 < I)
    (hd : dp + 16 < recursionLimit) (hu : un + 128 < cLine)
    (fin : ∀ (u : Str → Option Value) (h' : Heap) (tk' : Nat), Fr h₀ L h' (fun z => if z = Str.ofString "p" then u z else m₀ z) → News h₀ L h' news → Q .next { s with heap := h', toks := tk' }) :
    ∀ (xs : List Addr) (m : Str → Option Value), (∀ z, z ≠ Str.ofString "p" → m z = m₀ z) → (∀ x ∈ xs, PlainOk r news x) →
      ListRest PySem.Challenge.rw_yi0008_01.row.prog w (ktrTop dp un gd (Str.ofString "law") cs L a ccd cl outer) (fun _ _ => False) h₀ (envX (Str.ofString "law") cs L a ccd cl) (Str.ofString "p") bd Q s I lp (xs.map Value.ref) m news := by
  intro xs
  induction xs with
  | nil =>
    intro m hm _
    refine ListRest.zero fun h tk F N => fin m h tk ?_ N
    have e : m = (fun z => if z = Str.ofString "p" then m z else m₀ z) := by
      funext z
      by_cases h1 : z = Str.ofString "p"
      · rw [if_pos h1]
      · rw [if_neg h1]; exact hm z h1
    rw [← e]; exact F
  | cons x xs ih =>
    intro m hm ok
    refine ListRest.succ fun it h tk hc F N => ?_
    obtain ⟨dx, h1, h2, t1, t2, lc, mx, mdx⟩ := ok x List.mem_cons_self
    refine plain_turn hsc hbd B F X N T (.tail _ mx) (.tail _ mdx) hd hu fun h' tk' F' N' => ?_
    exact ⟨h', tk', _, news, rfl, F', N', fun p hp => Nat.ne_of_lt (hI p hp), hlp, ih _ (fun z hz => by rw [if_neg hz]; exact hm z hz) fun y hy => ok y (.tail _ hy)⟩
end

end
theorem fr_put {h₀ h : Heap} {L : Addr} {m : Str → Option Value} {x : Str} {v : Value} (F : Fr h₀ L h m) (e : m x = some v) : Fr h₀ L h (fun y => if y = x then some v else m y) := by
  have e2 : m = (fun y => if y = x then some v else m y) := by
    funext y
    by_cases h : y = x
    · rw [if_pos h, h, e]
    · rw [if_neg h]
  rw [← e2]; exact F
section
local macro_rules | `(tactic| walk_at "exec For Tuple Name cons nil") => `(tactic| (k_here; (rename Fr _ _ _ _ => lF'); (with_unfolding_all refine' For_turns lF' ?_; k_whole)))
local macro_rules | `(tactic| walk_at "pyIter ref") => `(tactic| (refine Mine.Stop.out ?_))
variable {w : World} {mean : ExcName → Option Value} {mg mb : Str → Option Value} {p : Program} {loose : List Str}
  {dp un : Nat} {gd : Option (List Code)} {cs : Scope} {a : Addr} {ccd : Value} {cl : List (Str × Addr)} {outer : List Env} {A₀ : Around} {base h₀ : Heap} {L : Addr} {m : Str → Option Value} {s : Shared} {Q : Flow → Shared → Prop} {R : List (Addr × Obj)}
  {xf df xg dg r dr zl lf lg la lb ax : Addr} {h1 h2 h3 h4 h5 h6 h7 h8 : Int} {t1 t2 t3 t4 t5 t6 t7 t8 t9 t10 t11 : Tok} {vf vg va vb zvs : List Value} {nf ng na nb n2 nx : Nat} {zs ga gb : List Int} {bd : List Stmt}
theorem P30 (its : List Ask) (hsc : cs = lawScp) (hbd : bd = lawStm.drop 30) (B : Below A₀ base outer h₀)
    (F : Fr h₀ L s.heap (fun y => if y = Str.ofString "asked" then some (.ref ax) else if y = Str.ofString "fh" then some (.ref xf) else if y = Str.ofString "gh" then some (.ref xg) else if y = Str.ofString "a" then some (.ref la) else if y = Str.ofString "b" then some (.ref lb) else m y)) (X : (Mine.hd.heap_1 w.params).In h₀)
    (N : News h₀ L s.heap (its.map Ask.ent ++ ((lf, listOf vf.toArray nf) :: (lg, listOf vg.toArray ng) :: R))) (T : Top p loose mean mg mb h₀) (off : ∀ p ∈ (lg, listOf vg.toArray ng) :: R, p.1 ≠ lf) (off2 : ∀ p ∈ R, p.1 ≠ lg)
    (ok : ∀ i ∈ its, AskOk r zs ((lf, listOf vf.toArray nf) :: (lg, listOf vg.toArray ng) :: R) i) (pw : its.Pairwise (fun i j => j.lc ≠ i.lc)) (max : (ax, listOf (its.map fun i => Value.ref i.T).toArray nx) ∈ R)
    (mx : (xf, instObj 426 df) ∈ R) (mdx : (df, polyD h1 h2 t1 t2 r lf) ∈ R) (my : (xg, instObj 426 dg) ∈ R) (mdy : (dg, polyD h3 h4 t3 t4 r lg) ∈ R)
    (mr : (r, instObj 282 dr) ∈ R) (mdr : (dr, ringD h5 h6 h7 h8 t5 t6 t7 t8 t9 t10 t11 zl) ∈ R) (mz : (zl, listOf zvs.toArray n2) ∈ R) (mla : (la, listOf va.toArray na) ∈ R) (mlb : (lb, listOf vb.toArray nb) ∈ R)
    (If : IntsAre vf (nttL zs ga)) (Ig : IntsAre vg (nttL zs gb)) (ef : (nttL zs ga).length = 256) (eg : (nttL zs gb).length = 256) (Ia : IntsAre va ga) (Ib : IntsAre vb gb) (ea : ga.length = 256) (eb : gb.length = 256)
    (Iz : IntsAre zvs zs) (ez : zs.length = 128) (bz : ∀ z ∈ zs, 0 ≤ z ∧ z < 3329) (Z : Inv zs)
    (hd : dp + 16 < recursionLimit) (hu : un + 128 < cLine)
    (ret : ∀ (h' : Heap) (tk' : Nat) (m' : Str → Option Value), Fr h₀ L h' m' → Q (.ret (.bool true)) { s with heap := h', toks := tk' }) :
    wpAny (model PySem.Challenge.rw_yi0008_01.row.prog w) (ktrTop dp un gd (Str.ofString "law") cs L a ccd cl outer) (execs bd (envX (Str.ofString "law") cs L a ccd cl)) Q (fun _ _ => False) s := by
  have hs2 := hsc
  conv at hbd => rhs; whnf
  conv at hsc => rhs; whnf
  subst hbd hsc
  revert X; k_fill; intro X
  k_steps
  (with_reducible rename News _ _ _ _ => Nw)
  (with_reducible rename Fr _ _ _ _ => Fw)
  show wpAny _ _ _ _ _ _
  refine iter_listTurns (lo := listOf (its.map fun i => Value.ref i.T).toArray nx) (vs := its.map fun i => Value.ref i.T) rfl Fw Nw (List.mem_append_right _ (.tail _ (.tail _ max))) rfl rfl fun I lt => ?_
  rw [List.map_map]
  refine asked_loop hs2 rfl rfl B X T (.tail _ (.tail _ mr)) (.tail _ (.tail _ mdr)) (.tail _ (.tail _ mz)) Iz ez bz (.tail _ (.tail _ max)) hd hu (fun u h' tk' F' N' => ?_) its _ (fun _ _ _ => rfl) ok pw lt
  show wpAny _ _ (execs _ _) _ _ _
  exact P31 hs2 rfl B (fr_put (fr_put (fr_put (fr_put F' (v := .ref lb) (x := Str.ofString "b") rfl) (v := .ref la) (x := Str.ofString "a") rfl) (v := .ref xg) (x := Str.ofString "gh") rfl) (v := .ref xf) (x := Str.ofString "fh") rfl) X N' T off off2 mx mdx my mdy mr mdr mz mla mlb If Ig ef eg Ia Ib ea eb Iz ez bz Z hd hu fun h' tk' F => ret _ _ _ F
end

/-- what is so of the asked that are built: their lists stand alone -/
noncomputable def AInv (r : Addr) (zs : List Int) (lk lf lg : Addr) (its : List Ask) (R : List (Addr × Obj)) : Prop :=
  (∀ i ∈ its, AskOk r zs R i) ∧ its.Pairwise (fun i j => j.lc ≠ i.lc) ∧ ∀ p ∈ its.map Ask.ent ++ R, p.1 ≠ lk ∧ p.1 ≠ lf ∧ p.1 ≠ lg
theorem max_mem {ax : Addr} {n : Nat} {its : List Ask} {Ts : List Addr} {R : List (Addr × Obj)} (e : its.map Ask.T = Ts) : (ax, listOf (its.map fun i => Value.ref i.T).toArray n) ∈ (ax, listOf (Ts.map Value.ref).toArray n) :: R := by
  subst e
  rw [List.map_map]
  exact .head _
theorem AskOk.sub {r : Addr} {zs : List Int} {R R' : List (Addr × Obj)} {i : Ask} (o : AskOk r zs R i) (s : Sub R R') (off : ∀ p ∈ R', p.1 ≠ i.lc) : AskOk r zs R' i :=
  ⟨s _ o.mT, s _ o.mx, s _ o.mdx, s _ o.mw, o.I1, o.e1, o.Iw, o.e, off⟩
section
variable {M : Model} {A : Around} {E : Value → Shared → Prop} {s : Shared} {h₀ : Heap} {L : Addr} {m : Str → Option Value} {R : List (Addr × Obj)} {its : List Ask} {r lk lf lg z dz l W : Addr} {ok of og : Obj} {zs C D : List Int}
  {h1 h2 : Int} {t1 t2 : Tok} {ys ws : List Value} {n k : Nat} {Q : Value → Shared → Prop}
/-- a new one is asked: the tuple of it and of what is wanted -/
theorem tup_push (pre : List (Addr × Obj)) (V : AInv r zs lk lf lg its R) (F : Fr h₀ L s.heap m)
    (N : News h₀ L s.heap ((z, instObj 426 dz) :: (dz, polyD h1 h2 t1 t2 r l) :: (l, listOf ys.toArray n) :: (pre ++ (lk, ok) :: (lf, of) :: (lg, og) :: (its.map Ask.ent ++ R))))
    (lt : ∀ q ∈ pre ++ (lk, ok) :: (lf, of) :: (lg, og) :: (its.map Ask.ent ++ R), q.1 < l) (l1 : l < dz) (l2 : dz < z) (I : IntsAre ys C) (e1 : C.length = 256)
    (mw : (W, listOf ws.toArray k) ∈ R) (Iw : IntsAre ws D) (e : inttL zs C = D)
    (h : ∀ (T : Addr) (h' : Heap) (its' : List Ask) (R' : List (Addr × Obj)), Fr h₀ L h' m → News h₀ L h' ((lk, ok) :: (lf, of) :: (lg, og) :: (its'.map Ask.ent ++ R')) → AInv r zs lk lf lg its' R' → Sub R R' → its'.map Ask.T = its.map Ask.T ++ [T] → Q (.ref T) { s with heap := h' }) :
    wpAny M A (newTuple [.ref z, .ref W]) Q E s := by
  refine kup_newTuple F N (fun T h' F' N' ltT => ?_) (by rw [PySem.sizeLine_eq]; show 2 ≤ _; decide)
  obtain ⟨v1, v2, v3⟩ := V
  have lt' : ∀ q ∈ its.map Ask.ent ++ R, q.1 < l := fun q hq => lt q (List.mem_append_right _ (.tail _ (.tail _ (.tail _ hq))))
  have hlk : lk < l := lt (lk, ok) (List.mem_append_right _ (.head _))
  have hlf : lf < l := lt (lf, of) (List.mem_append_right _ (.tail _ (.head _)))
  have hlg : lg < l := lt (lg, og) (List.mem_append_right _ (.tail _ (.tail _ (.head _))))
  have lz : l < z := Nat.lt_trans l1 l2
  have lT : l < T := Nat.lt_trans lz (ltT (z, instObj 426 dz) (.head _))
  have new : ∀ c, c ≤ l → ∀ p ∈ (T, tupO z W) :: (z, instObj 426 dz) :: (dz, polyD h1 h2 t1 t2 r l) :: R, p ∉ R → p.1 ≠ c := by
    intro c hc p hp hn
    rcases List.mem_cons.mp hp with rfl | hp
    · exact Nat.ne_of_gt (Nat.lt_of_le_of_lt hc lT)
    rcases List.mem_cons.mp hp with rfl | hp
    · exact Nat.ne_of_gt (Nat.lt_of_le_of_lt hc lz)
    rcases List.mem_cons.mp hp with rfl | hp
    · exact Nat.ne_of_gt (Nat.lt_of_le_of_lt hc l1)
    · exact absurd hp hn
  have off : ∀ c, c < l → (∀ p ∈ R, p.1 ≠ c) → ∀ p ∈ (T, tupO z W) :: (z, instObj 426 dz) :: (dz, polyD h1 h2 t1 t2 r l) :: R, p.1 ≠ c := fun c hc ho p hp => by
    by_cases hr : p ∈ R
    · exact ho p hr
    · exact new c (Nat.le_of_lt hc) p hp hr
  have sub : Sub R ((T, tupO z W) :: (z, instObj 426 dz) :: (dz, polyD h1 h2 t1 t2 r l) :: R) := fun p hp => .tail _ (.tail _ (.tail _ hp))
  refine h T h' (its ++ [⟨T, z, dz, l, W, h1, h2, t1, t2, ys, ws, n, k, C, D⟩]) ((T, tupO z W) :: (z, instObj 426 dz) :: (dz, polyD h1 h2 t1 t2 r l) :: R) F' (kst_newsOf N' ?_) ⟨?_, ?_, ?_⟩ sub (by rw [List.map_append]; rfl)
  · intro p hp
    have fwd : ∀ q, q ∈ pre ++ (lk, ok) :: (lf, of) :: (lg, og) :: (its.map Ask.ent ++ R) → q ∈ (T, tupO z W) :: (z, instObj 426 dz) :: (dz, polyD h1 h2 t1 t2 r l) :: (l, listOf ys.toArray n) :: (pre ++ (lk, ok) :: (lf, of) :: (lg, og) :: (its.map Ask.ent ++ R)) := fun q hq => .tail _ (.tail _ (.tail _ (.tail _ hq)))
    rcases List.mem_cons.mp hp with rfl | hp
    · exact fwd _ (List.mem_append_right _ (.head _))
    rcases List.mem_cons.mp hp with rfl | hp
    · exact fwd _ (List.mem_append_right _ (.tail _ (.head _)))
    rcases List.mem_cons.mp hp with rfl | hp
    · exact fwd _ (List.mem_append_right _ (.tail _ (.tail _ (.head _))))
    rcases List.mem_append.mp hp with hp | hp
    · rw [List.map_append] at hp
      rcases List.mem_append.mp hp with hp | hp
      · exact fwd _ (List.mem_append_right _ (.tail _ (.tail _ (.tail _ (List.mem_append_left _ hp)))))
      · rw [List.mem_singleton.mp hp]
        exact .tail _ (.tail _ (.tail _ (.head _)))
    rcases List.mem_cons.mp hp with rfl | hp
    · exact .head _
    rcases List.mem_cons.mp hp with rfl | hp
    · exact .tail _ (.head _)
    rcases List.mem_cons.mp hp with rfl | hp
    · exact .tail _ (.tail _ (.head _))
    · exact fwd _ (List.mem_append_right _ (.tail _ (.tail _ (.tail _ (List.mem_append_right _ hp)))))
  · intro i hi
    rcases List.mem_append.mp hi with hi | hi
    · exact (v1 i hi).sub sub (off _ (lt' i.ent (List.mem_append_left _ (List.mem_map.mpr ⟨i, hi, rfl⟩))) (v1 i hi).off)
    · rw [List.mem_singleton.mp hi]
      exact ⟨.head _, .tail _ (.head _), .tail _ (.tail _ (.head _)), sub _ mw, I, e1, Iw, e, fun p hp => by
        by_cases hr : p ∈ R
        · exact Nat.ne_of_lt (lt' p (List.mem_append_right _ hr))
        · exact new l (Nat.le_refl _) p hp hr⟩
  · refine List.pairwise_append.mpr ⟨v2, List.pairwise_singleton _ _, fun i hi j hj => ?_⟩
    rw [List.mem_singleton.mp hj]
    exact Nat.ne_of_gt (lt' i.ent (List.mem_append_left _ (List.mem_map.mpr ⟨i, hi, rfl⟩)))
  · intro p hp
    rcases List.mem_append.mp hp with hp | hp
    · rw [List.map_append] at hp
      rcases List.mem_append.mp hp with hp | hp
      · exact v3 p (List.mem_append_left _ hp)
      · rw [List.mem_singleton.mp hp]
        exact ⟨Nat.ne_of_gt hlk, Nat.ne_of_gt hlf, Nat.ne_of_gt hlg⟩
    · exact ⟨off lk hlk (fun q hq => (v3 q (List.mem_append_right _ hq)).1) p hp, off lf hlf (fun q hq => (v3 q (List.mem_append_right _ hq)).2.1) p hp, off lg hlg (fun q hq => (v3 q (List.mem_append_right _ hq)).2.2) p hp⟩
theorem tup_push0 (V : AInv r zs lk lf lg its R) (F : Fr h₀ L s.heap m)
    (N : News h₀ L s.heap ((z, instObj 426 dz) :: (dz, polyD h1 h2 t1 t2 r l) :: (l, listOf ys.toArray n) :: (lk, ok) :: (lf, of) :: (lg, og) :: (its.map Ask.ent ++ R)))
    (lt : ∀ q ∈ (lk, ok) :: (lf, of) :: (lg, og) :: (its.map Ask.ent ++ R), q.1 < l) (l1 : l < dz) (l2 : dz < z) (I : IntsAre ys C) (e1 : C.length = 256)
    (mw : (W, listOf ws.toArray k) ∈ R) (Iw : IntsAre ws D) (e : inttL zs C = D)
    (h : ∀ (T : Addr) (h' : Heap) (its' : List Ask) (R' : List (Addr × Obj)), Fr h₀ L h' m → News h₀ L h' ((lk, ok) :: (lf, of) :: (lg, og) :: (its'.map Ask.ent ++ R')) → AInv r zs lk lf lg its' R' → Sub R R' → its'.map Ask.T = its.map Ask.T ++ [T] → Q (.ref T) { s with heap := h' }) :
    wpAny M A (newTuple [.ref z, .ref W]) Q E s := tup_push [] V F N lt l1 l2 I e1 mw Iw e h
theorem tup_push1 {p1 : Addr × Obj} (V : AInv r zs lk lf lg its R) (F : Fr h₀ L s.heap m)
    (N : News h₀ L s.heap ((z, instObj 426 dz) :: (dz, polyD h1 h2 t1 t2 r l) :: (l, listOf ys.toArray n) :: p1 :: (lk, ok) :: (lf, of) :: (lg, og) :: (its.map Ask.ent ++ R)))
    (lt : ∀ q ∈ p1 :: (lk, ok) :: (lf, of) :: (lg, og) :: (its.map Ask.ent ++ R), q.1 < l) (l1 : l < dz) (l2 : dz < z) (I : IntsAre ys C) (e1 : C.length = 256)
    (mw : (W, listOf ws.toArray k) ∈ R) (Iw : IntsAre ws D) (e : inttL zs C = D)
    (h : ∀ (T : Addr) (h' : Heap) (its' : List Ask) (R' : List (Addr × Obj)), Fr h₀ L h' m → News h₀ L h' ((lk, ok) :: (lf, of) :: (lg, og) :: (its'.map Ask.ent ++ R')) → AInv r zs lk lf lg its' R' → Sub R R' → its'.map Ask.T = its.map Ask.T ++ [T] → Q (.ref T) { s with heap := h' }) :
    wpAny M A (newTuple [.ref z, .ref W]) Q E s := tup_push [p1] V F N lt l1 l2 I e1 mw Iw e h
theorem tup_push6 {p1 p2 p3 p4 p5 p6 : Addr × Obj} (V : AInv r zs lk lf lg its R) (F : Fr h₀ L s.heap m)
    (N : News h₀ L s.heap ((z, instObj 426 dz) :: (dz, polyD h1 h2 t1 t2 r l) :: (l, listOf ys.toArray n) :: p1 :: p2 :: p3 :: p4 :: p5 :: p6 :: (lk, ok) :: (lf, of) :: (lg, og) :: (its.map Ask.ent ++ R)))
    (lt : ∀ q ∈ p1 :: p2 :: p3 :: p4 :: p5 :: p6 :: (lk, ok) :: (lf, of) :: (lg, og) :: (its.map Ask.ent ++ R), q.1 < l) (l1 : l < dz) (l2 : dz < z) (I : IntsAre ys C) (e1 : C.length = 256)
    (mw : (W, listOf ws.toArray k) ∈ R) (Iw : IntsAre ws D) (e : inttL zs C = D)
    (h : ∀ (T : Addr) (h' : Heap) (its' : List Ask) (R' : List (Addr × Obj)), Fr h₀ L h' m → News h₀ L h' ((lk, ok) :: (lf, of) :: (lg, og) :: (its'.map Ask.ent ++ R')) → AInv r zs lk lf lg its' R' → Sub R R' → its'.map Ask.T = its.map Ask.T ++ [T] → Q (.ref T) { s with heap := h' }) :
    wpAny M A (newTuple [.ref z, .ref W]) Q E s := tup_push [p1, p2, p3, p4, p5, p6] V F N lt l1 l2 I e1 mw Iw e h
/-- the last of the asked, whose list stood before -/
theorem tup_last {ks : List Value} {nk : Nat} (V : AInv r zs l lf lg its R) (F : Fr h₀ L s.heap m)
    (N : News h₀ L s.heap ((l, listOf ks.toArray nk) :: (lf, of) :: (lg, og) :: (its.map Ask.ent ++ R))) (mz : (z, instObj 426 dz) ∈ R) (mdz : (dz, polyD h1 h2 t1 t2 r l) ∈ R) (I : IntsAre ks C) (e1 : C.length = 256)
    (mw : (W, listOf ws.toArray k) ∈ R) (Iw : IntsAre ws D) (e : inttL zs C = D) (hf : lf ≠ l) (hg : lg ≠ l)
    (h : ∀ (T : Addr) (h' : Heap) (its' : List Ask) (R' : List (Addr × Obj)), Fr h₀ L h' m → News h₀ L h' (its'.map Ask.ent ++ (lf, of) :: (lg, og) :: R') → (∀ i ∈ its', AskOk r zs ((lf, of) :: (lg, og) :: R') i) → its'.Pairwise (fun i j => j.lc ≠ i.lc) → (∀ p ∈ R', p.1 ≠ lf) → (∀ p ∈ R', p.1 ≠ lg) → Sub R R' → its'.map Ask.T = its.map Ask.T ++ [T] → Q (.ref T) { s with heap := h' }) :
    wpAny M A (newTuple [.ref z, .ref W]) Q E s := by
  refine kup_newTuple F N (fun T h' F' N' ltT => ?_) (by rw [PySem.sizeLine_eq]; show 2 ≤ _; decide)
  obtain ⟨v1, v2, v3⟩ := V
  have sub : Sub R ((T, tupO z W) :: R) := fun p hp => .tail _ hp
  have sub2 : Sub R ((lf, of) :: (lg, og) :: (T, tupO z W) :: R) := fun p hp => .tail _ (.tail _ (.tail _ hp))
  have hlT : l < T := ltT (l, listOf ks.toArray nk) (.head _)
  have hfT : lf < T := ltT (lf, of) (.tail _ (.head _))
  have hgT : lg < T := ltT (lg, og) (.tail _ (.tail _ (.head _)))
  have entT : ∀ i ∈ its, i.lc < T := fun i hi => ltT i.ent (.tail _ (.tail _ (.tail _ (List.mem_append_left _ (List.mem_map.mpr ⟨i, hi, rfl⟩)))))
  have ent3 : ∀ i ∈ its, i.lc ≠ l ∧ i.lc ≠ lf ∧ i.lc ≠ lg := fun i hi => v3 i.ent (List.mem_append_left _ (List.mem_map.mpr ⟨i, hi, rfl⟩))
  have off : ∀ c, c < T → lf ≠ c → lg ≠ c → (∀ p ∈ R, p.1 ≠ c) → ∀ p ∈ (lf, of) :: (lg, og) :: (T, tupO z W) :: R, p.1 ≠ c := by
    intro c hc a b ho p hp
    rcases List.mem_cons.mp hp with rfl | hp
    · exact a
    rcases List.mem_cons.mp hp with rfl | hp
    · exact b
    rcases List.mem_cons.mp hp with rfl | hp
    · exact Nat.ne_of_gt hc
    · exact ho p hp
  refine h T h' (its ++ [⟨T, z, dz, l, W, h1, h2, t1, t2, ks, ws, nk, k, C, D⟩]) ((T, tupO z W) :: R) F' (kst_newsOf N' ?_) ?_ ?_ ?_ ?_ sub (by rw [List.map_append]; rfl)
  · intro p hp
    rcases List.mem_append.mp hp with hp | hp
    · rw [List.map_append] at hp
      rcases List.mem_append.mp hp with hp | hp
      · exact .tail _ (.tail _ (.tail _ (.tail _ (List.mem_append_left _ hp))))
      · rw [List.mem_singleton.mp hp]
        exact .tail _ (.head _)
    rcases List.mem_cons.mp hp with rfl | hp
    · exact .tail _ (.tail _ (.head _))
    rcases List.mem_cons.mp hp with rfl | hp
    · exact .tail _ (.tail _ (.tail _ (.head _)))
    rcases List.mem_cons.mp hp with rfl | hp
    · exact .head _
    · exact .tail _ (.tail _ (.tail _ (.tail _ (List.mem_append_right _ hp))))
  · intro i hi
    rcases List.mem_append.mp hi with hi | hi
    · exact (v1 i hi).sub sub2 (off _ (entT i hi) (Ne.symm (ent3 i hi).2.1) (Ne.symm (ent3 i hi).2.2) (v1 i hi).off)
    · rw [List.mem_singleton.mp hi]
      exact ⟨.tail _ (.tail _ (.head _)), sub2 _ mz, sub2 _ mdz, sub2 _ mw, I, e1, Iw, e, off l hlT hf hg fun p hp => (v3 p (List.mem_append_right _ hp)).1⟩
  · refine List.pairwise_append.mpr ⟨v2, List.pairwise_singleton _ _, fun i hi j hj => ?_⟩
    rw [List.mem_singleton.mp hj]
    exact Ne.symm (ent3 i hi).1
  · intro p hp
    rcases List.mem_cons.mp hp with rfl | hp
    · exact Nat.ne_of_gt hfT
    · exact (v3 p (List.mem_append_right _ hp)).2.1
  · intro p hp
    rcases List.mem_cons.mp hp with rfl | hp
    · exact Nat.ne_of_gt hgT
    · exact (v3 p (List.mem_append_right _ hp)).2.2
/-- the asked list stands: what the loop wants -/
theorem ask_fin {ax : Addr} {oa : Obj} {h : Heap} (N : News h₀ L h ((ax, oa) :: (its.map Ask.ent ++ (lf, of) :: (lg, og) :: R))) (lt : ∀ q ∈ its.map Ask.ent ++ (lf, of) :: (lg, og) :: R, q.1 < ax) (ok : ∀ i ∈ its, AskOk r zs ((lf, of) :: (lg, og) :: R) i)
    (o1 : ∀ p ∈ R, p.1 ≠ lf) (o2 : ∀ p ∈ R, p.1 ≠ lg) : News h₀ L h (its.map Ask.ent ++ (lf, of) :: (lg, og) :: (ax, oa) :: R) ∧ (∀ i ∈ its, AskOk r zs ((lf, of) :: (lg, og) :: (ax, oa) :: R) i) ∧ (∀ p ∈ (ax, oa) :: R, p.1 ≠ lf) ∧ ∀ p ∈ (ax, oa) :: R, p.1 ≠ lg := by
  refine ⟨kst_newsOf N fun p hp => ?_, fun i hi => (ok i hi).sub (fun p hp => ?_) fun p hp => ?_, fun p hp => ?_, fun p hp => ?_⟩
  · rcases List.mem_append.mp hp with hp | hp
    · exact .tail _ (List.mem_append_left _ hp)
    rcases List.mem_cons.mp hp with rfl | hp
    · exact .tail _ (List.mem_append_right _ (.head _))
    rcases List.mem_cons.mp hp with rfl | hp
    · exact .tail _ (List.mem_append_right _ (.tail _ (.head _)))
    rcases List.mem_cons.mp hp with rfl | hp
    · exact .head _
    · exact .tail _ (List.mem_append_right _ (.tail _ (.tail _ hp)))
  · rcases List.mem_cons.mp hp with rfl | hp
    · exact .head _
    rcases List.mem_cons.mp hp with rfl | hp
    · exact .tail _ (.head _)
    · exact .tail _ (.tail _ (.tail _ hp))
  · rcases List.mem_cons.mp hp with rfl | hp
    · exact (ok i hi).off _ (.head _)
    rcases List.mem_cons.mp hp with rfl | hp
    · exact (ok i hi).off _ (.tail _ (.head _))
    rcases List.mem_cons.mp hp with rfl | hp
    · exact Nat.ne_of_gt (lt i.ent (List.mem_append_left _ (List.mem_map.mpr ⟨i, hi, rfl⟩)))
    · exact (ok i hi).off _ (.tail _ (.tail _ hp))
  · rcases List.mem_cons.mp hp with rfl | hp
    · exact Nat.ne_of_gt (lt (lf, of) (List.mem_append_right _ (.head _)))
    · exact o1 p hp
  · rcases List.mem_cons.mp hp with rfl | hp
    · exact Nat.ne_of_gt (lt (lg, og) (List.mem_append_right _ (.tail _ (.head _))))
    · exact o2 p hp
end

section
local macro_rules | `(tactic| walk_at "CmpBack") => `(tactic| refine Mine.cmpBack_ref ?_)
local macro_rules | `(tactic| walk_at "my_mulok") => `(tactic| first | with_reducible assumption | with_reducible exact Mine.mulok_ntt | with_reducible exact Mine.mulok_add | with_reducible exact Mine.mulok_sub | with_reducible exact Mine.mulok_mul)
local macro_rules | `(tactic| k_mem) => `(tactic| first | exact List.Mem.head _ | with_reducible assumption | (refine List.mem_append_right _ ?_; k_mem) | (refine List.Mem.tail _ ?_; k_mem) | (refine Mine.Sub.mem (by with_reducible assumption) ?_; k_mem))
local macro_rules | `(tactic| walk_at "binaryOp Mult int ref") => `(tactic| (k_here; k_dflt (refine' Mine.binR (nm := "mul") ?F ?X ?I ?hi ?hC ?hS ?hR ?hF ?hfill ?hsub ?ht ?_; (case F => k_asm); (case X => k_asm); (case I => k_inst); (case hi => rfl); (case hC => k_is); (case hS => k_is); (case hR => k_is); (case hF => k_is); (case hfill => exact PySem.F.fills_int_mul); (case hsub => k_is); (case ht => exact fun _ hq => Mine.try_mul (News.get (by k_asm) (by k_mem)) hq); k_whole)))
local macro_rules | `(tactic| walk_at "binaryOp Add ref ref") => `(tactic| (k_here; k_dflt (refine' binop_K ?k1 ?k2 ?k3 ?k4 ?k5 ?k6 ?k7 ?_; (case k1 => k_asm); (case k2 => k_asm); (case k3 => k_inst); (case k4 => k_typeOf); (case k5 => k_is); (case k6 => k_is); (case k7 => k_is); k_whole)))
local macro_rules | `(tactic| walk_at "binaryOp Sub ref ref") => `(tactic| (k_here; k_dflt (refine' binop_K ?k1 ?k2 ?k3 ?k4 ?k5 ?k6 ?k7 ?_; (case k1 => k_asm); (case k2 => k_asm); (case k3 => k_inst); (case k4 => k_typeOf); (case k5 => k_is); (case k6 => k_is); (case k7 => k_is); k_whole)))
local macro_rules | `(tactic| walk_at "binaryOp Mult ref int") => `(tactic| ksp_bin)
local macro_rules | `(tactic| walk_at "loadName") => `(tactic| (k_here; k_dflt (refine' Mine.loadX_L ?F ?hk ?hx ?hv ?_; (case F => k_asm); (case hk => exact rfl); (case hx => exact rfl); (case hv => exact rfl); k_whole)))
local macro_rules | `(tactic| walk_at "newList") => `(tactic| (k_here; k_dflt (refine' newList_K ?k1 ?k2 ?_; (case k1 => k_asm); (case k2 => k_asm); k_whole); intro l' h' F' N' l1))
set_option hygiene false in
local macro_rules | `(tactic| walk_at "call ref") => `(tactic| (k_here; o_head (139, 50); k_dflt ((o_head (Mine.add_P, 9)); k_whole); walk_at "q_n"))
set_option hygiene false in
local macro_rules | `(tactic| walk_at "call ref") => `(tactic| (k_here; o_head (165, 50); k_dflt ((o_head (Mine.sub_P, 9)); k_whole); walk_at "q_n"))
set_option hygiene false in
local macro_rules | `(tactic| walk_at "call ref") => `(tactic| (k_here; o_head (184, 51); k_dflt ((o_head (Mine.mul_P, 10)); k_whole); walk_at "q_n"))
set_option hygiene false in
local macro_rules | `(tactic| walk_at "call ref") => `(tactic| (k_here; o_head (411, 50); k_dflt ((o_head (Mine.add_N, 9)); k_whole); walk_at "q_n"))
set_option hygiene false in
local macro_rules | `(tactic| walk_at "call ref") => `(tactic| (k_here; o_head (418, 50); k_dflt ((o_head (Mine.sub_N, 9)); k_whole); walk_at "q_n"))
set_option hygiene false in
local macro_rules | `(tactic| walk_at "call ref") => `(tactic| (k_here; o_head (423, 51); k_dflt ((o_head (Mine.mul_N, 10)); k_whole); walk_at "q_n"))
section
variable {w : World} {mean : ExcName → Option Value} {mg mb : Str → Option Value} {p : Program} {loose : List Str}
  {dp un : Nat} {gd : Option (List Code)} {cn : Str} {cs : Scope} {a : Addr} {ccd : Value} {cl : List (Str × Addr)} {outer : List Env} {A₀ : Around} {base h₀ : Heap} {L : Addr} {m : Str → Option Value} {s : Shared} {Q E : Value → Shared → Prop} {news : List (Addr × Obj)}
  {x dx y dy r dr zl l1 l2 C : Addr} {h1 h2 h3 h4 h5 h6 h7 h8 : Int} {t1 t2 t3 t4 t5 t6 t7 t8 t9 t10 t11 : Tok} {vs us : List Value} {n1 n2 : Nat} {ns ks : List Int} {o : Int} {ot : Tok}
theorem iadd_P (B : Below A₀ base outer h₀) (F : Fr h₀ L s.heap m) (X : (Mine.hd.heap_1 w.params).In h₀) (N : News h₀ L s.heap news) (T : Top p loose mean mg mb h₀) (hk : cs.kind = .function)
    (mx : (x, instObj 350 dx) ∈ news) (mdx : (dx, polyD h1 h2 t1 t2 r l1) ∈ news) (ml : (l1, listOf vs.toArray n1) ∈ news)
    (my : (y, instObj 350 dy) ∈ news) (mdy : (dy, polyD h3 h4 t3 t4 r l2) ∈ news) (ml2 : (l2, listOf us.toArray n2) ∈ news)
    (mr : (r, instObj 282 dr) ∈ news) (mdr : (dr, ringD h5 h6 h7 h8 t5 t6 t7 t8 t9 t10 t11 zl) ∈ news)
    (I1 : IntsAre vs ns) (I2 : IntsAre us ks) (e1 : ns.length = 256) (e2 : ks.length = 256)
    (hd : dp + 48 < recursionLimit) (hu : un + 512 < cLine)
    (ret : ∀ (z dz l : Addr) (h1 h2 : Int) (t1 t2 : Tok) (h' : Heap) (tk' : Nat) (ys : List Value) (n : Nat), Fr h₀ L h' m → News h₀ L h' ((z, instObj 350 dz) :: (dz, polyD h1 h2 t1 t2 r l) :: (l, listOf ys.toArray n) :: news) → (∀ q ∈ news, q.1 < l) → l < dz → dz < z → IntsAre ys (addL ns ks) → (addL ns ks).length = 256 → Q (.ref z) { s with heap := h', toks := tk' }) :
    wpAny (model PySem.Challenge.rw_yi0008_01.row.prog w) (ktrTop dp un gd cn cs L a ccd cl outer) (call (.ref 153) [.ref x, .ref y]) Q E s := by
  revert X; k_fill; intro X
  obtain ⟨ck, cnm, cg, cco, cmo⟩ := cs
  cases hk
  refine wpAny_call ?_
  k_dflt k_enter
  k_steps
  exact ret _ _ _ _ _ _ _ _ _ _ _ (by k_asm) (kst_newsOf (by k_asm) (by kcf_all)) (by first | assumption | exact kst_ltOf (by assumption) | exact kst_ltOf (And.right (by assumption)) | exact kst_ltOf (And.right (And.right (by assumption)))) (by assumption) (by assumption) (by assumption) (by assumption)
theorem isub_P (B : Below A₀ base outer h₀) (F : Fr h₀ L s.heap m) (X : (Mine.hd.heap_1 w.params).In h₀) (N : News h₀ L s.heap news) (T : Top p loose mean mg mb h₀) (hk : cs.kind = .function)
    (mx : (x, instObj 350 dx) ∈ news) (mdx : (dx, polyD h1 h2 t1 t2 r l1) ∈ news) (ml : (l1, listOf vs.toArray n1) ∈ news)
    (my : (y, instObj 350 dy) ∈ news) (mdy : (dy, polyD h3 h4 t3 t4 r l2) ∈ news) (ml2 : (l2, listOf us.toArray n2) ∈ news)
    (mr : (r, instObj 282 dr) ∈ news) (mdr : (dr, ringD h5 h6 h7 h8 t5 t6 t7 t8 t9 t10 t11 zl) ∈ news)
    (I1 : IntsAre vs ns) (I2 : IntsAre us ks) (e1 : ns.length = 256) (e2 : ks.length = 256)
    (hd : dp + 48 < recursionLimit) (hu : un + 512 < cLine)
    (ret : ∀ (z dz l : Addr) (h1 h2 : Int) (t1 t2 : Tok) (h' : Heap) (tk' : Nat) (ys : List Value) (n : Nat), Fr h₀ L h' m → News h₀ L h' ((z, instObj 350 dz) :: (dz, polyD h1 h2 t1 t2 r l) :: (l, listOf ys.toArray n) :: news) → (∀ q ∈ news, q.1 < l) → l < dz → dz < z → IntsAre ys (subL ns ks) → (subL ns ks).length = 256 → Q (.ref z) { s with heap := h', toks := tk' }) :
    wpAny (model PySem.Challenge.rw_yi0008_01.row.prog w) (ktrTop dp un gd cn cs L a ccd cl outer) (call (.ref 179) [.ref x, .ref y]) Q E s := by
  revert X; k_fill; intro X
  obtain ⟨ck, cnm, cg, cco, cmo⟩ := cs
  cases hk
  refine wpAny_call ?_
  k_dflt k_enter
  k_steps
  exact ret _ _ _ _ _ _ _ _ _ _ _ (by k_asm) (kst_newsOf (by k_asm) (by kcf_all)) (by first | assumption | exact kst_ltOf (by assumption) | exact kst_ltOf (And.right (by assumption)) | exact kst_ltOf (And.right (And.right (by assumption)))) (by assumption) (by assumption) (by assumption) (by assumption)
theorem imul_P (B : Below A₀ base outer h₀) (F : Fr h₀ L s.heap m) (X : (Mine.hd.heap_1 w.params).In h₀) (N : News h₀ L s.heap news) (T : Top p loose mean mg mb h₀) (hk : cs.kind = .function)
    (mx : (x, instObj 350 dx) ∈ news) (mdx : (dx, polyD h1 h2 t1 t2 r l1) ∈ news) (ml : (l1, listOf vs.toArray n1) ∈ news)
    (mr : (r, instObj 282 dr) ∈ news) (mdr : (dr, ringD h5 h6 h7 h8 t5 t6 t7 t8 t9 t10 t11 zl) ∈ news)
    (I1 : IntsAre vs ns) (e1 : ns.length = 256) (hm : ∀ c ∈ ns, IntMulOk c o)
    (hd : dp + 48 < recursionLimit) (hu : un + 512 < cLine)
    (ret : ∀ (z dz l : Addr) (h1 h2 : Int) (t1 t2 : Tok) (h' : Heap) (tk' : Nat) (ys : List Value) (n : Nat), Fr h₀ L h' m → News h₀ L h' ((z, instObj 350 dz) :: (dz, polyD h1 h2 t1 t2 r l) :: (l, listOf ys.toArray n) :: news) → (∀ q ∈ news, q.1 < l) → l < dz → dz < z → IntsAre ys (mulL o ns) → (mulL o ns).length = 256 → Q (.ref z) { s with heap := h', toks := tk' }) :
    wpAny (model PySem.Challenge.rw_yi0008_01.row.prog w) (ktrTop dp un gd cn cs L a ccd cl outer) (call (.ref 198) [.ref x, .int o ot]) Q E s := by
  revert X; k_fill; intro X
  obtain ⟨ck, cnm, cg, cco, cmo⟩ := cs
  cases hk
  refine wpAny_call ?_
  k_dflt k_enter
  k_steps
  exact ret _ _ _ _ _ _ _ _ _ _ _ (by k_asm) (kst_newsOf (by k_asm) (by kcf_all)) (by first | assumption | exact kst_ltOf (by assumption) | exact kst_ltOf (And.right (by assumption)) | exact kst_ltOf (And.right (And.right (by assumption)))) (by assumption) (by assumption) (by assumption) (by assumption)
theorem rmul_P (B : Below A₀ base outer h₀) (F : Fr h₀ L s.heap m) (X : (Mine.hd.heap_1 w.params).In h₀) (N : News h₀ L s.heap news) (T : Top p loose mean mg mb h₀) (hk : cs.kind = .function)
    (mx : (x, instObj 350 dx) ∈ news) (mdx : (dx, polyD h1 h2 t1 t2 r l1) ∈ news) (ml : (l1, listOf vs.toArray n1) ∈ news)
    (mr : (r, instObj 282 dr) ∈ news) (mdr : (dr, ringD h5 h6 h7 h8 t5 t6 t7 t8 t9 t10 t11 zl) ∈ news)
    (I1 : IntsAre vs ns) (e1 : ns.length = 256) (hm : ∀ c ∈ ns, IntMulOk c o)
    (hd : dp + 48 < recursionLimit) (hu : un + 512 < cLine)
    (ret : ∀ (z dz l : Addr) (h1 h2 : Int) (t1 t2 : Tok) (h' : Heap) (tk' : Nat) (ys : List Value) (n : Nat), Fr h₀ L h' m → News h₀ L h' ((z, instObj 350 dz) :: (dz, polyD h1 h2 t1 t2 r l) :: (l, listOf ys.toArray n) :: news) → (∀ q ∈ news, q.1 < l) → l < dz → dz < z → IntsAre ys (mulL o ns) → (mulL o ns).length = 256 → Q (.ref z) { s with heap := h', toks := tk' }) :
    wpAny (model PySem.Challenge.rw_yi0008_01.row.prog w) (ktrTop dp un gd cn cs L a ccd cl outer) (call (.ref 191) [.ref x, .int o ot]) Q E s := by
  revert X; k_fill; intro X
  obtain ⟨ck, cnm, cg, cco, cmo⟩ := cs
  cases hk
  refine wpAny_call ?_
  k_dflt k_enter
  k_steps
  exact ret _ _ _ _ _ _ _ _ _ _ _ (by k_asm) (kst_newsOf (by k_asm) (by kcf_all)) (by first | assumption | exact kst_ltOf (by assumption) | exact kst_ltOf (And.right (by assumption)) | exact kst_ltOf (And.right (And.right (by assumption)))) (by assumption) (by assumption) (by assumption) (by assumption)
theorem iadd_N (B : Below A₀ base outer h₀) (F : Fr h₀ L s.heap m) (X : (Mine.hd.heap_1 w.params).In h₀) (N : News h₀ L s.heap news) (T : Top p loose mean mg mb h₀) (hk : cs.kind = .function)
    (mx : (x, instObj 426 dx) ∈ news) (mdx : (dx, polyD h1 h2 t1 t2 r l1) ∈ news) (ml : (l1, listOf vs.toArray n1) ∈ news)
    (my : (y, instObj 426 dy) ∈ news) (mdy : (dy, polyD h3 h4 t3 t4 r l2) ∈ news) (ml2 : (l2, listOf us.toArray n2) ∈ news)
    (mr : (r, instObj 282 dr) ∈ news) (mdr : (dr, ringD h5 h6 h7 h8 t5 t6 t7 t8 t9 t10 t11 zl) ∈ news)
    (I1 : IntsAre vs ns) (I2 : IntsAre us ks) (e1 : ns.length = 256) (e2 : ks.length = 256)
    (hd : dp + 48 < recursionLimit) (hu : un + 512 < cLine)
    (ret : ∀ (z dz l : Addr) (h1 h2 : Int) (t1 t2 : Tok) (h' : Heap) (tk' : Nat) (ys : List Value) (n : Nat), Fr h₀ L h' m → News h₀ L h' ((z, instObj 426 dz) :: (dz, polyD h1 h2 t1 t2 r l) :: (l, listOf ys.toArray n) :: news) → (∀ q ∈ news, q.1 < l) → l < dz → dz < z → IntsAre ys (addL ns ks) → (addL ns ks).length = 256 → Q (.ref z) { s with heap := h', toks := tk' }) :
    wpAny (model PySem.Challenge.rw_yi0008_01.row.prog w) (ktrTop dp un gd cn cs L a ccd cl outer) (call (.ref 153) [.ref x, .ref y]) Q E s := by
  revert X; k_fill; intro X
  obtain ⟨ck, cnm, cg, cco, cmo⟩ := cs
  cases hk
  refine wpAny_call ?_
  k_dflt k_enter
  k_steps
  exact ret _ _ _ _ _ _ _ _ _ _ _ (by k_asm) (kst_newsOf (by k_asm) (by kcf_all)) (by first | assumption | exact kst_ltOf (by assumption) | exact kst_ltOf (And.right (by assumption)) | exact kst_ltOf (And.right (And.right (by assumption)))) (by assumption) (by assumption) (by assumption) (by assumption)
theorem isub_N (B : Below A₀ base outer h₀) (F : Fr h₀ L s.heap m) (X : (Mine.hd.heap_1 w.params).In h₀) (N : News h₀ L s.heap news) (T : Top p loose mean mg mb h₀) (hk : cs.kind = .function)
    (mx : (x, instObj 426 dx) ∈ news) (mdx : (dx, polyD h1 h2 t1 t2 r l1) ∈ news) (ml : (l1, listOf vs.toArray n1) ∈ news)
    (my : (y, instObj 426 dy) ∈ news) (mdy : (dy, polyD h3 h4 t3 t4 r l2) ∈ news) (ml2 : (l2, listOf us.toArray n2) ∈ news)
    (mr : (r, instObj 282 dr) ∈ news) (mdr : (dr, ringD h5 h6 h7 h8 t5 t6 t7 t8 t9 t10 t11 zl) ∈ news)
    (I1 : IntsAre vs ns) (I2 : IntsAre us ks) (e1 : ns.length = 256) (e2 : ks.length = 256)
    (hd : dp + 48 < recursionLimit) (hu : un + 512 < cLine)
    (ret : ∀ (z dz l : Addr) (h1 h2 : Int) (t1 t2 : Tok) (h' : Heap) (tk' : Nat) (ys : List Value) (n : Nat), Fr h₀ L h' m → News h₀ L h' ((z, instObj 426 dz) :: (dz, polyD h1 h2 t1 t2 r l) :: (l, listOf ys.toArray n) :: news) → (∀ q ∈ news, q.1 < l) → l < dz → dz < z → IntsAre ys (subL ns ks) → (subL ns ks).length = 256 → Q (.ref z) { s with heap := h', toks := tk' }) :
    wpAny (model PySem.Challenge.rw_yi0008_01.row.prog w) (ktrTop dp un gd cn cs L a ccd cl outer) (call (.ref 179) [.ref x, .ref y]) Q E s := by
  revert X; k_fill; intro X
  obtain ⟨ck, cnm, cg, cco, cmo⟩ := cs
  cases hk
  refine wpAny_call ?_
  k_dflt k_enter
  k_steps
  exact ret _ _ _ _ _ _ _ _ _ _ _ (by k_asm) (kst_newsOf (by k_asm) (by kcf_all)) (by first | assumption | exact kst_ltOf (by assumption) | exact kst_ltOf (And.right (by assumption)) | exact kst_ltOf (And.right (And.right (by assumption)))) (by assumption) (by assumption) (by assumption) (by assumption)
theorem imul_N (B : Below A₀ base outer h₀) (F : Fr h₀ L s.heap m) (X : (Mine.hd.heap_1 w.params).In h₀) (N : News h₀ L s.heap news) (T : Top p loose mean mg mb h₀) (hk : cs.kind = .function)
    (mx : (x, instObj 426 dx) ∈ news) (mdx : (dx, polyD h1 h2 t1 t2 r l1) ∈ news) (ml : (l1, listOf vs.toArray n1) ∈ news)
    (mr : (r, instObj 282 dr) ∈ news) (mdr : (dr, ringD h5 h6 h7 h8 t5 t6 t7 t8 t9 t10 t11 zl) ∈ news)
    (I1 : IntsAre vs ns) (e1 : ns.length = 256) (hm : ∀ c ∈ ns, IntMulOk c o)
    (hd : dp + 48 < recursionLimit) (hu : un + 512 < cLine)
    (ret : ∀ (z dz l : Addr) (h1 h2 : Int) (t1 t2 : Tok) (h' : Heap) (tk' : Nat) (ys : List Value) (n : Nat), Fr h₀ L h' m → News h₀ L h' ((z, instObj 426 dz) :: (dz, polyD h1 h2 t1 t2 r l) :: (l, listOf ys.toArray n) :: news) → (∀ q ∈ news, q.1 < l) → l < dz → dz < z → IntsAre ys (mulL o ns) → (mulL o ns).length = 256 → Q (.ref z) { s with heap := h', toks := tk' }) :
    wpAny (model PySem.Challenge.rw_yi0008_01.row.prog w) (ktrTop dp un gd cn cs L a ccd cl outer) (call (.ref 198) [.ref x, .int o ot]) Q E s := by
  revert X; k_fill; intro X
  obtain ⟨ck, cnm, cg, cco, cmo⟩ := cs
  cases hk
  refine wpAny_call ?_
  k_dflt k_enter
  k_steps
  exact ret _ _ _ _ _ _ _ _ _ _ _ (by k_asm) (kst_newsOf (by k_asm) (by kcf_all)) (by first | assumption | exact kst_ltOf (by assumption) | exact kst_ltOf (And.right (by assumption)) | exact kst_ltOf (And.right (And.right (by assumption)))) (by assumption) (by assumption) (by assumption) (by assumption)
theorem rmul_N (B : Below A₀ base outer h₀) (F : Fr h₀ L s.heap m) (X : (Mine.hd.heap_1 w.params).In h₀) (N : News h₀ L s.heap news) (T : Top p loose mean mg mb h₀) (hk : cs.kind = .function)
    (mx : (x, instObj 426 dx) ∈ news) (mdx : (dx, polyD h1 h2 t1 t2 r l1) ∈ news) (ml : (l1, listOf vs.toArray n1) ∈ news)
    (mr : (r, instObj 282 dr) ∈ news) (mdr : (dr, ringD h5 h6 h7 h8 t5 t6 t7 t8 t9 t10 t11 zl) ∈ news)
    (I1 : IntsAre vs ns) (e1 : ns.length = 256) (hm : ∀ c ∈ ns, IntMulOk c o)
    (hd : dp + 48 < recursionLimit) (hu : un + 512 < cLine)
    (ret : ∀ (z dz l : Addr) (h1 h2 : Int) (t1 t2 : Tok) (h' : Heap) (tk' : Nat) (ys : List Value) (n : Nat), Fr h₀ L h' m → News h₀ L h' ((z, instObj 426 dz) :: (dz, polyD h1 h2 t1 t2 r l) :: (l, listOf ys.toArray n) :: news) → (∀ q ∈ news, q.1 < l) → l < dz → dz < z → IntsAre ys (mulL o ns) → (mulL o ns).length = 256 → Q (.ref z) { s with heap := h', toks := tk' }) :
    wpAny (model PySem.Challenge.rw_yi0008_01.row.prog w) (ktrTop dp un gd cn cs L a ccd cl outer) (call (.ref 191) [.ref x, .int o ot]) Q E s := by
  revert X; k_fill; intro X
  obtain ⟨ck, cnm, cg, cco, cmo⟩ := cs
  cases hk
  refine wpAny_call ?_
  k_dflt k_enter
  k_steps
  exact ret _ _ _ _ _ _ _ _ _ _ _ (by k_asm) (kst_newsOf (by k_asm) (by kcf_all)) (by first | assumption | exact kst_ltOf (by assumption) | exact kst_ltOf (And.right (by assumption)) | exact kst_ltOf (And.right (And.right (by assumption)))) (by assumption) (by assumption) (by assumption) (by assumption)
end

section
set_option hygiene false in
local macro_rules | `(tactic| walk_at "call ref") => `(tactic| (k_here; o_head (191, 51); k_dflt ((o_head (Mine.rmul_N, 10)); k_whole); walk_at "q_n"))
set_option hygiene false in
local macro_rules | `(tactic| walk_at "call builtin:sum") => `(tactic| (k_here; (with_reducible show wpAny _ _ (call _ [Value.ref _] _) _ _ _); k_dflt ((o_head (Mine.sum_N, 11)); k_whole); walk_at "q_n"))
local macro_rules | `(tactic| walk_at "newTuple") => `(tactic| (k_here; (with_reducible rename List.map Mine.Ask.T _ = _ => gT); k_dflt (refine' Mine.tup_last ?V ?F ?N ?mz ?mdz ?I ?e1 ?mw ?Iw ?e ?hf ?hg ?_; (case V => with_reducible assumption); (case F => k_asm); (case N => with_reducible assumption); (case mz => k_mem); (case mdz => k_mem); (case I => with_reducible assumption); (case e1 => with_reducible assumption); (case mw => k_mem); (case Iw => with_reducible assumption); (case e => with_reducible assumption); (case hf => with_reducible assumption); (case hg => with_reducible assumption); k_whole); intro tT th tits tR tF tN tO tP t1 t2 tS tE; (rw [gT] at tE); (simp only [List.cons_append, List.nil_append] at tE); clear gT))
set_option hygiene false in
local macro_rules | `(tactic| walk_at "newTuple") => `(tactic| (k_here; (with_reducible rename List.map Mine.Ask.T _ = _ => gT); k_dflt ((first | (o_head (Mine.tup_push0, 12)) | (o_head (Mine.tup_push1, 12)) | (o_head (Mine.tup_push6, 12))); k_whole); intro tT th tits tR tF tN tV tS tE; (rw [gT] at tE); (simp only [List.cons_append, List.nil_append] at tE); clear gT))
section
local macro_rules | `(tactic| walk_at "execs cons For cons") => `(tactic| (refine Mine.Stop.out ?_))
variable {w : World} {mean : ExcName → Option Value} {mg mb : Str → Option Value} {p : Program} {loose : List Str}
  {dp un : Nat} {gd : Option (List Code)} {cs : Scope} {a : Addr} {ccd : Value} {c1 c2 c3 : Addr} {outer : List Env} {A₀ : Around} {base h₀ : Heap} {L : Addr} {m : Str → Option Value} {s : Shared} {Q : Flow → Shared → Prop} {R : List (Addr × Obj)}
  {xf df xg dg xk dk r dr zl lf lg lk la lb w1 w2 w3 w4 w5 w6 w7 : Addr} {h1 h2 h3 h4 h5 h6 h7 h8 h9 h0 : Int} {t1 t2 t3 t4 t5 t6 t7 t8 t9 t10 t11 t12 t13 st : Tok} {vf vg vk va vb u1 u2 u3 u4 u5 u6 u7 zvs : List Value} {nf ng nk na nb n1 n2 n3 n4 n5 n6 n7 nz : Nat} {zs ga gb : List Int} {bd : List Stmt} {sv : Int} {oS : Obj}
set_option maxHeartbeats 40000000 in
theorem P29 (hsc : cs = lawScp) (hbd : bd = lawStm.drop 29) (B : Below A₀ base outer h₀)
    (F : Fr h₀ L s.heap (fun y => if y = Str.ofString "fh" then some (.ref xf) else if y = Str.ofString "gh" then some (.ref xg) else if y = Str.ofString "kh" then some (.ref xk) else if y = Str.ofString "a" then some (.ref la) else if y = Str.ofString "b" then some (.ref lb) else
      if y = Str.ofString "add" then some (.ref w1) else if y = Str.ofString "less" then some (.ref w2) else if y = Str.ofString "more" then some (.ref w3) else if y = Str.ofString "times" then some (.ref w4) else if y = Str.ofString "three" then some (.ref w5) else if y = Str.ofString "mixed" then some (.ref w6) else if y = Str.ofString "steps" then some (.ref w7) else m y)) (X : (Mine.hd.heap_1 w.params).In h₀)
    (N : News h₀ L s.heap ((lk, listOf vk.toArray nk) :: (lf, listOf vf.toArray nf) :: (lg, listOf vg.toArray ng) :: R)) (T : Top p loose mean mg mb h₀) (off : ∀ p ∈ R, p.1 ≠ lk ∧ p.1 ≠ lf ∧ p.1 ≠ lg) (hfk : lf ≠ lk) (hgk : lg ≠ lk) (hgf : lg ≠ lf)
    (mx : (xf, instObj 426 df) ∈ R) (mdx : (df, polyD h1 h2 t1 t2 r lf) ∈ R) (my : (xg, instObj 426 dg) ∈ R) (mdy : (dg, polyD h3 h4 t3 t4 r lg) ∈ R) (mk : (xk, instObj 426 dk) ∈ R) (mdk : (dk, polyD h9 h0 t12 t13 r lk) ∈ R)
    (mr : (r, instObj 282 dr) ∈ R) (mdr : (dr, ringD h5 h6 h7 h8 t5 t6 t7 t8 t9 t10 t11 zl) ∈ R) (mz : (zl, listOf zvs.toArray nz) ∈ R) (mla : (la, listOf va.toArray na) ∈ R) (mlb : (lb, listOf vb.toArray nb) ∈ R)
    (m1 : (w1, listOf u1.toArray n1) ∈ R) (m2 : (w2, listOf u2.toArray n2) ∈ R) (m3 : (w3, listOf u3.toArray n3) ∈ R) (m4 : (w4, listOf u4.toArray n4) ∈ R) (m5 : (w5, listOf u5.toArray n5) ∈ R) (m6 : (w6, listOf u6.toArray n6) ∈ R) (m7 : (w7, listOf u7.toArray n7) ∈ R)
    (ms : (c3, oS) ∈ R) (dS : oS.data = .cell (some (.int sv st)))
    (If : IntsAre vf (nttL zs ga)) (Ig : IntsAre vg (nttL zs gb)) (Ik : IntsAre vk (mulL sv (subL (addL (nttL zs ga) (nttL zs gb)) (nttL zs ga)))) (Ia : IntsAre va ga) (Ib : IntsAre vb gb) (ea : ga.length = 256) (eb : gb.length = 256)
    (I1 : IntsAre u1 (addL ga gb)) (I2 : IntsAre u2 (subL ga gb)) (I3 : IntsAre u3 (subL gb ga)) (I4 : IntsAre u4 (mulL sv ga)) (I5 : IntsAre u5 (addL (addL (radL ga) gb) ga)) (I6 : IntsAre u6 (subL (addL (mulL sv ga) gb) ga)) (I7 : IntsAre u7 (mulL sv (subL (addL ga gb) ga)))
    (Iz : IntsAre zvs zs) (ez : zs.length = 128) (bz : ∀ z ∈ zs, 0 ≤ z ∧ z < 3329) (Z : Inv zs)
    (hd : dp + 64 < recursionLimit) (hu : un + 600 < cLine)
    (ret : ∀ (h' : Heap) (tk' : Nat) (m' : Str → Option Value), Fr h₀ L h' m' → Q (.ret (.bool true)) { s with heap := h', toks := tk' }) :
    wpAny (model PySem.Challenge.rw_yi0008_01.row.prog w) (ktrTop dp un gd (Str.ofString "law") cs L a ccd [(Str.ofString "s", c3), (Str.ofString "many", c2), (Str.ofString "script", c1)] outer) (execs bd (envX (Str.ofString "law") cs L a ccd [(Str.ofString "s", c3), (Str.ofString "many", c2), (Str.ofString "script", c1)])) Q (fun _ _ => False) s := by
  have hs2 := hsc
  have ef : (nttL zs ga).length = 256 := by rw [nttL_length, ea]
  have eg : (nttL zs gb).length = 256 := by rw [nttL_length, eb]
  have ek : (mulL sv (subL (addL (nttL zs ga) (nttL zs gb)) (nttL zs ga))).length = 256 := by rw [List.length_map, List.length_zipWith, List.length_zipWith, ef, eg]; rfl
  have q1 := n_add Z ea eb
  have q2 := n_sub Z ea eb
  have q3 := n_sub Z eb ea
  have q4 := n_mul (s := sv) Z ea
  have q5 := n_sum Z ea eb
  have q6 := n_mix (s := sv) Z ea eb
  have q7 := n_step (s := sv) Z ea eb
  have V0 : AInv r zs lk lf lg [] R := ⟨fun _ h => absurd h List.not_mem_nil, .nil, off⟩
  have N0 : News h₀ L s.heap ((lk, listOf vk.toArray nk) :: (lf, listOf vf.toArray nf) :: (lg, listOf vg.toArray ng) :: (List.map Ask.ent [] ++ R)) := N
  clear N off
  have g0 : List.map Ask.T [] = [] := rfl
  conv at hbd => rhs; whnf
  conv at hsc => rhs; whnf
  subst hbd hsc
  revert X; k_fill; intro X
  k_steps
  (with_reducible rename News _ _ _ _ => Nw)
  (with_reducible rename Fr _ _ _ _ => Fw)
  (with_reducible rename List.map Ask.T _ = _ => tE)
  obtain ⟨N2, ok2, o1, o2⟩ := ask_fin Nw (by assumption) (by assumption) (by assumption) (by assumption)
  show wpAny _ _ (execs _ _) _ _ _
  refine' P30 _ hs2 rfl B (fr_put (fr_put (fr_put (fr_put (fr_put Fw (v := .ref lb) (x := Str.ofString "b") rfl) (v := .ref la) (x := Str.ofString "a") rfl) (v := .ref xg) (x := Str.ofString "gh") rfl) (v := .ref xf) (x := Str.ofString "fh") rfl) (x := Str.ofString "asked") rfl) X N2 T ?off o2 ok2 (by assumption) ?max ?mx ?mdx ?my ?mdy ?mr ?mdr ?mz ?mla ?mlb If Ig ef eg Ia Ib ea eb Iz ez bz Z (by omega) (by omega) fun h' tk' m' F => ret _ _ _ F
  case off =>
    intro p hp
    rcases List.mem_cons.mp hp with rfl | hp
    · exact hgf
    · exact o1 p hp
  case max => exact max_mem tE
  case mx => k_mem
  case mdx => k_mem
  case my => k_mem
  case mdy => k_mem
  case mr => k_mem
  case mdr => k_mem
  case mz => k_mem
  case mla => k_mem
  case mlb => k_mem
end

end
section
set_option hygiene false in
local macro_rules | `(tactic| walk_at "call ref") => `(tactic| (k_here; o_head (153, 50); k_dflt ((o_head (Mine.iadd_N, 9)); k_whole); walk_at "q_n"))
set_option hygiene false in
local macro_rules | `(tactic| walk_at "call ref") => `(tactic| (k_here; o_head (179, 50); k_dflt ((o_head (Mine.isub_N, 9)); k_whole); walk_at "q_n"))
set_option hygiene false in
local macro_rules | `(tactic| walk_at "call ref") => `(tactic| (k_here; o_head (198, 51); k_dflt ((o_head (Mine.imul_N, 10)); k_whole); walk_at "q_n"))
local macro_rules | `(tactic| walk_at "call ref") => `(tactic| (k_here; (k_dflt (show wpAny _ _ (call (Value.ref 340) _ _) _ _ _)); (refine Mine.Stop.out ?_)))
set_option hygiene false in
local macro_rules | `(tactic| walk_at "call ref") => `(tactic| (k_here; (k_dflt (show wpAny _ _ (call (Value.ref 340) [Value.ref _] []) _ _ _)); k_dflt (o_head (Mine.to_ntt_core, 3)); intro ny ndy nh1 nh2 nt1 nt2 nh ntk nus nF nN nI nl1 nl2 nl3; (try dsimp only)))
section
variable {h₀ h : Heap} {L y dy lf lg lk xk dk yg dyg : Addr} {oy ody of og og2 ok odk olk o1 o2 : Obj} {R : List (Addr × Obj)} {p1 p2 p3 p4 p5 p6 : Addr × Obj}
theorem ntt_swap (N : News h₀ L h ((y, oy) :: (dy, ody) :: (lf, of) :: (lg, og) :: R)) (f1 : ∀ q ∈ (lg, og) :: R, q.1 < dy) (f2 : dy < y) (off : ∀ p ∈ R, p.1 ≠ lf ∧ p.1 ≠ lg) (hgf : lg ≠ lf) :
    News h₀ L h ((lg, og) :: (y, oy) :: (dy, ody) :: (lf, of) :: R) ∧ ∀ p ∈ (y, oy) :: (dy, ody) :: (lf, of) :: R, p.1 ≠ lg := by
  have h1 : lg < dy := f1 _ (.head _)
  refine ⟨kst_newsOf N (by kcf_all), fun p hp => ?_⟩
  rcases List.mem_cons.mp hp with rfl | hp
  · exact Nat.ne_of_gt (Nat.lt_trans h1 f2)
  rcases List.mem_cons.mp hp with rfl | hp
  · exact Nat.ne_of_gt h1
  rcases List.mem_cons.mp hp with rfl | hp
  · exact Ne.symm hgf
  · exact (off p hp).2
theorem kh_fin (N : News h₀ L h ((xk, ok) :: (dk, odk) :: (lk, olk) :: p1 :: p2 :: p3 :: p4 :: p5 :: p6 :: (yg, o1) :: (dyg, o2) :: (lg, og) :: (y, oy) :: (dy, ody) :: (lf, of) :: R))
    (zk : ∀ q ∈ p1 :: p2 :: p3 :: p4 :: p5 :: p6 :: (yg, o1) :: (dyg, o2) :: (lg, og) :: (y, oy) :: (dy, ody) :: (lf, of) :: R, q.1 < lk) (k2 : lk < dk) (k3 : dk < xk)
    (g1 : ∀ q ∈ (y, oy) :: (dy, ody) :: (lf, of) :: R, q.1 < dyg) (g2 : dyg < yg) (g3 : lg < dyg) (f1 : ∀ q ∈ (lg, og2) :: R, q.1 < dy) (f2 : dy < y) (f3 : lf < dy) (off : ∀ p ∈ R, p.1 ≠ lf ∧ p.1 ≠ lg) :
    News h₀ L h ((lk, olk) :: (lf, of) :: (lg, og) :: (xk, ok) :: (dk, odk) :: (yg, o1) :: (dyg, o2) :: (y, oy) :: (dy, ody) :: R) ∧ (∀ p ∈ (xk, ok) :: (dk, odk) :: (yg, o1) :: (dyg, o2) :: (y, oy) :: (dy, ody) :: R, p.1 ≠ lk ∧ p.1 ≠ lf ∧ p.1 ≠ lg) ∧ lf ≠ lk ∧ lg ≠ lk := by
  have a1 : yg < lk := zk (yg, o1) (.tail _ (.tail _ (.tail _ (.tail _ (.tail _ (.tail _ (.head _)))))))
  have a2 : dyg < lk := zk (dyg, o2) (.tail _ (.tail _ (.tail _ (.tail _ (.tail _ (.tail _ (.tail _ (.head _))))))))
  have a3 : lg < lk := zk (lg, og) (.tail _ (.tail _ (.tail _ (.tail _ (.tail _ (.tail _ (.tail _ (.tail _ (.head _)))))))))
  have a4 : y < lk := zk (y, oy) (.tail _ (.tail _ (.tail _ (.tail _ (.tail _ (.tail _ (.tail _ (.tail _ (.tail _ (.head _))))))))))
  have a5 : dy < lk := zk (dy, ody) (.tail _ (.tail _ (.tail _ (.tail _ (.tail _ (.tail _ (.tail _ (.tail _ (.tail _ (.tail _ (.head _)))))))))))
  have a6 : lf < lk := zk (lf, of) (.tail _ (.tail _ (.tail _ (.tail _ (.tail _ (.tail _ (.tail _ (.tail _ (.tail _ (.tail _ (.tail _ (.head _))))))))))))
  have b1 : lf < dyg := g1 (lf, of) (.tail _ (.tail _ (.head _)))
  have b2 : lg < dy := f1 (lg, og2) (.head _)
  have aR : ∀ p ∈ R, p.1 < lk := fun p hp => zk p (.tail _ (.tail _ (.tail _ (.tail _ (.tail _ (.tail _ (.tail _ (.tail _ (.tail _ (.tail _ (.tail _ (.tail _ hp))))))))))))
  clear zk g1 f1
  refine ⟨kst_newsOf N (by kcf_all), fun p hp => ?_, Nat.ne_of_lt a6, Nat.ne_of_lt a3⟩
  clear N
  have c1 : lk < xk := Nat.lt_trans k2 k3
  have c2 : lf < xk := Nat.lt_trans a6 c1
  have c3 : lg < xk := Nat.lt_trans a3 c1
  rcases List.mem_cons.mp hp with rfl | hp
  · exact ⟨Nat.ne_of_gt c1, Nat.ne_of_gt c2, Nat.ne_of_gt c3⟩
  rcases List.mem_cons.mp hp with rfl | hp
  · exact ⟨Nat.ne_of_gt k2, Nat.ne_of_gt (Nat.lt_trans a6 k2), Nat.ne_of_gt (Nat.lt_trans a3 k2)⟩
  rcases List.mem_cons.mp hp with rfl | hp
  · exact ⟨Nat.ne_of_lt a1, Nat.ne_of_gt (Nat.lt_trans b1 g2), Nat.ne_of_gt (Nat.lt_trans g3 g2)⟩
  rcases List.mem_cons.mp hp with rfl | hp
  · exact ⟨Nat.ne_of_lt a2, Nat.ne_of_gt b1, Nat.ne_of_gt g3⟩
  rcases List.mem_cons.mp hp with rfl | hp
  · exact ⟨Nat.ne_of_lt a4, Nat.ne_of_gt (Nat.lt_trans f3 f2), Nat.ne_of_gt (Nat.lt_trans b2 f2)⟩
  rcases List.mem_cons.mp hp with rfl | hp
  · exact ⟨Nat.ne_of_lt a5, Nat.ne_of_gt f3, Nat.ne_of_gt b2⟩
  · exact ⟨Nat.ne_of_lt (aR p hp), (off p hp).1, (off p hp).2⟩
end
section
local macro_rules | `(tactic| walk_at "execs cons Assign cons") => `(tactic| ((with_reducible show wpAny _ _ (execs (Stmt.Assign _ (Expr.List _ _) _ :: _) _) _ _ _); (refine Mine.Stop.out ?_)))
variable {w : World} {mean : ExcName → Option Value} {mg mb : Str → Option Value} {p : Program} {loose : List Str}
  {dp un : Nat} {gd : Option (List Code)} {cs : Scope} {a : Addr} {ccd : Value} {c1 c2 c3 : Addr} {outer : List Env} {A₀ : Around} {base h₀ : Heap} {L : Addr} {m : Str → Option Value} {s : Shared} {Q : Flow → Shared → Prop} {R : List (Addr × Obj)}
  {xf df xg dg r dr zl lf lg la lb w1 w2 w3 w4 w5 w6 w7 : Addr} {h1 h2 h3 h4 h5 h6 h7 h8 : Int} {t1 t2 t3 t4 t5 t6 t7 t8 t9 t10 t11 st : Tok} {vf vg va vb u1 u2 u3 u4 u5 u6 u7 zvs : List Value} {nf ng na nb n1 n2 n3 n4 n5 n6 n7 nz : Nat} {zs ga gb : List Int} {bd : List Stmt} {sv : Int} {oS : Obj}
set_option maxHeartbeats 40000000 in
theorem P23 (hsc : cs = lawScp) (hbd : bd = lawStm.drop 23) (B : Below A₀ base outer h₀)
    (F : Fr h₀ L s.heap (fun y => if y = Str.ofString "f" then some (.ref xf) else if y = Str.ofString "g" then some (.ref xg) else if y = Str.ofString "a" then some (.ref la) else if y = Str.ofString "b" then some (.ref lb) else
      if y = Str.ofString "add" then some (.ref w1) else if y = Str.ofString "less" then some (.ref w2) else if y = Str.ofString "more" then some (.ref w3) else if y = Str.ofString "times" then some (.ref w4) else if y = Str.ofString "three" then some (.ref w5) else if y = Str.ofString "mixed" then some (.ref w6) else if y = Str.ofString "steps" then some (.ref w7) else m y)) (X : (Mine.hd.heap_1 w.params).In h₀)
    (N : News h₀ L s.heap ((lf, listOf vf.toArray nf) :: (lg, listOf vg.toArray ng) :: R)) (T : Top p loose mean mg mb h₀) (off : ∀ p ∈ R, p.1 ≠ lf ∧ p.1 ≠ lg) (hgf : lg ≠ lf)
    (mx : (xf, instObj 350 df) ∈ R) (mdx : (df, polyD h1 h2 t1 t2 r lf) ∈ R) (my : (xg, instObj 350 dg) ∈ R) (mdy : (dg, polyD h3 h4 t3 t4 r lg) ∈ R)
    (mr : (r, instObj 282 dr) ∈ R) (mdr : (dr, ringD h5 h6 h7 h8 t5 t6 t7 t8 t9 t10 t11 zl) ∈ R) (mz : (zl, listOf zvs.toArray nz) ∈ R) (mla : (la, listOf va.toArray na) ∈ R) (mlb : (lb, listOf vb.toArray nb) ∈ R)
    (m1 : (w1, listOf u1.toArray n1) ∈ R) (m2 : (w2, listOf u2.toArray n2) ∈ R) (m3 : (w3, listOf u3.toArray n3) ∈ R) (m4 : (w4, listOf u4.toArray n4) ∈ R) (m5 : (w5, listOf u5.toArray n5) ∈ R) (m6 : (w6, listOf u6.toArray n6) ∈ R) (m7 : (w7, listOf u7.toArray n7) ∈ R)
    (ms : (c3, oS) ∈ R) (dS : oS.data = .cell (some (.int sv st)))
    (If : IntsAre vf ga) (Ig : IntsAre vg gb) (Ia : IntsAre va ga) (Ib : IntsAre vb gb) (ea : ga.length = 256) (eb : gb.length = 256)
    (I1 : IntsAre u1 (addL ga gb)) (I2 : IntsAre u2 (subL ga gb)) (I3 : IntsAre u3 (subL gb ga)) (I4 : IntsAre u4 (mulL sv ga)) (I5 : IntsAre u5 (addL (addL (radL ga) gb) ga)) (I6 : IntsAre u6 (subL (addL (mulL sv ga) gb) ga)) (I7 : IntsAre u7 (mulL sv (subL (addL ga gb) ga)))
    (Iz : IntsAre zvs zs) (ez : zs.length = 128) (bz : ∀ z ∈ zs, 0 ≤ z ∧ z < 3329) (Z : Inv zs)
    (hd : dp + 64 < recursionLimit) (hu : un + 600 < cLine)
    (ret : ∀ (h' : Heap) (tk' : Nat) (m' : Str → Option Value), Fr h₀ L h' m' → Q (.ret (.bool true)) { s with heap := h', toks := tk' }) :
    wpAny (model PySem.Challenge.rw_yi0008_01.row.prog w) (ktrTop dp un gd (Str.ofString "law") cs L a ccd [(Str.ofString "s", c3), (Str.ofString "many", c2), (Str.ofString "script", c1)] outer) (execs bd (envX (Str.ofString "law") cs L a ccd [(Str.ofString "s", c3), (Str.ofString "many", c2), (Str.ofString "script", c1)])) Q (fun _ _ => False) s := by
  have hs2 := hsc
  have ef : (nttL zs ga).length = 256 := by rw [nttL_length, ea]
  have eg : (nttL zs gb).length = 256 := by rw [nttL_length, eb]
  have off1 : ∀ p ∈ (lg, listOf vg.toArray ng) :: R, p.1 ≠ lf := fun p hp => by
    rcases List.mem_cons.mp hp with rfl | hp
    · exact hgf
    · exact (off p hp).1
  conv at hbd => rhs; whnf
  conv at hsc => rhs; whnf
  subst hbd hsc
  revert X; k_fill; intro X
  k_steps
  obtain ⟨N2, off2⟩ := ntt_swap (by k_asm) (by assumption) (by assumption) off hgf
  show wpAny _ _ _ _ _ _
  k_steps
  (with_reducible rename News _ _ _ _ => Nw)
  (with_reducible rename Fr _ _ _ _ => Fw)
  obtain ⟨N3, off3, e1, e2⟩ := kh_fin Nw (by assumption) (by assumption) (by assumption) (by assumption) (by assumption) (by assumption) (by assumption) (by assumption) (by assumption) off
  clear Nw
  show wpAny _ _ (execs _ _) _ _ _
  refine' P29 hs2 rfl B (fr_put (fr_put (fr_put (fr_put (fr_put (fr_put (fr_put (fr_put (fr_put (fr_put (fr_put (fr_put Fw (v := .ref w7) (x := Str.ofString "steps") rfl) (v := .ref w6) (x := Str.ofString "mixed") rfl) (v := .ref w5) (x := Str.ofString "three") rfl) (v := .ref w4) (x := Str.ofString "times") rfl) (v := .ref w3) (x := Str.ofString "more") rfl) (v := .ref w2) (x := Str.ofString "less") rfl) (v := .ref w1) (x := Str.ofString "add") rfl) (v := .ref lb) (x := Str.ofString "b") rfl) (v := .ref la) (x := Str.ofString "a") rfl)
    (x := Str.ofString "kh") rfl) (x := Str.ofString "gh") rfl) (x := Str.ofString "fh") rfl) X N3 T off3 e1 e2 hgf ?mx ?mdx ?my ?mdy ?mk ?mdk ?mr ?mdr ?mz ?mla ?mlb ?m1 ?m2 ?m3 ?m4 ?m5 ?m6 ?m7 ?ms dS ?If ?Ig ?Ik Ia Ib ea eb I1 I2 I3 I4 I5 I6 I7 Iz ez bz Z hd hu fun h' tk' m' F => ret _ _ _ F
  case If => assumption
  case Ig => assumption
  case Ik => assumption
  case mx => k_mem
  case mdx => k_mem
  case my => k_mem
  case mdy => k_mem
  case mk => k_mem
  case mdk => k_mem
  case mr => k_mem
  case mdr => k_mem
  case mz => k_mem
  case mla => k_mem
  case mlb => k_mem
  case m1 => k_mem
  case m2 => k_mem
  case m3 => k_mem
  case m4 => k_mem
  case m5 => k_mem
  case m6 => k_mem
  case m7 => k_mem
  case ms => k_mem
end

end
section
set_option hygiene false in
local macro_rules | `(tactic| walk_at "call ref") => `(tactic| (k_here; o_head (153, 50); k_dflt ((o_head (Mine.iadd_P, 9)); k_whole); walk_at "q_n"))
set_option hygiene false in
local macro_rules | `(tactic| walk_at "call ref") => `(tactic| (k_here; o_head (179, 50); k_dflt ((o_head (Mine.isub_P, 9)); k_whole); walk_at "q_n"))
set_option hygiene false in
local macro_rules | `(tactic| walk_at "call ref") => `(tactic| (k_here; o_head (198, 51); k_dflt ((o_head (Mine.imul_P, 10)); k_whole); walk_at "q_n"))
set_option hygiene false in
local macro_rules | `(tactic| walk_at "call ref") => `(tactic| (k_here; o_head (191, 51); k_dflt ((o_head (Mine.rmul_P, 10)); k_whole); walk_at "q_n"))
set_option hygiene false in
local macro_rules | `(tactic| walk_at "call builtin:sum") => `(tactic| (k_here; (with_reducible show wpAny _ _ (call _ [Value.ref _] _) _ _ _); k_dflt ((o_head (Mine.sum_P, 11)); k_whole); walk_at "q_n"))
set_option hygiene false in
local macro_rules | `(tactic| walk_at "compareOp NotEq ref ref") => `(tactic| (k_here; k_dflt (o_head (Mine.ne_led, 4))))
section
local macro_rules | `(tactic| walk_at "pyIter ref") => `(tactic| (refine Mine.Stop.out ?_))
local macro_rules | `(tactic| walk_at "execs cons If cons") => `(tactic| (refine Mine.Stop.out ?_))
local macro_rules | `(tactic| walk_at "execs cons Assign cons") => `(tactic| (refine Mine.Stop.out ?_))
variable {w : World} {mean : ExcName → Option Value} {mg mb : Str → Option Value} {p : Program} {loose : List Str}
  {dp un : Nat} {gd : Option (List Code)} {cs : Scope} {a : Addr} {ccd : Value} {c1 c2 c3 : Addr} {outer : List Env} {A₀ : Around} {base h₀ : Heap} {L : Addr} {m : Str → Option Value} {s : Shared} {Q : Flow → Shared → Prop} {R : List (Addr × Obj)}
  {xf df xg dg r dr zl lf lg la lb w1 w2 w3 w4 w5 w6 w7 : Addr} {h1 h2 h3 h4 h5 h6 h7 h8 : Int} {t1 t2 t3 t4 t5 t6 t7 t8 t9 t10 t11 st : Tok} {vf vg va vb u1 u2 u3 u4 u5 u6 u7 zvs : List Value} {nf ng na nb n1 n2 n3 n4 n5 n6 n7 nz : Nat} {zs ga gb : List Int} {bd : List Stmt} {sv : Int} {oS : Obj}
set_option maxHeartbeats 40000000 in
theorem P14 (hsc : cs = lawScp) (hbd : bd = lawStm.drop 14) (B : Below A₀ base outer h₀)
    (F : Fr h₀ L s.heap (fun y => if y = Str.ofString "f" then some (.ref xf) else if y = Str.ofString "g" then some (.ref xg) else if y = Str.ofString "a" then some (.ref la) else if y = Str.ofString "b" then some (.ref lb) else
      if y = Str.ofString "add" then some (.ref w1) else if y = Str.ofString "less" then some (.ref w2) else if y = Str.ofString "more" then some (.ref w3) else if y = Str.ofString "times" then some (.ref w4) else if y = Str.ofString "three" then some (.ref w5) else if y = Str.ofString "mixed" then some (.ref w6) else if y = Str.ofString "steps" then some (.ref w7) else m y)) (X : (Mine.hd.heap_1 w.params).In h₀)
    (N : News h₀ L s.heap ((lf, listOf vf.toArray nf) :: (lg, listOf vg.toArray ng) :: R)) (T : Top p loose mean mg mb h₀) (hgf : lg ≠ lf)
    (mx : (xf, instObj 350 df) ∈ R) (mdx : (df, polyD h1 h2 t1 t2 r lf) ∈ R) (my : (xg, instObj 350 dg) ∈ R) (mdy : (dg, polyD h3 h4 t3 t4 r lg) ∈ R)
    (mr : (r, instObj 282 dr) ∈ R) (mdr : (dr, ringD h5 h6 h7 h8 t5 t6 t7 t8 t9 t10 t11 zl) ∈ R) (mz : (zl, listOf zvs.toArray nz) ∈ R) (mla : (la, listOf va.toArray na) ∈ R) (mlb : (lb, listOf vb.toArray nb) ∈ R)
    (m1 : (w1, listOf u1.toArray n1) ∈ R) (m2 : (w2, listOf u2.toArray n2) ∈ R) (m3 : (w3, listOf u3.toArray n3) ∈ R) (m4 : (w4, listOf u4.toArray n4) ∈ R) (m5 : (w5, listOf u5.toArray n5) ∈ R) (m6 : (w6, listOf u6.toArray n6) ∈ R) (m7 : (w7, listOf u7.toArray n7) ∈ R)
    (off : ∀ p ∈ R, p.1 ≠ lf ∧ p.1 ≠ lg) (ms : (c3, oS) ∈ R) (dS : oS.data = .cell (some (.int sv st)))
    (If : IntsAre vf ga) (Ig : IntsAre vg gb) (Ia : IntsAre va ga) (Ib : IntsAre vb gb) (ea : ga.length = 256) (eb : gb.length = 256)
    (I1 : IntsAre u1 (addL ga gb)) (I2 : IntsAre u2 (subL ga gb)) (I3 : IntsAre u3 (subL gb ga)) (I4 : IntsAre u4 (mulL sv ga)) (I5 : IntsAre u5 (addL (addL (radL ga) gb) ga)) (I6 : IntsAre u6 (subL (addL (mulL sv ga) gb) ga)) (I7 : IntsAre u7 (mulL sv (subL (addL ga gb) ga)))
    (Iz : IntsAre zvs zs) (ez : zs.length = 128) (bz : ∀ z ∈ zs, 0 ≤ z ∧ z < 3329) (Z : Inv zs)
    (gM : ∀ c ∈ ga, IntMulOk c sv)
    (hd : dp + 64 < recursionLimit) (hu : un + 600 < cLine)
    (ret : ∀ (h' : Heap) (tk' : Nat) (m' : Str → Option Value), Fr h₀ L h' m' → Q (.ret (.bool true)) { s with heap := h', toks := tk' }) :
    wpAny (model PySem.Challenge.rw_yi0008_01.row.prog w) (ktrTop dp un gd (Str.ofString "law") cs L a ccd [(Str.ofString "s", c3), (Str.ofString "many", c2), (Str.ofString "script", c1)] outer) (execs bd (envX (Str.ofString "law") cs L a ccd [(Str.ofString "s", c3), (Str.ofString "many", c2), (Str.ofString "script", c1)])) Q (fun _ _ => False) s := by
  have hs2 := hsc
  conv at hbd => rhs; whnf
  conv at hsc => rhs; whnf
  subst hbd hsc
  revert X; k_fill; intro X
  refine wpAny_execs_cons ?_
  k_steps
  (with_reducible rename News _ _ _ _ => Nw)
  replace Nw := kst_newsOf (l' := (lf, listOf vf.toArray nf) :: (lg, listOf vg.toArray ng) :: R) Nw (fun p hp => by (repeat first | exact hp | refine List.Mem.tail _ ?_))
  show wpAny _ _ (execs _ _) _ _ _
  refine wpAny_execs_cons ?_
  k_steps
  (with_reducible rename News _ _ _ _ => Nw)
  replace Nw := kst_newsOf (l' := (lf, listOf vf.toArray nf) :: (lg, listOf vg.toArray ng) :: R) Nw (fun p hp => by (repeat first | exact hp | refine List.Mem.tail _ ?_))
  show wpAny _ _ (execs _ _) _ _ _
  refine wpAny_execs_cons ?_
  k_steps
  (with_reducible rename News _ _ _ _ => Nw)
  replace Nw := kst_newsOf (l' := (lf, listOf vf.toArray nf) :: (lg, listOf vg.toArray ng) :: R) Nw (fun p hp => by (repeat first | exact hp | refine List.Mem.tail _ ?_))
  show wpAny _ _ (execs _ _) _ _ _
  refine wpAny_execs_cons ?_
  k_steps
  show wpAny _ _ (execs _ _) _ _ _
  refine wpAny_execs_cons ?_
  k_steps
  (with_reducible rename News _ _ _ _ => Nw)
  (with_reducible rename Fr _ _ _ _ => Fw)
  show wpAny _ _ (pyIter _) _ _ _
  refine iter_listUnr rfl Fw Nw (.head _) rfl rfl fun I lt => ?_
  show ListRest _ _ _ _ _ _ _ _ _ _ _ _ (List.map Value.ref [_, _, _]) _ _
  refine plain_loop (r := r) hs2 rfl B X T (.head _) lt (by omega) (by omega) (fun u h' tk' F' N' => ?_) _ _ (fun _ _ => rfl) (List.forall_mem_cons.mpr ⟨⟨_, _, _, _, _, _, by k_mem, by k_mem⟩, List.forall_mem_cons.mpr ⟨⟨_, _, _, _, _, _, by k_mem, by k_mem⟩, List.forall_mem_cons.mpr ⟨⟨_, _, _, _, _, _, by k_mem, by k_mem⟩, List.forall_mem_nil _⟩⟩⟩)
  have N2 : News h₀ L h' ((lf, listOf vf.toArray nf) :: (lg, listOf vg.toArray ng) :: R) := kst_newsOf N' (fun p hp => by (repeat first | exact hp | refine List.Mem.tail _ ?_))
  clear N' Nw
  show wpAny _ _ (execs _ _) _ _ _
  exact P23 hs2 rfl B (fr_put (fr_put (fr_put (fr_put (fr_put (fr_put (fr_put (fr_put (fr_put (fr_put (fr_put F' (v := .ref w7) (x := Str.ofString "steps") rfl) (v := .ref w6) (x := Str.ofString "mixed") rfl) (v := .ref w5) (x := Str.ofString "three") rfl) (v := .ref w4) (x := Str.ofString "times") rfl) (v := .ref w3) (x := Str.ofString "more") rfl) (v := .ref w2) (x := Str.ofString "less") rfl) (v := .ref w1) (x := Str.ofString "add") rfl) (v := .ref lb) (x := Str.ofString "b") rfl) (v := .ref la) (x := Str.ofString "a") rfl)
    (v := .ref xg) (x := Str.ofString "g") rfl) (v := .ref xf) (x := Str.ofString "f") rfl) X N2 T off hgf mx mdx my mdy mr mdr mz mla mlb m1 m2 m3 m4 m5 m6 m7 ms dS If Ig Ia Ib ea eb I1 I2 I3 I4 I5 I6 I7 Iz ez bz Z hd hu fun h' tk' m' F => ret _ _ _ F
end

end
end
section
variable {h₀ h : Heap} {L lf lg d1 d2 : Addr} {x1 x2 x3 x4 : Addr × Obj} {of og : Obj} {R : List (Addr × Obj)}
/-- below d, the last without more -/
noncomputable def AllLtE (d : Nat) : List (Addr × Obj) → Prop
  | [] => True
  | [p] => @LT.lt Nat _ p.1 d
  | p :: q :: r => @LT.lt Nat _ p.1 d ∧ AllLtE d (q :: r)
theorem ltE_of {d : Addr} : ∀ {l : List (Addr × Obj)}, AllLtE d l → ∀ p ∈ l, p.1 < d
  | [], _, _, hp => nomatch hp
  | [p], h, q, hq => by rw [List.mem_singleton.mp hq]; exact h
  | p :: q :: r, h, x, hx => by
    rcases List.mem_cons.mp hx with rfl | hx
    · exact h.1
    · exact ltE_of h.2 x hx
theorem start_fin (N : News h₀ L h (x1 :: x2 :: (lg, og) :: x3 :: x4 :: (lf, of) :: R)) (a1 : ∀ q ∈ R, q.1 < lf) (a2 : ∀ q ∈ (lf, of) :: R, q.1 < x4.1) (a3 : x4.1 < x3.1)
    (b1 : ∀ q ∈ x3 :: x4 :: (lf, of) :: R, q.1 < lg) (b2 : ∀ q ∈ (lg, og) :: x3 :: x4 :: (lf, of) :: R, q.1 < x2.1) (b3 : x2.1 < x1.1) :
    News h₀ L h ((lf, of) :: (lg, og) :: x1 :: x2 :: x3 :: x4 :: R) ∧ (∀ p ∈ x1 :: x2 :: x3 :: x4 :: R, p.1 ≠ lf ∧ p.1 ≠ lg) ∧ lg ≠ lf := by
  have c1 : lf < x4.1 := a2 _ (.head _)
  have c2 : lf < x3.1 := Nat.lt_trans c1 a3
  have c3 : lf < lg := b1 _ (.tail _ (.tail _ (.head _)))
  have c4 : lg < x2.1 := b2 _ (.head _)
  have c5 : lg < x1.1 := Nat.lt_trans c4 b3
  refine ⟨kst_newsOf N (by kcf_all), fun p hp => ?_, Nat.ne_of_gt c3⟩
  rcases List.mem_cons.mp hp with rfl | hp
  · exact ⟨Nat.ne_of_gt (Nat.lt_trans c3 c5), Nat.ne_of_gt c5⟩
  rcases List.mem_cons.mp hp with rfl | hp
  · exact ⟨Nat.ne_of_gt (Nat.lt_trans c3 c4), Nat.ne_of_gt c4⟩
  rcases List.mem_cons.mp hp with rfl | hp
  · exact ⟨Nat.ne_of_gt c2, Nat.ne_of_lt (b1 _ (.head _))⟩
  rcases List.mem_cons.mp hp with rfl | hp
  · exact ⟨Nat.ne_of_gt c1, Nat.ne_of_lt (b1 _ (.tail _ (.head _)))⟩
  · exact ⟨Nat.ne_of_lt (a1 p hp), Nat.ne_of_lt (b1 _ (.tail _ (.tail _ (.tail _ hp))))⟩
end
open Builtin.Int in
theorem mulok_two {c : Int} : IntMulOk 2 c := IntMulOk.of_left (intBits_le_64 (by decide) (by decide))
theorem zt_rng : ∀ z ∈ ZT, 0 ≤ z ∧ z < 3329 := by decide +kernel
theorem steps_form {us : List Value} {ga gb : List Int} {s : Int} (h : IntsAre us (List.map (fun za => (s * za).fmod 3329) gb)) (a : ga.length = 256) (b : gb.length = 256) : IntsAre us (mulL s (subL (addL ga gb) ga)) := by
  rw [p_step a b]; exact h
theorem post_true (ns : List Int) : PySem.Challenge.rw_yi0008_01.row.claim.post [ofPy (PyData.list (List.map PyData.int ns))] (WData.bool true) [ofPy (PyData.list (List.map PyData.int ns))] = true := by
  wrow_post

end
section
local macro_rules | `(tactic| walk_at "exec Assign cons ListComp") => `(tactic| (k_here; (with_reducible show wpAny _ _ (exec (Stmt.Assign [_] (Expr.ListComp _ [Comprehension.mk (Expr.Tuple [_, _] _ _) _ [] _] _ _) _) _) _ _ _); k_dflt (refine Mine.Assign_ListComp_Z (by k_asm) (by rfl) (by with_unfolding_all rfl) (by with_unfolding_all rfl) (by decide) (by rfl) (by decide) (by rfl) (by rfl) (by decide) (by rfl) (by rfl) ?_ (by intro _; rfl))))
local macro_rules | `(tactic| walk_at "ZTurn") => `(tactic| (unfold Mine.ZTurn; intro za zb zta ztb zC zD zoC zoD zown zm zh ztk zE zha zhb zhC zhx zhy zF zN; (try simp only [List.cons_append, List.nil_append] at zN); (try dsimp only); (try k_fold)))
local macro_rules | `(tactic| walk_at "ZEnd") => `(tactic| (refine Mine.ZEnd.intro (by k_asm) (by k_asm) (by ((try simp only [List.cons_append, List.nil_append]); kcf_all)) ?zz; (case zz => rfl)))
local macro_rules | `(tactic| walk_at "call builtin:len") => `(tactic| (k_here; (with_reducible show wpAny _ _ (call (Value.builtin "len") [Value.ref _]) _ _ _); k_dflt (refine' kst_len ?k1 ?k2 ?k3 ?k4 ?_; (case k1 => k_asm); (case k2 => k_mem); (case k3 => exact IntsAre.length (by assumption)); (case k4 => omega); k_whole)))
set_option hygiene false in
local macro_rules | `(tactic| walk_at "call ref") => `(tactic| (k_here; (with_reducible show wpAny _ _ (call (Value.ref _) [Value.ref _] []) _ _ _); k_dflt (o_head (Mine.ring_call, 1)); walk_at "q_d"))
local macro_rules | `(tactic| walk_at "exec Assign cons ListComp") => `(tactic| (k_here; (with_reducible show wpAny _ _ (exec (Stmt.Assign [_] (Expr.ListComp _ [Comprehension.mk (Expr.Name _ _) (Expr.Name _ _) [] _] _ _) _) _) _ _ _); k_dflt (refine Mine.Assign_ListComp_M (by k_asm) (by rfl) (by with_unfolding_all rfl) (by with_unfolding_all rfl) (by decide) (by rfl) (by decide) (by rfl) (by rfl) (by rfl) ?_ (by intro _; rfl))))
local macro_rules | `(tactic| walk_at "MTurn") => `(tactic| (unfold Mine.MTurn; intro za zta zC zD zoC zoD zown zm zh ztk zE zha zhC zhx zF zN; (try simp only [List.cons_append, List.nil_append] at zN); (try dsimp only); (try k_fold)))
local macro_rules | `(tactic| walk_at "MFin") => `(tactic| (unfold Mine.MFin; intro zD zh ztk zys zn zI zlen zF zN zlt; (try k_lt zlt); (try dsimp only)))
local macro_rules | `(tactic| walk_at "my_isl") => `(tactic| assumption)
set_option hygiene false in
local macro_rules | `(tactic| walk_at "call ref") => `(tactic| (k_here; (with_reducible show wpAny _ _ (call (Value.ref 282) _ _) _ _ _); k_dflt (refine' Mine.new_ring ?k1 ?k2 ?k3 ?k4 ?k5 ?k6 ?k9 ?ka ?_; walk_at "q_k"; (case k9 => ktr_room); (case ka => ktr_units); k_whole); intro nr ndr nzl nh1 nh2 nh3 nh4 nt1 nt2 nt3 nt4 nt5 nt6 nt7 nzvs nnz nh ntk nF nN nI nl1 nl2 nl3; (try dsimp only)))
set_option hygiene false in
local macro_rules | `(tactic| walk_at "call ref") => `(tactic| (k_here; (with_reducible show wpAny _ _ (call (Value.ref 435) _ _) _ _ _); k_dflt (refine' Mine.draw_call ?k1 ?k2 ?k3 ?k4 ?k5 ?k6 ?k7 ?k8 ?k9 ?ka ?kb ?kc ?kd ?_; walk_at "q_k"; (case k7 => walk_at "my_isl"); (case k8 => with_reducible assumption); (case k9 => omega); (case ka => first | decide | exact Mine.dA0 (by assumption) | exact Mine.dB0 (by assumption) (by assumption)); (case kb => first | decide | exact Mine.dA (by assumption) (by assumption) (by assumption) | exact Mine.dB (by assumption) (by assumption)); (case kc => ktr_room); (case kd => ktr_units)); intro dt dh dtk dF dN; (try dsimp only)))
local macro_rules | `(tactic| walk_at "storeName int") => `(tactic| ((with_reducible refine Mine.many_gen _ (fmod_lo _ (by decide)) ?_); intro mm hmm mm0 mm1))
local macro_rules | `(tactic| walk_at "exec Assign cons ListComp") => `(tactic| ((with_reducible rename IntsAre _ (List.map (fun _ => Mine.drawF _ _) _ ++ _) => gI); (obtain ⟨gA, gI2, gL, gM, gM2⟩ := Mine.aGen gI (by assumption) (by assumption) (by assumption)); clear gI))
local macro_rules | `(tactic| walk_at "exec Assign cons ListComp") => `(tactic| ((with_reducible rename IntsAre _ (List.map (fun _ => Mine.drawF _ (2 + _ + _)) _) => gI); (obtain ⟨gA, gI2, gL, gM, gM2⟩ := Mine.bGen gI (by assumption) (by assumption) (by assumption)); clear gI))
local macro_rules | `(tactic| walk_at "call type:zip") => `(tactic| (k_here; (with_reducible show wpAny _ _ (call (Value.type "zip") [Value.ref _, Value.ref _]) _ _ _); k_dflt (refine' Mine.zip_src _ ?k1 ?k2 ?k3 ?k4 ?k5 ?k6 ?k7 ?k8 ?k9 ?_ ?_; (case k1 => rfl); (case k2 => k_asm); (case k3 => k_asm); (case k4 => k_mem); (case k5 => k_mem); (case k6 => with_reducible assumption); (case k7 => with_reducible assumption); (case k8 => exact Mine.len_eq (by with_reducible assumption) (by with_reducible assumption)); (case k9 => exact Mine.len_fits (by with_reducible assumption)); rotate_left)))
set_option hygiene false in
local macro_rules | `(tactic| walk_at "MSrc") => `(tactic| (k_here; k_dflt (o_head (Mine.msrc, 5))))
local macro_rules | `(tactic| walk_at "binaryOp Mult int int") => `(tactic| first | (with_reducible refine PyProof.Rows.mul_int ?_ Mine.mulok_two) | (with_reducible refine PyProof.Rows.mul_int ?_ (Mine.mulok_a (by with_reducible assumption) (by with_reducible assumption))) | (with_reducible refine PyProof.Rows.mul_int ?_ (Mine.mulok_b (by with_reducible assumption) (by with_reducible assumption))) | (with_reducible refine PyProof.Rows.mul_int ?_ (PyProof.Rows.IntMulOk.of_left (by decide))))
local macro_rules | `(tactic| walk_at "ZFin") => `(tactic| (unfold Mine.ZFin; intro zD zh ztk zys zn zI zlen zF zN zlt; (try k_lt zlt); (first | (rw [← Mine.p_sub] at zI) | (rw [← Mine.p_sum ?pla ?plb] at zI; (case pla => with_reducible assumption); (case plb => with_reducible assumption)) | (rw [← Mine.p_mix ?pla ?plb] at zI; (case pla => with_reducible assumption); (case plb => with_reducible assumption)) | skip); (try dsimp only)))
local macro_rules | `(tactic| walk_at "callWith ref") => `(tactic| (k_here; k_dflt (refine' kco_callWith ?k1 ?k2 ?k3 ?k4 ?_; (case k1 => exact Frag.In.keeps (by with_reducible assumption) (Fr.keep (by with_reducible assumption))); (case k2 => k_inst); (case k3 => rfl); (case k4 => k_is); k_whole)))
-- without the library's own way the row's text gets no twin (2.9 MB)
local macro_rules | `(tactic| k_qdec) => `(tactic| decide +kernel)
local macro_rules | `(tactic| walk_at "execs cons If cons") => `(tactic| (refine Mine.Stop.out ?_))
set_option maxHeartbeats 40000000 in
theorem law_t : PySem.Challenge.rw_yi0008_01.Holds := Mine.hd ⟨Mine.HG.left, (by
  k_go0
  all_goals try k_fold
  k_steps
  with_reducible rename News _ _ _ _ => Nw
  with_reducible rename Fr _ _ _ _ => Fw
  obtain ⟨N2, off, hgf⟩ := Mine.start_fin Nw (Mine.ltE_of (by assumption)) (Mine.ltE_of (by assumption)) (by assumption) (Mine.ltE_of (by assumption)) (Mine.ltE_of (by assumption)) (by assumption)
  show wpAny _ _ (execs _ _) _ _ _
  refine wpAny_noRaise ?_
  refine' Mine.P14 ?hsc ?hbd ?B ?F ?X ?N ?T hgf ?mx ?mdx ?my ?mdy ?mr ?mdr ?mz ?mla ?mlb ?m1 ?m2 ?m3 ?m4 ?m5 ?m6 ?m7 off ?ms ?dS ?If ?Ig ?Ia ?Ib ?ea ?eb ?I1 ?I2 ?I3 ?I4 ?I5 ?I6 ?I7 ?Iz ?ez ?bz Mine.zt_inv ?gM ?hd ?hu ?ret
  case hsc => exact rfl
  case hbd => exact rfl
  case N => exact N2
  case B => k_asm
  case X => k_asm
  case T => k_asm
  case F => exact Mine.fr_put (Mine.fr_put (Mine.fr_put (Mine.fr_put (Mine.fr_put (Mine.fr_put (Mine.fr_put (Mine.fr_put (Mine.fr_put (Mine.fr_put (Mine.fr_put Fw (x := Str.ofString "steps") rfl) (x := Str.ofString "mixed") rfl) (x := Str.ofString "three") rfl) (x := Str.ofString "times") rfl) (x := Str.ofString "more") rfl) (x := Str.ofString "less") rfl) (x := Str.ofString "add") rfl) (x := Str.ofString "b") rfl) (x := Str.ofString "a") rfl) (x := Str.ofString "g") rfl) (x := Str.ofString "f") rfl
  case mx => k_mem
  case mdx => k_mem
  case my => k_mem
  case mdy => k_mem
  case mr => k_mem
  case mdr => k_mem
  case mz => k_mem
  case mla => k_mem
  case mlb => k_mem
  case m1 => k_mem
  case m2 => k_mem
  case m3 => k_mem
  case m4 => k_mem
  case m5 => k_mem
  case m6 => k_mem
  case m7 => k_mem
  case ms => k_mem
  case dS => assumption
  case If => assumption
  case Ig => assumption
  case Ia => assumption
  case Ib => assumption
  case ea => assumption
  case eb => assumption
  case I1 => assumption
  case I2 => assumption
  case I3 => assumption
  case I4 => assumption
  case I5 => assumption
  case I6 => assumption
  case I7 =>
    refine Mine.steps_form ?_ ?_ ?_
    · assumption
    · assumption
    · assumption
  case Iz => assumption
  case ez => rfl
  case bz => exact Mine.zt_rng
  case gM => assumption
  case hd => ktr_room
  case hu => ktr_units
  case ret =>
    intro h' tk' m' Fe
    clear N2 Nw Fw
    show GoodW _ _ _ _ _ (.ok (.ret (.bool _))) _
    refine goodW_bool Fe ?_ ?_ ?_
    · show Shared.gens _ = #[]
      with_reducible assumption
    · exact fun _ => rfl
    · exact Mine.post_true _)⟩

end
end
end Mine
theorem PySem.Challenge.cw_yi0008_01_holds : PySem.Challenge.rw_yi0008_01.Holds := by
  exact Mine.law_t
