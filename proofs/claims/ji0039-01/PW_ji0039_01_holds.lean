import PyProof.Rows.All
import Wide.All
import OpenK.AllK
import Wide.FinOn
import Lean
import PySem.Challenge.RW_ji0039_01
set_option Elab.async false
section
open PySem PySem.W PyProof.Rows PySem.Calls
set_option Elab.async false
set_option maxRecDepth 100000
namespace Mine
/-! The head, by hand: the row's top is run by the kernel in six pieces, over the objects as they lie
(the library's equations for the runner and the tables are taken by rw); each def of the text is taken out of the row. -/
abbrev PR : Program := PySem.Challenge.rw_ji0039_01.row.prog
def nth : List Stmt → Nat → Stmt
  | [], _ => .Pass ⟨0, 0, 0, 0⟩
  | s :: _, 0 => s
  | _ :: l, n + 1 => nth l n
def inner : Stmt → List Stmt
  | .ClassDef _ _ _ b _ _ _ _ _ _ _ => b
  | _ => []
def fnObj (s : Stmt) (q : Str) (g : Addr) (clo : List (Str × Addr)) (df kd doc md : Value) (an : Option Addr) (cd ct : Value) (bl : Addr) (cls : Value) : Obj := match s with
  | .FunctionDef name args body _ _ _ scope _ _ _ => { cls := cls, data := .func { name := name, qualname := q, params := args, body := .stmts body, scope := scope, globals := g, closure := clo, defaults := df, kwdefaults := kd, doc := doc, pyModule := md, annotations := an, code := cd, closureTuple := ct, builtins := bl } }
  | _ => { cls := .none }
noncomputable def fn21 : Obj := by
  refine' (?f : ∀ o : Obj, fnObj (nth PR.main.body 0) (Str.ofString "_wall") (nat_lit 3) [] .none .none .none (Value.str (Str.ofString "__main__") 164) none (Value.ref 20) Value.none 0 (.type "function") = o → Obj) _ ?h
  case f => exact fun o _ => o
  case h => (conv => lhs; whnf)
noncomputable def fn28 : Obj := by
  refine' (?f : ∀ o : Obj, fnObj (nth PR.main.body 2) (Str.ofString "_can_merge_lines") (nat_lit 3) [] .none .none .none (Value.str (Str.ofString "dulwich.merge") 194) none (Value.ref 27) Value.none 0 (.type "function") = o → Obj) _ ?h
  case f => exact fun o _ => o
  case h => (conv => lhs; whnf)
noncomputable def fn35 : Obj := by
  refine' (?f : ∀ o : Obj, fnObj (nth PR.main.body 3) (Str.ofString "_merge3_to_bytes") (nat_lit 3) [] .none .none .none (Value.str (Str.ofString "dulwich.merge") 194) none (Value.ref 34) Value.none 0 (.type "function") = o → Obj) _ ?h
  case f => exact fun o _ => o
  case h => (conv => lhs; whnf)
noncomputable def fn42 : Obj := by
  refine' (?f : ∀ o : Obj, fnObj (nth PR.main.body 4) (Str.ofString "_merge_lines") (nat_lit 3) [] .none .none .none (Value.str (Str.ofString "dulwich.merge") 194) none (Value.ref 41) Value.none 0 (.type "function") = o → Obj) _ ?h
  case f => exact fun o _ => o
  case h => (conv => lhs; whnf)
noncomputable def fn49 : Obj := by
  refine' (?f : ∀ o : Obj, fnObj (nth PR.main.body 5) (Str.ofString "merge_blobs") (nat_lit 3) [] .none .none .none (Value.str (Str.ofString "dulwich.merge") 194) none (Value.ref 48) Value.none 0 (.type "function") = o → Obj) _ ?h
  case f => exact fun o _ => o
  case h => (conv => lhs; whnf)
noncomputable def fn63 : Obj := by
  refine' (?f : ∀ o : Obj, fnObj (nth (inner (nth PR.main.body 7)) 0) (Str.ofString "ObjectFormat.__init__") (nat_lit 3) [] .none .none .none (Value.str (Str.ofString "dulwich.object_format") 243) none (Value.ref 62) Value.none 0 (.type "function") = o → Obj) _ ?h
  case f => exact fun o _ => o
  case h => (conv => lhs; whnf)
noncomputable def fn70 : Obj := by
  refine' (?f : ∀ o : Obj, fnObj (nth (inner (nth PR.main.body 7)) 1) (Str.ofString "ObjectFormat.hash_object_hex") (nat_lit 3) [] .none .none .none (Value.str (Str.ofString "dulwich.object_format") 243) none (Value.ref 69) Value.none 0 (.type "function") = o → Obj) _ ?h
  case f => exact fun o _ => o
  case h => (conv => lhs; whnf)
noncomputable def fn94 : Obj := by
  refine' (?f : ∀ o : Obj, fnObj (nth (inner (nth PR.main.body 11)) 0) (Str.ofString "ShaFile.__init__") (nat_lit 3) [] .none .none .none (Value.str (Str.ofString "dulwich.objects") 312) none (Value.ref 93) Value.none 0 (.type "function") = o → Obj) _ ?h
  case f => exact fun o _ => o
  case h => (conv => lhs; whnf)
noncomputable def fn101 : Obj := by
  refine' (?f : ∀ o : Obj, fnObj (nth (inner (nth PR.main.body 11)) 1) (Str.ofString "ShaFile.as_raw_chunks") (nat_lit 3) [] .none .none .none (Value.str (Str.ofString "dulwich.objects") 312) none (Value.ref 100) Value.none 0 (.type "function") = o → Obj) _ ?h
  case f => exact fun o _ => o
  case h => (conv => lhs; whnf)
noncomputable def fn108 : Obj := by
  refine' (?f : ∀ o : Obj, fnObj (nth (inner (nth PR.main.body 11)) 2) (Str.ofString "ShaFile.as_raw_string") (nat_lit 3) [] .none .none .none (Value.str (Str.ofString "dulwich.objects") 312) none (Value.ref 107) Value.none 0 (.type "function") = o → Obj) _ ?h
  case f => exact fun o _ => o
  case h => (conv => lhs; whnf)
noncomputable def fn115 : Obj := by
  refine' (?f : ∀ o : Obj, fnObj (nth (inner (nth PR.main.body 11)) 3) (Str.ofString "ShaFile.set_raw_string") (nat_lit 3) [] .none .none .none (Value.str (Str.ofString "dulwich.objects") 312) none (Value.ref 114) Value.none 0 (.type "function") = o → Obj) _ ?h
  case f => exact fun o _ => o
  case h => (conv => lhs; whnf)
noncomputable def fn122 : Obj := by
  refine' (?f : ∀ o : Obj, fnObj (nth (inner (nth PR.main.body 11)) 4) (Str.ofString "ShaFile.set_raw_chunks") (nat_lit 3) [] .none .none .none (Value.str (Str.ofString "dulwich.objects") 312) none (Value.ref 121) Value.none 0 (.type "function") = o → Obj) _ ?h
  case f => exact fun o _ => o
  case h => (conv => lhs; whnf)
noncomputable def fn129 : Obj := by
  refine' (?f : ∀ o : Obj, fnObj (nth (inner (nth PR.main.body 11)) 5) (Str.ofString "ShaFile.from_string") (nat_lit 3) [] .none .none .none (Value.str (Str.ofString "dulwich.objects") 312) (some 132) (Value.ref 128) Value.none 0 (.type "function") = o → Obj) _ ?h
  case f => exact fun o _ => o
  case h => (conv => lhs; whnf)
noncomputable def fn139 : Obj := by
  refine' (?f : ∀ o : Obj, fnObj (nth (inner (nth PR.main.body 11)) 6) (Str.ofString "ShaFile._header") (nat_lit 3) [] .none .none .none (Value.str (Str.ofString "dulwich.objects") 312) none (Value.ref 138) Value.none 0 (.type "function") = o → Obj) _ ?h
  case f => exact fun o _ => o
  case h => (conv => lhs; whnf)
noncomputable def fn146 : Obj := by
  refine' (?f : ∀ o : Obj, fnObj (nth (inner (nth PR.main.body 11)) 7) (Str.ofString "ShaFile.raw_length") (nat_lit 3) [] .none .none .none (Value.str (Str.ofString "dulwich.objects") 312) none (Value.ref 145) Value.none 0 (.type "function") = o → Obj) _ ?h
  case f => exact fun o _ => o
  case h => (conv => lhs; whnf)
noncomputable def fn153 : Obj := by
  refine' (?f : ∀ o : Obj, fnObj (nth (inner (nth PR.main.body 11)) 8) (Str.ofString "ShaFile.copy") (nat_lit 3) [] .none .none .none (Value.str (Str.ofString "dulwich.objects") 312) none (Value.ref 152) Value.none 0 (.type "function") = o → Obj) _ ?h
  case f => exact fun o _ => o
  case h => (conv => lhs; whnf)
noncomputable def fn160 : Obj := by
  refine' (?f : ∀ o : Obj, fnObj (nth (inner (nth PR.main.body 11)) 9) (Str.ofString "ShaFile.get_id") (nat_lit 3) [] .none .none .none (Value.str (Str.ofString "dulwich.objects") 312) none (Value.ref 159) Value.none 0 (.type "function") = o → Obj) _ ?h
  case f => exact fun o _ => o
  case h => (conv => lhs; whnf)
noncomputable def fn183 : Obj := by
  refine' (?f : ∀ o : Obj, fnObj (nth (inner (nth PR.main.body 12)) 2) (Str.ofString "Blob.__init__") (nat_lit 3) [(Str.ofString "__class__", 171)] .none .none .none (Value.str (Str.ofString "dulwich.objects") 312) none (Value.ref 182) (Value.ref 176) 0 (.type "function") = o → Obj) _ ?h
  case f => exact fun o _ => o
  case h => (conv => lhs; whnf)
noncomputable def fn190 : Obj := by
  refine' (?f : ∀ o : Obj, fnObj (nth (inner (nth PR.main.body 12)) 3) (Str.ofString "Blob.data") (nat_lit 3) [] .none .none .none (Value.str (Str.ofString "dulwich.objects") 312) none (Value.ref 189) Value.none 0 (.type "function") = o → Obj) _ ?h
  case f => exact fun o _ => o
  case h => (conv => lhs; whnf)
noncomputable def fn199 : Obj := by
  refine' (?f : ∀ o : Obj, fnObj (nth (inner (nth PR.main.body 12)) 4) (Str.ofString "Blob.data") (nat_lit 3) [] .none .none .none (Value.str (Str.ofString "dulwich.objects") 312) none (Value.ref 198) Value.none 0 (.type "function") = o → Obj) _ ?h
  case f => exact fun o _ => o
  case h => (conv => lhs; whnf)
noncomputable def fn207 : Obj := by
  refine' (?f : ∀ o : Obj, fnObj (nth (inner (nth PR.main.body 12)) 5) (Str.ofString "Blob.chunked") (nat_lit 3) [] .none .none .none (Value.str (Str.ofString "dulwich.objects") 312) none (Value.ref 206) Value.none 0 (.type "function") = o → Obj) _ ?h
  case f => exact fun o _ => o
  case h => (conv => lhs; whnf)
noncomputable def fn216 : Obj := by
  refine' (?f : ∀ o : Obj, fnObj (nth (inner (nth PR.main.body 12)) 6) (Str.ofString "Blob.chunked") (nat_lit 3) [] .none .none .none (Value.str (Str.ofString "dulwich.objects") 312) none (Value.ref 215) Value.none 0 (.type "function") = o → Obj) _ ?h
  case f => exact fun o _ => o
  case h => (conv => lhs; whnf)
noncomputable def fn224 : Obj := by
  refine' (?f : ∀ o : Obj, fnObj (nth (inner (nth PR.main.body 12)) 7) (Str.ofString "Blob._serialize") (nat_lit 3) [] .none .none .none (Value.str (Str.ofString "dulwich.objects") 312) none (Value.ref 223) Value.none 0 (.type "function") = o → Obj) _ ?h
  case f => exact fun o _ => o
  case h => (conv => lhs; whnf)
noncomputable def fn231 : Obj := by
  refine' (?f : ∀ o : Obj, fnObj (nth (inner (nth PR.main.body 12)) 8) (Str.ofString "Blob._deserialize") (nat_lit 3) [] .none .none .none (Value.str (Str.ofString "dulwich.objects") 312) none (Value.ref 230) Value.none 0 (.type "function") = o → Obj) _ ?h
  case f => exact fun o _ => o
  case h => (conv => lhs; whnf)
noncomputable def fn238 : Obj := by
  refine' (?f : ∀ o : Obj, fnObj (nth (inner (nth PR.main.body 12)) 9) (Str.ofString "Blob.splitlines") (nat_lit 3) [] .none .none .none (Value.str (Str.ofString "dulwich.objects") 312) none (Value.ref 237) Value.none 0 (.type "function") = o → Obj) _ ?h
  case f => exact fun o _ => o
  case h => (conv => lhs; whnf)
noncomputable def fn258 : Obj := by
  refine' (?f : ∀ o : Obj, fnObj (nth PR.main.body 16) (Str.ofString "_law_rows") (nat_lit 3) [] .none .none .none (Value.str (Str.ofString "law_ji0039_01") 520) none (Value.ref 257) Value.none 0 (.type "function") = o → Obj) _ ?h
  case f => exact fun o _ => o
  case h => (conv => lhs; whnf)
noncomputable def fn265 : Obj := by
  refine' (?f : ∀ o : Obj, fnObj (nth PR.main.body 17) (Str.ofString "_law_groups") (nat_lit 3) [] .none .none .none (Value.str (Str.ofString "law_ji0039_01") 520) none (Value.ref 264) Value.none 0 (.type "function") = o → Obj) _ ?h
  case f => exact fun o _ => o
  case h => (conv => lhs; whnf)
noncomputable def fn272 : Obj := by
  refine' (?f : ∀ o : Obj, fnObj (nth PR.main.body 18) (Str.ofString "_law_joined") (nat_lit 3) [] .none .none .none (Value.str (Str.ofString "law_ji0039_01") 520) none (Value.ref 271) Value.none 0 (.type "function") = o → Obj) _ ?h
  case f => exact fun o _ => o
  case h => (conv => lhs; whnf)
noncomputable def fn279 : Obj := by
  refine' (?f : ∀ o : Obj, fnObj (nth PR.main.body 19) (Str.ofString "_law_due") (nat_lit 3) [] .none .none .none (Value.str (Str.ofString "law_ji0039_01") 520) none (Value.ref 278) Value.none 0 (.type "function") = o → Obj) _ ?h
  case f => exact fun o _ => o
  case h => (conv => lhs; whnf)
noncomputable def fn286 : Obj := by
  refine' (?f : ∀ o : Obj, fnObj (nth PR.main.body 20) (Str.ofString "_law_asked") (nat_lit 3) [] .none .none .none (Value.str (Str.ofString "law_ji0039_01") 520) none (Value.ref 285) Value.none 0 (.type "function") = o → Obj) _ ?h
  case f => exact fun o _ => o
  case h => (conv => lhs; whnf)
noncomputable def fn291 : Obj := by
  refine' (?f : ∀ o : Obj, fnObj (nth PR.main.body 21) (Str.ofString "law") (nat_lit 3) [] .none .none .none (Value.str (Str.ofString "law_ji0039_01") 520) none (Value.ref 290) Value.none 0 (.type "function") = o → Obj) _ ?h
  case f => exact fun o _ => o
  case h => (conv => lhs; whnf)
/-- the written part: the objects that the law can come to, each def out of the row -/
noncomputable def K0 (P : Params) : Frag :=
  (nat_lit 2, { cls := Value.none, data := Data.dict #[] }) ::
  (nat_lit 3, { cls := Value.type "dict", data := Data.dict #[{ hash := PyData.keyHash P (Str.ofString "__name__"), key := Value.str (Str.ofString "__name__") 165, val := Value.str (Str.ofString "law_ji0039_01") 520 }, { hash := PyData.keyHash P (Str.ofString "__doc__"), key := Value.str (Str.ofString "__doc__") 166, val := Value.none }, { hash := PyData.keyHash P (Str.ofString "__package__"), key := Value.str (Str.ofString "__package__") 167, val := Value.none }, { hash := PyData.keyHash P (Str.ofString "__loader__"), key := Value.str (Str.ofString "__loader__") 168, val := Value.builtin "__main__.__loader__#opaque" }, { hash := PyData.keyHash P (Str.ofString "__spec__"), key := Value.str (Str.ofString "__spec__") 169, val := Value.none }, { hash := PyData.keyHash P (Str.ofString "__annotations__"), key := Value.str (Str.ofString "__annotations__") 170, val := Value.ref 6 }, { hash := PyData.keyHash P (Str.ofString "__builtins__"), key := Value.str (Str.ofString "__builtins__") 171, val := Value.ref 4 }, { hash := PyData.keyHash P (Str.ofString "__file__"), key := Value.str (Str.ofString "__file__") 173, val := Value.str (Str.ofString "/claim/cut.py") 172 }, { hash := PyData.keyHash P (Str.ofString "__cached__"), key := Value.str (Str.ofString "__cached__") 174, val := Value.none }, { hash := PyData.keyHash P (Str.ofString "_wall"), key := Value.str (Str.ofString "_wall") 193, val := Value.ref 21 }, { hash := PyData.keyHash P (Str.ofString "_can_merge_lines"), key := Value.str (Str.ofString "_can_merge_lines") 204, val := Value.ref 28 }, { hash := PyData.keyHash P (Str.ofString "_merge3_to_bytes"), key := Value.str (Str.ofString "_merge3_to_bytes") 217, val := Value.ref 35 }, { hash := PyData.keyHash P (Str.ofString "_merge_lines"), key := Value.str (Str.ofString "_merge_lines") 226, val := Value.ref 42 }, { hash := PyData.keyHash P (Str.ofString "merge_blobs"), key := Value.str (Str.ofString "merge_blobs") 242, val := Value.ref 49 }, { hash := PyData.keyHash P (Str.ofString "ObjectFormat"), key := Value.str (Str.ofString "ObjectFormat") 289, val := Value.ref 73 }, { hash := PyData.keyHash P (Str.ofString "SHA1"), key := Value.str (Str.ofString "SHA1") 310, val := Value.ref 79 }, { hash := PyData.keyHash P (Str.ofString "DEFAULT_OBJECT_FORMAT"), key := Value.str (Str.ofString "DEFAULT_OBJECT_FORMAT") 311, val := Value.ref 79 }, { hash := PyData.keyHash P (Str.ofString "ShaFile"), key := Value.str (Str.ofString "ShaFile") 424, val := Value.ref 163 }, { hash := PyData.keyHash P (Str.ofString "Blob"), key := Value.str (Str.ofString "Blob") 519, val := Value.ref 241 }, { hash := PyData.keyHash P (Str.ofString "_law_texts"), key := Value.str (Str.ofString "_law_texts") 528, val := Value.ref 244 }, { hash := PyData.keyHash P (Str.ofString "_law_lists"), key := Value.str (Str.ofString "_law_lists") 537, val := Value.ref 251 }, { hash := PyData.keyHash P (Str.ofString "_law_rows"), key := Value.str (Str.ofString "_law_rows") 546, val := Value.ref 258 }, { hash := PyData.keyHash P (Str.ofString "_law_groups"), key := Value.str (Str.ofString "_law_groups") 557, val := Value.ref 265 }, { hash := PyData.keyHash P (Str.ofString "_law_joined"), key := Value.str (Str.ofString "_law_joined") 566, val := Value.ref 272 }, { hash := PyData.keyHash P (Str.ofString "_law_due"), key := Value.str (Str.ofString "_law_due") 578, val := Value.ref 279 }, { hash := PyData.keyHash P (Str.ofString "_law_asked"), key := Value.str (Str.ofString "_law_asked") 589, val := Value.ref 286 }, { hash := PyData.keyHash P (Str.ofString "law"), key := Value.str (Str.ofString "law") 595, val := Value.ref 291 }] 27 }) ::
  (nat_lit 15, { cls := Value.type "tuple", data := Data.seq #[] }) ::
  (nat_lit 17, { cls := Value.type "tuple", data := Data.seq #[Value.str (Str.ofString "k") 190] }) ::
  (nat_lit 18, { cls := Value.type "tuple", data := Data.seq #[] }) ::
  (nat_lit 20, { cls := Value.type "code", data := Data.fields #[Value.str (Str.ofString "_wall") 187, Value.str (Str.ofString "_wall") 188, Value.str (Str.ofString "/claim/cut.py") 189, Value.int 1 0, Value.int 1 0, Value.int 0 0, Value.int 0 0, Value.int 3 0, Value.ref 15, Value.bool true, Value.int 181 0, Value.ref 16, Value.none, Value.ref 17, Value.ref 18, Value.ref 19, Value.int 191 0, Value.int 1 0, Value.str (Str.ofString "/claim/cut.py") 192] }) ::
  (nat_lit 21, fn21) ::
  (nat_lit 22, { cls := Value.type "tuple", data := Data.seq #[] }) ::
  (nat_lit 24, { cls := Value.type "tuple", data := Data.seq #[Value.str (Str.ofString "base_lines") 199, Value.str (Str.ofString "a_lines") 200, Value.str (Str.ofString "b_lines") 201] }) ::
  (nat_lit 25, { cls := Value.type "tuple", data := Data.seq #[] }) ::
  (nat_lit 27, { cls := Value.type "code", data := Data.fields #[Value.str (Str.ofString "_can_merge_lines") 196, Value.str (Str.ofString "_can_merge_lines") 197, Value.str (Str.ofString "/claim/cut.py") 198, Value.int 5 0, Value.int 3 0, Value.int 0 0, Value.int 0 0, Value.int 3 0, Value.ref 22, Value.bool true, Value.int 181 0, Value.ref 23, Value.none, Value.ref 24, Value.ref 25, Value.ref 26, Value.int 202 0, Value.int 5 0, Value.str (Str.ofString "/claim/cut.py") 203] }) ::
  (nat_lit 28, fn28) ::
  (nat_lit 29, { cls := Value.type "tuple", data := Data.seq #[] }) ::
  (nat_lit 31, { cls := Value.type "tuple", data := Data.seq #[Value.str (Str.ofString "groups") 208, Value.str (Str.ofString "result") 209, Value.str (Str.ofString "group") 210, Value.str (Str.ofString "base_lines") 211, Value.str (Str.ofString "a_lines") 212, Value.str (Str.ofString "b_lines") 213, Value.str (Str.ofString "merged_lines") 214] }) ::
  (nat_lit 32, { cls := Value.type "tuple", data := Data.seq #[] }) ::
  (nat_lit 34, { cls := Value.type "code", data := Data.fields #[Value.str (Str.ofString "_merge3_to_bytes") 205, Value.str (Str.ofString "_merge3_to_bytes") 206, Value.str (Str.ofString "/claim/cut.py") 207, Value.int 12 0, Value.int 1 0, Value.int 0 0, Value.int 0 0, Value.int 3 0, Value.ref 29, Value.bool true, Value.int 181 0, Value.ref 30, Value.none, Value.ref 31, Value.ref 32, Value.ref 33, Value.int 215 0, Value.int 12 0, Value.str (Str.ofString "/claim/cut.py") 216] }) ::
  (nat_lit 35, fn35) ::
  (nat_lit 36, { cls := Value.type "tuple", data := Data.seq #[] }) ::
  (nat_lit 38, { cls := Value.type "tuple", data := Data.seq #[Value.str (Str.ofString "base_lines") 221, Value.str (Str.ofString "a_lines") 222, Value.str (Str.ofString "b_lines") 223] }) ::
  (nat_lit 39, { cls := Value.type "tuple", data := Data.seq #[] }) ::
  (nat_lit 41, { cls := Value.type "code", data := Data.fields #[Value.str (Str.ofString "_merge_lines") 218, Value.str (Str.ofString "_merge_lines") 219, Value.str (Str.ofString "/claim/cut.py") 220, Value.int 31 0, Value.int 3 0, Value.int 0 0, Value.int 0 0, Value.int 3 0, Value.ref 36, Value.bool true, Value.int 181 0, Value.ref 37, Value.none, Value.ref 38, Value.ref 39, Value.ref 40, Value.int 224 0, Value.int 31 0, Value.str (Str.ofString "/claim/cut.py") 225] }) ::
  (nat_lit 42, fn42) ::
  (nat_lit 43, { cls := Value.type "tuple", data := Data.seq #[] }) ::
  (nat_lit 45, { cls := Value.type "tuple", data := Data.seq #[Value.str (Str.ofString "base_blob") 230, Value.str (Str.ofString "ours_blob") 231, Value.str (Str.ofString "theirs_blob") 232, Value.str (Str.ofString "line_merge") 233, Value.str (Str.ofString "m") 234, Value.str (Str.ofString "base_content") 235, Value.str (Str.ofString "ours_content") 236, Value.str (Str.ofString "theirs_content") 237, Value.str (Str.ofString "merged_content") 238, Value.str (Str.ofString "has_conflicts") 239] }) ::
  (nat_lit 46, { cls := Value.type "tuple", data := Data.seq #[] }) ::
  (nat_lit 48, { cls := Value.type "code", data := Data.fields #[Value.str (Str.ofString "merge_blobs") 227, Value.str (Str.ofString "merge_blobs") 228, Value.str (Str.ofString "/claim/cut.py") 229, Value.int 38 0, Value.int 4 0, Value.int 0 0, Value.int 0 0, Value.int 3 0, Value.ref 43, Value.bool true, Value.int 181 0, Value.ref 44, Value.none, Value.ref 45, Value.ref 46, Value.ref 47, Value.int 240 0, Value.int 38 0, Value.str (Str.ofString "/claim/cut.py") 241] }) ::
  (nat_lit 49, fn49) ::
  (nat_lit 57, { cls := Value.type "tuple", data := Data.seq #[] }) ::
  (nat_lit 59, { cls := Value.type "tuple", data := Data.seq #[Value.str (Str.ofString "self") 260, Value.str (Str.ofString "name") 261, Value.str (Str.ofString "type_num") 262, Value.str (Str.ofString "oid_length") 263, Value.str (Str.ofString "hex_length") 264, Value.str (Str.ofString "hash_func") 265] }) ::
  (nat_lit 60, { cls := Value.type "tuple", data := Data.seq #[] }) ::
  (nat_lit 62, { cls := Value.type "code", data := Data.fields #[Value.str (Str.ofString "__init__") 257, Value.str (Str.ofString "ObjectFormat.__init__") 258, Value.str (Str.ofString "/claim/cut.py") 259, Value.int 82 0, Value.int 6 0, Value.int 0 0, Value.int 0 0, Value.int 3 0, Value.ref 57, Value.bool true, Value.int 181 0, Value.ref 58, Value.none, Value.ref 59, Value.ref 60, Value.ref 61, Value.int 266 0, Value.int 82 0, Value.str (Str.ofString "/claim/cut.py") 267] }) ::
  (nat_lit 63, fn63) ::
  (nat_lit 64, { cls := Value.type "tuple", data := Data.seq #[] }) ::
  (nat_lit 66, { cls := Value.type "tuple", data := Data.seq #[Value.str (Str.ofString "self") 272, Value.str (Str.ofString "data") 273] }) ::
  (nat_lit 67, { cls := Value.type "tuple", data := Data.seq #[] }) ::
  (nat_lit 69, { cls := Value.type "code", data := Data.fields #[Value.str (Str.ofString "hash_object_hex") 269, Value.str (Str.ofString "ObjectFormat.hash_object_hex") 270, Value.str (Str.ofString "/claim/cut.py") 271, Value.int 89 0, Value.int 2 0, Value.int 0 0, Value.int 0 0, Value.int 3 0, Value.ref 64, Value.bool true, Value.int 181 0, Value.ref 65, Value.none, Value.ref 66, Value.ref 67, Value.ref 68, Value.int 274 0, Value.int 89 0, Value.str (Str.ofString "/claim/cut.py") 275] }) ::
  (nat_lit 70, fn70) ::
  (nat_lit 71, { cls := Value.type "tuple", data := Data.seq #[Value.str (Str.ofString "hash_func") 277, Value.str (Str.ofString "hex_length") 278, Value.str (Str.ofString "name") 279, Value.str (Str.ofString "oid_length") 280, Value.str (Str.ofString "type_num") 281] }) ::
  (nat_lit 72, { cls := Value.type "dict", data := Data.dict #[{ hash := PyData.keyHash P (Str.ofString "__module__"), key := Value.str (Str.ofString "__module__") 252, val := Value.str (Str.ofString "dulwich.object_format") 243 }, { hash := PyData.keyHash P (Str.ofString "__firstlineno__"), key := Value.str (Str.ofString "__firstlineno__") 256, val := Value.int 80 255 }, { hash := PyData.keyHash P (Str.ofString "__init__"), key := Value.str (Str.ofString "__init__") 268, val := Value.ref 63 }, { hash := PyData.keyHash P (Str.ofString "hash_object_hex"), key := Value.str (Str.ofString "hash_object_hex") 276, val := Value.ref 70 }, { hash := PyData.keyHash P (Str.ofString "__static_attributes__"), key := Value.str (Str.ofString "__static_attributes__") 282, val := Value.ref 71 }, { hash := PyData.keyHash P (Str.ofString "__dict__"), key := Value.str (Str.ofString "__dict__") 284, val := Value.ref 74 }, { hash := PyData.keyHash P (Str.ofString "__weakref__"), key := Value.str (Str.ofString "__weakref__") 286, val := Value.ref 75 }, { hash := PyData.keyHash P (Str.ofString "__doc__"), key := Value.str (Str.ofString "__doc__") 287, val := Value.none }] 4 }) ::
  (nat_lit 73, { cls := Value.type "type", data := Data.cls { name := Str.ofString "ObjectFormat", bases := [Value.type "object"], mro := [Value.ref 73, Value.type "object"], ns := 72, qualname := Str.ofString "ObjectFormat" }, slots := #[none, none, some (Value.str (Str.ofString "ObjectFormat") 245), some (Value.str (Str.ofString "ObjectFormat") 253), some (Value.builtin "object.__new__"), some (Value.bool true)] }) ::
  (nat_lit 74, { cls := Value.type "getset_descriptor", data := Data.fields #[Value.str (Str.ofString "__dict__") 283, Value.ref 73, Value.builtin "function.__dict__", Value.builtin "function.__dict__#set"] }) ::
  (nat_lit 75, { cls := Value.type "getset_descriptor", data := Data.fields #[Value.str (Str.ofString "__weakref__") 285, Value.ref 73, Value.builtin "ExceptionGroup.__weakref__", Value.none] }) ::
  (nat_lit 78, { cls := Value.type "dict", data := Data.dict #[{ hash := PyData.keyHash P (Str.ofString "name"), key := Value.str (Str.ofString "name") 301, val := Value.str (Str.ofString "sha1") 290 }, { hash := PyData.keyHash P (Str.ofString "type_num"), key := Value.str (Str.ofString "type_num") 303, val := Value.int 1 291 }, { hash := PyData.keyHash P (Str.ofString "oid_length"), key := Value.str (Str.ofString "oid_length") 305, val := Value.int 20 292 }, { hash := PyData.keyHash P (Str.ofString "hex_length"), key := Value.str (Str.ofString "hex_length") 307, val := Value.int 40 293 }, { hash := PyData.keyHash P (Str.ofString "hash_func"), key := Value.str (Str.ofString "hash_func") 309, val := Value.none }] 5 }) ::
  (nat_lit 79, { cls := Value.ref 73, dict := some 78 }) ::
  (nat_lit 88, { cls := Value.type "tuple", data := Data.seq #[] }) ::
  (nat_lit 90, { cls := Value.type "tuple", data := Data.seq #[Value.str (Str.ofString "self") 329] }) ::
  (nat_lit 91, { cls := Value.type "tuple", data := Data.seq #[] }) ::
  (nat_lit 93, { cls := Value.type "code", data := Data.fields #[Value.str (Str.ofString "__init__") 326, Value.str (Str.ofString "ShaFile.__init__") 327, Value.str (Str.ofString "/claim/cut.py") 328, Value.int 96 0, Value.int 1 0, Value.int 0 0, Value.int 0 0, Value.int 3 0, Value.ref 88, Value.bool true, Value.int 181 0, Value.ref 89, Value.none, Value.ref 90, Value.ref 91, Value.ref 92, Value.int 330 0, Value.int 96 0, Value.str (Str.ofString "/claim/cut.py") 331] }) ::
  (nat_lit 94, fn94) ::
  (nat_lit 95, { cls := Value.type "tuple", data := Data.seq #[] }) ::
  (nat_lit 97, { cls := Value.type "tuple", data := Data.seq #[Value.str (Str.ofString "self") 336] }) ::
  (nat_lit 98, { cls := Value.type "tuple", data := Data.seq #[] }) ::
  (nat_lit 100, { cls := Value.type "code", data := Data.fields #[Value.str (Str.ofString "as_raw_chunks") 333, Value.str (Str.ofString "ShaFile.as_raw_chunks") 334, Value.str (Str.ofString "/claim/cut.py") 335, Value.int 102 0, Value.int 1 0, Value.int 0 0, Value.int 0 0, Value.int 3 0, Value.ref 95, Value.bool true, Value.int 181 0, Value.ref 96, Value.none, Value.ref 97, Value.ref 98, Value.ref 99, Value.int 337 0, Value.int 102 0, Value.str (Str.ofString "/claim/cut.py") 338] }) ::
  (nat_lit 101, fn101) ::
  (nat_lit 102, { cls := Value.type "tuple", data := Data.seq #[] }) ::
  (nat_lit 104, { cls := Value.type "tuple", data := Data.seq #[Value.str (Str.ofString "self") 343] }) ::
  (nat_lit 105, { cls := Value.type "tuple", data := Data.seq #[] }) ::
  (nat_lit 107, { cls := Value.type "code", data := Data.fields #[Value.str (Str.ofString "as_raw_string") 340, Value.str (Str.ofString "ShaFile.as_raw_string") 341, Value.str (Str.ofString "/claim/cut.py") 342, Value.int 110 0, Value.int 1 0, Value.int 0 0, Value.int 0 0, Value.int 3 0, Value.ref 102, Value.bool true, Value.int 181 0, Value.ref 103, Value.none, Value.ref 104, Value.ref 105, Value.ref 106, Value.int 344 0, Value.int 110 0, Value.str (Str.ofString "/claim/cut.py") 345] }) ::
  (nat_lit 108, fn108) ::
  (nat_lit 109, { cls := Value.type "tuple", data := Data.seq #[] }) ::
  (nat_lit 111, { cls := Value.type "tuple", data := Data.seq #[Value.str (Str.ofString "self") 350, Value.str (Str.ofString "text") 351] }) ::
  (nat_lit 112, { cls := Value.type "tuple", data := Data.seq #[] }) ::
  (nat_lit 114, { cls := Value.type "code", data := Data.fields #[Value.str (Str.ofString "set_raw_string") 347, Value.str (Str.ofString "ShaFile.set_raw_string") 348, Value.str (Str.ofString "/claim/cut.py") 349, Value.int 113 0, Value.int 2 0, Value.int 0 0, Value.int 0 0, Value.int 3 0, Value.ref 109, Value.bool true, Value.int 181 0, Value.ref 110, Value.none, Value.ref 111, Value.ref 112, Value.ref 113, Value.int 352 0, Value.int 113 0, Value.str (Str.ofString "/claim/cut.py") 353] }) ::
  (nat_lit 115, fn115) ::
  (nat_lit 116, { cls := Value.type "tuple", data := Data.seq #[] }) ::
  (nat_lit 118, { cls := Value.type "tuple", data := Data.seq #[Value.str (Str.ofString "self") 358, Value.str (Str.ofString "chunks") 359] }) ::
  (nat_lit 119, { cls := Value.type "tuple", data := Data.seq #[] }) ::
  (nat_lit 121, { cls := Value.type "code", data := Data.fields #[Value.str (Str.ofString "set_raw_chunks") 355, Value.str (Str.ofString "ShaFile.set_raw_chunks") 356, Value.str (Str.ofString "/claim/cut.py") 357, Value.int 118 0, Value.int 2 0, Value.int 0 0, Value.int 0 0, Value.int 3 0, Value.ref 116, Value.bool true, Value.int 181 0, Value.ref 117, Value.none, Value.ref 118, Value.ref 119, Value.ref 120, Value.int 360 0, Value.int 118 0, Value.str (Str.ofString "/claim/cut.py") 361] }) ::
  (nat_lit 122, fn122) ::
  (nat_lit 123, { cls := Value.type "tuple", data := Data.seq #[] }) ::
  (nat_lit 125, { cls := Value.type "tuple", data := Data.seq #[Value.str (Str.ofString "cls") 366, Value.str (Str.ofString "string") 367, Value.str (Str.ofString "obj") 368] }) ::
  (nat_lit 126, { cls := Value.type "tuple", data := Data.seq #[] }) ::
  (nat_lit 128, { cls := Value.type "code", data := Data.fields #[Value.str (Str.ofString "from_string") 363, Value.str (Str.ofString "ShaFile.from_string") 364, Value.str (Str.ofString "/claim/cut.py") 365, Value.int 124 0, Value.int 2 0, Value.int 0 0, Value.int 0 0, Value.int 3 0, Value.ref 123, Value.bool true, Value.int 181 0, Value.ref 124, Value.none, Value.ref 125, Value.ref 126, Value.ref 127, Value.int 369 0, Value.int 124 0, Value.str (Str.ofString "/claim/cut.py") 370] }) ::
  (nat_lit 129, fn129) ::
  (nat_lit 130, { cls := Value.type "dict", data := Data.dict #[{ hash := PyData.keyHash P (Str.ofString "__module__"), key := Value.str (Str.ofString "__module__") 372, val := Value.str (Str.ofString "dulwich.objects") 312 }, { hash := PyData.keyHash P (Str.ofString "__name__"), key := Value.str (Str.ofString "__name__") 375, val := Value.str (Str.ofString "from_string") 374 }, { hash := PyData.keyHash P (Str.ofString "__qualname__"), key := Value.str (Str.ofString "__qualname__") 378, val := Value.str (Str.ofString "ShaFile.from_string") 377 }, { hash := PyData.keyHash P (Str.ofString "__doc__"), key := Value.str (Str.ofString "__doc__") 380, val := Value.none }, { hash := PyData.keyHash P (Str.ofString "__annotations__"), key := Value.str (Str.ofString "__annotations__") 382, val := Value.ref 132 }] 5 }) ::
  (nat_lit 131, { cls := Value.type "classmethod", dict := some 130, data := Data.fields #[Value.ref 129, Value.bool false] }) ::
  (nat_lit 132, { cls := Value.type "dict", data := Data.dict #[] }) ::
  (nat_lit 133, { cls := Value.type "tuple", data := Data.seq #[] }) ::
  (nat_lit 135, { cls := Value.type "tuple", data := Data.seq #[Value.str (Str.ofString "self") 387] }) ::
  (nat_lit 136, { cls := Value.type "tuple", data := Data.seq #[] }) ::
  (nat_lit 138, { cls := Value.type "code", data := Data.fields #[Value.str (Str.ofString "_header") 384, Value.str (Str.ofString "ShaFile._header") 385, Value.str (Str.ofString "/claim/cut.py") 386, Value.int 130 0, Value.int 1 0, Value.int 0 0, Value.int 0 0, Value.int 3 0, Value.ref 133, Value.bool true, Value.int 181 0, Value.ref 134, Value.none, Value.ref 135, Value.ref 136, Value.ref 137, Value.int 388 0, Value.int 130 0, Value.str (Str.ofString "/claim/cut.py") 389] }) ::
  (nat_lit 139, fn139) ::
  (nat_lit 140, { cls := Value.type "tuple", data := Data.seq #[] }) ::
  (nat_lit 142, { cls := Value.type "tuple", data := Data.seq #[Value.str (Str.ofString "self") 394] }) ::
  (nat_lit 143, { cls := Value.type "tuple", data := Data.seq #[] }) ::
  (nat_lit 145, { cls := Value.type "code", data := Data.fields #[Value.str (Str.ofString "raw_length") 391, Value.str (Str.ofString "ShaFile.raw_length") 392, Value.str (Str.ofString "/claim/cut.py") 393, Value.int 133 0, Value.int 1 0, Value.int 0 0, Value.int 0 0, Value.int 3 0, Value.ref 140, Value.bool true, Value.int 181 0, Value.ref 141, Value.none, Value.ref 142, Value.ref 143, Value.ref 144, Value.int 395 0, Value.int 133 0, Value.str (Str.ofString "/claim/cut.py") 396] }) ::
  (nat_lit 146, fn146) ::
  (nat_lit 147, { cls := Value.type "tuple", data := Data.seq #[] }) ::
  (nat_lit 149, { cls := Value.type "tuple", data := Data.seq #[Value.str (Str.ofString "self") 401] }) ::
  (nat_lit 150, { cls := Value.type "tuple", data := Data.seq #[] }) ::
  (nat_lit 152, { cls := Value.type "code", data := Data.fields #[Value.str (Str.ofString "copy") 398, Value.str (Str.ofString "ShaFile.copy") 399, Value.str (Str.ofString "/claim/cut.py") 400, Value.int 136 0, Value.int 1 0, Value.int 0 0, Value.int 0 0, Value.int 3 0, Value.ref 147, Value.bool true, Value.int 181 0, Value.ref 148, Value.none, Value.ref 149, Value.ref 150, Value.ref 151, Value.int 402 0, Value.int 136 0, Value.str (Str.ofString "/claim/cut.py") 403] }) ::
  (nat_lit 153, fn153) ::
  (nat_lit 154, { cls := Value.type "tuple", data := Data.seq #[] }) ::
  (nat_lit 156, { cls := Value.type "tuple", data := Data.seq #[Value.str (Str.ofString "self") 408, Value.str (Str.ofString "object_format") 409] }) ::
  (nat_lit 157, { cls := Value.type "tuple", data := Data.seq #[] }) ::
  (nat_lit 159, { cls := Value.type "code", data := Data.fields #[Value.str (Str.ofString "get_id") 405, Value.str (Str.ofString "ShaFile.get_id") 406, Value.str (Str.ofString "/claim/cut.py") 407, Value.int 139 0, Value.int 2 0, Value.int 0 0, Value.int 0 0, Value.int 3 0, Value.ref 154, Value.bool true, Value.int 181 0, Value.ref 155, Value.none, Value.ref 156, Value.ref 157, Value.ref 158, Value.int 410 0, Value.int 139 0, Value.str (Str.ofString "/claim/cut.py") 411] }) ::
  (nat_lit 160, fn160) ::
  (nat_lit 161, { cls := Value.type "tuple", data := Data.seq #[Value.str (Str.ofString "_chunked_text") 413, Value.str (Str.ofString "_needs_serialization") 414, Value.str (Str.ofString "_sha") 415, Value.str (Str.ofString "object_format") 416] }) ::
  (nat_lit 162, { cls := Value.type "dict", data := Data.dict #[{ hash := PyData.keyHash P (Str.ofString "__module__"), key := Value.str (Str.ofString "__module__") 321, val := Value.str (Str.ofString "dulwich.objects") 312 }, { hash := PyData.keyHash P (Str.ofString "__firstlineno__"), key := Value.str (Str.ofString "__firstlineno__") 325, val := Value.int 94 324 }, { hash := PyData.keyHash P (Str.ofString "__init__"), key := Value.str (Str.ofString "__init__") 332, val := Value.ref 94 }, { hash := PyData.keyHash P (Str.ofString "as_raw_chunks"), key := Value.str (Str.ofString "as_raw_chunks") 339, val := Value.ref 101 }, { hash := PyData.keyHash P (Str.ofString "as_raw_string"), key := Value.str (Str.ofString "as_raw_string") 346, val := Value.ref 108 }, { hash := PyData.keyHash P (Str.ofString "set_raw_string"), key := Value.str (Str.ofString "set_raw_string") 354, val := Value.ref 115 }, { hash := PyData.keyHash P (Str.ofString "set_raw_chunks"), key := Value.str (Str.ofString "set_raw_chunks") 362, val := Value.ref 122 }, { hash := PyData.keyHash P (Str.ofString "from_string"), key := Value.str (Str.ofString "from_string") 383, val := Value.ref 131 }, { hash := PyData.keyHash P (Str.ofString "_header"), key := Value.str (Str.ofString "_header") 390, val := Value.ref 139 }, { hash := PyData.keyHash P (Str.ofString "raw_length"), key := Value.str (Str.ofString "raw_length") 397, val := Value.ref 146 }, { hash := PyData.keyHash P (Str.ofString "copy"), key := Value.str (Str.ofString "copy") 404, val := Value.ref 153 }, { hash := PyData.keyHash P (Str.ofString "get_id"), key := Value.str (Str.ofString "get_id") 412, val := Value.ref 160 }, { hash := PyData.keyHash P (Str.ofString "__static_attributes__"), key := Value.str (Str.ofString "__static_attributes__") 417, val := Value.ref 161 }, { hash := PyData.keyHash P (Str.ofString "__dict__"), key := Value.str (Str.ofString "__dict__") 419, val := Value.ref 164 }, { hash := PyData.keyHash P (Str.ofString "__weakref__"), key := Value.str (Str.ofString "__weakref__") 421, val := Value.ref 165 }, { hash := PyData.keyHash P (Str.ofString "__doc__"), key := Value.str (Str.ofString "__doc__") 422, val := Value.none }] 4 }) ::
  (nat_lit 163, { cls := Value.type "type", data := Data.cls { name := Str.ofString "ShaFile", bases := [Value.type "object"], mro := [Value.ref 163, Value.type "object"], ns := 162, qualname := Str.ofString "ShaFile", subclasses := [Value.ref 241] }, slots := #[none, none, some (Value.str (Str.ofString "ShaFile") 314), some (Value.str (Str.ofString "ShaFile") 322), some (Value.builtin "object.__new__"), some (Value.bool true)] }) ::
  (nat_lit 164, { cls := Value.type "getset_descriptor", data := Data.fields #[Value.str (Str.ofString "__dict__") 418, Value.ref 163, Value.builtin "function.__dict__", Value.builtin "function.__dict__#set"] }) ::
  (nat_lit 165, { cls := Value.type "getset_descriptor", data := Data.fields #[Value.str (Str.ofString "__weakref__") 420, Value.ref 163, Value.builtin "ExceptionGroup.__weakref__", Value.none] }) ::
  (nat_lit 168, { cls := Value.type "tuple", data := Data.seq #[Value.ref 163] }) ::
  (nat_lit 171, { cls := Value.type "cell", data := Data.cell (some (Value.ref 241)) }) ::
  (nat_lit 176, { cls := Value.type "tuple", data := Data.seq #[Value.ref 171] }) ::
  (nat_lit 177, { cls := Value.type "tuple", data := Data.seq #[Value.str (Str.ofString "__class__") 444] }) ::
  (nat_lit 179, { cls := Value.type "tuple", data := Data.seq #[Value.str (Str.ofString "self") 445] }) ::
  (nat_lit 180, { cls := Value.type "tuple", data := Data.seq #[] }) ::
  (nat_lit 182, { cls := Value.type "code", data := Data.fields #[Value.str (Str.ofString "__init__") 441, Value.str (Str.ofString "Blob.__init__") 442, Value.str (Str.ofString "/claim/cut.py") 443, Value.int 145 0, Value.int 1 0, Value.int 0 0, Value.int 0 0, Value.int 3 0, Value.ref 177, Value.bool true, Value.int 181 0, Value.ref 178, Value.none, Value.ref 179, Value.ref 180, Value.ref 181, Value.int 446 0, Value.int 145 0, Value.str (Str.ofString "/claim/cut.py") 447] }) ::
  (nat_lit 183, fn183) ::
  (nat_lit 184, { cls := Value.type "tuple", data := Data.seq #[] }) ::
  (nat_lit 186, { cls := Value.type "tuple", data := Data.seq #[Value.str (Str.ofString "self") 452] }) ::
  (nat_lit 187, { cls := Value.type "tuple", data := Data.seq #[] }) ::
  (nat_lit 189, { cls := Value.type "code", data := Data.fields #[Value.str (Str.ofString "data") 449, Value.str (Str.ofString "Blob.data") 450, Value.str (Str.ofString "/claim/cut.py") 451, Value.int 150 0, Value.int 1 0, Value.int 0 0, Value.int 0 0, Value.int 3 0, Value.ref 184, Value.bool true, Value.int 181 0, Value.ref 185, Value.none, Value.ref 186, Value.ref 187, Value.ref 188, Value.int 453 0, Value.int 150 0, Value.str (Str.ofString "/claim/cut.py") 454] }) ::
  (nat_lit 190, fn190) ::
  (nat_lit 193, { cls := Value.type "tuple", data := Data.seq #[] }) ::
  (nat_lit 195, { cls := Value.type "tuple", data := Data.seq #[Value.str (Str.ofString "self") 461, Value.str (Str.ofString "data") 462] }) ::
  (nat_lit 196, { cls := Value.type "tuple", data := Data.seq #[] }) ::
  (nat_lit 198, { cls := Value.type "code", data := Data.fields #[Value.str (Str.ofString "data") 458, Value.str (Str.ofString "Blob.data") 459, Value.str (Str.ofString "/claim/cut.py") 460, Value.int 154 0, Value.int 2 0, Value.int 0 0, Value.int 0 0, Value.int 3 0, Value.ref 193, Value.bool true, Value.int 181 0, Value.ref 194, Value.none, Value.ref 195, Value.ref 196, Value.ref 197, Value.int 463 0, Value.int 154 0, Value.str (Str.ofString "/claim/cut.py") 464] }) ::
  (nat_lit 199, fn199) ::
  (nat_lit 200, { cls := Value.type "property", data := Data.fields #[Value.ref 190, Value.ref 199, Value.none, Value.none, Value.str (Str.ofString "data") 456, Value.bool false] }) ::
  (nat_lit 201, { cls := Value.type "tuple", data := Data.seq #[] }) ::
  (nat_lit 203, { cls := Value.type "tuple", data := Data.seq #[Value.str (Str.ofString "self") 470] }) ::
  (nat_lit 204, { cls := Value.type "tuple", data := Data.seq #[] }) ::
  (nat_lit 206, { cls := Value.type "code", data := Data.fields #[Value.str (Str.ofString "chunked") 467, Value.str (Str.ofString "Blob.chunked") 468, Value.str (Str.ofString "/claim/cut.py") 469, Value.int 158 0, Value.int 1 0, Value.int 0 0, Value.int 0 0, Value.int 3 0, Value.ref 201, Value.bool true, Value.int 181 0, Value.ref 202, Value.none, Value.ref 203, Value.ref 204, Value.ref 205, Value.int 471 0, Value.int 158 0, Value.str (Str.ofString "/claim/cut.py") 472] }) ::
  (nat_lit 207, fn207) ::
  (nat_lit 210, { cls := Value.type "tuple", data := Data.seq #[] }) ::
  (nat_lit 212, { cls := Value.type "tuple", data := Data.seq #[Value.str (Str.ofString "self") 479, Value.str (Str.ofString "chunks") 480] }) ::
  (nat_lit 213, { cls := Value.type "tuple", data := Data.seq #[] }) ::
  (nat_lit 215, { cls := Value.type "code", data := Data.fields #[Value.str (Str.ofString "chunked") 476, Value.str (Str.ofString "Blob.chunked") 477, Value.str (Str.ofString "/claim/cut.py") 478, Value.int 163 0, Value.int 2 0, Value.int 0 0, Value.int 0 0, Value.int 3 0, Value.ref 210, Value.bool true, Value.int 181 0, Value.ref 211, Value.none, Value.ref 212, Value.ref 213, Value.ref 214, Value.int 481 0, Value.int 163 0, Value.str (Str.ofString "/claim/cut.py") 482] }) ::
  (nat_lit 216, fn216) ::
  (nat_lit 217, { cls := Value.type "property", data := Data.fields #[Value.ref 207, Value.ref 216, Value.none, Value.none, Value.str (Str.ofString "chunked") 474, Value.bool false] }) ::
  (nat_lit 218, { cls := Value.type "tuple", data := Data.seq #[] }) ::
  (nat_lit 220, { cls := Value.type "tuple", data := Data.seq #[Value.str (Str.ofString "self") 488] }) ::
  (nat_lit 221, { cls := Value.type "tuple", data := Data.seq #[] }) ::
  (nat_lit 223, { cls := Value.type "code", data := Data.fields #[Value.str (Str.ofString "_serialize") 485, Value.str (Str.ofString "Blob._serialize") 486, Value.str (Str.ofString "/claim/cut.py") 487, Value.int 167 0, Value.int 1 0, Value.int 0 0, Value.int 0 0, Value.int 3 0, Value.ref 218, Value.bool true, Value.int 181 0, Value.ref 219, Value.none, Value.ref 220, Value.ref 221, Value.ref 222, Value.int 489 0, Value.int 167 0, Value.str (Str.ofString "/claim/cut.py") 490] }) ::
  (nat_lit 224, fn224) ::
  (nat_lit 225, { cls := Value.type "tuple", data := Data.seq #[] }) ::
  (nat_lit 227, { cls := Value.type "tuple", data := Data.seq #[Value.str (Str.ofString "self") 495, Value.str (Str.ofString "chunks") 496] }) ::
  (nat_lit 228, { cls := Value.type "tuple", data := Data.seq #[] }) ::
  (nat_lit 230, { cls := Value.type "code", data := Data.fields #[Value.str (Str.ofString "_deserialize") 492, Value.str (Str.ofString "Blob._deserialize") 493, Value.str (Str.ofString "/claim/cut.py") 494, Value.int 171 0, Value.int 2 0, Value.int 0 0, Value.int 0 0, Value.int 3 0, Value.ref 225, Value.bool true, Value.int 181 0, Value.ref 226, Value.none, Value.ref 227, Value.ref 228, Value.ref 229, Value.int 497 0, Value.int 171 0, Value.str (Str.ofString "/claim/cut.py") 498] }) ::
  (nat_lit 231, fn231) ::
  (nat_lit 232, { cls := Value.type "tuple", data := Data.seq #[] }) ::
  (nat_lit 234, { cls := Value.type "tuple", data := Data.seq #[Value.str (Str.ofString "self") 503, Value.str (Str.ofString "chunks") 504, Value.str (Str.ofString "result") 505, Value.str (Str.ofString "remaining") 506, Value.str (Str.ofString "ret") 507, Value.str (Str.ofString "chunk") 508, Value.str (Str.ofString "lines") 509] }) ::
  (nat_lit 235, { cls := Value.type "tuple", data := Data.seq #[] }) ::
  (nat_lit 237, { cls := Value.type "code", data := Data.fields #[Value.str (Str.ofString "splitlines") 500, Value.str (Str.ofString "Blob.splitlines") 501, Value.str (Str.ofString "/claim/cut.py") 502, Value.int 174 0, Value.int 1 0, Value.int 0 0, Value.int 0 0, Value.int 3 0, Value.ref 232, Value.bool true, Value.int 181 0, Value.ref 233, Value.none, Value.ref 234, Value.ref 235, Value.ref 236, Value.int 510 0, Value.int 174 0, Value.str (Str.ofString "/claim/cut.py") 511] }) ::
  (nat_lit 238, fn238) ::
  (nat_lit 239, { cls := Value.type "tuple", data := Data.seq #[Value.str (Str.ofString "_chunked_text") 513, Value.str (Str.ofString "_needs_serialization") 514] }) ::
  (nat_lit 240, { cls := Value.type "dict", data := Data.dict #[{ hash := PyData.keyHash P (Str.ofString "__module__"), key := Value.str (Str.ofString "__module__") 432, val := Value.str (Str.ofString "dulwich.objects") 312 }, { hash := PyData.keyHash P (Str.ofString "__firstlineno__"), key := Value.str (Str.ofString "__firstlineno__") 436, val := Value.int 141 435 }, { hash := PyData.keyHash P (Str.ofString "type_name"), key := Value.str (Str.ofString "type_name") 438, val := Value.bytes #[98, 108, 111, 98] 437 }, { hash := PyData.keyHash P (Str.ofString "type_num"), key := Value.str (Str.ofString "type_num") 440, val := Value.int 3 439 }, { hash := PyData.keyHash P (Str.ofString "__init__"), key := Value.str (Str.ofString "__init__") 448, val := Value.ref 183 }, { hash := PyData.keyHash P (Str.ofString "data"), key := Value.str (Str.ofString "data") 456, val := Value.ref 200 }, { hash := PyData.keyHash P (Str.ofString "chunked"), key := Value.str (Str.ofString "chunked") 474, val := Value.ref 217 }, { hash := PyData.keyHash P (Str.ofString "_serialize"), key := Value.str (Str.ofString "_serialize") 491, val := Value.ref 224 }, { hash := PyData.keyHash P (Str.ofString "_deserialize"), key := Value.str (Str.ofString "_deserialize") 499, val := Value.ref 231 }, { hash := PyData.keyHash P (Str.ofString "splitlines"), key := Value.str (Str.ofString "splitlines") 512, val := Value.ref 238 }, { hash := PyData.keyHash P (Str.ofString "__static_attributes__"), key := Value.str (Str.ofString "__static_attributes__") 515, val := Value.ref 239 }, { hash := PyData.keyHash P (Str.ofString "__doc__"), key := Value.str (Str.ofString "__doc__") 517, val := Value.none }] 3 }) ::
  (nat_lit 241, { cls := Value.type "type", data := Data.cls { name := Str.ofString "Blob", bases := [Value.ref 163], mro := [Value.ref 241, Value.ref 163, Value.type "object"], ns := 240, qualname := Str.ofString "Blob" }, slots := #[some (Value.ref 168), none, some (Value.str (Str.ofString "Blob") 425), some (Value.str (Str.ofString "Blob") 433), some (Value.builtin "object.__new__"), some (Value.bool true)] }) ::
  (nat_lit 244, { cls := Value.type "list", data := Data.seq #[Value.none, Value.bytes #[] 522, Value.bytes #[112, 10] 523, Value.bytes #[112, 10, 113, 10] 524, Value.bytes #[113, 10, 112] 525, Value.bytes #[10, 10] 526, Value.bytes #[60, 60, 60, 60, 60, 60, 60, 32, 111, 117, 114, 115, 10] 527] }) ::
  (nat_lit 245, { cls := Value.type "list", data := Data.seq #[] }) ::
  (nat_lit 246, { cls := Value.type "list", data := Data.seq #[Value.bytes #[112, 10] 529] }) ::
  (nat_lit 247, { cls := Value.type "list", data := Data.seq #[Value.bytes #[113, 10] 530, Value.bytes #[112, 10] 531] }) ::
  (nat_lit 248, { cls := Value.type "list", data := Data.seq #[Value.bytes #[114] 532] }) ::
  (nat_lit 249, { cls := Value.type "list", data := Data.seq #[Value.bytes #[60, 60, 60, 60, 60, 60, 60, 32, 111, 117, 114, 115, 33, 10] 533] }) ::
  (nat_lit 250, { cls := Value.type "list", data := Data.seq #[Value.bytes #[112, 10] 534, Value.bytes #[10] 535, Value.bytes #[113] 536] }) ::
  (nat_lit 251, { cls := Value.type "list", data := Data.seq #[Value.ref 245, Value.ref 246, Value.ref 247, Value.ref 248, Value.ref 249, Value.ref 250] }) ::
  (nat_lit 252, { cls := Value.type "tuple", data := Data.seq #[] }) ::
  (nat_lit 254, { cls := Value.type "tuple", data := Data.seq #[Value.str (Str.ofString "text") 541, Value.str (Str.ofString "rows") 542, Value.str (Str.ofString "end") 543] }) ::
  (nat_lit 255, { cls := Value.type "tuple", data := Data.seq #[] }) ::
  (nat_lit 257, { cls := Value.type "code", data := Data.fields #[Value.str (Str.ofString "_law_rows") 538, Value.str (Str.ofString "_law_rows") 539, Value.str (Str.ofString "/claim/cut.py") 540, Value.int 200 0, Value.int 1 0, Value.int 0 0, Value.int 0 0, Value.int 3 0, Value.ref 252, Value.bool true, Value.int 181 0, Value.ref 253, Value.none, Value.ref 254, Value.ref 255, Value.ref 256, Value.int 544 0, Value.int 200 0, Value.str (Str.ofString "/claim/cut.py") 545] }) ::
  (nat_lit 258, fn258) ::
  (nat_lit 259, { cls := Value.type "tuple", data := Data.seq #[] }) ::
  (nat_lit 261, { cls := Value.type "tuple", data := Data.seq #[Value.str (Str.ofString "script") 550, Value.str (Str.ofString "groups") 551, Value.str (Str.ofString "n") 552, Value.str (Str.ofString "kind") 553, Value.str (Str.ofString "first") 554] }) ::
  (nat_lit 262, { cls := Value.type "tuple", data := Data.seq #[] }) ::
  (nat_lit 264, { cls := Value.type "code", data := Data.fields #[Value.str (Str.ofString "_law_groups") 547, Value.str (Str.ofString "_law_groups") 548, Value.str (Str.ofString "/claim/cut.py") 549, Value.int 209 0, Value.int 1 0, Value.int 0 0, Value.int 0 0, Value.int 3 0, Value.ref 259, Value.bool true, Value.int 181 0, Value.ref 260, Value.none, Value.ref 261, Value.ref 262, Value.ref 263, Value.int 555 0, Value.int 209 0, Value.str (Str.ofString "/claim/cut.py") 556] }) ::
  (nat_lit 265, fn265) ::
  (nat_lit 266, { cls := Value.type "tuple", data := Data.seq #[] }) ::
  (nat_lit 268, { cls := Value.type "tuple", data := Data.seq #[Value.str (Str.ofString "groups") 561, Value.str (Str.ofString "rows") 562, Value.str (Str.ofString "group") 563] }) ::
  (nat_lit 269, { cls := Value.type "tuple", data := Data.seq #[] }) ::
  (nat_lit 271, { cls := Value.type "code", data := Data.fields #[Value.str (Str.ofString "_law_joined") 558, Value.str (Str.ofString "_law_joined") 559, Value.str (Str.ofString "/claim/cut.py") 560, Value.int 219 0, Value.int 1 0, Value.int 0 0, Value.int 0 0, Value.int 3 0, Value.ref 266, Value.bool true, Value.int 181 0, Value.ref 267, Value.none, Value.ref 268, Value.ref 269, Value.ref 270, Value.int 564 0, Value.int 219 0, Value.str (Str.ofString "/claim/cut.py") 565] }) ::
  (nat_lit 272, fn272) ::
  (nat_lit 273, { cls := Value.type "tuple", data := Data.seq #[] }) ::
  (nat_lit 275, { cls := Value.type "tuple", data := Data.seq #[Value.str (Str.ofString "base") 570, Value.str (Str.ofString "ours") 571, Value.str (Str.ofString "theirs") 572, Value.str (Str.ofString "joined") 573, Value.str (Str.ofString "one") 574, Value.str (Str.ofString "sides") 575] }) ::
  (nat_lit 276, { cls := Value.type "tuple", data := Data.seq #[] }) ::
  (nat_lit 278, { cls := Value.type "code", data := Data.fields #[Value.str (Str.ofString "_law_due") 567, Value.str (Str.ofString "_law_due") 568, Value.str (Str.ofString "/claim/cut.py") 569, Value.int 231 0, Value.int 4 0, Value.int 0 0, Value.int 0 0, Value.int 3 0, Value.ref 273, Value.bool true, Value.int 181 0, Value.ref 274, Value.none, Value.ref 275, Value.ref 276, Value.ref 277, Value.int 576 0, Value.int 231 0, Value.str (Str.ofString "/claim/cut.py") 577] }) ::
  (nat_lit 279, fn279) ::
  (nat_lit 280, { cls := Value.type "tuple", data := Data.seq #[] }) ::
  (nat_lit 282, { cls := Value.type "tuple", data := Data.seq #[Value.str (Str.ofString "asked") 582, Value.str (Str.ofString "groups") 583, Value.str (Str.ofString "base") 584, Value.str (Str.ofString "ours") 585, Value.str (Str.ofString "theirs") 586] }) ::
  (nat_lit 283, { cls := Value.type "tuple", data := Data.seq #[] }) ::
  (nat_lit 285, { cls := Value.type "code", data := Data.fields #[Value.str (Str.ofString "_law_asked") 579, Value.str (Str.ofString "_law_asked") 580, Value.str (Str.ofString "/claim/cut.py") 581, Value.int 251 0, Value.int 5 0, Value.int 0 0, Value.int 0 0, Value.int 3 0, Value.ref 280, Value.bool true, Value.int 181 0, Value.ref 281, Value.none, Value.ref 282, Value.ref 283, Value.ref 284, Value.int 587 0, Value.int 251 0, Value.str (Str.ofString "/claim/cut.py") 588] }) ::
  (nat_lit 286, fn286) ::
  (nat_lit 287, { cls := Value.type "tuple", data := Data.seq #[] }) ::
  (nat_lit 290, { cls := Value.type "code", data := Data.fields #[Value.str (Str.ofString "law") 590, Value.str (Str.ofString "law") 591, Value.str (Str.ofString "/claim/cut.py") 592, Value.int 254 0, Value.int 1 0, Value.int 0 0, Value.int 0 0, Value.int 3 0, Value.ref 287, Value.bool true, Value.int 181 0, Value.ref 288, Value.none, Value.none, Value.none, Value.ref 289, Value.int 593 0, Value.int 254 0, Value.str (Str.ofString "/claim/cut.py") 594] }) ::
  (nat_lit 291, fn291) :: []
noncomputable def K : Params → Frag := by
  refine' (?f : ∀ F : Params → Frag, K0 = F → Params → Frag) _ ?h
  case f => exact fun F _ => F
  case h => (delta K0; delta fn21 fn28 fn35 fn42 fn49 fn63 fn70 fn94 fn101 fn108 fn115 fn122 fn129 fn139 fn146 fn153 fn160 fn183 fn190 fn199 fn207 fn216 fn224 fn231 fn238 fn258 fn265 fn272 fn279 fn286 fn291); exact rfl
def as : List Addr := [2, 3, 15, 17, 18, 20, 21, 22, 24, 25, 27, 28, 29, 31, 32, 34, 35, 36, 38, 39, 41, 42, 43, 45, 46, 48, 49, 57, 59, 60, 62, 63, 64, 66, 67, 69, 70, 71, 72, 73, 74, 75, 78, 79, 88, 90, 91, 93, 94, 95, 97, 98, 100, 101, 102, 104, 105, 107, 108, 109, 111, 112, 114, 115, 116, 118, 119, 121, 122, 123, 125, 126, 128, 129, 130, 131, 132, 133, 135, 136, 138, 139, 140, 142, 143, 145, 146, 147, 149, 150, 152, 153, 154, 156, 157, 159, 160, 161, 162, 163, 164, 165, 168, 171, 176, 177, 179, 180, 182, 183, 184, 186, 187, 189, 190, 193, 195, 196, 198, 199, 200, 201, 203, 204, 206, 207, 210, 212, 213, 215, 216, 217, 218, 220, 221, 223, 224, 225, 227, 228, 230, 231, 232, 234, 235, 237, 238, 239, 240, 241, 244, 245, 246, 247, 248, 249, 250, 251, 252, 254, 255, 257, 258, 259, 261, 262, 264, 265, 266, 268, 269, 271, 272, 273, 275, 276, 278, 279, 280, 282, 283, 285, 286, 287, 290, 291]
theorem asIs (P : Params) : as = (K P).map (·.1) := by kernel_rfl
noncomputable abbrev hook : Hook := kmHook K as asIs [288]
noncomputable def vq : Program := PySem.W.view PR [0, 2, 3, 4, 5, 7, 8, 9, 11, 12, 14, 15, 16, 17, 18, 19, 20, 21]
noncomputable def loose : List Str := [Str.ofString "SHA1", Str.ofString "DEFAULT_OBJECT_FORMAT", Str.ofString "ShaFile", Str.ofString "Blob", Str.ofString "_law_texts", Str.ofString "_law_lists"]
noncomputable abbrev Xt : Shared → Bool := fun s => xlAt vq [] s && recOk (RowW.records PySem.Challenge.rw_ji0039_01.row.toRowW) s
noncomputable def envT : Env := { scope := PR.main.scope, locals := mainNs, globals := mainNs, cells := [], code := Value.ref 13, frame := some 14 }
noncomputable def bodT : List Stmt := behindTheImports PR
noncomputable abbrev codT : Code := Code.body bodT envT
def zero : Pos := ⟨0, 0, 0, 0⟩
noncomputable def ann : Option Value := some (Value.ref 6)
/-! the objects that stand between the pieces -/
noncomputable def o43 (_ : Params) : Obj := { cls := Value.type "tuple", data := Data.seq #[] }
noncomputable def o44 (_ : Params) : Obj := { cls := Value.none, data := Data.fields #[] }
noncomputable def o45 (_ : Params) : Obj := { cls := Value.type "code", data := Data.fields #[Value.str (Str.ofString "<module>") 182, Value.str (Str.ofString "<module>") 183, Value.str (Str.ofString "/claim/cut.py") 184, Value.int 1 0, Value.int 0 0, Value.int 0 0, Value.int 0 0, Value.int 0 0, Value.ref 11, Value.bool false, Value.int 181 0, Value.ref 12, Value.none, Value.none, Value.none, Value.none, Value.int 185 0, Value.int 1 0, Value.str (Str.ofString "/claim/cut.py") 186] }
noncomputable def o46 (_ : Params) : Obj := { cls := Value.type "frame", slots := #[some (Value.ref 13), some (Value.ref 3), some (Value.ref 3), none, some (Value.str (Str.ofString "__main__") 164), none, some (Value.ref 0)] }
noncomputable def o49 (P : Params) : Obj := { cls := Value.type "dict", data := Data.dict #[{ hash := PyData.keyHash P (Str.ofString "__name__"), key := Value.str (Str.ofString "__name__") 165, val := Value.str (Str.ofString "dulwich.object_format") 243 }, { hash := PyData.keyHash P (Str.ofString "__doc__"), key := Value.str (Str.ofString "__doc__") 166, val := Value.none }, { hash := PyData.keyHash P (Str.ofString "__package__"), key := Value.str (Str.ofString "__package__") 167, val := Value.none }, { hash := PyData.keyHash P (Str.ofString "__loader__"), key := Value.str (Str.ofString "__loader__") 168, val := Value.builtin "__main__.__loader__#opaque" }, { hash := PyData.keyHash P (Str.ofString "__spec__"), key := Value.str (Str.ofString "__spec__") 169, val := Value.none }, { hash := PyData.keyHash P (Str.ofString "__annotations__"), key := Value.str (Str.ofString "__annotations__") 170, val := Value.ref 6 }, { hash := PyData.keyHash P (Str.ofString "__builtins__"), key := Value.str (Str.ofString "__builtins__") 171, val := Value.ref 4 }, { hash := PyData.keyHash P (Str.ofString "__file__"), key := Value.str (Str.ofString "__file__") 173, val := Value.str (Str.ofString "/claim/cut.py") 172 }, { hash := PyData.keyHash P (Str.ofString "__cached__"), key := Value.str (Str.ofString "__cached__") 174, val := Value.none }, { hash := PyData.keyHash P (Str.ofString "_wall"), key := Value.str (Str.ofString "_wall") 193, val := Value.ref 21 }, { hash := PyData.keyHash P (Str.ofString "_can_merge_lines"), key := Value.str (Str.ofString "_can_merge_lines") 204, val := Value.ref 28 }, { hash := PyData.keyHash P (Str.ofString "_merge3_to_bytes"), key := Value.str (Str.ofString "_merge3_to_bytes") 217, val := Value.ref 35 }, { hash := PyData.keyHash P (Str.ofString "_merge_lines"), key := Value.str (Str.ofString "_merge_lines") 226, val := Value.ref 42 }, { hash := PyData.keyHash P (Str.ofString "merge_blobs"), key := Value.str (Str.ofString "merge_blobs") 242, val := Value.ref 49 }] 14 }
noncomputable def o50 (_ : Params) : Obj := { cls := Value.none, data := Data.fields #[Value.int 1 0, Value.int 0 0, Value.ref 20, Value.int 5 0, Value.int 0 0, Value.ref 27, Value.int 12 0, Value.int 0 0, Value.ref 34, Value.int 31 0, Value.int 0 0, Value.ref 41, Value.int 38 0, Value.int 0 0, Value.ref 48] }
noncomputable def o51 (_ : Params) : Obj := { cls := Value.type "tuple", data := Data.seq #[] }
noncomputable def o52 (_ : Params) : Obj := { cls := Value.none, data := Data.fields #[] }
noncomputable def o53 (_ : Params) : Obj := { cls := Value.type "tuple", data := Data.seq #[Value.str (Str.ofString "k") 190] }
noncomputable def o54 (_ : Params) : Obj := { cls := Value.type "tuple", data := Data.seq #[] }
noncomputable def o55 (_ : Params) : Obj := fnObj (nth PR.main.body 0) (Str.ofString "_wall") 0 [] Value.none Value.none Value.none Value.none none Value.none Value.none 0 Value.none
noncomputable def o56 (_ : Params) : Obj := { cls := Value.type "code", data := Data.fields #[Value.str (Str.ofString "_wall") 187, Value.str (Str.ofString "_wall") 188, Value.str (Str.ofString "/claim/cut.py") 189, Value.int 1 0, Value.int 1 0, Value.int 0 0, Value.int 0 0, Value.int 3 0, Value.ref 15, Value.bool true, Value.int 181 0, Value.ref 16, Value.none, Value.ref 17, Value.ref 18, Value.ref 19, Value.int 191 0, Value.int 1 0, Value.str (Str.ofString "/claim/cut.py") 192] }
noncomputable def o57 (_ : Params) : Obj := fnObj (nth PR.main.body 0) (Str.ofString "_wall") 3 [] Value.none Value.none Value.none (Value.str (Str.ofString "__main__") 164) none (Value.ref 20) Value.none 0 (Value.type "function")
noncomputable def o58 (_ : Params) : Obj := { cls := Value.type "tuple", data := Data.seq #[] }
noncomputable def o59 (_ : Params) : Obj := { cls := Value.none, data := Data.fields #[] }
noncomputable def o60 (_ : Params) : Obj := { cls := Value.type "tuple", data := Data.seq #[Value.str (Str.ofString "base_lines") 199, Value.str (Str.ofString "a_lines") 200, Value.str (Str.ofString "b_lines") 201] }
noncomputable def o61 (_ : Params) : Obj := { cls := Value.type "tuple", data := Data.seq #[] }
noncomputable def o62 (_ : Params) : Obj := fnObj (nth PR.main.body 2) (Str.ofString "_can_merge_lines") 0 [] Value.none Value.none Value.none Value.none none Value.none Value.none 0 Value.none
noncomputable def o63 (_ : Params) : Obj := { cls := Value.type "code", data := Data.fields #[Value.str (Str.ofString "_can_merge_lines") 196, Value.str (Str.ofString "_can_merge_lines") 197, Value.str (Str.ofString "/claim/cut.py") 198, Value.int 5 0, Value.int 3 0, Value.int 0 0, Value.int 0 0, Value.int 3 0, Value.ref 22, Value.bool true, Value.int 181 0, Value.ref 23, Value.none, Value.ref 24, Value.ref 25, Value.ref 26, Value.int 202 0, Value.int 5 0, Value.str (Str.ofString "/claim/cut.py") 203] }
noncomputable def o64 (_ : Params) : Obj := fnObj (nth PR.main.body 2) (Str.ofString "_can_merge_lines") 3 [] Value.none Value.none Value.none (Value.str (Str.ofString "dulwich.merge") 194) none (Value.ref 27) Value.none 0 (Value.type "function")
noncomputable def o65 (_ : Params) : Obj := { cls := Value.type "tuple", data := Data.seq #[] }
noncomputable def o66 (_ : Params) : Obj := { cls := Value.none, data := Data.fields #[] }
noncomputable def o67 (_ : Params) : Obj := { cls := Value.type "tuple", data := Data.seq #[Value.str (Str.ofString "groups") 208, Value.str (Str.ofString "result") 209, Value.str (Str.ofString "group") 210, Value.str (Str.ofString "base_lines") 211, Value.str (Str.ofString "a_lines") 212, Value.str (Str.ofString "b_lines") 213, Value.str (Str.ofString "merged_lines") 214] }
noncomputable def o68 (_ : Params) : Obj := { cls := Value.type "tuple", data := Data.seq #[] }
noncomputable def o69 (_ : Params) : Obj := fnObj (nth PR.main.body 3) (Str.ofString "_merge3_to_bytes") 0 [] Value.none Value.none Value.none Value.none none Value.none Value.none 0 Value.none
noncomputable def o70 (_ : Params) : Obj := { cls := Value.type "code", data := Data.fields #[Value.str (Str.ofString "_merge3_to_bytes") 205, Value.str (Str.ofString "_merge3_to_bytes") 206, Value.str (Str.ofString "/claim/cut.py") 207, Value.int 12 0, Value.int 1 0, Value.int 0 0, Value.int 0 0, Value.int 3 0, Value.ref 29, Value.bool true, Value.int 181 0, Value.ref 30, Value.none, Value.ref 31, Value.ref 32, Value.ref 33, Value.int 215 0, Value.int 12 0, Value.str (Str.ofString "/claim/cut.py") 216] }
noncomputable def o71 (_ : Params) : Obj := fnObj (nth PR.main.body 3) (Str.ofString "_merge3_to_bytes") 3 [] Value.none Value.none Value.none (Value.str (Str.ofString "dulwich.merge") 194) none (Value.ref 34) Value.none 0 (Value.type "function")
noncomputable def o72 (_ : Params) : Obj := { cls := Value.type "tuple", data := Data.seq #[] }
noncomputable def o73 (_ : Params) : Obj := { cls := Value.none, data := Data.fields #[] }
noncomputable def o74 (_ : Params) : Obj := { cls := Value.type "tuple", data := Data.seq #[Value.str (Str.ofString "base_lines") 221, Value.str (Str.ofString "a_lines") 222, Value.str (Str.ofString "b_lines") 223] }
noncomputable def o75 (_ : Params) : Obj := { cls := Value.type "tuple", data := Data.seq #[] }
noncomputable def o76 (_ : Params) : Obj := fnObj (nth PR.main.body 4) (Str.ofString "_merge_lines") 0 [] Value.none Value.none Value.none Value.none none Value.none Value.none 0 Value.none
noncomputable def o77 (_ : Params) : Obj := { cls := Value.type "code", data := Data.fields #[Value.str (Str.ofString "_merge_lines") 218, Value.str (Str.ofString "_merge_lines") 219, Value.str (Str.ofString "/claim/cut.py") 220, Value.int 31 0, Value.int 3 0, Value.int 0 0, Value.int 0 0, Value.int 3 0, Value.ref 36, Value.bool true, Value.int 181 0, Value.ref 37, Value.none, Value.ref 38, Value.ref 39, Value.ref 40, Value.int 224 0, Value.int 31 0, Value.str (Str.ofString "/claim/cut.py") 225] }
noncomputable def o78 (_ : Params) : Obj := fnObj (nth PR.main.body 4) (Str.ofString "_merge_lines") 3 [] Value.none Value.none Value.none (Value.str (Str.ofString "dulwich.merge") 194) none (Value.ref 41) Value.none 0 (Value.type "function")
noncomputable def o79 (_ : Params) : Obj := { cls := Value.type "tuple", data := Data.seq #[] }
noncomputable def o80 (_ : Params) : Obj := { cls := Value.none, data := Data.fields #[] }
noncomputable def o81 (_ : Params) : Obj := { cls := Value.type "tuple", data := Data.seq #[Value.str (Str.ofString "base_blob") 230, Value.str (Str.ofString "ours_blob") 231, Value.str (Str.ofString "theirs_blob") 232, Value.str (Str.ofString "line_merge") 233, Value.str (Str.ofString "m") 234, Value.str (Str.ofString "base_content") 235, Value.str (Str.ofString "ours_content") 236, Value.str (Str.ofString "theirs_content") 237, Value.str (Str.ofString "merged_content") 238, Value.str (Str.ofString "has_conflicts") 239] }
noncomputable def o82 (_ : Params) : Obj := { cls := Value.type "tuple", data := Data.seq #[] }
noncomputable def o83 (_ : Params) : Obj := fnObj (nth PR.main.body 5) (Str.ofString "merge_blobs") 0 [] Value.none Value.none Value.none Value.none none Value.none Value.none 0 Value.none
noncomputable def o84 (_ : Params) : Obj := { cls := Value.type "code", data := Data.fields #[Value.str (Str.ofString "merge_blobs") 227, Value.str (Str.ofString "merge_blobs") 228, Value.str (Str.ofString "/claim/cut.py") 229, Value.int 38 0, Value.int 4 0, Value.int 0 0, Value.int 0 0, Value.int 3 0, Value.ref 43, Value.bool true, Value.int 181 0, Value.ref 44, Value.none, Value.ref 45, Value.ref 46, Value.ref 47, Value.int 240 0, Value.int 38 0, Value.str (Str.ofString "/claim/cut.py") 241] }
noncomputable def o85 (_ : Params) : Obj := fnObj (nth PR.main.body 5) (Str.ofString "merge_blobs") 3 [] Value.none Value.none Value.none (Value.str (Str.ofString "dulwich.merge") 194) none (Value.ref 48) Value.none 0 (Value.type "function")
noncomputable def o86 (P : Params) : Obj := { cls := Value.type "dict", data := Data.dict #[{ hash := PyData.keyHash P (Str.ofString "__name__"), key := Value.str (Str.ofString "__name__") 165, val := Value.str (Str.ofString "dulwich.object_format") 243 }, { hash := PyData.keyHash P (Str.ofString "__doc__"), key := Value.str (Str.ofString "__doc__") 166, val := Value.none }, { hash := PyData.keyHash P (Str.ofString "__package__"), key := Value.str (Str.ofString "__package__") 167, val := Value.none }, { hash := PyData.keyHash P (Str.ofString "__loader__"), key := Value.str (Str.ofString "__loader__") 168, val := Value.builtin "__main__.__loader__#opaque" }, { hash := PyData.keyHash P (Str.ofString "__spec__"), key := Value.str (Str.ofString "__spec__") 169, val := Value.none }, { hash := PyData.keyHash P (Str.ofString "__annotations__"), key := Value.str (Str.ofString "__annotations__") 170, val := Value.ref 6 }, { hash := PyData.keyHash P (Str.ofString "__builtins__"), key := Value.str (Str.ofString "__builtins__") 171, val := Value.ref 4 }, { hash := PyData.keyHash P (Str.ofString "__file__"), key := Value.str (Str.ofString "__file__") 173, val := Value.str (Str.ofString "/claim/cut.py") 172 }, { hash := PyData.keyHash P (Str.ofString "__cached__"), key := Value.str (Str.ofString "__cached__") 174, val := Value.none }, { hash := PyData.keyHash P (Str.ofString "_wall"), key := Value.str (Str.ofString "_wall") 193, val := Value.ref 21 }, { hash := PyData.keyHash P (Str.ofString "_can_merge_lines"), key := Value.str (Str.ofString "_can_merge_lines") 204, val := Value.ref 28 }, { hash := PyData.keyHash P (Str.ofString "_merge3_to_bytes"), key := Value.str (Str.ofString "_merge3_to_bytes") 217, val := Value.ref 35 }, { hash := PyData.keyHash P (Str.ofString "_merge_lines"), key := Value.str (Str.ofString "_merge_lines") 226, val := Value.ref 42 }, { hash := PyData.keyHash P (Str.ofString "merge_blobs"), key := Value.str (Str.ofString "merge_blobs") 242, val := Value.ref 49 }, { hash := PyData.keyHash P (Str.ofString "ObjectFormat"), key := Value.str (Str.ofString "ObjectFormat") 289, val := Value.ref 73 }] 15 }
noncomputable def o87 (_ : Params) : Obj := { cls := Value.none, data := Data.fields #[Value.int 1 0, Value.int 0 0, Value.ref 20, Value.int 5 0, Value.int 0 0, Value.ref 27, Value.int 12 0, Value.int 0 0, Value.ref 34, Value.int 31 0, Value.int 0 0, Value.ref 41, Value.int 38 0, Value.int 0 0, Value.ref 48, Value.int 80 0, Value.int 0 0, Value.ref 55] }
noncomputable def o88 (_ : Params) : Obj := { cls := Value.type "tuple", data := Data.seq #[] }
noncomputable def o89 (_ : Params) : Obj := { cls := Value.type "builtin_function_or_method", data := Data.fields #[Value.builtin "type.__prepare__", Value.type "type"] }
noncomputable def o90 (P : Params) : Obj := { cls := Value.type "dict", data := Data.dict #[{ hash := PyData.keyHash P (Str.ofString "__module__"), key := Value.str (Str.ofString "__module__") 252, val := Value.str (Str.ofString "dulwich.object_format") 243 }, { hash := PyData.keyHash P (Str.ofString "__qualname__"), key := Value.str (Str.ofString "__qualname__") 254, val := Value.str (Str.ofString "ObjectFormat") 253 }, { hash := PyData.keyHash P (Str.ofString "__firstlineno__"), key := Value.str (Str.ofString "__firstlineno__") 256, val := Value.int 80 255 }, { hash := PyData.keyHash P (Str.ofString "__init__"), key := Value.str (Str.ofString "__init__") 268, val := Value.ref 63 }, { hash := PyData.keyHash P (Str.ofString "hash_object_hex"), key := Value.str (Str.ofString "hash_object_hex") 276, val := Value.ref 70 }, { hash := PyData.keyHash P (Str.ofString "__static_attributes__"), key := Value.str (Str.ofString "__static_attributes__") 282, val := Value.ref 71 }] 6 }
noncomputable def o91 (_ : Params) : Obj := { cls := Value.type "tuple", data := Data.seq #[] }
noncomputable def o92 (_ : Params) : Obj := { cls := Value.none, data := Data.fields #[Value.int 82 0, Value.int 4 0, Value.ref 62, Value.int 89 0, Value.int 4 0, Value.ref 69] }
noncomputable def o93 (_ : Params) : Obj := { cls := Value.type "code", data := Data.fields #[Value.str (Str.ofString "ObjectFormat") 247, Value.str (Str.ofString "ObjectFormat") 248, Value.str (Str.ofString "/claim/cut.py") 249, Value.int 80 0, Value.int 0 0, Value.int 0 0, Value.int 0 0, Value.int 0 0, Value.ref 53, Value.bool false, Value.int 181 0, Value.ref 54, Value.none, Value.none, Value.none, Value.none, Value.int 250 0, Value.int 80 0, Value.str (Str.ofString "/claim/cut.py") 251] }
noncomputable def o94 (_ : Params) : Obj := { cls := Value.type "frame", slots := #[some (Value.ref 55), some (Value.ref 3), some (Value.ref 52), none, some (Value.str (Str.ofString "dulwich.object_format") 243), none, some (Value.ref 0)] }
noncomputable def o95 (_ : Params) : Obj := { cls := Value.type "tuple", data := Data.seq #[] }
noncomputable def o96 (_ : Params) : Obj := { cls := Value.none, data := Data.fields #[] }
noncomputable def o97 (_ : Params) : Obj := { cls := Value.type "tuple", data := Data.seq #[Value.str (Str.ofString "self") 260, Value.str (Str.ofString "name") 261, Value.str (Str.ofString "type_num") 262, Value.str (Str.ofString "oid_length") 263, Value.str (Str.ofString "hex_length") 264, Value.str (Str.ofString "hash_func") 265] }
noncomputable def o98 (_ : Params) : Obj := { cls := Value.type "tuple", data := Data.seq #[] }
noncomputable def o99 (_ : Params) : Obj := fnObj (nth (inner (nth PR.main.body 7)) 0) (Str.ofString "ObjectFormat.__init__") 0 [] Value.none Value.none Value.none Value.none none Value.none Value.none 0 Value.none
noncomputable def o100 (_ : Params) : Obj := { cls := Value.type "code", data := Data.fields #[Value.str (Str.ofString "__init__") 257, Value.str (Str.ofString "ObjectFormat.__init__") 258, Value.str (Str.ofString "/claim/cut.py") 259, Value.int 82 0, Value.int 6 0, Value.int 0 0, Value.int 0 0, Value.int 3 0, Value.ref 57, Value.bool true, Value.int 181 0, Value.ref 58, Value.none, Value.ref 59, Value.ref 60, Value.ref 61, Value.int 266 0, Value.int 82 0, Value.str (Str.ofString "/claim/cut.py") 267] }
noncomputable def o101 (_ : Params) : Obj := fnObj (nth (inner (nth PR.main.body 7)) 0) (Str.ofString "ObjectFormat.__init__") 3 [] Value.none Value.none Value.none (Value.str (Str.ofString "dulwich.object_format") 243) none (Value.ref 62) Value.none 0 (Value.type "function")
noncomputable def o102 (_ : Params) : Obj := { cls := Value.type "tuple", data := Data.seq #[] }
noncomputable def o103 (_ : Params) : Obj := { cls := Value.none, data := Data.fields #[] }
noncomputable def o104 (_ : Params) : Obj := { cls := Value.type "tuple", data := Data.seq #[Value.str (Str.ofString "self") 272, Value.str (Str.ofString "data") 273] }
noncomputable def o105 (_ : Params) : Obj := { cls := Value.type "tuple", data := Data.seq #[] }
noncomputable def o106 (_ : Params) : Obj := fnObj (nth (inner (nth PR.main.body 7)) 1) (Str.ofString "ObjectFormat.hash_object_hex") 0 [] Value.none Value.none Value.none Value.none none Value.none Value.none 0 Value.none
noncomputable def o107 (_ : Params) : Obj := { cls := Value.type "code", data := Data.fields #[Value.str (Str.ofString "hash_object_hex") 269, Value.str (Str.ofString "ObjectFormat.hash_object_hex") 270, Value.str (Str.ofString "/claim/cut.py") 271, Value.int 89 0, Value.int 2 0, Value.int 0 0, Value.int 0 0, Value.int 3 0, Value.ref 64, Value.bool true, Value.int 181 0, Value.ref 65, Value.none, Value.ref 66, Value.ref 67, Value.ref 68, Value.int 274 0, Value.int 89 0, Value.str (Str.ofString "/claim/cut.py") 275] }
noncomputable def o108 (_ : Params) : Obj := fnObj (nth (inner (nth PR.main.body 7)) 1) (Str.ofString "ObjectFormat.hash_object_hex") 3 [] Value.none Value.none Value.none (Value.str (Str.ofString "dulwich.object_format") 243) none (Value.ref 69) Value.none 0 (Value.type "function")
noncomputable def o109 (_ : Params) : Obj := { cls := Value.type "tuple", data := Data.seq #[Value.str (Str.ofString "hash_func") 277, Value.str (Str.ofString "hex_length") 278, Value.str (Str.ofString "name") 279, Value.str (Str.ofString "oid_length") 280, Value.str (Str.ofString "type_num") 281] }
noncomputable def o110 (P : Params) : Obj := { cls := Value.type "dict", data := Data.dict #[{ hash := PyData.keyHash P (Str.ofString "__module__"), key := Value.str (Str.ofString "__module__") 252, val := Value.str (Str.ofString "dulwich.object_format") 243 }, { hash := PyData.keyHash P (Str.ofString "__firstlineno__"), key := Value.str (Str.ofString "__firstlineno__") 256, val := Value.int 80 255 }, { hash := PyData.keyHash P (Str.ofString "__init__"), key := Value.str (Str.ofString "__init__") 268, val := Value.ref 63 }, { hash := PyData.keyHash P (Str.ofString "hash_object_hex"), key := Value.str (Str.ofString "hash_object_hex") 276, val := Value.ref 70 }, { hash := PyData.keyHash P (Str.ofString "__static_attributes__"), key := Value.str (Str.ofString "__static_attributes__") 282, val := Value.ref 71 }, { hash := PyData.keyHash P (Str.ofString "__dict__"), key := Value.str (Str.ofString "__dict__") 284, val := Value.ref 74 }, { hash := PyData.keyHash P (Str.ofString "__weakref__"), key := Value.str (Str.ofString "__weakref__") 286, val := Value.ref 75 }, { hash := PyData.keyHash P (Str.ofString "__doc__"), key := Value.str (Str.ofString "__doc__") 287, val := Value.none }] 4 }
noncomputable def o111 (_ : Params) : Obj := { cls := Value.type "type", data := Data.cls { name := Str.ofString "ObjectFormat", bases := [Value.type "object"], mro := [Value.ref 73, Value.type "object"], ns := 72, qualname := Str.ofString "ObjectFormat" }, slots := #[none, none, some (Value.str (Str.ofString "ObjectFormat") 245), some (Value.str (Str.ofString "ObjectFormat") 253), some (Value.builtin "object.__new__"), some (Value.bool true)] }
noncomputable def o112 (_ : Params) : Obj := { cls := Value.type "getset_descriptor", data := Data.fields #[Value.str (Str.ofString "__dict__") 283, Value.ref 73, Value.builtin "function.__dict__", Value.builtin "function.__dict__#set"] }
noncomputable def o113 (_ : Params) : Obj := { cls := Value.type "getset_descriptor", data := Data.fields #[Value.str (Str.ofString "__weakref__") 285, Value.ref 73, Value.builtin "ExceptionGroup.__weakref__", Value.none] }
noncomputable def o114 (_ : Params) : Obj := { cls := Value.type "super", data := Data.fields #[Value.ref 73, Value.ref 73, Value.ref 73] }
noncomputable def o115 (_ : Params) : Obj := { cls := Value.type "builtin_function_or_method", data := Data.fields #[Value.builtin "object.__init_subclass__", Value.ref 73] }
noncomputable def o116 (P : Params) : Obj := { cls := Value.type "dict", data := Data.dict #[{ hash := PyData.keyHash P (Str.ofString "__name__"), key := Value.str (Str.ofString "__name__") 165, val := Value.str (Str.ofString "dulwich.objects") 312 }, { hash := PyData.keyHash P (Str.ofString "__doc__"), key := Value.str (Str.ofString "__doc__") 166, val := Value.none }, { hash := PyData.keyHash P (Str.ofString "__package__"), key := Value.str (Str.ofString "__package__") 167, val := Value.none }, { hash := PyData.keyHash P (Str.ofString "__loader__"), key := Value.str (Str.ofString "__loader__") 168, val := Value.builtin "__main__.__loader__#opaque" }, { hash := PyData.keyHash P (Str.ofString "__spec__"), key := Value.str (Str.ofString "__spec__") 169, val := Value.none }, { hash := PyData.keyHash P (Str.ofString "__annotations__"), key := Value.str (Str.ofString "__annotations__") 170, val := Value.ref 6 }, { hash := PyData.keyHash P (Str.ofString "__builtins__"), key := Value.str (Str.ofString "__builtins__") 171, val := Value.ref 4 }, { hash := PyData.keyHash P (Str.ofString "__file__"), key := Value.str (Str.ofString "__file__") 173, val := Value.str (Str.ofString "/claim/cut.py") 172 }, { hash := PyData.keyHash P (Str.ofString "__cached__"), key := Value.str (Str.ofString "__cached__") 174, val := Value.none }, { hash := PyData.keyHash P (Str.ofString "_wall"), key := Value.str (Str.ofString "_wall") 193, val := Value.ref 21 }, { hash := PyData.keyHash P (Str.ofString "_can_merge_lines"), key := Value.str (Str.ofString "_can_merge_lines") 204, val := Value.ref 28 }, { hash := PyData.keyHash P (Str.ofString "_merge3_to_bytes"), key := Value.str (Str.ofString "_merge3_to_bytes") 217, val := Value.ref 35 }, { hash := PyData.keyHash P (Str.ofString "_merge_lines"), key := Value.str (Str.ofString "_merge_lines") 226, val := Value.ref 42 }, { hash := PyData.keyHash P (Str.ofString "merge_blobs"), key := Value.str (Str.ofString "merge_blobs") 242, val := Value.ref 49 }, { hash := PyData.keyHash P (Str.ofString "ObjectFormat"), key := Value.str (Str.ofString "ObjectFormat") 289, val := Value.ref 73 }, { hash := PyData.keyHash P (Str.ofString "SHA1"), key := Value.str (Str.ofString "SHA1") 310, val := Value.ref 79 }, { hash := PyData.keyHash P (Str.ofString "DEFAULT_OBJECT_FORMAT"), key := Value.str (Str.ofString "DEFAULT_OBJECT_FORMAT") 311, val := Value.ref 79 }] 17 }
noncomputable def o117 (P : Params) : Obj := { cls := Value.type "dict", data := Data.dict #[{ hash := PyData.keyHash P (Str.ofString "name"), key := Value.str (Str.ofString "name") 301, val := Value.str (Str.ofString "sha1") 290 }, { hash := PyData.keyHash P (Str.ofString "type_num"), key := Value.str (Str.ofString "type_num") 303, val := Value.int 1 291 }, { hash := PyData.keyHash P (Str.ofString "oid_length"), key := Value.str (Str.ofString "oid_length") 305, val := Value.int 20 292 }, { hash := PyData.keyHash P (Str.ofString "hex_length"), key := Value.str (Str.ofString "hex_length") 307, val := Value.int 40 293 }, { hash := PyData.keyHash P (Str.ofString "hash_func"), key := Value.str (Str.ofString "hash_func") 309, val := Value.none }] 5 }
noncomputable def o118 (_ : Params) : Obj := { cls := Value.ref 73, dict := some 78 }
noncomputable def o119 (P : Params) : Obj := { cls := Value.type "frame", data := Data.dict #[{ hash := PyData.keyHash P (Str.ofString "self"), key := Value.str (Str.ofString "self") 294, val := Value.ref 79 }, { hash := PyData.keyHash P (Str.ofString "name"), key := Value.str (Str.ofString "name") 295, val := Value.str (Str.ofString "sha1") 290 }, { hash := PyData.keyHash P (Str.ofString "type_num"), key := Value.str (Str.ofString "type_num") 296, val := Value.int 1 291 }, { hash := PyData.keyHash P (Str.ofString "oid_length"), key := Value.str (Str.ofString "oid_length") 297, val := Value.int 20 292 }, { hash := PyData.keyHash P (Str.ofString "hex_length"), key := Value.str (Str.ofString "hex_length") 298, val := Value.int 40 293 }, { hash := PyData.keyHash P (Str.ofString "hash_func"), key := Value.str (Str.ofString "hash_func") 299, val := Value.none }] 6 }
noncomputable def o120 (P : Params) : Obj := { cls := Value.type "dict", data := Data.dict #[{ hash := PyData.keyHash P (Str.ofString "__name__"), key := Value.str (Str.ofString "__name__") 165, val := Value.str (Str.ofString "dulwich.objects") 312 }, { hash := PyData.keyHash P (Str.ofString "__doc__"), key := Value.str (Str.ofString "__doc__") 166, val := Value.none }, { hash := PyData.keyHash P (Str.ofString "__package__"), key := Value.str (Str.ofString "__package__") 167, val := Value.none }, { hash := PyData.keyHash P (Str.ofString "__loader__"), key := Value.str (Str.ofString "__loader__") 168, val := Value.builtin "__main__.__loader__#opaque" }, { hash := PyData.keyHash P (Str.ofString "__spec__"), key := Value.str (Str.ofString "__spec__") 169, val := Value.none }, { hash := PyData.keyHash P (Str.ofString "__annotations__"), key := Value.str (Str.ofString "__annotations__") 170, val := Value.ref 6 }, { hash := PyData.keyHash P (Str.ofString "__builtins__"), key := Value.str (Str.ofString "__builtins__") 171, val := Value.ref 4 }, { hash := PyData.keyHash P (Str.ofString "__file__"), key := Value.str (Str.ofString "__file__") 173, val := Value.str (Str.ofString "/claim/cut.py") 172 }, { hash := PyData.keyHash P (Str.ofString "__cached__"), key := Value.str (Str.ofString "__cached__") 174, val := Value.none }, { hash := PyData.keyHash P (Str.ofString "_wall"), key := Value.str (Str.ofString "_wall") 193, val := Value.ref 21 }, { hash := PyData.keyHash P (Str.ofString "_can_merge_lines"), key := Value.str (Str.ofString "_can_merge_lines") 204, val := Value.ref 28 }, { hash := PyData.keyHash P (Str.ofString "_merge3_to_bytes"), key := Value.str (Str.ofString "_merge3_to_bytes") 217, val := Value.ref 35 }, { hash := PyData.keyHash P (Str.ofString "_merge_lines"), key := Value.str (Str.ofString "_merge_lines") 226, val := Value.ref 42 }, { hash := PyData.keyHash P (Str.ofString "merge_blobs"), key := Value.str (Str.ofString "merge_blobs") 242, val := Value.ref 49 }, { hash := PyData.keyHash P (Str.ofString "ObjectFormat"), key := Value.str (Str.ofString "ObjectFormat") 289, val := Value.ref 73 }, { hash := PyData.keyHash P (Str.ofString "SHA1"), key := Value.str (Str.ofString "SHA1") 310, val := Value.ref 79 }, { hash := PyData.keyHash P (Str.ofString "DEFAULT_OBJECT_FORMAT"), key := Value.str (Str.ofString "DEFAULT_OBJECT_FORMAT") 311, val := Value.ref 79 }, { hash := PyData.keyHash P (Str.ofString "ShaFile"), key := Value.str (Str.ofString "ShaFile") 424, val := Value.ref 163 }] 18 }
noncomputable def o121 (_ : Params) : Obj := { cls := Value.none, data := Data.fields #[Value.int 1 0, Value.int 0 0, Value.ref 20, Value.int 5 0, Value.int 0 0, Value.ref 27, Value.int 12 0, Value.int 0 0, Value.ref 34, Value.int 31 0, Value.int 0 0, Value.ref 41, Value.int 38 0, Value.int 0 0, Value.ref 48, Value.int 80 0, Value.int 0 0, Value.ref 55, Value.int 94 0, Value.int 0 0, Value.ref 86] }
noncomputable def o122 (_ : Params) : Obj := { cls := Value.type "tuple", data := Data.seq #[] }
noncomputable def o123 (_ : Params) : Obj := { cls := Value.type "builtin_function_or_method", data := Data.fields #[Value.builtin "type.__prepare__", Value.type "type"] }
noncomputable def o124 (P : Params) : Obj := { cls := Value.type "dict", data := Data.dict #[{ hash := PyData.keyHash P (Str.ofString "__module__"), key := Value.str (Str.ofString "__module__") 321, val := Value.str (Str.ofString "dulwich.objects") 312 }, { hash := PyData.keyHash P (Str.ofString "__qualname__"), key := Value.str (Str.ofString "__qualname__") 323, val := Value.str (Str.ofString "ShaFile") 322 }, { hash := PyData.keyHash P (Str.ofString "__firstlineno__"), key := Value.str (Str.ofString "__firstlineno__") 325, val := Value.int 94 324 }, { hash := PyData.keyHash P (Str.ofString "__init__"), key := Value.str (Str.ofString "__init__") 332, val := Value.ref 94 }, { hash := PyData.keyHash P (Str.ofString "as_raw_chunks"), key := Value.str (Str.ofString "as_raw_chunks") 339, val := Value.ref 101 }, { hash := PyData.keyHash P (Str.ofString "as_raw_string"), key := Value.str (Str.ofString "as_raw_string") 346, val := Value.ref 108 }, { hash := PyData.keyHash P (Str.ofString "set_raw_string"), key := Value.str (Str.ofString "set_raw_string") 354, val := Value.ref 115 }, { hash := PyData.keyHash P (Str.ofString "set_raw_chunks"), key := Value.str (Str.ofString "set_raw_chunks") 362, val := Value.ref 122 }, { hash := PyData.keyHash P (Str.ofString "from_string"), key := Value.str (Str.ofString "from_string") 383, val := Value.ref 131 }, { hash := PyData.keyHash P (Str.ofString "_header"), key := Value.str (Str.ofString "_header") 390, val := Value.ref 139 }, { hash := PyData.keyHash P (Str.ofString "raw_length"), key := Value.str (Str.ofString "raw_length") 397, val := Value.ref 146 }, { hash := PyData.keyHash P (Str.ofString "copy"), key := Value.str (Str.ofString "copy") 404, val := Value.ref 153 }, { hash := PyData.keyHash P (Str.ofString "get_id"), key := Value.str (Str.ofString "get_id") 412, val := Value.ref 160 }, { hash := PyData.keyHash P (Str.ofString "__static_attributes__"), key := Value.str (Str.ofString "__static_attributes__") 417, val := Value.ref 161 }] 14 }
noncomputable def o125 (_ : Params) : Obj := { cls := Value.type "tuple", data := Data.seq #[] }
noncomputable def o126 (_ : Params) : Obj := { cls := Value.none, data := Data.fields #[Value.int 96 0, Value.int 4 0, Value.ref 93, Value.int 102 0, Value.int 4 0, Value.ref 100, Value.int 110 0, Value.int 4 0, Value.ref 107, Value.int 113 0, Value.int 4 0, Value.ref 114, Value.int 118 0, Value.int 4 0, Value.ref 121, Value.int 125 0, Value.int 4 0, Value.ref 128, Value.int 130 0, Value.int 4 0, Value.ref 138, Value.int 133 0, Value.int 4 0, Value.ref 145, Value.int 136 0, Value.int 4 0, Value.ref 152, Value.int 139 0, Value.int 4 0, Value.ref 159] }
noncomputable def o127 (_ : Params) : Obj := { cls := Value.type "code", data := Data.fields #[Value.str (Str.ofString "ShaFile") 316, Value.str (Str.ofString "ShaFile") 317, Value.str (Str.ofString "/claim/cut.py") 318, Value.int 94 0, Value.int 0 0, Value.int 0 0, Value.int 0 0, Value.int 0 0, Value.ref 84, Value.bool false, Value.int 181 0, Value.ref 85, Value.none, Value.none, Value.none, Value.none, Value.int 319 0, Value.int 94 0, Value.str (Str.ofString "/claim/cut.py") 320] }
noncomputable def o128 (_ : Params) : Obj := { cls := Value.type "frame", slots := #[some (Value.ref 86), some (Value.ref 3), some (Value.ref 83), none, some (Value.str (Str.ofString "dulwich.objects") 312), none, some (Value.ref 0)] }
noncomputable def o129 (_ : Params) : Obj := { cls := Value.type "tuple", data := Data.seq #[] }
noncomputable def o130 (_ : Params) : Obj := { cls := Value.none, data := Data.fields #[] }
noncomputable def o131 (_ : Params) : Obj := { cls := Value.type "tuple", data := Data.seq #[Value.str (Str.ofString "self") 329] }
noncomputable def o132 (_ : Params) : Obj := { cls := Value.type "tuple", data := Data.seq #[] }
noncomputable def o133 (_ : Params) : Obj := fnObj (nth (inner (nth PR.main.body 11)) 0) (Str.ofString "ShaFile.__init__") 0 [] Value.none Value.none Value.none Value.none none Value.none Value.none 0 Value.none
noncomputable def o134 (_ : Params) : Obj := { cls := Value.type "code", data := Data.fields #[Value.str (Str.ofString "__init__") 326, Value.str (Str.ofString "ShaFile.__init__") 327, Value.str (Str.ofString "/claim/cut.py") 328, Value.int 96 0, Value.int 1 0, Value.int 0 0, Value.int 0 0, Value.int 3 0, Value.ref 88, Value.bool true, Value.int 181 0, Value.ref 89, Value.none, Value.ref 90, Value.ref 91, Value.ref 92, Value.int 330 0, Value.int 96 0, Value.str (Str.ofString "/claim/cut.py") 331] }
noncomputable def o135 (_ : Params) : Obj := fnObj (nth (inner (nth PR.main.body 11)) 0) (Str.ofString "ShaFile.__init__") 3 [] Value.none Value.none Value.none (Value.str (Str.ofString "dulwich.objects") 312) none (Value.ref 93) Value.none 0 (Value.type "function")
noncomputable def o136 (_ : Params) : Obj := { cls := Value.type "tuple", data := Data.seq #[] }
noncomputable def o137 (_ : Params) : Obj := { cls := Value.none, data := Data.fields #[] }
noncomputable def o138 (_ : Params) : Obj := { cls := Value.type "tuple", data := Data.seq #[Value.str (Str.ofString "self") 336] }
noncomputable def o139 (_ : Params) : Obj := { cls := Value.type "tuple", data := Data.seq #[] }
noncomputable def o140 (_ : Params) : Obj := fnObj (nth (inner (nth PR.main.body 11)) 1) (Str.ofString "ShaFile.as_raw_chunks") 0 [] Value.none Value.none Value.none Value.none none Value.none Value.none 0 Value.none
noncomputable def o141 (_ : Params) : Obj := { cls := Value.type "code", data := Data.fields #[Value.str (Str.ofString "as_raw_chunks") 333, Value.str (Str.ofString "ShaFile.as_raw_chunks") 334, Value.str (Str.ofString "/claim/cut.py") 335, Value.int 102 0, Value.int 1 0, Value.int 0 0, Value.int 0 0, Value.int 3 0, Value.ref 95, Value.bool true, Value.int 181 0, Value.ref 96, Value.none, Value.ref 97, Value.ref 98, Value.ref 99, Value.int 337 0, Value.int 102 0, Value.str (Str.ofString "/claim/cut.py") 338] }
noncomputable def o142 (_ : Params) : Obj := fnObj (nth (inner (nth PR.main.body 11)) 1) (Str.ofString "ShaFile.as_raw_chunks") 3 [] Value.none Value.none Value.none (Value.str (Str.ofString "dulwich.objects") 312) none (Value.ref 100) Value.none 0 (Value.type "function")
noncomputable def o143 (_ : Params) : Obj := { cls := Value.type "tuple", data := Data.seq #[] }
noncomputable def o144 (_ : Params) : Obj := { cls := Value.none, data := Data.fields #[] }
noncomputable def o145 (_ : Params) : Obj := { cls := Value.type "tuple", data := Data.seq #[Value.str (Str.ofString "self") 343] }
noncomputable def o146 (_ : Params) : Obj := { cls := Value.type "tuple", data := Data.seq #[] }
noncomputable def o147 (_ : Params) : Obj := fnObj (nth (inner (nth PR.main.body 11)) 2) (Str.ofString "ShaFile.as_raw_string") 0 [] Value.none Value.none Value.none Value.none none Value.none Value.none 0 Value.none
noncomputable def o148 (_ : Params) : Obj := { cls := Value.type "code", data := Data.fields #[Value.str (Str.ofString "as_raw_string") 340, Value.str (Str.ofString "ShaFile.as_raw_string") 341, Value.str (Str.ofString "/claim/cut.py") 342, Value.int 110 0, Value.int 1 0, Value.int 0 0, Value.int 0 0, Value.int 3 0, Value.ref 102, Value.bool true, Value.int 181 0, Value.ref 103, Value.none, Value.ref 104, Value.ref 105, Value.ref 106, Value.int 344 0, Value.int 110 0, Value.str (Str.ofString "/claim/cut.py") 345] }
noncomputable def o149 (_ : Params) : Obj := fnObj (nth (inner (nth PR.main.body 11)) 2) (Str.ofString "ShaFile.as_raw_string") 3 [] Value.none Value.none Value.none (Value.str (Str.ofString "dulwich.objects") 312) none (Value.ref 107) Value.none 0 (Value.type "function")
noncomputable def o150 (_ : Params) : Obj := { cls := Value.type "tuple", data := Data.seq #[] }
noncomputable def o151 (_ : Params) : Obj := { cls := Value.none, data := Data.fields #[] }
noncomputable def o152 (_ : Params) : Obj := { cls := Value.type "tuple", data := Data.seq #[Value.str (Str.ofString "self") 350, Value.str (Str.ofString "text") 351] }
noncomputable def o153 (_ : Params) : Obj := { cls := Value.type "tuple", data := Data.seq #[] }
noncomputable def o154 (_ : Params) : Obj := fnObj (nth (inner (nth PR.main.body 11)) 3) (Str.ofString "ShaFile.set_raw_string") 0 [] Value.none Value.none Value.none Value.none none Value.none Value.none 0 Value.none
noncomputable def o155 (_ : Params) : Obj := { cls := Value.type "code", data := Data.fields #[Value.str (Str.ofString "set_raw_string") 347, Value.str (Str.ofString "ShaFile.set_raw_string") 348, Value.str (Str.ofString "/claim/cut.py") 349, Value.int 113 0, Value.int 2 0, Value.int 0 0, Value.int 0 0, Value.int 3 0, Value.ref 109, Value.bool true, Value.int 181 0, Value.ref 110, Value.none, Value.ref 111, Value.ref 112, Value.ref 113, Value.int 352 0, Value.int 113 0, Value.str (Str.ofString "/claim/cut.py") 353] }
noncomputable def o156 (_ : Params) : Obj := fnObj (nth (inner (nth PR.main.body 11)) 3) (Str.ofString "ShaFile.set_raw_string") 3 [] Value.none Value.none Value.none (Value.str (Str.ofString "dulwich.objects") 312) none (Value.ref 114) Value.none 0 (Value.type "function")
noncomputable def o157 (_ : Params) : Obj := { cls := Value.type "tuple", data := Data.seq #[] }
noncomputable def o158 (_ : Params) : Obj := { cls := Value.none, data := Data.fields #[] }
noncomputable def o159 (_ : Params) : Obj := { cls := Value.type "tuple", data := Data.seq #[Value.str (Str.ofString "self") 358, Value.str (Str.ofString "chunks") 359] }
noncomputable def o160 (_ : Params) : Obj := { cls := Value.type "tuple", data := Data.seq #[] }
noncomputable def o161 (_ : Params) : Obj := fnObj (nth (inner (nth PR.main.body 11)) 4) (Str.ofString "ShaFile.set_raw_chunks") 0 [] Value.none Value.none Value.none Value.none none Value.none Value.none 0 Value.none
noncomputable def o162 (_ : Params) : Obj := { cls := Value.type "code", data := Data.fields #[Value.str (Str.ofString "set_raw_chunks") 355, Value.str (Str.ofString "ShaFile.set_raw_chunks") 356, Value.str (Str.ofString "/claim/cut.py") 357, Value.int 118 0, Value.int 2 0, Value.int 0 0, Value.int 0 0, Value.int 3 0, Value.ref 116, Value.bool true, Value.int 181 0, Value.ref 117, Value.none, Value.ref 118, Value.ref 119, Value.ref 120, Value.int 360 0, Value.int 118 0, Value.str (Str.ofString "/claim/cut.py") 361] }
noncomputable def o163 (_ : Params) : Obj := fnObj (nth (inner (nth PR.main.body 11)) 4) (Str.ofString "ShaFile.set_raw_chunks") 3 [] Value.none Value.none Value.none (Value.str (Str.ofString "dulwich.objects") 312) none (Value.ref 121) Value.none 0 (Value.type "function")
noncomputable def o164 (_ : Params) : Obj := { cls := Value.type "tuple", data := Data.seq #[] }
noncomputable def o165 (_ : Params) : Obj := { cls := Value.none, data := Data.fields #[] }
noncomputable def o166 (_ : Params) : Obj := { cls := Value.type "tuple", data := Data.seq #[Value.str (Str.ofString "cls") 366, Value.str (Str.ofString "string") 367, Value.str (Str.ofString "obj") 368] }
noncomputable def o167 (_ : Params) : Obj := { cls := Value.type "tuple", data := Data.seq #[] }
noncomputable def o168 (_ : Params) : Obj := fnObj (nth (inner (nth PR.main.body 11)) 5) (Str.ofString "ShaFile.from_string") 0 [] Value.none Value.none Value.none Value.none none Value.none Value.none 0 Value.none
noncomputable def o169 (_ : Params) : Obj := { cls := Value.type "code", data := Data.fields #[Value.str (Str.ofString "from_string") 363, Value.str (Str.ofString "ShaFile.from_string") 364, Value.str (Str.ofString "/claim/cut.py") 365, Value.int 124 0, Value.int 2 0, Value.int 0 0, Value.int 0 0, Value.int 3 0, Value.ref 123, Value.bool true, Value.int 181 0, Value.ref 124, Value.none, Value.ref 125, Value.ref 126, Value.ref 127, Value.int 369 0, Value.int 124 0, Value.str (Str.ofString "/claim/cut.py") 370] }
noncomputable def o170 (_ : Params) : Obj := fnObj (nth (inner (nth PR.main.body 11)) 5) (Str.ofString "ShaFile.from_string") 3 [] Value.none Value.none Value.none (Value.str (Str.ofString "dulwich.objects") 312) (some 132) (Value.ref 128) Value.none 0 (Value.type "function")
noncomputable def o171 (P : Params) : Obj := { cls := Value.type "dict", data := Data.dict #[{ hash := PyData.keyHash P (Str.ofString "__module__"), key := Value.str (Str.ofString "__module__") 372, val := Value.str (Str.ofString "dulwich.objects") 312 }, { hash := PyData.keyHash P (Str.ofString "__name__"), key := Value.str (Str.ofString "__name__") 375, val := Value.str (Str.ofString "from_string") 374 }, { hash := PyData.keyHash P (Str.ofString "__qualname__"), key := Value.str (Str.ofString "__qualname__") 378, val := Value.str (Str.ofString "ShaFile.from_string") 377 }, { hash := PyData.keyHash P (Str.ofString "__doc__"), key := Value.str (Str.ofString "__doc__") 380, val := Value.none }, { hash := PyData.keyHash P (Str.ofString "__annotations__"), key := Value.str (Str.ofString "__annotations__") 382, val := Value.ref 132 }] 5 }
noncomputable def o172 (_ : Params) : Obj := { cls := Value.type "classmethod", dict := some 130, data := Data.fields #[Value.ref 129, Value.bool false] }
noncomputable def o173 (_ : Params) : Obj := { cls := Value.type "dict", data := Data.dict #[] }
noncomputable def o174 (_ : Params) : Obj := { cls := Value.type "tuple", data := Data.seq #[] }
noncomputable def o175 (_ : Params) : Obj := { cls := Value.none, data := Data.fields #[] }
noncomputable def o176 (_ : Params) : Obj := { cls := Value.type "tuple", data := Data.seq #[Value.str (Str.ofString "self") 387] }
noncomputable def o177 (_ : Params) : Obj := { cls := Value.type "tuple", data := Data.seq #[] }
noncomputable def o178 (_ : Params) : Obj := fnObj (nth (inner (nth PR.main.body 11)) 6) (Str.ofString "ShaFile._header") 0 [] Value.none Value.none Value.none Value.none none Value.none Value.none 0 Value.none
noncomputable def o179 (_ : Params) : Obj := { cls := Value.type "code", data := Data.fields #[Value.str (Str.ofString "_header") 384, Value.str (Str.ofString "ShaFile._header") 385, Value.str (Str.ofString "/claim/cut.py") 386, Value.int 130 0, Value.int 1 0, Value.int 0 0, Value.int 0 0, Value.int 3 0, Value.ref 133, Value.bool true, Value.int 181 0, Value.ref 134, Value.none, Value.ref 135, Value.ref 136, Value.ref 137, Value.int 388 0, Value.int 130 0, Value.str (Str.ofString "/claim/cut.py") 389] }
noncomputable def o180 (_ : Params) : Obj := fnObj (nth (inner (nth PR.main.body 11)) 6) (Str.ofString "ShaFile._header") 3 [] Value.none Value.none Value.none (Value.str (Str.ofString "dulwich.objects") 312) none (Value.ref 138) Value.none 0 (Value.type "function")
noncomputable def o181 (_ : Params) : Obj := { cls := Value.type "tuple", data := Data.seq #[] }
noncomputable def o182 (_ : Params) : Obj := { cls := Value.none, data := Data.fields #[] }
noncomputable def o183 (_ : Params) : Obj := { cls := Value.type "tuple", data := Data.seq #[Value.str (Str.ofString "self") 394] }
noncomputable def o184 (_ : Params) : Obj := { cls := Value.type "tuple", data := Data.seq #[] }
noncomputable def o185 (_ : Params) : Obj := fnObj (nth (inner (nth PR.main.body 11)) 7) (Str.ofString "ShaFile.raw_length") 0 [] Value.none Value.none Value.none Value.none none Value.none Value.none 0 Value.none
noncomputable def o186 (_ : Params) : Obj := { cls := Value.type "code", data := Data.fields #[Value.str (Str.ofString "raw_length") 391, Value.str (Str.ofString "ShaFile.raw_length") 392, Value.str (Str.ofString "/claim/cut.py") 393, Value.int 133 0, Value.int 1 0, Value.int 0 0, Value.int 0 0, Value.int 3 0, Value.ref 140, Value.bool true, Value.int 181 0, Value.ref 141, Value.none, Value.ref 142, Value.ref 143, Value.ref 144, Value.int 395 0, Value.int 133 0, Value.str (Str.ofString "/claim/cut.py") 396] }
noncomputable def o187 (_ : Params) : Obj := fnObj (nth (inner (nth PR.main.body 11)) 7) (Str.ofString "ShaFile.raw_length") 3 [] Value.none Value.none Value.none (Value.str (Str.ofString "dulwich.objects") 312) none (Value.ref 145) Value.none 0 (Value.type "function")
noncomputable def o188 (_ : Params) : Obj := { cls := Value.type "tuple", data := Data.seq #[] }
noncomputable def o189 (_ : Params) : Obj := { cls := Value.none, data := Data.fields #[] }
noncomputable def o190 (_ : Params) : Obj := { cls := Value.type "tuple", data := Data.seq #[Value.str (Str.ofString "self") 401] }
noncomputable def o191 (_ : Params) : Obj := { cls := Value.type "tuple", data := Data.seq #[] }
noncomputable def o192 (_ : Params) : Obj := fnObj (nth (inner (nth PR.main.body 11)) 8) (Str.ofString "ShaFile.copy") 0 [] Value.none Value.none Value.none Value.none none Value.none Value.none 0 Value.none
noncomputable def o193 (_ : Params) : Obj := { cls := Value.type "code", data := Data.fields #[Value.str (Str.ofString "copy") 398, Value.str (Str.ofString "ShaFile.copy") 399, Value.str (Str.ofString "/claim/cut.py") 400, Value.int 136 0, Value.int 1 0, Value.int 0 0, Value.int 0 0, Value.int 3 0, Value.ref 147, Value.bool true, Value.int 181 0, Value.ref 148, Value.none, Value.ref 149, Value.ref 150, Value.ref 151, Value.int 402 0, Value.int 136 0, Value.str (Str.ofString "/claim/cut.py") 403] }
noncomputable def o194 (_ : Params) : Obj := fnObj (nth (inner (nth PR.main.body 11)) 8) (Str.ofString "ShaFile.copy") 3 [] Value.none Value.none Value.none (Value.str (Str.ofString "dulwich.objects") 312) none (Value.ref 152) Value.none 0 (Value.type "function")
noncomputable def o195 (_ : Params) : Obj := { cls := Value.type "tuple", data := Data.seq #[] }
noncomputable def o196 (_ : Params) : Obj := { cls := Value.none, data := Data.fields #[] }
noncomputable def o197 (_ : Params) : Obj := { cls := Value.type "tuple", data := Data.seq #[Value.str (Str.ofString "self") 408, Value.str (Str.ofString "object_format") 409] }
noncomputable def o198 (_ : Params) : Obj := { cls := Value.type "tuple", data := Data.seq #[] }
noncomputable def o199 (_ : Params) : Obj := fnObj (nth (inner (nth PR.main.body 11)) 9) (Str.ofString "ShaFile.get_id") 0 [] Value.none Value.none Value.none Value.none none Value.none Value.none 0 Value.none
noncomputable def o200 (_ : Params) : Obj := { cls := Value.type "code", data := Data.fields #[Value.str (Str.ofString "get_id") 405, Value.str (Str.ofString "ShaFile.get_id") 406, Value.str (Str.ofString "/claim/cut.py") 407, Value.int 139 0, Value.int 2 0, Value.int 0 0, Value.int 0 0, Value.int 3 0, Value.ref 154, Value.bool true, Value.int 181 0, Value.ref 155, Value.none, Value.ref 156, Value.ref 157, Value.ref 158, Value.int 410 0, Value.int 139 0, Value.str (Str.ofString "/claim/cut.py") 411] }
noncomputable def o201 (_ : Params) : Obj := fnObj (nth (inner (nth PR.main.body 11)) 9) (Str.ofString "ShaFile.get_id") 3 [] Value.none Value.none Value.none (Value.str (Str.ofString "dulwich.objects") 312) none (Value.ref 159) Value.none 0 (Value.type "function")
noncomputable def o202 (_ : Params) : Obj := { cls := Value.type "tuple", data := Data.seq #[Value.str (Str.ofString "_chunked_text") 413, Value.str (Str.ofString "_needs_serialization") 414, Value.str (Str.ofString "_sha") 415, Value.str (Str.ofString "object_format") 416] }
noncomputable def o203 (P : Params) : Obj := { cls := Value.type "dict", data := Data.dict #[{ hash := PyData.keyHash P (Str.ofString "__module__"), key := Value.str (Str.ofString "__module__") 321, val := Value.str (Str.ofString "dulwich.objects") 312 }, { hash := PyData.keyHash P (Str.ofString "__firstlineno__"), key := Value.str (Str.ofString "__firstlineno__") 325, val := Value.int 94 324 }, { hash := PyData.keyHash P (Str.ofString "__init__"), key := Value.str (Str.ofString "__init__") 332, val := Value.ref 94 }, { hash := PyData.keyHash P (Str.ofString "as_raw_chunks"), key := Value.str (Str.ofString "as_raw_chunks") 339, val := Value.ref 101 }, { hash := PyData.keyHash P (Str.ofString "as_raw_string"), key := Value.str (Str.ofString "as_raw_string") 346, val := Value.ref 108 }, { hash := PyData.keyHash P (Str.ofString "set_raw_string"), key := Value.str (Str.ofString "set_raw_string") 354, val := Value.ref 115 }, { hash := PyData.keyHash P (Str.ofString "set_raw_chunks"), key := Value.str (Str.ofString "set_raw_chunks") 362, val := Value.ref 122 }, { hash := PyData.keyHash P (Str.ofString "from_string"), key := Value.str (Str.ofString "from_string") 383, val := Value.ref 131 }, { hash := PyData.keyHash P (Str.ofString "_header"), key := Value.str (Str.ofString "_header") 390, val := Value.ref 139 }, { hash := PyData.keyHash P (Str.ofString "raw_length"), key := Value.str (Str.ofString "raw_length") 397, val := Value.ref 146 }, { hash := PyData.keyHash P (Str.ofString "copy"), key := Value.str (Str.ofString "copy") 404, val := Value.ref 153 }, { hash := PyData.keyHash P (Str.ofString "get_id"), key := Value.str (Str.ofString "get_id") 412, val := Value.ref 160 }, { hash := PyData.keyHash P (Str.ofString "__static_attributes__"), key := Value.str (Str.ofString "__static_attributes__") 417, val := Value.ref 161 }, { hash := PyData.keyHash P (Str.ofString "__dict__"), key := Value.str (Str.ofString "__dict__") 419, val := Value.ref 164 }, { hash := PyData.keyHash P (Str.ofString "__weakref__"), key := Value.str (Str.ofString "__weakref__") 421, val := Value.ref 165 }, { hash := PyData.keyHash P (Str.ofString "__doc__"), key := Value.str (Str.ofString "__doc__") 422, val := Value.none }] 4 }
noncomputable def o204 (_ : Params) : Obj := { cls := Value.type "type", data := Data.cls { name := Str.ofString "ShaFile", bases := [Value.type "object"], mro := [Value.ref 163, Value.type "object"], ns := 162, qualname := Str.ofString "ShaFile" }, slots := #[none, none, some (Value.str (Str.ofString "ShaFile") 314), some (Value.str (Str.ofString "ShaFile") 322), some (Value.builtin "object.__new__"), some (Value.bool true)] }
noncomputable def o205 (_ : Params) : Obj := { cls := Value.type "getset_descriptor", data := Data.fields #[Value.str (Str.ofString "__dict__") 418, Value.ref 163, Value.builtin "function.__dict__", Value.builtin "function.__dict__#set"] }
noncomputable def o206 (_ : Params) : Obj := { cls := Value.type "getset_descriptor", data := Data.fields #[Value.str (Str.ofString "__weakref__") 420, Value.ref 163, Value.builtin "ExceptionGroup.__weakref__", Value.none] }
noncomputable def o207 (_ : Params) : Obj := { cls := Value.type "super", data := Data.fields #[Value.ref 163, Value.ref 163, Value.ref 163] }
noncomputable def o208 (_ : Params) : Obj := { cls := Value.type "builtin_function_or_method", data := Data.fields #[Value.builtin "object.__init_subclass__", Value.ref 163] }
noncomputable def o272 (P : Params) : Obj := { cls := Value.type "dict", data := Data.dict #[{ hash := PyData.keyHash P (Str.ofString "__name__"), key := Value.str (Str.ofString "__name__") 165, val := Value.str (Str.ofString "dulwich.objects") 312 }, { hash := PyData.keyHash P (Str.ofString "__doc__"), key := Value.str (Str.ofString "__doc__") 166, val := Value.none }, { hash := PyData.keyHash P (Str.ofString "__package__"), key := Value.str (Str.ofString "__package__") 167, val := Value.none }, { hash := PyData.keyHash P (Str.ofString "__loader__"), key := Value.str (Str.ofString "__loader__") 168, val := Value.builtin "__main__.__loader__#opaque" }, { hash := PyData.keyHash P (Str.ofString "__spec__"), key := Value.str (Str.ofString "__spec__") 169, val := Value.none }, { hash := PyData.keyHash P (Str.ofString "__annotations__"), key := Value.str (Str.ofString "__annotations__") 170, val := Value.ref 6 }, { hash := PyData.keyHash P (Str.ofString "__builtins__"), key := Value.str (Str.ofString "__builtins__") 171, val := Value.ref 4 }, { hash := PyData.keyHash P (Str.ofString "__file__"), key := Value.str (Str.ofString "__file__") 173, val := Value.str (Str.ofString "/claim/cut.py") 172 }, { hash := PyData.keyHash P (Str.ofString "__cached__"), key := Value.str (Str.ofString "__cached__") 174, val := Value.none }, { hash := PyData.keyHash P (Str.ofString "_wall"), key := Value.str (Str.ofString "_wall") 193, val := Value.ref 21 }, { hash := PyData.keyHash P (Str.ofString "_can_merge_lines"), key := Value.str (Str.ofString "_can_merge_lines") 204, val := Value.ref 28 }, { hash := PyData.keyHash P (Str.ofString "_merge3_to_bytes"), key := Value.str (Str.ofString "_merge3_to_bytes") 217, val := Value.ref 35 }, { hash := PyData.keyHash P (Str.ofString "_merge_lines"), key := Value.str (Str.ofString "_merge_lines") 226, val := Value.ref 42 }, { hash := PyData.keyHash P (Str.ofString "merge_blobs"), key := Value.str (Str.ofString "merge_blobs") 242, val := Value.ref 49 }, { hash := PyData.keyHash P (Str.ofString "ObjectFormat"), key := Value.str (Str.ofString "ObjectFormat") 289, val := Value.ref 73 }, { hash := PyData.keyHash P (Str.ofString "SHA1"), key := Value.str (Str.ofString "SHA1") 310, val := Value.ref 79 }, { hash := PyData.keyHash P (Str.ofString "DEFAULT_OBJECT_FORMAT"), key := Value.str (Str.ofString "DEFAULT_OBJECT_FORMAT") 311, val := Value.ref 79 }, { hash := PyData.keyHash P (Str.ofString "ShaFile"), key := Value.str (Str.ofString "ShaFile") 424, val := Value.ref 163 }, { hash := PyData.keyHash P (Str.ofString "Blob"), key := Value.str (Str.ofString "Blob") 519, val := Value.ref 241 }] 19 }
noncomputable def o273 (_ : Params) : Obj := { cls := Value.none, data := Data.fields #[Value.int 1 0, Value.int 0 0, Value.ref 20, Value.int 5 0, Value.int 0 0, Value.ref 27, Value.int 12 0, Value.int 0 0, Value.ref 34, Value.int 31 0, Value.int 0 0, Value.ref 41, Value.int 38 0, Value.int 0 0, Value.ref 48, Value.int 80 0, Value.int 0 0, Value.ref 55, Value.int 94 0, Value.int 0 0, Value.ref 86, Value.int 141 0, Value.int 0 0, Value.ref 174] }
noncomputable def o274 (_ : Params) : Obj := { cls := Value.type "type", data := Data.cls { name := Str.ofString "ShaFile", bases := [Value.type "object"], mro := [Value.ref 163, Value.type "object"], ns := 162, qualname := Str.ofString "ShaFile", subclasses := [Value.ref 241] }, slots := #[none, none, some (Value.str (Str.ofString "ShaFile") 314), some (Value.str (Str.ofString "ShaFile") 322), some (Value.builtin "object.__new__"), some (Value.bool true)] }
noncomputable def o275 (_ : Params) : Obj := { cls := Value.type "tuple", data := Data.seq #[Value.ref 163] }
noncomputable def o276 (_ : Params) : Obj := { cls := Value.type "builtin_function_or_method", data := Data.fields #[Value.builtin "type.__prepare__", Value.type "type"] }
noncomputable def o277 (P : Params) : Obj := { cls := Value.type "dict", data := Data.dict #[{ hash := PyData.keyHash P (Str.ofString "__module__"), key := Value.str (Str.ofString "__module__") 432, val := Value.str (Str.ofString "dulwich.objects") 312 }, { hash := PyData.keyHash P (Str.ofString "__qualname__"), key := Value.str (Str.ofString "__qualname__") 434, val := Value.str (Str.ofString "Blob") 433 }, { hash := PyData.keyHash P (Str.ofString "__firstlineno__"), key := Value.str (Str.ofString "__firstlineno__") 436, val := Value.int 141 435 }, { hash := PyData.keyHash P (Str.ofString "type_name"), key := Value.str (Str.ofString "type_name") 438, val := Value.bytes #[98, 108, 111, 98] 437 }, { hash := PyData.keyHash P (Str.ofString "type_num"), key := Value.str (Str.ofString "type_num") 440, val := Value.int 3 439 }, { hash := PyData.keyHash P (Str.ofString "__init__"), key := Value.str (Str.ofString "__init__") 448, val := Value.ref 183 }, { hash := PyData.keyHash P (Str.ofString "data"), key := Value.str (Str.ofString "data") 456, val := Value.ref 200 }, { hash := PyData.keyHash P (Str.ofString "chunked"), key := Value.str (Str.ofString "chunked") 474, val := Value.ref 217 }, { hash := PyData.keyHash P (Str.ofString "_serialize"), key := Value.str (Str.ofString "_serialize") 491, val := Value.ref 224 }, { hash := PyData.keyHash P (Str.ofString "_deserialize"), key := Value.str (Str.ofString "_deserialize") 499, val := Value.ref 231 }, { hash := PyData.keyHash P (Str.ofString "splitlines"), key := Value.str (Str.ofString "splitlines") 512, val := Value.ref 238 }, { hash := PyData.keyHash P (Str.ofString "__static_attributes__"), key := Value.str (Str.ofString "__static_attributes__") 515, val := Value.ref 239 }, { hash := PyData.keyHash P (Str.ofString "__classcell__"), key := Value.str (Str.ofString "__classcell__") 516, val := Value.ref 171 }] 13 }
noncomputable def o278 (_ : Params) : Obj := { cls := Value.type "cell", data := Data.cell (some (Value.ref 241)) }
noncomputable def o279 (_ : Params) : Obj := { cls := Value.type "tuple", data := Data.seq #[] }
noncomputable def o280 (_ : Params) : Obj := { cls := Value.none, data := Data.fields #[Value.int 145 0, Value.int 4 0, Value.ref 182, Value.int 151 0, Value.int 4 0, Value.ref 189, Value.int 155 0, Value.int 4 0, Value.ref 198, Value.int 159 0, Value.int 4 0, Value.ref 206, Value.int 164 0, Value.int 4 0, Value.ref 215, Value.int 167 0, Value.int 4 0, Value.ref 223, Value.int 171 0, Value.int 4 0, Value.ref 230, Value.int 174 0, Value.int 4 0, Value.ref 237] }
noncomputable def o281 (_ : Params) : Obj := { cls := Value.type "code", data := Data.fields #[Value.str (Str.ofString "Blob") 427, Value.str (Str.ofString "Blob") 428, Value.str (Str.ofString "/claim/cut.py") 429, Value.int 141 0, Value.int 0 0, Value.int 0 0, Value.int 0 0, Value.int 0 0, Value.ref 172, Value.bool false, Value.int 181 0, Value.ref 173, Value.none, Value.none, Value.none, Value.none, Value.int 430 0, Value.int 141 0, Value.str (Str.ofString "/claim/cut.py") 431] }
noncomputable def o282 (_ : Params) : Obj := { cls := Value.type "frame", slots := #[some (Value.ref 174), some (Value.ref 3), some (Value.ref 170), none, some (Value.str (Str.ofString "dulwich.objects") 312), none, some (Value.ref 0)] }
noncomputable def o283 (_ : Params) : Obj := { cls := Value.type "tuple", data := Data.seq #[Value.ref 171] }
noncomputable def o284 (_ : Params) : Obj := { cls := Value.type "tuple", data := Data.seq #[Value.str (Str.ofString "__class__") 444] }
noncomputable def o285 (_ : Params) : Obj := { cls := Value.none, data := Data.fields #[] }
noncomputable def o286 (_ : Params) : Obj := { cls := Value.type "tuple", data := Data.seq #[Value.str (Str.ofString "self") 445] }
noncomputable def o287 (_ : Params) : Obj := { cls := Value.type "tuple", data := Data.seq #[] }
noncomputable def o288 (_ : Params) : Obj := fnObj (nth (inner (nth PR.main.body 12)) 2) (Str.ofString "Blob.__init__") 0 [] Value.none Value.none Value.none Value.none none Value.none Value.none 0 Value.none
noncomputable def o289 (_ : Params) : Obj := { cls := Value.type "code", data := Data.fields #[Value.str (Str.ofString "__init__") 441, Value.str (Str.ofString "Blob.__init__") 442, Value.str (Str.ofString "/claim/cut.py") 443, Value.int 145 0, Value.int 1 0, Value.int 0 0, Value.int 0 0, Value.int 3 0, Value.ref 177, Value.bool true, Value.int 181 0, Value.ref 178, Value.none, Value.ref 179, Value.ref 180, Value.ref 181, Value.int 446 0, Value.int 145 0, Value.str (Str.ofString "/claim/cut.py") 447] }
noncomputable def o290 (_ : Params) : Obj := fnObj (nth (inner (nth PR.main.body 12)) 2) (Str.ofString "Blob.__init__") 3 ([(Str.ofString "__class__", 171)]) Value.none Value.none Value.none (Value.str (Str.ofString "dulwich.objects") 312) none (Value.ref 182) (Value.ref 176) 0 (Value.type "function")
noncomputable def o291 (_ : Params) : Obj := { cls := Value.type "tuple", data := Data.seq #[] }
noncomputable def o292 (_ : Params) : Obj := { cls := Value.none, data := Data.fields #[] }
noncomputable def o293 (_ : Params) : Obj := { cls := Value.type "tuple", data := Data.seq #[Value.str (Str.ofString "self") 452] }
noncomputable def o294 (_ : Params) : Obj := { cls := Value.type "tuple", data := Data.seq #[] }
noncomputable def o295 (_ : Params) : Obj := fnObj (nth (inner (nth PR.main.body 12)) 3) (Str.ofString "Blob.data") 0 [] Value.none Value.none Value.none Value.none none Value.none Value.none 0 Value.none
noncomputable def o296 (_ : Params) : Obj := { cls := Value.type "code", data := Data.fields #[Value.str (Str.ofString "data") 449, Value.str (Str.ofString "Blob.data") 450, Value.str (Str.ofString "/claim/cut.py") 451, Value.int 150 0, Value.int 1 0, Value.int 0 0, Value.int 0 0, Value.int 3 0, Value.ref 184, Value.bool true, Value.int 181 0, Value.ref 185, Value.none, Value.ref 186, Value.ref 187, Value.ref 188, Value.int 453 0, Value.int 150 0, Value.str (Str.ofString "/claim/cut.py") 454] }
noncomputable def o297 (_ : Params) : Obj := fnObj (nth (inner (nth PR.main.body 12)) 3) (Str.ofString "Blob.data") 3 [] Value.none Value.none Value.none (Value.str (Str.ofString "dulwich.objects") 312) none (Value.ref 189) Value.none 0 (Value.type "function")
noncomputable def o298 (_ : Params) : Obj := { cls := Value.type "property", data := Data.fields #[Value.ref 190, Value.none, Value.none, Value.none, Value.int 0 0, Value.bool false] }
noncomputable def o299 (_ : Params) : Obj := { cls := Value.type "builtin_function_or_method", data := Data.fields #[Value.builtin "property.setter", Value.ref 191] }
noncomputable def o300 (_ : Params) : Obj := { cls := Value.type "tuple", data := Data.seq #[] }
noncomputable def o301 (_ : Params) : Obj := { cls := Value.none, data := Data.fields #[] }
noncomputable def o302 (_ : Params) : Obj := { cls := Value.type "tuple", data := Data.seq #[Value.str (Str.ofString "self") 461, Value.str (Str.ofString "data") 462] }
noncomputable def o303 (_ : Params) : Obj := { cls := Value.type "tuple", data := Data.seq #[] }
noncomputable def o304 (_ : Params) : Obj := fnObj (nth (inner (nth PR.main.body 12)) 4) (Str.ofString "Blob.data") 0 [] Value.none Value.none Value.none Value.none none Value.none Value.none 0 Value.none
noncomputable def o305 (_ : Params) : Obj := { cls := Value.type "code", data := Data.fields #[Value.str (Str.ofString "data") 458, Value.str (Str.ofString "Blob.data") 459, Value.str (Str.ofString "/claim/cut.py") 460, Value.int 154 0, Value.int 2 0, Value.int 0 0, Value.int 0 0, Value.int 3 0, Value.ref 193, Value.bool true, Value.int 181 0, Value.ref 194, Value.none, Value.ref 195, Value.ref 196, Value.ref 197, Value.int 463 0, Value.int 154 0, Value.str (Str.ofString "/claim/cut.py") 464] }
noncomputable def o306 (_ : Params) : Obj := fnObj (nth (inner (nth PR.main.body 12)) 4) (Str.ofString "Blob.data") 3 [] Value.none Value.none Value.none (Value.str (Str.ofString "dulwich.objects") 312) none (Value.ref 198) Value.none 0 (Value.type "function")
noncomputable def o307 (_ : Params) : Obj := { cls := Value.type "property", data := Data.fields #[Value.ref 190, Value.ref 199, Value.none, Value.none, Value.str (Str.ofString "data") 456, Value.bool false] }
noncomputable def o308 (_ : Params) : Obj := { cls := Value.type "tuple", data := Data.seq #[] }
noncomputable def o309 (_ : Params) : Obj := { cls := Value.none, data := Data.fields #[] }
noncomputable def o310 (_ : Params) : Obj := { cls := Value.type "tuple", data := Data.seq #[Value.str (Str.ofString "self") 470] }
noncomputable def o311 (_ : Params) : Obj := { cls := Value.type "tuple", data := Data.seq #[] }
noncomputable def o312 (_ : Params) : Obj := fnObj (nth (inner (nth PR.main.body 12)) 5) (Str.ofString "Blob.chunked") 0 [] Value.none Value.none Value.none Value.none none Value.none Value.none 0 Value.none
noncomputable def o313 (_ : Params) : Obj := { cls := Value.type "code", data := Data.fields #[Value.str (Str.ofString "chunked") 467, Value.str (Str.ofString "Blob.chunked") 468, Value.str (Str.ofString "/claim/cut.py") 469, Value.int 158 0, Value.int 1 0, Value.int 0 0, Value.int 0 0, Value.int 3 0, Value.ref 201, Value.bool true, Value.int 181 0, Value.ref 202, Value.none, Value.ref 203, Value.ref 204, Value.ref 205, Value.int 471 0, Value.int 158 0, Value.str (Str.ofString "/claim/cut.py") 472] }
noncomputable def o314 (_ : Params) : Obj := fnObj (nth (inner (nth PR.main.body 12)) 5) (Str.ofString "Blob.chunked") 3 [] Value.none Value.none Value.none (Value.str (Str.ofString "dulwich.objects") 312) none (Value.ref 206) Value.none 0 (Value.type "function")
noncomputable def o315 (_ : Params) : Obj := { cls := Value.type "property", data := Data.fields #[Value.ref 207, Value.none, Value.none, Value.none, Value.int 0 0, Value.bool false] }
noncomputable def o316 (_ : Params) : Obj := { cls := Value.type "builtin_function_or_method", data := Data.fields #[Value.builtin "property.setter", Value.ref 208] }
noncomputable def o317 (_ : Params) : Obj := { cls := Value.type "tuple", data := Data.seq #[] }
noncomputable def o318 (_ : Params) : Obj := { cls := Value.none, data := Data.fields #[] }
noncomputable def o319 (_ : Params) : Obj := { cls := Value.type "tuple", data := Data.seq #[Value.str (Str.ofString "self") 479, Value.str (Str.ofString "chunks") 480] }
noncomputable def o320 (_ : Params) : Obj := { cls := Value.type "tuple", data := Data.seq #[] }
noncomputable def o321 (_ : Params) : Obj := fnObj (nth (inner (nth PR.main.body 12)) 6) (Str.ofString "Blob.chunked") 0 [] Value.none Value.none Value.none Value.none none Value.none Value.none 0 Value.none
noncomputable def o322 (_ : Params) : Obj := { cls := Value.type "code", data := Data.fields #[Value.str (Str.ofString "chunked") 476, Value.str (Str.ofString "Blob.chunked") 477, Value.str (Str.ofString "/claim/cut.py") 478, Value.int 163 0, Value.int 2 0, Value.int 0 0, Value.int 0 0, Value.int 3 0, Value.ref 210, Value.bool true, Value.int 181 0, Value.ref 211, Value.none, Value.ref 212, Value.ref 213, Value.ref 214, Value.int 481 0, Value.int 163 0, Value.str (Str.ofString "/claim/cut.py") 482] }
noncomputable def o323 (_ : Params) : Obj := fnObj (nth (inner (nth PR.main.body 12)) 6) (Str.ofString "Blob.chunked") 3 [] Value.none Value.none Value.none (Value.str (Str.ofString "dulwich.objects") 312) none (Value.ref 215) Value.none 0 (Value.type "function")
noncomputable def o324 (_ : Params) : Obj := { cls := Value.type "property", data := Data.fields #[Value.ref 207, Value.ref 216, Value.none, Value.none, Value.str (Str.ofString "chunked") 474, Value.bool false] }
noncomputable def o325 (_ : Params) : Obj := { cls := Value.type "tuple", data := Data.seq #[] }
noncomputable def o326 (_ : Params) : Obj := { cls := Value.none, data := Data.fields #[] }
noncomputable def o327 (_ : Params) : Obj := { cls := Value.type "tuple", data := Data.seq #[Value.str (Str.ofString "self") 488] }
noncomputable def o328 (_ : Params) : Obj := { cls := Value.type "tuple", data := Data.seq #[] }
noncomputable def o329 (_ : Params) : Obj := fnObj (nth (inner (nth PR.main.body 12)) 7) (Str.ofString "Blob._serialize") 0 [] Value.none Value.none Value.none Value.none none Value.none Value.none 0 Value.none
noncomputable def o330 (_ : Params) : Obj := { cls := Value.type "code", data := Data.fields #[Value.str (Str.ofString "_serialize") 485, Value.str (Str.ofString "Blob._serialize") 486, Value.str (Str.ofString "/claim/cut.py") 487, Value.int 167 0, Value.int 1 0, Value.int 0 0, Value.int 0 0, Value.int 3 0, Value.ref 218, Value.bool true, Value.int 181 0, Value.ref 219, Value.none, Value.ref 220, Value.ref 221, Value.ref 222, Value.int 489 0, Value.int 167 0, Value.str (Str.ofString "/claim/cut.py") 490] }
noncomputable def o331 (_ : Params) : Obj := fnObj (nth (inner (nth PR.main.body 12)) 7) (Str.ofString "Blob._serialize") 3 [] Value.none Value.none Value.none (Value.str (Str.ofString "dulwich.objects") 312) none (Value.ref 223) Value.none 0 (Value.type "function")
noncomputable def o332 (_ : Params) : Obj := { cls := Value.type "tuple", data := Data.seq #[] }
noncomputable def o333 (_ : Params) : Obj := { cls := Value.none, data := Data.fields #[] }
noncomputable def o334 (_ : Params) : Obj := { cls := Value.type "tuple", data := Data.seq #[Value.str (Str.ofString "self") 495, Value.str (Str.ofString "chunks") 496] }
noncomputable def o335 (_ : Params) : Obj := { cls := Value.type "tuple", data := Data.seq #[] }
noncomputable def o336 (_ : Params) : Obj := fnObj (nth (inner (nth PR.main.body 12)) 8) (Str.ofString "Blob._deserialize") 0 [] Value.none Value.none Value.none Value.none none Value.none Value.none 0 Value.none
noncomputable def o337 (_ : Params) : Obj := { cls := Value.type "code", data := Data.fields #[Value.str (Str.ofString "_deserialize") 492, Value.str (Str.ofString "Blob._deserialize") 493, Value.str (Str.ofString "/claim/cut.py") 494, Value.int 171 0, Value.int 2 0, Value.int 0 0, Value.int 0 0, Value.int 3 0, Value.ref 225, Value.bool true, Value.int 181 0, Value.ref 226, Value.none, Value.ref 227, Value.ref 228, Value.ref 229, Value.int 497 0, Value.int 171 0, Value.str (Str.ofString "/claim/cut.py") 498] }
noncomputable def o338 (_ : Params) : Obj := fnObj (nth (inner (nth PR.main.body 12)) 8) (Str.ofString "Blob._deserialize") 3 [] Value.none Value.none Value.none (Value.str (Str.ofString "dulwich.objects") 312) none (Value.ref 230) Value.none 0 (Value.type "function")
noncomputable def o339 (_ : Params) : Obj := { cls := Value.type "tuple", data := Data.seq #[] }
noncomputable def o340 (_ : Params) : Obj := { cls := Value.none, data := Data.fields #[] }
noncomputable def o341 (_ : Params) : Obj := { cls := Value.type "tuple", data := Data.seq #[Value.str (Str.ofString "self") 503, Value.str (Str.ofString "chunks") 504, Value.str (Str.ofString "result") 505, Value.str (Str.ofString "remaining") 506, Value.str (Str.ofString "ret") 507, Value.str (Str.ofString "chunk") 508, Value.str (Str.ofString "lines") 509] }
noncomputable def o342 (_ : Params) : Obj := { cls := Value.type "tuple", data := Data.seq #[] }
noncomputable def o343 (_ : Params) : Obj := fnObj (nth (inner (nth PR.main.body 12)) 9) (Str.ofString "Blob.splitlines") 0 [] Value.none Value.none Value.none Value.none none Value.none Value.none 0 Value.none
noncomputable def o344 (_ : Params) : Obj := { cls := Value.type "code", data := Data.fields #[Value.str (Str.ofString "splitlines") 500, Value.str (Str.ofString "Blob.splitlines") 501, Value.str (Str.ofString "/claim/cut.py") 502, Value.int 174 0, Value.int 1 0, Value.int 0 0, Value.int 0 0, Value.int 3 0, Value.ref 232, Value.bool true, Value.int 181 0, Value.ref 233, Value.none, Value.ref 234, Value.ref 235, Value.ref 236, Value.int 510 0, Value.int 174 0, Value.str (Str.ofString "/claim/cut.py") 511] }
noncomputable def o345 (_ : Params) : Obj := fnObj (nth (inner (nth PR.main.body 12)) 9) (Str.ofString "Blob.splitlines") 3 [] Value.none Value.none Value.none (Value.str (Str.ofString "dulwich.objects") 312) none (Value.ref 237) Value.none 0 (Value.type "function")
noncomputable def o346 (_ : Params) : Obj := { cls := Value.type "tuple", data := Data.seq #[Value.str (Str.ofString "_chunked_text") 513, Value.str (Str.ofString "_needs_serialization") 514] }
noncomputable def o347 (P : Params) : Obj := { cls := Value.type "dict", data := Data.dict #[{ hash := PyData.keyHash P (Str.ofString "__module__"), key := Value.str (Str.ofString "__module__") 432, val := Value.str (Str.ofString "dulwich.objects") 312 }, { hash := PyData.keyHash P (Str.ofString "__firstlineno__"), key := Value.str (Str.ofString "__firstlineno__") 436, val := Value.int 141 435 }, { hash := PyData.keyHash P (Str.ofString "type_name"), key := Value.str (Str.ofString "type_name") 438, val := Value.bytes #[98, 108, 111, 98] 437 }, { hash := PyData.keyHash P (Str.ofString "type_num"), key := Value.str (Str.ofString "type_num") 440, val := Value.int 3 439 }, { hash := PyData.keyHash P (Str.ofString "__init__"), key := Value.str (Str.ofString "__init__") 448, val := Value.ref 183 }, { hash := PyData.keyHash P (Str.ofString "data"), key := Value.str (Str.ofString "data") 456, val := Value.ref 200 }, { hash := PyData.keyHash P (Str.ofString "chunked"), key := Value.str (Str.ofString "chunked") 474, val := Value.ref 217 }, { hash := PyData.keyHash P (Str.ofString "_serialize"), key := Value.str (Str.ofString "_serialize") 491, val := Value.ref 224 }, { hash := PyData.keyHash P (Str.ofString "_deserialize"), key := Value.str (Str.ofString "_deserialize") 499, val := Value.ref 231 }, { hash := PyData.keyHash P (Str.ofString "splitlines"), key := Value.str (Str.ofString "splitlines") 512, val := Value.ref 238 }, { hash := PyData.keyHash P (Str.ofString "__static_attributes__"), key := Value.str (Str.ofString "__static_attributes__") 515, val := Value.ref 239 }, { hash := PyData.keyHash P (Str.ofString "__doc__"), key := Value.str (Str.ofString "__doc__") 517, val := Value.none }] 3 }
noncomputable def o348 (_ : Params) : Obj := { cls := Value.type "type", data := Data.cls { name := Str.ofString "Blob", bases := [Value.ref 163], mro := [Value.ref 241, Value.ref 163, Value.type "object"], ns := 240, qualname := Str.ofString "Blob" }, slots := #[some (Value.ref 168), none, some (Value.str (Str.ofString "Blob") 425), some (Value.str (Str.ofString "Blob") 433), some (Value.builtin "object.__new__"), some (Value.bool true)] }
noncomputable def o349 (_ : Params) : Obj := { cls := Value.type "super", data := Data.fields #[Value.ref 241, Value.ref 241, Value.ref 241] }
noncomputable def o350 (_ : Params) : Obj := { cls := Value.type "builtin_function_or_method", data := Data.fields #[Value.builtin "object.__init_subclass__", Value.ref 241] }
noncomputable def o396 (P : Params) : Obj := { cls := Value.type "dict", data := Data.dict #[{ hash := PyData.keyHash P (Str.ofString "__name__"), key := Value.str (Str.ofString "__name__") 165, val := Value.str (Str.ofString "law_ji0039_01") 520 }, { hash := PyData.keyHash P (Str.ofString "__doc__"), key := Value.str (Str.ofString "__doc__") 166, val := Value.none }, { hash := PyData.keyHash P (Str.ofString "__package__"), key := Value.str (Str.ofString "__package__") 167, val := Value.none }, { hash := PyData.keyHash P (Str.ofString "__loader__"), key := Value.str (Str.ofString "__loader__") 168, val := Value.builtin "__main__.__loader__#opaque" }, { hash := PyData.keyHash P (Str.ofString "__spec__"), key := Value.str (Str.ofString "__spec__") 169, val := Value.none }, { hash := PyData.keyHash P (Str.ofString "__annotations__"), key := Value.str (Str.ofString "__annotations__") 170, val := Value.ref 6 }, { hash := PyData.keyHash P (Str.ofString "__builtins__"), key := Value.str (Str.ofString "__builtins__") 171, val := Value.ref 4 }, { hash := PyData.keyHash P (Str.ofString "__file__"), key := Value.str (Str.ofString "__file__") 173, val := Value.str (Str.ofString "/claim/cut.py") 172 }, { hash := PyData.keyHash P (Str.ofString "__cached__"), key := Value.str (Str.ofString "__cached__") 174, val := Value.none }, { hash := PyData.keyHash P (Str.ofString "_wall"), key := Value.str (Str.ofString "_wall") 193, val := Value.ref 21 }, { hash := PyData.keyHash P (Str.ofString "_can_merge_lines"), key := Value.str (Str.ofString "_can_merge_lines") 204, val := Value.ref 28 }, { hash := PyData.keyHash P (Str.ofString "_merge3_to_bytes"), key := Value.str (Str.ofString "_merge3_to_bytes") 217, val := Value.ref 35 }, { hash := PyData.keyHash P (Str.ofString "_merge_lines"), key := Value.str (Str.ofString "_merge_lines") 226, val := Value.ref 42 }, { hash := PyData.keyHash P (Str.ofString "merge_blobs"), key := Value.str (Str.ofString "merge_blobs") 242, val := Value.ref 49 }, { hash := PyData.keyHash P (Str.ofString "ObjectFormat"), key := Value.str (Str.ofString "ObjectFormat") 289, val := Value.ref 73 }, { hash := PyData.keyHash P (Str.ofString "SHA1"), key := Value.str (Str.ofString "SHA1") 310, val := Value.ref 79 }, { hash := PyData.keyHash P (Str.ofString "DEFAULT_OBJECT_FORMAT"), key := Value.str (Str.ofString "DEFAULT_OBJECT_FORMAT") 311, val := Value.ref 79 }, { hash := PyData.keyHash P (Str.ofString "ShaFile"), key := Value.str (Str.ofString "ShaFile") 424, val := Value.ref 163 }, { hash := PyData.keyHash P (Str.ofString "Blob"), key := Value.str (Str.ofString "Blob") 519, val := Value.ref 241 }, { hash := PyData.keyHash P (Str.ofString "_law_texts"), key := Value.str (Str.ofString "_law_texts") 528, val := Value.ref 244 }, { hash := PyData.keyHash P (Str.ofString "_law_lists"), key := Value.str (Str.ofString "_law_lists") 537, val := Value.ref 251 }, { hash := PyData.keyHash P (Str.ofString "_law_rows"), key := Value.str (Str.ofString "_law_rows") 546, val := Value.ref 258 }, { hash := PyData.keyHash P (Str.ofString "_law_groups"), key := Value.str (Str.ofString "_law_groups") 557, val := Value.ref 265 }, { hash := PyData.keyHash P (Str.ofString "_law_joined"), key := Value.str (Str.ofString "_law_joined") 566, val := Value.ref 272 }, { hash := PyData.keyHash P (Str.ofString "_law_due"), key := Value.str (Str.ofString "_law_due") 578, val := Value.ref 279 }, { hash := PyData.keyHash P (Str.ofString "_law_asked"), key := Value.str (Str.ofString "_law_asked") 589, val := Value.ref 286 }, { hash := PyData.keyHash P (Str.ofString "law"), key := Value.str (Str.ofString "law") 595, val := Value.ref 291 }] 27 }
noncomputable def o397 (_ : Params) : Obj := { cls := Value.none, data := Data.fields #[Value.int 1 0, Value.int 0 0, Value.ref 20, Value.int 5 0, Value.int 0 0, Value.ref 27, Value.int 12 0, Value.int 0 0, Value.ref 34, Value.int 31 0, Value.int 0 0, Value.ref 41, Value.int 38 0, Value.int 0 0, Value.ref 48, Value.int 80 0, Value.int 0 0, Value.ref 55, Value.int 94 0, Value.int 0 0, Value.ref 86, Value.int 141 0, Value.int 0 0, Value.ref 174, Value.int 200 0, Value.int 0 0, Value.ref 257, Value.int 209 0, Value.int 0 0, Value.ref 264, Value.int 219 0, Value.int 0 0, Value.ref 271, Value.int 231 0, Value.int 0 0, Value.ref 278, Value.int 251 0, Value.int 0 0, Value.ref 285, Value.int 254 0, Value.int 0 0, Value.ref 290] }
noncomputable def o398 (_ : Params) : Obj := { cls := Value.type "list", data := Data.seq #[Value.none, Value.bytes #[] 522, Value.bytes #[112, 10] 523, Value.bytes #[112, 10, 113, 10] 524, Value.bytes #[113, 10, 112] 525, Value.bytes #[10, 10] 526, Value.bytes #[60, 60, 60, 60, 60, 60, 60, 32, 111, 117, 114, 115, 10] 527] }
noncomputable def o399 (_ : Params) : Obj := { cls := Value.type "list", data := Data.seq #[] }
noncomputable def o400 (_ : Params) : Obj := { cls := Value.type "list", data := Data.seq #[Value.bytes #[112, 10] 529] }
noncomputable def o401 (_ : Params) : Obj := { cls := Value.type "list", data := Data.seq #[Value.bytes #[113, 10] 530, Value.bytes #[112, 10] 531] }
noncomputable def o402 (_ : Params) : Obj := { cls := Value.type "list", data := Data.seq #[Value.bytes #[114] 532] }
noncomputable def o403 (_ : Params) : Obj := { cls := Value.type "list", data := Data.seq #[Value.bytes #[60, 60, 60, 60, 60, 60, 60, 32, 111, 117, 114, 115, 33, 10] 533] }
noncomputable def o404 (_ : Params) : Obj := { cls := Value.type "list", data := Data.seq #[Value.bytes #[112, 10] 534, Value.bytes #[10] 535, Value.bytes #[113] 536] }
noncomputable def o405 (_ : Params) : Obj := { cls := Value.type "list", data := Data.seq #[Value.ref 245, Value.ref 246, Value.ref 247, Value.ref 248, Value.ref 249, Value.ref 250] }
noncomputable def o406 (_ : Params) : Obj := { cls := Value.type "tuple", data := Data.seq #[] }
noncomputable def o407 (_ : Params) : Obj := { cls := Value.none, data := Data.fields #[] }
noncomputable def o408 (_ : Params) : Obj := { cls := Value.type "tuple", data := Data.seq #[Value.str (Str.ofString "text") 541, Value.str (Str.ofString "rows") 542, Value.str (Str.ofString "end") 543] }
noncomputable def o409 (_ : Params) : Obj := { cls := Value.type "tuple", data := Data.seq #[] }
noncomputable def o410 (_ : Params) : Obj := fnObj (nth PR.main.body 16) (Str.ofString "_law_rows") 0 [] Value.none Value.none Value.none Value.none none Value.none Value.none 0 Value.none
noncomputable def o411 (_ : Params) : Obj := { cls := Value.type "code", data := Data.fields #[Value.str (Str.ofString "_law_rows") 538, Value.str (Str.ofString "_law_rows") 539, Value.str (Str.ofString "/claim/cut.py") 540, Value.int 200 0, Value.int 1 0, Value.int 0 0, Value.int 0 0, Value.int 3 0, Value.ref 252, Value.bool true, Value.int 181 0, Value.ref 253, Value.none, Value.ref 254, Value.ref 255, Value.ref 256, Value.int 544 0, Value.int 200 0, Value.str (Str.ofString "/claim/cut.py") 545] }
noncomputable def o412 (_ : Params) : Obj := fnObj (nth PR.main.body 16) (Str.ofString "_law_rows") 3 [] Value.none Value.none Value.none (Value.str (Str.ofString "law_ji0039_01") 520) none (Value.ref 257) Value.none 0 (Value.type "function")
noncomputable def o413 (_ : Params) : Obj := { cls := Value.type "tuple", data := Data.seq #[] }
noncomputable def o414 (_ : Params) : Obj := { cls := Value.none, data := Data.fields #[] }
noncomputable def o415 (_ : Params) : Obj := { cls := Value.type "tuple", data := Data.seq #[Value.str (Str.ofString "script") 550, Value.str (Str.ofString "groups") 551, Value.str (Str.ofString "n") 552, Value.str (Str.ofString "kind") 553, Value.str (Str.ofString "first") 554] }
noncomputable def o416 (_ : Params) : Obj := { cls := Value.type "tuple", data := Data.seq #[] }
noncomputable def o417 (_ : Params) : Obj := fnObj (nth PR.main.body 17) (Str.ofString "_law_groups") 0 [] Value.none Value.none Value.none Value.none none Value.none Value.none 0 Value.none
noncomputable def o418 (_ : Params) : Obj := { cls := Value.type "code", data := Data.fields #[Value.str (Str.ofString "_law_groups") 547, Value.str (Str.ofString "_law_groups") 548, Value.str (Str.ofString "/claim/cut.py") 549, Value.int 209 0, Value.int 1 0, Value.int 0 0, Value.int 0 0, Value.int 3 0, Value.ref 259, Value.bool true, Value.int 181 0, Value.ref 260, Value.none, Value.ref 261, Value.ref 262, Value.ref 263, Value.int 555 0, Value.int 209 0, Value.str (Str.ofString "/claim/cut.py") 556] }
noncomputable def o419 (_ : Params) : Obj := fnObj (nth PR.main.body 17) (Str.ofString "_law_groups") 3 [] Value.none Value.none Value.none (Value.str (Str.ofString "law_ji0039_01") 520) none (Value.ref 264) Value.none 0 (Value.type "function")
noncomputable def o420 (_ : Params) : Obj := { cls := Value.type "tuple", data := Data.seq #[] }
noncomputable def o421 (_ : Params) : Obj := { cls := Value.none, data := Data.fields #[] }
noncomputable def o422 (_ : Params) : Obj := { cls := Value.type "tuple", data := Data.seq #[Value.str (Str.ofString "groups") 561, Value.str (Str.ofString "rows") 562, Value.str (Str.ofString "group") 563] }
noncomputable def o423 (_ : Params) : Obj := { cls := Value.type "tuple", data := Data.seq #[] }
noncomputable def o424 (_ : Params) : Obj := fnObj (nth PR.main.body 18) (Str.ofString "_law_joined") 0 [] Value.none Value.none Value.none Value.none none Value.none Value.none 0 Value.none
noncomputable def o425 (_ : Params) : Obj := { cls := Value.type "code", data := Data.fields #[Value.str (Str.ofString "_law_joined") 558, Value.str (Str.ofString "_law_joined") 559, Value.str (Str.ofString "/claim/cut.py") 560, Value.int 219 0, Value.int 1 0, Value.int 0 0, Value.int 0 0, Value.int 3 0, Value.ref 266, Value.bool true, Value.int 181 0, Value.ref 267, Value.none, Value.ref 268, Value.ref 269, Value.ref 270, Value.int 564 0, Value.int 219 0, Value.str (Str.ofString "/claim/cut.py") 565] }
noncomputable def o426 (_ : Params) : Obj := fnObj (nth PR.main.body 18) (Str.ofString "_law_joined") 3 [] Value.none Value.none Value.none (Value.str (Str.ofString "law_ji0039_01") 520) none (Value.ref 271) Value.none 0 (Value.type "function")
noncomputable def o427 (_ : Params) : Obj := { cls := Value.type "tuple", data := Data.seq #[] }
noncomputable def o428 (_ : Params) : Obj := { cls := Value.none, data := Data.fields #[] }
noncomputable def o429 (_ : Params) : Obj := { cls := Value.type "tuple", data := Data.seq #[Value.str (Str.ofString "base") 570, Value.str (Str.ofString "ours") 571, Value.str (Str.ofString "theirs") 572, Value.str (Str.ofString "joined") 573, Value.str (Str.ofString "one") 574, Value.str (Str.ofString "sides") 575] }
noncomputable def o430 (_ : Params) : Obj := { cls := Value.type "tuple", data := Data.seq #[] }
noncomputable def o431 (_ : Params) : Obj := fnObj (nth PR.main.body 19) (Str.ofString "_law_due") 0 [] Value.none Value.none Value.none Value.none none Value.none Value.none 0 Value.none
noncomputable def o432 (_ : Params) : Obj := { cls := Value.type "code", data := Data.fields #[Value.str (Str.ofString "_law_due") 567, Value.str (Str.ofString "_law_due") 568, Value.str (Str.ofString "/claim/cut.py") 569, Value.int 231 0, Value.int 4 0, Value.int 0 0, Value.int 0 0, Value.int 3 0, Value.ref 273, Value.bool true, Value.int 181 0, Value.ref 274, Value.none, Value.ref 275, Value.ref 276, Value.ref 277, Value.int 576 0, Value.int 231 0, Value.str (Str.ofString "/claim/cut.py") 577] }
noncomputable def o433 (_ : Params) : Obj := fnObj (nth PR.main.body 19) (Str.ofString "_law_due") 3 [] Value.none Value.none Value.none (Value.str (Str.ofString "law_ji0039_01") 520) none (Value.ref 278) Value.none 0 (Value.type "function")
noncomputable def o434 (_ : Params) : Obj := { cls := Value.type "tuple", data := Data.seq #[] }
noncomputable def o435 (_ : Params) : Obj := { cls := Value.none, data := Data.fields #[] }
noncomputable def o436 (_ : Params) : Obj := { cls := Value.type "tuple", data := Data.seq #[Value.str (Str.ofString "asked") 582, Value.str (Str.ofString "groups") 583, Value.str (Str.ofString "base") 584, Value.str (Str.ofString "ours") 585, Value.str (Str.ofString "theirs") 586] }
noncomputable def o437 (_ : Params) : Obj := { cls := Value.type "tuple", data := Data.seq #[] }
noncomputable def o438 (_ : Params) : Obj := fnObj (nth PR.main.body 20) (Str.ofString "_law_asked") 0 [] Value.none Value.none Value.none Value.none none Value.none Value.none 0 Value.none
noncomputable def o439 (_ : Params) : Obj := { cls := Value.type "code", data := Data.fields #[Value.str (Str.ofString "_law_asked") 579, Value.str (Str.ofString "_law_asked") 580, Value.str (Str.ofString "/claim/cut.py") 581, Value.int 251 0, Value.int 5 0, Value.int 0 0, Value.int 0 0, Value.int 3 0, Value.ref 280, Value.bool true, Value.int 181 0, Value.ref 281, Value.none, Value.ref 282, Value.ref 283, Value.ref 284, Value.int 587 0, Value.int 251 0, Value.str (Str.ofString "/claim/cut.py") 588] }
noncomputable def o440 (_ : Params) : Obj := fnObj (nth PR.main.body 20) (Str.ofString "_law_asked") 3 [] Value.none Value.none Value.none (Value.str (Str.ofString "law_ji0039_01") 520) none (Value.ref 285) Value.none 0 (Value.type "function")
noncomputable def o441 (_ : Params) : Obj := { cls := Value.type "tuple", data := Data.seq #[] }
noncomputable def o442 (_ : Params) : Obj := { cls := Value.none, data := Data.fields #[] }
noncomputable def o443 (_ : Params) : Obj := fnObj (nth PR.main.body 21) (Str.ofString "law") 0 [] Value.none Value.none Value.none Value.none none Value.none Value.none 0 Value.none
noncomputable def o444 (_ : Params) : Obj := { cls := Value.type "code", data := Data.fields #[Value.str (Str.ofString "law") 590, Value.str (Str.ofString "law") 591, Value.str (Str.ofString "/claim/cut.py") 592, Value.int 254 0, Value.int 1 0, Value.int 0 0, Value.int 0 0, Value.int 3 0, Value.ref 287, Value.bool true, Value.int 181 0, Value.ref 288, Value.none, Value.none, Value.none, Value.ref 289, Value.int 593 0, Value.int 254 0, Value.str (Str.ofString "/claim/cut.py") 594] }
noncomputable def o445 (_ : Params) : Obj := fnObj (nth PR.main.body 21) (Str.ofString "law") 3 [] Value.none Value.none Value.none (Value.str (Str.ofString "law_ji0039_01") 520) none (Value.ref 290) Value.none 0 (Value.type "function")
noncomputable def tree47 (P : Params) : BT := (.node (boot_o_0 P) (.node (boot_o_1 P) (.node (boot_o_3 P) (.node (boot_o_7 P) .nil .nil) (.node (o43 P) .nil .nil)) (.node (boot_o_5 P) (.node (boot_o_9 P) .nil .nil) (.node (o45 P) .nil .nil))) (.node (boot_o_2 P) (.node (boot_o_4 P) (.node (boot_o_8 P) .nil .nil) (.node (o44 P) .nil .nil)) (.node (boot_o_6 P) (.node (boot_o_10 P) .nil .nil) (.node (o46 P) .nil .nil))))
noncomputable def tree85 (P : Params) : BT := (.node (boot_o_0 P) (.node (boot_o_1 P) (.node (o49 P) (.node (boot_o_7 P) (.node (o51 P) (.node (o67 P) .nil .nil) (.node (o83 P) .nil .nil)) (.node (o59 P) (.node (o75 P) .nil .nil) .nil)) (.node (o43 P) (.node (o55 P) (.node (o71 P) .nil .nil) .nil) (.node (o63 P) (.node (o79 P) .nil .nil) .nil))) (.node (boot_o_5 P) (.node (boot_o_9 P) (.node (o53 P) (.node (o69 P) .nil .nil) (.node (o85 P) .nil .nil)) (.node (o61 P) (.node (o77 P) .nil .nil) .nil)) (.node (o45 P) (.node (o57 P) (.node (o73 P) .nil .nil) .nil) (.node (o65 P) (.node (o81 P) .nil .nil) .nil)))) (.node (boot_o_2 P) (.node (boot_o_4 P) (.node (boot_o_8 P) (.node (o52 P) (.node (o68 P) .nil .nil) (.node (o84 P) .nil .nil)) (.node (o60 P) (.node (o76 P) .nil .nil) .nil)) (.node (o50 P) (.node (o56 P) (.node (o72 P) .nil .nil) .nil) (.node (o64 P) (.node (o80 P) .nil .nil) .nil))) (.node (boot_o_6 P) (.node (boot_o_10 P) (.node (o54 P) (.node (o70 P) .nil .nil) .nil) (.node (o62 P) (.node (o78 P) .nil .nil) .nil)) (.node (o46 P) (.node (o58 P) (.node (o74 P) .nil .nil) .nil) (.node (o66 P) (.node (o82 P) .nil .nil) .nil)))))
noncomputable def tree115 (P : Params) : BT := (.node (boot_o_0 P) (.node (boot_o_1 P) (.node (o86 P) (.node (boot_o_7 P) (.node (o51 P) (.node (o67 P) (.node (o101 P) .nil .nil) .nil) (.node (o83 P) .nil .nil)) (.node (o59 P) (.node (o75 P) (.node (o109 P) .nil .nil) .nil) (.node (o93 P) .nil .nil))) (.node (o43 P) (.node (o55 P) (.node (o71 P) (.node (o105 P) .nil .nil) .nil) (.node (o89 P) .nil .nil)) (.node (o63 P) (.node (o79 P) (.node (o113 P) .nil .nil) .nil) (.node (o97 P) .nil .nil)))) (.node (boot_o_5 P) (.node (boot_o_9 P) (.node (o53 P) (.node (o69 P) (.node (o103 P) .nil .nil) .nil) (.node (o85 P) .nil .nil)) (.node (o61 P) (.node (o77 P) (.node (o111 P) .nil .nil) .nil) (.node (o95 P) .nil .nil))) (.node (o45 P) (.node (o57 P) (.node (o73 P) (.node (o107 P) .nil .nil) .nil) (.node (o91 P) .nil .nil)) (.node (o65 P) (.node (o81 P) (.node (o115 P) .nil .nil) .nil) (.node (o99 P) .nil .nil))))) (.node (boot_o_2 P) (.node (boot_o_4 P) (.node (boot_o_8 P) (.node (o52 P) (.node (o68 P) (.node (o102 P) .nil .nil) .nil) (.node (o84 P) .nil .nil)) (.node (o60 P) (.node (o76 P) (.node (o110 P) .nil .nil) .nil) (.node (o94 P) .nil .nil))) (.node (o87 P) (.node (o56 P) (.node (o72 P) (.node (o106 P) .nil .nil) .nil) (.node (o90 P) .nil .nil)) (.node (o64 P) (.node (o80 P) (.node (o114 P) .nil .nil) .nil) (.node (o98 P) .nil .nil)))) (.node (boot_o_6 P) (.node (boot_o_10 P) (.node (o54 P) (.node (o70 P) (.node (o104 P) .nil .nil) .nil) (.node (o88 P) .nil .nil)) (.node (o62 P) (.node (o78 P) (.node (o112 P) .nil .nil) .nil) (.node (o96 P) .nil .nil))) (.node (o46 P) (.node (o58 P) (.node (o74 P) (.node (o108 P) .nil .nil) .nil) (.node (o92 P) .nil .nil)) (.node (o66 P) (.node (o82 P) .nil .nil) (.node (o100 P) .nil .nil))))))
noncomputable def tree119 (P : Params) : BT := (.node (boot_o_0 P) (.node (boot_o_1 P) (.node (o116 P) (.node (boot_o_7 P) (.node (o51 P) (.node (o67 P) (.node (o101 P) .nil .nil) .nil) (.node (o83 P) (.node (o118 P) .nil .nil) .nil)) (.node (o59 P) (.node (o75 P) (.node (o109 P) .nil .nil) .nil) (.node (o93 P) .nil .nil))) (.node (o43 P) (.node (o55 P) (.node (o71 P) (.node (o105 P) .nil .nil) .nil) (.node (o89 P) .nil .nil)) (.node (o63 P) (.node (o79 P) (.node (o113 P) .nil .nil) .nil) (.node (o97 P) .nil .nil)))) (.node (boot_o_5 P) (.node (boot_o_9 P) (.node (o53 P) (.node (o69 P) (.node (o103 P) .nil .nil) .nil) (.node (o85 P) .nil .nil)) (.node (o61 P) (.node (o77 P) (.node (o111 P) .nil .nil) .nil) (.node (o95 P) .nil .nil))) (.node (o45 P) (.node (o57 P) (.node (o73 P) (.node (o107 P) .nil .nil) .nil) (.node (o91 P) .nil .nil)) (.node (o65 P) (.node (o81 P) (.node (o115 P) .nil .nil) .nil) (.node (o99 P) .nil .nil))))) (.node (boot_o_2 P) (.node (boot_o_4 P) (.node (boot_o_8 P) (.node (o52 P) (.node (o68 P) (.node (o102 P) .nil .nil) .nil) (.node (o84 P) (.node (o119 P) .nil .nil) .nil)) (.node (o60 P) (.node (o76 P) (.node (o110 P) .nil .nil) .nil) (.node (o94 P) .nil .nil))) (.node (o87 P) (.node (o56 P) (.node (o72 P) (.node (o106 P) .nil .nil) .nil) (.node (o90 P) .nil .nil)) (.node (o64 P) (.node (o80 P) (.node (o114 P) .nil .nil) .nil) (.node (o98 P) .nil .nil)))) (.node (boot_o_6 P) (.node (boot_o_10 P) (.node (o54 P) (.node (o70 P) (.node (o104 P) .nil .nil) .nil) (.node (o88 P) .nil .nil)) (.node (o62 P) (.node (o78 P) (.node (o112 P) .nil .nil) .nil) (.node (o96 P) .nil .nil))) (.node (o46 P) (.node (o58 P) (.node (o74 P) (.node (o108 P) .nil .nil) .nil) (.node (o92 P) .nil .nil)) (.node (o66 P) (.node (o82 P) (.node (o117 P) .nil .nil) .nil) (.node (o100 P) .nil .nil))))))
noncomputable def tree208 (P : Params) : BT := (.node (boot_o_0 P) (.node (boot_o_1 P) (.node (o120 P) (.node (boot_o_7 P) (.node (o51 P) (.node (o67 P) (.node (o101 P) (.node (o168 P) .nil .nil) .nil) (.node (o136 P) (.node (o200 P) .nil .nil) .nil)) (.node (o83 P) (.node (o118 P) (.node (o184 P) .nil .nil) .nil) (.node (o152 P) .nil .nil))) (.node (o59 P) (.node (o75 P) (.node (o109 P) (.node (o176 P) .nil .nil) .nil) (.node (o144 P) (.node (o208 P) .nil .nil) .nil)) (.node (o93 P) (.node (o128 P) (.node (o192 P) .nil .nil) .nil) (.node (o160 P) .nil .nil)))) (.node (o43 P) (.node (o55 P) (.node (o71 P) (.node (o105 P) (.node (o172 P) .nil .nil) .nil) (.node (o140 P) (.node (o204 P) .nil .nil) .nil)) (.node (o89 P) (.node (o124 P) (.node (o188 P) .nil .nil) .nil) (.node (o156 P) .nil .nil))) (.node (o63 P) (.node (o79 P) (.node (o113 P) (.node (o180 P) .nil .nil) .nil) (.node (o148 P) .nil .nil)) (.node (o97 P) (.node (o132 P) (.node (o196 P) .nil .nil) .nil) (.node (o164 P) .nil .nil))))) (.node (boot_o_5 P) (.node (boot_o_9 P) (.node (o53 P) (.node (o69 P) (.node (o103 P) (.node (o170 P) .nil .nil) .nil) (.node (o138 P) (.node (o202 P) .nil .nil) .nil)) (.node (o85 P) (.node (o122 P) (.node (o186 P) .nil .nil) .nil) (.node (o154 P) .nil .nil))) (.node (o61 P) (.node (o77 P) (.node (o111 P) (.node (o178 P) .nil .nil) .nil) (.node (o146 P) .nil .nil)) (.node (o95 P) (.node (o130 P) (.node (o194 P) .nil .nil) .nil) (.node (o162 P) .nil .nil)))) (.node (o45 P) (.node (o57 P) (.node (o73 P) (.node (o107 P) (.node (o174 P) .nil .nil) .nil) (.node (o142 P) (.node (o206 P) .nil .nil) .nil)) (.node (o91 P) (.node (o126 P) (.node (o190 P) .nil .nil) .nil) (.node (o158 P) .nil .nil))) (.node (o65 P) (.node (o81 P) (.node (o115 P) (.node (o182 P) .nil .nil) .nil) (.node (o150 P) .nil .nil)) (.node (o99 P) (.node (o134 P) (.node (o198 P) .nil .nil) .nil) (.node (o166 P) .nil .nil)))))) (.node (boot_o_2 P) (.node (boot_o_4 P) (.node (boot_o_8 P) (.node (o52 P) (.node (o68 P) (.node (o102 P) (.node (o169 P) .nil .nil) .nil) (.node (o137 P) (.node (o201 P) .nil .nil) .nil)) (.node (o84 P) (.node (o119 P) (.node (o185 P) .nil .nil) .nil) (.node (o153 P) .nil .nil))) (.node (o60 P) (.node (o76 P) (.node (o110 P) (.node (o177 P) .nil .nil) .nil) (.node (o145 P) .nil .nil)) (.node (o94 P) (.node (o129 P) (.node (o193 P) .nil .nil) .nil) (.node (o161 P) .nil .nil)))) (.node (o121 P) (.node (o56 P) (.node (o72 P) (.node (o106 P) (.node (o173 P) .nil .nil) .nil) (.node (o141 P) (.node (o205 P) .nil .nil) .nil)) (.node (o90 P) (.node (o125 P) (.node (o189 P) .nil .nil) .nil) (.node (o157 P) .nil .nil))) (.node (o64 P) (.node (o80 P) (.node (o114 P) (.node (o181 P) .nil .nil) .nil) (.node (o149 P) .nil .nil)) (.node (o98 P) (.node (o133 P) (.node (o197 P) .nil .nil) .nil) (.node (o165 P) .nil .nil))))) (.node (boot_o_6 P) (.node (boot_o_10 P) (.node (o54 P) (.node (o70 P) (.node (o104 P) (.node (o171 P) .nil .nil) .nil) (.node (o139 P) (.node (o203 P) .nil .nil) .nil)) (.node (o88 P) (.node (o123 P) (.node (o187 P) .nil .nil) .nil) (.node (o155 P) .nil .nil))) (.node (o62 P) (.node (o78 P) (.node (o112 P) (.node (o179 P) .nil .nil) .nil) (.node (o147 P) .nil .nil)) (.node (o96 P) (.node (o131 P) (.node (o195 P) .nil .nil) .nil) (.node (o163 P) .nil .nil)))) (.node (o46 P) (.node (o58 P) (.node (o74 P) (.node (o108 P) (.node (o175 P) .nil .nil) .nil) (.node (o143 P) (.node (o207 P) .nil .nil) .nil)) (.node (o92 P) (.node (o127 P) (.node (o191 P) .nil .nil) .nil) (.node (o159 P) .nil .nil))) (.node (o66 P) (.node (o82 P) (.node (o117 P) (.node (o183 P) .nil .nil) .nil) (.node (o151 P) .nil .nil)) (.node (o100 P) (.node (o135 P) (.node (o199 P) .nil .nil) .nil) (.node (o167 P) .nil .nil)))))))
noncomputable def tree350 (P : Params) : BT := (.node (boot_o_0 P) (.node (boot_o_1 P) (.node (o272 P) (.node (boot_o_7 P) (.node (o51 P) (.node (o67 P) (.node (o101 P) (.node (o168 P) .nil .nil) (.node (o298 P) .nil .nil)) (.node (o136 P) (.node (o200 P) .nil .nil) (.node (o330 P) .nil .nil))) (.node (o83 P) (.node (o118 P) (.node (o184 P) .nil .nil) (.node (o314 P) .nil .nil)) (.node (o152 P) (.node (o282 P) .nil .nil) (.node (o346 P) .nil .nil)))) (.node (o59 P) (.node (o75 P) (.node (o109 P) (.node (o176 P) .nil .nil) (.node (o306 P) .nil .nil)) (.node (o144 P) (.node (o208 P) .nil .nil) (.node (o338 P) .nil .nil))) (.node (o93 P) (.node (o128 P) (.node (o192 P) .nil .nil) (.node (o322 P) .nil .nil)) (.node (o160 P) (.node (o290 P) .nil .nil) .nil)))) (.node (o43 P) (.node (o55 P) (.node (o71 P) (.node (o105 P) (.node (o172 P) .nil .nil) (.node (o302 P) .nil .nil)) (.node (o140 P) (.node (o274 P) .nil .nil) (.node (o334 P) .nil .nil))) (.node (o89 P) (.node (o124 P) (.node (o188 P) .nil .nil) (.node (o318 P) .nil .nil)) (.node (o156 P) (.node (o286 P) .nil .nil) (.node (o350 P) .nil .nil)))) (.node (o63 P) (.node (o79 P) (.node (o113 P) (.node (o180 P) .nil .nil) (.node (o310 P) .nil .nil)) (.node (o148 P) (.node (o278 P) .nil .nil) (.node (o342 P) .nil .nil))) (.node (o97 P) (.node (o132 P) (.node (o196 P) .nil .nil) (.node (o326 P) .nil .nil)) (.node (o164 P) (.node (o294 P) .nil .nil) .nil))))) (.node (boot_o_5 P) (.node (boot_o_9 P) (.node (o53 P) (.node (o69 P) (.node (o103 P) (.node (o170 P) .nil .nil) (.node (o300 P) .nil .nil)) (.node (o138 P) (.node (o202 P) .nil .nil) (.node (o332 P) .nil .nil))) (.node (o85 P) (.node (o122 P) (.node (o186 P) .nil .nil) (.node (o316 P) .nil .nil)) (.node (o154 P) (.node (o284 P) .nil .nil) (.node (o348 P) .nil .nil)))) (.node (o61 P) (.node (o77 P) (.node (o111 P) (.node (o178 P) .nil .nil) (.node (o308 P) .nil .nil)) (.node (o146 P) (.node (o276 P) .nil .nil) (.node (o340 P) .nil .nil))) (.node (o95 P) (.node (o130 P) (.node (o194 P) .nil .nil) (.node (o324 P) .nil .nil)) (.node (o162 P) (.node (o292 P) .nil .nil) .nil)))) (.node (o45 P) (.node (o57 P) (.node (o73 P) (.node (o107 P) (.node (o174 P) .nil .nil) (.node (o304 P) .nil .nil)) (.node (o142 P) (.node (o206 P) .nil .nil) (.node (o336 P) .nil .nil))) (.node (o91 P) (.node (o126 P) (.node (o190 P) .nil .nil) (.node (o320 P) .nil .nil)) (.node (o158 P) (.node (o288 P) .nil .nil) .nil))) (.node (o65 P) (.node (o81 P) (.node (o115 P) (.node (o182 P) .nil .nil) (.node (o312 P) .nil .nil)) (.node (o150 P) (.node (o280 P) .nil .nil) (.node (o344 P) .nil .nil))) (.node (o99 P) (.node (o134 P) (.node (o198 P) .nil .nil) (.node (o328 P) .nil .nil)) (.node (o166 P) (.node (o296 P) .nil .nil) .nil)))))) (.node (boot_o_2 P) (.node (boot_o_4 P) (.node (boot_o_8 P) (.node (o52 P) (.node (o68 P) (.node (o102 P) (.node (o169 P) .nil .nil) (.node (o299 P) .nil .nil)) (.node (o137 P) (.node (o201 P) .nil .nil) (.node (o331 P) .nil .nil))) (.node (o84 P) (.node (o119 P) (.node (o185 P) .nil .nil) (.node (o315 P) .nil .nil)) (.node (o153 P) (.node (o283 P) .nil .nil) (.node (o347 P) .nil .nil)))) (.node (o60 P) (.node (o76 P) (.node (o110 P) (.node (o177 P) .nil .nil) (.node (o307 P) .nil .nil)) (.node (o145 P) (.node (o275 P) .nil .nil) (.node (o339 P) .nil .nil))) (.node (o94 P) (.node (o129 P) (.node (o193 P) .nil .nil) (.node (o323 P) .nil .nil)) (.node (o161 P) (.node (o291 P) .nil .nil) .nil)))) (.node (o273 P) (.node (o56 P) (.node (o72 P) (.node (o106 P) (.node (o173 P) .nil .nil) (.node (o303 P) .nil .nil)) (.node (o141 P) (.node (o205 P) .nil .nil) (.node (o335 P) .nil .nil))) (.node (o90 P) (.node (o125 P) (.node (o189 P) .nil .nil) (.node (o319 P) .nil .nil)) (.node (o157 P) (.node (o287 P) .nil .nil) .nil))) (.node (o64 P) (.node (o80 P) (.node (o114 P) (.node (o181 P) .nil .nil) (.node (o311 P) .nil .nil)) (.node (o149 P) (.node (o279 P) .nil .nil) (.node (o343 P) .nil .nil))) (.node (o98 P) (.node (o133 P) (.node (o197 P) .nil .nil) (.node (o327 P) .nil .nil)) (.node (o165 P) (.node (o295 P) .nil .nil) .nil))))) (.node (boot_o_6 P) (.node (boot_o_10 P) (.node (o54 P) (.node (o70 P) (.node (o104 P) (.node (o171 P) .nil .nil) (.node (o301 P) .nil .nil)) (.node (o139 P) (.node (o203 P) .nil .nil) (.node (o333 P) .nil .nil))) (.node (o88 P) (.node (o123 P) (.node (o187 P) .nil .nil) (.node (o317 P) .nil .nil)) (.node (o155 P) (.node (o285 P) .nil .nil) (.node (o349 P) .nil .nil)))) (.node (o62 P) (.node (o78 P) (.node (o112 P) (.node (o179 P) .nil .nil) (.node (o309 P) .nil .nil)) (.node (o147 P) (.node (o277 P) .nil .nil) (.node (o341 P) .nil .nil))) (.node (o96 P) (.node (o131 P) (.node (o195 P) .nil .nil) (.node (o325 P) .nil .nil)) (.node (o163 P) (.node (o293 P) .nil .nil) .nil)))) (.node (o46 P) (.node (o58 P) (.node (o74 P) (.node (o108 P) (.node (o175 P) .nil .nil) (.node (o305 P) .nil .nil)) (.node (o143 P) (.node (o207 P) .nil .nil) (.node (o337 P) .nil .nil))) (.node (o92 P) (.node (o127 P) (.node (o191 P) .nil .nil) (.node (o321 P) .nil .nil)) (.node (o159 P) (.node (o289 P) .nil .nil) .nil))) (.node (o66 P) (.node (o82 P) (.node (o117 P) (.node (o183 P) .nil .nil) (.node (o313 P) .nil .nil)) (.node (o151 P) (.node (o281 P) .nil .nil) (.node (o345 P) .nil .nil))) (.node (o100 P) (.node (o135 P) (.node (o199 P) .nil .nil) (.node (o329 P) .nil .nil)) (.node (o167 P) (.node (o297 P) .nil .nil) .nil)))))))
noncomputable def tree445 (P : Params) : BT := (.node (boot_o_0 P) (.node (boot_o_1 P) (.node (o396 P) (.node (boot_o_7 P) (.node (o51 P) (.node (o67 P) (.node (o101 P) (.node (o168 P) (.node (o409 P) .nil .nil) .nil) (.node (o298 P) .nil .nil)) (.node (o136 P) (.node (o200 P) (.node (o441 P) .nil .nil) .nil) (.node (o330 P) .nil .nil))) (.node (o83 P) (.node (o118 P) (.node (o184 P) (.node (o425 P) .nil .nil) .nil) (.node (o314 P) .nil .nil)) (.node (o152 P) (.node (o282 P) .nil .nil) (.node (o346 P) .nil .nil)))) (.node (o59 P) (.node (o75 P) (.node (o109 P) (.node (o176 P) (.node (o417 P) .nil .nil) .nil) (.node (o306 P) .nil .nil)) (.node (o144 P) (.node (o208 P) .nil .nil) (.node (o338 P) .nil .nil))) (.node (o93 P) (.node (o128 P) (.node (o192 P) (.node (o433 P) .nil .nil) .nil) (.node (o322 P) .nil .nil)) (.node (o160 P) (.node (o290 P) .nil .nil) (.node (o401 P) .nil .nil))))) (.node (o43 P) (.node (o55 P) (.node (o71 P) (.node (o105 P) (.node (o172 P) (.node (o413 P) .nil .nil) .nil) (.node (o302 P) .nil .nil)) (.node (o140 P) (.node (o274 P) (.node (o445 P) .nil .nil) .nil) (.node (o334 P) .nil .nil))) (.node (o89 P) (.node (o124 P) (.node (o188 P) (.node (o429 P) .nil .nil) .nil) (.node (o318 P) .nil .nil)) (.node (o156 P) (.node (o286 P) .nil .nil) (.node (o350 P) .nil .nil)))) (.node (o63 P) (.node (o79 P) (.node (o113 P) (.node (o180 P) (.node (o421 P) .nil .nil) .nil) (.node (o310 P) .nil .nil)) (.node (o148 P) (.node (o278 P) .nil .nil) (.node (o342 P) .nil .nil))) (.node (o97 P) (.node (o132 P) (.node (o196 P) (.node (o437 P) .nil .nil) .nil) (.node (o326 P) .nil .nil)) (.node (o164 P) (.node (o294 P) .nil .nil) (.node (o405 P) .nil .nil)))))) (.node (boot_o_5 P) (.node (boot_o_9 P) (.node (o53 P) (.node (o69 P) (.node (o103 P) (.node (o170 P) (.node (o411 P) .nil .nil) .nil) (.node (o300 P) .nil .nil)) (.node (o138 P) (.node (o202 P) (.node (o443 P) .nil .nil) .nil) (.node (o332 P) .nil .nil))) (.node (o85 P) (.node (o122 P) (.node (o186 P) (.node (o427 P) .nil .nil) .nil) (.node (o316 P) .nil .nil)) (.node (o154 P) (.node (o284 P) .nil .nil) (.node (o348 P) .nil .nil)))) (.node (o61 P) (.node (o77 P) (.node (o111 P) (.node (o178 P) (.node (o419 P) .nil .nil) .nil) (.node (o308 P) .nil .nil)) (.node (o146 P) (.node (o276 P) .nil .nil) (.node (o340 P) .nil .nil))) (.node (o95 P) (.node (o130 P) (.node (o194 P) (.node (o435 P) .nil .nil) .nil) (.node (o324 P) .nil .nil)) (.node (o162 P) (.node (o292 P) .nil .nil) (.node (o403 P) .nil .nil))))) (.node (o45 P) (.node (o57 P) (.node (o73 P) (.node (o107 P) (.node (o174 P) (.node (o415 P) .nil .nil) .nil) (.node (o304 P) .nil .nil)) (.node (o142 P) (.node (o206 P) .nil .nil) (.node (o336 P) .nil .nil))) (.node (o91 P) (.node (o126 P) (.node (o190 P) (.node (o431 P) .nil .nil) .nil) (.node (o320 P) .nil .nil)) (.node (o158 P) (.node (o288 P) .nil .nil) (.node (o399 P) .nil .nil)))) (.node (o65 P) (.node (o81 P) (.node (o115 P) (.node (o182 P) (.node (o423 P) .nil .nil) .nil) (.node (o312 P) .nil .nil)) (.node (o150 P) (.node (o280 P) .nil .nil) (.node (o344 P) .nil .nil))) (.node (o99 P) (.node (o134 P) (.node (o198 P) (.node (o439 P) .nil .nil) .nil) (.node (o328 P) .nil .nil)) (.node (o166 P) (.node (o296 P) .nil .nil) (.node (o407 P) .nil .nil))))))) (.node (boot_o_2 P) (.node (boot_o_4 P) (.node (boot_o_8 P) (.node (o52 P) (.node (o68 P) (.node (o102 P) (.node (o169 P) (.node (o410 P) .nil .nil) .nil) (.node (o299 P) .nil .nil)) (.node (o137 P) (.node (o201 P) (.node (o442 P) .nil .nil) .nil) (.node (o331 P) .nil .nil))) (.node (o84 P) (.node (o119 P) (.node (o185 P) (.node (o426 P) .nil .nil) .nil) (.node (o315 P) .nil .nil)) (.node (o153 P) (.node (o283 P) .nil .nil) (.node (o347 P) .nil .nil)))) (.node (o60 P) (.node (o76 P) (.node (o110 P) (.node (o177 P) (.node (o418 P) .nil .nil) .nil) (.node (o307 P) .nil .nil)) (.node (o145 P) (.node (o275 P) .nil .nil) (.node (o339 P) .nil .nil))) (.node (o94 P) (.node (o129 P) (.node (o193 P) (.node (o434 P) .nil .nil) .nil) (.node (o323 P) .nil .nil)) (.node (o161 P) (.node (o291 P) .nil .nil) (.node (o402 P) .nil .nil))))) (.node (o397 P) (.node (o56 P) (.node (o72 P) (.node (o106 P) (.node (o173 P) (.node (o414 P) .nil .nil) .nil) (.node (o303 P) .nil .nil)) (.node (o141 P) (.node (o205 P) .nil .nil) (.node (o335 P) .nil .nil))) (.node (o90 P) (.node (o125 P) (.node (o189 P) (.node (o430 P) .nil .nil) .nil) (.node (o319 P) .nil .nil)) (.node (o157 P) (.node (o287 P) .nil .nil) (.node (o398 P) .nil .nil)))) (.node (o64 P) (.node (o80 P) (.node (o114 P) (.node (o181 P) (.node (o422 P) .nil .nil) .nil) (.node (o311 P) .nil .nil)) (.node (o149 P) (.node (o279 P) .nil .nil) (.node (o343 P) .nil .nil))) (.node (o98 P) (.node (o133 P) (.node (o197 P) (.node (o438 P) .nil .nil) .nil) (.node (o327 P) .nil .nil)) (.node (o165 P) (.node (o295 P) .nil .nil) (.node (o406 P) .nil .nil)))))) (.node (boot_o_6 P) (.node (boot_o_10 P) (.node (o54 P) (.node (o70 P) (.node (o104 P) (.node (o171 P) (.node (o412 P) .nil .nil) .nil) (.node (o301 P) .nil .nil)) (.node (o139 P) (.node (o203 P) (.node (o444 P) .nil .nil) .nil) (.node (o333 P) .nil .nil))) (.node (o88 P) (.node (o123 P) (.node (o187 P) (.node (o428 P) .nil .nil) .nil) (.node (o317 P) .nil .nil)) (.node (o155 P) (.node (o285 P) .nil .nil) (.node (o349 P) .nil .nil)))) (.node (o62 P) (.node (o78 P) (.node (o112 P) (.node (o179 P) (.node (o420 P) .nil .nil) .nil) (.node (o309 P) .nil .nil)) (.node (o147 P) (.node (o277 P) .nil .nil) (.node (o341 P) .nil .nil))) (.node (o96 P) (.node (o131 P) (.node (o195 P) (.node (o436 P) .nil .nil) .nil) (.node (o325 P) .nil .nil)) (.node (o163 P) (.node (o293 P) .nil .nil) (.node (o404 P) .nil .nil))))) (.node (o46 P) (.node (o58 P) (.node (o74 P) (.node (o108 P) (.node (o175 P) (.node (o416 P) .nil .nil) .nil) (.node (o305 P) .nil .nil)) (.node (o143 P) (.node (o207 P) .nil .nil) (.node (o337 P) .nil .nil))) (.node (o92 P) (.node (o127 P) (.node (o191 P) (.node (o432 P) .nil .nil) .nil) (.node (o321 P) .nil .nil)) (.node (o159 P) (.node (o289 P) .nil .nil) (.node (o400 P) .nil .nil)))) (.node (o66 P) (.node (o82 P) (.node (o117 P) (.node (o183 P) (.node (o424 P) .nil .nil) .nil) (.node (o313 P) .nil .nil)) (.node (o151 P) (.node (o281 P) .nil .nil) (.node (o345 P) .nil .nil))) (.node (o100 P) (.node (o135 P) (.node (o199 P) (.node (o440 P) .nil .nil) .nil) (.node (o329 P) .nil .nil)) (.node (o167 P) (.node (o297 P) .nil .nil) (.node (o408 P) .nil .nil))))))))
noncomputable def heapA (P : Params) : Heap := { objs := ⟨[boot_o_0 P, boot_o_1 P, boot_o_2 P, boot_o_3 P, boot_o_4 P, boot_o_5 P, boot_o_6 P, boot_o_7 P, boot_o_8 P, boot_o_9 P, boot_o_10 P, o43 P, o44 P, o45 P, o46 P]⟩ }
noncomputable def at0 (w : World) (os : OsState) : SharedT := ⟨tree47 w.params, 15, {}, ⟨[]⟩, {}, 187, os⟩
abbrev pos0 : Pos := zero
noncomputable def at1 (w : World) (os : OsState) : SharedT := ⟨tree85 w.params, 50, {}, ⟨[]⟩, {}, 245, os⟩
def pos1 : Pos := ⟨79, 0, 79, 8⟩
noncomputable def at2 (w : World) (os : OsState) : SharedT := ⟨tree115 w.params, 78, {}, ⟨[]⟩, {}, 290, os⟩
def pos2 : Pos := ⟨80, 0, 90, 16⟩
noncomputable def at3 (w : World) (os : OsState) : SharedT := ⟨tree119 w.params, 81, {}, ⟨[]⟩, {}, 314, os⟩
def pos3 : Pos := ⟨93, 0, 93, 8⟩
noncomputable def at4 (w : World) (os : OsState) : SharedT := ⟨tree208 w.params, 168, {}, ⟨[]⟩, {}, 425, os⟩
def pos4 : Pos := ⟨94, 0, 140, 16⟩
noncomputable def at5 (w : World) (os : OsState) : SharedT := ⟨tree350 w.params, 244, {}, ⟨[]⟩, {}, 520, os⟩
def pos5 : Pos := ⟨141, 0, 196, 18⟩
noncomputable def at6 (w : World) (os : OsState) : SharedT := ⟨tree445 w.params, 292, {}, ⟨[]⟩, {}, 596, os⟩
def pos6 : Pos := ⟨254, 0, 264, 40⟩
noncomputable def part0 : List Stmt := nth PR.main.body 0 :: nth PR.main.body 1 :: nth PR.main.body 2 :: nth PR.main.body 3 :: nth PR.main.body 4 :: nth PR.main.body 5 :: nth PR.main.body 6 :: []
noncomputable def part1 : List Stmt := nth PR.main.body 7 :: []
noncomputable def part2 : List Stmt := nth PR.main.body 8 :: nth PR.main.body 9 :: nth PR.main.body 10 :: []
noncomputable def part3 : List Stmt := nth PR.main.body 11 :: []
noncomputable def part4 : List Stmt := nth PR.main.body 12 :: []
noncomputable def part5 : List Stmt := nth PR.main.body 13 :: nth PR.main.body 14 :: nth PR.main.body 15 :: nth PR.main.body 16 :: nth PR.main.body 17 :: nth PR.main.body 18 :: nth PR.main.body 19 :: nth PR.main.body 20 :: nth PR.main.body 21 :: []
theorem partsAre : part0 ++ (part1 ++ (part2 ++ (part3 ++ (part4 ++ (part5 ++ []))))) = bodT := by kernel_rfl
noncomputable def stA (w : World) (os : OsState) : Shared := ⟨heapA w.params, ⟨[]⟩, {}, 187, os⟩
noncomputable def stB (w : World) (os : OsState) : Shared := ⟨boot_heap w.params, ⟨[]⟩, boot_drawn, boot_toks, os⟩
noncomputable def stat (P : Params) (s : Shared) : Bool := staticsOk (importedModules PR.main.body) (boot_heap P) s.heap && namesBound PR s.heap && gensDone s && laidKept (boot_heap P) s.heap
theorem openIs : ∀ w : World, (fencedOpening treeTable PR w 4872).map (fun s => (s.heap, s.gens, s.drawn, s.toks)) = some (boot_heap w.params, Array.mk [], boot_drawn, boot_toks) :=
  boot_open (by kernel_rfl) (by decide) (fun _ => by kernel_rfl)
theorem sizeIs (w : World) : ((boot_heap w.params).isNs mainGlobals && (Array.mk ([] : List GenState)).size == 0, (boot_heap w.params).objs.size, (boot_heap w.params).nsMap mainGlobals "__annotations__") = (true, 11, ann) := by
  rw [PySem.W.Fast.te8920871248978507458]; kernel_rfl
theorem preIs (w : World) (os : OsState) : topGo treeTable PR w 11 ann 12 (stB w os) (topStub PR) = some (stA w os, ⟨denote treeTable codT, codT, zero, [topFrame zero]⟩) := by
  rw [PySem.W.Fast.te15667345088766844465, PySem.W.Fast.te14364793385576792824, PySem.W.Fast.te11892475500146522536]; kernel_rfl
theorem blockIs (w : World) (os : OsState) : segRun treeTable PR w 11 ann 1 1 (stA w os) (blockOf bodT envT codT zero [topFrame zero]) = some (.next, (at0 w os).abs, codT, zero) := by
  rw [PySem.W.Fast.te14374325043358763698, PySem.W.Fast.te14364793385576792824]; kernel_rfl
theorem runs0 (w : World) (os : OsState) : segRunT treeTable PR w 11 ann 1 183 (at0 w os) (piecesOf part0 envT codT pos0 [topFrame zero]) = some (.next, at1 w os, codT, pos1) := by
  rw [PySem.W.Fast.te10110043849684766642, PySem.W.Fast.te14364793385576792824]; kernel_rfl
theorem runs1 (w : World) (os : OsState) : segRunT treeTable PR w 11 ann 1 263 (at1 w os) (piecesOf part1 envT codT pos1 [topFrame zero]) = some (.next, at2 w os, codT, pos2) := by
  rw [PySem.W.Fast.te10110043849684766642, PySem.W.Fast.te14364793385576792824]; kernel_rfl
theorem runs2 (w : World) (os : OsState) : segRunT treeTable PR w 11 ann 1 262 (at2 w os) (piecesOf part2 envT codT pos2 [topFrame zero]) = some (.next, at3 w os, codT, pos3) := by
  rw [PySem.W.Fast.te10110043849684766642, PySem.W.Fast.te14364793385576792824]; kernel_rfl
theorem runs3 (w : World) (os : OsState) : segRunT treeTable PR w 11 ann 1 641 (at3 w os) (piecesOf part3 envT codT pos3 [topFrame zero]) = some (.next, at4 w os, codT, pos4) := by
  rw [PySem.W.Fast.te10110043849684766642, PySem.W.Fast.te14364793385576792824]; kernel_rfl
theorem runs4 (w : World) (os : OsState) : segRunT treeTable PR w 11 ann 1 786 (at4 w os) (piecesOf part4 envT codT pos4 [topFrame zero]) = some (.next, at5 w os, codT, pos5) := by
  rw [PySem.W.Fast.te10110043849684766642, PySem.W.Fast.te14364793385576792824]; kernel_rfl
theorem runs5 (w : World) (os : OsState) : segRunT treeTable PR w 11 ann 1 244 (at5 w os) (piecesOf part5 envT codT pos5 [topFrame zero]) = some (.next, at6 w os, codT, pos6) := by
  rw [PySem.W.Fast.te10110043849684766642, PySem.W.Fast.te14364793385576792824]; kernel_rfl
theorem statIs (w : World) (os : OsState) : stat w.params (at6 w os).abs = true := by
  unfold stat
  rw [PySem.W.Fast.te5923862056798008813]; kernel_rfl
theorem seenIs (w : World) (os : OsState) : openSeen vq loose (importedModules PR.main.body) Xt true (at6 w os).abs = openGood vq loose := by
  rw [PySem.W.Fast.te5923862056798008813, PySem.W.Fast.te4187177175401517315]; kernel_rfl
theorem obsIs (w : World) (os : OsState) : hook.obs (at6 w os).abs = hook.val w := by kernel_rfl
theorem finIs (w : World) (s : Shared) : topRun treeTable PR w 11 ann 2 s ⟨doneF .next, codT, pos6, [topFrame zero]⟩ = some s := by
  obtain ⟨h, g, d, k, os⟩ := s
  kernel_rfl
theorem topIs (w : World) (os : OsState) : topRun treeTable PR w 11 ann (12 + (1 + (183 + (263 + (262 + (641 + (786 + (244 + 2)))))))) (stB w os) (topStub PR) = some (at6 w os).abs := by
  refine go_top (preIs w os) (piece_block (blockIs w os) ?_)
  rw [← partsAre]
  exact piece_app (segRun_of (runs0 w os)) (piece_app (segRun_of (runs1 w os)) (piece_app (segRun_of (runs2 w os)) (piece_app (segRun_of (runs3 w os)) (piece_app (segRun_of (runs4 w os)) (piece_app (segRun_of (runs5 w os)) (piece_nil (finIs w (at6 w os).abs)))))))
theorem left_of {p q : Program} {loose : List Str} {Xt : Shared → Bool} {α : Type} {Yf : Shared → α} {Ya : World → α} {N M : Nat} {g0 : Bool} {H₀ : World → Heap} {gs : Array GenState} {d : Drawn} {k m : Nat} {ann : Option Value} {e : World → OsState → Shared}
    (o : ∀ w : World, (fencedOpening treeTable p w N).map (fun s => (s.heap, s.gens, s.drawn, s.toks)) = some (H₀ w, gs, d, k))
    (z : ∀ w : World, ((H₀ w).isNs mainGlobals && gs.size == 0, (H₀ w).objs.size, (H₀ w).nsMap mainGlobals "__annotations__") = (true, m, ann)) (le : Nat.ble M N = true)
    (r : ∀ (w : World) (os : OsState), topRun treeTable p w m ann M ⟨H₀ w, gs, d, k, os⟩ (topStub p) = some (e w os))
    (y1 : ∀ (w : World) (os : OsState), (staticsOk (importedModules p.main.body) (H₀ w) (e w os).heap && namesBound p (e w os).heap && gensDone (e w os) && laidKept (H₀ w) (e w os).heap) = true)
    (y2 : ∀ (w : World) (os : OsState), openSeen q loose (importedModules p.main.body) Xt g0 (e w os) = openGood q loose)
    (y3 : ∀ (w : World) (os : OsState), Yf (e w os) = Ya w) : LeftO p q loose Xt Yf Ya N g0 := by
  intro w
  obtain ⟨t, ht, q⟩ := Option.map_eq_some_iff.mp (o w)
  obtain ⟨h, g, d', k', os⟩ := t
  cases q
  have z1 := congrArg Prod.fst (z w)
  have z2 := congrArg (fun x => x.2.1) (z w)
  have z3 := congrArg (fun x => x.2.2) (z w)
  have run := topRun_mono (N - M) _ _ _ _ (r w os)
  rw [Nat.add_sub_cancel' (Nat.le_of_ble_eq_true le)] at run
  dsimp only at z1 z2 z3
  simp only [openEnds, ht, Option.bind_some, topFrom, z1, z2, z3, run, y1 w os, Option.map_some]
  rw [y2 w os, y3 w os]
theorem leftIs : LeftO PR vq loose Xt hook.obs hook.val 4872 := left_of (e := fun w os => (at6 w os).abs) openIs sizeIs (by decide) topIs statIs seenIs obsIs
theorem said1 : noRoadLSs { strict := !(importedModules PR.main.body).all cThrough.contains, foot := none, bare := List.filter (readsOut PR PR.main.body) [Str.ofString "vars", Str.ofString "dir", Str.ofString "locals"] } PR.main.body = true := by
  rw [PySem.W.Fast.te8326940854005059898, PySem.W.Fast.te5923862056798008813, PySem.W.Fast.te13343964577679436407]; kernel_rfl
theorem said2 : (namesMeet PR PR.main.body fun _ n => attrL n) = true := by
  rw [PySem.W.Fast.te17119622794617984870, PySem.W.Fast.te17868728402115742887]; kernel_rfl
theorem said3 : namesResolve PR = true := by
  rw [PySem.W.Fast.te8377067652309620493]; kernel_rfl
theorem said4 : (namesMeet PR PySem.Challenge.rw_ji0039_01.above fun _ n => !PySem.Challenge.rw_ji0039_01.own.contains n) = true := by
  rw [PySem.W.Fast.te17119622794617984870, PySem.W.Fast.te10792542408131684335]; kernel_rfl
theorem said5 : sreFenced PR.main = true := by
  rw [PySem.W.Fast.te11788848310118352699]; kernel_rfl
theorem said6 : (PR.boundNames.all fun n => !worldNames.contains n) = true := by
  rw [PySem.W.Fast.te18344453789297297638, PySem.W.Fast.te14412699480532031325]; kernel_rfl
theorem looksIs : looksOpen PR = true := by
  unfold looksOpen
  refine look_both (look_both (look_both (look_both (look_both said5 ?_) said3) said6) said1) said2
  rw [PySem.W.Fast.te9807087744658564304, PySem.W.Fast.te12862048085361865435]; kernel_rfl
theorem partIs : OpenRow.partSaid PySem.Challenge.rw_ji0039_01.row = true := by
  unfold OpenRow.partSaid
  refine look_both (look_both (look_both (look_both (look_both (look_both (look_both (look_both (look_both (look_both (look_both (look_both (look_both looksIs ?_) ?_) ?_) ?_) ?_) ?_) ?_) ?_) ?_) ?_) ?_) ?_) ?_
  all_goals kernel_rfl
theorem rowIs : OpenRow.wellSaid PySem.Challenge.rw_ji0039_01.row = true := by
  unfold OpenRow.wellSaid
  refine look_both (look_both partIs ?_) ?_
  · rw [PySem.W.Fast.te18344453789297297638]; kernel_rfl
  · rw [PySem.W.Fast.te12749700546528644094]; kernel_rfl
theorem said7 : noRoadLSs { strict := true, foot := some PySem.Challenge.rw_ji0039_01.bound', writes := PySem.Challenge.rw_ji0039_01.writes, may := PySem.Challenge.rw_ji0039_01.may } PySem.Challenge.rw_ji0039_01.footing = true := by
  rw [PySem.W.Fast.te8326940854005059898, PySem.W.Fast.te797321630700447069, PySem.W.Fast.te9572597257264208301]; kernel_rfl
theorem said8 : (namesMeet PR PySem.Challenge.rw_ji0039_01.footing fun sc n =>
    (![Str.ofString "type", Str.ofString "isinstance", Str.ofString "issubclass", Str.ofString "getattr", Str.ofString "hasattr"].contains n || List.lookup n sc.names == some NameKind.globalImplicit) &&
      (PySem.Challenge.rw_ji0039_01.may != some n || sc.kind == ScopeKind.module || List.lookup n sc.names == some NameKind.globalImplicit)) = true := by
  rw [PySem.W.Fast.te17119622794617984870, PySem.W.Fast.te9572597257264208301]; kernel_rfl
theorem saidIs : OpenLaw.wellSaid PySem.Challenge.rw_ji0039_01 = true := by
  unfold OpenLaw.wellSaid
  refine look_both (look_both (look_both (look_both (look_both (look_both (look_both (look_both (look_both (look_both (look_both (look_both (look_both (look_both (look_both (look_both (look_both (look_both rowIs ?a2) ?a3) ?a4) ?a5) ?a6) said7) ?a8) ?a9) ?a10) ?a11) ?a12) ?a13) said8) ?a15) ?a16) ?a17) said4) ?a19
  case a2 => kernel_rfl
  case a3 => (rw [PySem.W.Fast.te10501279942588096481]); kernel_rfl
  case a4 => (rw [PySem.W.Fast.te8179353310426384613]); kernel_rfl
  case a5 => kernel_rfl
  case a6 => kernel_rfl
  case a8 => (rw [PySem.W.Fast.te9558739934217749035]); kernel_rfl
  case a9 => (rw [PySem.W.Fast.te16286561074155671207]); kernel_rfl
  case a10 => kernel_rfl
  case a11 => (rw [PySem.W.Fast.te797321630700447069, PySem.W.Fast.te6984425678791042302]); kernel_rfl
  case a12 => (rw [PySem.W.Fast.te17095254045102204799, PySem.W.Fast.te12879404354523853263, PySem.W.Fast.te6984425678791042302]); kernel_rfl
  case a13 => (rw [PySem.W.Fast.te17095254045102204799, PySem.W.Fast.te12879404354523853263, PySem.W.Fast.te6984425678791042302, PySem.W.Fast.te482687673346738481]); kernel_rfl
  case a15 => (rw [PySem.W.Fast.te3471404346716756564, PySem.W.Fast.te10792542408131684335]); kernel_rfl
  case a16 => (rw [PySem.W.Fast.te10792542408131684335, PySem.W.Fast.te7723801398212525404]); kernel_rfl
  case a17 => (rw [PySem.W.Fast.te10792542408131684335]); kernel_rfl
  case a19 => (rw [PySem.W.Fast.te17119622794617984870]); kernel_rfl
theorem promIs : PySem.Challenge.rw_ji0039_01.row.toRowW.promised := by w_witness2
noncomputable def lawRec : DefRec := by
  refine' (?f : ∀ (d : DefRec) (k : List (Str × PySem.Expr)), defOf vq PySem.Challenge.rw_ji0039_01.row.name = some (d, k) → DefRec) _ _ ?h
  case f => exact fun d _ _ => d
  case h => exact rfl
set_option maxHeartbeats 8000000 in
theorem hd (walk : WalkO vq loose (XL vq []) (kmHook K as asIs [288]).says PySem.Challenge.rw_ji0039_01.row.toRowW lawRec [] (fun f vs => call f vs)) : PySem.Challenge.rw_ji0039_01.Holds := by
  refine holds_law saidIs fun said => ?_
  exact holds_open (q := vq) (loose := loose) (Xt := Xt) (XP := XL vq []) (Yf := hook.obs) (Ya := hook.val) (YP := hook.says) (N := 4872) leftIs hook.of hook.keeps
    (fun s e => xl_of s (Bool.and_eq_true_iff.mp e).1) XL.keeps (by kernel_rfl) (by kernel_rfl) (by kernel_rfl) (fun s e => recFacts_of (Bool.and_eq_true_iff.mp e).2) (by kernel_rfl) said (by decide +kernel) ⟨rfl, rfl, rfl, rfl, rfl, by decide +kernel⟩ promIs walk
end Mine
end
section
open PySem PySem.W PyProof.Rows PySem.Calls
set_option Elab.async false
set_option maxRecDepth 100000
namespace Mine
abbrev Led := List (Addr × Obj)
abbrev Row := Array UInt8

/-- the walk stops where it stands -/
structure Stop (P : Prop) : Prop where
  out : P

def kindT : List Str := [Str.ofString "unchanged", Str.ofString "a", Str.ofString "b", Str.ofString "same", Str.ofString "conflict"]
def rowsT : List (List Row) := [[], [#[112, 10]], [#[113, 10], #[112, 10]], [#[114]], [#[60, 60, 60, 60, 60, 60, 60, 32, 111, 117, 114, 115, 33, 10]], [#[112, 10], #[10], #[113]]]
def rowsL (k : Int) : List Row := rowsT.getD k.toNat []
def bD (bs : List Row) : Dat := .list (bs.map Dat.bytes)
inductive Grp where
  | two (k : Str) (a : List Row)
  | four (k : Str) (a b c : List Row)
def Grp.dat : Grp → Dat
  | .two k a => .tuple [.str k, bD a]
  | .four k a b c => .tuple [.str k, bD a, bD b, bD c]
def kindOf (n : Int) : Str := kindT.getD (Int.fmod n 5).toNat PySem.Str.empty
def grp (n : Int) : Grp := if kindOf n = Str.ofString "conflict" then .four (kindOf n) (rowsL ((n.fdiv 5).fmod 6)) (rowsL ((n.fdiv 30).fmod 6)) (rowsL ((n.fdiv 180).fmod 6)) else .two (kindOf n) (rowsL ((n.fdiv 5).fmod 6))
def grpD (n : Int) : Dat := (grp n).dat
def picks (ns : List Int) : List Int := List.take (min 15 ns.length - 3) (List.drop 3 ns)

structure LL (a : Addr) (k : Int) : Prop where
  is : a = 245 + k.toNat
  lo : 0 ≤ k
  hi : k < 6
theorem rows_size (k : Int) : (rowsL k).length ≤ 3 := by
  unfold rowsL
  have h : ∀ l ∈ rowsT, l.length ≤ 3 := by decide
  by_cases hk : k.toNat < rowsT.length
  · rw [List.getD_eq_getElem?_getD, List.getElem?_eq_getElem hk]
    exact h _ (List.getElem_mem hk)
  · rw [List.getD_eq_getElem?_getD, List.getElem?_eq_none (by omega)]
    simp

section
variable {prog : Program} {w : World} {A : Around} {E : Value → Shared → Prop} {s : Shared} {h₀ : Heap} {L : Addr} {m : Str → Option Value} {news : Led} {Q : Value → Shared → Prop}

theorem cases6 {k : Int} (h0 : 0 ≤ k) (h1 : k < 6) {P : Int → Prop} (h : P 0 ∧ P 1 ∧ P 2 ∧ P 3 ∧ P 4 ∧ P 5) : P k := by
  obtain ⟨a, b, c, d, e, f⟩ := h
  have : k = 0 ∨ k = 1 ∨ k = 2 ∨ k = 3 ∨ k = 4 ∨ k = 5 := by omega
  rcases this with rfl | rfl | rfl | rfl | rfl | rfl <;> assumption

theorem item_lists {value slice : PySem.Expr} {k : Int} {u : Tok} (F : Fr h₀ L s.heap m) (X₀ : (Mine.K w.params).In h₀) (h0 : 0 ≤ k) (h1 : k < 6) (h : ∀ a, LL a k → Q (.ref a) s)
    (hs : subscripted slice false (.ref 251) (.int k u) = operate [.ref 251, .int k u] (getItem (.ref 251) (.int k u)) := by with_unfolding_all rfl) :
    wpAny (model prog w) A (subscriptTail value slice (.ref 251) (.int k u)) Q E s := by
  have hL : h₀.IsList 251 ([.ref 245, .ref 246, .ref 247, .ref 248, .ref 249, .ref 250] : List Value).toArray := lstK X₀ (n := 0) (dd := none) (sl := #[]) (by kernel_rfl)
  have hL' := hL.at fun o e => F.keep 251 o e
  have hx : ([.ref 245, .ref 246, .ref 247, .ref 248, .ref 249, .ref 250] : List Value).toArray[k.toNat]? = some (.ref (245 + k.toNat)) := by
    refine cases6 (P := fun k => ([.ref 245, .ref 246, .ref 247, .ref 248, .ref 249, .ref 250] : List Value).toArray[k.toNat]? = some (.ref (245 + k.toNat))) h0 h1 ?_
    refine ⟨rfl, rfl, rfl, rfl, rfl, rfl⟩
  exact tail_any hL'.typeIs slot_list_getitem.lookup (wpAny_getItem_list hL' h0 (by omega) hx (h _ ⟨rfl, h0, h1⟩)) hs

inductive BytesAre : List Value → List Row → Prop
  | nil : BytesAre [] []
  | cons (b : Row) (t : Tok) {vs : List Value} {bs : List Row} : BytesAre vs bs → BytesAre (.bytes b t :: vs) (b :: bs)
theorem BytesAre.dat {vs : List Value} {bs : List Row} (h : BytesAre vs bs) (L9 : Led) : DatAll L9 vs (bs.map Dat.bytes) := by
  induction h with
  | nil => exact .nil
  | cons b t _ ih => exact .cons (.bytes b t) ih
theorem BytesAre.of {L9 : Led} {vs : List Value} {bs : List Row} (h : DatAll L9 vs (bs.map Dat.bytes)) : BytesAre vs bs := by
  induction bs generalizing vs with
  | nil => cases h; exact .nil
  | cons b bs ih =>
    cases h with
    | cons h r => cases h; exact .cons _ _ (ih r)
theorem BytesAre.length {vs : List Value} {bs : List Row} (h : BytesAre vs bs) : vs.length = bs.length := by
  induction h with
  | nil => rfl
  | cons b t _ ih => simp [ih]

theorem list_at {k : Int} {a : Addr} (X₀ : (Mine.K w.params).In h₀) (ha : LL a k) : ∃ vs, h₀.IsList a vs.toArray ∧ BytesAre vs (rowsL k) := by
  obtain ⟨rfl, h0, h1⟩ := ha
  refine cases6 (P := fun k => ∃ vs, h₀.IsList (245 + k.toNat) (List.toArray vs) ∧ BytesAre vs (rowsL k)) h0 h1 ?_
  refine ⟨⟨[], lstK X₀ (n := 0) (dd := none) (sl := #[]) (by kernel_rfl), .nil⟩, ⟨_, lstK X₀ (n := 0) (dd := none) (sl := #[]) (l := [Value.bytes #[112, 10] 529]) (by kernel_rfl), .cons _ _ .nil⟩, ⟨_, lstK X₀ (n := 0) (dd := none) (sl := #[]) (l := [Value.bytes #[113, 10] 530, Value.bytes #[112, 10] 531]) (by kernel_rfl), .cons _ _ (.cons _ _ .nil)⟩,
    ⟨_, lstK X₀ (n := 0) (dd := none) (sl := #[]) (l := [Value.bytes #[114] 532]) (by kernel_rfl), .cons _ _ .nil⟩, ⟨_, lstK X₀ (n := 0) (dd := none) (sl := #[]) (l := [Value.bytes #[60, 60, 60, 60, 60, 60, 60, 32, 111, 117, 114, 115, 33, 10] 533]) (by kernel_rfl), .cons _ _ .nil⟩,
    ⟨_, lstK X₀ (n := 0) (dd := none) (sl := #[]) (l := [Value.bytes #[112, 10] 534, Value.bytes #[10] 535, Value.bytes #[113] 536]) (by kernel_rfl), .cons _ _ (.cons _ _ (.cons _ _ .nil))⟩⟩

theorem list_lists {k : Int} {a : Addr} (F : Fr h₀ L s.heap m) (X₀ : (Mine.K w.params).In h₀) (N : News h₀ L s.heap news) (ha : LL a k)
    (h : ∀ D c vs h', Fr h₀ L h' m → News h₀ L h' ((D, listOf (List.toArray vs) c) :: news) → (∀ q ∈ news, q.1 < D) → DatAll [] vs ((rowsL k).map Dat.bytes) → Q (.ref D) { s with heap := h' }) :
    wpAny (model prog w) A (call (.type "list") [.ref a]) Q E s := by
  obtain ⟨vs, hl, hb⟩ := list_at X₀ ha
  refine list_copyK F N (hl.at fun o e => F.keep _ o e) (fun D c h' F' N' l1 => h D c vs h' F' N' l1 (hb.dat [])) ?_
  rw [List.size_toArray, hb.length, sizeLine_eq]
  have := rows_size k
  omega
end
end Mine
end
section
open PySem PySem.W PyProof.Rows PySem.Calls
set_option Elab.async false
set_option maxRecDepth 100000
namespace Mine
abbrev BSt := List Value × List Dat × Nat
def BFacts (k : Nat) (L9 : Led) (c : BSt) : Prop := DatAll (L9.drop k) c.1 c.2.1
abbrev BuildS (g l : Addr) (ws : List Value) (nn : Nat) (news : Led) (f : Int → Dat) (x : Str) (stored : List Str) (m₀ : Str → Option Value) : List Int → (Str → Option Value) → Led → Prop :=
  KdS (fun c : BSt => [(g, listOf c.1.toArray c.2.2)]) ((l, listOf ws.toArray nn) :: news) (fun _ => []) (BFacts (news.length + 1)) x stored m₀ (fun pre c => c.2.1 = pre.map f) (g :: l :: news.map (·.1))

theorem bfacts {l : Addr} {o : Obj} {news tl : Led} {gs : List Value} {ds : List Dat} {n : Nat} : BFacts (news.length + 1) (((l, o) :: news) ++ tl) (gs, ds, n) ↔ DatAll tl gs ds := by
  unfold BFacts
  have e : List.drop (news.length + 1) (((l, o) :: news) ++ tl) = tl := by
    rw [List.cons_append, List.drop_succ_cons, List.drop_left]
  rw [e]

section
variable {prog : Program} {w : World} {A : Around} {E : Value → Shared → Prop} {s : Shared} {env : Env} {h₀ : Heap} {x : Str} {body : List Stmt} {Q : Flow → Shared → Prop}
theorem build_list {l g : Addr} {ws : List Value} {ns : List Int} {nn c₀ : Nat} {m₀ : Str → Option Value} {news : Led} (f : Int → Dat) (stored : List Str)
    (hh : A.handled = none) (hi : IntsAre ws ns) (F : Fr h₀ env.locals s.heap m₀) (N : News h₀ env.locals s.heap ((l, listOf ws.toArray nn) :: (g, listOf #[] c₀) :: news))
    (turn : ∀ gs c tl pre post n t (u : Str → Option Value) h tk own, ns = pre ++ n :: post → KdSep own tl (g :: l :: news.map (·.1)) → OwnOff (tl ++ own) (g :: l :: news.map (·.1)) → DatAll tl gs (pre.map f) →
      Fr h₀ env.locals h (fun y => if y = x then some (.int n t) else if stored.contains y then u y else m₀ y) → News h₀ env.locals h ((g, listOf gs.toArray c) :: (l, listOf ws.toArray nn) :: (news ++ (tl ++ own))) →
      wpAny (model prog w) A (execs body env) (InvPostG h₀ env.locals (BuildS g l ws nn news f x stored m₀ (pre ++ [n])) own { s with heap := h, toks := tk } Q) E { s with heap := h, toks := tk })
    (done : ∀ gs c tl (u : Str → Option Value) h tk, OwnOff tl (g :: l :: news.map (·.1)) → DatAll tl gs (ns.map f) →
      Fr h₀ env.locals h (fun y => if y = x then u y else if stored.contains y then u y else m₀ y) → News h₀ env.locals h ((g, listOf gs.toArray c) :: (l, listOf ws.toArray nn) :: (news ++ tl)) → Q .next { s with heap := h, toks := tk }) :
    wpAny (model prog w) A (pyIter (.ref l)) (fun it s₂ => LoopAtV prog w A h₀ env x body Q E it s₂) E s := by
  refine kd_listI (nn := nn) (fun c : BSt => [(g, listOf c.1.toArray c.2.2)]) ((l, listOf ws.toArray nn) :: news) (fun _ => []) (BFacts (news.length + 1)) stored (fun pre c => c.2.1 = pre.map f) (g :: l :: news.map (·.1)) ([], [], c₀)
    hh (.head _) hi F N ?_ (fun _ => rfl) ?_ (fun _ hp => nomatch hp) rfl ?_ ?_
  · intro p hp
    rw [List.append_nil] at hp
    rcases List.mem_append.mp hp with hp | hp
    · exact .tail _ (by rw [List.mem_singleton.mp hp]; exact .head _)
    · rcases List.mem_cons.mp hp with rfl | hp
      · exact .head _
      · exact .tail _ (.tail _ hp)
  · exact bfacts.mpr .nil
  · rintro ⟨gs, ds, c⟩ tl pre post n t u h tk own e _ S O hF hP F₁ N₁
    cases hP
    exact turn gs c tl pre post n t u h tk own e S O (bfacts.mp hF) F₁ N₁
  · rintro ⟨gs, ds, c⟩ tl u h tk O hF hP F₁ N₁
    cases hP
    exact done gs c tl u h tk O (bfacts.mp hF) F₁ N₁

theorem build_end {g l L : Addr} {ws gs : List Value} {nn c' : Nat} {news tl own news' : Led} (add : Led) {f : Int → Dat} {stored : List Str} {m₀ m' : Str → Option Value} {v : Value} {pre : List Int} {n : Int} {s₁ : Shared} {h' : Heap} {tk : Nat}
    (S : KdSep own tl (g :: l :: news.map (·.1))) (hd : DatAll tl gs (pre.map f)) (F : Fr h₀ L h' m') (N : News h₀ L h' news')
    (hg : (g, listOf (gs ++ [v]).toArray c') ∈ news') (hn : ∀ p ∈ (l, listOf ws.toArray nn) :: (news ++ (add ++ tl)), p ∈ news') (ho : ∀ p ∈ own, p ∈ news')
    (hb : ∀ q ∈ add, ∀ b ∈ g :: l :: news.map (·.1), b ≠ q.1) (hw : ∀ q ∈ add, ∀ p ∈ own, p.1 ≠ q.1) (hv : DatIn add v (f n))
    (hr : ∀ z, z ≠ x → (∀ p ∈ ([] : List (Str × Value)), z ≠ p.1) → stored.contains z = false → m' z = m₀ z) :
    InvEndG h₀ L (BuildS g l ws nn news f x stored m₀ (pre ++ [n])) own s₁ { s₁ with heap := h', toks := tk } := by
  refine kd_end (tl := tl) ((gs ++ [v], pre.map f ++ [f n], c') : BSt) add S F N ?_ ho rfl hb hw (fun _ hp => nomatch hp) hr ?_ ?_
  · intro p hp
    rcases List.mem_append.mp hp with hp | hp
    · rw [List.mem_singleton.mp hp]; exact hg
    · exact hn p hp
  · exact bfacts.mpr ((hd.mono fun p hp => List.mem_append.mpr (.inr hp)).append (.one (hv.mono fun p hp => List.mem_append.mpr (.inl hp))))
  · simp
end

theorem dat0 {L9 : Led} {vs : List Value} {ds : List Dat} (h : DatAll [] vs ds) : DatAll L9 vs ds := DatAll.mono (news := []) (fun _ hp => nomatch hp) h
theorem grp_two {L9 : Led} {D a : Addr} {n : Int} {t : Tok} {vs : List Value} {c : Nat} (hk : (kindOf n == Str.ofString "conflict") = false)
    (h1 : (D, ({ cls := .type "tuple", data := .seq #[.str (kindOf n) t, .ref a] } : Obj)) ∈ L9) (h2 : (a, listOf vs.toArray c) ∈ L9) (h3 : DatAll [] vs ((rowsL ((n.fdiv 5).fmod 6)).map Dat.bytes)) : DatIn L9 (.ref D) (grpD n) := by
  have e : grpD n = .tuple [.str (kindOf n), bD (rowsL ((n.fdiv 5).fmod 6))] := by
    unfold grpD grp
    rw [if_neg (by simpa using hk)]
    rfl
  rw [e]
  exact .tuple h1 (.cons (.str _ _) (.cons (.list h2 (dat0 h3)) .nil))
theorem grp_four {L9 : Led} {D a1 a2 a3 : Addr} {n : Int} {t : Tok} {v1 v2 v3 : List Value} {c1 c2 c3 : Nat} (hk : (kindOf n == Str.ofString "conflict") = true)
    (h1 : (D, ({ cls := .type "tuple", data := .seq #[.str (kindOf n) t, .ref a1, .ref a2, .ref a3] } : Obj)) ∈ L9) (h2 : (a1, listOf v1.toArray c1) ∈ L9) (h3 : DatAll [] v1 ((rowsL ((n.fdiv 5).fmod 6)).map Dat.bytes))
    (h4 : (a2, listOf v2.toArray c2) ∈ L9) (h5 : DatAll [] v2 ((rowsL ((n.fdiv 30).fmod 6)).map Dat.bytes)) (h6 : (a3, listOf v3.toArray c3) ∈ L9) (h7 : DatAll [] v3 ((rowsL ((n.fdiv 180).fmod 6)).map Dat.bytes)) : DatIn L9 (.ref D) (grpD n) := by
  have e : grpD n = .tuple [.str (kindOf n), bD (rowsL ((n.fdiv 5).fmod 6)), bD (rowsL ((n.fdiv 30).fmod 6)), bD (rowsL ((n.fdiv 180).fmod 6))] := by
    unfold grpD grp
    rw [if_pos (by simpa using hk)]
    rfl
  rw [e]
  exact .tuple h1 (.cons (.str _ _) (.cons (.list h2 (dat0 h3)) (.cons (.list h4 (dat0 h5)) (.cons (.list h6 (dat0 h7)) .nil))))

section
variable {h₀ : Heap} {x : Str}
theorem mem_gap {a b c d : Led} {p : Addr × Obj} (h : p ∈ a ++ b) : p ∈ a ++ (b ++ c) := by
  rcases List.mem_append.mp h with h | h
  · exact List.mem_append.mpr (.inl h)
  · exact List.mem_append.mpr (.inr (List.mem_append.mpr (.inl h)))
theorem end_two {g l L D a k : Addr} {ws gs vs : List Value} {nn c1 c' : Nat} {ko : Obj} {news tl own : Led} {stored : List Str} {m₀ m' : Str → Option Value} {pre : List Int} {n : Int} {t : Tok} {s₁ : Shared} {h' : Heap} {tk : Nat}
    (S : KdSep own tl (g :: l :: news.map (·.1))) (hd : DatAll tl gs (pre.map grpD)) (F : Fr h₀ L h' m')
    (N : News h₀ L h' ((D, ({ cls := .type "tuple", data := .seq #[.str (kindOf n) t, .ref a] } : Obj)) :: (a, listOf vs.toArray c1) :: (k, ko) :: (g, listOf (gs.toArray.push (.ref D)) c') :: (l, listOf ws.toArray nn) :: (news ++ (tl ++ own))))
    (l1 : a < D ∧ k < D ∧ g < D ∧ l < D ∧ AllLt D (news ++ (tl ++ own))) (l2 : k < a ∧ g < a ∧ l < a ∧ AllLt a (news ++ (tl ++ own)))
    (hk : (kindOf n == Str.ofString "conflict") = false) (h3 : DatAll [] vs ((rowsL ((n.fdiv 5).fmod 6)).map Dat.bytes))
    (hr : ∀ z, z ≠ x → (∀ p ∈ ([] : List (Str × Value)), z ≠ p.1) → stored.contains z = false → m' z = m₀ z) :
    InvEndG h₀ L (BuildS g l ws nn news grpD x stored m₀ (pre ++ [n])) own s₁ { s₁ with heap := h', toks := tk } := by
  have q1 := tb_ltOf l1.2.2.2.2
  have q2 := tb_ltOf l2.2.2.2
  refine build_end [(D, ({ cls := .type "tuple", data := .seq #[.str (kindOf n) t, .ref a] } : Obj)), (a, listOf vs.toArray c1)] S hd F N (c' := c') (by simp) ?_ ?_ ?_ ?_ (grp_two hk (.head _) (.tail _ (.head _)) h3) hr
  · intro p hp
    simp only [List.mem_cons, List.mem_append, List.cons_append, List.nil_append] at hp ⊢
    grind
  · intro p hp
    simp only [List.mem_cons, List.mem_append] at hp ⊢
    grind
  · intro q hq b hb
    have hlt : g < q.1 ∧ l < q.1 ∧ ∀ p ∈ news ++ (tl ++ own), p.1 < q.1 := by
      rcases List.mem_cons.mp hq with rfl | hq
      · exact ⟨l1.2.2.1, l1.2.2.2.1, q1⟩
      · rw [List.mem_singleton.mp hq]; exact ⟨l2.2.1, l2.2.2.1, q2⟩
    rcases List.mem_cons.mp hb with rfl | hb
    · exact Nat.ne_of_lt hlt.1
    · rcases List.mem_cons.mp hb with rfl | hb
      · exact Nat.ne_of_lt hlt.2.1
      · obtain ⟨p, hp, rfl⟩ := List.mem_map.mp hb
        exact Nat.ne_of_lt (hlt.2.2 p (List.mem_append.mpr (.inl hp)))
  · intro q hq p hp
    have hp' : p ∈ news ++ (tl ++ own) := List.mem_append.mpr (.inr (List.mem_append.mpr (.inr hp)))
    rcases List.mem_cons.mp hq with rfl | hq
    · exact Nat.ne_of_lt (q1 p hp')
    · rw [List.mem_singleton.mp hq]; exact Nat.ne_of_lt (q2 p hp')
theorem end_four {g l L D a1 a2 a3 k : Addr} {ws gs v1 v2 v3 : List Value} {nn c1 c2 c3 c' : Nat} {ko : Obj} {news tl own : Led} {stored : List Str} {m₀ m' : Str → Option Value} {pre : List Int} {n : Int} {t : Tok} {s₁ : Shared} {h' : Heap} {tk : Nat}
    (S : KdSep own tl (g :: l :: news.map (·.1))) (hd : DatAll tl gs (pre.map grpD)) (F : Fr h₀ L h' m')
    (N : News h₀ L h' ((D, ({ cls := .type "tuple", data := .seq #[.str (kindOf n) t, .ref a1, .ref a2, .ref a3] } : Obj)) :: (a3, listOf v3.toArray c3) :: (a2, listOf v2.toArray c2) :: (a1, listOf v1.toArray c1) :: (k, ko) :: (g, listOf (gs.toArray.push (.ref D)) c') :: (l, listOf ws.toArray nn) :: (news ++ (tl ++ own))))
    (l0 : a3 < D ∧ a2 < D ∧ a1 < D ∧ k < D ∧ g < D ∧ l < D ∧ AllLt D (news ++ (tl ++ own))) (l3 : a2 < a3 ∧ a1 < a3 ∧ k < a3 ∧ g < a3 ∧ l < a3 ∧ AllLt a3 (news ++ (tl ++ own)))
    (l2 : a1 < a2 ∧ k < a2 ∧ g < a2 ∧ l < a2 ∧ AllLt a2 (news ++ (tl ++ own))) (l1 : k < a1 ∧ g < a1 ∧ l < a1 ∧ AllLt a1 (news ++ (tl ++ own)))
    (hk : (kindOf n == Str.ofString "conflict") = true) (h1 : DatAll [] v1 ((rowsL ((n.fdiv 5).fmod 6)).map Dat.bytes)) (h2 : DatAll [] v2 ((rowsL ((n.fdiv 30).fmod 6)).map Dat.bytes)) (h3 : DatAll [] v3 ((rowsL ((n.fdiv 180).fmod 6)).map Dat.bytes))
    (hr : ∀ z, z ≠ x → (∀ p ∈ ([] : List (Str × Value)), z ≠ p.1) → stored.contains z = false → m' z = m₀ z) :
    InvEndG h₀ L (BuildS g l ws nn news grpD x stored m₀ (pre ++ [n])) own s₁ { s₁ with heap := h', toks := tk } := by
  have q0 := tb_ltOf l0.2.2.2.2.2.2
  have q3 := tb_ltOf l3.2.2.2.2.2
  have q2 := tb_ltOf l2.2.2.2.2
  have q1 := tb_ltOf l1.2.2.2
  have key : ∀ q ∈ ([(D, ({ cls := .type "tuple", data := .seq #[.str (kindOf n) t, .ref a1, .ref a2, .ref a3] } : Obj)), (a3, listOf v3.toArray c3), (a2, listOf v2.toArray c2), (a1, listOf v1.toArray c1)] : Led), g < q.1 ∧ l < q.1 ∧ ∀ p ∈ news ++ (tl ++ own), p.1 < q.1 := by
    intro q hq
    rcases List.mem_cons.mp hq with rfl | hq
    · exact ⟨l0.2.2.2.2.1, l0.2.2.2.2.2.1, q0⟩
    rcases List.mem_cons.mp hq with rfl | hq
    · exact ⟨l3.2.2.2.1, l3.2.2.2.2.1, q3⟩
    rcases List.mem_cons.mp hq with rfl | hq
    · exact ⟨l2.2.2.1, l2.2.2.2.1, q2⟩
    · rw [List.mem_singleton.mp hq]; exact ⟨l1.2.1, l1.2.2.1, q1⟩
  refine build_end [(D, ({ cls := .type "tuple", data := .seq #[.str (kindOf n) t, .ref a1, .ref a2, .ref a3] } : Obj)), (a3, listOf v3.toArray c3), (a2, listOf v2.toArray c2), (a1, listOf v1.toArray c1)] S hd F N (c' := c') (by simp) ?_ ?_ ?_ ?_
    (grp_four hk (.head _) (.tail _ (.tail _ (.tail _ (.head _)))) h1 (.tail _ (.tail _ (.head _))) h2 (.tail _ (.head _)) h3) hr
  · intro p hp
    simp only [List.mem_cons, List.mem_append, List.cons_append, List.nil_append] at hp ⊢
    grind
  · intro p hp
    simp only [List.mem_cons, List.mem_append] at hp ⊢
    grind
  · intro q hq b hb
    have hlt := key q hq
    rcases List.mem_cons.mp hb with rfl | hb
    · exact Nat.ne_of_lt hlt.1
    · rcases List.mem_cons.mp hb with rfl | hb
      · exact Nat.ne_of_lt hlt.2.1
      · obtain ⟨p, hp, rfl⟩ := List.mem_map.mp hb
        exact Nat.ne_of_lt (hlt.2.2 p (List.mem_append.mpr (.inl hp)))
  · intro q hq p hp
    exact Nat.ne_of_lt ((key q hq).2.2 p (List.mem_append.mpr (.inr (List.mem_append.mpr (.inr hp)))))
end
end Mine
end
section
open PySem PySem.W PyProof.Rows PySem.Calls
set_option Elab.async false
namespace Mine

abbrev GRet (h₀ : Heap) (L : Addr) (m : Str → Option Value) (news : Led) (s : Shared) (Q : Value → Shared → Prop) (ns : List Int) : Prop :=
  ∀ (g : Addr) (c : Nat) (gs : List Value) (tl : Led) (tk' : Nat) (h' : Heap), Fr h₀ L h' m → News h₀ L h' ((g, listOf gs.toArray c) :: (news ++ tl)) → OwnOff tl (g :: news.map (·.1)) → (∀ p ∈ news, p.1 < g) → DatAll tl gs ((picks ns).map grpD) → Q (.ref g) { s with heap := h', toks := tk' }

theorem groups_ret {h₀ h : Heap} {L g l : Addr} {m : Str → Option Value} {news tl : Led} {s : Shared} {Q : Value → Shared → Prop} {ns : List Int} {gs ws : List Value} {c nn tk : Nat} (hret : GRet h₀ L m news s Q ns)
    (F : Fr h₀ L h m) (N : News h₀ L h ((g, listOf gs.toArray c) :: (l, listOf ws.toArray nn) :: (news ++ tl))) (O : OwnOff tl (g :: l :: news.map (·.1))) (hd : DatAll tl gs ((picks ns).map grpD)) (l1 : ∀ p ∈ news, p.1 < g) (_l2 : g < l ∧ AllLt l news) :
    Q (.ref g) { s with heap := h, toks := tk } := by
  refine hret g c gs tl tk h F (fun p hp => N p ?_) (fun p hp b hb => O p hp b ?_) l1 hd
  · rcases List.mem_cons.mp hp with rfl | hp
    · exact .head _
    · exact .tail _ (.tail _ hp)
  · rcases List.mem_cons.mp hb with rfl | hb
    · exact .head _
    · exact .tail _ (.tail _ hb)
local macro_rules | `(tactic| walk_at "subscriptTail") => `(tactic| (k_here; (with_reducible show wpAny _ _ (subscriptTail _ _ (Value.ref 251) (Value.int _ _)) _ _ _); k_dflt (refine' item_lists ?k1 ?k2 ?k3 ?k4 ?_; (case k1 => k_asm); (case k2 => k_asm); (case k3 => kd_idx); (case k4 => kd_idx); k_whole); intro a' ha'))
local macro_rules | `(tactic| walk_at "call type:list") => `(tactic| (k_here; (with_reducible show wpAny _ _ (call (Value.type _) [Value.ref _]) _ _ _); k_dflt (refine' list_lists ?k1 ?k2 ?k3 ?k4 ?_; (case k1 => k_asm); (case k2 => k_asm); (case k3 => k_asm); (case k4 => with_reducible assumption); k_whole); intro D' c' vs' h' F' N' l1 hD'; (try k_lt l1); (try k_sweep)))

set_option maxRecDepth 100000 in
set_option maxHeartbeats 8000000 in
set_option pp.deepTerms false in
set_option pp.maxSteps 10000 in
theorem groups_spec (w : World) (p : Program) (loose : List Str) (mean : ExcName → Option Value) (mg mb : Str → Option Value) (news : Led) (l : Addr) (vs : List Value) (ns : List Int) :
  ∀ (dp un : Nat) (gd : Option (List Code)) (cn : Str) (cs : Scope) (a : Addr) (ccd : Value) (cl : List (Str × Addr)) (outer : List Env) (A₀ : Around) (base h₀ : Heap) (L : Addr) (m : Str → Option Value) (s : Shared) (Q E : Value → Shared → Prop),
    Below A₀ base outer h₀ → Fr h₀ L s.heap m → (Mine.K w.params).In h₀ → News h₀ L s.heap news → Top p loose mean mg mb h₀ → cs.kind = .function →
    base.IsList l vs.toArray → IntsAre vs ns → ns.length ≤ 63 → dp + 1 < recursionLimit → un + 8 < cLine → GRet h₀ L m news s Q ns →
      wpAny (model PySem.Challenge.rw_ji0039_01.row.prog w) (ktrTop dp un gd cn cs L a ccd cl outer) (call (.ref 265) [.ref l]) Q E s := by
  k_with_none
  w_top off
  k_fill
  intros
  rename_i hret
  refine wpAny_call ?_
  k_dflt cell_enter
  k_with "table" => skip
  k_with "pyIter ref" => refine Stop.out ?_
  k_steps
  refine ⟨?_⟩
  (rename Fr _ _ _ _ => lF'); (rename News _ _ _ _ => lN')
  with_unfolding_all refine' build_list grpD [Str.ofString "kind", Str.ofString "first"] (by rfl) (by with_reducible assumption) lF' lN' ?_ ?_
  · intro gs c tl pre post n t u h tk own hEq hSep hOff hDat hFr hNews; have hM1 := kstMark; have hM2 := kdMark; clear lF' lN'; (have kLen := DatAll.length hDat); (have kL := congrArg List.length hEq); (simp only [List.length_append, List.length_cons, List.length_map] at kLen kL); (try k_fold)
    k_steps
    all_goals (rename News _ _ _ _ => nE)
    · with_unfolding_all refine' end_four hSep hDat (by assumption) nE (by assumption) (by assumption) (by assumption) (by assumption) (by assumption) (by assumption) (by assumption) (by assumption) ?_
      kst_same
    · with_unfolding_all refine' end_two hSep hDat (by assumption) nE (by assumption) (by assumption) (by assumption) (by assumption) ?_
      kst_same
  · intro gs c tl u h tk hOff hDat hFr hNews; have hM1 := kstMark; have hM2 := kdMark; clear lF' lN'; (try k_fold)
    k_steps
    exact groups_ret hret (by assumption) (by assumption) hOff hDat (by assumption) (by assumption)
end Mine
end
section
open PySem PySem.W PyProof.Rows PySem.Calls
set_option Elab.async false
set_option maxRecDepth 100000
namespace Mine
open Builtin

theorem slot_bytes_join : Slot "bytes" "join" "bytes.join" :=
  .of (owner := "bytes") (n := "join") (by rw [typeLookup_type, builtinLookup_eq_fast]; kernel_rfl) (by decide +kernel) (by decide +kernel) (by decide +kernel)
    (by first | exact .inl (by decide +kernel) | exact .inr (by decide +kernel)) (by rw [isSubtype_type]; kernel_rfl)
theorem type_bytes_join : typeOf (.builtin "bytes.join") = pure (.type "method_descriptor") := by show builtinType _ = _; rw [builtinType_eq_fast]; kernel_rfl
theorem entry_bytes_join : entryFor table "bytes.join" = some Builtin.«bytes.join» := entryFor_of_tree (by kernel_rfl)
theorem args_bytes_join_2 (a b : Value) : argsOk "bytes.join" ⟨[a, b], []⟩ := by
  unfold argsOk; rw [signature?_of (id := "bytes.join") (n := ['n', 'i', 'o', 'j']) (o := ['s', 'e', 't', 'y', 'b']) (by kernel_rfl) FB.owner_bytes]; kernel_rfl

def joinB (bs : List Row) : Row := bs.foldl (· ++ ·) #[]

theorem take_eq {id : String} {b : Row} {t : Tok} : Bytes.takeBufferQuiet? id (.bytes b t) 0 = pure (some (b, none)) := by
  have e : Bytes.takeBuffer? id (.bytes b t) 0 = pure (some (b, none)) := by
    unfold Bytes.takeBuffer?
    rw [KBy.special_eq KBy.look_buffer, KBy.own_buffer]
    show (Bytes.buffer? id (.bytes b t) (full := (0 : Int) == Bytes.fullReadOnly) >>= fun r => pure (r.map (·, none))) = _
    rw [show ((0 : Int) == Bytes.fullReadOnly) = false from by decide +kernel, KBy.buffer_eq]
    rfl
  unfold Bytes.takeBufferQuiet?
  rw [e]
  rfl
section
variable {M : Model} {A : Around} {E : Value → Shared → Prop} {s : Shared}
theorem KBy.ite_yes' {c : Prop} [Decidable c] {X Y : Prop} (hc : c) (h : X) : if c then X else Y := by
  rw [if_pos hc]
  exact h
theorem letgo_none : ∀ (taken : List (Value × Option Value)) (keep : List Value) {Q : Unit → Shared → Prop}, (∀ p ∈ taken, p.2 = none) → Q () s → wpAny M A (Bytes.joinLetGo taken keep) Q E s
  | [], _, _, _, h => wpAny_pure h
  | (x, w) :: rest, keep, Q, hw, h => by
    have e : w = none := hw (x, w) (.head _)
    subst e
    unfold Bytes.joinLetGo
    refine wpAny_bind (wpAny_letGo ?_)
    exact letgo_none rest keep (fun p hp => hw p (.tail _ hp)) h
end

section
variable {M : Model} {A : Around} {E : Value → Shared → Prop} {s : Shared}
theorem wp_seqItems {l : Addr} {o : Obj} {items : Array Value} {n : Nat} {Q : Option (Array Value) → Shared → Prop} (ho : s.heap.get? l = some o) (hd : o.data = .seq items n) (h : Q (some items) s) : wpAny M A (seqItems? (.ref l)) Q E s := by
  unfold seqItems?
  refine wpAny_bind (wpAny_load ho ?_)
  rw [hd]
  exact wpAny_pure h
end
section
variable {M : Model} {A : Around} {E : Value → Shared → Prop} {s : Shared}
theorem wp_forRange {β : Type} {n : Nat} {f : Nat → β → Sem (ForInStep β)} {c₀ : β} {Q : β → Shared → Prop} (I : Nat → β → Prop)
    (step : ∀ i c, i < n → I i c → wpAny M A (f i c) (fun r s' => match r with | .yield c' => s' = s ∧ I (i + 1) c' | .done _ => False) E s) (h0 : I 0 c₀) (fin : ∀ c, I n c → Q c s) : wpAny M A (forIn [:n] c₀ f) Q E s := by
  rw [KPc.range_list]
  refine wpAny_forIn_list f (fun l c s' => s' = s ∧ ∃ i, i ≤ n ∧ l = List.range' i (n - i) 1 ∧ I i c) Q ?_ ?_ _ _ ⟨rfl, 0, Nat.zero_le _, rfl, h0⟩
  · rintro x rest c s' ⟨rfl, i, hi, hl, hI⟩
    have hlt : i < n := by
      rcases Nat.lt_or_ge i n with h' | h'
      · exact h'
      · rw [show n - i = 0 by omega] at hl; simp at hl
    obtain ⟨k, hk⟩ : ∃ k, n - i = k + 1 := ⟨n - i - 1, by omega⟩
    rw [hk, List.range'_succ] at hl
    obtain ⟨rfl, rfl⟩ := List.cons.inj hl
    refine wpAny_mono (step x c hlt hI) (fun r s'' hr => ?_) fun _ _ e => e
    cases r with
    | done c' => exact hr.elim
    | yield c' => exact ⟨hr.1, x + 1, by omega, by congr 1; omega, hr.2⟩
  · rintro c s' ⟨rfl, i, hi, hl, hI⟩
    have : i = n := by
      rcases Nat.lt_or_ge i n with h' | h'
      · obtain ⟨k, hk⟩ : ∃ k, n - i = k + 1 := ⟨n - i - 1, by omega⟩
        rw [hk, List.range'_succ] at hl; simp at hl
      · omega
    subst this; exact fin _ hI
end
theorem BytesAre.get {vs : List Value} {bs : List Row} (h : BytesAre vs bs) : ∀ {i : Nat} (hi : i < bs.length), ∃ t, vs.toArray.getD i Value.none = .bytes bs[i] t := by
  induction h with
  | nil => intro i hi; exact absurd hi (Nat.not_lt_zero _)
  | cons b t _ ih =>
    intro i hi
    cases i with
    | zero => exact ⟨t, rfl⟩
    | succ i =>
      obtain ⟨u, e⟩ := ih (Nat.lt_of_succ_lt_succ hi)
      refine ⟨u, ?_⟩
      simpa [Array.getD] using e
def JI (bs : List Row) (i : Nat) (c : Array Row × List (Value × Option Value)) : Prop := c.1 = (bs.take i).toArray ∧ ∀ p ∈ c.2, p.2 = none ∧ p.1.onHeap = false
theorem any_off {l : List (Value × Option Value)} (h : ∀ p ∈ l, p.2 = none ∧ p.1.onHeap = false) : (l.any fun x => x.1.onHeap) = false := by
  rw [List.any_eq_false]
  intro p hp
  rw [(h p hp).2]
  exact Bool.false_ne_true
theorem joined_go : ∀ (bs : List Row) (k : Nat) (acc : Row), ((bs.zipIdx k).foldl (fun out (x : Row × Nat) => (if x.2 > 0 then out ++ (#[] : Row) else out) ++ x.1) acc) = bs.foldl (· ++ ·) acc
  | [], _, _ => rfl
  | b :: bs, k, acc => by
    rw [List.zipIdx_cons, List.foldl_cons, List.foldl_cons, joined_go bs (k + 1)]
    congr 1
    split <;> simp
theorem joined_nil (bs : List Row) : Bytes.joined #[] bs = joinB bs := joined_go bs 0 #[]
theorem size_go : ∀ (bs : List Row) (acc : Row), bs.foldl (fun (n : Nat) (x : Row) => n + x.size) acc.size = (bs.foldl (· ++ ·) acc).size
  | [], _ => rfl
  | b :: bs, acc => by
    rw [List.foldl_cons, List.foldl_cons, ← size_go bs (acc ++ b), Array.size_append]
theorem meets_join {l : Addr} {vs : List Value} {bs : List Row} {t : Tok} (hb : BytesAre vs bs) :
    Meets («bytes.join» ⟨[.bytes #[] t, .ref l], []⟩) (fun _ R s => s.heap.IsList l vs.toArray ∧ (joinB bs).size ≤ 16777216 ∧ ∀ t' k, R (.ok (.ret (.bytes (joinB bs) t'))) { s with toks := k }) := by
  refine .of_wp fun prog w A R s hS => ?_
  obtain ⟨hl, hsz, h⟩ := hS
  obtain ⟨⟨cls, dd, data, sl⟩, ho, hc, n, hd⟩ := id hl
  simp only at hc hd
  subst hc hd
  show wpAny _ _ (Bytes.joinItems (.ref l) >>= fun r => _) _ _ s
  refine wpAny_bind ?_
  unfold Bytes.joinItems
  refine wpAny_bind (wpAny_typeOf hl.typeIs ?_)
  refine wpAny_ite (KBy.ite_yes' (by decide +kernel) ?_)
  refine wpAny_pure ?_
  refine wpAny_bind (wp_seqItems ho rfl ?_)
  refine wpAny_ite (KBy.ite_yes' (by decide +kernel) ?_)
  have hb0 := hb
  rcases hb with _ | ⟨b, tb, hb⟩
  rotate_left
  · rcases hb with _ | ⟨c, tc, hb⟩
    · refine wpAny_bind (wpAny_typeOf (typeIs_bytes _ _ _) ?_)
      refine wpAny_ite (KBy.ite_yes' (by decide +kernel) ?_)
      refine wpAny_bind (wpAny_rule ?_)
      refine wpAny_pure ⟨_, rfl, ?_⟩
      have h' := h tb s.toks
      have e1 : joinB [b] = b := by simp [joinB]
      rw [e1] at h'
      exact h'
    · rename_i vr br
      refine wpAny_bind ?_
      refine wp_forRange (JI (b :: c :: br)) ?_ ⟨rfl, fun _ hp => nomatch hp⟩ ?_
      · rintro i ⟨parts, taken⟩ hi ⟨hp, ht⟩
        simp only at hp ht
        have hi' : i < (b :: c :: br).length := by
          rw [← hb0.length]; simpa using hi
        refine wpAny_bind (wp_seqItems ho rfl ?_)
        dsimp only
        refine wpAny_ite (KPc.ite_no (by rw [any_off ht]; decide +kernel) ?_)
        obtain ⟨t, e⟩ := hb0.get hi'
        refine wpAny_bind (wpAny_holding ?_)
        rw [e]
        refine wpAny_of_eq take_eq ?_
        dsimp only
        refine wpAny_bind (wp_seqItems ho rfl ?_)
        dsimp only
        refine wpAny_ite (KPc.ite_no (by simp) ?_)
        refine wpAny_pure ⟨rfl, ?_, ?_⟩
        · rw [hp, List.push_toArray, List.take_add_one, List.getElem?_eq_getElem hi']; rfl
        · intro p hm
          rcases List.mem_append.mp hm with hm | hm
          · exact ht p hm
          · rw [List.mem_singleton.mp hm]; exact ⟨rfl, rfl⟩
      · rintro ⟨parts, taken⟩ ⟨hp, ht⟩
        simp only at hp ht
        have hn : (b :: c :: br).take (Value.bytes b tb :: Value.bytes c tc :: vr).toArray.size = b :: c :: br := by
          rw [List.size_toArray, hb0.length, List.take_length]
        rw [hn] at hp
        subst hp
        refine wpAny_bind (wpAny_of_eq (a := #[]) rfl ?_)
        have hz : List.foldl (fun (x1 : Nat) (x2 : Row) => x1 + x2.size) 0 (b :: c :: br) = (joinB (b :: c :: br)).size := size_go (b :: c :: br) #[]
        refine wpAny_ite (KPc.ite_no (KPc.short ?_) ?_)
        · have e0 : (#[] : Row).size * ((b :: c :: br).toArray.size - 1) = 0 := by simp
          rw [e0, List.foldl_toArray, hz]; exact hsz
        · dsimp only
          rw [joined_nil]
          refine wpAny_bind (wpAny_mkBytes ?_ (by rw [sizeLine_eq]; exact hsz))
          refine wpAny_bind (wpAny_holding (wpAny_point ?_))
          refine wpAny_bind (letgo_none _ _ (fun p hp => (ht p hp).1) ?_)
          exact wpAny_pure ⟨_, rfl, h _ _⟩
  · refine wpAny_bind ?_
    refine wp_forRange (JI ([] : List Row)) ?_ ⟨rfl, fun _ hp => nomatch hp⟩ ?_
    · rintro i ⟨parts, taken⟩ hi ⟨hp, ht⟩
      simp only at hp ht
      have hi' : i < (([] : List Row)).length := by
        rw [← hb0.length]; simpa using hi
      refine wpAny_bind (wp_seqItems ho rfl ?_)
      dsimp only
      refine wpAny_ite (KPc.ite_no (by rw [any_off ht]; decide +kernel) ?_)
      obtain ⟨t, e⟩ := hb0.get hi'
      refine wpAny_bind (wpAny_holding ?_)
      rw [e]
      refine wpAny_of_eq take_eq ?_
      dsimp only
      refine wpAny_bind (wp_seqItems ho rfl ?_)
      dsimp only
      refine wpAny_ite (KPc.ite_no (by simp) ?_)
      refine wpAny_pure ⟨rfl, ?_, ?_⟩
      · rw [hp, List.push_toArray, List.take_add_one, List.getElem?_eq_getElem hi']; rfl
      · intro p hm
        rcases List.mem_append.mp hm with hm | hm
        · exact ht p hm
        · rw [List.mem_singleton.mp hm]; exact ⟨rfl, rfl⟩
    · rintro ⟨parts, taken⟩ ⟨hp, ht⟩
      simp only at hp ht
      have hn : (([] : List Row)).take ([] : List Value).toArray.size = ([] : List Row) := by
        rw [List.size_toArray, hb0.length, List.take_length]
      rw [hn] at hp
      subst hp
      refine wpAny_bind (wpAny_of_eq (a := #[]) rfl ?_)
      have hz : List.foldl (fun (x1 : Nat) (x2 : Row) => x1 + x2.size) 0 (([] : List Row)) = (joinB (([] : List Row))).size := size_go (([] : List Row)) #[]
      refine wpAny_ite (KPc.ite_no (KPc.short ?_) ?_)
      · have e0 : (#[] : Row).size * ((([] : List Row)).toArray.size - 1) = 0 := by simp
        rw [e0, List.foldl_toArray, hz]; exact hsz
      · dsimp only
        rw [joined_nil]
        refine wpAny_bind (wpAny_mkBytes ?_ (by rw [sizeLine_eq]; exact hsz))
        refine wpAny_bind (wpAny_holding (wpAny_point ?_))
        refine wpAny_bind (letgo_none _ _ (fun p hp => (ht p hp).1) ?_)
        exact wpAny_pure ⟨_, rfl, h _ _⟩
end Mine
end
section
open PySem PySem.W PyProof.Rows PySem.Calls
set_option Elab.async false
set_option maxRecDepth 100000
namespace Mine
open Builtin

theorem slot_bytes_find : Slot "bytes" "find" "bytes.find" :=
  .of (owner := "bytes") (n := "find") (by rw [typeLookup_type, builtinLookup_eq_fast]; kernel_rfl) (by decide +kernel) (by decide +kernel) (by decide +kernel)
    (by first | exact .inl (by decide +kernel) | exact .inr (by decide +kernel)) (by rw [isSubtype_type]; kernel_rfl)
theorem type_bytes_find : typeOf (.builtin "bytes.find") = pure (.type "method_descriptor") := by show builtinType _ = _; rw [builtinType_eq_fast]; kernel_rfl
theorem entry_bytes_find : entryFor table "bytes.find" = some Builtin.«bytes.find» := entryFor_of_tree (by kernel_rfl)
theorem args_bytes_find_2 (a b : Value) : argsOk "bytes.find" ⟨[a, b], []⟩ := by
  unfold argsOk; rw [signature?_of (id := "bytes.find") (n := ['d', 'n', 'i', 'f']) (o := ['s', 'e', 't', 'y', 'b']) (by kernel_rfl) FB.owner_bytes]; kernel_rfl
theorem slot_bytes_splitlines : Slot "bytes" "splitlines" "bytes.splitlines" :=
  .of (owner := "bytes") (n := "splitlines") (by rw [typeLookup_type, builtinLookup_eq_fast]; kernel_rfl) (by decide +kernel) (by decide +kernel) (by decide +kernel)
    (by first | exact .inl (by decide +kernel) | exact .inr (by decide +kernel)) (by rw [isSubtype_type]; kernel_rfl)
theorem type_bytes_splitlines : typeOf (.builtin "bytes.splitlines") = pure (.type "method_descriptor") := by show builtinType _ = _; rw [builtinType_eq_fast]; kernel_rfl
theorem entry_bytes_splitlines : entryFor table "bytes.splitlines" = some Builtin.«bytes.splitlines» := entryFor_of_tree (by kernel_rfl)
theorem args_bytes_splitlines_2 (a b : Value) : argsOk "bytes.splitlines" ⟨[a, b], []⟩ := by
  unfold argsOk; rw [signature?_of (id := "bytes.splitlines") (n := ['s', 'e', 'n', 'i', 'l', 't', 'i', 'l', 'p', 's']) (o := ['s', 'e', 't', 'y', 'b']) (by kernel_rfl) FB.owner_bytes]; kernel_rfl

section
variable {M : Model} {A : Around} {E : Value → Shared → Prop} {s : Shared}
theorem noRefB {b : Row} {t : Tok} : ∀ a, Value.bytes b t = .ref a → ∃ o, s.heap.get? a = some o ∧ o.dict = none := fun _ e => nomatch e
theorem method_bytes {b : Row} {t : Tok} {pl : Sem Bool} {Q : Value × List Value → Shared → Prop} {name : Str} {id : String} (slot : Slot "bytes" name id) (ty : typeOf (.builtin id) = pure (.type "method_descriptor"))
    (h : Q (.builtin id, [.bytes b t]) s) : wpAny M A (getMethod (.bytes b t) name pl) Q E s :=
  getMethod_builtin (typeIs_bytes _ _ _) FB.plainAttrs_bytes slot ty noRefB h
end
section
variable {prog : Program} {w : World} {A : Around} {E : Value → Shared → Prop} {s : Shared} {h₀ : Heap} {L : Addr} {m : Str → Option Value} {news : Led} {Q : Value → Shared → Prop}
theorem join_bytes {l : Addr} {vs : List Value} {bs : List Row} {t : Tok} (hl : s.heap.IsList l vs.toArray) (hb : BytesAre vs bs) (hsz : (joinB bs).size ≤ 16777216) (h : ∀ t' k, Q (.bytes (joinB bs) t') { s with toks := k }) :
    wpAny (model prog w) A (call (.builtin "bytes.join") [.bytes #[] t, .ref l]) Q E s :=
  call_meets slot_bytes_join (typeIs_bytes _ _ _) entry_bytes_join (args_bytes_join_2 _ _) (meets_join hb) ⟨hl, hsz, h⟩
end

def placeOf (b c : Row) : Option Nat := Bytes.find? b c 0 b.size
def placeI (b c : Row) : Int := match placeOf b c with
  | some i => (i : Int)
  | none => -1
theorem placeI_ge (b c : Row) : decide (placeI b c ≥ 0) = (placeOf b c).isSome := by
  unfold placeI
  cases placeOf b c with
  | none => rfl
  | some i => simp
theorem window_eq (n : Nat) : Bytes.window n none none = ((0 : Int), (n : Int)) := by
  unfold Bytes.window
  have h : ¬ ((n : Int) < 0) := by omega
  simp [h]
theorem meets_find (b c : Row) (t u : Tok) : Meets («bytes.find» ⟨[.bytes b t, .bytes c u], []⟩) (fun _ R s => R (.ok (.ret (.int (placeI b c) s.toks))) { s with toks := s.toks + 1 }) := by
  refine .of_wp fun prog w A R s h => ?_
  have e1 : ∀ id, Bytes.buffer? id (.bytes c u) = pure (some c) := fun id => KBy.buffer_eq
  show wpAny _ _ (Bytes.searchArgs .bytes "find" _ >>= fun r => _) _ _ s
  refine wpAny_bind ?_
  unfold Bytes.searchArgs
  refine wpAny_bind (wpAny_of_eq (a := (Value.bytes b t, [Value.bytes c u])) rfl ?_)
  refine wpAny_bind (wpAny_of_eq (a := none) rfl ?_)
  refine wpAny_bind (wpAny_of_eq (a := none) rfl ?_)
  refine wpAny_bind (wpAny_of_eq (e1 _) ?_)
  refine wpAny_bind (wpAny_pure ?_)
  refine wpAny_bind (wpAny_of_eq (a := b) rfl ?_)
  rw [window_eq]
  refine wpAny_pure ?_
  dsimp only
  have fin : ∀ o : Option Nat, o = placeOf b c → wpAny (model prog w) A.in1 (match o with | some i => retInt i | none => (do rule (toString Bytes.Kind.bytes.name ++ toString "." ++ toString "find" ++ toString ".not-found"); if false = true then raiseErrorWords "ValueError" "subsection not found" else retInt (-1))) (fun fin s' => ∃ v, fin = Fin.done (Flow.ret v) ∧ R (Except.ok (Flow.ret v)) s') (fun e s' => R (Except.error e) s') s := by
    intro o ho
    unfold placeI at h
    rw [← ho] at h
    clear ho
    cases o with
    | some i => exact wpAny_bind (wpAny_mkInt (wpAny_pure ⟨_, rfl, h⟩))
    | none => exact wpAny_bind (wpAny_rule (wpAny_bind (wpAny_mkInt (wpAny_pure ⟨_, rfl, h⟩))))
  refine fin _ ?_
  by_cases hlt : (b.size : Int) - 0 < (c.size : Int)
  · rw [if_pos hlt]
    unfold placeOf Bytes.find?
    have e : b.size + 1 - (0 + c.size) = 0 := by omega
    rw [e]
    rfl
  · rw [if_neg hlt]
    rfl
theorem wp_news {M : Model} {A : Around} {E : Value → Shared → Prop} : ∀ (ls : List (List UInt8)) {s : Shared} {Q : List Value → Shared → Prop}, (∀ l ∈ ls, l.length ≤ 16777216) →
    (∀ vs tk, BytesAre vs (ls.map List.toArray) → Q vs { s with toks := tk }) → wpAny M A (List.mapM (fun l => Bytes.Kind.bytes.new l.toArray) ls) Q E s
  | [], s, Q, _, h => by
    rw [List.mapM_nil]
    exact wpAny_pure (h [] s.toks .nil)
  | l :: ls, s, Q, hz, h => by
    rw [List.mapM_cons]
    refine wpAny_bind (wpAny_mkBytes ?_ (by rw [sizeLine_eq]; simpa using hz l (.head _)))
    refine wpAny_bind (wp_news ls (fun l' hl' => hz l' (.tail _ hl')) fun vs tk hb => ?_)
    exact wpAny_pure (h (_ :: vs) tk (.cons _ _ hb))
def rowsOf (b : Row) : List Row := (Bytes.lines b.size true b.toList).map List.toArray
theorem meets_splitlines (b : Row) (t : Tok) (hone : ∀ one, Bytes.lines b.size true b.toList = [one] → (one.length == b.size) = true → one.toArray = b) (hz : ∀ l ∈ Bytes.lines b.size true b.toList, l.length ≤ 16777216) (hn : (rowsOf b).length ≤ 16777216) :
    Meets («bytes.splitlines» ⟨[.bytes b t, .bool true], []⟩) (fun _ R s => ∀ vs tk, BytesAre vs (rowsOf b) → R (.ok (.ret (.ref s.heap.objs.size))) { s with heap := s.heap.push { cls := .type "list", data := .seq vs.toArray }, toks := tk }) := by
  refine .of_wp fun prog w A R s h => ?_
  have fin : ∀ (vs : List Value) (tk : Nat), BytesAre vs (rowsOf b) → wpAny (model prog w) A.in1 (newList vs >>= fun v => ret v) (fun fin s' => ∃ v, fin = Fin.done (Flow.ret v) ∧ R (Except.ok (Flow.ret v)) s') (fun e s' => R (Except.error e) s') { s with toks := tk } := by
    intro vs tk hb
    refine wpAny_bind (wpAny_newObj_type (wpAny_pure ⟨_, rfl, h vs tk hb⟩) ?_)
    show vs.toArray.size ≤ sizeLine
    rw [List.size_toArray, hb.length, sizeLine_eq]
    exact hn
  show wpAny _ _ (Bytes.bindOptional _ _ _ _ _ >>= fun r => _) _ _ s
  refine wpAny_bind (wpAny_of_eq (a := [some (Value.bool true)]) (by kernel_rfl) ?_)
  refine wpAny_bind (wpAny_truthy_bool ?_)
  refine wpAny_bind (wpAny_of_eq (a := b) rfl ?_)
  unfold rowsOf at fin hn
  generalize Bytes.lines b.size true b.toList = ls at fin hone hz hn
  rcases ls with _ | ⟨one, _ | ⟨two, r⟩⟩
  · exact wpAny_bind (wp_news _ hz fun vs tk hb => fin vs tk hb)
  · refine wpAny_ite_split (fun hl => ?_) (fun hl => ?_)
    · refine wpAny_bind (wpAny_rule ?_)
      refine wpAny_bind ?_
      unfold Bytes.Kind.same
      refine wpAny_ite (KBy.ite_yes' (by decide +kernel) ?_)
      refine wpAny_bind (wpAny_typeOf (typeIs_bytes _ _ _) ?_)
      refine wpAny_ite (KBy.ite_yes' (by decide +kernel) ?_)
      refine wpAny_pure ?_
      have e := hone one rfl hl
      refine fin [.bytes b t] s.toks ?_
      rw [List.map_cons, List.map_nil, e]
      exact .cons _ _ .nil
    · refine wpAny_bind (wpAny_mkBytes ?_ (by rw [sizeLine_eq]; simpa using hz one (.head _)))
      exact fin _ _ (.cons _ _ .nil)
  · exact wpAny_bind (wp_news _ hz fun vs tk hb => fin vs tk hb)
theorem meets_contains (b c : Row) (t u : Tok) : Meets («bytes.__contains__» ⟨[.bytes b t, .bytes c u], []⟩) (fun A R s => A.handled = none ∧ ∀ h' tk e, Heap.NewExc s.heap h' e "TypeError" → R (.ok (.ret (.bool (placeOf b c).isSome))) { s with heap := h', toks := tk }) := by
  refine .of_wp fun prog w A R s h => ?_
  obtain ⟨hh, h⟩ := h
  have e1 : ∀ id, Bytes.buffer? id (.bytes c u) = pure (some c) := fun id => KBy.buffer_eq
  have e2 : ∀ id, Bytes.buffer? id (.bytes b t) = pure (some b) := fun id => KBy.buffer_eq
  refine wpAny_bind (wpAny_of_eq (a := (Value.bytes b t, [Value.bytes c u])) rfl ?_)
  dsimp only
  refine wpAny_bind ?_
  unfold Bytes.containsIn
  refine wpAny_bind (wpAny_attempt ?_)
  unfold asIndex
  refine wpAny_bind (wpAny_of_eq (a := none) rfl ?_)
  dsimp only
  refine wpAny_bind (wpAny_callSpecial?_none (T := "bytes") (typeIs_bytes _ _ _) (by rw [typeLookup_type, builtinLookup_eq_fast]; kernel_rfl) ?_)
  dsimp only
  refine wpAny_bind (wpAny_of_eq (a := "bytes") (by kernel_rfl) ?_)
  refine wpAny_raiseErrorMade plainExc_TypeError hh ?_ (by decide +kernel)
  intro h' tk e hx
  refine wpAny_bind (wpAny_of_eq (e2 _) ?_)
  dsimp only
  refine wpAny_bind (wpAny_of_eq (e1 _) ?_)
  refine wpAny_bind (wpAny_rule (wpAny_pure ?_))
  exact wpAny_pure ⟨_, rfl, h _ _ _ hx⟩

section
variable {prog : Program} {w : World} {A : Around} {E : Value → Shared → Prop} {s : Shared} {h₀ : Heap} {L : Addr} {m : Str → Option Value} {news : Led} {Q : Value → Shared → Prop}
theorem find_bytes {b c : Row} {t u : Tok} (h : ∀ t' k, Q (.int (placeI b c) t') { s with toks := k }) : wpAny (model prog w) A (call (.builtin "bytes.find") [.bytes b t, .bytes c u]) Q E s :=
  call_meets slot_bytes_find (typeIs_bytes _ _ _) entry_bytes_find (args_bytes_find_2 _ _) (meets_find b c t u) (h _ _)
theorem in_bytes {b c : Row} {t u : Tok} (F : Fr h₀ L s.heap m) (N : News h₀ L s.heap news) (hh : A.handled = none) (h : ∀ h' k, Fr h₀ L h' m → News h₀ L h' news → Q (.bool (placeOf b c).isSome) { s with heap := h', toks := k }) :
    wpAny (model prog w) A (compareOp .In (.bytes c u) (.bytes b t)) Q E s :=
  PySem.SeqRoads2.in_meets (typeIs_bytes _ _ _) FB.slot_bytes_contains FB.entry_bytes_contains (FB.args_bytes_contains_2 _ _) (meets_contains b c t u) ⟨hh, fun h' tk e hx => ⟨_, rfl, h h' tk (F.keeps hx.keeps) fun p hp => ⟨hx.keeps _ _ (N p hp).1, (N p hp).2⟩⟩⟩
def textT : List Row := [#[], #[112, 10], #[112, 10, 113, 10], #[113, 10, 112], #[10, 10], #[60, 60, 60, 60, 60, 60, 60, 32, 111, 117, 114, 115, 10]]
theorem splitlines_bytes {b : Row} {t : Tok} (hb : b ∈ textT) (F : Fr h₀ L s.heap m) (N : News h₀ L s.heap news)
    (h : ∀ D vs h' k, Fr h₀ L h' m → News h₀ L h' ((D, listOf (List.toArray vs) 0) :: news) → (∀ p ∈ news, p.1 < D) → BytesAre vs (rowsOf b) → Q (.ref D) { s with heap := h', toks := k }) :
    wpAny (model prog w) A (call (.builtin "bytes.splitlines") [.bytes b t, .bool true]) Q E s := by
  have h1 : ∀ b ∈ textT, ((Bytes.lines b.size true b.toList).length ≤ 3 ∧ ∀ l ∈ Bytes.lines b.size true b.toList, l.length ≤ 20) ∧ (Bytes.lines b.size true b.toList).length = 1 → (Bytes.lines b.size true b.toList) = [b.toList] := by decide +kernel
  have h2 : ∀ b ∈ textT, (Bytes.lines b.size true b.toList).length ≤ 3 := by decide +kernel
  have h3 : ∀ b ∈ textT, ∀ l ∈ Bytes.lines b.size true b.toList, l.length ≤ 20 := by decide +kernel
  refine call_meets slot_bytes_splitlines (typeIs_bytes _ _ _) entry_bytes_splitlines (args_bytes_splitlines_2 _ _) (meets_splitlines b t ?_ ?_ ?_) ?_
  · intro one e _
    have := h1 b hb ⟨⟨h2 b hb, h3 b hb⟩, by rw [e]; rfl⟩
    rw [e] at this
    have q := (List.cons.inj this).1
    rw [q]
  · exact fun l hl => Nat.le_trans (h3 b hb l hl) (by decide)
  · unfold rowsOf
    rw [List.length_map]
    exact Nat.le_trans (h2 b hb) (by decide)
  · intro vs tk hbs
    refine h _ vs _ tk (F.push _) (News.push F N _) (fun p hp => Heap.lt_size (N p hp).1) hbs
end
end Mine
end
section
open PySem PySem.W PyProof.Rows PySem.Calls
set_option Elab.async false
set_option maxRecDepth 100000
namespace Mine
open PySem.SeqAt

inductive All2 {α : Type} (R : Value → α → Prop) : List Value → List α → Prop
  | nil : All2 R [] []
  | cons {v : Value} {vs : List Value} {d : α} {ds : List α} : R v d → All2 R vs ds → All2 R (v :: vs) (d :: ds)
theorem All2.length {α : Type} {R : Value → α → Prop} {vs : List Value} {ds : List α} (h : All2 R vs ds) : vs.length = ds.length := by
  induction h with
  | nil => rfl
  | cons _ _ ih => simp [ih]
theorem All2.get {α : Type} {R : Value → α → Prop} {vs : List Value} {ds : List α} (h : All2 R vs ds) : ∀ {i : Nat} (h1 : i < vs.length) (h2 : i < ds.length), R vs[i] ds[i] := by
  induction h with
  | nil => intro i h1; exact absurd h1 (Nat.not_lt_zero _)
  | cons hr _ ih =>
    intro i h1 h2
    cases i with
    | zero => exact hr
    | succ i => exact ih (Nat.lt_of_succ_lt_succ h1) (Nat.lt_of_succ_lt_succ h2)
theorem all_range {α : Type} [DecidableEq α] {as bs : List α} (h : as.length = bs.length) : ((List.range as.length).all fun j => decide (as[j]? = bs[j]?)) = decide (as = bs) := by
  rw [Bool.eq_iff_iff, List.all_eq_true, decide_eq_true_eq]
  constructor
  · intro q
    refine List.ext_getElem? fun i => ?_
    by_cases hi : i < as.length
    · exact of_decide_eq_true (q i (List.mem_range.mpr hi))
    · rw [List.getElem?_eq_none (by omega), List.getElem?_eq_none (by omega)]
  · rintro rfl j _
    simp

section
variable {A : Around} {s : Shared} {α : Type} [DecidableEq α] {R : Value → α → Prop}
def EqR (A : Around) (s : Shared) (R : Value → α → Prop) : Prop := ∀ x y d e, R x d → R y e → EqAt A s x y (decide (d = e))

theorem eqr_at {vs ws : List Value} {as bs : List α} (h1 : All2 R vs as) (h2 : All2 R ws bs) (he : EqR A s R) : ∀ j (j1 : j < vs.toArray.size) (j2 : j < ws.toArray.size), EqAt A s vs.toArray[j] ws.toArray[j] (decide (as[j]? = bs[j]?)) := by
  intro j j1 j2
  have k1 : j < vs.length := by simpa using j1
  have k2 : j < ws.length := by simpa using j2
  have i1 : j < as.length := by rw [← h1.length]; exact k1
  have i2 : j < bs.length := by rw [← h2.length]; exact k2
  have q := he _ _ _ _ (h1.get k1 i1) (h2.get k2 i2)
  have e : decide (as[j]? = bs[j]?) = decide (as[j] = bs[j]) := by
    rw [List.getElem?_eq_getElem i1, List.getElem?_eq_getElem i2]; simp
  rw [e]
  simpa using q
theorem ne_of_len {as bs : List α} (h : as.length ≠ bs.length) : decide (as = bs) = false := decide_eq_false fun e => h (by rw [e])

theorem lists_eq {l b : Addr} {vs ws : List Value} {as bs : List α} (hl : s.heap.IsList l vs.toArray) (hb : s.heap.IsList b ws.toArray) (h1 : All2 R vs as) (h2 : All2 R ws bs) (hu : A.units < cLine) (he : EqR A.in1 s R) : RcAt A s (.ref l) (.ref b) (decide (as = bs)) := by
  by_cases hn : as.length = bs.length
  · rw [← all_range hn, ← h1.length, show vs.length = vs.toArray.size by simp]
    exact RcAt.lists hl hb (by simp [h1.length, h2.length, hn]) hu (eqr_at h1 h2 he)
  · rw [ne_of_len hn]
    exact RcAt.lists_lengths hl hb (by simpa [h1.length, h2.length] using hn) hu
theorem lists_ne {l b : Addr} {vs ws : List Value} {as bs : List α} (hl : s.heap.IsList l vs.toArray) (hb : s.heap.IsList b ws.toArray) (h1 : All2 R vs as) (h2 : All2 R ws bs) (hu : A.units < cLine) (he : EqR A.in1 s R) : RcNeAt A s (.ref l) (.ref b) (!decide (as = bs)) := by
  by_cases hn : as.length = bs.length
  · rw [← all_range hn, ← h1.length, show vs.length = vs.toArray.size by simp]
    exact RcNeAt.lists hl hb (by simp [h1.length, h2.length, hn]) hu (eqr_at h1 h2 he)
  · rw [ne_of_len hn]
    exact RcNeAt.lists_lengths hl hb (by simpa [h1.length, h2.length] using hn) hu
theorem tuples_eq {l b : Addr} {vs ws : List Value} {as bs : List α} (hl : s.heap.IsTuple l vs.toArray) (hb : s.heap.IsTuple b ws.toArray) (h1 : All2 R vs as) (h2 : All2 R ws bs) (hu : A.units < cLine) (he : EqR A.in1 s R) : RcAt A s (.ref l) (.ref b) (decide (as = bs)) := by
  have q := RcAt.tuples hl hb hu (eqr_at h1 h2 he)
  have e : ((List.range (min vs.toArray.size ws.toArray.size)).all (fun j => decide (as[j]? = bs[j]?)) && vs.toArray.size == ws.toArray.size) = decide (as = bs) := by
    by_cases hn : as.length = bs.length
    · have e1 : vs.toArray.size = as.length := by simp [h1.length]
      have e2 : ws.toArray.size = as.length := by simp [h2.length, hn]
      rw [e1, e2, Nat.min_self, all_range hn]; simp
    · rw [ne_of_len hn]
      have : (vs.toArray.size == ws.toArray.size) = false := by simpa [h1.length, h2.length] using hn
      rw [this, Bool.and_false]
  rw [← e]; exact q

/-- objects of one kind, told by relation -/
def RList (s : Shared) (R : Value → α → Prop) (x : Value) (as : List α) : Prop := ∃ a vs, x = .ref a ∧ s.heap.IsList a (List.toArray vs) ∧ All2 R vs as
def RTup (s : Shared) (R : Value → α → Prop) (x : Value) (as : List α) : Prop := ∃ a vs, x = .ref a ∧ s.heap.IsTuple a (List.toArray vs) ∧ All2 R vs as
theorem list_one {a : Addr} {vs ws : List Value} (h1 : s.heap.IsList a vs.toArray) (h2 : s.heap.IsList a ws.toArray) : vs = ws := by
  obtain ⟨o, ho, _, n, hd⟩ := h1
  obtain ⟨o', ho', _, n', hd'⟩ := h2
  rw [ho] at ho'
  cases ho'
  rw [hd] at hd'
  injection hd' with q _
  simpa using congrArg Array.toList q
theorem tup_one {a : Addr} {vs ws : List Value} (h1 : s.heap.IsTuple a vs.toArray) (h2 : s.heap.IsTuple a ws.toArray) : vs = ws := by
  obtain ⟨o, ho, _, n, hd⟩ := h1
  obtain ⟨o', ho', _, n', hd'⟩ := h2
  rw [ho] at ho'
  cases ho'
  rw [hd] at hd'
  injection hd' with q _
  simpa using congrArg Array.toList q
theorem all2_one (hR : ∀ x d e, R x d → R x e → d = e) {vs : List Value} {as bs : List α} (h1 : All2 R vs as) (h2 : All2 R vs bs) : as = bs := by
  induction h1 generalizing bs with
  | nil => cases h2; rfl
  | cons h _ ih =>
    cases h2 with
    | cons h' r => rw [hR _ _ _ h h', ih r]
theorem rlist_one (hR : ∀ x d e, R x d → R x e → d = e) : ∀ x d e, RList s R x d → RList s R x e → d = e := by
  rintro x d e ⟨a, vs, rfl, hl, h1⟩ ⟨b, ws, q, hb, h2⟩
  cases q
  rw [← list_one hl hb] at h2
  exact all2_one hR h1 h2
theorem rtup_one (hR : ∀ x d e, R x d → R x e → d = e) : ∀ x d e, RTup s R x d → RTup s R x e → d = e := by
  rintro x d e ⟨a, vs, rfl, hl, h1⟩ ⟨b, ws, q, hb, h2⟩
  cases q
  rw [← tup_one hl hb] at h2
  exact all2_one hR h1 h2
theorem eqr_list (hR : ∀ x d e, R x d → R x e → d = e) (hu : A.units < cLine) (he : EqR A.in1 s R) : EqR A s (RList s R) := by
  rintro x y d e ⟨a, vs, rfl, hl, h1⟩ ⟨b, ws, rfl, hb, h2⟩
  by_cases hab : a = b
  · subst hab
    rw [rlist_one hR _ _ _ ⟨a, vs, rfl, hl, h1⟩ ⟨a, ws, rfl, hb, h2⟩]
    simpa using EqAt.same (.ref a)
  · exact EqAt.of_refs hab (lists_eq hl hb h1 h2 hu he)
theorem eqr_tup (hR : ∀ x d e, R x d → R x e → d = e) (hu : A.units < cLine) (he : EqR A.in1 s R) : EqR A s (RTup s R) := by
  rintro x y d e ⟨a, vs, rfl, hl, h1⟩ ⟨b, ws, rfl, hb, h2⟩
  by_cases hab : a = b
  · subst hab
    rw [rtup_one hR _ _ _ ⟨a, vs, rfl, hl, h1⟩ ⟨a, ws, rfl, hb, h2⟩]
    simpa using EqAt.same (.ref a)
  · exact EqAt.of_refs hab (tuples_eq hl hb h1 h2 hu he)
end

def RB (x : Value) (b : Row) : Prop := ∃ t, x = .bytes b t
theorem rb_one : ∀ x d e, RB x d → RB x e → d = e := by
  rintro x d e ⟨t, rfl⟩ ⟨u, h⟩
  injection h
theorem eqr_bytes (A : Around) (s : Shared) : EqR A s RB := by
  rintro x y d e ⟨t, rfl⟩ ⟨u, rfl⟩
  intro prog w E Q hq
  unfold eqBool
  refine wpAny_holding ?_
  refine wpAny_ite_split (fun hab => ?_) (fun _ => ?_)
  · have := eq_of_beq hab
    injection this with h1 h2
    subst h1
    exact wpAny_bind (wpAny_rule (wpAny_pure (by simpa using hq)))
  · refine wpAny_bind (eq_bytes (wpAny_truthy_bool ?_))
    have e1 : (d.toList == e.toList) = decide (d = e) := by
      rw [Bool.eq_iff_iff, beq_iff_eq, decide_eq_true_eq, Array.toList_inj]
    rw [e1]; exact hq
theorem BytesAre.all2 {vs : List Value} {bs : List Row} (h : BytesAre vs bs) : All2 RB vs bs := by
  induction h with
  | nil => exact .nil
  | cons b t _ ih => exact .cons ⟨t, rfl⟩ ih
end Mine
end
section
open PySem PySem.W PyProof.Rows PySem.Calls
set_option Elab.async false
set_option maxRecDepth 100000
namespace Mine
def M1 : Row := #[60, 60, 60, 60, 60, 60, 60, 32, 111, 117, 114, 115, 10]
def M2 : Row := #[61, 61, 61, 61, 61, 61, 61, 10]
def M3 : Row := #[62, 62, 62, 62, 62, 62, 62, 32, 116, 104, 101, 105, 114, 115, 10]
def Grp.rows : Grp → List Row
  | .two _ a => a
  | .four _ a b c => if b = a then c else if c = a then b else [M1] ++ b ++ [M2] ++ c ++ [M3]
def Grp.ok : Grp → Prop
  | .two k a => k ∈ [Str.ofString "unchanged", Str.ofString "a", Str.ofString "b", Str.ofString "same"] ∧ a.length ≤ 3
  | .four k a b c => k = Str.ofString "conflict" ∧ a.length ≤ 3 ∧ b.length ≤ 3 ∧ c.length ≤ 3
theorem Grp.rows_len {x : Grp} (h : x.ok) : x.rows.length ≤ 9 := by
  cases x with
  | two k a => simp only [Grp.rows, Grp.ok] at *; omega
  | four k a b c =>
    simp only [Grp.rows, Grp.ok] at *
    split
    · omega
    · split
      · omega
      · simp only [List.length_append, List.length_cons, List.length_nil]; omega
theorem flat_len {f : Grp → List Row} : ∀ {xs : List Grp}, (∀ x ∈ xs, (f x).length ≤ 9) → (xs.flatMap f).length ≤ 9 * xs.length
  | [], _ => by simp
  | x :: xs, h => by
    have h1 := h x (.head _)
    have h2 := flat_len (xs := xs) fun y hy => h y (.tail _ hy)
    simp only [List.flatMap_cons, List.length_append, List.length_cons]
    omega

theorem BytesAre.append {us ws : List Value} {as bs : List Row} (h1 : BytesAre us as) (h2 : BytesAre ws bs) : BytesAre (us ++ ws) (as ++ bs) := by
  induction h1 with
  | nil => exact h2
  | cons x t _ ih => exact .cons x t ih
section
variable {prog : Program} {w : World} {A : Around} {E : Value → Shared → Prop} {s : Shared} {h₀ : Heap} {L : Addr} {m : Str → Option Value} {news : Led} {Q : Value → Shared → Prop}
theorem add_rows {a b : Addr} {us ws : List Value} {as bs : List Row} (F : Fr h₀ L s.heap m) (N : News h₀ L s.heap news) (ha : s.heap.IsList a us.toArray) (hb : s.heap.IsList b ws.toArray) (h1 : BytesAre us as) (h2 : BytesAre ws bs) (hz : as.length + bs.length ≤ 16777216)
    (h : ∀ D vs h', Fr h₀ L h' m → News h₀ L h' ((D, listOf (List.toArray vs) 0) :: news) → (∀ p ∈ news, p.1 < D) → BytesAre vs (as ++ bs) → Q (.ref D) { s with heap := h' }) :
    wpAny (model prog w) A (binaryOp .Add (.ref a) (.ref b)) Q E s := by
  refine add_arrays F N ha hb (fun h' F' N' => h _ (us ++ ws) h' F' ?_ (fun p hp => Heap.lt_size (N p hp).1) ?_) ?_
  · exact N'
  · exact h1.append h2
  · rw [List.size_toArray, List.size_toArray, h1.length, h2.length, sizeLine_eq]
    exact hz
end

section
variable {prog : Program} {w : World} {A : Around} {E : Value → Shared → Prop} {s : Shared} {env : Env} {h₀ : Heap} {x : Str} {body : List Stmt} {Q : Flow → Shared → Prop}
/-- a loop over the groups that binds the name y to a new list of rows at each turn -/
def RowsJ (y : Str) (news : Led) (m₀ : Str → Option Value) (stored : List Str) (x : Str) (rs : List Row) (m : Str → Option Value) (nx : Led) : Prop :=
  ∃ r us c, m y = some (.ref r) ∧ nx = (r, listOf (List.toArray us) c) :: news ∧ BytesAre us rs ∧ (∀ p ∈ news, p.1 ≠ r) ∧ ∀ z, z ≠ x → z ≠ y → stored.contains z = false → m z = m₀ z
theorem rows_loop {g r₀ : Addr} {gs : List Value} {cg c₀ : Nat} {xs : List Grp} {news : Led} {m₀ : Str → Option Value} (y : Str) (f : Grp → List Row) (stored : List Str)
    (hh : A.handled = none) (hg : (g, listOf gs.toArray cg) ∈ news) (hd : DatAll news gs (xs.map Grp.dat)) (F : Fr h₀ env.locals s.heap m₀) (N : News h₀ env.locals s.heap ((r₀, listOf #[] c₀) :: news)) (hr' : ∀ p ∈ news, p.1 < r₀) (hy : m₀ y = some (.ref r₀))
    (turn : ∀ pre d post v r us c (u : Str → Option Value) h tk own, xs = pre ++ d :: post → DatIn news v d.dat → BytesAre us (pre.flatMap f) → OwnOff own (r :: news.map (·.1)) →
      Fr h₀ env.locals h (fun z => if z = x then some v else if z = y then some (.ref r) else if stored.contains z then u z else m₀ z) → News h₀ env.locals h ((r, listOf (List.toArray us) c) :: (news ++ own)) →
      wpAny (model prog w) A (execs body env) (InvPostG h₀ env.locals (RowsJ y news m₀ stored x (pre.flatMap f ++ f d)) own { s with heap := h, toks := tk } Q) E { s with heap := h, toks := tk })
    (done : ∀ r us c (u : Str → Option Value) h tk, BytesAre us (xs.flatMap f) → (∀ p ∈ news, p.1 ≠ r) → Fr h₀ env.locals h (fun z => if z = y then some (.ref r) else if z = x then u z else if stored.contains z then u z else m₀ z) → News h₀ env.locals h ((r, listOf (List.toArray us) c) :: news) → Q .next { s with heap := h, toks := tk }) :
    wpAny (model prog w) A (pyIter (.ref g)) (fun it s₂ => LoopAtV prog w A h₀ env x body Q E it s₂) E s := by
  have hlen : gs.length = xs.length := by rw [hd.length, List.length_map]
  have hr : ∀ p ∈ news, p.1 ≠ r₀ := fun p hp => Nat.ne_of_lt (hr' p hp)
  refine kdl_iter (news := (r₀, listOf #[] c₀) :: news) (fun i m nx => RowsJ y news m₀ stored x ((xs.take i).flatMap f) m nx) hh (.tail _ hg) F N ⟨r₀, [], c₀, hy, rfl, .nil, hr, fun _ _ _ _ => rfl⟩ ?_ ?_
  · rintro i v m₁ nx h tk own hv hoff hgn ⟨r, us, c, h1, rfl, hb, hn, hm⟩ F₁ N₁
    have hi : i < xs.length := by rw [← hlen]; exact (List.getElem?_eq_some_iff.mp hv).1
    obtain ⟨v', hv', hD⟩ := hd.get (k := i) (by rw [List.length_map]; exact hi)
    have ev : v' = v := by rw [hv] at hv'; exact (Option.some.inj hv').symm
    subst ev
    rw [List.getElem_map] at hD
    have hs : xs.take (i + 1) = xs.take i ++ [xs[i]'hi] := by rw [List.take_add_one, List.getElem?_eq_getElem hi] <;> rfl
    have e : xs = xs.take i ++ (xs[i]'hi) :: xs.drop (i + 1) := by
      have h9 := List.take_append_drop (i + 1) xs
      rw [hs, List.append_assoc] at h9
      exact h9.symm
    have hoff' : OwnOff own (r :: news.map (·.1)) := by simpa using hoff
    have hfl : (xs.take (i + 1)).flatMap f = (xs.take i).flatMap f ++ f (xs[i]'hi) := by rw [hs, List.flatMap_append, List.flatMap_cons, List.flatMap_nil, List.append_nil]
    have Fm : (fun z => if z = x then some v' else m₁ z) = fun z => if z = x then some v' else if z = y then some (.ref r) else if stored.contains z then m₁ z else m₀ z := by
      funext z
      by_cases z1 : z = x
      · simp [z1]
      · simp only [if_neg z1]
        by_cases z2 : z = y
        · subst z2; simp [h1]
        · simp only [if_neg z2]
          cases z3 : stored.contains z with
          | true => simp
          | false => simp only [Bool.false_eq_true, if_false]; exact hm z z1 z2 z3
    rw [Fm] at F₁
    refine wpAny_mono (turn _ _ _ _ r us c m₁ h tk own e hD hb hoff' F₁ N₁) (fun fl s₂ p => ?_) fun _ _ e => e
    have up : InvEndG h₀ env.locals (RowsJ y news m₀ stored x ((xs.take i).flatMap f ++ f (xs[i]'hi))) own { s with heap := h, toks := tk } s₂ →
        InvEndG h₀ env.locals (fun m' nx => (g, listOf gs.toArray cg) ∈ nx ∧ RowsJ y news m₀ stored x ((xs.take (i + 1)).flatMap f) m' nx) own { s with heap := h, toks := tk } s₂ := by
      rintro ⟨h', tk', m', news', nx', e', F', N', hn', ho', ha, hS⟩
      refine ⟨h', tk', m', news', nx', e', F', N', hn', ho', ha, ?_, by rw [hfl]; exact hS⟩
      obtain ⟨r', us', c', _, rfl, _⟩ := hS
      exact .tail _ hg
    cases fl with
    | ret v => exact p
    | brk => exact p
    | next => exact up p
    | cont => exact up p
  · rintro m₁ nx h tk ⟨r, us, c, h1, rfl, hb, hn, hm⟩ F₁ N₁
    rw [hlen, List.take_length] at hb
    refine done r us c m₁ h tk hb hn ?_ N₁
    have Fm : m₁ = fun z => if z = y then some (.ref r) else if z = x then m₁ z else if stored.contains z then m₁ z else m₀ z := by
      funext z
      by_cases z2 : z = y
      · subst z2; simp [h1]
      · simp only [if_neg z2]
        by_cases z1 : z = x
        · simp [z1]
        · simp only [if_neg z1]
          cases z3 : stored.contains z with
          | true => simp
          | false => simp only [Bool.false_eq_true, if_false]; exact hm z z1 z2 z3
    rw [← Fm]; exact F₁
theorem rows_end {L r : Addr} {us : List Value} {c : Nat} {y : Str} {stored : List Str} {m₀ m' : Str → Option Value} {rs : List Row} {news own news' : Led} {s₁ : Shared} {h' : Heap} {tk : Nat}
    (F : Fr h₀ L h' m') (N : News h₀ L h' news') (hm : m' y = some (.ref r)) (hr : (r, listOf (List.toArray us) c) ∈ news') (hn : ∀ p ∈ news, p ∈ news') (ho : ∀ p ∈ own, p ∈ news') (hlt : ∀ p ∈ news ++ own, p.1 ≠ r) (O : ∀ p ∈ own, ∀ q ∈ news, p.1 ≠ q.1) (hb : BytesAre us rs)
    (hz : ∀ z, z ≠ x → (∀ p ∈ [(y, Value.none)], z ≠ p.1) → stored.contains z = false → m' z = m₀ z) :
    InvEndG h₀ L (RowsJ y news m₀ stored x rs) own s₁ { s₁ with heap := h', toks := tk } := by
  refine ⟨h', tk, m', news', (r, listOf (List.toArray us) c) :: news, rfl, F, N, ?_, ho, ?_, r, us, c, hm, rfl, hb, fun p hp => hlt p (List.mem_append.mpr (.inl hp)), fun z h1 h2 h3 => hz z h1 (fun p hp => by rw [List.mem_singleton.mp hp]; exact h2) h3⟩
  · intro p hp
    rcases List.mem_cons.mp hp with rfl | hp
    · exact hr
    · exact hn p hp
  · intro p hp b hb
    rcases List.mem_cons.mp hb with rfl | hb
    · exact hlt p (List.mem_append.mpr (.inr hp))
    · obtain ⟨q, hq, rfl⟩ := List.mem_map.mp hb
      exact O p hp q hq
end
end Mine
namespace Mine
theorem two_in {news : Led} {v : Value} {k : Str} {a : List Row} (h : DatIn news v (Grp.two k a).dat) : ∃ D n t p c us, v = .ref D ∧ (D, ({ cls := .type "tuple", data := .seq ([.str k t, .ref p] : List Value).toArray n } : Obj)) ∈ news ∧ (p, listOf (List.toArray us) c) ∈ news ∧ BytesAre us a := by
  unfold Grp.dat bD at h
  cases h with
  | @tuple D vs n _ hm r =>
    cases r with
    | cons h1 r =>
      cases h1
      cases r with
      | cons h2 r =>
        cases r
        cases h2 with
        | list hm2 r2 => exact ⟨_, _, _, _, _, _, rfl, hm, hm2, .of r2⟩
theorem four_in {news : Led} {v : Value} {k : Str} {a b c : List Row} (h : DatIn news v (Grp.four k a b c).dat) : ∃ D n t p1 c1 u1 p2 c2 u2 p3 c3 u3, v = .ref D ∧ (D, ({ cls := .type "tuple", data := .seq ([.str k t, .ref p1, .ref p2, .ref p3] : List Value).toArray n } : Obj)) ∈ news ∧
    (p1, listOf (List.toArray u1) c1) ∈ news ∧ BytesAre u1 a ∧ (p2, listOf (List.toArray u2) c2) ∈ news ∧ BytesAre u2 b ∧ (p3, listOf (List.toArray u3) c3) ∈ news ∧ BytesAre u3 c := by
  unfold Grp.dat bD at h
  cases h with
  | @tuple D vs n _ hm r =>
    cases r with
    | cons h1 r =>
      cases h1
      cases r with
      | cons h2 r =>
        cases r with
        | cons h3 r =>
          cases r with
          | cons h4 r =>
            cases r
            cases h2 with
            | list hm2 r2 =>
              cases h3 with
              | list hm3 r3 =>
                cases h4 with
                | list hm4 r4 => exact ⟨_, _, _, _, _, _, _, _, _, _, _, _, rfl, hm, hm2, .of r2, hm3, .of r3, hm4, .of r4⟩
section
variable {prog : Program} {w : World} {A : Around} {E : Value → Shared → Prop} {s : Shared} {Q : Value → Shared → Prop}
theorem eq_rows {a b : Addr} {us ws : List Value} {as bs : List Row} (ha : s.heap.IsList a us.toArray) (hb : s.heap.IsList b ws.toArray) (h1 : BytesAre us as) (h2 : BytesAre ws bs) (hu : A.units + 64 < cLine) (h : Q (.bool (decide (as = bs))) s) :
    wpAny (model prog w) A (compareOp .Eq (.ref a) (.ref b)) Q E s := lists_eq ha hb h1.all2 h2.all2 (by omega) (eqr_bytes _ _) prog w E Q h
end
end Mine
namespace Mine
theorem two_no {k : Str} (hk : k ∈ [Str.ofString "unchanged", Str.ofString "a", Str.ofString "b", Str.ofString "same"]) (h : (k != Str.ofString "conflict") = false) : False := by
  have e : ∀ k ∈ [Str.ofString "unchanged", Str.ofString "a", Str.ofString "b", Str.ofString "same"], (k != Str.ofString "conflict") = true := by decide +kernel
  rw [e k hk] at h
  cases h
theorem four_1 {k : Str} {a b c : List Row} (h : b = a) : Grp.rows (.four k a b c) = c := by simp only [Grp.rows]; rw [if_pos h]
theorem four_2 {k : Str} {a b c : List Row} (h : ¬ b = a) (h2 : c = a) : Grp.rows (.four k a b c) = b := by simp only [Grp.rows]; rw [if_neg h, if_pos h2]
theorem four_3 {k : Str} {a b c : List Row} (h : ¬ b = a) (h2 : ¬ c = a) : Grp.rows (.four k a b c) = [#[60, 60, 60, 60, 60, 60, 60, 32, 111, 117, 114, 115, 10]] ++ b ++ [#[61, 61, 61, 61, 61, 61, 61, 10]] ++ c ++ [#[62, 62, 62, 62, 62, 62, 62, 32, 116, 104, 101, 105, 114, 115, 10]] := by simp only [Grp.rows]; rw [if_neg h, if_neg h2]; rfl
end Mine
namespace Mine
section
variable {prog : Program} {w : World} {A : Around} {E : Value → Shared → Prop} {s : Shared} {h₀ : Heap} {L : Addr} {m : Str → Option Value} {news news' : Led} {Q : Value → Shared → Prop}
theorem ext_rows {D b : Addr} {us ws : List Value} {rs bs : List Row} {c n2 : Nat} (F : Fr h₀ L s.heap m) (N : News h₀ L s.heap news) (hb : (b, listOf ws.toArray n2) ∈ news) (h1 : BytesAre us rs) (h2 : BytesAre ws bs) (hz : rs.length + bs.length ≤ 16777216)
    (U : Upd D (listOf us.toArray c) (listOf (us ++ ws).toArray (if ws.isEmpty then c else c + 1)) news news')
    (h : ∀ h', Fr h₀ L h' m → News h₀ L h' news' → BytesAre (us ++ ws) (rs ++ bs) → Q .none { s with heap := h' }) : wpAny (model prog w) A (call (.builtin "list.extend") [.ref D, .ref b]) Q E s := by
  obtain ⟨pre, post, rfl, rfl, a, e⟩ := U.split
  have z := N (D, listOf us.toArray c) (List.mem_append.mpr (.inr (.head _)))
  have l1 := h1.length
  have l2 := h2.length
  refine call_meets PySem.F.slot_list_extend ⟨_, z.1, rfl⟩ PySem.F.entry_list_extend (PySem.F.args_list_extend_2 _ _) (PySem.AutoSeq1.list_extend_list_list_0 D us.toArray c b ws.toArray n2 ?_ ?_ ?_)
    ⟨z.1, (N _ hb).1, h _ (F.change (Heap.SameBut.update ..) z.2.1 z.2.2) ?_ (h1.append h2)⟩
  · intro q
    have q2 := (Bool.and_eq_true_iff.mp q).2
    unfold Builtin.List.listTooLong at q2
    have := of_decide_eq_true q2
    simp only [List.size_toArray, sizeLine_eq] at this
    omega
  · simp only [List.size_toArray, sizeLine_eq]; omega
  · simp only [List.size_toArray, sizeLine_eq]; omega
  · cases ws with
    | nil =>
      have q := kl_turn0 (its := us.toArray) (its' := us.toArray) (n := c) (fun x => x ++ ([] : List Value).toArray) N a e (by simp) rfl
      simpa using q
    | cons x r =>
      have q := kl_turn (its := us.toArray) (its' := (us ++ x :: r).toArray) (n := c) (fun y => y ++ (x :: r).toArray) N a e (by simp) (by simp)
      simpa using q
theorem app_rows {D : Addr} {us : List Value} {rs : List Row} {c : Nat} {b : Row} {t : Tok} (F : Fr h₀ L s.heap m) (N : News h₀ L s.heap news) (h1 : BytesAre us rs) (hz : rs.length ≤ 16777215)
    (U : Upd D (listOf us.toArray c) (listOf (us ++ [Value.bytes b t]).toArray (c + 1)) news news')
    (h : ∀ h', Fr h₀ L h' m → News h₀ L h' news' → BytesAre (us ++ [Value.bytes b t]) (rs ++ [b]) → Q .none { s with heap := h' }) : wpAny (model prog w) A (call (.builtin "list.append") [.ref D, .bytes b t]) Q E s := by
  have e : (us ++ [Value.bytes b t]).toArray = us.toArray.push (.bytes b t) := by simp
  rw [e] at U
  exact append_K F N U (fun h' F' N' => h h' F' N' (h1.append (.cons b t .nil))) (by rw [List.size_toArray, h1.length, sizeLine_eq]; omega)
end
section
variable {prog : Program} {w : World} {A : Around} {E : Value → Shared → Prop} {s : Shared} {env : Env} {h₀ : Heap} {x : Str} {body : List Stmt} {Q : Flow → Shared → Prop}
def ExtJ (r : Addr) (news : Led) (m₀ : Str → Option Value) (stored : List Str) (x : Str) (rs : List Row) (m : Str → Option Value) (nx : Led) : Prop :=
  ∃ us c, nx = (r, listOf (List.toArray us) c) :: news ∧ BytesAre us rs ∧ ∀ z, z ≠ x → stored.contains z = false → m z = m₀ z
/-- a loop over the groups that grows the list r -/
theorem ext_loop {g r : Addr} {gs : List Value} {cg c₀ : Nat} {xs : List Grp} {news : Led} {m₀ : Str → Option Value} (f : Grp → List Row) (stored : List Str)
    (hh : A.handled = none) (hg : (g, listOf gs.toArray cg) ∈ news) (hd : DatAll news gs (xs.map Grp.dat)) (F : Fr h₀ env.locals s.heap m₀) (N : News h₀ env.locals s.heap ((r, listOf #[] c₀) :: news)) (hr' : ∀ p ∈ news, p.1 < r)
    (turn : ∀ pre d post v us c (u : Str → Option Value) h tk own, xs = pre ++ d :: post → DatIn news v d.dat → BytesAre us (pre.flatMap f) → OwnOff own (r :: news.map (·.1)) → AllLt r news →
      Fr h₀ env.locals h (fun z => if z = x then some v else if stored.contains z then u z else m₀ z) → News h₀ env.locals h ((r, listOf (List.toArray us) c) :: (news ++ own)) →
      wpAny (model prog w) A (execs body env) (InvPostG h₀ env.locals (ExtJ r news m₀ stored x (pre.flatMap f ++ f d)) own { s with heap := h, toks := tk } Q) E { s with heap := h, toks := tk })
    (done : ∀ us c (u : Str → Option Value) h tk, BytesAre us (xs.flatMap f) → Fr h₀ env.locals h (fun z => if z = x then u z else if stored.contains z then u z else m₀ z) → News h₀ env.locals h ((r, listOf (List.toArray us) c) :: news) → Q .next { s with heap := h, toks := tk }) :
    wpAny (model prog w) A (pyIter (.ref g)) (fun it s₂ => LoopAtV prog w A h₀ env x body Q E it s₂) E s := by
  have hlen : gs.length = xs.length := by rw [hd.length, List.length_map]
  refine kdl_iter (news := (r, listOf #[] c₀) :: news) (fun i m nx => ExtJ r news m₀ stored x ((xs.take i).flatMap f) m nx) hh (.tail _ hg) F N ⟨[], c₀, rfl, .nil, fun _ _ _ => rfl⟩ ?_ ?_
  · rintro i v m₁ nx h tk own hv hoff hgn ⟨us, c, rfl, hb, hm⟩ F₁ N₁
    have hi : i < xs.length := by rw [← hlen]; exact (List.getElem?_eq_some_iff.mp hv).1
    obtain ⟨v', hv', hD⟩ := hd.get (k := i) (by rw [List.length_map]; exact hi)
    have ev : v' = v := by rw [hv] at hv'; exact (Option.some.inj hv').symm
    subst ev
    rw [List.getElem_map] at hD
    have hs : xs.take (i + 1) = xs.take i ++ [xs[i]'hi] := by rw [List.take_add_one, List.getElem?_eq_getElem hi] <;> rfl
    have e : xs = xs.take i ++ (xs[i]'hi) :: xs.drop (i + 1) := by
      have h9 := List.take_append_drop (i + 1) xs
      rw [hs, List.append_assoc] at h9
      exact h9.symm
    have hoff' : OwnOff own (r :: news.map (·.1)) := by simpa using hoff
    have hfl : (xs.take (i + 1)).flatMap f = (xs.take i).flatMap f ++ f (xs[i]'hi) := by rw [hs, List.flatMap_append, List.flatMap_cons, List.flatMap_nil, List.append_nil]
    have Fm : (fun z => if z = x then some v' else m₁ z) = fun z => if z = x then some v' else if stored.contains z then m₁ z else m₀ z := by
      funext z
      by_cases z1 : z = x
      · simp [z1]
      · simp only [if_neg z1]
        cases z3 : stored.contains z with
        | true => simp
        | false => simp only [Bool.false_eq_true, if_false]; exact hm z z1 z3
    rw [Fm] at F₁
    refine wpAny_mono (turn _ _ _ _ us c m₁ h tk own e hD hb hoff' (allLt_of hr') F₁ N₁) (fun fl s₂ p => ?_) fun _ _ e => e
    have up : InvEndG h₀ env.locals (ExtJ r news m₀ stored x ((xs.take i).flatMap f ++ f (xs[i]'hi))) own { s with heap := h, toks := tk } s₂ →
        InvEndG h₀ env.locals (fun m' nx => (g, listOf gs.toArray cg) ∈ nx ∧ ExtJ r news m₀ stored x ((xs.take (i + 1)).flatMap f) m' nx) own { s with heap := h, toks := tk } s₂ := by
      rintro ⟨h', tk', m', news', nx', e', F', N', hn', ho', ha, hS⟩
      refine ⟨h', tk', m', news', nx', e', F', N', hn', ho', ha, ?_, by rw [hfl]; exact hS⟩
      obtain ⟨us', c', rfl, _⟩ := hS
      exact .tail _ hg
    cases fl with
    | ret v => exact p
    | brk => exact p
    | next => exact up p
    | cont => exact up p
  · rintro m₁ nx h tk ⟨us, c, rfl, hb, hm⟩ F₁ N₁
    rw [hlen, List.take_length] at hb
    refine done us c m₁ h tk hb ?_ N₁
    have Fm : m₁ = fun z => if z = x then m₁ z else if stored.contains z then m₁ z else m₀ z := by
      funext z
      by_cases z1 : z = x
      · simp [z1]
      · simp only [if_neg z1]
        cases z3 : stored.contains z with
        | true => simp
        | false => simp only [Bool.false_eq_true, if_false]; exact hm z z1 z3
    rw [← Fm]; exact F₁
theorem ext_end {L r : Addr} {us : List Value} {c : Nat} {stored : List Str} {m₀ m' : Str → Option Value} {rs : List Row} {news own news' : Led} {s₁ : Shared} {h' : Heap} {tk : Nat}
    (F : Fr h₀ L h' m') (N : News h₀ L h' news') (hr : (r, listOf (List.toArray us) c) ∈ news') (hn : ∀ p ∈ news, p ∈ news') (ho : ∀ p ∈ own, p ∈ news') (O : OwnOff own (r :: news.map (·.1))) (hb : BytesAre us rs)
    (hz : ∀ z, z ≠ x → (∀ p ∈ ([] : List (Str × Value)), z ≠ p.1) → stored.contains z = false → m' z = m₀ z) :
    InvEndG h₀ L (ExtJ r news m₀ stored x rs) own s₁ { s₁ with heap := h', toks := tk } := by
  refine ⟨h', tk, m', news', (r, listOf (List.toArray us) c) :: news, rfl, F, N, ?_, ho, O, us, c, rfl, hb, fun z h1 h2 => hz z h1 (fun _ hp => nomatch hp) h2⟩
  intro p hp
  rcases List.mem_cons.mp hp with rfl | hp
  · exact hr
  · exact hn p hp
end
end Mine
namespace Mine
theorem two_any {k : Str} (hk : k ∈ [Str.ofString "unchanged", Str.ofString "a", Str.ofString "b", Str.ofString "same"]) : ¬ ([Str.ofString "unchanged", Str.ofString "a", Str.ofString "b", Str.ofString "same"].any fun x => x == k) = false := by
  intro h
  rw [List.any_eq_false] at h
  exact h k hk (by simp)
theorem ne_symm' {α : Type} {a b : α} (h : ¬ a = b) : ¬ b = a := fun e => h e.symm
end Mine
theorem Mine.BytesAre.to {us : List Value} {rs rs' : List Mine.Row} (h : Mine.BytesAre us rs) (e : rs = rs') : Mine.BytesAre us rs' := e ▸ h
namespace Mine
abbrev JRet (h₀ : Heap) (L : Addr) (m : Str → Option Value) (news : Led) (s : Shared) (Q : Value → Shared → Prop) (b : Row) : Prop :=
  ∀ (t : Tok) (tk' : Nat) (h' : Heap), Fr h₀ L h' m → News h₀ L h' news → Q (.bytes b t) { s with heap := h', toks := tk' }

end Mine
end
section
open PySem PySem.W PyProof.Rows PySem.Calls
set_option Elab.async false
namespace Mine
local macro_rules | `(tactic| walk_at "getMethod bytes") => `(tactic| (k_here; first
  | with_reducible refine method_bytes slot_bytes_join type_bytes_join ?_
  | with_reducible refine method_bytes slot_bytes_find type_bytes_find ?_
  | with_reducible refine method_bytes slot_bytes_splitlines type_bytes_splitlines ?_))
local macro_rules | `(tactic| walk_at "call builtin:bytes.join") => `(tactic| (k_here; k_dflt (refine' join_bytes ?l ?b ?z ?_; (case l => kmk_list); (case b => (first | with_reducible assumption | exact BytesAre.nil | exact BytesAre.cons _ _ BytesAre.nil)); (case z => first | with_reducible assumption | decide +kernel); k_whole); intro t' k'))
local macro_rules | `(tactic| walk_at "binaryOp Add ref ref") => `(tactic| (k_here; (with_reducible show wpAny _ _ (binaryOp _ (Value.ref _) (Value.ref _)) _ _ _); k_dflt (refine' add_rows ?F ?N ?a ?b ?i ?j ?z ?_; (case F => k_asm); (case N => k_asm); (case a => kmk_list); (case b => kmk_list); (case i => (first | with_reducible assumption | exact BytesAre.nil | exact BytesAre.cons _ _ BytesAre.nil)); (case j => (first | with_reducible assumption | exact BytesAre.nil | exact BytesAre.cons _ _ BytesAre.nil)); (case z => ((try simp only [List.length_append, List.length_cons, List.length_nil] at *); omega)); k_whole); intro D' vs' h' F' N' l1 hB'; (try k_lt l1); (try k_sweep)))
local macro_rules | `(tactic| walk_at "compareOp Eq ref ref") => `(tactic| (k_here; (with_reducible show wpAny _ _ (compareOp CmpOp.Eq (Value.ref _) (Value.ref _)) _ _ _); k_dflt (refine' eq_rows ?a ?b ?i ?j ?u ?_; (case a => kmk_list); (case b => kmk_list); (case i => with_reducible assumption); (case j => with_reducible assumption); (case u => first | ktr_units | ke_room); k_whole)))
set_option maxRecDepth 100000 in
set_option maxHeartbeats 8000000 in
set_option pp.deepTerms false in
set_option pp.maxSteps 10000 in
theorem joined_spec (w : World) (p : Program) (loose : List Str) (mean : ExcName → Option Value) (mg mb : Str → Option Value) (news : Led) (g : Addr) (cg : Nat) (gs : List Value) (xs : List Grp)
    (hg : (g, listOf gs.toArray cg) ∈ news) (hd : DatAll news gs (xs.map Grp.dat)) (hok : ∀ x ∈ xs, x.ok) (hn : xs.length ≤ 12) (hJ : (joinB (xs.flatMap Grp.rows)).size ≤ 16777216) :
  ∀ (dp un : Nat) (gd : Option (List Code)) (cn : Str) (cs : Scope) (a : Addr) (ccd : Value) (cl : List (Str × Addr)) (outer : List Env) (A₀ : Around) (base h₀ : Heap) (L : Addr) (m : Str → Option Value) (s : Shared) (Q E : Value → Shared → Prop),
    Below A₀ base outer h₀ → Fr h₀ L s.heap m → (Mine.K w.params).In h₀ → News h₀ L s.heap news → Top p loose mean mg mb h₀ → cs.kind = .function →
    dp + 1 < recursionLimit → un + 200 < cLine → JRet h₀ L m news s Q (joinB (xs.flatMap Grp.rows)) →
      wpAny (model PySem.Challenge.rw_ji0039_01.row.prog w) (ktrTop dp un gd cn cs L a ccd cl outer) (call (.ref 272) [.ref g]) Q E s := by
  k_with_none
  w_top off
  k_fill
  intros
  rename_i hret
  refine wpAny_call ?_
  k_dflt cell_enter
  have hM1 := kstMark; have hM2 := kdMark
  k_with "pyIter ref" => refine Stop.out ?_
  k_steps
  refine ⟨?_⟩
  (rename Fr _ _ _ _ => lF2); (rename News _ _ _ _ => lN')
  with_unfolding_all refine' rows_loop (Str.ofString "rows") Grp.rows [] (by rfl) hg hd lF2 lN' (by with_reducible assumption) (by rfl) ?_ ?_
  · intro pre d post v r us c u h tk own hEq hD hB hOff hFr hNews; clear lF2 lN'
    have hdok : d.ok := hok d (by rw [hEq]; simp)
    have hpre : (pre.flatMap Grp.rows).length ≤ 108 := by
      have := flat_len (f := Grp.rows) (xs := pre) fun x hx => Grp.rows_len (hok x (by rw [hEq]; simp [hx]))
      have h2 : pre.length ≤ 12 := by
        have := congrArg List.length hEq
        simp only [List.length_append, List.length_cons] at this
        omega
      omega
    rcases d with ⟨k, a⟩ | ⟨k, a1, a2, a3⟩
    · obtain ⟨D, nD, tD, p1, c1, u1, rfl, hmD, hm1, hb1⟩ := two_in hD
      obtain ⟨hk, hl1⟩ := hdok
      (try k_fold)
      k_steps
      · (rename News _ _ _ _ => nE); (rename BytesAre _ _ => hBe)
        with_unfolding_all refine' rows_end (by assumption) nE ?hm ?hr ?hn ?ho ?hlt ?O ?hb ?hz
        (case hm => rfl)
        (case hr => exact .head _)
        (case hn => (intro p hp; kst_mem))
        (case ho => (intro p hp; kst_mem))
        (case hlt => (intro p hp; kd_belowNe))
        (case O => exact fun p hp q hq => hOff p hp q.1 (.tail _ (List.mem_map.mpr ⟨q, hq, rfl⟩)))
        (case hb => exact hBe)
        (case hz => kst_same)
      · exfalso
        have hne := (by assumption : (k != Str.ofString "conflict") = false)
        exact two_no hk hne
    · obtain ⟨D, nD, tD, p1, c1, u1, p2, c2, u2, p3, c3, u3, rfl, hmD, hm1, hb1, hm2, hb2, hm3, hb3⟩ := four_in hD
      obtain ⟨rfl, hl1, hl2, hl3⟩ := hdok
      (try k_fold)
      k_steps
      · (rename News _ _ _ _ => nE); (rename BytesAre _ _ => hBe)
        with_unfolding_all refine' rows_end (by assumption) nE ?hm ?hr ?hn ?ho ?hlt ?O ?hb ?hz
        (case hm => rfl)
        (case hr => exact .head _)
        (case hn => (intro p hp; kst_mem))
        (case ho => (intro p hp; kst_mem))
        (case hlt => (intro p hp; kd_belowNe))
        (case O => exact fun p hp q hq => hOff p hp q.1 (.tail _ (List.mem_map.mpr ⟨q, hq, rfl⟩)))
        (case hb => (rw [four_1 (by assumption)]; exact hBe))
        (case hz => kst_same)
      · (rename News _ _ _ _ => nE); (rename BytesAre _ _ => hBe)
        with_unfolding_all refine' rows_end (by assumption) nE ?hm ?hr ?hn ?ho ?hlt ?O ?hb ?hz
        (case hm => rfl)
        (case hr => exact .head _)
        (case hn => (intro p hp; kst_mem))
        (case ho => (intro p hp; kst_mem))
        (case hlt => (intro p hp; kd_belowNe))
        (case O => exact fun p hp q hq => hOff p hp q.1 (.tail _ (List.mem_map.mpr ⟨q, hq, rfl⟩)))
        (case hb => (rw [four_2 (by assumption) (by assumption)]; exact hBe))
        (case hz => kst_same)
      · (rename News _ _ _ _ => nE); (rename BytesAre _ _ => hBe)
        with_unfolding_all refine' rows_end (by assumption) nE ?hm ?hr ?hn ?ho ?hlt ?O ?hb ?hz
        (case hm => rfl)
        (case hr => exact .head _)
        (case hn => (intro p hp; kst_mem))
        (case ho => (intro p hp; kst_mem))
        (case hlt => (intro p hp; kd_belowNe))
        (case O => exact fun p hp q hq => hOff p hp q.1 (.tail _ (List.mem_map.mpr ⟨q, hq, rfl⟩)))
        (case hb => (rw [four_3 (by assumption) (by assumption)]; simpa only [List.append_assoc] using hBe))
        (case hz => kst_same)
  · intro r us c u h tk hB hOff hFr hNews; clear lF2 lN'
    (try k_fold)
    k_steps
    exact hret _ _ _ (by assumption) (by (rename News _ _ _ _ => nE); exact fun p hp => nE p (.tail _ hp))
end Mine
end
section
open PySem PySem.W PyProof.Rows PySem.Calls
set_option Elab.async false
namespace Mine
local macro_rules | `(tactic| walk_at "getMethod bytes") => `(tactic| (k_here; first
  | with_reducible refine method_bytes slot_bytes_join type_bytes_join ?_
  | with_reducible refine method_bytes slot_bytes_find type_bytes_find ?_
  | with_reducible refine method_bytes slot_bytes_splitlines type_bytes_splitlines ?_))
local macro_rules | `(tactic| walk_at "call builtin:bytes.join") => `(tactic| (k_here; k_dflt (refine' join_bytes ?l ?b ?z ?_; (case l => kmk_list); (case b => (first | with_reducible assumption | exact BytesAre.nil | exact BytesAre.cons _ _ BytesAre.nil)); (case z => first | with_reducible assumption | decide +kernel); k_whole); intro t' k'))
local macro_rules | `(tactic| walk_at "binaryOp Add ref ref") => `(tactic| (k_here; (with_reducible show wpAny _ _ (binaryOp _ (Value.ref _) (Value.ref _)) _ _ _); k_dflt (refine' add_rows ?F ?N ?a ?b ?i ?j ?z ?_; (case F => k_asm); (case N => k_asm); (case a => kmk_list); (case b => kmk_list); (case i => (first | with_reducible assumption | exact BytesAre.nil | exact BytesAre.cons _ _ BytesAre.nil)); (case j => (first | with_reducible assumption | exact BytesAre.nil | exact BytesAre.cons _ _ BytesAre.nil)); (case z => ((try simp only [List.length_append, List.length_cons, List.length_nil] at *); omega)); k_whole); intro D' vs' h' F' N' l1 hB'; (try k_lt l1); (try k_sweep)))
local macro_rules | `(tactic| walk_at "compareOp Eq ref ref") => `(tactic| (k_here; (with_reducible show wpAny _ _ (compareOp CmpOp.Eq (Value.ref _) (Value.ref _)) _ _ _); k_dflt (refine' eq_rows ?a ?b ?i ?j ?u ?_; (case a => kmk_list); (case b => kmk_list); (case i => with_reducible assumption); (case j => with_reducible assumption); (case u => first | ktr_units | ke_room); k_whole)))
local macro_rules | `(tactic| walk_at "call builtin:list.extend") => `(tactic| (k_here; (with_reducible show wpAny _ _ (call (Value.builtin _) [Value.ref _, Value.ref _]) _ _ _); k_dflt (refine' ext_rows ?F ?N ?b ?i ?j ?z ?U ?_; (case F => k_asm); (case N => k_asm); (case b => k_mem); (case U => k_upd); (case i => with_reducible assumption); (case j => (first | with_reducible assumption | exact BytesAre.nil | exact BytesAre.cons _ _ BytesAre.nil)); (case z => ((try simp only [List.length_append, List.length_cons, List.length_nil] at *); omega)); k_whole); intro h' F' N' hB'; (try dsimp only at N'); (try k_sweep)))
local macro_rules | `(tactic| walk_at "call builtin:list.append") => `(tactic| (k_here; (with_reducible show wpAny _ _ (call (Value.builtin _) [Value.ref _, Value.bytes _ _]) _ _ _); k_dflt (refine' app_rows ?F ?N ?i ?z ?U ?_; (case F => k_asm); (case N => k_asm); (case U => k_upd); (case i => with_reducible assumption); (case z => ((try simp only [List.length_append, List.length_cons, List.length_nil] at *); omega)); k_whole); intro h' F' N' hB'; (try dsimp only at N'); (try k_sweep)))
local macro_rules | `(tactic| k_room) => `(tactic| ktr_room)
set_option maxRecDepth 100000 in
set_option maxHeartbeats 8000000 in
set_option pp.deepTerms false in
set_option pp.maxSteps 10000 in
theorem merge3_spec (w : World) (p : Program) (loose : List Str) (mean : ExcName → Option Value) (mg mb : Str → Option Value) (news : Led) (g : Addr) (cg : Nat) (gs : List Value) (xs : List Grp)
    (hg : (g, listOf gs.toArray cg) ∈ news) (hd : DatAll news gs (xs.map Grp.dat)) (hok : ∀ x ∈ xs, x.ok) (hn : xs.length ≤ 12) (hJ : (joinB (xs.flatMap Grp.rows)).size ≤ 16777216) :
  ∀ (dp un : Nat) (gd : Option (List Code)) (cn : Str) (cs : Scope) (a : Addr) (ccd : Value) (cl : List (Str × Addr)) (outer : List Env) (A₀ : Around) (base h₀ : Heap) (L : Addr) (m : Str → Option Value) (s : Shared) (Q E : Value → Shared → Prop),
    Below A₀ base outer h₀ → Fr h₀ L s.heap m → (Mine.K w.params).In h₀ → News h₀ L s.heap news → Top p loose mean mg mb h₀ → cs.kind = .function →
    dp + 3 < recursionLimit → un + 200 < cLine → JRet h₀ L m news s Q (joinB (xs.flatMap Grp.rows)) →
      wpAny (model PySem.Challenge.rw_ji0039_01.row.prog w) (ktrTop dp un gd cn cs L a ccd cl outer) (call (.ref 35) [.ref g]) Q E s := by
  k_with_none
  w_top off
  k_fill
  intros
  rename_i hret
  refine wpAny_call ?_
  k_dflt cell_enter
  have hM1 := kstMark; have hM2 := kdMark
  k_with "pyIter ref" => refine Stop.out ?_
  k_steps
  refine ⟨?_⟩
  (rename Fr _ _ _ _ => lF2); (rename News _ _ _ _ => lN')
  with_unfolding_all refine' ext_loop Grp.rows [Str.ofString "base_lines", Str.ofString "a_lines", Str.ofString "b_lines", Str.ofString "merged_lines"] (by rfl) hg hd lF2 lN' (by with_reducible assumption) ?_ ?_
  · intro pre d post v us c u h tk own hEq hD hB hOff hAl hFr hNews; clear lF2 lN'
    have hdok : d.ok := hok d (by rw [hEq]; simp)
    have hpre : (pre.flatMap Grp.rows).length ≤ 108 := by
      have := flat_len (f := Grp.rows) (xs := pre) fun x hx => Grp.rows_len (hok x (by rw [hEq]; simp [hx]))
      have h2 : pre.length ≤ 12 := by
        have := congrArg List.length hEq
        simp only [List.length_append, List.length_cons] at this
        omega
      omega
    rcases d with ⟨k, a⟩ | ⟨k, a1, a2, a3⟩
    · obtain ⟨D, nD, tD, p1, c1, u1, rfl, hmD, hm1, hb1⟩ := two_in hD
      obtain ⟨hk, hl1⟩ := hdok
      (try k_fold)
      k_steps
      · (rename News _ _ _ _ => nE); (rename BytesAre _ _ => hBe)
        with_unfolding_all refine' ext_end (by assumption) nE ?hr ?hn ?ho hOff ?hb ?hz
        (case hb => exact hBe)
        (case hr => k_mem)
        (case hn => (intro p hp; kst_mem))
        (case ho => (intro p hp; kst_mem))
        (case hz => kst_same)
      · exact absurd (by assumption) (two_any hk)
      · exact absurd (by assumption) (two_any hk)
    · obtain ⟨D, nD, tD, p1, c1, u1, p2, c2, u2, p3, c3, u3, rfl, hmD, hm1, hb1, hm2, hb2, hm3, hb3⟩ := four_in hD
      obtain ⟨rfl, hl1, hl2, hl3⟩ := hdok
      (try k_fold)
      k_steps
      · (rename News _ _ _ _ => nE); (rename BytesAre _ _ => hBe)
        with_unfolding_all refine' ext_end (by assumption) nE ?hr ?hn ?ho hOff ?hb ?hz
        (case hb => (rw [four_1 (Eq.symm (by assumption))]; exact hBe))
        (case hr => k_mem)
        (case hn => (intro p hp; kst_mem))
        (case ho => (intro p hp; kst_mem))
        (case hz => kst_same)
      · (rename News _ _ _ _ => nE); (rename BytesAre _ _ => hBe)
        with_unfolding_all refine' ext_end (by assumption) nE ?hr ?hn ?ho hOff ?hb ?hz
        (case hb => (rw [four_2 (ne_symm' (by assumption)) (Eq.symm (by assumption))]; exact hBe))
        (case hr => k_mem)
        (case hn => (intro p hp; kst_mem))
        (case ho => (intro p hp; kst_mem))
        (case hz => kst_same)
      · (rename News _ _ _ _ => nE); (rename BytesAre _ _ => hBe)
        with_unfolding_all refine' ext_end (by assumption) nE ?hr ?hn ?ho hOff ?hb ?hz
        (case hb => exact hBe.to (by rw [four_3 (ne_symm' (by assumption)) (ne_symm' (by assumption))]; simp only [List.append_assoc]))
        (case hr => k_mem)
        (case hn => (intro p hp; kst_mem))
        (case ho => (intro p hp; kst_mem))
        (case hz => kst_same)
  · intro us c u h tk hB hFr hNews; clear lF2 lN'
    (try k_fold)
    k_steps
    exact hret _ _ _ (by assumption) (by (rename News _ _ _ _ => nE); exact fun p hp => nE p (.tail _ hp))
end Mine
end
section
open PySem PySem.W PyProof.Rows PySem.Calls
set_option Elab.async false
namespace Mine
local macro_rules | `(tactic| walk_at "getMethod bytes") => `(tactic| (k_here; first
  | with_reducible refine method_bytes slot_bytes_join type_bytes_join ?_
  | with_reducible refine method_bytes slot_bytes_find type_bytes_find ?_
  | with_reducible refine method_bytes slot_bytes_splitlines type_bytes_splitlines ?_))
local macro_rules | `(tactic| walk_at "call builtin:bytes.join") => `(tactic| (k_here; k_dflt (refine' join_bytes ?l ?b ?z ?_; (case l => kmk_list); (case b => (first | with_reducible assumption | exact BytesAre.nil | exact BytesAre.cons _ _ BytesAre.nil)); (case z => first | with_reducible assumption | decide +kernel); k_whole); intro t' k'))
local macro_rules | `(tactic| walk_at "binaryOp Add ref ref") => `(tactic| (k_here; (with_reducible show wpAny _ _ (binaryOp _ (Value.ref _) (Value.ref _)) _ _ _); k_dflt (refine' add_rows ?F ?N ?a ?b ?i ?j ?z ?_; (case F => k_asm); (case N => k_asm); (case a => kmk_list); (case b => kmk_list); (case i => (first | with_reducible assumption | exact BytesAre.nil | exact BytesAre.cons _ _ BytesAre.nil)); (case j => (first | with_reducible assumption | exact BytesAre.nil | exact BytesAre.cons _ _ BytesAre.nil)); (case z => ((try simp only [List.length_append, List.length_cons, List.length_nil] at *); omega)); k_whole); intro D' vs' h' F' N' l1 hB'; (try k_lt l1); (try k_sweep)))
local macro_rules | `(tactic| walk_at "compareOp Eq ref ref") => `(tactic| (k_here; (with_reducible show wpAny _ _ (compareOp CmpOp.Eq (Value.ref _) (Value.ref _)) _ _ _); k_dflt (refine' eq_rows ?a ?b ?i ?j ?u ?_; (case a => kmk_list); (case b => kmk_list); (case i => with_reducible assumption); (case j => with_reducible assumption); (case u => first | ktr_units | ke_room); k_whole)))
local macro_rules | `(tactic| walk_at "call builtin:list.extend") => `(tactic| (k_here; (with_reducible show wpAny _ _ (call (Value.builtin _) [Value.ref _, Value.ref _]) _ _ _); k_dflt (refine' ext_rows ?F ?N ?b ?i ?j ?z ?U ?_; (case F => k_asm); (case N => k_asm); (case b => k_mem); (case U => k_upd); (case i => with_reducible assumption); (case j => (first | with_reducible assumption | exact BytesAre.nil | exact BytesAre.cons _ _ BytesAre.nil)); (case z => ((try simp only [List.length_append, List.length_cons, List.length_nil] at *); omega)); k_whole); intro h' F' N' hB'; (try dsimp only at N'); (try k_sweep)))
local macro_rules | `(tactic| walk_at "call builtin:list.append") => `(tactic| (k_here; (with_reducible show wpAny _ _ (call (Value.builtin _) [Value.ref _, Value.bytes _ _]) _ _ _); k_dflt (refine' app_rows ?F ?N ?i ?z ?U ?_; (case F => k_asm); (case N => k_asm); (case U => k_upd); (case i => with_reducible assumption); (case z => ((try simp only [List.length_append, List.length_cons, List.length_nil] at *); omega)); k_whole); intro h' F' N' hB'; (try dsimp only at N'); (try k_sweep)))
local macro_rules | `(tactic| k_room) => `(tactic| ktr_room)
section
variable {prog : Program} {w : World} {A : Around} {E : Value → Shared → Prop} {s : Shared} {value slice : PySem.Expr} {b x : Row} {t : Tok} {h₀ : Heap} {L : Addr} {m : PySem.Str → Option Value} {news : Led} {l u : Value} {lo hi : Option Int}
theorem cut_lit {Q : Value → Shared → Prop} (hF : Fr h₀ L s.heap m) (hN : News h₀ L s.heap news) (hl : IsPart l lo) (hu : IsPart u hi) (e : KBy.picked b lo hi = x) (hz : b.size ≤ 16777216)
    (h : ∀ h' t' k, Fr h₀ L h' m → News h₀ L h' news → Q (.bytes x t') { s with heap := h', toks := k })
    (hs : subscripted slice false (.bytes b t) (.ref s.heap.objs.size) = operate [.ref s.heap.objs.size, .bytes b t] (getItem (.bytes b t) (.ref s.heap.objs.size)) := by with_unfolding_all rfl)
    (ht : ∀ r, letTemporaryGo value (.bytes b t) r = pure () := by intro _; with_unfolding_all rfl) :
    wpAny (model prog w) A (subscriptTail value slice (.bytes b t) (.ref s.heap.objs.size)) Q E { s with heap := s.heap.push { cls := .type "slice", data := .fields #[l, u, .none] } } :=
  KBc.slice_K (ks := KBw.bInts b) hF hN rfl hl hu (by rw [KBw.ints_length]; exact hz) (fun h' t' k F' N' _ => by rw [e]; exact h h' t' k F' N') hs ht
theorem truthy_lit {v : Bool} {Q : Bool → Shared → Prop} (hz : b.size ≤ 100) (e : ((b.size : Int) != 0) = v) (h : ∀ k, Q v { s with toks := k }) : wpAny (model prog w) A (truthy (.bytes b t)) Q E s :=
  truthy_bytes (by omega) (by rw [e]; exact h _)
theorem len_lit {n : Int} {Q : Value → Shared → Prop} (hz : b.size ≤ 100) (e : (b.size : Int) = n) (h : ∀ t' k, Q (.int n t') { s with toks := k }) : wpAny (model prog w) A (call (.builtin "len") [.bytes b t]) Q E s :=
  len_bytes (by omega) (by rw [e]; exact h _ _)
end
theorem place_1 : placeI #[112, 10] #[10] = 1 := by decide +kernel
theorem place_2 : placeI #[112, 10, 113, 10] #[10] = 1 := by decide +kernel
theorem place_3 : placeI #[113, 10] #[10] = 1 := by decide +kernel
theorem place_4 : placeI #[113, 10, 112] #[10] = 1 := by decide +kernel
theorem place_5 : placeI #[112] #[10] = -1 := by decide +kernel
theorem place_6 : placeI #[10, 10] #[10] = 0 := by decide +kernel
theorem place_7 : placeI #[10] #[10] = 0 := by decide +kernel
theorem place_8 : placeI #[60, 60, 60, 60, 60, 60, 60, 32, 111, 117, 114, 115, 10] #[10] = 12 := by decide +kernel
theorem pick_1 : KBy.picked #[112, 10] none (some 2) = #[112, 10] := by decide +kernel
theorem pick_2 : KBy.picked #[112, 10] (some 2) none = #[] := by decide +kernel
theorem pick_3 : KBy.picked #[112, 10, 113, 10] none (some 2) = #[112, 10] := by decide +kernel
theorem pick_4 : KBy.picked #[112, 10, 113, 10] (some 2) none = #[113, 10] := by decide +kernel
theorem pick_5 : KBy.picked #[113, 10] none (some 2) = #[113, 10] := by decide +kernel
theorem pick_6 : KBy.picked #[113, 10] (some 2) none = #[] := by decide +kernel
theorem pick_7 : KBy.picked #[113, 10, 112] none (some 2) = #[113, 10] := by decide +kernel
theorem pick_8 : KBy.picked #[113, 10, 112] (some 2) none = #[112] := by decide +kernel
theorem pick_9 : KBy.picked #[112] none (some 1) = #[112] := by decide +kernel
theorem pick_10 : KBy.picked #[112] (some 1) none = #[] := by decide +kernel
theorem pick_11 : KBy.picked #[10, 10] none (some 1) = #[10] := by decide +kernel
theorem pick_12 : KBy.picked #[10, 10] (some 1) none = #[10] := by decide +kernel
theorem pick_13 : KBy.picked #[10] none (some 1) = #[10] := by decide +kernel
theorem pick_14 : KBy.picked #[10] (some 1) none = #[] := by decide +kernel
theorem pick_15 : KBy.picked #[60, 60, 60, 60, 60, 60, 60, 32, 111, 117, 114, 115, 10] none (some 13) = #[60, 60, 60, 60, 60, 60, 60, 32, 111, 117, 114, 115, 10] := by decide +kernel
theorem pick_16 : KBy.picked #[60, 60, 60, 60, 60, 60, 60, 32, 111, 117, 114, 115, 10] (some 13) none = #[] := by decide +kernel
local macro_rules | `(tactic| walk_at "call builtin:bytes.find") => `(tactic| (k_here; (with_reducible show wpAny _ _ (call (Value.builtin _) [Value.bytes _ _, Value.bytes _ _]) _ _ _); k_dflt (refine find_bytes ?_); intro t' k'; (try simp only [place_1, place_2, place_3, place_4, place_5, place_6, place_7, place_8])))
local macro_rules | `(tactic| walk_at "truthy bytes") => `(tactic| (k_here; (with_reducible show wpAny _ _ (truthy (Value.bytes _ _)) _ _ _); (first | refine truthy_lit (v := true) (by decide) (by decide) ?_ | refine truthy_lit (v := false) (by decide) (by decide) ?_); intro k'))
local macro_rules | `(tactic| walk_at "call builtin:len") => `(tactic| (k_here; (with_reducible show wpAny _ _ (call (Value.builtin "len") [Value.bytes _ _]) _ _ _); (first | refine len_lit (n := 1) (by decide) (by decide) ?_ | refine len_lit (n := 2) (by decide) (by decide) ?_); intro t' k'))
local macro_rules | `(tactic| walk_at "subscriptTail") => `(tactic| (k_here; (with_reducible show wpAny _ _ (subscriptTail _ (Expr.Slice _ _ none _) (Value.bytes _ _) (Value.ref _)) _ _ _); (with_reducible rename Fr _ _ _ _ => F'); (with_reducible rename News _ _ _ _ => N'); (refine cut_lit (s := ⟨_, _, _, _, _⟩) F' N' (by constructor) (by constructor) (by first | exact pick_1 | exact pick_2 | exact pick_3 | exact pick_4 | exact pick_5 | exact pick_6 | exact pick_7 | exact pick_8 | exact pick_9 | exact pick_10 | exact pick_11 | exact pick_12 | exact pick_13 | exact pick_14 | exact pick_15 | exact pick_16) (by decide) ?_); intro h' t' k' F' N'))
abbrev RRet (h₀ : Heap) (L : Addr) (m : Str → Option Value) (news : Led) (s : Shared) (Q : Value → Shared → Prop) (b : Row) : Prop :=
  ∀ (D : Addr) (vs : List Value) (c : Nat) (tk' : Nat) (h' : Heap), Fr h₀ L h' m → News h₀ L h' ((D, listOf (List.toArray vs) c) :: news) → (∀ p ∈ news, p.1 < D) → BytesAre vs (rowsOf b) → Q (.ref D) { s with heap := h', toks := tk' }

theorem rows_ret {h₀ h : Heap} {L D : Addr} {m : Str → Option Value} {news : Led} {s : Shared} {Q : Value → Shared → Prop} {b : Row} {arr : Array Value} {c tk : Nat} {rs : List Row} (hret : RRet h₀ L m news s Q b) (F : Fr h₀ L h m) (N : News h₀ L h ((D, listOf arr c) :: news)) (l1 : ∀ p ∈ news, p.1 < D)
    (hb : BytesAre arr.toList rs) (e : rowsOf b = rs) : Q (.ref D) { s with heap := h, toks := tk } := hret D arr.toList c tk h F N l1 (by rw [e]; exact hb)
set_option maxRecDepth 100000 in
set_option maxHeartbeats 8000000 in
set_option pp.deepTerms false in
set_option pp.maxSteps 10000 in
theorem rows_spec (w : World) (p : Program) (loose : List Str) (mean : ExcName → Option Value) (mg mb : Str → Option Value) (news : Led) (b : Row) (t : Tok) (hb : b ∈ textT) :
  ∀ (dp un : Nat) (gd : Option (List Code)) (cn : Str) (cs : Scope) (a : Addr) (ccd : Value) (cl : List (Str × Addr)) (outer : List Env) (A₀ : Around) (base h₀ : Heap) (L : Addr) (m : Str → Option Value) (s : Shared) (Q E : Value → Shared → Prop),
    Below A₀ base outer h₀ → Fr h₀ L s.heap m → (Mine.K w.params).In h₀ → News h₀ L s.heap news → Top p loose mean mg mb h₀ → cs.kind = .function →
    dp + 3 < recursionLimit → un + 200 < cLine → RRet h₀ L m news s Q b →
      wpAny (model PySem.Challenge.rw_ji0039_01.row.prog w) (ktrTop dp un gd cn cs L a ccd cl outer) (call (.ref 258) [.bytes b t]) Q E s := by
  k_with_none
  w_top off
  k_fill
  intros
  rename_i hret
  simp only [textT, List.mem_cons, List.not_mem_nil, or_false] at hb
  rcases hb with rfl | rfl | rfl | rfl | rfl | rfl
  all_goals
    refine wpAny_call ?_
    k_dflt cell_enter
    k_steps
  · exact rows_ret hret (by assumption) (by assumption) (by assumption) .nil (by decide +kernel)
  · exact rows_ret hret (by assumption) (by assumption) (by assumption) (.cons _ _ .nil) (by decide +kernel)
  · exact rows_ret hret (by assumption) (by assumption) (by assumption) (.cons _ _ (.cons _ _ .nil)) (by decide +kernel)
  · exact rows_ret hret (by assumption) (by assumption) (by assumption) (.cons _ _ (.cons _ _ .nil)) (by decide +kernel)
  · exact rows_ret hret (by assumption) (by assumption) (by assumption) (.cons _ _ (.cons _ _ .nil)) (by decide +kernel)
  · exact rows_ret hret (by assumption) (by assumption) (by assumption) (.cons _ _ .nil) (by decide +kernel)
end Mine
end
section
open PySem PySem.W PyProof.Rows PySem.Calls
set_option Elab.async false
set_option maxRecDepth 100000
namespace Mine
def tv : Option Row → Tok → Value
  | none, _ => .none
  | some b, t => .bytes b t
def okT : Option Row → Prop
  | none => True
  | some b => b ∈ textT
section
variable {prog : Program} {w : World} {A : Around} {E : Value → Shared → Prop} {s : Shared} {h₀ : Heap} {L l : Addr} {m : Str → Option Value} {news : Led} {Q : Value → Shared → Prop}
theorem cases7 {k : Int} (h0 : 0 ≤ k) (h1 : k < 7) {P : Int → Prop} (h : P 0 ∧ P 1 ∧ P 2 ∧ P 3 ∧ P 4 ∧ P 5 ∧ P 6) : P k := by
  obtain ⟨a, b, c, d, e, f, g⟩ := h
  have : k = 0 ∨ k = 1 ∨ k = 2 ∨ k = 3 ∨ k = 4 ∨ k = 5 ∨ k = 6 := by omega
  rcases this with rfl | rfl | rfl | rfl | rfl | rfl | rfl <;> assumption
theorem item_texts {value slice : PySem.Expr} {k : Int} {u : Tok} (F : Fr h₀ L s.heap m) (X₀ : (Mine.K w.params).In h₀) (h0 : 0 ≤ k) (h1 : k < 7) (hn : Q .none s) (hb : ∀ b t, b ∈ textT → Q (.bytes b t) s)
    (hs : subscripted slice false (.ref 244) (.int k u) = operate [.ref 244, .int k u] (getItem (.ref 244) (.int k u)) := by with_unfolding_all rfl) :
    wpAny (model prog w) A (subscriptTail value slice (.ref 244) (.int k u)) Q E s := by
  have hL : h₀.IsList 244 ([.none, .bytes #[] 522, .bytes #[112, 10] 523, .bytes #[112, 10, 113, 10] 524, .bytes #[113, 10, 112] 525, .bytes #[10, 10] 526, .bytes #[60, 60, 60, 60, 60, 60, 60, 32, 111, 117, 114, 115, 10] 527] : List Value).toArray := lstK X₀ (n := 0) (dd := none) (sl := #[]) (by kernel_rfl)
  have hL' := hL.at fun o e => F.keep 244 o e
  have key : ∀ v, ([.none, .bytes #[] 522, .bytes #[112, 10] 523, .bytes #[112, 10, 113, 10] 524, .bytes #[113, 10, 112] 525, .bytes #[10, 10] 526, .bytes #[60, 60, 60, 60, 60, 60, 60, 32, 111, 117, 114, 115, 10] 527] : List Value).toArray[k.toNat]? = some v → Q v s →
      wpAny (model prog w) A (subscriptTail value slice (.ref 244) (.int k u)) Q E s := fun v hx hq => tail_any hL'.typeIs slot_list_getitem.lookup (wpAny_getItem_list hL' h0 (by omega) hx hq) hs
  have : ∃ v, ([.none, .bytes #[] 522, .bytes #[112, 10] 523, .bytes #[112, 10, 113, 10] 524, .bytes #[113, 10, 112] 525, .bytes #[10, 10] 526, .bytes #[60, 60, 60, 60, 60, 60, 60, 32, 111, 117, 114, 115, 10] 527] : List Value).toArray[k.toNat]? = some v ∧ Q v s := by
    refine cases7 (P := fun k => ∃ v, ([.none, .bytes #[] 522, .bytes #[112, 10] 523, .bytes #[112, 10, 113, 10] 524, .bytes #[113, 10, 112] 525, .bytes #[10, 10] 526, .bytes #[60, 60, 60, 60, 60, 60, 60, 32, 111, 117, 114, 115, 10] 527] : List Value).toArray[k.toNat]? = some v ∧ Q v s) h0 h1 ?_
    exact ⟨⟨_, rfl, hn⟩, ⟨_, rfl, hb _ _ (by decide)⟩, ⟨_, rfl, hb _ _ (by decide)⟩, ⟨_, rfl, hb _ _ (by decide)⟩, ⟨_, rfl, hb _ _ (by decide)⟩, ⟨_, rfl, hb _ _ (by decide)⟩, ⟨_, rfl, hb _ _ (by decide)⟩⟩
  obtain ⟨v, hx, hq⟩ := this
  exact key v hx hq
theorem cut3 {value slice : PySem.Expr} {vs zs : List Value} {tk : Tok} (F : Fr h₀ L s.heap m) (N : News h₀ L s.heap news) (hl : s.heap.IsList l vs.toArray) (e : vs.take 3 = zs) (hz : vs.length ≤ 16777216)
    (h : ∀ D h', Fr h₀ L h' m → News h₀ L h' ((D, listOf zs.toArray 0) :: news) → (∀ p ∈ news, p.1 < D) → Q (.ref D) { s with heap := h' })
    (hs : subscripted slice false (.ref l) (.ref s.heap.objs.size) = operate [.ref s.heap.objs.size, .ref l] (getItem (.ref l) (.ref s.heap.objs.size))) (ht : ∀ r, letTemporaryGo value (.ref l) r = pure ()) :
    wpAny (model prog w) A (subscriptTail value slice (.ref l) (.ref s.heap.objs.size)) Q E { s with heap := s.heap.push { cls := .type "slice", data := .fields #[.none, .int 3 tk, .none] } } := by
  refine kmk_slice F N hl .none (.int 3 tk) (fun D h' F' N' l1 => h D h' F' ?_ l1) hs ht (by rw [List.size_toArray, sizeLine_eq]; exact hz)
  have q : slicePick vs.toArray none (some 3) none = zs.toArray := by
    rw [kms_pick_eq, ← e]
    congr 1
    unfold kms_pick kms_lo kms_hi
    simp only [List.drop_zero, Nat.sub_zero]
    have : ¬ ((3 : Int) < 0) := by decide
    rw [if_neg this]
    show vs.take (min 3 vs.length) = vs.take 3
    rw [← List.take_take, List.take_length]
  rw [← q]
  exact N'
end
/-- what the first statement leaves -/
structure PickedPost (h₀ : Heap) (L : Addr) (m : Str → Option Value) (news : Led) (s : Shared) (v : Value) (s' : Shared) : Prop where
  out : ∃ pk o0 o1 o2 t0 t1 t2 c h' tk, v = .ref pk ∧ s' = { s with heap := h', toks := tk } ∧ Fr h₀ L h' m ∧ News h₀ L h' ((pk, listOf #[tv o0 t0, tv o1 t1, tv o2 t2] c) :: news) ∧ (∀ p ∈ news, p.1 < pk) ∧ okT o0 ∧ okT o1 ∧ okT o2
end Mine
namespace Mine
theorem picked_cut {M : Model} {A : Around} {E : Value → Shared → Prop} {s : Shared} {h₀ : Heap} {L : Addr} {m : Str → Option Value} {news : Led} {Q : Value → Shared → Prop} {t : Sem Value} (_F : Fr h₀ L s.heap m) (_N : News h₀ L s.heap news)
    (h2 : ∀ v s', PickedPost h₀ L m news s v s' → Q v s') (h1 : wpAny M A t (PickedPost h₀ L m news s) E s) : wpAny M A t Q E s := wpAny_mono h1 h2 (fun _ _ e => e)
end Mine
namespace Mine
theorem take3 {vs : List Value} {ns : List Int} (h : IntsAre vs ns) : vs.take 3 = [] ∨ (∃ n0 t0, vs.take 3 = [.int n0 t0]) ∨ (∃ n0 t0 n1 t1, vs.take 3 = [.int n0 t0, .int n1 t1]) ∨ ∃ n0 t0 n1 t1 n2 t2, vs.take 3 = [.int n0 t0, .int n1 t1, .int n2 t2] := by
  rcases h with _ | ⟨n0, t0, _ | ⟨n1, t1, _ | ⟨n2, t2, h⟩⟩⟩
  · exact .inl rfl
  · exact .inr (.inl ⟨_, _, rfl⟩)
  · exact .inr (.inr (.inl ⟨_, _, _, _, rfl⟩))
  · exact .inr (.inr (.inr ⟨_, _, _, _, _, _, rfl⟩))
theorem size_of {vs : List Value} {ns : List Int} (h : IntsAre vs ns) (hc : ¬ (((63 : Nat) : Int) < ((ns.length : Nat) : Int))) : vs.length ≤ 16777216 := by
  rw [h.length]; omega
theorem len_lst {prog : Program} {w : World} {A : Around} {E : Value → Shared → Prop} {s : Shared} {Q : Value → Shared → Prop} {l : Addr} {vs : List Value} {n : Int} (hl : s.heap.IsList l vs.toArray) (e : (vs.toArray.size : Int) = n) (hn : n ≤ 100)
    (h : ∀ t' k, Q (.int n t') { s with toks := k }) : wpAny (model prog w) A (call (.builtin "len") [.ref l]) Q E s :=
  len_list hl (by omega) (by rw [e]; exact h _ _)
end Mine
namespace Mine
def lawStmt : Stmt := match PySem.Challenge.pw_ji0039_01.main.body.getLast? with
  | some s => s
  | none => .Pass ⟨0, 0, 0, 0⟩
def lawBody : List Stmt := match lawStmt with
  | .FunctionDef _ _ b _ _ _ _ _ _ _ => b
  | _ => []
def lawScope : Scope := match lawStmt with
  | .FunctionDef _ _ _ _ _ _ sc _ _ _ => sc
  | _ => { kind := .function, names := [], isGenerator := false, isCoroutine := false }
end Mine
namespace Mine
def valueOf : Stmt → Expr
  | .Assign _ v _ => v
  | .Return (some v) _ => v
  | _ => .Constant .none 0 ⟨0, 0, 0, 0⟩
def lawE (k : Nat) : Expr := match lawBody.drop k with
  | s :: _ => valueOf s
  | [] => .Constant .none 0 ⟨0, 0, 0, 0⟩
theorem picked_end {h₀ h' : Heap} {L : Addr} {m : Str → Option Value} {news news' : Led} {s : Shared} {pk : Addr} {c tk : Nat} (o0 o1 o2 : Option Row) {t0 t1 t2 : Tok} (F : Fr h₀ L h' m) (N : News h₀ L h' news') (hm : (pk, listOf #[tv o0 t0, tv o1 t1, tv o2 t2] c) ∈ news') (hs : ∀ p ∈ news, p ∈ news') (hlt : ∀ p ∈ news, p.1 < pk)
    (k0 : okT o0) (k1 : okT o1) (k2 : okT o2) : PickedPost h₀ L m news s (.ref pk) { s with heap := h', toks := tk } :=
  ⟨pk, o0, o1, o2, t0, t1, t2, c, h', tk, rfl, rfl, F, fun p hp => by rcases List.mem_cons.mp hp with rfl | hp; exact N _ hm; exact N _ (hs _ hp), hlt, k0, k1, k2⟩
end Mine
namespace Mine
def lawS (k : Nat) : Stmt := match lawBody.drop k with
  | s :: _ => s
  | [] => .Pass ⟨0, 0, 0, 0⟩
abbrev mapB (jv : Value) (pk l : Addr) : Str → Option Value := fun y => if y = Str.ofString "joined" then some jv else if y = Str.ofString "picked" then some (.ref pk) else if y = Str.ofString "script" then some (.ref l) else none
end Mine
namespace Mine
abbrev blobD (w : World) (ch : Addr) (k1 k2 k3 k4 : Tok) : List DictEntry :=
  [⟨PyData.keyHash w.params (Str.ofString "_sha"), .str (Str.ofString "_sha") k1, .none⟩, ⟨PyData.keyHash w.params (Str.ofString "_chunked_text"), .str (Str.ofString "_chunked_text") k2, .ref ch⟩,
   ⟨PyData.keyHash w.params (Str.ofString "_needs_serialization"), .str (Str.ofString "_needs_serialization") k3, .bool false⟩, ⟨PyData.keyHash w.params (Str.ofString "object_format"), .str (Str.ofString "object_format") k4, .ref 79⟩]
abbrev FRet (w : World) (h₀ : Heap) (L : Addr) (m : Str → Option Value) (news : Led) (s : Shared) (Q : Value → Shared → Prop) (b : Row) (t : Tok) : Prop :=
  ∀ (ch x d : Addr) (k1 k2 k3 k4 : Tok) (n tk' : Nat) (h' : Heap), Fr h₀ L h' m → News h₀ L h' ((ch, listOf #[.bytes b t] 0) :: (x, instObj 241 d) :: (d, dictOf (blobD w ch k1 k2 k3 k4) n) :: news) → AllLt ch news → AllLt x news → AllLt d news → Q (.ref x) { s with heap := h', toks := tk' }
end Mine
namespace Mine
theorem from_ret {w : World} {h₀ h : Heap} {L : Addr} {m : Str → Option Value} {news : Led} {s : Shared} {Q : Value → Shared → Prop} {b : Row} {t : Tok} {ch x d a2 a3 a4 : Addr} {o2 o3 o4 : Obj} {k1 k2 k3 k4 : Tok} {n tk : Nat} (hret : FRet w h₀ L m news s Q b t) (F : Fr h₀ L h m)
    (N : News h₀ L h ((ch, listOf #[.bytes b t] 0) :: (a2, o2) :: (a3, o3) :: (a4, o4) :: (x, instObj 241 d) :: (d, dictOf (blobD w ch k1 k2 k3 k4) n) :: news)) (l1 : ∀ p ∈ news, p.1 < d) (l2 : @LT.lt Nat _ d x) (l3 : a2 < ch ∧ a3 < ch ∧ a4 < ch ∧ x < ch ∧ d < ch ∧ AllLt ch news) :
    Q (.ref x) { s with heap := h, toks := tk } := by
  refine hret ch x d k1 k2 k3 k4 n tk h F (fun p hp => N p ?_) l3.2.2.2.2.2 (allLt_of fun p hp => Nat.lt_trans (l1 p hp) l2) (allLt_of l1)
  rcases List.mem_cons.mp hp with rfl | hp
  · exact .head _
  · exact .tail _ (.tail _ (.tail _ (.tail _ hp)))
end Mine
end
section
open PySem PySem.W PyProof.Rows PySem.Calls
set_option Elab.async false
set_option maxRecDepth 100000
namespace Mine
def grps (ns : List Int) : List Grp := (picks ns).map grp
theorem grps_dat (ns : List Int) : (picks ns).map grpD = (grps ns).map Grp.dat := by
  unfold grps grpD; rw [List.map_map]; rfl
theorem picks_len (ns : List Int) : (picks ns).length ≤ 12 := by
  unfold picks
  rw [List.length_take]
  omega
theorem grps_len (ns : List Int) : (grps ns).length ≤ 12 := by unfold grps; rw [List.length_map]; exact picks_len ns
theorem kind_lt (n : Int) : (Int.fmod n 5).toNat < 5 := by
  have h1 := fmod_lo n (n := 5) (by decide)
  have h2 := fmod_hi n (n := 5) (by decide)
  omega
theorem kind_cases (n : Int) (h : ¬ kindOf n = Str.ofString "conflict") : kindOf n ∈ [Str.ofString "unchanged", Str.ofString "a", Str.ofString "b", Str.ofString "same"] := by
  have key : ∀ k < 5, kindT.getD k PySem.Str.empty = Str.ofString "conflict" ∨ kindT.getD k PySem.Str.empty ∈ [Str.ofString "unchanged", Str.ofString "a", Str.ofString "b", Str.ofString "same"] := by decide +kernel
  rcases key _ (kind_lt n) with e | e
  · exact absurd e h
  · exact e
theorem grp_ok (n : Int) : (grp n).ok := by
  unfold grp
  by_cases h : kindOf n = Str.ofString "conflict"
  · rw [if_pos h]; exact ⟨h, rows_size _, rows_size _, rows_size _⟩
  · rw [if_neg h]; exact ⟨kind_cases n h, rows_size _⟩
theorem grps_ok (ns : List Int) : ∀ x ∈ grps ns, x.ok := by
  intro x hx
  obtain ⟨n, _, rfl⟩ := List.mem_map.mp hx
  exact grp_ok n
theorem rowsL_small (k : Int) : ∀ b ∈ rowsL k, b.size ≤ 15 := by
  unfold rowsL
  have h : ∀ l ∈ rowsT, ∀ b ∈ l, b.size ≤ 15 := by decide
  by_cases hk : k.toNat < rowsT.length
  · rw [List.getD_eq_getElem?_getD, List.getElem?_eq_getElem hk]
    exact h _ (List.getElem_mem hk)
  · rw [List.getD_eq_getElem?_getD, List.getElem?_eq_none (by omega)]
    intro b hb
    simp at hb
theorem grp_small (n : Int) : ∀ b ∈ (grp n).rows, b.size ≤ 15 := by
  unfold grp
  by_cases h : kindOf n = Str.ofString "conflict"
  · rw [if_pos h]
    unfold Grp.rows
    dsimp only
    split
    · exact rowsL_small _
    · split
      · exact rowsL_small _
      · intro b hb
        simp only [List.mem_append, List.mem_singleton] at hb
        rcases hb with (((rfl | hb) | rfl) | hb) | rfl
        · decide
        · exact rowsL_small _ _ hb
        · decide
        · exact rowsL_small _ _ hb
        · decide
  · rw [if_neg h]; exact rowsL_small _
theorem join_size : ∀ (bs : List Row) (acc : Row) (c : Nat), (∀ b ∈ bs, b.size ≤ c) → (bs.foldl (· ++ ·) acc).size ≤ acc.size + c * bs.length
  | [], acc, c, _ => by simp
  | b :: bs, acc, c, h => by
    rw [List.foldl_cons, List.length_cons]
    have := join_size bs (acc ++ b) c fun x hx => h x (.tail _ hx)
    have hb := h b (.head _)
    rw [Array.size_append] at this
    rw [Nat.mul_add, Nat.mul_one]
    omega
theorem grps_join (ns : List Int) : (joinB ((grps ns).flatMap Grp.rows)).size ≤ 16777216 := by
  have h1 : ∀ b ∈ (grps ns).flatMap Grp.rows, b.size ≤ 15 := by
    intro b hb
    obtain ⟨x, hx, hb⟩ := List.mem_flatMap.mp hb
    obtain ⟨n, _, rfl⟩ := List.mem_map.mp hx
    exact grp_small n b hb
  have h2 := join_size ((grps ns).flatMap Grp.rows) #[] 15 h1
  have h3 := flat_len (f := Grp.rows) (xs := grps ns) fun x hx => Grp.rows_len (grps_ok ns x hx)
  have h4 := grps_len ns
  unfold joinB
  have e : (#[] : Row).size = 0 := rfl
  rw [e] at h2
  have h5 : ((grps ns).flatMap Grp.rows).length ≤ 108 := by omega
  have h6 : 15 * ((grps ns).flatMap Grp.rows).length ≤ 15 * 108 := Nat.mul_le_mul_left _ h5
  omega
end Mine
end
section
open PySem PySem.W PyProof.Rows PySem.Calls
set_option Elab.async false
namespace Mine
local macro_rules | `(tactic| walk_at "call builtin:list.extend") => `(tactic| (k_here; (with_reducible show wpAny _ _ (call (Value.builtin _) [Value.ref _, Value.ref _]) _ _ _); k_dflt (refine' ext_rows ?F ?N ?b ?i ?j ?z ?U ?_; (case F => k_asm); (case N => k_asm); (case b => k_mem); (case U => k_upd); (case i => with_reducible assumption); (case j => (first | with_reducible assumption | exact BytesAre.nil | exact BytesAre.cons _ _ BytesAre.nil)); (case z => ((try simp only [List.length_append, List.length_cons, List.length_nil] at *); omega)); k_whole); intro h' F' N' hB'; (try dsimp only at N'); (try k_sweep)))
local macro_rules | `(tactic| walk_at "call builtin:list.append") => `(tactic| (k_here; (with_reducible show wpAny _ _ (call (Value.builtin _) [Value.ref _, Value.bytes _ _]) _ _ _); k_dflt (refine' app_rows ?F ?N ?i ?z ?U ?_; (case F => k_asm); (case N => k_asm); (case U => k_upd); (case i => with_reducible assumption); (case z => ((try simp only [List.length_append, List.length_cons, List.length_nil] at *); omega)); k_whole); intro h' F' N' hB'; (try dsimp only at N'); (try k_sweep)))
local macro_rules | `(tactic| k_room) => `(tactic| ktr_room)
set_option maxRecDepth 100000 in
set_option maxHeartbeats 8000000 in
set_option pp.deepTerms false in
set_option pp.maxSteps 10000 in
theorem from_spec (w : World) (p : Program) (loose : List Str) (mean : ExcName → Option Value) (mg mb : Str → Option Value) (news : Led) (q : Addr) (b : Row) (t : Tok) (hq : (q, methodObj (.ref 129) (.ref 241)) ∈ news) :
  ∀ (dp un : Nat) (gd : Option (List Code)) (cn : Str) (cs : Scope) (a : Addr) (ccd : Value) (cl : List (Str × Addr)) (outer : List Env) (A₀ : Around) (base h₀ : Heap) (L : Addr) (m : Str → Option Value) (s : Shared) (Q E : Value → Shared → Prop),
    Below A₀ base outer h₀ → Fr h₀ L s.heap m → (Mine.K w.params).In h₀ → News h₀ L s.heap news → Top p loose mean mg mb h₀ → cs.kind = .function →
    dp + 8 < recursionLimit → un + 200 < cLine → FRet w h₀ L m news s Q b t →
      wpAny (model PySem.Challenge.rw_ji0039_01.row.prog w) (ktrTop dp un gd cn cs L a ccd cl outer) (call (.ref q) [.bytes b t]) Q E s := by
  k_with_none
  w_top off
  k_fill
  intros
  rename_i hret
  have hM1 := kstMark; have hM2 := kdMark
  k_with_none
  refine' call_meth ?k1 hq ?_
  (case k1 => k_asm)
  k_dflt cell_enter
  k_steps
  (rename News _ _ _ _ => nE)
  exact from_ret hret (by assumption) nE (by assumption) (by assumption) (by assumption)
end Mine
end
section
open PySem PySem.W PyProof.Rows PySem.Calls
set_option Elab.async false
set_option maxRecDepth 100000
namespace Mine
def BlobIs (w : World) (led : Led) (v : Value) : Option Row → Prop
  | none => v = .none
  | some b => ∃ x d ch t k1 k2 k3 k4 n, v = .ref x ∧ (x, instObj 241 d) ∈ led ∧ (d, dictOf (blobD w ch k1 k2 k3 k4) n) ∈ led ∧ (ch, listOf #[.bytes b t] 0) ∈ led
theorem BlobIs.mono {w : World} {led led' : Led} {v : Value} {o : Option Row} (h : BlobIs w led v o) (hs : ∀ p ∈ led, p ∈ led') : BlobIs w led' v o := by
  cases o with
  | none => exact h
  | some b =>
    obtain ⟨x, d, ch, t, k1, k2, k3, k4, n, e, h1, h2, h3⟩ := h
    exact ⟨x, d, ch, t, k1, k2, k3, k4, n, e, hs _ h1, hs _ h2, hs _ h3⟩
theorem comp_blob {h₀ h' : Heap} {L I C D a1 a2 a3 q : Addr} {m : Str → Option Value} {s₁ : Shared} {oI oC oD o1 o2 o3 oq : Obj} {S : Led → Prop} {rest : Value → Led → Prop} {y : Value} {tk : Nat} {nw : Led} (F : Fr h₀ L h' m)
    (N : News h₀ L h' ((a1, o1) :: (a2, o2) :: (a3, o3) :: (q, oq) :: (I, oI) :: (C, oC) :: (D, oD) :: nw)) (l1 : AllLt a1 ((q, oq) :: (I, oI) :: (C, oC) :: (D, oD) :: nw)) (l2 : AllLt a2 ((q, oq) :: (I, oI) :: (C, oC) :: (D, oD) :: nw)) (l3 : AllLt a3 ((q, oq) :: (I, oI) :: (C, oC) :: (D, oD) :: nw))
    (off : LCg.Off3 I C D nw) (hS : S ((a1, o1) :: (a2, o2) :: (a3, o3) :: nw)) (r : rest y ((a1, o1) :: (a2, o2) :: (a3, o3) :: nw)) : LCg.CompEnd h₀ L m s₁ I oI C oC D oD S rest y { s₁ with heap := h', toks := tk } := by
  have key : ∀ a, AllLt a ((q, oq) :: (I, oI) :: (C, oC) :: (D, oD) :: nw) → a ≠ I ∧ a ≠ C ∧ a ≠ D := fun a h => ⟨(Nat.ne_of_lt h.2.1).symm, (Nat.ne_of_lt h.2.2.1).symm, (Nat.ne_of_lt h.2.2.2.1).symm⟩
  refine LCg.CompEnd.intro F N ((a1, o1) :: (a2, o2) :: (a3, o3) :: nw) ?_ ⟨key _ l1, key _ l2, key _ l3, off⟩ hS r
  intro p hp
  simp only [List.mem_cons] at hp ⊢
  grind
theorem comp_none {h₀ h' : Heap} {L I C D : Addr} {m : Str → Option Value} {s₁ : Shared} {oI oC oD : Obj} {S : Led → Prop} {rest : Value → Led → Prop} {y : Value} {tk : Nat} {nw : Led} (F : Fr h₀ L h' m)
    (N : News h₀ L h' ((I, oI) :: (C, oC) :: (D, oD) :: nw)) (off : LCg.Off3 I C D nw) (hS : S nw) (r : rest y nw) : LCg.CompEnd h₀ L m s₁ I oI C oC D oD S rest y { s₁ with heap := h', toks := tk } :=
  LCg.CompEnd.intro F N nw (fun _ h => h) off hS r
/-- what the blobs' statement leaves -/
abbrev BRet (w : World) (h₀ : Heap) (L : Addr) (m : Str → Option Value) (news : Led) (s : Shared) (Q : Flow → Shared → Prop) (o0 o1 o2 : Option Row) : Prop :=
  ∀ (bl : Addr) (v0 v1 v2 : Value) (add : Led) (c tk' : Nat) (h' : Heap), Fr h₀ L h' (fun y => if y = Str.ofString "blobs" then some (.ref bl) else m y) → News h₀ L h' ((bl, listOf #[v0, v1, v2] c) :: (news ++ add)) → OwnOff add (news.map (·.1)) → (∀ p ∈ news ++ add, p.1 ≠ bl) →
    BlobIs w add v0 o0 → BlobIs w add v1 o1 → BlobIs w add v2 o2 → Q .next { s with heap := h', toks := tk' }
theorem b_ret {w : World} {h₀ h' : Heap} {L bl : Addr} {m : Str → Option Value} {news : Led} {s : Shared} {Q : Flow → Shared → Prop} {o0 o1 o2 : Option Row} {v0 v1 v2 : Value} {c tk : Nat} (add nx : Led) (hret : BRet w h₀ L m news s Q o0 o1 o2)
    (F : Fr h₀ L h' (fun y => if y = Str.ofString "blobs" then some (.ref bl) else m y)) (N : News h₀ L h' ((bl, listOf #[v0, v1, v2] c) :: nx)) (e : nx = add ++ news) (o1' : LCg.Off1 bl nx) (ha : OwnOff add (news.map (·.1)))
    (b0 : BlobIs w add v0 o0) (b1 : BlobIs w add v1 o1) (b2 : BlobIs w add v2 o2) : Q .next { s with heap := h', toks := tk } := by
  subst e
  have off : ∀ (l : Led), LCg.Off1 bl l → ∀ p ∈ l, p.1 ≠ bl := by
    intro l
    induction l with
    | nil => intro _ p hp; exact nomatch hp
    | cons x l ih =>
      intro h p hp
      rcases List.mem_cons.mp hp with rfl | hp
      · exact h.1
      · exact ih h.2 p hp
  refine hret bl v0 v1 v2 add c tk h' F (fun p hp => N p ?_) ha (fun p hp => off _ o1' p ?_) b0 b1 b2
  · rcases List.mem_cons.mp hp with rfl | hp
    · exact .head _
    · rcases List.mem_append.mp hp with hp | hp
      · exact .tail _ (List.mem_append.mpr (.inr hp))
      · exact .tail _ (List.mem_append.mpr (.inl hp))
  · rcases List.mem_append.mp hp with hp | hp
    · exact List.mem_append.mpr (.inr hp)
    · exact List.mem_append.mpr (.inl hp)
theorem off_all {a : Addr} {o : Obj} {r news : Led} (h : AllLt a news) (t : OwnOff r (news.map (·.1))) : OwnOff ((a, o) :: r) (news.map (·.1)) := by
  intro p hp b hb
  rcases List.mem_cons.mp hp with rfl | hp
  · obtain ⟨q, hq, rfl⟩ := List.mem_map.mp hb
    exact (Nat.ne_of_lt (tb_ltOf h q hq)).symm
  · exact t p hp b hb
theorem off_nil {l : List Addr} : OwnOff [] l := fun _ hp => nomatch hp
end Mine
end
section
open PySem PySem.W PyProof.Rows PySem.Calls
set_option Elab.async false
namespace Mine
local macro_rules | `(tactic| walk_at "subscriptTail") => `(tactic| (k_here; (with_reducible show wpAny _ _ (subscriptTail _ _ (Value.ref 244) (Value.int _ _)) _ _ _); k_dflt (refine' item_texts ?k1 ?k2 ?k3 ?k4 ?_ ?_; (case k1 => k_asm); (case k2 => k_asm); (case k3 => kd_idx); (case k4 => kd_idx)); rotate_left; intro b' t' hb'; rotate_left))
local macro_rules | `(tactic| walk_at "subscriptTail Name Slice ref ref") => `(tactic| (k_here; (with_reducible show wpAny _ _ (subscriptTail _ (PySem.Expr.Slice none _ none _) (Value.ref _) (Value.ref _)) _ _ _); k_dflt (refine' cut3 ?F ?N ?l ?e ?z ?_ ?s ?t; (case F => k_asm); (case N => k_asm); (case l => kmk_list); (case e => with_reducible assumption); (case z => with_reducible assumption); (case s => with_unfolding_all rfl); (case t => kmk_pure); k_whole); intro D' h' F' N' l1; (try k_lt l1); (try k_sweep)))
local macro_rules | `(tactic| walk_at "eval ListComp") => `(tactic| (k_here; k_dflt (refine LCg.ListComp_U (F₀ := by k_asm) (by with_unfolding_all rfl) (by decide) (by rfl) (by decide) (by rfl) ?_); k_dflt lcg_toSrc))
local macro_rules | `(tactic| walk_at "CompSrc") => `(tactic| (k_here; k_dflt (refine LCg.CompSrc.ledger (by rfl) (by k_asm) (by k_asm) (by k_mem) (by exact Nat.le_of_ble_eq_true rfl) ?_; intro g'; lcg_lit)))
local macro_rules | `(tactic| walk_at "call builtin:len") => `(tactic| (k_here; (with_reducible show wpAny _ _ (call (Value.builtin "len") [Value.ref _]) _ _ _); k_dflt (refine' len_lst ?l ?e ?n ?_; (case l => kmk_list); (case e => rfl); (case n => decide); k_whole); intro t' k'))
set_option maxRecDepth 100000 in
set_option maxHeartbeats 8000000 in
set_option pp.deepTerms false in
set_option pp.maxSteps 10000 in
theorem picks_eval (w : World) (p : Program) (loose : List Str) (mean : ExcName → Option Value) (mg mb : Str → Option Value) (h₀ h₁ : Heap) (L fa l : Addr) (w1 w2 : Obj) (vs : List Value) (ns : List Int) (s : Shared) (tk₁ : Nat) (Q : Value → Shared → Prop) (E : Value → Shared → Prop)
    (B : Below callerA h₀ [] h₀) (F : Fr h₀ L h₁ (fun y => if y = Str.ofString "script" then some (.ref l) else none)) (X : (Mine.K w.params).In h₀) (T : Top p loose mean mg mb h₀) (hl : h₀.IsList l vs.toArray) (hi : IntsAre vs ns) (hn : ns.length ≤ 63)
    (N : News h₀ L h₁ [(L + 1 + 1, w1), (L + 1, w2), (288, tabObj #[])]) (hL : 288 < L)
    (h : ∀ v s', PickedPost h₀ L (fun y => if y = Str.ofString "script" then some (.ref l) else none) [(L + 1 + 1, w1), (L + 1, w2), (288, tabObj #[])] { s with heap := h₁, toks := tk₁ } v s' → Q v s') :
    wpAny (model PySem.Challenge.rw_ji0039_01.row.prog w) (callerA.deeper (envOfC (Str.ofString "law") lawScope L fa (.ref 290))) (eval (lawE 0) (envOfC (Str.ofString "law") lawScope L fa (.ref 290))) Q E { s with heap := h₁, toks := tk₁ } := by
  k_with_none
  w_top off
  revert X; k_fill; intro X
  refine wpAny_mono (Q := PickedPost h₀ L (fun y => if y = Str.ofString "script" then some (.ref l) else none) [(L + 1 + 1, w1), (L + 1, w2), (288, tabObj #[])] { s with heap := h₁, toks := tk₁ }) ?_ h (fun _ _ e => e)
  conv in (occs := *) lawScope => all_goals whnf
  conv in lawE 0 => whnf
  k_with_none
  have hZ : vs.length ≤ 16777216 := by rw [hi.length]; omega
  rcases take3 hi with hT | ⟨n0, t0, hT⟩ | ⟨n0, t0, n1, t1, hT⟩ | ⟨n0, t0, n1, t1, n2, t2, hT⟩
  all_goals clear hi
  all_goals k_steps
  all_goals (rename News _ _ _ _ => nE); (first
      | (refine picked_end none none none (t0 := 0) (t1 := 0) (t2 := 0) (by assumption) nE (by exact .head _) ?_ ?_ ?_ ?_ ?_)
      | (refine picked_end none none (some _) (t0 := 0) (t1 := 0) (by assumption) nE (by exact .head _) ?_ ?_ ?_ ?_ ?_)
      | (refine picked_end none (some _) none (t0 := 0) (t2 := 0) (by assumption) nE (by exact .head _) ?_ ?_ ?_ ?_ ?_)
      | (refine picked_end none (some _) (some _) (t0 := 0) (by assumption) nE (by exact .head _) ?_ ?_ ?_ ?_ ?_)
      | (refine picked_end (some _) none none (t1 := 0) (t2 := 0) (by assumption) nE (by exact .head _) ?_ ?_ ?_ ?_ ?_)
      | (refine picked_end (some _) none (some _) (t1 := 0) (by assumption) nE (by exact .head _) ?_ ?_ ?_ ?_ ?_)
      | (refine picked_end (some _) (some _) none (t2 := 0) (by assumption) nE (by exact .head _) ?_ ?_ ?_ ?_ ?_)
      | (refine picked_end (some _) (some _) (some _)  (by assumption) nE (by exact .head _) ?_ ?_ ?_ ?_ ?_))
  all_goals first
    | exact trivial
    | (show _ ∈ textT; first | with_reducible assumption | decide)
    | (simp only [List.forall_mem_cons]; simp; done)
    | (intro p hp; simp only [List.mem_cons, List.not_mem_nil, or_false] at hp ⊢; rcases hp with rfl | rfl | rfl <;> first | (simp; done) | (refine ltN ?_; (try dsimp only); omega))
end Mine
end
section
open PySem PySem.W PyProof.Rows PySem.Calls
set_option Elab.async false
namespace Mine
theorem lt_drop {a : Addr} {x : Addr × Obj} {l : Led} (h : AllLt a (x :: l)) : AllLt a l := h.2
inductive Splits (news : Led) : Led → Led → Prop
  | nil : Splits news news []
  | cons {a : Addr × Obj} {l r : Led} : Splits news l r → Splits news (a :: l) (a :: r)
theorem Splits.eq {news : Led} : ∀ {nx add : Led}, Splits news nx add → nx = add ++ news
  | _, _, .nil => rfl
  | _, _, .cons h => congrArg _ (Splits.eq h)
theorem b_ret2 {w : World} {h₀ h' : Heap} {L bl : Addr} {m : Str → Option Value} {news : Led} {s : Shared} {Q : Flow → Shared → Prop} {o0 o1 o2 : Option Row} {v0 v1 v2 : Value} {c tk : Nat} {add nx : Led} (hret : BRet w h₀ L m news s Q o0 o1 o2)
    (N : News h₀ L h' ((bl, listOf #[v0, v1, v2] c) :: nx)) (e : Splits news nx add) (F : Fr h₀ L h' (fun y => if y = Str.ofString "blobs" then some (.ref bl) else m y)) (o1' : LCg.Off1 bl nx) (ha : OwnOff add (news.map (·.1)))
    (b0 : BlobIs w add v0 o0) (b1 : BlobIs w add v1 o1) (b2 : BlobIs w add v2 o2) : Q .next { s with heap := h', toks := tk } := b_ret add nx hret F N e.eq o1' ha b0 b1 b2
local macro_rules | `(tactic| k_room) => `(tactic| ktr_room)
local macro_rules | `(tactic| walk_at "exec Assign cons ListComp") => `(tactic| (k_here; k_dflt (refine LCg.Assign_ListComp_U (F₀ := by k_asm) (by rfl) (by with_unfolding_all rfl) (by with_unfolding_all rfl) (by decide) (by rfl) (by decide) (by rfl) (by rfl) (by rfl) ?_); k_dflt lcg_toSrc))
set_option maxRecDepth 100000 in
set_option maxHeartbeats 8000000 in
set_option pp.deepTerms false in
set_option pp.maxSteps 10000 in
theorem blobs_exec (w : World) (p : Program) (loose : List Str) (mean : ExcName → Option Value) (mg mb : Str → Option Value) (h₀ h₁ : Heap) (L fa l pk : Addr) (jv : Value) (c : Nat) (news : Led) (o0 o1 o2 : Option Row) (t0 t1 t2 : Tok) (s : Shared) (tk₁ : Nat) (Q : Flow → Shared → Prop) (E : Value → Shared → Prop)
    (B : Below callerA h₀ [] h₀) (F : Fr h₀ L h₁ (fun y => if y = Str.ofString "joined" then some jv else if y = Str.ofString "picked" then some (.ref pk) else if y = Str.ofString "script" then some (.ref l) else none)) (X : (Mine.K w.params).In h₀) (T : Top p loose mean mg mb h₀)
    (hm : (pk, listOf #[tv o0 t0, tv o1 t1, tv o2 t2] c) ∈ news) (N : News h₀ L h₁ news)
    (hret : BRet w h₀ L (fun y => if y = Str.ofString "joined" then some jv else if y = Str.ofString "picked" then some (.ref pk) else if y = Str.ofString "script" then some (.ref l) else none) news { s with heap := h₁, toks := tk₁ } Q o0 o1 o2) :
    wpAny (model PySem.Challenge.rw_ji0039_01.row.prog w) (callerA.deeper (envOfC (Str.ofString "law") lawScope L fa (.ref 290))) (exec (lawS 4) (envOfC (Str.ofString "law") lawScope L fa (.ref 290))) Q E { s with heap := h₁, toks := tk₁ } := by
  k_with_none
  w_top off
  revert X; k_fill; intro X
  conv in (occs := *) lawScope => all_goals whnf
  conv in lawS 4 => whnf
  k_with_none
  k_with "own off_go" => first | exact off_nil | (refine' off_all ?h ?t; (case h => (first | with_reducible assumption | (apply lt_drop; (first | with_reducible assumption | (apply lt_drop; (first | with_reducible assumption | (apply lt_drop; (first | with_reducible assumption | (apply lt_drop; (first | with_reducible assumption | (apply lt_drop; (first | with_reducible assumption | (apply lt_drop; (first | with_reducible assumption | (apply lt_drop; (first | with_reducible assumption | (apply lt_drop; (first | with_reducible assumption | (apply lt_drop; (first | with_reducible assumption | (apply lt_drop; (first | with_reducible assumption | (apply lt_drop; (first | with_reducible assumption | (apply lt_drop; (first | with_reducible assumption | (apply lt_drop; (first | with_reducible assumption | (apply lt_drop; (with_reducible assumption)))))))))))))))))))))))))))))); (case t => walk_at "own off_go"))
  k_with "own split_go" => first | exact Splits.nil | (refine' Splits.cons ?h; (case h => walk_at "own split_go"))
  k_with "own blob_is" => first | exact rfl | (refine' ⟨_, _, _, _, _, _, _, _, _, rfl, ?m1, ?m2, ?m3⟩; (case m1 => k_mem); (case m2 => k_mem); (case m3 => k_mem))
  k_with "subscriptTail" => (k_here; (with_reducible show wpAny _ _ (subscriptTail _ _ (Value.ref 244) (Value.int _ _)) _ _ _); k_dflt (refine' item_texts ?k1 ?k2 ?k3 ?k4 ?_ ?_; (case k1 => k_asm); (case k2 => k_asm); (case k3 => kd_idx); (case k4 => kd_idx)); rotate_left; intro b' t' hb'; rotate_left)
  k_with "subscriptTail Name Slice ref ref" => (k_here; (with_reducible show wpAny _ _ (subscriptTail _ (PySem.Expr.Slice none _ none _) (Value.ref _) (Value.ref _)) _ _ _); k_dflt (refine' cut3 ?F ?N ?l ?e ?z ?_ ?s ?t; (case F => k_asm); (case N => k_asm); (case l => kmk_list); (case e => with_reducible assumption); (case z => with_reducible assumption); (case s => with_unfolding_all rfl); (case t => kmk_pure); k_whole); intro D' h' F' N' l1; (try k_lt l1); (try k_sweep))
  k_with "eval ListComp" => (k_here; k_dflt (refine LCg.ListComp_U (F₀ := by k_asm) (by with_unfolding_all rfl) (by decide) (by rfl) (by decide) (by rfl) ?_); k_dflt lcg_toSrc)
  k_with "CompSrc" => (k_here; k_dflt (refine LCg.CompSrc.ledger (by rfl) (by k_asm) (by k_asm) (by k_mem) (by exact Nat.le_of_ble_eq_true rfl) ?_; intro g'; lcg_lit))
  k_with "call builtin:len" => (k_here; (with_reducible show wpAny _ _ (call (Value.builtin "len") [Value.ref _]) _ _ _); k_dflt (refine' len_lst ?l ?e ?n ?_; (case l => kmk_list); (case e => rfl); (case n => decide); k_whole); intro t' k')
  k_with "call ref" => (k_here; (with_reducible show wpAny _ _ (call (Value.ref _) [Value.bytes _ _]) _ _ _); k_dflt (refine' from_spec _ _ _ _ _ _ _ _ _ _ ?q _ _ _ _ _ _ _ _ _ _ _ _ _ _ _ _ _ ?B ?F ?X ?N ?T ?K ?d ?u ?_; (case B => k_asm); (case F => k_asm); (case X => k_asm); (case N => k_asm); (case T => k_asm); (case K => exact rfl); (case q => k_mem); (case d => ktr_room); (case u => ktr_units)); intro ch' x' d' k1' k2' k3' k4' n' tk' h' F' N' l1 l2 l3; (try dsimp only); (try k_fold))
  k_with "CompEnd" => ((rename News _ _ _ _ => nE); first | (refine' comp_none ?F nE ?off ?S ?_; (case F => assumption); (case off => assumption); (case S => lcg_src)) | (refine' comp_blob ?F nE ?l1 ?l2 ?l3 ?off ?S ?_; (case F => assumption); (case l1 => assumption); (case l2 => assumption); (case l3 => assumption); (case off => assumption); (case S => lcg_src)))
  have hM1 := kstMark; have hM2 := kdMark
  rcases o0 with _ | b0 <;> rcases o1 with _ | b1 <;> rcases o2 with _ | b2
  all_goals simp only [tv] at hm
  all_goals k_steps
  all_goals ((rename News _ _ _ _ => nE); refine' b_ret2 hret nE ?e ?F ?o ?ha ?b0 ?b1 ?b2; (case e => walk_at "own split_go"); (case F => assumption); (case o => assumption); (case ha => walk_at "own off_go"); (case b0 => walk_at "own blob_is"); (case b1 => walk_at "own blob_is"); (case b2 => walk_at "own blob_is"))

end Mine
end
section
open PySem PySem.W PyProof.Rows PySem.Calls
set_option Elab.async false
namespace Mine
local macro_rules | `(tactic| walk_at "getMethod bytes") => `(tactic| (k_here; first
  | with_reducible refine method_bytes slot_bytes_join type_bytes_join ?_
  | with_reducible refine method_bytes slot_bytes_find type_bytes_find ?_
  | with_reducible refine method_bytes slot_bytes_splitlines type_bytes_splitlines ?_))
local macro_rules | `(tactic| k_room) => `(tactic| ktr_room)
theorem join_one {l : Addr} {b : Row} {t u : Tok} (hl : s.heap.IsList l #[.bytes b u]) (hb : b ∈ textT) (h : ∀ t' k, Q (.bytes b t') { s with toks := k }) :
    wpAny (model prog w) A (call (.builtin "bytes.join") [.bytes #[] t, .ref l]) Q E s := by
  have hz : ∀ b ∈ textT, b.size ≤ 16777216 := by decide +kernel
  have e : joinB [b] = b := by simp [joinB]
  refine join_bytes (bs := [b]) (vs := [.bytes b u]) hl (BytesAre.cons _ _ BytesAre.nil) (by rw [e]; exact hz b hb) ?_
  rw [e]; exact h
local macro_rules | `(tactic| walk_at "call builtin:bytes.join") => `(tactic| (k_here; k_dflt (refine' join_one ?l ?b ?_; (case l => kmk_list); (case b => (with_reducible assumption)); k_whole); intro t' k'))
set_option maxRecDepth 100000 in
set_option maxHeartbeats 8000000 in
set_option pp.deepTerms false in
set_option pp.maxSteps 10000 in
theorem data_spec (w : World) (p : Program) (loose : List Str) (mean : ExcName → Option Value) (mg mb : Str → Option Value) (news : Led) (x d ch : Addr) (b : Row) (u k1 k2 k3 k4 : Tok) (n : Nat) (hb : b ∈ textT)
    (m1 : (x, instObj 241 d) ∈ news) (m2 : (d, dictOf (blobD w ch k1 k2 k3 k4) n) ∈ news) (m3 : (ch, listOf #[.bytes b u] 0) ∈ news) :
  ∀ (dp un : Nat) (gd : Option (List Code)) (cn : Str) (cs : Scope) (a : Addr) (ccd : Value) (cl : List (Str × Addr)) (outer : List Env) (A₀ : Around) (base h₀ : Heap) (L : Addr) (m : Str → Option Value) (s : Shared) (Q E : Value → Shared → Prop),
    Below A₀ base outer h₀ → Fr h₀ L s.heap m → (Mine.K w.params).In h₀ → News h₀ L s.heap news → Top p loose mean mg mb h₀ → cs.kind = .function →
    dp + 8 < recursionLimit → un + 200 < cLine → JRet h₀ L m news s Q b →
      wpAny (model PySem.Challenge.rw_ji0039_01.row.prog w) (ktrTop dp un gd cn cs L a ccd cl outer) (getAttr (.ref x) (Str.ofString "data") true) Q E s := by
  k_with_none
  w_top off
  k_fill
  intros
  rename_i hret
  have hM1 := kstMark; have hM2 := kdMark
  k_with_none
  k_dflt (refine' get_prop ?k1 ?k2 ?k3 ?k4 ?k5 ?k6 ?k7 ?k8 ?k9 ?_)
  (case k1 => k_asm)
  (case k2 => k_asm)
  (case k3 => k_inst)
  (case k4 => k_is)
  (case k5 => k_is)
  (case k6 => k_is)
  (case k7 => k_is)
  (case k8 => k_is)
  (case k9 => k_is)
  (first | k_dflt cell_enter | (refine wpAny_call ?_; k_dflt cell_enter))
  k_steps
  exact hret _ _ _ (by assumption) (by assumption)
end Mine
end
section
open PySem PySem.W PyProof.Rows PySem.Calls
set_option Elab.async false
set_option maxRecDepth 100000
namespace Mine
def LRows (led : Led) (v : Value) (rs : List Row) : Prop := ∃ a vs c, v = .ref a ∧ (a, listOf (List.toArray vs) c) ∈ led ∧ BytesAre vs rs
def LTup (led : Led) (v : Value) (rss : List (List Row)) : Prop :=
  ∃ a q0 q1 q2 r0 r1 r2, v = .ref a ∧ ((a, { cls := .type "tuple", data := .seq #[q0, q1, q2] }) : Addr × Obj) ∈ led ∧ LRows led q0 r0 ∧ LRows led q1 r1 ∧ LRows led q2 r2 ∧ rss = [r0, r1, r2]
theorem LRows.mono {led led' : Led} {v : Value} {rs : List Row} (h : LRows led v rs) (hs : ∀ p ∈ led, p ∈ led') : LRows led' v rs := by
  obtain ⟨a, vs, c, e, h1, h2⟩ := h
  exact ⟨a, vs, c, e, hs _ h1, h2⟩
theorem LTup.mono {led led' : Led} {v : Value} {rss : List (List Row)} (h : LTup led v rss) (hs : ∀ p ∈ led, p ∈ led') : LTup led' v rss := by
  obtain ⟨a, q0, q1, q2, r0, r1, r2, e, h1, h2, h3, h4, h5⟩ := h
  exact ⟨a, q0, q1, q2, r0, r1, r2, e, hs _ h1, h2.mono hs, h3.mono hs, h4.mono hs, h5⟩
theorem All2.monoL {led led' : Led} {vs : List Value} {ds : List (List (List Row))} (h : All2 (LTup led) vs ds) (hs : ∀ p ∈ led, p ∈ led') : All2 (LTup led') vs ds := by
  induction h with
  | nil => exact .nil
  | cons h _ ih => exact .cons (h.mono hs) ih
def markB : Row := #[60, 60, 60, 60, 60, 60, 60, 32, 111, 117, 114, 115]
abbrev Due := List (List (List Row)) × (Row × Bool)
/-- what has to be asked and told -/
def due (o0 o1 o2 : Option Row) (J : Row) : Due :=
  match o1, o2 with
  | none, none => ([], (#[], false))
  | some a, some b =>
    if (a.toList == b.toList) = true then ([], (a, false)) else
    match o0 with
    | none => ([[[], rowsOf a, rowsOf b]], (J, true))
    | some c => if (c.toList == a.toList) = true then ([], (b, false)) else if (c.toList == b.toList) = true then ([], (a, false)) else ([[rowsOf c, rowsOf a, rowsOf b]], (J, (placeOf J markB).isSome))
  | none, some b =>
    match o0 with
    | none => ([], (b, false))
    | some c => if (c.toList == b.toList) = true then ([], (#[], false)) else ([[rowsOf c, [], rowsOf b]], (J, true))
  | some a, none =>
    match o0 with
    | none => ([], (a, false))
    | some c => if (c.toList == a.toList) = true then ([], (#[], false)) else ([[rowsOf c, rowsOf a, []]], (J, true))
section
variable {a b c J : Row}
theorem due_nn {o : Option Row} : due o none none J = ([], (#[], false)) := rfl
theorem due_nns : due none none (some b) J = ([], (b, false)) := rfl
theorem due_nsn : due none (some a) none J = ([], (a, false)) := rfl
theorem due_ss {o : Option Row} (h : (a.toList == b.toList) = true) : due o (some a) (some b) J = ([], (a, false)) := by unfold due; exact if_pos h
theorem due_nss (h : (a.toList == b.toList) = false) : due none (some a) (some b) J = ([[[], rowsOf a, rowsOf b]], (J, true)) := by
  unfold due; exact if_neg (by rw [h]; exact Bool.false_ne_true)
theorem due_sns1 (h : (c.toList == b.toList) = true) : due (some c) none (some b) J = ([], (#[], false)) := by unfold due; exact if_pos h
theorem due_sns2 (h : (c.toList == b.toList) = false) : due (some c) none (some b) J = ([[rowsOf c, [], rowsOf b]], (J, true)) := by
  unfold due; exact if_neg (by rw [h]; exact Bool.false_ne_true)
theorem due_ssn1 (h : (c.toList == a.toList) = true) : due (some c) (some a) none J = ([], (#[], false)) := by unfold due; exact if_pos h
theorem due_ssn2 (h : (c.toList == a.toList) = false) : due (some c) (some a) none J = ([[rowsOf c, rowsOf a, []]], (J, true)) := by
  unfold due; exact if_neg (by rw [h]; exact Bool.false_ne_true)
theorem due_sss1 (h : (a.toList == b.toList) = false) (h1 : (c.toList == a.toList) = true) : due (some c) (some a) (some b) J = ([], (b, false)) := by
  simp [due, h, h1]
theorem due_sss2 (h : (a.toList == b.toList) = false) (h1 : (c.toList == a.toList) = false) (h2 : (c.toList == b.toList) = true) : due (some c) (some a) (some b) J = ([], (a, false)) := by
  simp only [due, h, h1, h2, Bool.false_eq_true, if_false, if_true]
theorem due_sss3 (h : (a.toList == b.toList) = false) (h1 : (c.toList == a.toList) = false) (h2 : (c.toList == b.toList) = false) : due (some c) (some a) (some b) J = ([[rowsOf c, rowsOf a, rowsOf b]], (J, (placeOf J markB).isSome)) := by
  simp only [due, h, h1, h2, Bool.false_eq_true, if_false]
end
abbrev TRet (h₀ : Heap) (L al g1 : Addr) (og oa : Obj) (gs : List Value) (c1 : Nat) (m : Str → Option Value) (news : Led) (s : Shared) (Q : Flow → Shared → Prop) (D : Due) : Prop :=
  ∀ (av : List Value) (ca' : Nat) (tb : Array Value) (led : Led) (u : Tok) (tk' : Nat) (h' : Heap), Fr h₀ L h' (fun y => if y = Str.ofString "clash" then some (.bool D.2.2) else if y = Str.ofString "told" then some (.bytes D.2.1 u) else m y) → News h₀ L h' led →
    (al, listOf av.toArray ca') ∈ led → (288, tabObj tb) ∈ led → (g1, listOf gs.toArray c1) ∈ led → (L + 1 + 1, og) ∈ led → (L + 1, oa) ∈ led → (∀ p ∈ news, p ∈ led) → All2 (LTup led) av D.1 → Q .next { s with heap := h', toks := tk' }
section
variable {h₀ h' : Heap} {L al g1 T : Addr} {og oa : Obj} {gs : List Value} {c1 ca tk : Nat} {m : Str → Option Value} {news led : Led} {s : Shared} {Q : Flow → Shared → Prop} {D : Due} {b : Row} {f : Bool} {u : Tok} {tb : Array Value} {q0 q1 q2 : Value} {r0 r1 r2 : List Row}
theorem t_nil (hret : TRet h₀ L al g1 og oa gs c1 m news s Q D) (N : News h₀ L h' led) (F : Fr h₀ L h' (fun y => if y = Str.ofString "clash" then some (.bool f) else if y = Str.ofString "told" then some (.bytes b u) else m y))
    (hA : (al, listOf #[] ca) ∈ led) (hT : (288, tabObj tb) ∈ led) (hg : (g1, listOf gs.toArray c1) ∈ led) (h1 : (L + 1 + 1, og) ∈ led) (h2 : (L + 1, oa) ∈ led) (hs : ∀ p ∈ news, p ∈ led) (e : D = ([], (b, f))) : Q .next { s with heap := h', toks := tk } := by
  subst e
  exact hret [] ca tb led u tk h' F N hA hT hg h1 h2 hs .nil
theorem t_one (hret : TRet h₀ L al g1 og oa gs c1 m news s Q D) (N : News h₀ L h' led) (F : Fr h₀ L h' (fun y => if y = Str.ofString "clash" then some (.bool f) else if y = Str.ofString "told" then some (.bytes b u) else m y))
    (hA : (al, listOf (#[].push (.ref T)) ca) ∈ led) (hT : (288, tabObj tb) ∈ led) (hg : (g1, listOf gs.toArray c1) ∈ led) (h1 : (L + 1 + 1, og) ∈ led) (h2 : (L + 1, oa) ∈ led) (hs : ∀ p ∈ news, p ∈ led)
    (ht : ((T, { cls := .type "tuple", data := .seq #[q0, q1, q2] }) : Addr × Obj) ∈ led) (l0 : LRows led q0 r0) (l1 : LRows led q1 r1) (l2 : LRows led q2 r2) (e : D = ([[r0, r1, r2]], (b, f))) : Q .next { s with heap := h', toks := tk } := by
  subst e
  exact hret [.ref T] ca tb led u tk h' F N hA hT hg h1 h2 hs (.cons ⟨T, q0, q1, q2, r0, r1, r2, rfl, ht, l0, l1, l2, rfl⟩ .nil)
end
abbrev DRet (h₀ : Heap) (L : Addr) (m : Str → Option Value) (news : Led) (s : Shared) (Q : Value → Shared → Prop) (D : Due) : Prop :=
  ∀ (x rl dl : Addr) (rv : List Value) (c : Nat) (led : Led) (u : Tok) (tk' : Nat) (h' : Heap), Fr h₀ L h' m → News h₀ L h' led →
    ((x, { cls := .type "tuple", data := .seq #[.ref rl, .ref dl] }) : Addr × Obj) ∈ led → (rl, listOf rv.toArray c) ∈ led → ((dl, { cls := .type "tuple", data := .seq #[.bytes D.2.1 u, .bool D.2.2] }) : Addr × Obj) ∈ led → (∀ p ∈ news, p ∈ led) → All2 (LTup led) rv D.1 → Q (.ref x) { s with heap := h', toks := tk' }
section
variable {h₀ h' : Heap} {L x rl dl T : Addr} {c tk : Nat} {m : Str → Option Value} {news led : Led} {s : Shared} {Q : Value → Shared → Prop} {D : Due} {b : Row} {f : Bool} {u : Tok} {q0 q1 q2 : Value} {r0 r1 r2 : List Row}
theorem d_nil (hret : DRet h₀ L m news s Q D) (N : News h₀ L h' led) (F : Fr h₀ L h' m) (hx : ((x, { cls := .type "tuple", data := .seq #[.ref rl, .ref dl] }) : Addr × Obj) ∈ led) (hr : (rl, listOf #[] c) ∈ led)
    (hd : ((dl, { cls := .type "tuple", data := .seq #[.bytes b u, .bool f] }) : Addr × Obj) ∈ led) (hs : ∀ p ∈ news, p ∈ led) (e : D = ([], (b, f))) : Q (.ref x) { s with heap := h', toks := tk } := by
  subst e
  exact hret x rl dl [] c led u tk h' F N hx hr hd hs .nil
theorem d_one (hret : DRet h₀ L m news s Q D) (N : News h₀ L h' led) (F : Fr h₀ L h' m) (hx : ((x, { cls := .type "tuple", data := .seq #[.ref rl, .ref dl] }) : Addr × Obj) ∈ led) (hr : (rl, listOf #[.ref T] c) ∈ led)
    (hd : ((dl, { cls := .type "tuple", data := .seq #[.bytes b u, .bool f] }) : Addr × Obj) ∈ led) (hs : ∀ p ∈ news, p ∈ led)
    (ht : ((T, { cls := .type "tuple", data := .seq #[q0, q1, q2] }) : Addr × Obj) ∈ led) (l0 : LRows led q0 r0) (l1 : LRows led q1 r1) (l2 : LRows led q2 r2) (e : D = ([[r0, r1, r2]], (b, f))) : Q (.ref x) { s with heap := h', toks := tk } := by
  subst e
  exact hret x rl dl [.ref T] c led u tk h' F N hx hr hd hs (.cons ⟨T, q0, q1, q2, r0, r1, r2, rfl, ht, l0, l1, l2, rfl⟩ .nil)
end
end Mine
end
section
open PySem PySem.W PyProof.Rows PySem.Calls
set_option Elab.async false
namespace Mine

local macro_rules | `(tactic| k_room) => `(tactic| ktr_room)

set_option maxRecDepth 100000 in
set_option maxHeartbeats 8000000 in
set_option pp.deepTerms false in
set_option pp.maxSteps 10000 in
theorem told_exec (w : World) (p : Program) (loose : List Str) (mean : ExcName → Option Value) (mg mb : Str → Option Value) (h₀ h₁ : Heap) (L fa l pk al bl g1 : Addr) (jv : Value) (ca cb c1 : Nat) (oa og : Obj) (gs : List Value) (v0 v1 v2 : Value) (news : Led) (o0 o1 o2 : Option Row) (ns : List Int) (s : Shared) (tk₁ : Nat) (Q : Flow → Shared → Prop) (E : Value → Shared → Prop)
    (B : Below callerA h₀ [] h₀) (F : Fr h₀ L h₁ (fun y => if y = Str.ofString "blobs" then some (.ref bl) else if y = Str.ofString "joined" then some jv else if y = Str.ofString "picked" then some (.ref pk) else if y = Str.ofString "script" then some (.ref l) else none)) (X : (Mine.K w.params).In h₀) (T : Top p loose mean mg mb h₀)
    (hc : CodeHd h₀ 290 288) (hL : @LT.lt Nat _ 288 L)
    (N : News h₀ L h₁ ((al, listOf #[] ca) :: (g1, listOf gs.toArray c1) :: (bl, listOf #[v0, v1, v2] cb) :: (L + 1 + 1, og) :: (L + 1, oa) :: (288, tabObj #[]) :: news))
    (hD : DatAll news gs ((picks ns).map grpD)) (hoa : oa.data = .cell (some (.ref al))) (hog : og.data = .cell (some (.ref g1)))
    (i1 : @LT.lt Nat _ (L + 1 + 1) g1) (i2 : @LT.lt Nat _ g1 al) (i3 : @Ne Nat al bl) (i4 : @Ne Nat 288 bl) (O : OwnOff news [al, 288])
    (k0 : okT o0) (k1 : okT o1) (k2 : okT o2) (b0 : BlobIs w news v0 o0) (b1 : BlobIs w news v1 o1) (b2 : BlobIs w news v2 o2)
    (hret : TRet h₀ L al g1 og oa gs c1 (fun y => if y = Str.ofString "blobs" then some (.ref bl) else if y = Str.ofString "joined" then some jv else if y = Str.ofString "picked" then some (.ref pk) else if y = Str.ofString "script" then some (.ref l) else none) news { s with heap := h₁, toks := tk₁ } Q (due o0 o1 o2 (joinB ((grps ns).flatMap Grp.rows)))) :
    wpAny (model PySem.Challenge.rw_ji0039_01.row.prog w) (callerA.deeper (envOfC (Str.ofString "law") lawScope L fa (.ref 290))) (exec (lawS 5) (envOfC (Str.ofString "law") lawScope L fa (.ref 290))) Q E { s with heap := h₁, toks := tk₁ } := by
  k_with_none
  w_top off
  revert X; k_fill; intro X
  conv in (occs := *) lawScope => all_goals whnf
  conv in lawS 5 => whnf
  k_with_none
  have hM1 := kstMark; have hM2 := kdMark
  k_with "call ref" => refine Stop.out ?_
  k_steps
  k_with_none
  k_with "own mem_go" => first | with_reducible assumption | exact List.Mem.head _ | (refine' List.mem_cons_of_mem _ ?h; (case h => walk_at "own mem_go"))
  k_with "getAttr ref" => (k_here; (with_reducible show wpAny _ _ (getAttr (Value.ref _) (PySem.Str.ofString "data") _) _ _ _); k_dflt (refine' data_spec _ _ _ _ _ _ _ _ _ _ _ _ _ _ _ _ _ ?b ?m1 ?m2 ?m3 _ _ _ _ _ _ _ _ _ _ _ _ _ _ _ _ _ ?B ?F ?X ?N ?T ?K ?d ?u ?_; (case B => k_asm); (case F => k_asm); (case X => k_asm); (case N => k_asm); (case m1 => walk_at "own mem_go"); (case m2 => walk_at "own mem_go"); (case m3 => walk_at "own mem_go"); (case b => with_reducible assumption); (case T => k_asm); (case K => exact rfl); (case d => ktr_room); (case u => ktr_units)); intro t' tk' h' F' N'; (try dsimp only); (try k_fold))
  k_with "getMethod bytes" => (k_here; first | with_reducible refine method_bytes slot_bytes_join type_bytes_join ?_ | with_reducible refine method_bytes slot_bytes_find type_bytes_find ?_ | with_reducible refine method_bytes slot_bytes_splitlines type_bytes_splitlines ?_)
  k_with "call ref" => (k_here; (with_reducible show wpAny _ _ (call (Value.ref 35) [Value.ref _]) _ _ _); k_dflt (refine' merge3_spec _ _ _ _ _ _ _ _ _ _ (grps _) ?g ?D (grps_ok _) (grps_len _) (grps_join _) _ _ _ _ _ _ _ _ _ _ _ _ _ _ _ _ _ ?B ?F ?X ?N ?T ?K ?d ?u ?_; (case B => k_asm); (case F => k_asm); (case X => k_asm); (case N => k_asm); (case T => k_asm); (case K => exact rfl); (case g => k_mem); (case D => (rw [← grps_dat]; refine DatAll.mono ?dM (by with_reducible assumption); (case dM => (intro p hp; kst_mem)))); (case d => ktr_room); (case u => ktr_units)); intro t' tk' h' F' N'; (try dsimp only); (try k_fold))
  k_with "call builtin:bytes.splitlines" => (k_here; k_dflt (refine' splitlines_bytes ?b ?F ?N ?_; (case b => with_reducible assumption); (case F => k_asm); (case N => k_asm)); intro D' vs' h' k' F' N' l1 hB'; (try k_lt l1); (try dsimp only); (try k_fold))
  k_with "compareOp In bytes bytes" => (k_here; k_dflt (refine' in_bytes ?F ?N ?h ?_; (case F => k_asm); (case N => k_asm); (case h => exact rfl); k_whole); intro h' k' F' N'; (try dsimp only); (try k_fold))
  k_with "own rows_is" => (refine' ⟨_, _, _, rfl, ?m, ?b⟩; (case m => walk_at "own mem_go"); (case b => first | with_reducible assumption | exact BytesAre.nil))
  k_with "own due_is" => first | exact due_nn | exact due_nns | exact due_nsn | exact due_ss (by with_reducible assumption) | exact due_nss (by with_reducible assumption) | exact due_sns1 (by with_reducible assumption) | exact due_sns2 (by with_reducible assumption) | exact due_ssn1 (by with_reducible assumption) | exact due_ssn2 (by with_reducible assumption) | exact due_sss1 (by with_reducible assumption) (by with_reducible assumption) | exact due_sss2 (by with_reducible assumption) (by with_reducible assumption) (by with_reducible assumption) | exact due_sss3 (by with_reducible assumption) (by with_reducible assumption) (by with_reducible assumption)
  refine ⟨?_⟩
  rcases o0 with _ | r0 <;> rcases o1 with _ | r1 <;> rcases o2 with _ | r2
  all_goals simp only [BlobIs] at b0 b1 b2
  all_goals (try (obtain ⟨x0, d0, ch0, u0, p1, p2, p3, p4, n0, rfl, m1, m2, m3⟩ := b0))
  all_goals (try (obtain ⟨x1, d1, ch1, u1, q1, q2, q3, q4, n1, rfl, m4, m5, m6⟩ := b1))
  all_goals (try (obtain ⟨x2, d2, ch2, u2, z1, z2, z3, z4, n2, rfl, m7, m8, m9⟩ := b2))
  all_goals (try (subst b0))
  all_goals (try (subst b1))
  all_goals (try (subst b2))
  all_goals simp only [okT] at k0 k1 k2
  all_goals k_steps
  all_goals ((rename News _ _ _ _ => nE); first
      | (refine' t_nil hret nE ?F ?hA ?hT ?hg ?h1 ?h2 ?hs ?e; (case F => with_reducible assumption); (case hA => walk_at "own mem_go"); (case hT => walk_at "own mem_go"); (case hg => walk_at "own mem_go"); (case h1 => walk_at "own mem_go"); (case h2 => walk_at "own mem_go"); (case hs => (intro p hp; walk_at "own mem_go")); (case e => walk_at "own due_is"))
      | (refine' t_one hret nE ?F ?hA ?hT ?hg ?h1 ?h2 ?hs ?ht ?l0 ?l1 ?l2 ?e; (case F => with_reducible assumption); (case hA => walk_at "own mem_go"); (case hT => walk_at "own mem_go"); (case hg => walk_at "own mem_go"); (case h1 => walk_at "own mem_go"); (case h2 => walk_at "own mem_go"); (case hs => (intro p hp; walk_at "own mem_go")); (case ht => walk_at "own mem_go"); (case l0 => walk_at "own rows_is"); (case l1 => walk_at "own rows_is"); (case l2 => walk_at "own rows_is"); (case e => walk_at "own due_is")))

end Mine
end
section
open PySem PySem.W PyProof.Rows PySem.Calls
set_option Elab.async false
set_option maxRecDepth 100000
namespace Mine
theorem sub_NoneType_bytes : isSubtype (.type "NoneType") (.type "bytes") = pure false := by rw [isSubtype_type]; kernel_rfl
theorem sub_bytes_NoneType : isSubtype (.type "bytes") (.type "NoneType") = pure false := by rw [isSubtype_type]; kernel_rfl
theorem gives_none_bytes (a : Array UInt8) (t : Tok) : Gives (Builtin.«NoneType.__eq__» ⟨[.none, .bytes a t], []⟩) (.val (Value.notImplemented)) :=
  .of_wp fun M A E s Q h => by obtain ⟨hp, g, d, tk, os⟩ := s; wp_walk; exact ⟨_, rfl, h⟩
theorem gives_bytes_none (b : Array UInt8) (t : Tok) : Gives (Builtin.«bytes.__eq__» ⟨[.bytes b t, .none], []⟩) (.val (Value.notImplemented)) := by
  refine .of_wp fun M A E s Q hq => ?_
  show wpAny M A (isInstance .none (.type "bytes") >>= fun r => _) _ E s
  refine wpAny_bind (wpAny_isInstance (typeIs_none s) sub_NoneType_bytes ?_)
  show wpAny M A (rule _ >>= fun _ => ret Value.notImplemented) _ E s
  exact wpAny_bind (wpAny_rule (wpAny_pure ⟨_, rfl, hq⟩))
section
variable {prog : Program} {w : World} {A : Around} {E : Value → Shared → Prop} {s : Shared} {Q : Value → Shared → Prop} {a : Array UInt8} {t : Tok}
theorem eq_bytes_none (h : Q (.bool false) s) : wpAny (model prog w) A (compareOp .Eq (.bytes a t) .none) Q E s := by
  show wpAny _ A (richCompare .Eq _ _) Q E s
  refine PySem.EqNone.wpAny_richCompare_eq_decline (Ta := "bytes") (Tb := "NoneType") (k := false) (fun s' => typeIs_bytes s' a t) (fun _ => rfl) (by decide) sub_NoneType_bytes FB.slot_bytes_eq F.slot_NoneType_eq_refl rfl ?_
  refine call_gives FB.slot_bytes_eq (typeIs_bytes s a t) FB.entry_bytes_eq (FB.args_bytes_eq_2 _ _) (gives_bytes_none a t) ?_
  exact ⟨rfl, call_gives F.slot_NoneType_eq_refl rfl F.entry_NoneType_eq (F.args_NoneType_eq_2 _ _) (gives_none_bytes a t) ⟨rfl, h⟩⟩
theorem eq_none_bytes (h : Q (.bool false) s) : wpAny (model prog w) A (compareOp .Eq .none (.bytes a t)) Q E s := by
  show wpAny _ A (richCompare .Eq _ _) Q E s
  exact PySem.EqNone.wpAny_richCompare_eq_decline (k := false) (fun _ => rfl) (fun s' => typeIs_bytes s' a t) (by decide) sub_bytes_NoneType F.slot_NoneType_eq FB.slot_bytes_eq rfl
    (call_gives F.slot_NoneType_eq rfl F.entry_NoneType_eq (F.args_NoneType_eq_2 _ _) (gives_none_bytes a t)
      ⟨rfl, call_gives FB.slot_bytes_eq (typeIs_bytes s a t) FB.entry_bytes_eq (FB.args_bytes_eq_2 _ _) (gives_bytes_none a t) ⟨rfl, h⟩⟩)
end
end Mine
end
section
open PySem PySem.W PyProof.Rows PySem.Calls
set_option Elab.async false
namespace Mine
theorem due_sss4 {a b c J : Row} (h : (a.toList == b.toList) = false) (h1 : (c.toList == a.toList) = false) (h2 : (c.toList == b.toList) = false) : due (some c) (some a) (some b) J = ([[rowsOf c, rowsOf a, rowsOf b]], (J, decide (0 ≤ placeI J #[60, 60, 60, 60, 60, 60, 60, 32, 111, 117, 114, 115]))) := by
  rw [due_sss3 h h1 h2, ← placeI_ge]; rfl
local macro_rules | `(tactic| k_room) => `(tactic| ktr_room)
set_option maxRecDepth 100000 in
set_option maxHeartbeats 8000000 in
set_option pp.deepTerms false in
set_option pp.maxSteps 10000 in
theorem due_spec (w : World) (p : Program) (loose : List Str) (mean : ExcName → Option Value) (mg mb : Str → Option Value) (news : Led) (o0 o1 o2 : Option Row) (t0 t1 t2 : Tok) (J : Row) (tJ : Tok) (k0 : okT o0) (k1 : okT o1) (k2 : okT o2) :
  ∀ (dp un : Nat) (gd : Option (List Code)) (cn : Str) (cs : Scope) (a : Addr) (ccd : Value) (cl : List (Str × Addr)) (outer : List Env) (A₀ : Around) (base h₀ : Heap) (L : Addr) (m : Str → Option Value) (s : Shared) (Q E : Value → Shared → Prop),
    Below A₀ base outer h₀ → Fr h₀ L s.heap m → (Mine.K w.params).In h₀ → News h₀ L s.heap news → Top p loose mean mg mb h₀ → cs.kind = .function →
    dp + 8 < recursionLimit → un + 300 < cLine → DRet h₀ L m news s Q (due o0 o1 o2 J) →
      wpAny (model PySem.Challenge.rw_ji0039_01.row.prog w) (ktrTop dp un gd cn cs L a ccd cl outer) (call (.ref 279) [tv o0 t0, tv o1 t1, tv o2 t2, .bytes J tJ]) Q E s := by
  k_with_none
  w_top off
  k_fill
  intros
  rename_i hret
  have hM1 := kstMark; have hM2 := kdMark
  k_with_none
  k_with "own mem_go" => first | with_reducible assumption | exact List.Mem.head _ | (refine' List.mem_cons_of_mem _ ?h; (case h => walk_at "own mem_go"))
  k_with "getAttr ref" => (k_here; (with_reducible show wpAny _ _ (getAttr (Value.ref _) (PySem.Str.ofString "data") _) _ _ _); k_dflt (refine' data_spec _ _ _ _ _ _ _ _ _ _ _ _ _ _ _ _ _ ?b ?m1 ?m2 ?m3 _ _ _ _ _ _ _ _ _ _ _ _ _ _ _ _ _ ?B ?F ?X ?N ?T ?K ?d ?u ?_; (case B => k_asm); (case F => k_asm); (case X => k_asm); (case N => k_asm); (case m1 => walk_at "own mem_go"); (case m2 => walk_at "own mem_go"); (case m3 => walk_at "own mem_go"); (case b => with_reducible assumption); (case T => k_asm); (case K => exact rfl); (case d => ktr_room); (case u => ktr_units)); intro t' tk' h' F' N'; (try dsimp only); (try k_fold))
  k_with "getMethod bytes" => (k_here; first | with_reducible refine method_bytes slot_bytes_join type_bytes_join ?_ | with_reducible refine method_bytes slot_bytes_find type_bytes_find ?_ | with_reducible refine method_bytes slot_bytes_splitlines type_bytes_splitlines ?_)
  k_with "call ref" => (k_here; (with_reducible show wpAny _ _ (call (Value.ref 35) [Value.ref _]) _ _ _); k_dflt (refine' merge3_spec _ _ _ _ _ _ _ _ _ _ (grps _) ?g ?D (grps_ok _) (grps_len _) (grps_join _) _ _ _ _ _ _ _ _ _ _ _ _ _ _ _ _ _ ?B ?F ?X ?N ?T ?K ?d ?u ?_; (case B => k_asm); (case F => k_asm); (case X => k_asm); (case N => k_asm); (case T => k_asm); (case K => exact rfl); (case g => k_mem); (case D => (rw [← grps_dat]; refine DatAll.mono ?dM (by with_reducible assumption); (case dM => (intro p hp; kst_mem)))); (case d => ktr_room); (case u => ktr_units)); intro t' tk' h' F' N'; (try dsimp only); (try k_fold))
  k_with "call builtin:bytes.splitlines" => (k_here; k_dflt (refine' splitlines_bytes ?b ?F ?N ?_; (case b => with_reducible assumption); (case F => k_asm); (case N => k_asm)); intro D' vs' h' k' F' N' l1 hB'; (try k_lt l1); (try dsimp only); (try k_fold))
  k_with "compareOp In bytes bytes" => (k_here; k_dflt (refine' in_bytes ?F ?N ?h ?_; (case F => k_asm); (case N => k_asm); (case h => exact rfl); k_whole); intro h' k' F' N'; (try dsimp only); (try k_fold))
  k_with "own rows_is" => (refine' ⟨_, _, _, rfl, ?m, ?b⟩; (case m => walk_at "own mem_go"); (case b => first | with_reducible assumption | exact BytesAre.nil))
  k_with "own due_is" => first | exact due_nn | exact due_nns | exact due_nsn | exact due_ss (by with_reducible assumption) | exact due_nss (by with_reducible assumption) | exact due_sns1 (by with_reducible assumption) | exact due_sns2 (by with_reducible assumption) | exact due_ssn1 (by with_reducible assumption) | exact due_ssn2 (by with_reducible assumption) | exact due_sss1 (by with_reducible assumption) (by with_reducible assumption) | exact due_sss2 (by with_reducible assumption) (by with_reducible assumption) (by with_reducible assumption) | exact due_sss3 (by with_reducible assumption) (by with_reducible assumption) (by with_reducible assumption)
  k_with "own due_is" => exact due_sss4 (by with_reducible assumption) (by with_reducible assumption) (by with_reducible assumption)
  k_with "call ref" => (k_here; (with_reducible show wpAny _ _ (call (Value.ref 258) [Value.bytes _ _]) _ _ _); k_dflt (refine' rows_spec _ _ _ _ _ _ _ _ _ ?b _ _ _ _ _ _ _ _ _ _ _ _ _ _ _ _ _ ?B ?F ?X ?N ?T ?K ?d ?u ?_; (case B => k_asm); (case F => k_asm); (case X => k_asm); (case N => k_asm); (case T => k_asm); (case K => exact rfl); (case b => with_reducible assumption); (case d => ktr_room); (case u => ktr_units)); intro D' vs' c' tk' h' F' N' l1 hB'; (try dsimp only); (try k_fold))
  k_with "call builtin:bytes.find" => (k_here; k_dflt (refine' find_bytes ?_; k_whole); intro t' k')
  k_with "compareOp Eq none bytes" => with_reducible refine eq_none_bytes ?_
  k_with "compareOp Eq bytes none" => with_reducible refine eq_bytes_none ?_
  rcases o0 with _ | r0 <;> rcases o1 with _ | r1 <;> rcases o2 with _ | r2
  all_goals simp only [okT] at k0 k1 k2
  all_goals simp only [tv]
  all_goals refine wpAny_call ?_
  all_goals k_dflt cell_enter
  all_goals k_steps
  all_goals ((rename News _ _ _ _ => nE); first
      | (refine' d_nil hret nE ?F ?hx ?hr ?hd ?hs ?e; (case F => with_reducible assumption); (case hx => walk_at "own mem_go"); (case hr => walk_at "own mem_go"); (case hd => walk_at "own mem_go"); (case hs => (intro p hp; walk_at "own mem_go")); (case e => walk_at "own due_is"))
      | (refine' d_one hret nE ?F ?hx ?hr ?hd ?hs ?ht ?l0 ?l1 ?l2 ?e; (case F => with_reducible assumption); (case hx => walk_at "own mem_go"); (case hr => walk_at "own mem_go"); (case hd => walk_at "own mem_go"); (case hs => (intro p hp; walk_at "own mem_go")); (case ht => walk_at "own mem_go"); (case l0 => walk_at "own rows_is"); (case l1 => walk_at "own rows_is"); (case l2 => walk_at "own rows_is"); (case e => walk_at "own due_is")))

end Mine
end
section
open PySem PySem.W PyProof.Rows PySem.Calls PySem.SeqAt
set_option Elab.async false
set_option maxRecDepth 100000
namespace Mine
section
variable {A : Around} {s : Shared} {led led' : Led}
def Holds (s : Shared) (led : Led) : Prop := ∀ p ∈ led, s.heap.get? p.1 = some p.2
theorem Holds.list {a : Addr} {vs : List Value} {n : Nat} (h : Holds s led) (m : (a, listOf vs.toArray n) ∈ led) : s.heap.IsList a vs.toArray := ⟨_, h _ m, rfl, n, rfl⟩
theorem Holds.tuple {a : Addr} {vs : List Value} {n : Nat} (h : Holds s led) (m : ((a, { cls := .type "tuple", data := .seq vs.toArray n }) : Addr × Obj) ∈ led) : s.heap.IsTuple a vs.toArray := ⟨_, h _ m, rfl, n, rfl⟩
theorem same_all {vs ws : List Value} {ds : List Dat} (h1 : DatAll led vs ds) (h2 : DatAll led' ws ds) (he : ∀ v w d, d ∈ ds → DatIn led v d → DatIn led' w d → EqAt A s v w true) :
    vs.length = ws.length ∧ ∀ j (j1 : j < vs.length) (j2 : j < ws.length), EqAt A s vs[j] ws[j] true := by
  induction ds generalizing vs ws with
  | nil => cases h1; cases h2; exact ⟨rfl, fun j j1 => absurd j1 (Nat.not_lt_zero j)⟩
  | cons d ds ih =>
    cases h1 with
    | cons a1 b1 =>
      cases h2 with
      | cons a2 b2 =>
        obtain ⟨e, hh⟩ := ih b1 b2 fun v w d hd => he v w d (.tail _ hd)
        refine ⟨by simp [e], fun j j1 j2 => ?_⟩
        cases j with
        | zero => exact he _ _ d (.head _) a1 a2
        | succ j => exact hh j (Nat.lt_of_succ_lt_succ j1) (Nat.lt_of_succ_lt_succ j2)
theorem all_true (n : Nat) : ((List.range n).all fun _ => true) = true := by simp
theorem rc_lists {l b : Addr} {vs ws : List Value} {ds : List Dat} (hl : s.heap.IsList l vs.toArray) (hb : s.heap.IsList b ws.toArray) (h1 : DatAll led vs ds) (h2 : DatAll led' ws ds) (hu : A.units < cLine)
    (he : ∀ v w d, d ∈ ds → DatIn led v d → DatIn led' w d → EqAt A.in1 s v w true) : RcAt A s (.ref l) (.ref b) true := by
  obtain ⟨e, hh⟩ := same_all h1 h2 he
  have q := RcAt.lists (e := fun _ => true) hl hb (by simpa using e) hu (fun j j1 j2 => by simpa using hh j (by simpa using j1) (by simpa using j2))
  rw [all_true] at q
  exact q
theorem rc_tuples {l b : Addr} {vs ws : List Value} {ds : List Dat} (hl : s.heap.IsTuple l vs.toArray) (hb : s.heap.IsTuple b ws.toArray) (h1 : DatAll led vs ds) (h2 : DatAll led' ws ds) (hu : A.units < cLine)
    (he : ∀ v w d, d ∈ ds → DatIn led v d → DatIn led' w d → EqAt A.in1 s v w true) : RcAt A s (.ref l) (.ref b) true := by
  obtain ⟨e, hh⟩ := same_all h1 h2 he
  have q := RcAt.tuples (e := fun _ => true) hl hb hu (fun j j1 j2 => by simpa using hh j (by simpa using j1) (by simpa using j2))
  rw [all_true, show (vs.toArray.size == ws.toArray.size) = true by simpa using e] at q
  exact q
theorem list_same (H : Holds s led) (H' : Holds s led') {v w : Value} {ds : List Dat} (h1 : DatIn led v (.list ds)) (h2 : DatIn led' w (.list ds)) (hu : A.units < cLine)
    (he : ∀ v w d, d ∈ ds → DatIn led v d → DatIn led' w d → EqAt A.in1 s v w true) : EqAt A s v w true := by
  cases h1 with
  | @list a _ _ _ m1 d1 =>
    cases h2 with
    | @list b _ _ _ m2 d2 =>
      by_cases hab : a = b
      · subst hab; exact EqAt.same _
      · exact EqAt.of_refs hab (rc_lists (H.list m1) (H'.list m2) d1 d2 hu he)
theorem tuple_same (H : Holds s led) (H' : Holds s led') {v w : Value} {ds : List Dat} (h1 : DatIn led v (.tuple ds)) (h2 : DatIn led' w (.tuple ds)) (hu : A.units < cLine)
    (he : ∀ v w d, d ∈ ds → DatIn led v d → DatIn led' w d → EqAt A.in1 s v w true) : EqAt A s v w true := by
  cases h1 with
  | @tuple a _ _ _ m1 d1 =>
    cases h2 with
    | @tuple b _ _ _ m2 d2 =>
      by_cases hab : a = b
      · subst hab; exact EqAt.same _
      · exact EqAt.of_refs hab (rc_tuples (H.tuple m1) (H'.tuple m2) d1 d2 hu he)
theorem bytes_same {v w : Value} {b : Row} (h1 : DatIn led v (.bytes b)) (h2 : DatIn led' w (.bytes b)) : EqAt A s v w true := by
  cases h1 with
  | bytes _ t =>
    cases h2 with
    | bytes _ u => simpa using eqr_bytes A s _ _ b b ⟨t, rfl⟩ ⟨u, rfl⟩
theorem str_same {v w : Value} {b : Str} (h1 : DatIn led v (.str b)) (h2 : DatIn led' w (.str b)) : EqAt A s v w true := by
  cases h1 with
  | str _ t =>
    cases h2 with
    | str _ u => simpa using EqAt.str_str b t b u (A := A) (s := s)
theorem rows_same (H : Holds s led) (H' : Holds s led') {v w : Value} {bs : List Row} (h1 : DatIn led v (bD bs)) (h2 : DatIn led' w (bD bs)) (hu : A.units < cLine) : EqAt A s v w true := by
  refine list_same H H' h1 h2 hu fun v w d hd d1 d2 => ?_
  obtain ⟨b, _, rfl⟩ := List.mem_map.mp hd
  exact bytes_same d1 d2
theorem grp_same (H : Holds s led) (H' : Holds s led') {v w : Value} {x : Grp} (h1 : DatIn led v x.dat) (h2 : DatIn led' w x.dat) (hu : A.units < cLine) (hu1 : A.in1.units < cLine) : EqAt A s v w true := by
  cases x with
  | two k a =>
    refine tuple_same H H' h1 h2 hu fun v w d hd d1 d2 => ?_
    simp only [List.mem_cons, List.not_mem_nil, or_false] at hd
    rcases hd with rfl | rfl
    · exact str_same d1 d2
    · exact rows_same H H' d1 d2 hu1
  | four k a b c =>
    refine tuple_same H H' h1 h2 hu fun v w d hd d1 d2 => ?_
    simp only [List.mem_cons, List.not_mem_nil, or_false] at hd
    rcases hd with rfl | rfl | rfl | rfl
    · exact str_same d1 d2
    · exact rows_same H H' d1 d2 hu1
    · exact rows_same H H' d1 d2 hu1
    · exact rows_same H H' d1 d2 hu1
theorem units_in1 (A : Around) : A.in1.units = A.units + 1 := rfl
end
section
variable {prog : Program} {w : World} {A : Around} {E : Value → Shared → Prop} {s : Shared} {h₀ : Heap} {L a b : Addr} {m : Str → Option Value} {news led led' : Led} {Q : Value → Shared → Prop}
theorem eq_groups {vs ws : List Value} {xs : List Grp} (N : News h₀ L s.heap news) (ha : s.heap.IsList a vs.toArray) (hb : s.heap.IsList b ws.toArray) (h1 : DatAll news vs (xs.map Grp.dat)) (h2 : DatAll news ws (xs.map Grp.dat)) (hu : A.units + 64 < cLine) (h : Q (.bool true) s) :
    wpAny (model prog w) A (compareOp .Eq (.ref a) (.ref b)) Q E s := by
  have H : Holds s news := fun p hp => (N p hp).1
  refine rc_lists ha hb h1 h2 (by omega) (fun v w d hd d1 d2 => ?_) prog w E Q h
  obtain ⟨x, _, rfl⟩ := List.mem_map.mp hd
  exact grp_same H H d1 d2 (by rw [units_in1]; omega) (by rw [units_in1, units_in1]; omega)
theorem ltup_r {v : Value} {rss : List (List Row)} (H : Holds s led) (h : LTup led v rss) : RTup s (RList s RB) v rss := by
  obtain ⟨a, q0, q1, q2, r0, r1, r2, rfl, m, ⟨a0, v0, c0, rfl, m0, b0⟩, ⟨a1, v1, c1, rfl, m1, b1⟩, ⟨a2, v2, c2, rfl, m2, b2⟩, rfl⟩ := h
  exact ⟨a, [.ref a0, .ref a1, .ref a2], rfl, H.tuple (vs := [.ref a0, .ref a1, .ref a2]) m, .cons ⟨a0, v0, rfl, H.list m0, b0.all2⟩ (.cons ⟨a1, v1, rfl, H.list m1, b1.all2⟩ (.cons ⟨a2, v2, rfl, H.list m2, b2.all2⟩ .nil))⟩
theorem all2_r {vs : List Value} {ds : List (List (List Row))} (H : Holds s led) (h : All2 (LTup led) vs ds) : All2 (RTup s (RList s RB)) vs ds := by
  induction h with
  | nil => exact .nil
  | cons h _ ih => exact .cons (ltup_r H h) ih
theorem ne_asked {vs ws : List Value} {ds : List (List (List Row))} (N : News h₀ L s.heap news) (ha : s.heap.IsList a vs.toArray) (hb : s.heap.IsList b ws.toArray) (h1 : All2 (LTup news) vs ds) (h2 : All2 (LTup news) ws ds) (hu : A.units + 64 < cLine) (h : Q (.bool false) s) :
    wpAny (model prog w) A (compareOp .NotEq (.ref a) (.ref b)) Q E s := by
  have H : Holds s news := fun p hp => (N p hp).1
  refine lists_ne ha hb (all2_r H h1) (all2_r H h2) (by omega) (eqr_tup (rlist_one rb_one) (by rw [units_in1]; omega) (eqr_list rb_one (by rw [units_in1, units_in1]; omega) (eqr_bytes _ _))) prog w E Q (by simpa using h)
theorem ne_bytes_same {d : Row} {t u : Tok} (h : Q (.bool false) s) : wpAny (model prog w) A (compareOp .NotEq (.bytes d t) (.bytes d u)) Q E s := ne_bytes (by simpa using h)
end
end Mine
end
section
open PySem PySem.W PyProof.Rows PySem.Calls
set_option Elab.async false
namespace Mine
abbrev DRet2 (h₀ : Heap) (L : Addr) (m : Str → Option Value) (news : Led) (s : Shared) (Q : Value → Shared → Prop) (D : Due) : Prop :=
  ∀ (x rl dl : Addr) (rv : List Value) (c : Nat) (led : Led) (u : Tok) (tk' : Nat) (h' : Heap), Fr h₀ L h' m →
    News h₀ L h' ((x, { cls := .type "tuple", data := .seq #[.ref rl, .ref dl] }) :: (rl, listOf rv.toArray c) :: (dl, { cls := .type "tuple", data := .seq #[.bytes D.2.1 u, .bool D.2.2] }) :: (news ++ led)) → All2 (LTup led) rv D.1 → Q (.ref x) { s with heap := h', toks := tk' }
theorem dret_of {h₀ : Heap} {L : Addr} {m : Str → Option Value} {news : Led} {s : Shared} {Q : Value → Shared → Prop} {D : Due} (h : DRet2 h₀ L m news s Q D) : DRet h₀ L m news s Q D := by
  intro x rl dl rv c led u tk' h' F N hx hr hd hs hA
  refine h x rl dl rv c led u tk' h' F (fun p hp => ?_) hA
  rcases List.mem_cons.mp hp with rfl | hp
  · exact N _ hx
  · rcases List.mem_cons.mp hp with rfl | hp
    · exact N _ hr
    · rcases List.mem_cons.mp hp with rfl | hp
      · exact N _ hd
      · rcases List.mem_append.mp hp with hp | hp
        · exact N _ (hs _ hp)
        · exact N _ hp
local macro_rules | `(tactic| walk_at "own mem_app") => `(tactic| first | with_reducible assumption | exact List.Mem.head _ | (refine' List.mem_cons_of_mem _ ?h; (case h => walk_at "own mem_app")) | (refine' List.mem_append_left _ ?h; (case h => walk_at "own mem_app")) | (refine' List.mem_append_right _ ?h; (case h => walk_at "own mem_app")))
local macro_rules | `(tactic| walk_at "call ref") => `(tactic| (k_here; (with_reducible show wpAny _ _ (call (Value.ref 279) [_, _, _, Value.bytes _ _]) _ _ _); k_dflt (refine' due_spec _ _ _ _ _ _ _ _ _ _ _ _ _ _ _ ?k0 ?k1 ?k2 _ _ _ _ _ _ _ _ _ _ _ _ _ _ _ _ _ ?B ?F ?X ?N ?T ?K ?d ?u (dret_of ?_); (case B => k_asm); (case F => k_asm); (case X => k_asm); (case N => k_asm); (case T => k_asm); (case K => exact rfl); (case k0 => with_reducible assumption); (case k1 => with_reducible assumption); (case k2 => with_reducible assumption); (case d => ktr_room); (case u => ktr_units)); intro x' rl' dl' rv' c' led' u' tk' h' F' N' hA'; (try simp only [List.cons_append, List.nil_append] at N'); (try dsimp only); (try k_fold)))
local macro_rules | `(tactic| walk_at "call ref") => `(tactic| (k_here; (with_reducible show wpAny _ _ (call (Value.ref 265) [Value.ref _]) _ _ _); k_dflt (refine' groups_spec _ _ _ _ _ _ _ _ _ _ _ _ _ _ _ _ _ _ _ _ _ _ _ _ _ _ _ ?B ?F ?X ?N ?T ?K ?l ?i ?n ?d ?u ?_; (case B => k_asm); (case F => k_asm); (case X => k_asm); (case N => k_asm); (case T => k_asm); (case K => exact rfl); (case l => k_asm); (case i => with_reducible assumption); (case n => with_reducible assumption); (case d => ktr_room); (case u => ktr_units)); intro g' c' gs' tl' tk' h' F' N' O' l1 hD'; (try simp only [List.cons_append, List.nil_append] at N'); (try simp only [List.map_cons, List.map_nil] at O'); (try k_lt l1); (try dsimp only); (try k_fold)))
local macro_rules | `(tactic| walk_at "compareOp NotEq ref ref") => `(tactic| (k_here; (with_reducible show wpAny _ _ (compareOp CmpOp.NotEq (Value.ref _) (Value.ref _)) _ _ _); k_dflt (refine' ne_asked ?N ?a ?b ?i ?j ?u ?_; (case N => k_asm); (case a => kmk_list); (case b => kmk_list); (case i => (refine' All2.monoL ?m ?mm; (case m => with_reducible assumption); (case mm => (intro p hp; walk_at "own mem_app")))); (case j => (refine' All2.monoL ?m ?mm; (case m => with_reducible assumption); (case mm => (intro p hp; walk_at "own mem_app")))); (case u => first | ktr_units | ke_room); k_whole)))
local macro_rules | `(tactic| walk_at "compareOp NotEq bytes bytes") => `(tactic| with_reducible refine ne_bytes_same ?_)
local macro_rules | `(tactic| walk_at "compareOp Eq ref ref") => `(tactic| (k_here; (with_reducible show wpAny _ _ (compareOp CmpOp.Eq (Value.ref _) (Value.ref _)) _ _ _); k_dflt (refine' eq_groups (xs := grps _) ?N ?a ?b ?i ?j ?u ?_; (case N => k_asm); (case a => kmk_list); (case b => kmk_list); (case i => (rw [← grps_dat]; refine' DatAll.mono ?mm ?m; (case m => with_reducible assumption); (case mm => (intro p hp; walk_at "own mem_app")))); (case j => (rw [← grps_dat]; refine' DatAll.mono ?mm ?m; (case m => with_reducible assumption); (case mm => (intro p hp; walk_at "own mem_app")))); (case u => first | ktr_units | ke_room); k_whole)))
local macro_rules | `(tactic| k_room) => `(tactic| ktr_room)
set_option maxRecDepth 100000 in
set_option maxHeartbeats 8000000 in
set_option pp.deepTerms false in
set_option pp.maxSteps 10000 in
theorem tail_exec (w : World) (p : Program) (loose : List Str) (mean : ExcName → Option Value) (mg mb : Str → Option Value) (h₀ h₁ : Heap) (L fa l pk al bl g1 : Addr) (J : Row) (tJ u t0 t1 t2 : Tok) (ca c1 c : Nat) (oa og : Obj) (gs av vs : List Value) (tb : Array Value) (led : Led) (o0 o1 o2 : Option Row) (ns : List Int) (s : Shared) (tk₁ : Nat) (Q : Flow → Shared → Prop) (E : Value → Shared → Prop)
    (B : Below callerA h₀ [] h₀) (F : Fr h₀ L h₁ (fun y => if y = Str.ofString "clash" then some (.bool (due o0 o1 o2 J).2.2) else if y = Str.ofString "told" then some (.bytes (due o0 o1 o2 J).2.1 u) else if y = Str.ofString "blobs" then some (.ref bl) else if y = Str.ofString "joined" then some (.bytes J tJ) else if y = Str.ofString "picked" then some (.ref pk) else if y = Str.ofString "script" then some (.ref l) else none)) (X : (Mine.K w.params).In h₀) (T : Top p loose mean mg mb h₀)
    (hl : h₀.IsList l vs.toArray) (hi : IntsAre vs ns) (hn : ns.length ≤ 63) (hL : @LT.lt Nat _ 288 L)
    (N : News h₀ L h₁ ((al, listOf av.toArray ca) :: (g1, listOf gs.toArray c1) :: (pk, listOf #[tv o0 t0, tv o1 t1, tv o2 t2] c) :: (L + 1 + 1, og) :: (L + 1, oa) :: (288, tabObj tb) :: led))
    (hD : DatAll led gs ((picks ns).map grpD)) (hA : All2 (LTup led) av (due o0 o1 o2 J).1) (hoa : oa.data = .cell (some (.ref al))) (hog : og.data = .cell (some (.ref g1)))
    (k0 : okT o0) (k1 : okT o1) (k2 : okT o2)
    (hret : ∀ (m : Str → Option Value) (led' : Led) (tk' : Nat) (h' : Heap), Fr h₀ L h' m → News h₀ L h' led' → (288, tabObj tb) ∈ led' → Q (.ret (.bool true)) { s with heap := h', toks := tk' }) :
    wpAny (model PySem.Challenge.rw_ji0039_01.row.prog w) (callerA.deeper (envOfC (Str.ofString "law") lawScope L fa (.ref 290))) (execs (lawBody.drop 6) (envOfC (Str.ofString "law") lawScope L fa (.ref 290))) Q E { s with heap := h₁, toks := tk₁ } := by
  k_with_none
  w_top off
  revert X; k_fill; intro X
  conv in (occs := *) lawScope => all_goals whnf
  conv in lawBody.drop 6 => whnf
  k_with_none
  have hM1 := kstMark; have hM2 := kdMark
  k_steps
  all_goals first
    | ((rename News _ _ _ _ => nE); refine' hret _ _ _ _ ?F nE ?m; (case F => assumption); (case m => walk_at "own mem_app"))
    | (exfalso; have q := (by assumption : ((due o0 o1 o2 J).2.2 != (due o0 o1 o2 J).2.2) = true); simp at q; done)
end Mine
end
section
open PySem PySem.W PyProof.Rows PySem.Calls
set_option Elab.async false
namespace Mine
local macro_rules | `(tactic| walk_at "own mem_app") => `(tactic| first | with_reducible assumption | exact List.Mem.head _ | (refine' List.mem_cons_of_mem _ ?h; (case h => walk_at "own mem_app")) | (refine' List.mem_append_left _ ?h; (case h => walk_at "own mem_app")) | (refine' List.mem_append_right _ ?h; (case h => walk_at "own mem_app")))
set_option maxRecDepth 100000 in
set_option maxHeartbeats 8000000 in
set_option pp.deepTerms false in
set_option pp.maxSteps 10000 in
theorem law_mid (w : World) (p : Program) (loose : List Str) (mean : ExcName → Option Value) (mg mb : Str → Option Value) (h₀ h₁ : Heap) (L fa l pk al g1 g2 : Addr) (tJ t0 t1 t2 : Tok) (ca c1 c2 c : Nat) (oa og : Obj) (gs1 gs2 vs : List Value) (tl1 tl2 : Led) (o0 o1 o2 : Option Row) (ns : List Int) (s : Shared) (tk₁ : Nat) (Q : Flow → Shared → Prop) (E : Value → Shared → Prop)
    (B : Below callerA h₀ [] h₀) (F : Fr h₀ L h₁ (fun y => if y = Str.ofString "joined" then some (.bytes (joinB ((grps ns).flatMap Grp.rows)) tJ) else if y = Str.ofString "picked" then some (.ref pk) else if y = Str.ofString "script" then some (.ref l) else none)) (X : (Mine.K w.params).In h₀) (T : Top p loose mean mg mb h₀)
    (hc : CodeHd h₀ 290 288) (hl : h₀.IsList l vs.toArray) (hi : IntsAre vs ns) (hn : ns.length ≤ 63) (hL : @LT.lt Nat _ 288 L)
    (N : News h₀ L h₁ ((al, listOf #[] ca) :: (g2, listOf gs2.toArray c2) :: (g1, listOf gs1.toArray c1) :: (pk, listOf #[tv o0 t0, tv o1 t1, tv o2 t2] c) :: (L + 1 + 1, og) :: (L + 1, oa) :: (288, tabObj #[]) :: (tl1 ++ tl2)))
    (hD : DatAll tl1 gs1 ((picks ns).map grpD)) (hoa : oa.data = .cell (some (.ref al))) (hog : og.data = .cell (some (.ref g1)))
    (a1 : @LT.lt Nat _ (L + 1 + 1) pk ∧ @LT.lt Nat _ (L + 1) pk ∧ @LT.lt Nat _ 288 pk)
    (a2 : @LT.lt Nat _ pk g1 ∧ @LT.lt Nat _ (L + 1 + 1) g1 ∧ @LT.lt Nat _ (L + 1) g1 ∧ @LT.lt Nat _ 288 g1)
    (a4 : @LT.lt Nat _ g2 al ∧ @LT.lt Nat _ g1 al ∧ @LT.lt Nat _ pk al ∧ @LT.lt Nat _ (L + 1 + 1) al ∧ @LT.lt Nat _ (L + 1) al ∧ @LT.lt Nat _ 288 al ∧ AllLt al (tl1 ++ tl2))
    (a3 : @LT.lt Nat _ g1 g2 ∧ @LT.lt Nat _ pk g2 ∧ @LT.lt Nat _ (L + 1 + 1) g2 ∧ @LT.lt Nat _ (L + 1) g2 ∧ @LT.lt Nat _ 288 g2 ∧ AllLt g2 tl1)
    (O1 : OwnOff tl1 [g1, pk, L + 1 + 1, L + 1, 288]) (O2 : OwnOff tl2 (g2 :: g1 :: pk :: (L + 1 + 1) :: (L + 1) :: 288 :: tl1.map (·.1)))
    (k0 : okT o0) (k1 : okT o1) (k2 : okT o2)
    (hret : ∀ (m : Str → Option Value) (led' : Led) (tb : Array Value) (tk' : Nat) (h' : Heap), Fr h₀ L h' m → News h₀ L h' led' → (288, tabObj tb) ∈ led' → Q (.ret (.bool true)) { s with heap := h', toks := tk' }) :
    wpAny (model PySem.Challenge.rw_ji0039_01.row.prog w) (callerA.deeper (envOfC (Str.ofString "law") lawScope L fa (.ref 290))) (exec (lawS 4) (envOfC (Str.ofString "law") lawScope L fa (.ref 290)))
      (fun f s' => match f with
        | .next => wpAny (model PySem.Challenge.rw_ji0039_01.row.prog w) (callerA.deeper (envOfC (Str.ofString "law") lawScope L fa (.ref 290))) (execs (lawBody.drop 5) (envOfC (Str.ofString "law") lawScope L fa (.ref 290))) Q E s'
        | f => Q f s') E { s with heap := h₁, toks := tk₁ } := by
  have X0 := X
  clear X
  k_with_none
  w_top off
  revert X0; k_fill; intro X
  conv in (occs := *) lawScope => all_goals whnf
  conv in lawBody.drop 5 => whnf
  k_with_none
  have hM1 := kstMark; have hM2 := kdMark
  refine blobs_exec w p loose mean mg mb h₀ h₁ L fa l pk _ c _ o0 o1 o2 t0 t1 t2 s tk₁ _ _ B F X T (by walk_at "own mem_app") N ?_
  intro bl v0 v1 v2 add cb tkb hb Fb Nb Ob nb b0 b1 b2
  (try dsimp only)
  k_with "exec Assign cons Call" => refine Stop.out ?_
  k_with "exec Assign" => refine Stop.out ?_
  clear F N
  k_steps
  refine ⟨?_⟩
  k_with_none
  have n1 : @Ne Nat al bl := nb (al, listOf #[] ca) (by walk_at "own mem_app")
  have n2 : @Ne Nat 288 bl := nb (288, tabObj #[]) (by walk_at "own mem_app")
  have hOwn : OwnOff ((g2, listOf gs2.toArray c2) :: (pk, listOf #[tv o0 t0, tv o1 t1, tv o2 t2] c) :: (tl1 ++ tl2 ++ add)) [al, 288] := by
    intro q hq b hb
    have hb : b = al ∨ b = 288 := by simpa using hb
    rcases List.mem_cons.mp hq with rfl | hq
    · rcases hb with rfl | rfl
      · exact Nat.ne_of_lt a4.1
      · exact Nat.ne_of_gt a3.2.2.2.2.1
    · rcases List.mem_cons.mp hq with rfl | hq
      · rcases hb with rfl | rfl
        · exact Nat.ne_of_lt a4.2.2.1
        · exact Nat.ne_of_gt a1.2.2
      · rcases List.mem_append.mp hq with hq | hq
        · rcases hb with rfl | rfl
          · exact Nat.ne_of_lt (tb_ltOf a4.2.2.2.2.2.2 q hq)
          · rcases List.mem_append.mp hq with hq | hq
            · exact O1 q hq _ (by simp)
            · exact O2 q hq _ (by simp)
        · rcases hb with rfl | rfl
          · exact Ob q hq _ (by simp)
          · exact Ob q hq _ (by simp)
  refine told_exec w p loose mean mg mb h₀ hb L fa l pk al bl g1 _ ca cb c1 oa og gs1 v0 v1 v2 ((g2, listOf gs2.toArray c2) :: (pk, listOf #[tv o0 t0, tv o1 t1, tv o2 t2] c) :: (tl1 ++ tl2 ++ add)) o0 o1 o2 ns s tkb _ _ B Fb X T hc hL ?_
    (DatAll.mono (fun q hq => .tail _ (.tail _ (List.mem_append_left _ (List.mem_append_left _ hq)))) hD) hoa hog a2.2.1 a4.2.1 n1 n2 hOwn k0 k1 k2
    (b0.mono fun q hq => .tail _ (.tail _ (List.mem_append_right _ hq))) (b1.mono fun q hq => .tail _ (.tail _ (List.mem_append_right _ hq))) (b2.mono fun q hq => .tail _ (.tail _ (List.mem_append_right _ hq))) ?_
  · intro q hq
    refine Nb q ?_
    simp only [List.mem_cons, List.mem_append] at hq ⊢
    grind
  intro av ca' tb led u tkc hcp Fc Nc hA hT hg hq1 hq2 hs hAll
  (try dsimp only)
  refine tail_exec w p loose mean mg mb h₀ hcp L fa l pk al bl g1 _ _ u t0 t1 t2 ca' c1 c oa og gs1 av vs tb led o0 o1 o2 ns s tkc _ _ B Fc X T hl hi hn hL ?_
    (DatAll.mono (fun q hq => hs _ (.tail _ (.tail _ (List.mem_append_left _ (List.mem_append_left _ hq))))) hD) hAll hoa hog k0 k1 k2 ?_
  · intro q hq
    refine Nc q ?_
    simp only [List.mem_cons] at hq
    rcases hq with rfl | rfl | rfl | rfl | rfl | rfl | hq
    · exact hA
    · exact hg
    · exact hs _ (.tail _ (.head _))
    · exact hq1
    · exact hq2
    · exact hT
    · exact hq
  · intro m led' tk' h' F' N' m'
    (try dsimp only)
    exact hret m led' tb tk' h' F' N' m'
end Mine
end
section
open PySem PySem.W PyProof.Rows PySem.Calls
set_option Elab.async false
namespace Mine
local macro_rules | `(tactic| walk_at "call ref") => `(tactic| (k_here; (with_reducible show wpAny _ _ (call (Value.ref 265) [Value.ref _]) _ _ _); k_dflt (refine' groups_spec _ _ _ _ _ _ _ _ _ _ _ _ _ _ _ _ _ _ _ _ _ _ _ _ _ _ _ ?B ?F ?X ?N ?T ?K ?l ?i ?n ?d ?u ?_; (case B => k_asm); (case F => k_asm); (case X => k_asm); (case N => k_asm); (case T => k_asm); (case K => exact rfl); (case l => k_asm); (case i => with_reducible assumption); (case n => with_reducible assumption); (case d => ktr_room); (case u => ktr_units)); intro g' c' gs' tl' tk' h' F' N' O' l1 hD'; (try simp only [List.cons_append, List.nil_append] at N'); (try simp only [List.map_cons, List.map_nil] at O'); (try k_lt l1); (try dsimp only); (try k_fold)))
local macro_rules | `(tactic| walk_at "call ref") => `(tactic| (k_here; (with_reducible show wpAny _ _ (call (Value.ref 272) [Value.ref _]) _ _ _); k_dflt (refine' joined_spec _ _ _ _ _ _ _ _ _ _ (grps _) ?g ?D (grps_ok _) (grps_len _) (grps_join _) _ _ _ _ _ _ _ _ _ _ _ _ _ _ _ _ _ ?B ?F ?X ?N ?T ?K ?d ?u ?_; (case B => k_asm); (case F => k_asm); (case X => k_asm); (case N => k_asm); (case T => k_asm); (case K => exact rfl); (case g => k_mem); (case D => (rw [← grps_dat]; refine DatAll.mono ?dM (by with_reducible assumption); (case dM => (intro p hp; kst_mem)))); (case d => ktr_room); (case u => ktr_units)); intro t' tk' h' F' N'; (try dsimp only); (try k_fold)))
local macro_rules | `(tactic| walk_at "exec Assign cons ListComp") => `(tactic| refine Stop.out ?_)
set_option maxRecDepth 100000 in
set_option maxHeartbeats 8000000 in
set_option pp.deepTerms false in
set_option pp.maxSteps 10000 in
theorem law_body (w : World) (p : Program) (loose : List Str) (mean : ExcName → Option Value) (mg mb : Str → Option Value) (h₀ h₁ : Heap) (L fa l : Addr) (w1 w2 : Obj) (vs : List Value) (ns : List Int) (s : Shared) (tk₁ : Nat) (Q : Flow → Shared → Prop) (E : Value → Shared → Prop)
    (B : Below callerA h₀ [] h₀) (F : Fr h₀ L h₁ (fun y => if y = Str.ofString "script" then some (.ref l) else none)) (X : (Mine.K w.params).In h₀) (T : Top p loose mean mg mb h₀) (hl : h₀.IsList l vs.toArray) (hi : IntsAre vs ns) (hn : ns.length ≤ 63)
    (hc : CodeHd h₀ 290 288) (N : News h₀ L h₁ [(L + 1 + 1, w1), (L + 1, w2), (288, tabObj #[])]) (hL : @LT.lt Nat _ 288 L) (hw1 : w1.data = .cell none) (hw2 : w2.data = .cell none)
    (hret : ∀ (m : Str → Option Value) (led' : Led) (tb : Array Value) (tk' : Nat) (h' : Heap), Fr h₀ L h' m → News h₀ L h' led' → (288, tabObj tb) ∈ led' → Q (.ret (.bool true)) { s with heap := h', toks := tk' }) :
    wpAny (model PySem.Challenge.rw_ji0039_01.row.prog w) (callerA.deeper (envOfC (Str.ofString "law") lawScope L fa (.ref 290))) (execs lawBody (envOfC (Str.ofString "law") lawScope L fa (.ref 290))) Q E { s with heap := h₁, toks := tk₁ } := by
  k_with_none
  w_top off
  revert X; k_fill; intro X
  conv in lawBody => whnf
  conv in (occs := *) lawScope => all_goals whnf
  k_with_none
  k_with "eval BinOp" => refine Stop.out ?_
  k_steps
  refine ⟨?_⟩
  k_with_none
  refine picks_eval w p loose mean mg mb h₀ h₁ L fa l w1 w2 vs ns s tk₁ _ _ B F X T hl hi hn N hL ?_
  clear F N
  rintro v s' ⟨⟨pk, o0, o1, o2, t0, t1, t2, c, h', tk, rfl, rfl, F2, N2, hlt, ok0, ok1, ok2⟩⟩
  k_lt hlt
  have hM1 := kstMark; have hM2 := kdMark
  (try dsimp only); (try k_fold)
  k_steps
  refine ⟨?_⟩
  k_with_none
  (rename Fr _ _ _ _ => nF); (rename News _ _ _ _ => nN)
  refine' law_mid w p loose mean mg mb h₀ _ L fa l pk _ _ _ _ t0 t1 t2 _ _ _ c _ _ _ _ vs _ _ o0 o1 o2 ns s _ Q E B nF X T hc hl hi hn hL nN ?hD ?oa ?og ?a1 ?a2 ?a4 ?a3 ?O1 ?O2 ok0 ok1 ok2 hret
  all_goals assumption
end Mine
end
section
open PySem PySem.W PyProof.Rows PySem.Calls
set_option maxRecDepth 100000 in
set_option maxHeartbeats 8000000 in
set_option pp.deepTerms false in
theorem PySem.Challenge.cw_ji0039_01_holds : PySem.Challenge.rw_ji0039_01.Holds := by
  refine Mine.hd ?_
  delta Mine.lawRec Mine.loose
  k_with_none
  k_go0
  all_goals try k_fold
  refine' Mine.law_body _ _ _ _ _ _ _ _ _ _ _ _ _ _ _ _ _ _ _ ?B ?F ?X ?T ?hl ?hi ?hn ?hc ?N ?hL ?w1 ?w2 ?hret
  case N => assumption
  case X => assumption
  case B => assumption
  case T => assumption
  case hl => assumption
  case hi => assumption
  case hc => assumption
  case hL => assumption
  case hn => omega
  case w1 => with_unfolding_all assumption
  case w2 => with_unfolding_all assumption
  case F => with_unfolding_all assumption
  case hret =>
    intro m led' tb tk' h' F1 N1 m1
    refine And.intro ?_ (And.intro (GrownAt.of N1 m1) True.intro)
    (try dsimp only)
    kc_close
end
