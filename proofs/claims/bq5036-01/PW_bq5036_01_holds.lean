import PyProof.Rows.All
import Wide.All
import OpenK.AllK
import Wide.FinOn
import Open.Tops
import KE.KParD
import KE.KBoundM
import KE.KDictList
import Lean
import PySem.Challenge.RW_bq5036_01
section
open PySem PySem.W PyProof.Rows
set_option Elab.async false
set_option maxRecDepth 100000
set_option maxHeartbeats 0
namespace Mine
def sh (d : Str) : Stmt → Stmt
  | .ClassDef n b k (.Expr (.Constant (.str _) u p1) p2 :: rest) ds tp s1 s2 q1 q2 pos => .ClassDef n b k (.Expr (.Constant (.str d) u p1) p2 :: rest) ds tp s1 s2 q1 q2 pos
  | s => s
def docOf : Stmt → Str
  | .ClassDef _ _ _ (.Expr (.Constant (.str d) _ _) _ :: _) _ _ _ _ _ _ _ => d
  | _ => Str.empty
abbrev top : List Stmt := PySem.Challenge.pw_bq5036_01.main.body
def P2 : Program := { PySem.Challenge.pw_bq5036_01 with main := { PySem.Challenge.pw_bq5036_01.main with body := top.take 16 ++ ((top.drop 16).take 1).map (sh "d") ++ top.drop 17 } }
abbrev pw : Program := PySem.Challenge.pw_bq5036_01
noncomputable def lhsP (w : World) := fun (os : OsState) => topGo treeTable pw w 11 (some (Value.ref 6)) 12 ⟨boot_heap w.params, Array.mk [], boot_drawn, boot_toks, os⟩ (topStub pw)
def frameT : Frame := topFrame ⟨0, 0, 0, 0⟩
end Mine
lay_quick Mine.lhsP Mine.frameT
open_shared tops2 for Mine.P2 leaving 0
end
section
open PySem PySem.W PyProof.Rows
set_option Elab.async false
set_option maxRecDepth 100000
set_option maxHeartbeats 0
namespace Mine
def doc : Str := match top.drop 16 with | s :: _ => docOf s | [] => Str.empty
noncomputable def nsBody (P : Params) : Obj :=
  { cls := Value.type "dict",
    data :=
      Data.dict
        #[{ hash := PyData.keyHash P (Str.ofString "__module__"), key := Value.str (Str.ofString "__module__") 643,
            val := Value.str (Str.ofString "sqlalchemy.engine.url") 397 },
          { hash := PyData.keyHash P (Str.ofString "__qualname__"), key := Value.str (Str.ofString "__qualname__") 645,
            val := Value.str (Str.ofString "URL") 644 },
          { hash := PyData.keyHash P (Str.ofString "__firstlineno__"),
            key := Value.str (Str.ofString "__firstlineno__") 647, val := Value.int 146 646 },
          { hash := PyData.keyHash P (Str.ofString "__doc__"), key := Value.str (Str.ofString "__doc__") 649,
            val := Value.str doc 648 },
          { hash := PyData.keyHash P (Str.ofString "create"), key := Value.str (Str.ofString "create") 677,
            val := Value.ref 336 },
          { hash := PyData.keyHash P (Str.ofString "_assert_port"), key := Value.str (Str.ofString "_assert_port") 697,
            val := Value.ref 346 },
          { hash := PyData.keyHash P (Str.ofString "_assert_str"), key := Value.str (Str.ofString "_assert_str") 718,
            val := Value.ref 356 },
          { hash := PyData.keyHash P (Str.ofString "_assert_none_str"),
            key := Value.str (Str.ofString "_assert_none_str") 739, val := Value.ref 366 },
          { hash := PyData.keyHash P (Str.ofString "_str_dict"), key := Value.str (Str.ofString "_str_dict") 757,
            val := Value.ref 374 },
          { hash := PyData.keyHash P (Str.ofString "set"), key := Value.str (Str.ofString "set") 773,
            val := Value.ref 383 },
          { hash := PyData.keyHash P (Str.ofString "_assert_replace"),
            key := Value.str (Str.ofString "_assert_replace") 783, val := Value.ref 390 },
          { hash := PyData.keyHash P (Str.ofString "update_query_string"),
            key := Value.str (Str.ofString "update_query_string") 794, val := Value.ref 399 },
          { hash := PyData.keyHash P (Str.ofString "update_query_pairs"),
            key := Value.str (Str.ofString "update_query_pairs") 803, val := Value.ref 407 },
          { hash := PyData.keyHash P (Str.ofString "update_query_dict"),
            key := Value.str (Str.ofString "update_query_dict") 812, val := Value.ref 415 },
          { hash := PyData.keyHash P (Str.ofString "difference_update_query"),
            key := Value.str (Str.ofString "difference_update_query") 820, val := Value.ref 422 },
          { hash := PyData.keyHash P (Str.ofString "normalized_query"),
            key := Value.str (Str.ofString "normalized_query") 828, val := Value.ref 430 },
          { hash := PyData.keyHash P (Str.ofString "render_as_string"),
            key := Value.str (Str.ofString "render_as_string") 840, val := Value.ref 438 },
          { hash := PyData.keyHash P (Str.ofString "__repr__"), key := Value.str (Str.ofString "__repr__") 847,
            val := Value.ref 445 },
          { hash := PyData.keyHash P (Str.ofString "__hash__"), key := Value.str (Str.ofString "__hash__") 854,
            val := Value.ref 452 },
          { hash := PyData.keyHash P (Str.ofString "__eq__"), key := Value.str (Str.ofString "__eq__") 862,
            val := Value.ref 459 },
          { hash := PyData.keyHash P (Str.ofString "__ne__"), key := Value.str (Str.ofString "__ne__") 870,
            val := Value.ref 466 },
          { hash := PyData.keyHash P (Str.ofString "get_backend_name"),
            key := Value.str (Str.ofString "get_backend_name") 878, val := Value.ref 473 },
          { hash := PyData.keyHash P (Str.ofString "translate_connect_args"),
            key := Value.str (Str.ofString "translate_connect_args") 892, val := Value.ref 481 },
          { hash := PyData.keyHash P (Str.ofString "__static_attributes__"),
            key := Value.str (Str.ofString "__static_attributes__") 893, val := Value.ref 482 }]
        24 }
noncomputable def nsURL (P : Params) : Obj :=
  { cls := Value.type "dict",
    data :=
      Data.dict
        #[{ hash := PyData.keyHash P (Str.ofString "__module__"), key := Value.str (Str.ofString "__module__") 643,
            val := Value.str (Str.ofString "sqlalchemy.engine.url") 397 },
          { hash := PyData.keyHash P (Str.ofString "__firstlineno__"),
            key := Value.str (Str.ofString "__firstlineno__") 647, val := Value.int 146 646 },
          { hash := PyData.keyHash P (Str.ofString "__doc__"), key := Value.str (Str.ofString "__doc__") 649,
            val := Value.str doc 648 },
          { hash := PyData.keyHash P (Str.ofString "create"), key := Value.str (Str.ofString "create") 677,
            val := Value.ref 336 },
          { hash := PyData.keyHash P (Str.ofString "_assert_port"), key := Value.str (Str.ofString "_assert_port") 697,
            val := Value.ref 346 },
          { hash := PyData.keyHash P (Str.ofString "_assert_str"), key := Value.str (Str.ofString "_assert_str") 718,
            val := Value.ref 356 },
          { hash := PyData.keyHash P (Str.ofString "_assert_none_str"),
            key := Value.str (Str.ofString "_assert_none_str") 739, val := Value.ref 366 },
          { hash := PyData.keyHash P (Str.ofString "_str_dict"), key := Value.str (Str.ofString "_str_dict") 757,
            val := Value.ref 374 },
          { hash := PyData.keyHash P (Str.ofString "set"), key := Value.str (Str.ofString "set") 773,
            val := Value.ref 383 },
          { hash := PyData.keyHash P (Str.ofString "_assert_replace"),
            key := Value.str (Str.ofString "_assert_replace") 783, val := Value.ref 390 },
          { hash := PyData.keyHash P (Str.ofString "update_query_string"),
            key := Value.str (Str.ofString "update_query_string") 794, val := Value.ref 399 },
          { hash := PyData.keyHash P (Str.ofString "update_query_pairs"),
            key := Value.str (Str.ofString "update_query_pairs") 803, val := Value.ref 407 },
          { hash := PyData.keyHash P (Str.ofString "update_query_dict"),
            key := Value.str (Str.ofString "update_query_dict") 812, val := Value.ref 415 },
          { hash := PyData.keyHash P (Str.ofString "difference_update_query"),
            key := Value.str (Str.ofString "difference_update_query") 820, val := Value.ref 422 },
          { hash := PyData.keyHash P (Str.ofString "normalized_query"),
            key := Value.str (Str.ofString "normalized_query") 828, val := Value.ref 430 },
          { hash := PyData.keyHash P (Str.ofString "render_as_string"),
            key := Value.str (Str.ofString "render_as_string") 840, val := Value.ref 438 },
          { hash := PyData.keyHash P (Str.ofString "__repr__"), key := Value.str (Str.ofString "__repr__") 847,
            val := Value.ref 445 },
          { hash := PyData.keyHash P (Str.ofString "__hash__"), key := Value.str (Str.ofString "__hash__") 854,
            val := Value.ref 452 },
          { hash := PyData.keyHash P (Str.ofString "__eq__"), key := Value.str (Str.ofString "__eq__") 862,
            val := Value.ref 459 },
          { hash := PyData.keyHash P (Str.ofString "__ne__"), key := Value.str (Str.ofString "__ne__") 870,
            val := Value.ref 466 },
          { hash := PyData.keyHash P (Str.ofString "get_backend_name"),
            key := Value.str (Str.ofString "get_backend_name") 878, val := Value.ref 473 },
          { hash := PyData.keyHash P (Str.ofString "translate_connect_args"),
            key := Value.str (Str.ofString "translate_connect_args") 892, val := Value.ref 481 },
          { hash := PyData.keyHash P (Str.ofString "__static_attributes__"),
            key := Value.str (Str.ofString "__static_attributes__") 893, val := Value.ref 482 },
          { hash := PyData.keyHash P (Str.ofString "__dict__"), key := Value.str (Str.ofString "__dict__") 895,
            val := Value.ref 485 }]
        2 }
noncomputable def T17 (P : Params) : BT := ((tops2.tree_663 P).set 322 fun _ => nsBody P).set 483 fun _ => nsURL P
noncomputable def T24 (P : Params) : BT := ((tops2.tree_820 P).set 322 fun _ => nsBody P).set 483 fun _ => nsURL P
noncomputable def stT (t : Params → BT) (n k : Nat) (w : World) (os : OsState) : SharedT := { tree := t w.params, n := n, life := {}, gens := Array.mk [], drawn := {}, toks := k, os := os }
noncomputable def cells1 : List Stmt := top.take 8
noncomputable def lhs1 (w : World) := fun (p : Program) (b : List Stmt) (os : OsState) => segRunT treeTable p w 11 (some (Value.ref 6)) 1 170 (stT tops2.tree_4 15 187 w os) (piecesOf cells1 tops2.env_1 (Code.body b tops2.env_1) ⟨0, 0, 0, 0⟩ [frameT])
noncomputable def rhs1 (w : World) : Program → List Stmt → OsState → Option (Flow × SharedT × Code × Pos) := fun (_ : Program) (b : List Stmt) (os : OsState) => some (Flow.next, stT tops2.tree_39 48 227 w os, Code.body b tops2.env_1, ⟨15, 0, 16, 68⟩)
noncomputable def cells2 : List Stmt := (top.drop 8).take 1
noncomputable def lhs2 (w : World) := fun (p : Program) (b : List Stmt) (os : OsState) => segRunT treeTable p w 11 (some (Value.ref 6)) 1 713 (stT tops2.tree_39 48 227 w os) (piecesOf cells2 tops2.env_1 (Code.body b tops2.env_1) ⟨15, 0, 16, 68⟩ [frameT])
noncomputable def rhs2 (w : World) : Program → List Stmt → OsState → Option (Flow × SharedT × Code × Pos) := fun (_ : Program) (b : List Stmt) (os : OsState) => some (Flow.next, stT tops2.tree_170 176 378 w os, Code.body b tops2.env_1, ⟨17, 0, 66, 55⟩)
noncomputable def cells3 : List Stmt := (top.drop 9).take 5
noncomputable def lhs3 (w : World) := fun (p : Program) (b : List Stmt) (os : OsState) => segRunT treeTable p w 11 (some (Value.ref 6)) 1 88 (stT tops2.tree_170 176 378 w os) (piecesOf cells3 tops2.env_1 (Code.body b tops2.env_1) ⟨17, 0, 66, 55⟩ [frameT])
noncomputable def rhs3 (w : World) : Program → List Stmt → OsState → Option (Flow × SharedT × Code × Pos) := fun (_ : Program) (b : List Stmt) (os : OsState) => some (Flow.next, stT tops2.tree_276 191 399 w os, Code.body b tops2.env_1, ⟨80, 0, 80, 8⟩)
noncomputable def cells4 : List Stmt := (top.drop 14).take 1
noncomputable def lhs4 (w : World) := fun (p : Program) (b : List Stmt) (os : OsState) => segRunT treeTable p w 11 (some (Value.ref 6)) 1 324 (stT tops2.tree_276 191 399 w os) (piecesOf cells4 tops2.env_1 (Code.body b tops2.env_1) ⟨80, 0, 80, 8⟩ [frameT])
noncomputable def rhs4 (w : World) : Program → List Stmt → OsState → Option (Flow × SharedT × Code × Pos) := fun (_ : Program) (b : List Stmt) (os : OsState) => some (Flow.next, stT tops2.tree_322 234 456 w os, Code.body b tops2.env_1, ⟨81, 0, 98, 54⟩)
noncomputable def cells5 : List Stmt := (top.drop 15).take 1
noncomputable def lhs5 (w : World) := fun (p : Program) (b : List Stmt) (os : OsState) => segRunT treeTable p w 11 (some (Value.ref 6)) 1 1635 (stT tops2.tree_322 234 456 w os) (piecesOf cells5 tops2.env_1 (Code.body b tops2.env_1) ⟨81, 0, 98, 54⟩ [frameT])
noncomputable def rhs5 (w : World) : Program → List Stmt → OsState → Option (Flow × SharedT × Code × Pos) := fun (_ : Program) (b : List Stmt) (os : OsState) => some (Flow.next, stT tops2.tree_411 320 636 w os, Code.body b tops2.env_1, ⟨99, 0, 145, 55⟩)
noncomputable def cells6 : List Stmt := (top.drop 16).take 1
noncomputable def lhs6 (w : World) := fun (p : Program) (b : List Stmt) (os : OsState) => segRunT treeTable p w 11 (some (Value.ref 6)) 1 1591 (stT tops2.tree_411 320 636 w os) (piecesOf cells6 tops2.env_1 (Code.body b tops2.env_1) ⟨99, 0, 145, 55⟩ [frameT])
noncomputable def rhs6 (w : World) : Program → List Stmt → OsState → Option (Flow × SharedT × Code × Pos) := fun (_ : Program) (b : List Stmt) (os : OsState) => some (Flow.next, stT Mine.T17 488 898 w os, Code.body b tops2.env_1, ⟨146, 0, 443, 25⟩)
noncomputable def cells7 : List Stmt := top.drop 17
noncomputable def lhs7 (w : World) := fun (p : Program) (b : List Stmt) (os : OsState) => segRunT treeTable p w 11 (some (Value.ref 6)) 1 163 (stT Mine.T17 488 898 w os) (piecesOf cells7 tops2.env_1 (Code.body b tops2.env_1) ⟨146, 0, 443, 25⟩ [frameT])
noncomputable def rhs7 (w : World) : Program → List Stmt → OsState → Option (Flow × SharedT × Code × Pos) := fun (_ : Program) (b : List Stmt) (os : OsState) => some (Flow.next, stT Mine.T24 516 949 w os, Code.body b tops2.env_1, ⟨465, 0, 497, 41⟩)
end Mine
lay_quick Mine.lhs1 Mine.rhs1 Mine.lhs2 Mine.rhs2 Mine.lhs3 Mine.rhs3 Mine.lhs4 Mine.rhs4 Mine.lhs5 Mine.rhs5 Mine.lhs6 Mine.rhs6 Mine.lhs7 Mine.rhs7
end
section
open PySem PySem.W PyProof.Rows
set_option Elab.async false
set_option maxRecDepth 100000
set_option maxHeartbeats 0
namespace Mine
noncomputable def anyF (xs : Array Nat) (p : Nat → Bool) (start : Nat) (stop : Nat) : Bool := @Bool.rec (fun _ => Bool) (xs.any p start stop) (@Bool.rec (fun _ => Bool) (xs.any p start stop) (List.any xs.toList p) (Nat.beq stop xs.toList.length)) (Nat.beq start 0)
theorem anyF_eq : @Array.any Nat = anyF := by
  funext xs p a b
  unfold anyF
  cases h : Nat.beq a 0 with
  | false => rfl
  | true =>
    cases h' : Nat.beq b xs.toList.length with
    | false => rfl
    | true =>
      have := Nat.eq_of_beq_eq_true h
      have h2 := Nat.eq_of_beq_eq_true h'
      subst this
      rw [h2]
      exact Array.any_toList.symm
abbrev AnyT := Array Nat → (Nat → Bool) → Nat → Nat → Bool
theorem run1 (w : World) : lhs1 w = rhs1 w := by
  rw [PySem.W.Fast.te8685877533296301992, PySem.W.Fast.te12214230893404501712]
  kernel_rfl
theorem run2 (w : World) : lhs2 w = rhs2 w := by
  rw [PySem.W.Fast.te4616964263069932676, PySem.W.Fast.te11467035453086442529]
  kernel_rfl
theorem run3 (w : World) : lhs3 w = rhs3 w := by
  rw [PySem.W.Fast.te16159907726079180437, PySem.W.Fast.te7932627458803997003]
  kernel_rfl
theorem run4 (w : World) : lhs4 w = rhs4 w := by
  rw [PySem.W.Fast.te3669622410457001946, PySem.W.Fast.te9814380118198241224]
  kernel_rfl
theorem run5 (w : World) : lhs5 w = rhs5 w := by
  rw [PySem.W.Fast.te1925940431652808999, PySem.W.Fast.te2427337020703409945]
  kernel_rfl
theorem run6 (w : World) : lhs6 w = rhs6 w := by
  let S : { f : AnyT → Builtin // f (@Array.any Nat) = PySem.W.Fast.tw4202317264376624991 } := by
    apply Subtype.mk
    case property =>
      delta PySem.W.Fast.tw4202317264376624991
      generalize @Array.any Nat = A
      exact rfl
  let tb : String → Option Builtin := fun id => match PySem.W.S.strDecS id "type.__new__" with
    | .isTrue _ => some (S.1 anyF)
    | .isFalse _ => PySem.W.Fast.tw14364793385576792824 id
  have hT : PySem.W.Fast.tw14364793385576792824 = tb := by
    funext id
    show _ = match PySem.W.S.strDecS id "type.__new__" with
      | .isTrue _ => some (S.1 anyF)
      | .isFalse _ => PySem.W.Fast.tw14364793385576792824 id
    cases PySem.W.S.strDecS id "type.__new__" with
    | isFalse _ => rfl
    | isTrue h =>
      subst h
      show _ = some (S.1 anyF)
      rw [← anyF_eq, S.2]
      kernel_rfl
  rw [PySem.W.Fast.te3642292373416122060, PySem.W.Fast.te10649974470772066246]
  delta PySem.W.Fast.tw3642292373416122060
  rw [hT]
  kernel_rfl
theorem run7 (w : World) : lhs7 w = rhs7 w := by
  rw [PySem.W.Fast.te9829680746369106604, PySem.W.Fast.te2688794956610964583]
  kernel_rfl
end Mine
end
section
open PySem PySem.W PyProof.Rows
set_option Elab.async false
set_option maxRecDepth 100000
set_option maxHeartbeats 0
namespace Mine
noncomputable def cT : Code := Code.body (behindTheImports pw) tops2.env_1
noncomputable def rhsP (w : World) := fun (os : OsState) => some ((stT tops2.tree_4 15 187 w os).abs, (⟨denote treeTable cT, cT, ⟨0, 0, 0, 0⟩, [frameT]⟩ : Thread))
noncomputable def lhsQ (w : World) := fun (os : OsState) => segRun treeTable pw w 11 (some (Value.ref 6)) 1 1 (stT tops2.tree_4 15 187 w os).abs (blockOf (behindTheImports pw) tops2.env_1 cT ⟨0, 0, 0, 0⟩ [frameT])
noncomputable def rhsQ (w : World) := fun (os : OsState) => some (Flow.next, (stT tops2.tree_4 15 187 w os).abs, cT, (⟨0, 0, 0, 0⟩ : Pos))
noncomputable def lhsF (w : World) := fun (os : OsState) => topRun treeTable pw w 11 (some (Value.ref 6)) 2 (stT T24 516 949 w os).abs (restOf [] tops2.env_1 cT ⟨465, 0, 497, 41⟩ [frameT])
noncomputable def rhsF (w : World) := fun (os : OsState) => some (stT T24 516 949 w os).abs
end Mine
lay_quick Mine.rhsP Mine.lhsQ Mine.rhsQ Mine.lhsF Mine.rhsF
namespace Mine
theorem runP (w : World) : lhsP w = rhsP w := by
  rw [PySem.W.Fast.te1099448937126117225, PySem.W.Fast.te1116357689577336893]
  kernel_rfl
theorem runQ (w : World) : lhsQ w = rhsQ w := by
  rw [PySem.W.Fast.te7824420602569700299, PySem.W.Fast.te707305726805152362]
  kernel_rfl
theorem runF (w : World) : lhsF w = rhsF w := by
  rw [PySem.W.Fast.te9246333973048606402, PySem.W.Fast.te8568103433188807956]
  kernel_rfl
end Mine
end
section
open PySem PySem.W PyProof.Rows
set_option Elab.async false
set_option maxRecDepth 100000
set_option maxHeartbeats 0
namespace Mine
theorem cells_all : behindTheImports pw = cells1 ++ (cells2 ++ (cells3 ++ (cells4 ++ (cells5 ++ (cells6 ++ (cells7 ++ [])))))) := by kernel_rfl
theorem grp {l rest : List Stmt} {w : World} {p : Program} {b : List Stmt} {os : OsState} {n N n1 k1 n2 k2 : Nat} {t1 t2 : Params → BT} {p1 p2 : Pos} {r : Shared}
    (h : segRunT treeTable p w 11 (some (Value.ref 6)) 1 n (stT t1 n1 k1 w os) (piecesOf l tops2.env_1 (Code.body b tops2.env_1) p1 [frameT]) = some (Flow.next, stT t2 n2 k2 w os, Code.body b tops2.env_1, p2))
    (k : topRun treeTable p w 11 (some (Value.ref 6)) N (stT t2 n2 k2 w os).abs (restOf rest tops2.env_1 (Code.body b tops2.env_1) p2 [frameT]) = some r) :
    topRun treeTable p w 11 (some (Value.ref 6)) (n + N) (stT t1 n1 k1 w os).abs (restOf (l ++ rest) tops2.env_1 (Code.body b tops2.env_1) p1 [frameT]) = some r :=
  piece_app (segRun_of h) k
theorem runAll (w : World) (os : OsState) : topRun treeTable pw w 11 (some (Value.ref 6)) 4699 ⟨boot_heap w.params, Array.mk [], boot_drawn, boot_toks, os⟩ (topStub pw) = some (stT T24 516 949 w os).abs := by
  have f := congrFun (runF w) os
  have h (g : World → Program → List Stmt → OsState → Option (Flow × SharedT × Code × Pos)) (g' : World → Program → List Stmt → OsState → Option (Flow × SharedT × Code × Pos)) (e : g w = g' w) : g w pw (behindTheImports pw) os = g' w pw (behindTheImports pw) os := by rw [e]
  have r7 := grp (h lhs7 rhs7 (run7 w)) f
  have r6 := grp (h lhs6 rhs6 (run6 w)) r7
  have r5 := grp (h lhs5 rhs5 (run5 w)) r6
  have r4 := grp (h lhs4 rhs4 (run4 w)) r5
  have r3 := grp (h lhs3 rhs3 (run3 w)) r4
  have r2 := grp (h lhs2 rhs2 (run2 w)) r3
  have r1 := grp (h lhs1 rhs1 (run1 w)) r2
  rw [← cells_all] at r1
  exact go_top (congrFun (runP w) os) (piece_block (congrFun (runQ w) os) r1)
end Mine
end
section
open PySem PySem.W PyProof.Rows
set_option Elab.async false
set_option maxRecDepth 100000
set_option maxHeartbeats 0
namespace Mine
noncomputable def heap (P : Params) : Frag :=
  (nat_lit 0, PySem.W.boot_o_0 P) ::
  (nat_lit 1, PySem.W.boot_o_1 P) ::
  (nat_lit 2, PySem.W.boot_o_2 P) ::
  (nat_lit 3, tops2.o_791 P) ::
  (nat_lit 4, PySem.W.boot_o_4 P) ::
  (nat_lit 5, PySem.W.boot_o_5 P) ::
  (nat_lit 6, PySem.W.boot_o_6 P) ::
  (nat_lit 7, PySem.W.boot_o_7 P) ::
  (nat_lit 8, PySem.W.boot_o_8 P) ::
  (nat_lit 9, PySem.W.boot_o_9 P) ::
  (nat_lit 10, PySem.W.boot_o_10 P) ::
  (nat_lit 11, tops2.o_1 P) ::
  (nat_lit 12, tops2.o_792 P) ::
  (nat_lit 13, tops2.o_3 P) ::
  (nat_lit 14, tops2.o_4 P) ::
  (nat_lit 15, tops2.o_7 P) ::
  (nat_lit 16, tops2.o_8 P) ::
  (nat_lit 17, tops2.o_9 P) ::
  (nat_lit 18, tops2.o_10 P) ::
  (nat_lit 19, tops2.o_11 P) ::
  (nat_lit 20, tops2.o_12 P) ::
  (nat_lit 21, tops2.o_13 P) ::
  (nat_lit 22, tops2.o_14 P) ::
  (nat_lit 23, tops2.o_15 P) ::
  (nat_lit 24, tops2.o_16 P) ::
  (nat_lit 25, tops2.o_17 P) ::
  (nat_lit 26, tops2.o_18 P) ::
  (nat_lit 27, tops2.o_19 P) ::
  (nat_lit 28, tops2.o_20 P) ::
  (nat_lit 29, tops2.o_21 P) ::
  (nat_lit 30, tops2.o_22 P) ::
  (nat_lit 31, tops2.o_23 P) ::
  (nat_lit 32, tops2.o_24 P) ::
  (nat_lit 33, tops2.o_25 P) ::
  (nat_lit 34, tops2.o_26 P) ::
  (nat_lit 35, tops2.o_27 P) ::
  (nat_lit 36, tops2.o_28 P) ::
  (nat_lit 37, tops2.o_29 P) ::
  (nat_lit 38, tops2.o_30 P) ::
  (nat_lit 39, tops2.o_31 P) ::
  (nat_lit 40, tops2.o_32 P) ::
  (nat_lit 41, tops2.o_33 P) ::
  (nat_lit 42, tops2.o_34 P) ::
  (nat_lit 43, tops2.o_35 P) ::
  (nat_lit 44, tops2.o_36 P) ::
  (nat_lit 45, tops2.o_37 P) ::
  (nat_lit 46, tops2.o_38 P) ::
  (nat_lit 47, tops2.o_39 P) ::
  (nat_lit 48, tops2.o_43 P) ::
  (nat_lit 49, tops2.o_44 P) ::
  (nat_lit 50, tops2.o_45 P) ::
  (nat_lit 51, tops2.o_46 P) ::
  (nat_lit 52, tops2.o_47 P) ::
  (nat_lit 53, tops2.o_48 P) ::
  (nat_lit 54, tops2.o_49 P) ::
  (nat_lit 55, tops2.o_50 P) ::
  (nat_lit 56, tops2.o_51 P) ::
  (nat_lit 57, tops2.o_52 P) ::
  (nat_lit 58, tops2.o_53 P) ::
  (nat_lit 59, tops2.o_54 P) ::
  (nat_lit 60, tops2.o_55 P) ::
  (nat_lit 61, tops2.o_56 P) ::
  (nat_lit 62, tops2.o_57 P) ::
  (nat_lit 63, tops2.o_58 P) ::
  (nat_lit 64, tops2.o_59 P) ::
  (nat_lit 65, tops2.o_60 P) ::
  (nat_lit 66, tops2.o_61 P) ::
  (nat_lit 67, tops2.o_62 P) ::
  (nat_lit 68, tops2.o_63 P) ::
  (nat_lit 69, tops2.o_64 P) ::
  (nat_lit 70, tops2.o_65 P) ::
  (nat_lit 71, tops2.o_66 P) ::
  (nat_lit 72, tops2.o_67 P) ::
  (nat_lit 73, tops2.o_68 P) ::
  (nat_lit 74, tops2.o_69 P) ::
  (nat_lit 75, tops2.o_70 P) ::
  (nat_lit 76, tops2.o_71 P) ::
  (nat_lit 77, tops2.o_72 P) ::
  (nat_lit 78, tops2.o_73 P) ::
  (nat_lit 79, tops2.o_74 P) ::
  (nat_lit 80, tops2.o_75 P) ::
  (nat_lit 81, tops2.o_76 P) ::
  (nat_lit 82, tops2.o_77 P) ::
  (nat_lit 83, tops2.o_78 P) ::
  (nat_lit 84, tops2.o_79 P) ::
  (nat_lit 85, tops2.o_80 P) ::
  (nat_lit 86, tops2.o_81 P) ::
  (nat_lit 87, tops2.o_82 P) ::
  (nat_lit 88, tops2.o_83 P) ::
  (nat_lit 89, tops2.o_84 P) ::
  (nat_lit 90, tops2.o_85 P) ::
  (nat_lit 91, tops2.o_86 P) ::
  (nat_lit 92, tops2.o_87 P) ::
  (nat_lit 93, tops2.o_88 P) ::
  (nat_lit 94, tops2.o_89 P) ::
  (nat_lit 95, tops2.o_90 P) ::
  (nat_lit 96, tops2.o_91 P) ::
  (nat_lit 97, tops2.o_92 P) ::
  (nat_lit 98, tops2.o_93 P) ::
  (nat_lit 99, tops2.o_94 P) ::
  (nat_lit 100, tops2.o_95 P) ::
  (nat_lit 101, tops2.o_96 P) ::
  (nat_lit 102, tops2.o_97 P) ::
  (nat_lit 103, tops2.o_98 P) ::
  (nat_lit 104, tops2.o_99 P) ::
  (nat_lit 105, tops2.o_100 P) ::
  (nat_lit 106, tops2.o_101 P) ::
  (nat_lit 107, tops2.o_102 P) ::
  (nat_lit 108, tops2.o_103 P) ::
  (nat_lit 109, tops2.o_104 P) ::
  (nat_lit 110, tops2.o_105 P) ::
  (nat_lit 111, tops2.o_106 P) ::
  (nat_lit 112, tops2.o_107 P) ::
  (nat_lit 113, tops2.o_108 P) ::
  (nat_lit 114, tops2.o_109 P) ::
  (nat_lit 115, tops2.o_110 P) ::
  (nat_lit 116, tops2.o_111 P) ::
  (nat_lit 117, tops2.o_112 P) ::
  (nat_lit 118, tops2.o_113 P) ::
  (nat_lit 119, tops2.o_114 P) ::
  (nat_lit 120, tops2.o_115 P) ::
  (nat_lit 121, tops2.o_116 P) ::
  (nat_lit 122, tops2.o_117 P) ::
  (nat_lit 123, tops2.o_118 P) ::
  (nat_lit 124, tops2.o_119 P) ::
  (nat_lit 125, tops2.o_120 P) ::
  (nat_lit 126, tops2.o_121 P) ::
  (nat_lit 127, tops2.o_122 P) ::
  (nat_lit 128, tops2.o_123 P) ::
  (nat_lit 129, tops2.o_124 P) ::
  (nat_lit 130, tops2.o_125 P) ::
  (nat_lit 131, tops2.o_126 P) ::
  (nat_lit 132, tops2.o_127 P) ::
  (nat_lit 133, tops2.o_128 P) ::
  (nat_lit 134, tops2.o_129 P) ::
  (nat_lit 135, tops2.o_130 P) ::
  (nat_lit 136, tops2.o_131 P) ::
  (nat_lit 137, tops2.o_132 P) ::
  (nat_lit 138, tops2.o_133 P) ::
  (nat_lit 139, tops2.o_134 P) ::
  (nat_lit 140, tops2.o_135 P) ::
  (nat_lit 141, tops2.o_136 P) ::
  (nat_lit 142, tops2.o_137 P) ::
  (nat_lit 143, tops2.o_138 P) ::
  (nat_lit 144, tops2.o_139 P) ::
  (nat_lit 145, tops2.o_140 P) ::
  (nat_lit 146, tops2.o_141 P) ::
  (nat_lit 147, tops2.o_142 P) ::
  (nat_lit 148, tops2.o_143 P) ::
  (nat_lit 149, tops2.o_144 P) ::
  (nat_lit 150, tops2.o_145 P) ::
  (nat_lit 151, tops2.o_146 P) ::
  (nat_lit 152, tops2.o_147 P) ::
  (nat_lit 153, tops2.o_148 P) ::
  (nat_lit 154, tops2.o_149 P) ::
  (nat_lit 155, tops2.o_150 P) ::
  (nat_lit 156, tops2.o_151 P) ::
  (nat_lit 157, tops2.o_152 P) ::
  (nat_lit 158, tops2.o_153 P) ::
  (nat_lit 159, tops2.o_154 P) ::
  (nat_lit 160, tops2.o_155 P) ::
  (nat_lit 161, tops2.o_156 P) ::
  (nat_lit 162, tops2.o_157 P) ::
  (nat_lit 163, tops2.o_158 P) ::
  (nat_lit 164, tops2.o_159 P) ::
  (nat_lit 165, tops2.o_160 P) ::
  (nat_lit 166, tops2.o_161 P) ::
  (nat_lit 167, tops2.o_162 P) ::
  (nat_lit 168, tops2.o_163 P) ::
  (nat_lit 169, tops2.o_164 P) ::
  (nat_lit 170, tops2.o_165 P) ::
  (nat_lit 171, tops2.o_166 P) ::
  (nat_lit 172, tops2.o_167 P) ::
  (nat_lit 173, tops2.o_168 P) ::
  (nat_lit 174, tops2.o_169 P) ::
  (nat_lit 175, tops2.o_170 P) ::
  (nat_lit 176, tops2.o_262 P) ::
  (nat_lit 177, tops2.o_263 P) ::
  (nat_lit 178, tops2.o_264 P) ::
  (nat_lit 179, tops2.o_265 P) ::
  (nat_lit 180, tops2.o_266 P) ::
  (nat_lit 181, tops2.o_267 P) ::
  (nat_lit 182, tops2.o_268 P) ::
  (nat_lit 183, tops2.o_269 P) ::
  (nat_lit 184, tops2.o_270 P) ::
  (nat_lit 185, tops2.o_271 P) ::
  (nat_lit 186, tops2.o_272 P) ::
  (nat_lit 187, tops2.o_273 P) ::
  (nat_lit 188, tops2.o_274 P) ::
  (nat_lit 189, tops2.o_275 P) ::
  (nat_lit 190, tops2.o_276 P) ::
  (nat_lit 191, tops2.o_280 P) ::
  (nat_lit 192, tops2.o_281 P) ::
  (nat_lit 193, tops2.o_282 P) ::
  (nat_lit 194, tops2.o_283 P) ::
  (nat_lit 195, tops2.o_284 P) ::
  (nat_lit 196, tops2.o_285 P) ::
  (nat_lit 197, tops2.o_286 P) ::
  (nat_lit 198, tops2.o_287 P) ::
  (nat_lit 199, tops2.o_288 P) ::
  (nat_lit 200, tops2.o_289 P) ::
  (nat_lit 201, tops2.o_290 P) ::
  (nat_lit 202, tops2.o_291 P) ::
  (nat_lit 203, tops2.o_292 P) ::
  (nat_lit 204, tops2.o_293 P) ::
  (nat_lit 205, tops2.o_294 P) ::
  (nat_lit 206, tops2.o_295 P) ::
  (nat_lit 207, tops2.o_296 P) ::
  (nat_lit 208, tops2.o_297 P) ::
  (nat_lit 209, tops2.o_298 P) ::
  (nat_lit 210, tops2.o_299 P) ::
  (nat_lit 211, tops2.o_300 P) ::
  (nat_lit 212, tops2.o_301 P) ::
  (nat_lit 213, tops2.o_302 P) ::
  (nat_lit 214, tops2.o_303 P) ::
  (nat_lit 215, tops2.o_304 P) ::
  (nat_lit 216, tops2.o_305 P) ::
  (nat_lit 217, tops2.o_306 P) ::
  (nat_lit 218, tops2.o_307 P) ::
  (nat_lit 219, tops2.o_308 P) ::
  (nat_lit 220, tops2.o_309 P) ::
  (nat_lit 221, tops2.o_310 P) ::
  (nat_lit 222, tops2.o_311 P) ::
  (nat_lit 223, tops2.o_312 P) ::
  (nat_lit 224, tops2.o_313 P) ::
  (nat_lit 225, tops2.o_314 P) ::
  (nat_lit 226, tops2.o_315 P) ::
  (nat_lit 227, tops2.o_316 P) ::
  (nat_lit 228, tops2.o_317 P) ::
  (nat_lit 229, tops2.o_318 P) ::
  (nat_lit 230, tops2.o_319 P) ::
  (nat_lit 231, tops2.o_320 P) ::
  (nat_lit 232, tops2.o_321 P) ::
  (nat_lit 233, tops2.o_322 P) ::
  (nat_lit 234, tops2.o_326 P) ::
  (nat_lit 235, tops2.o_327 P) ::
  (nat_lit 236, tops2.o_328 P) ::
  (nat_lit 237, tops2.o_329 P) ::
  (nat_lit 238, tops2.o_330 P) ::
  (nat_lit 239, tops2.o_331 P) ::
  (nat_lit 240, tops2.o_332 P) ::
  (nat_lit 241, tops2.o_333 P) ::
  (nat_lit 242, tops2.o_334 P) ::
  (nat_lit 243, tops2.o_335 P) ::
  (nat_lit 244, tops2.o_336 P) ::
  (nat_lit 245, tops2.o_337 P) ::
  (nat_lit 246, tops2.o_338 P) ::
  (nat_lit 247, tops2.o_339 P) ::
  (nat_lit 248, tops2.o_340 P) ::
  (nat_lit 249, tops2.o_341 P) ::
  (nat_lit 250, tops2.o_342 P) ::
  (nat_lit 251, tops2.o_343 P) ::
  (nat_lit 252, tops2.o_344 P) ::
  (nat_lit 253, tops2.o_345 P) ::
  (nat_lit 254, tops2.o_346 P) ::
  (nat_lit 255, tops2.o_347 P) ::
  (nat_lit 256, tops2.o_348 P) ::
  (nat_lit 257, tops2.o_349 P) ::
  (nat_lit 258, tops2.o_350 P) ::
  (nat_lit 259, tops2.o_351 P) ::
  (nat_lit 260, tops2.o_352 P) ::
  (nat_lit 261, tops2.o_353 P) ::
  (nat_lit 262, tops2.o_354 P) ::
  (nat_lit 263, tops2.o_355 P) ::
  (nat_lit 264, tops2.o_356 P) ::
  (nat_lit 265, tops2.o_357 P) ::
  (nat_lit 266, tops2.o_358 P) ::
  (nat_lit 267, tops2.o_359 P) ::
  (nat_lit 268, tops2.o_360 P) ::
  (nat_lit 269, tops2.o_361 P) ::
  (nat_lit 270, tops2.o_362 P) ::
  (nat_lit 271, tops2.o_363 P) ::
  (nat_lit 272, tops2.o_364 P) ::
  (nat_lit 273, tops2.o_365 P) ::
  (nat_lit 274, tops2.o_366 P) ::
  (nat_lit 275, tops2.o_367 P) ::
  (nat_lit 276, tops2.o_368 P) ::
  (nat_lit 277, tops2.o_369 P) ::
  (nat_lit 278, tops2.o_370 P) ::
  (nat_lit 279, tops2.o_371 P) ::
  (nat_lit 280, tops2.o_372 P) ::
  (nat_lit 281, tops2.o_373 P) ::
  (nat_lit 282, tops2.o_374 P) ::
  (nat_lit 283, tops2.o_375 P) ::
  (nat_lit 284, tops2.o_376 P) ::
  (nat_lit 285, tops2.o_377 P) ::
  (nat_lit 286, tops2.o_378 P) ::
  (nat_lit 287, tops2.o_379 P) ::
  (nat_lit 288, tops2.o_380 P) ::
  (nat_lit 289, tops2.o_381 P) ::
  (nat_lit 290, tops2.o_382 P) ::
  (nat_lit 291, tops2.o_383 P) ::
  (nat_lit 292, tops2.o_384 P) ::
  (nat_lit 293, tops2.o_385 P) ::
  (nat_lit 294, tops2.o_386 P) ::
  (nat_lit 295, tops2.o_387 P) ::
  (nat_lit 296, tops2.o_388 P) ::
  (nat_lit 297, tops2.o_389 P) ::
  (nat_lit 298, tops2.o_390 P) ::
  (nat_lit 299, tops2.o_391 P) ::
  (nat_lit 300, tops2.o_392 P) ::
  (nat_lit 301, tops2.o_393 P) ::
  (nat_lit 302, tops2.o_394 P) ::
  (nat_lit 303, tops2.o_395 P) ::
  (nat_lit 304, tops2.o_396 P) ::
  (nat_lit 305, tops2.o_397 P) ::
  (nat_lit 306, tops2.o_398 P) ::
  (nat_lit 307, tops2.o_399 P) ::
  (nat_lit 308, tops2.o_400 P) ::
  (nat_lit 309, tops2.o_401 P) ::
  (nat_lit 310, tops2.o_402 P) ::
  (nat_lit 311, tops2.o_403 P) ::
  (nat_lit 312, tops2.o_404 P) ::
  (nat_lit 313, tops2.o_405 P) ::
  (nat_lit 314, tops2.o_406 P) ::
  (nat_lit 315, tops2.o_407 P) ::
  (nat_lit 316, tops2.o_495 P) ::
  (nat_lit 317, tops2.o_409 P) ::
  (nat_lit 318, tops2.o_410 P) ::
  (nat_lit 319, tops2.o_411 P) ::
  (nat_lit 320, tops2.o_496 P) ::
  (nat_lit 321, tops2.o_497 P) ::
  (nat_lit 323, tops2.o_499 P) ::
  (nat_lit 324, tops2.o_500 P) ::
  (nat_lit 325, tops2.o_501 P) ::
  (nat_lit 326, tops2.o_502 P) ::
  (nat_lit 327, tops2.o_503 P) ::
  (nat_lit 328, tops2.o_504 P) ::
  (nat_lit 329, tops2.o_505 P) ::
  (nat_lit 330, tops2.o_506 P) ::
  (nat_lit 331, tops2.o_507 P) ::
  (nat_lit 332, tops2.o_508 P) ::
  (nat_lit 333, tops2.o_509 P) ::
  (nat_lit 334, tops2.o_510 P) ::
  (nat_lit 335, tops2.o_511 P) ::
  (nat_lit 336, tops2.o_512 P) ::
  (nat_lit 337, tops2.o_513 P) ::
  (nat_lit 338, tops2.o_514 P) ::
  (nat_lit 339, tops2.o_515 P) ::
  (nat_lit 340, tops2.o_516 P) ::
  (nat_lit 341, tops2.o_517 P) ::
  (nat_lit 342, tops2.o_518 P) ::
  (nat_lit 343, tops2.o_519 P) ::
  (nat_lit 344, tops2.o_520 P) ::
  (nat_lit 345, tops2.o_521 P) ::
  (nat_lit 346, tops2.o_522 P) ::
  (nat_lit 347, tops2.o_523 P) ::
  (nat_lit 348, tops2.o_524 P) ::
  (nat_lit 349, tops2.o_525 P) ::
  (nat_lit 350, tops2.o_526 P) ::
  (nat_lit 351, tops2.o_527 P) ::
  (nat_lit 352, tops2.o_528 P) ::
  (nat_lit 353, tops2.o_529 P) ::
  (nat_lit 354, tops2.o_530 P) ::
  (nat_lit 355, tops2.o_531 P) ::
  (nat_lit 356, tops2.o_532 P) ::
  (nat_lit 357, tops2.o_533 P) ::
  (nat_lit 358, tops2.o_534 P) ::
  (nat_lit 359, tops2.o_535 P) ::
  (nat_lit 360, tops2.o_536 P) ::
  (nat_lit 361, tops2.o_537 P) ::
  (nat_lit 362, tops2.o_538 P) ::
  (nat_lit 363, tops2.o_539 P) ::
  (nat_lit 364, tops2.o_540 P) ::
  (nat_lit 365, tops2.o_541 P) ::
  (nat_lit 366, tops2.o_542 P) ::
  (nat_lit 367, tops2.o_543 P) ::
  (nat_lit 368, tops2.o_544 P) ::
  (nat_lit 369, tops2.o_545 P) ::
  (nat_lit 370, tops2.o_546 P) ::
  (nat_lit 371, tops2.o_547 P) ::
  (nat_lit 372, tops2.o_548 P) ::
  (nat_lit 373, tops2.o_549 P) ::
  (nat_lit 374, tops2.o_550 P) ::
  (nat_lit 375, tops2.o_551 P) ::
  (nat_lit 376, tops2.o_552 P) ::
  (nat_lit 377, tops2.o_553 P) ::
  (nat_lit 378, tops2.o_554 P) ::
  (nat_lit 379, tops2.o_555 P) ::
  (nat_lit 380, tops2.o_556 P) ::
  (nat_lit 381, tops2.o_557 P) ::
  (nat_lit 382, tops2.o_558 P) ::
  (nat_lit 383, tops2.o_559 P) ::
  (nat_lit 384, tops2.o_560 P) ::
  (nat_lit 385, tops2.o_561 P) ::
  (nat_lit 386, tops2.o_562 P) ::
  (nat_lit 387, tops2.o_563 P) ::
  (nat_lit 388, tops2.o_564 P) ::
  (nat_lit 389, tops2.o_565 P) ::
  (nat_lit 390, tops2.o_566 P) ::
  (nat_lit 391, tops2.o_567 P) ::
  (nat_lit 392, tops2.o_568 P) ::
  (nat_lit 393, tops2.o_569 P) ::
  (nat_lit 394, tops2.o_570 P) ::
  (nat_lit 395, tops2.o_571 P) ::
  (nat_lit 396, tops2.o_572 P) ::
  (nat_lit 397, tops2.o_573 P) ::
  (nat_lit 398, tops2.o_574 P) ::
  (nat_lit 399, tops2.o_575 P) ::
  (nat_lit 400, tops2.o_576 P) ::
  (nat_lit 401, tops2.o_577 P) ::
  (nat_lit 402, tops2.o_578 P) ::
  (nat_lit 403, tops2.o_579 P) ::
  (nat_lit 404, tops2.o_580 P) ::
  (nat_lit 405, tops2.o_581 P) ::
  (nat_lit 406, tops2.o_582 P) ::
  (nat_lit 407, tops2.o_583 P) ::
  (nat_lit 408, tops2.o_584 P) ::
  (nat_lit 409, tops2.o_585 P) ::
  (nat_lit 410, tops2.o_586 P) ::
  (nat_lit 411, tops2.o_587 P) ::
  (nat_lit 412, tops2.o_588 P) ::
  (nat_lit 413, tops2.o_589 P) ::
  (nat_lit 414, tops2.o_590 P) ::
  (nat_lit 415, tops2.o_591 P) ::
  (nat_lit 416, tops2.o_592 P) ::
  (nat_lit 417, tops2.o_593 P) ::
  (nat_lit 418, tops2.o_594 P) ::
  (nat_lit 419, tops2.o_595 P) ::
  (nat_lit 420, tops2.o_596 P) ::
  (nat_lit 421, tops2.o_597 P) ::
  (nat_lit 422, tops2.o_598 P) ::
  (nat_lit 423, tops2.o_599 P) ::
  (nat_lit 424, tops2.o_600 P) ::
  (nat_lit 425, tops2.o_601 P) ::
  (nat_lit 426, tops2.o_602 P) ::
  (nat_lit 427, tops2.o_603 P) ::
  (nat_lit 428, tops2.o_604 P) ::
  (nat_lit 429, tops2.o_605 P) ::
  (nat_lit 430, tops2.o_606 P) ::
  (nat_lit 431, tops2.o_607 P) ::
  (nat_lit 432, tops2.o_608 P) ::
  (nat_lit 433, tops2.o_609 P) ::
  (nat_lit 434, tops2.o_610 P) ::
  (nat_lit 435, tops2.o_611 P) ::
  (nat_lit 436, tops2.o_612 P) ::
  (nat_lit 437, tops2.o_613 P) ::
  (nat_lit 438, tops2.o_614 P) ::
  (nat_lit 439, tops2.o_615 P) ::
  (nat_lit 440, tops2.o_616 P) ::
  (nat_lit 441, tops2.o_617 P) ::
  (nat_lit 442, tops2.o_618 P) ::
  (nat_lit 443, tops2.o_619 P) ::
  (nat_lit 444, tops2.o_620 P) ::
  (nat_lit 445, tops2.o_621 P) ::
  (nat_lit 446, tops2.o_622 P) ::
  (nat_lit 447, tops2.o_623 P) ::
  (nat_lit 448, tops2.o_624 P) ::
  (nat_lit 449, tops2.o_625 P) ::
  (nat_lit 450, tops2.o_626 P) ::
  (nat_lit 451, tops2.o_627 P) ::
  (nat_lit 452, tops2.o_628 P) ::
  (nat_lit 453, tops2.o_629 P) ::
  (nat_lit 454, tops2.o_630 P) ::
  (nat_lit 455, tops2.o_631 P) ::
  (nat_lit 456, tops2.o_632 P) ::
  (nat_lit 457, tops2.o_633 P) ::
  (nat_lit 458, tops2.o_634 P) ::
  (nat_lit 459, tops2.o_635 P) ::
  (nat_lit 460, tops2.o_636 P) ::
  (nat_lit 461, tops2.o_637 P) ::
  (nat_lit 462, tops2.o_638 P) ::
  (nat_lit 463, tops2.o_639 P) ::
  (nat_lit 464, tops2.o_640 P) ::
  (nat_lit 465, tops2.o_641 P) ::
  (nat_lit 466, tops2.o_642 P) ::
  (nat_lit 467, tops2.o_643 P) ::
  (nat_lit 468, tops2.o_644 P) ::
  (nat_lit 469, tops2.o_645 P) ::
  (nat_lit 470, tops2.o_646 P) ::
  (nat_lit 471, tops2.o_647 P) ::
  (nat_lit 472, tops2.o_648 P) ::
  (nat_lit 473, tops2.o_649 P) ::
  (nat_lit 474, tops2.o_650 P) ::
  (nat_lit 475, tops2.o_651 P) ::
  (nat_lit 476, tops2.o_652 P) ::
  (nat_lit 477, tops2.o_653 P) ::
  (nat_lit 478, tops2.o_654 P) ::
  (nat_lit 479, tops2.o_655 P) ::
  (nat_lit 480, tops2.o_656 P) ::
  (nat_lit 481, tops2.o_657 P) ::
  (nat_lit 482, tops2.o_658 P) ::
  (nat_lit 483, nsURL P) ::
  (nat_lit 484, tops2.o_660 P) ::
  (nat_lit 485, tops2.o_661 P) ::
  (nat_lit 486, tops2.o_662 P) ::
  (nat_lit 487, tops2.o_663 P) ::
  (nat_lit 488, tops2.o_793 P) ::
  (nat_lit 489, tops2.o_794 P) ::
  (nat_lit 490, tops2.o_795 P) ::
  (nat_lit 491, tops2.o_796 P) ::
  (nat_lit 492, tops2.o_797 P) ::
  (nat_lit 493, tops2.o_798 P) ::
  (nat_lit 494, tops2.o_799 P) ::
  (nat_lit 495, tops2.o_800 P) ::
  (nat_lit 496, tops2.o_801 P) ::
  (nat_lit 497, tops2.o_802 P) ::
  (nat_lit 498, tops2.o_803 P) ::
  (nat_lit 499, tops2.o_804 P) ::
  (nat_lit 500, tops2.o_805 P) ::
  (nat_lit 501, tops2.o_806 P) ::
  (nat_lit 502, tops2.o_807 P) ::
  (nat_lit 503, tops2.o_808 P) ::
  (nat_lit 504, tops2.o_809 P) ::
  (nat_lit 505, tops2.o_810 P) ::
  (nat_lit 506, tops2.o_811 P) ::
  (nat_lit 507, tops2.o_812 P) ::
  (nat_lit 508, tops2.o_813 P) ::
  (nat_lit 509, tops2.o_814 P) ::
  (nat_lit 510, tops2.o_815 P) ::
  (nat_lit 511, tops2.o_816 P) ::
  (nat_lit 512, tops2.o_817 P) ::
  (nat_lit 513, tops2.o_818 P) ::
  (nat_lit 514, tops2.o_819 P) ::
  (nat_lit 515, tops2.o_820 P) :: []
abbrev addrs : List Addr := nat_lit 0 :: nat_lit 1 :: nat_lit 2 :: nat_lit 3 :: nat_lit 4 :: nat_lit 5 :: nat_lit 6 :: nat_lit 7 :: nat_lit 8 :: nat_lit 9 :: nat_lit 10 :: nat_lit 11 :: nat_lit 12 :: nat_lit 13 :: nat_lit 14 :: nat_lit 15 :: nat_lit 16 :: nat_lit 17 :: nat_lit 18 :: nat_lit 19 :: nat_lit 20 :: nat_lit 21 :: nat_lit 22 :: nat_lit 23 :: nat_lit 24 :: nat_lit 25 :: nat_lit 26 :: nat_lit 27 :: nat_lit 28 :: nat_lit 29 :: nat_lit 30 :: nat_lit 31 :: nat_lit 32 :: nat_lit 33 :: nat_lit 34 :: nat_lit 35 :: nat_lit 36 :: nat_lit 37 :: nat_lit 38 :: nat_lit 39 :: nat_lit 40 :: nat_lit 41 :: nat_lit 42 :: nat_lit 43 :: nat_lit 44 :: nat_lit 45 :: nat_lit 46 :: nat_lit 47 :: nat_lit 48 :: nat_lit 49 :: nat_lit 50 :: nat_lit 51 :: nat_lit 52 :: nat_lit 53 :: nat_lit 54 :: nat_lit 55 :: nat_lit 56 :: nat_lit 57 :: nat_lit 58 :: nat_lit 59 :: nat_lit 60 :: nat_lit 61 :: nat_lit 62 :: nat_lit 63 :: nat_lit 64 :: nat_lit 65 :: nat_lit 66 :: nat_lit 67 :: nat_lit 68 :: nat_lit 69 :: nat_lit 70 :: nat_lit 71 :: nat_lit 72 :: nat_lit 73 :: nat_lit 74 :: nat_lit 75 :: nat_lit 76 :: nat_lit 77 :: nat_lit 78 :: nat_lit 79 :: nat_lit 80 :: nat_lit 81 :: nat_lit 82 :: nat_lit 83 :: nat_lit 84 :: nat_lit 85 :: nat_lit 86 :: nat_lit 87 :: nat_lit 88 :: nat_lit 89 :: nat_lit 90 :: nat_lit 91 :: nat_lit 92 :: nat_lit 93 :: nat_lit 94 :: nat_lit 95 :: nat_lit 96 :: nat_lit 97 :: nat_lit 98 :: nat_lit 99 :: nat_lit 100 :: nat_lit 101 :: nat_lit 102 :: nat_lit 103 :: nat_lit 104 :: nat_lit 105 :: nat_lit 106 :: nat_lit 107 :: nat_lit 108 :: nat_lit 109 :: nat_lit 110 :: nat_lit 111 :: nat_lit 112 :: nat_lit 113 :: nat_lit 114 :: nat_lit 115 :: nat_lit 116 :: nat_lit 117 :: nat_lit 118 :: nat_lit 119 :: nat_lit 120 :: nat_lit 121 :: nat_lit 122 :: nat_lit 123 :: nat_lit 124 :: nat_lit 125 :: nat_lit 126 :: nat_lit 127 :: nat_lit 128 :: nat_lit 129 :: nat_lit 130 :: nat_lit 131 :: nat_lit 132 :: nat_lit 133 :: nat_lit 134 :: nat_lit 135 :: nat_lit 136 :: nat_lit 137 :: nat_lit 138 :: nat_lit 139 :: nat_lit 140 :: nat_lit 141 :: nat_lit 142 :: nat_lit 143 :: nat_lit 144 :: nat_lit 145 :: nat_lit 146 :: nat_lit 147 :: nat_lit 148 :: nat_lit 149 :: nat_lit 150 :: nat_lit 151 :: nat_lit 152 :: nat_lit 153 :: nat_lit 154 :: nat_lit 155 :: nat_lit 156 :: nat_lit 157 :: nat_lit 158 :: nat_lit 159 :: nat_lit 160 :: nat_lit 161 :: nat_lit 162 :: nat_lit 163 :: nat_lit 164 :: nat_lit 165 :: nat_lit 166 :: nat_lit 167 :: nat_lit 168 :: nat_lit 169 :: nat_lit 170 :: nat_lit 171 :: nat_lit 172 :: nat_lit 173 :: nat_lit 174 :: nat_lit 175 :: nat_lit 176 :: nat_lit 177 :: nat_lit 178 :: nat_lit 179 :: nat_lit 180 :: nat_lit 181 :: nat_lit 182 :: nat_lit 183 :: nat_lit 184 :: nat_lit 185 :: nat_lit 186 :: nat_lit 187 :: nat_lit 188 :: nat_lit 189 :: nat_lit 190 :: nat_lit 191 :: nat_lit 192 :: nat_lit 193 :: nat_lit 194 :: nat_lit 195 :: nat_lit 196 :: nat_lit 197 :: nat_lit 198 :: nat_lit 199 :: nat_lit 200 :: nat_lit 201 :: nat_lit 202 :: nat_lit 203 :: nat_lit 204 :: nat_lit 205 :: nat_lit 206 :: nat_lit 207 :: nat_lit 208 :: nat_lit 209 :: nat_lit 210 :: nat_lit 211 :: nat_lit 212 :: nat_lit 213 :: nat_lit 214 :: nat_lit 215 :: nat_lit 216 :: nat_lit 217 :: nat_lit 218 :: nat_lit 219 :: nat_lit 220 :: nat_lit 221 :: nat_lit 222 :: nat_lit 223 :: nat_lit 224 :: nat_lit 225 :: nat_lit 226 :: nat_lit 227 :: nat_lit 228 :: nat_lit 229 :: nat_lit 230 :: nat_lit 231 :: nat_lit 232 :: nat_lit 233 :: nat_lit 234 :: nat_lit 235 :: nat_lit 236 :: nat_lit 237 :: nat_lit 238 :: nat_lit 239 :: nat_lit 240 :: nat_lit 241 :: nat_lit 242 :: nat_lit 243 :: nat_lit 244 :: nat_lit 245 :: nat_lit 246 :: nat_lit 247 :: nat_lit 248 :: nat_lit 249 :: nat_lit 250 :: nat_lit 251 :: nat_lit 252 :: nat_lit 253 :: nat_lit 254 :: nat_lit 255 :: nat_lit 256 :: nat_lit 257 :: nat_lit 258 :: nat_lit 259 :: nat_lit 260 :: nat_lit 261 :: nat_lit 262 :: nat_lit 263 :: nat_lit 264 :: nat_lit 265 :: nat_lit 266 :: nat_lit 267 :: nat_lit 268 :: nat_lit 269 :: nat_lit 270 :: nat_lit 271 :: nat_lit 272 :: nat_lit 273 :: nat_lit 274 :: nat_lit 275 :: nat_lit 276 :: nat_lit 277 :: nat_lit 278 :: nat_lit 279 :: nat_lit 280 :: nat_lit 281 :: nat_lit 282 :: nat_lit 283 :: nat_lit 284 :: nat_lit 285 :: nat_lit 286 :: nat_lit 287 :: nat_lit 288 :: nat_lit 289 :: nat_lit 290 :: nat_lit 291 :: nat_lit 292 :: nat_lit 293 :: nat_lit 294 :: nat_lit 295 :: nat_lit 296 :: nat_lit 297 :: nat_lit 298 :: nat_lit 299 :: nat_lit 300 :: nat_lit 301 :: nat_lit 302 :: nat_lit 303 :: nat_lit 304 :: nat_lit 305 :: nat_lit 306 :: nat_lit 307 :: nat_lit 308 :: nat_lit 309 :: nat_lit 310 :: nat_lit 311 :: nat_lit 312 :: nat_lit 313 :: nat_lit 314 :: nat_lit 315 :: nat_lit 316 :: nat_lit 317 :: nat_lit 318 :: nat_lit 319 :: nat_lit 320 :: nat_lit 321 :: nat_lit 323 :: nat_lit 324 :: nat_lit 325 :: nat_lit 326 :: nat_lit 327 :: nat_lit 328 :: nat_lit 329 :: nat_lit 330 :: nat_lit 331 :: nat_lit 332 :: nat_lit 333 :: nat_lit 334 :: nat_lit 335 :: nat_lit 336 :: nat_lit 337 :: nat_lit 338 :: nat_lit 339 :: nat_lit 340 :: nat_lit 341 :: nat_lit 342 :: nat_lit 343 :: nat_lit 344 :: nat_lit 345 :: nat_lit 346 :: nat_lit 347 :: nat_lit 348 :: nat_lit 349 :: nat_lit 350 :: nat_lit 351 :: nat_lit 352 :: nat_lit 353 :: nat_lit 354 :: nat_lit 355 :: nat_lit 356 :: nat_lit 357 :: nat_lit 358 :: nat_lit 359 :: nat_lit 360 :: nat_lit 361 :: nat_lit 362 :: nat_lit 363 :: nat_lit 364 :: nat_lit 365 :: nat_lit 366 :: nat_lit 367 :: nat_lit 368 :: nat_lit 369 :: nat_lit 370 :: nat_lit 371 :: nat_lit 372 :: nat_lit 373 :: nat_lit 374 :: nat_lit 375 :: nat_lit 376 :: nat_lit 377 :: nat_lit 378 :: nat_lit 379 :: nat_lit 380 :: nat_lit 381 :: nat_lit 382 :: nat_lit 383 :: nat_lit 384 :: nat_lit 385 :: nat_lit 386 :: nat_lit 387 :: nat_lit 388 :: nat_lit 389 :: nat_lit 390 :: nat_lit 391 :: nat_lit 392 :: nat_lit 393 :: nat_lit 394 :: nat_lit 395 :: nat_lit 396 :: nat_lit 397 :: nat_lit 398 :: nat_lit 399 :: nat_lit 400 :: nat_lit 401 :: nat_lit 402 :: nat_lit 403 :: nat_lit 404 :: nat_lit 405 :: nat_lit 406 :: nat_lit 407 :: nat_lit 408 :: nat_lit 409 :: nat_lit 410 :: nat_lit 411 :: nat_lit 412 :: nat_lit 413 :: nat_lit 414 :: nat_lit 415 :: nat_lit 416 :: nat_lit 417 :: nat_lit 418 :: nat_lit 419 :: nat_lit 420 :: nat_lit 421 :: nat_lit 422 :: nat_lit 423 :: nat_lit 424 :: nat_lit 425 :: nat_lit 426 :: nat_lit 427 :: nat_lit 428 :: nat_lit 429 :: nat_lit 430 :: nat_lit 431 :: nat_lit 432 :: nat_lit 433 :: nat_lit 434 :: nat_lit 435 :: nat_lit 436 :: nat_lit 437 :: nat_lit 438 :: nat_lit 439 :: nat_lit 440 :: nat_lit 441 :: nat_lit 442 :: nat_lit 443 :: nat_lit 444 :: nat_lit 445 :: nat_lit 446 :: nat_lit 447 :: nat_lit 448 :: nat_lit 449 :: nat_lit 450 :: nat_lit 451 :: nat_lit 452 :: nat_lit 453 :: nat_lit 454 :: nat_lit 455 :: nat_lit 456 :: nat_lit 457 :: nat_lit 458 :: nat_lit 459 :: nat_lit 460 :: nat_lit 461 :: nat_lit 462 :: nat_lit 463 :: nat_lit 464 :: nat_lit 465 :: nat_lit 466 :: nat_lit 467 :: nat_lit 468 :: nat_lit 469 :: nat_lit 470 :: nat_lit 471 :: nat_lit 472 :: nat_lit 473 :: nat_lit 474 :: nat_lit 475 :: nat_lit 476 :: nat_lit 477 :: nat_lit 478 :: nat_lit 479 :: nat_lit 480 :: nat_lit 481 :: nat_lit 482 :: nat_lit 483 :: nat_lit 484 :: nat_lit 485 :: nat_lit 486 :: nat_lit 487 :: nat_lit 488 :: nat_lit 489 :: nat_lit 490 :: nat_lit 491 :: nat_lit 492 :: nat_lit 493 :: nat_lit 494 :: nat_lit 495 :: nat_lit 496 :: nat_lit 497 :: nat_lit 498 :: nat_lit 499 :: nat_lit 500 :: nat_lit 501 :: nat_lit 502 :: nat_lit 503 :: nat_lit 504 :: nat_lit 505 :: nat_lit 506 :: nat_lit 507 :: nat_lit 508 :: nat_lit 509 :: nat_lit 510 :: nat_lit 511 :: nat_lit 512 :: nat_lit 513 :: nat_lit 514 :: nat_lit 515 :: []
theorem heap_keys : ∀ P, addrs = (heap P).map (·.1) := fun _ => by kernel_rfl
noncomputable def hook : Hook := kHook heap addrs heap_keys
noncomputable def qv : Program := { pw with main := { pw.main with body := [0, 1, 3, 4, 5, 7, 8, 10, 14, 15, 16, 18, 19, 20, 21, 22, 23].filterMap fun i => pw.main.body[i]? } }
def loose : List Str := ["immutabledict", "to_list", "_tuplegetter", "_URLFields", "URL", "_law_fields", "_law_targets"]
noncomputable def H1 (P : Params) : Heap := absHeap (T24 P) 516 {}
noncomputable def lhsZ (w : World) := ((boot_heap w.params).isNs mainGlobals && (Array.mk [] : Array GenState).size == 0, (boot_heap w.params).objs.size, (boot_heap w.params).nsMap mainGlobals "__annotations__")
noncomputable def stF (w : World) (os : OsState) : Shared := ⟨H1 w.params, Array.mk [], {}, 949, os⟩
noncomputable def lhsL1 (w : World) := fun (os : OsState) => (staticsOk (importedModules pw.main.body) (boot_heap w.params) (H1 w.params) && namesBound pw (H1 w.params) && gensDone (stF w os) && laidKept (boot_heap w.params) (H1 w.params))
noncomputable def xt (s : Shared) : Bool := xlAt qv ([] : List (Str × WData)) s && recOk (RowW.records (OpenRow.toRowW (OpenLaw.row PySem.Challenge.rw_bq5036_01))) s
noncomputable def lhsL2 (w : World) := fun (os : OsState) => openSeen qv loose (importedModules pw.main.body) xt true (stF w os)
noncomputable def rhsL2 (_ : World) := fun (_ : OsState) => openGood qv loose
noncomputable def lhsL3 (w : World) : List (Option Obj) := addrs.map fun a => (T24 w.params).get a
noncomputable def rhsL3 (w : World) : List (Option Obj) := (heap w.params).map fun p => some p.2
end Mine
lay_quick Mine.lhsZ Mine.lhsL1 Mine.lhsL2 Mine.rhsL2 Mine.lhsL3 Mine.rhsL3
namespace Mine
theorem lookZ (w : World) : lhsZ w = (true, 11, some (Value.ref 6)) := by
  rw [PySem.W.Fast.te8797721847576614594]
  kernel_rfl
theorem look1 (w : World) : lhsL1 w = fun _ => true := by
  rw [PySem.W.Fast.te7620463393662842981]
  kernel_rfl
theorem look2 (w : World) : lhsL2 w = rhsL2 w := by
  rw [PySem.W.Fast.te14650266770125065523, PySem.W.Fast.te8964032055913983619]
  kernel_rfl
theorem look3 (w : World) : lhsL3 w = rhsL3 w := by kernel_rfl
def unfreed (o : Obj) : Bool := match o.data with
  | .freed => false
  | _ => true
theorem alive_of {o : Obj} (h : unfreed o = true) : alive o = some o := by
  obtain ⟨c, d, dt, sl⟩ := o
  cases dt <;> first | rfl | cases h
theorem maps_to {t : BT} {n : Nat} : ∀ {as : List Addr} {K : Frag}, as.all (fun a => Nat.blt a n) = true → K.all (fun p => unfreed p.2) = true → (as.map fun a => t.get a) = K.map (fun p => some p.2) → (as.map fun a => (absHeap t n {}).get? a) = K.map fun p => some p.2
  | [], [], _, _, _ => rfl
  | [], _ :: _, _, _, e => by cases e
  | _ :: _, [], _, _, e => by cases e
  | a :: as, p :: K, h, q, e => by
    rw [List.map_cons, List.map_cons] at e
    injection e with e1 e2
    rw [List.all_cons, Bool.and_eq_true] at h q
    rw [List.map_cons, List.map_cons, abs_get (Nat.le_of_ble_eq_true h.1) e1, alive_of q.1, maps_to h.2 q.2 e2]
theorem all_unfreed (w : World) : ((heap w.params).all fun p => unfreed p.2) = true := by kernel_rfl
theorem opened (w : World) : (fencedOpening treeTable pw w 9480).map (fun s => (s.heap, s.gens, s.drawn, s.toks)) = some (boot_heap w.params, Array.mk [], boot_drawn, boot_toks) :=
  boot_open (by kernel_rfl) (by kernel_rfl) (fun s => by kernel_rfl) w
theorem left : LeftO pw qv loose xt hook.obs hook.val 9480 :=
  LeftO.of_pieces (H₀ := fun P => boot_heap P) (H₁ := H1) (gs₁ := Array.mk []) (d₁ := {}) (k₁ := 949) (M := 4699) opened lookZ (fun w os => runAll w os) (by kernel_rfl) (fun w => by
    funext os
    have h1 := congrFun (look1 w) os
    have h2 := congrFun (look2 w) os
    have h3 : (addrs.map fun a => (H1 w.params).get? a) = (heap w.params).map fun p => some p.2 := maps_to (by kernel_rfl) (all_unfreed w) (look3 w)
    exact Prod.ext h1 (Prod.ext h2 h3))
end Mine
end
section
open PySem PySem.W PySem.W.X PyProof.Rows PySem.Calls
set_option Elab.async false
set_option maxRecDepth 100000
namespace Mine
/-- all that stood stands, and nothing but heap and tokens has turned -/
def Kp (s s' : Shared) : Prop := s.heap.StaysIn s'.heap ∧ s'.gens = s.gens ∧ s'.drawn = s.drawn ∧ s'.os = s.os
/-- the same, but for one object -/
def KpBut (a : Addr) (s s' : Shared) : Prop := (∀ b o, b ≠ a → s.heap.get? b = some o → s'.heap.get? b = some o) ∧ s'.gens = s.gens ∧ s'.drawn = s.drawn ∧ s'.os = s.os
theorem kp_mem {s : Shared} {h : Heap} {t : Nat} {news : List (Addr × Obj)} (D : Mem s.heap h [] news) : Kp s ⟨h, s.gens, s.drawn, t, s.os⟩ :=
  ⟨fun b o e => D.keep b o e (by simp [away]), rfl, rfl, rfl⟩
theorem Kp.refl (s : Shared) : Kp s s := ⟨fun _ _ e => e, rfl, rfl, rfl⟩
theorem Kp.trans {a b c : Shared} (x : Kp a b) (y : Kp b c) : Kp a c := ⟨fun q o e => y.1 q o (x.1 q o e), y.2.1.trans x.2.1, y.2.2.1.trans x.2.2.1, y.2.2.2.trans x.2.2.2⟩
abbrev AR (hdl : Option Value) : Around := ⟨hdl, 360, none, none, 200⟩
theorem wide {α : Type} {M : Model} {A : Around} {t : Sem α} {Q : α → Shared → Prop} {E : Value → Shared → Prop} {s : Shared} (hd : A.depth ≤ 360) (hu : A.units ≤ 200)
    (h : wpAny M (AR A.handled) t Q E s) : wpAny M A t Q E s :=
  fun Γ p hΓ => h Γ p ⟨hΓ.1, Nat.le_trans hΓ.2.1 hd, (fun l (e : none = some l) => nomatch e), (fun g (e : none = some g) => nomatch e), Nat.le_trans hΓ.2.2.2.2 hu⟩
theorem wideC {M : Model} {A : Around} {c : Code} {R : Result → Shared → Prop} {s : Shared} (hd : A.depth ≤ 360) (hu : A.units ≤ 200)
    (h : codeAny M (AR A.handled) c R s) : codeAny M A c R s :=
  fun Γ p hc hΓ => h Γ p hc ⟨hΓ.1, Nat.le_trans hΓ.2.1 hd, (fun l (e : none = some l) => nomatch e), (fun g (e : none = some g) => nomatch e), Nat.le_trans hΓ.2.2.2.2 hu⟩
theorem fr_stays {h₀ h h' : Heap} {L : Addr} {m : Str → Option Value} (F : Fr h₀ L h m) (k : h.StaysIn h') : Fr h₀ L h' m := ⟨F.ns.keeps k, fun b o e => k _ _ (F.keep b o e), F.above⟩
theorem news_stays {h₀ h h' : Heap} {L : Addr} {news : List (Addr × Obj)} (N : News h₀ L h news) (k : h.StaysIn h') : News h₀ L h' news := fun p hp => ⟨k _ _ (N p hp).1, (N p hp).2⟩
/-- a def of the text is entered: all stands in the base, the frame is new -/
theorem enter {prog : Program} {w : World} {hdl : Option Value} {d u : Nat} {R : Result → Shared → Prop} {s : Shared} {name qual : Str} {params : Arguments} {body : List Stmt} {scope : Scope} {dV kV doc pm cdv ct oc : Value} {an od : Option Addr} {osl : Array (Option Value)} {f : Addr} {args : Args} {binds : List (Str × Value)} {K : Frag}
    {bs : Heap} {p : Program} {loose : List Str} {mg mb : Str → Option Value}
    (X : K.In bs) (T : TopRead p loose mg mb bs) (hb : bs.StaysIn s.heap) (ho : K.lookup f = some ⟨oc, od, .func (fnOf name qual params body scope dV kV doc pm an cdv ct), osl⟩) (hcd : codeIn K cdv qual = true)
    (hbind : BindsTo s (fnOf name qual params body scope dV kV doc pm an cdv ct) args binds) (hloc : ∀ y ∈ binds, scope.names.lookup y.1 = some .local)
    (news : List (Addr × Obj)) (hn : ∀ q ∈ news, s.heap.get? q.1 = some q.2 ∧ bs.get? q.1 = none)
    (h : ∀ g L h₁, Fr g L h₁ (fun y => binds.reverse.lookup y) → News g L h₁ news → bs.StaysIn g → K.In g → TopRead p loose mg mb g → (∀ b o, b ∉ news.map (·.1) → s.heap.get? b = some o → g.get? b = some o) →
      wpAny (model prog w) (({ handled := hdl, depth := d, frames := none, guards := none, units := u } : Around).deeper (envOf qual scope L f cdv)) (execs body (envOf qual scope L f cdv))
        (fun fl s' => R (.ok (.ret (match fl with | .ret v => v | _ => .none))) s') (fun _ _ => False) { s with heap := h₁, toks := s.toks + binds.length })
    (hd : d < recursionLimit := by decide) (hco : scope.isCoroutine = false := by rfl) (hgen : scope.isGenerator = false := by rfl) (hk : scope.kind = .function := by rfl) (hcell : ∀ x ∈ scope.names, x.2 ≠ .cell := by decide) :
    codeAny (model prog w) ⟨hdl, d, none, none, u⟩ (.call (.ref f) args) R s := by
  refine codeAny_call_def (fd := fnOf name qual params body scope dV kV doc pm an cdv ct) (body := body) (binds := binds) hd (hb _ _ (X _ _ ho)) rfl (T.nolimit.keeps hb) (codeRec_of (X.keeps hb) hcd) rfl hbind hcell hloc (fun h₁ hns hk₁ => ?_) hco hgen hk
  have nm : ∀ b o, bs.get? b = some o → b ∉ news.map (·.1) := fun b o e q => by
    obtain ⟨p, hp, rfl⟩ := List.mem_map.mp q
    rw [(hn p hp).2] at e; cases e
  have st : bs.StaysIn (hideAll s.heap (news.map (·.1))) := fun b o e => hideAll_get _ (hb b o e) (nm b o e)
  have X' := X.keeps st
  have T' := T.keeps st
  refine wpAny_mono (h (hideAll s.heap (news.map (·.1))) s.heap.objs.size h₁ ⟨hns, fun b o e => hk₁ b o (of_hideAll _ e), Nat.le_of_eq (hideAll_size _ _)⟩
    (fun p hp => ⟨hk₁ _ _ (hn p hp).1, Nat.ne_of_lt (Heap.lt_size (hn p hp).1), hideAll_none _ (List.mem_map_of_mem hp)⟩) st X' T' (fun b o q e => hideAll_get _ e q)) (fun _ _ y => y) (fun _ _ y => y.elim)

/-- an item of a list of the ledger is stored into -/
theorem set_led {prog : Program} {w : World} {A : Around} {E : Value → Shared → Prop} {s : Shared} {h₀ : Heap} {L l : Addr} {m : Str → Option Value} {its : List Value} {d : Option Addr} {n : Nat} {sl : Array (Option Value)} {k : Int} {kn : Nat} {t : Tok} {v : Value} {rest : List (Addr × Obj)} {Q : Unit → Shared → Prop}
    (hkn : k.toNat = kn) (F : Fr h₀ L s.heap m) (N : News h₀ L s.heap ((l, ⟨.type "list", d, .seq its.toArray n, sl⟩) :: rest)) (hr : ∀ p ∈ rest, p.1 ≠ l) (h0 : 0 ≤ k) (hfit : k < 2 ^ 63) (hk : k < its.length)
    (h : ∀ h' d n sl, Fr h₀ L h' m → News h₀ L h' ((l, ⟨.type "list", d, .seq (its.set kn v).toArray n, sl⟩) :: rest) → Q () { s with heap := h' }) :
    wpAny (model prog w) A (setItem (.ref l) (.int k t) v) Q E s := by
  subst hkn
  have D := N _ (.head _)
  refine wpAny_setItem_list (items := its.toArray) ⟨_, D.1, rfl, n, rfl⟩ h0 hfit (by simpa using hk) fun h' hl hs => ?_
  obtain ⟨⟨c, d', dt, sl'⟩, ho, hc, n', hd⟩ := hl
  dsimp only at hc hd
  subst hc hd
  have ho : h'.get? l = some ⟨.type "list", d', .seq (its.set k.toNat v).toArray n', sl'⟩ := by rw [ho]; simp
  refine h h' d' n' sl' ⟨F.ns.sameBut hs (Ne.symm D.2.1), fun b o e => ?_, F.above⟩ fun p hp => ?_
  · refine (hs.2 b fun q => ?_).trans (F.keep b o e)
    subst q
    have := D.2.2
    rw [e] at this; cases this
  · rcases List.mem_cons.mp hp with rfl | hp
    · exact ⟨ho, D.2⟩
    · exact ⟨(hs.2 _ (hr p hp)).trans (N p (.tail _ hp)).1, (N p (.tail _ hp)).2⟩
/-- a contract that keeps all is used in a walk -/
theorem use_kp {α : Type} {M : Model} {A : Around} {t : Sem α} {Q : α → Shared → Prop} {E : Value → Shared → Prop} {s : Shared} {P : α → Heap → Prop} {h₀ : Heap} {L : Addr} {m : Str → Option Value} {news : List (Addr × Obj)}
    (hd : A.depth ≤ 360) (hu : A.units ≤ 200) (F : Fr h₀ L s.heap m) (N : News h₀ L s.heap news) (c : wpAny M (AR A.handled) t (fun v s' => P v s'.heap ∧ Kp s s') (fun _ _ => False) s)
    (h : ∀ v h' t', P v h' → Fr h₀ L h' m → News h₀ L h' news → s.heap.StaysIn h' → Q v { s with heap := h', toks := t' }) : wpAny M A t Q E s := by
  refine wide hd hu (wpAny_mono c (fun v s' z => ?_) (fun _ _ z => z.elim))
  obtain ⟨p, k⟩ := z
  obtain ⟨hh, g, dr, tk, os⟩ := s'
  obtain ⟨k1, rfl, rfl, rfl⟩ := k
  exact h v hh tk p (fr_stays F k1) (news_stays N k1) k1

abbrev AD (hdl : Option Value) (d u : Nat) : Around := ⟨hdl, d, none, none, u⟩
theorem wideD {α : Type} {M : Model} {A : Around} {t : Sem α} {Q : α → Shared → Prop} {E : Value → Shared → Prop} {s : Shared} {d u : Nat} (hd : A.depth ≤ d) (hu : A.units ≤ u)
    (h : wpAny M (AD A.handled d u) t Q E s) : wpAny M A t Q E s :=
  fun Γ p hΓ => h Γ p ⟨hΓ.1, Nat.le_trans hΓ.2.1 hd, (fun l (e : none = some l) => nomatch e), (fun g (e : none = some g) => nomatch e), Nat.le_trans hΓ.2.2.2.2 hu⟩
theorem wideDC {M : Model} {A : Around} {c : Code} {R : Result → Shared → Prop} {s : Shared} {d u : Nat} (hd : A.depth ≤ d) (hu : A.units ≤ u)
    (h : codeAny M (AD A.handled d u) c R s) : codeAny M A c R s :=
  fun Γ p hc hΓ => h Γ p hc ⟨hΓ.1, Nat.le_trans hΓ.2.1 hd, (fun l (e : none = some l) => nomatch e), (fun g (e : none = some g) => nomatch e), Nat.le_trans hΓ.2.2.2.2 hu⟩
/-- a contract that keeps all is used in a walk -/
theorem use_kpD {α : Type} {M : Model} {A : Around} {t : Sem α} {Q : α → Shared → Prop} {E : Value → Shared → Prop} {s : Shared} {P : α → Heap → Prop} {h₀ : Heap} {L : Addr} {m : Str → Option Value} {news : List (Addr × Obj)} {d u : Nat}
    (hd : A.depth ≤ d) (hu : A.units ≤ u) (F : Fr h₀ L s.heap m) (N : News h₀ L s.heap news) (c : wpAny M (AD A.handled d u) t (fun v s' => P v s'.heap ∧ Kp s s') (fun _ _ => False) s)
    (h : ∀ v h' t', P v h' → Fr h₀ L h' m → News h₀ L h' news → s.heap.StaysIn h' → Q v { s with heap := h', toks := t' }) : wpAny M A t Q E s := by
  refine wideD hd hu (wpAny_mono c (fun v s' z => ?_) (fun _ _ z => z.elim))
  obtain ⟨p, k⟩ := z
  obtain ⟨hh, g, dr, tk, os⟩ := s'
  obtain ⟨k1, rfl, rfl, rfl⟩ := k
  exact h v hh tk p (fr_stays F k1) (news_stays N k1) k1
end Mine
end
section
open PySem PySem.W PySem.W.X PyProof.Rows PySem.Calls
set_option Elab.async false
set_option maxRecDepth 100000
set_option maxHeartbeats 4000000
namespace Mine
theorem tkind : builtinKind "tuple.__getitem__" = some .slot := by decide +kernel
theorem tsplit : splitId "tuple.__getitem__" = some ("tuple", "__getitem__") := by decide +kernel
section
variable {prog : Program} {w : World} {A : Around} {E : Value → Shared → Prop} {s : Shared} {K : Frag} {u C : Addr} {d : Option Addr} {items : Array Value} {n : Nat} {sl : Array (Option Value)} {x : Value} {Q : Value → Shared → Prop}
theorem tup_get {k : Int} {t : Tok} {j z : Nat} (X : K.In s.heap) (hu : s.heap.get? u = some ⟨.ref C, d, .seq items n, sl⟩) (hm : mroIn K C (.type "tuple") = some true) (hlo : -(2 ^ 63) ≤ k) (hhi : k < 2 ^ 63) (hz : items.size = z) (hj : seqIndex? k z = some j) (hx : items[j]? = some x) (h : Q x s) :
    wpAny (model prog w) A (call (.builtin "tuple.__getitem__") [.ref u, .int k t]) Q E s := by
  subst hz
  obtain ⟨hh, g, dr, tk, os⟩ := s
  have L0 : Looks (model prog w) hh (typeOf (.ref u)) (.ref C) := (Looks.ld hu).andThen .now
  have L1 := looks_mroIn (M := model prog w) X hm
  refine wpAny_call (codeAny_call_builtin (by decide +kernel) entry_tuple_getitem ?_)
  have ha := args_tuple_getitem (.ref u) (.int k t)
  simp only [checkBuiltinCall, tkind, tsplit]
  refine wpAny_bind ?_
  unfold isInstance
  refine wpAny_bind (L0.at (L1.at ?_))
  dsimp only
  rw [if_neg (by decide)]
  have e : ∀ (R : Unit → Shared → Prop) (E' : Value → Shared → Prop) (A' : Around), R () ⟨hh, g, dr, tk, os⟩ → wpAny (model prog w) A' (match Manifest.signature? "tuple.__getitem__" with | some sig => Bind.checkArgs "tuple.__getitem__" sig ⟨[.ref u, .int k t], []⟩ | none => pure ()) R E' ⟨hh, g, dr, tk, os⟩ := by
    intro R E' A' r
    have ha' : (match Manifest.signature? "tuple.__getitem__" with | some sig => Bind.checkArgs "tuple.__getitem__" sig ⟨[.ref u, .int k t], []⟩ | none => pure ()) = pure () := ha
    rw [ha']; exact wpAny_pure r
  refine e _ _ _ ?_
  show wpAny _ _ (Builtin.Tuple.tupleItemsOf (.ref u) >>= _) _ _ _
  unfold Builtin.Tuple.tupleItemsOf
  refine wpAny_bind (wpAny_bind (wpAny_mono (Q := fun v s' => v = some items ∧ s' = ⟨hh, g, dr, tk, os⟩) (E := fun _ _ => False) ?_ (fun v s' z => ?_) (fun _ _ z => z.elim)))
  · unfold seqItems?
    refine wpAny_bind (wpAny_load hu ?_)
    exact wpAny_pure ⟨rfl, rfl⟩
  obtain ⟨rfl, rfl⟩ := z
  refine wpAny_pure ?_
  refine wpAny_bind (wpAny_typeOf (typeIs_int _ k t) ?_)
  rw [if_neg (by decide)]
  refine wpAny_bind (wpAny_specialOf (T := "int") (typeIs_int _ k t) int_index ?_)
  rw [if_neg (by simp)]
  refine wpAny_bind (wpAny_of_eq (a := k) rfl ?_)
  rw [if_neg (by simp only [Bool.or_eq_true, decide_eq_true_eq]; omega)]
  simp only [hj, Option.bind_some, hx]
  exact wpAny_pure h
end
end Mine
end
section
open PySem PySem.W PySem.W.X PyProof.Rows
set_option Elab.async false
set_option maxRecDepth 100000
set_option maxHeartbeats 0
local macro_rules | `(tactic| x_close) => `(tactic| first | exact ⟨by kernel_rfl, Mine.kp_mem (by assumption)⟩ | exact ⟨by kernel_rfl, fun _ _ e => e, rfl, rfl, rfl⟩)
namespace Mine
theorem issub {w : World} {hdl : Option Value} {s : Shared} (X : (Mine.heap w.params).In s.heap) :
    wpAny (model Mine.pw w) (AR hdl) (PySem.call (.builtin "issubclass") [.ref 484, .type "tuple"]) (fun v s' => v = .bool true ∧ Kp s s') (fun _ _ => False) s := by
  x_run
theorem typ {w : World} {hdl : Option Value} {s : Shared} {u dx q : Addr} {dn us pw ho po db : Value} (X : (Mine.heap w.params).In s.heap) (hu : s.heap.get? u = some ⟨.ref 484, some dx, .seq #[dn, us, pw, ho, po, db, .ref q] 0, #[]⟩) :
    wpAny (model Mine.pw w) (AR hdl) (PySem.call (.type "type") [.ref u]) (fun v s' => v = .ref 484 ∧ Kp s s') (fun _ _ => False) s := by
  x_run
end Mine
end
section
open PySem PySem.W PySem.W.X PyProof.Rows PySem.Calls
set_option Elab.async false
set_option maxRecDepth 100000
set_option maxHeartbeats 4000000
set_option pp.deepTerms false
set_option pp.maxSteps 1000
namespace Mine
theorem tup_meth {w : World} {A : Around} {E : Value → Shared → Prop} {s : Shared} {h₀ : Heap} {L : Addr} {m : Str → Option Value} {pl : Sem Bool} {Q : Value × List Value → Shared → Prop}
    (F : Fr h₀ L s.heap m) (X₀ : (heap w.params).In h₀) (h : Q (.builtin "tuple.__getitem__", []) { s with toks := s.toks + 1 }) : wpAny (model pw w) A (getMethod (.type "tuple") (Str.ofString "__getitem__") pl) Q E s := by
  w_on
  have dummy : heap = heap ∧ PySem.Challenge.rw_bq5036_01 = PySem.Challenge.rw_bq5036_01 := by
    k_fill
    exact ⟨rfl, rfl⟩
  clear dummy
  have e1 : typeOf (.type "tuple") = pure (.type "type") := meta_tuple
  have e2 : Manifest.isStub "tuple" = false := by decide +kernel
  have e3 : handedIn (.builtin "tuple.__getitem__") = true := by decide +kernel
  have e4 : findCls (heap w.params) (.type "tuple") (.type "type") (Str.ofString "__getitem__") = some (.val (.builtin "tuple.__getitem__")) := by k_is
  with_reducible exact method_type F X₀ e1 e2 e4 e3 h
end Mine
local macro_rules | `(tactic| walk_at "call builtin:issubclass") => `(tactic| (refine' Mine.use_kpD (d := 360) (u := 200) (Nat.le_of_ble_eq_true (by with_unfolding_all rfl)) (Nat.le_of_ble_eq_true (by with_unfolding_all rfl)) (by with_reducible assumption) (by with_reducible assumption) (P := fun v _ => v = .bool true) (Mine.issub (Frag.In.keeps ‹Frag.In _ _› (Fr.keep ‹_›))) ?_; intro v' h' t' p' F' N' k'; subst p'; k_sweep))
local macro_rules | `(tactic| walk_at "call type:type") => `(tactic| (refine' Mine.use_kpD (d := 360) (u := 200) (Nat.le_of_ble_eq_true (by with_unfolding_all rfl)) (Nat.le_of_ble_eq_true (by with_unfolding_all rfl)) (by with_reducible assumption) (by with_reducible assumption) (P := fun v _ => v = .ref 484) (Mine.typ (Frag.In.keeps ‹Frag.In _ _› (Fr.keep ‹_›)) (Fr.keep ‹Fr _ _ _ _› _ _ ‹_›)) ?_; intro v' h' t' p' F' N' k'; subst p'; k_sweep))
local macro_rules | `(tactic| walk_at "getMethod type:tuple") => `(tactic| (with_reducible refine' Mine.tup_meth (by with_reducible assumption) (by with_reducible assumption) ?_))
namespace Mine
abbrev TR (mg mb : Str → Option Value) (h : Heap) : Prop := TopRead qv (looseW qv loose) mg mb h
section
variable {w : World} {hdl : Option Value} {s : Shared} {mg mb : Str → Option Value} {u dx q : Addr} {dn us pw ho po db : Value}
theorem tg_drivername (X : (heap w.params).In s.heap) (T : TR mg mb s.heap) (hu : s.heap.get? u = some ⟨.ref 484, some dx, .seq #[dn, us, pw, ho, po, db, .ref q] 0, #[]⟩) :
    codeAny (model Mine.pw w) (AD hdl 350 150) (.call (.ref 212) ⟨[.ref 293, .ref u, .ref 484], []⟩) (fun v s' => v = .ok (.ret dn) ∧ Kp s s') s := by
  w_on
  have dummy : heap = heap ∧ PySem.Challenge.rw_bq5036_01 = PySem.Challenge.rw_bq5036_01 := by
    k_fill
    exact ⟨rfl, rfl⟩
  clear dummy
  refine enter X T (fun _ _ e => e) (by k_is) (by k_is) (binds := [("self", .ref 293), ("obj", .ref u), ("objtype", .ref 484)]) (by first | exact BindsTo.of_eq rfl | exact binds_K X rfl (by k_is) rfl rfl rfl) (locs rfl) [] (List.forall_mem_nil _) ?_
  intro g L h₁ F N kb Xg Tg kg
  replace hu := kb _ _ hu
  try dsimp only
  k_steps
  rename Fr _ _ _ _ => F'
  have hU := F'.keep _ _ hu
  have hM : mroIn (heap w.params) 484 (.type "tuple") = some true := by k_is
  refine Mine.tup_get (Xg.keeps F'.keep) hU hM (by decide +kernel) (by decide +kernel) (z := 7) (by rfl) (j := 0) (by decide +kernel) (by rfl) ?_
  exact ⟨rfl, fun b o e => F'.keep b o (kb b o e), rfl, rfl, rfl⟩
theorem tg_username (X : (heap w.params).In s.heap) (T : TR mg mb s.heap) (hu : s.heap.get? u = some ⟨.ref 484, some dx, .seq #[dn, us, pw, ho, po, db, .ref q] 0, #[]⟩) :
    codeAny (model Mine.pw w) (AD hdl 350 150) (.call (.ref 212) ⟨[.ref 296, .ref u, .ref 484], []⟩) (fun v s' => v = .ok (.ret us) ∧ Kp s s') s := by
  w_on
  have dummy : heap = heap ∧ PySem.Challenge.rw_bq5036_01 = PySem.Challenge.rw_bq5036_01 := by
    k_fill
    exact ⟨rfl, rfl⟩
  clear dummy
  refine enter X T (fun _ _ e => e) (by k_is) (by k_is) (binds := [("self", .ref 296), ("obj", .ref u), ("objtype", .ref 484)]) (by first | exact BindsTo.of_eq rfl | exact binds_K X rfl (by k_is) rfl rfl rfl) (locs rfl) [] (List.forall_mem_nil _) ?_
  intro g L h₁ F N kb Xg Tg kg
  replace hu := kb _ _ hu
  try dsimp only
  k_steps
  rename Fr _ _ _ _ => F'
  have hU := F'.keep _ _ hu
  have hM : mroIn (heap w.params) 484 (.type "tuple") = some true := by k_is
  refine Mine.tup_get (Xg.keeps F'.keep) hU hM (by decide +kernel) (by decide +kernel) (z := 7) (by rfl) (j := 1) (by decide +kernel) (by rfl) ?_
  exact ⟨rfl, fun b o e => F'.keep b o (kb b o e), rfl, rfl, rfl⟩
theorem tg_password (X : (heap w.params).In s.heap) (T : TR mg mb s.heap) (hu : s.heap.get? u = some ⟨.ref 484, some dx, .seq #[dn, us, pw, ho, po, db, .ref q] 0, #[]⟩) :
    codeAny (model Mine.pw w) (AD hdl 350 150) (.call (.ref 212) ⟨[.ref 299, .ref u, .ref 484], []⟩) (fun v s' => v = .ok (.ret pw) ∧ Kp s s') s := by
  w_on
  have dummy : heap = heap ∧ PySem.Challenge.rw_bq5036_01 = PySem.Challenge.rw_bq5036_01 := by
    k_fill
    exact ⟨rfl, rfl⟩
  clear dummy
  refine enter X T (fun _ _ e => e) (by k_is) (by k_is) (binds := [("self", .ref 299), ("obj", .ref u), ("objtype", .ref 484)]) (by first | exact BindsTo.of_eq rfl | exact binds_K X rfl (by k_is) rfl rfl rfl) (locs rfl) [] (List.forall_mem_nil _) ?_
  intro g L h₁ F N kb Xg Tg kg
  replace hu := kb _ _ hu
  try dsimp only
  k_steps
  rename Fr _ _ _ _ => F'
  have hU := F'.keep _ _ hu
  have hM : mroIn (heap w.params) 484 (.type "tuple") = some true := by k_is
  refine Mine.tup_get (Xg.keeps F'.keep) hU hM (by decide +kernel) (by decide +kernel) (z := 7) (by rfl) (j := 2) (by decide +kernel) (by rfl) ?_
  exact ⟨rfl, fun b o e => F'.keep b o (kb b o e), rfl, rfl, rfl⟩
theorem tg_host (X : (heap w.params).In s.heap) (T : TR mg mb s.heap) (hu : s.heap.get? u = some ⟨.ref 484, some dx, .seq #[dn, us, pw, ho, po, db, .ref q] 0, #[]⟩) :
    codeAny (model Mine.pw w) (AD hdl 350 150) (.call (.ref 212) ⟨[.ref 302, .ref u, .ref 484], []⟩) (fun v s' => v = .ok (.ret ho) ∧ Kp s s') s := by
  w_on
  have dummy : heap = heap ∧ PySem.Challenge.rw_bq5036_01 = PySem.Challenge.rw_bq5036_01 := by
    k_fill
    exact ⟨rfl, rfl⟩
  clear dummy
  refine enter X T (fun _ _ e => e) (by k_is) (by k_is) (binds := [("self", .ref 302), ("obj", .ref u), ("objtype", .ref 484)]) (by first | exact BindsTo.of_eq rfl | exact binds_K X rfl (by k_is) rfl rfl rfl) (locs rfl) [] (List.forall_mem_nil _) ?_
  intro g L h₁ F N kb Xg Tg kg
  replace hu := kb _ _ hu
  try dsimp only
  k_steps
  rename Fr _ _ _ _ => F'
  have hU := F'.keep _ _ hu
  have hM : mroIn (heap w.params) 484 (.type "tuple") = some true := by k_is
  refine Mine.tup_get (Xg.keeps F'.keep) hU hM (by decide +kernel) (by decide +kernel) (z := 7) (by rfl) (j := 3) (by decide +kernel) (by rfl) ?_
  exact ⟨rfl, fun b o e => F'.keep b o (kb b o e), rfl, rfl, rfl⟩
theorem tg_port (X : (heap w.params).In s.heap) (T : TR mg mb s.heap) (hu : s.heap.get? u = some ⟨.ref 484, some dx, .seq #[dn, us, pw, ho, po, db, .ref q] 0, #[]⟩) :
    codeAny (model Mine.pw w) (AD hdl 350 150) (.call (.ref 212) ⟨[.ref 305, .ref u, .ref 484], []⟩) (fun v s' => v = .ok (.ret po) ∧ Kp s s') s := by
  w_on
  have dummy : heap = heap ∧ PySem.Challenge.rw_bq5036_01 = PySem.Challenge.rw_bq5036_01 := by
    k_fill
    exact ⟨rfl, rfl⟩
  clear dummy
  refine enter X T (fun _ _ e => e) (by k_is) (by k_is) (binds := [("self", .ref 305), ("obj", .ref u), ("objtype", .ref 484)]) (by first | exact BindsTo.of_eq rfl | exact binds_K X rfl (by k_is) rfl rfl rfl) (locs rfl) [] (List.forall_mem_nil _) ?_
  intro g L h₁ F N kb Xg Tg kg
  replace hu := kb _ _ hu
  try dsimp only
  k_steps
  rename Fr _ _ _ _ => F'
  have hU := F'.keep _ _ hu
  have hM : mroIn (heap w.params) 484 (.type "tuple") = some true := by k_is
  refine Mine.tup_get (Xg.keeps F'.keep) hU hM (by decide +kernel) (by decide +kernel) (z := 7) (by rfl) (j := 4) (by decide +kernel) (by rfl) ?_
  exact ⟨rfl, fun b o e => F'.keep b o (kb b o e), rfl, rfl, rfl⟩
theorem tg_database (X : (heap w.params).In s.heap) (T : TR mg mb s.heap) (hu : s.heap.get? u = some ⟨.ref 484, some dx, .seq #[dn, us, pw, ho, po, db, .ref q] 0, #[]⟩) :
    codeAny (model Mine.pw w) (AD hdl 350 150) (.call (.ref 212) ⟨[.ref 308, .ref u, .ref 484], []⟩) (fun v s' => v = .ok (.ret db) ∧ Kp s s') s := by
  w_on
  have dummy : heap = heap ∧ PySem.Challenge.rw_bq5036_01 = PySem.Challenge.rw_bq5036_01 := by
    k_fill
    exact ⟨rfl, rfl⟩
  clear dummy
  refine enter X T (fun _ _ e => e) (by k_is) (by k_is) (binds := [("self", .ref 308), ("obj", .ref u), ("objtype", .ref 484)]) (by first | exact BindsTo.of_eq rfl | exact binds_K X rfl (by k_is) rfl rfl rfl) (locs rfl) [] (List.forall_mem_nil _) ?_
  intro g L h₁ F N kb Xg Tg kg
  replace hu := kb _ _ hu
  try dsimp only
  k_steps
  rename Fr _ _ _ _ => F'
  have hU := F'.keep _ _ hu
  have hM : mroIn (heap w.params) 484 (.type "tuple") = some true := by k_is
  refine Mine.tup_get (Xg.keeps F'.keep) hU hM (by decide +kernel) (by decide +kernel) (z := 7) (by rfl) (j := 5) (by decide +kernel) (by rfl) ?_
  exact ⟨rfl, fun b o e => F'.keep b o (kb b o e), rfl, rfl, rfl⟩
theorem tg_query (X : (heap w.params).In s.heap) (T : TR mg mb s.heap) (hu : s.heap.get? u = some ⟨.ref 484, some dx, .seq #[dn, us, pw, ho, po, db, .ref q] 0, #[]⟩) :
    codeAny (model Mine.pw w) (AD hdl 350 150) (.call (.ref 212) ⟨[.ref 311, .ref u, .ref 484], []⟩) (fun v s' => v = .ok (.ret (.ref q)) ∧ Kp s s') s := by
  w_on
  have dummy : heap = heap ∧ PySem.Challenge.rw_bq5036_01 = PySem.Challenge.rw_bq5036_01 := by
    k_fill
    exact ⟨rfl, rfl⟩
  clear dummy
  refine enter X T (fun _ _ e => e) (by k_is) (by k_is) (binds := [("self", .ref 311), ("obj", .ref u), ("objtype", .ref 484)]) (by first | exact BindsTo.of_eq rfl | exact binds_K X rfl (by k_is) rfl rfl rfl) (locs rfl) [] (List.forall_mem_nil _) ?_
  intro g L h₁ F N kb Xg Tg kg
  replace hu := kb _ _ hu
  try dsimp only
  k_steps
  rename Fr _ _ _ _ => F'
  have hU := F'.keep _ _ hu
  have hM : mroIn (heap w.params) 484 (.type "tuple") = some true := by k_is
  refine Mine.tup_get (Xg.keeps F'.keep) hU hM (by decide +kernel) (by decide +kernel) (z := 7) (by rfl) (j := 6) (by decide +kernel) (by rfl) ?_
  exact ⟨rfl, fun b o e => F'.keep b o (kb b o e), rfl, rfl, rfl⟩
end
end Mine
end
section
open PySem PySem.W PySem.W.X PyProof.Rows PySem.Calls
set_option Elab.async false
set_option maxRecDepth 100000
set_option maxHeartbeats 4000000
set_option pp.deepTerms false
set_option pp.maxSteps 1000
local macro_rules | `(tactic| walk_at "subscriptTail Name Constant ref int") => `(tactic| (refine item_litK (News.isList (by with_reducible assumption) (by news_mem)) (by decide) (by decide) rfl ?_ (by with_unfolding_all rfl)))
local macro_rules | `(tactic| walk_at "setItem ref int") => `(tactic| ((first | refine Mine.set_led (kn := 1) rfl (by with_reducible assumption) (by with_reducible assumption) (List.forall_mem_nil _) (by decide) (by decide) (by simp only [List.length_cons, List.length_nil]; decide) ?_ | refine Mine.set_led (kn := 2) rfl (by with_reducible assumption) (by with_reducible assumption) (List.forall_mem_nil _) (by decide) (by decide) (by simp only [List.length_cons, List.length_nil]; decide) ?_); intro h' d' n' sl' F' N'; k_sweep; simp only [List.set] at N'))
namespace Mine
/-- what a draw leaves behind -/
def NextPost (st sc : Addr) (many : Int) (ns : List Int) (s : Shared) (res : Result) (s' : Shared) : Prop := ∃ (k : Int) (t : Tok) (i' r' : Int) (t1 t2 : Tok) (d : Option Addr) (n : Nat) (sl : Array (Option Value)), res = .ok (.ret (.int k t)) ∧ (0 ≤ k ∧ k < many) ∧ (0 ≤ i' ∧ i' ≤ (ns.length : Int)) ∧ (0 ≤ r' ∧ r' < 2147483647) ∧
  s'.heap.get? st = some ⟨.type "list", d, .seq [.ref sc, .int i' t1, .int r' t2].toArray n, sl⟩ ∧ KpBut st s s'
theorem next_c {w : World} {hdl : Option Value} {s : Shared} {bs : Heap} {mg mb : Str → Option Value} (X : (heap w.params).In bs) (T : TR mg mb bs) (hb : bs.StaysIn s.heap)
    {st sc : Addr} {i r many : Int} {ti tr tm : Tok} {d : Option Addr} {n : Nat} {sl : Array (Option Value)} {vs : List Value} {ns : List Int}
    (hst : s.heap.get? st = some ⟨.type "list", d, .seq [.ref sc, .int i ti, .int r tr].toArray n, sl⟩) (hbs : bs.get? st = none)
    (hsc : s.heap.IsList sc vs.toArray) (hns : IntsAre vs ns) (hne : sc ≠ st) (hi : 0 ≤ i ∧ i ≤ (ns.length : Int)) (hr : 0 ≤ r ∧ r < 2147483647) (hm : 0 < many ∧ many < 10) (hlen : ns.length ≤ 60) :
    codeAny (model pw w) (AR hdl) (.call (.ref 494) ⟨[.ref st, .int many tm], []⟩) (NextPost st sc many ns s) s := by
  w_on
  have dummy : heap = heap ∧ PySem.Challenge.rw_bq5036_01 = PySem.Challenge.rw_bq5036_01 := by
    k_fill
    exact ⟨rfl, rfl⟩
  clear dummy
  refine enter X T hb (by k_is) (by k_is) (binds := [("state", .ref st), ("many", .int many tm)]) (BindsTo.of_eq rfl) (locs rfl) [(st, _)] (List.forall_mem_cons.mpr ⟨⟨hst, hbs⟩, List.forall_mem_nil _⟩) ?_
  intro g L h₁ F N kb Xg Tg kg
  have hsc' : g.IsList sc vs.toArray := by
    obtain ⟨o, ho, r⟩ := hsc
    exact ⟨o, kg _ _ (by simpa using hne) ho, r⟩
  try dsimp only
  k_steps
  all_goals (
    rename_i F' N'
    refine ⟨_, _, _, _, _, _, _, _, _, rfl, ⟨fmod_lo _ hm.1, fmod_hi _ hm.1⟩, ?_, ⟨fmod_lo _ (by decide), fmod_hi _ (by decide)⟩, (N' _ (.head _)).1, fun b o q e => F'.keep b o (kg b o (by simpa using q) e), rfl, rfl, rfl⟩
    omega)
end Mine
end
section
open PySem PySem.W PySem.W.X PyProof.Rows PySem.Calls
set_option Elab.async false
set_option maxRecDepth 100000
set_option maxHeartbeats 4000000
namespace Mine
inductive Pl : Value → Prop
  | none : Pl .none
  | str (s : Str) (t : Tok) : Pl (.str s t)
  | int (n : Int) (t : Tok) : Pl (.int n t)
theorem Pl.handed {v : Value} (h : Pl v) : handedIn v = true := by cases h <;> rfl
/-- an address's object -/
def UrlAt (h : Heap) (u : Addr) (dn us pw ho po db : Value) (q : Addr) : Prop := ∃ dx d2, h.get? u = some ⟨.ref 484, some dx, .seq #[dn, us, pw, ho, po, db, .ref q] 0, #[]⟩ ∧ h.get? dx = some ⟨.type "dict", none, .dict #[] 0, #[]⟩ ∧ h.get? q = some ⟨.ref 171, some d2, .dict #[] 0, #[]⟩
theorem UrlAt.keeps {h h' : Heap} {u q : Addr} {dn us pw ho po db : Value} (U : UrlAt h u dn us pw ho po db q) (k : h.StaysIn h') : UrlAt h' u dn us pw ho po db q := by
  obtain ⟨dx, d2, a, b, c⟩ := U
  exact ⟨dx, d2, k _ _ a, k _ _ b, k _ _ c⟩
theorem gkind : builtinKind "tuple.__getattribute__" = some .slot := by decide +kernel
theorem gsplit : splitId "tuple.__getattribute__" = some ("tuple", "__getattribute__") := by decide +kernel
section
variable {prog : Program} {w : World} {A : Around} {E : Value → Shared → Prop} {s : Shared} {K : Frag} {u dx p f C : Addr} {n : Nat} {items : Array Value} {v : Value} {expr fill : Bool} {name : Str} {t : Tok}
theorem by_tg (hu : A.units ≤ 140) (hd : A.depth ≤ 345) (X : K.In s.heap) (ho : s.heap.get? u = some ⟨.ref C, some dx, .seq items n, #[]⟩) (hx : s.heap.get? dx = some ⟨.type "dict", none, .dict #[] 0, #[]⟩)
    (g0 : mroIn K C (.type "tuple") = some true) (g1 : findIn K (.ref C) "__getattribute__" = some (some (.builtin "tuple.__getattribute__"))) (g1' : findIn K (.ref C) "__getattr__" = some none) (g2 : isClsIn K C = true)
    (g3 : findIn K (.ref C) name = some (some (.ref p))) (g4 : specialIn K (.ref p) "__get__" = some (some (.ref f))) (g5 : takesIn K (.ref p) = some true) (hh : handedIn v = true)
    (c : codeAny (model prog w) (AD A.handled 350 150) (.call (.ref f) ⟨[.ref p, .ref u, .ref C], []⟩) (fun r s' => r = .ok (.ret v) ∧ Kp s s') s) :
    wpAny (model prog w) A (getAttrBy (.ref u) (.str name t) fill expr) (fun r s' => r = v ∧ Kp s s') E s := by
  have I : InstAt s.heap u ⟨.ref C, some dx, .seq items n, #[]⟩ C (some ⟨.type "dict", none, .dict #[] 0, #[]⟩) := ⟨ho, rfl, rfl, hx⟩
  have L0 := I.type (M := model prog w)
  have L1 := looks_mroIn (M := model prog w) X g0
  have L2 := looks_findIn (M := model prog w) X g1
  have L3 := looks_find (M := model prog w) X I (findObj_data (by obtain ⟨cd, hc, _⟩ := any_some g2; rw [hc]; rfl) g3 g4 g5)
  have L4 := looks_findIn (M := model prog w) X g1'
  obtain ⟨hh', g, dr, tk, os⟩ := s
  unfold getAttrBy
  refine wpAny_holding (wpAny_bind (L0.at (wpAny_bind (L2.at ?_))))
  show wpAny _ _ (getAttrByItsOwn _ _ _ _ _ _) _ _ _
  unfold getAttrByItsOwn
  refine wpAny_bind ?_
  show wpAny _ _ (typeLookup (.ref C) "__getattr__") _ _ _
  refine L4.at (wpAny_bind (wpAny_attempt (wpAny_holding ?_)))
  have e : callGetattribute (.ref u) (.str name t) (.builtin "tuple.__getattribute__") expr = boundAndCalled (.builtin "tuple.__getattribute__") (.ref u) (.str name t) := by
    unfold callGetattribute
    rw [if_neg (by cases expr <;> decide)]
  rw [e]
  unfold boundAndCalled
  refine wpAny_bind (wpAny_of_eq (F.slot_tuple_getattribute.bind (.ref u)) ?_)
  refine wpAny_call (codeAny_call_builtin F.slot_tuple_getattribute.plain F.entry_tuple_ga ?_)
  have ha := F.args_tuple_getattribute_2 (.ref u) (.str name t)
  simp only [checkBuiltinCall, gkind, gsplit, List.append, List.cons_append, List.nil_append]
  refine wpAny_bind ?_
  unfold isInstance
  refine wpAny_bind (L0.at (L1.at ?_))
  dsimp only
  rw [if_neg (by decide)]
  have e : ∀ (R : Unit → Shared → Prop) (E' : Value → Shared → Prop) (A' : Around), R () ⟨hh', g, dr, tk, os⟩ → wpAny (model prog w) A' (match Manifest.signature? "tuple.__getattribute__" with | some sig => Bind.checkArgs "tuple.__getattribute__" sig ⟨[.ref u, .str name t], []⟩ | none => pure ()) R E' ⟨hh', g, dr, tk, os⟩ := by
    intro R E' A' r
    have ha' : (match Manifest.signature? "tuple.__getattribute__" with | some sig => Bind.checkArgs "tuple.__getattribute__" sig ⟨[.ref u, .str name t], []⟩ | none => pure ()) = pure () := ha
    rw [ha']; exact wpAny_pure r
  refine e _ _ _ ?_
  unfold Builtin.«object.__getattribute__»
  refine wpAny_bind (wpAny_of_eq (a := (.ref u, [.str name t])) (by first | rfl | kernel_rfl) ?_)
  dsimp only
  refine wpAny_bind (wpAny_of_eq (a := name) (by first | rfl | kernel_rfl) ?_)
  refine wpAny_bind (L0.at (wpAny_bind (L3.at ?_)))
  dsimp only
  show wpAny _ _ (holding [.ref p] (call (.ref f) [.ref p, .ref u, .ref C]) >>= ret) _ _ _
  refine wpAny_bind (wpAny_holding (wpAny_mono (wpAny_call (wideDC (d := 350) (u := 150) ?_ ?_ (codeAny_mono c fun r s' z => ?_))) (fun _ _ z => z) fun _ _ z => z))
  · show A.depth ≤ 350
    omega
  · show A.units + 1 ≤ 150
    omega
  obtain ⟨rfl, k⟩ := z
  refine wpAny_pure ?_
  dsimp only
  exact handed_on hh ⟨rfl, k⟩
end
section
variable {prog : Program} {w : World} {A : Around} {E : Value → Shared → Prop} {s : Shared} {K : Frag} {u dx p f C : Addr} {n : Nat} {items : Array Value} {v : Value} {expr : Bool} {Q : Value → Shared → Prop} {name : Str} {h₀ : Heap} {L : Addr} {m : Str → Option Value} {news : List (Addr × Obj)}
theorem kp_on {Q : Value → Shared → Prop} {s s' : Shared} {v r : Value} (Fp : Fr h₀ L s.heap m) (N : News h₀ L s.heap news) (h : ∀ h' t', Fr h₀ L h' m → News h₀ L h' news → s.heap.StaysIn h' → Q v { s with heap := h', toks := t' }) (z : r = v ∧ Kp s s') : Q r s' := by
  obtain ⟨rfl, k⟩ := z
  obtain ⟨hh', g, dr, tk, os⟩ := s'
  obtain ⟨k1, rfl, rfl, rfl⟩ := k
  exact h hh' tk (fr_stays Fp k1) (news_stays N k1) k1
theorem get_gen (hu : A.units ≤ 140) (hd : A.depth ≤ 345) (Fp : Fr h₀ L s.heap m) (N : News h₀ L s.heap news) (X : K.In s.heap) (ho : s.heap.get? u = some ⟨.ref C, some dx, .seq items n, #[]⟩) (hx : s.heap.get? dx = some ⟨.type "dict", none, .dict #[] 0, #[]⟩)
    (g0 : mroIn K C (.type "tuple") = some true) (g1 : findIn K (.ref C) "__getattribute__" = some (some (.builtin "tuple.__getattribute__"))) (g1' : findIn K (.ref C) "__getattr__" = some none) (g2 : isClsIn K C = true)
    (g3 : findIn K (.ref C) name = some (some (.ref p))) (g4 : specialIn K (.ref p) "__get__" = some (some (.ref f))) (g5 : takesIn K (.ref p) = some true) (hh : handedIn v = true)
    (c : codeAny (model prog w) (AD A.handled 350 150) (.call (.ref f) ⟨[.ref p, .ref u, .ref C], []⟩) (fun r s' => r = .ok (.ret v) ∧ Kp { s with toks := s.toks + 1 } s') { s with toks := s.toks + 1 })
    (h : ∀ h' t', Fr h₀ L h' m → News h₀ L h' news → s.heap.StaysIn h' → Q v { s with heap := h', toks := t' }) : wpAny (model prog w) A (getAttr (.ref u) name expr) Q E s := by
  unfold getAttr
  refine wpAny_bind (wpAny_mkText (wpAny_mono (by_tg hu hd (s := { s with toks := s.toks + 1 }) X ho hx g0 g1 g1' g2 g3 g4 g5 hh c) (fun r s' z => kp_on (s := { s with toks := s.toks + 1 }) Fp N h z) fun _ _ z => z))
theorem gby_gen {fill : Bool} {t : Tok} (hu : A.units ≤ 140) (hd : A.depth ≤ 345) (Fp : Fr h₀ L s.heap m) (N : News h₀ L s.heap news) (X : K.In s.heap) (ho : s.heap.get? u = some ⟨.ref C, some dx, .seq items n, #[]⟩) (hx : s.heap.get? dx = some ⟨.type "dict", none, .dict #[] 0, #[]⟩)
    (g0 : mroIn K C (.type "tuple") = some true) (g1 : findIn K (.ref C) "__getattribute__" = some (some (.builtin "tuple.__getattribute__"))) (g1' : findIn K (.ref C) "__getattr__" = some none) (g2 : isClsIn K C = true)
    (g3 : findIn K (.ref C) name = some (some (.ref p))) (g4 : specialIn K (.ref p) "__get__" = some (some (.ref f))) (g5 : takesIn K (.ref p) = some true) (hh : handedIn v = true)
    (c : codeAny (model prog w) (AD A.handled 350 150) (.call (.ref f) ⟨[.ref p, .ref u, .ref C], []⟩) (fun r s' => r = .ok (.ret v) ∧ Kp s s') s)
    (h : ∀ h' t', Fr h₀ L h' m → News h₀ L h' news → s.heap.StaysIn h' → Q v { s with heap := h', toks := t' }) : wpAny (model prog w) A (getAttrBy (.ref u) (.str name t) fill expr) Q E s :=
  wpAny_mono (by_tg hu hd X ho hx g0 g1 g1' g2 g3 g4 g5 hh c) (fun r s' z => kp_on Fp N h z) fun _ _ z => z
theorem args_getattr_3 (a b c : Value) : argsOk "getattr" ⟨[a, b, c], []⟩ := by unfold argsOk; kernel_rfl
theorem gat_gen {t : Tok} {dflt : Value} (hu : A.units ≤ 130) (hd : A.depth ≤ 344) (Fp : Fr h₀ L s.heap m) (N : News h₀ L s.heap news) (X : K.In s.heap) (ho : s.heap.get? u = some ⟨.ref C, some dx, .seq items n, #[]⟩) (hx : s.heap.get? dx = some ⟨.type "dict", none, .dict #[] 0, #[]⟩)
    (g0 : mroIn K C (.type "tuple") = some true) (g1 : findIn K (.ref C) "__getattribute__" = some (some (.builtin "tuple.__getattribute__"))) (g1' : findIn K (.ref C) "__getattr__" = some none) (g2 : isClsIn K C = true)
    (g3 : findIn K (.ref C) name = some (some (.ref p))) (g4 : specialIn K (.ref p) "__get__" = some (some (.ref f))) (g5 : takesIn K (.ref p) = some true) (g6 : mroIn K C (.type "module") = some false) (g7 : (name != Str.ofString "get_source") = true) (hh : handedIn v = true)
    (c : codeAny (model prog w) (AD A.handled 350 150) (.call (.ref f) ⟨[.ref p, .ref u, .ref C], []⟩) (fun r s' => r = .ok (.ret v) ∧ Kp s s') s)
    (h : ∀ h' t', Fr h₀ L h' m → News h₀ L h' news → s.heap.StaysIn h' → Q v { s with heap := h', toks := t' }) : wpAny (model prog w) A (call (.builtin "getattr") [.ref u, .str name t, dflt]) Q E s := by
  have I : InstAt s.heap u ⟨.ref C, some dx, .seq items n, #[]⟩ C (some ⟨.type "dict", none, .dict #[] 0, #[]⟩) := ⟨ho, rfl, rfl, hx⟩
  have L0 := I.type (M := model prog w)
  have L1 := looks_mroIn (M := model prog w) X g6
  refine Calls.call_function_entry KB.kind_getattr KB.plain_getattr KB.entry_getattr (args_getattr_3 _ _ _) ?_
  unfold Builtin.«getattr»
  refine wpAny_bind (wpAny_of_eq (a := [.ref u, .str name t, dflt]) (by first | rfl | kernel_rfl) ?_)
  dsimp only
  refine wpAny_bind (wpAny_of_eq (a := ()) (by first | rfl | kernel_rfl) ?_)
  refine wpAny_bind (wpAny_of_eq (a := none) ?_ ?_)
  · show (if name != Str.ofString "get_source" then (pure none : Sem (Option Value)) else _) = _
    rw [if_pos g7]
  dsimp only
  refine wpAny_bind ?_
  refine wpAny_mono (Q := fun r s' => r = 0 ∧ s' = s) (E := fun _ _ => False) ?_ (fun r s' z => ?_) (fun _ _ z => z.elim)
  · show wpAny _ _ (asStr? (.str name t) >>= _) _ _ _
    refine wpAny_bind (wpAny_of_eq (a := some name) (by rfl) ?_)
    dsimp only
    unfold isInstance
    obtain ⟨hh, g, dr, tk, os⟩ := s
    refine wpAny_bind (wpAny_bind (L0.at (L1.at ?_)))
    rw [if_pos (by rfl)]
    exact wpAny_pure ⟨rfl, rfl⟩
  obtain ⟨rfl, rfl⟩ := z
  rw [if_neg (by decide)]
  unfold getAttrBy?
  refine wpAny_bind (wpAny_bind (wpAny_attempt ?_))
  refine wpAny_mono (by_tg (A := A.in1) (E := fun _ _ => False) (by show A.units + 1 ≤ 140; omega) (by show A.depth ≤ 345; omega) X ho hx g0 g1 g1' g2 g3 g4 g5 hh c) (fun r s' z => ?_) (fun _ _ z => z.elim)
  dsimp only
  refine wpAny_pure ?_
  dsimp only
  exact wpAny_pure ⟨_, rfl, kp_on Fp N h z⟩
end
end Mine
end
section
open PySem PySem.W PySem.W.X PyProof.Rows PySem.Calls
set_option Elab.async false
set_option maxRecDepth 100000
set_option maxHeartbeats 4000000
namespace Mine
theorem handed_ref (q : Addr) : handedIn (.ref q) = true := rfl
section
variable {w : World} {A : Around} {E : Value → Shared → Prop} {s : Shared} {u q : Addr} {dn us pw ho po db : Value} {expr : Bool} {Q : Value → Shared → Prop} {h₀ : Heap} {L : Addr} {m : Str → Option Value} {news : List (Addr × Obj)} {mg mb : Str → Option Value}
theorem get_drivername (hu : A.units ≤ 140) (hd : A.depth ≤ 345) (F : Fr h₀ L s.heap m) (N : News h₀ L s.heap news) (X₀ : (heap w.params).In h₀) (T₀ : TR mg mb h₀) (U : UrlAt s.heap u dn us pw ho po db q) (hh : handedIn dn = true)
    (h : ∀ h' t', Fr h₀ L h' m → News h₀ L h' news → s.heap.StaysIn h' → Q dn { s with heap := h', toks := t' }) : wpAny (model Mine.pw w) A (getAttr (.ref u) (Str.ofString "drivername") expr) Q E s := by
  w_on
  have dummy : heap = heap ∧ PySem.Challenge.rw_bq5036_01 = PySem.Challenge.rw_bq5036_01 := by
    k_fill
    exact ⟨rfl, rfl⟩
  clear dummy
  obtain ⟨dx, d2, a, b, c⟩ := U
  with_reducible exact get_gen hu hd F N (X₀.keeps F.keep) a b (by k_is) (by k_is) (by k_is) (by k_is) (p := 293) (by k_is) (f := 212) (by k_is) (by k_is) hh (tg_drivername (s := { s with toks := s.toks + 1 }) (X₀.keeps F.keep) (T₀.keeps F.keep) a) h
theorem gat_drivername {t : Tok} {dflt : Value} (hu : A.units ≤ 130) (hd : A.depth ≤ 344) (F : Fr h₀ L s.heap m) (N : News h₀ L s.heap news) (X₀ : (heap w.params).In h₀) (T₀ : TR mg mb h₀) (U : UrlAt s.heap u dn us pw ho po db q) (hh : handedIn dn = true)
    (h : ∀ h' t', Fr h₀ L h' m → News h₀ L h' news → s.heap.StaysIn h' → Q dn { s with heap := h', toks := t' }) : wpAny (model Mine.pw w) A (call (.builtin "getattr") [.ref u, .str (Str.ofString "drivername") t, dflt]) Q E s := by
  w_on
  have dummy : heap = heap ∧ PySem.Challenge.rw_bq5036_01 = PySem.Challenge.rw_bq5036_01 := by
    k_fill
    exact ⟨rfl, rfl⟩
  clear dummy
  obtain ⟨dx, d2, a, b, c⟩ := U
  with_reducible exact gat_gen hu hd F N (X₀.keeps F.keep) a b (by k_is) (by k_is) (by k_is) (by k_is) (p := 293) (by k_is) (f := 212) (by k_is) (by k_is) (by k_is) (by decide +kernel) hh (tg_drivername (X₀.keeps F.keep) (T₀.keeps F.keep) a) h
theorem gby_drivername {t : Tok} {fill : Bool} (hu : A.units ≤ 140) (hd : A.depth ≤ 345) (F : Fr h₀ L s.heap m) (N : News h₀ L s.heap news) (X₀ : (heap w.params).In h₀) (T₀ : TR mg mb h₀) (U : UrlAt s.heap u dn us pw ho po db q) (hh : handedIn dn = true)
    (h : ∀ h' t', Fr h₀ L h' m → News h₀ L h' news → s.heap.StaysIn h' → Q dn { s with heap := h', toks := t' }) : wpAny (model Mine.pw w) A (getAttrBy (.ref u) (.str (Str.ofString "drivername") t) fill expr) Q E s := by
  w_on
  have dummy : heap = heap ∧ PySem.Challenge.rw_bq5036_01 = PySem.Challenge.rw_bq5036_01 := by
    k_fill
    exact ⟨rfl, rfl⟩
  clear dummy
  obtain ⟨dx, d2, a, b, c⟩ := U
  with_reducible exact gby_gen hu hd F N (X₀.keeps F.keep) a b (by k_is) (by k_is) (by k_is) (by k_is) (p := 293) (by k_is) (f := 212) (by k_is) (by k_is) hh (tg_drivername (X₀.keeps F.keep) (T₀.keeps F.keep) a) h
theorem get_username (hu : A.units ≤ 140) (hd : A.depth ≤ 345) (F : Fr h₀ L s.heap m) (N : News h₀ L s.heap news) (X₀ : (heap w.params).In h₀) (T₀ : TR mg mb h₀) (U : UrlAt s.heap u dn us pw ho po db q) (hh : handedIn us = true)
    (h : ∀ h' t', Fr h₀ L h' m → News h₀ L h' news → s.heap.StaysIn h' → Q us { s with heap := h', toks := t' }) : wpAny (model Mine.pw w) A (getAttr (.ref u) (Str.ofString "username") expr) Q E s := by
  w_on
  have dummy : heap = heap ∧ PySem.Challenge.rw_bq5036_01 = PySem.Challenge.rw_bq5036_01 := by
    k_fill
    exact ⟨rfl, rfl⟩
  clear dummy
  obtain ⟨dx, d2, a, b, c⟩ := U
  with_reducible exact get_gen hu hd F N (X₀.keeps F.keep) a b (by k_is) (by k_is) (by k_is) (by k_is) (p := 296) (by k_is) (f := 212) (by k_is) (by k_is) hh (tg_username (s := { s with toks := s.toks + 1 }) (X₀.keeps F.keep) (T₀.keeps F.keep) a) h
theorem gat_username {t : Tok} {dflt : Value} (hu : A.units ≤ 130) (hd : A.depth ≤ 344) (F : Fr h₀ L s.heap m) (N : News h₀ L s.heap news) (X₀ : (heap w.params).In h₀) (T₀ : TR mg mb h₀) (U : UrlAt s.heap u dn us pw ho po db q) (hh : handedIn us = true)
    (h : ∀ h' t', Fr h₀ L h' m → News h₀ L h' news → s.heap.StaysIn h' → Q us { s with heap := h', toks := t' }) : wpAny (model Mine.pw w) A (call (.builtin "getattr") [.ref u, .str (Str.ofString "username") t, dflt]) Q E s := by
  w_on
  have dummy : heap = heap ∧ PySem.Challenge.rw_bq5036_01 = PySem.Challenge.rw_bq5036_01 := by
    k_fill
    exact ⟨rfl, rfl⟩
  clear dummy
  obtain ⟨dx, d2, a, b, c⟩ := U
  with_reducible exact gat_gen hu hd F N (X₀.keeps F.keep) a b (by k_is) (by k_is) (by k_is) (by k_is) (p := 296) (by k_is) (f := 212) (by k_is) (by k_is) (by k_is) (by decide +kernel) hh (tg_username (X₀.keeps F.keep) (T₀.keeps F.keep) a) h
theorem gby_username {t : Tok} {fill : Bool} (hu : A.units ≤ 140) (hd : A.depth ≤ 345) (F : Fr h₀ L s.heap m) (N : News h₀ L s.heap news) (X₀ : (heap w.params).In h₀) (T₀ : TR mg mb h₀) (U : UrlAt s.heap u dn us pw ho po db q) (hh : handedIn us = true)
    (h : ∀ h' t', Fr h₀ L h' m → News h₀ L h' news → s.heap.StaysIn h' → Q us { s with heap := h', toks := t' }) : wpAny (model Mine.pw w) A (getAttrBy (.ref u) (.str (Str.ofString "username") t) fill expr) Q E s := by
  w_on
  have dummy : heap = heap ∧ PySem.Challenge.rw_bq5036_01 = PySem.Challenge.rw_bq5036_01 := by
    k_fill
    exact ⟨rfl, rfl⟩
  clear dummy
  obtain ⟨dx, d2, a, b, c⟩ := U
  with_reducible exact gby_gen hu hd F N (X₀.keeps F.keep) a b (by k_is) (by k_is) (by k_is) (by k_is) (p := 296) (by k_is) (f := 212) (by k_is) (by k_is) hh (tg_username (X₀.keeps F.keep) (T₀.keeps F.keep) a) h
theorem get_password (hu : A.units ≤ 140) (hd : A.depth ≤ 345) (F : Fr h₀ L s.heap m) (N : News h₀ L s.heap news) (X₀ : (heap w.params).In h₀) (T₀ : TR mg mb h₀) (U : UrlAt s.heap u dn us pw ho po db q) (hh : handedIn pw = true)
    (h : ∀ h' t', Fr h₀ L h' m → News h₀ L h' news → s.heap.StaysIn h' → Q pw { s with heap := h', toks := t' }) : wpAny (model Mine.pw w) A (getAttr (.ref u) (Str.ofString "password") expr) Q E s := by
  w_on
  have dummy : heap = heap ∧ PySem.Challenge.rw_bq5036_01 = PySem.Challenge.rw_bq5036_01 := by
    k_fill
    exact ⟨rfl, rfl⟩
  clear dummy
  obtain ⟨dx, d2, a, b, c⟩ := U
  with_reducible exact get_gen hu hd F N (X₀.keeps F.keep) a b (by k_is) (by k_is) (by k_is) (by k_is) (p := 299) (by k_is) (f := 212) (by k_is) (by k_is) hh (tg_password (s := { s with toks := s.toks + 1 }) (X₀.keeps F.keep) (T₀.keeps F.keep) a) h
theorem gat_password {t : Tok} {dflt : Value} (hu : A.units ≤ 130) (hd : A.depth ≤ 344) (F : Fr h₀ L s.heap m) (N : News h₀ L s.heap news) (X₀ : (heap w.params).In h₀) (T₀ : TR mg mb h₀) (U : UrlAt s.heap u dn us pw ho po db q) (hh : handedIn pw = true)
    (h : ∀ h' t', Fr h₀ L h' m → News h₀ L h' news → s.heap.StaysIn h' → Q pw { s with heap := h', toks := t' }) : wpAny (model Mine.pw w) A (call (.builtin "getattr") [.ref u, .str (Str.ofString "password") t, dflt]) Q E s := by
  w_on
  have dummy : heap = heap ∧ PySem.Challenge.rw_bq5036_01 = PySem.Challenge.rw_bq5036_01 := by
    k_fill
    exact ⟨rfl, rfl⟩
  clear dummy
  obtain ⟨dx, d2, a, b, c⟩ := U
  with_reducible exact gat_gen hu hd F N (X₀.keeps F.keep) a b (by k_is) (by k_is) (by k_is) (by k_is) (p := 299) (by k_is) (f := 212) (by k_is) (by k_is) (by k_is) (by decide +kernel) hh (tg_password (X₀.keeps F.keep) (T₀.keeps F.keep) a) h
theorem gby_password {t : Tok} {fill : Bool} (hu : A.units ≤ 140) (hd : A.depth ≤ 345) (F : Fr h₀ L s.heap m) (N : News h₀ L s.heap news) (X₀ : (heap w.params).In h₀) (T₀ : TR mg mb h₀) (U : UrlAt s.heap u dn us pw ho po db q) (hh : handedIn pw = true)
    (h : ∀ h' t', Fr h₀ L h' m → News h₀ L h' news → s.heap.StaysIn h' → Q pw { s with heap := h', toks := t' }) : wpAny (model Mine.pw w) A (getAttrBy (.ref u) (.str (Str.ofString "password") t) fill expr) Q E s := by
  w_on
  have dummy : heap = heap ∧ PySem.Challenge.rw_bq5036_01 = PySem.Challenge.rw_bq5036_01 := by
    k_fill
    exact ⟨rfl, rfl⟩
  clear dummy
  obtain ⟨dx, d2, a, b, c⟩ := U
  with_reducible exact gby_gen hu hd F N (X₀.keeps F.keep) a b (by k_is) (by k_is) (by k_is) (by k_is) (p := 299) (by k_is) (f := 212) (by k_is) (by k_is) hh (tg_password (X₀.keeps F.keep) (T₀.keeps F.keep) a) h
theorem get_host (hu : A.units ≤ 140) (hd : A.depth ≤ 345) (F : Fr h₀ L s.heap m) (N : News h₀ L s.heap news) (X₀ : (heap w.params).In h₀) (T₀ : TR mg mb h₀) (U : UrlAt s.heap u dn us pw ho po db q) (hh : handedIn ho = true)
    (h : ∀ h' t', Fr h₀ L h' m → News h₀ L h' news → s.heap.StaysIn h' → Q ho { s with heap := h', toks := t' }) : wpAny (model Mine.pw w) A (getAttr (.ref u) (Str.ofString "host") expr) Q E s := by
  w_on
  have dummy : heap = heap ∧ PySem.Challenge.rw_bq5036_01 = PySem.Challenge.rw_bq5036_01 := by
    k_fill
    exact ⟨rfl, rfl⟩
  clear dummy
  obtain ⟨dx, d2, a, b, c⟩ := U
  with_reducible exact get_gen hu hd F N (X₀.keeps F.keep) a b (by k_is) (by k_is) (by k_is) (by k_is) (p := 302) (by k_is) (f := 212) (by k_is) (by k_is) hh (tg_host (s := { s with toks := s.toks + 1 }) (X₀.keeps F.keep) (T₀.keeps F.keep) a) h
theorem gat_host {t : Tok} {dflt : Value} (hu : A.units ≤ 130) (hd : A.depth ≤ 344) (F : Fr h₀ L s.heap m) (N : News h₀ L s.heap news) (X₀ : (heap w.params).In h₀) (T₀ : TR mg mb h₀) (U : UrlAt s.heap u dn us pw ho po db q) (hh : handedIn ho = true)
    (h : ∀ h' t', Fr h₀ L h' m → News h₀ L h' news → s.heap.StaysIn h' → Q ho { s with heap := h', toks := t' }) : wpAny (model Mine.pw w) A (call (.builtin "getattr") [.ref u, .str (Str.ofString "host") t, dflt]) Q E s := by
  w_on
  have dummy : heap = heap ∧ PySem.Challenge.rw_bq5036_01 = PySem.Challenge.rw_bq5036_01 := by
    k_fill
    exact ⟨rfl, rfl⟩
  clear dummy
  obtain ⟨dx, d2, a, b, c⟩ := U
  with_reducible exact gat_gen hu hd F N (X₀.keeps F.keep) a b (by k_is) (by k_is) (by k_is) (by k_is) (p := 302) (by k_is) (f := 212) (by k_is) (by k_is) (by k_is) (by decide +kernel) hh (tg_host (X₀.keeps F.keep) (T₀.keeps F.keep) a) h
theorem gby_host {t : Tok} {fill : Bool} (hu : A.units ≤ 140) (hd : A.depth ≤ 345) (F : Fr h₀ L s.heap m) (N : News h₀ L s.heap news) (X₀ : (heap w.params).In h₀) (T₀ : TR mg mb h₀) (U : UrlAt s.heap u dn us pw ho po db q) (hh : handedIn ho = true)
    (h : ∀ h' t', Fr h₀ L h' m → News h₀ L h' news → s.heap.StaysIn h' → Q ho { s with heap := h', toks := t' }) : wpAny (model Mine.pw w) A (getAttrBy (.ref u) (.str (Str.ofString "host") t) fill expr) Q E s := by
  w_on
  have dummy : heap = heap ∧ PySem.Challenge.rw_bq5036_01 = PySem.Challenge.rw_bq5036_01 := by
    k_fill
    exact ⟨rfl, rfl⟩
  clear dummy
  obtain ⟨dx, d2, a, b, c⟩ := U
  with_reducible exact gby_gen hu hd F N (X₀.keeps F.keep) a b (by k_is) (by k_is) (by k_is) (by k_is) (p := 302) (by k_is) (f := 212) (by k_is) (by k_is) hh (tg_host (X₀.keeps F.keep) (T₀.keeps F.keep) a) h
theorem get_port (hu : A.units ≤ 140) (hd : A.depth ≤ 345) (F : Fr h₀ L s.heap m) (N : News h₀ L s.heap news) (X₀ : (heap w.params).In h₀) (T₀ : TR mg mb h₀) (U : UrlAt s.heap u dn us pw ho po db q) (hh : handedIn po = true)
    (h : ∀ h' t', Fr h₀ L h' m → News h₀ L h' news → s.heap.StaysIn h' → Q po { s with heap := h', toks := t' }) : wpAny (model Mine.pw w) A (getAttr (.ref u) (Str.ofString "port") expr) Q E s := by
  w_on
  have dummy : heap = heap ∧ PySem.Challenge.rw_bq5036_01 = PySem.Challenge.rw_bq5036_01 := by
    k_fill
    exact ⟨rfl, rfl⟩
  clear dummy
  obtain ⟨dx, d2, a, b, c⟩ := U
  with_reducible exact get_gen hu hd F N (X₀.keeps F.keep) a b (by k_is) (by k_is) (by k_is) (by k_is) (p := 305) (by k_is) (f := 212) (by k_is) (by k_is) hh (tg_port (s := { s with toks := s.toks + 1 }) (X₀.keeps F.keep) (T₀.keeps F.keep) a) h
theorem gat_port {t : Tok} {dflt : Value} (hu : A.units ≤ 130) (hd : A.depth ≤ 344) (F : Fr h₀ L s.heap m) (N : News h₀ L s.heap news) (X₀ : (heap w.params).In h₀) (T₀ : TR mg mb h₀) (U : UrlAt s.heap u dn us pw ho po db q) (hh : handedIn po = true)
    (h : ∀ h' t', Fr h₀ L h' m → News h₀ L h' news → s.heap.StaysIn h' → Q po { s with heap := h', toks := t' }) : wpAny (model Mine.pw w) A (call (.builtin "getattr") [.ref u, .str (Str.ofString "port") t, dflt]) Q E s := by
  w_on
  have dummy : heap = heap ∧ PySem.Challenge.rw_bq5036_01 = PySem.Challenge.rw_bq5036_01 := by
    k_fill
    exact ⟨rfl, rfl⟩
  clear dummy
  obtain ⟨dx, d2, a, b, c⟩ := U
  with_reducible exact gat_gen hu hd F N (X₀.keeps F.keep) a b (by k_is) (by k_is) (by k_is) (by k_is) (p := 305) (by k_is) (f := 212) (by k_is) (by k_is) (by k_is) (by decide +kernel) hh (tg_port (X₀.keeps F.keep) (T₀.keeps F.keep) a) h
theorem gby_port {t : Tok} {fill : Bool} (hu : A.units ≤ 140) (hd : A.depth ≤ 345) (F : Fr h₀ L s.heap m) (N : News h₀ L s.heap news) (X₀ : (heap w.params).In h₀) (T₀ : TR mg mb h₀) (U : UrlAt s.heap u dn us pw ho po db q) (hh : handedIn po = true)
    (h : ∀ h' t', Fr h₀ L h' m → News h₀ L h' news → s.heap.StaysIn h' → Q po { s with heap := h', toks := t' }) : wpAny (model Mine.pw w) A (getAttrBy (.ref u) (.str (Str.ofString "port") t) fill expr) Q E s := by
  w_on
  have dummy : heap = heap ∧ PySem.Challenge.rw_bq5036_01 = PySem.Challenge.rw_bq5036_01 := by
    k_fill
    exact ⟨rfl, rfl⟩
  clear dummy
  obtain ⟨dx, d2, a, b, c⟩ := U
  with_reducible exact gby_gen hu hd F N (X₀.keeps F.keep) a b (by k_is) (by k_is) (by k_is) (by k_is) (p := 305) (by k_is) (f := 212) (by k_is) (by k_is) hh (tg_port (X₀.keeps F.keep) (T₀.keeps F.keep) a) h
theorem get_database (hu : A.units ≤ 140) (hd : A.depth ≤ 345) (F : Fr h₀ L s.heap m) (N : News h₀ L s.heap news) (X₀ : (heap w.params).In h₀) (T₀ : TR mg mb h₀) (U : UrlAt s.heap u dn us pw ho po db q) (hh : handedIn db = true)
    (h : ∀ h' t', Fr h₀ L h' m → News h₀ L h' news → s.heap.StaysIn h' → Q db { s with heap := h', toks := t' }) : wpAny (model Mine.pw w) A (getAttr (.ref u) (Str.ofString "database") expr) Q E s := by
  w_on
  have dummy : heap = heap ∧ PySem.Challenge.rw_bq5036_01 = PySem.Challenge.rw_bq5036_01 := by
    k_fill
    exact ⟨rfl, rfl⟩
  clear dummy
  obtain ⟨dx, d2, a, b, c⟩ := U
  with_reducible exact get_gen hu hd F N (X₀.keeps F.keep) a b (by k_is) (by k_is) (by k_is) (by k_is) (p := 308) (by k_is) (f := 212) (by k_is) (by k_is) hh (tg_database (s := { s with toks := s.toks + 1 }) (X₀.keeps F.keep) (T₀.keeps F.keep) a) h
theorem gat_database {t : Tok} {dflt : Value} (hu : A.units ≤ 130) (hd : A.depth ≤ 344) (F : Fr h₀ L s.heap m) (N : News h₀ L s.heap news) (X₀ : (heap w.params).In h₀) (T₀ : TR mg mb h₀) (U : UrlAt s.heap u dn us pw ho po db q) (hh : handedIn db = true)
    (h : ∀ h' t', Fr h₀ L h' m → News h₀ L h' news → s.heap.StaysIn h' → Q db { s with heap := h', toks := t' }) : wpAny (model Mine.pw w) A (call (.builtin "getattr") [.ref u, .str (Str.ofString "database") t, dflt]) Q E s := by
  w_on
  have dummy : heap = heap ∧ PySem.Challenge.rw_bq5036_01 = PySem.Challenge.rw_bq5036_01 := by
    k_fill
    exact ⟨rfl, rfl⟩
  clear dummy
  obtain ⟨dx, d2, a, b, c⟩ := U
  with_reducible exact gat_gen hu hd F N (X₀.keeps F.keep) a b (by k_is) (by k_is) (by k_is) (by k_is) (p := 308) (by k_is) (f := 212) (by k_is) (by k_is) (by k_is) (by decide +kernel) hh (tg_database (X₀.keeps F.keep) (T₀.keeps F.keep) a) h
theorem gby_database {t : Tok} {fill : Bool} (hu : A.units ≤ 140) (hd : A.depth ≤ 345) (F : Fr h₀ L s.heap m) (N : News h₀ L s.heap news) (X₀ : (heap w.params).In h₀) (T₀ : TR mg mb h₀) (U : UrlAt s.heap u dn us pw ho po db q) (hh : handedIn db = true)
    (h : ∀ h' t', Fr h₀ L h' m → News h₀ L h' news → s.heap.StaysIn h' → Q db { s with heap := h', toks := t' }) : wpAny (model Mine.pw w) A (getAttrBy (.ref u) (.str (Str.ofString "database") t) fill expr) Q E s := by
  w_on
  have dummy : heap = heap ∧ PySem.Challenge.rw_bq5036_01 = PySem.Challenge.rw_bq5036_01 := by
    k_fill
    exact ⟨rfl, rfl⟩
  clear dummy
  obtain ⟨dx, d2, a, b, c⟩ := U
  with_reducible exact gby_gen hu hd F N (X₀.keeps F.keep) a b (by k_is) (by k_is) (by k_is) (by k_is) (p := 308) (by k_is) (f := 212) (by k_is) (by k_is) hh (tg_database (X₀.keeps F.keep) (T₀.keeps F.keep) a) h
theorem get_query (hu : A.units ≤ 140) (hd : A.depth ≤ 345) (F : Fr h₀ L s.heap m) (N : News h₀ L s.heap news) (X₀ : (heap w.params).In h₀) (T₀ : TR mg mb h₀) (U : UrlAt s.heap u dn us pw ho po db q)
    (h : ∀ h' t', Fr h₀ L h' m → News h₀ L h' news → s.heap.StaysIn h' → Q (.ref q) { s with heap := h', toks := t' }) : wpAny (model Mine.pw w) A (getAttr (.ref u) (Str.ofString "query") expr) Q E s := by
  w_on
  have dummy : heap = heap ∧ PySem.Challenge.rw_bq5036_01 = PySem.Challenge.rw_bq5036_01 := by
    k_fill
    exact ⟨rfl, rfl⟩
  clear dummy
  obtain ⟨dx, d2, a, b, c⟩ := U
  with_reducible exact get_gen hu hd F N (X₀.keeps F.keep) a b (by k_is) (by k_is) (by k_is) (by k_is) (p := 311) (by k_is) (f := 212) (by k_is) (by k_is) (handed_ref q) (tg_query (s := { s with toks := s.toks + 1 }) (X₀.keeps F.keep) (T₀.keeps F.keep) a) h
theorem gat_query {t : Tok} {dflt : Value} (hu : A.units ≤ 130) (hd : A.depth ≤ 344) (F : Fr h₀ L s.heap m) (N : News h₀ L s.heap news) (X₀ : (heap w.params).In h₀) (T₀ : TR mg mb h₀) (U : UrlAt s.heap u dn us pw ho po db q)
    (h : ∀ h' t', Fr h₀ L h' m → News h₀ L h' news → s.heap.StaysIn h' → Q (.ref q) { s with heap := h', toks := t' }) : wpAny (model Mine.pw w) A (call (.builtin "getattr") [.ref u, .str (Str.ofString "query") t, dflt]) Q E s := by
  w_on
  have dummy : heap = heap ∧ PySem.Challenge.rw_bq5036_01 = PySem.Challenge.rw_bq5036_01 := by
    k_fill
    exact ⟨rfl, rfl⟩
  clear dummy
  obtain ⟨dx, d2, a, b, c⟩ := U
  with_reducible exact gat_gen hu hd F N (X₀.keeps F.keep) a b (by k_is) (by k_is) (by k_is) (by k_is) (p := 311) (by k_is) (f := 212) (by k_is) (by k_is) (by k_is) (by decide +kernel) (handed_ref q) (tg_query (X₀.keeps F.keep) (T₀.keeps F.keep) a) h
theorem gby_query {t : Tok} {fill : Bool} (hu : A.units ≤ 140) (hd : A.depth ≤ 345) (F : Fr h₀ L s.heap m) (N : News h₀ L s.heap news) (X₀ : (heap w.params).In h₀) (T₀ : TR mg mb h₀) (U : UrlAt s.heap u dn us pw ho po db q)
    (h : ∀ h' t', Fr h₀ L h' m → News h₀ L h' news → s.heap.StaysIn h' → Q (.ref q) { s with heap := h', toks := t' }) : wpAny (model Mine.pw w) A (getAttrBy (.ref u) (.str (Str.ofString "query") t) fill expr) Q E s := by
  w_on
  have dummy : heap = heap ∧ PySem.Challenge.rw_bq5036_01 = PySem.Challenge.rw_bq5036_01 := by
    k_fill
    exact ⟨rfl, rfl⟩
  clear dummy
  obtain ⟨dx, d2, a, b, c⟩ := U
  with_reducible exact gby_gen hu hd F N (X₀.keeps F.keep) a b (by k_is) (by k_is) (by k_is) (by k_is) (p := 311) (by k_is) (f := 212) (by k_is) (by k_is) (handed_ref q) (tg_query (X₀.keeps F.keep) (T₀.keeps F.keep) a) h
end
end Mine
end
section
open PySem PySem.W PySem.W.X PyProof.Rows PySem.Calls
set_option Elab.async false
set_option maxRecDepth 100000
set_option maxHeartbeats 4000000
set_option pp.deepTerms false
set_option pp.maxSteps 1000
namespace Mine
section
variable {w : World} {hdl : Option Value} {s : Shared} {t : Tok} {mg mb : Str → Option Value}
theorem pe_host (X : (heap w.params).In s.heap) (T : TR mg mb s.heap) : codeAny (model Mine.pw w) (AD hdl 350 150) (.call (.ref 28) ⟨[.str (Str.ofString "host") t], []⟩) (fun v s' => v = .ok (.ret (.str (Str.ofString "host") t)) ∧ Kp s s') s := by
  w_on
  have dummy : heap = heap ∧ PySem.Challenge.rw_bq5036_01 = PySem.Challenge.rw_bq5036_01 := by
    k_fill
    exact ⟨rfl, rfl⟩
  clear dummy
  refine enter X T (fun _ _ e => e) (by k_is) (by k_is) (binds := [("n", .str (Str.ofString "host") t)]) (by first | exact BindsTo.of_eq rfl | exact binds_K X rfl (by k_is) rfl rfl rfl) (locs rfl) [] (List.forall_mem_nil _) ?_
  intro g L h₁ F N kb Xg Tg kg
  try dsimp only
  k_steps
  all_goals (
    rename Fr _ _ _ _ => F'
    first | exact ⟨fun b o e => F'.keep b o (kb b o e), rfl, rfl, rfl⟩ | exact ⟨rfl, fun b o e => F'.keep b o (kb b o e), rfl, rfl, rfl⟩)
theorem pe_database (X : (heap w.params).In s.heap) (T : TR mg mb s.heap) : codeAny (model Mine.pw w) (AD hdl 350 150) (.call (.ref 28) ⟨[.str (Str.ofString "database") t], []⟩) (fun v s' => v = .ok (.ret (.str (Str.ofString "database") t)) ∧ Kp s s') s := by
  w_on
  have dummy : heap = heap ∧ PySem.Challenge.rw_bq5036_01 = PySem.Challenge.rw_bq5036_01 := by
    k_fill
    exact ⟨rfl, rfl⟩
  clear dummy
  refine enter X T (fun _ _ e => e) (by k_is) (by k_is) (binds := [("n", .str (Str.ofString "database") t)]) (by first | exact BindsTo.of_eq rfl | exact binds_K X rfl (by k_is) rfl rfl rfl) (locs rfl) [] (List.forall_mem_nil _) ?_
  intro g L h₁ F N kb Xg Tg kg
  try dsimp only
  k_steps
  all_goals (
    rename Fr _ _ _ _ => F'
    first | exact ⟨fun b o e => F'.keep b o (kb b o e), rfl, rfl, rfl⟩ | exact ⟨rfl, fun b o e => F'.keep b o (kb b o e), rfl, rfl, rfl⟩)
theorem pe_username (X : (heap w.params).In s.heap) (T : TR mg mb s.heap) : codeAny (model Mine.pw w) (AD hdl 350 150) (.call (.ref 28) ⟨[.str (Str.ofString "username") t], []⟩) (fun v s' => v = .ok (.ret (.str (Str.ofString "username") t)) ∧ Kp s s') s := by
  w_on
  have dummy : heap = heap ∧ PySem.Challenge.rw_bq5036_01 = PySem.Challenge.rw_bq5036_01 := by
    k_fill
    exact ⟨rfl, rfl⟩
  clear dummy
  refine enter X T (fun _ _ e => e) (by k_is) (by k_is) (binds := [("n", .str (Str.ofString "username") t)]) (by first | exact BindsTo.of_eq rfl | exact binds_K X rfl (by k_is) rfl rfl rfl) (locs rfl) [] (List.forall_mem_nil _) ?_
  intro g L h₁ F N kb Xg Tg kg
  try dsimp only
  k_steps
  all_goals (
    rename Fr _ _ _ _ => F'
    first | exact ⟨fun b o e => F'.keep b o (kb b o e), rfl, rfl, rfl⟩ | exact ⟨rfl, fun b o e => F'.keep b o (kb b o e), rfl, rfl, rfl⟩)
theorem pe_password (X : (heap w.params).In s.heap) (T : TR mg mb s.heap) : codeAny (model Mine.pw w) (AD hdl 350 150) (.call (.ref 28) ⟨[.str (Str.ofString "password") t], []⟩) (fun v s' => v = .ok (.ret (.str (Str.ofString "password") t)) ∧ Kp s s') s := by
  w_on
  have dummy : heap = heap ∧ PySem.Challenge.rw_bq5036_01 = PySem.Challenge.rw_bq5036_01 := by
    k_fill
    exact ⟨rfl, rfl⟩
  clear dummy
  refine enter X T (fun _ _ e => e) (by k_is) (by k_is) (binds := [("n", .str (Str.ofString "password") t)]) (by first | exact BindsTo.of_eq rfl | exact binds_K X rfl (by k_is) rfl rfl rfl) (locs rfl) [] (List.forall_mem_nil _) ?_
  intro g L h₁ F N kb Xg Tg kg
  try dsimp only
  k_steps
  all_goals (
    rename Fr _ _ _ _ => F'
    first | exact ⟨fun b o e => F'.keep b o (kb b o e), rfl, rfl, rfl⟩ | exact ⟨rfl, fun b o e => F'.keep b o (kb b o e), rfl, rfl, rfl⟩)
theorem pe_port (X : (heap w.params).In s.heap) (T : TR mg mb s.heap) : codeAny (model Mine.pw w) (AD hdl 350 150) (.call (.ref 28) ⟨[.str (Str.ofString "port") t], []⟩) (fun v s' => v = .ok (.ret (.str (Str.ofString "port") t)) ∧ Kp s s') s := by
  w_on
  have dummy : heap = heap ∧ PySem.Challenge.rw_bq5036_01 = PySem.Challenge.rw_bq5036_01 := by
    k_fill
    exact ⟨rfl, rfl⟩
  clear dummy
  refine enter X T (fun _ _ e => e) (by k_is) (by k_is) (binds := [("n", .str (Str.ofString "port") t)]) (by first | exact BindsTo.of_eq rfl | exact binds_K X rfl (by k_is) rfl rfl rfl) (locs rfl) [] (List.forall_mem_nil _) ?_
  intro g L h₁ F N kb Xg Tg kg
  try dsimp only
  k_steps
  all_goals (
    rename Fr _ _ _ _ => F'
    first | exact ⟨fun b o e => F'.keep b o (kb b o e), rfl, rfl, rfl⟩ | exact ⟨rfl, fun b o e => F'.keep b o (kb b o e), rfl, rfl, rfl⟩)
end
end Mine
end
section
open PySem PySem.W PySem.W.X PyProof.Rows PySem.Calls
set_option Elab.async false
set_option maxRecDepth 100000
set_option maxHeartbeats 4000000
namespace Mine
section
variable {prog : Program} {w : World} {A : Around} {E : Value → Shared → Prop} {s : Shared}
theorem ns_set {d : Addr} {es : List DictEntry} {n : Nat} {k : Str} {v : Value} {Q : Unit → Shared → Prop} (D : s.heap.get? d = some (dictOf es n))
    (hs : ∀ e ∈ es, e.key.isStr k = false) (hr : ∀ e ∈ es, e.refKey = false)
    (h : ∀ h', h'.get? d = some (dictOf (es ++ [⟨PyData.keyHash w.params k, .str k s.toks, v⟩]) (n + 1)) → (∀ b, b ≠ d → h'.get? b = s.heap.get? b) → Q () { s with heap := h', toks := s.toks + 1 }) :
    wpAny (model prog w) A (nsSet d k v) Q E s := by
  have e1 : es.any (·.key.isStr k) = false := by
    cases q : es.any (·.key.isStr k) with
    | false => rfl
    | true => obtain ⟨e, he, z⟩ := List.any_eq_true.mp q; rw [hs e he] at z; cases z
  have e2 : es.any (·.refKey) = false := by
    cases q : es.any (·.refKey) with
    | false => rfl
    | true => obtain ⟨e, he, z⟩ := List.any_eq_true.mp q; rw [hr e he] at z; cases z
  have e : Obj.putName k (PyData.keyHash w.params k) (.str k s.toks) v (dictOf es n) = dictOf (es ++ [⟨PyData.keyHash w.params k, .str k s.toks, v⟩]) (n + 1) := by
    rw [putName_dict, putL_new hs]
    show dictOf _ (if es.any (·.key.isStr k) then n else n + 1) = _
    rw [e1, if_neg Bool.false_ne_true]
  have c : aRefKeyMayBeTheName k es.toArray = false := by
    rw [aRefKeyMayBeTheName_at, ← Array.any_toList, ← Array.any_toList]
    show (!es.any (·.key.isStr k) && es.any (·.refKey)) = false
    rw [e2, Bool.and_false]
  unfold nsSet
  refine wpAny_bind (wpAny_bind (wpAny_askSetting (wpAny_pure (wpAny_bind (wpAny_mkText (wpAny_bind (wpAny_loadPart D ?_)))))))
  dsimp only
  rw [c]
  refine wpAny_updatePart D (h _ ?_ fun b q => Heap.get?_update_ne _ _ _ _ q)
  exact e ▸ Heap.get?_update_self _ D (e ▸ rfl)
theorem ns_fill {d : Addr} {Q : PUnit → Shared → Prop} : ∀ (ex : List (Str × Value)) (s : Shared) (es : List DictEntry) (n : Nat), s.heap.get? d = some (dictOf es n) →
    (∀ e ∈ es, ∀ x ∈ ex, e.key.isStr x.1 = false) → (∀ e ∈ es, e.refKey = false) → (ex.map (·.1)).Nodup →
    (∀ h', h'.get? d = some (dictOf (es ++ kwEs w.params s.toks ex) (n + ex.length)) → (∀ b, b ≠ d → h'.get? b = s.heap.get? b) → Q ⟨⟩ { s with heap := h', toks := s.toks + ex.length }) →
    wpAny (model prog w) A (forIn ex PUnit.unit fun x _ => (nsSet d x.1 x.2 >>= fun _ => pure (ForInStep.yield PUnit.unit))) Q E s
  | [], s, es, n, D, _, _, _, h => by
    rw [List.forIn_nil]
    refine wpAny_pure (h s.heap ?_ fun _ _ => rfl)
    show s.heap.get? d = some (dictOf (es ++ []) n)
    rw [List.append_nil]
    exact D
  | x :: r, s, es, n, D, hs, hr, hn, h => by
    obtain ⟨hn1, hn2⟩ := List.nodup_cons.mp (show (x.1 :: r.map (·.1)).Nodup from hn)
    rw [List.forIn_cons]
    refine wpAny_bind (wpAny_bind (ns_set D (fun e he => hs e he x (.head _)) hr fun h' D' k' => wpAny_pure ?_))
    show wpAny (model prog w) A (forIn r PUnit.unit fun x _ => (nsSet d x.1 x.2 >>= fun _ => pure (ForInStep.yield PUnit.unit))) Q E { s with heap := h', toks := s.toks + 1 }
    refine ns_fill r { s with heap := h', toks := s.toks + 1 } _ _ D' (fun e he y hy => ?_) (fun e he => ?_) hn2 fun h'' D'' k'' => ?_
    · rcases List.mem_append.mp he with he | he
      · exact hs e he y (.tail _ hy)
      · obtain rfl := List.mem_singleton.mp he
        show (x.1 == y.1) = false
        exact beq_eq_false_iff_ne.mpr fun q => hn1 (by rw [q]; exact List.mem_map_of_mem hy)
    · rcases List.mem_append.mp he with he | he
      · exact hr e he
      · obtain rfl := List.mem_singleton.mp he
        rfl
    · have t1 : s.toks + 1 + r.length = s.toks + (r.length + 1) := by omega
      have t2 : n + 1 + r.length = n + (r.length + 1) := by omega
      show Q ⟨⟩ { s with heap := h'', toks := s.toks + 1 + r.length }
      rw [t1]
      refine h h'' ?_ fun b q => (k'' b q).trans (k' b q)
      rw [t2, List.append_assoc] at D''
      exact D''
theorem bind_kw {Q : List (Str × Value) → Shared → Prop} {fd : FuncData} {a1 a2 : Str} {kwp : Arg} {T : Addr} {o : Obj} {n : Nat} {v1 : Value} {pos : List Value} {kws : List (Str × Value)}
    (hp1 : fd.params.posonlyargs = []) (hp2 : fd.params.args.map (·.arg) = [a1, a2]) (hp3 : fd.params.kwonlyargs = []) (hva : fd.params.vararg = none) (hkw : fd.params.kwarg = some kwp)
    (hd : fd.defaults = .ref T) (hT : s.heap.get? T = some o) (ho : o.data = .seq #[.none] n) (ha : a1 ≠ a2) (hpos : pos = [v1] ∨ ∃ v2, pos = [v1, v2])
    (hk : ∀ p ∈ kws, p.1 ≠ a1 ∧ p.1 ≠ a2) (hn : (kws.map (·.1)).Nodup) (hl : kws.length ≤ 100)
    (h : ∀ h' t' o, s.heap.StaysIn h' → h'.get? s.heap.objs.size = some o → o.IsDictOf (strKind prog w) kws → Q [(a1, v1), (a2, pos.getD 1 .none), (kwp.arg, .ref s.heap.objs.size)] { s with heap := h', toks := t' }) : wpAny (model prog w) A (bindArgs fd ⟨pos, kws⟩) Q E s := by
  unfold bindArgs
  simp only [hp1, hp2, hp3, hva, hkw, List.map_nil, List.nil_append, List.append_nil]
  refine wpAny_bind (wpAny_forIn_list _ (fun rest b s' => s' = s ∧ ∃ done, kws = done ++ rest ∧ b = ([a1, a2].zip pos, done)) _ ?_ ?_ _ _ ⟨rfl, [], rfl, rfl⟩)
  · rintro x rest b s' ⟨rfl, done, e, rfl⟩
    have hx := hk x (by rw [e]; simp)
    rw [if_neg (by simp [hx.1, hx.2])]
    simp only [Option.isSome_some, if_true]
    exact wpAny_pure ⟨rfl, done ++ [x], by rw [e]; simp, rfl⟩
  rintro b s' ⟨rfl, done, e, rfl⟩
  rw [List.append_nil] at e
  subst e
  dsimp only
  unfold seqItems?
  rw [hd]
  dsimp only
  refine wpAny_bind (wpAny_bind (wpAny_load hT ?_))
  rw [ho]
  refine wpAny_pure ?_
  have hz : ¬ (kws.length > sizeLine + 1) := by rw [sizeLine_eq]; omega
  have fin : ∀ (bs : List (Str × Value)), (∀ D, bs ++ [(kwp.arg, Value.ref D)] = [(a1, v1), (a2, pos.getD 1 .none), (kwp.arg, .ref D)]) → wpAny (model prog w) A (do
      let d ← alloc { cls := Value.type "dict", data := Data.dict #[] }
      (forIn kws PUnit.unit fun x _ => do
        nsSet d x.1 x.2
        pure (ForInStep.yield PUnit.unit))
      pure (bs ++ [(kwp.arg, Value.ref d)])) Q E s' := by
    intro bs hbs
    refine wpAny_bind (wpAny_alloc ?_)
    refine wpAny_bind (ns_fill kws { s' with heap := s'.heap.push { cls := Value.type "dict", data := Data.dict #[] } } [] 0 (Heap.get?_push_size _ rfl) (fun _ he => nomatch he) (fun _ he => nomatch he) hn fun h' D' k' => ?_)
    refine wpAny_pure ?_
    rw [hbs]
    refine h h' _ _ (fun b o e => ?_) D' (kp_isDict s'.toks _ hn)
    exact (k' b (Nat.ne_of_lt (Heap.lt_size e))).trans (Heap.get?_push_of_some _ e)
  rcases hpos with rfl | ⟨v2, rfl⟩
  · simp [Ne.symm ha, -List.forIn_yield_eq_foldlM, -List.forIn_pure_yield_eq_foldl, -bind_pure_comp, -bind_pure]
    rw [if_neg (by omega)]
    have e : List.filterMap (fun n => Option.map (fun x => (n, x)) (List.lookup n [(a1, v1), (a2, Value.none)])) [a2] = [(a2, Value.none)] := by
      have : (a2 == a1) = false := beq_eq_false_iff_ne.mpr (Ne.symm ha)
      simp [List.lookup, this]
    rw [e]
    exact fin [(a1, v1), (a2, .none)] (fun _ => rfl)
  · simp [Ne.symm ha, -List.forIn_yield_eq_foldlM, -List.forIn_pure_yield_eq_foldl, -bind_pure_comp, -bind_pure]
    rw [if_neg (by omega)]
    have e : List.filterMap (fun n => Option.map (fun x => (n, x)) (List.lookup n [(a1, v1), (a2, v2)])) [a2] = [(a2, v2)] := by
      have : (a2 == a1) = false := beq_eq_false_iff_ne.mpr (Ne.symm ha)
      simp [List.lookup, this]
    rw [e]
    exact fin [(a1, v1), (a2, v2)] (fun _ => rfl)
theorem enter_kw {hdl : Option Value} {d u : Nat} {R : Result → Shared → Prop} {name qual : Str} {params : Arguments} {body : List Stmt} {scope : Scope} {kV doc pm cdv ct oc : Value} {an od : Option Addr} {osl : Array (Option Value)} {f T0 : Addr} {o0 : Obj} {n0 : Nat} {pos : List Value} {kws : List (Str × Value)} {K : Frag}
    {a1 a2 a3 : Str} {kwp : Arg} {v1 v2 : Value} {bs : Heap} {p : Program} {loose : List Str} {mg mb : Str → Option Value}
    (X : K.In bs) (T : TopRead p loose mg mb bs) (hb : bs.StaysIn s.heap) (ho : K.lookup f = some ⟨oc, od, .func (fnOf name qual params body scope (.ref T0) kV doc pm an cdv ct), osl⟩) (hcd : codeIn K cdv qual = true)
    (hT : K.lookup T0 = some o0) (ho0 : o0.data = .seq #[.none] n0)
    (hp1 : params.posonlyargs = []) (hp2 : params.args.map (·.arg) = [a1, a2]) (hp3 : params.kwonlyargs = []) (hva : params.vararg = none) (hkw : params.kwarg = some kwp) (ha3 : kwp.arg = a3) (hv2 : pos.getD 1 .none = v2) (ha : a1 ≠ a2) (hpos : pos = [v1] ∨ ∃ v2, pos = [v1, v2])
    (hk1 : ∀ p ∈ kws, p.1 ≠ a1 ∧ p.1 ≠ a2) (hn1 : (kws.map (·.1)).Nodup) (hl1 : kws.length ≤ 100)
    (hloc : scope.names.lookup a1 = some .local ∧ scope.names.lookup a2 = some .local ∧ scope.names.lookup a3 = some .local)
    (news : List (Addr × Obj)) (hn : ∀ q ∈ news, s.heap.get? q.1 = some q.2 ∧ bs.get? q.1 = none)
    (h : ∀ g L h₁ t' D o, o.IsDictOf (strKind prog w) kws → s.heap.get? D = none → (D == sysModules) = false → D ∉ news.map (·.1) → Fr g L h₁ (fun y => [(a1, v1), (a2, v2), (a3, .ref D)].reverse.lookup y) → News g L h₁ ((D, o) :: news) → bs.StaysIn g → K.In g → TopRead p loose mg mb g → (∀ b o, b ∉ news.map (·.1) → s.heap.get? b = some o → g.get? b = some o) →
      wpAny (model prog w) (({ handled := hdl, depth := d, frames := none, guards := none, units := u } : Around).deeper (envOf qual scope L f cdv)) (execs body (envOf qual scope L f cdv))
        (fun fl s' => R (.ok (.ret (match fl with | .ret v => v | _ => .none))) s') (fun _ _ => False) { s with heap := h₁, toks := t' })
    (hd : d < recursionLimit := by decide) (hco : scope.isCoroutine = false := by rfl) (hgen : scope.isGenerator = false := by rfl) (hk : scope.kind = .function := by rfl) (hcell : ∀ x ∈ scope.names, x.2 ≠ .cell := by decide) :
    codeAny (model prog w) ⟨hdl, d, none, none, u⟩ (.call (.ref f) ⟨pos, kws⟩) R s := by
  subst ha3 hv2
  refine codeAny_call_function (fd := fnOf name qual params body scope (.ref T0) kV doc pm an cdv ct) (body := body) hd (hb _ _ (X _ _ ho)) rfl hco hgen rfl (codeRec_of (X.keeps hb) hcd) ?_
  refine bind_kw hp1 hp2 hp3 hva hkw rfl (hb _ _ (X _ _ hT)) ho0 ha hpos hk1 hn1 hl1 fun h' t' o k' D' I' => ?_
  have hb' : bs.StaysIn h' := fun b o e => k' _ _ (hb b o e)
  refine wpAny_newFunctionEnv hcell (fun y hy => ?_) (fun h₁ hns hsb => ⟨(T.nolimit.keeps hb').fresh _ hsb, codeAny_func ?_⟩) hk
  · simp only [List.mem_cons, List.not_mem_nil, or_false] at hy
    rcases hy with rfl | rfl | rfl
    · exact hloc.1
    · exact hloc.2.1
    · exact hloc.2.2
  have hk₁ : ∀ b o, h'.get? b = some o → h₁.get? b = some o := fun b o e => hsb.extBut b o (Nat.ne_of_lt (Heap.lt_size e)) (Heap.get?_push_of_some _ e)
  have hDn : s.heap.get? s.heap.objs.size = none := by
    cases q : s.heap.get? s.heap.objs.size with
    | none => rfl
    | some o => exact absurd (Heap.lt_size q) (Nat.lt_irrefl _)
  have hDb : bs.get? s.heap.objs.size = none := by
    cases q : bs.get? s.heap.objs.size with
    | none => rfl
    | some o => rw [hb _ _ q] at hDn; cases hDn
  have hDm : s.heap.objs.size ∉ news.map (·.1) := fun q => by
    obtain ⟨p, hp, e⟩ := List.mem_map.mp q
    have := (hn p hp).1
    rw [e, hDn] at this; cases this
  have all : ∀ q ∈ (s.heap.objs.size, o) :: news, h'.get? q.1 = some q.2 ∧ bs.get? q.1 = none := fun q hq => by
    rcases List.mem_cons.mp hq with rfl | hq
    · exact ⟨D', hDb⟩
    · exact ⟨k' _ _ (hn q hq).1, (hn q hq).2⟩
  have nm : ∀ b o', bs.get? b = some o' → b ∉ ((s.heap.objs.size, o) :: news).map (·.1) := fun b o' e q => by
    obtain ⟨p, hp, rfl⟩ := List.mem_map.mp q
    rw [(all p hp).2] at e; cases e
  have st : bs.StaysIn (hideAll h' (((s.heap.objs.size, o) :: news).map (·.1))) := fun b o' e => hideAll_get _ (hb' b o' e) (nm b o' e)
  have X' := X.keeps st
  have T' := T.keeps st
  show wpAny (model prog w) (({ handled := hdl, depth := d, frames := none, guards := none, units := u } : Around).deeper (envOf qual scope h'.objs.size f cdv)) (execs body (envOf qual scope h'.objs.size f cdv)) _ _ _
  refine wpAny_mono (h (hideAll h' (((s.heap.objs.size, o) :: news).map (·.1))) h'.objs.size h₁ _ _ o I' hDn (beq_eq_false_iff_ne.mpr (Nat.ne_of_gt (modules_low (T.nolimit.keeps hb)))) hDm ⟨hns, fun b o' e => hk₁ b o' (of_hideAll _ e), Nat.le_of_eq (hideAll_size _ _)⟩
    (fun p hp => ⟨hk₁ _ _ (all p hp).1, Nat.ne_of_lt (Heap.lt_size (all p hp).1), hideAll_none _ (List.mem_map_of_mem hp)⟩) st X' T' (fun b o' q e => hideAll_get _ (k' _ _ e) (fun z => ?_))) (fun _ _ y => y) (fun _ _ y => y.elim)
  rcases List.mem_cons.mp z with rfl | z
  · rw [hDn] at e; cases e
  · exact q z
end
end Mine
end
section
open PySem PySem.W PySem.W.X PyProof.Rows PySem.Calls
set_option Elab.async false
set_option maxRecDepth 100000
set_option maxHeartbeats 4000000
local macro_rules | `(tactic| x_close) => `(tactic| first | exact ⟨by kernel_rfl, Mine.kp_mem (by assumption)⟩ | exact ⟨by kernel_rfl, fun _ _ e => e, rfl, rfl, rfl⟩)
namespace Mine
/-- a part's value -/
inductive Pv : Value → Prop
  | none : Pv .none
  | str (s : Str) (t : Tok) (h : s.length ≤ 1000) : Pv (.str s t)
  | int (n : Int) (t : Tok) (h : n = 0 ∨ n = 1 ∨ n = 5 ∨ n = 5432) : Pv (.int n t)
/-- a name: None or a text -/
inductive Nv : Value → Prop
  | none : Nv .none
  | str (s : Str) (t : Tok) : Nv (.str s t)
theorem Pv.handed {v : Value} (h : Pv v) : handedIn v = true := by cases h <;> rfl
theorem Nv.handed {v : Value} (h : Nv v) : handedIn v = true := by cases h <;> rfl
/-- says something -/
def tr : Value → Bool
  | .str s _ => (s.length : Int) != 0
  | .int n _ => n != 0
  | _ => false
/-- without its token -/
def er : Value → Value
  | .str s _ => .str s 0
  | .int n _ => .int n 0
  | _ => .none
/-- told as a text -/
def sv : Value → Value
  | .int n _ => .str (Str.ofString (toString n)) 0
  | .str s _ => .str s 0
  | _ => .none
section
variable {prog : Program} {w : World} {A : Around} {E : Value → Shared → Prop} {s : Shared}
theorem truthy_pv {v : Value} {Q : Bool → Shared → Prop} (hv : Pv v) (h : ∀ k, Q (tr v) { s with toks := k }) : wpAny (model prog w) A (truthy v) Q E s := by
  cases hv with
  | none => exact fun _ _ _ => h s.toks
  | str x t hl => exact PySem.P.truthy_str (by omega) (h _)
  | int n t hn => exact PySem.P.truthy_int (h s.toks)
theorem truthy_pv' {v : Value} {b : Bool} {Q : Bool → Shared → Prop} (hv : Pv v) (hb : tr v = b) (h : ∀ k, Q b { s with toks := k }) : wpAny (model prog w) A (truthy v) Q E s := truthy_pv hv (fun k => hb ▸ h k)
theorem str_pv {v : Value} {Q : Value → Shared → Prop} (hv : Pv v) (ht : tr v = true) (h : ∀ v' k, Pv v' → er v' = sv v → Q v' { s with toks := k }) : wpAny (model prog w) A (call (.type "str") [v]) Q E s := by
  cases hv with
  | none => cases ht
  | str x t hl => exact PySem.P.str_of_str (h _ _ (.str x t hl) rfl)
  | int n t hn =>
    refine PySem.P.str_of_int ?_ (h _ _ (.str _ _ ?_) rfl)
    · rcases hn with rfl | rfl | rfl | rfl <;> decide +kernel
    · rcases hn with rfl | rfl | rfl | rfl <;> decide +kernel
end
theorem fr_known {h₀ h : Heap} {L : Addr} {m : Str → Option Value} (F : Fr h₀ L h m) {x : Str} {v : Value} (e : m x = some v) : Fr h₀ L h (fun y => if y = x then some v else m y) := by
  have : (fun y => if y = x then some v else m y) = m := by
    funext y
    by_cases q : y = x
    · subst q; rw [if_pos rfl, e]
    · rw [if_neg q]
  rw [this]; exact F
section
variable {prog : Program} {w : World} {A : Around} {E : Value → Shared → Prop} {s : Shared} {env : Env} {h₀ : Heap} {x : Str} {body : List Stmt} {Q : Flow → Shared → Prop}
theorem unr_mono {L : Addr} {s₁ : Shared} {I : Addr} {it : Obj} {r r' : (Str → Option Value) → List (Addr × Obj) → Prop} (hm : ∀ m n, r m n → r' m n) {f : Flow} {s₂ : Shared} (h : UnrPost h₀ L s₁ I it r Q f s₂) : UnrPost h₀ L s₁ I it r' Q f s₂ := by
  have e : UnrEnd h₀ L s₁ I it r s₂ → UnrEnd h₀ L s₁ I it r' s₂ := by
    rintro ⟨h', tk, m', news', e, F', N', o, z⟩
    exact ⟨h', tk, m', news', e, F', N', o, hm _ _ z⟩
  cases f with
  | ret v => exact h
  | brk => exact h
  | next => exact e h
  | cont => exact e h
/-- turns over a written list, with an invariant -/
theorem rest_of_turns {I : Addr} {lp : Addr × Obj} (P : List Value → (Str → Option Value) → List (Addr × Obj) → Prop)
    (ht : ∀ v r m news it h tk, P (v :: r) m news → it.cls = .type "list_iterator" → Fr h₀ env.locals h (fun y => if y = x then some v else m y) → News h₀ env.locals h ((I, it) :: news) →
      wpAny (model prog w) A (execs body env) (UnrPost h₀ env.locals { s with heap := h, toks := tk } I it (fun m' n' => lp ∈ n' ∧ P r m' n') Q) E { s with heap := h, toks := tk })
    (hz : ∀ m news h tk, P [] m news → Fr h₀ env.locals h m → News h₀ env.locals h news → Q .next { s with heap := h, toks := tk }) :
    ∀ l m news, P l m news → ListRest prog w A E h₀ env x body Q s I lp l m news
  | [], m, news, p => fun h tk F N => hz m news h tk p F N
  | v :: r, m, news, p => fun it h tk hit F N => wpAny_mono (ht v r m news it h tk p hit F N) (fun f s₂ z => unr_mono (fun m' n' y => ⟨y.1, rest_of_turns P ht hz r m' n' y.2⟩) z) fun _ _ z => z
end
section
variable {w : World} {hdl : Option Value} {s : Shared} {t : Tok} {mg mb : Str → Option Value}
theorem pe_any {n : Str} (hn : n = Str.ofString "host" ∨ n = Str.ofString "database" ∨ n = Str.ofString "username" ∨ n = Str.ofString "password" ∨ n = Str.ofString "port") (X : (heap w.params).In s.heap) (T : TR mg mb s.heap) :
    codeAny (model Mine.pw w) (AD hdl 350 150) (.call (.ref 28) ⟨[.str n t], []⟩) (fun v s' => v = .ok (.ret (.str n t)) ∧ Kp s s') s := by
  rcases hn with rfl | rfl | rfl | rfl | rfl
  · exact pe_host X T
  · exact pe_database X T
  · exact pe_username X T
  · exact pe_password X T
  · exact pe_port X T
end
theorem use_call {M : Model} {A : Around} {E : Value → Shared → Prop} {s : Shared} {Q : Value → Shared → Prop} {f v : Value} {args : List Value} {h₀ : Heap} {L : Addr} {m : Str → Option Value} {news : List (Addr × Obj)} {d u : Nat}
    (hd : A.depth ≤ d) (hu : A.units ≤ u) (F : Fr h₀ L s.heap m) (N : News h₀ L s.heap news) (c : codeAny M (AD A.handled d u) (.call f ⟨args, []⟩) (fun r s' => r = .ok (.ret v) ∧ Kp s s') s)
    (h : ∀ h' t', Fr h₀ L h' m → News h₀ L h' news → s.heap.StaysIn h' → Q v { s with heap := h', toks := t' }) : wpAny M A (call f args) Q E s := by
  refine wpAny_call (wideDC hd hu (codeAny_mono c fun r s' z => ?_))
  obtain ⟨rfl, k⟩ := z
  obtain ⟨hh, g, dr, tk, os⟩ := s'
  obtain ⟨k1, rfl, rfl, rfl⟩ := k
  exact h hh tk (fr_stays F k1) (news_stays N k1) k1
end Mine
end
section
open PySem PySem.W PySem.W.X PyProof.Rows PySem.Calls
set_option Elab.async false
set_option maxRecDepth 100000
namespace Mine
def Stop (p : Prop) : Prop := p
theorem stop_i {p : Prop} (h : Stop p) : p := h
def erp (p : Str × Value) : Str × Value := (p.1, er p.2)
def pick (ns : List Value) (kw : List (Str × Value)) (f : Str) : Value := match ns with | v :: _ => v | [] => (valueAt kw f).getD (.str f 0)
def tell (acc : List (Str × Value)) (nv v : Value) (f : Str) : List (Str × Value) :=
  match nv with
  | .str k _ => if tr v then stored acc k (if f = Str.ofString "password" then sv v else er v) else acc
  | _ => acc
noncomputable def told : List Value → List (Str × Value) → List (Str × Value) → List (Str × Value) → List (Str × Value)
  | _, _, [], acc => acc
  | ns, kw, (f, v) :: r, acc => told ns.tail kw r (tell acc (pick ns kw f) v f)
def fieldsOf (ho db us pw po : Value) : List (Str × Value) := [(Str.ofString "host", ho), (Str.ofString "database", db), (Str.ofString "username", us), (Str.ofString "password", pw), (Str.ofString "port", po)]

theorem valueAt_erp (kvs : List (Str × Value)) (f : Str) : valueAt (kvs.map erp) f = (valueAt kvs f).map er := by
  unfold valueAt
  induction kvs with
  | nil => rfl
  | cons p r ih =>
    rw [List.map_cons, List.find?_cons, List.find?_cons]
    have e : decide ((erp p).1 = f) = decide (p.1 = f) := rfl
    rw [e]
    cases h : decide (p.1 = f) with
    | true => rfl
    | false => exact ih
theorem stored_erp (kvs : List (Str × Value)) (f : Str) (v : Value) : (stored kvs f v).map erp = stored (kvs.map erp) f (er v) := by
  unfold stored
  have e : (kvs.map erp).any (fun kv => kv.1 = f) = kvs.any (fun kv => kv.1 = f) := by
    rw [List.any_map]; rfl
  rw [e]
  split
  · rw [List.map_map, List.map_map]
    refine List.map_congr_left fun p _ => ?_
    show erp (if p.1 = f then (p.1, v) else p) = if (erp p).1 = f then ((erp p).1, er v) else erp p
    by_cases h : p.1 = f
    · rw [if_pos h, if_pos (show (erp p).1 = f from h)]; rfl
    · rw [if_neg h, if_neg (show ¬ (erp p).1 = f from h)]
  · rw [List.map_append]; rfl
theorem stored_all {P : Value → Prop} {kvs : List (Str × Value)} {f : Str} {v : Value} (h : ∀ p ∈ kvs, P p.2) (hv : P v) : ∀ p ∈ stored kvs f v, P p.2 := by
  intro p hp
  unfold stored at hp
  split at hp
  · obtain ⟨q, hq, rfl⟩ := List.mem_map.mp hp
    split
    · exact hv
    · exact h _ hq
  · rcases List.mem_append.mp hp with q | q
    · exact h _ q
    · rw [List.mem_singleton.mp q]; exact hv
theorem tell_none (acc : List (Str × Value)) (v : Value) (f : Str) : tell acc .none v f = acc := rfl
theorem tell_no {acc : List (Str × Value)} {nv v : Value} {f : Str} (h : tr v = false) : tell acc nv v f = acc := by
  unfold tell
  split
  · rw [h]; rfl
  · rfl
theorem tell_yes {acc : List (Str × Value)} {k : Str} {t : Tok} {v : Value} {f : Str} (h : tr v = true) : tell acc (.str k t) v f = stored acc k (if f = Str.ofString "password" then sv v else er v) := by
  unfold tell
  rw [h]; rfl
theorem pick_kw_none {kws : List (Str × Value)} {f : Str} (h : valueAt kws f = none) : pick [] (kws.map erp) f = .str f 0 := by
  unfold pick; rw [valueAt_erp, h]; rfl
theorem pick_kw_some {kws : List (Str × Value)} {f : Str} {v : Value} (h : valueAt kws f = some v) : pick [] (kws.map erp) f = er v := by
  unfold pick; rw [valueAt_erp, h]; rfl
end Mine
end
section
open PySem PySem.W PySem.W.X PyProof.Rows PySem.Calls
set_option Elab.async false
set_option maxRecDepth 100000
set_option maxHeartbeats 4000000
namespace Mine
/-- a part of an address by its name -/
inductive FV (ho db us pw po : Value) : Str → Value → Prop
  | host : FV ho db us pw po (Str.ofString "host") ho
  | database : FV ho db us pw po (Str.ofString "database") db
  | username : FV ho db us pw po (Str.ofString "username") us
  | password : FV ho db us pw po (Str.ofString "password") pw
  | port : FV ho db us pw po (Str.ofString "port") po
section
variable {w : World} {A : Around} {E : Value → Shared → Prop} {s : Shared} {h₀ : Heap} {L : Addr} {m : Str → Option Value} {news : List (Addr × Obj)} {mg mb : Str → Option Value} {u q : Addr} {dn us pw ho po db v : Value} {f : Str} {Q : Value → Shared → Prop}
theorem FV.pe (fv : FV ho db us pw po f v) : f = Str.ofString "host" ∨ f = Str.ofString "database" ∨ f = Str.ofString "username" ∨ f = Str.ofString "password" ∨ f = Str.ofString "port" := by
  cases fv
  · exact .inl rfl
  · exact .inr (.inl rfl)
  · exact .inr (.inr (.inl rfl))
  · exact .inr (.inr (.inr (.inl rfl)))
  · exact .inr (.inr (.inr (.inr rfl)))
theorem fv_at (ho db us pw po : Value) {k : Nat} {x : Value} {r : List Value} (hl : (x :: r).map er = ((fieldsOf ho db us pw po).drop k).map (fun p => .str p.1 0)) (hk : k ≤ 5) (h1 : Pv ho) (h2 : Pv db) (h3 : Pv us) (h4 : Pv pw) (h5 : Pv po) :
    ∃ f v t, x = .str f t ∧ (fieldsOf ho db us pw po).drop k = (f, v) :: (fieldsOf ho db us pw po).drop (k + 1) ∧ FV ho db us pw po f v ∧ Pv v ∧ k + 1 ≤ 5 ∧ r.map er = ((fieldsOf ho db us pw po).drop (k + 1)).map (fun p => .str p.1 0) := by
  have key : ∀ (f : Str) (v : Value), (fieldsOf ho db us pw po).drop k = (f, v) :: (fieldsOf ho db us pw po).drop (k + 1) → FV ho db us pw po f v → Pv v → k + 1 ≤ 5 → ∃ f v t, x = .str f t ∧ (fieldsOf ho db us pw po).drop k = (f, v) :: (fieldsOf ho db us pw po).drop (k + 1) ∧ FV ho db us pw po f v ∧ Pv v ∧ k + 1 ≤ 5 ∧ r.map er = ((fieldsOf ho db us pw po).drop (k + 1)).map (fun p => .str p.1 0) := by
    intro f v e fv pv hk
    rw [e] at hl
    have a := (List.cons.inj hl).1
    have b := (List.cons.inj hl).2
    cases x with
    | str y t => cases a; exact ⟨_, v, t, rfl, e, fv, pv, hk, b⟩
    | _ => cases a
  have : k = 0 ∨ k = 1 ∨ k = 2 ∨ k = 3 ∨ k = 4 ∨ k = 5 := by omega
  rcases this with rfl | rfl | rfl | rfl | rfl | rfl
  · exact key _ _ rfl .host h1 (by decide)
  · exact key _ _ rfl .database h2 (by decide)
  · exact key _ _ rfl .username h3 (by decide)
  · exact key _ _ rfl .password h4 (by decide)
  · exact key _ _ rfl .port h5 (by decide)
  · cases hl
theorem gat_any {t : Tok} {dflt : Value} (hu : A.units ≤ 130) (hd : A.depth ≤ 344) (F : Fr h₀ L s.heap m) (N : News h₀ L s.heap news) (X₀ : (heap w.params).In h₀) (T₀ : TR mg mb h₀) (U : UrlAt s.heap u dn us pw ho po db q) (fv : FV ho db us pw po f v) (hh : handedIn v = true)
    (h : ∀ h' t', Fr h₀ L h' m → News h₀ L h' news → s.heap.StaysIn h' → Q v { s with heap := h', toks := t' }) : wpAny (model Mine.pw w) A (call (.builtin "getattr") [.ref u, .str f t, dflt]) Q E s := by
  cases fv
  · exact gat_host hu hd F N X₀ T₀ U hh h
  · exact gat_database hu hd F N X₀ T₀ U hh h
  · exact gat_username hu hd F N X₀ T₀ U hh h
  · exact gat_password hu hd F N X₀ T₀ U hh h
  · exact gat_port hu hd F N X₀ T₀ U hh h
theorem gby_any {t : Tok} {fill : Bool} {expr : Bool} (hu : A.units ≤ 140) (hd : A.depth ≤ 345) (F : Fr h₀ L s.heap m) (N : News h₀ L s.heap news) (X₀ : (heap w.params).In h₀) (T₀ : TR mg mb h₀) (U : UrlAt s.heap u dn us pw ho po db q) (fv : FV ho db us pw po f v) (hh : handedIn v = true)
    (h : ∀ h' t', Fr h₀ L h' m → News h₀ L h' news → s.heap.StaysIn h' → Q v { s with heap := h', toks := t' }) : wpAny (model Mine.pw w) A (getAttrBy (.ref u) (.str f t) fill expr) Q E s := by
  cases fv
  · exact gby_host hu hd F N X₀ T₀ U hh h
  · exact gby_database hu hd F N X₀ T₀ U hh h
  · exact gby_username hu hd F N X₀ T₀ U hh h
  · exact gby_password hu hd F N X₀ T₀ U hh h
  · exact gby_port hu hd F N X₀ T₀ U hh h
end
end Mine
end
section
open PySem PySem.W PySem.W.X PyProof.Rows PySem.Calls
set_option Elab.async false
set_option maxRecDepth 100000
set_option maxHeartbeats 4000000
set_option pp.deepTerms false
set_option pp.maxSteps 3000
namespace Mine
/-- what holds at the head of a turn of translate_connect_args -/
def TI (w : World) (u D d : Addr) (nmv : Value) (oD : Obj) (lp : Addr × Obj) (kw fs all : List (Str × Value)) (l : List Value) (m : Str → Option Value) (news : List (Addr × Obj)) : Prop :=
  ∃ k o' kvs, m (Str.ofString "self") = some (.ref u) ∧ m (Str.ofString "names") = some nmv ∧ m (Str.ofString "kw") = some (.ref D) ∧ m (Str.ofString "translated") = some (.ref d) ∧
    news = [lp, (d, o'), (D, oD)] ∧ o'.IsDictOf (PySem.strKind Mine.pw w) kvs ∧ (∀ p ∈ kvs, Pv p.2) ∧ kvs.length ≤ k ∧ k ≤ 5 ∧ l.map er = (fs.drop k).map (fun p => .str p.1 0) ∧ told [] kw (fs.drop k) (kvs.map erp) = all
/-- what translate_connect_args leaves behind -/
def TrnPost (w : World) (all : List (Str × Value)) (s : Shared) (r : Result) (s' : Shared) : Prop :=
  (∃ a o kvs, r = .ok (.ret (.ref a)) ∧ s.heap.get? a = none ∧ s'.heap.get? a = some o ∧ (a == sysModules) = false ∧ o.IsDictOf (strKind Mine.pw w) kvs ∧ (∀ p ∈ kvs, Pv p.2) ∧ kvs.length ≤ 5 ∧ kvs.map erp = all) ∧ Kp s s'
end Mine
namespace Mine
theorem kw_nv {kws : List (Str × Value)} {f : Str} {v : Value} (h : ∀ p ∈ kws, Nv p.2) (e : valueAt kws f = some v) : Nv v := by
  unfold valueAt at e
  obtain ⟨p, hp, rfl⟩ := Option.map_eq_some_iff.mp e
  exact h p (List.mem_of_find?_eq_some hp)
/-- a turn that tells nothing -/
theorem TI.same {w : World} {u D d : Addr} {nmv : Value} {oD o' : Obj} {lp : Addr × Obj} {kw fs all kvs : List (Str × Value)} {l : List Value} {m' : Str → Option Value} {news : List (Addr × Obj)} {k : Nat} {f : Str} {v nv : Value}
    (hd : o'.IsDictOf (PySem.strKind Mine.pw w) kvs) (hp : ∀ p ∈ kvs, Pv p.2) (hkl : kvs.length ≤ k) (hk : k + 1 ≤ 5) (hl : l.map er = (fs.drop (k + 1)).map (fun p => .str p.1 0))
    (hf : fs.drop k = (f, v) :: fs.drop (k + 1)) (hall : told [] kw (fs.drop k) (kvs.map erp) = all) (hpick : pick [] kw f = nv) (ht : tell (kvs.map erp) nv v f = kvs.map erp)
    (m1 : m' (Str.ofString "self") = some (.ref u)) (m2 : m' (Str.ofString "names") = some nmv) (m3 : m' (Str.ofString "kw") = some (.ref D)) (m4 : m' (Str.ofString "translated") = some (.ref d))
    (hn : news = [lp, (d, o'), (D, oD)]) : TI w u D d nmv oD lp kw fs all l m' news := by
  refine ⟨k + 1, o', kvs, m1, m2, m3, m4, hn, hd, hp, Nat.le_succ_of_le hkl, hk, hl, ?_⟩
  rw [hf] at hall
  unfold told at hall
  rw [hpick, ht] at hall
  exact hall
theorem TI.put {w : World} {u D d : Addr} {nmv : Value} {oD o' : Obj} {lp : Addr × Obj} {kw fs all kvs : List (Str × Value)} {l : List Value} {m' : Str → Option Value} {news : List (Addr × Obj)} {k : Nat} {f x : Str} {t : Tok} {v v' : Value}
    (hd : o'.IsDictOf (PySem.strKind Mine.pw w) (stored kvs x v')) (hp : ∀ p ∈ kvs, Pv p.2) (hv : Pv v') (hkl : kvs.length ≤ k) (hk : k + 1 ≤ 5) (hl : l.map er = (fs.drop (k + 1)).map (fun p => .str p.1 0))
    (hf : fs.drop k = (f, v) :: fs.drop (k + 1)) (hall : told [] kw (fs.drop k) (kvs.map erp) = all) (hpick : pick [] kw f = .str x t) (htr : tr v = true) (he : er v' = if f = Str.ofString "password" then sv v else er v)
    (m1 : m' (Str.ofString "self") = some (.ref u)) (m2 : m' (Str.ofString "names") = some nmv) (m3 : m' (Str.ofString "kw") = some (.ref D)) (m4 : m' (Str.ofString "translated") = some (.ref d))
    (hn : news = [lp, (d, o'), (D, oD)]) : TI w u D d nmv oD lp kw fs all l m' news := by
  refine ⟨k + 1, o', _, m1, m2, m3, m4, hn, hd, stored_all hp hv, Nat.le_trans (stored_length_le _ _ _) (Nat.succ_le_succ hkl), hk, hl, ?_⟩
  rw [hf] at hall
  unfold told at hall
  rw [hpick, tell_yes htr, ← he, ← stored_erp] at hall
  exact hall
end Mine
local macro_rules | `(tactic| walk_at "ListRest") => `(tactic| (refine Mine.stop_i ?_))
local macro_rules | `(tactic| walk_at "compareOp In str ref") => `(tactic| first
  | (refine kda_in (knd := PySem.strKind _ _) (by with_reducible assumption) (by news_mem) (by with_reducible assumption) (by with_reducible assumption) (strKind_is _ _ _ _) true (by rw [‹valueAt _ _ = some _›]; rfl) ?_)
  | (refine kda_in (knd := PySem.strKind _ _) (by with_reducible assumption) (by news_mem) (by with_reducible assumption) (by with_reducible assumption) (strKind_is _ _ _ _) false (by rw [‹valueAt _ _ = none›]; rfl) ?_))
local macro_rules | `(tactic| walk_at "subscriptTail Name Name ref str") => `(tactic| (refine kda_item (knd := PySem.strKind _ _) (by with_reducible assumption) (by news_mem) (by with_reducible assumption) (strKind_is _ _ _ _) (by with_reducible assumption) ?_))
local macro_rules | `(tactic| walk_at "call ref") => `(tactic| (with_reducible refine Mine.use_call (d := 350) (u := 150) (Nat.le_of_ble_eq_true (by with_unfolding_all rfl)) (Nat.le_of_ble_eq_true (by with_unfolding_all rfl)) (by assumption) (by assumption) (Mine.pe_any (Mine.FV.pe (by assumption)) (Frag.In.keeps ‹Frag.In _ _› (Fr.keep ‹_›)) (TopRead.keeps ‹_› (Fr.keep ‹_›))) ?_; intro h' t' F' N' k'; k_sweep))
local macro_rules | `(tactic| walk_at "call builtin:getattr") => `(tactic| (refine Mine.gat_any (Nat.le_of_ble_eq_true (by with_unfolding_all rfl)) (Nat.le_of_ble_eq_true (by with_unfolding_all rfl)) (by assumption) (by assumption) (by assumption) (by assumption) (Mine.UrlAt.keeps ‹_› (Fr.keep ‹_›)) (by assumption) (Mine.Pv.handed (by assumption)) ?_; intro h' t' F' N' k'; k_sweep))
local macro_rules | `(tactic| walk_at "truthy") => `(tactic| (refine Mine.truthy_pv' (by assumption) (by assumption) ?_; intro tk'))
local macro_rules | `(tactic| walk_at "getAttrBy ref") => `(tactic| (refine Mine.gby_any (Nat.le_of_ble_eq_true (by with_unfolding_all rfl)) (Nat.le_of_ble_eq_true (by with_unfolding_all rfl)) (by assumption) (by assumption) (by assumption) (by assumption) (Mine.UrlAt.keeps ‹_› (Fr.keep ‹_›)) (by assumption) (Mine.Pv.handed (by assumption)) ?_; intro h' t' F' N' k'; k_sweep))
local macro_rules | `(tactic| walk_at "setItem ref str") => `(tactic| (refine kda_set (knd := PySem.strKind _ _) (by with_reducible assumption) (by with_reducible assumption) (by k_updF) (by with_reducible assumption) (strKind_is _ _ _ _) (by rw [sizeLine_eq]; omega) ?_; intro h' o' F' N' hd'; (try dsimp only at N'); k_sweep))
local macro_rules | `(tactic| walk_at "call type:str") => `(tactic| (refine Mine.str_pv (by assumption) (by assumption) ?_; intro v' tk' hv' he'))
namespace Mine
theorem trn_none {w : World} {s : Shared} {mg mb : Str → Option Value} {u q : Addr} {dn us pw ho po db : Value} {kws : List (Str × Value)} (X : (heap w.params).In s.heap) (T : TR mg mb s.heap) (U : UrlAt s.heap u dn us pw ho po db q)
    (h1 : Pv ho) (h2 : Pv db) (h3 : Pv us) (h4 : Pv pw) (h5 : Pv po) (hk : ∀ p ∈ kws, p.1 ≠ Str.ofString "self" ∧ p.1 ≠ Str.ofString "names") (hkn : ∀ p ∈ kws, Nv p.2) (hn : (kws.map (·.1)).Nodup) (hl : kws.length ≤ 100) :
    codeAny (model Mine.pw w) (AD none 340 100) (.call (.ref 481) ⟨[.ref u], kws⟩) (TrnPost w (told [] (kws.map erp) (fieldsOf ho db us pw po) []) s) s := by
  w_on
  have dummy : heap = heap ∧ PySem.Challenge.rw_bq5036_01 = PySem.Challenge.rw_bq5036_01 := by
    k_fill
    exact ⟨rfl, rfl⟩
  clear dummy
  refine enter_kw (v2 := .none) (a3 := Str.ofString "kw") X T (fun _ _ e => e) (by k_is) (by k_is) (by k_is) (by rfl) (by rfl) (by rfl) (by rfl) (by rfl) (by rfl) (by rfl) (by rfl) (by decide) (.inl rfl) hk hn hl ⟨by rfl, by rfl, by rfl⟩ [] (List.forall_mem_nil _) ?_
  intro g L h₁ t' D o hD hDn hDl hDm F N kb Xg Tg kg
  replace U := U.keeps kb
  try dsimp only
  k_steps
  rename_i d' hh4 o' lo' hs' fs' hi' fi' l12 hh3 l' hh2 l11 hh1 N1 i' l10
  clear N1
  refine rest_of_turns (TI w u D d' .none o _ (kws.map erp) (fieldsOf ho db us pw po) (told [] (kws.map erp) (fieldsOf ho db us pw po) [])) ?ht ?hz _ _ _ ⟨0, o', [], rfl, rfl, rfl, rfl, rfl, hs', (fun _ h => nomatch h), Nat.le_refl _, by decide, rfl, rfl⟩
  case hz =>
    rintro m news h tk ⟨k, o2, kvs, m1, m2, m3, m4, rfl, hd, hp, hkl, hk5, hl, hall⟩ F N
    have F := fr_known F m4
    k_steps
    all_goals (
      have hk : k = 5 := by
        rcases Nat.lt_or_ge k 5 with q | q
        · have : k = 0 ∨ k = 1 ∨ k = 2 ∨ k = 3 ∨ k = 4 := by omega
          rcases this with rfl | rfl | rfl | rfl | rfl <;> cases hl
        · exact Nat.le_antisymm hk5 q
      subst hk
      have N2 := N (d', o2) (.tail _ (.head _))
      refine ⟨⟨d', o2, kvs, rfl, ?_, N2.1, lo', hd, hp, hkl, hall⟩, ?_⟩
      · cases e : s.heap.get? d' with
        | none => rfl
        | some x => have := kb _ _ e; rw [N2.2.2] at this; cases this
      · rename Fr _ _ _ _ => F'
        exact ⟨fun b o e => F'.keep b o (kb b o e), rfl, rfl, rfl⟩)
  case ht =>
    rintro v r m news it h tk ⟨k, o2, kvs, m1, m2, m3, m4, rfl, hd, hp, hkl, hk5, hl, hall⟩ hit F N
    have F := fr_known F (x := Str.ofString "translated") (by rw [if_neg (by decide)]; exact m4)
    have F := fr_known F (x := Str.ofString "kw") (by rw [if_neg (by decide), if_neg (by decide)]; exact m3)
    have F := fr_known F (x := Str.ofString "names") (by rw [if_neg (by decide), if_neg (by decide), if_neg (by decide)]; exact m2)
    have F := fr_known F (x := Str.ofString "self") (by rw [if_neg (by decide), if_neg (by decide), if_neg (by decide), if_neg (by decide)]; exact m1)
    obtain ⟨f, v, t, rfl, ef, fv, pv, hk1, hl2⟩ := fv_at ho db us pw po hl hk5 h1 h2 h3 h4 h5
    cases hb : tr v with
    | false =>
      cases hx : valueAt kws f with
      | none =>
        k_steps
        all_goals exact TI.same hd hp hkl hk1 hl2 ef hall (pick_kw_none hx) (tell_no hb) rfl rfl rfl rfl rfl
      | some nv =>
        cases kw_nv hkn hx with
        | none =>
          k_steps
          all_goals exact TI.same hd hp hkl hk1 hl2 ef hall (pick_kw_some hx) (tell_none _ _ _) rfl rfl rfl rfl rfl
        | str x t =>
          k_steps
          all_goals exact TI.same hd hp hkl hk1 hl2 ef hall (pick_kw_some hx) (tell_no hb) rfl rfl rfl rfl rfl
    | true =>
      cases hx : valueAt kws f with
      | none =>
        by_cases hpw : f = Str.ofString "password"
        · have e6 : (f == Str.ofString "password") = true := by simpa using hpw
          k_steps
          all_goals exact TI.put (by assumption) hp (by assumption) hkl hk1 hl2 ef hall (pick_kw_none hx) hb (by rw [if_pos hpw]; assumption) rfl rfl rfl rfl rfl
        · have e6 : (f == Str.ofString "password") = false := by simpa using hpw
          k_steps
          all_goals exact TI.put (by assumption) hp pv hkl hk1 hl2 ef hall (pick_kw_none hx) hb (by rw [if_neg hpw]) rfl rfl rfl rfl rfl
      | some nv =>
        cases kw_nv hkn hx with
        | none =>
          k_steps
          all_goals exact TI.same hd hp hkl hk1 hl2 ef hall (pick_kw_some hx) (tell_none _ _ _) rfl rfl rfl rfl rfl
        | str x t =>
          by_cases hpw : f = Str.ofString "password"
          · have e6 : (f == Str.ofString "password") = true := by simpa using hpw
            k_steps
            all_goals exact TI.put (by assumption) hp (by assumption) hkl hk1 hl2 ef hall (pick_kw_some hx) hb (by rw [if_pos hpw]; assumption) rfl rfl rfl rfl rfl
          · have e6 : (f == Str.ofString "password") = false := by simpa using hpw
            k_steps
            all_goals exact TI.put (by assumption) hp pv hkl hk1 hl2 ef hall (pick_kw_some hx) hb (by rw [if_neg hpw]) rfl rfl rfl rfl rfl
end Mine
end
section
open PySem PySem.W PySem.W.X PyProof.Rows PySem.Calls
set_option Elab.async false
set_option maxRecDepth 100000
namespace Mine
section
variable {prog : Program} {w : World} {A : Around} {E : Value → Shared → Prop} {s : Shared} {h₀ : Heap} {L l : Addr} {news : List (Addr × Obj)} {n : Nat} {v : Value} {r : List Value}
theorem truthy_nil {Q : Bool → Shared → Prop} (N : News h₀ L s.heap news) (hm : (l, W.listOf ([] : List Value).toArray n) ∈ news) (h : ∀ k, Q false { s with toks := k }) : wpAny (model prog w) A (truthy (.ref l)) Q E s :=
  wpAny_truthy_list (items := #[]) ⟨_, (N _ hm).1, rfl, _, rfl⟩ (by decide) (h _)
theorem truthy_cons {Q : Bool → Shared → Prop} (N : News h₀ L s.heap news) (hm : (l, W.listOf (v :: r).toArray n) ∈ news) (hl : (v :: r).length ≤ 200) (h : ∀ k, Q true { s with toks := k }) : wpAny (model prog w) A (truthy (.ref l)) Q E s :=
  wpAny_truthy_list (items := (v :: r).toArray) ⟨_, (N _ hm).1, rfl, _, rfl⟩ (by simp only [List.size_toArray]; omega) (h _)
theorem seq0 (v : Value) (r : List Value) : seqIndex? 0 (v :: r).toArray.size = some 0 := by simp [seqIndex?]
/-- the first of a row is taken -/
theorem pop0 {m : Str → Option Value} {news' : List (Addr × Obj)} {u : Tok} {Q : Value → Shared → Prop} (F : Fr h₀ L s.heap m) (N : News h₀ L s.heap news)
    (U : Upd l (W.listOf (v :: r).toArray n) (W.listOf r.toArray (n + 1)) news news') (hl : (v :: r).length ≤ 100)
    (h : ∀ h', Fr h₀ L h' m → News h₀ L h' news' → Q v { s with heap := h' }) : wpAny (model prog w) A (call (.builtin "list.pop") [.ref l, .int 0 u]) Q E s :=
  kl_popAt (its := (v :: r).toArray) (p := []) (q := r) (y := v) (k := 0) F N (by decide) (seq0 v r) rfl U (Nat.le_trans hl (by rw [sizeLine_eq]; decide)) h
end
end Mine
end
section
open PySem PySem.W PySem.W.X PyProof.Rows PySem.Calls
set_option Elab.async false
set_option maxRecDepth 100000
set_option maxHeartbeats 4000000
set_option pp.deepTerms false
set_option pp.maxSteps 3000
namespace Mine
/-- what holds at the head of a turn of translate_connect_args, a row given -/
def TJ (w : World) (u D d nm : Addr) (oD : Obj) (lp : Addr × Obj) (kw fs all : List (Str × Value)) (l : List Value) (m : Str → Option Value) (news : List (Addr × Obj)) : Prop :=
  ∃ (k : Nat) (o' : Obj) (kvs : List (Str × Value)) (rem : List Value) (n : Nat), m (Str.ofString "self") = some (.ref u) ∧ m (Str.ofString "names") = some (.ref nm) ∧ m (Str.ofString "kw") = some (.ref D) ∧ m (Str.ofString "translated") = some (.ref d) ∧
    news = [lp, (d, o'), (D, oD), (nm, W.listOf rem.toArray n)] ∧ o'.IsDictOf (PySem.strKind Mine.pw w) kvs ∧ (∀ p ∈ kvs, Pv p.2) ∧ kvs.length ≤ k ∧ k ≤ 5 ∧ l.map er = (fs.drop k).map (fun p => .str p.1 0) ∧ (∀ v ∈ rem, Nv v) ∧ rem.length ≤ 100 ∧
    told (rem.map er) kw (fs.drop k) (kvs.map erp) = all
section
variable {w : World} {u D d nm : Addr} {oD o' : Obj} {lp : Addr × Obj} {kw fs all kvs : List (Str × Value)} {l : List Value} {m' : Str → Option Value} {news : List (Addr × Obj)} {k n : Nat} {f x : Str} {t : Tok} {v v' nv : Value} {rem rem' : List Value}
theorem TJ.same
    (hd : o'.IsDictOf (PySem.strKind Mine.pw w) kvs) (hp : ∀ p ∈ kvs, Pv p.2) (hkl : kvs.length ≤ k) (hk : k + 1 ≤ 5) (hl : l.map er = (fs.drop (k + 1)).map (fun p => .str p.1 0))
    (hf : fs.drop k = (f, v) :: fs.drop (k + 1)) (hall : told (rem.map er) kw (fs.drop k) (kvs.map erp) = all) (hpick : pick (rem.map er) kw f = nv) (ht : tell (kvs.map erp) nv v f = kvs.map erp)
    (ht' : rem.tail = rem') (hr : ∀ v ∈ rem, Nv v) (hr2 : rem.length ≤ 100)
    (m1 : m' (Str.ofString "self") = some (.ref u)) (m2 : m' (Str.ofString "names") = some (.ref nm)) (m3 : m' (Str.ofString "kw") = some (.ref D)) (m4 : m' (Str.ofString "translated") = some (.ref d))
    (hn : news = [lp, (d, o'), (D, oD), (nm, W.listOf rem'.toArray n)]) : TJ w u D d nm oD lp kw fs all l m' news := by
  subst ht'
  refine ⟨k + 1, o', kvs, rem.tail, n, m1, m2, m3, m4, hn, hd, hp, Nat.le_succ_of_le hkl, hk, hl, fun v h => hr v (List.mem_of_mem_tail h), by rw [List.length_tail]; omega, ?_⟩
  rw [hf] at hall
  unfold told at hall
  rw [hpick, ht] at hall
  rw [List.map_tail]
  exact hall
theorem TJ.put
    (hd : o'.IsDictOf (PySem.strKind Mine.pw w) (stored kvs x v')) (hp : ∀ p ∈ kvs, Pv p.2) (hv : Pv v') (hkl : kvs.length ≤ k) (hk : k + 1 ≤ 5) (hl : l.map er = (fs.drop (k + 1)).map (fun p => .str p.1 0))
    (hf : fs.drop k = (f, v) :: fs.drop (k + 1)) (hall : told (rem.map er) kw (fs.drop k) (kvs.map erp) = all) (hpick : pick (rem.map er) kw f = .str x t) (htr : tr v = true) (he : er v' = if f = Str.ofString "password" then sv v else er v)
    (ht' : rem.tail = rem') (hr : ∀ v ∈ rem, Nv v) (hr2 : rem.length ≤ 100)
    (m1 : m' (Str.ofString "self") = some (.ref u)) (m2 : m' (Str.ofString "names") = some (.ref nm)) (m3 : m' (Str.ofString "kw") = some (.ref D)) (m4 : m' (Str.ofString "translated") = some (.ref d))
    (hn : news = [lp, (d, o'), (D, oD), (nm, W.listOf rem'.toArray n)]) : TJ w u D d nm oD lp kw fs all l m' news := by
  subst ht'
  refine ⟨k + 1, o', _, rem.tail, n, m1, m2, m3, m4, hn, hd, stored_all hp hv, Nat.le_trans (stored_length_le _ _ _) (Nat.succ_le_succ hkl), hk, hl, fun v h => hr v (List.mem_of_mem_tail h), by rw [List.length_tail]; omega, ?_⟩
  rw [hf] at hall
  unfold told at hall
  rw [hpick, tell_yes htr, ← he, ← stored_erp] at hall
  rw [List.map_tail]
  exact hall
end
/-- what translate_connect_args leaves behind, the row used up -/
def TrnPostL (w : World) (nm : Addr) (all : List (Str × Value)) (s : Shared) (r : Result) (s' : Shared) : Prop :=
  (∃ a o kvs, r = .ok (.ret (.ref a)) ∧ s.heap.get? a = none ∧ s'.heap.get? a = some o ∧ (a == sysModules) = false ∧ o.IsDictOf (strKind Mine.pw w) kvs ∧ (∀ p ∈ kvs, Pv p.2) ∧ kvs.length ≤ 5 ∧ kvs.map erp = all) ∧ KpBut nm s s'
theorem UrlAt.but {h h' : Heap} {u q nm : Addr} {dn us pw ho po db : Value} {a : Array Value} {n : Nat} (U : UrlAt h u dn us pw ho po db q) (hn : h.get? nm = some (W.listOf a n)) (k : ∀ b o, b ≠ nm → h.get? b = some o → h'.get? b = some o) : UrlAt h' u dn us pw ho po db q := by
  obtain ⟨dx, d2, a, b, c⟩ := U
  refine ⟨dx, d2, k _ _ ?_ a, k _ _ ?_ b, k _ _ ?_ c⟩
  · rintro rfl; rw [hn] at a; exact nomatch congrArg Obj.cls (Option.some.inj a)
  · rintro rfl; rw [hn] at b; exact absurd (congrArg Obj.cls (Option.some.inj b)) (show ¬ (Value.type "list" = Value.type "dict") by decide)
  · rintro rfl; rw [hn] at c; exact nomatch congrArg Obj.cls (Option.some.inj c)
end Mine
local macro_rules | `(tactic| walk_at "ListRest") => `(tactic| (refine Mine.stop_i ?_))
local macro_rules | `(tactic| walk_at "compareOp In str ref") => `(tactic| first
  | (refine kda_in (knd := PySem.strKind _ _) (by with_reducible assumption) (by news_mem) (by with_reducible assumption) (by with_reducible assumption) (strKind_is _ _ _ _) true (by rw [‹valueAt _ _ = some _›]; rfl) ?_)
  | (refine kda_in (knd := PySem.strKind _ _) (by with_reducible assumption) (by news_mem) (by with_reducible assumption) (by with_reducible assumption) (strKind_is _ _ _ _) false (by rw [‹valueAt _ _ = none›]; rfl) ?_))
local macro_rules | `(tactic| walk_at "subscriptTail Name Name ref str") => `(tactic| (refine kda_item (knd := PySem.strKind _ _) (by with_reducible assumption) (by news_mem) (by with_reducible assumption) (strKind_is _ _ _ _) (by with_reducible assumption) ?_))
local macro_rules | `(tactic| walk_at "call ref") => `(tactic| (with_reducible refine Mine.use_call (d := 350) (u := 150) (Nat.le_of_ble_eq_true (by with_unfolding_all rfl)) (Nat.le_of_ble_eq_true (by with_unfolding_all rfl)) (by assumption) (by assumption) (Mine.pe_any (Mine.FV.pe (by assumption)) (Frag.In.keeps ‹Frag.In _ _› (Fr.keep ‹_›)) (TopRead.keeps ‹_› (Fr.keep ‹_›))) ?_; intro h' t' F' N' k'; k_sweep))
local macro_rules | `(tactic| walk_at "call builtin:getattr") => `(tactic| (refine Mine.gat_any (Nat.le_of_ble_eq_true (by with_unfolding_all rfl)) (Nat.le_of_ble_eq_true (by with_unfolding_all rfl)) (by assumption) (by assumption) (by assumption) (by assumption) (Mine.UrlAt.keeps ‹_› (Fr.keep ‹_›)) (by assumption) (Mine.Pv.handed (by assumption)) ?_; intro h' t' F' N' k'; k_sweep))
local macro_rules | `(tactic| walk_at "truthy") => `(tactic| (refine Mine.truthy_pv' (by assumption) (by assumption) ?_; intro tk'))
local macro_rules | `(tactic| walk_at "getAttrBy ref") => `(tactic| (refine Mine.gby_any (Nat.le_of_ble_eq_true (by with_unfolding_all rfl)) (Nat.le_of_ble_eq_true (by with_unfolding_all rfl)) (by assumption) (by assumption) (by assumption) (by assumption) (Mine.UrlAt.keeps ‹_› (Fr.keep ‹_›)) (by assumption) (Mine.Pv.handed (by assumption)) ?_; intro h' t' F' N' k'; k_sweep))
local macro_rules | `(tactic| walk_at "setItem ref str") => `(tactic| (refine kda_set (knd := PySem.strKind _ _) (by with_reducible assumption) (by with_reducible assumption) (by k_updF) (by with_reducible assumption) (strKind_is _ _ _ _) (by rw [sizeLine_eq]; omega) ?_; intro h' o' F' N' hd'; (try dsimp only at N'); k_sweep))
local macro_rules | `(tactic| walk_at "call type:str") => `(tactic| (refine Mine.str_pv (by assumption) (by assumption) ?_; intro v' tk' hv' he'))
local macro_rules | `(tactic| walk_at "truthy ref") => `(tactic| first
  | (refine Mine.truthy_cons (by with_reducible assumption) (by first | exact .head _ | exact .tail _ (.head _) | exact .tail _ (.tail _ (.head _)) | exact .tail _ (.tail _ (.tail _ (.head _))) | exact .tail _ (.tail _ (.tail _ (.tail _ (.head _))))) (by simp only [List.length_cons] at *; omega) ?_; intro tk')
  | (refine Mine.truthy_nil (by with_reducible assumption) (by first | exact .head _ | exact .tail _ (.head _) | exact .tail _ (.tail _ (.head _)) | exact .tail _ (.tail _ (.tail _ (.head _))) | exact .tail _ (.tail _ (.tail _ (.tail _ (.head _))))) ?_; intro tk'))
local macro_rules | `(tactic| walk_at "getMethod ref") => `(tactic| ((with_reducible show wpAny _ _ (getMethod (Value.ref _) (PySem.Str.ofString "pop") _) _ _ _); refine kl_method (by with_reducible assumption) (by first | exact .head _ | exact .tail _ (.head _) | exact .tail _ (.tail _ (.head _)) | exact .tail _ (.tail _ (.tail _ (.head _))) | exact .tail _ (.tail _ (.tail _ (.tail _ (.head _))))) PySem.F.slot_list_pop PySem.F.type_list_pop ?_))
local macro_rules | `(tactic| walk_at "call builtin:list.pop") => `(tactic| (refine' Mine.pop0 ?F ?N ?U ?z ?_; (case F => k_asm); (case N => k_asm); (case U => k_upd); (case z => assumption); intro h' F' N'))
namespace Mine
theorem trn_list {w : World} {s : Shared} {bs : Heap} {mg mb : Str → Option Value} {u q nm : Addr} {ns : List Value} {nn : Nat} {dn us pw ho po db : Value} {kws : List (Str × Value)} (X : (heap w.params).In bs) (T : TR mg mb bs) (hb : bs.StaysIn s.heap) (hnm : s.heap.get? nm = some (W.listOf ns.toArray nn)) (hbn : bs.get? nm = none) (hns : ∀ v ∈ ns, Nv v) (hnl : ns.length ≤ 100) (U : UrlAt s.heap u dn us pw ho po db q)
    (h1 : Pv ho) (h2 : Pv db) (h3 : Pv us) (h4 : Pv pw) (h5 : Pv po) (hk : ∀ p ∈ kws, p.1 ≠ Str.ofString "self" ∧ p.1 ≠ Str.ofString "names") (hkn : ∀ p ∈ kws, Nv p.2) (hn : (kws.map (·.1)).Nodup) (hl : kws.length ≤ 100) :
    codeAny (model Mine.pw w) (AD none 340 100) (.call (.ref 481) ⟨[.ref u, .ref nm], kws⟩) (TrnPostL w nm (told (ns.map er) (kws.map erp) (fieldsOf ho db us pw po) []) s) s := by
  w_on
  have dummy : heap = heap ∧ PySem.Challenge.rw_bq5036_01 = PySem.Challenge.rw_bq5036_01 := by
    k_fill
    exact ⟨rfl, rfl⟩
  clear dummy
  refine enter_kw (v2 := .ref nm) (a3 := Str.ofString "kw") X T hb (by k_is) (by k_is) (by k_is) (by rfl) (by rfl) (by rfl) (by rfl) (by rfl) (by rfl) (by rfl) (by rfl) (by decide) (.inr ⟨_, rfl⟩) hk hn hl ⟨by rfl, by rfl, by rfl⟩ [(nm, _)] (List.forall_mem_cons.mpr ⟨⟨hnm, hbn⟩, List.forall_mem_nil _⟩) ?_
  intro g L h₁ t' D o hD hDn hDl hDm F N kb Xg Tg kg
  replace kg : ∀ b o, b ≠ nm → s.heap.get? b = some o → g.get? b = some o := fun b o q e => kg b o (by simpa using q) e
  replace U := U.but hnm kg
  have hDne : D ≠ nm := by simpa using hDm
  try dsimp only
  k_steps
  rename_i d' hh4 o' lo' hs' fs' hi' fi' l12 hh3 l' hh2 l11 hh1 N1 i' l10
  clear N1
  refine rest_of_turns (TJ w u D d' nm o _ (kws.map erp) (fieldsOf ho db us pw po) (told (ns.map er) (kws.map erp) (fieldsOf ho db us pw po) [])) ?ht ?hz _ _ _ ⟨0, o', [], ns, _, rfl, rfl, rfl, rfl, rfl, hs', (fun _ h => nomatch h), Nat.le_refl _, by decide, rfl, hns, hnl, rfl⟩
  case hz =>
    rintro m news h tk ⟨k, o2, kvs, rem, n, m1, m2, m3, m4, rfl, hd, hp, hkl, hk5, hl, hr, hr2, hall⟩ F N
    have F := fr_known F m4
    k_steps
    all_goals (
      have hk : k = 5 := by
        rcases Nat.lt_or_ge k 5 with q | q
        · have : k = 0 ∨ k = 1 ∨ k = 2 ∨ k = 3 ∨ k = 4 := by omega
          rcases this with rfl | rfl | rfl | rfl | rfl <;> cases hl
        · exact Nat.le_antisymm hk5 q
      subst hk
      have N2 := N (d', o2) (.tail _ (.head _))
      refine ⟨⟨d', o2, kvs, rfl, ?_, N2.1, lo', hd, hp, hkl, hall⟩, ?_⟩
      · cases e : s.heap.get? d' with
        | none => rfl
        | some x =>
          have hne : d' ≠ nm := by
            rintro rfl
            have := (N (d', W.listOf rem.toArray n) (.tail _ (.tail _ (.tail _ (.head _))))).1
            rw [N2.1] at this
            have := Option.some.inj this
            subst this
            obtain ⟨es, ep, _, z, _⟩ := hd
            cases z
          have := kg _ _ hne e; rw [N2.2.2] at this; cases this
      · rename Fr _ _ _ _ => F'
        exact ⟨fun b o q e => F'.keep b o (kg b o q e), rfl, rfl, rfl⟩)
  case ht =>
    rintro v r m news it h tk ⟨k, o2, kvs, rem, n, m1, m2, m3, m4, rfl, hd, hp, hkl, hk5, hl, hr, hr2, hall⟩ hit F N
    have F := fr_known F (x := Str.ofString "translated") (by rw [if_neg (by decide)]; exact m4)
    have F := fr_known F (x := Str.ofString "kw") (by rw [if_neg (by decide), if_neg (by decide)]; exact m3)
    have F := fr_known F (x := Str.ofString "names") (by rw [if_neg (by decide), if_neg (by decide), if_neg (by decide)]; exact m2)
    have F := fr_known F (x := Str.ofString "self") (by rw [if_neg (by decide), if_neg (by decide), if_neg (by decide), if_neg (by decide)]; exact m1)
    obtain ⟨f, v, t, rfl, ef, fv, pv, hk1, hl2⟩ := fv_at ho db us pw po hl hk5 h1 h2 h3 h4 h5
    rcases rem with _ | ⟨v0, rem⟩
    · cases hb : tr v with
      | false =>
        cases hx : valueAt kws f with
        | none =>
          k_steps
          all_goals exact TJ.same hd hp hkl hk1 hl2 ef hall (pick_kw_none hx) (tell_no hb) rfl hr hr2 rfl rfl rfl rfl rfl
        | some nv =>
          cases kw_nv hkn hx with
          | none =>
            k_steps
            all_goals exact TJ.same hd hp hkl hk1 hl2 ef hall (pick_kw_some hx) (tell_none _ _ _) rfl hr hr2 rfl rfl rfl rfl rfl
          | str x t =>
            k_steps
            all_goals exact TJ.same hd hp hkl hk1 hl2 ef hall (pick_kw_some hx) (tell_no hb) rfl hr hr2 rfl rfl rfl rfl rfl
      | true =>
        cases hx : valueAt kws f with
        | none =>
          by_cases hpw : f = Str.ofString "password"
          · have e6 : (f == Str.ofString "password") = true := by simpa using hpw
            k_steps
            all_goals exact TJ.put (by assumption) hp (by assumption) hkl hk1 hl2 ef hall (pick_kw_none hx) hb (by rw [if_pos hpw]; assumption) rfl hr hr2 rfl rfl rfl rfl rfl
          · have e6 : (f == Str.ofString "password") = false := by simpa using hpw
            k_steps
            all_goals exact TJ.put (by assumption) hp (pv) hkl hk1 hl2 ef hall (pick_kw_none hx) hb (by rw [if_neg hpw]) rfl hr hr2 rfl rfl rfl rfl rfl
        | some nv =>
          cases kw_nv hkn hx with
          | none =>
            k_steps
            all_goals exact TJ.same hd hp hkl hk1 hl2 ef hall (pick_kw_some hx) (tell_none _ _ _) rfl hr hr2 rfl rfl rfl rfl rfl
          | str x t =>
            by_cases hpw : f = Str.ofString "password"
            · have e6 : (f == Str.ofString "password") = true := by simpa using hpw
              k_steps
              all_goals exact TJ.put (by assumption) hp (by assumption) hkl hk1 hl2 ef hall (pick_kw_some hx) hb (by rw [if_pos hpw]; assumption) rfl hr hr2 rfl rfl rfl rfl rfl
            · have e6 : (f == Str.ofString "password") = false := by simpa using hpw
              k_steps
              all_goals exact TJ.put (by assumption) hp (pv) hkl hk1 hl2 ef hall (pick_kw_some hx) hb (by rw [if_neg hpw]) rfl hr hr2 rfl rfl rfl rfl rfl
    · cases hr v0 (.head _) with
      | none =>
        k_steps
        all_goals exact TJ.same hd hp hkl hk1 hl2 ef hall (rfl) (tell_none _ _ _) rfl hr hr2 rfl rfl rfl rfl rfl
      | str x t =>
        cases hb : tr v with
        | false =>
          k_steps
          all_goals exact TJ.same hd hp hkl hk1 hl2 ef hall (rfl) (tell_no hb) rfl hr hr2 rfl rfl rfl rfl rfl
        | true =>
          by_cases hpw : f = Str.ofString "password"
          · have e6 : (f == Str.ofString "password") = true := by simpa using hpw
            k_steps
            all_goals exact TJ.put (by assumption) hp (by assumption) hkl hk1 hl2 ef hall (rfl) hb (by rw [if_pos hpw]; assumption) rfl hr hr2 rfl rfl rfl rfl rfl
          · have e6 : (f == Str.ofString "password") = false := by simpa using hpw
            k_steps
            all_goals exact TJ.put (by assumption) hp (pv) hkl hk1 hl2 ef hall (rfl) hb (by rw [if_neg hpw]) rfl hr hr2 rfl rfl rfl rfl rfl
end Mine
end
section
open PySem PySem.W PySem.W.X PyProof.Rows
set_option Elab.async false
set_option maxRecDepth 100000
set_option maxHeartbeats 0
set_option pp.deepTerms false
set_option pp.maxSteps 3000
namespace Mine
/-- a new address -/
def MadeAt (h h' : Heap) (u : Addr) (dn us pw ho po db : Value) (q : Addr) : Prop := ∃ dx, h.get? u = none ∧ h.get? dx = none ∧ u ≠ dx ∧ h'.get? u = some ⟨.ref 484, some dx, .seq #[dn, us, pw, ho, po, db, .ref q] 0, #[]⟩ ∧ h'.get? dx = some ⟨.type "dict", none, .dict #[] 0, #[]⟩
def QueryAt (h h' : Heap) (q : Addr) : Prop := ∃ d2, h.get? q = none ∧ h'.get? q = some ⟨.ref 171, some d2, .dict #[] 0, #[]⟩
theorem MadeAt.since {h h1 h' : Heap} {u q : Addr} {dn us pw ho po db : Value} (m : MadeAt h1 h' u dn us pw ho po db q) (k : h.StaysIn h1) : MadeAt h h' u dn us pw ho po db q := by
  obtain ⟨dx, a, b, c⟩ := m
  refine ⟨dx, ?_, ?_, c⟩
  · cases e : h.get? u with
    | none => rfl
    | some o => rw [k _ _ e] at a; cases a
  · cases e : h.get? dx with
    | none => rfl
    | some o => rw [k _ _ e] at b; cases b
theorem MadeAt.keeps {h h' h2 : Heap} {u q : Addr} {dn us pw ho po db : Value} (m : MadeAt h h' u dn us pw ho po db q) (k : h'.StaysIn h2) : MadeAt h h2 u dn us pw ho po db q := by
  obtain ⟨dx, a, b, c, d, e⟩ := m
  exact ⟨dx, a, b, c, k _ _ d, k _ _ e⟩
theorem QueryAt.since {h h1 h' : Heap} {q : Addr} (m : QueryAt h1 h' q) (k : h.StaysIn h1) : QueryAt h h' q := by
  obtain ⟨d2, a, b⟩ := m
  refine ⟨d2, ?_, b⟩
  cases e : h.get? q with
  | none => rfl
  | some o => rw [k _ _ e] at a; cases a
end Mine
local macro_rules | `(tactic| x_close) => `(tactic| first | exact ⟨⟨_, rfl, _, ((by assumption : Mem _ _ _ _).nw _ (.head _)).2, ((by assumption : Mem _ _ _ _).nw _ (.tail _ (.head _))).2, (by assumption : Mem _ _ _ _).ne 0 1 _ _ _ _ rfl rfl (by decide), ((by assumption : Mem _ _ _ _).nw _ (.head _)).1, ((by assumption : Mem _ _ _ _).nw _ (.tail _ (.head _))).1⟩, Mine.kp_mem (by assumption)⟩ | exact ⟨by kernel_rfl, Mine.kp_mem (by assumption)⟩ | exact ⟨by kernel_rfl, fun _ _ e => e, rfl, rfl, rfl⟩ | exact ⟨⟨_, rfl, _, ((by assumption : Mem _ _ _ _).nw _ (.head _)).2, ((by assumption : Mem _ _ _ _).nw _ (.head _)).1⟩, Mine.kp_mem (by assumption)⟩)
namespace Mine
section
variable {w : World} {hdl : Option Value} {s : Shared} {T q u dx : Addr} {dn us pw ho po db : Value}
theorem tup_new (X : (Mine.heap w.params).In s.heap) (hT : s.heap.get? T = some ⟨.type "tuple", none, .seq #[dn, us, pw, ho, po, db, .ref q] 0, #[]⟩) :
    wpAny (model Mine.pw w) (AR hdl) (PySem.call (.builtin "tuple.__new__") [.ref 484, .ref T]) (fun v s' => (∃ u, v = .ref u ∧ MadeAt s.heap s'.heap u dn us pw ho po db q) ∧ Kp s s') (fun _ _ => False) s := by
  x_run
theorem obj_init (X : (Mine.heap w.params).In s.heap) (hu : s.heap.get? u = some ⟨.ref 484, some dx, .seq #[dn, us, pw, ho, po, db, .ref q] 0, #[]⟩) :
    wpAny (model Mine.pw w) (AR hdl) (PySem.call (.builtin "object.__init__") [.ref u, dn, us, pw, ho, po, db, .ref q]) (fun v s' => v = .none ∧ Kp s s') (fun _ _ => False) s := by
  x_run
theorem imm_new (X : (Mine.heap w.params).In s.heap) :
    wpAny (model Mine.pw w) (AR hdl) (PySem.call (.ref 171) []) (fun v s' => (∃ q, v = .ref q ∧ QueryAt s.heap s'.heap q) ∧ Kp s s') (fun _ _ => False) s := by
  x_run
end
end Mine
end
section
open PySem PySem.W PySem.W.X PyProof.Rows PySem.Calls
set_option Elab.async false
set_option maxRecDepth 100000
set_option maxHeartbeats 4000000
set_option pp.deepTerms false
set_option pp.maxSteps 2000
namespace Mine
theorem tup_methN {w : World} {A : Around} {E : Value → Shared → Prop} {s : Shared} {h₀ : Heap} {L : Addr} {m : Str → Option Value} {pl : Sem Bool} {Q : Value × List Value → Shared → Prop}
    (F : Fr h₀ L s.heap m) (X₀ : (heap w.params).In h₀) (h : Q (.builtin "tuple.__new__", []) { s with toks := s.toks + 1 }) : wpAny (model pw w) A (getMethod (.type "tuple") (Str.ofString "__new__") pl) Q E s := by
  w_on
  have dummy : heap = heap ∧ PySem.Challenge.rw_bq5036_01 = PySem.Challenge.rw_bq5036_01 := by
    k_fill
    exact ⟨rfl, rfl⟩
  clear dummy
  have e1 : typeOf (.type "tuple") = pure (.type "type") := meta_tuple
  have e2 : Manifest.isStub "tuple" = false := by decide +kernel
  have e3 : handedIn (.builtin "tuple.__new__") = true := by decide +kernel
  have e4 : findCls (heap w.params) (.type "tuple") (.type "type") (Str.ofString "__new__") = some (.val (.builtin "tuple.__new__")) := by k_is
  with_reducible exact method_type F X₀ e1 e2 e4 e3 h
end Mine
local macro_rules | `(tactic| walk_at "getMethod type:tuple") => `(tactic| (with_reducible refine' Mine.tup_methN (by with_reducible assumption) (by with_reducible assumption) ?_))
local macro_rules | `(tactic| walk_at "call builtin:tuple.__new__") => `(tactic| (refine' Mine.use_kpD (d := 360) (u := 200) (Nat.le_of_ble_eq_true (by with_unfolding_all rfl)) (Nat.le_of_ble_eq_true (by with_unfolding_all rfl)) (by with_reducible assumption) (by with_reducible assumption) (P := fun v h' => ∃ u, v = .ref u ∧ Mine.MadeAt _ h' u _ _ _ _ _ _ _) (Mine.tup_new (Frag.In.keeps ‹Frag.In _ _› (Fr.keep ‹_›)) (News.get ‹_› (.head _))) ?_; intro v' h' t' p' F' N' k'; obtain ⟨u', e', p'⟩ := p'; subst e'; replace p' := Mine.MadeAt.since p' (Fr.keep ‹_›)))
namespace Mine
section
variable {w : World} {hdl : Option Value} {s : Shared} {mg mb : Str → Option Value} {q : Addr} {dn us pw ho po db : Value}
theorem new_c (X : (heap w.params).In s.heap) (T : TR mg mb s.heap) :
    codeAny (model Mine.pw w) (AD hdl 350 150) (.call (.ref 251) ⟨[.ref 484, dn, us, pw, ho, po, db, .ref q], []⟩) (fun v s' => (∃ u, v = .ok (.ret (.ref u)) ∧ MadeAt s.heap s'.heap u dn us pw ho po db q) ∧ Kp s s') s := by
  w_on
  have dummy : heap = heap ∧ PySem.Challenge.rw_bq5036_01 = PySem.Challenge.rw_bq5036_01 := by
    k_fill
    exact ⟨rfl, rfl⟩
  clear dummy
  refine enter X T (fun _ _ e => e) (by k_is) (by k_is) (binds := [("_cls", .ref 484), ("drivername", dn), ("username", us), ("password", pw), ("host", ho), ("port", po), ("database", db), ("query", .ref q)]) (by first | exact BindsTo.of_eq rfl | exact binds_K X rfl (by k_is) rfl rfl rfl) (locs rfl) [] (List.forall_mem_nil _) ?_
  intro g L h₁ F N kb Xg Tg kg
  try dsimp only
  k_steps
  all_goals (
    rename Fr _ _ _ _ => F'
    first
      | exact (MadeAt.since (by assumption) kb)
      | exact ⟨fun b o e => F'.keep b o (kb b o e), rfl, rfl, rfl⟩)
theorem made_by (X : (heap w.params).In s.heap) {A : Around} {Q : Option String → Shared → Prop} {E : Value → Shared → Prop} (h : Q none s) : wpAny (model Mine.pw w) A (Bind.madeBy (.ref 484)) Q E s := by
  w_on
  have dummy : heap = heap ∧ PySem.Challenge.rw_bq5036_01 = PySem.Challenge.rw_bq5036_01 := by
    k_fill
    exact ⟨rfl, rfl⟩
  clear dummy
  have hc : clsIn (heap w.params) 484 = some { name := Str.ofString "URL", bases := [Value.ref 316], mro := [Value.ref 484, Value.ref 316, Value.type "tuple", Value.type "object"], ns := 483, qualname := Str.ofString "URL" } := by k_is
  have hm : Looks (model Mine.pw w) s.heap (mroOf (.ref 484)) [Value.ref 484, Value.ref 316, Value.type "tuple", Value.type "object"] := (looks_clsIn X hc).andThen .now
  have ho : (heap w.params).lookup 484 = some (tops2.o_660 w.params) := by k_is
  unfold Bind.madeBy
  refine wpAny_bind (hm.at ?_)
  rw [List.forIn_cons]
  refine wpAny_bind (wpAny_bind (wpAny_bind (wpAny_bind (wpAny_loadPart (X _ _ ho) (wpAny_pure ?_)))))
  dsimp only
  have e : (tops2.o_660 w.params).slots[4]?.join = none ∨ ∃ v, (tops2.o_660 w.params).slots[4]?.join = some v ∧ ∀ i, v ≠ .builtin i := by
    first
      | exact .inl (by rfl)
      | exact .inr ⟨_, by rfl, by intro i; exact fun h => by cases h⟩
  have f : findIn (heap w.params) (.ref 484) (Str.ofString "__new__") = some (some (.ref 317)) := by k_is
  have L := looks_findIn (M := model Mine.pw w) X f
  rcases e with e | ⟨v, e, z⟩
  · rw [e]
    refine wpAny_bind (L.at ?_)
    exact wpAny_pure (wpAny_pure (wpAny_pure h))
  · rw [e]
    cases v <;> first | exact absurd rfl (z _) | exact wpAny_pure (wpAny_pure (wpAny_pure h))
theorem get_new {A : Around} {E : Value → Shared → Prop} {Q : Value → Shared → Prop} {b : Bool} (X : (heap w.params).In s.heap)
    (h : Q (.ref 251) { s with toks := s.toks + 1 }) : wpAny (model Mine.pw w) A (getAttr (.ref 484) (Str.ofString "__new__") b) Q E s := by
  w_on
  have dummy : heap = heap ∧ PySem.Challenge.rw_bq5036_01 = PySem.Challenge.rw_bq5036_01 := by
    k_fill
    exact ⟨rfl, rfl⟩
  clear dummy
  have hr : readsIn (heap w.params) 484 (.type "type") = true := by k_is
  have e : findCls (heap w.params) (.ref 484) (.type "type") (Str.ofString "__new__") = some (CFound.get (Value.builtin "staticmethod.__get__") (Value.ref 317) Value.none (Value.ref 484)) := by k_is
  exact cls_bind X hr e (wpAny_call (sm_get (s := { s with toks := s.toks + 1 }) X (by k_is : recIn (heap w.params) 317 "staticmethod" = some (.ref 251 :: _)) (handed_on (by rfl) h)))
theorem make_c (X : (heap w.params).In s.heap) (T : TR mg mb s.heap) :
    codeAny (model Mine.pw w) (AD hdl 345 120) (.call (.ref 484) ⟨[dn, us, pw, ho, po, db, .ref q], []⟩) (fun v s' => (∃ u, v = .ok (.ret (.ref u)) ∧ MadeAt s.heap s'.heap u dn us pw ho po db q) ∧ Kp s s') s := by
  w_on
  have dummy : heap = heap ∧ PySem.Challenge.rw_bq5036_01 = PySem.Challenge.rw_bq5036_01 := by
    k_fill
    exact ⟨rfl, rfl⟩
  clear dummy
  have hc : clsIn (heap w.params) 484 = some { name := Str.ofString "URL", bases := [Value.ref 316], mro := [Value.ref 484, Value.ref 316, Value.type "tuple", Value.type "object"], ns := 483, qualname := Str.ofString "URL" } := by k_is
  have hm : Looks (model Mine.pw w) s.heap (mroOf (.ref 484)) [Value.ref 484, Value.ref 316, Value.type "tuple", Value.type "object"] := (looks_clsIn X hc).andThen .now
  have ho' : (heap w.params).lookup 484 = some (tops2.o_660 w.params) := by k_is
  have hs : specialIn (heap w.params) (.ref 484) "__call__" = some (some (.builtin "type.__call__")) := by k_is
  have call := looks_specialIn (M := model Mine.pw w) X hs
  have hi : instIn (heap w.params) (.ref 484) (.type "type") = some true := by k_is
  have typ := looks_instIn (M := model Mine.pw w) X hi
  have hse : mroIn (heap w.params) 484 (.ref 484) = some true := by k_is
  have hin : findIn (heap w.params) (.ref 484) (Str.ofString "__init__") = some (some (.builtin "object.__init__")) := by k_is
  refine codeAny_of_tree ?_
  show wpAny _ _ (callAny (.ref 484) _) _ _ _
  refine nd_load (X _ _ ho') ?_
  show wpAny _ _ (callAny.viaDunder (.ref 484) _) _ _ _
  unfold callAny.viaDunder
  refine wpAny_bind (call.at ?_)
  dsimp only
  rw [tc_bind]
  refine wpAny_bind (wpAny_pure (wpAny_bind (wpAny_pure ?_)))
  refine wpAny_pure (a := Fin.again (.call (.builtin "type.__call__") ⟨.ref 484 :: [dn, us, pw, ho, po, db, .ref q], []⟩)) (And.intro rfl ?_)
  refine codeAny_call_builtin_at (Code.quiet_builtin _ (by decide +kernel)) entry_typeCall (check_slot tc_kind tc_split typ (tc_args _ _ _) ?_)
  unfold Builtin.«type.__call__»
  have made : Looks (model Mine.pw w) s.heap (Bind.madeBy (.ref 484)) none := fun A Q E s k q => made_by (X.keeps k) q
  repeat (first | with_reducible refine get_new X ?_ | simp only [List.isEmpty_cons, Bool.false_eq_true, if_false] | with_reducible refine wpAny_call ?_ | lk)
  refine wideDC (d := 350) (u := 150) (Nat.le_of_ble_eq_true (by with_unfolding_all rfl)) (Nat.le_of_ble_eq_true (by with_unfolding_all rfl)) (codeAny_mono (new_c (s := { s with toks := s.toks + 1 }) X T) fun r s' z => ?_)
  obtain ⟨⟨u, rfl, mk⟩, kp⟩ := z
  have X' := X.keeps kp.1
  obtain ⟨dx, mk1, mk2, mk3, mk4, mk5⟩ := id mk
  have t1 : Looks (model Mine.pw w) s'.heap (typeOf (.ref u)) (.ref 484) := (Looks.ld mk4).andThen .now
  have s1 := looks_mroIn (M := model Mine.pw w) X' hse
  have i1 := looks_findIn (M := model Mine.pw w) X' hin
  have b1 : Looks (model Mine.pw w) s'.heap (bindSpecial (.builtin "object.__init__") (.ref u)) (.builtin "object.__init__", [.ref u]) := Looks.of_pure (oi_bind _)
  unfold isInstance callSpecial? specialOf
  repeat (first | with_reducible refine wpAny_call ?_ | lk)
  have hob : mroIn (heap w.params) 484 (.type "object") = some true := by k_is
  have t2 : Looks (model Mine.pw w) s'.heap (isInstance (.ref u) (.type "object")) true := t1.andThen (looks_mroIn X' hob)
  have made' : Looks (model Mine.pw w) s'.heap (Bind.madeBy (.ref 484)) none := fun A Q E s k q => made_by (X'.keeps k) q
  refine codeAny_call_builtin oi_plain entry_oi (check_slot oi_kind oi_split t2 (by unfold argsOk; kernel_rfl) ?_)
  unfold Builtin.«object.__init__»
  repeat lk
  exact ⟨⟨u, rfl, mk⟩, kp⟩
end
end Mine
end
section
open PySem PySem.W PySem.W.X PyProof.Rows PySem.Calls
set_option Elab.async false
set_option maxRecDepth 100000
set_option maxHeartbeats 4000000
set_option pp.deepTerms false
set_option pp.maxSteps 2000
namespace Mine
inductive Sv : Value → Prop
  | none : Sv .none
  | str (s : Str) (t : Tok) (h : s.length ≤ 1000) : Sv (.str s t)
inductive Iv : Value → Prop
  | none : Iv .none
  | int (n : Int) (t : Tok) (h : n = 0 ∨ n = 1 ∨ n = 5 ∨ n = 5432) : Iv (.int n t)
theorem Sv.pv {v : Value} (h : Sv v) : Pv v := by
  cases h with
  | none => exact .none
  | str s t h => exact .str s t h
theorem Iv.pv {v : Value} (h : Iv v) : Pv v := by
  cases h with
  | none => exact .none
  | int s t h => exact .int s t h
theorem keep_ret {P : Value → Prop} {s : Shared} {g h' : Heap} {L : Addr} {m : Str → Option Value} {t' : Nat} {gs : Array GenState} {dr : Drawn} {os : OsState} (kb : s.heap.StaysIn g) (F : Fr g L h' m) (e1 : gs = s.gens) (e2 : dr = s.drawn) (e3 : os = s.os) : Kp s ⟨h', gs, dr, t', os⟩ :=
  ⟨fun b o e => F.keep b o (kb b o e), e1, e2, e3⟩
end Mine
local macro_rules | `(tactic| x_close) => `(tactic| exact ⟨⟨_, rfl, _, ((by assumption : Mem _ _ _ _).nw _ (.head _)).2, ((by assumption : Mem _ _ _ _).nw _ (.head _)).1⟩, Mine.kp_mem (by assumption)⟩)
namespace Mine
section
variable {w : World} {hdl : Option Value} {s : Shared} {mg mb : Str → Option Value} {q : Addr}
theorem as_str {x nm : Str} {t t2 : Tok} (X : (heap w.params).In s.heap) (T : TR mg mb s.heap) :
    codeAny (model Mine.pw w) (AD hdl 350 150) (.call (.ref 354) ⟨[.ref 484, .str x t, .str nm t2], []⟩) (fun v s' => v = .ok (.ret (.str x t)) ∧ Kp s s') s := by
  w_on
  have dummy : heap = heap ∧ PySem.Challenge.rw_bq5036_01 = PySem.Challenge.rw_bq5036_01 := by
    k_fill
    exact ⟨rfl, rfl⟩
  clear dummy
  refine enter X T (fun _ _ e => e) (by k_is) (by k_is) (binds := [("cls", .ref 484), ("v", .str x t), ("paramname", .str nm t2)]) (by first | exact BindsTo.of_eq rfl | exact binds_K X rfl (by k_is) rfl rfl rfl) (locs rfl) [] (List.forall_mem_nil _) ?_
  intro g L h₁ F N kb Xg Tg kg
  try dsimp only
  k_steps
  all_goals (rename Fr _ _ _ _ => F'; exact ⟨fun b o e => F'.keep b o (kb b o e), rfl, rfl, rfl⟩)
theorem as_port {v : Value} (hv : Iv v) (X : (heap w.params).In s.heap) (T : TR mg mb s.heap) :
    codeAny (model Mine.pw w) (AD hdl 350 150) (.call (.ref 344) ⟨[.ref 484, v], []⟩) (fun r s' => r = .ok (.ret v) ∧ Kp s s') s := by
  w_on
  have dummy : heap = heap ∧ PySem.Challenge.rw_bq5036_01 = PySem.Challenge.rw_bq5036_01 := by
    k_fill
    exact ⟨rfl, rfl⟩
  clear dummy
  refine enter X T (fun _ _ e => e) (by k_is) (by k_is) (binds := [("cls", .ref 484), ("port", v)]) (by first | exact BindsTo.of_eq rfl | exact binds_K X rfl (by k_is) rfl rfl rfl) (locs rfl) [] (List.forall_mem_nil _) ?_
  intro g L h₁ F N kb Xg Tg kg
  cases hv with
  | none =>
    try dsimp only
    k_steps
    all_goals (rename Fr _ _ _ _ => F'; exact ⟨fun b o e => F'.keep b o (kb b o e), rfl, rfl, rfl⟩)
  | int n t hn =>
    try dsimp only
    k_steps
    all_goals (rename Fr _ _ _ _ => F'; exact ⟨fun b o e => F'.keep b o (kb b o e), rfl, rfl, rfl⟩)
theorem str_dict {qm : Addr} (X : (heap w.params).In s.heap) (hq : s.heap.get? qm = some (methodObj (.ref 372) (.ref 484))) :
    wpAny (model Mine.pw w) (AR hdl) (PySem.call (.ref qm) [.none]) (fun v s' => (∃ q, v = .ref q ∧ QueryAt s.heap s'.heap q) ∧ Kp s s') (fun _ _ => False) s := by
  unfold methodObj at hq
  x_run
theorem use_bound {prog : Program} {A : Around} {E : Value → Shared → Prop} {Q : Value → Shared → Prop} {f v self : Value} {qm : Addr} {args : List Value} {h₀ : Heap} {L : Addr} {m : Str → Option Value} {news : List (Addr × Obj)} {d u : Nat}
    (hd : A.depth ≤ d) (hu : A.units ≤ u) (F : Fr h₀ L s.heap m) (N : News h₀ L s.heap news) (hq : (qm, methodObj f self) ∈ news) (c : codeAny (model prog w) (AD A.handled d u) (.call f ⟨self :: args, []⟩) (fun r s' => r = .ok (.ret v) ∧ Kp s s') s)
    (h : ∀ h' t', Fr h₀ L h' m → News h₀ L h' news → s.heap.StaysIn h' → Q v { s with heap := h', toks := t' }) : wpAny (model prog w) A (call (.ref qm) args) Q E s := by
  refine call_meth N hq (wideDC hd hu (codeAny_mono c fun r s' z => ?_))
  obtain ⟨rfl, k⟩ := z
  obtain ⟨hh, g, dr, tk, os⟩ := s'
  obtain ⟨k1, rfl, rfl, rfl⟩ := k
  exact h hh tk (fr_stays F k1) (news_stays N k1) k1
end
end Mine
local macro_rules | `(tactic| walk_at "call ref") => `(tactic| (with_reducible refine Mine.use_bound (d := 350) (u := 150) (Nat.le_of_ble_eq_true (by with_unfolding_all rfl)) (Nat.le_of_ble_eq_true (by with_unfolding_all rfl)) (by assumption) (by assumption) (List.Mem.head _) (Mine.as_str (Frag.In.keeps ‹Frag.In _ _› (Fr.keep ‹_›)) (TopRead.keeps ‹_› (Fr.keep ‹_›))) ?_; intro h' t' F' N' k'; k_sweep))
namespace Mine
section
variable {w : World} {hdl : Option Value} {s : Shared} {mg mb : Str → Option Value} {q : Addr}
theorem as_none {v : Value} (hv : Sv v) {nm : Str} {t2 : Tok} (X : (heap w.params).In s.heap) (T : TR mg mb s.heap) :
    codeAny (model Mine.pw w) (AD hdl 345 120) (.call (.ref 364) ⟨[.ref 484, v, .str nm t2], []⟩) (fun r s' => r = .ok (.ret v) ∧ Kp s s') s := by
  w_on
  have dummy : heap = heap ∧ PySem.Challenge.rw_bq5036_01 = PySem.Challenge.rw_bq5036_01 := by
    k_fill
    exact ⟨rfl, rfl⟩
  clear dummy
  refine enter X T (fun _ _ e => e) (by k_is) (by k_is) (binds := [("cls", .ref 484), ("v", v), ("paramname", .str nm t2)]) (by first | exact BindsTo.of_eq rfl | exact binds_K X rfl (by k_is) rfl rfl rfl) (locs rfl) [] (List.forall_mem_nil _) ?_
  intro g L h₁ F N kb Xg Tg kg
  cases hv with
  | none =>
    try dsimp only
    k_steps
    all_goals (rename Fr _ _ _ _ => F'; exact ⟨fun b o e => F'.keep b o (kb b o e), rfl, rfl, rfl⟩)
  | str n t hn =>
    try dsimp only
    k_steps
    all_goals (rename Fr _ _ _ _ => F'; exact ⟨fun b o e => F'.keep b o (kb b o e), rfl, rfl, rfl⟩)
end
end Mine
end
section
local macro_rules | `(tactic| walk_at "mine pad") => `(tactic| skip)
open PySem PySem.W PySem.W.X PyProof.Rows PySem.Calls
set_option Elab.async false
set_option maxRecDepth 100000
set_option maxHeartbeats 4000000
set_option pp.deepTerms false
set_option pp.maxSteps 2000
local macro_rules | `(tactic| walk_at "call ref") => `(tactic| first
  | (with_reducible refine Mine.use_bound (d := 350) (u := 150) (Nat.le_of_ble_eq_true (by with_unfolding_all rfl)) (Nat.le_of_ble_eq_true (by with_unfolding_all rfl)) (by assumption) (by assumption) (List.Mem.head _) (Mine.as_str (Frag.In.keeps ‹Frag.In _ _› (Fr.keep ‹_›)) (TopRead.keeps ‹_› (Fr.keep ‹_›))) ?_; intro h' t' F' N' k'; k_sweep)
  | (with_reducible refine Mine.use_bound (d := 345) (u := 120) (Nat.le_of_ble_eq_true (by with_unfolding_all rfl)) (Nat.le_of_ble_eq_true (by with_unfolding_all rfl)) (by assumption) (by assumption) (List.Mem.head _) (Mine.as_none (by assumption) (Frag.In.keeps ‹Frag.In _ _› (Fr.keep ‹_›)) (TopRead.keeps ‹_› (Fr.keep ‹_›))) ?_; intro h' t' F' N' k'; k_sweep)
  | (with_reducible refine Mine.use_bound (d := 350) (u := 150) (Nat.le_of_ble_eq_true (by with_unfolding_all rfl)) (Nat.le_of_ble_eq_true (by with_unfolding_all rfl)) (by assumption) (by assumption) (List.Mem.head _) (Mine.as_port (by assumption) (Frag.In.keeps ‹Frag.In _ _› (Fr.keep ‹_›)) (TopRead.keeps ‹_› (Fr.keep ‹_›))) ?_; intro h' t' F' N' k'; k_sweep)
  | (refine' Mine.use_kpD (d := 360) (u := 200) (Nat.le_of_ble_eq_true (by with_unfolding_all rfl)) (Nat.le_of_ble_eq_true (by with_unfolding_all rfl)) (by with_reducible assumption) (by with_reducible assumption) (P := fun v h' => ∃ u, v = .ref u ∧ Mine.QueryAt _ h' u) (Mine.str_dict (Frag.In.keeps ‹Frag.In _ _› (Fr.keep ‹_›)) (News.get ‹_› (.head _))) ?_; intro v' h' t' p' F' N' k'; obtain ⟨u', e', p'⟩ := p'; subst e'; replace p' := Mine.QueryAt.since p' (Fr.keep ‹_›)))
namespace Mine
abbrev urlObj (dn us pw ho po db : Value) (dx q : Addr) : Obj := ⟨.ref 484, some dx, .seq #[dn, us, pw, ho, po, db, .ref q] 0, #[]⟩
abbrev nilObj : Obj := ⟨.type "dict", none, .dict #[] 0, #[]⟩
abbrev immObj (d2 : Addr) : Obj := ⟨.ref 171, some d2, .dict #[] 0, #[]⟩
/-- what create leaves behind -/
def CreatePost (dn us pw ho po db : Value) (s : Shared) (r : Result) (s' : Shared) : Prop :=
  (∃ u q dx d2, r = .ok (.ret (.ref u)) ∧ s.heap.get? u = none ∧ s.heap.get? q = none ∧ s.heap.get? dx = none ∧ s'.heap.get? u = some (urlObj dn us pw ho po db dx q) ∧ s'.heap.get? dx = some nilObj ∧ s'.heap.get? q = some (immObj d2)) ∧ Kp s s'
section
variable {w : World} {hdl : Option Value} {s : Shared} {mg mb : Str → Option Value} {q : Addr} {us pw ho po db : Value}
theorem create_c {x : Str} {t : Tok} (h1 : Sv us) (h2 : Sv ho) (h3 : Iv po) (h4 : Sv db) (X : (heap w.params).In s.heap) (T : TR mg mb s.heap) :
    codeAny (model Mine.pw w) (AD hdl 340 100) (.call (.ref 334) ⟨[.ref 484, .str x t, us, pw, ho, po, db], []⟩) (CreatePost (.str x t) us pw ho po db s) s := by
  w_on
  have dummy : heap = heap ∧ PySem.Challenge.rw_bq5036_01 = PySem.Challenge.rw_bq5036_01 := by
    k_fill
    exact ⟨rfl, rfl⟩
  clear dummy
  refine enter X T (fun _ _ e => e) (by k_is) (by k_is) (binds := [("cls", .ref 484), ("drivername", .str x t), ("username", us), ("password", pw), ("host", ho), ("port", po), ("database", db), ("query", .none)]) (by first | exact BindsTo.of_eq rfl | exact binds_K X rfl (by k_is) rfl rfl rfl) (locs rfl) [] (List.forall_mem_nil _) ?_
  intro g L h₁ F N kb Xg Tg kg
  try dsimp only
  k_steps
  rename Fr _ _ _ _ => F'
  rename QueryAt _ _ _ => hq
  refine wpAny_call (wideDC (d := 345) (u := 120) (Nat.le_of_ble_eq_true (by with_unfolding_all rfl)) (Nat.le_of_ble_eq_true (by with_unfolding_all rfl)) (codeAny_mono (make_c (Frag.In.keeps Xg (Fr.keep F')) (TopRead.keeps Tg (Fr.keep F'))) fun r s' z => ?_))
  obtain ⟨⟨u, rfl, mk⟩, kp⟩ := z
  obtain ⟨hh, g', dr, tk, os⟩ := s'
  obtain ⟨k1, rfl, rfl, rfl⟩ := kp
  have mk := (mk.since F'.keep).since kb
  obtain ⟨d2, q1, q2⟩ := hq.since kb
  obtain ⟨dx, m1, m2, _, m4, m5⟩ := mk
  exact ⟨⟨u, _, dx, d2, rfl, m1, q1, m2, m4, m5, k1 _ _ q2⟩, fun b o e => k1 _ _ (F'.keep b o (kb b o e)), rfl, rfl, rfl⟩
theorem UrlAt.of_news {h₀ h : Heap} {L u q dx d2 : Addr} {dn us pw ho po db : Value} {news : List (Addr × Obj)} (N : News h₀ L h news) (a : (u, urlObj dn us pw ho po db dx q) ∈ news) (b : (dx, nilObj) ∈ news) (c : (q, immObj d2) ∈ news) : UrlAt h u dn us pw ho po db q :=
  ⟨dx, d2, (N _ a).1, (N _ b).1, (N _ c).1⟩
theorem fresh_ne {h : Heap} {a b : Addr} {o : Obj} (x : h.get? a = none) (y : h.get? b = some o) : b ≠ a := by
  rintro rfl; rw [x] at y; cases y
theorem fresh_base {g h : Heap} {a : Addr} (k : g.StaysIn h) (x : h.get? a = none) : g.get? a = none := by
  cases e : g.get? a with
  | none => rfl
  | some o => rw [k _ _ e] at x; cases x
/-- create is used in a walk -/
theorem use_create {A : Around} {E : Value → Shared → Prop} {Q : Value → Shared → Prop} {qm : Addr} {x : Str} {t : Tok} {g : Heap} {L : Addr} {m : Str → Option Value} {news : List (Addr × Obj)} (hd : A.depth ≤ 340) (hu : A.units ≤ 100)
    (F : Fr g L s.heap m) (N : News g L s.heap news) (Xg : (heap w.params).In g) (Tg : TR mg mb g) (hq : (qm, methodObj (.ref 334) (.ref 484)) ∈ news) (h1 : Sv us) (h2 : Sv ho) (h3 : Iv po) (h4 : Sv db)
    (h : ∀ u q dx d2 h' t', Fr g L h' m → News g L h' ((u, urlObj (.str x t) us pw ho po db dx q) :: (dx, nilObj) :: (q, immObj d2) :: news) → (∀ p ∈ news, p.1 ≠ u ∧ p.1 ≠ dx ∧ p.1 ≠ q) → s.heap.StaysIn h' → Q (.ref u) { s with heap := h', toks := t' }) :
    wpAny (model Mine.pw w) A (call (.ref qm) [.str x t, us, pw, ho, po, db]) Q E s := by
  refine call_meth N hq (wideDC hd hu (codeAny_mono (create_c h1 h2 h3 h4 (Xg.keeps F.keep) (Tg.keeps F.keep)) fun r s' z => ?_))
  obtain ⟨⟨u, q, dx, d2, rfl, a1, a2, a3, b1, b2, b3⟩, k⟩ := z
  obtain ⟨hh, gs, dr, tk, os⟩ := s'
  obtain ⟨k1, rfl, rfl, rfl⟩ := k
  have hL : ∃ o, s.heap.get? L = some o := by
    obtain ⟨o, _, _, ho, _⟩ := F.ns
    exact ⟨o, ho⟩
  obtain ⟨oL, hL⟩ := hL
  refine h u q dx d2 hh tk (fr_stays F k1) ?_ (fun p hp => ⟨fresh_ne a1 (N p hp).1, fresh_ne a3 (N p hp).1, fresh_ne a2 (N p hp).1⟩) k1
  intro p hp
  rcases List.mem_cons.mp hp with rfl | hp
  · exact ⟨b1, (fresh_ne a1 hL).symm, fresh_base F.keep a1⟩
  rcases List.mem_cons.mp hp with rfl | hp
  · exact ⟨b2, (fresh_ne a3 hL).symm, fresh_base F.keep a3⟩
  rcases List.mem_cons.mp hp with rfl | hp
  · exact ⟨b3, (fresh_ne a2 hL).symm, fresh_base F.keep a2⟩
  exact news_stays N k1 p hp
end
end Mine
end
section
local macro_rules | `(tactic| walk_at "mine pad") => `(tactic| skip)
open PySem PySem.W PySem.W.X PyProof.Rows PySem.Calls
set_option Elab.async false
set_option maxRecDepth 100000
set_option maxHeartbeats 4000000
set_option pp.deepTerms false
set_option pp.maxSteps 2000
namespace Mine
/-- what a dict says of a name -/
def gv (kvs : List (Str × Value)) (f : Str) : Value := (valueAt kvs f).getD .none
section
variable {prog : Program} {w : World} {A : Around} {E : Value → Shared → Prop} {s : Shared}
theorem gv_get {Q : Value → Shared → Prop} {h₀ : Heap} {L d : Addr} {news : List (Addr × Obj)} {o : Obj} {kvs : List (Str × Value)} {k : Str} {t : Tok} (N : News h₀ L s.heap news) (hp : (d, o) ∈ news) (hd : o.IsDictOf (strKind prog w) kvs) (lo : (d == sysModules) = false) (h : Q (gv kvs k) { s with toks := s.toks + 1 }) :
    wpAny (model prog w) A (call (.builtin "dict.get") [.ref d, .str k t]) Q E s :=
  kdg_get1 N hp hd lo (strKind_is _ _ _ _) _ rfl h
end
end Mine
local macro_rules | `(tactic| walk_at "getMethod ref") => `(tactic| ((with_reducible show wpAny _ _ (getMethod (Value.ref _) (Str.ofString "get") _) _ _ _); refine kdg_method (knd := PySem.strKind _ _) (by with_reducible assumption) (by news_mem) (by with_reducible assumption) ?_))
local macro_rules | `(tactic| walk_at "call builtin:dict.get") => `(tactic| (refine Mine.gv_get (by with_reducible assumption) (by news_mem) (by with_reducible assumption) (by with_reducible assumption) ?_))
namespace Mine
theorem CreatePost.since {dn us pw ho po db : Value} {s s1 : Shared} {r : Result} {s' : Shared} (h : CreatePost dn us pw ho po db s1 r s') (st : s.heap.StaysIn s1.heap) (e1 : s1.gens = s.gens) (e2 : s1.drawn = s.drawn) (e3 : s1.os = s.os) : CreatePost dn us pw ho po db s r s' := by
  obtain ⟨⟨u, q, dx, d2, e, a1, a2, a3, b⟩, k, k2, k3, k4⟩ := h
  exact ⟨⟨u, q, dx, d2, e, fresh_base st a1, fresh_base st a2, fresh_base st a3, b⟩, fun b o e => k _ _ (st _ _ e), k2.trans e1, k3.trans e2, k4.trans e3⟩
theorem stays_one {h g h' : Heap} {L a : Addr} {m : Str → Option Value} {o : Obj} (F : Fr g L h' m) (x : h'.get? a = some o) (y : h.get? a = some o) (k : ∀ b, b ≠ a → ∀ o, h.get? b = some o → g.get? b = some o) : h.StaysIn h' := by
  intro b o' e
  by_cases q : b = a
  · subst q; rw [y] at e; rw [x, e]
  · exact F.keep _ _ (k b q _ e)
section
variable {w : World} {hdl : Option Value} {s : Shared} {mg mb : Str → Option Value} {q : Addr} {us pw ho po db : Value}
theorem law_bare_c {x : Str} {t : Tok} {a : Addr} {o : Obj} {kvs : List (Str × Value)} {bs : Heap} (X : (heap w.params).In bs) (T : TR mg mb bs) (hb : bs.StaysIn s.heap) (ha : s.heap.get? a = some o) (hba : bs.get? a = none) (hla : (a == sysModules) = false) (hd : o.IsDictOf (strKind Mine.pw w) kvs)
    (h1 : Sv (gv kvs "username")) (h2 : Sv (gv kvs "host")) (h3 : Iv (gv kvs "port")) (h4 : Sv (gv kvs "database")) :
    codeAny (model Mine.pw w) (AD hdl 335 80) (.call (.ref 510) ⟨[.ref a, .str x t], []⟩) (CreatePost (.str x t) (gv kvs "username") (gv kvs "password") (gv kvs "host") (gv kvs "port") (gv kvs "database") s) s := by
  w_on
  have dummy : heap = heap ∧ PySem.Challenge.rw_bq5036_01 = PySem.Challenge.rw_bq5036_01 := by
    k_fill
    exact ⟨rfl, rfl⟩
  clear dummy
  refine enter X T hb (by k_is) (by k_is) (binds := [("told", .ref a), ("name", .str x t)]) (by first | exact BindsTo.of_eq rfl | exact binds_K X rfl (by k_is) rfl rfl rfl) (locs rfl) [(a, o)] (List.forall_mem_cons.mpr ⟨⟨ha, hba⟩, List.forall_mem_nil _⟩) ?_
  intro g L h₁ F N kb Xg Tg kg
  try dsimp only
  k_steps
  rename Fr _ _ _ _ => F'
  rename News _ _ _ [_, _] => N'
  have st := stays_one F' (N' _ (.tail _ (.head _))).1 ha (fun b e o z => kg b o (by simpa using e) z)
  refine call_meth N' (.head _) (wideDC (d := 340) (u := 100) (Nat.le_of_ble_eq_true (by with_unfolding_all rfl)) (Nat.le_of_ble_eq_true (by with_unfolding_all rfl)) (codeAny_mono (create_c h1 h2 h3 h4 (Frag.In.keeps Xg (Fr.keep F')) (TopRead.keeps Tg (Fr.keep F'))) fun r s' z => ?_))
  have z := z.since (s := s) st rfl rfl rfl
  obtain ⟨⟨u, q, dx, d2, rfl, y⟩, k⟩ := z
  exact ⟨⟨u, q, dx, d2, rfl, y⟩, k⟩
end
end Mine
end
section
open PySem PySem.W PySem.W.X PyProof.Rows PySem.Calls
set_option Elab.async false
set_option maxRecDepth 100000
set_option maxHeartbeats 4000000
set_option pp.deepTerms false
set_option pp.maxSteps 2000
namespace Mine
theorem canon_tga : Manifest.canonical "tuple.__getattribute__" = "object.__getattribute__" := by decide +kernel
section
variable {w : World} {A : Around} {E : Value → Shared → Prop} {s : Shared} {u q f : Addr} {dn us pw ho po db : Value} {h₀ : Heap} {L : Addr} {m : Str → Option Value} {news : List (Addr × Obj)}
theorem meth_url {name : Str} {pl : Sem Bool} {Q : Value × List Value → Shared → Prop} (X : (heap w.params).In s.heap) (U : UrlAt s.heap u dn us pw ho po db q)
    (g3 : findIn (heap w.params) (.ref 484) name = some (some (.ref f))) (g4 : typeIn (heap w.params) (.ref f) = some (.type "function")) (h : Q (.ref f, [.ref u]) s) : wpAny (model Mine.pw w) A (getMethod (.ref u) name pl) Q E s := by
  w_on
  have dummy : heap = heap ∧ PySem.Challenge.rw_bq5036_01 = PySem.Challenge.rw_bq5036_01 := by
    k_fill
    exact ⟨rfl, rfl⟩
  clear dummy
  obtain ⟨dx, d2, ho, hx, hq⟩ := U
  have g1 : findIn (heap w.params) (.ref 484) "__getattribute__" = some (some (.builtin "tuple.__getattribute__")) := by k_is
  have g2 : findIn (heap w.params) (.ref 484) "__getattr__" = some none := by k_is
  have L0 : Looks (model Mine.pw w) s.heap (typeOf (.ref u)) (.ref 484) := (Looks.ld ho).andThen .now
  have L1 := looks_findIn (M := model Mine.pw w) X g1
  have L2 := looks_findIn (M := model Mine.pw w) X g2
  have L3 := looks_findIn (M := model Mine.pw w) X g3
  have L4 := looks_typeIn (M := model Mine.pw w) X g4
  obtain ⟨hh, g, dr, tk, os⟩ := s
  unfold getMethod
  refine wpAny_bind ?_
  unfold specialOf
  refine wpAny_bind (L0.at (L1.at ?_))
  dsimp only
  rw [canon_tga]
  rw [if_neg (by decide)]
  refine wpAny_bind (wpAny_bind (L0.at (L2.at ?_)))
  dsimp only [Option.isSome]
  rw [if_neg (by decide)]
  refine wpAny_bind (wpAny_bind (L0.at (L3.at ?_)))
  dsimp only
  refine wpAny_bind (L4.at ?_)
  rw [if_neg (by decide)]
  refine wpAny_bind (wpAny_loadPart ho ?_)
  dsimp only
  have hn : (⟨hh, g, dr, tk, os⟩ : Shared).heap.Ns dx (fun _ => none) := ⟨_, #[], 0, hx, rfl, by intro e he; simp at he, fun _ => rfl⟩
  refine wpAny_bind (wpAny_nsGet hn ?_)
  dsimp only [Option.isSome]
  rw [if_neg (by decide)]
  exact wpAny_bind (wpAny_rule (wpAny_pure h))
theorem meth_trn {pl : Sem Bool} {Q : Value × List Value → Shared → Prop} (X : (heap w.params).In s.heap) (U : UrlAt s.heap u dn us pw ho po db q) (h : Q (.ref 481, [.ref u]) s) : wpAny (model Mine.pw w) A (getMethod (.ref u) (Str.ofString "translate_connect_args") pl) Q E s := by
  w_on
  have dummy : heap = heap ∧ PySem.Challenge.rw_bq5036_01 = PySem.Challenge.rw_bq5036_01 := by
    k_fill
    exact ⟨rfl, rfl⟩
  clear dummy
  exact meth_url X U (by k_is) (by k_is) h
theorem meth_gbn {pl : Sem Bool} {Q : Value × List Value → Shared → Prop} (X : (heap w.params).In s.heap) (U : UrlAt s.heap u dn us pw ho po db q) (h : Q (.ref 473, [.ref u]) s) : wpAny (model Mine.pw w) A (getMethod (.ref u) (Str.ofString "get_backend_name") pl) Q E s := by
  w_on
  have dummy : heap = heap ∧ PySem.Challenge.rw_bq5036_01 = PySem.Challenge.rw_bq5036_01 := by
    k_fill
    exact ⟨rfl, rfl⟩
  clear dummy
  exact meth_url X U (by k_is) (by k_is) h
end
end Mine
local macro_rules | `(tactic| walk_at "getAttr ref") => `(tactic| (refine Mine.get_drivername (Nat.le_of_ble_eq_true (by with_unfolding_all rfl)) (Nat.le_of_ble_eq_true (by with_unfolding_all rfl)) (by assumption) (by assumption) (by assumption) (by assumption) (Mine.UrlAt.keeps ‹_› (Fr.keep ‹_›)) (by rfl) ?_; (intro h' t' F' N' k'; k_sweep)))
namespace Mine
section
variable {w : World} {hdl : Option Value} {s : Shared} {mg mb : Str → Option Value} {u q : Addr} {us pw ho po db : Value}
def GbnPost (s : Shared) (r : Result) (s' : Shared) : Prop := (∃ t, r = .ok (.ret (.str (Str.ofString "pg") t))) ∧ Kp s s'
theorem gbn_c {t : Tok} (X : (heap w.params).In s.heap) (T : TR mg mb s.heap) (U : UrlAt s.heap u (.str (Str.ofString "pg+x") t) us pw ho po db q) :
    codeAny (model Mine.pw w) (AD hdl 340 100) (.call (.ref 473) ⟨[.ref u], []⟩) (GbnPost s) s := by
  w_on
  have dummy : heap = heap ∧ PySem.Challenge.rw_bq5036_01 = PySem.Challenge.rw_bq5036_01 := by
    k_fill
    exact ⟨rfl, rfl⟩
  clear dummy
  refine enter X T (fun _ _ e => e) (by k_is) (by k_is) (binds := [("self", .ref u)]) (by first | exact BindsTo.of_eq rfl | exact binds_K X rfl (by k_is) rfl rfl rfl) (locs rfl) [] (List.forall_mem_nil _) ?_
  intro g L h₁ F N kb Xg Tg kg
  replace U := U.keeps kb
  try dsimp only
  k_steps
  · exact absurd (by assumption) (show ¬ ((Builtin.Str.occurrences (Str.ofString "pg+x") (Str.ofString "+") 0 (Str.ofString "pg+x").length 1).isEmpty = true) by decide +kernel)
  · rename Fr _ _ _ _ => F'
    exact ⟨⟨_, rfl⟩, fun b o e => F'.keep b o (kb b o e), rfl, rfl, rfl⟩
end
end Mine
end
section
open PySem PySem.W PySem.W.X PyProof.Rows PySem.Calls
set_option Elab.async false
set_option maxRecDepth 100000
set_option maxHeartbeats 4000000
set_option pp.deepTerms false
set_option pp.maxSteps 2000
local macro_rules | `(tactic| x_close) => `(tactic| first | exact ⟨by kernel_rfl, Mine.kp_mem (by assumption)⟩ | exact ⟨by kernel_rfl, fun _ _ e => e, rfl, rfl, rfl⟩)
namespace Mine
section
variable {prog : Program} {w : World} {A : Around} {E : Value → Shared → Prop} {s : Shared}
theorem eq_pv {a b : Value} {Q : Value → Shared → Prop} (ha : Pv a) (hb : Pv b) (e : er a = er b) (h : ∀ k, Q (.bool true) { s with toks := k }) : wpAny (model prog w) A (compareOp .Eq a b) Q E s := by
  cases ha with
  | none =>
    cases hb with
    | none => exact EqNone.eq_none_none (h s.toks)
    | _ => cases e
  | str x t hx =>
    cases hb with
    | str y u hy =>
      cases e
      refine PyProof.Rows.eq_str ?_
      simpa using h s.toks
    | _ => cases e
  | int x t hx =>
    cases hb with
    | int y u hy =>
      cases e
      refine PyProof.Rows.eq_int ?_
      simpa using h s.toks
    | _ => cases e
end
section
variable {w : World} {hdl : Option Value} {s : Shared} {q1 q2 d1 d2 : Addr}
theorem eq_q (X : (Mine.heap w.params).In s.heap) (h1 : s.heap.get? q1 = some ⟨.ref 171, some d1, .dict #[] 0, #[]⟩) (h2 : s.heap.get? q2 = some ⟨.ref 171, some d2, .dict #[] 0, #[]⟩) :
    wpAny (model Mine.pw w) (AR hdl) (PySem.call (.builtin "dict.__eq__") [.ref q1, .ref q2]) (fun v s' => v = .bool true ∧ Kp s s') (fun _ _ => False) s := by
  x_run
end
end Mine
end
section
open PySem PySem.W PySem.W.X PyProof.Rows PySem.Calls
set_option Elab.async false
set_option maxRecDepth 100000
set_option maxHeartbeats 4000000
set_option pp.deepTerms false
set_option pp.maxSteps 2000
namespace Mine
section
variable {w : World} {A : Around} {E : Value → Shared → Prop} {s : Shared} {q1 q2 d1 d2 : Addr} {mg mb : Str → Option Value}
theorem eq_query {Q : Value → Shared → Prop} (hd : A.depth ≤ 359) (hu : A.units ≤ 190) (X : (Mine.heap w.params).In s.heap) (h1 : s.heap.get? q1 = some ⟨.ref 171, some d1, .dict #[] 0, #[]⟩) (h2 : s.heap.get? q2 = some ⟨.ref 171, some d2, .dict #[] 0, #[]⟩)
    (h : ∀ s', Kp s s' → Q (.bool true) s') : wpAny (model Mine.pw w) A (compareOp .Eq (.ref q1) (.ref q2)) Q E s := by
  w_on
  have dummy : heap = heap ∧ PySem.Challenge.rw_bq5036_01 = PySem.Challenge.rw_bq5036_01 := by
    k_fill
    exact ⟨rfl, rfl⟩
  clear dummy
  have hs : findIn (heap w.params) (.ref 171) "__eq__" = some (some (.builtin "dict.__eq__")) := by k_is
  have t1 : Looks (model Mine.pw w) s.heap (typeOf (.ref q1)) (.ref 171) := (Looks.ld h1).andThen .now
  have t2 : Looks (model Mine.pw w) s.heap (typeOf (.ref q2)) (.ref 171) := (Looks.ld h2).andThen .now
  have L1 := looks_findIn (M := model Mine.pw w) X hs
  have bnd : bindSpecial (.builtin "dict.__eq__") (.ref q1) = pure (.builtin "dict.__eq__", [.ref q1]) := PySem.F.slot_dict_eq.bind (.ref q1)
  have one : wpAny (model Mine.pw w) A (tryCompare (.ref q1) "__eq__" (.ref q2)) (fun r s' => r = some (.bool true) ∧ Kp s s') E s := by
    unfold tryCompare
    refine wpAny_bind ?_
    simp only [callSpecialIfBound?, bindSpecialIfBound?]
    refine wpAny_holding (wpAny_bind (wpAny_bind (wpAny_bind (t1.here ((L1).here ?_)))))
    refine wpAny_bind (wpAny_askSetting (wpAny_ite ?_))
    have fin : wpAny (model Mine.pw w) A (call (.builtin "dict.__eq__") ([.ref q1] ++ [.ref q2]) >>= fun v => pure (some v)) (fun a s' => wpAny (model Mine.pw w) A (match a with | some .notImplemented | none => pure none | some v => pure (some v)) (fun r s' => r = some (.bool true) ∧ Kp s s') E s') E s := by
      refine wpAny_bind (wideD (d := 360) (u := 200) (by omega) (by omega) (wpAny_mono (eq_q X h1 h2) (fun v s' z => ?_) (fun _ _ z => z.elim)))
      obtain ⟨rfl, k⟩ := z
      exact wpAny_pure (wpAny_pure ⟨rfl, k⟩)
    split
    · rw [bnd]; exact wpAny_bind (wpAny_pure (wpAny_pure (by exact fin)))
    · rw [bnd]; exact wpAny_tryCatch (wpAny_bind (wpAny_pure (wpAny_pure (by exact fin))))
  show wpAny _ _ (richCompare .Eq (.ref q1) (.ref q2)) _ _ _
  unfold richCompare
  simp only [oneThing_ref]
  refine wpAny_holding (wpAny_bind (wpAny_cRoomFor (Nat.lt_of_le_of_lt hu (by decide)) ?_))
  refine wpAny_bind (t1.here (wpAny_bind (t2.here ?_)))
  rw [if_neg (by simp)]
  refine wpAny_bind (wpAny_pure ?_)
  simp only [Bool.false_eq_true, if_false]
  refine wpAny_bind (wpAny_mono one (fun r s' z => ?_) fun _ _ e => e)
  obtain ⟨rfl, hq⟩ := z
  exact wpAny_pure (h _ hq)
end
end Mine
local macro_rules | `(tactic| x_close) => `(tactic| first | exact ⟨by kernel_rfl, Mine.kp_mem (by assumption)⟩ | exact ⟨by kernel_rfl, fun _ _ e => e, rfl, rfl, rfl⟩)
namespace Mine
theorem isin {w : World} {hdl : Option Value} {s : Shared} {u dx q : Addr} {dn us pw ho po db : Value} (X : (Mine.heap w.params).In s.heap) (hu : s.heap.get? u = some ⟨.ref 484, some dx, .seq #[dn, us, pw, ho, po, db, .ref q] 0, #[]⟩) :
    wpAny (model Mine.pw w) (AR hdl) (PySem.call (.builtin "isinstance") [.ref u, .ref 484]) (fun v s' => v = .bool true ∧ Kp s s') (fun _ _ => False) s := by
  x_run
theorem UrlAt.obj {h : Heap} {u q : Addr} {dn us pw ho po db : Value} (U : UrlAt h u dn us pw ho po db q) : ∃ dx, h.get? u = some ⟨.ref 484, some dx, .seq #[dn, us, pw, ho, po, db, .ref q] 0, #[]⟩ := by
  obtain ⟨dx, d2, a, b, c⟩ := U
  exact ⟨dx, a⟩
theorem UrlAt.que {h : Heap} {u q : Addr} {dn us pw ho po db : Value} (U : UrlAt h u dn us pw ho po db q) : ∃ d2, h.get? q = some ⟨.ref 171, some d2, .dict #[] 0, #[]⟩ := by
  obtain ⟨dx, d2, a, b, c⟩ := U
  exact ⟨d2, c⟩
theorem isin_U {w : World} {A : Around} {E : Value → Shared → Prop} {Q : Value → Shared → Prop} {s : Shared} {u q L : Addr} {dn us pw ho po db : Value} {h₀ : Heap} {m : Str → Option Value} {news : List (Addr × Obj)} (hd : A.depth ≤ 360) (hu : A.units ≤ 200) (F : Fr h₀ L s.heap m) (N : News h₀ L s.heap news) (X : (Mine.heap w.params).In h₀) (U : UrlAt s.heap u dn us pw ho po db q)
    (h : ∀ h' t', Fr h₀ L h' m → News h₀ L h' news → s.heap.StaysIn h' → Q (.bool true) { s with heap := h', toks := t' }) : wpAny (model Mine.pw w) A (PySem.call (.builtin "isinstance") [.ref u, .ref 484]) Q E s := by
  obtain ⟨dx, ho⟩ := U.obj
  refine use_kpD (d := 360) (u := 200) hd hu F N (P := fun v _ => v = .bool true) (isin (X.keeps F.keep) ho) fun v h' t' e F' N' k => ?_
  subst e
  exact h h' t' F' N' k
theorem eq_query_U {w : World} {A : Around} {E : Value → Shared → Prop} {Q : Value → Shared → Prop} {s : Shared} {q1 q2 L : Addr} {h₀ : Heap} {m : Str → Option Value} {news : List (Addr × Obj)} (hd : A.depth ≤ 359) (hu : A.units ≤ 190) (F : Fr h₀ L s.heap m) (N : News h₀ L s.heap news) (X : (Mine.heap w.params).In h₀)
    (U1 : ∃ d, s.heap.get? q1 = some ⟨.ref 171, some d, .dict #[] 0, #[]⟩) (U2 : ∃ d, s.heap.get? q2 = some ⟨.ref 171, some d, .dict #[] 0, #[]⟩)
    (h : ∀ h' t', Fr h₀ L h' m → News h₀ L h' news → s.heap.StaysIn h' → Q (.bool true) { s with heap := h', toks := t' }) : wpAny (model Mine.pw w) A (compareOp .Eq (.ref q1) (.ref q2)) Q E s := by
  obtain ⟨d1, a⟩ := U1
  obtain ⟨d2, b⟩ := U2
  refine eq_query hd hu (X.keeps F.keep) a b fun s' k => ?_
  obtain ⟨hh, g, dr, tk, os⟩ := s'
  obtain ⟨k1, rfl, rfl, rfl⟩ := k
  exact h hh tk (fr_stays F k1) (news_stays N k1) k1
def TruePost (s : Shared) (r : Result) (s' : Shared) : Prop := r = .ok (.ret (.bool true)) ∧ Kp s s'
end Mine
local macro_rules | `(tactic| walk_at "getAttr ref") => `(tactic| ((first
  | ((with_reducible show wpAny _ _ (getAttr _ (Str.ofString "drivername") _) _ _ _); refine Mine.get_drivername (Nat.le_of_ble_eq_true (by with_unfolding_all rfl)) (Nat.le_of_ble_eq_true (by with_unfolding_all rfl)) (by assumption) (by assumption) (by assumption) (by assumption) (Mine.UrlAt.keeps ‹_› (Fr.keep ‹_›)) (by first | rfl | exact Mine.Pv.handed (by assumption)) ?_)
  | ((with_reducible show wpAny _ _ (getAttr _ (Str.ofString "username") _) _ _ _); refine Mine.get_username (Nat.le_of_ble_eq_true (by with_unfolding_all rfl)) (Nat.le_of_ble_eq_true (by with_unfolding_all rfl)) (by assumption) (by assumption) (by assumption) (by assumption) (Mine.UrlAt.keeps ‹_› (Fr.keep ‹_›)) (by first | rfl | exact Mine.Pv.handed (by assumption)) ?_)
  | ((with_reducible show wpAny _ _ (getAttr _ (Str.ofString "password") _) _ _ _); refine Mine.get_password (Nat.le_of_ble_eq_true (by with_unfolding_all rfl)) (Nat.le_of_ble_eq_true (by with_unfolding_all rfl)) (by assumption) (by assumption) (by assumption) (by assumption) (Mine.UrlAt.keeps ‹_› (Fr.keep ‹_›)) (by first | rfl | exact Mine.Pv.handed (by assumption)) ?_)
  | ((with_reducible show wpAny _ _ (getAttr _ (Str.ofString "host") _) _ _ _); refine Mine.get_host (Nat.le_of_ble_eq_true (by with_unfolding_all rfl)) (Nat.le_of_ble_eq_true (by with_unfolding_all rfl)) (by assumption) (by assumption) (by assumption) (by assumption) (Mine.UrlAt.keeps ‹_› (Fr.keep ‹_›)) (by first | rfl | exact Mine.Pv.handed (by assumption)) ?_)
  | ((with_reducible show wpAny _ _ (getAttr _ (Str.ofString "port") _) _ _ _); refine Mine.get_port (Nat.le_of_ble_eq_true (by with_unfolding_all rfl)) (Nat.le_of_ble_eq_true (by with_unfolding_all rfl)) (by assumption) (by assumption) (by assumption) (by assumption) (Mine.UrlAt.keeps ‹_› (Fr.keep ‹_›)) (by first | rfl | exact Mine.Pv.handed (by assumption)) ?_)
  | ((with_reducible show wpAny _ _ (getAttr _ (Str.ofString "database") _) _ _ _); refine Mine.get_database (Nat.le_of_ble_eq_true (by with_unfolding_all rfl)) (Nat.le_of_ble_eq_true (by with_unfolding_all rfl)) (by assumption) (by assumption) (by assumption) (by assumption) (Mine.UrlAt.keeps ‹_› (Fr.keep ‹_›)) (by first | rfl | exact Mine.Pv.handed (by assumption)) ?_)
  | ((with_reducible show wpAny _ _ (getAttr _ (Str.ofString "query") _) _ _ _); refine Mine.get_query (Nat.le_of_ble_eq_true (by with_unfolding_all rfl)) (Nat.le_of_ble_eq_true (by with_unfolding_all rfl)) (by assumption) (by assumption) (by assumption) (by assumption) (Mine.UrlAt.keeps ‹_› (Fr.keep ‹_›)) ?_)); (intro h' t' F' N' k'; k_sweep)))
local macro_rules | `(tactic| walk_at "call builtin:isinstance") => `(tactic| (refine Mine.isin_U (Nat.le_of_ble_eq_true (by with_unfolding_all rfl)) (Nat.le_of_ble_eq_true (by with_unfolding_all rfl)) (by assumption) (by assumption) (by assumption) (Mine.UrlAt.keeps ‹_› (Fr.keep ‹_›)) ?_; (intro h' t' F' N' k'; k_sweep)))
local macro_rules | `(tactic| walk_at "compareOp Eq ref ref") => `(tactic| (refine Mine.eq_query_U (Nat.le_of_ble_eq_true (by with_unfolding_all rfl)) (Nat.le_of_ble_eq_true (by with_unfolding_all rfl)) (by assumption) (by assumption) (by assumption) (Mine.UrlAt.que (Mine.UrlAt.keeps ‹_› (Fr.keep ‹_›))) (Mine.UrlAt.que (Mine.UrlAt.keeps ‹_› (Fr.keep ‹_›))) ?_; (intro h' t' F' N' k'; k_sweep)))
local macro_rules | `(tactic| walk_at "compareOp Eq") => `(tactic| (refine Mine.eq_pv (by assumption) (by assumption) (by assumption) ?_; intro tk'))
namespace Mine
section
variable {w : World} {hdl : Option Value} {s : Shared} {mg mb : Str → Option Value} {u1 u2 q1 q2 : Addr} {dn us pw ho po db dn' us' pw' ho' po' db' : Value}
theorem eq_c (X : (heap w.params).In s.heap) (T : TR mg mb s.heap) (U1 : UrlAt s.heap u1 dn us pw ho po db q1) (U2 : UrlAt s.heap u2 dn' us' pw' ho' po' db' q2)
    (p0 : Pv dn) (p0' : Pv dn') (p1 : Pv us) (p1' : Pv us') (p2 : Pv pw) (p2' : Pv pw') (p3 : Pv ho) (p3' : Pv ho') (p4 : Pv po) (p4' : Pv po') (p5 : Pv db) (p5' : Pv db')
    (e0 : er dn = er dn') (e1 : er us = er us') (e2 : er pw = er pw') (e3 : er ho = er ho') (e4 : er po = er po') (e5 : er db = er db') :
    codeAny (model Mine.pw w) (AD hdl 342 110) (.call (.ref 459) ⟨[.ref u1, .ref u2], []⟩) (TruePost s) s := by
  w_on
  have dummy : heap = heap ∧ PySem.Challenge.rw_bq5036_01 = PySem.Challenge.rw_bq5036_01 := by
    k_fill
    exact ⟨rfl, rfl⟩
  clear dummy
  refine enter X T (fun _ _ e => e) (by k_is) (by k_is) (binds := [("self", .ref u1), ("other", .ref u2)]) (by first | exact BindsTo.of_eq rfl | exact binds_K X rfl (by k_is) rfl rfl rfl) (locs rfl) [] (List.forall_mem_nil _) ?_
  intro g L h₁ F N kb Xg Tg kg
  replace U1 := U1.keeps kb
  replace U2 := U2.keeps kb
  try dsimp only
  k_steps
  rename Fr _ _ _ _ => F'
  exact ⟨rfl, fun b o e => F'.keep b o (kb b o e), rfl, rfl, rfl⟩
end
end Mine
namespace Mine
section
variable {w : World} {hdl : Option Value} {s : Shared} {mg mb : Str → Option Value} {u1 u2 q1 q2 : Addr} {dn us pw ho po db dn' us' pw' ho' po' db' : Value}
def FalsePost (s : Shared) (r : Result) (s' : Shared) : Prop := r = .ok (.ret (.bool false)) ∧ Kp s s'
/-- == of two addresses -/
theorem cmp_eqU {A : Around} {E : Value → Shared → Prop} {Q : Value → Shared → Prop} {L : Addr} {h₀ : Heap} {m : Str → Option Value} {news : List (Addr × Obj)} (hd : A.depth ≤ 342) (hu : A.units ≤ 109) (F : Fr h₀ L s.heap m) (N : News h₀ L s.heap news) (X : (heap w.params).In h₀) (T : TR mg mb h₀) (U1 : UrlAt s.heap u1 dn us pw ho po db q1) (U2 : UrlAt s.heap u2 dn' us' pw' ho' po' db' q2)
    (p0 : Pv dn) (p0' : Pv dn') (p1 : Pv us) (p1' : Pv us') (p2 : Pv pw) (p2' : Pv pw') (p3 : Pv ho) (p3' : Pv ho') (p4 : Pv po) (p4' : Pv po') (p5 : Pv db) (p5' : Pv db')
    (e0 : er dn = er dn') (e1 : er us = er us') (e2 : er pw = er pw') (e3 : er ho = er ho') (e4 : er po = er po') (e5 : er db = er db')
    (h : ∀ h' t', Fr h₀ L h' m → News h₀ L h' news → s.heap.StaysIn h' → Q (.bool true) { s with heap := h', toks := t' }) : wpAny (model Mine.pw w) A (compareOp .Eq (.ref u1) (.ref u2)) Q E s := by
  w_on
  have dummy : heap = heap ∧ PySem.Challenge.rw_bq5036_01 = PySem.Challenge.rw_bq5036_01 := by
    k_fill
    exact ⟨rfl, rfl⟩
  clear dummy
  obtain ⟨dx, d2, a, b, c⟩ := id U1
  obtain ⟨dx', d2', a', b', c'⟩ := id U2
  have I : InstAt s.heap u1 ⟨.ref 484, some dx, .seq #[dn, us, pw, ho, po, db, .ref q1] 0, #[]⟩ 484 (some ⟨.type "dict", none, .dict #[] 0, #[]⟩) := ⟨a, rfl, rfl, b⟩
  have t2 : Looks (model Mine.pw w) s.heap (typeOf (.ref u2)) (.ref 484) := (Looks.ld a').andThen .now
  have hs : findIn (heap w.params) (.ref 484) "__eq__" = some (some (.ref 459)) := by k_is
  have hf : isFn (heap w.params) (.ref 459) = true := by k_is
  have hn : notFirst (heap w.params) 484 (.ref 484) = true := by k_is
  refine cmp_ofEq (cmp_K (Nat.lt_of_le_of_lt hu (by decide)) F X I t2 hn hs hf (wpAny_call (wideDC (d := 342) (u := 110) hd (Nat.le_succ_of_le hu) (codeAny_mono (eq_c (X.keeps F.keep) (T.keeps F.keep) U1 U2 p0 p0' p1 p1' p2 p2' p3 p3' p4 p4' p5 p5' e0 e1 e2 e3 e4 e5) fun r s' z => ?_))))
  obtain ⟨rfl, k⟩ := z
  obtain ⟨hh, g, dr, tk, os⟩ := s'
  obtain ⟨k1, rfl, rfl, rfl⟩ := k
  exact h hh tk (fr_stays F k1) (news_stays N k1) k1
end
end Mine
local macro_rules | `(tactic| walk_at "compareOp Eq ref ref") => `(tactic| (refine Mine.cmp_eqU (Nat.le_of_ble_eq_true (by with_unfolding_all rfl)) (Nat.le_of_ble_eq_true (by with_unfolding_all rfl)) (by assumption) (by assumption) (by assumption) (by assumption) (Mine.UrlAt.keeps ‹_› (Fr.keep ‹_›)) (Mine.UrlAt.keeps ‹_› (Fr.keep ‹_›)) (by assumption) (by assumption) (by assumption) (by assumption) (by assumption) (by assumption) (by assumption) (by assumption) (by assumption) (by assumption) (by assumption) (by assumption) (by assumption) (by assumption) (by assumption) (by assumption) (by assumption) (by assumption) ?_; (intro h' t' F' N' k'; k_sweep)))
namespace Mine
section
variable {w : World} {hdl : Option Value} {s : Shared} {mg mb : Str → Option Value} {u1 u2 q1 q2 : Addr} {dn us pw ho po db dn' us' pw' ho' po' db' : Value}
theorem ne_c (X : (heap w.params).In s.heap) (T : TR mg mb s.heap) (U1 : UrlAt s.heap u1 dn us pw ho po db q1) (U2 : UrlAt s.heap u2 dn' us' pw' ho' po' db' q2)
    (p0 : Pv dn) (p0' : Pv dn') (p1 : Pv us) (p1' : Pv us') (p2 : Pv pw) (p2' : Pv pw') (p3 : Pv ho) (p3' : Pv ho') (p4 : Pv po) (p4' : Pv po') (p5 : Pv db) (p5' : Pv db')
    (e0 : er dn = er dn') (e1 : er us = er us') (e2 : er pw = er pw') (e3 : er ho = er ho') (e4 : er po = er po') (e5 : er db = er db') :
    codeAny (model Mine.pw w) (AD hdl 340 100) (.call (.ref 466) ⟨[.ref u1, .ref u2], []⟩) (FalsePost s) s := by
  w_on
  have dummy : heap = heap ∧ PySem.Challenge.rw_bq5036_01 = PySem.Challenge.rw_bq5036_01 := by
    k_fill
    exact ⟨rfl, rfl⟩
  clear dummy
  refine enter X T (fun _ _ e => e) (by k_is) (by k_is) (binds := [("self", .ref u1), ("other", .ref u2)]) (by first | exact BindsTo.of_eq rfl | exact binds_K X rfl (by k_is) rfl rfl rfl) (locs rfl) [] (List.forall_mem_nil _) ?_
  intro g L h₁ F N kb Xg Tg kg
  replace U1 := U1.keeps kb
  replace U2 := U2.keeps kb
  try dsimp only
  k_steps
  rename Fr _ _ _ _ => F'
  exact ⟨rfl, fun b o e => F'.keep b o (kb b o e), rfl, rfl, rfl⟩
/-- != of two addresses that are alike -/
theorem cmp_neU {A : Around} {E : Value → Shared → Prop} {Q : Value → Shared → Prop} {L : Addr} {h₀ : Heap} {m : Str → Option Value} {news : List (Addr × Obj)} (hd : A.depth ≤ 340) (hu : A.units ≤ 99) (F : Fr h₀ L s.heap m) (N : News h₀ L s.heap news) (X : (heap w.params).In h₀) (T : TR mg mb h₀) (U1 : UrlAt s.heap u1 dn us pw ho po db q1) (U2 : UrlAt s.heap u2 dn' us' pw' ho' po' db' q2)
    (p0 : Pv dn) (p0' : Pv dn') (p1 : Pv us) (p1' : Pv us') (p2 : Pv pw) (p2' : Pv pw') (p3 : Pv ho) (p3' : Pv ho') (p4 : Pv po) (p4' : Pv po') (p5 : Pv db) (p5' : Pv db')
    (e0 : er dn = er dn') (e1 : er us = er us') (e2 : er pw = er pw') (e3 : er ho = er ho') (e4 : er po = er po') (e5 : er db = er db')
    (h : ∀ h' t', Fr h₀ L h' m → News h₀ L h' news → s.heap.StaysIn h' → Q (.bool false) { s with heap := h', toks := t' }) : wpAny (model Mine.pw w) A (compareOp .NotEq (.ref u1) (.ref u2)) Q E s := by
  w_on
  have dummy : heap = heap ∧ PySem.Challenge.rw_bq5036_01 = PySem.Challenge.rw_bq5036_01 := by
    k_fill
    exact ⟨rfl, rfl⟩
  clear dummy
  obtain ⟨dx, d2, a, b, c⟩ := id U1
  obtain ⟨dx', d2', a', b', c'⟩ := id U2
  have I : InstAt s.heap u1 ⟨.ref 484, some dx, .seq #[dn, us, pw, ho, po, db, .ref q1] 0, #[]⟩ 484 (some ⟨.type "dict", none, .dict #[] 0, #[]⟩) := ⟨a, rfl, rfl, b⟩
  have t2 : Looks (model Mine.pw w) s.heap (typeOf (.ref u2)) (.ref 484) := (Looks.ld a').andThen .now
  have hs : findIn (heap w.params) (.ref 484) "__ne__" = some (some (.ref 466)) := by k_is
  have hf : isFn (heap w.params) (.ref 466) = true := by k_is
  have hn : notFirst (heap w.params) 484 (.ref 484) = true := by k_is
  refine cmp_ofNotEq (cmp_K (Nat.lt_of_le_of_lt hu (by decide)) F X I t2 hn hs hf (wpAny_call (wideDC (d := 340) (u := 100) hd (Nat.le_succ_of_le hu) (codeAny_mono (ne_c (X.keeps F.keep) (T.keeps F.keep) U1 U2 p0 p0' p1 p1' p2 p2' p3 p3' p4 p4' p5 p5' e0 e1 e2 e3 e4 e5) fun r s' z => ?_))))
  obtain ⟨rfl, k⟩ := z
  obtain ⟨hh, g, dr, tk, os⟩ := s'
  obtain ⟨k1, rfl, rfl, rfl⟩ := k
  exact h hh tk (fr_stays F k1) (news_stays N k1) k1
end
end Mine
end
section
open PySem PySem.W PySem.W.X PyProof.Rows PySem.Calls
set_option Elab.async false
set_option maxRecDepth 100000
set_option maxHeartbeats 4000000
set_option pp.deepTerms false
set_option pp.maxSteps 3000
namespace Mine
section
variable {prog : Program} {w : World} {A : Around} {E : Value → Shared → Prop} {s : Shared} {env : Env} {h₀ : Heap} {x : Str} {body : List Stmt} {Q : Flow → Shared → Prop}
/-- turns over a range, with an invariant -/
theorem rest_of_range {I : Addr} {n : Nat} (P : Nat → (Str → Option Value) → List (Addr × Obj) → Prop)
    (ht : ∀ i m news it t h tk, i < n → P i m news → it.cls = .type "range_iterator" → Fr h₀ env.locals h (fun y => if y = x then some (.int (i : Int) t) else m y) → News h₀ env.locals h ((I, it) :: news) →
      wpAny (model prog w) A (execs body env) (UnrPost h₀ env.locals { s with heap := h, toks := tk } I it (P (i + 1)) Q) E { s with heap := h, toks := tk })
    (hz : ∀ m news h tk, P n m news → Fr h₀ env.locals h m → News h₀ env.locals h news → Q .next { s with heap := h, toks := tk }) :
    ∀ k i m news, i + k = n → P i m news → RangeRest prog w A E h₀ env x body Q s I 0 n k i m news
  | 0, i, m, news, e, p => fun h tk F N => hz m news h tk (by rw [← e]; exact p) F N
  | k + 1, i, m, news, e, p => fun t h tk F N => by
    rw [Int.zero_add] at F
    exact wpAny_mono (ht i m news _ t h tk (by omega) p rfl F N) (fun f s₂ z => unr_mono (fun m' n' y => rest_of_range P ht hz k (i + 1) m' n' (by omega) y) z) fun _ _ z => z
end
end Mine
namespace Mine
def lawF : List Value := [.str (Str.ofString "host") 909, .str (Str.ofString "database") 910, .str (Str.ofString "username") 911, .str (Str.ofString "password") 912, .str (Str.ofString "port") 913]
def lawT : List Value := [.none, .str (Str.ofString "one") 915, .str (Str.ofString "two") 916, .str (Str.ofString "three") 917, .str (Str.ofString "host") 918, .str (Str.ofString "port") 919, .str (Str.ofString "username") 920]
theorem lawF_list {w : World} {h : Heap} (X : (heap w.params).In h) : h.IsList 495 lawF.toArray := by
  w_on
  have dummy : heap = heap ∧ PySem.Challenge.rw_bq5036_01 = PySem.Challenge.rw_bq5036_01 := by
    k_fill
    exact ⟨rfl, rfl⟩
  clear dummy
  exact ⟨_, X _ _ (by k_is : (heap w.params).lookup 495 = some (tops2.o_800 w.params)), rfl, 0, rfl⟩
theorem lawT_list {w : World} {h : Heap} (X : (heap w.params).In h) : h.IsList 496 lawT.toArray := by
  w_on
  have dummy : heap = heap ∧ PySem.Challenge.rw_bq5036_01 = PySem.Challenge.rw_bq5036_01 := by
    k_fill
    exact ⟨rfl, rfl⟩
  clear dummy
  exact ⟨_, X _ _ (by k_is : (heap w.params).lookup 496 = some (tops2.o_801 w.params)), rfl, 0, rfl⟩
theorem pick_at {ns : List Value} {i : Nat} {tv : Value} {kw : List (Str × Value)} {f : Str} (h : ns[i]? = some tv) : pick ((ns.map er).drop i) kw f = er tv := by
  have h' : (ns.map er)[i]? = some (er tv) := by rw [List.getElem?_map, h]; rfl
  obtain ⟨hi, e⟩ := List.getElem?_eq_some_iff.mp h'
  rw [List.drop_eq_getElem_cons hi, e]
  rfl
theorem pick_off {ns : List Value} {i : Nat} {kw : List (Str × Value)} {f : Str} (h : ¬ i < ns.length) : pick ((ns.map er).drop i) kw f = (valueAt kw f).getD (.str f 0) := by
  rw [List.drop_eq_nil_of_le (by rw [List.length_map]; omega)]
  rfl
theorem er_get {kvs : List (Str × Value)} {f : Str} {t : Tok} : er ((valueAt kvs f).getD (.str f t)) = (valueAt (kvs.map erp) f).getD (.str f 0) := by
  rw [valueAt_erp]
  cases valueAt kvs f <;> rfl
theorem nv_get {kvs : List (Str × Value)} {f : Str} {t : Tok} (h : ∀ p ∈ kvs, Nv p.2) : Nv ((valueAt kvs f).getD (.str f t)) := by
  cases e : valueAt kvs f with
  | none => exact .str f t
  | some v => exact kw_nv h e
/-- a name is picked -/
def TgtPost (g : Heap) (L : Addr) (m : Str → Option Value) (news : List (Addr × Obj)) (nv : Value) (s : Shared) (v : Value) (s' : Shared) : Prop :=
  ∃ h' t', s' = { s with heap := h', toks := t' } ∧ Nv v ∧ er v = nv ∧ Fr g L h' m ∧ News g L h' news
theorem cut_tgt {M : Model} {A : Around} {t : Sem Value} {Q : Value → Shared → Prop} {E : Value → Shared → Prop} {g : Heap} {L : Addr} {m : Str → Option Value} {news : List (Addr × Obj)} {s : Shared} (nv : Value) (_F : Fr g L s.heap m) (_N : News g L s.heap news)
    (h1 : wpAny M A t (TgtPost g L m news nv s) (fun _ _ => False) s) (h2 : ∀ v h' t', Nv v → er v = nv → Fr g L h' m → News g L h' news → Q v { s with heap := h', toks := t' }) : wpAny M A t Q E s := by
  refine wpAny_mono h1 (fun v s2 z => ?_) (fun _ _ z => z.elim)
  obtain ⟨h', t', rfl, a, b, c, d⟩ := z
  exact h2 v h' t' a b c d
theorem TgtPost.in {g h' : Heap} {L : Addr} {m : Str → Option Value} {news : List (Addr × Obj)} {nv v : Value} {s : Shared} {t' : Nat} (a : Nv v) (b : er v = nv) (c : Fr g L h' m) (d : News g L h' news) : TgtPost g L m news nv s v ⟨h', s.gens, s.drawn, t', s.os⟩ := ⟨h', t', rfl, a, b, c, d⟩
/-- what holds at the head of a turn of _law_due -/
def DI (w : World) (vl nl rl d : Addr) (vs ns : List Value) (nn : Nat) (oR : Obj) (kw fs all : List (Str × Value)) (k : Nat) (m : Str → Option Value) (news : List (Addr × Obj)) : Prop :=
  ∃ o' kvs, m (Str.ofString "values") = some (.ref vl) ∧ m (Str.ofString "names") = some (.ref nl) ∧ m (Str.ofString "renames") = some (.ref rl) ∧ m (Str.ofString "told") = some (.ref d) ∧
    news = [(d, o'), (vl, W.listOf vs.toArray 0), (nl, W.listOf ns.toArray nn), (rl, oR)] ∧ o'.IsDictOf (PySem.strKind Mine.pw w) kvs ∧ (∀ p ∈ kvs, Pv p.2) ∧ kvs.length ≤ k ∧ told ((ns.map er).drop k) kw (fs.drop k) (kvs.map erp) = all
end Mine
namespace Mine
section
variable {w : World} {vl nl rl d : Addr} {vs ns : List Value} {nn : Nat} {oR o' : Obj} {kw fs all kvs : List (Str × Value)} {i : Nat} {m' : Str → Option Value} {news : List (Addr × Obj)} {f x : Str} {t : Tok} {v v' nv : Value}
theorem DI.same (hd : o'.IsDictOf (PySem.strKind Mine.pw w) kvs) (hp : ∀ p ∈ kvs, Pv p.2) (hkl : kvs.length ≤ i) (hf : fs.drop i = (f, v) :: fs.drop (i + 1)) (hall : told ((ns.map er).drop i) kw (fs.drop i) (kvs.map erp) = all) (hpick : nv = pick ((ns.map er).drop i) kw f) (ht : tell (kvs.map erp) nv v f = kvs.map erp)
    (m1 : m' (Str.ofString "values") = some (.ref vl)) (m2 : m' (Str.ofString "names") = some (.ref nl)) (m3 : m' (Str.ofString "renames") = some (.ref rl)) (m4 : m' (Str.ofString "told") = some (.ref d))
    (hn : news = [(d, o'), (vl, W.listOf vs.toArray 0), (nl, W.listOf ns.toArray nn), (rl, oR)]) : DI w vl nl rl d vs ns nn oR kw fs all (i + 1) m' news := by
  refine ⟨o', kvs, m1, m2, m3, m4, hn, hd, hp, Nat.le_succ_of_le hkl, ?_⟩
  rw [hf] at hall
  unfold told at hall
  rw [← hpick, ht, List.tail_drop] at hall
  exact hall
theorem DI.put (hd : o'.IsDictOf (PySem.strKind Mine.pw w) (stored kvs x v')) (hp : ∀ p ∈ kvs, Pv p.2) (hv : Pv v') (hkl : kvs.length ≤ i) (hf : fs.drop i = (f, v) :: fs.drop (i + 1)) (hall : told ((ns.map er).drop i) kw (fs.drop i) (kvs.map erp) = all) (hpick : er (.str x t) = pick ((ns.map er).drop i) kw f) (htr : tr v = true) (he : er v' = if f = Str.ofString "password" then sv v else er v)
    (m1 : m' (Str.ofString "values") = some (.ref vl)) (m2 : m' (Str.ofString "names") = some (.ref nl)) (m3 : m' (Str.ofString "renames") = some (.ref rl)) (m4 : m' (Str.ofString "told") = some (.ref d))
    (hn : news = [(d, o'), (vl, W.listOf vs.toArray 0), (nl, W.listOf ns.toArray nn), (rl, oR)]) : DI w vl nl rl d vs ns nn oR kw fs all (i + 1) m' news := by
  refine ⟨o', _, m1, m2, m3, m4, hn, hd, stored_all hp hv, Nat.le_trans (stored_length_le _ _ _) (Nat.succ_le_succ hkl), ?_⟩
  rw [hf] at hall
  unfold told at hall
  rw [← hpick, show er (.str x t) = .str x 0 from rfl, tell_yes htr, ← he, ← stored_erp, List.tail_drop] at hall
  exact hall
theorem unr_end {g h' : Heap} {L I : Addr} {it : Obj} {rest : (Str → Option Value) → List (Addr × Obj) → Prop} {s₁ : Shared} {tk : Nat} (F : Fr g L h' m') (N : News g L h' ((I, it) :: news)) (off : ∀ p ∈ news, p.1 ≠ I) (r : rest m' news) : UnrEnd g L s₁ I it rest ⟨h', s₁.gens, s₁.drawn, tk, s₁.os⟩ :=
  UnrEnd.intro F N news (fun p hp => hp) off r
theorem isnot_pv {M : Model} {A : Around} {E : Value → Shared → Prop} {s : Shared} {Q : Value → Shared → Prop} (hb : tr v = true) (h : Q (.bool true) s) : wpAny M A (compareOp .IsNot v .none) Q E s := by
  refine isnot_none_ne ?_ h
  rintro rfl
  cases hb
theorem tr_ne {x : Str} {t : Tok} (h : tr (.str x t) = true) : (x != Str.ofString "") = true := by
  rw [bne_iff_ne]
  rintro rfl
  have h : (((Str.ofString "").length : Int) != 0) = true := h
  exact absurd h (by decide)
theorem tr_empty {x : Str} {t : Tok} (h : tr (.str x t) = false) : x = Str.ofString "" := by
  have : x.length = 0 := by
    unfold tr at h
    simpa using h
  obtain ⟨⟨c⟩⟩ := x
  have : c = [] := by
    simpa [Str.length] using this
  subst this
  rfl
theorem ne_pv_s {w : World} {prog : Program} {A : Around} {E : Value → Shared → Prop} {s : Shared} {Q : Value → Shared → Prop} (hv : Pv v) (hb : tr v = true) (h : Q (.bool true) s) : wpAny (model prog w) A (compareOp .NotEq v (.str (Str.ofString "") t)) Q E s := by
  cases hv with
  | none => cases hb
  | str y u hy =>
    refine PyProof.Rows.ne_str ?_
    rw [tr_ne hb]; exact h
  | int n u hn => exact EqMixed.ne_int_str h
theorem ne_pv_i {w : World} {prog : Program} {A : Around} {E : Value → Shared → Prop} {s : Shared} {Q : Value → Shared → Prop} (hv : Pv v) (hb : tr v = true) (h : Q (.bool true) s) : wpAny (model prog w) A (compareOp .NotEq v (.int 0 t)) Q E s := by
  cases hv with
  | none => cases hb
  | str y u hy => exact EqMixed.ne_str_int h
  | int n u hn =>
    refine PyProof.Rows.ne_int ?_
    have : (n != 0) = true := hb
    rw [this]; exact h
end
end Mine
local macro_rules | `(tactic| walk_at "compareOp IsNot") => `(tactic| (refine Mine.isnot_pv (by assumption) ?_))
local macro_rules | `(tactic| walk_at "compareOp NotEq") => `(tactic| first | (refine Mine.ne_pv_s (by assumption) (by assumption) ?_) | (refine Mine.ne_pv_i (by assumption) (by assumption) ?_))
local macro_rules | `(tactic| walk_at "compareOp NotEq str") => `(tactic| (refine Mine.ne_pv_s (by assumption) (by assumption) ?_))
local macro_rules | `(tactic| walk_at "compareOp NotEq int") => `(tactic| (refine Mine.ne_pv_i (by assumption) (by assumption) ?_))
local macro_rules | `(tactic| walk_at "call type:str") => `(tactic| (refine Mine.str_pv (by assumption) (by assumption) ?_; intro v' tk' hv' he'))
local macro_rules | `(tactic| walk_at "setItem ref str") => `(tactic| (refine kda_set (knd := PySem.strKind _ _) (by with_reducible assumption) (by with_reducible assumption) (by k_updF) (by with_reducible assumption) (strKind_is _ _ _ _) (by rw [sizeLine_eq]; omega) ?_; intro h' o' F' N' hd'; (try dsimp only at N'); k_sweep))
local macro_rules | `(tactic| walk_at "call builtin:len") => `(tactic| (refine len_list (News.isList (by with_reducible assumption) (by k_memK)) (by simp only [List.size_toArray]; omega) ?_))
local macro_rules | `(tactic| walk_at "subscriptTail Name Name ref int") => `(tactic| first
  | (refine item_litK (Mine.lawF_list (Frag.In.keeps ‹Frag.In _ _› (Fr.keep ‹_›))) (Int.natCast_nonneg _) (by omega) (by assumption) ?_ (by with_unfolding_all rfl))
  | (refine item_litK (News.isList (by with_reducible assumption) (by k_memK)) (Int.natCast_nonneg _) (by omega) (by assumption) ?_ (by with_unfolding_all rfl)))
local macro_rules | `(tactic| walk_at "call builtin:dict.get") => `(tactic| (refine kdg_get2 (knd := PySem.strKind _ _) (by with_reducible assumption) (by k_memK) (by with_reducible assumption) (by with_reducible assumption) (strKind_is _ _ _ _) _ rfl ?_))
local macro_rules | `(tactic| walk_at "getMethod ref") => `(tactic| ((with_reducible show wpAny _ _ (getMethod (Value.ref _) (Str.ofString "get") _) _ _ _); refine kdg_method (knd := PySem.strKind _ _) (by with_reducible assumption) (by k_memK) (by with_reducible assumption) ?_))
local macro_rules | `(tactic| walk_at "eval IfExp") => `(tactic| (refine Mine.stop_i ?_))
local macro_rules | `(tactic| walk_at "RangeRest") => `(tactic| (refine Mine.stop_i ?_))
namespace Mine
section
variable {w : World} {hdl : Option Value} {s : Shared} {mg mb : Str → Option Value} {q : Addr} {us pw ho po db : Value}
theorem due_c {vl nl rl : Addr} {oR : Obj} {ns : List Value} {nn : Nat} {kvs : List (Str × Value)} {bs : Heap} (X : (heap w.params).In bs) (T : TR mg mb bs) (hb : bs.StaysIn s.heap)
    (hv : s.heap.get? vl = some (W.listOf [ho, db, us, pw, po].toArray 0)) (hn : s.heap.get? nl = some (W.listOf ns.toArray nn)) (hr : s.heap.get? rl = some oR) (hd : oR.IsDictOf (strKind Mine.pw w) kvs) (hrl : (rl == sysModules) = false)
    (bv : bs.get? vl = none) (bn : bs.get? nl = none) (br : bs.get? rl = none) (h1 : Pv ho) (h2 : Pv db) (h3 : Pv us) (h4 : Pv pw) (h5 : Pv po) (hns : ∀ v ∈ ns, Nv v) (hkn : ∀ p ∈ kvs, Nv p.2) (hnl : ns.length ≤ 100) :
    codeAny (model Mine.pw w) (AD none 340 100) (.call (.ref 503) ⟨[.ref vl, .ref nl, .ref rl], []⟩) (TrnPost w (told (ns.map er) (kvs.map erp) (fieldsOf ho db us pw po) []) s) s := by
  w_on
  have dummy : heap = heap ∧ PySem.Challenge.rw_bq5036_01 = PySem.Challenge.rw_bq5036_01 := by
    k_fill
    exact ⟨rfl, rfl⟩
  clear dummy
  refine enter X T hb (by k_is) (by k_is) (binds := [("values", .ref vl), ("names", .ref nl), ("renames", .ref rl)]) (by first | exact BindsTo.of_eq rfl | exact binds_K X rfl (by k_is) rfl rfl rfl) (locs rfl) [(vl, _), (nl, _), (rl, _)] (List.forall_mem_cons.mpr ⟨⟨hv, bv⟩, List.forall_mem_cons.mpr ⟨⟨hn, bn⟩, List.forall_mem_cons.mpr ⟨⟨hr, br⟩, List.forall_mem_nil _⟩⟩⟩) ?_
  intro g L h₁ F N kb Xg Tg kg
  try dsimp only
  k_steps
  rename_i d' hh4 o' lo' hs' fs' hi' fi' l12 hh3 F3 N3 hh2 tk3 t1 u1 v1 R1 R2 i' l10
  clear F3 N3 R1 R2
  refine rest_of_range (DI w vl nl rl d' [ho, db, us, pw, po] ns nn oR (kvs.map erp) (fieldsOf ho db us pw po) (told (ns.map er) (kvs.map erp) (fieldsOf ho db us pw po) [])) ?ht ?hz 5 0 _ _ rfl ⟨o', [], rfl, rfl, rfl, rfl, rfl, hs', (fun _ h => nomatch h), Nat.le_refl _, by rfl⟩
  case hz =>
    rintro m news h tk ⟨o2, kv2, m1, m2, m3, m4, rfl, hd2, hp, hkl, hall⟩ F N
    have F := fr_known F m4
    k_steps
    all_goals (
      have N2 := N (d', o2) (.head _)
      refine ⟨⟨d', o2, kv2, rfl, ?_, N2.1, lo', hd2, hp, hkl, hall⟩, ?_⟩
      · cases e : s.heap.get? d' with
        | none => rfl
        | some x =>
          have hne : d' ∉ [(vl, W.listOf [ho, db, us, pw, po].toArray 0), (nl, W.listOf ns.toArray nn), (rl, oR)].map (·.1) := by
            intro q
            simp only [List.map_cons, List.map_nil, List.mem_cons, List.not_mem_nil, or_false] at q
            rcases q with q | q | q <;> (rw [q] at l12; omega)
          have := kg _ _ hne e
          rw [N2.2.2] at this; cases this
      · refine ⟨fun b o e => ?_, rfl, rfl, rfl⟩
        by_cases c1 : b = vl
        · subst c1; rw [hv] at e; rw [← e]; exact (N _ (.tail _ (.head _))).1
        by_cases c2 : b = nl
        · subst c2; rw [hn] at e; rw [← e]; exact (N _ (.tail _ (.tail _ (.head _)))).1
        by_cases c3 : b = rl
        · subst c3; rw [hr] at e; rw [← e]; exact (N _ (.tail _ (.tail _ (.tail _ (.head _))))).1
        rename Fr _ _ _ _ => F'
        refine F'.keep b o (kg b o ?_ e)
        intro q
        simp only [List.map_cons, List.map_nil, List.mem_cons, List.not_mem_nil, or_false] at q
        rcases q with q | q | q
        · exact c1 q
        · exact c2 q
        · exact c3 q)
  case ht =>
    rintro i m news it t h tk hi ⟨o2, kv2, m1, m2, m3, m4, rfl, hd2, hp, hkl, hall⟩ hit F N
    have F := fr_known F (x := Str.ofString "told") (by rw [if_neg (by decide)]; exact m4)
    have F := fr_known F (x := Str.ofString "renames") (by rw [if_neg (by decide), if_neg (by decide)]; exact m3)
    have F := fr_known F (x := Str.ofString "names") (by rw [if_neg (by decide), if_neg (by decide), if_neg (by decide)]; exact m2)
    have F := fr_known F (x := Str.ofString "values") (by rw [if_neg (by decide), if_neg (by decide), if_neg (by decide), if_neg (by decide)]; exact m1)
    obtain ⟨f, v, tf, e1, e2, e3, e4, e5⟩ : ∃ (f : Str) (v : Value) (tf : Tok), (fieldsOf ho db us pw po).drop i = (f, v) :: (fieldsOf ho db us pw po).drop (i + 1) ∧ [ho, db, us, pw, po][((i : Nat) : Int).toNat]? = some v ∧ Pv v ∧ lawF[((i : Nat) : Int).toNat]? = some (.str f tf) ∧ ((((i : Nat) : Int) == 3) = decide (f = Str.ofString "password")) := by
      have : i = 0 ∨ i = 1 ∨ i = 2 ∨ i = 3 ∨ i = 4 := by omega
      rcases this with rfl | rfl | rfl | rfl | rfl
      · exact ⟨_, _, _, rfl, rfl, h1, rfl, by decide⟩
      · exact ⟨_, _, _, rfl, rfl, h2, rfl, by decide⟩
      · exact ⟨_, _, _, rfl, rfl, h3, rfl, by decide⟩
      · exact ⟨_, _, _, rfl, rfl, h4, rfl, by decide⟩
      · exact ⟨_, _, _, rfl, rfl, h5, rfl, by decide⟩
    k_steps
    unfold Stop
    refine cut_tgt (pick ((ns.map er).drop i) (kvs.map erp) f) (by assumption) (by assumption) ?ev (fun tv h' t' hnv hev F' N' => ?_)
    case ev =>
      refine PyProof.Rows.IfExp_ ?_
      by_cases hlt : i < ns.length
      · obtain ⟨tv, hx⟩ : ∃ tv, ns[((i : Nat) : Int).toNat]? = some tv := ⟨_, List.getElem?_eq_getElem (by simpa using hlt)⟩
        k_steps
        all_goals exact TgtPost.in (hns _ (List.mem_of_getElem? hx)) (pick_at hx).symm (by assumption) (by assumption)
      · k_steps
        all_goals exact TgtPost.in (nv_get hkn) (er_get.trans (pick_off hlt).symm) (by assumption) (by assumption)
    have hoff : ∀ o, ∀ p ∈ [(d', o), (vl, W.listOf [ho, db, us, pw, po].toArray 0), (nl, W.listOf ns.toArray nn), (rl, oR)], p.1 ≠ i' := by
      intro o p hp
      simp only [List.mem_cons, List.not_mem_nil, or_false] at hp
      rcases hp with rfl | rfl | rfl | rfl <;> exact Nat.ne_of_lt (by omega)
    k_steps
    cases hnv with
    | none =>
      k_steps
      all_goals exact unr_end (by assumption) (by assumption) (hoff _) (DI.same hd2 hp hkl e1 hall hev (tell_none _ _ _) rfl rfl rfl rfl rfl)
    | str x tx =>
      cases hb : tr v with
      | false =>
        cases e3 with
        | none =>
          k_steps
          all_goals exact unr_end (by assumption) (by assumption) (hoff _) (DI.same hd2 hp hkl e1 hall hev (tell_no hb) rfl rfl rfl rfl rfl)
        | str y ty hy =>
          obtain rfl : y = Str.ofString "" := tr_empty hb
          k_steps
          all_goals exact unr_end (by assumption) (by assumption) (hoff _) (DI.same hd2 hp hkl e1 hall hev (tell_no hb) rfl rfl rfl rfl rfl)
        | int n tn hn =>
          obtain rfl : n = 0 := by simpa [tr] using hb
          k_steps
          all_goals exact unr_end (by assumption) (by assumption) (hoff _) (DI.same hd2 hp hkl e1 hall hev (tell_no hb) rfl rfl rfl rfl rfl)
      | true =>
        by_cases hpw : f = Str.ofString "password"
        · have e6 : (((i : Nat) : Int) == 3) = true := by rw [e5]; simpa using hpw
          k_steps
          unfold Stop
          refine PyProof.Rows.IfExp_ ?_
          k_steps
          all_goals exact unr_end (by assumption) (by assumption) (hoff _) (DI.put (by assumption) hp (by assumption) hkl e1 hall hev hb (by rw [if_pos hpw]; assumption) rfl rfl rfl rfl rfl)
        · have e6 : (((i : Nat) : Int) == 3) = false := by rw [e5]; simpa using hpw
          k_steps
          unfold Stop
          refine PyProof.Rows.IfExp_ ?_
          k_steps
          all_goals exact unr_end (by assumption) (by assumption) (hoff _) (DI.put (by assumption) hp e3 hkl e1 hall hev hb (by rw [if_neg hpw]) rfl rfl rfl rfl rfl)
end
end Mine
end
section
open PySem PySem.W PySem.W.X PyProof.Rows PyProof.V PySem.Calls
set_option Elab.async false
set_option maxRecDepth 100000
set_option maxHeartbeats 4000000
namespace Mine
/-- none, a text, an int -/
inductive Dv : Value → Prop
  | none : Dv .none
  | str (s : Str) (t : Tok) : Dv (.str s t)
  | int (n : Int) (t : Tok) : Dv (.int n t)
theorem Pv.dv {v : Value} (h : Pv v) : Dv v := by
  cases h with
  | none => exact .none
  | str s t _ => exact .str s t
  | int n t _ => exact .int n t
theorem Nv.dv {v : Value} (h : Nv v) : Dv v := by
  cases h with
  | none => exact .none
  | str s t => exact .str s t
section
variable {prog : Program} {w : World} {A : Around} {E : Value → Shared → Prop} {s : Shared}
theorem eqAt_er {A : Around} {s : Shared} {x y : Value} (hx : Dv x) (hy : Dv y) (e : er x = er y) : SeqAt.EqAt A s x y true := by
  cases hx with
  | none =>
    cases hy with
    | none => exact SeqAt.EqAt.same _
    | _ => cases e
  | str a t =>
    cases hy with
    | str b u =>
      cases e
      have := SeqAt.EqAt.str_str (A := A) (s := s) a t a u
      rwa [beq_self_eq_true] at this
    | _ => cases e
  | int a t =>
    cases hy with
    | int b u =>
      cases e
      have := SeqAt.EqAt.int_int (A := A) (s := s) a t a u
      rwa [beq_self_eq_true] at this
    | _ => cases e
theorem ne_same {a b : Addr} {xs ys : List Value} {Q : Value → Shared → Prop} (ha : s.heap.IsList a xs.toArray) (hb : s.heap.IsList b ys.toArray) (hx : ∀ v ∈ xs, Dv v) (hy : ∀ v ∈ ys, Dv v) (e : xs.map er = ys.map er) (hu : A.units < cLine)
    (h : Q (.bool false) s) : wpAny (model prog w) A (compareOp .NotEq (.ref a) (.ref b)) Q E s := by
  have hl : xs.length = ys.length := by simpa using congrArg List.length e
  refine SeqAt.RcNeAt.lists (e := fun _ => true) ha hb (by simpa using hl) hu (fun j h1 h2 => ?_) prog w E Q ?_
  · simp only [List.getElem_toArray]
    refine eqAt_er (hx _ (List.getElem_mem _)) (hy _ (List.getElem_mem _)) ?_
    have h1' : j < (xs.map er).length := by simpa using h1
    have : (xs.map er)[j] = (ys.map er)[j]'(e ▸ h1') := by simp only [e]
    simpa using this
  · have : (!(List.range xs.toArray.size).all fun _ => true) = false := by simp
    rw [this]; exact h
theorem eq_nil {a b : Addr} {Q : Value → Shared → Prop} (ha : s.heap.IsList a ([] : List Value).toArray) (hb : s.heap.IsList b ([] : List Value).toArray) (hu : A.units < cLine) (h : Q (.bool true) s) : wpAny (model prog w) A (compareOp .Eq (.ref a) (.ref b)) Q E s :=
  SeqAt.eq_listAt (e := fun _ => true) ha hb rfl hu (fun j h1 _ => absurd h1 (Nat.not_lt_zero _)) h
theorem eq_cons {a b : Addr} {v : Value} {r : List Value} {Q : Value → Shared → Prop} (ha : s.heap.IsList a (v :: r).toArray) (hb : s.heap.IsList b ([] : List Value).toArray) (hu : A.units < cLine) (h : Q (.bool false) s) : wpAny (model prog w) A (compareOp .Eq (.ref a) (.ref b)) Q E s :=
  SeqAt.eq_list_lengthsAt ha hb (by simp) hu h
theorem valueAt_mem {kvs : List (Str × Value)} {k : Str} {v : Value} (hn : (kvs.map (·.1)).Nodup) (hm : (k, v) ∈ kvs) : valueAt kvs k = some v := by
  unfold valueAt
  induction kvs with
  | nil => cases hm
  | cons p r ih =>
    rw [List.map_cons, List.nodup_cons] at hn
    rw [List.find?_cons]
    rcases List.mem_cons.mp hm with q | q
    · subst q
      simp
    · have : ¬ (p.1 = k) := by
        rintro rfl
        exact hn.1 (List.mem_map_of_mem (f := (·.1)) q)
      simp only [this, decide_false]
      exact ih hn.2 q
theorem hits_er {A : Around} {s : Shared} {ka kb : List (Str × Value)} (hn : (ka.map (·.1)).Nodup) (ha : ∀ p ∈ ka, Dv p.2) (hb : ∀ p ∈ kb, Dv p.2) (e : ka.map erp = kb.map erp) : ∀ r : List (Str × Value), (∀ p ∈ r, p ∈ ka) → KeqHits A s kb r true
  | [], _ => .nil
  | (k, v) :: r, h => by
    have hm := h _ (.head _)
    have h1 : valueAt (ka.map erp) k = some (er v) := by rw [valueAt_erp, valueAt_mem hn hm]; rfl
    rw [e, valueAt_erp] at h1
    obtain ⟨y, hy, he⟩ := Option.map_eq_some_iff.mp h1
    have hyb : Dv y := by
      unfold valueAt at hy
      obtain ⟨p, hp, rfl⟩ := Option.map_eq_some_iff.mp hy
      exact hb p (List.mem_of_find?_eq_some hp)
    exact KeqHits.hit (e := true) (b := true) hy (eqAt_er (ha _ hm) hyb he.symm) (hits_er hn ha hb e r fun p hp => h p (.tail _ hp))
theorem dict_ne {h₀ : Heap} {L a b : Addr} {oa ob : Obj} {news : List (Addr × Obj)} {ka kb : List (Str × Value)} {Q : Value → Shared → Prop} (N : News h₀ L s.heap news) (pa : List.Mem (a, oa) news) (pb : List.Mem (b, ob) news) (da : oa.IsDictOf (strKind prog w) ka) (db : ob.IsDictOf (strKind prog w) kb) (la : (a == sysModules) = false) (lb : (b == sysModules) = false)
    (ha : ∀ p ∈ ka, Pv p.2) (hb : ∀ p ∈ kb, Pv p.2) (e : ka.map erp = kb.map erp) (hu : A.units < cLine) (h : Q (.bool false) s) : wpAny (model prog w) A (compareOp .NotEq (.ref a) (.ref b)) Q E s :=
  kne_pairs (r := true) N pa pb da db la lb (by simpa using congrArg List.length e) hu (hits_er (keysNodup_of_isDictOf da) (fun p hp => (ha p hp).dv) (fun p hp => (hb p hp).dv) e ka fun _ h => h) h
end
end Mine
end
section
open PySem PySem.W PySem.W.X PyProof.Rows PySem.Calls
set_option Elab.async false
set_option maxRecDepth 100000
set_option maxHeartbeats 4000000
namespace Mine
def bodyIn (o : Obj) : List Stmt := match o.data with | .func fd => (match fd.body with | .stmts b => b | _ => []) | _ => []
def scopeIn (o : Obj) : Scope := match o.data with | .func fd => fd.scope | _ => default
noncomputable def lawScope (P : Params) : Scope := scopeIn (tops2.o_820 P)
noncomputable def lawTurn (P : Params) : List Stmt := match bodyIn (tops2.o_820 P) with | _ :: .For _ _ b _ _ :: _ => b | _ => []
noncomputable abbrev lawEnv (P : Params) (L fa : Addr) (cd : Value) : Env := envOfC (Str.ofString "law") (lawScope P) L fa cd
abbrev AL : Around := AD none 330 60
/-- the state of the draws -/
def StOk (sc : Addr) (ns : List Int) (o : Obj) : Prop := ∃ (i r : Int) (ti tr : Tok) (d : Option Addr) (n : Nat) (sl : Array (Option Value)), o = ⟨.type "list", d, .seq [.ref sc, .int i ti, .int r tr].toArray n, sl⟩ ∧ (0 ≤ i ∧ i ≤ (ns.length : Int)) ∧ (0 ≤ r ∧ r < 2147483647)
section
variable {w : World} {A : Around} {E : Value → Shared → Prop} {s : Shared} {g : Heap} {L : Addr} {m : Str → Option Value} {news : List (Addr × Obj)} {mg mb : Str → Option Value}
theorem use_next {st sc : Addr} {so : Obj} {vs : List Value} {ns : List Int} {gf : Obj → List (Addr × Obj)} {many : Int} {tm : Tok} {Q : Value → Shared → Prop} (hd : A.depth ≤ 360) (hu : A.units ≤ 200) (F : Fr g L s.heap m) (N : News g L s.heap news) (X : (heap w.params).In g) (T : TR mg mb g)
    (U : UpdF st so news gf) (hso : StOk sc ns so) (hsc : List.Mem (sc, W.listOf vs.toArray 0) news) (hne : sc ≠ st) (hns : IntsAre vs ns) (hlen : ns.length ≤ 60) (hm : 0 < many ∧ many < 10)
    (h : ∀ k t so' h' t', 0 ≤ k → k < many → StOk sc ns so' → Fr g L h' m → News g L h' (gf so') → Q (.int k t) { s with heap := h', toks := t' }) : wpAny (model Mine.pw w) A (call (.ref 494) [.ref st, .int many tm]) Q E s := by
  obtain ⟨pre, post, rfl, hg, a, b⟩ := U.split
  obtain ⟨i, r, ti, tr', d, n, sl, rfl, hi, hr⟩ := hso
  have hst := N _ (List.mem_append_right pre (.head post))
  refine wpAny_call (wideDC (d := 360) (u := 200) hd hu (codeAny_mono (next_c X T F.keep hst.1 hst.2.2 (N.isList hsc) hns hne hi hr hm hlen) fun res s' z => ?_))
  obtain ⟨k, t, i', r', t1, t2, d', n', sl', rfl, hk, hi', hr', hs', kp1, kp2, kp3, kp4⟩ := z
  obtain ⟨hh, gs, dr, tk, os⟩ := s'
  dsimp only at kp2 kp3 kp4 hs'
  subst kp2 kp3 kp4
  refine h k t _ hh tk hk.1 hk.2 ⟨i', r', t1, t2, d', n', sl', rfl, hi', hr'⟩ ⟨?_, fun c o e => kp1 c o ?_ (F.keep c o e), F.above⟩ ?_
  · obtain ⟨oL, es, ep, hL, rest⟩ := F.ns
    exact ⟨oL, es, ep, kp1 _ _ (Ne.symm hst.2.1) hL, rest⟩
  · rintro rfl
    rw [hst.2.2] at e; cases e
  · rw [hg]
    intro p hp
    rcases List.mem_append.mp hp with q | q
    · exact ⟨kp1 _ _ (a p q) (N p (List.mem_append_left _ q)).1, (N p (List.mem_append_left _ q)).2⟩
    · rcases List.mem_cons.mp q with rfl | q
      · exact ⟨hs', hst.2⟩
      · have hp := N p (List.mem_append_right pre (.tail _ q))
        exact ⟨kp1 _ _ (b p q) hp.1, hp.2⟩
theorem item_pick {value slice : PySem.Expr} {l : Addr} {vs : List Value} {n : Nat} {k : Int} {u : Tok} {Q : Value → Shared → Prop} (P : Value → Prop) (N : News g L s.heap news) (hl : List.Mem (l, W.listOf vs.toArray n) news) (h0 : 0 ≤ k) (hz : vs.length < 100) (hk : k < (vs.length : Int)) (hall : ∀ v ∈ vs, P v)
    (h : ∀ v, P v → Q v s) (hs : subscripted slice false (.ref l) (.int k u) = operate [.ref l, .int k u] (getItem (.ref l) (.int k u)) := by with_unfolding_all rfl) :
    wpAny (model Mine.pw w) A (subscriptTail value slice (.ref l) (.int k u)) Q E s := by
  have hi : k.toNat < vs.length := by omega
  exact item_litK (News.isList N hl) h0 (by omega) (List.getElem?_eq_getElem hi) (h _ (hall _ (List.getElem_mem hi))) hs
end
theorem svs4 {x y z : Str} {a b c : Tok} (hx : x.length ≤ 1000) (hy : y.length ≤ 1000) (hz : z.length ≤ 1000) : ∀ v ∈ [Value.none, .str x a, .str y b, .str z c], Sv v :=
  List.forall_mem_cons.mpr ⟨.none, List.forall_mem_cons.mpr ⟨.str _ _ hx, List.forall_mem_cons.mpr ⟨.str _ _ hy, List.forall_mem_cons.mpr ⟨.str _ _ hz, List.forall_mem_nil _⟩⟩⟩⟩
theorem ivs4 {a b c : Tok} : ∀ v ∈ [Value.none, .int 0 a, .int 5432 b, .int 1 c], Iv v :=
  List.forall_mem_cons.mpr ⟨.none, List.forall_mem_cons.mpr ⟨.int _ _ (.inl rfl), List.forall_mem_cons.mpr ⟨.int _ _ (.inr (.inr (.inr rfl))), List.forall_mem_cons.mpr ⟨.int _ _ (.inr (.inl rfl)), List.forall_mem_nil _⟩⟩⟩⟩
theorem pvs6 {x y z : Str} {a b c d e : Tok} (hx : x.length ≤ 1000) (hy : y.length ≤ 1000) (hz : z.length ≤ 1000) : ∀ v ∈ [Value.none, .str x a, .str y b, .int 5 c, .int 0 d, .str z e], Pv v :=
  List.forall_mem_cons.mpr ⟨.none, List.forall_mem_cons.mpr ⟨.str _ _ hx, List.forall_mem_cons.mpr ⟨.str _ _ hy, List.forall_mem_cons.mpr ⟨.int _ _ (.inr (.inr (.inl rfl))), List.forall_mem_cons.mpr ⟨.int _ _ (.inl rfl), List.forall_mem_cons.mpr ⟨.str _ _ hz, List.forall_mem_nil _⟩⟩⟩⟩⟩⟩
def Off3 (news : List (Addr × Obj)) (u dx q : Addr) : Prop := ∀ p ∈ news, p.1 ≠ u ∧ p.1 ≠ dx ∧ p.1 ≠ q
theorem Off3.in {news : List (Addr × Obj)} {u dx q : Addr} (h : ∀ p ∈ news, p.1 ≠ u ∧ p.1 ≠ dx ∧ p.1 ≠ q) : Off3 news u dx q := h
theorem Off3.at {news : List (Addr × Obj)} {u dx q : Addr} (h : Off3 news u dx q) {a : Addr} {o : Obj} (m : List.Mem (a, o) news) : @Ne Nat a u ∧ @Ne Nat a dx ∧ @Ne Nat a q := h _ m
theorem news_sub {g h : Heap} {L : Addr} {all sub : List (Addr × Obj)} (N : News g L h all) (hs : ∀ p ∈ sub, List.Mem p all) : News g L h sub := fun p hp => N p (hs p hp)
theorem all_nil {all : List (Addr × Obj)} : ∀ p ∈ ([] : List (Addr × Obj)), List.Mem p all := fun _ h => nomatch h
theorem all_cons {all r : List (Addr × Obj)} {q : Addr × Obj} (h : List.Mem q all) (t : ∀ p ∈ r, List.Mem p all) : ∀ p ∈ q :: r, List.Mem p all := List.forall_mem_cons.mpr ⟨h, t⟩
theorem lawT_nv : ∀ v ∈ lawT, Nv v :=
  List.forall_mem_cons.mpr ⟨.none, List.forall_mem_cons.mpr ⟨.str _ _, List.forall_mem_cons.mpr ⟨.str _ _, List.forall_mem_cons.mpr ⟨.str _ _, List.forall_mem_cons.mpr ⟨.str _ _, List.forall_mem_cons.mpr ⟨.str _ _, List.forall_mem_cons.mpr ⟨.str _ _, List.forall_mem_nil _⟩⟩⟩⟩⟩⟩⟩
section
variable {w : World} {A : Around} {E : Value → Shared → Prop} {s : Shared} {g : Heap} {L : Addr} {m : Str → Option Value} {news : List (Addr × Obj)} {mg mb : Str → Option Value}
theorem item_tgt {value slice : PySem.Expr} {k : Int} {u : Tok} {Q : Value → Shared → Prop} (F : Fr g L s.heap m) (X : (heap w.params).In g) (h0 : 0 ≤ k) (hk : k < 7) (h : ∀ v, Nv v → Q v s)
    (hs : subscripted slice false (.ref 496) (.int k u) = operate [.ref 496, .int k u] (getItem (.ref 496) (.int k u)) := by with_unfolding_all rfl) :
    wpAny (model Mine.pw w) A (subscriptTail value slice (.ref 496) (.int k u)) Q E s := by
  have hi : k.toNat < lawT.length := by show k.toNat < 7; omega
  exact item_litK (lawT_list (X.keeps F.keep)) h0 (by omega) (List.getElem?_eq_getElem hi) (h _ (lawT_nv _ (List.getElem_mem hi))) hs
end
section
variable {prog : Program} {w : World} {A : Around} {E : Value → Shared → Prop} {s : Shared} {h₀ : Heap} {L : Addr} {m : Str → Option Value} {env : Env}
theorem comp_inv {elt : Expr} {x : Str} {scope : Scope} {cl : List (Str × Addr)} {S : List (Addr × Obj) → Prop} {P : Nat → Value → Prop} {Fin : List Value → List (Addr × Obj) → Prop} {n : Nat} (J : Nat → List Value → List (Addr × Obj) → Prop)
    (turn : ∀ i ys news v I oI C oC D m₂ h tk (E' : Value → Shared → Prop), i < n → J i ys news → P i v → LCg.NsObj oC m₂ → m₂ x = some v → Fr h₀ L h m → News h₀ L h ((I, oI) :: (C, oC) :: (D, LCg.lst ys) :: news) → LCg.Off3 I C D news → ((@Ne Nat I C) ∧ (@Ne Nat I D) ∧ (@Ne Nat C D)) →
      wpAny (model prog w) A (eval elt (compEnvC scope cl C env)) (LCg.CompEnd h₀ L m { s with heap := h, toks := tk } I oI C oC D (LCg.lst ys) S (fun y news' => J (i + 1) (ys ++ [y]) news')) E' { s with heap := h, toks := tk })
    (fin : ∀ ys news, J n ys news → Fin ys news) : ∀ k i ys news, i + k = n → J i ys news → LCg.CompRest prog w A h₀ L m env elt x scope cl s S P Fin k i ys news
  | 0, i, ys, news, e, j => fin ys news (by rw [← e]; exact j)
  | k + 1, i, ys, news, e, j => by
    intro v I oI C oC D m₂ h tk E' hv hC hx F N off ne
    refine wpAny_mono (turn i ys news v I oI C oC D m₂ h tk E' (by omega) j hv hC hx F N off ne) (fun y s₂ z => ?_) fun _ _ z => z
    obtain ⟨h', tk', nw, e', F', N', off', hS, hj⟩ := z
    exact ⟨h', tk', nw, e', F', N', off', hS, comp_inv J turn fin k (i + 1) (ys ++ [y]) nw (by omega) hj⟩
end
theorem updF_at {d : Addr} {post : List (Addr × Obj)} (hb : ∀ p ∈ post, p.1 ≠ d) : ∀ (pre : List (Addr × Obj)) (o : Obj), (∀ p ∈ pre, p.1 ≠ d) → UpdF d o (pre ++ (d, o) :: post) (fun o' => pre ++ (d, o') :: post)
  | [], _, _ => .head hb
  | p :: r, o, ha => .tail (ha p (.head _)) (updF_at hb r o fun q hq => ha q (.tail _ hq))
def UpdAll (d : Addr) (f : Obj → List (Addr × Obj)) : Prop := ∀ o, UpdF d o (f o) f
theorem updAll {d : Addr} (pre post : List (Addr × Obj)) (ha : ∀ p ∈ pre, p.1 ≠ d) (hb : ∀ p ∈ post, p.1 ≠ d) : UpdAll d (fun o => pre ++ (d, o) :: post) := fun o => updF_at hb pre o ha
theorem off_nil {d : Addr} : ∀ p ∈ ([] : List (Addr × Obj)), p.1 ≠ d := fun _ h => nomatch h
theorem off_cons {d a : Addr} {o : Obj} {r : List (Addr × Obj)} (h : @Ne Nat a d) (t : ∀ p ∈ r, p.1 ≠ d) : ∀ p ∈ (a, o) :: r, p.1 ≠ d := List.forall_mem_cons.mpr ⟨h, t⟩
section
variable {w : World} {A : Around} {E : Value → Shared → Prop} {s : Shared} {g : Heap} {L : Addr} {m : Str → Option Value} {mg mb : Str → Option Value}
theorem use_nextU {st sc : Addr} {so : Obj} {vs : List Value} {ns : List Int} {gf : Obj → List (Addr × Obj)} {many : Int} {tm : Tok} {Q : Value → Shared → Prop} (hd : A.depth ≤ 360) (hu : A.units ≤ 200) (U : UpdAll st gf) (F : Fr g L s.heap m) (N : News g L s.heap (gf so)) (X : (heap w.params).In g) (T : TR mg mb g)
    (hso : StOk sc ns so) (hsc : List.Mem (sc, W.listOf vs.toArray 0) (gf so)) (hne : sc ≠ st) (hns : IntsAre vs ns) (hlen : ns.length ≤ 60) (hm : 0 < many ∧ many < 10)
    (h : ∀ k t so' h' t', 0 ≤ k → k < many → StOk sc ns so' → Fr g L h' m → News g L h' (gf so') → Q (.int k t) { s with heap := h', toks := t' }) : wpAny (model Mine.pw w) A (call (.ref 494) [.ref st, .int many tm]) Q E s :=
  use_next hd hu F N X T (U so) hso hsc hne hns hlen hm h
end
def Fld (f : Str) : Prop := f = Str.ofString "host" ∨ f = Str.ofString "database" ∨ f = Str.ofString "username" ∨ f = Str.ofString "password" ∨ f = Str.ofString "port"
def FldV (v : Value) : Prop := ∃ f t, v = .str f t ∧ Fld f
theorem lawF_fld : ∀ v ∈ lawF, FldV v :=
  List.forall_mem_cons.mpr ⟨⟨_, _, rfl, .inl rfl⟩, List.forall_mem_cons.mpr ⟨⟨_, _, rfl, .inr (.inl rfl)⟩, List.forall_mem_cons.mpr ⟨⟨_, _, rfl, .inr (.inr (.inl rfl))⟩, List.forall_mem_cons.mpr ⟨⟨_, _, rfl, .inr (.inr (.inr (.inl rfl)))⟩, List.forall_mem_cons.mpr ⟨⟨_, _, rfl, .inr (.inr (.inr (.inr rfl)))⟩, List.forall_mem_nil _⟩⟩⟩⟩⟩
section
variable {w : World} {A : Around} {E : Value → Shared → Prop} {s : Shared} {g : Heap} {L : Addr} {m : Str → Option Value} {news : List (Addr × Obj)} {mg mb : Str → Option Value}
theorem item_fld {value slice : PySem.Expr} {k : Int} {u : Tok} {Q : Value → Shared → Prop} (F : Fr g L s.heap m) (X : (heap w.params).In g) (h0 : 0 ≤ k) (hk : k < 5) (h : ∀ f t, Fld f → Q (.str f t) s)
    (hs : subscripted slice false (.ref 495) (.int k u) = operate [.ref 495, .int k u] (getItem (.ref 495) (.int k u)) := by with_unfolding_all rfl) :
    wpAny (model Mine.pw w) A (subscriptTail value slice (.ref 495) (.int k u)) Q E s := by
  have hi : k.toNat < lawF.length := by show k.toNat < 5; omega
  obtain ⟨f, t, e, hf⟩ := lawF_fld _ (List.getElem_mem hi)
  exact item_litK (lawF_list (X.keeps F.keep)) h0 (by omega) (List.getElem?_eq_getElem hi) (e ▸ h f t hf) hs
theorem set_U {prog : Program} {d : Addr} {o : Obj} {kvs : List (Str × Value)} {f : Str} {t : Tok} {v : Value} {gf : Obj → List (Addr × Obj)} {Q : Unit → Shared → Prop} (U : UpdAll d gf) (F : Fr g L s.heap m) (N : News g L s.heap (gf o)) (hd : o.IsDictOf (strKind prog w) kvs) (hsz : kvs.length ≤ 100)
    (h : ∀ h' o' t', Fr g L h' m → News g L h' (gf o') → o'.IsDictOf (strKind prog w) (stored kvs f v) → Q () { s with heap := h', toks := t' }) : wpAny (model prog w) A (setItem (.ref d) (.str f t) v) Q E s :=
  kda_set F N (U o) hd (strKind_is _ _ _ _) (by rw [sizeLine_eq]; omega) (fun h' o' F' N' hd' => h h' o' _ F' N' hd')
end
theorem stored_pair {kvs : List (Str × Value)} {f : Str} {v : Value} (h : ∀ p ∈ kvs, Nv p.2 ∧ Fld p.1) (hv : Nv v) (hf : Fld f) : ∀ p ∈ stored kvs f v, Nv p.2 ∧ Fld p.1 := by
  intro p hp
  unfold stored at hp
  split at hp
  · obtain ⟨q, hq, rfl⟩ := List.mem_map.mp hp
    split
    · exact ⟨hv, (h _ hq).2⟩
    · exact h _ hq
  · rcases List.mem_append.mp hp with q | q
    · exact h _ q
    · rw [List.mem_singleton.mp q]; exact ⟨hv, hf⟩
/-- the cells lie apart -/
structure CellOff (L vl u dx q : Addr) : Prop where
  a1 : @Ne Nat vl (L + 2)
  a2 : @Ne Nat u (L + 2)
  a3 : @Ne Nat dx (L + 2)
  a4 : @Ne Nat q (L + 2)
  b1 : @Ne Nat vl (L + 3)
  b2 : @Ne Nat u (L + 3)
  b3 : @Ne Nat dx (L + 3)
  b4 : @Ne Nat q (L + 3)
theorem st_cellU {M : Model} {A : Around} {E : Value → Shared → Prop} {s : Shared} {g : Heap} {L c : Addr} {o : Obj} {m : Str → Option Value} {gf : Obj → List (Addr × Obj)} {env : Env} {x : Str} {v : Value} {v₀ : Option Value} {Q : Unit → Shared → Prop} (U : UpdAll c gf) (F : Fr g L s.heap m) (N : News g L s.heap (gf o)) (hd : o.data = .cell v₀)
    (hk : env.scope.kind = .function) (hx : env.kindOf x = some .cell) (hc : env.cells.lookup x = some c)
    (h : ∀ h' o', Fr g L h' m → News g L h' (gf o') → o'.data = .cell (some v) → Q () { s with heap := h' }) : wpAny M A (storeName env x v) Q E s := by
  obtain ⟨own, rest, e, hg, h1, h2⟩ := (U o).split
  rw [e] at N
  have hmem := N (c, o) (List.mem_append_right _ (.head _))
  refine wpAny_storeName_cell hk hx hc ⟨o, hmem.1, hd⟩ fun h' hv hs => ?_
  obtain ⟨o', ho', hd'⟩ := hv
  refine h h' o' ⟨F.ns.sameBut hs (Ne.symm hmem.2.1), fun b ob e => (hs.2 b (fun q => ?_)).trans (F.keep b ob e), F.above⟩ (hg o' ▸ N.setAt h1 h2 hs ho') hd'
  rw [q, hmem.2.2] at e; cases e
end Mine
end
section
open PySem PySem.W PySem.W.X PyProof.Rows PyProof.V PySem.Calls
set_option Elab.async false
set_option maxRecDepth 100000
set_option maxHeartbeats 4000000
namespace Mine
section
variable {prog : Program} {w : World} {A : Around} {E : Value → Shared → Prop} {s : Shared}
theorem put_new {d : Addr} {es : List DictEntry} {ep : Nat} {e : DictEntry} {k : Str} {Q : Unit → Shared → Prop} (ho : s.heap.get? d = some (dictOf es ep)) (hk : KeysOf (strKind prog w) es.toArray) (he : (strKind prog w).is k e.key = true) (hh : e.hash = (strKind prog w).hash k)
    (hnew : ∀ x ∈ es, (strKind prog w).is k x.key = false) (hz : es.length ≤ 1000)
    (h : ∀ h', h'.get? d = some (dictOf (es ++ [e]) (ep + 1)) → Heap.SameBut d s.heap h' → Q () { s with heap := h' }) : wpAny (model prog w) A (dictPut d e.hash e.key e.val) Q E s := by
  have hf : (es.toArray.findIdx? fun x => (strKind prog w).is k x.key) = none := by
    rw [List.findIdx?_toArray, List.findIdx?_eq_none_iff]
    exact hnew
  unfold dictPut
  rw [hh]
  refine wpAny_bind (wpAny_dictFind_of he ho rfl hk ?_)
  rw [hf]
  refine wpAny_updateDictKeys ho rfl (h _ ?_ (Heap.SameBut.update ..)) (by rw [sizeLine_eq, List.size_toArray]; omega)
  rw [Heap.get?_update_self _ ho rfl]
  obtain ⟨eh, ek, ev⟩ := e
  dsimp only at hh
  subst hh
  simp [Obj.mapDictKeys]
theorem find_new {d : Addr} {es : List DictEntry} {ep : Nat} {e : DictEntry} {k : Str} {Q : Option Nat → Shared → Prop} (ho : s.heap.get? d = some (dictOf es ep)) (hk : KeysOf (strKind prog w) es.toArray) (he : (strKind prog w).is k e.key = true) (hh : e.hash = (strKind prog w).hash k)
    (hnew : ∀ x ∈ es, (strKind prog w).is k x.key = false) (h : Q none s) : wpAny (model prog w) A (dictFind d e.key e.hash) Q E s := by
  have hf : (es.toArray.findIdx? fun x => (strKind prog w).is k x.key) = none := by
    rw [List.findIdx?_toArray, List.findIdx?_eq_none_iff]
    exact hnew
  rw [hh]
  refine wpAny_dictFind_of he ho rfl hk ?_
  rw [hf]
  exact h
theorem merge_str {d a : Addr} {l : List DictEntry} {ep : Nat} {oa : Obj} {kvs : List (Str × Value)} {Q : Unit → Shared → Prop} (hd : s.heap.get? d = some (dictOf [] 0)) (ha : s.heap.get? a = some oa) (hc : oa.cls = .type "dict") (hdat : oa.data = .dict l.toArray ep) (hk : KeysOf (strKind prog w) l.toArray) (hp : Pairs (strKind prog w) l kvs) (hn : (kvs.map (·.1)).Nodup)
    (hne : a ≠ d) (hla : (a == sysModules) = false) (hz : l.length ≤ 1000)
    (h : ∀ h', h'.get? d = some (dictOf l l.length) → Heap.SameBut d s.heap h' → Q () { s with heap := h' }) : wpAny (model prog w) A (mergeMapping d (.ref a) true) Q E s := by
  have hT : s.TypeIs (.ref a) "dict" := ⟨oa, ha, hc⟩
  have keyIs : ∀ x ∈ l, ∃ k, (strKind prog w).is k x.key = true ∧ x.hash = (strKind prog w).hash k := fun x hx => hk x (by simpa using hx)
  unfold mergeMapping
  refine wpAny_bind (wpAny_isInstance (T := "dict") hT PySem.F.sub_dict_dict ?_)
  simp only [if_true]
  have sl : (PySem.Slot "dict" "__iter__" "dict.__iter__") := PySem.F.slot_dict_iter
  refine wpAny_bind (wpAny_specialOf hT sl.lookup ?_)
  refine wpAny_bind (wpAny_pure ?_)
  simp only [beq_self_eq_true]
  rw [if_neg (by rw [hla]; exact Bool.false_ne_true)]
  refine wpAny_bind (wpAny_dictEntries hd rfl ?_)
  simp only [List.isEmpty_toArray, List.isEmpty_nil, if_true]
  refine wpAny_bind (wpAny_dictEntries ha hdat ?_)
  refine wpAny_bind (wpAny_mono (Q := fun _ s' => s' = s) (E := fun _ _ => False) (PySem.MeetsSeq2.wpAny_forIn_array _ (fun rest _ s' => (∀ x ∈ rest, x ∈ l) ∧ s' = s) _ ?_ ?_ _ _ ⟨fun x hx => by simpa using hx, rfl⟩) (fun _ s' e => ?_) (fun _ _ z => z.elim))
  · rintro x rest b s' ⟨hx, rfl⟩
    obtain ⟨k, hk1, _⟩ := keyIs x (hx x (.head _))
    obtain ⟨t, et⟩ := PySem.Value.isStrOf_shape hk1
    rw [et]
    exact wpAny_pure ⟨fun y hy => hx y (.tail _ hy), rfl⟩
  · rintro b s' ⟨_, e⟩; exact e
  subst e
  refine wpAny_bind (wpAny_dictEntries ha hdat (wpAny_bind (wpAny_dictEpoch ha hdat ?_)))
  rw [List.size_toArray, List.range_eq_range']
  refine wpAny_bind (wpAny_forIn_list _ (fun rest _ s2 => ∃ i h', rest = List.range' i (l.length - i) ∧ i ≤ l.length ∧ s2 = { s' with heap := h' } ∧ h'.get? d = some (dictOf (l.take i) i) ∧ Heap.SameBut d s'.heap h') _ ?_ ?_ _ _ ⟨0, s'.heap, by simp, Nat.zero_le _, rfl, by simpa using hd, Heap.SameBut.refl _ _⟩)
  · rintro x rest b s2 ⟨i, h', hr, hi, rfl, hg, hs⟩
    have hlt : i < l.length := by
      rcases Nat.lt_or_ge i l.length with q | q
      · exact q
      · rw [Nat.sub_eq_zero_of_le q] at hr; cases hr
    obtain ⟨rfl, hrest⟩ : x = i ∧ rest = List.range' (i + 1) (l.length - (i + 1)) := by
      have e : l.length - i = (l.length - (i + 1)) + 1 := by omega
      rw [e, List.range'_succ] at hr
      injection hr with h1 h2
      exact ⟨h1, h2⟩
    have ha' : h'.get? a = some oa := (hs.2 a hne).trans ha
    refine wpAny_bind (wpAny_dictEntries (s := { s' with heap := h' }) ha' hdat ?_)
    rw [List.getElem?_toArray, List.getElem?_eq_getElem hlt]
    dsimp only
    obtain ⟨k, hk1, hk2⟩ := keyIs l[x] (List.getElem_mem hlt)
    have hsub : ∀ y ∈ l.take x, y ∈ l := fun y hy => List.mem_of_mem_take hy
    have hk' : KeysOf (strKind prog w) (l.take x).toArray := fun y hy => hk y (by simpa using hsub y (by simpa using hy))
    have hnew : ∀ y ∈ l.take x, (strKind prog w).is k y.key = false := by
      intro y hy
      obtain ⟨j, hj, e⟩ := List.getElem_of_mem hy
      rw [List.length_take] at hj
      have hjl : j < l.length := by omega
      have hlen : l.length = kvs.length := hp.length
      rw [List.getElem_take] at e
      have p1 := (hp.get? (i := j) (e := l[j]) (k := (kvs[j]'(hlen ▸ hjl)).1) (v := (kvs[j]'(hlen ▸ hjl)).2) (List.getElem?_eq_getElem hjl) (List.getElem?_eq_getElem (hlen ▸ hjl))).1
      have p2 := (hp.get? (i := x) (e := l[x]) (k := (kvs[x]'(hlen ▸ hlt)).1) (v := (kvs[x]'(hlen ▸ hlt)).2) (List.getElem?_eq_getElem hlt) (List.getElem?_eq_getElem (hlen ▸ hlt))).1
      cases hb : (strKind prog w).is k y.key with
      | false => rfl
      | true =>
        rw [← e] at hb
        have q1 := (strKind prog w).inj _ _ _ hb p1
        have q2 := (strKind prog w).inj _ _ _ hk1 p2
        have hm1 : j < (kvs.map (·.1)).length := by rw [List.length_map]; omega
        have hm2 : x < (kvs.map (·.1)).length := by rw [List.length_map]; omega
        have : (kvs.map (·.1))[j] = (kvs.map (·.1))[x] := by rw [List.getElem_map, List.getElem_map, ← q1, ← q2]
        exact absurd this (List.pairwise_iff_getElem.mp hn j x hm1 hm2 (by omega))
    refine wpAny_bind (wpAny_holding (wpAny_bind (find_new hg hk' hk1 hk2 hnew ?_)))
    simp only [Option.isSome_none, Bool.false_eq_true, if_false]
    refine put_new hg hk' hk1 hk2 hnew (by rw [List.length_take]; omega) fun h2 g2 s2 => ?_
    refine wpAny_bind (wpAny_dictEpoch ((s2.2 a hne).trans ha') hdat ?_)
    simp only [bne_self_eq_false, Bool.false_eq_true, if_false]
    refine wpAny_pure ⟨x + 1, h2, hrest, hlt, rfl, ?_, hs.trans s2⟩
    rw [g2, List.take_append_getElem hlt]
  · rintro b s2 ⟨i, h', hr, hi, rfl, hg, hs⟩
    have : i = l.length := by
      rcases Nat.lt_or_ge i l.length with q | q
      · have e : l.length - i = (l.length - (i + 1)) + 1 := by omega
        rw [e, List.range'_succ] at hr; cases hr
      · exact Nat.le_antisymm hi q
    subst this
    rw [List.take_length] at hg
    exact wpAny_pure (h h' hg hs)
theorem keys_in {f : Value} {d : Addr} {l : List DictEntry} {ep : Nat} {kvs : List (Str × Value)} {Q : List (Str × Value) → Shared → Prop} (hd : s.heap.get? d = some (dictOf l ep)) (hp : Pairs (strKind prog w) l kvs) (h : Q kvs s) : wpAny (model prog w) A (keywordsIn f d) Q E s := by
  unfold keywordsIn
  refine wpAny_bind (wpAny_dictEntries hd rfl ?_)
  refine wpAny_bind (PySem.MeetsSeq2.wpAny_forIn_array _ (fun rest b s' => s' = s ∧ ∃ done ks, kvs = done ++ ks ∧ b = done ∧ Pairs (strKind prog w) rest ks) _ ?_ ?_ _ _ ⟨rfl, [], kvs, rfl, rfl, hp⟩)
  · rintro x rest b s' ⟨rfl, done, ks, e1, rfl, hp'⟩
    cases hp' with
    | @cons _ kv _ kvs' hk hv hr =>
      obtain ⟨t, et⟩ := PySem.Value.isStrOf_shape hk
      rw [et]
      refine wpAny_pure ⟨rfl, b ++ [kv], kvs', by rw [e1, List.append_assoc]; rfl, ?_, hr⟩
      rw [hv]
  · rintro b s' ⟨rfl, done, ks, e1, rfl, hp'⟩
    cases hp'
    rw [List.append_nil] at e1
    subst e1
    exact wpAny_pure h
end
end Mine
end
section
open PySem PySem.W PySem.W.X PyProof.Rows PyProof.V PySem.Calls
set_option Elab.async false
set_option maxRecDepth 100000
set_option maxHeartbeats 4000000
namespace Mine
section
variable {prog : Program} {w : World} {A : Around} {E : Value → Shared → Prop} {s : Shared} {K : Frag} {u dx p f C : Addr} {n : Nat} {items : Array Value} {v : Value} {expr fill : Bool} {name : Str} {t : Tok}
theorem by_fn (X : K.In s.heap) (ho : s.heap.get? u = some ⟨.ref C, some dx, .seq items n, #[]⟩) (hx : s.heap.get? dx = some ⟨.type "dict", none, .dict #[] 0, #[]⟩)
    (g0 : mroIn K C (.type "tuple") = some true) (g1 : findIn K (.ref C) "__getattribute__" = some (some (.builtin "tuple.__getattribute__"))) (g1' : findIn K (.ref C) "__getattr__" = some none) (g2 : hasDictIn K C = true)
    (g3 : findIn K (.ref C) name = some (some (.ref p))) (g4 : specialIn K (.ref p) "__get__" = some (some (.builtin "function.__get__"))) (g5 : takesIn K (.ref p) = some false) (g6 : typeIn K (.ref p) = some (.type "function")) (g7 : copiedNames.contains name = false) :
    wpAny (model prog w) A (getAttrBy (.ref u) (.str name t) fill expr) (fun r s' => r = .ref s.heap.objs.size ∧ s' = { s with heap := s.heap.push (methodObj (.ref p) (.ref u)) }) E s := by
  have I : InstAt s.heap u ⟨.ref C, some dx, .seq items n, #[]⟩ C (some ⟨.type "dict", none, .dict #[] 0, #[]⟩) := ⟨ho, rfl, rfl, hx⟩
  have L0 := I.type (M := model prog w)
  have L1 := looks_mroIn (M := model prog w) X g0
  have L2 := looks_findIn (M := model prog w) X g1
  have L3 := looks_find (M := model prog w) X I (findObj_fn g2 g3 g4 g5 g7 rfl)
  have L4 := looks_findIn (M := model prog w) X g1'
  obtain ⟨hh', g, dr, tk, os⟩ := s
  unfold getAttrBy
  refine wpAny_holding (wpAny_bind (L0.at (wpAny_bind (L2.at ?_))))
  show wpAny _ _ (getAttrByItsOwn _ _ _ _ _ _) _ _ _
  unfold getAttrByItsOwn
  refine wpAny_bind ?_
  show wpAny _ _ (typeLookup (.ref C) "__getattr__") _ _ _
  refine L4.at (wpAny_bind (wpAny_attempt (wpAny_holding ?_)))
  have e : callGetattribute (.ref u) (.str name t) (.builtin "tuple.__getattribute__") expr = boundAndCalled (.builtin "tuple.__getattribute__") (.ref u) (.str name t) := by
    unfold callGetattribute
    rw [if_neg (by cases expr <;> decide)]
  rw [e]
  unfold boundAndCalled
  refine wpAny_bind (wpAny_of_eq (F.slot_tuple_getattribute.bind (.ref u)) ?_)
  refine wpAny_call (codeAny_call_builtin F.slot_tuple_getattribute.plain F.entry_tuple_ga ?_)
  have ha := F.args_tuple_getattribute_2 (.ref u) (.str name t)
  simp only [checkBuiltinCall, gkind, gsplit, List.append, List.cons_append, List.nil_append]
  refine wpAny_bind ?_
  unfold isInstance
  refine wpAny_bind (L0.at (L1.at ?_))
  dsimp only
  rw [if_neg (by decide)]
  have e : ∀ (R : Unit → Shared → Prop) (E' : Value → Shared → Prop) (A' : Around), R () ⟨hh', g, dr, tk, os⟩ → wpAny (model prog w) A' (match Manifest.signature? "tuple.__getattribute__" with | some sig => Bind.checkArgs "tuple.__getattribute__" sig ⟨[.ref u, .str name t], []⟩ | none => pure ()) R E' ⟨hh', g, dr, tk, os⟩ := by
    intro R E' A' r
    have ha' : (match Manifest.signature? "tuple.__getattribute__" with | some sig => Bind.checkArgs "tuple.__getattribute__" sig ⟨[.ref u, .str name t], []⟩ | none => pure ()) = pure () := ha
    rw [ha']; exact wpAny_pure r
  refine e _ _ _ ?_
  unfold Builtin.«object.__getattribute__»
  refine wpAny_bind (wpAny_of_eq (a := (.ref u, [.str name t])) (by first | rfl | kernel_rfl) ?_)
  dsimp only
  refine wpAny_bind (wpAny_of_eq (a := name) (by first | rfl | kernel_rfl) ?_)
  refine wpAny_bind (L0.at (wpAny_bind (L3.at ?_)))
  dsimp only
  show wpAny _ _ (holding [.ref p] (call (.builtin "function.__get__") [.ref p, .ref u, .ref C]) >>= ret) _ _ _
  refine wpAny_bind (wpAny_holding (wpAny_call (fn_get X g6 ?_)))
  refine wpAny_pure ?_
  dsimp only
  exact handed_on rfl ⟨rfl, rfl⟩
end
section
variable {w : World} {A : Around} {E : Value → Shared → Prop} {s : Shared} {u q : Addr} {dn us pw ho po db : Value}
theorem get_trn {Q : Value → Shared → Prop} {h₀ : Heap} {L : Addr} {m : Str → Option Value} {news : List (Addr × Obj)} (F : Fr h₀ L s.heap m) (N : News h₀ L s.heap news) (X₀ : (heap w.params).In h₀) (U : UrlAt s.heap u dn us pw ho po db q)
    (h : ∀ qm h' t', Fr h₀ L h' m → News h₀ L h' ((qm, methodObj (.ref 481) (.ref u)) :: news) → (∀ p ∈ news, p.1 < qm) → Q (.ref qm) { s with heap := h', toks := t' }) :
    wpAny (model Mine.pw w) A (getAttr (.ref u) (Str.ofString "translate_connect_args") true) Q E s := by
  w_on
  have dummy : heap = heap ∧ PySem.Challenge.rw_bq5036_01 = PySem.Challenge.rw_bq5036_01 := by
    k_fill
    exact ⟨rfl, rfl⟩
  clear dummy
  have X := X₀.keeps F.keep
  obtain ⟨dx, d2, ho, hx, hq⟩ := U
  have g0 : mroIn (heap w.params) 484 (.type "tuple") = some true := by k_is
  have g1 : findIn (heap w.params) (.ref 484) "__getattribute__" = some (some (.builtin "tuple.__getattribute__")) := by k_is
  have g1' : findIn (heap w.params) (.ref 484) "__getattr__" = some none := by k_is
  have g2 : hasDictIn (heap w.params) 484 = true := by k_is
  have g3 : findIn (heap w.params) (.ref 484) (Str.ofString "translate_connect_args") = some (some (.ref 481)) := by k_is
  have g4 : specialIn (heap w.params) (.ref 481) "__get__" = some (some (.builtin "function.__get__")) := by k_is
  have g5 : takesIn (heap w.params) (.ref 481) = some false := by k_is
  have g6 : typeIn (heap w.params) (.ref 481) = some (.type "function") := by k_is
  unfold getAttr
  refine wpAny_bind (wpAny_mkText (wpAny_mono (by_fn (s := { s with toks := s.toks + 1 }) X ho hx g0 g1 g1' g2 g3 g4 g5 g6 (by decide)) (fun r s' z => ?_) fun _ _ z => z))
  obtain ⟨rfl, rfl⟩ := z
  exact h _ _ _ (F.push _) (N.push F _) (fun p hp => Heap.lt_size (N p hp).1)
end
end Mine
end
section
open PySem PySem.W PySem.W.X PyProof.Rows PyProof.V PySem.Calls
set_option Elab.async false
set_option maxRecDepth 100000
set_option maxHeartbeats 4000000
set_option pp.maxSteps 1500
namespace Mine
def KwGoal (w : World) (A : Around) (env : Env) (x : Str) (f : Value) (vs : List Value) (Q : Value → Shared → Prop) (E : Value → Shared → Prop) (s : Shared) : Prop :=
  ∃ g m news rl oR kvs qm self, Fr g env.locals s.heap m ∧ News g env.locals s.heap news ∧ m x = some (.ref rl) ∧ List.Mem (rl, oR) news ∧ oR.IsDictOf (strKind Mine.pw w) kvs ∧ (rl == sysModules) = false ∧ kvs.length ≤ 1000 ∧ f = .ref qm ∧ List.Mem (qm, methodObj (.ref 481) self) news ∧ (heap w.params).In g ∧
    ∀ h' t', Fr g env.locals h' m → News g env.locals h' news → wpAny (model Mine.pw w) A (call (.ref qm) vs kvs) Q E { s with heap := h', toks := t' }
section
variable {w : World} {A : Around} {E : Value → Shared → Prop} {s : Shared} {env : Env} {Q : Value → Shared → Prop}
theorem merged {f : Value} {x : Str} {p kp pos : Pos} {g : Heap} {m : Str → Option Value} {news : List (Addr × Obj)} {rl : Addr} {oR : Obj} {kvs : List (Str × Value)} {Q : Addr → Shared → Prop}
    (hk : env.scope.kind = .function) (hx : env.kindOf x = some .local) (hb : (x == ("__debug__" : Str)) = false)
    (F : Fr g env.locals s.heap m) (N : News g env.locals s.heap news) (hm : m x = some (.ref rl)) (hr : (rl, oR) ∈ news) (hd : oR.IsDictOf (strKind Mine.pw w) kvs) (hl : (rl == sysModules) = false) (hz : kvs.length ≤ 1000)
    (h : ∀ d h' t' l, Fr g env.locals h' m → News g env.locals h' news → h'.get? d = some (dictOf l l.length) → Pairs (strKind Mine.pw w) l kvs → Q d { s with heap := h', toks := t' }) :
    wpAny (model Mine.pw w) A (mergedKeywords f (backToKw pos (keywordEach [⟨none, .Name x p, kp⟩] env))) Q E s := by
  have ho := (N _ hr).1
  obtain ⟨es, ep, ec, ed, ek, epr, en⟩ := hd
  have hne : rl ≠ s.heap.objs.size := Nat.ne_of_lt (Heap.lt_size ho)
  have F1 := F.push (dictOf [] 0)
  unfold mergedKeywords
  refine wpAny_bind (wpAny_alloc ?_)
  refine wpAny_bind (wpAny_holding ?_)
  have e1 : backToKw pos (keywordEach [⟨none, .Name x p, kp⟩] env) = [(none, do let v ← eval (.Name x p) env; standAt pos; pure v)] := rfl
  rw [e1]
  refine wpAny_bind ?_
  rw [List.forIn_cons]
  refine wpAny_bind ?_
  dsimp only [List.isEmpty_nil, if_true]
  refine wpAny_bind (wpAny_pure ?_)
  refine wpAny_bind (wpAny_bind (wpAny_Name (wpAny_loadName_local hk hx F1.ns hm (wpAny_bind (wpAny_standAt (wpAny_pure ?_)))) hb))
  refine wpAny_bind (wpAny_onRaise (wpAny_holding (wpAny_tryCatch (wpAny_onRaise ?_))))
  refine merge_str (l := es.toList) (kvs := kvs) (Heap.get?_push_size _ rfl) (Heap.get?_push_of_some _ ho) ec.1 (by rw [ed]) (by simpa using ek) epr en hne hl (by rw [epr.length]; exact hz) fun h' hg hs => ?_
  refine wpAny_pure ?_
  dsimp only
  rw [List.forIn_nil]
  refine wpAny_pure ?_
  dsimp only [List.isEmpty_nil, if_true]
  refine wpAny_bind (wpAny_pure (wpAny_pure ?_))
  have N1 := N.push F (dictOf [] 0)
  have hnew := N1 _ (.head _)
  have hlen : es.size = es.toList.length := by simp
  refine wpAny_pure ?_
  exact h _ h' _ es.toList (F1.change hs hnew.2.1 hnew.2.2) (fun p hp => ⟨(hs.2 _ (Nat.ne_of_lt (Heap.lt_size (N p hp).1))).trans (Heap.get?_push_of_some _ (N p hp).1), (N p hp).2⟩) hg epr
theorem keeper_trn {h : Heap} {qm : Addr} {self : Value} (X : (heap w.params).In h) (hq : h.get? qm = some (methodObj (.ref 481) self)) : Looks (model Mine.pw w) h (keeperOf (.ref qm)) .boundFrame := by
  w_on
  have dummy : heap = heap ∧ PySem.Challenge.rw_bq5036_01 = PySem.Challenge.rw_bq5036_01 := by
    k_fill
    exact ⟨rfl, rfl⟩
  clear dummy
  have hf : fnIn (heap w.params) 481 = true := by k_is
  unfold fnIn at hf
  split at hf
  · rename_i e
    exact (Looks.ld (part := none) hq).andThen ((Looks.ld (part := none) (X _ _ e)).andThen .now)
  · cases hf
theorem kw_call {pos : Pos} {f : Value} {x : Str} {p kp : Pos} {trees : List (Bool × Sem Value)} (hk : env.scope.kind = .function) (hx : env.kindOf x = some .local) (hb : (x == ("__debug__" : Str)) = false) (ht : trees = [] ∨ ∃ t, trees = [(false, t)])
    (h : wpAny (model Mine.pw w) A (spliced trees) (fun vs s₃ => KwGoal w A env x f vs Q E s₃) E s) :
    wpAny (model Mine.pw w) A (callWith pos f [] trees (backToKw pos (keywordEach [⟨none, .Name x p, kp⟩] env))) Q E s := by
  unfold callWith
  refine wpAny_bind (wpAny_holding ?_)
  unfold evalArgs
  rcases ht with rfl | ⟨t, rfl⟩
  all_goals (
    dsimp only
    refine wpAny_bind (wpAny_mono h (fun vs s₃ z => ?_) fun _ _ z => z)
    obtain ⟨g, m, news, rl, oR, kvs, qm, self, F, N, hm, hr, hd, hl, hz, rfl, hq, X, fin⟩ := z
    refine wpAny_bind (wpAny_pure ?_)
    refine wpAny_holding ?_
    have e1 : (backToKw pos (keywordEach [⟨none, .Name x p, kp⟩] env)).all (·.1.isSome) = false := rfl
    rw [if_neg (by rw [e1]; exact Bool.false_ne_true)]
    refine wpAny_bind (merged hk hx hb F N hm hr hd hl hz fun d h' t' l F' N' hdd hp => ?_)
    refine wpAny_bind (wpAny_pure ?_)
    refine wpAny_bind (wpAny_holding (keys_in hdd hp ?_))
    refine wpAny_pure ?_
    refine wpAny_bind (wpAny_standAt ?_))
  all_goals (
    refine wpAny_bind ((keeper_trn (X.keeps F'.keep) (N' _ hq).1).at ?_)
    dsimp only
    have e2 : (backToKw pos (keywordEach [⟨none, .Name x p, kp⟩] env)).any (·.1.isNone) = true := rfl
    simp only [e2, List.any_nil, List.any_cons, Bool.or_true, Bool.false_or]
    refine wpAny_bind (wpAny_operate' ?_)
    refine wpAny_mono (fin h' t' F' N') (fun r s' z => ?_) fun _ _ z => z
    exact wpAny_bind (wpAny_holding (wpAny_point (wpAny_pure z))))
theorem call_kwstar {o : Expr} {name x : Str} {apos pos p kp : Pos} {args : List Expr} (h : wpAny (model Mine.pw w) A (eval o env) (fun ov s₁ => wpAny (model Mine.pw w) A (getAttr ov name true) (fun f s₂ =>
      wpAny (model Mine.pw w) A (callWith pos f [] (backTo pos (starEach args env)) (backToKw pos (keywordEach [⟨none, .Name x p, kp⟩] env))) Q E s₂) E s₁) E s)
    (hbase : attributeBase o name env (eval o env) = eval o env := by rfl) : wpAny (model Mine.pw w) A (eval (.Call (.Attribute o name apos) args [⟨none, .Name x p, kp⟩] pos) env) Q E s := by
  rw [arm_eval_Call, hbase]
  refine wpAny_bind (wpAny_mono h (fun ov s₁ h₁ => ?_) fun _ _ e => e)
  refine wpAny_bind (wpAny_standAt ?_)
  have hform : methodCallForm (args.length + ([⟨none, .Name x p, kp⟩] : List Keyword).length) (backTo pos (starEach args env)) (backToKw pos (keywordEach [⟨none, .Name x p, kp⟩] env)) = false := by
    unfold methodCallForm
    have : (backToKw pos (keywordEach [⟨none, .Name x p, kp⟩] env)).all (·.1.isSome) = false := rfl
    rw [this, Bool.and_false, Bool.false_and]
  unfold methodCall
  rw [hform]
  unfold calleeOf methodCallPos
  simp only [Bool.false_eq_true, if_false, Bool.not_false, Bool.true_or, if_true]
  refine wpAny_bind (wpAny_holding (wpAny_bind (wpAny_mono h₁ (fun f s₂ h₂ => ?_) fun _ _ e => e)))
  exact wpAny_pure (wpAny_bind (wpAny_pure h₂))
end
end Mine
end
section
open PySem PySem.W PySem.W.X PyProof.Rows PyProof.V PySem.Calls
set_option Elab.async false
set_option maxRecDepth 100000
set_option maxHeartbeats 4000000
namespace Mine
/-- a dict that was told -/
structure Told (w : World) (o : Obj) (kvs all : List (Str × Value)) (a : Addr) : Prop where
  dict : o.IsDictOf (strKind Mine.pw w) kvs
  vals : ∀ p ∈ kvs, Pv p.2
  len : kvs.length ≤ 5
  all : kvs.map erp = all
  low : (a == sysModules) = false
theorem fld_off {f : Str} (h : Fld f) : f ≠ Str.ofString "self" ∧ f ≠ Str.ofString "names" := by
  rcases h with rfl | rfl | rfl | rfl | rfl <;> exact ⟨by decide, by decide⟩
section
variable {w : World} {A : Around} {E : Value → Shared → Prop} {s : Shared} {g : Heap} {L : Addr} {m : Str → Option Value} {news : List (Addr × Obj)} {mg mb : Str → Option Value} {u q : Addr} {dn us pw ho po db : Value}
theorem told_news {a : Addr} {o : Obj} {h' : Heap} (F : Fr g L s.heap m) (N : News g L s.heap news) (hs : s.heap.get? a = none) (ho : h'.get? a = some o) (k : s.heap.StaysIn h') : Fr g L h' m ∧ News g L h' ((a, o) :: news) ∧ ∀ p ∈ news, p.1 ≠ a := by
  have hL : ∃ o, s.heap.get? L = some o := by
    obtain ⟨o, _, _, ho, _⟩ := F.ns
    exact ⟨o, ho⟩
  obtain ⟨oL, hL⟩ := hL
  refine ⟨fr_stays F k, ?_, fun p hp => fresh_ne hs (N p hp).1⟩
  intro p hp
  rcases List.mem_cons.mp hp with rfl | hp
  · exact ⟨ho, (fresh_ne hs hL).symm, fresh_base F.keep hs⟩
  · exact news_stays N k p hp
theorem trn0_code {kws : List (Str × Value)} {Q : Value → Shared → Prop} (hd : A.depth ≤ 340) (hu : A.units ≤ 100) (hh : A.handled = none) (F : Fr g L s.heap m) (N : News g L s.heap news) (X : (heap w.params).In g) (T : TR mg mb g) (U : UrlAt s.heap u dn us pw ho po db q)
    (h1 : Pv ho) (h2 : Pv db) (h3 : Pv us) (h4 : Pv pw) (h5 : Pv po) (hk : ∀ p ∈ kws, Nv p.2 ∧ Fld p.1) (hn : (kws.map (·.1)).Nodup) (hl : kws.length ≤ 100)
    (h : ∀ a o kvs h' t', Told w o kvs (told [] (kws.map erp) (fieldsOf ho db us pw po) []) a → Fr g L h' m → News g L h' ((a, o) :: news) → (∀ p ∈ news, p.1 ≠ a) → Q (.ref a) { s with heap := h', toks := t' }) :
    codeAny (model Mine.pw w) A (.call (.ref 481) ⟨[.ref u], kws⟩) (fun r s' => match r with | .ok (.ret v) => Q v s' | .ok _ => False | .error e => E e s') s := by
  refine wideDC (d := 340) (u := 100) hd hu ?_
  rw [hh]
  refine codeAny_mono (trn_none (X.keeps F.keep) (T.keeps F.keep) U h1 h2 h3 h4 h5 (fun p hp => fld_off (hk p hp).2) (fun p hp => (hk p hp).1) hn hl) fun r s' z => ?_
  obtain ⟨⟨a, o, kvs, rfl, z1, z2, z3, z4, z5, z6, z7⟩, k⟩ := z
  obtain ⟨hh', gs, dr, tk, os⟩ := s'
  obtain ⟨k1, rfl, rfl, rfl⟩ := k
  obtain ⟨F', N', off⟩ := told_news F N z1 z2 k1
  exact h a o kvs hh' tk ⟨z4, z5, z6, z7, z3⟩ F' N' off
theorem trnL_code {kws : List (Str × Value)} {ys : List Value} {nm : Addr} {nn : Nat} {Q : Value → Shared → Prop} (hd : A.depth ≤ 340) (hu : A.units ≤ 100) (hh : A.handled = none) (F : Fr g L s.heap m) (N : News g L s.heap ((nm, W.listOf ys.toArray nn) :: news)) (off : ∀ p ∈ news, p.1 ≠ nm) (X : (heap w.params).In g) (T : TR mg mb g) (U : UrlAt s.heap u dn us pw ho po db q)
    (h1 : Pv ho) (h2 : Pv db) (h3 : Pv us) (h4 : Pv pw) (h5 : Pv po) (hk : ∀ p ∈ kws, Nv p.2 ∧ Fld p.1) (hn : (kws.map (·.1)).Nodup) (hl : kws.length ≤ 100) (hys : ∀ v ∈ ys, Nv v) (hyl : ys.length ≤ 100)
    (h : ∀ a o kvs h' t', Told w o kvs (told (ys.map er) (kws.map erp) (fieldsOf ho db us pw po) []) a → Fr g L h' m → News g L h' ((a, o) :: news) → (∀ p ∈ news, p.1 ≠ a) → Q (.ref a) { s with heap := h', toks := t' }) :
    codeAny (model Mine.pw w) A (.call (.ref 481) ⟨[.ref u, .ref nm], kws⟩) (fun r s' => match r with | .ok (.ret v) => Q v s' | .ok _ => False | .error e => E e s') s := by
  refine wideDC (d := 340) (u := 100) hd hu ?_
  rw [hh]
  have hnm := N _ (.head _)
  refine codeAny_mono (trn_list X T F.keep hnm.1 hnm.2.2 hys hyl U h1 h2 h3 h4 h5 (fun p hp => fld_off (hk p hp).2) (fun p hp => (hk p hp).1) hn hl) fun r s' z => ?_
  obtain ⟨⟨a, o, kvs, rfl, z1, z2, z3, z4, z5, z6, z7⟩, k⟩ := z
  obtain ⟨hh', gs, dr, tk, os⟩ := s'
  obtain ⟨k1, rfl, rfl, rfl⟩ := k
  have hL : ∃ o, s.heap.get? L = some o := by
    obtain ⟨o, _, _, ho, _⟩ := F.ns
    exact ⟨o, ho⟩
  obtain ⟨oL, hL⟩ := hL
  refine h a o kvs hh' tk ⟨z4, z5, z6, z7, z3⟩ ⟨?_, fun c o e => k1 c o ?_ (F.keep c o e), F.above⟩ ?_ (fun p hp => fresh_ne z1 (N p (.tail _ hp)).1)
  · obtain ⟨oL, es, ep, hL, rest⟩ := F.ns
    exact ⟨oL, es, ep, k1 _ _ (Ne.symm hnm.2.1) hL, rest⟩
  · rintro rfl
    rw [hnm.2.2] at e; cases e
  · intro p hp
    rcases List.mem_cons.mp hp with rfl | hp
    · exact ⟨z2, (fresh_ne z1 hL).symm, fresh_base F.keep z1⟩
    · exact ⟨k1 _ _ (off p hp) (N p (.tail _ hp)).1, (N p (.tail _ hp)).2⟩
end
end Mine
end
section
open PySem PySem.W PySem.W.X PyProof.Rows PyProof.V PySem.Calls
set_option Elab.async false
set_option maxRecDepth 100000
set_option maxHeartbeats 4000000
namespace Mine
/-- the names told, as a list -/
structure KeysAre (vs : List Value) (all : List (Str × Value)) : Prop where
  same : vs.map er = all.map (fun p => Value.str p.1 0)
  vals : ∀ v ∈ vs, Dv v
section
variable {w : World} {A : Around} {E : Value → Shared → Prop} {s : Shared} {g : Heap} {L : Addr} {m : Str → Option Value} {news : List (Addr × Obj)} {mg mb : Str → Option Value} {u q : Addr} {dn us pw ho po db : Value}
theorem told_ne {a b : Addr} {oa ob : Obj} {ka kb all : List (Str × Value)} {Q : Value → Shared → Prop} (hu : A.units < cLine) (N : News g L s.heap news) (pa : List.Mem (a, oa) news) (pb : List.Mem (b, ob) news) (ta : Told w oa ka all a) (tb : Told w ob kb all b) (h : Q (.bool false) s) :
    wpAny (model Mine.pw w) A (compareOp .NotEq (.ref a) (.ref b)) Q E s :=
  dict_ne N pa pb ta.dict tb.dict ta.low tb.low ta.vals tb.vals (ta.all.trans tb.all.symm) hu h
theorem keys_ne {a b : Addr} {xs ys : List Value} {n1 n2 : Nat} {all : List (Str × Value)} {Q : Value → Shared → Prop} (hu : A.units < cLine) (N : News g L s.heap news) (pa : List.Mem (a, W.listOf xs.toArray n1) news) (pb : List.Mem (b, W.listOf ys.toArray n2) news) (ta : KeysAre xs all) (tb : KeysAre ys all) (h : Q (.bool false) s) :
    wpAny (model Mine.pw w) A (compareOp .NotEq (.ref a) (.ref b)) Q E s :=
  ne_same (News.isList N pa) (News.isList N pb) ta.vals tb.vals (ta.same.trans tb.same.symm) hu h
theorem list_told {a : Addr} {o : Obj} {kvs all : List (Str × Value)} {Q : Value → Shared → Prop} (hh : A.handled = none) (F : Fr g L s.heap m) (N : News g L s.heap news) (hp : List.Mem (a, o) news) (ht : Told w o kvs all a)
    (h : ∀ B c h' tk vs, KeysAre vs all → Fr g L h' m → News g L h' ((B, W.listOf vs.toArray c) :: news) → (∀ q ∈ news, q.1 < B) → Q (.ref B) { s with heap := h', toks := tk }) : wpAny (model Mine.pw w) A (call (.type "list") [.ref a]) Q E s := by
  obtain ⟨ep, hat⟩ := (kda_dict N hp ht.dict).dictAt
  refine kdl_N (kdl_dict (knd := PySem.strKind Mine.pw w) (kvs := kvs) (ep := ep) ht.low) hh F N hat (by have := ht.len; rw [sizeLine_eq]; omega) fun B c h' tk vs F' N' l1 hl hv => ?_
  refine h B c h' tk vs ⟨?_, ?_⟩ F' N' l1
  · rw [← ht.all]
    apply List.ext_getElem?
    intro j
    rw [List.getElem?_map, List.getElem?_map, List.getElem?_map]
    cases e : vs[j]? with
    | none =>
      have : kvs[j]? = none := by
        rw [List.getElem?_eq_none_iff] at e ⊢
        omega
      rw [this]; rfl
    | some v =>
      obtain ⟨k, x, hx, hk⟩ := hv j v e
      obtain ⟨t, et⟩ := PySem.Value.isStrOf_shape hk
      rw [hx, et]; rfl
  · intro v hvm
    obtain ⟨j, hj, e⟩ := List.getElem_of_mem hvm
    obtain ⟨k, x, hx, hk⟩ := hv j v (by rw [List.getElem?_eq_getElem hj, e])
    obtain ⟨t, et⟩ := PySem.Value.isStrOf_shape hk
    rw [et]; exact .str _ _
theorem use_due {vl nl rl : Addr} {oR : Obj} {ys : List Value} {nn : Nat} {kvs : List (Str × Value)} {Q : Value → Shared → Prop} (hd : A.depth ≤ 340) (hu : A.units ≤ 100) (hh : A.handled = none) (F : Fr g L s.heap m) (N : News g L s.heap news) (X : (heap w.params).In g) (T : TR mg mb g)
    (pv : List.Mem (vl, W.listOf [ho, db, us, pw, po].toArray 0) news) (pn : List.Mem (nl, W.listOf ys.toArray nn) news) (pr : List.Mem (rl, oR) news) (hR : oR.IsDictOf (strKind Mine.pw w) kvs) (hrl : (rl == sysModules) = false)
    (h1 : Pv ho) (h2 : Pv db) (h3 : Pv us) (h4 : Pv pw) (h5 : Pv po) (hk : ∀ p ∈ kvs, Nv p.2) (hys : ∀ v ∈ ys, Nv v) (hyl : ys.length ≤ 100)
    (h : ∀ a o tks h' t', Told w o tks (told (ys.map er) (kvs.map erp) (fieldsOf ho db us pw po) []) a → Fr g L h' m → News g L h' ((a, o) :: news) → (∀ p ∈ news, p.1 ≠ a) → Q (.ref a) { s with heap := h', toks := t' }) :
    wpAny (model Mine.pw w) A (call (.ref 503) [.ref vl, .ref nl, .ref rl]) Q E s := by
  refine wpAny_call (wideDC (d := 340) (u := 100) hd hu ?_)
  rw [hh]
  have n1 := N _ pv
  have n2 := N _ pn
  have n3 := N _ pr
  refine codeAny_mono (due_c X T F.keep n1.1 n2.1 n3.1 hR hrl n1.2.2 n2.2.2 n3.2.2 h1 h2 h3 h4 h5 hys hk hyl) fun r s' z => ?_
  obtain ⟨⟨a, o, tks, rfl, z1, z2, z3, z4, z5, z6, z7⟩, k⟩ := z
  obtain ⟨hh', gs, dr, tk, os⟩ := s'
  obtain ⟨k1, rfl, rfl, rfl⟩ := k
  obtain ⟨F', N', off⟩ := told_news F N z1 z2 k1
  exact h a o tks hh' tk ⟨z4, z5, z6, z7, z3⟩ F' N' off
end
def OffA (news : List (Addr × Obj)) (a : Addr) : Prop := ∀ p ∈ news, p.1 ≠ a
theorem OffA.in {news : List (Addr × Obj)} {a : Addr} (h : ∀ p ∈ news, p.1 ≠ a) : OffA news a := h
theorem OffA.at {news : List (Addr × Obj)} {a : Addr} (h : OffA news a) {b : Addr} {o : Obj} (m : List.Mem (b, o) news) : @Ne Nat b a := h _ m
end Mine
end
section
open PySem PySem.W PySem.W.X PyProof.Rows PySem.Calls
set_option Elab.async false
namespace Mine
/-- the state list and the script lie off the cells -/
structure StOff (L st sc li : Addr) : Prop where
  s1 : @Ne Nat st (L + 1)
  ic : @Ne Nat sc li
  s2 : @Ne Nat st (L + 2)
  s3 : @Ne Nat st (L + 3)
  c2 : @Ne Nat sc (L + 2)
  c3 : @Ne Nat sc (L + 3)
  sc : @Ne Nat sc st
  i1 : @Ne Nat st li
  i0 : @Ne Nat li (L + 1)
  i2 : @Ne Nat li (L + 2)
  i3 : @Ne Nat li (L + 3)
end Mine
end
section
open PySem PySem.W PySem.W.X PyProof.Rows PySem.Calls
set_option Elab.async false
set_option maxRecDepth 100000
set_option maxHeartbeats 4000000
set_option pp.deepTerms false
set_option pp.maxSteps 2000
local macro_rules | `(tactic| walk_at "call ref") => `(tactic| first
  | ((with_reducible show wpAny _ _ (call (Value.ref 494) _) _ _ _); refine Mine.use_next (Nat.le_of_ble_eq_true (by with_unfolding_all rfl)) (Nat.le_of_ble_eq_true (by with_unfolding_all rfl)) (by assumption) (by assumption) (by assumption) (by assumption) (by k_updF) (by assumption) (by k_memK) (by assumption) (by assumption) (by assumption) (by decide) ?_; intro k' t' so' h' tk' hk1 hk2 hso' F' N'; (try dsimp only at N'); k_sweep))
local macro_rules | `(tactic| walk_at "subscriptTail") => `(tactic| (refine Mine.item_pick Mine.Pv (by assumption) (by k_memK) (by assumption) (by simp only [List.length_cons, List.length_nil]; omega) (by simp only [List.length_cons, List.length_nil]; omega) (Mine.pvs6 (by decide) (by decide) (by decide)) ?_; intro v' hv'))
local macro_rules | `(tactic| walk_at "subscriptTail") => `(tactic| (refine Mine.item_pick Mine.Iv (by assumption) (by k_memK) (by assumption) (by simp only [List.length_cons, List.length_nil]; omega) (by simp only [List.length_cons, List.length_nil]; omega) Mine.ivs4 ?_; intro v' hv'))
local macro_rules | `(tactic| walk_at "subscriptTail") => `(tactic| (refine Mine.item_pick Mine.Sv (by assumption) (by k_memK) (by assumption) (by simp only [List.length_cons, List.length_nil]; omega) (by simp only [List.length_cons, List.length_nil]; omega) (Mine.svs4 (by decide) (by decide) (by decide)) ?_; intro v' hv'))
local macro_rules | `(tactic| walk_at "call ref") => `(tactic| ((with_reducible show wpAny _ _ (call (Value.ref _) [_, _, _, _, _, _]) _ _ _); refine Mine.use_create (Nat.le_of_ble_eq_true (by with_unfolding_all rfl)) (Nat.le_of_ble_eq_true (by with_unfolding_all rfl)) (by assumption) (by assumption) (by assumption) (by assumption) (by k_memK) (by assumption) (by assumption) (by assumption) (by assumption) ?_; intro u q dx d2 h' tk' F' N' off' k'; replace off' := Mine.Off3.in off'; (try dsimp only at N'); k_sweep))
namespace Mine
section
variable {w : World} {s : Shared} {g : Heap} {L fa : Addr} {cd : Value} {m : Str → Option Value} {mg mb : Str → Option Value}
theorem ph_A {st sc li : Addr} {so oM oP oS lit : Obj} {vs : List Value} {ns : List Int} {rest : List Stmt} {Q : Flow → Shared → Prop} {E : Value → Shared → Prop} (X : (heap w.params).In g) (T : TR mg mb g)
    (hns : IntsAre vs ns) (hlen : ns.length ≤ 60) (F : Fr g L s.heap m) (N : News g L s.heap [(st, so), (sc, W.listOf vs.toArray 0), (L + 3, oM), (L + 2, oP), (L + 1, oS), (li, lit)]) (hso : StOk sc ns so) (hS : oS.data = .cell (some (.ref st)))
    (hne : @Ne Nat sc st) (n1 : @Ne Nat st (L + 1)) (n2 : @Ne Nat st (L + 2)) (n3 : @Ne Nat st (L + 3)) (nli : @Ne Nat st li)
    (k : ∀ (so' : Obj) (us pw ho po db : Value) (t : Tok) (u q dx d2 vl : Addr) (h' : Heap) (t' : Nat) (m' : Str → Option Value), News g L h' [(vl, W.listOf [ho, db, us, pw, po].toArray 0), (u, urlObj (.str (Str.ofString "pg+x") t) us pw ho po db dx q), (dx, nilObj), (q, immObj d2), (st, so'), (sc, W.listOf vs.toArray 0), (L + 3, oM), (L + 2, oP), (L + 1, oS), (li, lit)] → Sv us → Sv ho → Sv db → Pv pw → Iv po → StOk sc ns so' → m' (Str.ofString "url") = some (.ref u) → m' (Str.ofString "values") = some (.ref vl) →
      (@Ne Nat st u ∧ @Ne Nat st dx ∧ @Ne Nat st q ∧ @Ne Nat st vl) → CellOff L vl u dx q → (@Ne Nat li u ∧ @Ne Nat li dx ∧ @Ne Nat li q) → Fr g L h' m' →
      wpAny (model Mine.pw w) AL (execs rest (lawEnv w.params L fa cd)) Q E { s with heap := h', toks := t' }) :
    wpAny (model Mine.pw w) AL (execs ((lawTurn w.params).take 7 ++ rest) (lawEnv w.params L fa cd)) Q E s := by
  w_on
  have dummy : heap = heap ∧ PySem.Challenge.rw_bq5036_01 = PySem.Challenge.rw_bq5036_01 := by
    k_fill
    exact ⟨rfl, rfl⟩
  clear dummy
  rw [show (lawTurn w.params).take 7 ++ rest = _ :: _ :: _ :: _ :: _ :: _ :: _ :: rest from rfl]
  unfold lawEnv at k ⊢
  rw [show lawScope w.params = ⟨_, _, _, _, _⟩ from rfl] at k ⊢
  k_steps
  rename Off3 _ _ _ _ => off
  rename Fr _ _ _ _ => F'
  rename News _ _ _ _ => N'
  have o1 := off.at (a := st) (by k_memK)
  have oi := off.at (a := li) (by k_memK)
  have o2 := off.at (a := L + 2) (by k_memK)
  have o3 := off.at (a := L + 3) (by k_memK)
  refine' k _ _ _ _ _ _ _ _ _ _ _ _ _ _ _ (news_sub N' ?nw) ?_ ?_ ?_ ?_ ?_ ?_ ?_ ?_ ?_ ?_ ?_ F'
  case nw =>
    repeat (refine all_cons (by k_memK) ?_)
    exact all_nil
  all_goals first | assumption | rfl | exact ⟨oi.1, oi.2.1, oi.2.2⟩ | exact ⟨o1.1, o1.2.1, o1.2.2, by omega⟩ | exact ⟨by omega, o2.1.symm, o2.2.1.symm, o2.2.2.symm, by omega, o3.1.symm, o3.2.1.symm, o3.2.2.symm⟩
end
end Mine
end
section
open PySem PySem.W PySem.W.X PyProof.Rows PySem.Calls
set_option Elab.async false
set_option maxRecDepth 100000
set_option maxHeartbeats 4000000
set_option pp.deepTerms false
set_option pp.maxSteps 2000
local macro_rules | `(tactic| walk_at "CompSrc") => `(tactic| (refine Mine.stop_i ?_))
local macro_rules | `(tactic| walk_at "subscriptTail") => `(tactic| (refine Mine.item_tgt (by assumption) (by assumption) (by assumption) (by assumption) ?_; intro v' hv'))
local macro_rules | `(tactic| walk_at "call ref") => `(tactic| ((with_reducible show wpAny _ _ (call (Value.ref 494) _) _ _ _); refine Mine.use_nextU (Nat.le_of_ble_eq_true (by with_unfolding_all rfl)) (Nat.le_of_ble_eq_true (by with_unfolding_all rfl)) (by assumption) (by assumption) (by assumption) (by assumption) (by assumption) (by assumption) (by k_memK) (by assumption) (by assumption) (by assumption) (by decide) ?_; intro k' t' so' h' tk' hk1 hk2 hso' F' N'; (try dsimp only at N'); k_sweep))
local macro_rules | `(tactic| walk_at "CompEnd") => `(tactic| (refine Mine.stop_i ?_))
namespace Mine
/-- what holds while the names are drawn -/
def NJ (vs : List Value) (ns : List Int) (pre post : List (Addr × Obj)) (st sc : Addr) (i : Nat) (ys : List Value) (news : List (Addr × Obj)) : Prop :=
  ys.length = i ∧ (∀ v ∈ ys, Nv v) ∧ ∃ so, StOk sc ns so ∧ news = pre ++ (st, so) :: post
section
variable {w : World} {s : Shared} {g : Heap} {L fa : Addr} {cd : Value} {m : Str → Option Value} {mg mb : Str → Option Value}
theorem ph_B {st sc li : Addr} {so oM oP oS lit : Obj} {vs : List Value} {ns : List Int} {rest : List Stmt} {Q : Flow → Shared → Prop} {E : Value → Shared → Prop} {us pw ho po db dn : Value} {u q dx d2 vl : Addr} (X : (heap w.params).In g) (T : TR mg mb g)
    (hns : IntsAre vs ns) (hlen : ns.length ≤ 60) (F : Fr g L s.heap m) (N : News g L s.heap [(vl, W.listOf [ho, db, us, pw, po].toArray 0), (u, urlObj dn us pw ho po db dx q), (dx, nilObj), (q, immObj d2), (st, so), (sc, W.listOf vs.toArray 0), (L + 3, oM), (L + 2, oP), (L + 1, oS), (li, lit)]) (hso : StOk sc ns so) (hS : oS.data = .cell (some (.ref st)))
    (hne : @Ne Nat sc st) (n1 : @Ne Nat st (L + 1)) (n2 : @Ne Nat st (L + 2)) (n3 : @Ne Nat st (L + 3)) (nli : @Ne Nat st li) (n4 : @Ne Nat st u ∧ @Ne Nat st dx ∧ @Ne Nat st q ∧ @Ne Nat st vl)
    (hmu : m (Str.ofString "url") = some (.ref u)) (hmv : m (Str.ofString "values") = some (.ref vl))
    (k : ∀ (so' : Obj) (ys : List Value) (nl : Addr) (h' : Heap) (t' : Nat) (m' : Str → Option Value), News g L h' [(nl, W.listOf ys.toArray ys.length), (vl, W.listOf [ho, db, us, pw, po].toArray 0), (u, urlObj dn us pw ho po db dx q), (dx, nilObj), (q, immObj d2), (st, so'), (sc, W.listOf vs.toArray 0), (L + 3, oM), (L + 2, oP), (L + 1, oS), (li, lit)] →
      StOk sc ns so' → (∀ v ∈ ys, Nv v) → ys.length ≤ 6 → m' (Str.ofString "names") = some (.ref nl) → m' (Str.ofString "url") = some (.ref u) → m' (Str.ofString "values") = some (.ref vl) → @Ne Nat st nl → Fr g L h' m' →
      wpAny (model Mine.pw w) AL (execs rest (lawEnv w.params L fa cd)) Q E { s with heap := h', toks := t' }) :
    wpAny (model Mine.pw w) AL (execs (((lawTurn w.params).drop 7).take 1 ++ rest) (lawEnv w.params L fa cd)) Q E s := by
  w_on
  have dummy : heap = heap ∧ PySem.Challenge.rw_bq5036_01 = PySem.Challenge.rw_bq5036_01 := by
    k_fill
    exact ⟨rfl, rfl⟩
  clear dummy
  obtain ⟨n5, n6, n7, n8⟩ := n4
  have hU := updAll (d := st) [(vl, W.listOf [ho, db, us, pw, po].toArray 0), (u, urlObj dn us pw ho po db dx q), (dx, nilObj), (q, immObj d2)] [(sc, W.listOf vs.toArray 0), (L + 3, oM), (L + 2, oP), (L + 1, oS), (li, lit)]
    (off_cons n8.symm (off_cons n5.symm (off_cons n6.symm (off_cons n7.symm off_nil)))) (off_cons hne (off_cons n3.symm (off_cons n2.symm (off_cons n1.symm (off_cons nli.symm off_nil)))))
  simp only [List.nil_append, List.cons_append] at hU
  rw [show ((lawTurn w.params).drop 7).take 1 ++ rest = _ :: rest from rfl]
  unfold lawEnv at k ⊢
  rw [show lawScope w.params = ⟨_, _, _, _, _⟩ from rfl] at k ⊢
  k_steps
  unfold Stop
  rename_i kk tt so1 hh1 tk1 hk1 hk2 hso1 F1 N1 hh2 tk2 t1 u1 v1 R1 F2 N2 R2
  obtain ⟨n, rfl⟩ : ∃ n : Nat, kk = (n : Int) := ⟨kk.toNat, by omega⟩
  refine LCg.CompSrc.range (n := n) (by rfl) F2 N2 R1 (small_one (by omega) (by omega) (by omega) (by omega)) (rangeSize_nat _ _) (by rw [sizeLine_eq]; omega) ?_
  intro g'
  refine comp_inv (NJ vs ns [(vl, W.listOf [ho, db, us, pw, po].toArray 0), (u, urlObj dn us pw ho po db dx q), (dx, nilObj), (q, immObj d2)] [(sc, W.listOf vs.toArray 0), (L + 3, oM), (L + 2, oP), (L + 1, oS), (li, lit)] st sc) ?_ ?_ _ 0 [] _ (Nat.zero_add _) ⟨rfl, (fun _ h => nomatch h), so1, hso1, rfl⟩
  · clear F1 N1 F2 N2 R1 R2
    rintro i ys news v I oI C oC D m2 h tk E' hi ⟨hy, hyn, so2, hso2, rfl⟩ hv hC hx F N off ne
    simp only [List.nil_append, List.cons_append] at N off ⊢
    have off2 := off
    simp only [LCg.Off3, and_true] at off
    obtain ⟨⟨-, -, -⟩, ⟨-, -, -⟩, ⟨-, -, -⟩, ⟨-, -, -⟩, ⟨f1, f2, f3⟩, -⟩ := off
    have hU := updAll (d := st) [(I, oI), (C, oC), (D, LCg.lst ys), (vl, W.listOf [ho, db, us, pw, po].toArray 0), (u, urlObj dn us pw ho po db dx q), (dx, nilObj), (q, immObj d2)] [(sc, W.listOf vs.toArray 0), (L + 3, oM), (L + 2, oP), (L + 1, oS), (li, lit)]
      (off_cons f1.symm (off_cons f2.symm (off_cons f3.symm (off_cons n8.symm (off_cons n5.symm (off_cons n6.symm (off_cons n7.symm off_nil))))))) (off_cons hne (off_cons n3.symm (off_cons n2.symm (off_cons n1.symm (off_cons nli.symm off_nil)))))
    simp only [List.nil_append, List.cons_append] at hU
    k_steps
    unfold Stop
    rename Fr _ _ _ _ => F'
    rename News _ _ _ _ => N'
    refine LCg.CompEnd.intro F' N' _ (fun p hp => hp) off2 trivial ⟨by rw [List.length_append, hy]; rfl, ?_, _, by assumption, rfl⟩
    intro x hx
    rcases List.mem_append.mp hx with z | z
    · exact hyn x z
    · rw [List.mem_singleton.mp z]; assumption
  · clear F1 N1 F2 N2 R1 R2
    rintro ys news ⟨hy, hyn, so2, hso2, rfl⟩
    simp only [List.nil_append, List.cons_append]
    intro D h tk F N off
    refine k so2 ys D h tk _ N hso2 hyn (by omega) rfl ?_ ?_ off.2.2.2.2.1 F
    · rw [if_neg (by decide)]; exact hmu
    · rw [if_neg (by decide)]; exact hmv
end
end Mine
end
section
open PySem PySem.W PySem.W.X PyProof.Rows PySem.Calls
set_option Elab.async false
set_option maxRecDepth 100000
set_option maxHeartbeats 4000000
set_option pp.deepTerms false
set_option pp.maxSteps 2000
namespace Mine
section
variable {w : World} {s : Shared} {g : Heap} {L fa : Addr} {cd : Value} {m : Str → Option Value} {mg mb : Str → Option Value}
theorem ph_C0 {st sc li : Addr} {so oM oP oS lit : Obj} {vs : List Value} {ns : List Int} {rest : List Stmt} {Q : Flow → Shared → Prop} {E : Value → Shared → Prop} {us pw ho po db dn : Value} {u q dx d2 vl nl : Addr} {ys : List Value} (X : (heap w.params).In g) (T : TR mg mb g)
    (F : Fr g L s.heap m) (N : News g L s.heap [(nl, W.listOf ys.toArray ys.length), (vl, W.listOf [ho, db, us, pw, po].toArray 0), (u, urlObj dn us pw ho po db dx q), (dx, nilObj), (q, immObj d2), (st, so), (sc, W.listOf vs.toArray 0), (L + 3, oM), (L + 2, oP), (L + 1, oS), (li, lit)])
    (k : ∀ (oR : Obj) (rl : Addr) (h' : Heap) (t' : Nat), News g L h' [(rl, oR), (nl, W.listOf ys.toArray ys.length), (vl, W.listOf [ho, db, us, pw, po].toArray 0), (u, urlObj dn us pw ho po db dx q), (dx, nilObj), (q, immObj d2), (st, so), (sc, W.listOf vs.toArray 0), (L + 3, oM), (L + 2, oP), (L + 1, oS), (li, lit)] →
      oR.IsDictOf (strKind Mine.pw w) [] → (rl == sysModules) = false → (nl < rl ∧ vl < rl ∧ u < rl ∧ dx < rl ∧ q < rl ∧ st < rl ∧ sc < rl ∧ L + 3 < rl ∧ L + 2 < rl ∧ L + 1 < rl ∧ li < rl) → Fr g L h' (fun y => if y = Str.ofString "renames" then some (.ref rl) else m y) →
      wpAny (model Mine.pw w) AL (execs rest (lawEnv w.params L fa cd)) Q E { s with heap := h', toks := t' }) :
    wpAny (model Mine.pw w) AL (execs (((lawTurn w.params).drop 8).take 1 ++ rest) (lawEnv w.params L fa cd)) Q E s := by
  w_on
  have dummy : heap = heap ∧ PySem.Challenge.rw_bq5036_01 = PySem.Challenge.rw_bq5036_01 := by
    k_fill
    exact ⟨rfl, rfl⟩
  clear dummy
  rw [show ((lawTurn w.params).drop 8).take 1 ++ rest = _ :: rest from rfl]
  unfold lawEnv at k ⊢
  rw [show lawScope w.params = ⟨_, _, _, _, _⟩ from rfl] at k ⊢
  k_steps
  rename News _ _ _ _ => N'
  exact k _ _ _ _ N' (by assumption) (by assumption) (by assumption) (by assumption)
end
end Mine
end
section
open PySem PySem.W PySem.W.X PyProof.Rows PySem.Calls
set_option Elab.async false
set_option maxRecDepth 100000
set_option maxHeartbeats 4000000
set_option pp.deepTerms false
set_option pp.maxSteps 2000
local macro_rules | `(tactic| walk_at "subscriptTail") => `(tactic| (refine Mine.item_tgt (by assumption) (by assumption) (by assumption) (by assumption) ?_; intro v' hv'))
local macro_rules | `(tactic| walk_at "subscriptTail") => `(tactic| (refine Mine.item_fld (by assumption) (by assumption) (by assumption) (by assumption) ?_; intro f' ft' hf'))
local macro_rules | `(tactic| walk_at "call ref") => `(tactic| ((with_reducible show wpAny _ _ (call (Value.ref 494) _) _ _ _); refine Mine.use_nextU (Nat.le_of_ble_eq_true (by with_unfolding_all rfl)) (Nat.le_of_ble_eq_true (by with_unfolding_all rfl)) (by assumption) (by assumption) (by assumption) (by assumption) (by assumption) (by assumption) (by k_memK) (by assumption) (by assumption) (by assumption) (by decide) ?_; intro k' t' so' h' tk' hk1 hk2 hso' F' N'; (try dsimp only at N'); k_sweep))
local macro_rules | `(tactic| walk_at "setItem ref str") => `(tactic| (refine Mine.set_U (‹∀ o, Mine.UpdAll _ _› _) (by assumption) (by assumption) (by assumption) (by omega) ?_; intro h' o' t' F' N' hd'; (try dsimp only at N'); k_sweep))
local macro_rules | `(tactic| walk_at "exec For Name Call cons nil") => `(tactic| ((rename Fr _ _ _ _ => lF'); (with_unfolding_all refine' For_invVF lF' ?k1 ?k2 ?_; (case k1 => exact rfl); (case k2 => exact rfl))))
local macro_rules | `(tactic| walk_at "pyIter ref") => `(tactic| (refine Mine.stop_i ?_))
local macro_rules | `(tactic| walk_at "UnrEnd") => `(tactic| (refine Mine.stop_i ?_))
namespace Mine
/-- what holds while the other names are drawn -/
def CI (w : World) (ns : List Int) (rl u vl nl st sc : Addr) (pre post : List (Addr × Obj)) (i : Nat) (m : Str → Option Value) (news : List (Addr × Obj)) : Prop :=
  ∃ so oR kvs, m (Str.ofString "renames") = some (.ref rl) ∧ m (Str.ofString "url") = some (.ref u) ∧ m (Str.ofString "values") = some (.ref vl) ∧ m (Str.ofString "names") = some (.ref nl) ∧ StOk sc ns so ∧ oR.IsDictOf (strKind Mine.pw w) kvs ∧ (∀ p ∈ kvs, Nv p.2 ∧ Fld p.1) ∧ kvs.length ≤ i ∧ news = (rl, oR) :: (pre ++ (st, so) :: post)
section
variable {w : World} {s : Shared} {g : Heap} {L fa : Addr} {cd : Value} {m : Str → Option Value} {mg mb : Str → Option Value}
theorem ph_C {st sc li : Addr} {so oM oP oS oR lit : Obj} {vs : List Value} {ns : List Int} {rest : List Stmt} {Q : Flow → Shared → Prop} {us pw ho po db dn : Value} {u q dx d2 vl nl rl : Addr} {ys : List Value} (X : (heap w.params).In g) (T : TR mg mb g)
    (hns : IntsAre vs ns) (hlen : ns.length ≤ 60) (F : Fr g L s.heap m) (N : News g L s.heap [(rl, oR), (nl, W.listOf ys.toArray ys.length), (vl, W.listOf [ho, db, us, pw, po].toArray 0), (u, urlObj dn us pw ho po db dx q), (dx, nilObj), (q, immObj d2), (st, so), (sc, W.listOf vs.toArray 0), (L + 3, oM), (L + 2, oP), (L + 1, oS), (li, lit)]) (hso : StOk sc ns so) (hS : oS.data = .cell (some (.ref st))) (hR : oR.IsDictOf (strKind Mine.pw w) [])
    (hne : @Ne Nat sc st) (n1 : @Ne Nat st (L + 1)) (n2 : @Ne Nat st (L + 2)) (n3 : @Ne Nat st (L + 3)) (nli : @Ne Nat st li) (n5 : @Ne Nat st u) (n6 : @Ne Nat st dx) (n7 : @Ne Nat st q) (n8 : @Ne Nat st vl) (n9 : @Ne Nat st nl)
    (hl : nl < rl ∧ vl < rl ∧ u < rl ∧ dx < rl ∧ q < rl ∧ st < rl ∧ sc < rl ∧ L + 3 < rl ∧ L + 2 < rl ∧ L + 1 < rl ∧ li < rl)
    (hmr : m (Str.ofString "renames") = some (.ref rl)) (hmu : m (Str.ofString "url") = some (.ref u)) (hmv : m (Str.ofString "values") = some (.ref vl)) (hmn : m (Str.ofString "names") = some (.ref nl))
    (k : ∀ (so' oR : Obj) (kvs : List (Str × Value)) (h' : Heap) (t' : Nat) (m' : Str → Option Value), News g L h' [(rl, oR), (nl, W.listOf ys.toArray ys.length), (vl, W.listOf [ho, db, us, pw, po].toArray 0), (u, urlObj dn us pw ho po db dx q), (dx, nilObj), (q, immObj d2), (st, so'), (sc, W.listOf vs.toArray 0), (L + 3, oM), (L + 2, oP), (L + 1, oS), (li, lit)] →
      oR.IsDictOf (strKind Mine.pw w) kvs → (∀ p ∈ kvs, Nv p.2 ∧ Fld p.1) → kvs.length ≤ 5 → m' (Str.ofString "renames") = some (.ref rl) → m' (Str.ofString "names") = some (.ref nl) → m' (Str.ofString "url") = some (.ref u) → m' (Str.ofString "values") = some (.ref vl) → StOk sc ns so' → Fr g L h' m' →
      wpAny (model Mine.pw w) AL (execs rest (lawEnv w.params L fa cd)) Q (fun _ _ => False) { s with heap := h', toks := t' }) :
    wpAny (model Mine.pw w) AL (execs (((lawTurn w.params).drop 9).take 1 ++ rest) (lawEnv w.params L fa cd)) Q (fun _ _ => False) s := by
  w_on
  have dummy : heap = heap ∧ PySem.Challenge.rw_bq5036_01 = PySem.Challenge.rw_bq5036_01 := by
    k_fill
    exact ⟨rfl, rfl⟩
  clear dummy
  have hU := updAll (d := st) [(rl, oR), (nl, W.listOf ys.toArray ys.length), (vl, W.listOf [ho, db, us, pw, po].toArray 0), (u, urlObj dn us pw ho po db dx q), (dx, nilObj), (q, immObj d2)] [(sc, W.listOf vs.toArray 0), (L + 3, oM), (L + 2, oP), (L + 1, oS), (li, lit)]
    (off_cons (Nat.ne_of_gt hl.2.2.2.2.2.1) (off_cons n9.symm (off_cons n8.symm (off_cons n5.symm (off_cons n6.symm (off_cons n7.symm off_nil)))))) (off_cons hne (off_cons n3.symm (off_cons n2.symm (off_cons n1.symm (off_cons nli.symm off_nil)))))
  simp only [List.nil_append, List.cons_append] at hU
  rw [show ((lawTurn w.params).drop 9).take 1 ++ rest = _ :: rest from rfl]
  unfold lawEnv at k ⊢
  rw [show lawScope w.params = ⟨_, _, _, _, _⟩ from rfl] at k ⊢
  k_steps
  rename_i kk tt so1 hh1 tk1 hk1 hk2 hso1 F1 N1 hh2 tk2 t1 u1 v1 R1 F2 N2 R2
  obtain ⟨n, rfl⟩ : ∃ n : Nat, kk = (n : Int) := ⟨kk.toNat, by omega⟩
  refine iter_rangeUnr (n := n) (by rfl) R1 (small_one (by omega) (by omega) (by omega) (by omega)) (rangeSize_nat _ _) F2 N2 ?_
  intro I hI
  have oI : ∀ o1 o2, ∀ p ∈ (rl, o1) :: ([(nl, W.listOf ys.toArray ys.length), (vl, W.listOf [ho, db, us, pw, po].toArray 0), (u, urlObj dn us pw ho po db dx q), (dx, nilObj), (q, immObj d2)] ++ (st, o2) :: [(sc, W.listOf vs.toArray 0), (L + 3, oM), (L + 2, oP), (L + 1, oS), (li, lit)]), p.1 ≠ I := by
    intro o1 o2
    refine List.forall_mem_cons.mpr ⟨Nat.ne_of_lt (hI (rl, oR) (by k_memK)), ?_⟩
    refine List.forall_mem_cons.mpr ⟨Nat.ne_of_lt (hI (nl, _) (by k_memK)), ?_⟩
    refine List.forall_mem_cons.mpr ⟨Nat.ne_of_lt (hI (vl, _) (by k_memK)), ?_⟩
    refine List.forall_mem_cons.mpr ⟨Nat.ne_of_lt (hI (u, _) (by k_memK)), ?_⟩
    refine List.forall_mem_cons.mpr ⟨Nat.ne_of_lt (hI (dx, _) (by k_memK)), ?_⟩
    refine List.forall_mem_cons.mpr ⟨Nat.ne_of_lt (hI (q, _) (by k_memK)), ?_⟩
    refine List.forall_mem_cons.mpr ⟨Nat.ne_of_lt (hI (st, so1) (by k_memK)), ?_⟩
    refine List.forall_mem_cons.mpr ⟨Nat.ne_of_lt (hI (sc, _) (by k_memK)), ?_⟩
    refine List.forall_mem_cons.mpr ⟨Nat.ne_of_lt (hI (L + 3, _) (by k_memK)), ?_⟩
    refine List.forall_mem_cons.mpr ⟨Nat.ne_of_lt (hI (L + 2, _) (by k_memK)), ?_⟩
    refine List.forall_mem_cons.mpr ⟨Nat.ne_of_lt (hI (L + 1, _) (by k_memK)), ?_⟩
    refine List.forall_mem_cons.mpr ⟨Nat.ne_of_lt (hI (li, _) (by k_memK)), List.forall_mem_nil _⟩
  have i1 := oI oR so1 (rl, oR) (by k_memK)
  have i2 := oI oR so1 (st, so1) (by k_memK)
  clear F1 N1 F2 N2 R1 R2 hU
  refine rest_of_range (CI w ns rl u vl nl st sc [(nl, W.listOf ys.toArray ys.length), (vl, W.listOf [ho, db, us, pw, po].toArray 0), (u, urlObj dn us pw ho po db dx q), (dx, nilObj), (q, immObj d2)] [(sc, W.listOf vs.toArray 0), (L + 3, oM), (L + 2, oP), (L + 1, oS), (li, lit)]) ?ht ?hz n 0 _ _ (Nat.zero_add _) ⟨so1, oR, [], hmr, hmu, hmv, hmn, hso1, hR, (fun _ h => nomatch h), Nat.le_refl _, rfl⟩
  case hz =>
    rintro m2 news h tk ⟨so2, oR2, kv2, m1, m2, m3, m4, hso2, hR2, hk3, hk4, rfl⟩ F N
    exact k so2 oR2 kv2 h tk _ N hR2 hk3 (by omega) m1 m4 m2 m3 hso2 F
  case ht =>
    rintro i m2 news it t h tk hi ⟨so2, oR2, kv2, m1, m2, m3, m4, hso2, hR2, hk3, hk4, rfl⟩ hit F N
    have F := fr_known F (x := Str.ofString "names") (by rw [if_neg (by decide)]; exact m4)
    have F := fr_known F (x := Str.ofString "values") (by rw [if_neg (by decide), if_neg (by decide)]; exact m3)
    have F := fr_known F (x := Str.ofString "url") (by rw [if_neg (by decide), if_neg (by decide), if_neg (by decide)]; exact m2)
    have F := fr_known F (x := Str.ofString "renames") (by rw [if_neg (by decide), if_neg (by decide), if_neg (by decide), if_neg (by decide)]; exact m1)
    have hU := updAll (d := st) [(I, it), (rl, oR2), (nl, W.listOf ys.toArray ys.length), (vl, W.listOf [ho, db, us, pw, po].toArray 0), (u, urlObj dn us pw ho po db dx q), (dx, nilObj), (q, immObj d2)] [(sc, W.listOf vs.toArray 0), (L + 3, oM), (L + 2, oP), (L + 1, oS), (li, lit)]
      (off_cons (Ne.symm i2) (off_cons (Nat.ne_of_gt hl.2.2.2.2.2.1) (off_cons n9.symm (off_cons n8.symm (off_cons n5.symm (off_cons n6.symm (off_cons n7.symm off_nil))))))) (off_cons hne (off_cons n3.symm (off_cons n2.symm (off_cons n1.symm (off_cons nli.symm off_nil)))))
    simp only [List.nil_append, List.cons_append] at hU N
    have hV : ∀ o, UpdAll rl (fun o' => [(I, it)] ++ (rl, o') :: ([(nl, W.listOf ys.toArray ys.length), (vl, W.listOf [ho, db, us, pw, po].toArray 0), (u, urlObj dn us pw ho po db dx q), (dx, nilObj), (q, immObj d2)] ++ (st, o) :: [(sc, W.listOf vs.toArray 0), (L + 3, oM), (L + 2, oP), (L + 1, oS), (li, lit)])) := fun o => updAll (d := rl) [(I, it)] ([(nl, W.listOf ys.toArray ys.length), (vl, W.listOf [ho, db, us, pw, po].toArray 0), (u, urlObj dn us pw ho po db dx q), (dx, nilObj), (q, immObj d2)] ++ (st, o) :: [(sc, W.listOf vs.toArray 0), (L + 3, oM), (L + 2, oP), (L + 1, oS), (li, lit)]) (off_cons (Ne.symm i1) off_nil)
      (off_cons (Nat.ne_of_lt hl.1) (off_cons (Nat.ne_of_lt hl.2.1) (off_cons (Nat.ne_of_lt hl.2.2.1) (off_cons (Nat.ne_of_lt hl.2.2.2.1) (off_cons (Nat.ne_of_lt hl.2.2.2.2.1) (off_cons (Nat.ne_of_lt hl.2.2.2.2.2.1) (off_cons (Nat.ne_of_lt hl.2.2.2.2.2.2.1) (off_cons (Nat.ne_of_lt hl.2.2.2.2.2.2.2.1) (off_cons (Nat.ne_of_lt hl.2.2.2.2.2.2.2.2.1) (off_cons (Nat.ne_of_lt hl.2.2.2.2.2.2.2.2.2.1) (off_cons (Nat.ne_of_lt hl.2.2.2.2.2.2.2.2.2.2) off_nil)))))))))))
    simp only [List.nil_append, List.cons_append] at hV
    k_steps
    unfold Stop
    rename Fr _ _ _ _ => F'
    rename News _ _ _ _ => N'
    refine unr_end F' N' (oI _ _) ⟨_, _, _, rfl, rfl, rfl, rfl, by assumption, by assumption, ?_, Nat.le_trans (stored_length_le _ _ _) (Nat.succ_le_succ hk4), rfl⟩
    exact stored_pair hk3 (by assumption) (by assumption)
end
end Mine
end
section
open PySem PySem.W PySem.W.X PyProof.Rows PySem.Calls
set_option Elab.async false
set_option maxRecDepth 100000
set_option maxHeartbeats 4000000
set_option pp.deepTerms false
set_option pp.maxSteps 2000
local macro_rules | `(tactic| walk_at "compareOp Eq ref ref") => `(tactic| (refine Mine.eq_nil (News.isList (by assumption) (by k_memK)) (News.isList (by assumption) (by k_memK)) (by decide) ?_))
local macro_rules | `(tactic| walk_at "compareOp Eq ref ref") => `(tactic| (refine Mine.eq_cons (News.isList (by assumption) (by k_memK)) (News.isList (by assumption) (by k_memK)) (by decide) ?_))
local macro_rules | `(tactic| walk_at "eval Call Attribute") => `(tactic| ((with_reducible show wpAny _ _ (eval (Expr.Call (Expr.Attribute _ _ _) _ [⟨none, Expr.Name _ _, _⟩] _) _) _ _ _); refine Mine.call_kwstar ?_))
local macro_rules | `(tactic| walk_at "getAttr ref") => `(tactic| (refine Mine.get_trn (by assumption) (by assumption) (by assumption) (Mine.UrlAt.of_news (by assumption) (by k_memK) (by k_memK) (by k_memK)) ?_; intro qm' h' t' F' N' l1; k_lt l1))
local macro_rules | `(tactic| walk_at "callWith ref") => `(tactic| (refine Mine.kw_call (by with_unfolding_all rfl) (by with_unfolding_all rfl) (by with_unfolding_all decide) (by with_unfolding_all first | exact .inl rfl | exact .inr ⟨_, rfl⟩) ?_))
namespace Mine
section
variable {w : World} {s : Shared} {g : Heap} {L fa : Addr} {cd : Value} {m : Str → Option Value} {mg mb : Str → Option Value}
theorem ph_D {lit so oC oS oM oP oR : Obj} {rest : List Stmt} {Q : Flow → Shared → Prop} {us pw ho po db dn : Value} {li st sc u q dx d2 vl nl rl : Addr} {ys : List Value} {kvs : List (Str × Value)} (X : (heap w.params).In g) (T : TR mg mb g)
    (F : Fr g L s.heap m) (N : News g L s.heap [(rl, oR), (nl, W.listOf ys.toArray ys.length), (vl, W.listOf [ho, db, us, pw, po].toArray 0), (u, urlObj dn us pw ho po db dx q), (dx, nilObj), (q, immObj d2), (L + 3, oM), (L + 2, oP), (st, so), (sc, oC), (L + 1, oS), (li, lit)]) (hR : oR.IsDictOf (strKind Mine.pw w) kvs) (hk : ∀ p ∈ kvs, Nv p.2 ∧ Fld p.1) (hys : ∀ v ∈ ys, Nv v) (hyl : ys.length ≤ 6) (hrl : (rl == sysModules) = false) (hkl : kvs.length ≤ 5)
    (h1 : Pv ho) (h2 : Pv db) (h3 : Pv us) (h4 : Pv pw) (h5 : Pv po)
    (hmr : m (Str.ofString "renames") = some (.ref rl)) (hmu : m (Str.ofString "url") = some (.ref u)) (hmv : m (Str.ofString "values") = some (.ref vl)) (hmn : m (Str.ofString "names") = some (.ref nl))
    (k : ∀ (a : Addr) (o : Obj) (tks : List (Str × Value)) (h' : Heap) (t' : Nat) (m' : Str → Option Value), News g L h' [(a, o), (rl, oR), (nl, W.listOf ys.toArray ys.length), (vl, W.listOf [ho, db, us, pw, po].toArray 0), (u, urlObj dn us pw ho po db dx q), (dx, nilObj), (q, immObj d2), (L + 3, oM), (L + 2, oP), (st, so), (sc, oC), (L + 1, oS), (li, lit)] → Told w o tks (told (ys.map er) (kvs.map erp) (fieldsOf ho db us pw po) []) a → (@Ne Nat (L + 3) a ∧ @Ne Nat (L + 2) a) →
      m' (Str.ofString "told") = some (.ref a) → m' (Str.ofString "renames") = some (.ref rl) → m' (Str.ofString "names") = some (.ref nl) → m' (Str.ofString "url") = some (.ref u) → m' (Str.ofString "values") = some (.ref vl) → Fr g L h' m' →
      wpAny (model Mine.pw w) AL (execs rest (lawEnv w.params L fa cd)) Q (fun _ _ => False) { s with heap := h', toks := t' }) :
    wpAny (model Mine.pw w) AL (execs (((lawTurn w.params).drop 10).take 1 ++ rest) (lawEnv w.params L fa cd)) Q (fun _ _ => False) s := by
  w_on
  have dummy : heap = heap ∧ PySem.Challenge.rw_bq5036_01 = PySem.Challenge.rw_bq5036_01 := by
    k_fill
    exact ⟨rfl, rfl⟩
  clear dummy
  rw [show ((lawTurn w.params).drop 10).take 1 ++ rest = _ :: rest from rfl]
  unfold lawEnv at k ⊢
  rw [show lawScope w.params = ⟨_, _, _, _, _⟩ from rfl] at k ⊢
  have F := fr_known F hmn
  have F := fr_known F (x := Str.ofString "values") (by rw [if_neg (by decide)]; exact hmv)
  have F := fr_known F (x := Str.ofString "url") (by rw [if_neg (by decide), if_neg (by decide)]; exact hmu)
  have F := fr_known F (x := Str.ofString "renames") (by rw [if_neg (by decide), if_neg (by decide), if_neg (by decide)]; exact hmr)
  have hnd := keysNodup_of_isDictOf hR
  rcases ys with _ | ⟨y0, ys⟩
  · k_steps
    rename Fr _ _ _ _ => F'
    rename News _ _ _ _ => N'
    refine ⟨_, _, _, rl, oR, kvs, _, .ref u, F', N', rfl, by k_memK, hR, hrl, by omega, rfl, by k_memK, X, fun hp2 t2 F2 N2 => ?_⟩
    refine call_meth N2 (.head _) (trn0_code (by decide) (by decide) rfl F2 N2 X T (UrlAt.of_news N2 (by k_memK) (by k_memK) (by k_memK)) h1 h2 h3 h4 h5 hk hnd (by omega) fun a o tks hp3 t3 ht F3 N3 off => ?_)
    clear F' N' F2 N2
    have o3 : @Ne Nat (L + 3) a := off (L + 3, oM) (by k_memK)
    have o2 : @Ne Nat (L + 2) a := off (L + 2, oP) (by k_memK)
    k_steps
    rename Fr _ _ _ _ => F'
    rename News _ _ _ _ => N'
    refine' k _ _ _ _ _ _ (news_sub N' ?nw) ht ⟨o3, o2⟩ rfl rfl rfl rfl rfl F'
    case nw =>
      repeat (refine all_cons (by k_memK) ?_)
      exact all_nil
  · k_steps
    rename Fr _ _ _ _ => F'
    rename News _ _ _ _ => N'
    rename_i nm' nmn hh' l9
    refine ⟨_, _, _, rl, oR, kvs, _, .ref u, F', N', rfl, by k_memK, hR, hrl, by omega, rfl, by k_memK, X, fun hp2 t2 F2 N2 => ?_⟩
    refine call_meth N2 (by k_memK) (trnL_code (by decide) (by decide) rfl F2 N2 ?off X T (UrlAt.of_news N2 (by k_memK) (by k_memK) (by k_memK)) h1 h2 h3 h4 h5 hk hnd (by omega) hys (by omega) fun a o tks hp3 t3 ht F3 N3 off => ?_)
    case off => exact (off_cons (Nat.ne_of_lt l9.1) (off_cons (Nat.ne_of_lt l9.2.1) (off_cons (Nat.ne_of_lt l9.2.2.1) (off_cons (Nat.ne_of_lt l9.2.2.2.1) (off_cons (Nat.ne_of_lt l9.2.2.2.2.1) (off_cons (Nat.ne_of_lt l9.2.2.2.2.2.1) (off_cons (Nat.ne_of_lt l9.2.2.2.2.2.2.1) (off_cons (Nat.ne_of_lt l9.2.2.2.2.2.2.2.1) (off_cons (Nat.ne_of_lt l9.2.2.2.2.2.2.2.2.1) (off_cons (Nat.ne_of_lt l9.2.2.2.2.2.2.2.2.2.1) (off_cons (Nat.ne_of_lt l9.2.2.2.2.2.2.2.2.2.2.1) (off_cons (Nat.ne_of_lt l9.2.2.2.2.2.2.2.2.2.2.2.1) (off_cons (Nat.ne_of_lt l9.2.2.2.2.2.2.2.2.2.2.2.2.1) (off_cons (Nat.ne_of_lt l9.2.2.2.2.2.2.2.2.2.2.2.2.2) off_nil))))))))))))))
    clear F' N' F2 N2
    have o3 : @Ne Nat (L + 3) a := off (L + 3, oM) (by k_memK)
    have o2 : @Ne Nat (L + 2) a := off (L + 2, oP) (by k_memK)
    k_steps
    rename Fr _ _ _ _ => F'
    rename News _ _ _ _ => N'
    refine' k _ _ _ _ _ _ (news_sub N' ?nw) ht ⟨o3, o2⟩ rfl rfl rfl rfl rfl F'
    case nw =>
      repeat (refine all_cons (by k_memK) ?_)
      exact all_nil
end
end Mine
end
section
open PySem PySem.W PySem.W.X PyProof.Rows PySem.Calls
set_option Elab.async false
set_option maxRecDepth 100000
set_option maxHeartbeats 4000000
set_option pp.deepTerms false
set_option pp.maxSteps 2000
local macro_rules | `(tactic| walk_at "compareOp NotEq ref ref") => `(tactic| (refine Mine.keys_ne (by with_unfolding_all decide) (by assumption) (by k_memK) (by k_memK) (by assumption) (by assumption) ?_))
local macro_rules | `(tactic| walk_at "compareOp NotEq ref ref") => `(tactic| (refine Mine.told_ne (by with_unfolding_all decide) (by assumption) (by k_memK) (by k_memK) (by assumption) (by assumption) ?_))
local macro_rules | `(tactic| walk_at "call type:list") => `(tactic| (refine Mine.list_told (by with_unfolding_all rfl) (by assumption) (by assumption) (by k_memK) (by assumption) ?_; intro B' c' h' tk' vs' hks' F' N' l1; clear l1))
local macro_rules | `(tactic| walk_at "call ref") => `(tactic| ((with_reducible show wpAny _ _ (call (Value.ref 503) _) _ _ _); refine Mine.use_due (Nat.le_of_ble_eq_true (by with_unfolding_all rfl)) (Nat.le_of_ble_eq_true (by with_unfolding_all rfl)) (by with_unfolding_all rfl) (by assumption) (by assumption) (by assumption) (by assumption) (by k_memK) (by k_memK) (by k_memK) (by assumption) (by assumption) (by assumption) (by assumption) (by assumption) (by assumption) (by assumption) (by assumption) (by assumption) (by omega) ?_; intro a' o' tks' h' t' ht' F' N' off'; clear off'))
namespace Mine
section
variable {w : World} {s : Shared} {g : Heap} {L fa : Addr} {cd : Value} {m : Str → Option Value} {mg mb : Str → Option Value}
theorem ph_E {lit so oC oS oM oP oR o : Obj} {rest : List Stmt} {Q : Flow → Shared → Prop} {us pw ho po db dn : Value} {li st sc u q dx d2 vl nl rl a : Addr} {ys : List Value} {kvs tks : List (Str × Value)} (X : (heap w.params).In g) (T : TR mg mb g)
    (F : Fr g L s.heap m) (N : News g L s.heap [(a, o), (rl, oR), (nl, W.listOf ys.toArray ys.length), (vl, W.listOf [ho, db, us, pw, po].toArray 0), (u, urlObj dn us pw ho po db dx q), (dx, nilObj), (q, immObj d2), (L + 3, oM), (L + 2, oP), (st, so), (sc, oC), (L + 1, oS), (li, lit)]) (hR : oR.IsDictOf (strKind Mine.pw w) kvs) (hk : ∀ p ∈ kvs, Nv p.2 ∧ Fld p.1) (hys : ∀ v ∈ ys, Nv v) (hyl : ys.length ≤ 6) (hrl : (rl == sysModules) = false)
    (h1 : Pv ho) (h2 : Pv db) (h3 : Pv us) (h4 : Pv pw) (h5 : Pv po) (ht : Told w o tks (told (ys.map er) (kvs.map erp) (fieldsOf ho db us pw po) []) a)
    (hmt : m (Str.ofString "told") = some (.ref a)) (hmr : m (Str.ofString "renames") = some (.ref rl)) (hmn : m (Str.ofString "names") = some (.ref nl)) (hmu : m (Str.ofString "url") = some (.ref u)) (hmv : m (Str.ofString "values") = some (.ref vl))
    (k : ∀ (h' : Heap) (t' : Nat) (m' : Str → Option Value), News g L h' [(vl, W.listOf [ho, db, us, pw, po].toArray 0), (u, urlObj dn us pw ho po db dx q), (dx, nilObj), (q, immObj d2), (L + 3, oM), (L + 2, oP), (st, so), (sc, oC), (L + 1, oS), (li, lit)] → m' (Str.ofString "url") = some (.ref u) → m' (Str.ofString "values") = some (.ref vl) → Fr g L h' m' →
      wpAny (model Mine.pw w) AL (execs rest (lawEnv w.params L fa cd)) Q (fun _ _ => False) { s with heap := h', toks := t' }) :
    wpAny (model Mine.pw w) AL (execs (((lawTurn w.params).drop 11).take 1 ++ rest) (lawEnv w.params L fa cd)) Q (fun _ _ => False) s := by
  w_on
  have dummy : heap = heap ∧ PySem.Challenge.rw_bq5036_01 = PySem.Challenge.rw_bq5036_01 := by
    k_fill
    exact ⟨rfl, rfl⟩
  clear dummy
  rw [show ((lawTurn w.params).drop 11).take 1 ++ rest = _ :: rest from rfl]
  unfold lawEnv at k ⊢
  rw [show lawScope w.params = ⟨_, _, _, _, _⟩ from rfl] at k ⊢
  have hk1 : ∀ p ∈ kvs, Nv p.2 := fun p hp => (hk p hp).1
  have F := fr_known F hmn
  have F := fr_known F (x := Str.ofString "values") (by rw [if_neg (by decide)]; exact hmv)
  have F := fr_known F (x := Str.ofString "url") (by rw [if_neg (by decide), if_neg (by decide)]; exact hmu)
  have F := fr_known F (x := Str.ofString "renames") (by rw [if_neg (by decide), if_neg (by decide), if_neg (by decide)]; exact hmr)
  have F := fr_known F (x := Str.ofString "told") (by rw [if_neg (by decide), if_neg (by decide), if_neg (by decide), if_neg (by decide)]; exact hmt)
  k_steps
  rename Fr _ _ _ _ => F'
  rename News _ _ _ _ => N'
  refine' k _ _ _ (news_sub N' ?nw) rfl rfl F'
  case nw =>
    repeat (refine all_cons (by k_memK) ?_)
    exact all_nil
end
end Mine
end
section
open PySem PySem.W PySem.W.X PyProof.Rows PySem.Calls
set_option Elab.async false
set_option maxRecDepth 100000
set_option maxHeartbeats 4000000
set_option pp.deepTerms false
set_option pp.maxSteps 2000
local macro_rules | `(tactic| walk_at "compareOp NotEq ref ref") => `(tactic| (refine Mine.keys_ne (by with_unfolding_all decide) (by assumption) (by k_memK) (by k_memK) (by assumption) (by assumption) ?_))
local macro_rules | `(tactic| walk_at "compareOp NotEq ref ref") => `(tactic| (refine Mine.told_ne (by with_unfolding_all decide) (by assumption) (by k_memK) (by k_memK) (by assumption) (by assumption) ?_))
local macro_rules | `(tactic| walk_at "call type:list") => `(tactic| (refine Mine.list_told (by with_unfolding_all rfl) (by assumption) (by assumption) (by k_memK) (by assumption) ?_; intro B' c' h' tk' vs' hks' F' N' l1; clear l1))
local macro_rules | `(tactic| walk_at "call ref") => `(tactic| ((with_reducible show wpAny _ _ (call (Value.ref 503) _) _ _ _); refine Mine.use_due (Nat.le_of_ble_eq_true (by with_unfolding_all rfl)) (Nat.le_of_ble_eq_true (by with_unfolding_all rfl)) (by with_unfolding_all rfl) (by assumption) (by assumption) (by assumption) (by assumption) (by k_memK) (by k_memK) (by k_memK) (by assumption) (by assumption) (by assumption) (by assumption) (by assumption) (by assumption) (by assumption) (by assumption) (by assumption) (by first | omega | exact Nat.zero_le _) ?_; intro a' o' tks' h' t' ht' F' N' off'; clear off'; (try simp only [List.map_nil] at ht')))
local macro_rules | `(tactic| walk_at "getMethod ref") => `(tactic| ((with_reducible show wpAny _ _ (getMethod (Value.ref _) (Str.ofString "translate_connect_args") _) _ _ _); refine Mine.meth_trn (Frag.In.keeps ‹Frag.In _ _› (Fr.keep ‹_›)) (Mine.UrlAt.of_news (by assumption) (by k_memK) (by k_memK) (by k_memK)) ?_))
local macro_rules | `(tactic| walk_at "call ref") => `(tactic| ((with_reducible show wpAny _ _ (call (Value.ref 481) _) _ _ _); refine wpAny_call (Mine.trn0_code (kws := []) (Nat.le_of_ble_eq_true (by with_unfolding_all rfl)) (Nat.le_of_ble_eq_true (by with_unfolding_all rfl)) (by with_unfolding_all rfl) (by assumption) (by assumption) (by assumption) (by assumption) (Mine.UrlAt.of_news (by assumption) (by k_memK) (by k_memK) (by k_memK)) (by assumption) (by assumption) (by assumption) (by assumption) (by assumption) (List.forall_mem_nil _) List.nodup_nil (Nat.zero_le _) ?_); intro a' o' tks' h' t' ht' F' N' off'; replace off' := Mine.OffA.in off'; (try simp only [List.map_nil] at ht')))
local macro_rules | `(tactic| walk_at "storeName") => `(tactic| (refine Mine.stop_i ?_))
namespace Mine
section
variable {w : World} {s : Shared} {g : Heap} {L fa : Addr} {cd : Value} {m : Str → Option Value} {mg mb : Str → Option Value}
theorem ph_F {lit so oC oS oM oP : Obj} {xP : Option Value} {rest : List Stmt} {Q : Flow → Shared → Prop} {us pw ho po db dn : Value} {li st sc u q dx d2 vl : Addr} (X : (heap w.params).In g) (T : TR mg mb g)
    (F : Fr g L s.heap m) (N : News g L s.heap [(vl, W.listOf [ho, db, us, pw, po].toArray 0), (u, urlObj dn us pw ho po db dx q), (dx, nilObj), (q, immObj d2), (L + 3, oM), (L + 2, oP), (st, so), (sc, oC), (L + 1, oS), (li, lit)]) (hP : oP.data = .cell xP) (hc : CellOff L vl u dx q) (hst : StOff L st sc li)
    (h1 : Pv ho) (h2 : Pv db) (h3 : Pv us) (h4 : Pv pw) (h5 : Pv po)
    (hmu : m (Str.ofString "url") = some (.ref u)) (hmv : m (Str.ofString "values") = some (.ref vl))
    (k : ∀ (a : Addr) (o oP' : Obj) (tks : List (Str × Value)) (h' : Heap) (t' : Nat) (m' : Str → Option Value), News g L h' [(a, o), (vl, W.listOf [ho, db, us, pw, po].toArray 0), (u, urlObj dn us pw ho po db dx q), (dx, nilObj), (q, immObj d2), (L + 3, oM), (L + 2, oP'), (st, so), (sc, oC), (L + 1, oS), (li, lit)] → Told w o tks (told [] [] (fieldsOf ho db us pw po) []) a → oP'.data = .cell (some (.ref a)) → (@Ne Nat a (L + 3)) →
      m' (Str.ofString "url") = some (.ref u) → m' (Str.ofString "values") = some (.ref vl) → Fr g L h' m' →
      wpAny (model Mine.pw w) AL (execs rest (lawEnv w.params L fa cd)) Q (fun _ _ => False) { s with heap := h', toks := t' }) :
    wpAny (model Mine.pw w) AL (execs (((lawTurn w.params).drop 12).take 2 ++ rest) (lawEnv w.params L fa cd)) Q (fun _ _ => False) s := by
  w_on
  have dummy : heap = heap ∧ PySem.Challenge.rw_bq5036_01 = PySem.Challenge.rw_bq5036_01 := by
    k_fill
    exact ⟨rfl, rfl⟩
  clear dummy
  rw [show ((lawTurn w.params).drop 12).take 2 ++ rest = _ :: _ :: rest from rfl]
  unfold lawEnv at k ⊢
  rw [show lawScope w.params = ⟨_, _, _, _, _⟩ from rfl] at k ⊢
  have F := fr_known F hmv
  have F := fr_known F (x := Str.ofString "url") (by rw [if_neg (by decide)]; exact hmu)
  have z1 : ∀ p ∈ ([] : List (Str × Value)), Nv p.2 := List.forall_mem_nil _
  have z2 : ∀ v ∈ ([] : List Value), Nv v := List.forall_mem_nil _
  k_steps
  unfold Stop
  rename Told _ _ _ _ _ => ht
  rename OffA _ _ => off
  rename Fr _ _ _ _ => F1
  rename News _ _ _ _ => N1
  have oa2 := off.at (b := L + 2) (by k_memK)
  have oa3 := off.at (b := L + 3) (by k_memK)
  refine st_cellU (o := oP) (updAll (d := L + 2) [(_, _), (vl, W.listOf [ho, db, us, pw, po].toArray 0), (u, urlObj dn us pw ho po db dx q), (dx, nilObj), (q, immObj d2), (L + 3, oM)] [(st, so), (sc, oC), (L + 1, oS), (li, lit)] (off_cons oa2.symm (off_cons hc.a1 (off_cons hc.a2 (off_cons hc.a3 (off_cons hc.a4 (off_cons (Nat.ne_of_gt (Nat.lt_succ_self _)) off_nil)))))) (off_cons hst.s2 (off_cons hst.c2 (off_cons (Nat.ne_of_lt (Nat.lt_succ_self _)) (off_cons hst.i2 off_nil))))) F1 N1 hP (by with_unfolding_all rfl) (by with_unfolding_all rfl) (by with_unfolding_all rfl) fun h9 o9 F9 N9 hP9 => ?_
  simp only [List.nil_append, List.cons_append] at N9
  clear F1 N1 off
  k_steps
  rename Fr _ _ _ _ => F'
  rename News _ _ _ _ => N'
  refine' k _ _ _ _ _ _ _ (news_sub N' ?nw) ht hP9 oa3.symm rfl rfl F'
  case nw =>
    repeat (refine all_cons (by k_memK) ?_)
    exact all_nil
end
end Mine
end
section
open PySem PySem.W PySem.W.X PyProof.Rows PyProof.V PySem.Calls
set_option Elab.async false
set_option maxRecDepth 100000
set_option maxHeartbeats 4000000
namespace Mine
/-- what is said under a name, tokens off -/
def gvE (all : List (Str × Value)) (f : Str) : Value := (valueAt all f).getD .none
theorem er_gv {kvs : List (Str × Value)} {f : Str} : er (gv kvs f) = gvE (kvs.map erp) f := by
  unfold gv gvE
  rw [valueAt_erp]
  cases valueAt kvs f <;> rfl
theorem gv_pv {kvs : List (Str × Value)} {f : Str} (h : ∀ p ∈ kvs, Pv p.2) : Pv (gv kvs f) := by
  unfold gv valueAt
  cases e : kvs.find? (fun kv => decide (kv.1 = f)) with
  | none => exact .none
  | some p => exact h p (List.mem_of_find?_eq_some e)
theorem gj_step {fs : List Str} {G : Str → Value} {ys : List Value} {i : Nat} {f : Str} {x : Value} (h : ys.map er = (fs.take i).map G) (hf : fs[i]? = some f) (hx : er x = G f) : (ys ++ [x]).map er = (fs.take (i + 1)).map G := by
  rw [List.take_add_one, hf, List.map_append, List.map_append, h]
  simp [hx]
def kwM : List (Str × Value) := [(Str.ofString "host", .str (Str.ofString "one") 0), (Str.ofString "database", .str (Str.ofString "two") 0), (Str.ofString "username", .str (Str.ofString "three") 0), (Str.ofString "password", .str (Str.ofString "four") 0), (Str.ofString "port", .str (Str.ofString "five") 0)]
def fsM : List Str := [Str.ofString "one", Str.ofString "two", Str.ofString "three", Str.ofString "four", Str.ofString "five"]
def fsP : List Str := [Str.ofString "host", Str.ofString "database", Str.ofString "username", Str.ofString "password", Str.ofString "port"]
theorem told_flags (kw : List (Str × Value)) (ho db us pw po : Value) : told [] kw (fieldsOf ho db us pw po) [] = tell (tell (tell (tell (tell [] (pick [] kw (Str.ofString "host")) ho (Str.ofString "host")) (pick [] kw (Str.ofString "database")) db (Str.ofString "database")) (pick [] kw (Str.ofString "username")) us (Str.ofString "username")) (pick [] kw (Str.ofString "password")) pw (Str.ofString "password")) (pick [] kw (Str.ofString "port")) po (Str.ofString "port") := rfl
theorem tell_is {acc : List (Str × Value)} {k f : Str} {v : Value} : tell acc (.str k 0) v f = if tr v then stored acc k (if f = Str.ofString "password" then sv v else er v) else acc := rfl
theorem told_plain (ho db us pw po : Value) (f : Str) (hf : f ∈ fsP) : gvE (told [] [] (fieldsOf ho db us pw po) []) f =
    (if f = Str.ofString "host" then (if tr ho then er ho else .none) else if f = Str.ofString "database" then (if tr db then er db else .none) else if f = Str.ofString "username" then (if tr us then er us else .none) else if f = Str.ofString "password" then (if tr pw then sv pw else .none) else (if tr po then er po else .none)) := by
  rw [told_flags]
  simp only [fsP, List.mem_cons, List.not_mem_nil, or_false] at hf
  cases h1 : tr ho <;> cases h2 : tr db <;> cases h3 : tr us <;> cases h4 : tr pw <;> cases h5 : tr po <;> (
    simp only [pick, valueAt, List.find?_nil, Option.map_none, Option.getD_none, tell_is, h1, h2, h3, h4, h5, if_true, Bool.false_eq_true, if_false]
    rcases hf with rfl | rfl | rfl | rfl | rfl <;> rfl)
theorem moved_law (ho db us pw po : Value) : fsM.map (gvE (told [] kwM (fieldsOf ho db us pw po) [])) = fsP.map (gvE (told [] [] (fieldsOf ho db us pw po) [])) := by
  rw [told_flags, told_flags]
  rw [show pick [] kwM (Str.ofString "host") = .str (Str.ofString "one") 0 from rfl, show pick [] kwM (Str.ofString "database") = .str (Str.ofString "two") 0 from rfl, show pick [] kwM (Str.ofString "username") = .str (Str.ofString "three") 0 from rfl, show pick [] kwM (Str.ofString "password") = .str (Str.ofString "four") 0 from rfl, show pick [] kwM (Str.ofString "port") = .str (Str.ofString "five") 0 from rfl]
  simp only [fsM, fsP, List.map_cons, List.map_nil]
  cases h1 : tr ho <;> cases h2 : tr db <;> cases h3 : tr us <;> cases h4 : tr pw <;> cases h5 : tr po <;> (
    simp only [pick, valueAt, List.find?_nil, Option.map_none, Option.getD_none, tell_is, h1, h2, h3, h4, h5, if_true, Bool.false_eq_true, if_false]
    exact List.cons_eq_cons.mpr ⟨rfl, List.cons_eq_cons.mpr ⟨rfl, List.cons_eq_cons.mpr ⟨rfl, List.cons_eq_cons.mpr ⟨rfl, List.cons_eq_cons.mpr ⟨rfl, rfl⟩⟩⟩⟩⟩)
def GJ (fs : List Str) (all : List (Str × Value)) (news0 : List (Addr × Obj)) (i : Nat) (ys : List Value) (news : List (Addr × Obj)) : Prop := ys.map er = (fs.take i).map (gvE all) ∧ (∀ v ∈ ys, Dv v) ∧ news = news0
theorem gj_next {fs : List Str} {all kvs : List (Str × Value)} {n0 news : List (Addr × Obj)} {ys : List Value} {i : Nat} {f : Str} (j1 : ys.map er = (fs.take i).map (gvE all)) (j2 : ∀ v ∈ ys, Dv v) (hf : fs[i]? = some f) (ha : kvs.map erp = all) (hk : ∀ p ∈ kvs, Pv p.2) (e : news = n0) : GJ fs all n0 (i + 1) (ys ++ [gv kvs f]) news := by
  refine ⟨gj_step j1 hf (by rw [er_gv, ha]), fun v hv => ?_, e⟩
  rcases List.mem_append.mp hv with z | z
  · exact j2 v z
  · rw [List.mem_singleton.mp z]; exact (gv_pv hk).dv
end Mine
end
section
open PySem PySem.W PySem.W.X PyProof.Rows PyProof.V PySem.Calls
set_option Elab.async false
set_option maxRecDepth 100000
set_option maxHeartbeats 4000000
namespace Mine
/-- said or nothing -/
def cl (v : Value) : Value := if tr v then er v else .none
theorem sv_of {v x : Value} (h : er v = cl x) (hx : Sv x) (hv : Pv v) : Sv v := by
  cases hv with
  | none => exact .none
  | str s t l => exact .str s t l
  | int n t l =>
    exfalso
    unfold cl at h
    cases hx with
    | none => cases h
    | str s t l => split at h <;> cases h
theorem iv_of {v x : Value} (h : er v = cl x) (hx : Iv x) (hv : Pv v) : Iv v := by
  cases hv with
  | none => exact .none
  | int s t l => exact .int s t l
  | str n t l =>
    exfalso
    unfold cl at h
    cases hx with
    | none => cases h
    | int s t l => split at h <;> cases h
section
variable {w : World} {A : Around} {E : Value → Shared → Prop} {s : Shared} {g : Heap} {L : Addr} {m : Str → Option Value} {news : List (Addr × Obj)} {mg mb : Str → Option Value} {us pw ho po db : Value}
theorem told_gv {o : Obj} {a : Addr} {tks : List (Str × Value)} {f : Str} (h : Told w o tks (told [] [] (fieldsOf ho db us pw po) []) a) : er (gv tks f) = gvE (told [] [] (fieldsOf ho db us pw po) []) f := by rw [er_gv, h.all]
theorem told_us {o : Obj} {a : Addr} {tks : List (Str × Value)} (h : Told w o tks (told [] [] (fieldsOf ho db us pw po) []) a) : er (gv tks (Str.ofString "username")) = cl us :=
  (told_gv h).trans ((told_plain ho db us pw po _ (by decide)).trans rfl)
theorem told_ho {o : Obj} {a : Addr} {tks : List (Str × Value)} (h : Told w o tks (told [] [] (fieldsOf ho db us pw po) []) a) : er (gv tks (Str.ofString "host")) = cl ho :=
  (told_gv h).trans ((told_plain ho db us pw po _ (by decide)).trans rfl)
theorem told_db {o : Obj} {a : Addr} {tks : List (Str × Value)} (h : Told w o tks (told [] [] (fieldsOf ho db us pw po) []) a) : er (gv tks (Str.ofString "database")) = cl db :=
  (told_gv h).trans ((told_plain ho db us pw po _ (by decide)).trans rfl)
theorem told_po {o : Obj} {a : Addr} {tks : List (Str × Value)} (h : Told w o tks (told [] [] (fieldsOf ho db us pw po) []) a) : er (gv tks (Str.ofString "port")) = cl po :=
  (told_gv h).trans ((told_plain ho db us pw po _ (by decide)).trans rfl)
theorem told_pw {o : Obj} {a : Addr} {tks : List (Str × Value)} (h : Told w o tks (told [] [] (fieldsOf ho db us pw po) []) a) : er (gv tks (Str.ofString "password")) = if tr pw then sv pw else .none :=
  (told_gv h).trans ((told_plain ho db us pw po _ (by decide)).trans rfl)
theorem use_bare {x : Str} {t : Tok} {a : Addr} {o : Obj} {tks : List (Str × Value)} {Q : Value → Shared → Prop} (hd : A.depth ≤ 335) (hu : A.units ≤ 80) (hh : A.handled = none) (F : Fr g L s.heap m) (N : News g L s.heap news) (X : (heap w.params).In g) (T : TR mg mb g) (hp : List.Mem (a, o) news)
    (ht : Told w o tks (told [] [] (fieldsOf ho db us pw po) []) a) (h1 : Sv us) (h2 : Sv ho) (h3 : Iv po) (h4 : Sv db)
    (h : ∀ us' pw' ho' po' db' u q dx d2 h' t', er us' = cl us → er ho' = cl ho → er db' = cl db → er po' = cl po → er pw' = (if tr pw then sv pw else .none) → Sv us' → Sv ho' → Sv db' → Iv po' → Pv pw' → Fr g L h' m → News g L h' ((u, urlObj (.str x t) us' pw' ho' po' db' dx q) :: (dx, nilObj) :: (q, immObj d2) :: news) → (∀ p ∈ news, p.1 ≠ u ∧ p.1 ≠ dx ∧ p.1 ≠ q) → Q (.ref u) { s with heap := h', toks := t' }) :
    wpAny (model Mine.pw w) A (call (.ref 510) [.ref a, .str x t]) Q E s := by
  have e1 := told_us ht
  have e2 := told_ho ht
  have e3 := told_po ht
  have e4 := told_db ht
  have v1 := sv_of e1 h1 (gv_pv ht.vals)
  have v2 := sv_of e2 h2 (gv_pv ht.vals)
  have v3 := iv_of e3 h3 (gv_pv ht.vals)
  have v4 := sv_of e4 h4 (gv_pv ht.vals)
  have n := N _ hp
  refine wpAny_call (wideDC hd hu (codeAny_mono (law_bare_c (x := x) (t := t) X T F.keep n.1 n.2.2 ht.low ht.dict v1 v2 v3 v4) fun r s' z => ?_))
  obtain ⟨⟨u, q, dx, d2, rfl, a1, a2, a3, b1, b2, b3⟩, k⟩ := z
  obtain ⟨hh, gs, dr, tk, os⟩ := s'
  obtain ⟨k1, rfl, rfl, rfl⟩ := k
  have hL : ∃ o, s.heap.get? L = some o := by
    obtain ⟨o, _, _, ho, _⟩ := F.ns
    exact ⟨o, ho⟩
  obtain ⟨oL, hL⟩ := hL
  refine h _ _ _ _ _ u q dx d2 hh tk e1 e2 e4 e3 (told_pw ht) v1 v2 v4 v3 (gv_pv ht.vals) (fr_stays F k1) ?_ (fun p hp => ⟨fresh_ne a1 (N p hp).1, fresh_ne a3 (N p hp).1, fresh_ne a2 (N p hp).1⟩)
  intro p hp
  rcases List.mem_cons.mp hp with rfl | hp
  · exact ⟨b1, (fresh_ne a1 hL).symm, fresh_base F.keep a1⟩
  rcases List.mem_cons.mp hp with rfl | hp
  · exact ⟨b2, (fresh_ne a3 hL).symm, fresh_base F.keep a3⟩
  rcases List.mem_cons.mp hp with rfl | hp
  · exact ⟨b3, (fresh_ne a2 hL).symm, fresh_base F.keep a2⟩
  exact news_stays N k1 p hp
end
def HJ (vals : List Value) (news0 : List (Addr × Obj)) (i : Nat) (ys : List Value) (news : List (Addr × Obj)) : Prop := ys.map er = (vals.take i).map cl ∧ (∀ v ∈ ys, Pv v) ∧ news = news0
theorem hj_next {vals : List Value} {n0 news : List (Addr × Obj)} {ys : List Value} {i : Nat} {v y : Value} (j1 : ys.map er = (vals.take i).map cl) (j2 : ∀ v ∈ ys, Pv v) (hf : vals[i]? = some v) (e1 : er y = cl v) (e2 : Pv y) (e : news = n0) : HJ vals n0 (i + 1) (ys ++ [y]) news := by
  refine ⟨by rw [List.take_add_one, hf, List.map_append, List.map_append, j1]; simp [e1], fun v hv => ?_, e⟩
  rcases List.mem_append.mp hv with z | z
  · exact j2 v z
  · rw [List.mem_singleton.mp z]; exact e2
theorem hj_five {ys : List Value} {a b c d e : Value} (h : ys.map er = [a, b, c, d, e].map cl) (hp : ∀ v ∈ ys, Pv v) : ∃ y0 y1 y2 y3 y4, ys = [y0, y1, y2, y3, y4] ∧ er y0 = cl a ∧ er y1 = cl b ∧ er y2 = cl c ∧ er y3 = cl d ∧ er y4 = cl e ∧ Pv y0 ∧ Pv y1 ∧ Pv y2 ∧ Pv y3 ∧ Pv y4 := by
  rcases ys with _ | ⟨y0, _ | ⟨y1, _ | ⟨y2, _ | ⟨y3, _ | ⟨y4, _ | ⟨y5, r⟩⟩⟩⟩⟩⟩
  iterate 5 · (exact absurd (congrArg List.length h) (by simp))
  · simp only [List.map_cons, List.map_nil, List.cons_eq_cons] at h
    obtain ⟨z0, z1, z2, z3, z4, -⟩ := h
    exact ⟨y0, y1, y2, y3, y4, rfl, z0, z1, z2, z3, z4, hp _ (by simp), hp _ (by simp), hp _ (by simp), hp _ (by simp), hp _ (by simp)⟩
  · have := congrArg List.length h
    simp at this
theorem str_empty {x : Str} (h : ((x.length : Int) != 0) = false) : x = Str.ofString "" := by
  rcases x with ⟨a⟩
  have : a.size = 0 := by
    have h2 : ((a.size : Int) != 0) = false := h
    simpa using h2
  have e : a = #[] := Array.eq_empty_of_size_eq_zero this
  subst e
  rfl
theorem cl_str {x : Str} {t : Tok} (h : (x != Str.ofString "") = true) : er (.str x t) = cl (.str x t) := by
  unfold cl
  rw [if_pos]
  show ((x.length : Int) != 0) = true
  cases e : ((x.length : Int) != 0) with
  | true => rfl
  | false => rw [str_empty e] at h; exact absurd h (by decide)
theorem cl_str0 {x : Str} {t : Tok} (h : (x != Str.ofString "") = false) : er .none = cl (.str x t) := by
  have : x = Str.ofString "" := by simpa using h
  subst this
  rfl
theorem cl_int {n : Int} {t : Tok} (h : n ≠ 0) : er (.int n t) = cl (.int n t) := by
  unfold cl
  rw [if_pos]
  show (n != 0) = true
  simpa using h
theorem cl_int0 {n : Int} {t : Tok} (h : n = 0) : er .none = cl (.int n t) := by
  subst h; rfl
/-- the password as a text -/
def ps (v : Value) : Value := if tr v then sv v else .none
theorem ps_none {x : Value} (h : er .none = cl x) : ps x = .none := by
  unfold ps
  unfold cl at h
  split at h
  · cases x with
    | str s t => cases h
    | int n t => cases h
    | _ => rename_i q; cases q
  · rename_i q; rw [if_neg q]
theorem ps_some {x y : Value} (h : er y = cl x) (hp : Pv y) (hy : y ≠ .none) : tr y = true ∧ sv y = ps x := by
  unfold cl at h
  unfold ps
  split at h
  · rename_i q
    rw [if_pos q]
    cases hp with
    | none => exact absurd rfl hy
    | str s t l =>
      cases x with
      | str s' t' => cases h; exact ⟨q, rfl⟩
      | int n t' => cases h
      | _ => cases q
    | int n t l =>
      cases x with
      | str s' t' => cases h
      | int n t' => cases h; exact ⟨q, rfl⟩
      | _ => cases q
  · cases hp with
    | none => exact absurd rfl hy
    | str s t l => cases h
    | int n t l => cases h
end Mine
end
section
open PySem PySem.W PySem.W.X PyProof.Rows PyProof.V PySem.Calls
set_option Elab.async false
set_option maxRecDepth 100000
set_option maxHeartbeats 4000000
namespace Mine
theorem tr_er {v : Value} : tr (er v) = tr v := by cases v <;> rfl
theorem sv_er {v : Value} : sv (er v) = sv v := by cases v <;> rfl
theorem er_er {v : Value} : er (er v) = er v := by cases v <;> rfl
theorem tell_same {acc : List (Str × Value)} {k f : Str} {v v' : Value} (h : er v' = cl v) (hf : f ≠ Str.ofString "password") : tell acc (.str k 0) v' f = tell acc (.str k 0) v f := by
  rw [tell_is, tell_is, if_neg hf, if_neg hf]
  unfold cl at h
  cases q : tr v with
  | true =>
    rw [if_pos q] at h
    have : tr v' = true := by rw [← tr_er, h, tr_er, q]
    rw [this, h]
  | false =>
    rw [if_neg (by rw [q]; decide)] at h
    have : tr v' = false := by rw [← tr_er, h]; rfl
    rw [this]; rfl
theorem tr_sv {v : Value} (hp : Pv v) (h : tr v = true) : tr (sv v) = true := by
  cases hp with
  | none => cases h
  | str s t l => exact h
  | int n t l =>
    rcases l with rfl | rfl | rfl | rfl
    · cases h
    · exact (by decide +kernel : tr (.str (Str.ofString (toString (1 : Int))) 0) = true)
    · exact (by decide +kernel : tr (.str (Str.ofString (toString (5 : Int))) 0) = true)
    · exact (by decide +kernel : tr (.str (Str.ofString (toString (5432 : Int))) 0) = true)
theorem sv_sv {v : Value} : sv (sv v) = sv v := by cases v <;> rfl
theorem tell_pw {acc : List (Str × Value)} {k : Str} {v v' : Value} (h : er v' = ps v) (hp : Pv v) : tell acc (.str k 0) v' (Str.ofString "password") = tell acc (.str k 0) v (Str.ofString "password") := by
  rw [tell_is, tell_is, if_pos rfl, if_pos rfl]
  unfold ps at h
  cases q : tr v with
  | true =>
    rw [if_pos q] at h
    have : tr v' = true := by rw [← tr_er, h, tr_sv hp q]
    rw [this, ← sv_er (v := v'), h, sv_sv]
  | false =>
    rw [if_neg (by rw [q]; decide)] at h
    have : tr v' = false := by rw [← tr_er, h]; rfl
    rw [this]; rfl
theorem pick_nil {f : Str} : pick [] [] f = .str f 0 := rfl
theorem told_again {ho db us pw po ho' db' us' pw' po' : Value} (e0 : er ho' = cl ho) (e1 : er db' = cl db) (e2 : er us' = cl us) (e3 : er pw' = ps pw) (e4 : er po' = cl po) (hp : Pv pw) : told [] [] (fieldsOf ho' db' us' pw' po') [] = told [] [] (fieldsOf ho db us pw po) [] := by
  rw [told_flags, told_flags]
  simp only [pick_nil]
  rw [tell_same e0 (by decide), tell_same e1 (by decide), tell_same e2 (by decide), tell_pw e3 hp, tell_same e4 (by decide)]
end Mine
end
section
open PySem PySem.W PySem.W.X PyProof.Rows PySem.Calls
set_option Elab.async false
set_option maxRecDepth 100000
set_option maxHeartbeats 4000000
set_option pp.deepTerms false
set_option pp.maxSteps 2000
namespace Mine
theorem kwM_ok (a b c d e : Tok) : ∀ p ∈ [(Str.ofString "host", Value.str (Str.ofString "one") a), (Str.ofString "database", .str (Str.ofString "two") b), (Str.ofString "username", .str (Str.ofString "three") c), (Str.ofString "password", .str (Str.ofString "four") d), (Str.ofString "port", .str (Str.ofString "five") e)], Nv p.2 ∧ Fld p.1 := (List.forall_mem_cons.mpr ⟨⟨.str _ _, .inl rfl⟩, List.forall_mem_cons.mpr ⟨⟨.str _ _, .inr (.inl rfl)⟩, List.forall_mem_cons.mpr ⟨⟨.str _ _, .inr (.inr (.inl rfl))⟩, List.forall_mem_cons.mpr ⟨⟨.str _ _, .inr (.inr (.inr (.inl rfl)))⟩, List.forall_mem_cons.mpr ⟨⟨.str _ _, .inr (.inr (.inr (.inr rfl)))⟩, List.forall_mem_nil _⟩⟩⟩⟩⟩)
end Mine
local macro_rules | `(tactic| walk_at "getMethod ref") => `(tactic| ((with_reducible show wpAny _ _ (getMethod (Value.ref _) (Str.ofString "translate_connect_args") _) _ _ _); refine Mine.meth_trn (Frag.In.keeps ‹Frag.In _ _› (Fr.keep ‹_›)) (Mine.UrlAt.of_news (by assumption) (by k_memK) (by k_memK) (by k_memK)) ?_))
local macro_rules | `(tactic| walk_at "storeName") => `(tactic| (refine Mine.stop_i ?_))
local macro_rules | `(tactic| walk_at "call ref") => `(tactic| (refine Mine.stop_i ?_))
namespace Mine
section
variable {w : World} {s : Shared} {g : Heap} {L fa : Addr} {cd : Value} {m : Str → Option Value} {mg mb : Str → Option Value}
theorem ph_G1 {lit so oC oS oM oP o : Obj} {xM : Option Value} {rest : List Stmt} {Q : Flow → Shared → Prop} {us pw ho po db dn : Value} {li st sc u q dx d2 vl a : Addr} (X : (heap w.params).In g) (T : TR mg mb g)
    (F : Fr g L s.heap m) (N : News g L s.heap [(a, o), (vl, W.listOf [ho, db, us, pw, po].toArray 0), (u, urlObj dn us pw ho po db dx q), (dx, nilObj), (q, immObj d2), (L + 3, oM), (L + 2, oP), (st, so), (sc, oC), (L + 1, oS), (li, lit)]) (hM : oM.data = .cell xM) (hc : CellOff L vl u dx q) (hst : StOff L st sc li) (ha : @Ne Nat a (L + 3))
    (h1 : Pv ho) (h2 : Pv db) (h3 : Pv us) (h4 : Pv pw) (h5 : Pv po)
    (hmu : m (Str.ofString "url") = some (.ref u)) (hmv : m (Str.ofString "values") = some (.ref vl))
    (k : ∀ (am : Addr) (om oM' : Obj) (tkm : List (Str × Value)) (h' : Heap) (t' : Nat) (m' : Str → Option Value), News g L h' [(am, om), (a, o), (vl, W.listOf [ho, db, us, pw, po].toArray 0), (u, urlObj dn us pw ho po db dx q), (dx, nilObj), (q, immObj d2), (L + 3, oM'), (L + 2, oP), (st, so), (sc, oC), (L + 1, oS), (li, lit)] → Told w om tkm (told [] kwM (fieldsOf ho db us pw po) []) am → oM'.data = .cell (some (.ref am)) →
      m' (Str.ofString "url") = some (.ref u) → m' (Str.ofString "values") = some (.ref vl) → Fr g L h' m' →
      wpAny (model Mine.pw w) AL (execs rest (lawEnv w.params L fa cd)) Q (fun _ _ => False) { s with heap := h', toks := t' }) :
    wpAny (model Mine.pw w) AL (execs (((lawTurn w.params).drop 14).take 1 ++ rest) (lawEnv w.params L fa cd)) Q (fun _ _ => False) s := by
  w_on
  have dummy : heap = heap ∧ PySem.Challenge.rw_bq5036_01 = PySem.Challenge.rw_bq5036_01 := by
    k_fill
    exact ⟨rfl, rfl⟩
  clear dummy
  rw [show ((lawTurn w.params).drop 14).take 1 ++ rest = _ :: rest from rfl]
  unfold lawEnv at k ⊢
  rw [show lawScope w.params = ⟨_, _, _, _, _⟩ from rfl] at k ⊢
  have F := fr_known F hmv
  have F := fr_known F (x := Str.ofString "url") (by rw [if_neg (by decide)]; exact hmu)
  k_steps
  unfold Stop
  refine wpAny_call (trn0_code (kws := [(Str.ofString "host", .str (Str.ofString "one") _), (Str.ofString "database", .str (Str.ofString "two") _), (Str.ofString "username", .str (Str.ofString "three") _), (Str.ofString "password", .str (Str.ofString "four") _), (Str.ofString "port", .str (Str.ofString "five") _)]) (by decide) (by decide) rfl (by assumption) (by assumption) X T (UrlAt.of_news (by assumption) (by k_memK) (by k_memK) (by k_memK)) h1 h2 h3 h4 h5 (kwM_ok _ _ _ _ _) (by simp only [List.map_cons, List.map_nil]; decide) (by simp only [List.length_cons, List.length_nil]; omega) fun am om tkm hp3 t3 hm F3 N3 off => ?_)
  have oa2 : @Ne Nat (L + 2) am := off (L + 2, oP) (by k_memK)
  have oa3 : @Ne Nat (L + 3) am := off (L + 3, oM) (by k_memK)
  clear off
  k_steps
  unfold Stop
  refine st_cellU (o := oM) (updAll (d := L + 3) [(am, om), (a, o), (vl, W.listOf [ho, db, us, pw, po].toArray 0), (u, urlObj dn us pw ho po db dx q), (dx, nilObj), (q, immObj d2)] [(L + 2, oP), (st, so), (sc, oC), (L + 1, oS), (li, lit)] (off_cons oa3.symm (off_cons ha (off_cons hc.b1 (off_cons hc.b2 (off_cons hc.b3 (off_cons hc.b4 off_nil)))))) (off_cons (Nat.ne_of_lt (Nat.lt_succ_self _)) (off_cons hst.s3 (off_cons hst.c3 (off_cons (Nat.ne_of_lt (Nat.lt_succ_of_lt (Nat.lt_succ_self _))) (off_cons hst.i3 off_nil)))))) F3 N3 hM (by with_unfolding_all rfl) (by with_unfolding_all rfl) (by with_unfolding_all rfl) fun h9 o9 F9 N9 hM9 => ?_
  simp only [List.nil_append, List.cons_append] at N9
  clear F3 N3
  k_steps
  rename Fr _ _ _ _ => F'
  rename News _ _ _ _ => N'
  refine' k _ _ _ _ _ _ _ (news_sub N' ?nw) hm hM9 rfl rfl F'
  case nw =>
    repeat (refine all_cons (by k_memK) ?_)
    exact all_nil
end
end Mine
end
section
open PySem PySem.W PySem.W.X PyProof.Rows PySem.Calls
set_option Elab.async false
set_option maxRecDepth 100000
set_option maxHeartbeats 4000000
set_option pp.deepTerms false
set_option pp.maxSteps 2000
local macro_rules | `(tactic| walk_at "getMethod ref") => `(tactic| ((with_reducible show wpAny _ _ (getMethod (Value.ref _) (Str.ofString "get") _) _ _ _); refine kdg_method (knd := PySem.strKind _ _) (by with_reducible assumption) (by k_memK) (by with_reducible assumption) ?_))
local macro_rules | `(tactic| walk_at "call builtin:dict.get") => `(tactic| (refine Mine.gv_get (by with_reducible assumption) (by k_memK) (by with_reducible assumption) (by with_reducible assumption) ?_))
local macro_rules | `(tactic| walk_at "compareOp NotEq ref ref") => `(tactic| (refine Mine.stop_i ?_))
local macro_rules | `(tactic| walk_at "CompSrc") => `(tactic| (refine Mine.stop_i ?_))
local macro_rules | `(tactic| walk_at "CompEnd") => `(tactic| (refine Mine.stop_i ?_))
namespace Mine
section
variable {w : World} {s : Shared} {g : Heap} {L fa : Addr} {cd : Value} {m : Str → Option Value} {mg mb : Str → Option Value}
theorem ph_G2 {lit so oC oS oM oP o om : Obj} {rest : List Stmt} {Q : Flow → Shared → Prop} {us pw ho po db dn : Value} {li st sc u q dx d2 vl a am : Addr} {tks tkm : List (Str × Value)} (X : (heap w.params).In g) (T : TR mg mb g)
    (F : Fr g L s.heap m) (N : News g L s.heap [(am, om), (a, o), (vl, W.listOf [ho, db, us, pw, po].toArray 0), (u, urlObj dn us pw ho po db dx q), (dx, nilObj), (q, immObj d2), (L + 3, oM), (L + 2, oP), (st, so), (sc, oC), (L + 1, oS), (li, lit)]) (hP : oP.data = .cell (some (.ref a))) (hM : oM.data = .cell (some (.ref am))) (hp : Told w o tks (told [] [] (fieldsOf ho db us pw po) []) a) (hm : Told w om tkm (told [] kwM (fieldsOf ho db us pw po) []) am)
    (hmu : m (Str.ofString "url") = some (.ref u)) (hmv : m (Str.ofString "values") = some (.ref vl))
    (k : ∀ (h' : Heap) (t' : Nat) (m' : Str → Option Value), News g L h' [(a, o), (vl, W.listOf [ho, db, us, pw, po].toArray 0), (u, urlObj dn us pw ho po db dx q), (dx, nilObj), (q, immObj d2), (L + 3, oM), (L + 2, oP), (st, so), (sc, oC), (L + 1, oS), (li, lit)] →
      m' (Str.ofString "url") = some (.ref u) → m' (Str.ofString "values") = some (.ref vl) → Fr g L h' m' →
      wpAny (model Mine.pw w) AL (execs rest (lawEnv w.params L fa cd)) Q (fun _ _ => False) { s with heap := h', toks := t' }) :
    wpAny (model Mine.pw w) AL (execs (((lawTurn w.params).drop 15).take 1 ++ rest) (lawEnv w.params L fa cd)) Q (fun _ _ => False) s := by
  w_on
  have dummy : heap = heap ∧ PySem.Challenge.rw_bq5036_01 = PySem.Challenge.rw_bq5036_01 := by
    k_fill
    exact ⟨rfl, rfl⟩
  clear dummy
  rw [show ((lawTurn w.params).drop 15).take 1 ++ rest = _ :: rest from rfl]
  unfold lawEnv at k ⊢
  rw [show lawScope w.params = ⟨_, _, _, _, _⟩ from rfl] at k ⊢
  have F := fr_known F hmv
  have F := fr_known F (x := Str.ofString "url") (by rw [if_neg (by decide)]; exact hmu)
  have dm := hm.dict
  have dp := hp.dict
  have lm := hm.low
  have lp := hp.low
  k_steps
  unfold Stop
  rename News _ _ _ _ => N1
  rename Fr _ _ _ _ => F1
  refine LCg.CompSrc.ledger (by rfl) F1 N1 (.head _) (by rw [sizeLine_eq]; exact Nat.le_of_ble_eq_true rfl) ?_
  intro g'
  clear F1 N1
  refine comp_inv (GJ fsM (told [] kwM (fieldsOf ho db us pw po) []) _) ?_ ?_ _ 0 [] _ (Nat.zero_add _) ⟨rfl, (fun _ h => nomatch h), rfl⟩
  · intro i ys news v I oI C oC D m₂ h tk E' hi hj hv hC hx F N off ne
    obtain ⟨j1, j2, rfl⟩ := hj
    obtain ⟨f, t, ef, rfl⟩ : ∃ f t, fsM[i]? = some f ∧ v = .str f t := by
      rcases i with _|_|_|_|_|i
      · cases hv; exact ⟨_, _, rfl, rfl⟩
      · cases hv; exact ⟨_, _, rfl, rfl⟩
      · cases hv; exact ⟨_, _, rfl, rfl⟩
      · cases hv; exact ⟨_, _, rfl, rfl⟩
      · cases hv; exact ⟨_, _, rfl, rfl⟩
      · cases hv
    k_steps
    unfold Stop
    rename News _ _ _ _ => N'
    rename Fr _ _ _ _ => F'
    exact LCg.CompEnd.intro F' N' _ (fun p hp => hp) off (.inr ⟨_, .head _, rfl, _, rfl⟩) (gj_next j1 j2 ef hm.all hm.vals rfl)
  · intro ys1 news hj
    obtain ⟨j1, j2, rfl⟩ := hj
    replace j1 := j1.trans (congrArg _ (show fsM.take 5 = fsM from rfl))
    intro D1 h1 tk1 F1 N1 off1
    clear off1
    k_steps
    unfold Stop
    rename News _ _ _ _ => N2
    rename Fr _ _ _ _ => F2
    refine LCg.CompSrc.base (its := lawF.toArray) (by rfl) F2 N2 (lawF_list X) (by rw [sizeLine_eq]; exact Nat.le_of_ble_eq_true rfl) ?_
    intro g2
    refine comp_inv (GJ fsP (told [] [] (fieldsOf ho db us pw po) []) _) ?_ ?_ _ 0 [] _ (Nat.zero_add _) ⟨rfl, (fun _ h => nomatch h), rfl⟩
    · intro i ys news v I oI C oC D m₂ h tk E' hi hj hv hC hx F N off ne
      obtain ⟨k1, k2, rfl⟩ := hj
      obtain ⟨f, t, ef, rfl⟩ : ∃ f t, fsP[i]? = some f ∧ v = .str f t := by
        rcases i with _|_|_|_|_|i
        · cases hv; exact ⟨_, _, rfl, rfl⟩
        · cases hv; exact ⟨_, _, rfl, rfl⟩
        · cases hv; exact ⟨_, _, rfl, rfl⟩
        · cases hv; exact ⟨_, _, rfl, rfl⟩
        · cases hv; exact ⟨_, _, rfl, rfl⟩
        · cases hv
      k_steps
      unfold Stop
      rename News _ _ _ _ => N'
      rename Fr _ _ _ _ => F'
      exact LCg.CompEnd.intro F' N' _ (fun p hp => hp) off (.inl (lawF_list X)) (gj_next k1 k2 ef hp.all hp.vals rfl)
    · intro ys2 news hj
      obtain ⟨k1, k2, rfl⟩ := hj
      replace k1 := k1.trans (congrArg _ (show fsP.take 5 = fsP from rfl))
      intro D2 h2 tk2 F3 N3 off2
      clear off2
      k_steps
      unfold Stop
      rename News _ _ _ _ => N4
      refine ne_same (News.isList N4 (by k_memK)) (News.isList N4 (by k_memK)) j2 k2 (j1.trans ((moved_law ho db us pw po).trans k1.symm)) (by with_unfolding_all decide) ?_
      k_steps
      rename Fr _ _ _ _ => F'
      rename News _ _ _ _ => N'
      refine' k _ _ _ (news_sub N' ?nw) rfl rfl F'
      case nw =>
        repeat (refine all_cons (by k_memK) ?_)
        exact all_nil
end
end Mine
end
section
open PySem PySem.W PySem.W.X PyProof.Rows PySem.Calls
set_option Elab.async false
set_option maxRecDepth 100000
set_option maxHeartbeats 4000000
set_option pp.deepTerms false
set_option pp.maxSteps 2000
local macro_rules | `(tactic| walk_at "call ref") => `(tactic| ((with_reducible show wpAny _ _ (call (Value.ref 510) _) _ _ _); refine Mine.use_bare (Nat.le_of_ble_eq_true (by with_unfolding_all rfl)) (Nat.le_of_ble_eq_true (by with_unfolding_all rfl)) (by with_unfolding_all rfl) (by assumption) (by assumption) (by assumption) (by assumption) (by k_memK) (by assumption) (by assumption) (by assumption) (by assumption) (by assumption) ?_; intro us' pw' ho' po' db' u' q' dx' d2' h' t' e1' e2' e3' e4' e5' v1' v2' v3' v4' v5' F' N' off'; replace off' := Mine.Off3.in off'; (try dsimp only at N')))
namespace Mine
section
variable {w : World} {s : Shared} {g : Heap} {L fa : Addr} {cd : Value} {m : Str → Option Value} {mg mb : Str → Option Value}
theorem ph_H1 {lit so oC oS oM oP o : Obj} {rest : List Stmt} {Q : Flow → Shared → Prop} {us pw ho po db dn : Value} {li st sc u q dx d2 vl a : Addr} {tks : List (Str × Value)} (X : (heap w.params).In g) (T : TR mg mb g)
    (F : Fr g L s.heap m) (N : News g L s.heap [(a, o), (vl, W.listOf [ho, db, us, pw, po].toArray 0), (u, urlObj dn us pw ho po db dx q), (dx, nilObj), (q, immObj d2), (L + 3, oM), (L + 2, oP), (st, so), (sc, oC), (L + 1, oS), (li, lit)]) (hP : oP.data = .cell (some (.ref a))) (hp : Told w o tks (told [] [] (fieldsOf ho db us pw po) []) a)
    (h1 : Sv ho) (h2 : Sv db) (h3 : Sv us) (h4 : Pv pw) (h5 : Iv po)
    (hmu : m (Str.ofString "url") = some (.ref u)) (hmv : m (Str.ofString "values") = some (.ref vl))
    (k : ∀ (us' pw' ho' po' db' : Value) (t : Tok) (u' q' dx' d2' : Addr) (h' : Heap) (t' : Nat) (m' : Str → Option Value), er us' = cl us → er ho' = cl ho → er db' = cl db → er po' = cl po → er pw' = ps pw → Sv us' → Sv ho' → Sv db' → Iv po' → Pv pw' →
      News g L h' [(u', urlObj (.str (Str.ofString "pg+x") t) us' pw' ho' po' db' dx' q'), (dx', nilObj), (q', immObj d2'), (a, o), (vl, W.listOf [ho, db, us, pw, po].toArray 0), (u, urlObj dn us pw ho po db dx q), (dx, nilObj), (q, immObj d2), (L + 3, oM), (L + 2, oP), (st, so), (sc, oC), (L + 1, oS), (li, lit)] →
      m' (Str.ofString "again") = some (.ref u') → m' (Str.ofString "url") = some (.ref u) → m' (Str.ofString "values") = some (.ref vl) → Fr g L h' m' →
      wpAny (model Mine.pw w) AL (execs rest (lawEnv w.params L fa cd)) Q (fun _ _ => False) { s with heap := h', toks := t' }) :
    wpAny (model Mine.pw w) AL (execs (((lawTurn w.params).drop 16).take 1 ++ rest) (lawEnv w.params L fa cd)) Q (fun _ _ => False) s := by
  w_on
  have dummy : heap = heap ∧ PySem.Challenge.rw_bq5036_01 = PySem.Challenge.rw_bq5036_01 := by
    k_fill
    exact ⟨rfl, rfl⟩
  clear dummy
  rw [show ((lawTurn w.params).drop 16).take 1 ++ rest = _ :: rest from rfl]
  unfold lawEnv at k ⊢
  rw [show lawScope w.params = ⟨_, _, _, _, _⟩ from rfl] at k ⊢
  have F := fr_known F hmv
  have F := fr_known F (x := Str.ofString "url") (by rw [if_neg (by decide)]; exact hmu)
  k_steps
  rename Fr _ _ _ _ => F'
  rename News _ _ _ _ => N'
  refine' k _ _ _ _ _ _ _ _ _ _ _ _ _ ?_ ?_ ?_ ?_ ?_ ?_ ?_ ?_ ?_ ?_ (news_sub N' ?nw) rfl rfl rfl F'
  case nw =>
    repeat (refine all_cons (by k_memK) ?_)
    exact all_nil
  all_goals assumption
end
end Mine
end
section
open PySem PySem.W PySem.W.X PyProof.Rows PySem.Calls
set_option Elab.async false
set_option maxRecDepth 100000
set_option maxHeartbeats 4000000
set_option pp.deepTerms false
set_option pp.maxSteps 2000
local macro_rules | `(tactic| walk_at "CompSrc") => `(tactic| (refine Mine.stop_i ?_))
local macro_rules | `(tactic| walk_at "CompEnd") => `(tactic| (refine Mine.stop_i ?_))
namespace Mine
section
variable {w : World} {s : Shared} {g : Heap} {L fa : Addr} {cd : Value} {m : Str → Option Value} {mg mb : Str → Option Value}
theorem ph_H2 {lit so oC oS oM oP o : Obj} {rest : List Stmt} {Q : Flow → Shared → Prop} {us pw ho po db dn us' pw' ho' po' db' dn' : Value} {li st sc u q dx d2 vl a u' q' dx' d2' : Addr} (X : (heap w.params).In g) (T : TR mg mb g)
    (F : Fr g L s.heap m) (N : News g L s.heap [(u', urlObj dn' us' pw' ho' po' db' dx' q'), (dx', nilObj), (q', immObj d2'), (a, o), (vl, W.listOf [ho, db, us, pw, po].toArray 0), (u, urlObj dn us pw ho po db dx q), (dx, nilObj), (q, immObj d2), (L + 3, oM), (L + 2, oP), (st, so), (sc, oC), (L + 1, oS), (li, lit)])
    (h1 : Pv ho) (h2 : Pv db) (h3 : Pv us) (h4 : Pv pw) (h5 : Pv po)
    (hma : m (Str.ofString "again") = some (.ref u')) (hmu : m (Str.ofString "url") = some (.ref u)) (hmv : m (Str.ofString "values") = some (.ref vl))
    (k : ∀ (y0 y1 y2 y3 y4 : Value) (sl : Addr) (h' : Heap) (t' : Nat) (m' : Str → Option Value), er y0 = cl ho → er y1 = cl db → er y2 = cl us → er y3 = cl pw → er y4 = cl po → Pv y0 → Pv y1 → Pv y2 → Pv y3 → Pv y4 →
      News g L h' [(sl, W.listOf [y0, y1, y2, y3, y4].toArray 5), (u', urlObj dn' us' pw' ho' po' db' dx' q'), (dx', nilObj), (q', immObj d2'), (a, o), (vl, W.listOf [ho, db, us, pw, po].toArray 0), (u, urlObj dn us pw ho po db dx q), (dx, nilObj), (q, immObj d2), (L + 3, oM), (L + 2, oP), (st, so), (sc, oC), (L + 1, oS), (li, lit)] →
      m' (Str.ofString "said") = some (.ref sl) → m' (Str.ofString "again") = some (.ref u') → m' (Str.ofString "url") = some (.ref u) → m' (Str.ofString "values") = some (.ref vl) → Fr g L h' m' →
      wpAny (model Mine.pw w) AL (execs rest (lawEnv w.params L fa cd)) Q (fun _ _ => False) { s with heap := h', toks := t' }) :
    wpAny (model Mine.pw w) AL (execs (((lawTurn w.params).drop 17).take 1 ++ rest) (lawEnv w.params L fa cd)) Q (fun _ _ => False) s := by
  w_on
  have dummy : heap = heap ∧ PySem.Challenge.rw_bq5036_01 = PySem.Challenge.rw_bq5036_01 := by
    k_fill
    exact ⟨rfl, rfl⟩
  clear dummy
  rw [show ((lawTurn w.params).drop 17).take 1 ++ rest = _ :: rest from rfl]
  unfold lawEnv at k ⊢
  rw [show lawScope w.params = ⟨_, _, _, _, _⟩ from rfl] at k ⊢
  have F := fr_known F hmv
  have F := fr_known F (x := Str.ofString "url") (by rw [if_neg (by decide)]; exact hmu)
  have F := fr_known F (x := Str.ofString "again") (by rw [if_neg (by decide), if_neg (by decide)]; exact hma)
  k_steps
  unfold Stop
  rename News _ _ _ _ => N1
  rename Fr _ _ _ _ => F1
  refine LCg.CompSrc.ledger (by rfl) F1 N1 (by k_memK) (by rw [sizeLine_eq]; exact Nat.le_of_ble_eq_true rfl) ?_
  intro g'
  clear F1 N1
  refine comp_inv (HJ [ho, db, us, pw, po] _) ?_ ?_ _ 0 [] _ (Nat.zero_add _) ⟨rfl, (fun _ h => nomatch h), rfl⟩
  · intro i ys news v I oI C oC D m₂ h tk E' hi hj hv hC hx F N off ne
    obtain ⟨j1, j2, rfl⟩ := hj
    have hp : Pv v := by
      rcases i with _|_|_|_|_|i
      · cases hv; exact h1
      · cases hv; exact h2
      · cases hv; exact h3
      · cases hv; exact h4
      · cases hv; exact h5
      · cases hv
    have hv2 : [ho, db, us, pw, po][i]? = some v := by simpa only [List.getElem?_toArray] using hv
    clear hv
    rcases hp with _ | ⟨x, t, lx⟩ | ⟨n, t, ln⟩
    · k_steps
      unfold Stop
      rename News _ _ _ _ => N'
      rename Fr _ _ _ _ => F'
      exact LCg.CompEnd.intro F' N' _ (fun p hp => hp) off (.inr ⟨_, by k_memK, rfl, _, rfl⟩) (hj_next j1 j2 hv2 rfl .none rfl)
    · k_steps
      all_goals unfold Stop
      all_goals rename News _ _ _ _ => N'
      all_goals rename Fr _ _ _ _ => F'
      · exact LCg.CompEnd.intro F' N' _ (fun p hp => hp) off (.inr ⟨_, by k_memK, rfl, _, rfl⟩) (hj_next j1 j2 hv2 (cl_str (by assumption)) (.str _ _ lx) rfl)
      · exact LCg.CompEnd.intro F' N' _ (fun p hp => hp) off (.inr ⟨_, by k_memK, rfl, _, rfl⟩) (hj_next j1 j2 hv2 (cl_str0 (by assumption)) .none rfl)
    · k_steps
      all_goals unfold Stop
      all_goals rename News _ _ _ _ => N'
      all_goals rename Fr _ _ _ _ => F'
      · exact LCg.CompEnd.intro F' N' _ (fun p hp => hp) off (.inr ⟨_, by k_memK, rfl, _, rfl⟩) (hj_next j1 j2 hv2 (cl_int (by assumption)) (.int _ _ ln) rfl)
      · exact LCg.CompEnd.intro F' N' _ (fun p hp => hp) off (.inr ⟨_, by k_memK, rfl, _, rfl⟩) (hj_next j1 j2 hv2 (cl_int0 (by assumption)) .none rfl)
  · intro ys1 news hj
    obtain ⟨j1, j2, rfl⟩ := hj
    obtain ⟨y0, y1, y2, y3, y4, rfl, e0, e1, e2, e3, e4, p0, p1, p2, p3, p4⟩ := hj_five j1 j2
    intro D1 h1 tk1 F1 N1 off1
    clear off1
    k_steps
    rename Fr _ _ _ _ => F'
    rename News _ _ _ _ => N'
    refine' k y0 y1 y2 y3 y4 D1 _ _ _ e0 e1 e2 e3 e4 p0 p1 p2 p3 p4 (news_sub N' ?nw) rfl rfl rfl rfl F'
    case nw =>
      repeat (refine all_cons (by k_memK) ?_)
      exact all_nil
end
end Mine
end
section
open PySem PySem.W PySem.W.X PyProof.Rows PySem.Calls
set_option Elab.async false
set_option maxRecDepth 100000
set_option maxHeartbeats 4000000
set_option pp.deepTerms false
set_option pp.maxSteps 2000
local macro_rules | `(tactic| walk_at "compareOp NotEq ref ref") => `(tactic| (refine Mine.stop_i ?_))
local macro_rules | `(tactic| walk_at "call type:str") => `(tactic| (refine Mine.str_pv (by assumption) (by assumption) ?_; intro v' tk' hv' he'))
local macro_rules | `(tactic| walk_at "call ref") => `(tactic| ((with_reducible show wpAny _ _ (call (Value.ref _) [_, _, _, _, _, _]) _ _ _); refine Mine.use_create (Nat.le_of_ble_eq_true (by with_unfolding_all rfl)) (Nat.le_of_ble_eq_true (by with_unfolding_all rfl)) (by assumption) (by assumption) (by assumption) (by assumption) (by k_memK) (by assumption) (by assumption) (by assumption) (by assumption) ?_; intro u q dx d2 h' tk' F' N' off' k'; replace off' := Mine.Off3.in off'; (try dsimp only at N'); k_sweep))
namespace Mine
section
variable {w : World} {s : Shared} {g : Heap} {L fa : Addr} {cd : Value} {m : Str → Option Value} {mg mb : Str → Option Value}
theorem ph_H3 {lit so oC oS oM oP o : Obj} {rest : List Stmt} {Q : Flow → Shared → Prop} {us pw ho po db dn us' pw' ho' po' db' y0 y1 y2 y3 y4 : Value} {t0 : Tok} {li st sc u q dx d2 vl a u' q' dx' d2' sl : Addr} (X : (heap w.params).In g) (T : TR mg mb g)
    (F : Fr g L s.heap m) (N : News g L s.heap [(sl, W.listOf [y0, y1, y2, y3, y4].toArray 5), (u', urlObj (.str (Str.ofString "pg+x") t0) us' pw' ho' po' db' dx' q'), (dx', nilObj), (q', immObj d2'), (a, o), (vl, W.listOf [ho, db, us, pw, po].toArray 0), (u, urlObj dn us pw ho po db dx q), (dx, nilObj), (q, immObj d2), (L + 3, oM), (L + 2, oP), (st, so), (sc, oC), (L + 1, oS), (li, lit)])
    (h1 : Sv ho) (h2 : Sv db) (h3 : Sv us) (h4 : Pv pw) (h5 : Iv po)
    (e0 : er y0 = cl ho) (e1 : er y1 = cl db) (e2 : er y2 = cl us) (e3 : er y3 = cl pw) (e4 : er y4 = cl po) (p0 : Pv y0) (p1 : Pv y1) (p2 : Pv y2) (p3 : Pv y3) (p4 : Pv y4)
    (f2 : er us' = cl us) (f0 : er ho' = cl ho) (f1 : er db' = cl db) (f4 : er po' = cl po) (f3 : er pw' = ps pw) (v2 : Sv us') (v0 : Sv ho') (v1 : Sv db') (v4 : Iv po') (v3 : Pv pw')
    (hms : m (Str.ofString "said") = some (.ref sl)) (hma : m (Str.ofString "again") = some (.ref u')) (hmu : m (Str.ofString "url") = some (.ref u)) (hmv : m (Str.ofString "values") = some (.ref vl))
    (k : ∀ (h' : Heap) (t' : Nat) (m' : Str → Option Value),
      News g L h' [(u', urlObj (.str (Str.ofString "pg+x") t0) us' pw' ho' po' db' dx' q'), (dx', nilObj), (q', immObj d2'), (a, o), (vl, W.listOf [ho, db, us, pw, po].toArray 0), (u, urlObj dn us pw ho po db dx q), (dx, nilObj), (q, immObj d2), (L + 3, oM), (L + 2, oP), (st, so), (sc, oC), (L + 1, oS), (li, lit)] →
      m' (Str.ofString "again") = some (.ref u') → m' (Str.ofString "url") = some (.ref u) → m' (Str.ofString "values") = some (.ref vl) → Fr g L h' m' →
      wpAny (model Mine.pw w) AL (execs rest (lawEnv w.params L fa cd)) Q (fun _ _ => False) { s with heap := h', toks := t' }) :
    wpAny (model Mine.pw w) AL (execs (((lawTurn w.params).drop 18).take 1 ++ rest) (lawEnv w.params L fa cd)) Q (fun _ _ => False) s := by
  w_on
  have dummy : heap = heap ∧ PySem.Challenge.rw_bq5036_01 = PySem.Challenge.rw_bq5036_01 := by
    k_fill
    exact ⟨rfl, rfl⟩
  clear dummy
  rw [show ((lawTurn w.params).drop 18).take 1 ++ rest = _ :: rest from rfl]
  unfold lawEnv at k ⊢
  rw [show lawScope w.params = ⟨_, _, _, _, _⟩ from rfl] at k ⊢
  have F := fr_known F hmv
  have F := fr_known F (x := Str.ofString "url") (by rw [if_neg (by decide)]; exact hmu)
  have F := fr_known F (x := Str.ofString "again") (by rw [if_neg (by decide), if_neg (by decide)]; exact hma)
  have F := fr_known F (x := Str.ofString "said") (by rw [if_neg (by decide), if_neg (by decide), if_neg (by decide)]; exact hms)
  have y0s := sv_of e0 h1 p0
  have y1s := sv_of e1 h2 p1
  have y2s := sv_of e2 h3 p2
  have y4s := iv_of e4 h5 p4
  rcases id p3 with _ | ⟨x, t, lx⟩ | ⟨n, t, ln⟩
  · k_steps
    unfold Stop
    rename Fr _ _ _ _ => F1
    rename News _ _ _ _ => N1
    refine cmp_neU (Nat.le_of_ble_eq_true (by with_unfolding_all rfl)) (Nat.le_of_ble_eq_true (by with_unfolding_all rfl)) F1 N1 X T (UrlAt.of_news N1 (by k_memK) (by k_memK) (by k_memK)) (UrlAt.of_news N1 (by k_memK) (by k_memK) (by k_memK)) (.str _ _ (by decide)) (.str _ _ (by decide)) v2.pv p2 v3 .none v0.pv p0 v4.pv p4 v1.pv p1 (by rfl) (f2.trans e2.symm) (f3.trans (ps_none e3)) (f0.trans e0.symm) (f4.trans e4.symm) (f1.trans e1.symm) fun h9 t9 F9 N9 k9 => ?_
    clear F1 N1 k9
    k_steps
    rename Fr _ _ _ _ => F'
    rename News _ _ _ _ => N'
    refine' k _ _ _ (news_sub N' ?nw) rfl rfl rfl F'
    case nw =>
      repeat (refine all_cons (by k_memK) ?_)
      exact all_nil
  · obtain ⟨tz, sz⟩ := ps_some e3 p3 (fun z => nomatch z)
    k_steps
    unfold Stop
    rename Fr _ _ _ _ => F1
    rename News _ _ _ _ => N1
    rename Pv _ => hv'
    rename er _ = sv _ => he'
    refine cmp_neU (Nat.le_of_ble_eq_true (by with_unfolding_all rfl)) (Nat.le_of_ble_eq_true (by with_unfolding_all rfl)) F1 N1 X T (UrlAt.of_news N1 (by k_memK) (by k_memK) (by k_memK)) (UrlAt.of_news N1 (by k_memK) (by k_memK) (by k_memK)) (.str _ _ (by decide)) (.str _ _ (by decide)) v2.pv p2 v3 hv' v0.pv p0 v4.pv p4 v1.pv p1 (by rfl) (f2.trans e2.symm) (f3.trans (sz.symm.trans he'.symm)) (f0.trans e0.symm) (f4.trans e4.symm) (f1.trans e1.symm) fun h9 t9 F9 N9 k9 => ?_
    clear F1 N1 k9
    k_steps
    rename Fr _ _ _ _ => F'
    rename News _ _ _ _ => N'
    refine' k _ _ _ (news_sub N' ?nw) rfl rfl rfl F'
    case nw =>
      repeat (refine all_cons (by k_memK) ?_)
      exact all_nil
  · obtain ⟨tz, sz⟩ := ps_some e3 p3 (fun z => nomatch z)
    k_steps
    unfold Stop
    rename Fr _ _ _ _ => F1
    rename News _ _ _ _ => N1
    rename Pv _ => hv'
    rename er _ = sv _ => he'
    refine cmp_neU (Nat.le_of_ble_eq_true (by with_unfolding_all rfl)) (Nat.le_of_ble_eq_true (by with_unfolding_all rfl)) F1 N1 X T (UrlAt.of_news N1 (by k_memK) (by k_memK) (by k_memK)) (UrlAt.of_news N1 (by k_memK) (by k_memK) (by k_memK)) (.str _ _ (by decide)) (.str _ _ (by decide)) v2.pv p2 v3 hv' v0.pv p0 v4.pv p4 v1.pv p1 (by rfl) (f2.trans e2.symm) (f3.trans (sz.symm.trans he'.symm)) (f0.trans e0.symm) (f4.trans e4.symm) (f1.trans e1.symm) fun h9 t9 F9 N9 k9 => ?_
    clear F1 N1 k9
    k_steps
    rename Fr _ _ _ _ => F'
    rename News _ _ _ _ => N'
    refine' k _ _ _ (news_sub N' ?nw) rfl rfl rfl F'
    case nw =>
      repeat (refine all_cons (by k_memK) ?_)
      exact all_nil
end
end Mine
end
section
local macro_rules | `(tactic| walk_at "mine pad") => `(tactic| skip)
open PySem PySem.W PySem.W.X PyProof.Rows PySem.Calls
set_option Elab.async false
set_option maxRecDepth 100000
set_option maxHeartbeats 4000000
set_option pp.deepTerms false
set_option pp.maxSteps 2000
local macro_rules | `(tactic| walk_at "compareOp NotEq ref ref") => `(tactic| (refine Mine.stop_i ?_))
local macro_rules | `(tactic| walk_at "getMethod ref") => `(tactic| ((with_reducible show wpAny _ _ (getMethod (Value.ref _) (Str.ofString "translate_connect_args") _) _ _ _); refine Mine.meth_trn (Frag.In.keeps ‹Frag.In _ _› (Fr.keep ‹_›)) (Mine.UrlAt.of_news (by assumption) (by k_memK) (by k_memK) (by k_memK)) ?_))
local macro_rules | `(tactic| walk_at "call ref") => `(tactic| ((with_reducible show wpAny _ _ (call (Value.ref 481) _) _ _ _); refine wpAny_call (Mine.trn0_code (kws := []) (Nat.le_of_ble_eq_true (by with_unfolding_all rfl)) (Nat.le_of_ble_eq_true (by with_unfolding_all rfl)) (by with_unfolding_all rfl) (by assumption) (by assumption) (by assumption) (by assumption) (Mine.UrlAt.of_news (by assumption) (by k_memK) (by k_memK) (by k_memK)) (by assumption) (by assumption) (by assumption) (by assumption) (by assumption) (List.forall_mem_nil _) List.nodup_nil (Nat.zero_le _) ?_); intro a' o' tks' h' t' ht' F' N' off'; clear off'; (try simp only [List.map_nil] at ht')))
namespace Mine
section
variable {w : World} {s : Shared} {g : Heap} {L fa : Addr} {cd : Value} {m : Str → Option Value} {mg mb : Str → Option Value}
theorem ph_I {lit so oC oS oM oP o : Obj} {rest : List Stmt} {Q : Flow → Shared → Prop} {us pw ho po db dn us' pw' ho' po' db' dn' : Value} {li st sc u q dx d2 vl a u' q' dx' d2' : Addr} {tks : List (Str × Value)} (X : (heap w.params).In g) (T : TR mg mb g)
    (F : Fr g L s.heap m) (N : News g L s.heap [(u', urlObj dn' us' pw' ho' po' db' dx' q'), (dx', nilObj), (q', immObj d2'), (a, o), (vl, W.listOf [ho, db, us, pw, po].toArray 0), (u, urlObj dn us pw ho po db dx q), (dx, nilObj), (q, immObj d2), (L + 3, oM), (L + 2, oP), (st, so), (sc, oC), (L + 1, oS), (li, lit)])
    (hP : oP.data = .cell (some (.ref a))) (hp : Told w o tks (told [] [] (fieldsOf ho db us pw po) []) a)
    (h4 : Pv pw)
    (f2 : er us' = cl us) (f0 : er ho' = cl ho) (f1 : er db' = cl db) (f4 : er po' = cl po) (f3 : er pw' = ps pw) (v2 : Pv us') (v0 : Pv ho') (v1 : Pv db') (v4 : Pv po') (v3 : Pv pw')
    (hma : m (Str.ofString "again") = some (.ref u')) (hmu : m (Str.ofString "url") = some (.ref u))
    (k : ∀ (h' : Heap) (t' : Nat) (m' : Str → Option Value),
      News g L h' [(u, urlObj dn us pw ho po db dx q), (dx, nilObj), (q, immObj d2), (L + 3, oM), (L + 2, oP), (st, so), (sc, oC), (L + 1, oS), (li, lit)] →
      m' (Str.ofString "url") = some (.ref u) → Fr g L h' m' →
      wpAny (model Mine.pw w) AL (execs rest (lawEnv w.params L fa cd)) Q (fun _ _ => False) { s with heap := h', toks := t' }) :
    wpAny (model Mine.pw w) AL (execs (((lawTurn w.params).drop 19).take 1 ++ rest) (lawEnv w.params L fa cd)) Q (fun _ _ => False) s := by
  w_on
  have dummy : heap = heap ∧ PySem.Challenge.rw_bq5036_01 = PySem.Challenge.rw_bq5036_01 := by
    k_fill
    exact ⟨rfl, rfl⟩
  clear dummy
  rw [show ((lawTurn w.params).drop 19).take 1 ++ rest = _ :: rest from rfl]
  unfold lawEnv at k ⊢
  rw [show lawScope w.params = ⟨_, _, _, _, _⟩ from rfl] at k ⊢
  have F := fr_known F (x := Str.ofString "url") hmu
  have F := fr_known F (x := Str.ofString "again") (by rw [if_neg (by decide)]; exact hma)
  k_steps
  unfold Stop
  rename News _ _ _ _ => N1
  rename Told _ _ _ (told [] [] (fieldsOf ho' db' us' pw' po') []) _ => ha
  rw [told_again f0 f1 f2 f3 f4 h4] at ha
  refine told_ne (by with_unfolding_all decide) N1 (by k_memK) (by k_memK) ha hp ?_
  k_steps
  rename Fr _ _ _ _ => F'
  rename News _ _ _ _ => N'
  refine' k _ _ _ (news_sub N' ?nw) rfl F'
  case nw =>
    repeat (refine all_cons (by k_memK) ?_)
    exact all_nil
end
end Mine
end
section
open PySem PySem.W PySem.W.X PyProof.Rows PySem.Calls
set_option Elab.async false
set_option maxRecDepth 100000
set_option maxHeartbeats 4000000
set_option pp.deepTerms false
set_option pp.maxSteps 2000
namespace Mine
theorem turn_cut {α : Type} (l : List α) : l = l.take 7 ++ ((l.drop 7).take 1 ++ ((l.drop 8).take 1 ++ ((l.drop 9).take 1 ++ ((l.drop 10).take 1 ++ ((l.drop 11).take 1 ++ ((l.drop 12).take 2 ++ ((l.drop 14).take 1 ++ ((l.drop 15).take 1 ++ ((l.drop 16).take 1 ++ ((l.drop 17).take 1 ++ ((l.drop 18).take 1 ++ ((l.drop 19).take 1 ++ l.drop 20)))))))))))) := by
  have c : ∀ i n j, j = i + n → (l.drop i).take n ++ l.drop j = l.drop i := by
    intro i n j e
    rw [e, ← List.drop_drop]
    exact List.take_append_drop _ _
  rw [c 19 1 20 rfl, c 18 1 19 rfl, c 17 1 18 rfl, c 16 1 17 rfl, c 15 1 16 rfl, c 14 1 15 rfl, c 12 2 14 rfl, c 11 1 12 rfl, c 10 1 11 rfl, c 9 1 10 rfl, c 8 1 9 rfl, c 7 1 8 rfl]
  exact (List.take_append_drop 7 l).symm
section
variable {w : World} {s : Shared} {g : Heap} {L fa : Addr} {cd : Value} {m : Str → Option Value} {mg mb : Str → Option Value}
theorem law_turn {st sc li : Addr} {so oM oP oS lit : Obj} {vs : List Value} {ns : List Int} {Q : Flow → Shared → Prop} {xM xP : Option Value} (X : (heap w.params).In g) (T : TR mg mb g)
    (hns : IntsAre vs ns) (hlen : ns.length ≤ 60) (F : Fr g L s.heap m) (N : News g L s.heap [(st, so), (sc, W.listOf vs.toArray 0), (L + 3, oM), (L + 2, oP), (L + 1, oS), (li, lit)]) (hso : StOk sc ns so) (hS : oS.data = .cell (some (.ref st))) (hM : oM.data = .cell xM) (hP : oP.data = .cell xP)
    (hst : StOff L st sc li)
    (k : ∀ (so' oM' oP' : Obj) (xM' xP' : Option Value) (us pw ho po db : Value) (t : Tok) (u q dx d2 : Addr) (h' : Heap) (t' : Nat) (m' : Str → Option Value), News g L h' [(li, lit), (st, so'), (sc, W.listOf vs.toArray 0), (L + 3, oM'), (L + 2, oP'), (L + 1, oS), (u, urlObj (.str (Str.ofString "pg+x") t) us pw ho po db dx q), (dx, nilObj), (q, immObj d2)] → StOk sc ns so' → oM'.data = .cell xM' → oP'.data = .cell xP' →
      m' (Str.ofString "url") = some (.ref u) → (@Ne Nat li u ∧ @Ne Nat li dx ∧ @Ne Nat li q) → Fr g L h' m' → Q .next { s with heap := h', toks := t' }) :
    wpAny (model Mine.pw w) AL (execs (lawTurn w.params) (lawEnv w.params L fa cd)) Q (fun _ _ => False) s := by
  rw [turn_cut (lawTurn w.params)]
  refine ph_A X T hns hlen F N hso hS hst.sc hst.s1 hst.s2 hst.s3 hst.i1 fun so1 us pw ho po db t u q dx d2 vl h1 t1 m1 N1 vus vho vdb vpw vpo hso1 mu1 mv1 o1 co oi F1 => ?_
  refine ph_B X T hns hlen F1 N1 hso1 hS hst.sc hst.s1 hst.s2 hst.s3 hst.i1 o1 mu1 mv1 fun so2 ys nl h2 t2 m2 N2 hso2 hys hyl mn2 mu2 mv2 on F2 => ?_
  refine ph_C0 (ns := ns) X T F2 N2 fun oR rl h3 t3 N3 hR0 hrl hl F3 => ?_
  refine ph_C X T hns hlen F3 N3 hso2 hS hR0 hst.sc hst.s1 hst.s2 hst.s3 hst.i1 o1.1 o1.2.1 o1.2.2.1 o1.2.2.2 on hl (by rw [if_pos rfl]) (by rw [if_neg (by decide)]; exact mu2) (by rw [if_neg (by decide)]; exact mv2) (by rw [if_neg (by decide)]; exact mn2) fun so4 oR4 kvs h4 t4 m4 N4 hR hk hkl mr4 mn4 mu4 mv4 hso4 F4 => ?_
  refine ph_D (so := so4) (oC := W.listOf vs.toArray 0) (oS := oS) (oM := oM) (oP := oP) (lit := lit) (li := li) (st := st) (sc := sc) (u := u) (q := q) (dx := dx) (d2 := d2) (dn := .str (Str.ofString "pg+x") t) X T F4 (news_sub N4 ?n4) hR hk hys hyl hrl hkl vho.pv vdb.pv vus.pv vpw vpo.pv mr4 mu4 mv4 mn4 fun a5 o5 tk5 h5 t5 m5 N5 ht5 of5 mt5 mr5 mn5 mu5 mv5 F5 => ?_
  case n4 =>
    repeat (refine all_cons (by k_memK) ?_)
    exact all_nil
  refine ph_E X T F5 N5 hR hk hys hyl hrl vho.pv vdb.pv vus.pv vpw vpo.pv ht5 mt5 mr5 mn5 mu5 mv5 fun h6 t6 m6 N6 mu6 mv6 F6 => ?_
  refine ph_F X T F6 N6 hP co hst vho.pv vdb.pv vus.pv vpw vpo.pv mu6 mv6 fun a o oP7 tks h7 t7 m7 N7 hp7 hP7 oa7 mu7 mv7 F7 => ?_
  refine ph_G1 X T F7 N7 hM co hst oa7 vho.pv vdb.pv vus.pv vpw vpo.pv mu7 mv7 fun am om oM8 tkm h8 t8 m8 N8 hm8 hM8 mu8 mv8 F8 => ?_
  refine ph_G2 X T F8 N8 hP7 hM8 hp7 hm8 mu8 mv8 fun h9 t9 m9 N9 mu9 mv9 F9 => ?_
  refine ph_H1 X T F9 N9 hP7 hp7 vho vdb vus vpw vpo mu9 mv9 fun us' pw' ho' po' db' t' u' q' dx' d2' h10 t10 m10 f2 f0 f1 f4 f3 v2 v0 v1 v4 v3 N10 ma10 mu10 mv10 F10 => ?_
  refine ph_H2 X T F10 N10 vho.pv vdb.pv vus.pv vpw vpo.pv ma10 mu10 mv10 fun y0 y1 y2 y3 y4 sl h11 t11 m11 e0 e1 e2 e3 e4 p0 p1 p2 p3 p4 N11 ms11 ma11 mu11 mv11 F11 => ?_
  refine ph_H3 X T F11 N11 vho vdb vus vpw vpo e0 e1 e2 e3 e4 p0 p1 p2 p3 p4 f2 f0 f1 f4 f3 v2 v0 v1 v4 v3 ms11 ma11 mu11 mv11 fun h12 t12 m12 N12 ma12 mu12 mv12 F12 => ?_
  refine ph_I X T F12 N12 hP7 hp7 vpw f2 f0 f1 f4 f3 v2.pv v0.pv v1.pv v4.pv v3 ma12 mu12 fun h13 t13 m13 N13 mu13 F13 => ?_
  rw [show (lawTurn w.params).drop 20 = [] from rfl]
  refine wpAny_execs_nil ?_
  refine k so4 oM8 oP7 _ _ us pw ho po db t u q dx d2 h13 t13 m13 (news_sub N13 ?n13) hso4 hM8 hP7 mu13 oi F13
  case n13 =>
    repeat (refine all_cons (by k_memK) ?_)
    exact all_nil
end
end Mine
end
section
open PySem PySem.W PySem.W.X PyProof.Rows PySem.Calls
set_option Elab.async false
set_option maxRecDepth 100000
set_option maxHeartbeats 4000000
set_option pp.deepTerms false
set_option pp.maxSteps 2000
namespace Mine
/-- what holds between two turns -/
def LI (ns : List Int) (vs : List Value) (st sc L : Addr) (oS : Obj) (i : Nat) (m : Str → Option Value) (news : List (Addr × Obj)) : Prop :=
  ∃ so oM oP xM xP, StOk sc ns so ∧ oM.data = .cell xM ∧ oP.data = .cell xP ∧
    ((i = 0 ∧ news = [(st, so), (sc, W.listOf vs.toArray 0), (L + 3, oM), (L + 2, oP), (L + 1, oS)]) ∨
     ∃ us pw ho po db t u q dx d2, m (Str.ofString "url") = some (.ref u) ∧ news = [(st, so), (sc, W.listOf vs.toArray 0), (L + 3, oM), (L + 2, oP), (L + 1, oS), (u, urlObj (.str (Str.ofString "pg+x") t) us pw ho po db dx q), (dx, nilObj), (q, immObj d2)])
theorem LI.sub {ns : List Int} {vs : List Value} {st sc L : Addr} {oS : Obj} {i : Nat} {m : Str → Option Value} {news : List (Addr × Obj)} (h : LI ns vs st sc L oS i m news) :
    ∃ so oM oP xM xP, StOk sc ns so ∧ oM.data = .cell xM ∧ oP.data = .cell xP ∧ ∀ I it, ∀ p ∈ [(st, so), (sc, W.listOf vs.toArray 0), (L + 3, oM), (L + 2, oP), (L + 1, oS), (I, it)], List.Mem p ((I, it) :: news) := by
  obtain ⟨so, oM, oP, xM, xP, a, b, c, d⟩ := h
  refine ⟨so, oM, oP, xM, xP, a, b, c, fun I it => ?_⟩
  rcases d with ⟨-, rfl⟩ | ⟨us, pw, ho, po, db, t, u, q, dx, d2, -, rfl⟩
  · repeat (refine all_cons (by k_memK) ?_)
    exact all_nil
  · repeat (refine all_cons (by k_memK) ?_)
    exact all_nil
section
variable {w : World} {s : Shared} {g : Heap} {L fa : Addr} {cd : Value} {m : Str → Option Value} {mg mb : Str → Option Value}
theorem law_loop {A : Around} {E : Value → Shared → Prop} {st sc I : Addr} {so oM oP oS : Obj} {vs : List Value} {ns : List Int} {Q : Flow → Shared → Prop} {xM xP : Option Value} (hd : A.depth ≤ 330) (hu : A.units ≤ 60) (hh : A.handled = none) (X : (heap w.params).In g) (T : TR mg mb g)
    (hns : IntsAre vs ns) (hlen : ns.length ≤ 60) (hso : StOk sc ns so) (hS : oS.data = .cell (some (.ref st))) (hM : oM.data = .cell xM) (hP : oP.data = .cell xP) (hst : StOff L st sc I)
    (hz : ∀ us pw ho po db t u q dx d2 m h tk, m (Str.ofString "url") = some (.ref u) → Fr g L h m → News g L h [(u, urlObj (.str (Str.ofString "pg+x") t) us pw ho po db dx q), (dx, nilObj), (q, immObj d2)] → Q .next { s with heap := h, toks := tk }) :
    RangeRest Mine.pw w A E g (lawEnv w.params L fa cd) (Str.ofString "_") (lawTurn w.params) Q s I 0 4 4 0 m [(st, so), (sc, W.listOf vs.toArray 0), (L + 3, oM), (L + 2, oP), (L + 1, oS)] := by
  refine rest_of_range (LI ns vs st sc L oS) ?ht ?hz 4 0 _ _ rfl ⟨so, oM, oP, xM, xP, hso, hM, hP, .inl ⟨rfl, rfl⟩⟩
  case hz =>
    rintro m2 news h tk ⟨so2, oM2, oP2, xM2, xP2, a, b, c, d⟩ F N
    rcases d with ⟨z, -⟩ | ⟨us, pw, ho, po, db, t, u, q, dx, d2, mu, rfl⟩
    · exact absurd z (by decide)
    · refine hz us pw ho po db t u q dx d2 m2 h tk mu F (news_sub N ?_)
      repeat (refine all_cons (by k_memK) ?_)
      exact all_nil
  case ht =>
    intro i m2 news it t h tk hi hl hcls F N
    obtain ⟨so2, oM2, oP2, xM2, xP2, a, b, c, d⟩ := hl.sub
    refine wideD (d := 330) (u := 60) hd hu ?_
    rw [hh]
    refine wpAny_mono (law_turn X T hns hlen F (news_sub N (d I it)) a hS b c hst fun so' oM' oP' xM' xP' us pw ho po db t' u q dx d2 h' t2 m' N' hso' hM' hP' mu oi F' => ?_) (fun _ _ z => z) fun _ _ z => z.elim
    refine unr_end F' N' ?_ ⟨so', oM', oP', xM', xP', hso', hM', hP', .inr ⟨us, pw, ho, po, db, t', u, q, dx, d2, mu, rfl⟩⟩
    exact off_cons hst.i1 (off_cons hst.ic (off_cons hst.i3.symm (off_cons hst.i2.symm (off_cons hst.i0.symm (off_cons oi.1.symm (off_cons oi.2.1.symm (off_cons oi.2.2.symm off_nil)))))))
end
end Mine
end
section
open PySem PySem.W PySem.W.X PyProof.Rows PySem.Calls
set_option Elab.async false
set_option maxRecDepth 100000
set_option maxHeartbeats 4000000
namespace Mine
section
variable {w : World} {A : Around} {E : Value → Shared → Prop} {s : Shared} {g : Heap} {L : Addr} {m : Str → Option Value} {news : List (Addr × Obj)} {mg mb : Str → Option Value} {us pw ho po db : Value}
theorem use_gbn {t : Tok} {u q dx d2 : Addr} {Q : Value → Shared → Prop} (hd : A.depth ≤ 340) (hu : A.units ≤ 100) (F : Fr g L s.heap m) (N : News g L s.heap news) (X : (heap w.params).In g) (T : TR mg mb g)
    (a : List.Mem (u, urlObj (.str (Str.ofString "pg+x") t) us pw ho po db dx q) news) (b : List.Mem (dx, nilObj) news) (c : List.Mem (q, immObj d2) news)
    (h : ∀ h' t' t, Fr g L h' m → News g L h' news → Q (.str (Str.ofString "pg") t) { s with heap := h', toks := t' }) :
    wpAny (model Mine.pw w) A (call (.ref 473) [.ref u]) Q E s := by
  refine wpAny_call (wideDC hd hu (codeAny_mono (gbn_c (X.keeps F.keep) (T.keeps F.keep) (UrlAt.of_news N a b c)) fun r s' z => ?_))
  obtain ⟨⟨t2, rfl⟩, k⟩ := z
  obtain ⟨hh, gs, dr, tk, os⟩ := s'
  obtain ⟨k1, rfl, rfl, rfl⟩ := k
  exact h hh tk t2 (fr_stays F k1) (news_stays N k1)
end
end Mine
end
open PySem PySem.W PyProof.Rows PySem.Calls
set_option Elab.async false
namespace Mine
noncomputable def obsK (s : Shared) : List (Option Obj) := addrs.map s.heap.get?
noncomputable def valK (w : World) : List (Option Obj) := (heap w.params).map fun p => some p.2
theorem lookK (w : World) (s : Shared) (e : obsK s = valK w) : InK heap w s.heap := InK.of heap_keys w s e
theorem leftK : LeftO pw qv loose xt obsK valK 9480 := left
end Mine
local macro_rules | `(tactic| walk_at "RangeRest") => `(tactic| (refine Mine.stop_i ?_))
local macro_rules | `(tactic| walk_at "getMethod ref") => `(tactic| ((with_reducible show wpAny _ _ (getMethod (Value.ref _) (Str.ofString "get_backend_name") _) _ _ _); refine Mine.meth_gbn (Frag.In.keeps ‹Frag.In _ _› (Fr.keep ‹_›)) (Mine.UrlAt.of_news (by assumption) (by k_memK) (by k_memK) (by k_memK)) ?_))
local macro_rules | `(tactic| walk_at "call ref") => `(tactic| ((with_reducible show wpAny _ _ (call (Value.ref 473) _) _ _ _); refine Mine.stop_i ?_))
set_option maxRecDepth 100000 in
set_option maxHeartbeats 8000000 in
theorem PySem.Challenge.cw_bq5036_01_holds : PySem.Challenge.rw_bq5036_01.Holds := by
  w_on
  o_law
  refine PySem.W.holds_open (q := Mine.qv) (loose := Mine.loose) (Xt := Mine.xt) (XP := XL Mine.qv []) (Yf := Mine.obsK) (Ya := Mine.valK) (YP := InK Mine.heap) (N := 9480) Mine.leftK Mine.lookK InK.keeps (fun s e => xl_of s (Bool.and_eq_true_iff.mp e).1) XL.keeps (by rfl) (by rfl) (by rfl) (fun s e => recFacts_of (Bool.and_eq_true_iff.mp e).2) (by rfl) (by assumption) (by decide +kernel) ⟨rfl, rfl, rfl, rfl, rfl, by decide +kernel⟩ ?hw ?hc
  case hw => w_witness2
  case hc =>
    w_on
    k_fill
    intro w s₀ s₁ mg mb G KX fa o pm cd doc dV kV ho hd hcd hD hmg hg args vals as hpre hlay hrd hwl hlo
    have KX : (Mine.heap w.params).In s₁.heap := KX
    k_behind G ho hd hcd hD hmg hpre hlay hrd hwl hlo cd
    have TT : Mine.TR mg mb s₁.heap := topRead_of ‹Top _ _ _ _ _ _›
    k_steps
    unfold Mine.Stop
    rename_i D' ws' h3 hI' hC' hL' l1a l' h2 l1b h1 o' F' N' d' h0 tk0 t1 u1 v1 R kp i' l1c
    refine Mine.law_loop (ns := List.take 60 _) (Nat.le_of_ble_eq_true (by with_unfolding_all rfl)) (Nat.le_of_ble_eq_true (by with_unfolding_all rfl)) (by with_unfolding_all rfl) KX TT hI' (List.length_take_le _ _) ⟨0, 17, _, _, none, 0, #[], rfl, ⟨Int.le_refl _, Int.natCast_nonneg _⟩, by decide⟩ d' (by assumption) (by assumption) ⟨Nat.ne_of_gt l1b.2.2.2, Nat.ne_of_lt l1c.2.1, Nat.ne_of_gt l1b.2.2.1, Nat.ne_of_gt l1b.2.1, Nat.ne_of_gt l1a.2.1, Nat.ne_of_gt l1a.1, Nat.ne_of_lt l1b.1, Nat.ne_of_lt l1c.1, Nat.ne_of_gt l1c.2.2.2.2, Nat.ne_of_gt l1c.2.2.2.1, Nat.ne_of_gt l1c.2.2.1⟩ ?hz
    case hz =>
      clear F' N' l1a l1b l1c R kp hI' hC' hL' d'
      intro us pw ho po db t u q dx d2 m h tk mu F N
      have F := Mine.fr_known F mu
      k_steps
      unfold Mine.Stop
      refine Mine.use_gbn (Nat.le_of_ble_eq_true (by with_unfolding_all rfl)) (Nat.le_of_ble_eq_true (by with_unfolding_all rfl)) F N KX TT (by k_memK) (by k_memK) (by k_memK) fun h7 t7 t8 F7 N7 => ?_
      clear F N
      k_steps
