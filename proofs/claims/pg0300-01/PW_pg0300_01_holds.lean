import PyProof.Rows.All
import Wide.All
import OpenK.AllK
import Wide.FinOn
import PySem.Challenge.RW_pg0300_01
open PySem PySem.W PySem.Calls PyProof.Rows PySem.Spec PyProof.Rows.LSm
set_option autoImplicit false
set_option Elab.async false
set_option maxRecDepth 100000
set_option rowWalk.seconds 0
namespace Mine
noncomputable def stm (i : Nat) : Stmt := (PySem.Challenge.pw_pg0300_01.main.body.drop i).headD (.Pass ⟨0, 0, 0, 0⟩)
noncomputable def inC (j : Nat) (s : Stmt) : Stmt := match s with
  | .ClassDef _ _ _ b _ _ _ _ _ _ _ => (b.drop j).headD s
  | _ => s
noncomputable def sPar (s : Stmt) : Arguments := match s with
  | .FunctionDef _ a _ _ _ _ _ _ _ _ => a
  | _ => ⟨[], [], none, [], [], none, []⟩
noncomputable def sBody (s : Stmt) : List Stmt := match s with
  | .FunctionDef _ _ b _ _ _ _ _ _ _ => b
  | _ => []
noncomputable def sScope (s : Stmt) : Scope := match s with
  | .FunctionDef _ _ _ _ _ _ c _ _ _ => c
  | _ => ⟨.function, [], false, false, []⟩
noncomputable def fp21 : Arguments := by
  refine (?f : (x : Arguments) → x = sPar (stm 0) → Arguments) ?x ?h
  case f => exact fun x _ => x
  case h =>
    conv => rhs; whnf
noncomputable def fb21 : List Stmt := by
  refine (?f : (x : List Stmt) → x = sBody (stm 0) → List Stmt) ?x ?h
  case f => exact fun x _ => x
  case h =>
    conv => rhs; whnf
noncomputable def fs21 : Scope := by
  refine (?f : (x : Scope) → x = sScope (stm 0) → Scope) ?x ?h
  case f => exact fun x _ => x
  case h =>
    conv => rhs; whnf
noncomputable def fp35 : Arguments := by
  refine (?f : (x : Arguments) → x = sPar (inC 0 (stm 2)) → Arguments) ?x ?h
  case f => exact fun x _ => x
  case h =>
    conv => rhs; whnf
noncomputable def fb35 : List Stmt := by
  refine (?f : (x : List Stmt) → x = sBody (inC 0 (stm 2)) → List Stmt) ?x ?h
  case f => exact fun x _ => x
  case h =>
    conv => rhs; whnf
noncomputable def fs35 : Scope := by
  refine (?f : (x : Scope) → x = sScope (inC 0 (stm 2)) → Scope) ?x ?h
  case f => exact fun x _ => x
  case h =>
    conv => rhs; whnf
noncomputable def fp42 : Arguments := by
  refine (?f : (x : Arguments) → x = sPar (inC 1 (stm 2)) → Arguments) ?x ?h
  case f => exact fun x _ => x
  case h =>
    conv => rhs; whnf
noncomputable def fb42 : List Stmt := by
  refine (?f : (x : List Stmt) → x = sBody (inC 1 (stm 2)) → List Stmt) ?x ?h
  case f => exact fun x _ => x
  case h =>
    conv => rhs; whnf
noncomputable def fs42 : Scope := by
  refine (?f : (x : Scope) → x = sScope (inC 1 (stm 2)) → Scope) ?x ?h
  case f => exact fun x _ => x
  case h =>
    conv => rhs; whnf
noncomputable def fp49 : Arguments := by
  refine (?f : (x : Arguments) → x = sPar (inC 2 (stm 2)) → Arguments) ?x ?h
  case f => exact fun x _ => x
  case h =>
    conv => rhs; whnf
noncomputable def fb49 : List Stmt := by
  refine (?f : (x : List Stmt) → x = sBody (inC 2 (stm 2)) → List Stmt) ?x ?h
  case f => exact fun x _ => x
  case h =>
    conv => rhs; whnf
noncomputable def fs49 : Scope := by
  refine (?f : (x : Scope) → x = sScope (inC 2 (stm 2)) → Scope) ?x ?h
  case f => exact fun x _ => x
  case h =>
    conv => rhs; whnf
noncomputable def fp56 : Arguments := by
  refine (?f : (x : Arguments) → x = sPar (inC 3 (stm 2)) → Arguments) ?x ?h
  case f => exact fun x _ => x
  case h =>
    conv => rhs; whnf
noncomputable def fb56 : List Stmt := by
  refine (?f : (x : List Stmt) → x = sBody (inC 3 (stm 2)) → List Stmt) ?x ?h
  case f => exact fun x _ => x
  case h =>
    conv => rhs; whnf
noncomputable def fs56 : Scope := by
  refine (?f : (x : Scope) → x = sScope (inC 3 (stm 2)) → Scope) ?x ?h
  case f => exact fun x _ => x
  case h =>
    conv => rhs; whnf
noncomputable def fp70 : Arguments := by
  refine (?f : (x : Arguments) → x = sPar (stm 3) → Arguments) ?x ?h
  case f => exact fun x _ => x
  case h =>
    conv => rhs; whnf
noncomputable def fb70 : List Stmt := by
  refine (?f : (x : List Stmt) → x = sBody (stm 3) → List Stmt) ?x ?h
  case f => exact fun x _ => x
  case h =>
    conv => rhs; whnf
noncomputable def fs70 : Scope := by
  refine (?f : (x : Scope) → x = sScope (stm 3) → Scope) ?x ?h
  case f => exact fun x _ => x
  case h =>
    conv => rhs; whnf
noncomputable def fp77 : Arguments := by
  refine (?f : (x : Arguments) → x = sPar (stm 5) → Arguments) ?x ?h
  case f => exact fun x _ => x
  case h =>
    conv => rhs; whnf
noncomputable def fb77 : List Stmt := by
  refine (?f : (x : List Stmt) → x = sBody (stm 5) → List Stmt) ?x ?h
  case f => exact fun x _ => x
  case h =>
    conv => rhs; whnf
noncomputable def fs77 : Scope := by
  refine (?f : (x : Scope) → x = sScope (stm 5) → Scope) ?x ?h
  case f => exact fun x _ => x
  case h =>
    conv => rhs; whnf
noncomputable def fp84 : Arguments := by
  refine (?f : (x : Arguments) → x = sPar (stm 6) → Arguments) ?x ?h
  case f => exact fun x _ => x
  case h =>
    conv => rhs; whnf
noncomputable def fb84 : List Stmt := by
  refine (?f : (x : List Stmt) → x = sBody (stm 6) → List Stmt) ?x ?h
  case f => exact fun x _ => x
  case h =>
    conv => rhs; whnf
noncomputable def fs84 : Scope := by
  refine (?f : (x : Scope) → x = sScope (stm 6) → Scope) ?x ?h
  case f => exact fun x _ => x
  case h =>
    conv => rhs; whnf
noncomputable def fp92 : Arguments := by
  refine (?f : (x : Arguments) → x = sPar (stm 8) → Arguments) ?x ?h
  case f => exact fun x _ => x
  case h =>
    conv => rhs; whnf
noncomputable def fb92 : List Stmt := by
  refine (?f : (x : List Stmt) → x = sBody (stm 8) → List Stmt) ?x ?h
  case f => exact fun x _ => x
  case h =>
    conv => rhs; whnf
noncomputable def fs92 : Scope := by
  refine (?f : (x : Scope) → x = sScope (stm 8) → Scope) ?x ?h
  case f => exact fun x _ => x
  case h =>
    conv => rhs; whnf
noncomputable def fp100 : Arguments := by
  refine (?f : (x : Arguments) → x = sPar (stm 10) → Arguments) ?x ?h
  case f => exact fun x _ => x
  case h =>
    conv => rhs; whnf
noncomputable def fb100 : List Stmt := by
  refine (?f : (x : List Stmt) → x = sBody (stm 10) → List Stmt) ?x ?h
  case f => exact fun x _ => x
  case h =>
    conv => rhs; whnf
noncomputable def fs100 : Scope := by
  refine (?f : (x : Scope) → x = sScope (stm 10) → Scope) ?x ?h
  case f => exact fun x _ => x
  case h =>
    conv => rhs; whnf
noncomputable def fp115 : Arguments := by
  refine (?f : (x : Arguments) → x = sPar (inC 1 (stm 14)) → Arguments) ?x ?h
  case f => exact fun x _ => x
  case h =>
    conv => rhs; whnf
noncomputable def fb115 : List Stmt := by
  refine (?f : (x : List Stmt) → x = sBody (inC 1 (stm 14)) → List Stmt) ?x ?h
  case f => exact fun x _ => x
  case h =>
    conv => rhs; whnf
noncomputable def fs115 : Scope := by
  refine (?f : (x : Scope) → x = sScope (inC 1 (stm 14)) → Scope) ?x ?h
  case f => exact fun x _ => x
  case h =>
    conv => rhs; whnf
noncomputable def fp152 : Arguments := by
  refine (?f : (x : Arguments) → x = sPar (inC 0 (stm 16)) → Arguments) ?x ?h
  case f => exact fun x _ => x
  case h =>
    conv => rhs; whnf
noncomputable def fb152 : List Stmt := by
  refine (?f : (x : List Stmt) → x = sBody (inC 0 (stm 16)) → List Stmt) ?x ?h
  case f => exact fun x _ => x
  case h =>
    conv => rhs; whnf
noncomputable def fs152 : Scope := by
  refine (?f : (x : Scope) → x = sScope (inC 0 (stm 16)) → Scope) ?x ?h
  case f => exact fun x _ => x
  case h =>
    conv => rhs; whnf
noncomputable def fp159 : Arguments := by
  refine (?f : (x : Arguments) → x = sPar (inC 1 (stm 16)) → Arguments) ?x ?h
  case f => exact fun x _ => x
  case h =>
    conv => rhs; whnf
noncomputable def fb159 : List Stmt := by
  refine (?f : (x : List Stmt) → x = sBody (inC 1 (stm 16)) → List Stmt) ?x ?h
  case f => exact fun x _ => x
  case h =>
    conv => rhs; whnf
noncomputable def fs159 : Scope := by
  refine (?f : (x : Scope) → x = sScope (inC 1 (stm 16)) → Scope) ?x ?h
  case f => exact fun x _ => x
  case h =>
    conv => rhs; whnf
noncomputable def fp166 : Arguments := by
  refine (?f : (x : Arguments) → x = sPar (inC 2 (stm 16)) → Arguments) ?x ?h
  case f => exact fun x _ => x
  case h =>
    conv => rhs; whnf
noncomputable def fb166 : List Stmt := by
  refine (?f : (x : List Stmt) → x = sBody (inC 2 (stm 16)) → List Stmt) ?x ?h
  case f => exact fun x _ => x
  case h =>
    conv => rhs; whnf
noncomputable def fs166 : Scope := by
  refine (?f : (x : Scope) → x = sScope (inC 2 (stm 16)) → Scope) ?x ?h
  case f => exact fun x _ => x
  case h =>
    conv => rhs; whnf
noncomputable def fp171 : Arguments := by
  refine (?f : (x : Arguments) → x = sPar (inC 3 (stm 16)) → Arguments) ?x ?h
  case f => exact fun x _ => x
  case h =>
    conv => rhs; whnf
noncomputable def fb171 : List Stmt := by
  refine (?f : (x : List Stmt) → x = sBody (inC 3 (stm 16)) → List Stmt) ?x ?h
  case f => exact fun x _ => x
  case h =>
    conv => rhs; whnf
noncomputable def fs171 : Scope := by
  refine (?f : (x : Scope) → x = sScope (inC 3 (stm 16)) → Scope) ?x ?h
  case f => exact fun x _ => x
  case h =>
    conv => rhs; whnf
noncomputable def fp178 : Arguments := by
  refine (?f : (x : Arguments) → x = sPar (inC 4 (stm 16)) → Arguments) ?x ?h
  case f => exact fun x _ => x
  case h =>
    conv => rhs; whnf
noncomputable def fb178 : List Stmt := by
  refine (?f : (x : List Stmt) → x = sBody (inC 4 (stm 16)) → List Stmt) ?x ?h
  case f => exact fun x _ => x
  case h =>
    conv => rhs; whnf
noncomputable def fs178 : Scope := by
  refine (?f : (x : Scope) → x = sScope (inC 4 (stm 16)) → Scope) ?x ?h
  case f => exact fun x _ => x
  case h =>
    conv => rhs; whnf
noncomputable def fp185 : Arguments := by
  refine (?f : (x : Arguments) → x = sPar (inC 5 (stm 16)) → Arguments) ?x ?h
  case f => exact fun x _ => x
  case h =>
    conv => rhs; whnf
noncomputable def fb185 : List Stmt := by
  refine (?f : (x : List Stmt) → x = sBody (inC 5 (stm 16)) → List Stmt) ?x ?h
  case f => exact fun x _ => x
  case h =>
    conv => rhs; whnf
noncomputable def fs185 : Scope := by
  refine (?f : (x : Scope) → x = sScope (inC 5 (stm 16)) → Scope) ?x ?h
  case f => exact fun x _ => x
  case h =>
    conv => rhs; whnf
noncomputable def fp192 : Arguments := by
  refine (?f : (x : Arguments) → x = sPar (inC 6 (stm 16)) → Arguments) ?x ?h
  case f => exact fun x _ => x
  case h =>
    conv => rhs; whnf
noncomputable def fb192 : List Stmt := by
  refine (?f : (x : List Stmt) → x = sBody (inC 6 (stm 16)) → List Stmt) ?x ?h
  case f => exact fun x _ => x
  case h =>
    conv => rhs; whnf
noncomputable def fs192 : Scope := by
  refine (?f : (x : Scope) → x = sScope (inC 6 (stm 16)) → Scope) ?x ?h
  case f => exact fun x _ => x
  case h =>
    conv => rhs; whnf
noncomputable def fp199 : Arguments := by
  refine (?f : (x : Arguments) → x = sPar (inC 7 (stm 16)) → Arguments) ?x ?h
  case f => exact fun x _ => x
  case h =>
    conv => rhs; whnf
noncomputable def fb199 : List Stmt := by
  refine (?f : (x : List Stmt) → x = sBody (inC 7 (stm 16)) → List Stmt) ?x ?h
  case f => exact fun x _ => x
  case h =>
    conv => rhs; whnf
noncomputable def fs199 : Scope := by
  refine (?f : (x : Scope) → x = sScope (inC 7 (stm 16)) → Scope) ?x ?h
  case f => exact fun x _ => x
  case h =>
    conv => rhs; whnf
noncomputable def fp206 : Arguments := by
  refine (?f : (x : Arguments) → x = sPar (inC 8 (stm 16)) → Arguments) ?x ?h
  case f => exact fun x _ => x
  case h =>
    conv => rhs; whnf
noncomputable def fb206 : List Stmt := by
  refine (?f : (x : List Stmt) → x = sBody (inC 8 (stm 16)) → List Stmt) ?x ?h
  case f => exact fun x _ => x
  case h =>
    conv => rhs; whnf
noncomputable def fs206 : Scope := by
  refine (?f : (x : Scope) → x = sScope (inC 8 (stm 16)) → Scope) ?x ?h
  case f => exact fun x _ => x
  case h =>
    conv => rhs; whnf
noncomputable def fp213 : Arguments := by
  refine (?f : (x : Arguments) → x = sPar (inC 9 (stm 16)) → Arguments) ?x ?h
  case f => exact fun x _ => x
  case h =>
    conv => rhs; whnf
noncomputable def fb213 : List Stmt := by
  refine (?f : (x : List Stmt) → x = sBody (inC 9 (stm 16)) → List Stmt) ?x ?h
  case f => exact fun x _ => x
  case h =>
    conv => rhs; whnf
noncomputable def fs213 : Scope := by
  refine (?f : (x : Scope) → x = sScope (inC 9 (stm 16)) → Scope) ?x ?h
  case f => exact fun x _ => x
  case h =>
    conv => rhs; whnf
noncomputable def fp227 : Arguments := by
  refine (?f : (x : Arguments) → x = sPar (stm 18) → Arguments) ?x ?h
  case f => exact fun x _ => x
  case h =>
    conv => rhs; whnf
noncomputable def fb227 : List Stmt := by
  refine (?f : (x : List Stmt) → x = sBody (stm 18) → List Stmt) ?x ?h
  case f => exact fun x _ => x
  case h =>
    conv => rhs; whnf
noncomputable def fs227 : Scope := by
  refine (?f : (x : Scope) → x = sScope (stm 18) → Scope) ?x ?h
  case f => exact fun x _ => x
  case h =>
    conv => rhs; whnf
noncomputable def fp234 : Arguments := by
  refine (?f : (x : Arguments) → x = sPar (stm 19) → Arguments) ?x ?h
  case f => exact fun x _ => x
  case h =>
    conv => rhs; whnf
noncomputable def fb234 : List Stmt := by
  refine (?f : (x : List Stmt) → x = sBody (stm 19) → List Stmt) ?x ?h
  case f => exact fun x _ => x
  case h =>
    conv => rhs; whnf
noncomputable def fs234 : Scope := by
  refine (?f : (x : Scope) → x = sScope (stm 19) → Scope) ?x ?h
  case f => exact fun x _ => x
  case h =>
    conv => rhs; whnf
noncomputable def fp239 : Arguments := by
  refine (?f : (x : Arguments) → x = sPar (stm 20) → Arguments) ?x ?h
  case f => exact fun x _ => x
  case h =>
    conv => rhs; whnf
noncomputable def fb239 : List Stmt := by
  refine (?f : (x : List Stmt) → x = sBody (stm 20) → List Stmt) ?x ?h
  case f => exact fun x _ => x
  case h =>
    conv => rhs; whnf
noncomputable def fs239 : Scope := by
  refine (?f : (x : Scope) → x = sScope (stm 20) → Scope) ?x ?h
  case f => exact fun x _ => x
  case h =>
    conv => rhs; whnf
noncomputable def fp244 : Arguments := by
  refine (?f : (x : Arguments) → x = sPar (stm 21) → Arguments) ?x ?h
  case f => exact fun x _ => x
  case h =>
    conv => rhs; whnf
noncomputable def fb244 : List Stmt := by
  refine (?f : (x : List Stmt) → x = sBody (stm 21) → List Stmt) ?x ?h
  case f => exact fun x _ => x
  case h =>
    conv => rhs; whnf
noncomputable def fs244 : Scope := by
  refine (?f : (x : Scope) → x = sScope (stm 21) → Scope) ?x ?h
  case f => exact fun x _ => x
  case h =>
    conv => rhs; whnf
noncomputable def fp249 : Arguments := by
  refine (?f : (x : Arguments) → x = sPar (stm 22) → Arguments) ?x ?h
  case f => exact fun x _ => x
  case h =>
    conv => rhs; whnf
noncomputable def fb249 : List Stmt := by
  refine (?f : (x : List Stmt) → x = sBody (stm 22) → List Stmt) ?x ?h
  case f => exact fun x _ => x
  case h =>
    conv => rhs; whnf
noncomputable def fs249 : Scope := by
  refine (?f : (x : Scope) → x = sScope (stm 22) → Scope) ?x ?h
  case f => exact fun x _ => x
  case h =>
    conv => rhs; whnf
noncomputable def fp254 : Arguments := by
  refine (?f : (x : Arguments) → x = sPar (stm 23) → Arguments) ?x ?h
  case f => exact fun x _ => x
  case h =>
    conv => rhs; whnf
noncomputable def fb254 : List Stmt := by
  refine (?f : (x : List Stmt) → x = sBody (stm 23) → List Stmt) ?x ?h
  case f => exact fun x _ => x
  case h =>
    conv => rhs; whnf
noncomputable def fs254 : Scope := by
  refine (?f : (x : Scope) → x = sScope (stm 23) → Scope) ?x ?h
  case f => exact fun x _ => x
  case h =>
    conv => rhs; whnf
noncomputable def fp259 : Arguments := by
  refine (?f : (x : Arguments) → x = sPar (stm 24) → Arguments) ?x ?h
  case f => exact fun x _ => x
  case h =>
    conv => rhs; whnf
noncomputable def fb259 : List Stmt := by
  refine (?f : (x : List Stmt) → x = sBody (stm 24) → List Stmt) ?x ?h
  case f => exact fun x _ => x
  case h =>
    conv => rhs; whnf
noncomputable def fs259 : Scope := by
  refine (?f : (x : Scope) → x = sScope (stm 24) → Scope) ?x ?h
  case f => exact fun x _ => x
  case h =>
    conv => rhs; whnf
noncomputable def fp264 : Arguments := by
  refine (?f : (x : Arguments) → x = sPar (stm 25) → Arguments) ?x ?h
  case f => exact fun x _ => x
  case h =>
    conv => rhs; whnf
noncomputable def fb264 : List Stmt := by
  refine (?f : (x : List Stmt) → x = sBody (stm 25) → List Stmt) ?x ?h
  case f => exact fun x _ => x
  case h =>
    conv => rhs; whnf
noncomputable def fs264 : Scope := by
  refine (?f : (x : Scope) → x = sScope (stm 25) → Scope) ?x ?h
  case f => exact fun x _ => x
  case h =>
    conv => rhs; whnf
noncomputable def hd.heap_39 : Params → Frag := by
  refine (?f : (x : Params → List (Nat × Obj)) → x = (fun P => ((((nat_lit 2), (PySem.Obj.mk PySem.Value.none (@Option.none Nat) (PySem.Data.dict (List.toArray []) (0 : Nat)) (List.toArray []))) ::
    ((nat_lit 3), (PySem.Obj.mk (PySem.Value.type "dict") (@Option.none Nat) (PySem.Data.dict (List.toArray [(PySem.DictEntry.mk (PySem.PyData.keyHash P "__name__") (PySem.Value.str "__name__" (165 : Nat)) (PySem.Value.str "law_pg0300_01" (490 : Nat))), (PySem.DictEntry.mk (PySem.PyData.keyHash P "__doc__") (PySem.Value.str "__doc__" (166 : Nat)) PySem.Value.none), (PySem.DictEntry.mk (PySem.PyData.keyHash P "__package__") (PySem.Value.str "__package__" (167 : Nat)) PySem.Value.none), (PySem.DictEntry.mk (PySem.PyData.keyHash P "__loader__") (PySem.Value.str "__loader__" (168 : Nat)) (PySem.Value.builtin "__main__.__loader__#opaque")), (PySem.DictEntry.mk (PySem.PyData.keyHash P "__spec__") (PySem.Value.str "__spec__" (169 : Nat)) PySem.Value.none), (PySem.DictEntry.mk (PySem.PyData.keyHash P "__annotations__") (PySem.Value.str "__annotations__" (170 : Nat)) (PySem.Value.ref (6 : Nat))), (PySem.DictEntry.mk (PySem.PyData.keyHash P "__builtins__") (PySem.Value.str "__builtins__" (171 : Nat)) (PySem.Value.ref (4 : Nat))), (PySem.DictEntry.mk (PySem.PyData.keyHash P "__file__") (PySem.Value.str "__file__" (173 : Nat)) (PySem.Value.str "/claim/cut.py" (172 : Nat))), (PySem.DictEntry.mk (PySem.PyData.keyHash P "__cached__") (PySem.Value.str "__cached__" (174 : Nat)) PySem.Value.none), (PySem.DictEntry.mk (PySem.PyData.keyHash P "_wall") (PySem.Value.str "_wall" (193 : Nat)) (PySem.Value.ref (21 : Nat))), (PySem.DictEntry.mk (PySem.PyData.keyHash P "Entry") (PySem.Value.str "Entry" (253 : Nat)) (PySem.Value.ref (59 : Nat))), (PySem.DictEntry.mk (PySem.PyData.keyHash P "merge_entries") (PySem.Value.str "merge_entries" (262 : Nat)) (PySem.Value.ref (70 : Nat))), (PySem.DictEntry.mk (PySem.PyData.keyHash P "_buffer") (PySem.Value.str "_buffer" (272 : Nat)) (PySem.Value.ref (77 : Nat))), (PySem.DictEntry.mk (PySem.PyData.keyHash P "_truth") (PySem.Value.str "_truth" (280 : Nat)) (PySem.Value.ref (84 : Nat))), (PySem.DictEntry.mk (PySem.PyData.keyHash P "_B64") (PySem.Value.str "_B64" (282 : Nat)) (PySem.Value.bytes (List.toArray (65 :: 66 :: 67 :: 68 :: 69 :: 70 :: 71 :: 72 :: 73 :: 74 :: 75 :: 76 :: 77 :: 78 :: 79 :: 80 :: 81 :: 82 :: 83 :: 84 :: 85 :: 86 :: 87 :: 88 :: 89 :: 90 :: 97 :: 98 :: 99 :: 100 :: 101 :: 102 :: 103 :: 104 :: 105 :: 106 :: 107 :: 108 :: 109 :: 110 :: 111 :: 112 :: 113 :: 114 :: 115 :: 116 :: 117 :: 118 :: 119 :: 120 :: 121 :: 122 :: 48 :: 49 :: 50 :: 51 :: 52 :: 53 :: 54 :: 55 :: 56 :: 57 :: 43 :: 47 :: [])) (281 : Nat))), (PySem.DictEntry.mk (PySem.PyData.keyHash P "b2a_base64") (PySem.Value.str "b2a_base64" (296 : Nat)) (PySem.Value.ref (92 : Nat))), (PySem.DictEntry.mk (PySem.PyData.keyHash P "b64encode") (PySem.Value.str "b64encode" (307 : Nat)) (PySem.Value.ref (100 : Nat))), (PySem.DictEntry.mk (PySem.PyData.keyHash P "_NODE_OUT") (PySem.Value.str "_NODE_OUT" (312 : Nat)) (PySem.Value.int (-1) (311 : Nat))), (PySem.DictEntry.mk (PySem.PyData.keyHash P "_NODE_DONE") (PySem.Value.str "_NODE_DONE" (315 : Nat)) (PySem.Value.int (-2) (314 : Nat))), (PySem.DictEntry.mk (PySem.PyData.keyHash P "_NodeInfo") (PySem.Value.str "_NodeInfo" (352 : Nat)) (PySem.Value.ref (119 : Nat))), (PySem.DictEntry.mk (PySem.PyData.keyHash P "CycleError") (PySem.Value.str "CycleError" (370 : Nat)) (PySem.Value.ref (134 : Nat))), (PySem.DictEntry.mk (PySem.PyData.keyHash P "TopologicalSorter") (PySem.Value.str "TopologicalSorter" (489 : Nat)) (PySem.Value.ref (216 : Nat))), (PySem.DictEntry.mk (PySem.PyData.keyHash P "_law_figures") (PySem.Value.str "_law_figures" (498 : Nat)) (PySem.Value.ref (227 : Nat))), (PySem.DictEntry.mk (PySem.PyData.keyHash P "_law_record") (PySem.Value.str "_law_record" (507 : Nat)) (PySem.Value.ref (234 : Nat))), (PySem.DictEntry.mk (PySem.PyData.keyHash P "_law_within") (PySem.Value.str "_law_within" (513 : Nat)) (PySem.Value.ref (239 : Nat))), (PySem.DictEntry.mk (PySem.PyData.keyHash P "_law_ahead") (PySem.Value.str "_law_ahead" (519 : Nat)) (PySem.Value.ref (244 : Nat))), (PySem.DictEntry.mk (PySem.PyData.keyHash P "_law_depths") (PySem.Value.str "_law_depths" (525 : Nat)) (PySem.Value.ref (249 : Nat))), (PySem.DictEntry.mk (PySem.PyData.keyHash P "_law_rounds") (PySem.Value.str "_law_rounds" (531 : Nat)) (PySem.Value.ref (254 : Nat))), (PySem.DictEntry.mk (PySem.PyData.keyHash P "_law_merged") (PySem.Value.str "_law_merged" (537 : Nat)) (PySem.Value.ref (259 : Nat))), (PySem.DictEntry.mk (PySem.PyData.keyHash P "law") (PySem.Value.str "law" (543 : Nat)) (PySem.Value.ref (264 : Nat)))]) (30 : Nat)) (List.toArray []))) ::
    ((nat_lit 15), (PySem.Obj.mk (PySem.Value.type "tuple") (@Option.none Nat) (PySem.Data.seq (List.toArray []) (0 : Nat)) (List.toArray []))) ::
    ((nat_lit 17), (PySem.Obj.mk (PySem.Value.type "tuple") (@Option.none Nat) (PySem.Data.seq (List.toArray [(PySem.Value.str "k" (190 : Nat))]) (0 : Nat)) (List.toArray []))) ::
    ((nat_lit 18), (PySem.Obj.mk (PySem.Value.type "tuple") (@Option.none Nat) (PySem.Data.seq (List.toArray []) (0 : Nat)) (List.toArray []))) ::
    ((nat_lit 20), (PySem.Obj.mk (PySem.Value.type "code") (@Option.none Nat) (PySem.Data.fields (List.toArray [(PySem.Value.str "_wall" (187 : Nat)), (PySem.Value.str "_wall" (188 : Nat)), (PySem.Value.str "/claim/cut.py" (189 : Nat)), (PySem.Value.int 1 (0 : Nat)), (PySem.Value.int 1 (0 : Nat)), (PySem.Value.int 0 (0 : Nat)), (PySem.Value.int 0 (0 : Nat)), (PySem.Value.int 3 (0 : Nat)), (PySem.Value.ref (15 : Nat)), (PySem.Value.bool Bool.true), (PySem.Value.int 181 (0 : Nat)), (PySem.Value.ref (16 : Nat)), PySem.Value.none, (PySem.Value.ref (17 : Nat)), (PySem.Value.ref (18 : Nat)), (PySem.Value.ref (19 : Nat)), (PySem.Value.int 191 (0 : Nat)), (PySem.Value.int 1 (0 : Nat)), (PySem.Value.str "/claim/cut.py" (192 : Nat))])) (List.toArray []))) ::
    ((nat_lit 21), (PySem.Obj.mk (PySem.Value.type "function") (@Option.none Nat) (PySem.Data.func (PySem.FuncData.mk "_wall" "_wall" fp21 (PySem.FuncBody.stmts fb21) fs21 (3 : Nat) [] PySem.Value.none PySem.Value.none PySem.Value.none (PySem.Value.str "__main__" (164 : Nat)) (@Option.none Nat) (PySem.Value.ref (20 : Nat)) PySem.Value.none (0 : Nat))) (List.toArray []))) ::
    ((nat_lit 29), (PySem.Obj.mk (PySem.Value.type "tuple") (@Option.none Nat) (PySem.Data.seq (List.toArray []) (0 : Nat)) (List.toArray []))) ::
    ((nat_lit 31), (PySem.Obj.mk (PySem.Value.type "tuple") (@Option.none Nat) (PySem.Data.seq (List.toArray [(PySem.Value.str "self" (211 : Nat))]) (0 : Nat)) (List.toArray []))) ::
    ((nat_lit 32), (PySem.Obj.mk (PySem.Value.type "tuple") (@Option.none Nat) (PySem.Data.seq (List.toArray []) (0 : Nat)) (List.toArray []))) ::
    ((nat_lit 34), (PySem.Obj.mk (PySem.Value.type "code") (@Option.none Nat) (PySem.Data.fields (List.toArray [(PySem.Value.str "__init__" (208 : Nat)), (PySem.Value.str "Entry.__init__" (209 : Nat)), (PySem.Value.str "/claim/cut.py" (210 : Nat)), (PySem.Value.int 7 (0 : Nat)), (PySem.Value.int 1 (0 : Nat)), (PySem.Value.int 0 (0 : Nat)), (PySem.Value.int 0 (0 : Nat)), (PySem.Value.int 3 (0 : Nat)), (PySem.Value.ref (29 : Nat)), (PySem.Value.bool Bool.true), (PySem.Value.int 181 (0 : Nat)), (PySem.Value.ref (30 : Nat)), PySem.Value.none, (PySem.Value.ref (31 : Nat)), (PySem.Value.ref (32 : Nat)), (PySem.Value.ref (33 : Nat)), (PySem.Value.int 212 (0 : Nat)), (PySem.Value.int 7 (0 : Nat)), (PySem.Value.str "/claim/cut.py" (213 : Nat))])) (List.toArray []))) ::
    ((nat_lit 35), (PySem.Obj.mk (PySem.Value.type "function") (@Option.none Nat) (PySem.Data.func (PySem.FuncData.mk "__init__" "Entry.__init__" fp35 (PySem.FuncBody.stmts fb35) fs35 (3 : Nat) [] PySem.Value.none PySem.Value.none PySem.Value.none (PySem.Value.str "cpy313.urllib.robotparser" (194 : Nat)) (@Option.none Nat) (PySem.Value.ref (34 : Nat)) PySem.Value.none (0 : Nat))) (List.toArray []))) ::
    ((nat_lit 36), (PySem.Obj.mk (PySem.Value.type "tuple") (@Option.none Nat) (PySem.Data.seq (List.toArray []) (0 : Nat)) (List.toArray []))) ::
    ((nat_lit 38), (PySem.Obj.mk (PySem.Value.type "tuple") (@Option.none Nat) (PySem.Data.seq (List.toArray [(PySem.Value.str "self" (218 : Nat)), (PySem.Value.str "ret" (219 : Nat)), (PySem.Value.str "agent" (220 : Nat)), (PySem.Value.str "rate" (221 : Nat))]) (0 : Nat)) (List.toArray []))) ::
    ((nat_lit 39), (PySem.Obj.mk (PySem.Value.type "tuple") (@Option.none Nat) (PySem.Data.seq (List.toArray []) (0 : Nat)) (List.toArray []))) ::
    ((nat_lit 41), (PySem.Obj.mk (PySem.Value.type "code") (@Option.none Nat) (PySem.Data.fields (List.toArray [(PySem.Value.str "__str__" (215 : Nat)), (PySem.Value.str "Entry.__str__" (216 : Nat)), (PySem.Value.str "/claim/cut.py" (217 : Nat)), (PySem.Value.int 13 (0 : Nat)), (PySem.Value.int 1 (0 : Nat)), (PySem.Value.int 0 (0 : Nat)), (PySem.Value.int 0 (0 : Nat)), (PySem.Value.int 3 (0 : Nat)), (PySem.Value.ref (36 : Nat)), (PySem.Value.bool Bool.true), (PySem.Value.int 181 (0 : Nat)), (PySem.Value.ref (37 : Nat)), PySem.Value.none, (PySem.Value.ref (38 : Nat)), (PySem.Value.ref (39 : Nat)), (PySem.Value.ref (40 : Nat)), (PySem.Value.int 222 (0 : Nat)), (PySem.Value.int 13 (0 : Nat)), (PySem.Value.str "/claim/cut.py" (223 : Nat))])) (List.toArray []))) ::
    ((nat_lit 42), (PySem.Obj.mk (PySem.Value.type "function") (@Option.none Nat) (PySem.Data.func (PySem.FuncData.mk "__str__" "Entry.__str__" fp42 (PySem.FuncBody.stmts fb42) fs42 (3 : Nat) [] PySem.Value.none PySem.Value.none PySem.Value.none (PySem.Value.str "cpy313.urllib.robotparser" (194 : Nat)) (@Option.none Nat) (PySem.Value.ref (41 : Nat)) PySem.Value.none (0 : Nat))) (List.toArray []))) ::
    ((nat_lit 43), (PySem.Obj.mk (PySem.Value.type "tuple") (@Option.none Nat) (PySem.Data.seq (List.toArray []) (0 : Nat)) (List.toArray []))) ::
    ((nat_lit 45), (PySem.Obj.mk (PySem.Value.type "tuple") (@Option.none Nat) (PySem.Data.seq (List.toArray [(PySem.Value.str "self" (228 : Nat)), (PySem.Value.str "useragent" (229 : Nat)), (PySem.Value.str "agent" (230 : Nat))]) (0 : Nat)) (List.toArray []))) ::
    ((nat_lit 46), (PySem.Obj.mk (PySem.Value.type "tuple") (@Option.none Nat) (PySem.Data.seq (List.toArray []) (0 : Nat)) (List.toArray []))) ::
    ((nat_lit 48), (PySem.Obj.mk (PySem.Value.type "code") (@Option.none Nat) (PySem.Data.fields (List.toArray [(PySem.Value.str "applies_to" (225 : Nat)), (PySem.Value.str "Entry.applies_to" (226 : Nat)), (PySem.Value.str "/claim/cut.py" (227 : Nat)), (PySem.Value.int 30 (0 : Nat)), (PySem.Value.int 2 (0 : Nat)), (PySem.Value.int 0 (0 : Nat)), (PySem.Value.int 0 (0 : Nat)), (PySem.Value.int 3 (0 : Nat)), (PySem.Value.ref (43 : Nat)), (PySem.Value.bool Bool.true), (PySem.Value.int 181 (0 : Nat)), (PySem.Value.ref (44 : Nat)), PySem.Value.none, (PySem.Value.ref (45 : Nat)), (PySem.Value.ref (46 : Nat)), (PySem.Value.ref (47 : Nat)), (PySem.Value.int 231 (0 : Nat)), (PySem.Value.int 30 (0 : Nat)), (PySem.Value.str "/claim/cut.py" (232 : Nat))])) (List.toArray []))) ::
    ((nat_lit 49), (PySem.Obj.mk (PySem.Value.type "function") (@Option.none Nat) (PySem.Data.func (PySem.FuncData.mk "applies_to" "Entry.applies_to" fp49 (PySem.FuncBody.stmts fb49) fs49 (3 : Nat) [] PySem.Value.none PySem.Value.none PySem.Value.none (PySem.Value.str "cpy313.urllib.robotparser" (194 : Nat)) (@Option.none Nat) (PySem.Value.ref (48 : Nat)) PySem.Value.none (0 : Nat))) (List.toArray []))) ::
    ((nat_lit 50), (PySem.Obj.mk (PySem.Value.type "tuple") (@Option.none Nat) (PySem.Data.seq (List.toArray []) (0 : Nat)) (List.toArray []))) ::
    ((nat_lit 52), (PySem.Obj.mk (PySem.Value.type "tuple") (@Option.none Nat) (PySem.Data.seq (List.toArray [(PySem.Value.str "self" (237 : Nat)), (PySem.Value.str "filename" (238 : Nat))]) (0 : Nat)) (List.toArray []))) ::
    ((nat_lit 53), (PySem.Obj.mk (PySem.Value.type "tuple") (@Option.none Nat) (PySem.Data.seq (List.toArray []) (0 : Nat)) (List.toArray []))) ::
    ((nat_lit 55), (PySem.Obj.mk (PySem.Value.type "code") (@Option.none Nat) (PySem.Data.fields (List.toArray [(PySem.Value.str "allowance" (234 : Nat)), (PySem.Value.str "Entry.allowance" (235 : Nat)), (PySem.Value.str "/claim/cut.py" (236 : Nat)), (PySem.Value.int 41 (0 : Nat)), (PySem.Value.int 2 (0 : Nat)), (PySem.Value.int 0 (0 : Nat)), (PySem.Value.int 0 (0 : Nat)), (PySem.Value.int 3 (0 : Nat)), (PySem.Value.ref (50 : Nat)), (PySem.Value.bool Bool.true), (PySem.Value.int 181 (0 : Nat)), (PySem.Value.ref (51 : Nat)), PySem.Value.none, (PySem.Value.ref (52 : Nat)), (PySem.Value.ref (53 : Nat)), (PySem.Value.ref (54 : Nat)), (PySem.Value.int 239 (0 : Nat)), (PySem.Value.int 41 (0 : Nat)), (PySem.Value.str "/claim/cut.py" (240 : Nat))])) (List.toArray []))) ::
    ((nat_lit 56), (PySem.Obj.mk (PySem.Value.type "function") (@Option.none Nat) (PySem.Data.func (PySem.FuncData.mk "allowance" "Entry.allowance" fp56 (PySem.FuncBody.stmts fb56) fs56 (3 : Nat) [] PySem.Value.none PySem.Value.none PySem.Value.none (PySem.Value.str "cpy313.urllib.robotparser" (194 : Nat)) (@Option.none Nat) (PySem.Value.ref (55 : Nat)) PySem.Value.none (0 : Nat))) (List.toArray []))) ::
    ((nat_lit 57), (PySem.Obj.mk (PySem.Value.type "tuple") (@Option.none Nat) (PySem.Data.seq (List.toArray [(PySem.Value.str "delay" (242 : Nat)), (PySem.Value.str "req_rate" (243 : Nat)), (PySem.Value.str "rulelines" (244 : Nat)), (PySem.Value.str "useragents" (245 : Nat))]) (0 : Nat)) (List.toArray []))) ::
    ((nat_lit 58), (PySem.Obj.mk (PySem.Value.type "dict") (@Option.none Nat) (PySem.Data.dict (List.toArray [(PySem.DictEntry.mk (PySem.PyData.keyHash P "__module__") (PySem.Value.str "__module__" (203 : Nat)) (PySem.Value.str "cpy313.urllib.robotparser" (194 : Nat))), (PySem.DictEntry.mk (PySem.PyData.keyHash P "__firstlineno__") (PySem.Value.str "__firstlineno__" (207 : Nat)) (PySem.Value.int 5 (206 : Nat))), (PySem.DictEntry.mk (PySem.PyData.keyHash P "__init__") (PySem.Value.str "__init__" (214 : Nat)) (PySem.Value.ref (35 : Nat))), (PySem.DictEntry.mk (PySem.PyData.keyHash P "__str__") (PySem.Value.str "__str__" (224 : Nat)) (PySem.Value.ref (42 : Nat))), (PySem.DictEntry.mk (PySem.PyData.keyHash P "applies_to") (PySem.Value.str "applies_to" (233 : Nat)) (PySem.Value.ref (49 : Nat))), (PySem.DictEntry.mk (PySem.PyData.keyHash P "allowance") (PySem.Value.str "allowance" (241 : Nat)) (PySem.Value.ref (56 : Nat))), (PySem.DictEntry.mk (PySem.PyData.keyHash P "__static_attributes__") (PySem.Value.str "__static_attributes__" (246 : Nat)) (PySem.Value.ref (57 : Nat))), (PySem.DictEntry.mk (PySem.PyData.keyHash P "__dict__") (PySem.Value.str "__dict__" (248 : Nat)) (PySem.Value.ref (60 : Nat))), (PySem.DictEntry.mk (PySem.PyData.keyHash P "__weakref__") (PySem.Value.str "__weakref__" (250 : Nat)) (PySem.Value.ref (61 : Nat))), (PySem.DictEntry.mk (PySem.PyData.keyHash P "__doc__") (PySem.Value.str "__doc__" (251 : Nat)) PySem.Value.none)]) (4 : Nat)) (List.toArray []))) ::
    ((nat_lit 59), (PySem.Obj.mk (PySem.Value.type "type") (@Option.none Nat) (PySem.Data.cls (PySem.ClassData.mk "Entry" [(PySem.Value.type "object")] [(PySem.Value.ref (59 : Nat)), (PySem.Value.type "object")] (58 : Nat) "Entry" Bool.true [] [] Bool.false (Option.none) Bool.false)) (List.toArray [(Option.none), (Option.none), (Option.some (PySem.Value.str "Entry" (196 : Nat))), (Option.some (PySem.Value.str "Entry" (204 : Nat))), (Option.some (PySem.Value.builtin "object.__new__")), (Option.some (PySem.Value.bool Bool.true))]))) ::
    ((nat_lit 60), (PySem.Obj.mk (PySem.Value.type "getset_descriptor") (@Option.none Nat) (PySem.Data.fields (List.toArray [(PySem.Value.str "__dict__" (247 : Nat)), (PySem.Value.ref (59 : Nat)), (PySem.Value.builtin "function.__dict__"), (PySem.Value.builtin "function.__dict__#set")])) (List.toArray []))) ::
    ((nat_lit 61), (PySem.Obj.mk (PySem.Value.type "getset_descriptor") (@Option.none Nat) (PySem.Data.fields (List.toArray [(PySem.Value.str "__weakref__" (249 : Nat)), (PySem.Value.ref (59 : Nat)), (PySem.Value.builtin "ExceptionGroup.__weakref__"), PySem.Value.none])) (List.toArray []))) ::
    ((nat_lit 64), (PySem.Obj.mk (PySem.Value.type "tuple") (@Option.none Nat) (PySem.Data.seq (List.toArray []) (0 : Nat)) (List.toArray []))) ::
    ((nat_lit 66), (PySem.Obj.mk (PySem.Value.type "tuple") (@Option.none Nat) (PySem.Data.seq (List.toArray [(PySem.Value.str "e1" (257 : Nat)), (PySem.Value.str "e2" (258 : Nat)), (PySem.Value.str "entry" (259 : Nat))]) (0 : Nat)) (List.toArray []))) ::
    ((nat_lit 67), (PySem.Obj.mk (PySem.Value.type "tuple") (@Option.none Nat) (PySem.Data.seq (List.toArray []) (0 : Nat)) (List.toArray []))) ::
    ((nat_lit 69), (PySem.Obj.mk (PySem.Value.type "code") (@Option.none Nat) (PySem.Data.fields (List.toArray [(PySem.Value.str "merge_entries" (254 : Nat)), (PySem.Value.str "merge_entries" (255 : Nat)), (PySem.Value.str "/claim/cut.py" (256 : Nat)), (PySem.Value.int 43 (0 : Nat)), (PySem.Value.int 2 (0 : Nat)), (PySem.Value.int 0 (0 : Nat)), (PySem.Value.int 0 (0 : Nat)), (PySem.Value.int 3 (0 : Nat)), (PySem.Value.ref (64 : Nat)), (PySem.Value.bool Bool.true), (PySem.Value.int 181 (0 : Nat)), (PySem.Value.ref (65 : Nat)), PySem.Value.none, (PySem.Value.ref (66 : Nat)), (PySem.Value.ref (67 : Nat)), (PySem.Value.ref (68 : Nat)), (PySem.Value.int 260 (0 : Nat)), (PySem.Value.int 43 (0 : Nat)), (PySem.Value.str "/claim/cut.py" (261 : Nat))])) (List.toArray []))) ::
    ((nat_lit 70), (PySem.Obj.mk (PySem.Value.type "function") (@Option.none Nat) (PySem.Data.func (PySem.FuncData.mk "merge_entries" "merge_entries" fp70 (PySem.FuncBody.stmts fb70) fs70 (3 : Nat) [] PySem.Value.none PySem.Value.none PySem.Value.none (PySem.Value.str "cpy313.urllib.robotparser" (194 : Nat)) (@Option.none Nat) (PySem.Value.ref (69 : Nat)) PySem.Value.none (0 : Nat))) (List.toArray []))) ::
    ((nat_lit 71), (PySem.Obj.mk (PySem.Value.type "tuple") (@Option.none Nat) (PySem.Data.seq (List.toArray []) (0 : Nat)) (List.toArray []))) ::
    ((nat_lit 73), (PySem.Obj.mk (PySem.Value.type "tuple") (@Option.none Nat) (PySem.Data.seq (List.toArray [(PySem.Value.str "data" (268 : Nat)), (PySem.Value.str "t" (269 : Nat))]) (0 : Nat)) (List.toArray []))) ::
    ((nat_lit 74), (PySem.Obj.mk (PySem.Value.type "tuple") (@Option.none Nat) (PySem.Data.seq (List.toArray []) (0 : Nat)) (List.toArray []))) ::
    ((nat_lit 76), (PySem.Obj.mk (PySem.Value.type "code") (@Option.none Nat) (PySem.Data.fields (List.toArray [(PySem.Value.str "_buffer" (265 : Nat)), (PySem.Value.str "_buffer" (266 : Nat)), (PySem.Value.str "/claim/cut.py" (267 : Nat)), (PySem.Value.int 51 (0 : Nat)), (PySem.Value.int 1 (0 : Nat)), (PySem.Value.int 0 (0 : Nat)), (PySem.Value.int 0 (0 : Nat)), (PySem.Value.int 3 (0 : Nat)), (PySem.Value.ref (71 : Nat)), (PySem.Value.bool Bool.true), (PySem.Value.int 181 (0 : Nat)), (PySem.Value.ref (72 : Nat)), PySem.Value.none, (PySem.Value.ref (73 : Nat)), (PySem.Value.ref (74 : Nat)), (PySem.Value.ref (75 : Nat)), (PySem.Value.int 270 (0 : Nat)), (PySem.Value.int 51 (0 : Nat)), (PySem.Value.str "/claim/cut.py" (271 : Nat))])) (List.toArray []))) ::
    ((nat_lit 77), (PySem.Obj.mk (PySem.Value.type "function") (@Option.none Nat) (PySem.Data.func (PySem.FuncData.mk "_buffer" "_buffer" fp77 (PySem.FuncBody.stmts fb77) fs77 (3 : Nat) [] PySem.Value.none PySem.Value.none PySem.Value.none (PySem.Value.str "binascii" (263 : Nat)) (@Option.none Nat) (PySem.Value.ref (76 : Nat)) PySem.Value.none (0 : Nat))) (List.toArray []))) ::
    ((nat_lit 78), (PySem.Obj.mk (PySem.Value.type "tuple") (@Option.none Nat) (PySem.Data.seq (List.toArray []) (0 : Nat)) (List.toArray []))) ::
    ((nat_lit 80), (PySem.Obj.mk (PySem.Value.type "tuple") (@Option.none Nat) (PySem.Data.seq (List.toArray [(PySem.Value.str "x" (276 : Nat)), (PySem.Value.str "t" (277 : Nat))]) (0 : Nat)) (List.toArray []))) ::
    ((nat_lit 81), (PySem.Obj.mk (PySem.Value.type "tuple") (@Option.none Nat) (PySem.Data.seq (List.toArray []) (0 : Nat)) (List.toArray []))) ::
    ((nat_lit 83), (PySem.Obj.mk (PySem.Value.type "code") (@Option.none Nat) (PySem.Data.fields (List.toArray [(PySem.Value.str "_truth" (273 : Nat)), (PySem.Value.str "_truth" (274 : Nat)), (PySem.Value.str "/claim/cut.py" (275 : Nat)), (PySem.Value.int 58 (0 : Nat)), (PySem.Value.int 1 (0 : Nat)), (PySem.Value.int 0 (0 : Nat)), (PySem.Value.int 0 (0 : Nat)), (PySem.Value.int 3 (0 : Nat)), (PySem.Value.ref (78 : Nat)), (PySem.Value.bool Bool.true), (PySem.Value.int 181 (0 : Nat)), (PySem.Value.ref (79 : Nat)), PySem.Value.none, (PySem.Value.ref (80 : Nat)), (PySem.Value.ref (81 : Nat)), (PySem.Value.ref (82 : Nat)), (PySem.Value.int 278 (0 : Nat)), (PySem.Value.int 58 (0 : Nat)), (PySem.Value.str "/claim/cut.py" (279 : Nat))])) (List.toArray []))) ::
    ((nat_lit 84), (PySem.Obj.mk (PySem.Value.type "function") (@Option.none Nat) (PySem.Data.func (PySem.FuncData.mk "_truth" "_truth" fp84 (PySem.FuncBody.stmts fb84) fs84 (3 : Nat) [] PySem.Value.none PySem.Value.none PySem.Value.none (PySem.Value.str "binascii" (263 : Nat)) (@Option.none Nat) (PySem.Value.ref (83 : Nat)) PySem.Value.none (0 : Nat))) (List.toArray []))) ::
    ((nat_lit 85), (PySem.Obj.mk (PySem.Value.type "dict") (@Option.none Nat) (PySem.Data.dict (List.toArray [(PySem.DictEntry.mk (PySem.PyData.keyHash P "newline") (PySem.Value.str "newline" (283 : Nat)) (PySem.Value.bool Bool.true))]) (1 : Nat)) (List.toArray []))) ::
    ((nat_lit 86), (PySem.Obj.mk (PySem.Value.type "tuple") (@Option.none Nat) (PySem.Data.seq (List.toArray []) (0 : Nat)) (List.toArray []))) ::
    ((nat_lit 88), (PySem.Obj.mk (PySem.Value.type "tuple") (@Option.none Nat) (PySem.Data.seq (List.toArray [(PySem.Value.str "data" (287 : Nat)), (PySem.Value.str "newline" (288 : Nat)), (PySem.Value.str "bin_data" (289 : Nat)), (PySem.Value.str "out" (290 : Nat)), (PySem.Value.str "leftbits" (291 : Nat)), (PySem.Value.str "leftchar" (292 : Nat)), (PySem.Value.str "b" (293 : Nat))]) (0 : Nat)) (List.toArray []))) ::
    ((nat_lit 89), (PySem.Obj.mk (PySem.Value.type "tuple") (@Option.none Nat) (PySem.Data.seq (List.toArray []) (0 : Nat)) (List.toArray []))) ::
    ((nat_lit 91), (PySem.Obj.mk (PySem.Value.type "code") (@Option.none Nat) (PySem.Data.fields (List.toArray [(PySem.Value.str "b2a_base64" (284 : Nat)), (PySem.Value.str "b2a_base64" (285 : Nat)), (PySem.Value.str "/claim/cut.py" (286 : Nat)), (PySem.Value.int 64 (0 : Nat)), (PySem.Value.int 1 (0 : Nat)), (PySem.Value.int 1 (0 : Nat)), (PySem.Value.int 1 (0 : Nat)), (PySem.Value.int 3 (0 : Nat)), (PySem.Value.ref (86 : Nat)), (PySem.Value.bool Bool.true), (PySem.Value.int 181 (0 : Nat)), (PySem.Value.ref (87 : Nat)), PySem.Value.none, (PySem.Value.ref (88 : Nat)), (PySem.Value.ref (89 : Nat)), (PySem.Value.ref (90 : Nat)), (PySem.Value.int 294 (0 : Nat)), (PySem.Value.int 64 (0 : Nat)), (PySem.Value.str "/claim/cut.py" (295 : Nat))])) (List.toArray []))) ::
    ((nat_lit 92), (PySem.Obj.mk (PySem.Value.type "function") (@Option.none Nat) (PySem.Data.func (PySem.FuncData.mk "b2a_base64" "b2a_base64" fp92 (PySem.FuncBody.stmts fb92) fs92 (3 : Nat) [] PySem.Value.none (PySem.Value.ref (85 : Nat)) PySem.Value.none (PySem.Value.str "binascii" (263 : Nat)) (@Option.none Nat) (PySem.Value.ref (91 : Nat)) PySem.Value.none (0 : Nat))) (List.toArray []))) ::
    ((nat_lit 93), (PySem.Obj.mk (PySem.Value.type "tuple") (@Option.none Nat) (PySem.Data.seq (List.toArray [PySem.Value.none]) (0 : Nat)) (List.toArray []))) ::
    ((nat_lit 94), (PySem.Obj.mk (PySem.Value.type "tuple") (@Option.none Nat) (PySem.Data.seq (List.toArray []) (0 : Nat)) (List.toArray []))) ::
    ((nat_lit 96), (PySem.Obj.mk (PySem.Value.type "tuple") (@Option.none Nat) (PySem.Data.seq (List.toArray [(PySem.Value.str "s" (302 : Nat)), (PySem.Value.str "altchars" (303 : Nat)), (PySem.Value.str "encoded" (304 : Nat))]) (0 : Nat)) (List.toArray []))) ::
    ((nat_lit 97), (PySem.Obj.mk (PySem.Value.type "tuple") (@Option.none Nat) (PySem.Data.seq (List.toArray []) (0 : Nat)) (List.toArray []))) ::
    ((nat_lit 99), (PySem.Obj.mk (PySem.Value.type "code") (@Option.none Nat) (PySem.Data.fields (List.toArray [(PySem.Value.str "b64encode" (299 : Nat)), (PySem.Value.str "b64encode" (300 : Nat)), (PySem.Value.str "/claim/cut.py" (301 : Nat)), (PySem.Value.int 87 (0 : Nat)), (PySem.Value.int 2 (0 : Nat)), (PySem.Value.int 0 (0 : Nat)), (PySem.Value.int 0 (0 : Nat)), (PySem.Value.int 3 (0 : Nat)), (PySem.Value.ref (94 : Nat)), (PySem.Value.bool Bool.true), (PySem.Value.int 181 (0 : Nat)), (PySem.Value.ref (95 : Nat)), PySem.Value.none, (PySem.Value.ref (96 : Nat)), (PySem.Value.ref (97 : Nat)), (PySem.Value.ref (98 : Nat)), (PySem.Value.int 305 (0 : Nat)), (PySem.Value.int 87 (0 : Nat)), (PySem.Value.str "/claim/cut.py" (306 : Nat))])) (List.toArray []))) ::
    ((nat_lit 100), (PySem.Obj.mk (PySem.Value.type "function") (@Option.none Nat) (PySem.Data.func (PySem.FuncData.mk "b64encode" "b64encode" fp100 (PySem.FuncBody.stmts fb100) fs100 (3 : Nat) [] (PySem.Value.ref (93 : Nat)) PySem.Value.none PySem.Value.none (PySem.Value.str "cpy313.base64" (297 : Nat)) (@Option.none Nat) (PySem.Value.ref (99 : Nat)) PySem.Value.none (0 : Nat))) (List.toArray []))) ::
    ((nat_lit 108), (PySem.Obj.mk (PySem.Value.type "tuple") (@Option.none Nat) (PySem.Data.seq (List.toArray [(PySem.Value.str "node" (328 : Nat)), (PySem.Value.str "npredecessors" (329 : Nat)), (PySem.Value.str "successors" (330 : Nat))]) (0 : Nat)) (List.toArray []))) ::
    ((nat_lit 109), (PySem.Obj.mk (PySem.Value.type "tuple") (@Option.none Nat) (PySem.Data.seq (List.toArray []) (0 : Nat)) (List.toArray []))) ::
    ((nat_lit 111), (PySem.Obj.mk (PySem.Value.type "tuple") (@Option.none Nat) (PySem.Data.seq (List.toArray [(PySem.Value.str "self" (335 : Nat)), (PySem.Value.str "node" (336 : Nat))]) (0 : Nat)) (List.toArray []))) ::
    ((nat_lit 112), (PySem.Obj.mk (PySem.Value.type "tuple") (@Option.none Nat) (PySem.Data.seq (List.toArray []) (0 : Nat)) (List.toArray []))) ::
    ((nat_lit 114), (PySem.Obj.mk (PySem.Value.type "code") (@Option.none Nat) (PySem.Data.fields (List.toArray [(PySem.Value.str "__init__" (332 : Nat)), (PySem.Value.str "_NodeInfo.__init__" (333 : Nat)), (PySem.Value.str "/claim/cut.py" (334 : Nat)), (PySem.Value.int 99 (0 : Nat)), (PySem.Value.int 2 (0 : Nat)), (PySem.Value.int 0 (0 : Nat)), (PySem.Value.int 0 (0 : Nat)), (PySem.Value.int 3 (0 : Nat)), (PySem.Value.ref (109 : Nat)), (PySem.Value.bool Bool.true), (PySem.Value.int 181 (0 : Nat)), (PySem.Value.ref (110 : Nat)), PySem.Value.none, (PySem.Value.ref (111 : Nat)), (PySem.Value.ref (112 : Nat)), (PySem.Value.ref (113 : Nat)), (PySem.Value.int 337 (0 : Nat)), (PySem.Value.int 99 (0 : Nat)), (PySem.Value.str "/claim/cut.py" (338 : Nat))])) (List.toArray []))) ::
    ((nat_lit 115), (PySem.Obj.mk (PySem.Value.type "function") (@Option.none Nat) (PySem.Data.func (PySem.FuncData.mk "__init__" "_NodeInfo.__init__" fp115 (PySem.FuncBody.stmts fb115) fs115 (3 : Nat) [] PySem.Value.none PySem.Value.none PySem.Value.none (PySem.Value.str "cpy313.graphlib" (308 : Nat)) (@Option.none Nat) (PySem.Value.ref (114 : Nat)) PySem.Value.none (0 : Nat))) (List.toArray []))) ::
    ((nat_lit 116), (PySem.Obj.mk (PySem.Value.type "tuple") (@Option.none Nat) (PySem.Data.seq (List.toArray [(PySem.Value.str "node" (340 : Nat)), (PySem.Value.str "npredecessors" (341 : Nat)), (PySem.Value.str "successors" (342 : Nat))]) (0 : Nat)) (List.toArray []))) ::
    ((nat_lit 118), (PySem.Obj.mk (PySem.Value.type "dict") (@Option.none Nat) (PySem.Data.dict (List.toArray [(PySem.DictEntry.mk (PySem.PyData.keyHash P "__module__") (PySem.Value.str "__module__" (323 : Nat)) (PySem.Value.str "cpy313.graphlib" (308 : Nat))), (PySem.DictEntry.mk (PySem.PyData.keyHash P "__firstlineno__") (PySem.Value.str "__firstlineno__" (327 : Nat)) (PySem.Value.int 96 (326 : Nat))), (PySem.DictEntry.mk (PySem.PyData.keyHash P "__slots__") (PySem.Value.str "__slots__" (331 : Nat)) (PySem.Value.ref (108 : Nat))), (PySem.DictEntry.mk (PySem.PyData.keyHash P "__init__") (PySem.Value.str "__init__" (339 : Nat)) (PySem.Value.ref (115 : Nat))), (PySem.DictEntry.mk (PySem.PyData.keyHash P "__static_attributes__") (PySem.Value.str "__static_attributes__" (343 : Nat)) (PySem.Value.ref (116 : Nat))), (PySem.DictEntry.mk (PySem.PyData.keyHash P "node") (PySem.Value.str "node" (345 : Nat)) (PySem.Value.ref (120 : Nat))), (PySem.DictEntry.mk (PySem.PyData.keyHash P "npredecessors") (PySem.Value.str "npredecessors" (347 : Nat)) (PySem.Value.ref (121 : Nat))), (PySem.DictEntry.mk (PySem.PyData.keyHash P "successors") (PySem.Value.str "successors" (349 : Nat)) (PySem.Value.ref (122 : Nat))), (PySem.DictEntry.mk (PySem.PyData.keyHash P "__doc__") (PySem.Value.str "__doc__" (350 : Nat)) PySem.Value.none)]) (5 : Nat)) (List.toArray []))) ::
    ((nat_lit 119), (PySem.Obj.mk (PySem.Value.type "type") (@Option.none Nat) (PySem.Data.cls (PySem.ClassData.mk "_NodeInfo" [(PySem.Value.type "object")] [(PySem.Value.ref (119 : Nat)), (PySem.Value.type "object")] (118 : Nat) "_NodeInfo" Bool.false ["node", "npredecessors", "successors"] [] Bool.false (Option.none) Bool.false)) (List.toArray [(Option.none), (Option.none), (Option.some (PySem.Value.str "_NodeInfo" (316 : Nat))), (Option.some (PySem.Value.str "_NodeInfo" (324 : Nat))), (Option.some (PySem.Value.builtin "object.__new__")), (Option.some (PySem.Value.bool Bool.false))]))) ::
    ((nat_lit 120), (PySem.Obj.mk (PySem.Value.type "member_descriptor") (@Option.none Nat) (PySem.Data.fields (List.toArray [(PySem.Value.str "node" (344 : Nat)), (PySem.Value.ref (119 : Nat)), (PySem.Value.builtin "proto.slot"), (PySem.Value.builtin "proto.slot#set"), (PySem.Value.int 2 (0 : Nat))])) (List.toArray []))) ::
    ((nat_lit 121), (PySem.Obj.mk (PySem.Value.type "member_descriptor") (@Option.none Nat) (PySem.Data.fields (List.toArray [(PySem.Value.str "npredecessors" (346 : Nat)), (PySem.Value.ref (119 : Nat)), (PySem.Value.builtin "proto.slot"), (PySem.Value.builtin "proto.slot#set"), (PySem.Value.int 1 (0 : Nat))])) (List.toArray []))) ::
    ((nat_lit 122), (PySem.Obj.mk (PySem.Value.type "member_descriptor") (@Option.none Nat) (PySem.Data.fields (List.toArray [(PySem.Value.str "successors" (348 : Nat)), (PySem.Value.ref (119 : Nat)), (PySem.Value.builtin "proto.slot"), (PySem.Value.builtin "proto.slot#set"), (PySem.Value.int 0 (0 : Nat))])) (List.toArray []))) ::
    ((nat_lit 125), (PySem.Obj.mk (PySem.Value.type "tuple") (@Option.none Nat) (PySem.Data.seq (List.toArray [(PySem.Value.type "ValueError")]) (0 : Nat)) (List.toArray []))) ::
    ((nat_lit 132), (PySem.Obj.mk (PySem.Value.type "tuple") (@Option.none Nat) (PySem.Data.seq (List.toArray []) (0 : Nat)) (List.toArray []))) ::
    ((nat_lit 133), (PySem.Obj.mk (PySem.Value.type "dict") (@Option.none Nat) (PySem.Data.dict (List.toArray [(PySem.DictEntry.mk (PySem.PyData.keyHash P "__module__") (PySem.Value.str "__module__" (360 : Nat)) (PySem.Value.str "cpy313.graphlib" (308 : Nat))), (PySem.DictEntry.mk (PySem.PyData.keyHash P "__firstlineno__") (PySem.Value.str "__firstlineno__" (364 : Nat)) (PySem.Value.int 103 (363 : Nat))), (PySem.DictEntry.mk (PySem.PyData.keyHash P "__static_attributes__") (PySem.Value.str "__static_attributes__" (365 : Nat)) (PySem.Value.ref (132 : Nat))), (PySem.DictEntry.mk (PySem.PyData.keyHash P "__weakref__") (PySem.Value.str "__weakref__" (367 : Nat)) (PySem.Value.ref (135 : Nat))), (PySem.DictEntry.mk (PySem.PyData.keyHash P "__doc__") (PySem.Value.str "__doc__" (368 : Nat)) PySem.Value.none)]) (3 : Nat)) (List.toArray []))) ::
    ((nat_lit 134), (PySem.Obj.mk (PySem.Value.type "type") (@Option.none Nat) (PySem.Data.cls (PySem.ClassData.mk "CycleError" [(PySem.Value.type "ValueError")] [(PySem.Value.ref (134 : Nat)), (PySem.Value.type "ValueError"), (PySem.Value.type "Exception"), (PySem.Value.type "BaseException"), (PySem.Value.type "object")] (133 : Nat) "CycleError" Bool.true [] [] Bool.false (Option.none) Bool.false)) (List.toArray [(Option.some (PySem.Value.ref (125 : Nat))), (Option.none), (Option.some (PySem.Value.str "CycleError" (353 : Nat))), (Option.some (PySem.Value.str "CycleError" (361 : Nat))), (Option.some (PySem.Value.builtin "ValueError.__new__")), (Option.some (PySem.Value.bool Bool.true))]))) ::
    ((nat_lit 135), (PySem.Obj.mk (PySem.Value.type "getset_descriptor") (@Option.none Nat) (PySem.Data.fields (List.toArray [(PySem.Value.str "__weakref__" (366 : Nat)), (PySem.Value.ref (134 : Nat)), (PySem.Value.builtin "ExceptionGroup.__weakref__"), PySem.Value.none])) (List.toArray []))) ::
    ((nat_lit 145), (PySem.Obj.mk (PySem.Value.type "tuple") (@Option.none Nat) (PySem.Data.seq (List.toArray [PySem.Value.none]) (0 : Nat)) (List.toArray []))) ::
    ((nat_lit 146), (PySem.Obj.mk (PySem.Value.type "tuple") (@Option.none Nat) (PySem.Data.seq (List.toArray []) (0 : Nat)) (List.toArray []))) ::
    ((nat_lit 148), (PySem.Obj.mk (PySem.Value.type "tuple") (@Option.none Nat) (PySem.Data.seq (List.toArray [(PySem.Value.str "self" (386 : Nat)), (PySem.Value.str "graph" (387 : Nat)), (PySem.Value.str "node" (388 : Nat)), (PySem.Value.str "predecessors" (389 : Nat))]) (0 : Nat)) (List.toArray []))) ::
    ((nat_lit 149), (PySem.Obj.mk (PySem.Value.type "tuple") (@Option.none Nat) (PySem.Data.seq (List.toArray []) (0 : Nat)) (List.toArray []))) ::
    ((nat_lit 151), (PySem.Obj.mk (PySem.Value.type "code") (@Option.none Nat) (PySem.Data.fields (List.toArray [(PySem.Value.str "__init__" (383 : Nat)), (PySem.Value.str "TopologicalSorter.__init__" (384 : Nat)), (PySem.Value.str "/claim/cut.py" (385 : Nat)), (PySem.Value.int 107 (0 : Nat)), (PySem.Value.int 2 (0 : Nat)), (PySem.Value.int 0 (0 : Nat)), (PySem.Value.int 0 (0 : Nat)), (PySem.Value.int 3 (0 : Nat)), (PySem.Value.ref (146 : Nat)), (PySem.Value.bool Bool.true), (PySem.Value.int 181 (0 : Nat)), (PySem.Value.ref (147 : Nat)), PySem.Value.none, (PySem.Value.ref (148 : Nat)), (PySem.Value.ref (149 : Nat)), (PySem.Value.ref (150 : Nat)), (PySem.Value.int 390 (0 : Nat)), (PySem.Value.int 107 (0 : Nat)), (PySem.Value.str "/claim/cut.py" (391 : Nat))])) (List.toArray []))) ::
    ((nat_lit 152), (PySem.Obj.mk (PySem.Value.type "function") (@Option.none Nat) (PySem.Data.func (PySem.FuncData.mk "__init__" "TopologicalSorter.__init__" fp152 (PySem.FuncBody.stmts fb152) fs152 (3 : Nat) [] (PySem.Value.ref (145 : Nat)) PySem.Value.none PySem.Value.none (PySem.Value.str "cpy313.graphlib" (308 : Nat)) (@Option.none Nat) (PySem.Value.ref (151 : Nat)) PySem.Value.none (0 : Nat))) (List.toArray []))) ::
    ((nat_lit 153), (PySem.Obj.mk (PySem.Value.type "tuple") (@Option.none Nat) (PySem.Data.seq (List.toArray []) (0 : Nat)) (List.toArray []))) ::
    ((nat_lit 155), (PySem.Obj.mk (PySem.Value.type "tuple") (@Option.none Nat) (PySem.Data.seq (List.toArray [(PySem.Value.str "self" (396 : Nat)), (PySem.Value.str "node" (397 : Nat)), (PySem.Value.str "result" (398 : Nat))]) (0 : Nat)) (List.toArray []))) ::
    ((nat_lit 156), (PySem.Obj.mk (PySem.Value.type "tuple") (@Option.none Nat) (PySem.Data.seq (List.toArray []) (0 : Nat)) (List.toArray []))) ::
    ((nat_lit 158), (PySem.Obj.mk (PySem.Value.type "code") (@Option.none Nat) (PySem.Data.fields (List.toArray [(PySem.Value.str "_get_nodeinfo" (393 : Nat)), (PySem.Value.str "TopologicalSorter._get_nodeinfo" (394 : Nat)), (PySem.Value.str "/claim/cut.py" (395 : Nat)), (PySem.Value.int 116 (0 : Nat)), (PySem.Value.int 2 (0 : Nat)), (PySem.Value.int 0 (0 : Nat)), (PySem.Value.int 0 (0 : Nat)), (PySem.Value.int 3 (0 : Nat)), (PySem.Value.ref (153 : Nat)), (PySem.Value.bool Bool.true), (PySem.Value.int 181 (0 : Nat)), (PySem.Value.ref (154 : Nat)), PySem.Value.none, (PySem.Value.ref (155 : Nat)), (PySem.Value.ref (156 : Nat)), (PySem.Value.ref (157 : Nat)), (PySem.Value.int 399 (0 : Nat)), (PySem.Value.int 116 (0 : Nat)), (PySem.Value.str "/claim/cut.py" (400 : Nat))])) (List.toArray []))) ::
    ((nat_lit 159), (PySem.Obj.mk (PySem.Value.type "function") (@Option.none Nat) (PySem.Data.func (PySem.FuncData.mk "_get_nodeinfo" "TopologicalSorter._get_nodeinfo" fp159 (PySem.FuncBody.stmts fb159) fs159 (3 : Nat) [] PySem.Value.none PySem.Value.none PySem.Value.none (PySem.Value.str "cpy313.graphlib" (308 : Nat)) (@Option.none Nat) (PySem.Value.ref (158 : Nat)) PySem.Value.none (0 : Nat))) (List.toArray []))) ::
    ((nat_lit 160), (PySem.Obj.mk (PySem.Value.type "tuple") (@Option.none Nat) (PySem.Data.seq (List.toArray []) (0 : Nat)) (List.toArray []))) ::
    ((nat_lit 162), (PySem.Obj.mk (PySem.Value.type "tuple") (@Option.none Nat) (PySem.Data.seq (List.toArray [(PySem.Value.str "self" (405 : Nat)), (PySem.Value.str "node" (406 : Nat)), (PySem.Value.str "predecessors" (407 : Nat)), (PySem.Value.str "nodeinfo" (408 : Nat)), (PySem.Value.str "pred" (409 : Nat)), (PySem.Value.str "pred_info" (410 : Nat))]) (0 : Nat)) (List.toArray []))) ::
    ((nat_lit 163), (PySem.Obj.mk (PySem.Value.type "tuple") (@Option.none Nat) (PySem.Data.seq (List.toArray []) (0 : Nat)) (List.toArray []))) ::
    ((nat_lit 165), (PySem.Obj.mk (PySem.Value.type "code") (@Option.none Nat) (PySem.Data.fields (List.toArray [(PySem.Value.str "add" (402 : Nat)), (PySem.Value.str "TopologicalSorter.add" (403 : Nat)), (PySem.Value.str "/claim/cut.py" (404 : Nat)), (PySem.Value.int 121 (0 : Nat)), (PySem.Value.int 2 (0 : Nat)), (PySem.Value.int 0 (0 : Nat)), (PySem.Value.int 0 (0 : Nat)), (PySem.Value.int 7 (0 : Nat)), (PySem.Value.ref (160 : Nat)), (PySem.Value.bool Bool.true), (PySem.Value.int 181 (0 : Nat)), (PySem.Value.ref (161 : Nat)), PySem.Value.none, (PySem.Value.ref (162 : Nat)), (PySem.Value.ref (163 : Nat)), (PySem.Value.ref (164 : Nat)), (PySem.Value.int 411 (0 : Nat)), (PySem.Value.int 121 (0 : Nat)), (PySem.Value.str "/claim/cut.py" (412 : Nat))])) (List.toArray []))) ::
    ((nat_lit 166), (PySem.Obj.mk (PySem.Value.type "function") (@Option.none Nat) (PySem.Data.func (PySem.FuncData.mk "add" "TopologicalSorter.add" fp166 (PySem.FuncBody.stmts fb166) fs166 (3 : Nat) [] PySem.Value.none PySem.Value.none PySem.Value.none (PySem.Value.str "cpy313.graphlib" (308 : Nat)) (@Option.none Nat) (PySem.Value.ref (165 : Nat)) PySem.Value.none (0 : Nat))) (List.toArray []))) ::
    ((nat_lit 167), (PySem.Obj.mk (PySem.Value.type "tuple") (@Option.none Nat) (PySem.Data.seq (List.toArray []) (0 : Nat)) (List.toArray []))) ::
    ((nat_lit 170), (PySem.Obj.mk (PySem.Value.type "code") (@Option.none Nat) (PySem.Data.fields (List.toArray [(PySem.Value.str "prepare" (414 : Nat)), (PySem.Value.str "TopologicalSorter.prepare" (415 : Nat)), (PySem.Value.str "/claim/cut.py" (416 : Nat)), (PySem.Value.int 130 (0 : Nat)), (PySem.Value.int 1 (0 : Nat)), (PySem.Value.int 0 (0 : Nat)), (PySem.Value.int 0 (0 : Nat)), (PySem.Value.int 3 (0 : Nat)), (PySem.Value.ref (167 : Nat)), (PySem.Value.bool Bool.true), (PySem.Value.int 181 (0 : Nat)), (PySem.Value.ref (168 : Nat)), PySem.Value.none, PySem.Value.none, PySem.Value.none, (PySem.Value.ref (169 : Nat)), (PySem.Value.int 417 (0 : Nat)), (PySem.Value.int 130 (0 : Nat)), (PySem.Value.str "/claim/cut.py" (418 : Nat))])) (List.toArray []))) ::
    ((nat_lit 171), (PySem.Obj.mk (PySem.Value.type "function") (@Option.none Nat) (PySem.Data.func (PySem.FuncData.mk "prepare" "TopologicalSorter.prepare" fp171 (PySem.FuncBody.stmts fb171) fs171 (3 : Nat) [] PySem.Value.none PySem.Value.none PySem.Value.none (PySem.Value.str "cpy313.graphlib" (308 : Nat)) (@Option.none Nat) (PySem.Value.ref (170 : Nat)) PySem.Value.none (0 : Nat))) (List.toArray []))) ::
    ((nat_lit 172), (PySem.Obj.mk (PySem.Value.type "tuple") (@Option.none Nat) (PySem.Data.seq (List.toArray []) (0 : Nat)) (List.toArray []))) ::
    ((nat_lit 174), (PySem.Obj.mk (PySem.Value.type "tuple") (@Option.none Nat) (PySem.Data.seq (List.toArray [(PySem.Value.str "self" (423 : Nat)), (PySem.Value.str "result" (424 : Nat)), (PySem.Value.str "n2i" (425 : Nat)), (PySem.Value.str "node" (426 : Nat))]) (0 : Nat)) (List.toArray []))) ::
    ((nat_lit 175), (PySem.Obj.mk (PySem.Value.type "tuple") (@Option.none Nat) (PySem.Data.seq (List.toArray []) (0 : Nat)) (List.toArray []))) ::
    ((nat_lit 177), (PySem.Obj.mk (PySem.Value.type "code") (@Option.none Nat) (PySem.Data.fields (List.toArray [(PySem.Value.str "get_ready" (420 : Nat)), (PySem.Value.str "TopologicalSorter.get_ready" (421 : Nat)), (PySem.Value.str "/claim/cut.py" (422 : Nat)), (PySem.Value.int 138 (0 : Nat)), (PySem.Value.int 1 (0 : Nat)), (PySem.Value.int 0 (0 : Nat)), (PySem.Value.int 0 (0 : Nat)), (PySem.Value.int 3 (0 : Nat)), (PySem.Value.ref (172 : Nat)), (PySem.Value.bool Bool.true), (PySem.Value.int 181 (0 : Nat)), (PySem.Value.ref (173 : Nat)), PySem.Value.none, (PySem.Value.ref (174 : Nat)), (PySem.Value.ref (175 : Nat)), (PySem.Value.ref (176 : Nat)), (PySem.Value.int 427 (0 : Nat)), (PySem.Value.int 138 (0 : Nat)), (PySem.Value.str "/claim/cut.py" (428 : Nat))])) (List.toArray []))) ::
    ((nat_lit 178), (PySem.Obj.mk (PySem.Value.type "function") (@Option.none Nat) (PySem.Data.func (PySem.FuncData.mk "get_ready" "TopologicalSorter.get_ready" fp178 (PySem.FuncBody.stmts fb178) fs178 (3 : Nat) [] PySem.Value.none PySem.Value.none PySem.Value.none (PySem.Value.str "cpy313.graphlib" (308 : Nat)) (@Option.none Nat) (PySem.Value.ref (177 : Nat)) PySem.Value.none (0 : Nat))) (List.toArray []))) ::
    ((nat_lit 179), (PySem.Obj.mk (PySem.Value.type "tuple") (@Option.none Nat) (PySem.Data.seq (List.toArray []) (0 : Nat)) (List.toArray []))) ::
    ((nat_lit 181), (PySem.Obj.mk (PySem.Value.type "tuple") (@Option.none Nat) (PySem.Data.seq (List.toArray [(PySem.Value.str "self" (433 : Nat))]) (0 : Nat)) (List.toArray []))) ::
    ((nat_lit 182), (PySem.Obj.mk (PySem.Value.type "tuple") (@Option.none Nat) (PySem.Data.seq (List.toArray []) (0 : Nat)) (List.toArray []))) ::
    ((nat_lit 184), (PySem.Obj.mk (PySem.Value.type "code") (@Option.none Nat) (PySem.Data.fields (List.toArray [(PySem.Value.str "is_active" (430 : Nat)), (PySem.Value.str "TopologicalSorter.is_active" (431 : Nat)), (PySem.Value.str "/claim/cut.py" (432 : Nat)), (PySem.Value.int 149 (0 : Nat)), (PySem.Value.int 1 (0 : Nat)), (PySem.Value.int 0 (0 : Nat)), (PySem.Value.int 0 (0 : Nat)), (PySem.Value.int 3 (0 : Nat)), (PySem.Value.ref (179 : Nat)), (PySem.Value.bool Bool.true), (PySem.Value.int 181 (0 : Nat)), (PySem.Value.ref (180 : Nat)), PySem.Value.none, (PySem.Value.ref (181 : Nat)), (PySem.Value.ref (182 : Nat)), (PySem.Value.ref (183 : Nat)), (PySem.Value.int 434 (0 : Nat)), (PySem.Value.int 149 (0 : Nat)), (PySem.Value.str "/claim/cut.py" (435 : Nat))])) (List.toArray []))) ::
    ((nat_lit 185), (PySem.Obj.mk (PySem.Value.type "function") (@Option.none Nat) (PySem.Data.func (PySem.FuncData.mk "is_active" "TopologicalSorter.is_active" fp185 (PySem.FuncBody.stmts fb185) fs185 (3 : Nat) [] PySem.Value.none PySem.Value.none PySem.Value.none (PySem.Value.str "cpy313.graphlib" (308 : Nat)) (@Option.none Nat) (PySem.Value.ref (184 : Nat)) PySem.Value.none (0 : Nat))) (List.toArray []))) ::
    ((nat_lit 186), (PySem.Obj.mk (PySem.Value.type "tuple") (@Option.none Nat) (PySem.Data.seq (List.toArray []) (0 : Nat)) (List.toArray []))) ::
    ((nat_lit 188), (PySem.Obj.mk (PySem.Value.type "tuple") (@Option.none Nat) (PySem.Data.seq (List.toArray [(PySem.Value.str "self" (440 : Nat))]) (0 : Nat)) (List.toArray []))) ::
    ((nat_lit 189), (PySem.Obj.mk (PySem.Value.type "tuple") (@Option.none Nat) (PySem.Data.seq (List.toArray []) (0 : Nat)) (List.toArray []))) ::
    ((nat_lit 191), (PySem.Obj.mk (PySem.Value.type "code") (@Option.none Nat) (PySem.Data.fields (List.toArray [(PySem.Value.str "__bool__" (437 : Nat)), (PySem.Value.str "TopologicalSorter.__bool__" (438 : Nat)), (PySem.Value.str "/claim/cut.py" (439 : Nat)), (PySem.Value.int 154 (0 : Nat)), (PySem.Value.int 1 (0 : Nat)), (PySem.Value.int 0 (0 : Nat)), (PySem.Value.int 0 (0 : Nat)), (PySem.Value.int 3 (0 : Nat)), (PySem.Value.ref (186 : Nat)), (PySem.Value.bool Bool.true), (PySem.Value.int 181 (0 : Nat)), (PySem.Value.ref (187 : Nat)), PySem.Value.none, (PySem.Value.ref (188 : Nat)), (PySem.Value.ref (189 : Nat)), (PySem.Value.ref (190 : Nat)), (PySem.Value.int 441 (0 : Nat)), (PySem.Value.int 154 (0 : Nat)), (PySem.Value.str "/claim/cut.py" (442 : Nat))])) (List.toArray []))) ::
    ((nat_lit 192), (PySem.Obj.mk (PySem.Value.type "function") (@Option.none Nat) (PySem.Data.func (PySem.FuncData.mk "__bool__" "TopologicalSorter.__bool__" fp192 (PySem.FuncBody.stmts fb192) fs192 (3 : Nat) [] PySem.Value.none PySem.Value.none PySem.Value.none (PySem.Value.str "cpy313.graphlib" (308 : Nat)) (@Option.none Nat) (PySem.Value.ref (191 : Nat)) PySem.Value.none (0 : Nat))) (List.toArray []))) ::
    ((nat_lit 193), (PySem.Obj.mk (PySem.Value.type "tuple") (@Option.none Nat) (PySem.Data.seq (List.toArray []) (0 : Nat)) (List.toArray []))) ::
    ((nat_lit 195), (PySem.Obj.mk (PySem.Value.type "tuple") (@Option.none Nat) (PySem.Data.seq (List.toArray [(PySem.Value.str "self" (447 : Nat)), (PySem.Value.str "nodes" (448 : Nat)), (PySem.Value.str "n2i" (449 : Nat)), (PySem.Value.str "node" (450 : Nat)), (PySem.Value.str "nodeinfo" (451 : Nat)), (PySem.Value.str "stat" (452 : Nat)), (PySem.Value.str "successor" (453 : Nat)), (PySem.Value.str "successor_info" (454 : Nat))]) (0 : Nat)) (List.toArray []))) ::
    ((nat_lit 196), (PySem.Obj.mk (PySem.Value.type "tuple") (@Option.none Nat) (PySem.Data.seq (List.toArray []) (0 : Nat)) (List.toArray []))) ::
    ((nat_lit 198), (PySem.Obj.mk (PySem.Value.type "code") (@Option.none Nat) (PySem.Data.fields (List.toArray [(PySem.Value.str "done" (444 : Nat)), (PySem.Value.str "TopologicalSorter.done" (445 : Nat)), (PySem.Value.str "/claim/cut.py" (446 : Nat)), (PySem.Value.int 157 (0 : Nat)), (PySem.Value.int 1 (0 : Nat)), (PySem.Value.int 0 (0 : Nat)), (PySem.Value.int 0 (0 : Nat)), (PySem.Value.int 7 (0 : Nat)), (PySem.Value.ref (193 : Nat)), (PySem.Value.bool Bool.true), (PySem.Value.int 181 (0 : Nat)), (PySem.Value.ref (194 : Nat)), PySem.Value.none, (PySem.Value.ref (195 : Nat)), (PySem.Value.ref (196 : Nat)), (PySem.Value.ref (197 : Nat)), (PySem.Value.int 455 (0 : Nat)), (PySem.Value.int 157 (0 : Nat)), (PySem.Value.str "/claim/cut.py" (456 : Nat))])) (List.toArray []))) ::
    ((nat_lit 199), (PySem.Obj.mk (PySem.Value.type "function") (@Option.none Nat) (PySem.Data.func (PySem.FuncData.mk "done" "TopologicalSorter.done" fp199 (PySem.FuncBody.stmts fb199) fs199 (3 : Nat) [] PySem.Value.none PySem.Value.none PySem.Value.none (PySem.Value.str "cpy313.graphlib" (308 : Nat)) (@Option.none Nat) (PySem.Value.ref (198 : Nat)) PySem.Value.none (0 : Nat))) (List.toArray []))) ::
    ((nat_lit 200), (PySem.Obj.mk (PySem.Value.type "tuple") (@Option.none Nat) (PySem.Data.seq (List.toArray []) (0 : Nat)) (List.toArray []))) ::
    ((nat_lit 202), (PySem.Obj.mk (PySem.Value.type "tuple") (@Option.none Nat) (PySem.Data.seq (List.toArray [(PySem.Value.str "self" (461 : Nat)), (PySem.Value.str "n2i" (462 : Nat)), (PySem.Value.str "stack" (463 : Nat)), (PySem.Value.str "itstack" (464 : Nat)), (PySem.Value.str "seen" (465 : Nat)), (PySem.Value.str "node2stacki" (466 : Nat)), (PySem.Value.str "node" (467 : Nat))]) (0 : Nat)) (List.toArray []))) ::
    ((nat_lit 203), (PySem.Obj.mk (PySem.Value.type "tuple") (@Option.none Nat) (PySem.Data.seq (List.toArray []) (0 : Nat)) (List.toArray []))) ::
    ((nat_lit 205), (PySem.Obj.mk (PySem.Value.type "code") (@Option.none Nat) (PySem.Data.fields (List.toArray [(PySem.Value.str "_find_cycle" (458 : Nat)), (PySem.Value.str "TopologicalSorter._find_cycle" (459 : Nat)), (PySem.Value.str "/claim/cut.py" (460 : Nat)), (PySem.Value.int 180 (0 : Nat)), (PySem.Value.int 1 (0 : Nat)), (PySem.Value.int 0 (0 : Nat)), (PySem.Value.int 0 (0 : Nat)), (PySem.Value.int 3 (0 : Nat)), (PySem.Value.ref (200 : Nat)), (PySem.Value.bool Bool.true), (PySem.Value.int 181 (0 : Nat)), (PySem.Value.ref (201 : Nat)), PySem.Value.none, (PySem.Value.ref (202 : Nat)), (PySem.Value.ref (203 : Nat)), (PySem.Value.ref (204 : Nat)), (PySem.Value.int 468 (0 : Nat)), (PySem.Value.int 180 (0 : Nat)), (PySem.Value.str "/claim/cut.py" (469 : Nat))])) (List.toArray []))) ::
    ((nat_lit 206), (PySem.Obj.mk (PySem.Value.type "function") (@Option.none Nat) (PySem.Data.func (PySem.FuncData.mk "_find_cycle" "TopologicalSorter._find_cycle" fp206 (PySem.FuncBody.stmts fb206) fs206 (3 : Nat) [] PySem.Value.none PySem.Value.none PySem.Value.none (PySem.Value.str "cpy313.graphlib" (308 : Nat)) (@Option.none Nat) (PySem.Value.ref (205 : Nat)) PySem.Value.none (0 : Nat))) (List.toArray []))) ::
    ((nat_lit 207), (PySem.Obj.mk (PySem.Value.type "tuple") (@Option.none Nat) (PySem.Data.seq (List.toArray []) (0 : Nat)) (List.toArray []))) ::
    ((nat_lit 209), (PySem.Obj.mk (PySem.Value.type "tuple") (@Option.none Nat) (PySem.Data.seq (List.toArray [(PySem.Value.str "self" (474 : Nat))]) (0 : Nat)) (List.toArray []))) ::
    ((nat_lit 210), (PySem.Obj.mk (PySem.Value.type "tuple") (@Option.none Nat) (PySem.Data.seq (List.toArray []) (0 : Nat)) (List.toArray []))) ::
    ((nat_lit 212), (PySem.Obj.mk (PySem.Value.type "code") (@Option.none Nat) (PySem.Data.fields (List.toArray [(PySem.Value.str "static_order" (471 : Nat)), (PySem.Value.str "TopologicalSorter.static_order" (472 : Nat)), (PySem.Value.str "/claim/cut.py" (473 : Nat)), (PySem.Value.int 209 (0 : Nat)), (PySem.Value.int 1 (0 : Nat)), (PySem.Value.int 0 (0 : Nat)), (PySem.Value.int 0 (0 : Nat)), (PySem.Value.int 3 (0 : Nat)), (PySem.Value.ref (207 : Nat)), (PySem.Value.bool Bool.true), (PySem.Value.int 181 (0 : Nat)), (PySem.Value.ref (208 : Nat)), PySem.Value.none, (PySem.Value.ref (209 : Nat)), (PySem.Value.ref (210 : Nat)), (PySem.Value.ref (211 : Nat)), (PySem.Value.int 475 (0 : Nat)), (PySem.Value.int 209 (0 : Nat)), (PySem.Value.str "/claim/cut.py" (476 : Nat))])) (List.toArray []))) ::
    ((nat_lit 213), (PySem.Obj.mk (PySem.Value.type "function") (@Option.none Nat) (PySem.Data.func (PySem.FuncData.mk "static_order" "TopologicalSorter.static_order" fp213 (PySem.FuncBody.stmts fb213) fs213 (3 : Nat) [] PySem.Value.none PySem.Value.none PySem.Value.none (PySem.Value.str "cpy313.graphlib" (308 : Nat)) (@Option.none Nat) (PySem.Value.ref (212 : Nat)) PySem.Value.none (0 : Nat))) (List.toArray []))) ::
    ((nat_lit 214), (PySem.Obj.mk (PySem.Value.type "tuple") (@Option.none Nat) (PySem.Data.seq (List.toArray [(PySem.Value.str "_nfinished" (478 : Nat)), (PySem.Value.str "_node2info" (479 : Nat)), (PySem.Value.str "_npassedout" (480 : Nat)), (PySem.Value.str "_ready_nodes" (481 : Nat))]) (0 : Nat)) (List.toArray []))) ::
    ((nat_lit 215), (PySem.Obj.mk (PySem.Value.type "dict") (@Option.none Nat) (PySem.Data.dict (List.toArray [(PySem.DictEntry.mk (PySem.PyData.keyHash P "__module__") (PySem.Value.str "__module__" (378 : Nat)) (PySem.Value.str "cpy313.graphlib" (308 : Nat))), (PySem.DictEntry.mk (PySem.PyData.keyHash P "__firstlineno__") (PySem.Value.str "__firstlineno__" (382 : Nat)) (PySem.Value.int 105 (381 : Nat))), (PySem.DictEntry.mk (PySem.PyData.keyHash P "__init__") (PySem.Value.str "__init__" (392 : Nat)) (PySem.Value.ref (152 : Nat))), (PySem.DictEntry.mk (PySem.PyData.keyHash P "_get_nodeinfo") (PySem.Value.str "_get_nodeinfo" (401 : Nat)) (PySem.Value.ref (159 : Nat))), (PySem.DictEntry.mk (PySem.PyData.keyHash P "add") (PySem.Value.str "add" (413 : Nat)) (PySem.Value.ref (166 : Nat))), (PySem.DictEntry.mk (PySem.PyData.keyHash P "prepare") (PySem.Value.str "prepare" (419 : Nat)) (PySem.Value.ref (171 : Nat))), (PySem.DictEntry.mk (PySem.PyData.keyHash P "get_ready") (PySem.Value.str "get_ready" (429 : Nat)) (PySem.Value.ref (178 : Nat))), (PySem.DictEntry.mk (PySem.PyData.keyHash P "is_active") (PySem.Value.str "is_active" (436 : Nat)) (PySem.Value.ref (185 : Nat))), (PySem.DictEntry.mk (PySem.PyData.keyHash P "__bool__") (PySem.Value.str "__bool__" (443 : Nat)) (PySem.Value.ref (192 : Nat))), (PySem.DictEntry.mk (PySem.PyData.keyHash P "done") (PySem.Value.str "done" (457 : Nat)) (PySem.Value.ref (199 : Nat))), (PySem.DictEntry.mk (PySem.PyData.keyHash P "_find_cycle") (PySem.Value.str "_find_cycle" (470 : Nat)) (PySem.Value.ref (206 : Nat))), (PySem.DictEntry.mk (PySem.PyData.keyHash P "static_order") (PySem.Value.str "static_order" (477 : Nat)) (PySem.Value.ref (213 : Nat))), (PySem.DictEntry.mk (PySem.PyData.keyHash P "__static_attributes__") (PySem.Value.str "__static_attributes__" (482 : Nat)) (PySem.Value.ref (214 : Nat))), (PySem.DictEntry.mk (PySem.PyData.keyHash P "__dict__") (PySem.Value.str "__dict__" (484 : Nat)) (PySem.Value.ref (217 : Nat))), (PySem.DictEntry.mk (PySem.PyData.keyHash P "__weakref__") (PySem.Value.str "__weakref__" (486 : Nat)) (PySem.Value.ref (218 : Nat))), (PySem.DictEntry.mk (PySem.PyData.keyHash P "__doc__") (PySem.Value.str "__doc__" (487 : Nat)) PySem.Value.none)]) (4 : Nat)) (List.toArray []))) ::
    ((nat_lit 216), (PySem.Obj.mk (PySem.Value.type "type") (@Option.none Nat) (PySem.Data.cls (PySem.ClassData.mk "TopologicalSorter" [(PySem.Value.type "object")] [(PySem.Value.ref (216 : Nat)), (PySem.Value.type "object")] (215 : Nat) "TopologicalSorter" Bool.true [] [] Bool.false (Option.none) Bool.false)) (List.toArray [(Option.none), (Option.none), (Option.some (PySem.Value.str "TopologicalSorter" (371 : Nat))), (Option.some (PySem.Value.str "TopologicalSorter" (379 : Nat))), (Option.some (PySem.Value.builtin "object.__new__")), (Option.some (PySem.Value.bool Bool.true))]))) ::
    ((nat_lit 217), (PySem.Obj.mk (PySem.Value.type "getset_descriptor") (@Option.none Nat) (PySem.Data.fields (List.toArray [(PySem.Value.str "__dict__" (483 : Nat)), (PySem.Value.ref (216 : Nat)), (PySem.Value.builtin "function.__dict__"), (PySem.Value.builtin "function.__dict__#set")])) (List.toArray []))) ::
    ((nat_lit 218), (PySem.Obj.mk (PySem.Value.type "getset_descriptor") (@Option.none Nat) (PySem.Data.fields (List.toArray [(PySem.Value.str "__weakref__" (485 : Nat)), (PySem.Value.ref (216 : Nat)), (PySem.Value.builtin "ExceptionGroup.__weakref__"), PySem.Value.none])) (List.toArray []))) ::
    ((nat_lit 221), (PySem.Obj.mk (PySem.Value.type "tuple") (@Option.none Nat) (PySem.Data.seq (List.toArray []) (0 : Nat)) (List.toArray []))) ::
    ((nat_lit 223), (PySem.Obj.mk (PySem.Value.type "tuple") (@Option.none Nat) (PySem.Data.seq (List.toArray [(PySem.Value.str "x" (495 : Nat))]) (0 : Nat)) (List.toArray []))) ::
    ((nat_lit 224), (PySem.Obj.mk (PySem.Value.type "tuple") (@Option.none Nat) (PySem.Data.seq (List.toArray []) (0 : Nat)) (List.toArray []))) ::
    ((nat_lit 226), (PySem.Obj.mk (PySem.Value.type "code") (@Option.none Nat) (PySem.Data.fields (List.toArray [(PySem.Value.str "_law_figures" (492 : Nat)), (PySem.Value.str "_law_figures" (493 : Nat)), (PySem.Value.str "/claim/cut.py" (494 : Nat)), (PySem.Value.int 212 (0 : Nat)), (PySem.Value.int 1 (0 : Nat)), (PySem.Value.int 0 (0 : Nat)), (PySem.Value.int 0 (0 : Nat)), (PySem.Value.int 3 (0 : Nat)), (PySem.Value.ref (221 : Nat)), (PySem.Value.bool Bool.true), (PySem.Value.int 181 (0 : Nat)), (PySem.Value.ref (222 : Nat)), PySem.Value.none, (PySem.Value.ref (223 : Nat)), (PySem.Value.ref (224 : Nat)), (PySem.Value.ref (225 : Nat)), (PySem.Value.int 496 (0 : Nat)), (PySem.Value.int 212 (0 : Nat)), (PySem.Value.str "/claim/cut.py" (497 : Nat))])) (List.toArray []))) ::
    ((nat_lit 227), (PySem.Obj.mk (PySem.Value.type "function") (@Option.none Nat) (PySem.Data.func (PySem.FuncData.mk "_law_figures" "_law_figures" fp227 (PySem.FuncBody.stmts fb227) fs227 (3 : Nat) [] PySem.Value.none PySem.Value.none PySem.Value.none (PySem.Value.str "law_pg0300_01" (490 : Nat)) (@Option.none Nat) (PySem.Value.ref (226 : Nat)) PySem.Value.none (0 : Nat))) (List.toArray []))) ::
    ((nat_lit 228), (PySem.Obj.mk (PySem.Value.type "tuple") (@Option.none Nat) (PySem.Data.seq (List.toArray []) (0 : Nat)) (List.toArray []))) ::
    ((nat_lit 230), (PySem.Obj.mk (PySem.Value.type "tuple") (@Option.none Nat) (PySem.Data.seq (List.toArray [(PySem.Value.str "agents" (502 : Nat)), (PySem.Value.str "delay" (503 : Nat)), (PySem.Value.str "record" (504 : Nat))]) (0 : Nat)) (List.toArray []))) ::
    ((nat_lit 231), (PySem.Obj.mk (PySem.Value.type "tuple") (@Option.none Nat) (PySem.Data.seq (List.toArray []) (0 : Nat)) (List.toArray []))) ::
    ((nat_lit 233), (PySem.Obj.mk (PySem.Value.type "code") (@Option.none Nat) (PySem.Data.fields (List.toArray [(PySem.Value.str "_law_record" (499 : Nat)), (PySem.Value.str "_law_record" (500 : Nat)), (PySem.Value.str "/claim/cut.py" (501 : Nat)), (PySem.Value.int 214 (0 : Nat)), (PySem.Value.int 2 (0 : Nat)), (PySem.Value.int 0 (0 : Nat)), (PySem.Value.int 0 (0 : Nat)), (PySem.Value.int 3 (0 : Nat)), (PySem.Value.ref (228 : Nat)), (PySem.Value.bool Bool.true), (PySem.Value.int 181 (0 : Nat)), (PySem.Value.ref (229 : Nat)), PySem.Value.none, (PySem.Value.ref (230 : Nat)), (PySem.Value.ref (231 : Nat)), (PySem.Value.ref (232 : Nat)), (PySem.Value.int 505 (0 : Nat)), (PySem.Value.int 214 (0 : Nat)), (PySem.Value.str "/claim/cut.py" (506 : Nat))])) (List.toArray []))) ::
    ((nat_lit 234), (PySem.Obj.mk (PySem.Value.type "function") (@Option.none Nat) (PySem.Data.func (PySem.FuncData.mk "_law_record" "_law_record" fp234 (PySem.FuncBody.stmts fb234) fs234 (3 : Nat) [] PySem.Value.none PySem.Value.none PySem.Value.none (PySem.Value.str "law_pg0300_01" (490 : Nat)) (@Option.none Nat) (PySem.Value.ref (233 : Nat)) PySem.Value.none (0 : Nat))) (List.toArray []))) ::
    ((nat_lit 235), (PySem.Obj.mk (PySem.Value.type "tuple") (@Option.none Nat) (PySem.Data.seq (List.toArray []) (0 : Nat)) (List.toArray []))) ::
    ((nat_lit 238), (PySem.Obj.mk (PySem.Value.type "code") (@Option.none Nat) (PySem.Data.fields (List.toArray [(PySem.Value.str "_law_within" (508 : Nat)), (PySem.Value.str "_law_within" (509 : Nat)), (PySem.Value.str "/claim/cut.py" (510 : Nat)), (PySem.Value.int 219 (0 : Nat)), (PySem.Value.int 2 (0 : Nat)), (PySem.Value.int 0 (0 : Nat)), (PySem.Value.int 0 (0 : Nat)), (PySem.Value.int 3 (0 : Nat)), (PySem.Value.ref (235 : Nat)), (PySem.Value.bool Bool.true), (PySem.Value.int 181 (0 : Nat)), (PySem.Value.ref (236 : Nat)), PySem.Value.none, PySem.Value.none, PySem.Value.none, (PySem.Value.ref (237 : Nat)), (PySem.Value.int 511 (0 : Nat)), (PySem.Value.int 219 (0 : Nat)), (PySem.Value.str "/claim/cut.py" (512 : Nat))])) (List.toArray []))) ::
    ((nat_lit 239), (PySem.Obj.mk (PySem.Value.type "function") (@Option.none Nat) (PySem.Data.func (PySem.FuncData.mk "_law_within" "_law_within" fp239 (PySem.FuncBody.stmts fb239) fs239 (3 : Nat) [] PySem.Value.none PySem.Value.none PySem.Value.none (PySem.Value.str "law_pg0300_01" (490 : Nat)) (@Option.none Nat) (PySem.Value.ref (238 : Nat)) PySem.Value.none (0 : Nat))) (List.toArray []))) ::
    ((nat_lit 240), (PySem.Obj.mk (PySem.Value.type "tuple") (@Option.none Nat) (PySem.Data.seq (List.toArray []) (0 : Nat)) (List.toArray []))) ::
    ((nat_lit 243), (PySem.Obj.mk (PySem.Value.type "code") (@Option.none Nat) (PySem.Data.fields (List.toArray [(PySem.Value.str "_law_ahead" (514 : Nat)), (PySem.Value.str "_law_ahead" (515 : Nat)), (PySem.Value.str "/claim/cut.py" (516 : Nat)), (PySem.Value.int 222 (0 : Nat)), (PySem.Value.int 1 (0 : Nat)), (PySem.Value.int 0 (0 : Nat)), (PySem.Value.int 0 (0 : Nat)), (PySem.Value.int 3 (0 : Nat)), (PySem.Value.ref (240 : Nat)), (PySem.Value.bool Bool.true), (PySem.Value.int 181 (0 : Nat)), (PySem.Value.ref (241 : Nat)), PySem.Value.none, PySem.Value.none, PySem.Value.none, (PySem.Value.ref (242 : Nat)), (PySem.Value.int 517 (0 : Nat)), (PySem.Value.int 222 (0 : Nat)), (PySem.Value.str "/claim/cut.py" (518 : Nat))])) (List.toArray []))) ::
    ((nat_lit 244), (PySem.Obj.mk (PySem.Value.type "function") (@Option.none Nat) (PySem.Data.func (PySem.FuncData.mk "_law_ahead" "_law_ahead" fp244 (PySem.FuncBody.stmts fb244) fs244 (3 : Nat) [] PySem.Value.none PySem.Value.none PySem.Value.none (PySem.Value.str "law_pg0300_01" (490 : Nat)) (@Option.none Nat) (PySem.Value.ref (243 : Nat)) PySem.Value.none (0 : Nat))) (List.toArray []))) ::
    ((nat_lit 245), (PySem.Obj.mk (PySem.Value.type "tuple") (@Option.none Nat) (PySem.Data.seq (List.toArray []) (0 : Nat)) (List.toArray []))) ::
    ((nat_lit 248), (PySem.Obj.mk (PySem.Value.type "code") (@Option.none Nat) (PySem.Data.fields (List.toArray [(PySem.Value.str "_law_depths" (520 : Nat)), (PySem.Value.str "_law_depths" (521 : Nat)), (PySem.Value.str "/claim/cut.py" (522 : Nat)), (PySem.Value.int 233 (0 : Nat)), (PySem.Value.int 1 (0 : Nat)), (PySem.Value.int 0 (0 : Nat)), (PySem.Value.int 0 (0 : Nat)), (PySem.Value.int 3 (0 : Nat)), (PySem.Value.ref (245 : Nat)), (PySem.Value.bool Bool.true), (PySem.Value.int 181 (0 : Nat)), (PySem.Value.ref (246 : Nat)), PySem.Value.none, PySem.Value.none, PySem.Value.none, (PySem.Value.ref (247 : Nat)), (PySem.Value.int 523 (0 : Nat)), (PySem.Value.int 233 (0 : Nat)), (PySem.Value.str "/claim/cut.py" (524 : Nat))])) (List.toArray []))) ::
    ((nat_lit 249), (PySem.Obj.mk (PySem.Value.type "function") (@Option.none Nat) (PySem.Data.func (PySem.FuncData.mk "_law_depths" "_law_depths" fp249 (PySem.FuncBody.stmts fb249) fs249 (3 : Nat) [] PySem.Value.none PySem.Value.none PySem.Value.none (PySem.Value.str "law_pg0300_01" (490 : Nat)) (@Option.none Nat) (PySem.Value.ref (248 : Nat)) PySem.Value.none (0 : Nat))) (List.toArray []))) ::
    ((nat_lit 250), (PySem.Obj.mk (PySem.Value.type "tuple") (@Option.none Nat) (PySem.Data.seq (List.toArray []) (0 : Nat)) (List.toArray []))) ::
    ((nat_lit 253), (PySem.Obj.mk (PySem.Value.type "code") (@Option.none Nat) (PySem.Data.fields (List.toArray [(PySem.Value.str "_law_rounds" (526 : Nat)), (PySem.Value.str "_law_rounds" (527 : Nat)), (PySem.Value.str "/claim/cut.py" (528 : Nat)), (PySem.Value.int 241 (0 : Nat)), (PySem.Value.int 3 (0 : Nat)), (PySem.Value.int 0 (0 : Nat)), (PySem.Value.int 0 (0 : Nat)), (PySem.Value.int 3 (0 : Nat)), (PySem.Value.ref (250 : Nat)), (PySem.Value.bool Bool.true), (PySem.Value.int 181 (0 : Nat)), (PySem.Value.ref (251 : Nat)), PySem.Value.none, PySem.Value.none, PySem.Value.none, (PySem.Value.ref (252 : Nat)), (PySem.Value.int 529 (0 : Nat)), (PySem.Value.int 241 (0 : Nat)), (PySem.Value.str "/claim/cut.py" (530 : Nat))])) (List.toArray []))) ::
    ((nat_lit 254), (PySem.Obj.mk (PySem.Value.type "function") (@Option.none Nat) (PySem.Data.func (PySem.FuncData.mk "_law_rounds" "_law_rounds" fp254 (PySem.FuncBody.stmts fb254) fs254 (3 : Nat) [] PySem.Value.none PySem.Value.none PySem.Value.none (PySem.Value.str "law_pg0300_01" (490 : Nat)) (@Option.none Nat) (PySem.Value.ref (253 : Nat)) PySem.Value.none (0 : Nat))) (List.toArray []))) ::
    ((nat_lit 255), (PySem.Obj.mk (PySem.Value.type "tuple") (@Option.none Nat) (PySem.Data.seq (List.toArray []) (0 : Nat)) (List.toArray []))) ::
    ((nat_lit 258), (PySem.Obj.mk (PySem.Value.type "code") (@Option.none Nat) (PySem.Data.fields (List.toArray [(PySem.Value.str "_law_merged" (532 : Nat)), (PySem.Value.str "_law_merged" (533 : Nat)), (PySem.Value.str "/claim/cut.py" (534 : Nat)), (PySem.Value.int 254 (0 : Nat)), (PySem.Value.int 3 (0 : Nat)), (PySem.Value.int 0 (0 : Nat)), (PySem.Value.int 0 (0 : Nat)), (PySem.Value.int 3 (0 : Nat)), (PySem.Value.ref (255 : Nat)), (PySem.Value.bool Bool.true), (PySem.Value.int 181 (0 : Nat)), (PySem.Value.ref (256 : Nat)), PySem.Value.none, PySem.Value.none, PySem.Value.none, (PySem.Value.ref (257 : Nat)), (PySem.Value.int 535 (0 : Nat)), (PySem.Value.int 254 (0 : Nat)), (PySem.Value.str "/claim/cut.py" (536 : Nat))])) (List.toArray []))) ::
    ((nat_lit 259), (PySem.Obj.mk (PySem.Value.type "function") (@Option.none Nat) (PySem.Data.func (PySem.FuncData.mk "_law_merged" "_law_merged" fp259 (PySem.FuncBody.stmts fb259) fs259 (3 : Nat) [] PySem.Value.none PySem.Value.none PySem.Value.none (PySem.Value.str "law_pg0300_01" (490 : Nat)) (@Option.none Nat) (PySem.Value.ref (258 : Nat)) PySem.Value.none (0 : Nat))) (List.toArray []))) ::
    ((nat_lit 260), (PySem.Obj.mk (PySem.Value.type "tuple") (@Option.none Nat) (PySem.Data.seq (List.toArray []) (0 : Nat)) (List.toArray []))) ::
    ((nat_lit 263), (PySem.Obj.mk (PySem.Value.type "code") (@Option.none Nat) (PySem.Data.fields (List.toArray [(PySem.Value.str "law" (538 : Nat)), (PySem.Value.str "law" (539 : Nat)), (PySem.Value.str "/claim/cut.py" (540 : Nat)), (PySem.Value.int 263 (0 : Nat)), (PySem.Value.int 1 (0 : Nat)), (PySem.Value.int 0 (0 : Nat)), (PySem.Value.int 0 (0 : Nat)), (PySem.Value.int 3 (0 : Nat)), (PySem.Value.ref (260 : Nat)), (PySem.Value.bool Bool.true), (PySem.Value.int 181 (0 : Nat)), (PySem.Value.ref (261 : Nat)), PySem.Value.none, PySem.Value.none, PySem.Value.none, (PySem.Value.ref (262 : Nat)), (PySem.Value.int 541 (0 : Nat)), (PySem.Value.int 263 (0 : Nat)), (PySem.Value.str "/claim/cut.py" (542 : Nat))])) (List.toArray []))) ::
    ((nat_lit 264), (PySem.Obj.mk (PySem.Value.type "function") (@Option.none Nat) (PySem.Data.func (PySem.FuncData.mk "law" "law" fp264 (PySem.FuncBody.stmts fb264) fs264 (3 : Nat) [] PySem.Value.none PySem.Value.none PySem.Value.none (PySem.Value.str "law_pg0300_01" (490 : Nat)) (@Option.none Nat) (PySem.Value.ref (263 : Nat)) PySem.Value.none (0 : Nat))) (List.toArray []))) :: []) : List (Nat × Obj))) → Params → Frag) ?x ?h
  case f => exact fun x _ => x
  case h =>
    delta fp21 fb21 fs21 fp35 fb35 fs35 fp42 fb42 fs42 fp49 fb49 fs49 fp56 fb56 fs56 fp70 fb70 fs70 fp77 fb77 fs77 fp84 fb84 fs84 fp92 fb92 fs92 fp100 fb100 fs100 fp115 fb115 fs115 fp152 fb152 fs152 fp159 fb159 fs159 fp166 fb166 fs166 fp171 fb171 fs171 fp178 fb178 fs178 fp185 fb185 fs185 fp192 fb192 fs192 fp199 fb199 fs199 fp206 fb206 fs206 fp213 fb213 fs213 fp227 fb227 fs227 fp234 fb234 fs234 fp239 fb239 fs239 fp244 fb244 fs244 fp249 fb249 fs249 fp254 fb254 fs254 fp259 fb259 fs259 fp264 fb264 fs264
    exact rfl
noncomputable def sm0 : Stmt := by
  refine (?f : (x : Stmt) → x = stm 0 → Stmt) ?x ?h
  case f => exact fun x _ => x
  case h =>
    conv => rhs; whnf
noncomputable def sm2 : Stmt := by
  refine (?f : (x : Stmt) → x = stm 2 → Stmt) ?x ?h
  case f => exact fun x _ => x
  case h =>
    conv => rhs; whnf
noncomputable def sm3 : Stmt := by
  refine (?f : (x : Stmt) → x = stm 3 → Stmt) ?x ?h
  case f => exact fun x _ => x
  case h =>
    conv => rhs; whnf
noncomputable def sm5 : Stmt := by
  refine (?f : (x : Stmt) → x = stm 5 → Stmt) ?x ?h
  case f => exact fun x _ => x
  case h =>
    conv => rhs; whnf
noncomputable def sm6 : Stmt := by
  refine (?f : (x : Stmt) → x = stm 6 → Stmt) ?x ?h
  case f => exact fun x _ => x
  case h =>
    conv => rhs; whnf
noncomputable def sm7 : Stmt := by
  refine (?f : (x : Stmt) → x = stm 7 → Stmt) ?x ?h
  case f => exact fun x _ => x
  case h =>
    conv => rhs; whnf
noncomputable def sm12 : Stmt := by
  refine (?f : (x : Stmt) → x = stm 12 → Stmt) ?x ?h
  case f => exact fun x _ => x
  case h =>
    conv => rhs; whnf
noncomputable def sm13 : Stmt := by
  refine (?f : (x : Stmt) → x = stm 13 → Stmt) ?x ?h
  case f => exact fun x _ => x
  case h =>
    conv => rhs; whnf
noncomputable def sm14 : Stmt := by
  refine (?f : (x : Stmt) → x = stm 14 → Stmt) ?x ?h
  case f => exact fun x _ => x
  case h =>
    conv => rhs; whnf
noncomputable def sm15 : Stmt := by
  refine (?f : (x : Stmt) → x = stm 15 → Stmt) ?x ?h
  case f => exact fun x _ => x
  case h =>
    conv => rhs; whnf
noncomputable def sm16 : Stmt := by
  refine (?f : (x : Stmt) → x = stm 16 → Stmt) ?x ?h
  case f => exact fun x _ => x
  case h =>
    conv => rhs; whnf
noncomputable def sm18 : Stmt := by
  refine (?f : (x : Stmt) → x = stm 18 → Stmt) ?x ?h
  case f => exact fun x _ => x
  case h =>
    conv => rhs; whnf
noncomputable def sm19 : Stmt := by
  refine (?f : (x : Stmt) → x = stm 19 → Stmt) ?x ?h
  case f => exact fun x _ => x
  case h =>
    conv => rhs; whnf
noncomputable def sm20 : Stmt := by
  refine (?f : (x : Stmt) → x = stm 20 → Stmt) ?x ?h
  case f => exact fun x _ => x
  case h =>
    conv => rhs; whnf
noncomputable def sm21 : Stmt := by
  refine (?f : (x : Stmt) → x = stm 21 → Stmt) ?x ?h
  case f => exact fun x _ => x
  case h =>
    conv => rhs; whnf
noncomputable def sm22 : Stmt := by
  refine (?f : (x : Stmt) → x = stm 22 → Stmt) ?x ?h
  case f => exact fun x _ => x
  case h =>
    conv => rhs; whnf
noncomputable def sm23 : Stmt := by
  refine (?f : (x : Stmt) → x = stm 23 → Stmt) ?x ?h
  case f => exact fun x _ => x
  case h =>
    conv => rhs; whnf
noncomputable def sm24 : Stmt := by
  refine (?f : (x : Stmt) → x = stm 24 → Stmt) ?x ?h
  case f => exact fun x _ => x
  case h =>
    conv => rhs; whnf
noncomputable def sm25 : Stmt := by
  refine (?f : (x : Stmt) → x = stm 25 → Stmt) ?x ?h
  case f => exact fun x _ => x
  case h =>
    conv => rhs; whnf
noncomputable def hd.view_39 : Program := by
  refine (?f : (x : Program) → x = ({ PySem.Challenge.pw_pg0300_01 with main := { PySem.Challenge.pw_pg0300_01.main with body := [sm0, sm2, sm3, sm5, sm6, sm7, sm12, sm13, sm14, sm15, sm16, sm18, sm19, sm20, sm21, sm22, sm23, sm24, sm25] } } : Program) → Program) ?x ?h
  case f => exact fun x _ => x
  case h =>
    delta sm0 sm2 sm3 sm5 sm6 sm7 sm12 sm13 sm14 sm15 sm16 sm18 sm19 sm20 sm21 sm22 sm23 sm24 sm25
    exact rfl
noncomputable abbrev hdAs : List Addr := [2, 3, 15, 17, 18, 20, 21, 29, 31, 32, 34, 35, 36, 38, 39, 41, 42, 43, 45, 46, 48, 49, 50, 52, 53, 55, 56, 57, 58, 59, 60, 61, 64, 66, 67, 69, 70, 71, 73, 74, 76, 77, 78, 80, 81, 83, 84, 85, 86, 88, 89, 91, 92, 93, 94, 96, 97, 99, 100, 108, 109, 111, 112, 114, 115, 116, 118, 119, 120, 121, 122, 125, 132, 133, 134, 135, 145, 146, 148, 149, 151, 152, 153, 155, 156, 158, 159, 160, 162, 163, 165, 166, 167, 170, 171, 172, 174, 175, 177, 178, 179, 181, 182, 184, 185, 186, 188, 189, 191, 192, 193, 195, 196, 198, 199, 200, 202, 203, 205, 206, 207, 209, 210, 212, 213, 214, 215, 216, 217, 218, 221, 223, 224, 226, 227, 228, 230, 231, 233, 234, 235, 238, 239, 240, 243, 244, 245, 248, 249, 250, 253, 254, 255, 258, 259, 260, 263, 264]
theorem hdKeys : ∀ P, hdAs = (hd.heap_39 P).map (·.1) := fun _ => by kernel_rfl
noncomputable abbrev hdH : Hook := kHook hd.heap_39 hdAs hdKeys
noncomputable abbrev hdL : List Str := [Str.ofString "b2a_base64", Str.ofString "b64encode", Str.ofString "_NodeInfo"]
noncomputable abbrev hdX (s : Shared) : Bool := xlAt hd.view_39 [] s && recOk (RowW.records (OpenRow.toRowW (OpenLaw.row PySem.Challenge.rw_pg0300_01))) s
set_option maxHeartbeats 8000000 in
theorem hdSaid : PySem.Challenge.rw_pg0300_01.wellSaid = true := by decide +kernel
set_option maxHeartbeats 8000000 in
theorem hdLeft : LeftO PySem.Challenge.pw_pg0300_01 hd.view_39 hdL hdX (Hook.obs hdH) (Hook.val hdH) 3704 := by
  intro w
  kernel_rfl

theorem fill : ∀ (P : Params), Mine.hd.heap_39 P = Mine.hd.heap_39 P ∧ PySem.Challenge.rw_pg0300_01 = PySem.Challenge.rw_pg0300_01 := by
  k_fill
  exact fun _ => ⟨rfl, rfl⟩
local macro_rules | `(tactic| k_units) => `(tactic| k_extra "m_arith")
local macro_rules | `(tactic| k_room) => `(tactic| k_extra "m_arith")
local macro_rules | `(tactic| k_all) => `(tactic| assumption)
local macro_rules | `(tactic| k_ne) => `(tactic| (refine neN ?_; (try dsimp only); k_extra "m_ne"))
local macro_rules | `(tactic| walk_at "t_0") => `(tactic| (intro g0' g1' _; clear g0'; dsimp only [List.reverse_cons, List.reverse_nil, List.nil_append, List.cons_append] at g1'; (try dsimp only)))
local macro_rules | `(tactic| walk_at "t_1") => `(tactic| (intro g0' _ g2' g3'; clear g0'; k_cells g3'; (try simp only [List.cons_append, List.nil_append] at g2'); (try dsimp only)))
local macro_rules | `(tactic| walk_at "t_2") => `(tactic| (intro g0' _; (try k_lt g0'); (try dsimp only)))
local macro_rules | `(tactic| walk_at "t_3") => `(tactic| (intro g0'; (try k_lt g0'); (try dsimp only)))
local macro_rules | `(tactic| walk_at "t_6") => `(tactic| (intro g0'; (have F' := Fr.keeps (by k_asm) g0'); (have N' := News.grown (by k_asm) g0'); (try dsimp only)))
local macro_rules | `(tactic| walk_at "t_7") => `(tactic| (intro g0' _; (try dsimp only at g0'); (try dsimp only)))
local macro_rules | `(tactic| walk_at "t_8") => `(tactic| (intro g0'; (try dsimp only at g0'); (try dsimp only)))
local macro_rules | `(tactic| walk_at "t_9") => `(tactic| (intro g0' _ _ _; (try k_lt g0'); (try dsimp only)))
local macro_rules | `(tactic| walk_at "t_10") => `(tactic| (intro g0' _ _; have lc' := g0'; (try k_lt g0'); (try dsimp only)))
local macro_rules | `(tactic| walk_at $s:str) => `(tactic| k_extra $s)
section P01
theorem ru01 : True := by
  k_with_none
  k_with "m_stop" => (first | with_reducible show LCg.CompRest _ _ _ _ _ _ _ _ _ _ _ _ _ _ _ _ _ _ _ | with_reducible show LCt.CompRestT _ _ _ _ _ _ _ _ _ _ _ _ _ _ _ _ _ _ _ _)
  k_with "m_go0" => (repeat' ((fail_if_success (k_extra "m_stop")); first | (k_unfold; (try dsimp only)) | walk1 | (dsimp only; walk1) | (leave1; try dsimp only) | fail "no step"))
  k_with "m_go" => (((try k_fold) <;> (try dsimp only) <;> k_extra "m_go0" <;> (try k_fold)))
  k_with "m_inA" => (((case zzkX => assumption); (case zzkT => assumption); (case zzkl => k_is); (case zzk1 => exact rfl); (case zzk2 => exact rfl); (case zzk3 => exact rfl); (case zzk4 => decide); (case zzkc => k_is); (case zzkr => omega); (case zzkb => first | exact BindsTo.of_eq rfl | exact binds_K (by k_in) rfl (by k_is) rfl rfl rfl); (case zzko => exact locs rfl); intro _ _; walk_at "t_0"))
  k_with "m_inB" => (((case zzkX => assumption); (case zzkT => assumption); (case zzkl => k_is); (case zzk1 => exact rfl); (case zzk2 => exact rfl); (case zzk3 => exact rfl); (case zzkc => k_is); (case zzkr => omega); (case zzkb => first | exact BindsTo.of_eq rfl | exact binds_K (by k_in) rfl (by k_is) rfl rfl rfl); (case zzko => exact rfl); (case zzkn => decide +kernel); intro _ _ _ _; walk_at "t_1"))
  k_with "m_in1" => ((refine' freeze1 ?zzkX ?zzkT ?zzkl ?zzkc ?zzkr ?zzkb ?zzko ?_ ?zzk1 ?zzk2 ?zzk3 ?zzk4; k_extra "m_inA"))
  k_with "m_inC1" => ((refine' freezeC1 ?zzkX ?zzkT ?zzkl ?zzkc ?zzkr ?zzkb ?zzko ?zzkn ?_ ?zzk1 ?zzk2 ?zzk3; k_extra "m_inB"))
  k_with "m_in2" => ((refine' freeze2 ?zzkX ?zzkT ?zzkl ?zzkc ?zzkr ?zzkb ?zzko ?_ ?zzk1 ?zzk2 ?zzk3 ?zzk4; k_extra "m_inA"))
  k_with "m_inC2" => ((refine' freezeC2 ?zzkX ?zzkT ?zzkl ?zzkc ?zzkr ?zzkb ?zzko ?zzkn ?_ ?zzk1 ?zzk2 ?zzk3; k_extra "m_inB"))
  k_with "m_in3" => ((refine' freeze3 ?zzkX ?zzkT ?zzkl ?zzkc ?zzkr ?zzkb ?zzko ?_ ?zzk1 ?zzk2 ?zzk3 ?zzk4; k_extra "m_inA"))
  k_with "m_inC3" => ((refine' freezeC3 ?zzkX ?zzkT ?zzkl ?zzkc ?zzkr ?zzkb ?zzko ?zzkn ?_ ?zzk1 ?zzk2 ?zzk3; k_extra "m_inB"))
  k_with "m_in4" => ((refine' freeze4 ?zzkX ?zzkT ?zzkl ?zzkc ?zzkr ?zzkb ?zzko ?_ ?zzk1 ?zzk2 ?zzk3 ?zzk4; k_extra "m_inA"))
  k_with "m_inC4" => ((refine' freezeC4 ?zzkX ?zzkT ?zzkl ?zzkc ?zzkr ?zzkb ?zzko ?zzkn ?_ ?zzk1 ?zzk2 ?zzk3; k_extra "m_inB"))
  k_with "m_size" => (first | ((with_reducible refine z_sz ?_); omega) | ((with_reducible refine z_szl ?_); omega) | omega | (rw [sizeLine_eq]; omega) | (simp only [List.size_toArray, sizeLine_eq, List.length_append, List.length_cons, List.length_nil, List.length_map] at *; omega))
  k_with "eval ListComp" => ((k_here; k_dflt (first | ((with_reducible apply LCt.ListComp_T); (case F₀ => k_asm); (case hclos => with_unfolding_all rfl); (case hcell => decide); (case hkind => rfl); (case hnames => decide); (case hx => rfl); (case hs => intro _; with_unfolding_all rfl)) | ((with_reducible apply LCg.ListComp_U); (case F₀ => k_asm); (case hclos => with_unfolding_all rfl); (case hcell => decide); (case hkind => rfl); (case hnames => decide); (case hx => rfl); (case hs => intro _; with_unfolding_all rfl)))))
  k_with "exec Assign cons ListComp" => ((k_here; k_dflt (first | ((with_reducible apply LCt.Assign_ListComp_T); (case F₀ => k_asm); (case hLe => rfl); (case hsw => with_unfolding_all rfl); (case hclos => with_unfolding_all rfl); (case hcell => decide); (case hkind => rfl); (case hnames => decide); (case hx => rfl); (case hy => rfl); (case hp => rfl); (case hs => intro _; with_unfolding_all rfl)) | ((with_reducible apply LCg.Assign_ListComp_U); (case F₀ => k_asm); (case hLe => rfl); (case hsw => with_unfolding_all rfl); (case hclos => with_unfolding_all rfl); (case hcell => decide); (case hkind => rfl); (case hnames => decide); (case hx => rfl); (case hy => rfl); (case hp => rfl); (case hs => intro _; with_unfolding_all rfl)) | (refine wpAny_Assign_Name ?_))))
  k_with "CompSrcT" => ((k_here; k_dflt (first | (refine LCt.CompSrcT.ledger (by first | assumption | rfl) (by k_asm) (by k_asm) (by k_mem) (by k_extra "m_size") ?_; intro _) | (refine LCt.CompSrcT.base (by first | assumption | rfl) (by k_asm) (by k_asm) (by assumption) (by k_extra "m_size") ?_; intro _) | (refine LCt.CompSrcT.range (by first | assumption | rfl) (by k_asm) (by k_asm) (by assumption) (by first | decide | exact small_nat (by omega) | exact small_one (by omega) (by omega) (by omega) (by omega)) (by first | rfl | decide | exact rangeSize_nat _ _) (by k_extra "m_size") ?_; intro _))))
  k_with "CompSrc" => ((k_here; k_dflt (first | (refine LCg.CompSrc.ledger (by first | assumption | rfl) (by k_asm) (by k_asm) (by k_mem) (by k_extra "m_size") ?_; intro _) | (refine LCg.CompSrc.base (by first | assumption | rfl) (by k_asm) (by k_asm) (by assumption) (by k_extra "m_size") ?_; intro _) | (refine LCg.CompSrc.range (by first | assumption | rfl) (by k_asm) (by k_asm) (by assumption) (by first | decide | exact small_nat (by omega) | exact small_one (by omega) (by omega) (by omega) (by omega)) (by first | rfl | decide | exact rangeSize_nat _ _) (by k_extra "m_size") ?_; intro _))))
  k_with "m_arith" => (first | ((try simp only [depth_under_make, depth_under_kw, depth_in1, depth_deeper, units_in1, units_deeper, Around.mark_units]); omega) | (simp only [depth_under_make, depth_under_kw, depth_in1, depth_deeper, units_in1, units_deeper, Around.mark_units] at *; omega))
  k_with "m_p1" => (first | with_reducible assumption | exact And.left (by with_reducible assumption) | exact And.left (And.right (by with_reducible assumption)) | exact And.right (by with_reducible assumption) | exact And.left (And.right (And.right (by with_reducible assumption))) | exact And.right (And.right (by with_reducible assumption)) | exact And.left (And.right (And.right (And.right (by with_reducible assumption)))) | exact And.right (And.right (And.right (by with_reducible assumption))) | exact And.left (And.right (And.right (And.right (And.right (by with_reducible assumption))))) | exact And.right (And.right (And.right (And.right (by with_reducible assumption)))) | exact And.left (And.right (And.right (And.right (And.right (And.right (by with_reducible assumption)))))) | exact And.right (And.right (And.right (And.right (And.right (by with_reducible assumption))))) | exact And.left (And.right (And.right (And.right (And.right (And.right (And.right (by with_reducible assumption))))))) | exact And.right (And.right (And.right (And.right (And.right (And.right (by with_reducible assumption)))))) | exact And.left (And.right (And.right (And.right (And.right (And.right (And.right (And.right (by with_reducible assumption)))))))) | exact And.right (And.right (And.right (And.right (And.right (And.right (And.right (by with_reducible assumption))))))) | exact And.left (And.right (And.right (And.right (And.right (And.right (And.right (And.right (And.right (by with_reducible assumption))))))))) | exact And.right (And.right (And.right (And.right (And.right (And.right (And.right (And.right (by with_reducible assumption)))))))) | exact And.left (And.right (And.right (And.right (And.right (And.right (And.right (And.right (And.right (And.right (by with_reducible assumption)))))))))) | exact And.right (And.right (And.right (And.right (And.right (And.right (And.right (And.right (And.right (by with_reducible assumption))))))))) | exact And.left (And.right (And.right (And.right (And.right (And.right (And.right (And.right (And.right (And.right (And.right (by with_reducible assumption))))))))))) | exact And.right (And.right (And.right (And.right (And.right (And.right (And.right (And.right (And.right (And.right (by with_reducible assumption)))))))))) | exact And.left (And.right (And.right (And.right (And.right (And.right (And.right (And.right (And.right (And.right (And.right (And.right (by with_reducible assumption)))))))))))) | exact And.right (And.right (And.right (And.right (And.right (And.right (And.right (And.right (And.right (And.right (And.right (by with_reducible assumption))))))))))))
  k_with "m_p2" => (first | exact And.left (And.left (by with_reducible assumption)) | exact And.left (And.right (And.left (by with_reducible assumption))) | exact And.left (And.right (And.right (And.left (by with_reducible assumption)))) | exact And.left (And.right (And.right (And.right (And.left (by with_reducible assumption))))) | exact And.right (And.left (by with_reducible assumption)) | exact And.right (And.right (And.left (by with_reducible assumption))) | exact And.right (And.right (And.right (And.left (by with_reducible assumption)))) | exact And.left (And.left (And.right (by with_reducible assumption))) | exact And.left (And.right (And.left (And.right (by with_reducible assumption)))) | exact And.left (And.right (And.right (And.left (And.right (by with_reducible assumption))))) | exact And.left (And.right (And.right (And.right (And.left (And.right (by with_reducible assumption)))))) | exact And.right (And.left (And.right (by with_reducible assumption))) | exact And.right (And.right (And.left (And.right (by with_reducible assumption)))) | exact And.right (And.right (And.right (And.left (And.right (by with_reducible assumption))))) | exact And.left (And.left (And.right (And.right (by with_reducible assumption)))) | exact And.left (And.right (And.left (And.right (And.right (by with_reducible assumption))))) | exact And.left (And.right (And.right (And.left (And.right (And.right (by with_reducible assumption)))))) | exact And.left (And.right (And.right (And.right (And.left (And.right (And.right (by with_reducible assumption))))))) | exact And.right (And.left (And.right (And.right (by with_reducible assumption)))) | exact And.right (And.right (And.left (And.right (And.right (by with_reducible assumption))))) | exact And.right (And.right (And.right (And.left (And.right (And.right (by with_reducible assumption)))))) | exact And.left (And.left (And.right (And.right (And.right (by with_reducible assumption))))) | exact And.left (And.right (And.left (And.right (And.right (And.right (by with_reducible assumption)))))) | exact And.left (And.right (And.right (And.left (And.right (And.right (And.right (by with_reducible assumption))))))) | exact And.left (And.right (And.right (And.right (And.left (And.right (And.right (And.right (by with_reducible assumption)))))))) | exact And.right (And.left (And.right (And.right (And.right (by with_reducible assumption))))) | exact And.right (And.right (And.left (And.right (And.right (And.right (by with_reducible assumption)))))) | exact And.right (And.right (And.right (And.left (And.right (And.right (And.right (by with_reducible assumption))))))))
  k_with "m_ne" => (first | assumption | (refine Ne.symm ?_; assumption) | (refine Nat.ne_of_lt ?_; k_extra "m_p1") | (refine Nat.ne_of_gt ?_; k_extra "m_p1") | k_extra "m_p1" | (refine Ne.symm ?_; k_extra "m_p1") | k_extra "m_p2" | (refine Ne.symm ?_; k_extra "m_p2"))
  trivial
noncomputable abbrev PR : Program := PySem.Challenge.rw_pg0300_01.row.prog
noncomputable abbrev LS : List Str := looseW hd.view_39 [Str.ofString "b2a_base64", Str.ofString "b64encode", Str.ofString "_NodeInfo"]

section
variable {prog : Program} {w : World} {A : Around} {s : Shared} {K : Frag} {p : Program} {loose : List Str} {mean : ExcName → Option Value} {mg mb : Str → Option Value}
    {name qual : Str} {params : Arguments} {body : List Stmt} {scope : Scope} {dV kV doc pm cdv ct oc : Value} {an od : Option Addr} {osl : Array (Option Value)} {f : Addr} {args : List Value} {kw : List (Str × Value)} {binds : List (Str × Value)}
    {Q E : Value → Shared → Prop}

theorem call_freeze
    (X : K.In s.heap) (T : Top p loose mean mg mb s.heap)
    (ho : K.lookup f = some ⟨oc, od, .func (fnOf name qual params body scope dV kV doc pm an cdv ct), osl⟩) (hcd : codeIn K cdv qual = true) (hroom : A.depth < recursionLimit)
    (hbind : BindsTo s (fnOf name qual params body scope dV kV doc pm an cdv ct) ⟨args, kw⟩ binds) (hloc : ∀ y ∈ binds, scope.names.lookup y.1 = some .local)
    (h : ∀ L' h₁, L' = s.heap.objs.size → Fr s.heap L' h₁ (fun y => binds.reverse.lookup y) → News s.heap L' h₁ [] →
      wpAny (model prog w) (A.deeper (envOf qual scope L' f cdv)) (execs body (envOf qual scope L' f cdv)) (fun fl s' => Q (match fl with | .ret v => v | _ => .none) s') (fun _ _ => False)
        { s with heap := h₁, toks := s.toks + binds.length })
    (hco : scope.isCoroutine = false) (hgen : scope.isGenerator = false) (hk : scope.kind = .function)
    (hcell : ∀ x ∈ scope.names, x.2 ≠ .cell) : wpAny (model prog w) A (call (.ref f) args kw) Q E s := by
  refine wpAny_call (codeAny_call_def (fd := fnOf name qual params body scope dV kV doc pm an cdv ct) (body := body) (binds := binds) hroom (X _ _ ho) rfl T.nolimit (codeRec_of X hcd) rfl hbind hcell hloc (fun h₁ hns hk₁ => ?_) hco hgen hk)
  exact wpAny_mono (h s.heap.objs.size h₁ rfl ⟨hns, hk₁, Nat.le_refl _⟩ News.nil) (fun _ _ x => x) (fun _ _ x => x.elim)

theorem call_freezeC
    (X : K.In s.heap) (T : Top p loose mean mg mb s.heap)
    (ho : K.lookup f = some ⟨oc, od, .func (fnOf name qual params body scope dV kV doc pm an cdv ct), osl⟩) (hcd : codeIn K cdv qual = true) (hroom : A.depth < recursionLimit)
    (hbind : BindsTo s (fnOf name qual params body scope dV kV doc pm an cdv ct) ⟨args, kw⟩ binds)
    (hkind : (binds.all fun y => scope.names.lookup y.1 == some .local || scope.names.lookup y.1 == some .cell) = true)
    (hnd : ((cellsFrom 0 scope.names []).map (·.1)).Nodup)
    (h : ∀ L' h₁ tk cells, L' = s.heap.objs.size → Fr s.heap L' h₁ (bindL (envOfC qual scope L' f cdv).kindOf binds fun _ => none) → News s.heap L' h₁ cells →
      CellsAre (bindC (envOfC qual scope L' f cdv).kindOf binds fun _ => none) (cellsFrom (L' + 1) scope.names []) cells →
      wpAny (model prog w) (A.deeper (envOfC qual scope L' f cdv)) (execs body (envOfC qual scope L' f cdv)) (fun fl s' => Q (match fl with | .ret v => v | _ => .none) s') (fun _ _ => False)
        { s with heap := h₁, toks := tk })
    (hco : scope.isCoroutine = false) (hgen : scope.isGenerator = false) (hk : scope.kind = .function) : wpAny (model prog w) A (call (.ref f) args kw) Q E s := by
  refine wpAny_call (codeAny_call_function (fd := fnOf name qual params body scope dV kV doc pm an cdv ct) hroom (X _ _ ho) rfl hco hgen rfl (codeRec_of X hcd) (hbind _ _ _ _ ?_))
  refine wpAny_newFunctionEnv_cells hk (kindsX hkind _) fun env' he s' x => ?_
  subst he
  refine ⟨T.nolimit.keeps x.toInCall.keep, codeAny_func ?_⟩
  obtain ⟨h₁, tk, rfl, _⟩ := x.done
  have hk₁ := x.toInCall.keep
  obtain ⟨cells, NC, Y⟩ := Cl.news (h₀ := s.heap) (Nat.le_refl _) fun n c hm => ⟨x.cell n c (lookup_of_mem_nodup (cellsFrom_names scope.names 0 (s.heap.objs.size + 1) [] [] rfl ▸ hnd) hm), x.above n c hm⟩
  exact wpAny_mono (h s.heap.objs.size h₁ tk cells rfl ⟨x.toInCall.ns, hk₁, Nat.le_refl _⟩ NC Y) (fun _ _ x => x) (fun _ _ x => x.elim)
end
noncomputable abbrev freeze1 {prog : Program} {w : World} {A : Around} {s : Shared} {K : Frag} {p : Program} {loose : List Str} {mean : ExcName → Option Value} {mg mb : Str → Option Value} {name qual : Str} {params : Arguments} {body : List Stmt} {scope : Scope} {dV kV doc pm cdv ct oc : Value} {an od : Option Addr} {osl : Array (Option Value)} {f : Addr} {kw : List (Str × Value)} {Q E : Value → Shared → Prop} {x1 : Str} {v1 : Value} :=
  @call_freeze prog w A s K p loose mean mg mb name qual params body scope dV kV doc pm cdv ct oc an od osl f [v1] kw [(x1, v1)] Q E
noncomputable abbrev freeze2 {prog : Program} {w : World} {A : Around} {s : Shared} {K : Frag} {p : Program} {loose : List Str} {mean : ExcName → Option Value} {mg mb : Str → Option Value} {name qual : Str} {params : Arguments} {body : List Stmt} {scope : Scope} {dV kV doc pm cdv ct oc : Value} {an od : Option Addr} {osl : Array (Option Value)} {f : Addr} {kw : List (Str × Value)} {Q E : Value → Shared → Prop} {x1 x2 : Str} {v1 v2 : Value} :=
  @call_freeze prog w A s K p loose mean mg mb name qual params body scope dV kV doc pm cdv ct oc an od osl f [v1, v2] kw [(x1, v1), (x2, v2)] Q E
noncomputable abbrev freeze3 {prog : Program} {w : World} {A : Around} {s : Shared} {K : Frag} {p : Program} {loose : List Str} {mean : ExcName → Option Value} {mg mb : Str → Option Value} {name qual : Str} {params : Arguments} {body : List Stmt} {scope : Scope} {dV kV doc pm cdv ct oc : Value} {an od : Option Addr} {osl : Array (Option Value)} {f : Addr} {kw : List (Str × Value)} {Q E : Value → Shared → Prop} {x1 x2 x3 : Str} {v1 v2 v3 : Value} :=
  @call_freeze prog w A s K p loose mean mg mb name qual params body scope dV kV doc pm cdv ct oc an od osl f [v1, v2, v3] kw [(x1, v1), (x2, v2), (x3, v3)] Q E
noncomputable abbrev freeze4 {prog : Program} {w : World} {A : Around} {s : Shared} {K : Frag} {p : Program} {loose : List Str} {mean : ExcName → Option Value} {mg mb : Str → Option Value} {name qual : Str} {params : Arguments} {body : List Stmt} {scope : Scope} {dV kV doc pm cdv ct oc : Value} {an od : Option Addr} {osl : Array (Option Value)} {f : Addr} {kw : List (Str × Value)} {Q E : Value → Shared → Prop} {x1 x2 x3 x4 : Str} {v1 v2 v3 v4 : Value} :=
  @call_freeze prog w A s K p loose mean mg mb name qual params body scope dV kV doc pm cdv ct oc an od osl f [v1, v2, v3, v4] kw [(x1, v1), (x2, v2), (x3, v3), (x4, v4)] Q E
noncomputable abbrev freezeC1 {prog : Program} {w : World} {A : Around} {s : Shared} {K : Frag} {p : Program} {loose : List Str} {mean : ExcName → Option Value} {mg mb : Str → Option Value} {name qual : Str} {params : Arguments} {body : List Stmt} {scope : Scope} {dV kV doc pm cdv ct oc : Value} {an od : Option Addr} {osl : Array (Option Value)} {f : Addr} {kw : List (Str × Value)} {Q E : Value → Shared → Prop} {x1 : Str} {v1 : Value} :=
  @call_freezeC prog w A s K p loose mean mg mb name qual params body scope dV kV doc pm cdv ct oc an od osl f [v1] kw [(x1, v1)] Q E
noncomputable abbrev freezeC2 {prog : Program} {w : World} {A : Around} {s : Shared} {K : Frag} {p : Program} {loose : List Str} {mean : ExcName → Option Value} {mg mb : Str → Option Value} {name qual : Str} {params : Arguments} {body : List Stmt} {scope : Scope} {dV kV doc pm cdv ct oc : Value} {an od : Option Addr} {osl : Array (Option Value)} {f : Addr} {kw : List (Str × Value)} {Q E : Value → Shared → Prop} {x1 x2 : Str} {v1 v2 : Value} :=
  @call_freezeC prog w A s K p loose mean mg mb name qual params body scope dV kV doc pm cdv ct oc an od osl f [v1, v2] kw [(x1, v1), (x2, v2)] Q E
noncomputable abbrev freezeC3 {prog : Program} {w : World} {A : Around} {s : Shared} {K : Frag} {p : Program} {loose : List Str} {mean : ExcName → Option Value} {mg mb : Str → Option Value} {name qual : Str} {params : Arguments} {body : List Stmt} {scope : Scope} {dV kV doc pm cdv ct oc : Value} {an od : Option Addr} {osl : Array (Option Value)} {f : Addr} {kw : List (Str × Value)} {Q E : Value → Shared → Prop} {x1 x2 x3 : Str} {v1 v2 v3 : Value} :=
  @call_freezeC prog w A s K p loose mean mg mb name qual params body scope dV kV doc pm cdv ct oc an od osl f [v1, v2, v3] kw [(x1, v1), (x2, v2), (x3, v3)] Q E
noncomputable abbrev freezeC4 {prog : Program} {w : World} {A : Around} {s : Shared} {K : Frag} {p : Program} {loose : List Str} {mean : ExcName → Option Value} {mg mb : Str → Option Value} {name qual : Str} {params : Arguments} {body : List Stmt} {scope : Scope} {dV kV doc pm cdv ct oc : Value} {an od : Option Addr} {osl : Array (Option Value)} {f : Addr} {kw : List (Str × Value)} {Q E : Value → Shared → Prop} {x1 x2 x3 x4 : Str} {v1 v2 v3 v4 : Value} :=
  @call_freezeC prog w A s K p loose mean mg mb name qual params body scope dV kV doc pm cdv ct oc an od osl f [v1, v2, v3, v4] kw [(x1, v1), (x2, v2), (x3, v3), (x4, v4)] Q E

end P01
section P02
noncomputable def LK (h h' : Heap) : Prop := ∀ b o, h.get? b = some o → h'.get? b = some o
theorem LK.refl (h : Heap) : LK h h := fun _ _ e => e
theorem LK.trans {a b c : Heap} (x : LK a b) (y : LK b c) : LK a c := fun _ _ e => y _ _ (x _ _ e)

section
variable {prog : Program} {w : World} {A : Around} {s : Shared} {K : Frag} {p : Program} {loose : List Str} {mean : ExcName → Option Value} {mg mb : Str → Option Value}
    {name qual : Str} {params : Arguments} {body : List Stmt} {scope : Scope} {dV kV doc pm cdv ct oc : Value} {an od : Option Addr} {osl : Array (Option Value)} {f : Addr} {args : List Value} {kw : List (Str × Value)} {binds : List (Str × Value)}
    {Q E : Value → Shared → Prop} {R : Result → Shared → Prop} {h₀ : Heap} {X : List Addr} {news : List (Addr × Obj)}

theorem code_freezeX
    (X₀ : K.In h₀) (T : Top p loose mean mg mb h₀) (hk : LK h₀ s.heap) (hX : ∀ x ∈ X, h₀.get? x = none) (hN : ∀ q ∈ news, s.heap.get? q.1 = some q.2 ∧ q.1 ∈ X)
    (ho : K.lookup f = some ⟨oc, od, .func (fnOf name qual params body scope dV kV doc pm an cdv ct), osl⟩) (hcd : codeIn K cdv qual = true) (hroom : A.depth < recursionLimit)
    (hbind : BindsTo s (fnOf name qual params body scope dV kV doc pm an cdv ct) ⟨args, kw⟩ binds) (hloc : ∀ y ∈ binds, scope.names.lookup y.1 = some .local)
    (h : ∀ g L' h₁, K.In g → Top p loose mean mg mb g → (∀ b o, b ∉ X → s.heap.get? b = some o → g.get? b = some o) → (∀ q ∈ news, q.1 < L') → Fr g L' h₁ (fun y => binds.reverse.lookup y) → News g L' h₁ news →
      wpAny (model prog w) (A.deeper (envOf qual scope L' f cdv)) (execs body (envOf qual scope L' f cdv)) (fun fl s' => R (.ok (.ret (match fl with | .ret v => v | _ => .none))) s') (fun _ _ => False)
        { s with heap := h₁, toks := s.toks + binds.length })
    (hco : scope.isCoroutine = false) (hgen : scope.isGenerator = false) (hk' : scope.kind = .function)
    (hcell : ∀ x ∈ scope.names, x.2 ≠ .cell) : codeAny (model prog w) A (.call (.ref f) ⟨args, kw⟩) R s := by
  have st : LK h₀ (hideAll s.heap X) := fun b o e => hideAll_get _ (hk b o e) fun hb => by rw [hX b hb] at e; cases e
  refine codeAny_call_def (fd := fnOf name qual params body scope dV kV doc pm an cdv ct) (body := body) (binds := binds) hroom (X₀.keeps hk _ _ ho) rfl (T.nolimit.keeps hk) (codeRec_of (X₀.keeps hk) hcd) rfl hbind hcell hloc (fun h₁ hns hk₁ => ?_) hco hgen hk'
  exact wpAny_mono (h (hideAll s.heap X) s.heap.objs.size h₁ (X₀.keeps st) (T.keeps st) (fun b o hb e => hideAll_get _ e hb) (fun q hq => Heap.lt_size (hN q hq).1)
    ⟨hns, fun b o e => hk₁ b o (of_hideAll _ e), Nat.le_of_eq (hideAll_size _ _)⟩ (fun q hq => ⟨hk₁ _ _ (hN q hq).1, Nat.ne_of_lt (Heap.lt_size (hN q hq).1), hideAll_none _ (hN q hq).2⟩)) (fun _ _ x => x) (fun _ _ x => x.elim)

theorem call_freezeX
    (X₀ : K.In h₀) (T : Top p loose mean mg mb h₀) (hk : LK h₀ s.heap) (hX : ∀ x ∈ X, h₀.get? x = none) (hN : ∀ q ∈ news, s.heap.get? q.1 = some q.2 ∧ q.1 ∈ X)
    (ho : K.lookup f = some ⟨oc, od, .func (fnOf name qual params body scope dV kV doc pm an cdv ct), osl⟩) (hcd : codeIn K cdv qual = true) (hroom : A.depth < recursionLimit)
    (hbind : BindsTo s (fnOf name qual params body scope dV kV doc pm an cdv ct) ⟨args, kw⟩ binds) (hloc : ∀ y ∈ binds, scope.names.lookup y.1 = some .local)
    (h : ∀ g L' h₁, K.In g → Top p loose mean mg mb g → (∀ b o, b ∉ X → s.heap.get? b = some o → g.get? b = some o) → (∀ q ∈ news, q.1 < L') → Fr g L' h₁ (fun y => binds.reverse.lookup y) → News g L' h₁ news →
      wpAny (model prog w) (A.deeper (envOf qual scope L' f cdv)) (execs body (envOf qual scope L' f cdv)) (fun fl s' => Q (match fl with | .ret v => v | _ => .none) s') (fun _ _ => False)
        { s with heap := h₁, toks := s.toks + binds.length })
    (hco : scope.isCoroutine = false) (hgen : scope.isGenerator = false) (hk' : scope.kind = .function)
    (hcell : ∀ x ∈ scope.names, x.2 ≠ .cell) : wpAny (model prog w) A (call (.ref f) args kw) Q E s :=
  wpAny_call (code_freezeX X₀ T hk hX hN ho hcd hroom hbind hloc h hco hgen hk' hcell)
end

section
variable {h₀ h' g h'' : Heap} {L L₁ : Addr} {m m₁ : Str → Option Value} {X : List Addr} {own news : List (Addr × Obj)}
theorem keep_back (hg : ∀ b o, b ∉ X → h'.get? b = some o → g.get? b = some o) (F₁ : Fr g L₁ h'' m₁) : ∀ b o, b ∉ X → h'.get? b = some o → h''.get? b = some o := fun b o hb e => F₁.keep b o (hg b o hb e)
theorem fr_back (F : Fr h₀ L h' m) (hX : ∀ x ∈ X, h₀.get? x = none) (hL : L ∉ X) (hg : ∀ b o, b ∉ X → h'.get? b = some o → g.get? b = some o) (F₁ : Fr g L₁ h'' m₁) : Fr h₀ L h'' m :=
  ⟨F.ns.at' fun o e => keep_back hg F₁ _ o hL e, fun b o e => keep_back hg F₁ b o (fun hb => by rw [hX b hb] at e; cases e) (F.keep b o e), F.above⟩
theorem news_old (N : News h₀ L h' news) (hn : ∀ p ∈ news, p.1 ∉ X) (hg : ∀ b o, b ∉ X → h'.get? b = some o → g.get? b = some o) (F₁ : Fr g L₁ h'' m₁) : News h₀ L h'' news :=
  fun p hp => ⟨keep_back hg F₁ _ _ (hn p hp) (N p hp).1, (N p hp).2⟩
theorem news_own (F : Fr h₀ L h' m) (hX : ∀ x ∈ X, h₀.get? x = none) (hL : L ∉ X) (hg : ∀ b o, b ∉ X → h'.get? b = some o → g.get? b = some o) (N₁ : News g L₁ h'' own) : News h₀ L h'' own := fun p hp => by
  obtain ⟨a, b, c⟩ := N₁ p hp
  refine ⟨a, fun e => ?_, ?_⟩
  · obtain ⟨oL, _, _, hoL, _⟩ := F.ns
    rw [e, hg L oL hL hoL] at c; cases c
  · cases q : h₀.get? p.1 with
    | none => rfl
    | some o => rw [hg p.1 o (fun hb => by rw [hX _ hb] at q; cases q) (F.keep _ _ q)] at c; cases c
theorem nw_app {news₁ news₂ : List (Addr × Obj)} {h : Heap} (a : News h₀ L h news₁) (b : News h₀ L h news₂) : News h₀ L h (news₁ ++ news₂) := fun p hp => (List.mem_append.mp hp).elim (a p) (b p)
theorem nw_sub {news₁ news₂ : List (Addr × Obj)} {h : Heap} (a : News h₀ L h news₁) (hs : ∀ p ∈ news₂, p ∈ news₁) : News h₀ L h news₂ := fun p hp => a p (hs p hp)
theorem nw_cons {a : Addr} {o : Obj} {h : Heap} (n : News h₀ L h news) (h1 : h.get? a = some o) (h2 : a ≠ L) (h3 : h₀.get? a = none) : News h₀ L h ((a, o) :: news) := fun p hp => by
  rcases List.mem_cons.mp hp with rfl | hp
  · exact ⟨h1, h2, h3⟩
  · exact n p hp
theorem nw_tl {p : Addr × Obj} {h : Heap} (n : News h₀ L h (p :: news)) : News h₀ L h news := fun q hq => n q (.tail _ hq)
theorem fresh_ne {h : Heap} (F : Fr h₀ L h m) {a : Addr} (ha : h.get? a = none) : a ≠ L ∧ h₀.get? a = none := by
  refine ⟨fun e => ?_, ?_⟩
  · obtain ⟨oL, _, _, hoL, _⟩ := F.ns
    rw [e, hoL] at ha; cases ha
  · cases q : h₀.get? a with
    | none => rfl
    | some o => rw [F.keep _ _ q] at ha; cases ha
theorem nw_pos {h : Heap} (n : News h₀ L h news) : ∀ p ∈ news, h.get? p.1 = some p.2 ∧ h₀.get? p.1 = none := fun p hp => ⟨(n p hp).1, (n p hp).2.2⟩
theorem nw_x1 {a : Addr × Obj} {h : Heap} (n : News h₀ L h (a :: news)) : News h₀ L h [a] := fun q hq => n q (by rw [List.mem_singleton.mp hq]; exact .head _)
theorem nw_x3 {a b c : Addr × Obj} {h : Heap} (n : News h₀ L h (a :: b :: c :: news)) : News h₀ L h (a :: b :: news) := fun q hq => n q (by
  rcases List.mem_cons.mp hq with rfl | hq
  · exact .head _
  · rcases List.mem_cons.mp hq with rfl | hq
    · exact .tail _ (.head _)
    · exact .tail _ (.tail _ (.tail _ hq)))
theorem lk_ro {rec : List (Addr × Obj)} (hX : X = rec.map (·.1)) (hb : ∀ p ∈ rec, h'.get? p.1 = some p.2) (hg : ∀ b o, b ∉ X → h'.get? b = some o → g.get? b = some o) (F₁ : Fr g L₁ h'' m₁) (N₁ : News g L₁ h'' own) (hs : ∀ p ∈ rec, p ∈ own) : LK h' h'' := fun b o e => by
  by_cases hm : b ∈ X
  · rw [hX] at hm
    obtain ⟨p, hp, rfl⟩ := List.mem_map.mp hm
    rw [hb p hp] at e
    cases e
    exact (N₁ p (hs p hp)).1
  · exact keep_back hg F₁ b o hm e
end

end P02
section P03
noncomputable abbrev entryD (ps : Params) (u r d q : Value) (t1 t2 t3 t4 : Tok) : List DictEntry :=
  [⟨PyData.keyHash ps (Str.ofString "useragents"), .str (Str.ofString "useragents") t1, u⟩, ⟨PyData.keyHash ps (Str.ofString "rulelines"), .str (Str.ofString "rulelines") t2, r⟩,
   ⟨PyData.keyHash ps (Str.ofString "delay"), .str (Str.ofString "delay") t3, d⟩, ⟨PyData.keyHash ps (Str.ofString "req_rate"), .str (Str.ofString "req_rate") t4, q⟩]
section
variable {w : World} {A : Around} {s : Shared} {mean : ExcName → Option Value} {mg mb : Str → Option Value} {Q E : Value → Shared → Prop} {h₀ : Heap} {L : Addr} {m : Str → Option Value} {news : List (Addr × Obj)}
set_option maxHeartbeats 4000000 in
theorem mk_entry 
    (KX : (hd.heap_39 w.params).In h₀) (T : Top hd.view_39 LS mean mg mb h₀) (F : Fr h₀ L s.heap m) (N : News h₀ L s.heap news) (hr : A.depth + 5 < recursionLimit)
    (hQ : ∀ x dx ul rl t1 t2 t3 t4 h' tk, Fr h₀ L h' m → News h₀ L h' ((rl, W.listOf #[] 0) :: (ul, W.listOf #[] 0) :: (x, instObj 59 dx) :: (dx, dictOf (entryD w.params (.ref ul) (.ref rl) .none .none t1 t2 t3 t4) 4) :: news) →
      (∀ p ∈ news, p.1 < dx) → (@LT.lt Nat _ dx x ∧ @LT.lt Nat _ x ul ∧ @LT.lt Nat _ ul rl) → Q (.ref x) { s with heap := h', toks := tk }) :
    wpAny (model PR w) A (call (.ref 59) [] []) Q E s := by
  refine call_cls F KX N (by k_is) (by k_is) (by k_is) (fun x dx h' F' N' l1 l2 => ?_)
  have hX : ∀ y ∈ [x, dx], h₀.get? y = none := by
    intro y hy
    simp only [List.mem_cons, List.not_mem_nil, or_false] at hy
    rcases hy with rfl | rfl
    · exact (N' _ (.head _)).2.2
    · exact (N' _ (.tail _ (.head _))).2.2
  have hLX : L ∉ [x, dx] := by
    intro hy
    simp only [List.mem_cons, List.not_mem_nil, or_false] at hy
    rcases hy with e | e
    · exact (N' _ (.head _)).2.1 e.symm
    · exact (N' _ (.tail _ (.head _))).2.1 e.symm
  have hnX : ∀ p ∈ news, p.1 ∉ [x, dx] := by
    intro p hp hy
    have h1 := l1 p hp
    simp only [List.mem_cons, List.not_mem_nil, or_false] at hy
    rcases hy with e | e
    · rw [e] at h1; exact Nat.lt_asymm h1 l2
    · rw [e] at h1; exact Nat.lt_irrefl _ h1
  refine code_freezeX (X := [x, dx]) (news := [(x, instObj 59 dx), (dx, dictOf [] 0)]) (binds := [(Str.ofString "self", .ref x)]) KX T F'.keep hX ?_ (by k_is) (by k_is) ?_ (BindsTo.of_eq rfl) (locs rfl) ?_ rfl rfl rfl (by decide)
  · intro q hq
    simp only [List.mem_cons, List.not_mem_nil, or_false] at hq
    rcases hq with rfl | rfl
    · exact ⟨(N' _ (.head _)).1, .head _⟩
    · exact ⟨(N' _ (.tail _ (.head _))).1, .tail _ (.head _)⟩
  · simp only [depth_under_kw]; omega
  intro g L₁ h₁ KX' T' hg hlt F₁ N₁
  have N₀ := nw_tl (nw_tl N')
  have F₀ := F'
  clear N' F' hlt
  replace l2 := ltN l2
  walk_at "m_go"
  rename Fr _ _ _ _ => F9
  rename News _ _ _ _ => N9
  rename_i l3 _ _ _ l4 _ _ _ _
  dsimp only at N9 hg ⊢
  refine ⟨rfl, ?_⟩
  exact hQ _ _ _ _ _ _ _ _ _ _ (fr_back F₀ hX hLX hg F9) (nw_app (news_own F₀ hX hLX hg N9) (news_old N₀ hnX hg F9)) l1 ⟨l2, by omega, by omega⟩
end
theorem ru03x0 : True := by
  k_with "call ref" => ((k_here; (with_reducible show wpAny _ _ (call (Value.ref 59) _) _ _ _); k_dflt (refine' mk_entry ?zzk1 ?zzk2 ?zzk3 ?zzk4 ?zzkr ?_; (case zzk1 => k_asm); (case zzk2 => k_asm); (case zzk3 => k_asm); (case zzk4 => k_asm); (case zzkr => (simp only [depth_in1, depth_deeper]; omega)); intro _ _ _ _ _ _ _ _ _ _ _ _; walk_at "t_2")))
  trivial


end P03
section P04
theorem z_tn (i : Nat) : ((0 : Int) + (i : Int)).toNat = i := by omega
theorem z_nt (n : Nat) : ((n : Int) - 0).toNat = n := by omega
theorem z_nn (i : Nat) : ((i : Int)).toNat = i := by omega
theorem z_lt {j n : Nat} (h : j < ((n : Int) - 0).toNat) : j < n := by omega
theorem z_sz {n : Nat} (h : n ≤ 16777216) : ((n : Int) - 0).toNat ≤ 16777216 := by omega
theorem z_szl {n : Nat} (h : n ≤ 16777216) : ((n : Int) - 0).toNat ≤ sizeLine := by rw [sizeLine_eq]; exact z_sz h
theorem z_dep {i : Nat} {M d : Int} (hi : i < (M + 1 - 0).toNat) (h : d = M) : (i : Int) + ((M - (i : Int)).toNat : Int) = d := by omega
theorem z_63 {j : Nat} (h : j ≤ 16777216) : (0 : Int) + (j : Int) < 2 ^ 63 := by omega
theorem z_ge (j : Nat) : (0 : Int) ≤ 0 + (j : Int) := by omega
theorem small_nat {n : Nat} (h : n ≤ 16777216) : Builtin.Range.small 0 (n : Int) 1 = true := small_one (by decide) (by decide) (by omega) (by omega)
section
variable {prog : Program} {w : World} {A : Around} {E : Value → Shared → Prop} {s : Shared} {h₀ : Heap} {L : Addr} {m : Str → Option Value} {env : Env} {news : List (Addr × Obj)}

theorem nw_grow {h h' : Heap} {os : List (Addr × Obj)} (F : Fr h₀ L h m) (N : News h₀ L h news) (hk : LK h h') (ho : ∀ p ∈ os, h'.get? p.1 = some p.2 ∧ h.get? p.1 = none) : Fr h₀ L h' m ∧ News h₀ L h' (os ++ news) :=
  ⟨F.keeps hk, nw_app (fun p hp => ⟨(ho p hp).1, fresh_ne F (ho p hp).2⟩) (N.grown hk)⟩

theorem assign2 {x y : Str} {px py pos : Pos} {k : Nat} {T : Addr} {a b : Value} {n : Nat} {Q : Unit → Shared → Prop} (hh : A.handled = none) (F : Fr h₀ L s.heap m) (N : News h₀ L s.heap news)
    (hT : (T, ({ cls := .type "tuple", data := .seq #[a, b] n } : Obj)) ∈ news)
    (h : ∀ h', Fr h₀ L h' m → News h₀ L h' news → wpAny (model prog w) A (storeName env x a) (fun _ s₁ => wpAny (model prog w) A (storeName env y b) Q E s₁) E { s with heap := h' }) :
    wpAny (model prog w) A (assign (.Tuple [.Name x px, .Name y py] k pos) env (.ref T)) Q E s := by
  refine wpAny_assign_Tuple hh (News.isTup N hT) rfl rfl fun h' he => ?_
  have hk : LK s.heap h' := fun b o e => he b o (Nat.ne_of_lt (Heap.lt_size e)) e
  refine assignInOrder_cons (wpAny_assign_Name ?_)
  refine wpAny_mono (h h' (F.keeps hk) (N.grown hk)) (fun _ s₁ h₁ => ?_) fun _ _ e => e
  refine assignInOrder_cons (wpAny_assign_Name ?_)
  exact wpAny_mono h₁ (fun _ s₂ h₂ => assignInOrder_nil h₂) fun _ _ e => e

open LCg LCt in
theorem rest_inv {elt : Expr} {x : Str} {scope : Scope} {cl : List (Str × Addr)} {S : List (Addr × Obj) → Prop} {P : Nat → Value → Prop} {Fin : List Value → List (Addr × Obj) → Prop} {n : Nat}
    (Inv : Nat → List Value → List (Addr × Obj) → Prop) (h0 : Inv 0 [] news) (fin : ∀ ys nw, Inv n ys nw → Fin ys nw)
    (turn : ∀ i v ys nw I oI C oC D m₂ h tk (E' : Value → Shared → Prop), i < n → P i v → Inv i ys nw → NsObj oC m₂ → m₂ x = some v → Fr h₀ L h m → News h₀ L h ((I, oI) :: (C, oC) :: (D, lst ys) :: nw) → Off3 I C D nw → ((@Ne Nat I C) ∧ (@Ne Nat I D) ∧ (@Ne Nat C D)) →
      wpAny (model prog w) A (eval elt (compEnvC scope cl C env)) (CompEnd h₀ L m { s with heap := h, toks := tk } I oI C oC D (lst ys) S (fun y nw' => Inv (i + 1) (ys ++ [y]) nw')) E' { s with heap := h, toks := tk }) :
    CompRest prog w A h₀ L m env elt x scope cl s S P Fin n 0 [] news := by
  have key : ∀ j i ys nw, i + j = n → Inv i ys nw → CompRest prog w A h₀ L m env elt x scope cl s S P Fin j i ys nw := by
    intro j
    induction j with
    | zero => intro i ys nw e hi; obtain rfl : i = n := by omega
              exact CompRest.zero (fin _ _ hi)
    | succ j ih =>
      intro i ys nw e hi
      refine CompRest.succ fun v I oI C oC D m₂ h tk E' hv hC hx F N off ne => ?_
      refine wpAny_mono (turn i v ys nw I oI C oC D m₂ h tk E' (by omega) hv hi hC hx F N off ne) (fun y s₂ hq => ?_) fun _ _ e => e
      obtain ⟨h', tk', nw', e, F', N', off', hS, hn⟩ := hq
      exact ⟨h', tk', nw', e, F', N', off', hS, ih (i + 1) _ _ (by omega) hn⟩
  exact key n 0 [] news (by omega) h0

open LCg LCt in
theorem restT_inv {ct elt : Expr} {x : Str} {scope : Scope} {cl : List (Str × Addr)} {S : List (Addr × Obj) → Prop} {P : Nat → Value → Prop} {Fin : List Value → List (Addr × Obj) → Prop} {n : Nat}
    (Inv : Nat → List Value → List (Addr × Obj) → Prop) (h0 : Inv 0 [] news) (fin : ∀ ys nw, Inv n ys nw → Fin ys nw)
    (turn : ∀ i v ys nw I oI C oC D m₂ h tk (E' : Value → Shared → Prop), i < n → P i v → Inv i ys nw → NsObj oC m₂ → m₂ x = some v → Fr h₀ L h m → News h₀ L h ((I, oI) :: (C, oC) :: (D, lst ys) :: nw) → Off3 I C D nw → ((@Ne Nat I C) ∧ (@Ne Nat I D) ∧ (@Ne Nat C D)) →
      wpAny (model prog w) A (isTrue ct (compEnvC scope cl C env) (eval ct (compEnvC scope cl C env))) (fun ok s' => if ok = true then
        wpAny (model prog w) A (eval elt (compEnvC scope cl C env)) (CompEnd h₀ L m { s with heap := h, toks := tk } I oI C oC D (lst ys) S (fun y nw' => Inv (i + 1) (ys ++ [y]) nw')) E' s'
        else CompEnd h₀ L m { s with heap := h, toks := tk } I oI C oC D (lst ys) S (fun _ nw' => Inv (i + 1) ys nw') Value.none s') E' { s with heap := h, toks := tk }) :
    CompRestT prog w A h₀ L m env ct elt x scope cl s S P Fin n 0 [] news := by
  have key : ∀ j i ys nw, i + j = n → Inv i ys nw → CompRestT prog w A h₀ L m env ct elt x scope cl s S P Fin j i ys nw := by
    intro j
    induction j with
    | zero => intro i ys nw e hi; obtain rfl : i = n := by omega
              exact CompRestT.zero (fin _ _ hi)
    | succ j ih =>
      intro i ys nw e hi
      refine CompRestT.succ fun v I oI C oC D m₂ h tk E' hv hC hx F N off ne => ?_
      refine wpAny_mono (turn i v ys nw I oI C oC D m₂ h tk E' (by omega) hv hi hC hx F N off ne) (fun ok s₂ hq => ?_) fun _ _ e => e
      cases ok with
      | true =>
        simp only [if_true] at hq ⊢
        refine wpAny_mono hq (fun y s₃ hq => ?_) fun _ _ e => e
        obtain ⟨h', tk', nw', e, F', N', off', hS, hn⟩ := hq
        exact ⟨h', tk', nw', e, F', N', off', hS, ih (i + 1) _ _ (by omega) hn⟩
      | false =>
        simp only [Bool.false_eq_true, if_false] at hq ⊢
        obtain ⟨h', tk', nw', e, F', N', off', hS, hn⟩ := hq
        exact ⟨h', tk', nw', e, F', N', off', hS, ih (i + 1) _ _ (by omega) hn⟩
  exact key n 0 [] news (by omega) h0
end

section
variable {prog : Program} {w : World} {A : Around} {E : Value → Shared → Prop} {s : Shared} {h₀ : Heap} {env : Env} {x : Str} {px : Pos} {body : List Stmt} {Q : Flow → Shared → Prop}

noncomputable def TurnEnd (h₀ : Heap) (L I : Addr) (oI : Obj) (J : (Str → Option Value) → List (Addr × Obj) → Prop) (s₁ s' : Shared) : Prop :=
  ∃ h' tk' m' nw', s' = { s₁ with heap := h', toks := tk' } ∧ Fr h₀ L h' m' ∧ News h₀ L h' ((I, oI) :: nw') ∧ (∀ p ∈ nw', p.1 ≠ I) ∧ J m' nw'
noncomputable def ForPost (h₀ : Heap) (L I : Addr) (oI : Obj) (J : (Str → Option Value) → List (Addr × Obj) → Prop) (s₁ : Shared) (Q : Flow → Shared → Prop) (fl : Flow) (s' : Shared) : Prop := match fl with
  | .ret v => Q (.ret v) s'
  | .brk => Q .next s'
  | .next => TurnEnd h₀ L I oI J s₁ s'
  | .cont => TurnEnd h₀ L I oI J s₁ s'
theorem TurnEnd.intro {L I : Addr} {oI : Obj} {J : (Str → Option Value) → List (Addr × Obj) → Prop} {s₁ : Shared} {h' : Heap} {tk' : Nat} {m' : Str → Option Value} {nw' : List (Addr × Obj)}
    (F : Fr h₀ L h' m') (N : News h₀ L h' ((I, oI) :: nw')) (o : ∀ p ∈ nw', p.1 ≠ I) (j : J m' nw') : TurnEnd h₀ L I oI J s₁ { s₁ with heap := h', toks := tk' } := ⟨h', tk', m', nw', rfl, F, N, o, j⟩

noncomputable def ForAt (prog : Program) (w : World) (A : Around) (env : Env) (x : Str) (px : Pos) (body : List Stmt) (Q : Flow → Shared → Prop) (xv : Value) (s₁ : Shared) : Prop :=
  wpAny (model prog w) A (pyIter xv) (fun it s₂ => codeAny (model prog w) A (.forLoop (.Name x px) it body [] env) (fun r s' => match r with | .ok f => Q f s' | .error _ => False) s₂) (fun _ _ => False) s₁
theorem For_at {iter : Expr} {pos : Pos} (h : wpAny (model prog w) A (eval iter env) (fun xv s₁ => ForAt prog w A env x px body Q xv s₁) E s)
    (hs : ∀ x, foldedSetIterable iter env x = pure x := by intro _; rfl) : wpAny (model prog w) A (exec (.For (.Name x px) iter body [] pos) env) Q E s := by
  refine wpAny_For (wpAny_mono h (fun xv s₁ h₁ => wpAny_mono h₁ (fun it s₂ h₂ => codeAny_mono h₂ fun r s' hr => ?_) fun _ _ e => e.elim) fun _ _ e => e) hs
  cases r with
  | ok f => exact hr
  | error e => exact hr.elim

theorem for_gen {L I : Addr} {fp : List Addr} {n : Nat} {P : Nat → Value → Prop} {St : Nat → Heap → Prop} {S : List (Addr × Obj) → Prop} {m : Str → Option Value} {news : List (Addr × Obj)} {R : Result → Shared → Prop}
    (W : Walks prog w A I fp [I] n P St) (hIo : ∀ i h, St i h → ∃ o, h.get? I = some o)
    (hSt : ∀ i h h' o nw, St i h → h.get? I = some o → h'.get? I = some o → LK h₀ h' → News h₀ L h' nw → S nw → St i h')
    (hst : St 0 s.heap) (hIL : I ≠ L) (hI₀ : h₀.get? I = none) (off : ∀ p ∈ news, p.1 ≠ I) (F : Fr h₀ L s.heap m) (N : News h₀ L s.heap news)
    (J : Nat → (Str → Option Value) → List (Addr × Obj) → Prop) (hJS : ∀ i m nw, J i m nw → S nw) (h0 : J 0 m news)
    (turn : ∀ i v m₁ nw h tk oI (E' : Value → Shared → Prop), i < n → P i v → J i m₁ nw → (∀ p ∈ nw, p.1 ≠ I) → Fr h₀ L h m₁ → News h₀ L h ((I, oI) :: nw) →
      wpAny (model prog w) A (assign (.Name x px) env v) (fun _ s₂ => wpAny (model prog w) A (execs body env) (ForPost h₀ L I oI (J (i + 1)) { s with heap := h, toks := tk } (fun fl s' => R (.ok fl) s')) E' s₂) E' { s with heap := h, toks := tk })
    (done : ∀ m₁ nw h tk, J n m₁ nw → Fr h₀ L h m₁ → News h₀ L h nw → R (.ok .next) { s with heap := h, toks := tk }) :
    codeAny (model prog w) A (.forLoop (.Name x px) (.ref I) body [] env) R s := by
  refine codeAny_forLoop (fun k s' => ∃ h' tk m' nw i, s' = { s with heap := h', toks := tk } ∧ St i h' ∧ Fr h₀ L h' m' ∧ News h₀ L h' nw ∧ (∀ p ∈ nw, p.1 ≠ I) ∧ J i m' nw ∧ i ≤ n ∧ k = n + 1 - i) ?_ (n + 1)
    ⟨s.heap, s.toks, m, news, 0, rfl, hst, F, N, off, h0, Nat.zero_le _, rfl⟩
  rintro k s' ⟨h', tk, m', nw, i, rfl, hst', F', N', off', hJ, hi, rfl⟩
  have next : ∀ h₁ : Heap, (∀ b o, b ∉ [I] → h'.get? b = some o → h₁.get? b = some o) → Fr h₀ L h₁ m' ∧ News h₀ L h₁ nw := fun h₁ hk₁ =>
    ⟨⟨F'.ns.at' fun o e => hk₁ _ o (by simpa using Ne.symm hIL) e, fun b o e => hk₁ b o (fun hb => by rw [List.mem_singleton.mp hb, hI₀] at e; cases e) (F'.keep b o e), F'.above⟩,
     fun p hp => ⟨hk₁ _ _ (by simpa using off' p hp) (N' p hp).1, (N' p hp).2⟩⟩
  by_cases hlt : i < n
  · refine W.item i _ _ _ hlt hst' fun v h₁ tk₁ hP hst₁ hk₁ => ?_
    obtain ⟨F₁, N₁⟩ := next h₁ hk₁
    obtain ⟨oI, heI⟩ := hIo _ _ hst₁
    refine wpAny_mono (turn i v m' nw h₁ tk₁ oI _ hlt hP hJ off' F₁ (nw_cons N₁ heI hIL hI₀)) (fun _ s₂ h₂ => wpAny_mono h₂ (fun fl s₃ h₃ => ?_) fun _ _ e => e) fun _ _ e => e
    have fin : TurnEnd h₀ L I oI (J (i + 1)) { s with heap := h₁, toks := tk₁ } s₃ → ∃ k, k < n + 1 - i ∧ ∃ h' tk m' nw i, s₃ = { s with heap := h', toks := tk } ∧ St i h' ∧ Fr h₀ L h' m' ∧ News h₀ L h' nw ∧ (∀ p ∈ nw, p.1 ≠ I) ∧ J i m' nw ∧ i ≤ n ∧ k = n + 1 - i := by
      rintro ⟨h₄, tk₄, m₄, nw₄, rfl, F₄, N₄, off₄, hJ₄⟩
      exact ⟨n + 1 - (i + 1), by omega, h₄, tk₄, m₄, nw₄, i + 1, rfl, hSt _ _ _ _ _ hst₁ heI (N₄ _ (.head _)).1 F₄.keep (nw_tl N₄) (hJS _ _ _ hJ₄), F₄, nw_tl N₄, off₄, hJ₄, hlt, rfl⟩
    cases fl with
    | ret v => exact h₃
    | brk => exact h₃
    | next => exact fin h₃
    | cont => exact fin h₃
  · have hin : i = n := by omega
    subst hin
    refine W.done _ _ _ hst' fun h₁ tk₁ hk₁ => wpAny_execs_nil ?_
    obtain ⟨F₁, N₁⟩ := next h₁ hk₁
    exact done m' nw h₁ tk₁ hJ F₁ N₁

variable {L : Addr} {m : Str → Option Value} {news : List (Addr × Obj)}
noncomputable def SrcTup (h₀ : Heap) (ax : Addr) (its : Array Value) (nw : List (Addr × Obj)) : Prop := h₀.IsTuple ax its ∨ ∃ o, (ax, o) ∈ nw ∧ o.cls = .type "tuple" ∧ ∃ n, o.data = .seq its n
theorem SrcTup.tup {ax : Addr} {its : Array Value} {nw : List (Addr × Obj)} {h : Heap} (x : SrcTup h₀ ax its nw) (k : LK h₀ h) (N : News h₀ L h nw) : h.IsTuple ax its := by
  rcases x with ⟨o, e, r⟩ | ⟨o, hm, r⟩
  · exact ⟨o, k _ _ e, r⟩
  · exact ⟨o, (N _ hm).1, r⟩

theorem ForAt.list {ax : Addr} {its : Array Value} (hh : A.handled = none) (F : Fr h₀ L s.heap m) (N : News h₀ L s.heap news)
    (J : (Str → Option Value) → List (Addr × Obj) → Nat → (Str → Option Value) → List (Addr × Obj) → Prop) (hJS : ∀ i m' nw, J m news i m' nw → LCg.SrcAt h₀ ax its nw) (h0 : J m news 0 m news)
    (turn : ∀ I i v m₁ nw h tk oI (E' : Value → Shared → Prop), i < its.size → its[i]? = some v → J m news i m₁ nw → (∀ p ∈ nw, p.1 ≠ I) → Fr h₀ L h m₁ → News h₀ L h ((I, oI) :: nw) →
      wpAny (model prog w) A (assign (.Name x px) env v) (fun _ s₂ => wpAny (model prog w) A (execs body env) (ForPost h₀ L I oI (J m news (i + 1)) { s with heap := h, toks := tk } Q) E' s₂) E' { s with heap := h, toks := tk })
    (done : ∀ m₁ nw h tk, J m news its.size m₁ nw → Fr h₀ L h m₁ → News h₀ L h nw → Q .next { s with heap := h, toks := tk }) :
    ForAt prog w A env x px body Q (.ref ax) s := by
  have hl := (hJS _ _ _ h0).list F.keep N
  have hlt : ax < s.heap.objs.size := by obtain ⟨_, e, _⟩ := hl; exact Heap.lt_size e
  refine wpAny_pyIter_list hl ?_
  have up : LK s.heap (s.heap.push { cls := .type "list_iterator", data := .fields #[.ref ax, .int 0 0] }) := fun b o e => Heap.get?_push_of_some _ e
  exact for_gen (Walks.list hh s.heap.objs.size ax (Nat.ne_of_lt hlt) its) (fun i h st => by obtain ⟨o, e, _⟩ := st.1; exact ⟨o, e⟩)
    (fun i h h' o nw st e e' k N S => ⟨st.1.at fun o' q => by rw [e] at q; cases q; exact e', S.list k N⟩) ⟨⟨_, Heap.get?_push_size _ rfl, rfl, rfl⟩, hl.push _⟩ (Nat.ne_of_gt F.ns.lt) (next_is_new F)
    (fun p hp => Nat.ne_of_lt (Heap.lt_size (N p hp).1)) (F.keeps up) (N.grown up) (J m news) hJS h0 (turn s.heap.objs.size) done
theorem ForAt.tuple {ax : Addr} {its : Array Value} (hh : A.handled = none) (F : Fr h₀ L s.heap m) (N : News h₀ L s.heap news)
    (J : (Str → Option Value) → List (Addr × Obj) → Nat → (Str → Option Value) → List (Addr × Obj) → Prop) (hJS : ∀ i m' nw, J m news i m' nw → SrcTup h₀ ax its nw) (h0 : J m news 0 m news)
    (turn : ∀ I i v m₁ nw h tk oI (E' : Value → Shared → Prop), i < its.size → its[i]? = some v → J m news i m₁ nw → (∀ p ∈ nw, p.1 ≠ I) → Fr h₀ L h m₁ → News h₀ L h ((I, oI) :: nw) →
      wpAny (model prog w) A (assign (.Name x px) env v) (fun _ s₂ => wpAny (model prog w) A (execs body env) (ForPost h₀ L I oI (J m news (i + 1)) { s with heap := h, toks := tk } Q) E' s₂) E' { s with heap := h, toks := tk })
    (done : ∀ m₁ nw h tk, J m news its.size m₁ nw → Fr h₀ L h m₁ → News h₀ L h nw → Q .next { s with heap := h, toks := tk }) :
    ForAt prog w A env x px body Q (.ref ax) s := by
  have hl := (hJS _ _ _ h0).tup F.keep N
  have hlt : ax < s.heap.objs.size := by obtain ⟨_, e, _⟩ := hl; exact Heap.lt_size e
  refine wpAny_pyIter_tuple hl ?_
  have up : LK s.heap (s.heap.push { cls := .type "tuple_iterator", data := .fields #[.ref ax, .int 0 0] }) := fun b o e => Heap.get?_push_of_some _ e
  exact for_gen (Walks.tuple hh s.heap.objs.size ax (Nat.ne_of_lt hlt) its) (fun i h st => by obtain ⟨o, e, _⟩ := st.1; exact ⟨o, e⟩)
    (fun i h h' o nw st e e' k N S => ⟨st.1.at fun o' q => by rw [e] at q; cases q; exact e', S.tup k N⟩) ⟨⟨_, Heap.get?_push_size _ rfl, rfl, rfl⟩, hl.at fun o e => up _ _ e⟩ (Nat.ne_of_gt F.ns.lt) (next_is_new F)
    (fun p hp => Nat.ne_of_lt (Heap.lt_size (N p hp).1)) (F.keeps up) (N.grown up) (J m news) hJS h0 (turn s.heap.objs.size) done
theorem ForAt.range {r : Addr} {a b : Int} {t u v : Tok} {n : Nat} (hh : A.handled = none) (F : Fr h₀ L s.heap m) (N : News h₀ L s.heap news) (hr : IsRange s.heap r a b 1 t u v) (hsm : Builtin.Range.small a b 1 = true) (hn : Builtin.Range.rangeSize a b 1 = ((n : Nat) : Int))
    (J : (Str → Option Value) → List (Addr × Obj) → Nat → (Str → Option Value) → List (Addr × Obj) → Prop) (h0 : J m news 0 m news)
    (turn : ∀ I i t m₁ nw h tk oI (E' : Value → Shared → Prop), i < n → J m news i m₁ nw → (∀ p ∈ nw, p.1 ≠ I) → Fr h₀ L h m₁ → News h₀ L h ((I, oI) :: nw) →
      wpAny (model prog w) A (assign (.Name x px) env (.int (a + (i : Int)) t)) (fun _ s₂ => wpAny (model prog w) A (execs body env) (ForPost h₀ L I oI (J m news (i + 1)) { s with heap := h, toks := tk } Q) E' s₂) E' { s with heap := h, toks := tk })
    (done : ∀ m₁ nw h tk, J m news n m₁ nw → Fr h₀ L h m₁ → News h₀ L h nw → Q .next { s with heap := h, toks := tk }) :
    ForAt prog w A env x px body Q (.ref r) s := by
  refine wpAny_pyIter_range hr hsm ?_
  rw [hn]
  have up : LK s.heap (s.heap.push { cls := .type "range_iterator", data := .fields #[.int a 0, .int n 0, .int 1 0] }) := fun b o e => Heap.get?_push_of_some _ e
  refine for_gen (S := fun _ => True) (LCg.range_walks (I := s.heap.objs.size) hh a n) (fun i h st => ⟨_, st⟩)
    (fun i h h' o nw st e e' k N _ => LCg.range_st i h h' o nw st e e' k N trivial) ?_ (Nat.ne_of_gt F.ns.lt) (next_is_new F)
    (fun p hp => Nat.ne_of_lt (Heap.lt_size (N p hp).1)) (F.keeps up) (N.grown up) (J m news) (fun _ _ _ _ => trivial) h0 (fun i v m₁ nw h tk oI E' hi hP hJ off F N => by obtain ⟨t, rfl⟩ := hP; exact turn _ i t m₁ nw h tk oI E' hi hJ off F N) done
  show _ = _
  rw [Heap.get?_push_size _ rfl]
  simp [rawInt]
theorem ForAt.keys {K : Type} [DecidableEq K] {knd : KeyKind prog w K} {d : Addr} {od : Obj} {kvs : List (K × Value)} (hh : A.handled = none) (F : Fr h₀ L s.heap m) (N : News h₀ L s.heap news) (hd : (d == sysModules) = false) (ho : od.IsDictOf knd kvs)
    (J : (Str → Option Value) → List (Addr × Obj) → Nat → (Str → Option Value) → List (Addr × Obj) → Prop) (hJS : ∀ i m' nw, J m news i m' nw → (d, od) ∈ nw) (h0 : J m news 0 m news)
    (turn : ∀ I i k v y m₁ nw h tk oI (E' : Value → Shared → Prop), i < kvs.length → kvs[i]? = some (k, y) → knd.is k v = true → J m news i m₁ nw → (∀ p ∈ nw, p.1 ≠ I) → Fr h₀ L h m₁ → News h₀ L h ((I, oI) :: nw) →
      wpAny (model prog w) A (assign (.Name x px) env v) (fun _ s₂ => wpAny (model prog w) A (execs body env) (ForPost h₀ L I oI (J m news (i + 1)) { s with heap := h, toks := tk } Q) E' s₂) E' { s with heap := h, toks := tk })
    (done : ∀ m₁ nw h tk, J m news kvs.length m₁ nw → Fr h₀ L h m₁ → News h₀ L h nw → Q .next { s with heap := h, toks := tk }) :
    ForAt prog w A env x px body Q (.ref d) s := by
  obtain ⟨ep, hx⟩ : ∃ ep, ∀ h : Heap, h.get? d = some od → h.DictAt knd d kvs ep := by
    obtain ⟨es, ep, hc, hdat, hk, hp, hn⟩ := ho
    exact ⟨ep, fun h e => ⟨od, es, e, hc, hdat, hk, hp, hn⟩⟩
  have hm := hx _ (N _ (hJS _ _ _ h0)).1
  have hlt := hm.lt_size
  refine wpAny_pyIter_dict hd hm ?_
  have up : LK s.heap (s.heap.push { cls := .type "dict_keyiterator", data := .fields #[.ref d, .int 0 0, .int kvs.length 0, .int ep 0] }) := fun b o e => Heap.get?_push_of_some _ e
  exact for_gen (S := fun nw => (d, od) ∈ nw) (Walks.dictKeys hh s.heap.objs.size d (Nat.ne_of_lt hlt) kvs ep) (fun i h st => by obtain ⟨o, e, _⟩ := st.1; exact ⟨o, e⟩)
    (fun i h h' o nw st e e' k N S => ⟨st.1.at fun o' q => by rw [e] at q; cases q; exact e', hx _ (N _ S).1⟩) ⟨⟨_, Heap.get?_push_size _ rfl, rfl, rfl⟩, hm.push _⟩ (Nat.ne_of_gt F.ns.lt) (next_is_new F)
    (fun p hp => Nat.ne_of_lt (Heap.lt_size (N p hp).1)) (F.keeps up) (N.grown up) (J m news) hJS h0 (fun i v m₁ nw h tk oI E' hi hP hJ off F N => by obtain ⟨k, y, e, hk⟩ := hP; exact turn _ i k v y m₁ nw h tk oI E' hi e hk hJ off F N) done
end

theorem off1_mem {D : Addr} : ∀ {l : List (Addr × Obj)}, LCg.Off1 D l → ∀ p ∈ l, p.1 ≠ D
  | [], _, _, h => nomatch h
  | _ :: _, h, p, hp => by
    rcases List.mem_cons.mp hp with rfl | hp
    · exact h.1
    · exact off1_mem h.2 p hp
noncomputable def Up1 (x : Str) (m₀ m : Str → Option Value) : Prop := ∃ u, m = fun z => if z = x then u else m₀ z
theorem Up1.refl (x : Str) (m : Str → Option Value) : Up1 x m m := ⟨m x, by funext z; by_cases h : z = x <;> simp [h]⟩
noncomputable def Up2 (x y : Str) (m₀ m : Str → Option Value) : Prop := ∃ u v, m = fun z => if z = x then u else if z = y then v else m₀ z
theorem Up2.refl (x y : Str) (m : Str → Option Value) : Up2 x y m m := ⟨m x, m y, by
  funext z
  by_cases h : z = x
  · rw [if_pos h, h]
  · rw [if_neg h]
    by_cases k : z = y
    · rw [if_pos k, k]
    · rw [if_neg k]⟩
noncomputable def Up3 (x y w : Str) (m₀ m : Str → Option Value) : Prop := ∃ u v t, m = fun z => if z = x then u else if z = y then v else if z = w then t else m₀ z
theorem Up3.refl (x y w : Str) (m : Str → Option Value) : Up3 x y w m m := ⟨m x, m y, m w, by
  funext z
  by_cases h : z = x
  · rw [if_pos h, h]
  · rw [if_neg h]
    by_cases k : z = y
    · rw [if_pos k, k]
    · rw [if_neg k]
      by_cases j : z = w
      · rw [if_pos j, j]
      · rw [if_neg j]⟩
theorem newList_M {prog : Program} {w : World} {A : Around} {E : Value → Shared → Prop} {s : Shared} {h₀ : Heap} {L : Addr} {m : Str → Option Value} {news : List (Addr × Obj)} {vs : List Value} {Q : Value → Shared → Prop} (F : Fr h₀ L s.heap m) (N : News h₀ L s.heap news) (hz : vs.length ≤ 1000)
    (h : ∀ l h', Fr h₀ L h' m → News h₀ L h' ((l, W.listOf vs.toArray 0) :: news) → (∀ p ∈ news, p.1 < l) → Q (.ref l) { s with heap := h' }) : wpAny (model prog w) A (newList vs) Q E s :=
  newList_N F N (fun h' F' N' => h _ h' F' N' fun p hp => Heap.lt_size (N p hp).1) (Nat.le_trans hz (by rw [sizeLine_eq]; decide))
theorem comp_end_fresh {h₀ hc h' : Heap} {L I C D : Addr} {m : Str → Option Value} {s₁ : Shared} {oI oC oD : Obj} {S : List (Addr × Obj) → Prop} {rest : Value → List (Addr × Obj) → Prop} {y : Value} {tk : Nat} {all nw os : List (Addr × Obj)}
    (F : Fr h₀ L hc m) (N : News h₀ L hc all) (hk : LK hc h') (ho : ∀ p ∈ os, h'.get? p.1 = some p.2 ∧ hc.get? p.1 = none) (hI : (I, oI) ∈ all) (hC : (C, oC) ∈ all) (hD : (D, oD) ∈ all) (hs : ∀ p ∈ nw, p ∈ all)
    (off : LCg.Off3 I C D nw) (hS : S (nw ++ os)) (r : rest y (nw ++ os)) : LCg.CompEnd h₀ L m s₁ I oI C oC D oD S rest y { s₁ with heap := h', toks := tk } := by
  obtain ⟨F', N'⟩ := nw_grow F N hk ho
  have ne : ∀ p ∈ os, ∀ q ∈ all, p.1 ≠ q.1 := fun p hp q hq e => by
    have a := (ho p hp).2
    have b := (N q hq).1
    rw [e, b] at a; cases a
  refine LCg.CompEnd.intro F' N' (nw ++ os) (fun p hp => ?_) (LCg.Off3.of fun p hp => ?_) hS r
  · rcases List.mem_cons.mp hp with rfl | hp
    · exact List.mem_append_right _ hI
    · rcases List.mem_cons.mp hp with rfl | hp
      · exact List.mem_append_right _ hC
      · rcases List.mem_cons.mp hp with rfl | hp
        · exact List.mem_append_right _ hD
        · rcases List.mem_append.mp hp with hp | hp
          · exact List.mem_append_right _ (hs p hp)
          · exact List.mem_append_left _ hp
  · rcases List.mem_append.mp hp with hp | hp
    · exact off.mem p hp
    · exact ⟨ne p hp _ hI, ne p hp _ hC, ne p hp _ hD⟩
theorem ru04x0 : True := by
  k_with "assign Tuple" => ((k_here; k_dflt (refine' assign2 ?zzk1 ?zzk2 ?zzk3 ?zzk4 ?_; (case zzk1 => first | assumption | exact rfl); (case zzk2 => k_asm); (case zzk3 => k_asm); (case zzk4 => k_mem); intro _ _ _)))
  k_with "exec For Name Attribute cons nil" => ((k_here; k_dflt (refine For_at ?_)))
  k_with "exec For Name Name cons nil" => ((k_here; k_dflt (refine For_at ?_)))
  k_with "exec For Name Call cons nil" => ((k_here; k_dflt (refine For_at ?_)))
  k_with "exec For Name Tuple cons nil" => ((k_here; k_dflt (refine For_at ?_)))
  k_with "exec For Name List cons nil" => ((k_here; k_dflt (refine For_at ?_)))
  k_with "m_stop" => (with_reducible show ForAt _ _ _ _ _ _ _ _ _ _)
  k_with "m_up" => (first | exact ⟨_, by funext z; repeat' (first | rfl | split) <;> simp_all⟩ | exact ⟨_, _, by funext z; repeat' (first | rfl | split) <;> simp_all⟩ | exact ⟨_, _, _, by funext z; repeat' (first | rfl | split) <;> simp_all⟩)
  k_with "newList" => ((k_here; k_dflt (refine' newList_M ?zzk1 ?zzk2 ?zzk3 ?_; (case zzk1 => k_asm); (case zzk2 => k_asm); (case zzk3 => exact Nat.le_of_ble_eq_true rfl)); intro _ _ _ _; walk_at "t_3"))
  trivial


end P04
local macro_rules | `(tactic| walk_at "t_4") => `(tactic| (intro g0' g1'; (have FN' := nw_grow (by k_asm) (by k_asm) g0' g1'); obtain ⟨F', N'⟩ := FN'; (try dsimp only)))
local macro_rules | `(tactic| walk_at "t_5") => `(tactic| (intro g0' g1' _; (have FN' := nw_grow (by k_asm) (by k_asm) g0' g1'); obtain ⟨F', N'⟩ := FN'; (try dsimp only)))
section P05
noncomputable abbrev figs (x : Int) : List Int := List.take (x.fmod 3 + 1).toNat [(x.fdiv 3).fmod 3, (x.fdiv 9).fmod 3, (x.fdiv 27).fmod 3]
noncomputable abbrev recObjs (ps : Params) (x dx ul rl : Addr) (vs : List Value) (n : Nat) (d : Value) (t1 t2 t3 t4 : Tok) : List (Addr × Obj) :=
  [(ul, W.listOf vs.toArray n), (rl, W.listOf #[] 0), (x, instObj 59 dx), (dx, dictOf (entryD ps (.ref ul) (.ref rl) d .none t1 t2 t3 t4) 4)]
section
variable {w : World} {A : Around} {s : Shared} {mean : ExcName → Option Value} {mg mb : Str → Option Value} {Q E : Value → Shared → Prop}
set_option maxHeartbeats 4000000 in
theorem figures_ok {x : Int} {t : Tok}
    (KX : (hd.heap_39 w.params).In s.heap) (T : Top hd.view_39 LS mean mg mb s.heap) (hroom : A.depth + 10 < recursionLimit) (hh : A.handled = none)
    (hQ : ∀ D vs n h' tk, LK s.heap h' → (∀ p ∈ [(D, W.listOf vs.toArray n)], h'.get? p.1 = some p.2 ∧ s.heap.get? p.1 = none) → IntsAre vs (figs x) → Q (.ref D) { s with heap := h', toks := tk }) :
    wpAny (model PR w) A (call (.ref 227) [.int x t] []) Q E s := by
  walk_at "m_in1"
  walk_at "m_go"
  rename Fr _ _ _ _ => F9
  rename News _ _ _ _ => N9
  try dsimp only
  exact hQ _ _ _ _ _ F9.keep (nw_pos (nw_x1 N9)) (by assumption)
set_option maxHeartbeats 4000000 in
theorem record_ok {l : Addr} {vs : List Value} {ts : List Str} {v₂ : Value}
    (KX : (hd.heap_39 w.params).In s.heap) (T : Top hd.view_39 LS mean mg mb s.heap) (hroom : A.depth + 10 < recursionLimit) (hh : A.handled = none)
    (hl : s.heap.IsList l vs.toArray) (hs : StrsAre vs ts) (hn : vs.length ≤ 1000)
    (hQ : ∀ x dx ul rl n t1 t2 t3 t4 h' tk, LK s.heap h' → (∀ p ∈ recObjs w.params x dx ul rl vs n v₂ t1 t2 t3 t4, h'.get? p.1 = some p.2 ∧ s.heap.get? p.1 = none) → Q (.ref x) { s with heap := h', toks := tk }) :
    wpAny (model PR w) A (call (.ref 234) [.ref l, v₂] []) Q E s := by
  walk_at "m_in2"
  walk_at "m_go"
  rename Fr _ _ _ _ => F9
  rename News _ _ _ _ => N9
  try dsimp only
  exact hQ _ _ _ _ _ _ _ _ _ _ _ F9.keep (nw_pos (nw_x3 N9))
end
theorem ru05x0 : True := by
  k_with "call ref" => ((k_here; (with_reducible show wpAny _ _ (call (Value.ref 234) _) _ _ _); k_dflt (refine' record_ok ?zzk1 ?zzk2 ?zzkr ?zzk3 ?zzk4 ?zzk5 ?zzk6 ?_; (case zzk1 => exact Frag.In.keeps (by k_asm) (Fr.keep (by k_asm))); (case zzk2 => exact Top.keeps (by k_asm) (Fr.keep (by k_asm))); (case zzk4 => first | exact Heap.IsList.at (by assumption) (fun o e => Fr.keep (by k_asm) _ _ e) | exact News.isList (by k_asm) (by k_mem)); (case zzk5 => assumption); (case zzk3 => assumption); (case zzk6 => k_extra "m_size"); (case zzkr => (simp only [depth_in1, depth_deeper]; omega)); intro _ _ _ _ _ _ _ _ _ _ _; walk_at "t_4")))
  k_with "call ref" => ((k_here; (with_reducible show wpAny _ _ (call (Value.ref 227) _) _ _ _); k_dflt (refine' figures_ok ?zzk1 ?zzk2 ?zzkr ?zzk3 ?_; (case zzk1 => exact Frag.In.keeps (by k_asm) (Fr.keep (by k_asm))); (case zzk2 => exact Top.keeps (by k_asm) (Fr.keep (by k_asm))); (case zzk3 => assumption); (case zzkr => (simp only [depth_in1, depth_deeper]; omega)); intro _ _ _ _ _; walk_at "t_5")))
  trivial


end P05
local macro_rules | `(tactic| walk_at "t_11") => `(tactic| (intro g0' g1'; (have FN' := nw_grow (by k_asm) (by k_asm) g0' g1'); obtain ⟨F', N'⟩ := FN'; (try simp only [recObjs, List.cons_append, List.nil_append] at N'); (try dsimp only)))
section P06
noncomputable def occB (a b : Str) (k : Nat) : Bool := Txt.slice b (some (0 + (k : Int))) (some (0 + (k : Int) + (a.length : Int))) == a
noncomputable def occs (a b : Str) (n : Nat) : List Int := ((List.range n).filter (occB a b)).map fun (k : Nat) => 0 + (k : Int)
noncomputable def within (a b : Str) : Bool := !decide (occs a b ((b.length : Int) - 0).toNat = [])
theorem occs_succ_t {a b : Str} {i : Nat} (h : occB a b i = true) : occs a b (i + 1) = occs a b i ++ [0 + (i : Int)] := by
  simp [occs, List.range_succ, h]
theorem occs_succ_f {a b : Str} {i : Nat} (h : occB a b i = false) : occs a b (i + 1) = occs a b i := by
  simp [occs, List.range_succ, h]
section
variable {w : World} {A : Around} {s : Shared} {mean : ExcName → Option Value} {mg mb : Str → Option Value} {Q E : Value → Shared → Prop}
set_option maxHeartbeats 4000000 in
theorem within_ok {x y : Str} {t u : Tok} (hx : x.length ≤ 100) (hy : y.length ≤ 100)
    (KX : (hd.heap_39 w.params).In s.heap) (T : Top hd.view_39 LS mean mg mb s.heap) (hroom : A.depth + 10 < recursionLimit) (hu : A.units + 100 < cLine) (hh : A.handled = none)
    (hQ : ∀ h' tk, LK s.heap h' → Q (.bool (within (Txt.lower x) (Txt.lower y))) { s with heap := h', toks := tk }) :
    wpAny (model PR w) A (call (.ref 239) [.str x t, .str y u] []) Q E s := by
  walk_at "m_inC2"
  walk_at "m_go"
  rename News _ _ _ _ => N9
  refine restT_inv (fun i ys nw => nw = _ ∧ IntsAre ys (occs (Txt.lower x) (Txt.lower y) i)) ⟨rfl, .nil⟩ ?_ ?_
  · rintro ys nw ⟨rfl, hI⟩
    walk_at "m_go"
    rename Fr _ _ _ _ => F9
    exact hQ _ _ F9.keep
  · intro i v ys nw I oI C oC D m₂ h tk E' hi hJ09 hJ19 hC hx F N off ne
    try k_fold
    obtain ⟨t, rfl⟩ := hJ09
    obtain ⟨rfl, hI⟩ := hJ19
    clear N9
    simp only [LCg.Off3, and_true] at off
    walk_at "m_go"
    · rw [occs_succ_t (by assumption)]
      exact hI.append (.cons _ _ .nil)
    · rw [occs_succ_f (by assumption)]
      exact hI
end
theorem ru06x0 : True := by
  k_with "call ref" => ((k_here; (with_reducible show wpAny _ _ (call (Value.ref 239) _) _ _ _); k_dflt (refine' within_ok ?zzk5 ?zzk6 ?zzk1 ?zzk2 ?zzkr ?zzku ?zzk3 ?_; (case zzk1 => exact Frag.In.keeps (by k_asm) (Fr.keep (by k_asm))); (case zzk2 => exact Top.keeps (by k_asm) (Fr.keep (by k_asm))); (case zzk3 => assumption); (case zzk5 => first | assumption | omega); (case zzk6 => first | assumption | omega); (case zzkr => (simp only [depth_in1, depth_deeper]; omega)); (case zzku => k_units); intro _ _; walk_at "t_6")))
  trivial


end P06
section P07
noncomputable def inn (a b : Str) : Bool := !(Builtin.Str.occurrences b a 0 b.length 1).isEmpty
section
variable {w : World} {A : Around} {s : Shared} {mean : ExcName → Option Value} {mg mb : Str → Option Value} {Q E : Value → Shared → Prop} {h₀ : Heap}
set_option maxHeartbeats 4000000 in
theorem applies_ok {x y : Str} {t u : Tok} {e dx ul rl : Addr} {n : Nat} {d : Value} {t1 t2 t3 t4 : Tok} (hx : x.length ≤ 100) (hy : y.length ≤ 100) (hy' : Txt.split y (Str.ofString "/") = [y]) (hx' : (x == Str.ofString "*") = false)
    (KX : (hd.heap_39 w.params).In h₀) (T : Top hd.view_39 LS mean mg mb h₀) (hroom : A.depth + 10 < recursionLimit) (hu : A.units + 100 < cLine) (hh : A.handled = none)
    (hk : LK h₀ s.heap) (ho : ∀ p ∈ recObjs w.params e dx ul rl [.str x t] n d t1 t2 t3 t4, s.heap.get? p.1 = some p.2 ∧ h₀.get? p.1 = none)
    (hQ : ∀ h' tk, LK s.heap h' → Q (.bool (inn (Txt.lower x) (Txt.lower y))) { s with heap := h', toks := tk }) :
    wpAny (model PR w) A (call (.ref 49) [.ref e, .str y u] []) Q E s := by
  refine call_freezeX (X := [ul, rl, e, dx]) (news := recObjs w.params e dx ul rl [.str x t] n d t1 t2 t3 t4) (binds := [(Str.ofString "self", .ref e), (Str.ofString "useragent", .str y u)]) KX T hk ?_ ?_ (by k_is) (by k_is) ?_ (BindsTo.of_eq rfl) (locs rfl) ?_ rfl rfl rfl (by decide)
  · intro q hq
    simp only [List.mem_cons, List.not_mem_nil, or_false] at hq
    rcases hq with rfl | rfl | rfl | rfl
    · exact (ho _ (.head _)).2
    · exact (ho _ (.tail _ (.head _))).2
    · exact (ho _ (.tail _ (.tail _ (.head _)))).2
    · exact (ho _ (.tail _ (.tail _ (.tail _ (.head _))))).2
  · intro q hq
    refine ⟨(ho q hq).1, ?_⟩
    simp only [List.mem_cons, List.not_mem_nil, or_false] at hq ⊢
    rcases hq with rfl | rfl | rfl | rfl <;> simp
  · omega
  intro g L' h₁ KX' T' hg hlt F N
  clear hlt
  unfold recObjs at N
  walk_at "m_go"
  rename_i yy tt hget
  rename List.map _ _ = Txt.split _ _ => hl9
  rw [hl9, hy'] at hget
  obtain rfl : y = yy := Option.some.inj hget
  clear hget
  walk_at "m_go"
  rename Fr _ _ _ _ => F9
  rename News _ _ _ _ => N9
  walk_at "m_stop"
  refine ForAt.list (its := #[.str x t]) (by assumption) F9 N9 (fun m₀ nw₀ i m nw => nw = nw₀ ∧ Up1 (Str.ofString "agent") m₀ m ∧ (0 < i → inn (Txt.lower x) (Txt.lower y) = false)) ?_ ⟨rfl, Up1.refl _ _, fun h => absurd h (Nat.lt_irrefl _)⟩ ?_ ?_
  · rintro i m nw ⟨rfl, _⟩
    exact .inr ⟨_, by k_mem, rfl, _, rfl⟩
  · intro I i v m₁ nw h tk oI E' hi hv hJ09 off F N
    try k_fold
    obtain ⟨rfl, ⟨a, rfl⟩, hf⟩ := hJ09
    clear F9 N9
    obtain rfl : i = 0 := Nat.lt_one_iff.mp hi
    obtain rfl : .str x t = v := Option.some.inj hv
    walk_at "m_go"
    · rename Fr _ _ _ _ => F9
      rename News _ _ _ _ => N9
      rename List.isEmpty _ = _ => hin
      exact TurnEnd.intro F9 N9 off ⟨rfl, by walk_at "m_up", fun _ => by simp [inn, hin]⟩
    · rename Fr _ _ _ _ => F9
      rename News _ _ _ _ => N9
      rename List.isEmpty _ = _ => hin
      have hq := fun h' tk hk => hQ h' tk hk
      simp only [inn, hin] at hq
      exact hq _ _ (lk_ro rfl (fun p hp => (ho p hp).1) hg F9 N9 fun p hp => .tail _ (.tail _ hp))
    · exfalso
      rename (_ != _) = _ => hne
      simp [bne, hx'] at hne
  · intro m₁ nw h tk hJ09 F N
    try k_fold
    obtain ⟨rfl, ⟨a, rfl⟩, hf⟩ := hJ09
    walk_at "m_go"
    have hq := fun h' tk hk => hQ h' tk hk
    rw [hf Nat.one_pos] at hq
    exact hq _ _ (lk_ro rfl (fun p hp => (ho p hp).1) hg F N fun p hp => .tail _ hp)
end

end P07
section P08
theorem bs_lay : ∀ ns : List Bool, PyData.canLayAll0 (ns.map PyData.bool) = true
  | [] => rfl
  | _ :: r => by simp [PyData.canLayAll0, PyData.canLay0, bs_lay r]
theorem bs_depth : ∀ ns : List Bool, PyData.depthAll (ns.map PyData.bool) = 0
  | [] => rfl
  | _ :: r => by simp [PyData.depthAll, PyData.depth, bs_depth r]
theorem bs_shaped (ns : List Bool) : SeqAt.shaped (.list (ns.map PyData.bool)) = true := by
  simp [SeqAt.shaped, PyData.canLay0, PyData.depth, bs_lay, bs_depth]
theorem bs_sameAll : ∀ ns ms : List Bool, PySem.Spec.sameAll (ns.map PyData.bool) (ms.map PyData.bool) = decide (ns = ms)
  | [], [] => by simp [PySem.Spec.sameAll]
  | [], _ :: _ => by simp [PySem.Spec.sameAll]
  | _ :: _, [] => by simp [PySem.Spec.sameAll]
  | a :: r, b :: t => by
    simp only [List.map_cons, PySem.Spec.sameAll, PySem.Spec.same, bs_sameAll r t]
    by_cases h : a = b <;> by_cases h' : r = t <;> simp [h, h']
theorem bs_same (ns ms : List Bool) : PySem.Spec.same (.list (ns.map PyData.bool)) (.list (ms.map PyData.bool)) = decide (ns = ms) := by
  simp only [PySem.Spec.same]; exact bs_sameAll ns ms
theorem bs_carried : ∀ {vs : List Value} {ns : List Bool}, BoolsAre vs ns → CarriedAll vs (ns.map PyData.bool)
  | _, _, .nil => .nil
  | _, _, .cons _ r => .cons (.bool _) (bs_carried r)
theorem ss_sameAll : ∀ ns ms : List Str, PySem.Spec.sameAll (ns.map PyData.str) (ms.map PyData.str) = decide (ns = ms)
  | [], [] => by simp [PySem.Spec.sameAll]
  | [], _ :: _ => by simp [PySem.Spec.sameAll]
  | _ :: _, [] => by simp [PySem.Spec.sameAll]
  | a :: r, b :: t => by
    simp only [List.map_cons, PySem.Spec.sameAll, PySem.Spec.same, ss_sameAll r t]
    by_cases h : a = b <;> by_cases h' : r = t <;> simp [h, h']
theorem ss_same (ns ms : List Str) : PySem.Spec.same (.list (ns.map PyData.str)) (.list (ms.map PyData.str)) = decide (ns = ms) := by
  simp only [PySem.Spec.same]; exact ss_sameAll ns ms
theorem ss_carried : ∀ {vs : List Value} {ns : List Str}, StrsAre vs ns → CarriedAll vs (ns.map PyData.str)
  | _, _, .nil => .nil
  | _, _, .cons _ _ r => .cons (.str _ _) (ss_carried r)
theorem ss_lay : ∀ ns : List Str, (∀ x ∈ ns, PyData.strOk x = true) → PyData.canLayAll0 (ns.map PyData.str) = true
  | [], _ => rfl
  | x :: r, h => by
    simp only [List.map_cons, PyData.canLayAll0, PyData.canLay0, ss_lay r fun y hy => h y (.tail _ hy), Bool.and_true]
    exact h x (.head _)
theorem ss_depth : ∀ ns : List Str, PyData.depthAll (ns.map PyData.str) = 0
  | [] => rfl
  | _ :: r => by simp [PyData.depthAll, PyData.depth, ss_depth r]
theorem ss_shaped (ns : List Str) (h : ∀ x ∈ ns, PyData.strOk x = true) : SeqAt.shaped (.list (ns.map PyData.str)) = true := by
  simp [SeqAt.shaped, PyData.canLay0, PyData.depth, ss_lay ns h, ss_depth]
theorem bs_append : ∀ {vs us : List Value} {as bs : List Bool}, BoolsAre vs as → BoolsAre us bs → BoolsAre (vs ++ us) (as ++ bs) := kbo_app
theorem ss_append : ∀ {vs us : List Value} {as bs : List Str}, StrsAre vs as → StrsAre us bs → StrsAre (vs ++ us) (as ++ bs)
  | _, _, _, _, .nil, h => h
  | _, _, _, _, .cons y t r, h => .cons y t (ss_append r h)
theorem ss_length : ∀ {vs : List Value} {as : List Str}, StrsAre vs as → vs.length = as.length
  | _, _, .nil => rfl
  | _, _, .cons _ _ r => by simp [ss_length r]
theorem ss_at : ∀ {vs : List Value} {as : List Str}, StrsAre vs as → ∀ (i : Nat) (v : Value), vs[i]? = some v → ∃ x t, as[i]? = some x ∧ v = .str x t
  | _, _, .nil, i, v, h => by simp at h
  | _, _, .cons y t r, 0, v, h => ⟨y, t, rfl, by simpa using h.symm⟩
  | _, _, .cons y t r, i + 1, v, h => by simpa using ss_at r i v (by simpa using h)
theorem ss_get : ∀ {vs : List Value} {as : List Str}, StrsAre vs as → ∀ (i : Nat) (x : Str), as[i]? = some x → ∃ t, vs[i]? = some (.str x t)
  | _, _, .nil, i, v, h => by simp at h
  | _, _, .cons y t r, 0, v, h => ⟨t, by simpa using h⟩
  | _, _, .cons y t r, i + 1, v, h => by simpa using ss_get r i v (by simpa using h)
theorem bools_step {α : Type} {zs : List Value} {ts : List α} {f : α → Bool} {j : Nat} {a : α} {b : Bool} (hz : BoolsAre zs ((ts.take j).map f)) (ha : ts[j]? = some a) (hb : b = f a) : BoolsAre (zs ++ [.bool b]) ((ts.take (j + 1)).map f) := by
  rw [List.take_add_one, ha, List.map_append, hb]
  exact bs_append hz (.cons _ .nil)
theorem bools_all {α : Type} {zs : List Value} {ts : List α} {f : α → Bool} {n : Nat} (hz : BoolsAre zs ((ts.take n).map f)) (hn : n = ts.length) : BoolsAre zs (ts.map f) := by
  rw [hn, List.take_length] at hz; exact hz
theorem bools_at {α : Type} {ys : List Value} {ts : List α} {f : α → Bool} (hb : BoolsAre ys (ts.map f)) {j : Nat} {a : α} (ha : ts[j]? = some a) : ys[j]? = some (.bool (f a)) := by
  have h1 : j < ts.length := by
    rcases Nat.lt_or_ge j ts.length with h | h
    · exact h
    · rw [List.getElem?_eq_none h] at ha; cases ha
  have h2 : j < ys.length := by rw [BoolsAre.length hb, List.length_map]; exact h1
  obtain ⟨b, hb1, hb2⟩ := BoolsAre.get hb j ys[j] (by simp [h2])
  rw [List.getElem?_map, ha] at hb1
  rw [List.getElem?_eq_getElem h2, hb2, ← Option.some.inj hb1]
section
variable {prog : Program} {w : World} {A : Around} {E : Value → Shared → Prop} {s : Shared} {a b : Addr} {xs ys : List Value} {Q : Value → Shared → Prop}
theorem eq_bools {ns ms : List Bool} (ha : s.heap.IsList a xs.toArray) (hb : s.heap.IsList b ys.toArray) (hi : BoolsAre xs ns) (hj : BoolsAre ys ms) (hu : A.units + 64 < cLine) (h : Q (.bool (decide (ns = ms))) s) :
    wpAny (model prog w) A (compareOp .Eq (.ref a) (.ref b)) Q E s :=
  eq_dataH_same (reads_newData ha (bs_carried hi)) (reads_newData hb (bs_carried hj)) (bs_shaped _) (bs_shaped _) hu (SeqAt.noMix_of_shape (.list .bool) rfl _ _ (list_map_has fun _ => rfl) (list_map_has fun _ => rfl)) (by rw [bs_same]; exact h)
theorem ne_bools {ns ms : List Bool} (ha : s.heap.IsList a xs.toArray) (hb : s.heap.IsList b ys.toArray) (hi : BoolsAre xs ns) (hj : BoolsAre ys ms) (hu : A.units + 64 < cLine) (h : Q (.bool (!decide (ns = ms))) s) :
    wpAny (model prog w) A (compareOp .NotEq (.ref a) (.ref b)) Q E s :=
  ne_dataH_same (reads_newData ha (bs_carried hi)) (reads_newData hb (bs_carried hj)) (bs_shaped _) (bs_shaped _) hu (SeqAt.noMix_of_shape (.list .bool) rfl _ _ (list_map_has fun _ => rfl) (list_map_has fun _ => rfl)) (by rw [bs_same]; exact h)
theorem eq_strs {ns ms : List Str} (ha : s.heap.IsList a xs.toArray) (hb : s.heap.IsList b ys.toArray) (hi : StrsAre xs ns) (hj : StrsAre ys ms) (hn : ∀ x ∈ ns, PyData.strOk x = true) (hm : ∀ x ∈ ms, PyData.strOk x = true) (hu : A.units + 64 < cLine) (h : Q (.bool (decide (ns = ms))) s) :
    wpAny (model prog w) A (compareOp .Eq (.ref a) (.ref b)) Q E s :=
  eq_dataH_same (reads_newData ha (ss_carried hi)) (reads_newData hb (ss_carried hj)) (ss_shaped _ hn) (ss_shaped _ hm) hu (SeqAt.noMix_of_shape (.list .str) rfl _ _ (list_map_has fun _ => rfl) (list_map_has fun _ => rfl)) (by rw [ss_same]; exact h)
theorem ne_strs {ns ms : List Str} (ha : s.heap.IsList a xs.toArray) (hb : s.heap.IsList b ys.toArray) (hi : StrsAre xs ns) (hj : StrsAre ys ms) (hn : ∀ x ∈ ns, PyData.strOk x = true) (hm : ∀ x ∈ ms, PyData.strOk x = true) (hu : A.units + 64 < cLine) (h : Q (.bool (!decide (ns = ms))) s) :
    wpAny (model prog w) A (compareOp .NotEq (.ref a) (.ref b)) Q E s :=
  ne_dataH_same (reads_newData ha (ss_carried hi)) (reads_newData hb (ss_carried hj)) (ss_shaped _ hn) (ss_shaped _ hm) hu (SeqAt.noMix_of_shape (.list .str) rfl _ _ (list_map_has fun _ => rfl) (list_map_has fun _ => rfl)) (by rw [ss_same]; exact h)

theorem item_list {value slice : PySem.Expr} {its : Array Value} {k : Int} {u : Tok} {x : Value} (hl : s.heap.IsList a its) (h0 : 0 ≤ k) (hf : k < 2 ^ 63) (hx : its[k.toNat]? = some x) (h : Q x s)
    (hs : subscripted slice false (.ref a) (.int k u) = operate [.ref a, .int k u] (getItem (.ref a) (.int k u)) := by with_unfolding_all rfl) :
    wpAny (model prog w) A (subscriptTail value slice (.ref a) (.int k u)) Q E s :=
  tail_any hl.typeIs slot_list_getitem.lookup (wpAny_getItem_list hl h0 hf hx h) hs
end
theorem ru08x0 : True := by
  k_with "compareOp NotEq ref ref" => ((k_here; k_dflt (first | refine ne_bools (by is_list) (by is_list) (by assumption) (by assumption) (by k_units) ?_ | refine ne_strs (by is_list) (by is_list) (by assumption) (by assumption) (by assumption) (by assumption) (by k_units) ?_)))
  k_with "compareOp Eq ref ref" => ((k_here; k_dflt (first | refine eq_bools (by is_list) (by is_list) (by assumption) (by assumption) (by k_units) ?_ | refine eq_strs (by is_list) (by is_list) (by assumption) (by assumption) (by assumption) (by assumption) (by k_units) ?_)))
  k_with "subscriptTail Name Name ref int" => ((k_here; k_dflt (refine' item_list ?zzk1 ?zzk2 ?zzk3 ?zzk4 ?_ ?zzk6; (case zzk6 => with_unfolding_all rfl); (case zzk1 => is_list); (case zzk4 => assumption); (case zzk2 => first | exact z_ge _ | omega); (case zzk3 => first | ((with_reducible refine z_63 ?_); omega) | omega))))
  trivial


end P08
section P09
structure RecD where
  x : Addr
  dx : Addr
  ul : Addr
  rl : Addr
  n : Nat
  tt : Tok
  t1 : Tok
  t2 : Tok
  t3 : Tok
  t4 : Tok
noncomputable abbrev recL (ps : Params) (r : RecD) (t : Str) : List (Addr × Obj) := recObjs ps r.x r.dx r.ul r.rl [.str t r.tt] r.n .none r.t1 r.t2 r.t3 r.t4
noncomputable def recsL (ps : Params) (rs : List (RecD × Str)) : List (Addr × Obj) := rs.flatMap fun p => recL ps p.1 p.2
noncomputable abbrev recVs (rs : List (RecD × Str)) : List Value := rs.map fun p => .ref p.1.x
structure RowD where
  a : Addr
  vs : List Value
  n : Nat
noncomputable abbrev rowsL (rows : List RowD) : List (Addr × Obj) := rows.map fun r => (r.a, W.listOf r.vs.toArray r.n)
noncomputable abbrev rowVs (rows : List RowD) : List Value := rows.map fun r => .ref r.a
noncomputable def aheadB (ts : List Str) (t : Str) (k : Nat) : Bool := inn (Txt.lower (ts.getD k Str.empty)) (Txt.lower t) && decide (((ts.getD k Str.empty).length : Int) < (t.length : Int))
noncomputable def aheadN (ts : List Str) (t : Str) (n : Nat) : List Int := ((List.range n).filter (aheadB ts t)).map fun (k : Nat) => 0 + (k : Int)
theorem aheadN_t {ts : List Str} {t a : Str} {i : Nat} (ha : ts[i]? = some a) (h1 : inn (Txt.lower a) (Txt.lower t) = true) (h2 : (a.length : Int) < (t.length : Int)) : aheadN ts t (i + 1) = aheadN ts t i ++ [0 + (i : Int)] := by
  have hb : aheadB ts t i = true := by
    unfold aheadB; rw [List.getD_eq_getElem?_getD, ha]; simp only [Option.getD_some, h1, Bool.true_and]; exact decide_eq_true h2
  simp [aheadN, List.range_succ, hb]
theorem aheadN_f1 {ts : List Str} {t a : Str} {i : Nat} (ha : ts[i]? = some a) (h1 : inn (Txt.lower a) (Txt.lower t) = false) : aheadN ts t (i + 1) = aheadN ts t i := by
  have hb : aheadB ts t i = false := by
    unfold aheadB; rw [List.getD_eq_getElem?_getD, ha]; simp only [Option.getD_some, h1, Bool.false_and]
  simp [aheadN, List.range_succ, hb]
theorem aheadN_f2 {ts : List Str} {t a : Str} {i : Nat} (ha : ts[i]? = some a) (h2 : ¬ (a.length : Int) < (t.length : Int)) : aheadN ts t (i + 1) = aheadN ts t i := by
  have hb : aheadB ts t i = false := by
    unfold aheadB; rw [List.getD_eq_getElem?_getD, ha]; simp only [Option.getD_some, decide_eq_false h2, Bool.and_false]
  simp [aheadN, List.range_succ, hb]
theorem recs_ne_cell {h₀ h : Heap} {L : Addr} {nw : List (Addr × Obj)} {ps : Params} {rs : List (RecD × Str)} {c : Addr} {oc : Obj} {v : Option Value} (N : News h₀ L h nw) (hc : (c, oc) ∈ nw) (hd : oc.data = .cell v) (hs : ∀ p ∈ recsL ps rs, p ∈ nw) : ∀ p ∈ recsL ps rs, p.1 ≠ c := by
  intro p hp e
  have h1 := (N _ (hs p hp)).1
  rw [e, (N _ hc).1] at h1
  have h2 : oc = p.2 := Option.some.inj h1
  obtain ⟨r, _, hr⟩ := List.mem_flatMap.mp hp
  simp only [List.mem_cons, List.not_mem_nil, or_false] at hr
  rcases hr with rfl | rfl | rfl | rfl <;> (rw [h2] at hd; cases hd)
theorem allLt_mem {d : Addr} : ∀ {l : List (Addr × Obj)}, AllLt d l → ∀ p ∈ l, p.1 ≠ d
  | [], _, _, h => nomatch h
  | _ :: _, h, p, hp => by
    rcases List.mem_cons.mp hp with rfl | hp
    · exact Nat.ne_of_lt h.1
    · exact allLt_mem h.2 p hp
section
variable {w : World} {A : Around} {s : Shared} {mean : ExcName → Option Value} {mg mb : Str → Option Value} {Q E : Value → Shared → Prop}
set_option maxHeartbeats 4000000 in
theorem ahead_ok {l : Addr} {vs : List Value} {ts : List Str}
    (KX : (hd.heap_39 w.params).In s.heap) (T : Top hd.view_39 LS mean mg mb s.heap) (hroom : A.depth + 30 < recursionLimit) (hu : A.units + 300 < cLine) (hh : A.handled = none)
    (hl : s.heap.IsList l vs.toArray) (hs : StrsAre vs ts) (hn : vs.length ≤ 10) (hT : ∀ t ∈ ts, t.length ≤ 100 ∧ Txt.split t (Str.ofString "/") = [t] ∧ (t == Str.ofString "*") = false)
    (hE : ∀ a ∈ ts, ∀ b ∈ ts, inn (Txt.lower a) (Txt.lower b) = within (Txt.lower a) (Txt.lower b))
    (hQ : ∀ la rows n h' tk, LK s.heap h' → rows.length = ts.length → Paired (fun (r : RowD) ns => IntsAre r.vs ns) rows (ts.map fun t => aheadN ts t ts.length) → (∀ p ∈ (la, W.listOf (rowVs rows).toArray n) :: rowsL rows, h'.get? p.1 = some p.2 ∧ s.heap.get? p.1 = none) → Q (.ref la) { s with heap := h', toks := tk }) :
    wpAny (model PR w) A (call (.ref 244) [.ref l] []) Q E s := by
  have htl : ts.length ≤ 10 := by rw [← ss_length hs]; exact hn
  have hvl : vs.length = ts.length := ss_length hs
  have hget := ss_get hs
  have hsat := ss_at hs
  walk_at "m_inC1"
  walk_at "m_go"
  rename News _ _ _ _ => N9
  refine rest_inv (fun i ys nw => ∃ rs : List (RecD × Str), rs.map (·.2) = ts.take i ∧ ys = recVs rs ∧ nw = _ ++ recsL w.params rs) ⟨[], rfl, rfl, (List.append_nil _).symm⟩ ?_ ?_
  · rintro ys nw ⟨rs, hrs, rfl, rfl⟩
    walk_at "m_go"
    rename_i L0 h1 tk1 o1 o2 o3 d1 d2 d3 g1 D0 h2 tk2 off1 la h3 lt1 h4 F9 N9
    walk_at "m_stop"
    have hrl : rs.length = ts.length := by
      have := congrArg List.length hrs
      rw [List.length_map, List.length_take, List.size_toArray, hvl, Nat.min_self] at this
      exact this
    simp only [List.cons_append, List.nil_append, LCg.Off1] at off1
    have q3 := recs_ne_cell (ps := w.params) (rs := rs) N9 (.tail _ (.tail _ (.head _))) d1 (fun p hp => .tail _ (.tail _ (.tail _ (.tail _ (.tail _ hp)))))
    have q2 := recs_ne_cell (ps := w.params) (rs := rs) N9 (.tail _ (.tail _ (.tail _ (.head _)))) d2 (fun p hp => .tail _ (.tail _ (.tail _ (.tail _ (.tail _ hp)))))
    have qa := allLt_mem lt1.2.2.2.2
    refine ForAt.list (by assumption) F9 N9 (fun m₀ nw₀ i m nw => m = m₀ ∧ ∃ (rows : List RowD) (oa ob : Obj) (va vb : Option Value), rows.length = i ∧ Paired (fun (r : RowD) ns => IntsAre r.vs ns) rows ((ts.take i).map fun t => aheadN ts t ts.length) ∧ oa.data = .cell va ∧ ob.data = .cell vb ∧
      (∀ p ∈ rowsL rows, p.1 ≠ la ∧ p.1 ≠ L0 + 1 + 1 + 1 ∧ p.1 ≠ L0 + 1 + 1) ∧ nw = (la, W.listOf (rowVs rows).toArray i) :: (D0, LCg.lst (recVs rs)) :: (L0 + 1 + 1 + 1, oa) :: (L0 + 1 + 1, ob) :: (L0 + 1, o3) :: (recsL w.params rs ++ rowsL rows))
      (fun _ _ _ _ => .inl hl) ⟨rfl, [], o1, o2, _, _, rfl, .nil, d1, d2, (fun _ h => nomatch h), by simp⟩ ?_ ?_
    · intro I i v m₁ nw h tk oI E' hi hv hJ09 off F N
      try k_fold
      obtain ⟨rfl, rows, oa, ob, va, vb, hlen, hrows, hoa, hob, hoff, rfl⟩ := hJ09
      clear F9 N9
      obtain ⟨t, tt, ht, rfl⟩ := hsat i v (by simpa using hv)
      have ht' := hT t (List.mem_of_getElem? ht)
      have hlt := ht'.1
      have f1 : @Ne Nat la I := off _ (.head _)
      have f2 : @Ne Nat D0 I := off _ (.tail _ (.head _))
      have f3 : @Ne Nat (L0 + 1 + 1 + 1) I := off _ (.tail _ (.tail _ (.head _)))
      have f4 : @Ne Nat (L0 + 1 + 1) I := off _ (.tail _ (.tail _ (.tail _ (.head _))))
      have f5 : @Ne Nat (L0 + 1) I := off _ (.tail _ (.tail _ (.tail _ (.tail _ (.head _)))))
      have t1 : ∀ p ∈ recsL w.params rs ++ rowsL rows, p.1 ≠ la := fun p hp => (List.mem_append.mp hp).elim (qa p) fun h => (hoff p h).1
      have t2 : ∀ p ∈ recsL w.params rs ++ rowsL rows, p.1 ≠ L0 + 1 + 1 + 1 := fun p hp => (List.mem_append.mp hp).elim (q3 p) fun h => (hoff p h).2.1
      have t3 : ∀ p ∈ recsL w.params rs ++ rowsL rows, p.1 ≠ L0 + 1 + 1 := fun p hp => (List.mem_append.mp hp).elim (q2 p) fun h => (hoff p h).2.2
      walk_at "m_go"
      walk_at "m_stop"
      rename Fr _ _ _ _ => F9
      rename News _ _ _ _ => N9
      rename _ = Data.cell (some (Value.str _ _)) => d4
      refine rest_inv (fun i ys nw => nw = _ ∧ BoolsAre ys ((ts.take i).map fun a => inn (Txt.lower a) (Txt.lower t))) ⟨rfl, .nil⟩ ?_ ?_
      · rintro ys nw ⟨rfl, hb⟩
        have hb0 := hb
        rw [List.size_toArray, List.length_map, hrl, List.take_length] at hb
        have hyl : ys.length = ts.length := by rw [BoolsAre.length hb, List.length_map]
        walk_at "m_go"
        walk_at "m_stop"
        rename Fr _ _ _ _ => F9
        rename News _ _ _ _ => N9
        rename _ = Data.cell (some (Value.ref _)) => d3'
        have hlen' : ys.toArray.size = ts.length := by rw [List.size_toArray]; exact hyl
        have hat : ∀ (j : Nat) (v : Value), ys.toArray[j]? = some v → ∃ a, ts[j]? = some a ∧ v = Value.bool (inn (Txt.lower a) (Txt.lower t)) := by
          intro j v hv
          obtain ⟨b, h1, h2⟩ := BoolsAre.get hb j v (by simpa using hv)
          rw [List.getElem?_map] at h1
          cases hq : ts[j]? with
          | none => rw [hq] at h1; cases h1
          | some a => rw [hq] at h1; exact ⟨a, rfl, by rw [h2, ← Option.some.inj h1]⟩
        have heq : (ts.map fun a => inn (Txt.lower a) (Txt.lower t)) = ts.map fun a => within (Txt.lower a) (Txt.lower t) := List.map_congr_left fun a ha => hE a ha t (List.mem_of_getElem? ht)
        have heq2 : (ts.map fun a => !inn (Txt.lower a) (Txt.lower t)) = ts.map fun a => !within (Txt.lower a) (Txt.lower t) := List.map_congr_left fun a ha => congrArg _ (hE a ha t (List.mem_of_getElem? ht))
        refine rest_inv (fun i zs nw => nw = _ ∧ BoolsAre zs ((ts.take i).map fun a => inn (Txt.lower a) (Txt.lower t))) ⟨rfl, .nil⟩ ?_ ?_
        · rintro zs nw ⟨rfl, hz⟩
          replace hz := bools_all hz hlen'
          walk_at "m_go"
          walk_at "m_stop"
          rename (_ ≠ _ ∧ _) => oo
          clear oo
          rename Fr _ _ _ _ => F9
          rename News _ _ _ _ => N9
          refine rest_inv (fun i us nw => nw = _ ∧ BoolsAre us ((ts.take i).map fun a => within (Txt.lower a) (Txt.lower t))) ⟨rfl, .nil⟩ ?_ ?_
          · rintro us nw ⟨rfl, hu'⟩
            replace hu' := bools_all hu' (by rw [List.size_toArray]; exact hvl)
            walk_at "m_go"
            walk_at "m_stop"
            rename (_ ≠ _ ∧ _) => oo
            clear oo
            rename Fr _ _ _ _ => F9
            rename News _ _ _ _ => N9
            refine rest_inv (fun i zs nw => nw = _ ∧ BoolsAre zs ((ts.take i).map fun a => !inn (Txt.lower a) (Txt.lower t))) ⟨rfl, .nil⟩ ?_ ?_
            · rintro zs2 nw ⟨rfl, hz2⟩
              replace hz2 := bools_all hz2 hlen'
              walk_at "m_go"
              walk_at "m_stop"
              rename (_ ≠ _ ∧ _) => oo
              clear oo
              rename Fr _ _ _ _ => F9
              rename News _ _ _ _ => N9
              refine rest_inv (fun i us nw => nw = _ ∧ BoolsAre us ((ts.take i).map fun a => !within (Txt.lower a) (Txt.lower t))) ⟨rfl, .nil⟩ ?_ ?_
              · rintro us2 nw ⟨rfl, hu2⟩
                replace hu2 := bools_all hu2 (by rw [List.size_toArray]; exact hvl)
                walk_at "m_go"
                walk_at "m_stop"
                rename (_ ≠ _ ∧ _) => oo
                clear oo
                rename Fr _ _ _ _ => F9
                rename News _ _ _ _ => N9
                refine restT_inv (fun i us nw => nw = _ ∧ IntsAre us (aheadN ts t i)) ⟨rfl, .nil⟩ ?_ ?_
                · rintro us3 nw ⟨rfl, hu3⟩
                  replace hu3 : IntsAre us3 (aheadN ts t ts.length) := by
                    rw [z_nt ts.length] at hu3; exact hu3
                  intro D9 h9 tk9 F8 N8 o8
                  have o7 := off1_mem o8
                  have e1 : @Ne Nat la D9 := o7 _ (.tail _ (.tail _ (.tail _ (.tail _ (.tail _ (.tail _ (.head _)))))))
                  have e2 : @Ne Nat I D9 := o7 _ (.tail _ (.tail _ (.tail _ (.tail _ (.tail _ (.head _))))))
                  have e3 : @Ne Nat (L0 + 1 + 1 + 1) D9 := o7 _ (.tail _ (.tail _ (.tail _ (.tail _ (.tail _ (.tail _ (.tail _ (.tail _ (.head _)))))))))
                  have e4 : @Ne Nat (L0 + 1 + 1) D9 := o7 _ (.tail _ (.tail _ (.tail _ (.tail _ (.tail _ (.tail _ (.tail _ (.tail _ (.tail _ (.head _))))))))))
                  have N7 := nw_cons (nw_tl (nw_tl (nw_tl (nw_tl (nw_tl (nw_tl N8)))))) (N8 _ (.head _)).1 (N8 _ (.head _)).2.1 (N8 _ (.head _)).2.2
                  clear N8 o8 o7 N9 F9
                  walk_at "m_go"
                  rename Fr _ _ _ _ => F7
                  rename News _ _ _ _ => N6
                  have hpush : (rowVs (rows ++ [⟨D9, us3, us3.length⟩])).toArray = (rowVs rows).toArray.push (.ref D9) := by simp [rowVs]
                  have hrw : rowsL (rows ++ [⟨D9, us3, us3.length⟩]) = rowsL rows ++ [(D9, LCg.lst us3)] := by simp [rowsL]
                  refine TurnEnd.intro (nw' := (la, W.listOf (rowVs (rows ++ [⟨D9, us3, us3.length⟩])).toArray (i + 1)) :: (D0, LCg.lst (recVs rs)) :: (L0 + 1 + 1 + 1, _) :: (L0 + 1 + 1, _) :: (L0 + 1, o3) :: (recsL w.params rs ++ rowsL (rows ++ [⟨D9, us3, us3.length⟩]))) F7 (nw_sub N6 ?_) ?_ ⟨rfl, rows ++ [⟨D9, us3, us3.length⟩], _, _, _, _, ?_, ?_, d3', d4, ?_, rfl⟩
                  · refine List.forall_mem_cons.mpr ⟨by k_mem, List.forall_mem_cons.mpr ⟨by rw [hpush]; k_mem, List.forall_mem_cons.mpr ⟨by k_mem, List.forall_mem_cons.mpr ⟨by k_mem, List.forall_mem_cons.mpr ⟨by k_mem, List.forall_mem_cons.mpr ⟨by k_mem, fun p hp => ?_⟩⟩⟩⟩⟩⟩
                    rw [hrw, ← List.append_assoc] at hp
                    rcases List.mem_append.mp hp with hp | hp
                    · exact .tail _ (.tail _ (.tail _ (.tail _ (.tail _ (.tail _ (.tail _ hp))))))
                    · rw [List.mem_singleton.mp hp]; exact .head _
                  · refine List.forall_mem_cons.mpr ⟨f1, List.forall_mem_cons.mpr ⟨f2, List.forall_mem_cons.mpr ⟨f3, List.forall_mem_cons.mpr ⟨f4, List.forall_mem_cons.mpr ⟨f5, fun p hp => ?_⟩⟩⟩⟩⟩
                    rw [hrw, ← List.append_assoc] at hp
                    rcases List.mem_append.mp hp with hp | hp
                    · exact off p (.tail _ (.tail _ (.tail _ (.tail _ (.tail _ hp)))))
                    · rw [List.mem_singleton.mp hp]; exact Ne.symm e2
                  · rw [List.length_append, hlen]; rfl
                  · rw [List.take_add_one, ht, List.map_append]; exact Paired.snoc hrows hu3
                  · intro p hp
                    rw [hrw] at hp
                    rcases List.mem_append.mp hp with hp | hp
                    · exact hoff p hp
                    · rw [List.mem_singleton.mp hp]; exact ⟨Ne.symm e1, Ne.symm e3, Ne.symm e4⟩
                · intro j v us nw I5 oI5 C oC D m₂ h tk E' hj hJ09 hJ19 hC hx F N off5 ne5
                  try k_fold
                  obtain ⟨tv, rfl⟩ := hJ09
                  obtain ⟨rfl, hz⟩ := hJ19
                  clear N9
                  obtain ⟨a, ha⟩ : ∃ a, ts[j]? = some a := ⟨ts[j], by rw [List.getElem?_eq_getElem]⟩
                  have hA : ys.toArray[(0 + (j : Int)).toNat]? = some (.bool (inn (Txt.lower a) (Txt.lower t))) := by
                    simpa using bools_at hb ha
                  have hal := (hT a (List.mem_of_getElem? ha)).1
                  obtain ⟨ta, hB'⟩ := hget j a ha
                  have hB : vs.toArray[(0 + (j : Int)).toNat]? = some (.str a ta) := by simpa using hB'
                  walk_at "m_go"
                  · rename Fr _ _ _ _ => F8
                    rename News _ _ _ _ => N8
                    exact LCg.CompEnd.intro F8 N8 _ (fun p hp => hp) off5 trivial ⟨rfl, by rw [aheadN_t ha (by assumption) (by assumption)]; exact hz.append (.cons _ _ .nil)⟩
                  · rename Fr _ _ _ _ => F8
                    rename News _ _ _ _ => N8
                    exact LCg.CompEnd.intro F8 N8 _ (fun p hp => hp) off5 trivial ⟨rfl, by rw [aheadN_f2 ha (by assumption)]; exact hz⟩
                  · rename Fr _ _ _ _ => F8
                    rename News _ _ _ _ => N8
                    exact LCg.CompEnd.intro F8 N8 _ (fun p hp => hp) off5 trivial ⟨rfl, by rw [aheadN_f1 ha (by assumption)]; exact hz⟩
              · intro j v us nw I5 oI5 C oC D m₂ h tk E' hj hv' hJ09 hC hx F N off5 ne5
                try k_fold
                obtain ⟨rfl, hz⟩ := hJ09
                obtain ⟨a, ta, ha, rfl⟩ := hsat j v (by simpa using hv')
                have hal := (hT a (List.mem_of_getElem? ha)).1
                walk_at "m_go"
                rename Fr _ _ _ _ => F8
                rename News _ _ _ _ => N8
                exact LCg.CompEnd.intro F8 N8 _ (fun p hp => hp) off5 (.inl hl) ⟨rfl, bools_step hz ha rfl⟩
            · intro j v zs nw I5 oI5 C oC D m₂ h tk E' hj hv' hJ09 hC hx F N off5 ne5
              try k_fold
              obtain ⟨rfl, hz⟩ := hJ09
              obtain ⟨a, ha, rfl⟩ := hat j v hv'
              walk_at "m_go"
              exact LCg.CompEnd.intro F N _ (fun p hp => hp) off5 (.inr ⟨_, by k_mem, rfl, _, rfl⟩) ⟨rfl, bools_step hz ha (by simp)⟩
          · intro j v us nw I5 oI5 C oC D m₂ h tk E' hj hv' hJ09 hC hx F N off5 ne5
            try k_fold
            obtain ⟨rfl, hz⟩ := hJ09
            obtain ⟨a, ta, ha, rfl⟩ := hsat j v (by simpa using hv')
            have hal := (hT a (List.mem_of_getElem? ha)).1
            walk_at "m_go"
            rename Fr _ _ _ _ => F8
            rename News _ _ _ _ => N8
            exact LCg.CompEnd.intro F8 N8 _ (fun p hp => hp) off5 (.inl hl) ⟨rfl, bools_step hz ha rfl⟩
        · intro j v zs nw I5 oI5 C oC D m₂ h tk E' hj hv' hJ09 hC hx F N off5 ne5
          try k_fold
          obtain ⟨rfl, hz⟩ := hJ09
          obtain ⟨a, ha, rfl⟩ := hat j v hv'
          walk_at "m_go"
          exact LCg.CompEnd.intro F N _ (fun p hp => hp) off5 (.inr ⟨_, by k_mem, rfl, _, rfl⟩) ⟨rfl, bools_step hz ha (by simp)⟩
      · intro j v ys nw I5 oI5 C oC D m₂ h tk E' hj hv' hJ09 hC hx F N off5 ne5
        try k_fold
        obtain ⟨rfl, hb⟩ := hJ09
        obtain ⟨r, hr1, hr2⟩ : ∃ r : RecD × Str, rs[j]? = some r ∧ v = .ref r.1.x := by
          have hv2 : (recVs rs)[j]? = some v := by simpa using hv'
          rw [List.getElem?_map] at hv2
          cases hq : rs[j]? with
          | none => rw [hq] at hv2; cases hv2
          | some r => rw [hq] at hv2; exact ⟨r, rfl, (Option.some.inj hv2).symm⟩
        obtain ⟨r, a⟩ := r
        subst hr2
        have ha : ts[j]? = some a := by
          have := congrArg (fun l => l[j]?) hrs
          rw [List.getElem?_map, hr1, List.getElem?_take] at this
          simp only [Option.map_some, List.size_toArray, hvl] at this
          split at this
          · exact this.symm
          · cases this
        have ha' := hT a (List.mem_of_getElem? ha)
        have hal := ha'.1
        have hs : ∀ p ∈ recL w.params r a, p ∈ recsL w.params rs := fun p hp => List.mem_flatMap.mpr ⟨_, List.mem_of_getElem? hr1, hp⟩
        have N2 := nw_app (nw_sub N fun p hp => .tail _ (.tail _ (.tail _ (.tail _ (.tail _ (.tail _ (.tail _ (.tail _ (.tail _ (List.mem_append_left _ (hs p hp))))))))))) N
        simp only [List.cons_append, List.nil_append] at N2
        walk_at "m_go"
        refine applies_ok (x := a) (y := t) hal hlt ht'.2.1 ha'.2.2 KX T ?_ ?_ ?_ F.keep (nw_pos (nw_sub N2 fun p hp => List.mem_append_left _ hp)) (fun h' tk' hk' => ?_)
        · simp only [depth_in1, depth_deeper]; omega
        · k_units
        · assumption
        · refine LCg.CompEnd.intro (F.keeps hk') (N.grown hk') _ (fun p hp => hp) off5 (.inr ⟨_, by k_mem, rfl, _, rfl⟩) ⟨rfl, ?_⟩
          rw [List.take_add_one, ha, List.map_append]
          exact bs_append hb (.cons _ .nil)
    · intro m₁ nw h tk hJ09 F N
      try k_fold
      obtain ⟨rfl, rows, oa, ob, va, vb, hlen, hrows, hoa, hob, hoff, rfl⟩ := hJ09
      clear F9 N9
      rw [List.size_toArray, hvl] at hlen
      rw [List.size_toArray, hvl, List.take_length] at hrows
      walk_at "m_go"
      have N5 := nw_cons (nw_sub (nw_tl (nw_tl (nw_tl (nw_tl (nw_tl N))))) fun p hp => List.mem_append_right _ hp) (N _ (.head _)).1 (N _ (.head _)).2.1 (N _ (.head _)).2.2
      exact hQ _ rows _ _ _ F.keep hlen hrows (nw_pos N5)
  · intro i v ys nw I oI C oC D m₂ h tk E' hi hv hJ09 hC hx F N off ne
    try k_fold
    obtain ⟨rs, hrs, rfl, rfl⟩ := hJ09
    clear N9
    obtain ⟨t, tt, ht, rfl⟩ := hsat i v (by simpa using hv)
    have hS1 : StrsAre [.str t tt] [t] := .cons _ _ .nil
    simp only [List.cons_append, List.nil_append] at N
    walk_at "m_go"
    rename News _ _ _ _ => N9
    rename Fr _ _ _ _ => F9
    clear N9 F9
    rename News _ _ _ _ => N9
    rename Fr _ _ _ _ => F9
    rename_i x9 d9 u9 r9 n9 t1 t2 t3 t4 _ _ hk9 ho9
    refine comp_end_fresh F9 N9 hk9 ho9 (by k_mem) (by k_mem) (by k_mem) ?_ off ?_ ?_
    · intro p hp
      exact .tail _ (.tail _ (.tail _ (.tail _ hp)))
    · exact .inl hl
    · refine ⟨rs ++ [(⟨x9, d9, u9, r9, n9, tt, t1, t2, t3, t4⟩, t)], ?_, ?_, ?_⟩
      · rw [List.map_append, hrs, List.take_add_one, ht]; rfl
      · simp only [recVs, List.map_append]; rfl
      · simp only [recsL, List.flatMap_append, List.append_assoc]; rfl
end

end P09
section P20
theorem ru20 : True := by
  k_with_none
  k_with "m_stop" => (first | with_reducible show LCg.CompRest _ _ _ _ _ _ _ _ _ _ _ _ _ _ _ _ _ _ _ | with_reducible show LCt.CompRestT _ _ _ _ _ _ _ _ _ _ _ _ _ _ _ _ _ _ _ _)
  k_with "m_go0" => (repeat' ((fail_if_success (k_extra "m_stop")); first | (k_unfold; (try dsimp only)) | walk1 | (dsimp only; walk1) | (leave1; try dsimp only) | fail "no step"))
  k_with "m_go" => (((try k_fold) <;> (try dsimp only) <;> k_extra "m_go0" <;> (try k_fold)))
  k_with "m_inA" => (((case zzkX => assumption); (case zzkT => assumption); (case zzkl => k_is); (case zzk1 => exact rfl); (case zzk2 => exact rfl); (case zzk3 => exact rfl); (case zzk4 => decide); (case zzkc => k_is); (case zzkr => omega); (case zzkb => first | exact BindsTo.of_eq rfl | exact binds_K (by k_in) rfl (by k_is) rfl rfl rfl); (case zzko => exact locs rfl); intro _ _; walk_at "t_0"))
  k_with "m_inB" => (((case zzkX => assumption); (case zzkT => assumption); (case zzkl => k_is); (case zzk1 => exact rfl); (case zzk2 => exact rfl); (case zzk3 => exact rfl); (case zzkc => k_is); (case zzkr => omega); (case zzkb => first | exact BindsTo.of_eq rfl | exact binds_K (by k_in) rfl (by k_is) rfl rfl rfl); (case zzko => exact rfl); (case zzkn => decide +kernel); intro _ _ _ _; walk_at "t_1"))
  k_with "m_in1" => ((refine' freeze1 ?zzkX ?zzkT ?zzkl ?zzkc ?zzkr ?zzkb ?zzko ?_ ?zzk1 ?zzk2 ?zzk3 ?zzk4; k_extra "m_inA"))
  k_with "m_inC1" => ((refine' freezeC1 ?zzkX ?zzkT ?zzkl ?zzkc ?zzkr ?zzkb ?zzko ?zzkn ?_ ?zzk1 ?zzk2 ?zzk3; k_extra "m_inB"))
  k_with "m_in2" => ((refine' freeze2 ?zzkX ?zzkT ?zzkl ?zzkc ?zzkr ?zzkb ?zzko ?_ ?zzk1 ?zzk2 ?zzk3 ?zzk4; k_extra "m_inA"))
  k_with "m_inC2" => ((refine' freezeC2 ?zzkX ?zzkT ?zzkl ?zzkc ?zzkr ?zzkb ?zzko ?zzkn ?_ ?zzk1 ?zzk2 ?zzk3; k_extra "m_inB"))
  k_with "m_in3" => ((refine' freeze3 ?zzkX ?zzkT ?zzkl ?zzkc ?zzkr ?zzkb ?zzko ?_ ?zzk1 ?zzk2 ?zzk3 ?zzk4; k_extra "m_inA"))
  k_with "m_inC3" => ((refine' freezeC3 ?zzkX ?zzkT ?zzkl ?zzkc ?zzkr ?zzkb ?zzko ?zzkn ?_ ?zzk1 ?zzk2 ?zzk3; k_extra "m_inB"))
  k_with "m_in4" => ((refine' freeze4 ?zzkX ?zzkT ?zzkl ?zzkc ?zzkr ?zzkb ?zzko ?_ ?zzk1 ?zzk2 ?zzk3 ?zzk4; k_extra "m_inA"))
  k_with "m_inC4" => ((refine' freezeC4 ?zzkX ?zzkT ?zzkl ?zzkc ?zzkr ?zzkb ?zzko ?zzkn ?_ ?zzk1 ?zzk2 ?zzk3; k_extra "m_inB"))
  k_with "m_size" => (first | ((with_reducible refine z_sz ?_); omega) | ((with_reducible refine z_szl ?_); omega) | omega | (rw [sizeLine_eq]; omega) | (simp only [List.size_toArray, sizeLine_eq, List.length_append, List.length_cons, List.length_nil, List.length_map] at *; omega))
  k_with "eval ListComp" => ((k_here; k_dflt (first | ((with_reducible apply LCt.ListComp_T); (case F₀ => k_asm); (case hclos => with_unfolding_all rfl); (case hcell => decide); (case hkind => rfl); (case hnames => decide); (case hx => rfl); (case hs => intro _; with_unfolding_all rfl)) | ((with_reducible apply LCg.ListComp_U); (case F₀ => k_asm); (case hclos => with_unfolding_all rfl); (case hcell => decide); (case hkind => rfl); (case hnames => decide); (case hx => rfl); (case hs => intro _; with_unfolding_all rfl)))))
  k_with "exec Assign cons ListComp" => ((k_here; k_dflt (first | ((with_reducible apply LCt.Assign_ListComp_T); (case F₀ => k_asm); (case hLe => rfl); (case hsw => with_unfolding_all rfl); (case hclos => with_unfolding_all rfl); (case hcell => decide); (case hkind => rfl); (case hnames => decide); (case hx => rfl); (case hy => rfl); (case hp => rfl); (case hs => intro _; with_unfolding_all rfl)) | ((with_reducible apply LCg.Assign_ListComp_U); (case F₀ => k_asm); (case hLe => rfl); (case hsw => with_unfolding_all rfl); (case hclos => with_unfolding_all rfl); (case hcell => decide); (case hkind => rfl); (case hnames => decide); (case hx => rfl); (case hy => rfl); (case hp => rfl); (case hs => intro _; with_unfolding_all rfl)) | (refine wpAny_Assign_Name ?_))))
  k_with "CompSrcT" => ((k_here; k_dflt (first | (refine LCt.CompSrcT.ledger (by first | assumption | rfl) (by k_asm) (by k_asm) (by k_mem) (by k_extra "m_size") ?_; intro _) | (refine LCt.CompSrcT.base (by first | assumption | rfl) (by k_asm) (by k_asm) (by assumption) (by k_extra "m_size") ?_; intro _) | (refine LCt.CompSrcT.range (by first | assumption | rfl) (by k_asm) (by k_asm) (by assumption) (by first | decide | exact small_nat (by omega) | exact small_one (by omega) (by omega) (by omega) (by omega)) (by first | rfl | decide | exact rangeSize_nat _ _) (by k_extra "m_size") ?_; intro _))))
  k_with "CompSrc" => ((k_here; k_dflt (first | (refine LCg.CompSrc.ledger (by first | assumption | rfl) (by k_asm) (by k_asm) (by k_mem) (by k_extra "m_size") ?_; intro _) | (refine LCg.CompSrc.base (by first | assumption | rfl) (by k_asm) (by k_asm) (by assumption) (by k_extra "m_size") ?_; intro _) | (refine LCg.CompSrc.range (by first | assumption | rfl) (by k_asm) (by k_asm) (by assumption) (by first | decide | exact small_nat (by omega) | exact small_one (by omega) (by omega) (by omega) (by omega)) (by first | rfl | decide | exact rangeSize_nat _ _) (by k_extra "m_size") ?_; intro _))))
  k_with "m_arith" => (first | ((try simp only [depth_under_make, depth_under_kw, depth_in1, depth_deeper, units_in1, units_deeper, Around.mark_units]); omega) | (simp only [depth_under_make, depth_under_kw, depth_in1, depth_deeper, units_in1, units_deeper, Around.mark_units] at *; omega))
  k_with "m_p1" => (first | with_reducible assumption | exact And.left (by with_reducible assumption) | exact And.left (And.right (by with_reducible assumption)) | exact And.right (by with_reducible assumption) | exact And.left (And.right (And.right (by with_reducible assumption))) | exact And.right (And.right (by with_reducible assumption)) | exact And.left (And.right (And.right (And.right (by with_reducible assumption)))) | exact And.right (And.right (And.right (by with_reducible assumption))) | exact And.left (And.right (And.right (And.right (And.right (by with_reducible assumption))))) | exact And.right (And.right (And.right (And.right (by with_reducible assumption)))) | exact And.left (And.right (And.right (And.right (And.right (And.right (by with_reducible assumption)))))) | exact And.right (And.right (And.right (And.right (And.right (by with_reducible assumption))))) | exact And.left (And.right (And.right (And.right (And.right (And.right (And.right (by with_reducible assumption))))))) | exact And.right (And.right (And.right (And.right (And.right (And.right (by with_reducible assumption)))))) | exact And.left (And.right (And.right (And.right (And.right (And.right (And.right (And.right (by with_reducible assumption)))))))) | exact And.right (And.right (And.right (And.right (And.right (And.right (And.right (by with_reducible assumption))))))) | exact And.left (And.right (And.right (And.right (And.right (And.right (And.right (And.right (And.right (by with_reducible assumption))))))))) | exact And.right (And.right (And.right (And.right (And.right (And.right (And.right (And.right (by with_reducible assumption)))))))) | exact And.left (And.right (And.right (And.right (And.right (And.right (And.right (And.right (And.right (And.right (by with_reducible assumption)))))))))) | exact And.right (And.right (And.right (And.right (And.right (And.right (And.right (And.right (And.right (by with_reducible assumption))))))))) | exact And.left (And.right (And.right (And.right (And.right (And.right (And.right (And.right (And.right (And.right (And.right (by with_reducible assumption))))))))))) | exact And.right (And.right (And.right (And.right (And.right (And.right (And.right (And.right (And.right (And.right (by with_reducible assumption)))))))))) | exact And.left (And.right (And.right (And.right (And.right (And.right (And.right (And.right (And.right (And.right (And.right (And.right (by with_reducible assumption)))))))))))) | exact And.right (And.right (And.right (And.right (And.right (And.right (And.right (And.right (And.right (And.right (And.right (by with_reducible assumption))))))))))))
  k_with "m_p2" => (first | exact And.left (And.left (by with_reducible assumption)) | exact And.left (And.right (And.left (by with_reducible assumption))) | exact And.left (And.right (And.right (And.left (by with_reducible assumption)))) | exact And.left (And.right (And.right (And.right (And.left (by with_reducible assumption))))) | exact And.right (And.left (by with_reducible assumption)) | exact And.right (And.right (And.left (by with_reducible assumption))) | exact And.right (And.right (And.right (And.left (by with_reducible assumption)))) | exact And.left (And.left (And.right (by with_reducible assumption))) | exact And.left (And.right (And.left (And.right (by with_reducible assumption)))) | exact And.left (And.right (And.right (And.left (And.right (by with_reducible assumption))))) | exact And.left (And.right (And.right (And.right (And.left (And.right (by with_reducible assumption)))))) | exact And.right (And.left (And.right (by with_reducible assumption))) | exact And.right (And.right (And.left (And.right (by with_reducible assumption)))) | exact And.right (And.right (And.right (And.left (And.right (by with_reducible assumption))))) | exact And.left (And.left (And.right (And.right (by with_reducible assumption)))) | exact And.left (And.right (And.left (And.right (And.right (by with_reducible assumption))))) | exact And.left (And.right (And.right (And.left (And.right (And.right (by with_reducible assumption)))))) | exact And.left (And.right (And.right (And.right (And.left (And.right (And.right (by with_reducible assumption))))))) | exact And.right (And.left (And.right (And.right (by with_reducible assumption)))) | exact And.right (And.right (And.left (And.right (And.right (by with_reducible assumption))))) | exact And.right (And.right (And.right (And.left (And.right (And.right (by with_reducible assumption)))))) | exact And.left (And.left (And.right (And.right (And.right (by with_reducible assumption))))) | exact And.left (And.right (And.left (And.right (And.right (And.right (by with_reducible assumption)))))) | exact And.left (And.right (And.right (And.left (And.right (And.right (And.right (by with_reducible assumption))))))) | exact And.left (And.right (And.right (And.right (And.left (And.right (And.right (And.right (by with_reducible assumption)))))))) | exact And.right (And.left (And.right (And.right (And.right (by with_reducible assumption))))) | exact And.right (And.right (And.left (And.right (And.right (And.right (by with_reducible assumption)))))) | exact And.right (And.right (And.right (And.left (And.right (And.right (And.right (by with_reducible assumption))))))))
  k_with "m_ne" => (first | assumption | (refine Ne.symm ?_; assumption) | (refine Nat.ne_of_lt ?_; k_extra "m_p1") | (refine Nat.ne_of_gt ?_; k_extra "m_p1") | k_extra "m_p1" | (refine Ne.symm ?_; k_extra "m_p1") | k_extra "m_p2" | (refine Ne.symm ?_; k_extra "m_p2"))
  k_with "call ref" => ((k_here; (with_reducible show wpAny _ _ (call (Value.ref 59) _) _ _ _); k_dflt (refine' mk_entry ?zzk1 ?zzk2 ?zzk3 ?zzk4 ?zzkr ?_; (case zzk1 => k_asm); (case zzk2 => k_asm); (case zzk3 => k_asm); (case zzk4 => k_asm); (case zzkr => (simp only [depth_in1, depth_deeper]; omega)); intro _ _ _ _ _ _ _ _ _ _ _ _; walk_at "t_2")))
  k_with "assign Tuple" => ((k_here; k_dflt (refine' assign2 ?zzk1 ?zzk2 ?zzk3 ?zzk4 ?_; (case zzk1 => first | assumption | exact rfl); (case zzk2 => k_asm); (case zzk3 => k_asm); (case zzk4 => k_mem); intro _ _ _)))
  k_with "exec For Name Attribute cons nil" => ((k_here; k_dflt (refine For_at ?_)))
  k_with "exec For Name Name cons nil" => ((k_here; k_dflt (refine For_at ?_)))
  k_with "exec For Name Call cons nil" => ((k_here; k_dflt (refine For_at ?_)))
  k_with "exec For Name Tuple cons nil" => ((k_here; k_dflt (refine For_at ?_)))
  k_with "exec For Name List cons nil" => ((k_here; k_dflt (refine For_at ?_)))
  k_with "m_stop" => (with_reducible show ForAt _ _ _ _ _ _ _ _ _ _)
  k_with "m_up" => (first | exact ⟨_, by funext z; repeat' (first | rfl | split) <;> simp_all⟩ | exact ⟨_, _, by funext z; repeat' (first | rfl | split) <;> simp_all⟩ | exact ⟨_, _, _, by funext z; repeat' (first | rfl | split) <;> simp_all⟩)
  k_with "newList" => ((k_here; k_dflt (refine' newList_M ?zzk1 ?zzk2 ?zzk3 ?_; (case zzk1 => k_asm); (case zzk2 => k_asm); (case zzk3 => exact Nat.le_of_ble_eq_true rfl)); intro _ _ _ _; walk_at "t_3"))
  trivial
noncomputable abbrev infoObj (dx : Addr) (nd np su : Value) : Obj := { cls := .ref 119, dict := some dx, data := .plain, slots := #[some nd, some np, some su] }
noncomputable abbrev srtD (ps : Params) (nd rv p f : Value) (t1 t2 t3 t4 : Tok) : List DictEntry :=
  [⟨PyData.keyHash ps (Str.ofString "_node2info"), .str (Str.ofString "_node2info") t1, nd⟩, ⟨PyData.keyHash ps (Str.ofString "_ready_nodes"), .str (Str.ofString "_ready_nodes") t2, rv⟩,
   ⟨PyData.keyHash ps (Str.ofString "_npassedout"), .str (Str.ofString "_npassedout") t3, p⟩, ⟨PyData.keyHash ps (Str.ofString "_nfinished"), .str (Str.ofString "_nfinished") t4, f⟩]
section
variable {w : World} {A : Around} {s : Shared} {mean : ExcName → Option Value} {mg mb : Str → Option Value} {Q E : Value → Shared → Prop} {h₀ : Heap} {L : Addr} {m : Str → Option Value} {news : List (Addr × Obj)}
set_option maxHeartbeats 4000000 in
theorem mk_nodeinfo {v : Value} 
    (KX : (hd.heap_39 w.params).In h₀) (T : Top hd.view_39 LS mean mg mb h₀) (F : Fr h₀ L s.heap m) (N : News h₀ L s.heap news) (hr : A.depth + 5 < recursionLimit)
    (hv : handedIn v = true)
    (hQ : ∀ x dx l t h' tk, Fr h₀ L h' m → News h₀ L h' ((l, W.listOf #[] 0) :: (x, infoObj dx v (.int 0 t) (.ref l)) :: (dx, dictOf [] 0) :: news) →
      (∀ p ∈ news, p.1 < dx) → (@LT.lt Nat _ dx x ∧ @LT.lt Nat _ x l) → Q (.ref x) { s with heap := h', toks := tk }) :
    wpAny (model PR w) A (call (.ref 119) [v] []) Q E s := by
  refine call_cls F KX N (by k_is) (by k_is) (by k_is) (fun x dx h' F' N' l1 l2 => ?_)
  have hX : ∀ y ∈ [x, dx], h₀.get? y = none := by
    intro y hy
    simp only [List.mem_cons, List.not_mem_nil, or_false] at hy
    rcases hy with rfl | rfl
    · exact (N' _ (.head _)).2.2
    · exact (N' _ (.tail _ (.head _))).2.2
  have hLX : L ∉ [x, dx] := by
    intro hy
    simp only [List.mem_cons, List.not_mem_nil, or_false] at hy
    rcases hy with e | e
    · exact (N' _ (.head _)).2.1 e.symm
    · exact (N' _ (.tail _ (.head _))).2.1 e.symm
  have hnX : ∀ p ∈ news, p.1 ∉ [x, dx] := by
    intro p hp hy
    have h1 := l1 p hp
    simp only [List.mem_cons, List.not_mem_nil, or_false] at hy
    rcases hy with e | e
    · rw [e] at h1; exact Nat.lt_asymm h1 l2
    · rw [e] at h1; exact Nat.lt_irrefl _ h1
  refine code_freezeX (X := [x, dx]) (news := [(x, instObj 119 dx), (dx, dictOf [] 0)]) (binds := [(Str.ofString "self", .ref x), (Str.ofString "node", v)]) KX T F'.keep hX ?_ (by k_is) (by k_is) ?_ (BindsTo.of_eq rfl) (locs rfl) ?_ rfl rfl rfl (by decide)
  · intro q hq
    simp only [List.mem_cons, List.not_mem_nil, or_false] at hq
    rcases hq with rfl | rfl
    · exact ⟨(N' _ (.head _)).1, .head _⟩
    · exact ⟨(N' _ (.tail _ (.head _))).1, .tail _ (.head _)⟩
  · simp only [depth_under_kw]; omega
  intro g L₁ h₁ KX' T' hg hlt F₁ N₁
  have N₀ := nw_tl (nw_tl N')
  have F₀ := F'
  clear N' F' hlt
  replace l2 := ltN l2
  walk_at "m_go"
  rename Fr _ _ _ _ => F9
  rename News _ _ _ _ => N9
  rename _ ∧ _ => l3
  dsimp only at N9 hg ⊢
  refine ⟨rfl, ?_⟩
  exact hQ _ _ _ _ _ _ (fr_back F₀ hX hLX hg F9) (nw_app (news_own F₀ hX hLX hg N9) (news_old N₀ hnX hg F9)) l1 ⟨l2, l3.1⟩
set_option maxHeartbeats 4000000 in
theorem mk_sorter 
    (KX : (hd.heap_39 w.params).In h₀) (T : Top hd.view_39 LS mean mg mb h₀) (F : Fr h₀ L s.heap m) (N : News h₀ L s.heap news) (hr : A.depth + 5 < recursionLimit)
    (hQ : ∀ x dx nd (ond : Obj) t1 t2 t3 t4 tp tf h' tk, (nd == sysModules) = false → ond.IsDictOf (intKind PR w) ([] : List (Int × Value)) → Fr h₀ L h' m → News h₀ L h' ((nd, ond) :: (x, instObj 216 dx) :: (dx, dictOf (srtD w.params (.ref nd) .none (.int 0 tp) (.int 0 tf) t1 t2 t3 t4) 4) :: news) →
      (∀ p ∈ news, p.1 < dx) → (@LT.lt Nat _ dx x ∧ @LT.lt Nat _ x nd) → Q (.ref x) { s with heap := h', toks := tk }) :
    wpAny (model PR w) A (call (.ref 216) [] []) Q E s := by
  refine call_cls F KX N (by k_is) (by k_is) (by k_is) (fun x dx h' F' N' l1 l2 => ?_)
  have hX : ∀ y ∈ [x, dx], h₀.get? y = none := by
    intro y hy
    simp only [List.mem_cons, List.not_mem_nil, or_false] at hy
    rcases hy with rfl | rfl
    · exact (N' _ (.head _)).2.2
    · exact (N' _ (.tail _ (.head _))).2.2
  have hLX : L ∉ [x, dx] := by
    intro hy
    simp only [List.mem_cons, List.not_mem_nil, or_false] at hy
    rcases hy with e | e
    · exact (N' _ (.head _)).2.1 e.symm
    · exact (N' _ (.tail _ (.head _))).2.1 e.symm
  have hnX : ∀ p ∈ news, p.1 ∉ [x, dx] := by
    intro p hp hy
    have h1 := l1 p hp
    simp only [List.mem_cons, List.not_mem_nil, or_false] at hy
    rcases hy with e | e
    · rw [e] at h1; exact Nat.lt_asymm h1 l2
    · rw [e] at h1; exact Nat.lt_irrefl _ h1
  refine code_freezeX (X := [x, dx]) (news := [(x, instObj 216 dx), (dx, dictOf [] 0)]) (binds := [(Str.ofString "self", .ref x), (Str.ofString "graph", .none)]) KX T F'.keep hX ?_ (by k_is) (by k_is) ?_ (by exact binds_K (by k_in) rfl (by k_is) rfl rfl rfl) (locs rfl) ?_ rfl rfl rfl (by decide)
  · intro q hq
    simp only [List.mem_cons, List.not_mem_nil, or_false] at hq
    rcases hq with rfl | rfl
    · exact ⟨(N' _ (.head _)).1, .head _⟩
    · exact ⟨(N' _ (.tail _ (.head _))).1, .tail _ (.head _)⟩
  · simp only [depth_under_kw]; omega
  intro g L₁ h₁ KX' T' hg hlt F₁ N₁
  have N₀ := nw_tl (nw_tl N')
  have F₀ := F'
  clear N' F' hlt
  replace l2 := ltN l2
  walk_at "m_go"
  rename Fr _ _ _ _ => F9
  rename News _ _ _ _ => N9
  rename _ ∧ _ => l3
  rename Obj.IsDictOf (intKind _ _) _ _ => hi9
  rename (_ == sysModules) = false => lo9
  dsimp only at N9 hg ⊢
  refine ⟨rfl, ?_⟩
  exact hQ _ _ _ _ _ _ _ _ _ _ _ _ lo9 hi9 (fr_back F₀ hX hLX hg F9) (nw_app (news_own F₀ hX hLX hg N9) (news_old N₀ hnX hg F9)) l1 ⟨l2, l3.1⟩
end
theorem ru20x0 : True := by
  k_with "call ref" => ((k_here; (with_reducible show wpAny _ _ (call (Value.ref 119) _) _ _ _); k_dflt (refine' mk_nodeinfo ?zzk1 ?zzk2 ?zzk3 ?zzk4 ?zzkr ?zzkv ?_; (case zzk1 => k_asm); (case zzk2 => k_asm); (case zzk3 => k_asm); (case zzk4 => k_asm); (case zzkv => k_handed); (case zzkr => (simp only [depth_in1, depth_deeper]; omega)); intro _ _ _ _ _ _ _ _; walk_at "t_2")))
  k_with "call ref" => ((k_here; (with_reducible show wpAny _ _ (call (Value.ref 216) _) _ _ _); k_dflt (refine' mk_sorter ?zzk1 ?zzk2 ?zzk3 ?zzk4 ?zzkr ?_; (case zzk1 => k_asm); (case zzk2 => k_asm); (case zzk3 => k_asm); (case zzk4 => k_asm); (case zzkr => (simp only [depth_in1, depth_deeper]; omega)); intro _ _ _ _ _ _ _ _ _ _ _ _ _ _ _ _; walk_at "t_2")))
  trivial


end P20
section P21
structure Nd where
  key : Int
  i : Addr
  dx : Addr
  l : Addr
  np : Int
  su : List Int
  kt : Tok
  nt : Tok
  sv : List Value
  sn : Nat
structure Srt where
  x : Addr
  dx : Addr
  nd : Addr
  ond : Obj
  rv : Value
  p : Int
  f : Int
  t1 : Tok
  t2 : Tok
  t3 : Tok
  t4 : Tok
  pt : Tok
  ft : Tok
  ns : List Nd
noncomputable abbrev ndL (d : Nd) : List (Addr × Obj) := [(d.i, infoObj d.dx (.int d.key d.kt) (.int d.np d.nt) (.ref d.l)), (d.dx, dictOf [] 0), (d.l, W.listOf d.sv.toArray d.sn)]
noncomputable def ndsL (ns : List Nd) : List (Addr × Obj) := ns.flatMap ndL
noncomputable abbrev kvs (ns : List Nd) : List (Int × Value) := ns.map fun d => (d.key, .ref d.i)
noncomputable abbrev srtL (ps : Params) (σ : Srt) : List (Addr × Obj) :=
  (σ.x, instObj 216 σ.dx) :: (σ.dx, dictOf (srtD ps (.ref σ.nd) σ.rv (.int σ.p σ.pt) (.int σ.f σ.ft) σ.t1 σ.t2 σ.t3 σ.t4) 4) :: (σ.nd, σ.ond) :: ndsL σ.ns
noncomputable abbrev srtX (ps : Params) (σ : Srt) : List Addr := (srtL ps σ).map (·.1)
structure WF (w : World) (σ : Srt) : Prop where
  lo : (σ.nd == sysModules) = false
  od : σ.ond.IsDictOf (intKind PR w) (kvs σ.ns)
  iva : ∀ d ∈ σ.ns, IntsAre d.sv d.su
  nodup : (srtX w.params σ).Nodup
  kn : (σ.ns.map (·.key)).Nodup
theorem kvs_some {ns : List Nd} {k : Int} {v : Value} (h : valueAt (kvs ns) k = some v) : ∃ d ∈ ns, d.key = k ∧ v = .ref d.i := by
  induction ns with
  | nil => cases h
  | cons d ns ih =>
    simp only [valueAt, kvs, List.map_cons, List.find?_cons] at h
    by_cases hk : d.key = k
    · simp only [hk, decide_true, Option.map_some, Option.some.injEq] at h
      exact ⟨d, .head _, hk, h.symm⟩
    · simp only [hk, decide_false] at h
      obtain ⟨e, he, r⟩ := ih h
      exact ⟨e, .tail _ he, r⟩
theorem kvs_none {ns : List Nd} {k : Int} (h : valueAt (kvs ns) k = none) : ∀ d ∈ ns, d.key ≠ k := by
  intro d hd e
  have h1 := (valueAt_isSome_eq_any (kvs ns) k).symm
  rw [h, Option.isSome_none, List.any_eq_false] at h1
  exact h1 (d.key, .ref d.i) (List.mem_map.mpr ⟨d, hd, rfl⟩) (decide_eq_true e)
theorem WF.off {w : World} {σ : Srt} (W : WF w σ) : (@Ne Nat σ.x σ.dx ∧ @Ne Nat σ.x σ.nd ∧ @Ne Nat σ.dx σ.nd) ∧ (∀ p ∈ ndsL σ.ns, p.1 ≠ σ.x) ∧ (∀ p ∈ ndsL σ.ns, p.1 ≠ σ.dx) ∧ (∀ p ∈ ndsL σ.ns, p.1 ≠ σ.nd) := by
  have h := W.nodup
  simp only [List.map_cons, List.nodup_cons, List.mem_cons, not_or] at h
  obtain ⟨⟨a, b, c⟩, ⟨d, e⟩, f, _⟩ := h
  exact ⟨⟨a, b, d⟩, fun p hp q => c (q ▸ List.mem_map_of_mem hp), fun p hp q => e (q ▸ List.mem_map_of_mem hp), fun p hp q => f (q ▸ List.mem_map_of_mem hp)⟩
theorem keys_grow {ns : List Nd} {d : Nd} {k : Int} (h : (ns.map (·.key)).Nodup) (hn : ∀ d ∈ ns, d.key ≠ k) (hd : d.key = k) : ((ns ++ [d]).map (·.key)).Nodup := by
  rw [List.map_append, List.nodup_append]
  refine ⟨h, by simp, ?_⟩
  intro a ha b hb
  obtain ⟨e, he, rfl⟩ := List.mem_map.mp ha
  simp only [List.map_cons, List.map_nil, List.mem_singleton] at hb
  rw [hb, hd]
  exact hn e he
theorem nds_app {a b : List Nd} : ndsL (a ++ b) = ndsL a ++ ndsL b := List.flatMap_append
theorem nds_one {d : Nd} : ndsL [d] = ndL d := by simp [ndsL]
theorem fresh_or {X : List Addr} {h g : Heap} (hg : ∀ b o, b ∉ X → h.get? b = some o → g.get? b = some o) {b : Addr} (hb : g.get? b = none) : b ∈ X ∨ h.get? b = none := by
  by_cases hx : b ∈ X
  · exact .inl hx
  · right
    cases q : h.get? b with
    | none => rfl
    | some o => rw [hg b o hx q] at hb; cases hb
theorem call_back {h₀ h h' : Heap} {L : Addr} {m : Str → Option Value} {led led' rest : List (Addr × Obj)} (F : Fr h₀ L h m) (N : News h₀ L h (led ++ rest)) (hr : ∀ p ∈ rest, p.1 ∉ led.map (·.1))
    (hk : ∀ b o, b ∉ led.map (·.1) → h.get? b = some o → h'.get? b = some o) (hn : ∀ p ∈ led', h'.get? p.1 = some p.2 ∧ (p.1 ∈ led.map (·.1) ∨ h.get? p.1 = none)) :
    Fr h₀ L h' m ∧ News h₀ L h' (led' ++ rest) ∧ ∀ p ∈ rest, p.1 ∉ led'.map (·.1) := by
  have hL : L ∉ led.map (·.1) := fun hm => by
    obtain ⟨p, hp, e⟩ := List.mem_map.mp hm
    exact (N p (List.mem_append_left _ hp)).2.1 e
  have hX : ∀ x ∈ led.map (·.1), h₀.get? x = none := fun x hm => by
    obtain ⟨p, hp, rfl⟩ := List.mem_map.mp hm
    exact (N p (List.mem_append_left _ hp)).2.2
  refine ⟨⟨F.ns.at' fun o e => hk _ o hL e, fun b o e => hk b o (fun hb => by rw [hX b hb] at e; cases e) (F.keep b o e), F.above⟩, nw_app (fun p hp => ⟨(hn p hp).1, ?_⟩) (fun p hp => ⟨hk _ _ (hr p hp) (N p (List.mem_append_right _ hp)).1, (N p (List.mem_append_right _ hp)).2⟩), ?_⟩
  · rcases (hn p hp).2 with e | e
    · exact ⟨fun q => hL (q ▸ e), hX _ e⟩
    · exact fresh_ne F e
  · intro p hp hm
    obtain ⟨q, hq, e⟩ := List.mem_map.mp hm
    rcases (hn q hq).2 with x | x
    · exact hr p hp (e ▸ x)
    · rw [e, (N p (List.mem_append_right _ hp)).1] at x; cases x
theorem allLt_lt {d : Addr} : ∀ {l : List (Addr × Obj)}, AllLt d l → ∀ p ∈ l, @LT.lt Nat _ p.1 d
  | [], _, _, h => nomatch h
  | _ :: _, h, p, hp => by
    rcases List.mem_cons.mp hp with rfl | hp
    · exact h.1
    · exact allLt_lt h.2 p hp
theorem nodup_grow {l : List Addr} {d x y : Addr} (h : l.Nodup) (hd : ∀ z ∈ l, @LT.lt Nat _ z d) (h1 : @LT.lt Nat _ d x) (h2 : @LT.lt Nat _ x y) : (l ++ [x, d, y]).Nodup := by
  rw [List.nodup_append]
  refine ⟨h, ?_, ?_⟩
  · have a : x ≠ d := Nat.ne_of_gt h1
    have b : x ≠ y := Nat.ne_of_lt h2
    have c : d ≠ y := Nat.ne_of_lt (Nat.lt_trans h1 h2)
    simp [a, b, c]
  · intro z hz u hu
    have hz' := hd z hz
    simp only [List.mem_cons, List.not_mem_nil, or_false] at hu
    rcases hu with rfl | rfl | rfl
    · exact Nat.ne_of_lt (Nat.lt_trans hz' h1)
    · exact Nat.ne_of_lt hz'
    · exact Nat.ne_of_lt (Nat.lt_trans hz' (Nat.lt_trans h1 h2))
theorem ru21x0 : True := by
  k_with "getMethod ref" => ((k_here; (with_reducible show wpAny _ _ (getMethod (Value.ref _) (Str.ofString "get") _) _ _ _); k_dflt (refine kdg_method (knd := PySem.intKind _ _) (by k_asm) (by k_mem) (by assumption) ?_)))
  k_with "call builtin:dict.get" => ((k_here; k_dflt (refine kdg_get1 (knd := PySem.intKind _ _) (by k_asm) (by k_mem) (by assumption) (by assumption) (intKind_is _ _ _ _) _ (by assumption) ?_; (try dsimp only [Option.getD]))))
  k_with "subscriptTail Name Name ref int" => ((k_here; k_dflt (refine' kda_item (knd := PySem.intKind _ _) ?zzk1 ?zzk2 ?zzk3 ?zzk4 ?zzk5 ?_ ?zzk6 ?zzk7; (case zzk6 => with_unfolding_all rfl); (case zzk7 => intro _; with_unfolding_all rfl); (case zzk1 => k_asm); (case zzk2 => k_mem); (case zzk3 => assumption); (case zzk4 => exact intKind_is _ _ _ _); (case zzk5 => assumption))))
  k_with "setItem ref int" => ((k_here; k_dflt (refine' kda_set (knd := PySem.intKind _ _) ?zzF ?zzN ?zzU ?zzd (intKind_is _ _ _ _) ?zzz ?_; (case zzF => k_asm); (case zzN => k_asm); (case zzU => k_updF); (case zzd => assumption); (case zzz => rw [sizeLine_eq]; assumption)); intro _ _ _; walk_at "t_7"))
  k_with "call builtin:list.append" => ((k_here; (with_reducible show wpAny _ _ (call (Value.builtin _) [Value.ref _, _]) _ _ _); k_dflt (refine' append_K ?zzk1 ?zzk2 ?zzk3 ?_ ?zzz; (case zzk1 => k_asm); (case zzk2 => k_asm); (case zzk3 => k_upd); (case zzz => rw [sizeLine_eq]; omega); k_whole); intro _ _ _; (try k_sweep)))
  trivial

section
variable {w : World} {A : Around} {s : Shared} {mean : ExcName → Option Value} {mg mb : Str → Option Value} {Q E : Value → Shared → Prop} {h₀ : Heap} {σ : Srt}
set_option maxHeartbeats 4000000 in
theorem nodeinfo_ok {k : Int} {t : Tok} (KX : (hd.heap_39 w.params).In h₀) (T : Top hd.view_39 LS mean mg mb h₀) (hk : LK h₀ s.heap) (hroom : A.depth + 10 < recursionLimit) (hu : A.units + 100 < cLine) (hh : A.handled = none)
    (W : WF w σ) (ho : ∀ p ∈ srtL w.params σ, s.heap.get? p.1 = some p.2 ∧ h₀.get? p.1 = none) (hlen : σ.ns.length ≤ 1000)
    (hQ : ∀ σ' d h' tk, WF w σ' → d ∈ σ'.ns → d.key = k → (σ' = σ ∨ (∀ d ∈ σ.ns, d.key ≠ k) ∧ d.np = 0 ∧ d.su = [] ∧ ∃ o, σ' = { σ with ns := σ.ns ++ [d], ond := o }) →
      (∀ b o, b ∉ srtX w.params σ → s.heap.get? b = some o → h'.get? b = some o) → (∀ p ∈ srtL w.params σ', h'.get? p.1 = some p.2 ∧ (p.1 ∈ srtX w.params σ ∨ s.heap.get? p.1 = none)) → Q (.ref d.i) { s with heap := h', toks := tk }) :
    wpAny (model PR w) A (call (.ref 159) [.ref σ.x, .int k t] []) Q E s := by
  refine call_freezeX (X := srtX w.params σ) (news := srtL w.params σ) (binds := [(Str.ofString "self", .ref σ.x), (Str.ofString "node", .int k t)]) KX T hk ?_ ?_ (by k_is) (by k_is) (by omega) (BindsTo.of_eq rfl) (locs rfl) ?_ rfl rfl rfl (by decide)
  · intro y hy
    obtain ⟨p, hp, rfl⟩ := List.mem_map.mp hy
    exact (ho p hp).2
  · intro q hq
    exact ⟨(ho q hq).1, List.mem_map_of_mem hq⟩
  intro g L' h₁ KX' T' hg hlt F N
  have hod := W.od
  have hlo := W.lo
  have hsz : (kvs σ.ns).length ≤ sizeLine := by rw [sizeLine_eq, List.length_map]; omega
  obtain ⟨⟨n1, n2, n3⟩, n4, n5, n6⟩ := W.off
  cases hv : valueAt (kvs σ.ns) k with
  | some v =>
    obtain ⟨d, hd, hdk, rfl⟩ := kvs_some hv
    walk_at "m_go"
    rename Fr _ _ _ _ => F9
    rename News _ _ _ _ => N9
    dsimp only at N9 hg ⊢
    exact hQ σ d _ _ W hd hdk (.inl rfl) (keep_back hg F9) (fun p hp => ⟨(N9 p hp).1, fresh_or hg (N9 p hp).2.2⟩)
  | none =>
    walk_at "m_go"
    rename Fr _ _ _ _ => F9
    rename News _ _ _ _ => N9
    rename _ ∧ _ ∧ _ ∧ _ => l1
    rename @LT.lt Nat _ _ _ ∧ @LT.lt Nat _ _ _ => l2
    rename Obj.IsDictOf (intKind _ _) _ (stored _ _ _) => hd9
    dsimp only at N9 hg ⊢
    rw [stored_absent hv] at hd9
    rename_i x9 d9 l9 t9 _ _ _ o9 _
    have e9 : srtX w.params { σ with ns := σ.ns ++ [⟨k, x9, d9, l9, 0, [], t, t9, [], 0⟩], ond := o9 } = srtX w.params σ ++ [x9, d9, l9] := by
      simp only [srtX, srtL, nds_app, List.map_cons, List.map_append, List.cons_append]; rfl
    refine hQ { σ with ns := σ.ns ++ [⟨k, x9, d9, l9, 0, [], t, t9, [], 0⟩], ond := o9 } ⟨k, x9, d9, l9, 0, [], t, t9, [], 0⟩ _ _ ⟨W.lo, ?_, ?_, ?_, ?_⟩ (List.mem_append_right _ (.head _)) rfl (.inr ⟨kvs_none hv, rfl, rfl, o9, rfl⟩) (keep_back hg F9) ?_
    · rw [kvs, List.map_append]; exact hd9
    · intro d hd
      rcases List.mem_append.mp hd with hd | hd
      · exact W.iva d hd
      · rw [List.mem_singleton.mp hd]; exact .nil
    · rw [e9]
      refine nodup_grow (d := d9) W.nodup ?_ l2.1 l2.2
      simp only [List.map_cons, List.mem_cons, List.mem_map]
      rintro y (rfl | rfl | rfl | ⟨p, hp, rfl⟩)
      · exact l1.1
      · exact l1.2.1
      · exact l1.2.2.1
      · exact allLt_lt l1.2.2.2 p hp
    · exact keys_grow W.kn (kvs_none hv) rfl
    · have N8 : News g L' _ (srtL w.params { σ with ns := σ.ns ++ [⟨k, x9, d9, l9, 0, [], t, t9, [], 0⟩], ond := o9 }) := nw_sub N9 (by
        intro p hp
        simp only [srtL, nds_app, nds_one, ndL, List.mem_cons, List.mem_append, List.not_mem_nil, or_false] at hp ⊢
        rcases hp with h | h | h | h | h | h | h
        · exact .inr (.inr (.inr (.inl h)))
        · exact .inr (.inr (.inr (.inr (.inl h))))
        · exact .inr (.inr (.inr (.inr (.inr (.inl h)))))
        · exact .inr (.inr (.inr (.inr (.inr (.inr h)))))
        · exact .inr (.inl h)
        · exact .inr (.inr (.inl h))
        · exact .inl h)
      exact fun p hp => ⟨(N8 p hp).1, fresh_or hg (N8 p hp).2.2⟩
end

end P21
section P22
structure Abs (σ : Srt) (ks : List Int) (P : Int → Int) (S : Int → List Int) : Prop where
  kse : σ.ns.map (·.key) = ks
  at' : ∀ d ∈ σ.ns, d.np = P d.key ∧ d.su = S d.key
  off : ∀ j, j ∉ ks → P j = 0 ∧ S j = []
noncomputable abbrev expl (ps : Params) (σ : Srt) (pre : List Nd) (d : Nd) (post : List Nd) : List (Addr × Obj) :=
  (d.i, infoObj d.dx (.int d.key d.kt) (.int d.np d.nt) (.ref d.l)) :: (d.l, W.listOf d.sv.toArray d.sn) :: (d.dx, dictOf [] 0) :: (σ.x, instObj 216 σ.dx) :: (σ.dx, dictOf (srtD ps (.ref σ.nd) σ.rv (.int σ.p σ.pt) (.int σ.f σ.ft) σ.t1 σ.t2 σ.t3 σ.t4) 4) :: (σ.nd, σ.ond) :: (ndsL pre ++ ndsL post)
theorem nds_cons {d : Nd} {l : List Nd} : ndsL (d :: l) = ndL d ++ ndsL l := by simp [ndsL]
theorem mem_expl {ps : Params} {σ : Srt} {pre : List Nd} {d : Nd} {post : List Nd} (p : Addr × Obj) : p ∈ expl ps σ pre d post ↔ p ∈ srtL ps { σ with ns := pre ++ d :: post } := by
  simp only [srtL, expl, nds_app, nds_cons, ndL, List.mem_cons, List.mem_append, List.not_mem_nil, or_false]
  constructor
  · rintro (h | h | h | h | h | h | h | h) <;> simp [h]
  · rintro (h | h | h | h | (h | h | h) | h) <;> simp [h]
theorem expl_perm {ps : Params} {σ : Srt} {pre : List Nd} {d : Nd} {post : List Nd} : (expl ps σ pre d post).Perm (srtL ps { σ with ns := pre ++ d :: post }) := by
  simp only [srtL, expl, nds_app, nds_cons]
  have h1 : ((d.i, infoObj d.dx (.int d.key d.kt) (.int d.np d.nt) (.ref d.l)) :: (d.l, W.listOf d.sv.toArray d.sn) :: (d.dx, dictOf [] 0) :: [(σ.x, instObj 216 σ.dx), (σ.dx, dictOf (srtD ps (.ref σ.nd) σ.rv (.int σ.p σ.pt) (.int σ.f σ.ft) σ.t1 σ.t2 σ.t3 σ.t4) 4), (σ.nd, σ.ond)]).Perm ([(σ.x, instObj 216 σ.dx), (σ.dx, dictOf (srtD ps (.ref σ.nd) σ.rv (.int σ.p σ.pt) (.int σ.f σ.ft) σ.t1 σ.t2 σ.t3 σ.t4) 4), (σ.nd, σ.ond)] ++ ndL d) :=
    (List.perm_append_comm (l₁ := [_, _, _]) (l₂ := [_, _, _])).trans (List.Perm.append_left _ (List.Perm.cons _ (List.Perm.swap _ _ _)))
  refine (List.Perm.append_right (ndsL pre ++ ndsL post) h1).trans ?_
  simp only [List.cons_append, List.nil_append]
  refine List.Perm.cons _ (List.Perm.cons _ (List.Perm.cons _ ?_))
  show (ndL d ++ (ndsL pre ++ ndsL post)).Perm (ndsL pre ++ (ndL d ++ ndsL post))
  rw [← List.append_assoc, ← List.append_assoc]
  exact List.Perm.append_right _ List.perm_append_comm
theorem put_same {σ : Srt} {pre : List Nd} {d : Nd} {post : List Nd} (h : σ.ns = pre ++ d :: post) : σ = { σ with ns := pre ++ d :: post } := by rw [← h]
theorem key_uniq {pre post : List Nd} {d : Nd} (h : ((pre ++ d :: post).map (·.key)).Nodup) : ∀ e, e ∈ pre ∨ e ∈ post → e.key ≠ d.key := by
  rw [List.map_append, List.map_cons, List.nodup_append] at h
  obtain ⟨_, h2, h3⟩ := h
  rw [List.nodup_cons] at h2
  rintro e (he | he) q
  · exact h3 _ (List.mem_map_of_mem (f := (·.key)) he) _ (.head _) q
  · exact h2.1 (List.mem_map.mpr ⟨e, he, q⟩)
theorem put_at {w : World} {σ : Srt} {pre post : List Nd} {d d' : Nd} {ks : List Int} {P P' : Int → Int} {S S' : Int → List Int} (h : σ.ns = pre ++ d :: post) (W : WF w σ) (a : Abs σ ks P S) (hk : d'.key = d.key) (hi : d'.i = d.i) (hdx : d'.dx = d.dx) (hl : d'.l = d.l)
    (hv : IntsAre d'.sv d'.su) (hP : d'.np = P' d.key) (hS : d'.su = S' d.key) (hP' : ∀ j, j ≠ d.key → P' j = P j) (hS' : ∀ j, j ≠ d.key → S' j = S j) :
    WF w { σ with ns := pre ++ d' :: post } ∧ Abs { σ with ns := pre ++ d' :: post } ks P' S' ∧ srtX w.params { σ with ns := pre ++ d' :: post } = srtX w.params σ := by
  have kn := W.kn
  rw [h] at kn
  have hu := key_uniq kn
  have hX : srtX w.params { σ with ns := pre ++ d' :: post } = srtX w.params σ := by
    simp only [srtX, srtL, h, nds_app, nds_cons, ndL, List.map_cons, List.map_append, List.map_nil, hi, hdx, hl]
  have hd : d ∈ σ.ns := by rw [h]; exact List.mem_append_right _ (.head _)
  have hsub : ∀ e, e ∈ pre ∨ e ∈ post → e ∈ σ.ns := by
    rintro e (he | he) <;> rw [h]
    · exact List.mem_append_left _ he
    · exact List.mem_append_right _ (.tail _ he)
  refine ⟨⟨W.lo, ?_, ?_, hX ▸ W.nodup, ?_⟩, ⟨?_, ?_, ?_⟩, hX⟩
  · have := W.od
    simpa only [kvs, h, List.map_append, List.map_cons, hk, hi] using this
  · intro e he
    rcases List.mem_append.mp he with he | he
    · exact W.iva e (hsub e (.inl he))
    · rcases List.mem_cons.mp he with rfl | he
      · exact hv
      · exact W.iva e (hsub e (.inr he))
  · simpa only [List.map_append, List.map_cons, hk] using kn
  · have := a.kse
    simpa only [h, List.map_append, List.map_cons, hk] using this
  · intro e he
    rcases List.mem_append.mp he with he | he
    · rw [hP' _ (hu e (.inl he)), hS' _ (hu e (.inl he))]; exact a.at' e (hsub e (.inl he))
    · rcases List.mem_cons.mp he with rfl | he
      · rw [hk]; exact ⟨hP, hS⟩
      · rw [hP' _ (hu e (.inr he)), hS' _ (hu e (.inr he))]; exact a.at' e (hsub e (.inr he))
  · intro j hj
    have hjd : j ≠ d.key := by
      rintro rfl
      exact hj (a.kse ▸ List.mem_map_of_mem (f := (·.key)) hd)
    rw [hP' _ hjd, hS' _ hjd]
    exact a.off j hj
theorem expl_off {w : World} {σ : Srt} {pre post : List Nd} {d : Nd} (h : σ.ns = pre ++ d :: post) (W : WF w σ) :
    ((@Ne Nat d.i d.l ∧ @Ne Nat d.i d.dx ∧ @Ne Nat d.i σ.x ∧ @Ne Nat d.i σ.dx ∧ @Ne Nat d.i σ.nd) ∧ (@Ne Nat d.l d.dx ∧ @Ne Nat d.l σ.x ∧ @Ne Nat d.l σ.dx ∧ @Ne Nat d.l σ.nd)) ∧ (∀ p ∈ ndsL pre ++ ndsL post, p.1 ≠ d.i) ∧ (∀ p ∈ ndsL pre ++ ndsL post, p.1 ≠ d.l) := by
  have hn : ((expl w.params σ pre d post).map (·.1)).Nodup := (List.Perm.map (·.1) expl_perm).nodup_iff.mpr (by rw [← put_same h]; exact W.nodup)
  simp only [List.map_cons, List.nodup_cons, List.mem_cons, not_or] at hn
  obtain ⟨⟨a1, a2, a3, a4, a5, a6⟩, ⟨b1, b2, b3, b4, b5⟩, _⟩ := hn
  exact ⟨⟨⟨a1, a2, a3, a4, a5⟩, b1, b2, b3, b4⟩, fun p hp e => a6 (e ▸ List.mem_map_of_mem hp), fun p hp e => b5 (e ▸ List.mem_map_of_mem hp)⟩

theorem wp_peek1 {α : Type} {K : Frag} {M : Model} {A : Around} {E : Value → Shared → Prop} {Q : α → Shared → Prop} {s : Shared} {o : Obj} {r : Addr → α}
    (X : K.In s.heap) (q : Q (r s.heap.objs.size) { s with heap := s.heap.push o }) :
    ∀ (t : Sem α) (g : Addr → Option α), peek1 K ⟨M.prog, M.w.params⟩ t = some (o, g) → (∀ D, g D = some (r D)) → wpAny M A t Q E s := by
  intro t
  induction t with
  | rule _ k ih => intro g e hg Γ p hΓ; exact ih () g e hg Γ p hΓ
  | point _ k ih => intro g e hg Γ p hΓ; exact ih () g e hg Γ p hΓ
  | ask k ih => intro g e hg Γ p hΓ; exact ih _ g e hg Γ p hΓ
  | load a _ k ih =>
    intro g e hg Γ p hΓ
    simp only [peek1] at e
    split at e
    · rename_i ob ho; exact ⟨ob, X _ _ ho, ih ob g e hg Γ p hΓ⟩
    · cases e
  | alloc ob k _ =>
    intro g e hg
    have e : some (ob, fun D => peek K ⟨M.prog, M.w.params⟩ (k D)) = some (o, g) := e
    obtain ⟨e1, e2⟩ := Prod.mk.inj (Option.some.inj e)
    subst e1
    subst e2
    have X' : K.In (s.heap.push ob) := X.keeps fun b x hb => Heap.get?_push_of_some _ hb
    show wpAny M A (alloc ob >>= k) Q E s
    refine wpAny_bind (wpAny_alloc ?_)
    exact (Looks.of_peek (M := M) (h := s.heap.push ob) X' (hg s.heap.objs.size)).here (s := { s with heap := s.heap.push ob }) q
  | _ => intro g e; cases e
section
variable {prog : Program} {w : World} {A : Around} {s : Shared} {K : Frag} {p : Program} {loose : List Str} {mean : ExcName → Option Value} {mg mb : Str → Option Value}
    {name qual : Str} {params : Arguments} {body : List Stmt} {scope : Scope} {dV kV doc pm cdv ct oc : Value} {an od : Option Addr} {osl : Array (Option Value)} {f : Addr} {args : List Value} {kw : List (Str × Value)} {binds : Addr → List (Str × Value)}
    {Q E : Value → Shared → Prop} {h₀ : Heap} {X : List Addr} {news : List (Addr × Obj)} {vs : List Value} {g₁ : Addr → Option (List (Str × Value))}
theorem code_freezeXV
    (X₀ : K.In h₀) (T : Top p loose mean mg mb h₀) (hk : LK h₀ s.heap) (hX : ∀ x ∈ X, h₀.get? x = none) (hN : ∀ q ∈ news, s.heap.get? q.1 = some q.2 ∧ q.1 ∈ X) (hXs : ∀ x ∈ X, (s.heap.get? x).isSome = true)
    (ho : K.lookup f = some ⟨oc, od, .func (fnOf name qual params body scope dV kV doc pm an cdv ct), osl⟩) (hcd : codeIn K cdv qual = true) (hroom : A.depth < recursionLimit)
    (hp : peek1 K ⟨prog, w.params⟩ (bindArgs (fnOf name qual params body scope dV kV doc pm an cdv ct) ⟨args, kw⟩) = some (({ cls := .type "tuple", data := .seq vs.toArray } : Obj), g₁))
    (hg₁ : ∀ D, g₁ D = some (binds D)) (hloc : ∀ D, ∀ y ∈ binds D, scope.names.lookup y.1 = some .local)
    (h : ∀ D g L' h₁, K.In g → Top p loose mean mg mb g → (∀ b o, b ∉ X → s.heap.get? b = some o → g.get? b = some o) → g.IsTuple D vs.toArray → (∀ q ∈ news, q.1 < L') → Fr g L' h₁ (fun y => (binds D).reverse.lookup y) → News g L' h₁ news →
      wpAny (model prog w) (A.deeper (envOf qual scope L' f cdv)) (execs body (envOf qual scope L' f cdv)) (fun fl s' => Q (match fl with | .ret v => v | _ => .none) s') (fun _ _ => False)
        { s with heap := h₁, toks := s.toks + (binds D).length })
    (hco : scope.isCoroutine = false) (hgen : scope.isGenerator = false) (hk' : scope.kind = .function)
    (hcell : ∀ x ∈ scope.names, x.2 ≠ .cell) : codeAny (model prog w) A (.call (.ref f) ⟨args, kw⟩) (fun r s' => match r with | .ok (.ret v) => Q v s' | .ok _ => False | .error e => E e s') s := by
  refine (codeAny_call_function (fd := fnOf name qual params body scope dV kV doc pm an cdv ct) (body := body) hroom (X₀.keeps hk _ _ ho) rfl hco hgen rfl (codeRec_of (X₀.keeps hk) hcd) ?_)
  refine wp_peek1 (o := ({ cls := .type "tuple", data := .seq vs.toArray } : Obj)) (r := binds) (X₀.keeps hk) ?_ _ g₁ hp hg₁
  have up : LK s.heap (s.heap.push ({ cls := .type "tuple", data := .seq vs.toArray } : Obj)) := fun b o e => Heap.get?_push_of_some _ e
  have st : LK h₀ (hideAll (s.heap.push ({ cls := .type "tuple", data := .seq vs.toArray } : Obj)) X) := fun b o e => hideAll_get _ (up b o (hk b o e)) fun hb => by rw [hX b hb] at e; cases e
  have hD : s.heap.objs.size ∉ X := fun hm => by
    have h1 := hXs _ hm
    cases q : s.heap.get? s.heap.objs.size with
    | none => rw [q] at h1; cases h1
    | some o => exact Nat.lt_irrefl _ (Heap.lt_size q)
  refine wpAny_newFunctionEnv (s := { s with heap := s.heap.push ({ cls := .type "tuple", data := .seq vs.toArray } : Obj) }) hcell (hloc _) (fun h₁ hns hsb => ⟨(T.nolimit.keeps (fun b o e => up b o (hk b o e))).fresh _ hsb, codeAny_func ?_⟩) hk'
  have hk₁ : LK (s.heap.push ({ cls := .type "tuple", data := .seq vs.toArray } : Obj)) h₁ := fun b o e => hsb.extBut b o (Nat.ne_of_lt (Heap.lt_size e)) (Heap.get?_push_of_some _ e)
  exact wpAny_mono (h s.heap.objs.size (hideAll (s.heap.push ({ cls := .type "tuple", data := .seq vs.toArray } : Obj)) X) (s.heap.push ({ cls := .type "tuple", data := .seq vs.toArray } : Obj)).objs.size h₁ (X₀.keeps st) (T.keeps st) (fun b o hb e => hideAll_get _ (up b o e) hb)
    ⟨_, hideAll_get _ (Heap.get?_push_size _ rfl) hD, rfl, _, rfl⟩ (fun q hq => Heap.lt_size (up _ _ (hN q hq).1))
    ⟨hns, fun b o e => hk₁ b o (of_hideAll _ e), Nat.le_of_eq (hideAll_size _ _)⟩ (fun q hq => ⟨hk₁ _ _ (up _ _ (hN q hq).1), Nat.ne_of_lt (Heap.lt_size (up _ _ (hN q hq).1)), hideAll_none _ (hN q hq).2⟩)) (fun _ _ x => x) (fun _ _ x => x.elim)
end

end P22
section P23
theorem ii_at : ∀ {vs : List Value} {as : List Int}, IntsAre vs as → ∀ (i : Nat) (v : Value), vs[i]? = some v → ∃ x, as[i]? = some x ∧ ∃ t, v = .int x t
  | _, _, .nil, i, v, h => by simp at h
  | _, _, .cons y t r, 0, v, h => ⟨y, rfl, t, by simpa using h.symm⟩
  | _, _, .cons y t r, i + 1, v, h => by simpa using ii_at r i v (by simpa using h)
section
variable {w : World} {A : Around} {s : Shared} {mean : ExcName → Option Value} {mg mb : Str → Option Value} {Q E : Value → Shared → Prop} {h₀ : Heap} {σ : Srt}
theorem nodeinfo_in {x : Addr} (hx : σ.x = x) {k : Int} {t : Tok} {m : Str → Option Value} {L : Addr} {rest : List (Addr × Obj)} {ks : List Int} {P : Int → Int} {S : Int → List Int} (KX : (hd.heap_39 w.params).In h₀) (T : Top hd.view_39 LS mean mg mb h₀) (F : Fr h₀ L s.heap m) (N : News h₀ L s.heap (rest ++ srtL w.params σ)) (hr : ∀ p ∈ rest, p.1 ∉ srtX w.params σ)
    (hroom : A.depth + 10 < recursionLimit) (hu : A.units + 100 < cLine) (hh : A.handled = none) (W : WF w σ) (a : Abs σ ks P S) (hlen : σ.ns.length ≤ 1000)
    (hQ : ∀ σ' pre d post ks' h' tk, σ'.ns = pre ++ d :: post → WF w σ' → d.key = k → Abs σ' ks' P S → (∀ j, j ∈ ks' ↔ j ∈ ks ∨ j = k) → (σ'.x = σ.x ∧ σ'.rv = σ.rv ∧ σ'.p = σ.p ∧ σ'.f = σ.f) → σ'.ns.length ≤ σ.ns.length + 1 → Fr h₀ L h' m → News h₀ L h' (rest ++ expl w.params σ' pre d post) → (∀ p ∈ rest, p.1 ∉ srtX w.params σ') → Q (.ref d.i) { s with heap := h', toks := tk }) :
    wpAny (model PR w) A (call (.ref 159) [.ref x, .int k t] []) Q E s := by
  subst hx
  refine nodeinfo_ok KX T F.keep hroom hu hh W (fun p hp => ⟨(N p (List.mem_append_right _ hp)).1, (N p (List.mem_append_right _ hp)).2.2⟩) hlen ?_
  intro σ' d h' tk W' hd hdk hc r1 r2
  obtain ⟨F', N', hr'⟩ := call_back F (nw_sub N fun p hp => (List.mem_append.mp hp).elim (List.mem_append_right _) (List.mem_append_left _)) hr r1 r2
  obtain ⟨pre, post, hpp⟩ := List.append_of_mem hd
  have fin : ∀ ks', Abs σ' ks' P S → (∀ j, j ∈ ks' ↔ j ∈ ks ∨ j = k) → (σ'.x = σ.x ∧ σ'.rv = σ.rv ∧ σ'.p = σ.p ∧ σ'.f = σ.f) → σ'.ns.length ≤ σ.ns.length + 1 → Q (.ref d.i) { s with heap := h', toks := tk } := fun ks' a' hk' hf hl' =>
    hQ σ' pre d post ks' h' tk hpp W' hdk a' hk' hf hl' F' (nw_sub N' fun p hp => (List.mem_append.mp hp).elim (fun x => List.mem_append_right _ x) fun x => List.mem_append_left _ (by rw [put_same hpp]; exact (mem_expl p).mp x)) hr'
  rcases hc with rfl | ⟨hnew, h0, h1, o, rfl⟩
  · refine fin ks a (fun j => ⟨.inl, fun x => x.elim id ?_⟩) ⟨rfl, rfl, rfl, rfl⟩ (Nat.le_succ _)
    rintro rfl
    rw [← a.kse, ← hdk]
    exact List.mem_map_of_mem hd
  · have hk : k ∉ ks := by
      rw [← a.kse]
      intro hm
      obtain ⟨e, he, q⟩ := List.mem_map.mp hm
      exact hnew e he q
    refine fin (ks ++ [k]) ⟨?_, ?_, ?_⟩ (fun j => by simp) ⟨rfl, rfl, rfl, rfl⟩ (by simp)
    · simp only [List.map_append, List.map_cons, List.map_nil, a.kse, hdk]
    · intro e he
      rcases List.mem_append.mp he with he | he
      · exact a.at' e he
      · rw [List.mem_singleton.mp he, hdk, (a.off k hk).1, (a.off k hk).2]
        exact ⟨h0, h1⟩
    · intro j hj
      exact a.off j fun x => hj (List.mem_append_left _ x)
set_option maxHeartbeats 4000000 in
theorem add_ok {k : Int} {t : Tok} {vs : List Value} {ps ks : List Int} {P : Int → Int} {S : Int → List Int} (KX : (hd.heap_39 w.params).In h₀) (T : Top hd.view_39 LS mean mg mb h₀) (hk : LK h₀ s.heap) (hroom : A.depth + 20 < recursionLimit) (hu : A.units + 200 < cLine) (hh : A.handled = none)
    (W : WF w σ) (a : Abs σ ks P S) (hrv : σ.rv = .none) (ho : ∀ p ∈ srtL w.params σ, s.heap.get? p.1 = some p.2 ∧ h₀.get? p.1 = none) (hlen : σ.ns.length ≤ 500) (hvs : IntsAre vs ps) (hvl : vs.length ≤ 7) (hSl : ∀ j, (S j).length ≤ 400)
    (hQ : ∀ σ' ks' h' tk, WF w σ' → Abs σ' ks' (fun j => if j = k then P k + ps.length else P j) (fun j => S j ++ (ps.filter (· = j)).map fun _ => k) → (∀ j, j ∈ ks' ↔ j ∈ ks ∨ j = k ∨ j ∈ ps) → σ'.x = σ.x → σ'.rv = .none → σ'.p = σ.p → σ'.f = σ.f → σ'.ns.length ≤ σ.ns.length + 1 + ps.length →
      (∀ b o, b ∉ srtX w.params σ → s.heap.get? b = some o → h'.get? b = some o) → (∀ p ∈ srtL w.params σ', h'.get? p.1 = some p.2 ∧ (p.1 ∈ srtX w.params σ ∨ s.heap.get? p.1 = none)) → Q .none { s with heap := h', toks := tk }) :
    codeAny (model PR w) A (.call (.ref 166) ⟨.ref σ.x :: .int k t :: vs, []⟩) (fun r s' => match r with | .ok (.ret v) => Q v s' | .ok _ => False | .error e => E e s') s := by
  refine code_freezeXV (E := E) (X := srtX w.params σ) (news := srtL w.params σ) (vs := vs) (binds := fun D => [(Str.ofString "self", .ref σ.x), (Str.ofString "node", .int k t), (Str.ofString "predecessors", .ref D)]) KX T hk ?_ ?_ ?_ (by k_is) (by k_is) (by omega) (g₁ := fun D => some [(Str.ofString "self", .ref σ.x), (Str.ofString "node", .int k t), (Str.ofString "predecessors", .ref D)]) ?_ (fun _ => rfl) (fun _ => locs rfl) ?_ rfl rfl rfl (by decide)
  · intro y hy
    obtain ⟨p, hp, rfl⟩ := List.mem_map.mp hy
    exact (ho p hp).2
  · intro q hq
    exact ⟨(ho q hq).1, List.mem_map_of_mem hq⟩
  · intro y hy
    obtain ⟨p, hp, rfl⟩ := List.mem_map.mp hy
    rw [(ho p hp).1]; rfl
  · rcases vs with _ | ⟨a1, _ | ⟨a2, _ | ⟨a3, _ | ⟨a4, _ | ⟨a5, _ | ⟨a6, _ | ⟨a7, _ | ⟨a8, vs⟩⟩⟩⟩⟩⟩⟩⟩ <;> first | rfl | (simp only [List.length_cons] at hvl; omega)
  intro D g L' h₁ KX' T' hg hD hlt F N
  have hlo := W.lo
  simp only [srtL, hrv] at N
  walk_at "m_go"
  refine nodeinfo_in (σ := σ) rfl (rest := []) KX' T' (by assumption) (by simp only [srtL, hrv]; assumption) (fun _ h => nomatch h) ?_ ?_ (by assumption) W a (by omega) ?_
  · simp only [depth_in1, depth_deeper]; omega
  · k_units
  intro σ₁ pre d post ks₁ h₂ tk₂ hns₁ W₁ hdk a₁ hks₁ hf₁ hl₁ F₂ N₂ _
  rename Fr _ _ _ _ => F9
  obtain ⟨⟨⟨e1, e2, e3, e4, e5⟩, e6, e7, e8, e9⟩, o1, o2⟩ := expl_off hns₁ W₁
  simp only [List.nil_append] at N₂
  have hvl' : vs.toArray.size ≤ 7 := by simpa using hvl
  walk_at "m_go"
  have hps : vs.length = ps.length := IntsAre.length hvs
  have hd : d ∈ σ₁.ns := by rw [hns₁]; exact List.mem_append_right _ (.head _)

  rename Fr _ _ _ _ => F9
  rename News _ _ _ _ => N9
  obtain ⟨σ₂, W₂, a₂, hf₂, hl₂, N8⟩ : ∃ σ₂, WF w σ₂ ∧ Abs σ₂ ks₁ (fun j => if j = k then P k + ps.length else P j) S ∧ (σ₂.x = σ.x ∧ σ₂.rv = .none ∧ σ₂.p = σ.p ∧ σ₂.f = σ.f) ∧ σ₂.ns.length ≤ σ.ns.length + 1 ∧ News g L' _ (srtL w.params σ₂) := by
    refine ⟨{ σ₁ with ns := pre ++ { d with np := d.np + vs.toArray.size, nt := _ } :: post }, ?_, ?_, ?_, ?_, nw_sub N9 fun p hp => (mem_expl (ps := w.params) (σ := σ₁) (pre := pre) (d := { d with np := d.np + vs.toArray.size, nt := _ }) (post := post) p).mpr hp⟩
    · exact (put_at (d' := { d with np := d.np + vs.toArray.size, nt := _ }) hns₁ W₁ a₁ rfl rfl rfl rfl (W₁.iva d hd) (P' := fun j => if j = k then P k + ps.length else P j) (S' := S)
        (by simp only [hdk, if_true]; rw [(a₁.at' d hd).1, hdk, List.size_toArray, hps]) (a₁.at' d hd).2 (fun j hj => by rw [hdk] at hj; simp only [hj, if_false]) (fun _ _ => rfl)).1
    · exact (put_at (d' := { d with np := d.np + vs.toArray.size, nt := _ }) hns₁ W₁ a₁ rfl rfl rfl rfl (W₁.iva d hd) (P' := fun j => if j = k then P k + ps.length else P j) (S' := S)
        (by simp only [hdk, if_true]; rw [(a₁.at' d hd).1, hdk, List.size_toArray, hps]) (a₁.at' d hd).2 (fun j hj => by rw [hdk] at hj; simp only [hj, if_false]) (fun _ _ => rfl)).2.1
    · simpa [hrv] using hf₁
    · simpa [hns₁] using hl₁
  walk_at "m_stop"
  clear N9 W₁ a₁ hns₁ hd hf₁ hl₁ hdk e1 e2 e3 e4 e5 e6 e7 e8 e9 o1 o2
  refine ForAt.tuple (its := vs.toArray) (by assumption) F9 N8 (fun m₀ nw₀ i m nw => Up2 (Str.ofString "pred") (Str.ofString "pred_info") m₀ m ∧ ∃ σᵢ ksᵢ, WF w σᵢ ∧ Abs σᵢ ksᵢ (fun j => if j = k then P k + ps.length else P j) (fun j => S j ++ ((ps.take i).filter (· = j)).map fun _ => k) ∧
    (∀ j, j ∈ ksᵢ ↔ j ∈ ks ∨ j = k ∨ j ∈ ps.take i) ∧ (σᵢ.x = σ.x ∧ σᵢ.rv = .none ∧ σᵢ.p = σ.p ∧ σᵢ.f = σ.f) ∧ σᵢ.ns.length ≤ σ.ns.length + 1 + i ∧ nw = srtL w.params σᵢ)
    (fun _ _ _ _ => .inl hD) ⟨Up2.refl _ _ _, σ₂, ks₁, W₂, by simpa using a₂, by simpa using hks₁, hf₂, hl₂, rfl⟩ ?_ ?_
  · intro I i v m₁ nw h tk oI E' hi hv hJ09 off F N
    try k_fold
    obtain ⟨⟨u1, u2, rfl⟩, σᵢ, ksᵢ, Wᵢ, aᵢ, hksᵢ, ⟨f1, f2, f3, f4⟩, hlᵢ, rfl⟩ := hJ09
    obtain ⟨j, hj, tj, rfl⟩ : ∃ j, ps[i]? = some j ∧ ∃ tj, v = .int j tj := ii_at hvs i v (by simpa using hv)
    simp only [srtL, f1, f2] at N
    have hi7 : i < 7 := by omega
    clear N8 F9 W₂ a₂ hks₁ hf₂ hl₂ hlt hg hQ W a ho hvs hk hv hi hps hD
    walk_at "m_go"
    rename Fr _ _ _ _ => F9
    refine nodeinfo_in (σ := σᵢ) f1 (rest := [(I, oI)]) KX' T' F9 (by simp only [srtL, f1, f2]; simp only [List.cons_append, List.nil_append]; assumption) ?_ ?_ ?_ (by assumption) Wᵢ aᵢ (by omega) ?_
    · intro p hp hm
      rw [List.mem_singleton.mp hp] at hm
      obtain ⟨q, hq, e⟩ := List.mem_map.mp hm
      exact off q hq e
    · simp only [depth_in1, depth_deeper]; omega
    · k_units
    intro σ₃ pre₃ d₃ post₃ ks₃ h₃ tk₃ hns₃ W₃ hdk₃ a₃ hks₃ hf₃ hl₃ F₃ N₃ hr₃
    obtain ⟨⟨⟨e1, e2, e3, e4, e5⟩, e6, e7, e8, e9⟩, o1, o2⟩ := expl_off hns₃ W₃
    have ne₃ : ∀ p ∈ srtL w.params σ₃, p.1 ≠ I := fun p hp e => hr₃ _ (.head _) (List.mem_map.mpr ⟨p, hp, e⟩)
    have i1 : @Ne Nat I d₃.l := fun e => ne₃ (d₃.l, W.listOf d₃.sv.toArray d₃.sn) (by rw [put_same hns₃]; exact (mem_expl _).mp (.tail _ (.head _))) e.symm
    simp only [expl, List.cons_append, List.nil_append] at N₃
    clear hr₃ off aᵢ Wᵢ
    have hd : d₃ ∈ σ₃.ns := by rw [hns₃]; exact List.mem_append_right _ (.head _)
    have hsl : d₃.sv.toArray.size ≤ 500 := by
      rw [List.size_toArray, IntsAre.length (W₃.iva d₃ hd), (a₃.at' d₃ hd).2, List.length_append, List.length_map]
      have h1 := hSl d₃.key
      have h2 := List.length_filter_le (fun x => decide (x = d₃.key)) (ps.take i)
      have h3 := List.length_take_le i ps
      omega
    walk_at "m_go"
    rename Fr _ _ _ _ => F8
    rename News _ _ _ _ => N8
    have hS : ∀ j', j' ≠ d₃.key → S j' ++ ((ps.take (i + 1)).filter (· = j')).map (fun _ => k) = S j' ++ ((ps.take i).filter (· = j')).map (fun _ => k) := by
      intro j' hj'
      rw [hdk₃] at hj'
      have : decide (j = j') = false := decide_eq_false (Ne.symm hj')
      simp [List.take_add_one, hj, this]
    have hS2 : S d₃.key ++ ((ps.take (i + 1)).filter (· = d₃.key)).map (fun _ => k) = (S d₃.key ++ ((ps.take i).filter (· = d₃.key)).map (fun _ => k)) ++ [k] := by
      simp [List.take_add_one, hj, hdk₃]
    rw [show d₃.sv.toArray.push (Value.int k t) = (d₃.sv ++ [Value.int k t]).toArray by simp] at N8
    obtain ⟨sn', N7⟩ : ∃ sn', News g L' _ ((I, oI) :: expl w.params σ₃ pre₃ { d₃ with su := d₃.su ++ [k], sv := d₃.sv ++ [.int k t], sn := sn' } post₃) := ⟨_, N8⟩
    obtain ⟨W₄, a₄, hX₄⟩ := put_at (d' := { d₃ with su := d₃.su ++ [k], sv := d₃.sv ++ [.int k t], sn := sn' }) (S' := fun j => S j ++ ((ps.take (i + 1)).filter (· = j)).map fun _ => k) hns₃ W₃ a₃ rfl rfl rfl rfl (IntsAre.append (W₃.iva d₃ hd) (.cons _ _ .nil))
      (a₃.at' d₃ hd).1 (by show d₃.su ++ [k] = _; rw [hS2, (a₃.at' d₃ hd).2]) (fun _ _ => rfl) hS
    refine TurnEnd.intro (nw' := srtL w.params { σ₃ with ns := pre₃ ++ { d₃ with su := d₃.su ++ [k], sv := d₃.sv ++ [.int k t], sn := sn' } :: post₃ }) F8 (nw_sub N7 ?_) ?_ ⟨by walk_at "m_up", _, ks₃, W₄, a₄, ?_, ?_, ?_, rfl⟩
    · intro p hp
      rcases List.mem_cons.mp hp with rfl | hp
      · exact .head _
      · have h1 := (mem_expl (ps := w.params) (σ := σ₃) (pre := pre₃) (d := { d₃ with su := d₃.su ++ [k], sv := d₃.sv ++ [.int k t], sn := sn' }) (post := post₃) p).mpr hp
        exact .tail _ h1
    · intro p hp
      have h1 : p.1 ∈ srtX w.params σ₃ := hX₄ ▸ List.mem_map_of_mem hp
      obtain ⟨q, hq, e⟩ := List.mem_map.mp h1
      rw [← e]; exact ne₃ q hq
    · intro j'
      rw [hks₃, hksᵢ, List.take_add_one, hj]
      simp only [List.mem_append, Option.toList_some, List.mem_singleton]
      constructor
      · rintro ((h | h | h) | h) <;> simp [h]
      · rintro (h | h | h | h) <;> simp [h]
    · exact ⟨hf₃.1.trans f1, hf₃.2.1.trans f2, hf₃.2.2.1.trans f3, hf₃.2.2.2.trans f4⟩
    · have : (pre₃ ++ d₃ :: post₃).length ≤ σ.ns.length + 1 + (i + 1) := by rw [← hns₃]; omega
      simpa using this
  · intro m₁ nw h tk hJ09 F N
    try k_fold
    obtain ⟨⟨u1, u2, rfl⟩, σᵢ, ksᵢ, Wᵢ, aᵢ, hksᵢ, ⟨f1, f2, f3, f4⟩, hlᵢ, rfl⟩ := hJ09
    clear N8 F9
    have hsz : vs.toArray.size = ps.length := by rw [List.size_toArray, hps]
    rw [hsz] at hksᵢ hlᵢ
    simp only [hsz, List.take_length] at aᵢ
    rw [List.take_length] at hksᵢ
    walk_at "m_go"
    rename Fr _ _ _ _ => F9
    rename News _ _ _ _ => N9
    try dsimp only
    exact hQ σᵢ ksᵢ _ _ Wᵢ aᵢ hksᵢ f1 f2 f3 f4 hlᵢ (keep_back hg F9) (fun p hp => ⟨(N9 p hp).1, fresh_or hg (N9 p hp).2.2⟩)
end

end P23
section P24
noncomputable abbrev rdyL (ps : Params) (σ : Srt) (rl : Addr) (vs : List Value) (n : Nat) : List (Addr × Obj) := (rl, W.listOf vs.toArray n) :: srtL ps σ
noncomputable abbrev rdyX (ps : Params) (σ : Srt) (rl : Addr) : List Addr := rl :: srtX ps σ
theorem meets_bool_new_list (l : Addr) (its : Array Value) (hfit : (its.size : Int) < 2 ^ 63) :
    Meets (Builtin.«bool.__new__» ⟨[.type "bool", .ref l], []⟩) (fun _ R s => s.heap.IsList l its ∧ R (.ok (.ret (.bool (!its.isEmpty)))) { s with toks := s.toks + 1 + 1 }) :=
  Meets.of_wp fun prog w A R s hs => by
    obtain ⟨hp, g, d, tk, os⟩ := s
    obtain ⟨hl, hs⟩ := hs
    have f1 := F.conv_sub_bool
    repeat (any_goals (first | assumption | (with_reducible refine wpAny_truthy_list hl hfit ?_) | wp_step))
    all_goals first | exact ⟨_, rfl, hs⟩ | exact hs | skip
theorem call_bool_list {prog : Program} {w : World} {A : Around} {E : Value → Shared → Prop} {s : Shared} {l : Addr} {its : Array Value} {Q : Value → Shared → Prop} (hl : s.heap.IsList l its) (hfit : (its.size : Int) < 2 ^ 63) (h : Q (.bool (!its.isEmpty)) { s with toks := s.toks + 1 + 1 }) :
    wpAny (model prog w) A (call (.type "bool") [.ref l]) Q E s :=
  call_bool_1 (meets_bool_new_list l its hfit) ⟨hl, (show wants (fun obj s₁ => s₁.TypeIs obj "bool" ∧ Q obj s₁) E _ _ from ⟨rfl, h⟩)⟩
theorem ru24x0 : True := by
  k_with "call type:bool" => ((k_here; (with_reducible show wpAny _ _ (call _ [Value.ref _]) _ _ _); k_dflt (refine call_bool_list (by is_list) (by omega) ?_)))
  trivial

section
variable {w : World} {A : Around} {s : Shared} {mean : ExcName → Option Value} {mg mb : Str → Option Value} {Q E : Value → Shared → Prop} {h₀ : Heap} {σ : Srt} {rl : Addr} {vs : List Value} {n : Nat} {rs : List Int}
set_option maxHeartbeats 4000000 in
theorem active_ok (KX : (hd.heap_39 w.params).In h₀) (T : Top hd.view_39 LS mean mg mb h₀) (hk : LK h₀ s.heap) (hroom : A.depth + 20 < recursionLimit) (hu : A.units + 200 < cLine) (hh : A.handled = none)
    (hrv : σ.rv = .ref rl) (ho : ∀ p ∈ rdyL w.params σ rl vs n, s.heap.get? p.1 = some p.2 ∧ h₀.get? p.1 = none) (hvs : IntsAre vs rs) (hvl : vs.length ≤ 100)
    (hQ : ∀ h' tk, LK s.heap h' → Q (.bool (decide (σ.f < σ.p) || !rs.isEmpty)) { s with heap := h', toks := tk }) :
    wpAny (model PR w) A (call (.ref 185) [.ref σ.x] []) Q E s := by
  refine call_freezeX (X := rdyX w.params σ rl) (news := rdyL w.params σ rl vs n) (binds := [(Str.ofString "self", .ref σ.x)]) KX T hk ?_ ?_ (by k_is) (by k_is) (by omega) (BindsTo.of_eq rfl) (locs rfl) ?_ rfl rfl rfl (by decide)
  · intro y hy
    have hy : y ∈ (rdyL w.params σ rl vs n).map (·.1) := hy
    obtain ⟨p, hp, rfl⟩ := List.mem_map.mp hy
    exact (ho p hp).2
  · intro q hq
    exact ⟨(ho q hq).1, List.mem_map_of_mem (f := (·.1)) hq⟩
  intro g L' h₁ KX' T' hg hlt F N
  simp only [rdyL, srtL, hrv] at N
  have hz : vs.toArray.size ≤ 100 := by simpa using hvl
  walk_at "m_go"
  · have h1 := hQ
    simp only [decide_eq_true (show σ.f < σ.p by assumption), Bool.true_or] at h1 ⊢
    rename Fr _ _ _ _ => F9
    rename News _ _ _ _ => N9
    exact h1 _ _ (lk_ro (rec := rdyL w.params σ rl vs n) rfl (fun p hp => (ho p hp).1) hg F9 N9 (fun p hp => by simpa only [rdyL, srtL, hrv] using hp))
  · have h1 := hQ
    have e : (!vs.toArray.isEmpty) = (!rs.isEmpty) := by cases hvs <;> rfl
    simp only [decide_eq_false (show ¬ σ.f < σ.p by assumption), Bool.false_or] at h1 ⊢
    rename Fr _ _ _ _ => F9
    rename News _ _ _ _ => N9
    rw [e]
    exact h1 _ _ (lk_ro (rec := rdyL w.params σ rl vs n) rfl (fun p hp => (ho p hp).1) hg F9 N9 (fun p hp => by simpa only [rdyL, srtL, hrv] using hp))
end

end P24
section P25
theorem clear_any {prog : Program} {w : World} {A : Around} {E : Value → Shared → Prop} {s : Shared} {h₀ : Heap} {L D : Addr} {m : Str → Option Value} {news : List (Addr × Obj)} {g : Obj → List (Addr × Obj)} {its : Array Value} {n : Nat} {Q : Value → Shared → Prop}
    (F : Fr h₀ L s.heap m) (N : News h₀ L s.heap news) (U : UpdF D (listOf its n) news g) (hz : its.size ≤ sizeLine) (h : ∀ h' n', Fr h₀ L h' m → News h₀ L h' (g (listOf #[] n')) → Q .none { s with heap := h' }) :
    wpAny (model prog w) A (call (.builtin "list.clear") [.ref D]) Q E s := by
  obtain ⟨pre, post, rfl, hg, a, b⟩ := U.split
  have hm := N (D, listOf its n) (List.mem_append_right _ (.head _))
  have q := PySem.IsL.update hm.1 (fun _ => #[])
  exact call_meets PySem.F.slot_list_clear ⟨_, hm.1, rfl⟩ PySem.F.entry_list_clear (PySem.F.args_list_clear_1 _) (PySem.AutoSeq1.list_clear_list_0 D its n hz) ⟨hm.1, h _ _ (F.change (Heap.SameBut.update ..) hm.2.1 hm.2.2) (hg _ ▸ N.setIn a b (Heap.SameBut.update ..) q)⟩
theorem ru25x0 : True := by
  k_with "call builtin:list.clear" => ((k_here; (with_reducible show wpAny _ _ (call (Value.builtin _) [Value.ref _]) _ _ _); k_dflt (refine' clear_any ?zzF ?zzN ?zzU ?zzz ?_; (case zzF => k_asm); (case zzN => k_asm); (case zzU => k_updF); (case zzz => rw [sizeLine_eq]; omega)); intro _ _ _; walk_at "t_8"))
  trivial

theorem wf_p {w : World} {σ : Srt} {p : Int} {pt : Tok} (h : WF w σ) : WF w { σ with p := p, pt := pt } := ⟨h.lo, h.od, h.iva, h.nodup, h.kn⟩
theorem rdy_cls {w : World} {σ : Srt} {rl : Addr} {vs : List Value} {n : Nat} (W : WF w σ) : ∀ p ∈ rdyL w.params σ rl vs n, p.2.cls ≠ .type "tuple" := by
  intro p hp e
  simp only [rdyL, srtL, List.mem_cons] at hp
  rcases hp with rfl | rfl | rfl | rfl | hp
  · exact absurd e (by show Value.type "list" ≠ _; decide)
  · exact absurd e (by show Value.ref 216 ≠ _; decide)
  · exact absurd e (by show Value.type "dict" ≠ _; decide)
  · obtain ⟨_, _, h, _⟩ := W.od
    have := h.1
    rw [e] at this
    exact absurd this (by decide)
  · obtain ⟨d, _, hd⟩ := List.mem_flatMap.mp hp
    simp only [ndL, List.mem_cons, List.not_mem_nil, or_false] at hd
    rcases hd with rfl | rfl | rfl
    · exact absurd e (by show Value.ref 119 ≠ _; decide)
    · exact absurd e (by show Value.type "dict" ≠ _; decide)
    · exact absurd e (by show Value.type "list" ≠ _; decide)
theorem kvs_at {w : World} {σ : Srt} {d : Nd} (W : WF w σ) (hd : d ∈ σ.ns) : valueAt (kvs σ.ns) d.key = some (.ref d.i) := by
  obtain ⟨i, hi⟩ := List.getElem?_of_mem hd
  refine valueAt_of_get (i := i) ?_ ?_
  · rw [kvs, List.map_map]; exact W.kn
  · rw [kvs, List.getElem?_map, hi]; rfl
section
variable {w : World} {A : Around} {s : Shared} {mean : ExcName → Option Value} {mg mb : Str → Option Value} {Q E : Value → Shared → Prop} {h₀ : Heap} {σ : Srt} {rl : Addr} {vs : List Value} {n : Nat} {rs : List Int}
set_option maxHeartbeats 4000000 in
theorem ready_ok {ks : List Int} {P : Int → Int} {S : Int → List Int} (KX : (hd.heap_39 w.params).In h₀) (T : Top hd.view_39 LS mean mg mb h₀) (hk : LK h₀ s.heap) (hroom : A.depth + 20 < recursionLimit) (hu : A.units + 200 < cLine) (hh : A.handled = none)
    (Wf : WF w σ) (a : Abs σ ks P S) (hrl : rl ∉ srtX w.params σ)
    (hrv : σ.rv = .ref rl) (ho : ∀ p ∈ rdyL w.params σ rl vs n, s.heap.get? p.1 = some p.2 ∧ h₀.get? p.1 = none) (hvs : IntsAre vs rs) (hvl : vs.length ≤ 100) (hks : ∀ r ∈ rs, r ∈ ks)
    (hQ : ∀ σ' D n' h' tk, WF w σ' → Abs σ' ks (fun j => if j ∈ rs then -1 else P j) S → (σ'.x = σ.x ∧ σ'.rv = σ.rv ∧ σ'.p = σ.p + rs.length ∧ σ'.f = σ.f) → srtX w.params σ' = srtX w.params σ →
      (∀ b o, b ∉ rdyX w.params σ rl → s.heap.get? b = some o → h'.get? b = some o) → (∀ p ∈ rdyL w.params σ' rl [] n', h'.get? p.1 = some p.2 ∧ (p.1 ∈ rdyX w.params σ rl ∨ s.heap.get? p.1 = none)) → h'.get? D = some ({ cls := .type "tuple", data := .seq vs.toArray } : Obj) → D ∉ rdyX w.params σ' rl → s.heap.get? D = none →
      Q (.ref D) { s with heap := h', toks := tk }) :
    wpAny (model PR w) A (call (.ref 178) [.ref σ.x] []) Q E s := by
  refine call_freezeX (X := rdyX w.params σ rl) (news := rdyL w.params σ rl vs n) (binds := [(Str.ofString "self", .ref σ.x)]) KX T hk ?_ ?_ (by k_is) (by k_is) (by omega) (BindsTo.of_eq rfl) (locs rfl) ?_ rfl rfl rfl (by decide)
  · intro y hy
    have hy : y ∈ (rdyL w.params σ rl vs n).map (·.1) := hy
    obtain ⟨p, hp, rfl⟩ := List.mem_map.mp hy
    exact (ho p hp).2
  · intro q hq
    exact ⟨(ho q hq).1, List.mem_map_of_mem (f := (·.1)) hq⟩
  intro g L' h₁ KX' T' hg hlt F N
  simp only [rdyL, srtL, hrv] at N
  have hz : vs.toArray.size ≤ 100 := by simpa using hvl
  walk_at "m_go"
  rename_i D9 _ _ _ _ F9 N9
  have hDX : D9 ∉ rdyX w.params σ rl := by
    intro hm
    have hm : D9 ∈ (rdyL w.params σ rl vs n).map (·.1) := hm
    obtain ⟨p, hp, e⟩ := List.mem_map.mp hm
    have hp2 := hp
    simp only [rdyL, srtL, hrv] at hp2
    have h1 := (N9 p (List.mem_cons_of_mem _ hp2)).1
    rw [e, (N9 _ (.head _)).1] at h1
    exact rdy_cls Wf p hp (by rw [← Option.some.inj h1])
  walk_at "m_stop"
  refine ForAt.tuple (its := vs.toArray) (by assumption) F9 N9 (fun m₀ nw₀ i m nw => Up1 (Str.ofString "node") m₀ m ∧ ∃ σᵢ, WF w σᵢ ∧ Abs σᵢ ks (fun j => if j ∈ rs.take i then -1 else P j) S ∧ (σᵢ.x = σ.x ∧ σᵢ.rv = .ref rl ∧ σᵢ.p = σ.p ∧ σᵢ.f = σ.f ∧ σᵢ.nd = σ.nd) ∧
    srtX w.params σᵢ = srtX w.params σ ∧ nw = (D9, { cls := .type "tuple", data := .seq vs.toArray }) :: (rl, W.listOf vs.toArray n) :: srtL w.params σᵢ)
    ?_ ⟨Up1.refl _ _, σ, Wf, by simpa using a, ⟨rfl, hrv, rfl, rfl, rfl⟩, rfl, by simp only [srtL, hrv]⟩ ?_ ?_
  · rintro i m' nw ⟨_, σᵢ, _, _, _, _, rfl⟩
    exact .inr ⟨_, .head _, rfl, _, rfl⟩
  · intro I i v m₁ nw h tk oI E' hi hv hJ09 off F N
    try k_fold
    obtain ⟨⟨u1, rfl⟩, σᵢ, Wᵢ, aᵢ, ⟨f1, f2, f3, f4, f5⟩, hXᵢ, rfl⟩ := hJ09
    obtain ⟨r, hr, tr, rfl⟩ : ∃ j, rs[i]? = some j ∧ ∃ tj, v = .int j tj := ii_at hvs i v (by simpa using hv)
    obtain ⟨d, hd, hdr⟩ : ∃ d ∈ σᵢ.ns, d.key = r := by
      have h1 := hks r (List.mem_of_getElem? hr)
      rw [← aᵢ.kse] at h1
      exact List.mem_map.mp h1
    have hval := kvs_at Wᵢ hd
    rw [hdr] at hval
    have hod := Wᵢ.od
    obtain ⟨pre, post, hns⟩ := List.append_of_mem hd
    obtain ⟨⟨⟨e1, e2, e3, e4, e5⟩, _⟩, o1, _⟩ := expl_off hns Wᵢ
    have hI : ∀ p ∈ srtL w.params σᵢ, p.1 ≠ I := fun p hp => off p (.tail _ (.tail _ hp))
    have hmd : (d.i, infoObj d.dx (.int d.key d.kt) (.int d.np d.nt) (.ref d.l)) ∈ srtL w.params σᵢ := by rw [put_same hns]; exact (mem_expl _).mp (.head _)
    have hdX : d.i ∈ srtX w.params σ := hXᵢ ▸ List.mem_map_of_mem (f := (·.1)) hmd
    have i1 : @Ne Nat d.i I := hI _ hmd
    have i2 : @Ne Nat d.i D9 := fun e => hDX (e ▸ .tail _ hdX)
    have i3 : @Ne Nat d.i rl := fun e => hrl (e ▸ hdX)
    have oI1 : I ≠ D9 := fun e => off _ (.head _) e.symm
    have oI2 : I ≠ rl := fun e => off _ (.tail _ (.head _)) e.symm
    have N2 : News g L' h ((I, oI) :: (D9, { cls := .type "tuple", data := .seq vs.toArray }) :: (rl, W.listOf vs.toArray n) :: expl w.params σᵢ pre d post) := nw_sub N (by
      intro p hp
      simp only [List.mem_cons] at hp
      rcases hp with rfl | rfl | rfl | hp
      · exact .head _
      · exact .tail _ (.head _)
      · exact .tail _ (.tail _ (.head _))
      · refine .tail _ (.tail _ (.tail _ ?_))
        rw [put_same hns]
        exact (mem_expl p).mp (by simpa only [expl, List.mem_cons] using hp))
    simp only [expl, f2, f5] at N2
    rw [f5] at e5
    clear N N9 F9 off hQ ho hlt hg Wf a hvs hvl hks hdX hmd hi hv
    walk_at "m_go"
    rename Fr _ _ _ _ => F8
    rename News _ _ _ _ => N8
    obtain ⟨nt', N7⟩ : ∃ nt', News g L' _ ((I, oI) :: (D9, { cls := .type "tuple", data := .seq vs.toArray }) :: (rl, W.listOf vs.toArray n) :: (d.i, infoObj d.dx (.int d.key d.kt) (.int (-1) nt') (.ref d.l)) :: (d.l, W.listOf d.sv.toArray d.sn) :: (d.dx, dictOf [] 0) :: (σᵢ.x, instObj 216 σᵢ.dx) :: (σᵢ.dx, dictOf (srtD w.params (.ref σ.nd) (.ref rl) (.int σᵢ.p σᵢ.pt) (.int σᵢ.f σᵢ.ft) σᵢ.t1 σᵢ.t2 σᵢ.t3 σᵢ.t4) 4) :: (σ.nd, σᵢ.ond) :: (ndsL pre ++ ndsL post)) := ⟨_, N8⟩
    obtain ⟨W₄, a₄, hX₄⟩ := put_at (d' := { d with np := -1, nt := nt' }) (P' := fun j => if j ∈ rs.take (i + 1) then -1 else P j) (S' := S) hns Wᵢ aᵢ rfl rfl rfl rfl (Wᵢ.iva d hd)
      (by simp [List.take_add_one, hr, hdr]) (aᵢ.at' d hd).2 (fun j hj => by rw [hdr] at hj; simp [List.take_add_one, hr, hj]) (fun _ _ => rfl)
    refine TurnEnd.intro (nw' := (D9, { cls := .type "tuple", data := .seq vs.toArray }) :: (rl, W.listOf vs.toArray n) :: srtL w.params { σᵢ with ns := pre ++ { d with np := -1, nt := nt' } :: post }) F8 (nw_sub N7 ?_) ?_ ⟨by walk_at "m_up", _, W₄, a₄, ⟨f1, f2, f3, f4, f5⟩, hX₄.trans hXᵢ, rfl⟩
    · intro p hp
      rcases List.mem_cons.mp hp with rfl | hp
      · exact .head _
      rcases List.mem_cons.mp hp with rfl | hp
      · exact .tail _ (.head _)
      rcases List.mem_cons.mp hp with rfl | hp
      · exact .tail _ (.tail _ (.head _))
      · have h1 := (mem_expl (ps := w.params) (σ := σᵢ) (pre := pre) (d := { d with np := -1, nt := nt' }) (post := post) p).mpr hp
        simp only [expl, f2, f5] at h1
        exact .tail _ (.tail _ (.tail _ h1))
    · refine List.forall_mem_cons.mpr ⟨Ne.symm oI1, List.forall_mem_cons.mpr ⟨Ne.symm oI2, ?_⟩⟩
      intro p hp
      have h1 : p.1 ∈ srtX w.params σᵢ := hX₄ ▸ List.mem_map_of_mem (f := (·.1)) hp
      obtain ⟨q, hq, e⟩ := List.mem_map.mp h1
      rw [← e]; exact hI q hq
  · intro m₁ nw h tk hJ09 F N
    try k_fold
    obtain ⟨⟨u1, rfl⟩, σᵢ, Wᵢ, aᵢ, ⟨f1, f2, f3, f4, f5⟩, hXᵢ, rfl⟩ := hJ09
    have hsz : vs.toArray.size = rs.length := by rw [List.size_toArray, IntsAre.length hvs]
    simp only [hsz, List.take_length] at aᵢ
    obtain ⟨⟨n1, n2, n3⟩, n4, n5, n6⟩ := Wᵢ.off
    have hsub : ∀ p ∈ srtL w.params σᵢ, p.1 ∈ srtX w.params σ := fun p hp => hXᵢ ▸ List.mem_map_of_mem (f := (·.1)) hp
    have r1 : @Ne Nat rl σᵢ.x := fun e => hrl (e ▸ hsub _ (.head _))
    have r2 : @Ne Nat rl σᵢ.dx := fun e => hrl (e ▸ hsub _ (.tail _ (.head _)))
    have r3 : @Ne Nat rl σᵢ.nd := fun e => hrl (e ▸ hsub _ (.tail _ (.tail _ (.head _))))
    have r4 : ∀ p ∈ ndsL σᵢ.ns, p.1 ≠ rl := fun p hp e => hrl (e ▸ hsub _ (.tail _ (.tail _ (.tail _ hp))))
    have r5 : @Ne Nat D9 rl := fun e => hDX (e ▸ .head _)
    have r6 : @Ne Nat D9 σᵢ.dx := fun e => hDX (e ▸ .tail _ (hsub _ (.tail _ (.head _))))
    simp only [srtL, f1, f2] at N
    rw [f1] at r1 n1 n2
    clear N9 F9 ho Wf a hsub n4 n2
    walk_at "m_go"
    rename Fr _ _ _ _ => F8
    rename News _ _ _ _ => N8
    obtain ⟨pt', n', N7⟩ : ∃ pt' n', News g L' _ ((D9, { cls := .type "tuple", data := .seq vs.toArray }) :: rdyL w.params { σᵢ with p := σᵢ.p + vs.toArray.size, pt := pt' } rl [] n') := ⟨_, _, by simp only [rdyL, srtL, f1, f2]; exact N8⟩
    try dsimp only
    refine hQ { σᵢ with p := σᵢ.p + vs.toArray.size, pt := pt' } D9 n' _ _ (wf_p Wᵢ) ⟨aᵢ.kse, aᵢ.at', aᵢ.off⟩ ⟨f1, f2.trans hrv.symm, by rw [f3, hsz], f4⟩ hXᵢ (keep_back hg F8) (fun p hp => ⟨(N7 p (.tail _ hp)).1, fresh_or hg (N7 p (.tail _ hp)).2.2⟩) (N7 _ (.head _)).1 ?_ ((fresh_or hg (N7 _ (.head _)).2.2).resolve_left hDX)
    intro hm
    exact hDX (by rcases List.mem_cons.mp hm with e | e
                  · exact e ▸ .head _
                  · exact .tail _ (hXᵢ ▸ e))
end

end P25
section P26
noncomputable def updP (P : Int → Int) (x v : Int) : Int → Int := fun j => if j = x then v else P j
noncomputable def stepD (pr : (Int → Int) × List Int) (x : Int) : (Int → Int) × List Int := (updP pr.1 x (pr.1 x - 1), if pr.1 x - 1 = 0 then pr.2 ++ [x] else pr.2)
noncomputable def doneD (S : Int → List Int) (pr : (Int → Int) × List Int) (r : Int) : (Int → Int) × List Int := (S r).foldl stepD (updP pr.1 r (-2), pr.2)
theorem np_at {w : World} {σ : Srt} {pre post : List Nd} {d : Nd} {ks : List Int} {P : Int → Int} {S : Int → List Int} (h : σ.ns = pre ++ d :: post) (W : WF w σ) (a : Abs σ ks P S) (v : Int) (t : Tok) :
    WF w { σ with ns := pre ++ { d with np := v, nt := t } :: post } ∧ Abs { σ with ns := pre ++ { d with np := v, nt := t } :: post } ks (updP P d.key v) S ∧ srtX w.params { σ with ns := pre ++ { d with np := v, nt := t } :: post } = srtX w.params σ := by
  have hd : d ∈ σ.ns := by rw [h]; exact List.mem_append_right _ (.head _)
  exact put_at (d' := { d with np := v, nt := t }) (P' := updP P d.key v) (S' := S) h W a rfl rfl rfl rfl (W.iva d hd) (by simp [updP]) (a.at' d hd).2 (fun j hj => by simp [updP, hj]) (fun _ _ => rfl)
theorem np_keep {σ : Srt} {pre post : List Nd} {d d' : Nd} (h : σ.ns = pre ++ d :: post) (hk : d'.key = d.key) (hl : d'.l = d.l) (hs : d'.sv = d.sv) (hn : d'.sn = d.sn) {k : Int} {l : Addr} {sv : List Value} {sn : Nat} (x : ∃ e ∈ σ.ns, e.key = k ∧ e.l = l ∧ e.sv = sv ∧ e.sn = sn) :
    ∃ e ∈ pre ++ d' :: post, e.key = k ∧ e.l = l ∧ e.sv = sv ∧ e.sn = sn := by
  obtain ⟨e, he, r⟩ := x
  rw [h] at he
  rcases List.mem_append.mp he with he | he
  · exact ⟨e, List.mem_append_left _ he, r⟩
  · rcases List.mem_cons.mp he with rfl | he
    · exact ⟨d', List.mem_append_right _ (.head _), by rw [hk, hl, hs, hn]; exact r⟩
    · exact ⟨e, List.mem_append_right _ (.tail _ he), r⟩
theorem key_mem {w : World} {σ : Srt} {ks : List Int} {P : Int → Int} {S : Int → List Int} {r : Int} (W : WF w σ) (a : Abs σ ks P S) (h : r ∈ ks) : ∃ d ∈ σ.ns, d.key = r ∧ valueAt (kvs σ.ns) r = some (.ref d.i) := by
  rw [← a.kse] at h
  obtain ⟨d, hd, e⟩ := List.mem_map.mp h
  exact ⟨d, hd, e, e ▸ kvs_at W hd⟩
theorem done_keep {S : Int → List Int} {r : Int} : ∀ (rs : List Int) (pr : (Int → Int) × List Int), r ∉ rs → (∀ q ∈ rs, r ∉ S q) → (rs.foldl (doneD S) pr).1 r = pr.1 r
  | [], _, _, _ => rfl
  | q :: rs, pr, h1, h2 => by
    have step : ∀ (l : List Int) (pr : (Int → Int) × List Int), r ∉ l → (l.foldl stepD pr).1 r = pr.1 r := by
      intro l
      induction l with
      | nil => intro _ _; rfl
      | cons x l ih =>
        intro pr h
        rw [List.foldl_cons, ih _ fun e => h (.tail _ e)]
        have : r ≠ x := fun e => h (e ▸ .head _)
        simp [stepD, updP, this]
    rw [List.foldl_cons, done_keep rs _ (fun e => h1 (.tail _ e)) fun x hx => h2 x (.tail _ hx)]
    rw [doneD, step _ _ (h2 q (.head _))]
    have : r ≠ q := fun e => h1 (e ▸ .head _)
    simp [updP, this]
theorem fold_step {α : Type} {f : α → Int → α} {a : α} {l : List Int} {j : Nat} {x : Int} (h : l[j]? = some x) : (l.take (j + 1)).foldl f a = f ((l.take j).foldl f a) x := by
  rw [List.take_add_one, h, List.foldl_append]; rfl
theorem Up2.of {a b : Str} {m₀ m : Str → Option Value} (h : ∀ z, z ≠ a → z ≠ b → m z = m₀ z) : Up2 a b m₀ m := by
  refine ⟨m a, m b, funext fun z => ?_⟩
  by_cases h1 : z = a
  · subst h1; simp
  by_cases h2 : z = b
  · subst h2; simp [h1]
  simp [h1, h2, h z h1 h2]
noncomputable def Up5 (a b c d e : Str) (m₀ m : Str → Option Value) : Prop := ∃ u1 u2 u3 u4 u5, m = fun z => if z = a then u1 else if z = b then u2 else if z = c then u3 else if z = d then u4 else if z = e then u5 else m₀ z
theorem Up5.of {a b c d e : Str} {m₀ m : Str → Option Value} (h : ∀ z, z ≠ a → z ≠ b → z ≠ c → z ≠ d → z ≠ e → m z = m₀ z) : Up5 a b c d e m₀ m := by
  refine ⟨m a, m b, m c, m d, m e, funext fun z => ?_⟩
  by_cases h1 : z = a
  · subst h1; simp
  by_cases h2 : z = b
  · subst h2; simp [h1]
  by_cases h3 : z = c
  · subst h3; simp [h1, h2]
  by_cases h4 : z = d
  · subst h4; simp [h1, h2, h3]
  by_cases h5 : z = e
  · subst h5; simp [h1, h2, h3, h4]
  simp [h1, h2, h3, h4, h5, h z h1 h2 h3 h4 h5]
section
variable {w : World} {A : Around} {s : Shared} {mean : ExcName → Option Value} {mg mb : Str → Option Value} {Q E : Value → Shared → Prop} {h₀ : Heap} {σ : Srt} {rl : Addr} {us vs : List Value} {n : Nat} {rs ls : List Int}
set_option maxHeartbeats 4000000 in
theorem done_ok {ks : List Int} {P : Int → Int} {S : Int → List Int} (KX : (hd.heap_39 w.params).In h₀) (T : Top hd.view_39 LS mean mg mb h₀) (hk : LK h₀ s.heap) (hroom : A.depth + 20 < recursionLimit) (hu : A.units + 200 < cLine) (hh : A.handled = none)
    (Wf : WF w σ) (a : Abs σ ks P S) (hrl : rl ∉ srtX w.params σ)
    (hrv : σ.rv = .ref rl) (ho : ∀ p ∈ rdyL w.params σ rl us n, s.heap.get? p.1 = some p.2 ∧ h₀.get? p.1 = none) (hus : IntsAre us ls) (hul : us.length ≤ 100) (hvs : IntsAre vs rs) (hvl : vs.length ≤ 7) (hks : ∀ r ∈ rs, r ∈ ks ∧ P r = -1) (hnd : rs.Nodup)
    (hS : ∀ r ∈ rs, (S r).length ≤ 50 ∧ ∀ x ∈ S r, x ∈ ks ∧ x ∉ rs)
    (hQ : ∀ σ' us' n' h' tk, WF w σ' → Abs σ' ks (rs.foldl (doneD S) (P, ls)).1 S → IntsAre us' (rs.foldl (doneD S) (P, ls)).2 → (σ'.x = σ.x ∧ σ'.rv = σ.rv ∧ σ'.p = σ.p ∧ σ'.f = σ.f + rs.length) → srtX w.params σ' = srtX w.params σ →
      (∀ b o, b ∉ rdyX w.params σ rl → s.heap.get? b = some o → h'.get? b = some o) → (∀ p ∈ rdyL w.params σ' rl us' n', h'.get? p.1 = some p.2 ∧ (p.1 ∈ rdyX w.params σ rl ∨ s.heap.get? p.1 = none)) →
      Q .none { s with heap := h', toks := tk }) :
    codeAny (model PR w) A (.call (.ref 199) ⟨.ref σ.x :: vs, []⟩) (fun r s' => match r with | .ok (.ret v) => Q v s' | .ok _ => False | .error e => E e s') s := by
  refine code_freezeXV (E := E) (X := rdyX w.params σ rl) (news := rdyL w.params σ rl us n) (vs := vs) (binds := fun D => [(Str.ofString "self", .ref σ.x), (Str.ofString "nodes", .ref D)]) KX T hk ?_ ?_ ?_ (by k_is) (by k_is) (by omega) (g₁ := fun D => some [(Str.ofString "self", .ref σ.x), (Str.ofString "nodes", .ref D)]) ?_ (fun _ => rfl) (fun _ => locs rfl) ?_ rfl rfl rfl (by decide)
  · intro y hy
    have hy : y ∈ (rdyL w.params σ rl us n).map (·.1) := hy
    obtain ⟨p, hp, rfl⟩ := List.mem_map.mp hy
    exact (ho p hp).2
  · intro q hq
    exact ⟨(ho q hq).1, List.mem_map_of_mem (f := (·.1)) hq⟩
  · intro y hy
    have hy : y ∈ (rdyL w.params σ rl us n).map (·.1) := hy
    obtain ⟨p, hp, rfl⟩ := List.mem_map.mp hy
    rw [(ho p hp).1]; rfl
  · rcases vs with _ | ⟨a1, _ | ⟨a2, _ | ⟨a3, _ | ⟨a4, _ | ⟨a5, _ | ⟨a6, _ | ⟨a7, _ | ⟨a8, vs⟩⟩⟩⟩⟩⟩⟩⟩ <;> first | rfl | (simp only [List.length_cons] at hvl; omega)
  intro D g L' h₁ KX' T' hg hD hlt F N
  simp only [rdyL, srtL, hrv] at N
  walk_at "m_go"
  rename Fr _ _ _ _ => F9
  rename News _ _ _ _ => N9
  walk_at "m_stop"
  refine ForAt.tuple (its := vs.toArray) (by assumption) F9 N9 (fun m₀ nw₀ i m nw => Up5 (Str.ofString "node") (Str.ofString "nodeinfo") (Str.ofString "stat") (Str.ofString "successor") (Str.ofString "successor_info") m₀ m ∧ ∃ σᵢ usᵢ nᵢ, WF w σᵢ ∧ Abs σᵢ ks ((rs.take i).foldl (doneD S) (P, ls)).1 S ∧ IntsAre usᵢ ((rs.take i).foldl (doneD S) (P, ls)).2 ∧ usᵢ.length ≤ 100 + 50 * i ∧
    (σᵢ.x = σ.x ∧ σᵢ.rv = .ref rl ∧ σᵢ.p = σ.p ∧ σᵢ.f = σ.f + i ∧ σᵢ.nd = σ.nd) ∧ srtX w.params σᵢ = srtX w.params σ ∧ nw = (rl, W.listOf usᵢ.toArray nᵢ) :: srtL w.params σᵢ)
    (fun _ _ _ _ => .inl hD) ⟨Up5.of fun _ _ _ _ _ _ => rfl, σ, us, n, Wf, by simpa using a, by simpa using hus, by omega, ⟨rfl, hrv, rfl, by simp, rfl⟩, rfl, by simp only [srtL, hrv]⟩ ?_ ?_
  · intro I i v m₁ nw h tk oI E' hi hv hJ09 off F N
    try k_fold
    obtain ⟨⟨u1, u2, u3, u4, u5, rfl⟩, σᵢ, usᵢ, nᵢ, Wᵢ, aᵢ, husᵢ, hlᵢ, ⟨f1, f2, f3, f4, f5⟩, hXᵢ, rfl⟩ := hJ09
    obtain ⟨r, hr, tr, rfl⟩ : ∃ j, rs[i]? = some j ∧ ∃ tj, v = .int j tj := ii_at hvs i v (by simpa using hv)
    have hrm := List.mem_of_getElem? hr
    have hPr : ((rs.take i).foldl (doneD S) (P, ls)).1 r = -1 := by
      rw [done_keep]
      · exact (hks r hrm).2
      · intro hm
        obtain ⟨j, hj⟩ := List.getElem?_of_mem hm
        rw [List.getElem?_take] at hj
        split at hj
        · exact absurd ((List.getElem?_inj (by rw [List.getElem?_eq_some_iff] at hr; exact hr.1) hnd).mp (hr.trans hj.symm)) (by omega)
        · cases hj
      · intro q hq hm
        exact ((hS q (List.mem_of_mem_take hq)).2 r hm).2 hrm
    obtain ⟨d, hd, hdr, hval⟩ := key_mem Wᵢ aᵢ (hks r hrm).1
    have hod := Wᵢ.od
    have hlo := Wᵢ.lo
    have hnp : d.np = -1 := by rw [(aᵢ.at' d hd).1, hdr, hPr]
    obtain ⟨pre, post, hns⟩ := List.append_of_mem hd
    obtain ⟨⟨⟨e1, e2, e3, e4, e5⟩, _⟩, o1, _⟩ := expl_off hns Wᵢ
    have hI : ∀ p ∈ srtL w.params σᵢ, p.1 ≠ I := fun p hp => off p (.tail _ hp)
    have hmd : (d.i, infoObj d.dx (.int d.key d.kt) (.int d.np d.nt) (.ref d.l)) ∈ srtL w.params σᵢ := by rw [put_same hns]; exact (mem_expl _).mp (.head _)
    have hdX : d.i ∈ srtX w.params σ := hXᵢ ▸ List.mem_map_of_mem (f := (·.1)) hmd
    have i1 : @Ne Nat d.i I := hI _ hmd
    have i3 : @Ne Nat d.i rl := fun e => hrl (e ▸ hdX)
    have oI2 : @Ne Nat I rl := fun e => off _ (.head _) e.symm
    have N2 : News g L' h ((I, oI) :: (rl, W.listOf usᵢ.toArray nᵢ) :: expl w.params σᵢ pre d post) := nw_sub N (by
      intro p hp
      rcases List.mem_cons.mp hp with rfl | hp
      · exact .head _
      rcases List.mem_cons.mp hp with rfl | hp
      · exact .tail _ (.head _)
      · exact .tail _ (.tail _ (by rw [put_same hns]; exact (mem_expl p).mp hp)))
    simp only [expl, f2, f5, hnp] at N2
    rw [f5] at e5 hlo
    have hrl7 : rs.length ≤ 7 := by rw [← IntsAre.length hvs]; exact hvl
    clear N N9 F9 off ho hlt Wf a hvs hvl hks hmd hi hv hD
    walk_at "m_go"
    rename Fr _ _ _ _ => F8
    rename News _ _ _ _ => N8
    obtain ⟨σ₂, W₂, a₂, hf₂, hX₂, hk₂, N6⟩ : ∃ σ₂, WF w σ₂ ∧ Abs σ₂ ks (updP ((rs.take i).foldl (doneD S) (P, ls)).1 r (-2)) S ∧ (σ₂.x = σ.x ∧ σ₂.rv = .ref rl ∧ σ₂.p = σ.p ∧ σ₂.f = σ.f + i ∧ σ₂.nd = σ.nd) ∧ srtX w.params σ₂ = srtX w.params σ ∧ (∃ e ∈ σ₂.ns, e.key = r ∧ e.l = d.l ∧ e.sv = d.sv ∧ e.sn = d.sn) ∧ News g L' _ ((I, oI) :: (rl, W.listOf usᵢ.toArray nᵢ) :: srtL w.params σ₂) := by
      obtain ⟨nt', N7⟩ : ∃ nt', News g L' _ ((I, oI) :: (rl, W.listOf usᵢ.toArray nᵢ) :: (d.i, infoObj d.dx (.int d.key d.kt) (.int (-2) nt') (.ref d.l)) :: (d.l, W.listOf d.sv.toArray d.sn) :: (d.dx, dictOf [] 0) :: (σᵢ.x, instObj 216 σᵢ.dx) :: (σᵢ.dx, dictOf (srtD w.params (.ref σ.nd) (.ref rl) (.int σᵢ.p σᵢ.pt) (.int σᵢ.f σᵢ.ft) σᵢ.t1 σᵢ.t2 σᵢ.t3 σᵢ.t4) 4) :: (σ.nd, σᵢ.ond) :: (ndsL pre ++ ndsL post)) := ⟨_, N8⟩
      obtain ⟨W₄, a₄, hX₄⟩ := np_at hns Wᵢ aᵢ (-2) nt'
      rw [show updP ((rs.take i).foldl (doneD S) (P, ls)).1 d.key (-2) = updP ((rs.take i).foldl (doneD S) (P, ls)).1 r (-2) by rw [hdr]] at a₄
      refine ⟨_, W₄, a₄, ⟨f1, f2, f3, f4, f5⟩, hX₄.trans hXᵢ, np_keep (d' := { d with np := -2, nt := nt' }) hns rfl rfl rfl rfl ⟨d, hd, hdr, rfl, rfl, rfl⟩, nw_sub N7 ?_⟩
      intro p hp
      rcases List.mem_cons.mp hp with rfl | hp
      · exact .head _
      rcases List.mem_cons.mp hp with rfl | hp
      · exact .tail _ (.head _)
      · have h1 := (mem_expl (ps := w.params) (σ := σᵢ) (pre := pre) (d := { d with np := -2, nt := nt' }) (post := post) p).mpr hp
        simp only [expl, f2, f5] at h1
        exact .tail _ (.tail _ h1)
    have hsv : IntsAre d.sv (S r) := by have := Wᵢ.iva d hd; rwa [(aᵢ.at' d hd).2, hdr] at this
    have hSr := hS r hrm
    have hi7 : i < 7 := by
      have := (List.getElem?_eq_some_iff.mp hr).1
      omega
    have hIX : I ∉ srtX w.params σ := fun hm => by
      rw [← hXᵢ] at hm
      obtain ⟨p, hp, e⟩ := List.mem_map.mp hm
      exact hI p hp e
    walk_at "m_stop"
    clear N8 hI hdX i1 i3 e1 e2 e3 e4 e5 o1 hval hlo hod hnp aᵢ Wᵢ hns hd f1 f2 f3 f4 f5 hXᵢ hQ hPr hS
    refine ForAt.list (its := d.sv.toArray) (by assumption) F8 N6 (fun m₀ nw₀ j m nw => Up2 (Str.ofString "successor") (Str.ofString "successor_info") m₀ m ∧ ∃ τ ut tn, WF w τ ∧ Abs τ ks (((S r).take j).foldl stepD (updP ((rs.take i).foldl (doneD S) (P, ls)).1 r (-2), ((rs.take i).foldl (doneD S) (P, ls)).2)).1 S ∧
      IntsAre ut (((S r).take j).foldl stepD (updP ((rs.take i).foldl (doneD S) (P, ls)).1 r (-2), ((rs.take i).foldl (doneD S) (P, ls)).2)).2 ∧ ut.length ≤ 100 + 50 * i + j ∧ (τ.x = σ.x ∧ τ.rv = .ref rl ∧ τ.p = σ.p ∧ τ.f = σ.f + i ∧ τ.nd = σ.nd) ∧ srtX w.params τ = srtX w.params σ ∧
      (∃ e ∈ τ.ns, e.key = r ∧ e.l = d.l ∧ e.sv = d.sv ∧ e.sn = d.sn) ∧ nw = (I, oI) :: (rl, W.listOf ut.toArray tn) :: srtL w.params τ) ?_
      ⟨Up2.refl _ _ _, σ₂, usᵢ, nᵢ, W₂, a₂, husᵢ, by omega, hf₂, hX₂, hk₂, rfl⟩ ?_ ?_
    · rintro j m' nw ⟨_, τ, ut, tn, _, _, _, _, _, _, ⟨e, he, _, h1, h2, h3⟩, rfl⟩
      refine .inr ⟨W.listOf e.sv.toArray e.sn, ?_, rfl, _, by rw [h2]⟩
      rw [← h1]
      exact .tail _ (.tail _ (.tail _ (.tail _ (.tail _ (List.mem_flatMap.mpr ⟨e, he, .tail _ (.tail _ (.head _))⟩)))))
    · intro I2 j v m₂ nw h tk oI2 E'' hj hv hJ09 off F N
      try k_fold
      obtain ⟨⟨v1, v2, rfl⟩, τ, ut, tn, Wτ, aτ, hut, hutl, ⟨f1, f2, f3, f4, f5⟩, hXτ, hkτ, rfl⟩ := hJ09
      clear N6 F8
      obtain ⟨x, hx, tx, rfl⟩ : ∃ x, (S r)[j]? = some x ∧ ∃ tj, v = .int x tj := ii_at hsv j v (by simpa using hv)
      obtain ⟨d₂, hd₂, hdr₂, hval₂⟩ := key_mem Wτ aτ (hSr.2 x (List.mem_of_getElem? hx)).1
      have hod := Wτ.od
      obtain ⟨pre₂, post₂, hns₂⟩ := List.append_of_mem hd₂
      obtain ⟨⟨⟨e1, e2, e3, e4, e5⟩, _⟩, o1, _⟩ := expl_off hns₂ Wτ
      have hj50 : j < 50 := by
        have h1 := (List.getElem?_eq_some_iff.mp hx).1
        have h2 := hSr.1
        omega
      have hsubX : ∀ p ∈ expl w.params τ pre₂ d₂ post₂, p.1 ∈ srtX w.params σ := fun p hp => by
        rw [← hXτ, put_same hns₂]
        exact List.mem_map_of_mem (f := (·.1)) ((mem_expl p).mp hp)
      have rne : ∀ p ∈ expl w.params τ pre₂ d₂ post₂, p.1 ≠ rl := fun p hp e => hrl (e ▸ hsubX p hp)
      have Ine : ∀ p ∈ expl w.params τ pre₂ d₂ post₂, p.1 ≠ I := fun p hp e => hIX (e ▸ hsubX p hp)
      have I2ne : ∀ p ∈ expl w.params τ pre₂ d₂ post₂, p.1 ≠ I2 := fun p hp => off p (.tail _ (.tail _ (by rw [put_same hns₂]; exact (mem_expl p).mp hp)))
      have N2 : News g L' h ((I2, oI2) :: (I, oI) :: (rl, W.listOf ut.toArray tn) :: expl w.params τ pre₂ d₂ post₂) := nw_sub N (by
        intro p hp
        rcases List.mem_cons.mp hp with rfl | hp
        · exact .head _
        rcases List.mem_cons.mp hp with rfl | hp
        · exact .tail _ (.head _)
        rcases List.mem_cons.mp hp with rfl | hp
        · exact .tail _ (.tail _ (.head _))
        · exact .tail _ (.tail _ (.tail _ (by rw [put_same hns₂]; exact (mem_expl p).mp hp))))
      have oI3 : @Ne Nat I I2 := off _ (.head _)
      have oI4 : @Ne Nat rl I2 := off _ (.tail _ (.head _))
      have r1 : @Ne Nat d₂.i rl := rne _ (.head _)
      have r2 : @Ne Nat d₂.l rl := rne _ (.tail _ (.head _))
      have r3 : @Ne Nat d₂.dx rl := rne _ (.tail _ (.tail _ (.head _)))
      have r4 : @Ne Nat τ.x rl := rne _ (.tail _ (.tail _ (.tail _ (.head _))))
      have r5 : @Ne Nat τ.dx rl := rne _ (.tail _ (.tail _ (.tail _ (.tail _ (.head _)))))
      have r6 : @Ne Nat τ.nd rl := rne _ (.tail _ (.tail _ (.tail _ (.tail _ (.tail _ (.head _))))))
      have r7 : ∀ p ∈ ndsL pre₂ ++ ndsL post₂, p.1 ≠ rl := fun p hp => rne _ (.tail _ (.tail _ (.tail _ (.tail _ (.tail _ (.tail _ hp))))))
      have r8 : @Ne Nat d₂.i I := Ine _ (.head _)
      have r9 : @Ne Nat d₂.i I2 := I2ne _ (.head _)
      have huz : ut.toArray.size ≤ 1000 := by rw [List.size_toArray]; omega
      have hPx : d₂.np = (((S r).take j).foldl stepD (updP ((rs.take i).foldl (doneD S) (P, ls)).1 r (-2), ((rs.take i).foldl (doneD S) (P, ls)).2)).1 x := by rw [(aτ.at' d₂ hd₂).1, hdr₂]
      have hPn : updP (((S r).take j).foldl stepD (updP ((rs.take i).foldl (doneD S) (P, ls)).1 r (-2), ((rs.take i).foldl (doneD S) (P, ls)).2)).1 d₂.key (d₂.np - 1) = (stepD (((S r).take j).foldl stepD (updP ((rs.take i).foldl (doneD S) (P, ls)).1 r (-2), ((rs.take i).foldl (doneD S) (P, ls)).2)) x).1 := by
        rw [hPx, hdr₂]; rfl
      have hI2 : ∀ p ∈ srtL w.params τ, p.1 ≠ I2 := fun p hp => off p (.tail _ (.tail _ hp))
      simp only [expl, f1, f2, f5] at N2
      rw [f1] at e3 r4
      rw [f5] at e5 r6
      clear N off rne Ine I2ne hsubX W₂ a₂ hf₂ hX₂ hk₂ husᵢ hsv hSr hv hj hIX
      walk_at "m_go"
      · rename _ = _ => h0
        rename Fr _ _ _ _ => F8
        rename News _ _ _ _ => N8
        obtain ⟨nt', tn', N7⟩ : ∃ nt' tn', News g L' _ ((I2, oI2) :: (I, oI) :: (rl, W.listOf (ut ++ [Value.int x tx]).toArray tn') :: (d₂.i, infoObj d₂.dx (.int d₂.key d₂.kt) (.int (d₂.np - 1) nt') (.ref d₂.l)) :: (d₂.l, W.listOf d₂.sv.toArray d₂.sn) :: (d₂.dx, dictOf [] 0) :: (σ.x, instObj 216 τ.dx) :: (τ.dx, dictOf (srtD w.params (.ref σ.nd) (.ref rl) (.int τ.p τ.pt) (.int τ.f τ.ft) τ.t1 τ.t2 τ.t3 τ.t4) 4) :: (σ.nd, τ.ond) :: (ndsL pre₂ ++ ndsL post₂)) := ⟨_, _, by rw [show (ut ++ [Value.int x tx]).toArray = ut.toArray.push (Value.int x tx) by simp]; exact N8⟩
        obtain ⟨W₄, a₄, hX₄⟩ := np_at hns₂ Wτ aτ (d₂.np - 1) nt'
        rw [hPn] at a₄
        refine TurnEnd.intro (nw' := (I, oI) :: (rl, W.listOf (ut ++ [Value.int x tx]).toArray tn') :: srtL w.params { τ with ns := pre₂ ++ { d₂ with np := d₂.np - 1, nt := nt' } :: post₂ }) F8 (nw_sub N7 ?_) ?_ ⟨Up2.of fun z z1 z2 => by simp only [z1, z2, if_false], _, (ut ++ [Value.int x tx]), tn', W₄, by rw [fold_step hx]; exact a₄, by rw [fold_step hx]; simp only [stepD]; rw [← hPx, if_pos h0]; exact IntsAre.append hut (.cons _ _ .nil), by (try simp only [List.length_append, List.length_cons, List.length_nil]); omega, ⟨f1, f2, f3, f4, f5⟩, hX₄.trans hXτ, np_keep (d' := { d₂ with np := d₂.np - 1, nt := nt' }) hns₂ rfl rfl rfl rfl hkτ, rfl⟩
        · intro p hp
          rcases List.mem_cons.mp hp with rfl | hp
          · exact .head _
          rcases List.mem_cons.mp hp with rfl | hp
          · exact .tail _ (.head _)
          rcases List.mem_cons.mp hp with rfl | hp
          · exact .tail _ (.tail _ (.head _))
          · have h1 := (mem_expl (ps := w.params) (σ := τ) (pre := pre₂) (d := { d₂ with np := d₂.np - 1, nt := nt' }) (post := post₂) p).mpr hp
            simp only [expl, f1, f2, f5] at h1
            exact .tail _ (.tail _ (.tail _ h1))
        · refine List.forall_mem_cons.mpr ⟨oI3, List.forall_mem_cons.mpr ⟨oI4, ?_⟩⟩
          intro p hp
          have h1 : p.1 ∈ srtX w.params τ := hX₄ ▸ List.mem_map_of_mem (f := (·.1)) hp
          obtain ⟨q, hq, e⟩ := List.mem_map.mp h1
          rw [← e]; exact hI2 q hq
      · rename ¬ _ => h0
        rename Fr _ _ _ _ => F8
        rename News _ _ _ _ => N8
        obtain ⟨nt', tn', N7⟩ : ∃ nt' tn', News g L' _ ((I2, oI2) :: (I, oI) :: (rl, W.listOf ut.toArray tn') :: (d₂.i, infoObj d₂.dx (.int d₂.key d₂.kt) (.int (d₂.np - 1) nt') (.ref d₂.l)) :: (d₂.l, W.listOf d₂.sv.toArray d₂.sn) :: (d₂.dx, dictOf [] 0) :: (σ.x, instObj 216 τ.dx) :: (τ.dx, dictOf (srtD w.params (.ref σ.nd) (.ref rl) (.int τ.p τ.pt) (.int τ.f τ.ft) τ.t1 τ.t2 τ.t3 τ.t4) 4) :: (σ.nd, τ.ond) :: (ndsL pre₂ ++ ndsL post₂)) := ⟨_, _, N8⟩
        obtain ⟨W₄, a₄, hX₄⟩ := np_at hns₂ Wτ aτ (d₂.np - 1) nt'
        rw [hPn] at a₄
        refine TurnEnd.intro (nw' := (I, oI) :: (rl, W.listOf ut.toArray tn') :: srtL w.params { τ with ns := pre₂ ++ { d₂ with np := d₂.np - 1, nt := nt' } :: post₂ }) F8 (nw_sub N7 ?_) ?_ ⟨Up2.of fun z z1 z2 => by simp only [z1, z2, if_false], _, ut, tn', W₄, by rw [fold_step hx]; exact a₄, by rw [fold_step hx]; simp only [stepD]; rw [← hPx, if_neg h0]; exact hut, by (try simp only [List.length_append, List.length_cons, List.length_nil]); omega, ⟨f1, f2, f3, f4, f5⟩, hX₄.trans hXτ, np_keep (d' := { d₂ with np := d₂.np - 1, nt := nt' }) hns₂ rfl rfl rfl rfl hkτ, rfl⟩
        · intro p hp
          rcases List.mem_cons.mp hp with rfl | hp
          · exact .head _
          rcases List.mem_cons.mp hp with rfl | hp
          · exact .tail _ (.head _)
          rcases List.mem_cons.mp hp with rfl | hp
          · exact .tail _ (.tail _ (.head _))
          · have h1 := (mem_expl (ps := w.params) (σ := τ) (pre := pre₂) (d := { d₂ with np := d₂.np - 1, nt := nt' }) (post := post₂) p).mpr hp
            simp only [expl, f1, f2, f5] at h1
            exact .tail _ (.tail _ (.tail _ h1))
        · refine List.forall_mem_cons.mpr ⟨oI3, List.forall_mem_cons.mpr ⟨oI4, ?_⟩⟩
          intro p hp
          have h1 : p.1 ∈ srtX w.params τ := hX₄ ▸ List.mem_map_of_mem (f := (·.1)) hp
          obtain ⟨q, hq, e⟩ := List.mem_map.mp h1
          rw [← e]; exact hI2 q hq
    · intro m₂ nw h tk hJ09 F N
      try k_fold
      obtain ⟨⟨v1, v2, rfl⟩, τ, ut, tn, Wτ, aτ, hut, hutl, ⟨f1, f2, f3, f4, f5⟩, hXτ, hkτ, rfl⟩ := hJ09
      clear N6 F8
      have hsz : d.sv.toArray.size = (S r).length := by rw [List.size_toArray, IntsAre.length hsv]
      rw [hsz] at hutl
      simp only [hsz, List.take_length] at aτ hut
      obtain ⟨⟨n1, n2, n3⟩, n4, n5, n6⟩ := Wτ.off
      have hsub : ∀ p ∈ srtL w.params τ, p.1 ∈ srtX w.params σ := fun p hp => hXτ ▸ List.mem_map_of_mem (f := (·.1)) hp
      have r1 : @Ne Nat rl τ.dx := fun e => hrl (e ▸ hsub _ (.tail _ (.head _)))
      have r2 : @Ne Nat I τ.dx := fun e => hIX (e ▸ hsub _ (.tail _ (.head _)))
      have hoff : ∀ p ∈ srtL w.params τ, p.1 ≠ I := fun p hp e => hIX (e ▸ hsub p hp)
      have hl50 := hSr.1
      simp only [srtL, f1, f2, f5] at N
      rw [f1] at n1
      rw [f5] at n3
      clear hsub n2 n4 n6 W₂ a₂ hf₂ hX₂ hk₂ husᵢ hkτ hSr hIX
      walk_at "m_go"
      rename Fr _ _ _ _ => F8
      rename News _ _ _ _ => N8
      obtain ⟨ft', N7⟩ : ∃ ft', News g L' _ ((I, oI) :: (rl, W.listOf ut.toArray tn) :: srtL w.params { τ with f := τ.f + 1, ft := ft' }) := ⟨_, by simp only [srtL, f1, f2, f5]; exact N8⟩
      refine TurnEnd.intro (nw' := (rl, W.listOf ut.toArray tn) :: srtL w.params { τ with f := τ.f + 1, ft := ft' }) F8 N7 (List.forall_mem_cons.mpr ⟨Ne.symm oI2, ?_⟩) ⟨Up5.of fun z z1 z2 z3 z4 z5 => by simp only [z1, z2, z3, z4, z5, if_false], { τ with f := τ.f + 1, ft := ft' }, ut, tn, ⟨Wτ.lo, Wτ.od, Wτ.iva, Wτ.nodup, Wτ.kn⟩, ?_, ?_, by omega, ⟨f1, f2, f3, by show τ.f + 1 = _; rw [f4]; omega, f5⟩, hXτ, rfl⟩
      · intro p hp
        have h1 : p.1 ∈ srtX w.params τ := List.mem_map_of_mem (f := (·.1)) hp
        obtain ⟨q, hq, e⟩ := List.mem_map.mp h1
        rw [← e]; exact hoff q hq
      · rw [fold_step hr]; exact ⟨aτ.kse, aτ.at', aτ.off⟩
      · rw [fold_step hr]; exact hut
  · intro m₁ nw h tk hJ09 F N
    try k_fold
    obtain ⟨⟨u1, u2, u3, u4, u5, rfl⟩, σᵢ, usᵢ, nᵢ, Wᵢ, aᵢ, husᵢ, hlᵢ, ⟨f1, f2, f3, f4, f5⟩, hXᵢ, rfl⟩ := hJ09
    have hsz : vs.toArray.size = rs.length := by rw [List.size_toArray, IntsAre.length hvs]
    simp only [hsz, List.take_length] at aᵢ husᵢ
    walk_at "m_go"
    rename Fr _ _ _ _ => F8
    rename News _ _ _ _ => N8
    try dsimp only
    exact hQ σᵢ usᵢ nᵢ _ _ Wᵢ aᵢ husᵢ ⟨f1, f2.trans hrv.symm, f3, by rw [f4, hsz]⟩ hXᵢ (keep_back hg F8) (fun p hp => ⟨(N8 p hp).1, fresh_or hg (N8 p hp).2.2⟩)
end

end P26
section P27
theorem ru27 : True := by
  k_with_none
  k_with "m_stop" => (first | with_reducible show LCg.CompRest _ _ _ _ _ _ _ _ _ _ _ _ _ _ _ _ _ _ _ | with_reducible show LCt.CompRestT _ _ _ _ _ _ _ _ _ _ _ _ _ _ _ _ _ _ _ _)
  k_with "m_go0" => (repeat' ((fail_if_success (k_extra "m_stop")); first | (k_unfold; (try dsimp only)) | walk1 | (dsimp only; walk1) | (leave1; try dsimp only) | fail "no step"))
  k_with "m_go" => (((try k_fold) <;> (try dsimp only) <;> k_extra "m_go0" <;> (try k_fold)))
  k_with "m_inA" => (((case zzkX => assumption); (case zzkT => assumption); (case zzkl => k_is); (case zzk1 => exact rfl); (case zzk2 => exact rfl); (case zzk3 => exact rfl); (case zzk4 => decide); (case zzkc => k_is); (case zzkr => omega); (case zzkb => first | exact BindsTo.of_eq rfl | exact binds_K (by k_in) rfl (by k_is) rfl rfl rfl); (case zzko => exact locs rfl); intro _ _; walk_at "t_0"))
  k_with "m_inB" => (((case zzkX => assumption); (case zzkT => assumption); (case zzkl => k_is); (case zzk1 => exact rfl); (case zzk2 => exact rfl); (case zzk3 => exact rfl); (case zzkc => k_is); (case zzkr => omega); (case zzkb => first | exact BindsTo.of_eq rfl | exact binds_K (by k_in) rfl (by k_is) rfl rfl rfl); (case zzko => exact rfl); (case zzkn => decide +kernel); intro _ _ _ _; walk_at "t_1"))
  k_with "m_in1" => ((refine' freeze1 ?zzkX ?zzkT ?zzkl ?zzkc ?zzkr ?zzkb ?zzko ?_ ?zzk1 ?zzk2 ?zzk3 ?zzk4; k_extra "m_inA"))
  k_with "m_inC1" => ((refine' freezeC1 ?zzkX ?zzkT ?zzkl ?zzkc ?zzkr ?zzkb ?zzko ?zzkn ?_ ?zzk1 ?zzk2 ?zzk3; k_extra "m_inB"))
  k_with "m_in2" => ((refine' freeze2 ?zzkX ?zzkT ?zzkl ?zzkc ?zzkr ?zzkb ?zzko ?_ ?zzk1 ?zzk2 ?zzk3 ?zzk4; k_extra "m_inA"))
  k_with "m_inC2" => ((refine' freezeC2 ?zzkX ?zzkT ?zzkl ?zzkc ?zzkr ?zzkb ?zzko ?zzkn ?_ ?zzk1 ?zzk2 ?zzk3; k_extra "m_inB"))
  k_with "m_in3" => ((refine' freeze3 ?zzkX ?zzkT ?zzkl ?zzkc ?zzkr ?zzkb ?zzko ?_ ?zzk1 ?zzk2 ?zzk3 ?zzk4; k_extra "m_inA"))
  k_with "m_inC3" => ((refine' freezeC3 ?zzkX ?zzkT ?zzkl ?zzkc ?zzkr ?zzkb ?zzko ?zzkn ?_ ?zzk1 ?zzk2 ?zzk3; k_extra "m_inB"))
  k_with "m_in4" => ((refine' freeze4 ?zzkX ?zzkT ?zzkl ?zzkc ?zzkr ?zzkb ?zzko ?_ ?zzk1 ?zzk2 ?zzk3 ?zzk4; k_extra "m_inA"))
  k_with "m_inC4" => ((refine' freezeC4 ?zzkX ?zzkT ?zzkl ?zzkc ?zzkr ?zzkb ?zzko ?zzkn ?_ ?zzk1 ?zzk2 ?zzk3; k_extra "m_inB"))
  k_with "m_size" => (first | ((with_reducible refine z_sz ?_); omega) | ((with_reducible refine z_szl ?_); omega) | omega | (rw [sizeLine_eq]; omega) | (simp only [List.size_toArray, sizeLine_eq, List.length_append, List.length_cons, List.length_nil, List.length_map] at *; omega))
  k_with "eval ListComp" => ((k_here; k_dflt (first | ((with_reducible apply LCt.ListComp_T); (case F₀ => k_asm); (case hclos => with_unfolding_all rfl); (case hcell => decide); (case hkind => rfl); (case hnames => decide); (case hx => rfl); (case hs => intro _; with_unfolding_all rfl)) | ((with_reducible apply LCg.ListComp_U); (case F₀ => k_asm); (case hclos => with_unfolding_all rfl); (case hcell => decide); (case hkind => rfl); (case hnames => decide); (case hx => rfl); (case hs => intro _; with_unfolding_all rfl)))))
  k_with "exec Assign cons ListComp" => ((k_here; k_dflt (first | ((with_reducible apply LCt.Assign_ListComp_T); (case F₀ => k_asm); (case hLe => rfl); (case hsw => with_unfolding_all rfl); (case hclos => with_unfolding_all rfl); (case hcell => decide); (case hkind => rfl); (case hnames => decide); (case hx => rfl); (case hy => rfl); (case hp => rfl); (case hs => intro _; with_unfolding_all rfl)) | ((with_reducible apply LCg.Assign_ListComp_U); (case F₀ => k_asm); (case hLe => rfl); (case hsw => with_unfolding_all rfl); (case hclos => with_unfolding_all rfl); (case hcell => decide); (case hkind => rfl); (case hnames => decide); (case hx => rfl); (case hy => rfl); (case hp => rfl); (case hs => intro _; with_unfolding_all rfl)) | (refine wpAny_Assign_Name ?_))))
  k_with "CompSrcT" => ((k_here; k_dflt (first | (refine LCt.CompSrcT.ledger (by first | assumption | rfl) (by k_asm) (by k_asm) (by k_mem) (by k_extra "m_size") ?_; intro _) | (refine LCt.CompSrcT.base (by first | assumption | rfl) (by k_asm) (by k_asm) (by assumption) (by k_extra "m_size") ?_; intro _) | (refine LCt.CompSrcT.range (by first | assumption | rfl) (by k_asm) (by k_asm) (by assumption) (by first | decide | exact small_nat (by omega) | exact small_one (by omega) (by omega) (by omega) (by omega)) (by first | rfl | decide | exact rangeSize_nat _ _) (by k_extra "m_size") ?_; intro _))))
  k_with "CompSrc" => ((k_here; k_dflt (first | (refine LCg.CompSrc.ledger (by first | assumption | rfl) (by k_asm) (by k_asm) (by k_mem) (by k_extra "m_size") ?_; intro _) | (refine LCg.CompSrc.base (by first | assumption | rfl) (by k_asm) (by k_asm) (by assumption) (by k_extra "m_size") ?_; intro _) | (refine LCg.CompSrc.range (by first | assumption | rfl) (by k_asm) (by k_asm) (by assumption) (by first | decide | exact small_nat (by omega) | exact small_one (by omega) (by omega) (by omega) (by omega)) (by first | rfl | decide | exact rangeSize_nat _ _) (by k_extra "m_size") ?_; intro _))))
  k_with "m_arith" => (first | ((try simp only [depth_under_make, depth_under_kw, depth_in1, depth_deeper, units_in1, units_deeper, Around.mark_units]); omega) | (simp only [depth_under_make, depth_under_kw, depth_in1, depth_deeper, units_in1, units_deeper, Around.mark_units] at *; omega))
  k_with "m_p1" => (first | with_reducible assumption | exact And.left (by with_reducible assumption) | exact And.left (And.right (by with_reducible assumption)) | exact And.right (by with_reducible assumption) | exact And.left (And.right (And.right (by with_reducible assumption))) | exact And.right (And.right (by with_reducible assumption)) | exact And.left (And.right (And.right (And.right (by with_reducible assumption)))) | exact And.right (And.right (And.right (by with_reducible assumption))) | exact And.left (And.right (And.right (And.right (And.right (by with_reducible assumption))))) | exact And.right (And.right (And.right (And.right (by with_reducible assumption)))) | exact And.left (And.right (And.right (And.right (And.right (And.right (by with_reducible assumption)))))) | exact And.right (And.right (And.right (And.right (And.right (by with_reducible assumption))))) | exact And.left (And.right (And.right (And.right (And.right (And.right (And.right (by with_reducible assumption))))))) | exact And.right (And.right (And.right (And.right (And.right (And.right (by with_reducible assumption)))))) | exact And.left (And.right (And.right (And.right (And.right (And.right (And.right (And.right (by with_reducible assumption)))))))) | exact And.right (And.right (And.right (And.right (And.right (And.right (And.right (by with_reducible assumption))))))) | exact And.left (And.right (And.right (And.right (And.right (And.right (And.right (And.right (And.right (by with_reducible assumption))))))))) | exact And.right (And.right (And.right (And.right (And.right (And.right (And.right (And.right (by with_reducible assumption)))))))) | exact And.left (And.right (And.right (And.right (And.right (And.right (And.right (And.right (And.right (And.right (by with_reducible assumption)))))))))) | exact And.right (And.right (And.right (And.right (And.right (And.right (And.right (And.right (And.right (by with_reducible assumption))))))))) | exact And.left (And.right (And.right (And.right (And.right (And.right (And.right (And.right (And.right (And.right (And.right (by with_reducible assumption))))))))))) | exact And.right (And.right (And.right (And.right (And.right (And.right (And.right (And.right (And.right (And.right (by with_reducible assumption)))))))))) | exact And.left (And.right (And.right (And.right (And.right (And.right (And.right (And.right (And.right (And.right (And.right (And.right (by with_reducible assumption)))))))))))) | exact And.right (And.right (And.right (And.right (And.right (And.right (And.right (And.right (And.right (And.right (And.right (by with_reducible assumption))))))))))))
  k_with "m_p2" => (first | exact And.left (And.left (by with_reducible assumption)) | exact And.left (And.right (And.left (by with_reducible assumption))) | exact And.left (And.right (And.right (And.left (by with_reducible assumption)))) | exact And.left (And.right (And.right (And.right (And.left (by with_reducible assumption))))) | exact And.right (And.left (by with_reducible assumption)) | exact And.right (And.right (And.left (by with_reducible assumption))) | exact And.right (And.right (And.right (And.left (by with_reducible assumption)))) | exact And.left (And.left (And.right (by with_reducible assumption))) | exact And.left (And.right (And.left (And.right (by with_reducible assumption)))) | exact And.left (And.right (And.right (And.left (And.right (by with_reducible assumption))))) | exact And.left (And.right (And.right (And.right (And.left (And.right (by with_reducible assumption)))))) | exact And.right (And.left (And.right (by with_reducible assumption))) | exact And.right (And.right (And.left (And.right (by with_reducible assumption)))) | exact And.right (And.right (And.right (And.left (And.right (by with_reducible assumption))))) | exact And.left (And.left (And.right (And.right (by with_reducible assumption)))) | exact And.left (And.right (And.left (And.right (And.right (by with_reducible assumption))))) | exact And.left (And.right (And.right (And.left (And.right (And.right (by with_reducible assumption)))))) | exact And.left (And.right (And.right (And.right (And.left (And.right (And.right (by with_reducible assumption))))))) | exact And.right (And.left (And.right (And.right (by with_reducible assumption)))) | exact And.right (And.right (And.left (And.right (And.right (by with_reducible assumption))))) | exact And.right (And.right (And.right (And.left (And.right (And.right (by with_reducible assumption)))))) | exact And.left (And.left (And.right (And.right (And.right (by with_reducible assumption))))) | exact And.left (And.right (And.left (And.right (And.right (And.right (by with_reducible assumption)))))) | exact And.left (And.right (And.right (And.left (And.right (And.right (And.right (by with_reducible assumption))))))) | exact And.left (And.right (And.right (And.right (And.left (And.right (And.right (And.right (by with_reducible assumption)))))))) | exact And.right (And.left (And.right (And.right (And.right (by with_reducible assumption))))) | exact And.right (And.right (And.left (And.right (And.right (And.right (by with_reducible assumption)))))) | exact And.right (And.right (And.right (And.left (And.right (And.right (And.right (by with_reducible assumption))))))))
  k_with "m_ne" => (first | assumption | (refine Ne.symm ?_; assumption) | (refine Nat.ne_of_lt ?_; k_extra "m_p1") | (refine Nat.ne_of_gt ?_; k_extra "m_p1") | k_extra "m_p1" | (refine Ne.symm ?_; k_extra "m_p1") | k_extra "m_p2" | (refine Ne.symm ?_; k_extra "m_p2"))
  k_with "call ref" => ((k_here; (with_reducible show wpAny _ _ (call (Value.ref 59) _) _ _ _); k_dflt (refine' mk_entry ?zzk1 ?zzk2 ?zzk3 ?zzk4 ?zzkr ?_; (case zzk1 => k_asm); (case zzk2 => k_asm); (case zzk3 => k_asm); (case zzk4 => k_asm); (case zzkr => (simp only [depth_in1, depth_deeper]; omega)); intro _ _ _ _ _ _ _ _ _ _ _ _; walk_at "t_2")))
  k_with "assign Tuple" => ((k_here; k_dflt (refine' assign2 ?zzk1 ?zzk2 ?zzk3 ?zzk4 ?_; (case zzk1 => first | assumption | exact rfl); (case zzk2 => k_asm); (case zzk3 => k_asm); (case zzk4 => k_mem); intro _ _ _)))
  k_with "exec For Name Attribute cons nil" => ((k_here; k_dflt (refine For_at ?_)))
  k_with "exec For Name Name cons nil" => ((k_here; k_dflt (refine For_at ?_)))
  k_with "exec For Name Call cons nil" => ((k_here; k_dflt (refine For_at ?_)))
  k_with "exec For Name Tuple cons nil" => ((k_here; k_dflt (refine For_at ?_)))
  k_with "exec For Name List cons nil" => ((k_here; k_dflt (refine For_at ?_)))
  k_with "m_stop" => (with_reducible show ForAt _ _ _ _ _ _ _ _ _ _)
  k_with "m_up" => (first | exact ⟨_, by funext z; repeat' (first | rfl | split) <;> simp_all⟩ | exact ⟨_, _, by funext z; repeat' (first | rfl | split) <;> simp_all⟩ | exact ⟨_, _, _, by funext z; repeat' (first | rfl | split) <;> simp_all⟩)
  k_with "newList" => ((k_here; k_dflt (refine' newList_M ?zzk1 ?zzk2 ?zzk3 ?_; (case zzk1 => k_asm); (case zzk2 => k_asm); (case zzk3 => exact Nat.le_of_ble_eq_true rfl)); intro _ _ _ _; walk_at "t_3"))
  trivial
section
variable {prog : Program} {w : World} {A : Around} {E : Value → Shared → Prop} {s : Shared} {h₀ : Heap} {L : Addr} {m : Str → Option Value} {env : Env}
open LCg LCt in
noncomputable def CompSrcV {K : Type} [DecidableEq K] (prog : Program) (w : World) (A : Around) (h₀ : Heap) (L : Addr) (m : Str → Option Value) (env : Env) (knd : KeyKind prog w K) (ct elt : Expr) (x : Str) (scope : Scope) (cl : List (Str × Addr)) (Q : Value → Shared → Prop) (xv : Value) (s₁ : Shared) : Prop :=
  ∃ v d od kvs news, xv = .ref v ∧ A.handled = none ∧ Fr h₀ L s₁.heap m ∧ News h₀ L s₁.heap news ∧ (v, ({ cls := .type "dict_values", data := .fields #[.ref d] } : Obj)) ∈ news ∧ (d, od) ∈ news ∧ od.IsDictOf knd kvs ∧ kvs.length ≤ sizeLine ∧
      ∀ s₂ : Shared, (∃ h, s₂ = { s₁ with heap := h }) → CompRestT prog w A h₀ L m env ct elt x scope cl s₂ (fun nw => (d, od) ∈ nw) (fun i v => ∃ k, kvs[i]? = some (k, v)) (FinE h₀ L m s₂ Q) kvs.length 0 [] news
open LCg LCt in
theorem ListComp_TV {K : Type} [DecidableEq K] {knd : KeyKind prog w K} {ct elt iter : Expr} {x : Str} {px : Pos} {scope : Scope} {cl : List (Str × Addr)} {pos : Pos} {Q : Value → Shared → Prop} 
    (hclos : closureFor scope env = pure cl) (hcell : ∀ y ∈ scope.names, y.2 ≠ .cell) (hkind : scope.kind = .function)
    (hnames : ∀ y ∈ scope.names, y.2 = .local → scope.names.lookup y.1 = some .local) (hx : scope.names.lookup x = some .local)
    (h : wpAny (model prog w) A (eval iter env) (CompSrcV prog w A h₀ L m env knd ct elt x scope cl Q) E s)
    (hs : ∀ x, foldedSetIterable iter env x = pure x) :
    wpAny (model prog w) A (eval (.ListComp elt [⟨.Name x px, iter, [ct], 0⟩] scope pos) env) Q E s := by
  rw [eval_ListComp]
  refine wpAny_comprehension_free (use := none) rfl hs hclos hkind hnames (wpAny_mono h (fun xv s₁ h₁ => ?_) fun _ _ e => e)
  obtain ⟨v, d, od, kvs, news, rfl, hh, F, N, hv, hd, ho, hsz, R⟩ := h₁
  obtain ⟨ep, hxd⟩ : ∃ ep, ∀ h : Heap, h.get? d = some od → h.DictAt knd d kvs ep := by
    obtain ⟨es, ep, hc, hdat, hk, hp, hn⟩ := ho
    exact ⟨ep, fun h e => ⟨od, es, e, hc, hdat, hk, hp, hn⟩⟩
  have hm := hxd _ (N _ hd).1
  have hlt := hm.lt_size
  refine wpAny_pyIter_values ⟨_, (N _ hv).1, rfl, rfl⟩ hm ?_
  have up : LK s₁.heap (s₁.heap.push { cls := .type "dict_valueiterator", data := .fields #[.ref d, .int 0 0, .int kvs.length 0, .int ep 0] }) := fun b o e => Heap.get?_push_of_some _ e
  refine block_T (S := fun nw => (d, od) ∈ nw) (Walks.dictValues hh s₁.heap.objs.size d (Nat.ne_of_lt hlt) kvs ep) hsz (fun i h st => by obtain ⟨o, e, _⟩ := st.1; exact ⟨o, e⟩)
    (fun i h h' o nw st e e' k N S => ⟨st.1.at fun o' q => by rw [e] at q; cases q; exact e', hxd _ (N _ S).1⟩) hcell hkind hx ⟨⟨_, Heap.get?_push_size _ rfl, rfl, rfl⟩, hm.push _⟩ (fun b hb => ?_)
    (F.keeps up) (N.grown up) (Nat.ne_of_lt F.ns.lt) (next_is_new F) (fun p hp => Nat.ne_of_lt (Heap.lt_size (N p hp).1)) hd (R _ ⟨_, rfl⟩) ?_
  · show b < (s₁.heap.push _).objs.size
    rw [Heap.size_push]
    rcases List.mem_cons.mp hb with rfl | hb
    · exact Nat.lt_succ_self _
    · rw [List.mem_singleton.mp hb]; exact Nat.lt_succ_of_lt hlt
  · intro D C h tk m' ys news' F' N' o1 hn hC₀ hD₀ hCL hDL hCD offC fin
    refine ⟨m', hn, fun h'' hs'' => fin D h'' tk (F'.change hs'' hCL hC₀) (fun p hp => ?_) o1⟩
    refine ⟨hs''.extBut _ _ ?_ (N' p hp).1, (N' p hp).2⟩
    rcases List.mem_cons.mp hp with rfl | hp
    · exact Ne.symm hCD
    · exact offC p hp
end

end P27
section P28
namespace NX
open PySem.Sem (wp)
theorem slot_li_ga : Slot "list_iterator" "__getattribute__" "object.__getattribute__" :=
  .of (owner := "object") (n := "__getattribute__") (by rw [typeLookup_type, builtinLookup_eq_fast]; kernel_rfl) (by decide +kernel) (by decide +kernel) (by decide +kernel)
    (by first | exact .inl (by decide +kernel) | exact .inr (by decide +kernel)) (by rw [isSubtype_type]; kernel_rfl)
theorem ty_li_next : typeOf (.builtin "list_iterator.__next__") = pure (.type "wrapper_descriptor") := by show builtinType _ = _; rw [builtinType_eq_fast]; kernel_rfl
theorem slot_wd_get : Slot "wrapper_descriptor" "__get__" "wrapper_descriptor.__get__" :=
  .of (owner := "wrapper_descriptor") (n := "__get__") (by rw [typeLookup_type, builtinLookup_eq_fast]; kernel_rfl) (by decide +kernel) (by decide +kernel) (by decide +kernel)
    (by first | exact .inl (by decide +kernel) | exact .inr (by decide +kernel)) (by rw [isSubtype_type]; kernel_rfl)
theorem wd_noset : typeLookup (.type "wrapper_descriptor") "__set__" = pure none := by rw [typeLookup_type, builtinLookup_eq_fast]; kernel_rfl
theorem wd_nodel : typeLookup (.type "wrapper_descriptor") "__delete__" = pure none := by rw [typeLookup_type, builtinLookup_eq_fast]; kernel_rfl
theorem entry_wd_get : entryFor table "wrapper_descriptor.__get__" = some Builtin.«wrapper_descriptor.__get__» := entryFor_of_tree (by kernel_rfl)
theorem args_wd_get (a b c : Value) : argsOk "wrapper_descriptor.__get__" ⟨[a, b, c], []⟩ := by unfold argsOk; kernel_rfl
theorem owner_li : (".".intercalate ("list_iterator.__next__".cutAt '.').dropLast) = "list_iterator" := by
  have e0 : "list_iterator.__next__".cutAt '.' = ["list_iterator", "__next__"] := by first | rfl | decide +kernel
  rw [e0]; decide +kernel
theorem sub_li : isSubtype (.type "list_iterator") (.type (".".intercalate ("list_iterator.__next__".cutAt '.').dropLast)) = pure true := by
  rw [owner_li, isSubtype_type]; kernel_rfl
theorem li_noga : typeLookup (.type "list_iterator") "__getattr__" = pure none := by rw [typeLookup_type, builtinLookup_eq_fast]; kernel_rfl
noncomputable abbrev mw (a : Addr) : Obj := { cls := .type "method-wrapper", data := .fields #[.builtin "list_iterator.__next__", .ref a] }
noncomputable abbrev liO (l : Addr) (i : Nat) : Obj := { cls := .type "list_iterator", data := .fields #[.ref l, .int i 0] }
section
variable {prog : Program} {w : World} {A : Around} {E : Value → Shared → Prop} {h : Heap} {g : Array GenState} {d : Drawn} {t : Nat} {os : OsState} {a l : Addr} {i : Nat}
theorem next_get {R : Result → Shared → Prop} (hx : h.get? a = some (liO l i)) (hq : R (.ok (.ret (.ref h.objs.size))) ⟨h.push (mw a), g, d, t, os⟩) :
    codeAny (model prog w) A (.call (.builtin "wrapper_descriptor.__get__") ⟨[.builtin "list_iterator.__next__", .ref a, .type "list_iterator"], []⟩) R ⟨h, g, d, t, os⟩ := by
  have hT : (⟨h, g, d, t, os⟩ : Shared).TypeIs (.ref a) "list_iterator" := ⟨_, hx, rfl⟩
  have hT5 : (⟨h, g, d, t, os⟩ : Shared).TypeIs (.builtin "list_iterator.__next__") "wrapper_descriptor" := ty_li_next
  have f8 := sub_li
  refine codeAny_call_builtin slot_wd_get.plain entry_wd_get (slot_wd_get.check _ _ _ _ _ _ _ _ hT5 (args_wd_get _ _ _) ?_)
  unfold Builtin.«wrapper_descriptor.__get__»
  repeat (any_goals (first | assumption | wp_step))
theorem next_entry {tk : Tok} {Q : Fin → Shared → Prop} (hx : h.get? a = some (liO l i)) (hq : Q (.done (.ret (.ref h.objs.size))) ⟨h.push (mw a), g, d, t, os⟩) :
    wpAny (model prog w) A (Builtin.«object.__getattribute__» ⟨[.ref a, .str "__next__" tk], []⟩) Q E ⟨h, g, d, t, os⟩ := by
  have hT : (⟨h, g, d, t, os⟩ : Shared).TypeIs (.ref a) "list_iterator" := ⟨_, hx, rfl⟩
  have hT5 : (⟨h, g, d, t, os⟩ : Shared).TypeIs (.builtin "list_iterator.__next__") "wrapper_descriptor" := ty_li_next
  have f4 := slot_listiter_next.lookup
  have f5 := ty_li_next
  have f6 := slot_wd_get.lookup
  have f7 := wd_noset
  have f8 := wd_nodel
  repeat (any_goals (first | assumption | wp_step))
  refine next_get hx ?_
  repeat (any_goals (first | assumption | wp_step))
theorem next_call {tk : Tok} {R : Result → Shared → Prop} (hx : h.get? a = some (liO l i)) (hq : R (.ok (.ret (.ref h.objs.size))) ⟨h.push (mw a), g, d, t, os⟩) :
    codeAny (model prog w) A (.call (.builtin "object.__getattribute__") ⟨[.ref a, .str "__next__" tk], []⟩) R ⟨h, g, d, t, os⟩ :=
  codeAny_call_builtin slot_li_ga.plain F.entry_object_getattribute (slot_li_ga.check _ _ _ _ _ _ _ _ (show (⟨h, g, d, t, os⟩ : Shared).TypeIs (.ref a) "list_iterator" from ⟨_, hx, rfl⟩) (F.args_object_getattribute_2 _ _) (next_entry hx hq))
theorem next_by {tk : Tok} {Q : Value → Shared → Prop} (hx : h.get? a = some (liO l i)) (hq : Q (.ref h.objs.size) ⟨h.push (mw a), g, d, t, os⟩) : wpAny (model prog w) A (getAttrBy (.ref a) (.str "__next__" tk) true true) Q E ⟨h, g, d, t, os⟩ := by
  have hT : (⟨h, g, d, t, os⟩ : Shared).TypeIs (.ref a) "list_iterator" := ⟨_, hx, rfl⟩
  have f2 := slot_li_ga.lookup
  have f3 := slot_li_ga.bind (.ref a)
  have f4 := li_noga
  repeat (any_goals (first | assumption | wp_step))
  refine next_call hx ?_
  repeat (any_goals (first | assumption | wp_step))
theorem next_attr {s : Shared} {Q : Value → Shared → Prop} (hx : s.heap.get? a = some (liO l i)) (hq : Q (.ref s.heap.objs.size) { s with heap := s.heap.push (mw a), toks := s.toks + 1 }) : wpAny (model prog w) A (getAttr (.ref a) "__next__" true) Q E s := by
  obtain ⟨h, g, d, t, os⟩ := s
  have hx' : h.get? a = some (liO l i) := hx
  unfold getAttr
  repeat (any_goals (first | assumption | with_reducible apply next_by hx' | wp_step))
end
section
variable {prog : Program} {w : World} {A : Around} {E : Value → Shared → Prop} {s : Shared} {u a l : Addr} {i : Nat} {its : Array Value} {n : Nat}
theorem callWith_mw {pos : Pos} {Q : Value → Shared → Prop} (ho : s.heap.get? u = some (mw a))
    (h : wpAny (model prog w) A (call (.ref u) []) Q E s) : wpAny (model prog w) A (callWith pos (.ref u) [] (backTo pos []) []) Q E s := by
  unfold callWith
  refine wpAny_bind (wpAny_holding ?_)
  refine evalArgs_nil3 ?_
  refine wpAny_bind (wpAny_standAt ?_)
  refine wpAny_bind (m := keeperOf (.ref u)) ?_
  unfold keeperOf
  refine wpAny_bind (wpAny_load ho ?_)
  simp only [mw, show (Value.type "method-wrapper" != Value.type "method") = true by decide, show (Value.type "method-wrapper" == Value.type "builtin_function_or_method" || Value.type "method-wrapper" == Value.type "method-wrapper") = true by decide, if_true]
  refine wpAny_pure ?_
  exact wpAny_bind (wpAny_mono h (fun r s₂ hr => wpAny_bind (wpAny_holding (wpAny_point (wpAny_pure hr)))) fun _ _ x => x)
theorem check_next : checkBoundCall "list_iterator.__next__" ⟨[.ref a], []⟩ = pure () := by first | kernel_rfl | rfl
theorem call_mw {Q : Value → Shared → Prop} (ho : s.heap.get? u = some (mw a))
    (h : ∀ A', A'.handled = A.handled → wpAny (model prog w) A' (Builtin.«list_iterator.__next__» ⟨[.ref a], []⟩) (fun fin s' => ∃ v, fin = .done (.ret v) ∧ Q v s') E s) : wpAny (model prog w) A (call (.ref u) []) Q E s := by
  refine wpAny_call (codeAny_of_tree ?_)
  show wpAny _ A.in1 (callAny (.ref u) ⟨[], []⟩) _ _ s
  simp only [callAny]
  refine wpAny_bind (wpAny_load ho ?_)
  simp only [mw, show (Value.type "method-wrapper" == Value.type "method" || Value.type "method-wrapper" == Value.type "builtin_function_or_method" || Value.type "method-wrapper" == Value.type "method-wrapper") = true by decide, if_true]
  refine KFB.if_so (by decide) ?_
  refine wpAny_bind (wpAny_of_eq (a := ()) check_next ?_)
  refine wpAny_bind (wpAny_pure (wpAny_pure ?_))
  refine ⟨Code.quiet_builtin _ (by decide +kernel), codeAny_builtin entry_listiter_next ?_⟩
  refine wpAny_mono (h _ rfl) (fun fin s' hf => ?_) fun _ _ x => x
  obtain ⟨v, rfl, hq⟩ := hf
  exact hq
theorem mw_item {x : Value} {Q : Value → Shared → Prop} (ho : s.heap.get? u = some (mw a)) (hi : s.heap.get? a = some (liO l i)) (hl : s.heap.IsList l its) (hx : its[i]? = some x)
    (h : Q x { s with heap := s.heap.update a (Obj.mapFields (·.setIfInBounds 1 (.int (i + 1 : Nat) 0))) }) : wpAny (model prog w) A (call (.ref u) []) Q E s := by
  refine call_mw ho fun A' _ => ?_
  obtain ⟨ol, hol, _, nl, hdl⟩ := hl
  show wpAny _ _ (field (.ref a) 0 >>= _) _ _ s
  refine wpAny_bind (wpAny_field hi rfl (x := .ref l) rfl ?_)
  show wpAny _ _ (if (Value.ref l == Value.none) = true then _ else _) _ _ s
  rw [if_neg (show ¬ ((Value.ref l == Value.none) = true) from Bool.false_ne_true)]
  show wpAny _ _ (field (.ref a) 1 >>= _) _ _ s
  refine wpAny_bind (wpAny_field hi rfl (x := .int i 0) rfl ?_)
  show wpAny _ _ (seqItems? (.ref l) >>= _) _ _ s
  refine wpAny_bind (wpAny_seqItems hol hdl ?_)
  simp only [Int.toNat_natCast, hx]
  exact wpAny_bind (wpAny_setField hi rfl (by simp) (wpAny_pure ⟨x, rfl, h⟩))
theorem own_stop (args : List Value) : ownMembersOf (.type "StopIteration") args = #[] := by unfold ownMembersOf; split <;> first | rfl | (rename_i h; revert h; decide) | simp_all
theorem new_stop {Q : Value → Shared → Prop} (h : ∀ h' e, Heap.NewExc s.heap h' e "StopIteration" → Q (.ref e) { s with heap := h' }) : wpAny (model prog w) A (newExc (.type "StopIteration") []) Q E s := by
  unfold newExc newTuple
  refine wpAny_bind (wpAny_newObj_type ?_ (by size_fits))
  refine wpAny_bind (m := firstArgMember _ _) (wpAny_of_eq (a := Value.none) (by first | rfl | (simp only [firstArgMember]; rfl)) ?_)
  rw [own_stop]
  refine wpAny_newObj_type (h _ _ ⟨fun b o hb => Heap.get?_push_of_some _ (Heap.get?_push_of_some _ hb), Heap.get?_none_of_le (by simp), _, .ref s.heap.objs.size, Heap.get?_push_size _ rfl, rfl, rfl⟩) (by size_fits)
theorem mw_end {Q : Value → Shared → Prop} (hh : A.handled = none) (ho : s.heap.get? u = some (mw a)) (hi : s.heap.get? a = some (liO l i)) (hl : s.heap.IsList l its) (hx : its[i]? = none)
    (h : ∀ h' e, Heap.NewExc (s.heap.update a (Obj.mapFields (·.setIfInBounds 0 .none))) h' e "StopIteration" → E (.ref e) { s with heap := h' }) : wpAny (model prog w) A (call (.ref u) []) Q E s := by
  refine call_mw ho fun A' hA => ?_
  obtain ⟨ol, hol, _, nl, hdl⟩ := hl
  show wpAny _ _ (field (.ref a) 0 >>= _) _ _ s
  refine wpAny_bind (wpAny_field hi rfl (x := .ref l) rfl ?_)
  show wpAny _ _ (if (Value.ref l == Value.none) = true then _ else _) _ _ s
  rw [if_neg (show ¬ ((Value.ref l == Value.none) = true) from Bool.false_ne_true)]
  show wpAny _ _ (field (.ref a) 1 >>= _) _ _ s
  refine wpAny_bind (wpAny_field hi rfl (x := .int i 0) rfl ?_)
  show wpAny _ _ (seqItems? (.ref l) >>= _) _ _ s
  refine wpAny_bind (wpAny_seqItems hol hdl ?_)
  simp only [Int.toNat_natCast, hx]
  refine wpAny_bind (wpAny_rule (wpAny_bind (wpAny_setField hi rfl (by simp) ?_)))
  show wpAny _ _ (newExc (.type "StopIteration") [] >>= _) _ _ _
  refine wpAny_bind (new_stop fun h' e hm => ?_)
  exact wpAny_raiseNew_none (hA.trans hh) (h h' e hm)
end

section
variable {prog : Program} {w : World} {A : Around} {E : Value → Shared → Prop} {s : Shared} {h₀ : Heap} {L u a l D : Addr} {i : Nat} {its : Array Value} {m : Str → Option Value} {news : List (Addr × Obj)} {g : Obj → List (Addr × Obj)}
noncomputable abbrev liE (i : Nat) : Obj := { cls := .type "list_iterator", data := .fields #[.none, .int i 0] }
theorem next_N {Q : Value → Shared → Prop} (F : Fr h₀ L s.heap m) (N : News h₀ L s.heap news) (hm : (a, liO l i) ∈ news)
    (h : ∀ u h' tk, Fr h₀ L h' m → News h₀ L h' ((u, mw a) :: news) → (∀ p ∈ news, p.1 < u) → Q (.ref u) { s with heap := h', toks := tk }) : wpAny (model prog w) A (getAttr (.ref a) "__next__" true) Q E s :=
  next_attr (N _ hm).1 (h _ _ _ (F.push _) (News.push F N _) fun p hp => Heap.lt_size (N p hp).1)
theorem iter_N {Q : Value → Shared → Prop} (F : Fr h₀ L s.heap m) (N : News h₀ L s.heap news) (hl : s.heap.IsList l its)
    (h : ∀ a h', Fr h₀ L h' m → News h₀ L h' ((a, liO l 0) :: news) → (∀ p ∈ news, p.1 < a) → Q (.ref a) { s with heap := h' }) : wpAny (model prog w) A (call (.builtin "iter") [.ref l]) Q E s := by
  refine call_function_entry (by decide +kernel) (by decide +kernel) kdk_entry_iter (kdk_args_iter _) ?_
  unfold Builtin.«iter»
  refine wpAny_bind (m := someArgs "iter" 1 2 _) (wpAny_of_eq (a := [Value.ref l]) (by first | rfl | kernel_rfl!) ?_)
  show wpAny _ _ (pyIter (.ref l) >>= _) _ _ _
  refine wpAny_bind (wpAny_pyIter_list hl ?_)
  exact wpAny_pure ⟨_, rfl, h _ _ (F.push _) (News.push F N _ rfl) (fun q hq => Heap.lt_size (N q hq).1)⟩
theorem item_N {x : Value} {Q : Value → Shared → Prop} (F : Fr h₀ L s.heap m) (N : News h₀ L s.heap news) (U : UpdF a (liO l i) news g) (hu : (u, mw a) ∈ news) (hl : s.heap.IsList l its) (hx : its[i]? = some x)
    (h : ∀ h', Fr h₀ L h' m → News h₀ L h' (g (liO l (i + 1))) → Q x { s with heap := h' }) : wpAny (model prog w) A (call (.ref u) []) Q E s := by
  obtain ⟨pre, post, rfl, hg, b, c⟩ := U.split
  have hm := N (a, liO l i) (List.mem_append_right _ (.head _))
  refine mw_item (N _ hu).1 hm.1 hl hx (h _ (F.change (Heap.SameBut.update ..) hm.2.1 hm.2.2) (hg _ ▸ N.setIn b c (Heap.SameBut.update ..) ?_))
  exact Heap.get?_update_self _ hm.1 rfl
theorem end_N {Q : Value → Shared → Prop} (hh : A.handled = none) (F : Fr h₀ L s.heap m) (N : News h₀ L s.heap news) (U : UpdF a (liO l i) news g) (hu : (u, mw a) ∈ news) (hl : s.heap.IsList l its) (hx : its[i]? = none)
    (h : ∀ h₁ h' e, Heap.NewExc h₁ h' e "StopIteration" → Fr h₀ L h₁ m → News h₀ L h₁ (g (liE i)) → E (.ref e) { s with heap := h' }) : wpAny (model prog w) A (call (.ref u) []) Q E s := by
  obtain ⟨pre, post, rfl, hg, b, c⟩ := U.split
  have hm := N (a, liO l i) (List.mem_append_right _ (.head _))
  refine mw_end hh (N _ hu).1 hm.1 hl hx fun h' e hx' => h _ _ _ hx' (F.change (Heap.SameBut.update ..) hm.2.1 hm.2.2) (hg _ ▸ N.setIn b c (Heap.SameBut.update ..) ?_)
  exact Heap.get?_update_self _ hm.1 rfl
theorem callWith_N {pos : Pos} {Q : Value → Shared → Prop} (N : News h₀ L s.heap news) (hu : (u, mw a) ∈ news) (h : wpAny (model prog w) A (call (.ref u) []) Q E s) : wpAny (model prog w) A (callWith pos (.ref u) [] (backTo pos []) []) Q E s :=
  callWith_mw (N _ hu).1 h
theorem kl_last_snoc : ∀ (p : List Value) (y : Value), kl_last (p ++ [y]) = some (p, y)
  | [], _ => rfl
  | x :: p, y => by
    show (match kl_last (p ++ [y]) with | some (p, y) => some (x :: p, y) | none => some ([], x)) = _
    rw [kl_last_snoc p y]
theorem pop_N {p : List Value} {y : Value} {n : Nat} {Q : Value → Shared → Prop} (F : Fr h₀ L s.heap m) (N : News h₀ L s.heap news) (U : UpdF D (listOf (p ++ [y]).toArray n) news g) (hz : p.length ≤ 1000)
    (h : ∀ h', Fr h₀ L h' m → News h₀ L h' (g (listOf p.toArray (n + 1))) → Q y { s with heap := h' }) : wpAny (model prog w) A (call (.builtin "list.pop") [.ref D]) Q E s := by
  obtain ⟨pre, post, rfl, hg, b, c⟩ := U.split
  have z := N (D, listOf (p ++ [y]).toArray n) (List.mem_append.mpr (.inr (.head _)))
  have hz' : (p ++ [y]).toArray.size ≤ sizeLine := by rw [List.size_toArray, List.length_append, sizeLine_eq]; simp only [List.length_cons, List.length_nil]; omega
  have hk : (p ++ [y]).toArray.size - 1 = p.length := by rw [List.size_toArray, List.length_append]; rfl
  have hy : (p ++ [y]).toArray[(p ++ [y]).toArray.size - 1]? = some y := by rw [hk]; simp
  refine call_meets PySem.F.slot_list_pop ⟨_, z.1, rfl⟩ PySem.F.entry_list_pop (PySem.F.args_list_pop_1 _) (PySem.MeetsSeq.list_pop_last D _ n y hy hz') ⟨z.1, h _ (F.change (Heap.SameBut.update ..) z.2.1 z.2.2) (hg _ ▸ kl_turn _ N b c ?_ ?_)⟩
  · show (p ++ [y]).toArray.eraseIdxIfInBounds ((p ++ [y]).toArray.size - 1) = p.toArray
    rw [hk, kl_erase, List.append_nil]
  · rw [List.size_toArray, List.size_toArray, List.length_append]
    simp
theorem last_N {value slice : PySem.Expr} {p : List Value} {y : Value} {n : Nat} {t : Tok} {Q : Value → Shared → Prop} (N : News h₀ L s.heap news) (hm : (D, listOf (p ++ [y]).toArray n) ∈ news) (hz : p.length ≤ 1000) (h : Q y s)
    (hs : subscripted slice false (.ref D) (.int (-1) t) = operate [.ref D, .int (-1) t] (getItem (.ref D) (.int (-1) t)) := by with_unfolding_all rfl) :
    wpAny (model prog w) A (subscriptTail value slice (.ref D) (.int (-1) t)) Q E s := by
  have hl : s.heap.IsList D (p ++ [y]).toArray := ⟨_, (N _ hm).1, rfl, _, rfl⟩
  have hsz : (p ++ [y]).toArray.size = p.length + 1 := by simp
  refine tail_any hl.typeIs slot_list_getitem.lookup (wpAny_getItem_list_neg hl (by decide) (by rw [hsz]; omega) (by decide) ?_ h) hs
  rw [hsz, show ((-1 : Int) + ((p.length + 1 : Nat) : Int)).toNat = p.length by omega]
  simp
theorem truthy_snoc {p : List Value} {y : Value} {n : Nat} {Q : Bool → Shared → Prop} (N : News h₀ L s.heap news) (hm : (D, listOf (p ++ [y]).toArray n) ∈ news) (hz : p.length ≤ 1000) (h : Q true { s with toks := s.toks + 1 + 1 }) : wpAny (model prog w) A (truthy (.ref D)) Q E s := by
  have hl : s.heap.IsList D (p ++ [y]).toArray := ⟨_, (N _ hm).1, rfl, _, rfl⟩
  refine wpAny_truthy_list hl (by rw [List.size_toArray, List.length_append]; simp only [List.length_cons, List.length_nil]; omega) ?_
  rw [show (!(p ++ [y]).toArray.isEmpty) = true by simp]
  exact h
theorem truthy_nil {n : Nat} {Q : Bool → Shared → Prop} (N : News h₀ L s.heap news) (hm : (D, listOf #[] n) ∈ news) (h : Q false { s with toks := s.toks + 1 + 1 }) : wpAny (model prog w) A (truthy (.ref D)) Q E s := by
  have hl : s.heap.IsList D #[] := ⟨_, (N _ hm).1, rfl, _, rfl⟩
  exact wpAny_truthy_list hl (by decide) h
end
end NX
section
variable {prog : Program} {w : World} {A : Around} {E : Value → Shared → Prop} {s : Shared} {h₀ : Heap} {env : Env} {test : Expr} {body orelse : List Stmt} {Q : Flow → Shared → Prop}
noncomputable def WhileAt (prog : Program) (w : World) (A : Around) (env : Env) (test : Expr) (body orelse : List Stmt) (Q : Flow → Shared → Prop) (s : Shared) : Prop :=
  codeAny (model prog w) A (.whileLoop test body orelse env) (fun r s' => match r with | .ok f => Q f s' | .error _ => False) s
theorem While_at {pos : Pos} (h : WhileAt prog w A env test body orelse Q s) : wpAny (model prog w) A (exec (.While test body orelse pos) env) Q E s := by
  refine wpAny_While (codeAny_mono h fun r s' hr => ?_)
  cases r with
  | ok f => exact hr
  | error e => exact hr.elim
noncomputable def WTurn (h₀ : Heap) (L : Addr) (s : Shared) (n : Nat) (I : Nat → (Str → Option Value) → List (Addr × Obj) → Prop) (s' : Shared) : Prop :=
  ∃ k h' tk m' nw', k < n ∧ s' = { s with heap := h', toks := tk } ∧ Fr h₀ L h' m' ∧ News h₀ L h' nw' ∧ I k m' nw'
theorem WTurn.intro {L : Addr} {n k : Nat} {I : Nat → (Str → Option Value) → List (Addr × Obj) → Prop} {h' : Heap} {tk : Nat} {m' : Str → Option Value} {nw' : List (Addr × Obj)} (hk : k < n) (F : Fr h₀ L h' m') (N : News h₀ L h' nw') (hI : I k m' nw') : WTurn h₀ L s n I { s with heap := h', toks := tk } :=
  ⟨k, h', tk, m', nw', hk, rfl, F, N, hI⟩
noncomputable def WPost (h₀ : Heap) (L : Addr) (s : Shared) (n : Nat) (I : Nat → (Str → Option Value) → List (Addr × Obj) → Prop) (Q : Flow → Shared → Prop) (f : Flow) (s' : Shared) : Prop := match f with
  | .next => WTurn h₀ L s n I s'
  | .cont => WTurn h₀ L s n I s'
  | .brk => Q .next s'
  | .ret v => Q (.ret v) s'
theorem WhileAt.inv {L : Addr} {m : Str → Option Value} {news : List (Addr × Obj)} (I : (Str → Option Value) → Nat → (Str → Option Value) → List (Addr × Obj) → Prop) {n : Nat} (F : Fr h₀ L s.heap m) (N : News h₀ L s.heap news) (h0 : I m n m news)
    (turn : ∀ n m₁ nw h tk, I m n m₁ nw → Fr h₀ L h m₁ → News h₀ L h nw → wpAny (model prog w) A (isTrue test env (eval test env)) (fun b s₂ => if b = true then wpAny (model prog w) A (execs body env) (WPost h₀ L s n (I m) Q) (fun _ _ => False) s₂
      else wpAny (model prog w) A (execs orelse env) Q (fun _ _ => False) s₂) (fun _ _ => False) { s with heap := h, toks := tk }) : WhileAt prog w A env test body orelse Q s := by
  refine codeAny_whileLoop (fun n s' => ∃ h' tk m' nw', s' = { s with heap := h', toks := tk } ∧ Fr h₀ L h' m' ∧ News h₀ L h' nw' ∧ I m n m' nw') ?_ n ⟨s.heap, s.toks, m, news, rfl, F, N, h0⟩
  rintro n s' ⟨h', tk, m', nw', rfl, F', N', hI⟩
  refine wpAny_mono (turn n m' nw' h' tk hI F' N') (fun b s₂ h₂ => ?_) fun _ _ e => e.elim
  cases b with
  | true =>
    simp only [if_true] at h₂ ⊢
    refine wpAny_mono h₂ (fun f s₃ h₃ => ?_) fun _ _ e => e.elim
    have fin : WTurn h₀ L s n (I m) s₃ → ∃ k, k < n ∧ ∃ h' tk m' nw', s₃ = { s with heap := h', toks := tk } ∧ Fr h₀ L h' m' ∧ News h₀ L h' nw' ∧ I m k m' nw' := by
      rintro ⟨k, h', tk, m', nw', hk, e, r⟩
      exact ⟨k, hk, h', tk, m', nw', e, r⟩
    cases f with
    | next => exact fin h₃
    | cont => exact fin h₃
    | brk => exact h₃
    | ret v => exact h₃
  | false =>
    simp only [Bool.false_eq_true, if_false] at h₂ ⊢
    exact wpAny_mono h₂ (fun f s₃ h₃ => h₃) fun _ _ e => e.elim
end
theorem ru28x0 : True := by
  k_with "m_stop" => (with_reducible show WhileAt _ _ _ _ _ _ _ _ _)
  k_with "exec While" => ((k_here; k_dflt (refine While_at ?_)))
  k_with "exec While Name" => ((k_here; k_dflt (refine While_at ?_)))
  k_with "exec While Constant" => ((k_here; k_dflt (refine While_at ?_)))
  k_with "getAttr ref" => ((k_here; (with_reducible show wpAny _ _ (getAttr (Value.ref _) (Str.ofString "__next__") true) _ _ _); k_dflt (refine NX.next_N (by k_asm) (by k_asm) (by k_mem) ?_; intro _ _ _ _ _; walk_at "t_3")))
  k_with "call builtin:iter" => ((k_here; (with_reducible show wpAny _ _ (call (Value.builtin "iter") [Value.ref _]) _ _ _); k_dflt (refine NX.iter_N (by k_asm) (by k_asm) (by is_list) ?_; intro _ _ _ _; walk_at "t_3")))
  k_with "callWith ref" => ((k_here; (with_reducible show wpAny _ _ (callWith _ (Value.ref _) [] (backTo _ (starEach [] _)) []) _ _ _); k_dflt (with_unfolding_all refine NX.callWith_N (by k_asm) (by k_mem) ?_)))
  k_with "call ref" => ((k_here; (with_reducible show wpAny _ _ (call (Value.ref _) []) _ _ _); k_dflt (first | (refine' NX.item_N ?zzk1 ?zzk2 ?zzk3 ?zzk4 ?zzk5 ?zzk6 ?_; (case zzk1 => k_asm); (case zzk2 => k_asm); (case zzk4 => k_mem); (case zzk3 => k_updF); (case zzk5 => is_list); (case zzk6 => assumption); intro _ _; walk_at "t_8") | (refine' NX.end_N ?zzk0 ?zzk1 ?zzk2 ?zzk3 ?zzk4 ?zzk5 ?zzk6 ?_; (case zzk0 => assumption); (case zzk1 => k_asm); (case zzk2 => k_asm); (case zzk4 => k_mem); (case zzk3 => k_updF); (case zzk5 => is_list); (case zzk6 => assumption); intro _ _ _ _ _; walk_at "t_8"))))
  k_with "call builtin:list.pop" => ((k_here; (with_reducible show wpAny _ _ (call (Value.builtin _) [Value.ref _]) _ _ _); k_dflt (refine' NX.pop_N ?zzk1 ?zzk2 ?zzk3 ?zzk4 ?_; (case zzk1 => k_asm); (case zzk2 => k_asm); (case zzk3 => k_updF); (case zzk4 => omega); intro _ _; walk_at "t_8")))
  k_with "subscriptTail Name UnaryOp ref int" => ((k_here; k_dflt (refine' NX.last_N ?zzk1 ?zzk2 ?zzk3 ?_ ?zzk4; (case zzk1 => k_asm); (case zzk2 => k_mem); (case zzk3 => omega); (case zzk4 => with_unfolding_all rfl))))
  k_with "call builtin:len" => ((k_here; (with_reducible show wpAny _ _ (call (Value.builtin "len") [Value.ref _]) _ _ _); k_dflt (refine call_len_list (by is_list) (by omega) ?_)))
  k_with "truthy ref" => ((k_here; k_dflt (refine wpAny_truthy_list (by is_list) (by omega) ?_)))
  k_with "truthy ref" => ((k_here; k_dflt (first | (refine NX.truthy_nil (by k_asm) (by k_mem) ?_) | (refine NX.truthy_snoc (by k_asm) (by k_mem) (by omega) ?_))))
  trivial


end P28
section P29
theorem ru29 : True := by
  k_with_none
  k_with "m_stop" => (first | with_reducible show LCg.CompRest _ _ _ _ _ _ _ _ _ _ _ _ _ _ _ _ _ _ _ | with_reducible show LCt.CompRestT _ _ _ _ _ _ _ _ _ _ _ _ _ _ _ _ _ _ _ _)
  k_with "m_go0" => (repeat' ((fail_if_success (k_extra "m_stop")); first | (k_unfold; (try dsimp only)) | walk1 | (dsimp only; walk1) | (leave1; try dsimp only) | fail "no step"))
  k_with "m_go" => (((try k_fold) <;> (try dsimp only) <;> k_extra "m_go0" <;> (try k_fold)))
  k_with "m_inA" => (((case zzkX => assumption); (case zzkT => assumption); (case zzkl => k_is); (case zzk1 => exact rfl); (case zzk2 => exact rfl); (case zzk3 => exact rfl); (case zzk4 => decide); (case zzkc => k_is); (case zzkr => omega); (case zzkb => first | exact BindsTo.of_eq rfl | exact binds_K (by k_in) rfl (by k_is) rfl rfl rfl); (case zzko => exact locs rfl); intro _ _; walk_at "t_0"))
  k_with "m_inB" => (((case zzkX => assumption); (case zzkT => assumption); (case zzkl => k_is); (case zzk1 => exact rfl); (case zzk2 => exact rfl); (case zzk3 => exact rfl); (case zzkc => k_is); (case zzkr => omega); (case zzkb => first | exact BindsTo.of_eq rfl | exact binds_K (by k_in) rfl (by k_is) rfl rfl rfl); (case zzko => exact rfl); (case zzkn => decide +kernel); intro _ _ _ _; walk_at "t_1"))
  k_with "m_in1" => ((refine' freeze1 ?zzkX ?zzkT ?zzkl ?zzkc ?zzkr ?zzkb ?zzko ?_ ?zzk1 ?zzk2 ?zzk3 ?zzk4; k_extra "m_inA"))
  k_with "m_inC1" => ((refine' freezeC1 ?zzkX ?zzkT ?zzkl ?zzkc ?zzkr ?zzkb ?zzko ?zzkn ?_ ?zzk1 ?zzk2 ?zzk3; k_extra "m_inB"))
  k_with "m_in2" => ((refine' freeze2 ?zzkX ?zzkT ?zzkl ?zzkc ?zzkr ?zzkb ?zzko ?_ ?zzk1 ?zzk2 ?zzk3 ?zzk4; k_extra "m_inA"))
  k_with "m_inC2" => ((refine' freezeC2 ?zzkX ?zzkT ?zzkl ?zzkc ?zzkr ?zzkb ?zzko ?zzkn ?_ ?zzk1 ?zzk2 ?zzk3; k_extra "m_inB"))
  k_with "m_in3" => ((refine' freeze3 ?zzkX ?zzkT ?zzkl ?zzkc ?zzkr ?zzkb ?zzko ?_ ?zzk1 ?zzk2 ?zzk3 ?zzk4; k_extra "m_inA"))
  k_with "m_inC3" => ((refine' freezeC3 ?zzkX ?zzkT ?zzkl ?zzkc ?zzkr ?zzkb ?zzko ?zzkn ?_ ?zzk1 ?zzk2 ?zzk3; k_extra "m_inB"))
  k_with "m_in4" => ((refine' freeze4 ?zzkX ?zzkT ?zzkl ?zzkc ?zzkr ?zzkb ?zzko ?_ ?zzk1 ?zzk2 ?zzk3 ?zzk4; k_extra "m_inA"))
  k_with "m_inC4" => ((refine' freezeC4 ?zzkX ?zzkT ?zzkl ?zzkc ?zzkr ?zzkb ?zzko ?zzkn ?_ ?zzk1 ?zzk2 ?zzk3; k_extra "m_inB"))
  k_with "m_size" => (first | ((with_reducible refine z_sz ?_); omega) | ((with_reducible refine z_szl ?_); omega) | omega | (rw [sizeLine_eq]; omega) | (simp only [List.size_toArray, sizeLine_eq, List.length_append, List.length_cons, List.length_nil, List.length_map] at *; omega))
  k_with "eval ListComp" => ((k_here; k_dflt (first | ((with_reducible apply LCt.ListComp_T); (case F₀ => k_asm); (case hclos => with_unfolding_all rfl); (case hcell => decide); (case hkind => rfl); (case hnames => decide); (case hx => rfl); (case hs => intro _; with_unfolding_all rfl)) | ((with_reducible apply LCg.ListComp_U); (case F₀ => k_asm); (case hclos => with_unfolding_all rfl); (case hcell => decide); (case hkind => rfl); (case hnames => decide); (case hx => rfl); (case hs => intro _; with_unfolding_all rfl)))))
  k_with "exec Assign cons ListComp" => ((k_here; k_dflt (first | ((with_reducible apply LCt.Assign_ListComp_T); (case F₀ => k_asm); (case hLe => rfl); (case hsw => with_unfolding_all rfl); (case hclos => with_unfolding_all rfl); (case hcell => decide); (case hkind => rfl); (case hnames => decide); (case hx => rfl); (case hy => rfl); (case hp => rfl); (case hs => intro _; with_unfolding_all rfl)) | ((with_reducible apply LCg.Assign_ListComp_U); (case F₀ => k_asm); (case hLe => rfl); (case hsw => with_unfolding_all rfl); (case hclos => with_unfolding_all rfl); (case hcell => decide); (case hkind => rfl); (case hnames => decide); (case hx => rfl); (case hy => rfl); (case hp => rfl); (case hs => intro _; with_unfolding_all rfl)) | (refine wpAny_Assign_Name ?_))))
  k_with "CompSrcT" => ((k_here; k_dflt (first | (refine LCt.CompSrcT.ledger (by first | assumption | rfl) (by k_asm) (by k_asm) (by k_mem) (by k_extra "m_size") ?_; intro _) | (refine LCt.CompSrcT.base (by first | assumption | rfl) (by k_asm) (by k_asm) (by assumption) (by k_extra "m_size") ?_; intro _) | (refine LCt.CompSrcT.range (by first | assumption | rfl) (by k_asm) (by k_asm) (by assumption) (by first | decide | exact small_nat (by omega) | exact small_one (by omega) (by omega) (by omega) (by omega)) (by first | rfl | decide | exact rangeSize_nat _ _) (by k_extra "m_size") ?_; intro _))))
  k_with "CompSrc" => ((k_here; k_dflt (first | (refine LCg.CompSrc.ledger (by first | assumption | rfl) (by k_asm) (by k_asm) (by k_mem) (by k_extra "m_size") ?_; intro _) | (refine LCg.CompSrc.base (by first | assumption | rfl) (by k_asm) (by k_asm) (by assumption) (by k_extra "m_size") ?_; intro _) | (refine LCg.CompSrc.range (by first | assumption | rfl) (by k_asm) (by k_asm) (by assumption) (by first | decide | exact small_nat (by omega) | exact small_one (by omega) (by omega) (by omega) (by omega)) (by first | rfl | decide | exact rangeSize_nat _ _) (by k_extra "m_size") ?_; intro _))))
  k_with "m_arith" => (first | ((try simp only [depth_under_make, depth_under_kw, depth_in1, depth_deeper, units_in1, units_deeper, Around.mark_units]); omega) | (simp only [depth_under_make, depth_under_kw, depth_in1, depth_deeper, units_in1, units_deeper, Around.mark_units] at *; omega))
  k_with "m_p1" => (first | with_reducible assumption | exact And.left (by with_reducible assumption) | exact And.left (And.right (by with_reducible assumption)) | exact And.right (by with_reducible assumption) | exact And.left (And.right (And.right (by with_reducible assumption))) | exact And.right (And.right (by with_reducible assumption)) | exact And.left (And.right (And.right (And.right (by with_reducible assumption)))) | exact And.right (And.right (And.right (by with_reducible assumption))) | exact And.left (And.right (And.right (And.right (And.right (by with_reducible assumption))))) | exact And.right (And.right (And.right (And.right (by with_reducible assumption)))) | exact And.left (And.right (And.right (And.right (And.right (And.right (by with_reducible assumption)))))) | exact And.right (And.right (And.right (And.right (And.right (by with_reducible assumption))))) | exact And.left (And.right (And.right (And.right (And.right (And.right (And.right (by with_reducible assumption))))))) | exact And.right (And.right (And.right (And.right (And.right (And.right (by with_reducible assumption)))))) | exact And.left (And.right (And.right (And.right (And.right (And.right (And.right (And.right (by with_reducible assumption)))))))) | exact And.right (And.right (And.right (And.right (And.right (And.right (And.right (by with_reducible assumption))))))) | exact And.left (And.right (And.right (And.right (And.right (And.right (And.right (And.right (And.right (by with_reducible assumption))))))))) | exact And.right (And.right (And.right (And.right (And.right (And.right (And.right (And.right (by with_reducible assumption)))))))) | exact And.left (And.right (And.right (And.right (And.right (And.right (And.right (And.right (And.right (And.right (by with_reducible assumption)))))))))) | exact And.right (And.right (And.right (And.right (And.right (And.right (And.right (And.right (And.right (by with_reducible assumption))))))))) | exact And.left (And.right (And.right (And.right (And.right (And.right (And.right (And.right (And.right (And.right (And.right (by with_reducible assumption))))))))))) | exact And.right (And.right (And.right (And.right (And.right (And.right (And.right (And.right (And.right (And.right (by with_reducible assumption)))))))))) | exact And.left (And.right (And.right (And.right (And.right (And.right (And.right (And.right (And.right (And.right (And.right (And.right (by with_reducible assumption)))))))))))) | exact And.right (And.right (And.right (And.right (And.right (And.right (And.right (And.right (And.right (And.right (And.right (by with_reducible assumption))))))))))))
  k_with "m_p2" => (first | exact And.left (And.left (by with_reducible assumption)) | exact And.left (And.right (And.left (by with_reducible assumption))) | exact And.left (And.right (And.right (And.left (by with_reducible assumption)))) | exact And.left (And.right (And.right (And.right (And.left (by with_reducible assumption))))) | exact And.right (And.left (by with_reducible assumption)) | exact And.right (And.right (And.left (by with_reducible assumption))) | exact And.right (And.right (And.right (And.left (by with_reducible assumption)))) | exact And.left (And.left (And.right (by with_reducible assumption))) | exact And.left (And.right (And.left (And.right (by with_reducible assumption)))) | exact And.left (And.right (And.right (And.left (And.right (by with_reducible assumption))))) | exact And.left (And.right (And.right (And.right (And.left (And.right (by with_reducible assumption)))))) | exact And.right (And.left (And.right (by with_reducible assumption))) | exact And.right (And.right (And.left (And.right (by with_reducible assumption)))) | exact And.right (And.right (And.right (And.left (And.right (by with_reducible assumption))))) | exact And.left (And.left (And.right (And.right (by with_reducible assumption)))) | exact And.left (And.right (And.left (And.right (And.right (by with_reducible assumption))))) | exact And.left (And.right (And.right (And.left (And.right (And.right (by with_reducible assumption)))))) | exact And.left (And.right (And.right (And.right (And.left (And.right (And.right (by with_reducible assumption))))))) | exact And.right (And.left (And.right (And.right (by with_reducible assumption)))) | exact And.right (And.right (And.left (And.right (And.right (by with_reducible assumption))))) | exact And.right (And.right (And.right (And.left (And.right (And.right (by with_reducible assumption)))))) | exact And.left (And.left (And.right (And.right (And.right (by with_reducible assumption))))) | exact And.left (And.right (And.left (And.right (And.right (And.right (by with_reducible assumption)))))) | exact And.left (And.right (And.right (And.left (And.right (And.right (And.right (by with_reducible assumption))))))) | exact And.left (And.right (And.right (And.right (And.left (And.right (And.right (And.right (by with_reducible assumption)))))))) | exact And.right (And.left (And.right (And.right (And.right (by with_reducible assumption))))) | exact And.right (And.right (And.left (And.right (And.right (And.right (by with_reducible assumption)))))) | exact And.right (And.right (And.right (And.left (And.right (And.right (And.right (by with_reducible assumption))))))))
  k_with "m_ne" => (first | assumption | (refine Ne.symm ?_; assumption) | (refine Nat.ne_of_lt ?_; k_extra "m_p1") | (refine Nat.ne_of_gt ?_; k_extra "m_p1") | k_extra "m_p1" | (refine Ne.symm ?_; k_extra "m_p1") | k_extra "m_p2" | (refine Ne.symm ?_; k_extra "m_p2"))
  k_with "call ref" => ((k_here; (with_reducible show wpAny _ _ (call (Value.ref 59) _) _ _ _); k_dflt (refine' mk_entry ?zzk1 ?zzk2 ?zzk3 ?zzk4 ?zzkr ?_; (case zzk1 => k_asm); (case zzk2 => k_asm); (case zzk3 => k_asm); (case zzk4 => k_asm); (case zzkr => (simp only [depth_in1, depth_deeper]; omega)); intro _ _ _ _ _ _ _ _ _ _ _ _; walk_at "t_2")))
  k_with "assign Tuple" => ((k_here; k_dflt (refine' assign2 ?zzk1 ?zzk2 ?zzk3 ?zzk4 ?_; (case zzk1 => first | assumption | exact rfl); (case zzk2 => k_asm); (case zzk3 => k_asm); (case zzk4 => k_mem); intro _ _ _)))
  k_with "exec For Name Attribute cons nil" => ((k_here; k_dflt (refine For_at ?_)))
  k_with "exec For Name Name cons nil" => ((k_here; k_dflt (refine For_at ?_)))
  k_with "exec For Name Call cons nil" => ((k_here; k_dflt (refine For_at ?_)))
  k_with "exec For Name Tuple cons nil" => ((k_here; k_dflt (refine For_at ?_)))
  k_with "exec For Name List cons nil" => ((k_here; k_dflt (refine For_at ?_)))
  k_with "m_stop" => (with_reducible show ForAt _ _ _ _ _ _ _ _ _ _)
  k_with "m_up" => (first | exact ⟨_, by funext z; repeat' (first | rfl | split) <;> simp_all⟩ | exact ⟨_, _, by funext z; repeat' (first | rfl | split) <;> simp_all⟩ | exact ⟨_, _, _, by funext z; repeat' (first | rfl | split) <;> simp_all⟩)
  k_with "newList" => ((k_here; k_dflt (refine' newList_M ?zzk1 ?zzk2 ?zzk3 ?_; (case zzk1 => k_asm); (case zzk2 => k_asm); (case zzk3 => exact Nat.le_of_ble_eq_true rfl)); intro _ _ _ _; walk_at "t_3"))
  k_with "call ref" => ((k_here; (with_reducible show wpAny _ _ (call (Value.ref 119) _) _ _ _); k_dflt (refine' mk_nodeinfo ?zzk1 ?zzk2 ?zzk3 ?zzk4 ?zzkr ?zzkv ?_; (case zzk1 => k_asm); (case zzk2 => k_asm); (case zzk3 => k_asm); (case zzk4 => k_asm); (case zzkv => k_handed); (case zzkr => (simp only [depth_in1, depth_deeper]; omega)); intro _ _ _ _ _ _ _ _; walk_at "t_2")))
  k_with "call ref" => ((k_here; (with_reducible show wpAny _ _ (call (Value.ref 216) _) _ _ _); k_dflt (refine' mk_sorter ?zzk1 ?zzk2 ?zzk3 ?zzk4 ?zzkr ?_; (case zzk1 => k_asm); (case zzk2 => k_asm); (case zzk3 => k_asm); (case zzk4 => k_asm); (case zzkr => (simp only [depth_in1, depth_deeper]; omega)); intro _ _ _ _ _ _ _ _ _ _ _ _ _ _ _ _; walk_at "t_2")))
  k_with "getMethod ref" => ((k_here; (with_reducible show wpAny _ _ (getMethod (Value.ref _) (Str.ofString "get") _) _ _ _); k_dflt (refine kdg_method (knd := PySem.intKind _ _) (by k_asm) (by k_mem) (by assumption) ?_)))
  k_with "call builtin:dict.get" => ((k_here; k_dflt (refine kdg_get1 (knd := PySem.intKind _ _) (by k_asm) (by k_mem) (by assumption) (by assumption) (intKind_is _ _ _ _) _ (by assumption) ?_; (try dsimp only [Option.getD]))))
  k_with "subscriptTail Name Name ref int" => ((k_here; k_dflt (refine' kda_item (knd := PySem.intKind _ _) ?zzk1 ?zzk2 ?zzk3 ?zzk4 ?zzk5 ?_ ?zzk6 ?zzk7; (case zzk6 => with_unfolding_all rfl); (case zzk7 => intro _; with_unfolding_all rfl); (case zzk1 => k_asm); (case zzk2 => k_mem); (case zzk3 => assumption); (case zzk4 => exact intKind_is _ _ _ _); (case zzk5 => assumption))))
  k_with "setItem ref int" => ((k_here; k_dflt (refine' kda_set (knd := PySem.intKind _ _) ?zzF ?zzN ?zzU ?zzd (intKind_is _ _ _ _) ?zzz ?_; (case zzF => k_asm); (case zzN => k_asm); (case zzU => k_updF); (case zzd => assumption); (case zzz => rw [sizeLine_eq]; assumption)); intro _ _ _; walk_at "t_7"))
  k_with "call builtin:list.append" => ((k_here; (with_reducible show wpAny _ _ (call (Value.builtin _) [Value.ref _, _]) _ _ _); k_dflt (refine' append_K ?zzk1 ?zzk2 ?zzk3 ?_ ?zzz; (case zzk1 => k_asm); (case zzk2 => k_asm); (case zzk3 => k_upd); (case zzz => rw [sizeLine_eq]; omega); k_whole); intro _ _ _; (try k_sweep)))
  k_with "call type:bool" => ((k_here; (with_reducible show wpAny _ _ (call _ [Value.ref _]) _ _ _); k_dflt (refine call_bool_list (by is_list) (by omega) ?_)))
  k_with "call builtin:list.clear" => ((k_here; (with_reducible show wpAny _ _ (call (Value.builtin _) [Value.ref _]) _ _ _); k_dflt (refine' clear_any ?zzF ?zzN ?zzU ?zzz ?_; (case zzF => k_asm); (case zzN => k_asm); (case zzU => k_updF); (case zzz => rw [sizeLine_eq]; omega)); intro _ _ _; walk_at "t_8"))
  k_with "m_stop" => (with_reducible show WhileAt _ _ _ _ _ _ _ _ _)
  k_with "exec While" => ((k_here; k_dflt (refine While_at ?_)))
  k_with "exec While Name" => ((k_here; k_dflt (refine While_at ?_)))
  k_with "exec While Constant" => ((k_here; k_dflt (refine While_at ?_)))
  k_with "getAttr ref" => ((k_here; (with_reducible show wpAny _ _ (getAttr (Value.ref _) (Str.ofString "__next__") true) _ _ _); k_dflt (refine NX.next_N (by k_asm) (by k_asm) (by k_mem) ?_; intro _ _ _ _ _; walk_at "t_3")))
  k_with "call builtin:iter" => ((k_here; (with_reducible show wpAny _ _ (call (Value.builtin "iter") [Value.ref _]) _ _ _); k_dflt (refine NX.iter_N (by k_asm) (by k_asm) (by is_list) ?_; intro _ _ _ _; walk_at "t_3")))
  k_with "callWith ref" => ((k_here; (with_reducible show wpAny _ _ (callWith _ (Value.ref _) [] (backTo _ (starEach [] _)) []) _ _ _); k_dflt (with_unfolding_all refine NX.callWith_N (by k_asm) (by k_mem) ?_)))
  k_with "call ref" => ((k_here; (with_reducible show wpAny _ _ (call (Value.ref _) []) _ _ _); k_dflt (first | (refine' NX.item_N ?zzk1 ?zzk2 ?zzk3 ?zzk4 ?zzk5 ?zzk6 ?_; (case zzk1 => k_asm); (case zzk2 => k_asm); (case zzk4 => k_mem); (case zzk3 => k_updF); (case zzk5 => is_list); (case zzk6 => assumption); intro _ _; walk_at "t_8") | (refine' NX.end_N ?zzk0 ?zzk1 ?zzk2 ?zzk3 ?zzk4 ?zzk5 ?zzk6 ?_; (case zzk0 => assumption); (case zzk1 => k_asm); (case zzk2 => k_asm); (case zzk4 => k_mem); (case zzk3 => k_updF); (case zzk5 => is_list); (case zzk6 => assumption); intro _ _ _ _ _; walk_at "t_8"))))
  k_with "call builtin:list.pop" => ((k_here; (with_reducible show wpAny _ _ (call (Value.builtin _) [Value.ref _]) _ _ _); k_dflt (refine' NX.pop_N ?zzk1 ?zzk2 ?zzk3 ?zzk4 ?_; (case zzk1 => k_asm); (case zzk2 => k_asm); (case zzk3 => k_updF); (case zzk4 => omega); intro _ _; walk_at "t_8")))
  k_with "subscriptTail Name UnaryOp ref int" => ((k_here; k_dflt (refine' NX.last_N ?zzk1 ?zzk2 ?zzk3 ?_ ?zzk4; (case zzk1 => k_asm); (case zzk2 => k_mem); (case zzk3 => omega); (case zzk4 => with_unfolding_all rfl))))
  k_with "call builtin:len" => ((k_here; (with_reducible show wpAny _ _ (call (Value.builtin "len") [Value.ref _]) _ _ _); k_dflt (refine call_len_list (by is_list) (by omega) ?_)))
  k_with "truthy ref" => ((k_here; k_dflt (refine wpAny_truthy_list (by is_list) (by omega) ?_)))
  k_with "truthy ref" => ((k_here; k_dflt (first | (refine NX.truthy_nil (by k_asm) (by k_mem) ?_) | (refine NX.truthy_snoc (by k_asm) (by k_mem) (by omega) ?_))))
  trivial
structure It where
  k : Int
  kt : Tok
  u : Addr
  a : Addr
  l : Addr
  i : Nat
  sv : List Value
  sn : Nat
  vt : Tok
noncomputable abbrev entL (e : It) : List (Addr × Obj) := [(e.u, NX.mw e.a), (e.a, NX.liO e.l e.i)]
noncomputable def entsL (es : List It) : List (Addr × Obj) := es.flatMap entL
theorem entsL_cons {e : It} {es : List It} : entsL (e :: es) = (e.u, NX.mw e.a) :: (e.a, NX.liO e.l e.i) :: entsL es := by simp [entsL]
noncomputable def stV (es : List It) : List Value := es.reverse.map fun e => .int e.k e.kt
noncomputable def itV (es : List It) : List Value := es.reverse.map fun e => .ref e.u
noncomputable def n2K : List It → List (Int × Value)
  | [] => []
  | e :: es => n2K es ++ [(e.k, .int es.length e.vt)]
theorem stV_cons {e : It} {es : List It} : stV (e :: es) = stV es ++ [Value.int e.k e.kt] := by simp [stV]
theorem itV_cons {e : It} {es : List It} : itV (e :: es) = itV es ++ [.ref e.u] := by simp [itV]
theorem stV_len {es : List It} : (stV es).length = es.length := by simp [stV]
theorem itV_len {es : List It} : (itV es).length = es.length := by simp [itV]
theorem n2K_len : ∀ {es : List It}, (n2K es).length = es.length
  | [] => rfl
  | e :: es => by simp [n2K, n2K_len (es := es)]
theorem n2K_none {x : Int} : ∀ {es : List It}, (∀ e ∈ es, e.k ≠ x) → valueAt (n2K es) x = none
  | [], _ => rfl
  | e :: es, h => by
    have h1 := n2K_none fun e he => h e (.tail _ he)
    have h2 : decide (e.k = x) = false := decide_eq_false (h e (.head _))
    unfold valueAt at h1 ⊢
    rw [n2K, List.find?_append]
    cases hq : (n2K es).find? (fun p => decide (p.1 = x)) with
    | none => simp [h2]
    | some v => rw [hq] at h1; cases h1
theorem n2K_some {e : It} {es : List It} : (valueAt (n2K (e :: es)) e.k).isSome = true := by
  rw [valueAt_isSome_eq_any]
  simp [n2K]
theorem n2K_keys : ∀ {es : List It} {p : Int × Value}, p ∈ n2K es → ∃ e ∈ es, e.k = p.1
  | e :: es, p, h => by
    rcases List.mem_append.mp h with h | h
    · obtain ⟨x, hx, q⟩ := n2K_keys h
      exact ⟨x, .tail _ hx, q⟩
    · rw [List.mem_singleton.mp h]; exact ⟨e, .head _, rfl⟩
theorem n2K_without {e : It} {es : List It} (h : ∀ x ∈ es, x.k ≠ e.k) : without (n2K (e :: es)) e.k = n2K es := by
  unfold without
  rw [n2K, List.filter_append, List.filter_eq_self.mpr]
  · simp
  · intro p hp
    obtain ⟨x, hx, q⟩ := n2K_keys hp
    have := h x hx
    rw [q] at this
    simpa using this
structure Cyc (ps : Params) (σ : Srt) (ks : List Int) (S : Int → List Int) (dep : Int → Nat) (es : List It) : Prop where
  at' : ∀ e ∈ es, e.k ∈ ks ∧ (e.l, W.listOf e.sv.toArray e.sn) ∈ srtL ps σ ∧ IntsAre e.sv (S e.k) ∧ e.i ≤ (S e.k).length
  up : es.Pairwise fun a b => dep b.k < dep a.k
theorem Cyc.tl {ps : Params} {σ : Srt} {ks : List Int} {S : Int → List Int} {dep : Int → Nat} {e : It} {es : List It} (c : Cyc ps σ ks S dep (e :: es)) : Cyc ps σ ks S dep es ∧ ∀ x ∈ es, dep x.k < dep e.k :=
  ⟨⟨fun x hx => c.at' x (.tail _ hx), (List.pairwise_cons.mp c.up).2⟩, (List.pairwise_cons.mp c.up).1⟩
theorem up_len {dep : Int → Nat} : ∀ {es : List It} {x : Int}, es.Pairwise (fun a b => dep b.k < dep a.k) → (∀ e ∈ es, dep e.k < dep x) → es.length ≤ dep x
  | [], _, _, _ => Nat.zero_le _
  | e :: es, x, h, hx => by
    have h1 := up_len (x := e.k) (List.pairwise_cons.mp h).2 (List.pairwise_cons.mp h).1
    have h2 := hx e (.head _)
    simp only [List.length_cons]; omega
noncomputable def wtF (f : Int → Nat) (ks : List Int) (SS : Int → Bool) : Nat := ((ks.filter fun k => !SS k).map f).sum
theorem wt_le (f : Int → Nat) (SS : Int → Bool) (x : Int) : ∀ ks : List Int, wtF f ks (fun j => SS j || decide (j = x)) ≤ wtF f ks SS
  | [] => Nat.le_refl _
  | k :: ks => by
    have h := wt_le f SS x ks
    unfold wtF at h ⊢
    by_cases h1 : SS k = true
    · simpa [List.filter_cons, h1] using h
    · by_cases h2 : k = x
      · simp [List.filter_cons, h1, h2]; subst h2; simp only [Bool.not_eq_true] at h1; simp [h1]; simp at h; omega
      · simp only [Bool.not_eq_true] at h1; simp [List.filter_cons, h1, h2]; simp at h; omega
theorem wt_lt (f : Int → Nat) (SS : Int → Bool) (x : Int) (hx : SS x = false) : ∀ ks : List Int, x ∈ ks → wtF f ks (fun j => SS j || decide (j = x)) + f x ≤ wtF f ks SS
  | [], h => nomatch h
  | k :: ks, h => by
    by_cases h2 : k = x
    · subst h2
      have h3 := wt_le f SS k ks
      unfold wtF at h3 ⊢
      simp [List.filter_cons, hx]; simp at h3; omega
    · have h4 := wt_lt f SS x hx ks ((List.mem_cons.mp h).resolve_left fun e => h2 e.symm)
      unfold wtF at h4 ⊢
      by_cases h1 : SS k = true
      · simpa [List.filter_cons, h1] using h4
      · simp only [Bool.not_eq_true] at h1; simp [List.filter_cons, h1, h2]; simp at h4; omega
theorem wt0 (ks : List Int) : wtF (fun _ => 1) ks (fun _ => false) = ks.length := by
  unfold wtF
  have e : ks.filter (fun k => !(fun _ => false) k) = ks := List.filter_eq_self.mpr fun _ _ => rfl
  rw [e]
  clear e
  induction ks with
  | nil => rfl
  | cons k ks ih => simp only [List.map_cons, List.sum_cons, ih, List.length_cons]; omega
noncomputable def restF (S : Int → List Int) (es : List It) : Nat := (es.map fun e => (S e.k).length - e.i).sum
theorem restF_cons {S : Int → List Int} {e : It} {es : List It} : restF S (e :: es) = ((S e.k).length - e.i) + restF S es := by simp [restF]
noncomputable abbrev cycL (ps : Params) (σ : Srt) (frs : List (Addr × Obj)) (es : List It) (stk its sn nd2 : Addr) (n1 n2 : Nat) (so od2 : Obj) : List (Addr × Obj) :=
  (stk, W.listOf (stV es).toArray n1) :: (its, W.listOf (itV es).toArray n2) :: (sn, so) :: (nd2, od2) :: (entsL es ++ (srtL ps σ ++ frs))
theorem lt_srt {ps : Params} {σ : Srt} {frs : List (Addr × Obj)} {d : Addr} (q : @LT.lt Nat _ σ.x d ∧ @LT.lt Nat _ σ.dx d ∧ @LT.lt Nat _ σ.nd d ∧ AllLt d (ndsL σ.ns ++ frs)) : ∀ z ∈ (srtL ps σ ++ frs).map (·.1), @LT.lt Nat _ z d := by
  intro z hz
  obtain ⟨p, hp, rfl⟩ := List.mem_map.mp hz
  simp only [srtL, List.cons_append, List.mem_cons] at hp
  rcases hp with rfl | rfl | rfl | hp
  · exact q.1
  · exact q.2.1
  · exact q.2.2.1
  · exact allLt_lt q.2.2.2 p hp
theorem nodup4 {l : List Addr} {a b c d : Addr} (h : l.Nodup) (h1 : ∀ z ∈ l, @LT.lt Nat _ z a) (e1 : @LT.lt Nat _ a b) (h2 : ∀ z ∈ l, @LT.lt Nat _ z b) (e2 : @LT.lt Nat _ a c) (e3 : @LT.lt Nat _ b c) (h3 : ∀ z ∈ l, @LT.lt Nat _ z c)
    (e4 : @LT.lt Nat _ a d) (e5 : @LT.lt Nat _ b d) (e6 : @LT.lt Nat _ c d) (h4 : ∀ z ∈ l, @LT.lt Nat _ z d) : (a :: b :: c :: d :: l).Nodup := by
  have ne : ∀ {x y : Addr}, @LT.lt Nat _ x y → x ≠ y := fun h => Nat.ne_of_lt h
  have nm : ∀ {x : Addr}, (∀ z ∈ l, @LT.lt Nat _ z x) → x ∉ l := fun h hm => Nat.lt_irrefl _ (h _ hm)
  simp only [List.nodup_cons, List.mem_cons, not_or]
  exact ⟨⟨ne e1, ne e2, ne e4, nm h1⟩, ⟨ne e3, ne e5, nm h2⟩, ⟨ne e6, nm h3⟩, nm h4, h⟩
theorem cyc_ne {I a b c d : Addr} {oI oa ob oc od : Obj} {l : List (Addr × Obj)} (h : (((I, oI) :: (a, oa) :: (b, ob) :: (c, oc) :: (d, od) :: l).map (·.1)).Nodup) :
    (@Ne Nat I a ∧ @Ne Nat I b ∧ @Ne Nat I c ∧ @Ne Nat I d) ∧ (@Ne Nat a b ∧ @Ne Nat a c ∧ @Ne Nat a d ∧ @Ne Nat b c ∧ @Ne Nat b d ∧ @Ne Nat c d) ∧ (∀ p ∈ l, p.1 ≠ I) ∧ (∀ p ∈ l, p.1 ≠ a) ∧ (∀ p ∈ l, p.1 ≠ b) ∧ (∀ p ∈ l, p.1 ≠ c) ∧ (∀ p ∈ l, p.1 ≠ d) := by
  simp only [List.map_cons, List.nodup_cons, List.mem_cons, not_or] at h
  obtain ⟨⟨a1, a2, a3, a4, a5⟩, ⟨b1, b2, b3, b4⟩, ⟨c1, c2, c3⟩, ⟨d1, d2⟩, e1, _⟩ := h
  exact ⟨⟨a1, a2, a3, a4⟩, ⟨b1, b2, b3, c1, c2, d1⟩, fun p hp e => a5 (e ▸ List.mem_map_of_mem hp), fun p hp e => b4 (e ▸ List.mem_map_of_mem hp), fun p hp e => c3 (e ▸ List.mem_map_of_mem hp), fun p hp e => d2 (e ▸ List.mem_map_of_mem hp), fun p hp e => e1 (e ▸ List.mem_map_of_mem hp)⟩
theorem allLt_map {d : Addr} {l : List (Addr × Obj)} (h : AllLt d l) : ∀ z ∈ l.map (·.1), @LT.lt Nat _ z d := fun z hz => by
  obtain ⟨p, hp, rfl⟩ := List.mem_map.mp hz
  exact allLt_lt h p hp
theorem cyc_push {g h : Heap} {L' : Addr} {ps : Params} {σ : Srt} {frs : List (Addr × Obj)} {es : List It} {I stk its sn nd2 u a dl : Addr} {oI so od so' od' : Obj} {n1 n2 m1 m2 : Nat} {p1 p2 p3 p4 : Addr × Obj} {x : Int} {t vt : Tok} {sv : List Value} {snn : Nat} {c1 c2 c3 c4 d1 d2 d3 d4 : Prop}
    (N : News g L' h ((u, NX.mw a) :: (a, NX.liO dl 0) :: p1 :: p2 :: p3 :: p4 :: (I, oI) :: (stk, W.listOf ((stV es).toArray.push (.int x t)) n1) :: (its, W.listOf ((itV es).toArray.push (.ref u)) n2) :: (sn, so) :: (nd2, od) :: (entsL es ++ (srtL ps σ ++ frs))))
    (hN : (((I, oI) :: cycL ps σ frs es stk its sn nd2 m1 m2 so' od').map (·.1)).Nodup)
    (la : c1 ∧ c2 ∧ c3 ∧ c4 ∧ @LT.lt Nat _ I a ∧ @LT.lt Nat _ stk a ∧ @LT.lt Nat _ its a ∧ @LT.lt Nat _ sn a ∧ @LT.lt Nat _ nd2 a ∧ AllLt a (entsL es ++ (srtL ps σ ++ frs)))
    (lu : @LT.lt Nat _ a u ∧ d1 ∧ d2 ∧ d3 ∧ d4 ∧ @LT.lt Nat _ I u ∧ @LT.lt Nat _ stk u ∧ @LT.lt Nat _ its u ∧ @LT.lt Nat _ sn u ∧ @LT.lt Nat _ nd2 u ∧ AllLt u (entsL es ++ (srtL ps σ ++ frs))) :
    News g L' h ((I, oI) :: cycL ps σ frs (⟨x, t, u, a, dl, 0, sv, snn, vt⟩ :: es) stk its sn nd2 n1 n2 so od) ∧ (((I, oI) :: cycL ps σ frs (⟨x, t, u, a, dl, 0, sv, snn, vt⟩ :: es) stk its sn nd2 n1 n2 so od).map (·.1)).Nodup := by
  have e1 : (stV (⟨x, t, u, a, dl, 0, sv, snn, vt⟩ :: es)).toArray = (stV es).toArray.push (.int x t) := by rw [stV_cons]; simp
  have e2 : (itV (⟨x, t, u, a, dl, 0, sv, snn, vt⟩ :: es)).toArray = (itV es).toArray.push (.ref u) := by rw [itV_cons]; simp
  constructor
  · dsimp only [cycL]
    rw [e1, e2, entsL_cons]
    refine nw_sub N fun p hp => ?_
    simp only [List.cons_append, List.mem_cons] at hp ⊢
    rcases hp with h | h | h | h | h | h | h | h <;> simp only [h, true_or, or_true]
  · obtain ⟨_, _, _, _, b1, b2, b3, b4, b5, b6⟩ := la
    obtain ⟨f0, _, _, _, _, f1, f2, f3, f4, f5, f6⟩ := lu
    have ne : ∀ {x y : Addr}, @LT.lt Nat _ x y → x ≠ y := fun h => Nat.ne_of_lt h
    have nm : ∀ {x : Addr} {l : List Addr}, (∀ z ∈ l, @LT.lt Nat _ z x) → x ∉ l := fun h hm => Nat.lt_irrefl _ (h _ hm)
    rw [List.map_cons] at hN ⊢
    dsimp only [cycL] at hN ⊢
    rw [entsL_cons]
    simp only [List.cons_append, List.map_cons, List.nodup_cons, List.mem_cons, not_or] at hN ⊢
    obtain ⟨⟨g1, g2, g3, g4, g5⟩, ⟨g6, g7, g8, g9⟩, ⟨g10, g11, g12⟩, ⟨g13, g14⟩, g15, g16⟩ := hN
    exact ⟨⟨g1, g2, g3, g4, ne f1, ne b1, g5⟩, ⟨g6, g7, g8, ne f2, ne b2, g9⟩, ⟨g10, g11, ne f3, ne b3, g12⟩, ⟨g13, ne f4, ne b4, g14⟩, ⟨ne f5, ne b5, g15⟩, ⟨Ne.symm (ne f0), nm (allLt_map f6)⟩, nm (allLt_map b6), g16⟩
theorem rest_lt {a b n i l : Nat} (h : i < l) (hn : a + (l - i + b) ≤ n) : a + (l - (i + 1) + b) < n := by omega
theorem rest_le {a b n i l : Nat} (hn : a + (l - i + b) ≤ n) : a + b ≤ n := by omega
theorem same_map {a b : List (Addr × Obj)} (h : TI.SameUp a b) : b.map (·.1) = a.map (·.1) := by
  induction a generalizing b with
  | nil =>
    cases b with
    | nil => rfl
    | cons _ _ => exact False.elim h
  | cons p ps ih =>
    cases b with
    | nil => exact False.elim h
    | cons q qs =>
      obtain ⟨h1, _, h3⟩ := h
      rw [List.map_cons, List.map_cons, ih h3, h1]
theorem cyc_frs {ps : Params} {σ : Srt} {frs frs' : List (Addr × Obj)} {es : List It} {I stk its sn nd2 : Addr} {oI so od : Obj} {n1 n2 : Nat} (SU : TI.SameUp frs frs') (hN : (((I, oI) :: cycL ps σ frs es stk its sn nd2 n1 n2 so od).map (·.1)).Nodup) :
    (((I, oI) :: cycL ps σ frs' es stk its sn nd2 n1 n2 so od).map (·.1)).Nodup := by
  simp only [cycL, List.map_cons, List.map_append] at hN ⊢
  rw [same_map SU]
  exact hN
theorem cyc_obj {ps : Params} {σ : Srt} {frs : List (Addr × Obj)} {es es' : List It} {I stk its sn nd2 : Addr} {oI so od oI' so' od' : Obj} {n1 n2 m1 m2 : Nat} (he : (entsL es').map (·.1) = (entsL es).map (·.1)) (hN : (((I, oI) :: cycL ps σ frs es stk its sn nd2 n1 n2 so od).map (·.1)).Nodup) :
    (((I, oI') :: cycL ps σ frs es' stk its sn nd2 m1 m2 so' od').map (·.1)).Nodup := by
  simp only [cycL, List.map_cons, List.map_append] at hN ⊢
  rw [he]
  exact hN
theorem cyc_down {ps : Params} {σ : Srt} {frs : List (Addr × Obj)} {e : It} {es : List It} {I stk its sn nd2 : Addr} {oI so od od' : Obj} {n1 n2 m1 m2 : Nat} (hN : (((I, oI) :: cycL ps σ frs (e :: es) stk its sn nd2 n1 n2 so od).map (·.1)).Nodup) :
    (((I, oI) :: cycL ps σ frs es stk its sn nd2 m1 m2 so od').map (·.1)).Nodup := by
  simp only [cycL, List.map_cons, List.map_append, entsL_cons, List.cons_append] at hN ⊢
  refine hN.sublist ?_
  refine .cons₂ _ (.cons₂ _ (.cons₂ _ (.cons₂ _ (.cons₂ _ (.cons _ (.cons _ (List.Sublist.refl _)))))))
theorem cyc_hap {ps : Params} {σ : Srt} {frs : List (Addr × Obj)} {e : It} {es : List It} {I stk its sn nd2 : Addr} {oI so od a1 a2 a3 a4 a5 a6 a7 : Obj} {n1 n2 : Nat} (hN : (((I, oI) :: cycL ps σ frs (e :: es) stk its sn nd2 n1 n2 so od).map (·.1)).Nodup) :
    ∀ p ∈ ((I, a1) :: (stk, a2) :: (its, a3) :: (sn, a4) :: (nd2, a5) :: (e.u, a6) :: (e.a, a7) :: (entsL es ++ srtL ps σ)), p.1 ∉ frs.map (·.1) := by
  intro p hp hm
  have e1 : (((I, oI) :: cycL ps σ frs (e :: es) stk its sn nd2 n1 n2 so od).map (·.1)) = (((I, a1) :: (stk, a2) :: (its, a3) :: (sn, a4) :: (nd2, a5) :: (e.u, a6) :: (e.a, a7) :: (entsL es ++ srtL ps σ)).map (·.1)) ++ frs.map (·.1) := by
    simp only [cycL, List.map_cons, List.map_append, entsL_cons, List.cons_append, List.append_assoc]
  rw [e1] at hN
  exact (List.nodup_append.mp hN).2.2 p.1 (List.mem_map_of_mem (f := (·.1)) hp) p.1 hm rfl
theorem ru29x0 : True := by
  k_with "delItem ref int" => ((k_here; k_dflt (refine' kob_del (knd := PySem.intKind _ _) ?zzF ?zzN ?zzU ?zzd (intKind_is _ _ _ _) ?zzl ?zzz ?_; (case zzF => k_asm); (case zzN => k_asm); (case zzU => k_updF); (case zzd => assumption); (case zzl => assumption); (case zzz => assumption)); intro _ _ _; walk_at "t_7"))
  trivial

noncomputable def CycMid (w : World) (g : Heap) (L' : Addr) (m₁ : Str → Option Value) (σ : Srt) (frs : List (Addr × Obj)) (ev : List Env) (ks : List Int) (S : Int → List Int) (dep : Int → Nat) (I : Addr) (oI : Obj) (stk its sn nd2 : Addr) (n : Nat) (s₀ : Shared) (f : Flow) (s' : Shared) : Prop :=
  f = .next ∧ ∃ h tk es frs' so c SS od n1 n2, s' = { s₀ with heap := h, toks := tk } ∧ Fr g L' h m₁ ∧ News g L' h ((I, oI) :: cycL w.params σ frs' es stk its sn nd2 n1 n2 so od) ∧ Cyc w.params σ ks S dep es ∧ TI.SameUp frs frs' ∧ TI.Frs ev frs' ∧
    so.SetObjOf (intKind PR w) SS c ∧ c + wtF (fun _ => 1) ks SS ≤ 100 ∧ od.IsDictOf (intKind PR w) (n2K es) ∧ (((I, oI) :: cycL w.params σ frs' es stk its sn nd2 n1 n2 so od).map (·.1)).Nodup ∧ wtF (fun k => (S k).length + 1) ks SS + restF S es ≤ n
theorem cyc_cut {w : World} {g : Heap} {L' : Addr} {m₁ : Str → Option Value} (σ : Srt) (frs : List (Addr × Obj)) (ev : List Env) (ks : List Int) (S : Int → List Int) (dep : Int → Nat) (I : Addr) (oI : Obj) (stk its sn nd2 : Addr) (n : Nat) {s : Shared} {A : Around} {E : Value → Shared → Prop} {Q : Flow → Shared → Prop} {env : Env} {a : Stmt} {rest : List Stmt}
    (_ : Fr g L' s.heap m₁) (h1 : wpAny (model PR w) A (exec a env) (CycMid w g L' m₁ σ frs ev ks S dep I oI stk its sn nd2 n s) E s)
    (h2 : ∀ s', CycMid w g L' m₁ σ frs ev ks S dep I oI stk its sn nd2 n s .next s' → wpAny (model PR w) A (execs rest env) Q E s') : wpAny (model PR w) A (execs (a :: rest) env) Q E s := by
  refine wpAny_execs_cons (wpAny_mono h1 (fun f s' h => ?_) fun _ _ e => e)
  obtain rfl : f = .next := h.1
  exact h2 s' h
theorem ru29x1 : True := by
  k_with "m_stop" => (with_reducible show wpAny _ _ (execs (Stmt.If _ _ _ _ :: Stmt.While (Expr.Name _ _) _ _ _ :: _) _) _ _ _)
  k_with "m_stop" => (with_reducible show CycMid _ _ _ _ _ _ _ _ _ _ _ _ _ _ _ _ _ _ _ _)
  k_with "compareOp In int ref" => ((k_here; k_dflt (refine kda_in (knd := PySem.intKind _ _) (by k_asm) (by k_mem) (by assumption) (by assumption) (intKind_is _ _ _ _) _ (by assumption) ?_)))
  trivial

section
variable {w : World} {A : Around} {s : Shared} {mean : ExcName → Option Value} {mg mb : Str → Option Value} {Q E : Value → Shared → Prop} {h₀ : Heap} {σ : Srt}
set_option maxHeartbeats 4000000 in
theorem cycle_ok {ks : List Int} {P : Int → Int} {S : Int → List Int} {dep : Int → Nat} {ev : List Env} {frs : List (Addr × Obj)} (KX : (hd.heap_39 w.params).In h₀) (T : Top hd.view_39 LS mean mg mb h₀) (hk : LK h₀ s.heap) (hroom : A.depth + 20 < recursionLimit) (hu : A.units + 200 < cLine) (hh : A.handled = none)
    (hA : A.frames = some ev) (Fs : TI.Frs ev frs) (Wf : WF w σ) (a : Abs σ ks P S) (hnd : ((srtL w.params σ ++ frs).map (·.1)).Nodup) (ho : ∀ p ∈ srtL w.params σ ++ frs, s.heap.get? p.1 = some p.2 ∧ h₀.get? p.1 = none) (hlen : σ.ns.length ≤ 100)
    (hdep : ∀ k ∈ ks, dep k ≤ 100 ∧ (S k).length ≤ 100 ∧ ∀ x ∈ S k, x ∈ ks ∧ dep k < dep x)
    (hQ : ∀ frs' h' tk, TI.SameUp frs frs' → (∀ b o, b ∉ frs.map (·.1) → s.heap.get? b = some o → h'.get? b = some o) → (∀ p ∈ frs', h'.get? p.1 = some p.2) → Q .none { s with heap := h', toks := tk }) :
    wpAny (model PR w) A (call (.ref 206) [.ref σ.x] []) Q E s := by
  refine call_freezeX (X := (srtL w.params σ ++ frs).map (·.1)) (news := srtL w.params σ ++ frs) (binds := [(Str.ofString "self", .ref σ.x)]) KX T hk ?_ ?_ (by k_is) (by k_is) (by omega) (BindsTo.of_eq rfl) (locs rfl) ?_ rfl rfl rfl (by decide)
  · intro y hy
    obtain ⟨p, hp, rfl⟩ := List.mem_map.mp hy
    exact (ho p hp).2
  · intro q hq
    exact ⟨(ho q hq).1, List.mem_map_of_mem (f := (·.1)) hq⟩
  intro g L' h₁ KX' T' hg hlt F N
  simp only [srtL, List.cons_append] at N
  have hlo := Wf.lo
  walk_at "m_go"
  rename Fr _ _ _ _ => F9
  rename News _ _ _ _ => N9
  rename Obj.IsDictOf (intKind _ _) _ _ => hd9
  rename Obj.SetObjOf (intKind _ _) _ _ _ => hs9
  rename (_ == sysModules) = false => lo9
  rename_i stk _ q1 _ _ its _ q2 _ sn _ led _ q3 _ nd2 _ od2 _ _ _ q4 _
  walk_at "m_stop"
  have hN0 : ((cycL w.params σ frs [] stk its sn nd2 0 0 { cls := .type "set", dict := none, data := .set #[] 0 (.fresh 0 0 led) } od2).map (·.1)).Nodup := nodup4 hnd (lt_srt q1) q2.1 (lt_srt q2.2) q3.2.1 q3.1 (lt_srt q3.2.2) q4.2.2.1 q4.2.1 q4.1 (lt_srt q4.2.2.2)
  clear q1 q2 q3 q4
  have hksl : ks.length ≤ 100 := by rw [← a.kse, List.length_map]; exact hlen
  have hw0 : wtF (fun _ => 1) ks (fun _ => false) = ks.length := wt0 ks
  have N8 : News g L' _ (cycL w.params σ frs [] stk its sn nd2 0 0 { cls := .type "set", dict := none, data := .set #[] 0 (.fresh 0 0 led) } od2) := nw_sub N9 (by
    intro p hp
    rcases List.mem_cons.mp hp with rfl | hp
    · exact .tail _ (.tail _ (.tail _ (.head _)))
    rcases List.mem_cons.mp hp with rfl | hp
    · exact .tail _ (.tail _ (.head _))
    rcases List.mem_cons.mp hp with rfl | hp
    · exact .tail _ (.head _)
    rcases List.mem_cons.mp hp with rfl | hp
    · exact .head _
    · exact .tail _ (.tail _ (.tail _ (.tail _ hp))))
  refine ForAt.keys (knd := intKind PR w) (kvs := kvs σ.ns) (od := σ.ond) (by assumption) F9 N8 hlo Wf.od (fun m₀ nw₀ i m nw => Up1 (Str.ofString "node") m₀ m ∧ ∃ frs' so od c n1 n2 SS, TI.SameUp frs frs' ∧ TI.Frs ev frs' ∧ so.SetObjOf (intKind PR w) SS c ∧ c + wtF (fun _ => 1) ks SS ≤ 100 ∧ od.IsDictOf (intKind PR w) ([] : List (Int × Value)) ∧
    ((cycL w.params σ frs' [] stk its sn nd2 n1 n2 so od).map (·.1)).Nodup ∧ nw = cycL w.params σ frs' [] stk its sn nd2 n1 n2 so od)
    ?_ ⟨Up1.refl _ _, frs, _, _, 0, 0, 0, fun _ => false, TI.SameUp.refl _, Fs, hs9, by omega, hd9, hN0, rfl⟩ ?_ ?_
  · rintro i m' nw ⟨_, frs', so, od, c, n1, n2, SS, _, _, _, _, _, _, rfl⟩
    exact .tail _ (.tail _ (.tail _ (.tail _ (List.mem_append_right _ (List.mem_append_left _ (.tail _ (.tail _ (.head _))))))))
  · intro I i x y v m₁ nw h tk oI E' hi hv hkv hJ09 off F N
    try k_fold
    obtain ⟨⟨u1, rfl⟩, frs', so, od, c, n1, n2, SS, SU, Fs', hso, hc, hod, hN, rfl⟩ := hJ09
    clear N9 F9 N8 hd9 hs9 hN0 ho hlt hi hnd Fs
    obtain ⟨t, rfl⟩ := PySem.Value.isInt_shape hkv
    have hx : x ∈ ks := by
      rw [← a.kse]
      obtain ⟨d, hd, e⟩ := List.mem_map.mp (List.mem_of_getElem? hv)
      have e1 : d.key = x := congrArg (·.1) e
      rw [← e1]
      exact List.mem_map_of_mem (f := (·.key)) hd
    clear hv hkv
    have hNI : (((I, oI) :: cycL w.params σ frs' [] stk its sn nd2 n1 n2 so od).map (·.1)).Nodup := by
      rw [List.map_cons, List.nodup_cons]
      exact ⟨fun hm => by obtain ⟨p, hp, e⟩ := List.mem_map.mp hm; exact off p hp e, hN⟩
    obtain ⟨⟨x1, x2, x3, x4⟩, ⟨x5, x6, x7, x8, x9, x10⟩, o1, o2, o3, o4, o5⟩ := cyc_ne hNI
    walk_at "m_go"
    · try dsimp only
      rename Fr _ _ _ _ => F9
      rename News _ _ _ _ => N9
      exact TurnEnd.intro F9 N9 off ⟨by walk_at "m_up", frs', so, od, c, n1, n2, SS, SU, Fs', hso, hc, hod, hN, rfl⟩
    walk_at "m_stop"
    rename Fr _ _ _ _ => F9
    rename News _ _ _ _ => N9
    clear x1 x2 x3 x4 x5 x6 x7 x8 x9 x10 o1 o2 o3 o4 o5 hN off
    refine WhileAt.inv (n := wtF (fun k => (S k).length + 1) ks SS) (fun m₀ n m nw => Up1 (Str.ofString "node") m₀ m ∧ ∃ x t es frs' so c SS od n1 n2, m (Str.ofString "node") = some (.int x t) ∧ x ∈ ks ∧ (∀ e ∈ es, dep e.k < dep x) ∧ Cyc w.params σ ks S dep es ∧ TI.SameUp frs frs' ∧ TI.Frs ev frs' ∧
      so.SetObjOf (intKind PR w) SS c ∧ c + wtF (fun _ => 1) ks SS ≤ 100 ∧ od.IsDictOf (intKind PR w) (n2K es) ∧ (((I, oI) :: cycL w.params σ frs' es stk its sn nd2 n1 n2 so od).map (·.1)).Nodup ∧
      nw = (I, oI) :: cycL w.params σ frs' es stk its sn nd2 n1 n2 so od ∧ wtF (fun k => (S k).length + 1) ks SS + restF S es ≤ n) F9 N9 ⟨Up1.refl _ _, x, t, [], frs', so, c, SS, od, n1, n2, by simp, hx, (fun _ h => nomatch h), ⟨fun _ h => (nomatch h), .nil⟩, SU, Fs', hso, hc, hod, hNI, rfl, by simp [restF]⟩ ?_
    clear F9 N9 hx SU Fs' hso hc hod hNI
    intro n m₁ nw h tk hJ09 F N
    try k_fold
    obtain ⟨⟨u2, rfl⟩, x, t, es, frs', so, c, SS, od, n1, n2, hu2, hx, hdx, hC, SU, Fs', hso, hc, hod, hN, rfl, hn⟩ := hJ09
    simp only [if_true] at hu2
    subst hu2
    walk_at "m_go"
    walk_at "m_stop"
    rename Fr _ _ _ _ => F9
    rename News _ _ _ _ => N9
    have hlen' : es.length ≤ 100 := Nat.le_trans (up_len hC.up hdx) (hdep x hx).1
    have hv0 : valueAt (n2K es) x = none := n2K_none fun e he q => by have := hdx e he; rw [q] at this; omega
    have hv1 : (valueAt (n2K es) x).isSome = false := by rw [hv0]; rfl
    refine cyc_cut σ frs ev ks S dep I oI stk its sn nd2 n F9 ?_ ?_
    · obtain ⟨⟨x1, x2, x3, x4⟩, ⟨x5, x6, x7, x8, x9, x10⟩, o1, o2, o3, o4, o5⟩ := cyc_ne hN
      obtain ⟨d, hd, hdk, hval⟩ := key_mem Wf a hx
      have hod2 := Wf.od
      have hz : (n2K es).length ≤ 16777216 := by rw [n2K_len]; omega
      have hz1 : (stV es).toArray.size ≤ 100 := by rw [List.size_toArray, stV_len]; exact hlen'
      have hz2 : (itV es).toArray.size ≤ 100 := by rw [List.size_toArray, itV_len]; exact hlen'
      have m1 : (σ.nd, σ.ond) ∈ entsL es ++ (srtL w.params σ ++ frs') := List.mem_append_right _ (List.mem_append_left _ (.tail _ (.tail _ (.head _))))
      have m2 : ∀ p ∈ ndL d, p ∈ entsL es ++ (srtL w.params σ ++ frs') := fun p hp => List.mem_append_right _ (List.mem_append_left _ (.tail _ (.tail _ (.tail _ (List.mem_flatMap.mpr ⟨d, hd, hp⟩)))))
      have m3 := m2 _ (.head _)
      have m4 := m2 _ (.tail _ (.tail _ (.head _)))
      have m5 := m2 _ (.tail _ (.head _))
      have e1 : @Ne Nat σ.nd stk := o2 _ m1
      have e2 : @Ne Nat σ.nd its := o3 _ m1
      have e3 : @Ne Nat σ.nd sn := o4 _ m1
      have e4 : @Ne Nat σ.nd nd2 := o5 _ m1
      have e5 : @Ne Nat d.i stk := o2 _ m3
      have e6 : @Ne Nat d.i its := o3 _ m3
      have e7 : @Ne Nat d.i sn := o4 _ m3
      have e8 : @Ne Nat d.i nd2 := o5 _ m3
      have e9 : @Ne Nat d.l stk := o2 _ m4
      have e13 : @Ne Nat d.dx stk := o2 _ m5
      have e14 : @Ne Nat d.dx its := o3 _ m5
      have e15 : @Ne Nat d.dx sn := o4 _ m5
      have e16 : @Ne Nat d.dx nd2 := o5 _ m5
      have e10 : @Ne Nat d.l its := o3 _ m4
      have e11 : @Ne Nat d.l sn := o4 _ m4
      have e12 : @Ne Nat d.l nd2 := o5 _ m4
      have N2 := nw_app (news₁ := [(σ.nd, σ.ond), (d.i, infoObj d.dx (.int d.key d.kt) (.int d.np d.nt) (.ref d.l)), (d.dx, dictOf [] 0), (d.l, W.listOf d.sv.toArray d.sn)]) (nw_sub N9 (by
        intro p hp
        refine .tail _ (.tail _ (.tail _ (.tail _ (.tail _ ?_))))
        rcases List.mem_cons.mp hp with rfl | hp
        · exact m1
        rcases List.mem_cons.mp hp with rfl | hp
        · exact m3
        rcases List.mem_cons.mp hp with rfl | hp
        · exact m5
        rcases List.mem_cons.mp hp with rfl | hp
        · exact m4
        · exact nomatch hp)) N9
      simp only [List.cons_append, List.nil_append] at N2
      clear N9 m1 m2 m3 m4 m5
      have hd' := hd
      clear hd
      walk_at "m_go"
      · exact ⟨rfl, h, _, es, frs', so, c, SS, od, n1, n2, rfl, F9, nw_tl (nw_tl (nw_tl (nw_tl N2))), hC, SU, Fs', hso, hc, hod, hN, hn⟩
      · rename Fr _ _ _ _ => F8
        rename News _ _ _ _ => N8
        rename Obj.SetObjOf (intKind _ _) _ _ _ => hs9
        rename Obj.IsDictOf (intKind _ _) _ (stored _ _ _) => hd9
        rename _ ∧ _ ∧ _ ∧ _ ∧ _ ∧ _ ∧ _ ∧ _ ∧ _ ∧ AllLt _ _ => l1
        rename _ ∧ _ ∧ _ ∧ _ ∧ _ ∧ _ ∧ _ ∧ _ ∧ _ ∧ _ ∧ AllLt _ _ => l2
        rename SS x = false => hSx
        rw [stored_absent hv0] at hd9
        obtain ⟨vt, hd8⟩ : ∃ vt, Obj.IsDictOf (intKind PR w) _ (n2K es ++ [(x, .int es.length vt)]) := ⟨_, by simpa [stV_len] using hd9⟩
        obtain ⟨N5, hN5⟩ := cyc_push (sv := d.sv) (snn := d.sn) (vt := vt) N8 hN l1 l2
        have hw1 := wt_lt (fun _ => 1) SS x hSx ks hx
        have hw2 := wt_lt (fun k => (S k).length + 1) SS x hSx ks hx
        have hda := a.at' d hd'
        rw [hdk] at hda
        refine ⟨rfl, _, _, _, frs', _, _, _, _, _, _, rfl, F8, N5, ⟨?_, ?_⟩, SU, Fs', hs9, ?_, hd8, hN5, ?_⟩
        · intro e he
          rcases List.mem_cons.mp he with rfl | he
          · refine ⟨hx, ?_, ?_, Nat.zero_le _⟩
            · exact .tail _ (.tail _ (.tail _ (List.mem_flatMap.mpr ⟨d, hd', .tail _ (.tail _ (.head _))⟩)))
            · have := Wf.iva d hd'
              rwa [hda.2] at this
          · exact hC.at' e he
        · exact List.pairwise_cons.mpr ⟨hdx, hC.up⟩
        · simp only [hSx, Bool.false_eq_true, if_false]; omega
        · rw [restF_cons]; (try dsimp only); (try dsimp only at hw2); omega
    · clear F9 N9 hv0 hv1 hlen' hdx hC SU Fs' hso hc hod hN hn hx
      rintro s' ⟨-, h, tk, es, frs', so, c, SS, od, n1, n2, rfl, F, N, hC, SU, Fs', hso, hc, hod, hN, hn⟩
      walk_at "m_go"
      walk_at "m_stop"
      rename Fr _ _ _ _ => F9
      rename News _ _ _ _ => N9
      refine WhileAt.inv (n := es.length) (fun m₀ n' m nw => m = m₀ ∧ ∃ es frs' od n1 n2, Cyc w.params σ ks S dep es ∧ TI.SameUp frs frs' ∧ TI.Frs ev frs' ∧ od.IsDictOf (intKind PR w) (n2K es) ∧ (((I, oI) :: cycL w.params σ frs' es stk its sn nd2 n1 n2 so od).map (·.1)).Nodup ∧
        nw = (I, oI) :: cycL w.params σ frs' es stk its sn nd2 n1 n2 so od ∧ wtF (fun k => (S k).length + 1) ks SS + restF S es ≤ n ∧ es.length = n') F9 N9 ⟨rfl, es, frs', od, n1, n2, hC, SU, Fs', hod, hN, rfl, hn, rfl⟩ ?_
      clear F9 N9 hC SU Fs' hod hN hn
      intro n' m₂ nw h tk hJ09 F N
      try k_fold
      obtain ⟨rfl, es, frs', od, n1, n2, hC, SU, Fs', hod, hN, rfl, hn, rfl⟩ := hJ09
      cases es with
      | nil =>
        dsimp only [cycL, stV, itV, List.reverse_nil, List.map_nil] at N
        walk_at "m_go"
        try dsimp only
        walk_at "m_go"
        dsimp only [WPost]
        walk_at "m_go"
        dsimp only [ForPost]
        rename Fr _ _ _ _ => F8
        rename News _ _ _ _ => N8
        rw [List.map_cons, List.nodup_cons] at hN
        exact TurnEnd.intro F8 N8 (fun p hp e => hN.1 (e ▸ List.mem_map_of_mem (f := (·.1)) hp)) ⟨by walk_at "m_up", frs', so, od, c, _, _, SS, SU, Fs', hso, hc, hod, hN.2, rfl⟩
      | cons e es =>
        dsimp only [cycL] at N
        rw [stV_cons, itV_cons, entsL_cons, List.cons_append, List.cons_append] at N
        obtain ⟨hC', hde⟩ := hC.tl
        obtain ⟨hek, hel, hiv, hei⟩ := hC.at' e (.head _)
        have hlen' : es.length ≤ 100 := Nat.le_trans (up_len hC'.up hde) (hdep e.k hek).1
        have hz1 : (stV es).length ≤ 100 := by rw [stV_len]; exact hlen'
        have hz2 : (itV es).length ≤ 100 := by rw [itV_len]; exact hlen'
        have hN2 := hN
        dsimp only [cycL] at hN2
        rw [entsL_cons, List.cons_append, List.cons_append] at hN2
        obtain ⟨⟨x1, x2, x3, x4⟩, ⟨x5, x6, x7, x8, x9, x10⟩, o1, o2, o3, o4, o5⟩ := cyc_ne hN2
        have y1 : @Ne Nat e.a I := o1 _ (.tail _ (.head _))
        have y2 : @Ne Nat e.a stk := o2 _ (.tail _ (.head _))
        have y3 : @Ne Nat e.a its := o3 _ (.tail _ (.head _))
        have y4 : @Ne Nat e.a sn := o4 _ (.tail _ (.head _))
        have y5 : @Ne Nat e.a nd2 := o5 _ (.tail _ (.head _))
        have y6 : @Ne Nat e.u I := o1 _ (.head _)
        have y7 : @Ne Nat e.u stk := o2 _ (.head _)
        have y8 : @Ne Nat e.u its := o3 _ (.head _)
        have y9 : @Ne Nat e.u sn := o4 _ (.head _)
        have y10 : @Ne Nat e.u nd2 := o5 _ (.head _)
        replace o1 := fun p hp => o1 p (.tail _ (.tail _ hp))
        replace o2 := fun p hp => o2 p (.tail _ (.tail _ hp))
        replace o3 := fun p hp => o3 p (.tail _ (.tail _ hp))
        replace o4 := fun p hp => o4 p (.tail _ (.tail _ hp))
        replace o5 := fun p hp => o5 p (.tail _ (.tail _ hp))
        have y11 : @Ne Nat e.u e.a ∧ ∀ p ∈ entsL es ++ (srtL w.params σ ++ frs'), p.1 ≠ e.a := by
          simp only [List.map_cons, List.nodup_cons, List.mem_cons, not_or] at hN2
          obtain ⟨_, _, _, _, _, ⟨z1, _⟩, z2, _⟩ := hN2
          exact ⟨z1, fun p hp e => z2 (e ▸ List.mem_map_of_mem hp)⟩
        obtain ⟨y11, o6⟩ := y11
        have m1 : (e.l, W.listOf e.sv.toArray e.sn) ∈ entsL es ++ (srtL w.params σ ++ frs') := List.mem_append_right _ (List.mem_append_left _ hel)
        have y12 : @Ne Nat e.l I := o1 _ m1
        have y13 : @Ne Nat e.l stk := o2 _ m1
        have y14 : @Ne Nat e.l its := o3 _ m1
        have y15 : @Ne Nat e.l sn := o4 _ m1
        have y16 : @Ne Nat e.l nd2 := o5 _ m1
        have y17 : @Ne Nat e.l e.a := o6 _ m1
        have N2 := nw_cons N (N _ (.tail _ (.tail _ (.tail _ (.tail _ (.tail _ (.tail _ (.tail _ m1)))))))).1 (N _ (.tail _ (.tail _ (.tail _ (.tail _ (.tail _ (.tail _ (.tail _ m1)))))))).2.1 (N _ (.tail _ (.tail _ (.tail _ (.tail _ (.tail _ (.tail _ (.tail _ m1)))))))).2.2
        clear N m1 hN2
        have hsz : e.sv.toArray.size = (S e.k).length := by rw [List.size_toArray, IntsAre.length hiv]
        by_cases hlt : e.i < (S e.k).length
        · obtain ⟨y, t', hy, hyt⟩ : ∃ y t', (S e.k)[e.i]? = some y ∧ e.sv.toArray[e.i]? = some (.int y t') := by
            obtain ⟨v, hv⟩ : ∃ v, e.sv[e.i]? = some v := ⟨e.sv[e.i]'(by rw [IntsAre.length hiv]; exact hlt), by simp⟩
            obtain ⟨y, hy, t', rfl⟩ := ii_at hiv e.i v hv
            exact ⟨y, t', hy, by simpa using hv⟩
          walk_at "m_go"
          try dsimp only
          walk_at "m_go"
          dsimp only [WPost]
          walk_at "m_go"
          dsimp only [WPost]
          rename Fr _ _ _ _ => F8
          rename News _ _ _ _ => N8
          have hy2 := (hdep e.k hek).2.2 y (List.mem_of_getElem? hy)
          refine WTurn.intro (k := wtF (fun k => (S k).length + 1) ks SS + restF S ({ e with i := e.i + 1 } :: es)) (nw' := (I, oI) :: cycL w.params σ frs' ({ e with i := e.i + 1 } :: es) stk its sn nd2 n1 n2 so od) ?_ F8 ?_ ⟨by walk_at "m_up", y, t', { e with i := e.i + 1 } :: es, frs', so, c, SS, od, n1, n2, by simp, hy2.1, ?_, ⟨?_, ?_⟩, SU, Fs', hso, hc, hod, cyc_obj (by rw [entsL_cons, entsL_cons]; rfl) hN, rfl, Nat.le_refl _⟩
          · rw [restF_cons] at hn ⊢; exact rest_lt hlt hn
          · dsimp only [cycL]
            rw [stV_cons, itV_cons, entsL_cons, List.cons_append, List.cons_append]
            exact nw_tl N8
          · intro x hx
            rcases List.mem_cons.mp hx with rfl | hx
            · exact hy2.2
            · exact Nat.lt_trans (hde x hx) hy2.2
          · intro x hx
            rcases List.mem_cons.mp hx with rfl | hx
            · exact ⟨hek, hel, hiv, hlt⟩
            · exact hC'.at' x hx
          · exact List.pairwise_cons.mpr ⟨hde, hC'.up⟩
        · have hend : e.sv.toArray[e.i]? = none := by rw [Array.getElem?_eq_none_iff, hsz]; omega
          walk_at "m_go"
          rename Heap.NewExc _ _ _ _ => X9
          rename Fr _ _ _ _ => F8
          rename News _ _ _ _ => N8
          have N7 : News g L' _ (((I, oI) :: (stk, W.listOf (stV es ++ [Value.int e.k e.kt]).toArray n1) :: (its, W.listOf (itV es ++ [Value.ref e.u]).toArray n2) :: (sn, so) :: (nd2, od) :: (e.u, NX.mw e.a) :: (e.a, NX.liE e.i) :: (entsL es ++ srtL w.params σ)) ++ frs') := nw_sub N8 (by
            intro p hp
            simp only [List.cons_append, List.append_assoc] at hp
            exact .tail _ hp)
          refine TLg.noted_newA (new := (I, oI) :: (stk, W.listOf (stV es ++ [Value.int e.k e.kt]).toArray n1) :: (its, W.listOf (itV es ++ [Value.ref e.u]).toArray n2) :: (sn, so) :: (nd2, od) :: (e.u, NX.mw e.a) :: (e.a, NX.liE e.i) :: (entsL es ++ srtL w.params σ)) hA Fs' X9 F8 N7 ?_ ?_
          · intro p hp hm
            rcases List.mem_cons.mp hm with q | hm
            · exact (N7 p (List.mem_append_left _ hp)).2.1 q
            · exact cyc_hap hN p hp hm
          intro h5 frs2 SU2 Fs2 H
          refine TT.HeldNA.land H fun h6 H6 => ?_
          with_unfolding_all refine TT.clause_hitTN H6 T' (k := ?_) (hv := by boot_by_name)
          intro h7 F7 N6
          replace N6 : News g L' h7 ((I, oI) :: (stk, W.listOf (stV es ++ [Value.int e.k e.kt]).toArray n1) :: (its, W.listOf (itV es ++ [Value.ref e.u]).toArray n2) :: (sn, so) :: (nd2, od) :: (e.u, NX.mw e.a) :: (e.a, NX.liE e.i) :: (entsL es ++ (srtL w.params σ ++ frs2))) := nw_sub N6 (by
            intro p hp
            simp only [List.cons_append, List.append_assoc]
            exact hp)
          have hdl : (valueAt (n2K (e :: es)) e.k).isSome = true := n2K_some
          have hdz : (n2K (e :: es)).length ≤ sizeLine := by rw [n2K_len, List.length_cons, sizeLine_eq]; omega
          have hN3 := cyc_frs SU2 hN
          have hN2 := hN3
          dsimp only [cycL] at hN2
          rw [entsL_cons, List.cons_append, List.cons_append] at hN2
          clear N8 F8 N7 N2 X9 o1 o2 o3 o4 o5 o6 hek hel hiv hei H H6
          obtain ⟨-, -, o1, o2, o3, o4, o5⟩ := cyc_ne hN2
          replace o2 := fun p hp => o2 p (.tail _ (.tail _ hp))
          replace o3 := fun p hp => o3 p (.tail _ (.tail _ hp))
          replace o5 := fun p hp => o5 p (.tail _ (.tail _ hp))
          clear o1 o4 hN2
          walk_at "m_go"
          rename Fr _ _ _ _ => F8
          rename News _ _ _ _ => N8
          rename Obj.IsDictOf (intKind _ _) _ (without _ _) => hd9
          rw [n2K_without fun x hx q => absurd (hde x hx) (by rw [q]; exact Nat.lt_irrefl _)] at hd9
          dsimp only [WPost]
          have hn' : wtF (fun k => (S k).length + 1) ks SS + restF S es ≤ n := by rw [restF_cons] at hn; exact rest_le hn
          refine WTurn.intro (k := es.length) (nw' := (I, oI) :: cycL w.params σ frs2 es stk its sn nd2 (n1 + 1) (n2 + 1) so _) (Nat.lt_succ_self _) F8 (nw_sub N8 ?_) ⟨rfl, es, frs2, _, _, _, hC', SU.trans SU2, Fs2, hd9, cyc_down hN3, rfl, hn', rfl⟩
          intro p hp
          rcases List.mem_cons.mp hp with rfl | hp
          · exact .head _
          rcases List.mem_cons.mp hp with rfl | hp
          · exact .tail _ (.head _)
          rcases List.mem_cons.mp hp with rfl | hp
          · exact .tail _ (.tail _ (.head _))
          rcases List.mem_cons.mp hp with rfl | hp
          · exact .tail _ (.tail _ (.tail _ (.head _)))
          rcases List.mem_cons.mp hp with rfl | hp
          · exact .tail _ (.tail _ (.tail _ (.tail _ (.head _))))
          · exact .tail _ (.tail _ (.tail _ (.tail _ (.tail _ (.tail _ (.tail _ hp))))))
  · intro m₁ nw h tk hJ09 F N
    try k_fold
    obtain ⟨⟨u1, rfl⟩, frs', so, od, c, n1, n2, SS, SU, Fs', hso, hc, hod, hN, rfl⟩ := hJ09
    clear N9 F9 N8 hd9 hs9 hN0
    try dsimp only
    walk_at "m_go"
    try dsimp only
    refine hQ frs' _ _ SU (fun b o hb e => ?_) fun p hp => (N p (.tail _ (.tail _ (.tail _ (.tail _ (List.mem_append_right _ (List.mem_append_right _ hp))))))).1
    by_cases hm : b ∈ (srtL w.params σ).map (·.1)
    · obtain ⟨p, hp, rfl⟩ := List.mem_map.mp hm
      rw [(ho p (List.mem_append_left _ hp)).1] at e
      rw [← Option.some.inj e]
      exact (N p (.tail _ (.tail _ (.tail _ (.tail _ (List.mem_append_right _ (List.mem_append_left _ hp))))))).1
    · exact keep_back hg F b o (fun hm' => by
        rw [List.map_append] at hm'
        exact (List.mem_append.mp hm').elim hm hb) e
end

end P29
section P30
theorem ru30 : True := by
  k_with_none
  k_with "m_stop" => (first | with_reducible show LCg.CompRest _ _ _ _ _ _ _ _ _ _ _ _ _ _ _ _ _ _ _ | with_reducible show LCt.CompRestT _ _ _ _ _ _ _ _ _ _ _ _ _ _ _ _ _ _ _ _)
  k_with "m_go0" => (repeat' ((fail_if_success (k_extra "m_stop")); first | (k_unfold; (try dsimp only)) | walk1 | (dsimp only; walk1) | (leave1; try dsimp only) | fail "no step"))
  k_with "m_go" => (((try k_fold) <;> (try dsimp only) <;> k_extra "m_go0" <;> (try k_fold)))
  k_with "m_inA" => (((case zzkX => assumption); (case zzkT => assumption); (case zzkl => k_is); (case zzk1 => exact rfl); (case zzk2 => exact rfl); (case zzk3 => exact rfl); (case zzk4 => decide); (case zzkc => k_is); (case zzkr => omega); (case zzkb => first | exact BindsTo.of_eq rfl | exact binds_K (by k_in) rfl (by k_is) rfl rfl rfl); (case zzko => exact locs rfl); intro _ _; walk_at "t_0"))
  k_with "m_inB" => (((case zzkX => assumption); (case zzkT => assumption); (case zzkl => k_is); (case zzk1 => exact rfl); (case zzk2 => exact rfl); (case zzk3 => exact rfl); (case zzkc => k_is); (case zzkr => omega); (case zzkb => first | exact BindsTo.of_eq rfl | exact binds_K (by k_in) rfl (by k_is) rfl rfl rfl); (case zzko => exact rfl); (case zzkn => decide +kernel); intro _ _ _ _; walk_at "t_1"))
  k_with "m_in1" => ((refine' freeze1 ?zzkX ?zzkT ?zzkl ?zzkc ?zzkr ?zzkb ?zzko ?_ ?zzk1 ?zzk2 ?zzk3 ?zzk4; k_extra "m_inA"))
  k_with "m_inC1" => ((refine' freezeC1 ?zzkX ?zzkT ?zzkl ?zzkc ?zzkr ?zzkb ?zzko ?zzkn ?_ ?zzk1 ?zzk2 ?zzk3; k_extra "m_inB"))
  k_with "m_in2" => ((refine' freeze2 ?zzkX ?zzkT ?zzkl ?zzkc ?zzkr ?zzkb ?zzko ?_ ?zzk1 ?zzk2 ?zzk3 ?zzk4; k_extra "m_inA"))
  k_with "m_inC2" => ((refine' freezeC2 ?zzkX ?zzkT ?zzkl ?zzkc ?zzkr ?zzkb ?zzko ?zzkn ?_ ?zzk1 ?zzk2 ?zzk3; k_extra "m_inB"))
  k_with "m_in3" => ((refine' freeze3 ?zzkX ?zzkT ?zzkl ?zzkc ?zzkr ?zzkb ?zzko ?_ ?zzk1 ?zzk2 ?zzk3 ?zzk4; k_extra "m_inA"))
  k_with "m_inC3" => ((refine' freezeC3 ?zzkX ?zzkT ?zzkl ?zzkc ?zzkr ?zzkb ?zzko ?zzkn ?_ ?zzk1 ?zzk2 ?zzk3; k_extra "m_inB"))
  k_with "m_in4" => ((refine' freeze4 ?zzkX ?zzkT ?zzkl ?zzkc ?zzkr ?zzkb ?zzko ?_ ?zzk1 ?zzk2 ?zzk3 ?zzk4; k_extra "m_inA"))
  k_with "m_inC4" => ((refine' freezeC4 ?zzkX ?zzkT ?zzkl ?zzkc ?zzkr ?zzkb ?zzko ?zzkn ?_ ?zzk1 ?zzk2 ?zzk3; k_extra "m_inB"))
  k_with "m_size" => (first | ((with_reducible refine z_sz ?_); omega) | ((with_reducible refine z_szl ?_); omega) | omega | (rw [sizeLine_eq]; omega) | (simp only [List.size_toArray, sizeLine_eq, List.length_append, List.length_cons, List.length_nil, List.length_map] at *; omega))
  k_with "eval ListComp" => ((k_here; k_dflt (first | ((with_reducible apply LCt.ListComp_T); (case F₀ => k_asm); (case hclos => with_unfolding_all rfl); (case hcell => decide); (case hkind => rfl); (case hnames => decide); (case hx => rfl); (case hs => intro _; with_unfolding_all rfl)) | ((with_reducible apply LCg.ListComp_U); (case F₀ => k_asm); (case hclos => with_unfolding_all rfl); (case hcell => decide); (case hkind => rfl); (case hnames => decide); (case hx => rfl); (case hs => intro _; with_unfolding_all rfl)))))
  k_with "exec Assign cons ListComp" => ((k_here; k_dflt (first | ((with_reducible apply LCt.Assign_ListComp_T); (case F₀ => k_asm); (case hLe => rfl); (case hsw => with_unfolding_all rfl); (case hclos => with_unfolding_all rfl); (case hcell => decide); (case hkind => rfl); (case hnames => decide); (case hx => rfl); (case hy => rfl); (case hp => rfl); (case hs => intro _; with_unfolding_all rfl)) | ((with_reducible apply LCg.Assign_ListComp_U); (case F₀ => k_asm); (case hLe => rfl); (case hsw => with_unfolding_all rfl); (case hclos => with_unfolding_all rfl); (case hcell => decide); (case hkind => rfl); (case hnames => decide); (case hx => rfl); (case hy => rfl); (case hp => rfl); (case hs => intro _; with_unfolding_all rfl)) | (refine wpAny_Assign_Name ?_))))
  k_with "CompSrcT" => ((k_here; k_dflt (first | (refine LCt.CompSrcT.ledger (by first | assumption | rfl) (by k_asm) (by k_asm) (by k_mem) (by k_extra "m_size") ?_; intro _) | (refine LCt.CompSrcT.base (by first | assumption | rfl) (by k_asm) (by k_asm) (by assumption) (by k_extra "m_size") ?_; intro _) | (refine LCt.CompSrcT.range (by first | assumption | rfl) (by k_asm) (by k_asm) (by assumption) (by first | decide | exact small_nat (by omega) | exact small_one (by omega) (by omega) (by omega) (by omega)) (by first | rfl | decide | exact rangeSize_nat _ _) (by k_extra "m_size") ?_; intro _))))
  k_with "CompSrc" => ((k_here; k_dflt (first | (refine LCg.CompSrc.ledger (by first | assumption | rfl) (by k_asm) (by k_asm) (by k_mem) (by k_extra "m_size") ?_; intro _) | (refine LCg.CompSrc.base (by first | assumption | rfl) (by k_asm) (by k_asm) (by assumption) (by k_extra "m_size") ?_; intro _) | (refine LCg.CompSrc.range (by first | assumption | rfl) (by k_asm) (by k_asm) (by assumption) (by first | decide | exact small_nat (by omega) | exact small_one (by omega) (by omega) (by omega) (by omega)) (by first | rfl | decide | exact rangeSize_nat _ _) (by k_extra "m_size") ?_; intro _))))
  k_with "m_arith" => (first | ((try simp only [depth_under_make, depth_under_kw, depth_in1, depth_deeper, units_in1, units_deeper, Around.mark_units]); omega) | (simp only [depth_under_make, depth_under_kw, depth_in1, depth_deeper, units_in1, units_deeper, Around.mark_units] at *; omega))
  k_with "m_p1" => (first | with_reducible assumption | exact And.left (by with_reducible assumption) | exact And.left (And.right (by with_reducible assumption)) | exact And.right (by with_reducible assumption) | exact And.left (And.right (And.right (by with_reducible assumption))) | exact And.right (And.right (by with_reducible assumption)) | exact And.left (And.right (And.right (And.right (by with_reducible assumption)))) | exact And.right (And.right (And.right (by with_reducible assumption))) | exact And.left (And.right (And.right (And.right (And.right (by with_reducible assumption))))) | exact And.right (And.right (And.right (And.right (by with_reducible assumption)))) | exact And.left (And.right (And.right (And.right (And.right (And.right (by with_reducible assumption)))))) | exact And.right (And.right (And.right (And.right (And.right (by with_reducible assumption))))) | exact And.left (And.right (And.right (And.right (And.right (And.right (And.right (by with_reducible assumption))))))) | exact And.right (And.right (And.right (And.right (And.right (And.right (by with_reducible assumption)))))) | exact And.left (And.right (And.right (And.right (And.right (And.right (And.right (And.right (by with_reducible assumption)))))))) | exact And.right (And.right (And.right (And.right (And.right (And.right (And.right (by with_reducible assumption))))))) | exact And.left (And.right (And.right (And.right (And.right (And.right (And.right (And.right (And.right (by with_reducible assumption))))))))) | exact And.right (And.right (And.right (And.right (And.right (And.right (And.right (And.right (by with_reducible assumption)))))))) | exact And.left (And.right (And.right (And.right (And.right (And.right (And.right (And.right (And.right (And.right (by with_reducible assumption)))))))))) | exact And.right (And.right (And.right (And.right (And.right (And.right (And.right (And.right (And.right (by with_reducible assumption))))))))) | exact And.left (And.right (And.right (And.right (And.right (And.right (And.right (And.right (And.right (And.right (And.right (by with_reducible assumption))))))))))) | exact And.right (And.right (And.right (And.right (And.right (And.right (And.right (And.right (And.right (And.right (by with_reducible assumption)))))))))) | exact And.left (And.right (And.right (And.right (And.right (And.right (And.right (And.right (And.right (And.right (And.right (And.right (by with_reducible assumption)))))))))))) | exact And.right (And.right (And.right (And.right (And.right (And.right (And.right (And.right (And.right (And.right (And.right (by with_reducible assumption))))))))))))
  k_with "m_p2" => (first | exact And.left (And.left (by with_reducible assumption)) | exact And.left (And.right (And.left (by with_reducible assumption))) | exact And.left (And.right (And.right (And.left (by with_reducible assumption)))) | exact And.left (And.right (And.right (And.right (And.left (by with_reducible assumption))))) | exact And.right (And.left (by with_reducible assumption)) | exact And.right (And.right (And.left (by with_reducible assumption))) | exact And.right (And.right (And.right (And.left (by with_reducible assumption)))) | exact And.left (And.left (And.right (by with_reducible assumption))) | exact And.left (And.right (And.left (And.right (by with_reducible assumption)))) | exact And.left (And.right (And.right (And.left (And.right (by with_reducible assumption))))) | exact And.left (And.right (And.right (And.right (And.left (And.right (by with_reducible assumption)))))) | exact And.right (And.left (And.right (by with_reducible assumption))) | exact And.right (And.right (And.left (And.right (by with_reducible assumption)))) | exact And.right (And.right (And.right (And.left (And.right (by with_reducible assumption))))) | exact And.left (And.left (And.right (And.right (by with_reducible assumption)))) | exact And.left (And.right (And.left (And.right (And.right (by with_reducible assumption))))) | exact And.left (And.right (And.right (And.left (And.right (And.right (by with_reducible assumption)))))) | exact And.left (And.right (And.right (And.right (And.left (And.right (And.right (by with_reducible assumption))))))) | exact And.right (And.left (And.right (And.right (by with_reducible assumption)))) | exact And.right (And.right (And.left (And.right (And.right (by with_reducible assumption))))) | exact And.right (And.right (And.right (And.left (And.right (And.right (by with_reducible assumption)))))) | exact And.left (And.left (And.right (And.right (And.right (by with_reducible assumption))))) | exact And.left (And.right (And.left (And.right (And.right (And.right (by with_reducible assumption)))))) | exact And.left (And.right (And.right (And.left (And.right (And.right (And.right (by with_reducible assumption))))))) | exact And.left (And.right (And.right (And.right (And.left (And.right (And.right (And.right (by with_reducible assumption)))))))) | exact And.right (And.left (And.right (And.right (And.right (by with_reducible assumption))))) | exact And.right (And.right (And.left (And.right (And.right (And.right (by with_reducible assumption)))))) | exact And.right (And.right (And.right (And.left (And.right (And.right (And.right (by with_reducible assumption))))))))
  k_with "m_ne" => (first | assumption | (refine Ne.symm ?_; assumption) | (refine Nat.ne_of_lt ?_; k_extra "m_p1") | (refine Nat.ne_of_gt ?_; k_extra "m_p1") | k_extra "m_p1" | (refine Ne.symm ?_; k_extra "m_p1") | k_extra "m_p2" | (refine Ne.symm ?_; k_extra "m_p2"))
  k_with "call ref" => ((k_here; (with_reducible show wpAny _ _ (call (Value.ref 59) _) _ _ _); k_dflt (refine' mk_entry ?zzk1 ?zzk2 ?zzk3 ?zzk4 ?zzkr ?_; (case zzk1 => k_asm); (case zzk2 => k_asm); (case zzk3 => k_asm); (case zzk4 => k_asm); (case zzkr => (simp only [depth_in1, depth_deeper]; omega)); intro _ _ _ _ _ _ _ _ _ _ _ _; walk_at "t_2")))
  k_with "assign Tuple" => ((k_here; k_dflt (refine' assign2 ?zzk1 ?zzk2 ?zzk3 ?zzk4 ?_; (case zzk1 => first | assumption | exact rfl); (case zzk2 => k_asm); (case zzk3 => k_asm); (case zzk4 => k_mem); intro _ _ _)))
  k_with "exec For Name Attribute cons nil" => ((k_here; k_dflt (refine For_at ?_)))
  k_with "exec For Name Name cons nil" => ((k_here; k_dflt (refine For_at ?_)))
  k_with "exec For Name Call cons nil" => ((k_here; k_dflt (refine For_at ?_)))
  k_with "exec For Name Tuple cons nil" => ((k_here; k_dflt (refine For_at ?_)))
  k_with "exec For Name List cons nil" => ((k_here; k_dflt (refine For_at ?_)))
  k_with "m_stop" => (with_reducible show ForAt _ _ _ _ _ _ _ _ _ _)
  k_with "m_up" => (first | exact ⟨_, by funext z; repeat' (first | rfl | split) <;> simp_all⟩ | exact ⟨_, _, by funext z; repeat' (first | rfl | split) <;> simp_all⟩ | exact ⟨_, _, _, by funext z; repeat' (first | rfl | split) <;> simp_all⟩)
  k_with "newList" => ((k_here; k_dflt (refine' newList_M ?zzk1 ?zzk2 ?zzk3 ?_; (case zzk1 => k_asm); (case zzk2 => k_asm); (case zzk3 => exact Nat.le_of_ble_eq_true rfl)); intro _ _ _ _; walk_at "t_3"))
  k_with "call ref" => ((k_here; (with_reducible show wpAny _ _ (call (Value.ref 119) _) _ _ _); k_dflt (refine' mk_nodeinfo ?zzk1 ?zzk2 ?zzk3 ?zzk4 ?zzkr ?zzkv ?_; (case zzk1 => k_asm); (case zzk2 => k_asm); (case zzk3 => k_asm); (case zzk4 => k_asm); (case zzkv => k_handed); (case zzkr => (simp only [depth_in1, depth_deeper]; omega)); intro _ _ _ _ _ _ _ _; walk_at "t_2")))
  k_with "call ref" => ((k_here; (with_reducible show wpAny _ _ (call (Value.ref 216) _) _ _ _); k_dflt (refine' mk_sorter ?zzk1 ?zzk2 ?zzk3 ?zzk4 ?zzkr ?_; (case zzk1 => k_asm); (case zzk2 => k_asm); (case zzk3 => k_asm); (case zzk4 => k_asm); (case zzkr => (simp only [depth_in1, depth_deeper]; omega)); intro _ _ _ _ _ _ _ _ _ _ _ _ _ _ _ _; walk_at "t_2")))
  k_with "getMethod ref" => ((k_here; (with_reducible show wpAny _ _ (getMethod (Value.ref _) (Str.ofString "get") _) _ _ _); k_dflt (refine kdg_method (knd := PySem.intKind _ _) (by k_asm) (by k_mem) (by assumption) ?_)))
  k_with "call builtin:dict.get" => ((k_here; k_dflt (refine kdg_get1 (knd := PySem.intKind _ _) (by k_asm) (by k_mem) (by assumption) (by assumption) (intKind_is _ _ _ _) _ (by assumption) ?_; (try dsimp only [Option.getD]))))
  k_with "subscriptTail Name Name ref int" => ((k_here; k_dflt (refine' kda_item (knd := PySem.intKind _ _) ?zzk1 ?zzk2 ?zzk3 ?zzk4 ?zzk5 ?_ ?zzk6 ?zzk7; (case zzk6 => with_unfolding_all rfl); (case zzk7 => intro _; with_unfolding_all rfl); (case zzk1 => k_asm); (case zzk2 => k_mem); (case zzk3 => assumption); (case zzk4 => exact intKind_is _ _ _ _); (case zzk5 => assumption))))
  k_with "setItem ref int" => ((k_here; k_dflt (refine' kda_set (knd := PySem.intKind _ _) ?zzF ?zzN ?zzU ?zzd (intKind_is _ _ _ _) ?zzz ?_; (case zzF => k_asm); (case zzN => k_asm); (case zzU => k_updF); (case zzd => assumption); (case zzz => rw [sizeLine_eq]; assumption)); intro _ _ _; walk_at "t_7"))
  k_with "call builtin:list.append" => ((k_here; (with_reducible show wpAny _ _ (call (Value.builtin _) [Value.ref _, _]) _ _ _); k_dflt (refine' append_K ?zzk1 ?zzk2 ?zzk3 ?_ ?zzz; (case zzk1 => k_asm); (case zzk2 => k_asm); (case zzk3 => k_upd); (case zzz => rw [sizeLine_eq]; omega); k_whole); intro _ _ _; (try k_sweep)))
  k_with "call type:bool" => ((k_here; (with_reducible show wpAny _ _ (call _ [Value.ref _]) _ _ _); k_dflt (refine call_bool_list (by is_list) (by omega) ?_)))
  k_with "call builtin:list.clear" => ((k_here; (with_reducible show wpAny _ _ (call (Value.builtin _) [Value.ref _]) _ _ _); k_dflt (refine' clear_any ?zzF ?zzN ?zzU ?zzz ?_; (case zzF => k_asm); (case zzN => k_asm); (case zzU => k_updF); (case zzz => rw [sizeLine_eq]; omega)); intro _ _ _; walk_at "t_8"))
  k_with "m_stop" => (with_reducible show WhileAt _ _ _ _ _ _ _ _ _)
  k_with "exec While" => ((k_here; k_dflt (refine While_at ?_)))
  k_with "exec While Name" => ((k_here; k_dflt (refine While_at ?_)))
  k_with "exec While Constant" => ((k_here; k_dflt (refine While_at ?_)))
  k_with "getAttr ref" => ((k_here; (with_reducible show wpAny _ _ (getAttr (Value.ref _) (Str.ofString "__next__") true) _ _ _); k_dflt (refine NX.next_N (by k_asm) (by k_asm) (by k_mem) ?_; intro _ _ _ _ _; walk_at "t_3")))
  k_with "call builtin:iter" => ((k_here; (with_reducible show wpAny _ _ (call (Value.builtin "iter") [Value.ref _]) _ _ _); k_dflt (refine NX.iter_N (by k_asm) (by k_asm) (by is_list) ?_; intro _ _ _ _; walk_at "t_3")))
  k_with "callWith ref" => ((k_here; (with_reducible show wpAny _ _ (callWith _ (Value.ref _) [] (backTo _ (starEach [] _)) []) _ _ _); k_dflt (with_unfolding_all refine NX.callWith_N (by k_asm) (by k_mem) ?_)))
  k_with "call ref" => ((k_here; (with_reducible show wpAny _ _ (call (Value.ref _) []) _ _ _); k_dflt (first | (refine' NX.item_N ?zzk1 ?zzk2 ?zzk3 ?zzk4 ?zzk5 ?zzk6 ?_; (case zzk1 => k_asm); (case zzk2 => k_asm); (case zzk4 => k_mem); (case zzk3 => k_updF); (case zzk5 => is_list); (case zzk6 => assumption); intro _ _; walk_at "t_8") | (refine' NX.end_N ?zzk0 ?zzk1 ?zzk2 ?zzk3 ?zzk4 ?zzk5 ?zzk6 ?_; (case zzk0 => assumption); (case zzk1 => k_asm); (case zzk2 => k_asm); (case zzk4 => k_mem); (case zzk3 => k_updF); (case zzk5 => is_list); (case zzk6 => assumption); intro _ _ _ _ _; walk_at "t_8"))))
  k_with "call builtin:list.pop" => ((k_here; (with_reducible show wpAny _ _ (call (Value.builtin _) [Value.ref _]) _ _ _); k_dflt (refine' NX.pop_N ?zzk1 ?zzk2 ?zzk3 ?zzk4 ?_; (case zzk1 => k_asm); (case zzk2 => k_asm); (case zzk3 => k_updF); (case zzk4 => omega); intro _ _; walk_at "t_8")))
  k_with "subscriptTail Name UnaryOp ref int" => ((k_here; k_dflt (refine' NX.last_N ?zzk1 ?zzk2 ?zzk3 ?_ ?zzk4; (case zzk1 => k_asm); (case zzk2 => k_mem); (case zzk3 => omega); (case zzk4 => with_unfolding_all rfl))))
  k_with "call builtin:len" => ((k_here; (with_reducible show wpAny _ _ (call (Value.builtin "len") [Value.ref _]) _ _ _); k_dflt (refine call_len_list (by is_list) (by omega) ?_)))
  k_with "truthy ref" => ((k_here; k_dflt (refine wpAny_truthy_list (by is_list) (by omega) ?_)))
  k_with "truthy ref" => ((k_here; k_dflt (first | (refine NX.truthy_nil (by k_asm) (by k_mem) ?_) | (refine NX.truthy_snoc (by k_asm) (by k_mem) (by omega) ?_))))
  trivial
theorem frs_back {g h h' : Heap} {L' : Addr} {m : Str → Option Value} {led frs frs2 : List (Addr × Obj)} {oL : Obj} (F : Fr g L' h m) (N : News g L' h (led ++ frs)) (hL : h.get? L' = some oL) (hdis : ∀ p ∈ led, p.1 ∉ frs.map (·.1)) (SU : TI.SameUp ((L', oL) :: frs) frs2)
    (hk : ∀ b o, b ∉ ((L', oL) :: frs).map (·.1) → h.get? b = some o → h'.get? b = some o) (hf : ∀ p ∈ frs2, h'.get? p.1 = some p.2) : Fr g L' h' m ∧ ∃ frs', TI.SameUp frs frs' ∧ News g L' h' (led ++ frs') := by
  cases frs2 with
  | nil => exact False.elim SU
  | cons q qs =>
    obtain ⟨q1, ⟨sl, q2⟩, q3⟩ := SU
    have hL' : h'.get? L' = some { oL with slots := sl } := by
      have := hf q (.head _)
      rw [q1, q2] at this; exact this
    have hLf : ∀ p ∈ frs, p.1 ≠ L' := fun p hp => (N p (List.mem_append_right _ hp)).2.1
    refine ⟨⟨?_, fun b o e => hk b o ?_ (F.keep b o e), F.above⟩, qs, q3, fun p hp => ?_⟩
    · obtain ⟨o, es, ep, ho, r⟩ := F.ns
      rw [hL] at ho
      cases ho
      exact ⟨_, es, ep, hL', r⟩
    · intro hm
      rcases List.mem_cons.mp hm with rfl | hm
      · rw [Heap.get?_none_of_le F.above] at e; cases e
      · obtain ⟨p, hp, rfl⟩ := List.mem_map.mp hm
        rw [(N p (List.mem_append_right _ hp)).2.2] at e; cases e
    · rcases List.mem_append.mp hp with hp | hp
      · refine ⟨hk _ _ (fun hm => ?_) (N p (List.mem_append_left _ hp)).1, (N p (List.mem_append_left _ hp)).2⟩
        rcases List.mem_cons.mp hm with e | hm
        · exact (N p (List.mem_append_left _ hp)).2.1 e
        · exact hdis p hp hm
      · obtain ⟨x, hx, e⟩ := TI.SameUp.fwd q3 p hp
        rw [e]
        exact ⟨e ▸ hf p (.tail _ hp), (N x (List.mem_append_right _ hx)).2⟩
theorem ru30x0 : True := by
  k_with "m_goX" => (repeat' ((fail_if_success (k_extra "m_stop")); (fail_if_success (with_reducible show wpAny _ _ (eval (Expr.ListComp _ _ _ _) _) _ _ _)); (fail_if_success (with_reducible show wpAny _ _ (call (Value.ref 206) _) _ _ _)); first | (k_unfold; (try dsimp only)) | walk1 | (dsimp only; walk1) | (leave1; try dsimp only) | fail "no step"))
  trivial

theorem nodup_mid {α : Type} {l r : List α} {a : α} (h : a ∉ l ++ r) (hn : (l ++ r).Nodup) : (l ++ a :: r).Nodup := by
  rw [List.nodup_append] at hn ⊢
  simp only [List.mem_append, not_or] at h
  refine ⟨hn.1, List.nodup_cons.mpr ⟨h.2, hn.2.1⟩, fun x hx y hy e => ?_⟩
  rcases List.mem_cons.mp hy with rfl | hy
  · exact h.1 (e ▸ hx)
  · exact hn.2.2 x hx y hy e
theorem nodup_frs {l r : List (Addr × Obj)} {q : Addr × Obj} (hn : ((l ++ r).map (·.1)).Nodup) (h : ∀ p ∈ l ++ r, p.1 ≠ q.1) : ((l ++ q :: r).map (·.1)).Nodup := by
  rw [List.map_append] at hn ⊢
  refine nodup_mid ?_ hn
  rw [← List.map_append]
  intro hm
  obtain ⟨p, hp, e⟩ := List.mem_map.mp hm
  exact h p hp e
noncomputable def zer (P : Int → Int) (ks : List Int) : List Int := ks.filter fun k => decide (P k = 0)
section
variable {w : World} {A : Around} {s : Shared} {mean : ExcName → Option Value} {mg mb : Str → Option Value} {Q E : Value → Shared → Prop} {h₀ : Heap} {σ : Srt}
set_option maxHeartbeats 4000000 in
theorem prepare_ok {ks : List Int} {P : Int → Int} {S : Int → List Int} {dep : Int → Nat} {ev : List Env} {frs : List (Addr × Obj)} (KX : (hd.heap_39 w.params).In h₀) (T : Top hd.view_39 LS mean mg mb h₀) (hk : LK h₀ s.heap) (hroom : A.depth + 40 < recursionLimit) (hu : A.units + 400 < cLine) (hh : A.handled = none)
    (hA : A.frames = some ev) (Fs : TI.Frs ev frs) (Wf : WF w σ) (a : Abs σ ks P S) (hrv : σ.rv = .none) (hnd : ((srtL w.params σ ++ frs).map (·.1)).Nodup) (ho : ∀ p ∈ srtL w.params σ ++ frs, s.heap.get? p.1 = some p.2 ∧ h₀.get? p.1 = none) (hlen : σ.ns.length ≤ 100)
    (hdep : ∀ k ∈ ks, dep k ≤ 100 ∧ (S k).length ≤ 100 ∧ ∀ x ∈ S k, x ∈ ks ∧ dep k < dep x)
    (hQ : ∀ σ' rl vs n frs' h' tk, WF w σ' → Abs σ' ks P S → (σ'.x = σ.x ∧ σ'.rv = .ref rl ∧ σ'.p = σ.p ∧ σ'.f = σ.f) → srtX w.params σ' = srtX w.params σ → rl ∉ srtX w.params σ → IntsAre vs (zer P ks) → TI.SameUp frs frs' →
      (∀ b o, b ∉ (srtL w.params σ ++ frs).map (·.1) → s.heap.get? b = some o → h'.get? b = some o) → (∀ p ∈ rdyL w.params σ' rl vs n, h'.get? p.1 = some p.2 ∧ (p.1 ∈ srtX w.params σ ∨ s.heap.get? p.1 = none)) → (∀ p ∈ frs', h'.get? p.1 = some p.2) → Q .none { s with heap := h', toks := tk }) :
    wpAny (model PR w) A (call (.ref 171) [.ref σ.x] []) Q E s := by
  refine call_freezeX (X := (srtL w.params σ ++ frs).map (·.1)) (news := srtL w.params σ ++ frs) (binds := [(Str.ofString "self", .ref σ.x)]) KX T hk ?_ ?_ (by k_is) (by k_is) (by omega) (BindsTo.of_eq rfl) (locs rfl) ?_ rfl rfl rfl (by decide)
  · intro y hy
    obtain ⟨p, hp, rfl⟩ := List.mem_map.mp hy
    exact (ho p hp).2
  · intro q hq
    exact ⟨(ho q hq).1, List.mem_map_of_mem (f := (·.1)) hq⟩
  intro g L' h₁ KX' T' hg hlt F N
  simp only [srtL, List.cons_append, hrv] at N
  have hlo := Wf.lo
  have hod := Wf.od
  have hsz : (kvs σ.ns).length ≤ sizeLine := by rw [sizeLine_eq, List.length_map]; omega
  walk_at "m_goX"
  with_reducible apply ListComp_TV (knd := intKind PR w) (h₀ := g) (L := L') (m := fun y => List.lookup y [(Str.ofString "self", Value.ref σ.x)].reverse)
  (case hclos => with_unfolding_all rfl)
  (case hcell => decide)
  (case hkind => rfl)
  (case hnames => decide)
  (case hx => rfl)
  (case hs => (intro _; with_unfolding_all rfl))
  walk_at "m_go"
  rename Fr _ _ _ _ => F9
  rename News _ _ _ _ => N9
  refine ⟨_, σ.nd, σ.ond, kvs σ.ns, _, rfl, hh, F9, N9, by k_mem, by k_mem, hod, hsz, ?_⟩
  rintro s₂ ⟨h2, rfl⟩
  refine restT_inv (fun i ys nw => nw = _ ∧ IntsAre ys (zer P (ks.take i))) ⟨rfl, .nil⟩ ?_ ?_
  · rintro ys nw ⟨rfl, hI⟩
    have hkl : (kvs σ.ns).length = ks.length := by rw [← a.kse, List.length_map, List.length_map]
    rw [hkl, List.take_length] at hI
    intro D9 h9 tk9 F8 N8 o8
    have o7 := off1_mem o8
    clear N9 F9 o8
    have e1 : @Ne Nat σ.dx D9 := o7 _ (.tail _ (.tail _ (.head _)))
    have e2 : @Ne Nat σ.x D9 := o7 _ (.tail _ (.head _))
    have e3 : @Ne Nat σ.nd D9 := o7 _ (.tail _ (.tail _ (.tail _ (.head _))))
    have e4 : D9 ∉ (srtL w.params σ ++ frs).map (·.1) := fun hm => by
      obtain ⟨p, hp, e⟩ := List.mem_map.mp hm
      simp only [srtL, List.cons_append, List.mem_cons] at hp
      rcases hp with rfl | rfl | rfl | hp
      · exact e2 e
      · exact e1 e
      · exact e3 e
      · exact o7 p (.tail _ (.tail _ (.tail _ (.tail _ hp)))) e
    obtain ⟨z1, z2, z3, o1⟩ : @Ne Nat σ.x σ.dx ∧ @Ne Nat σ.x σ.nd ∧ @Ne Nat σ.dx σ.nd ∧ ∀ p ∈ ndsL σ.ns ++ frs, p.1 ≠ σ.dx := by
      have h1 := hnd
      simp only [srtL, List.cons_append, List.map_cons, List.nodup_cons, List.mem_cons, not_or] at h1
      obtain ⟨⟨a1, a2, _⟩, ⟨b1, b2⟩, _⟩ := h1
      exact ⟨a1, a2, b1, fun p hp e => b2 (e ▸ List.mem_map_of_mem hp)⟩
    have N6 := nw_cons (nw_tl (nw_tl N8)) (N8 _ (.head _)).1 (N8 _ (.head _)).2.1 (N8 _ (.head _)).2.2
    clear N8 o7
    walk_at "m_goX"
    dsimp only [List.append_nil]
    rename Fr _ _ _ _ => F8
    rename News _ _ _ _ => N8
    have N7 : News g L' _ (((D9, LCg.lst ys) :: srtL w.params { σ with rv := .ref D9 }) ++ frs) := N8
    have F8' := F8
    have Wf' : WF w { σ with rv := .ref D9 } := ⟨Wf.lo, Wf.od, Wf.iva, Wf.nodup, Wf.kn⟩
    have a' : Abs { σ with rv := .ref D9 } ks P S := ⟨a.kse, a.at', a.off⟩
    have hnd' : ((srtL w.params { σ with rv := .ref D9 } ++ frs).map (·.1)).Nodup := by
      have h := hnd
      rw [List.map_append] at h ⊢
      exact h
    obtain ⟨oL, es, ep, hL, hLd, _⟩ := F8.ns
    refine cycle_ok (σ := { σ with rv := .ref D9 }) (frs := (L', oL) :: frs) (ev := _ :: ev) (dep := dep) KX' T' F8.keep ?_ ?_ hh (Around.frames_deeper hA) ⟨fun e => (nomatch e), rfl, ⟨es, ep, hLd⟩, Fs⟩ Wf' a' ?_ ?_ hlen hdep ?_
    · simp only [depth_in1, depth_deeper]; omega
    · k_units
    · exact nodup_frs hnd' fun p hp => (N7 p (.tail _ hp)).2.1
    · intro p hp
      rcases List.mem_append.mp hp with hp | hp
      · exact ⟨(N7 p (.tail _ (List.mem_append_left _ hp))).1, (N7 p (.tail _ (List.mem_append_left _ hp))).2.2⟩
      rcases List.mem_cons.mp hp with rfl | hp
      · exact ⟨hL, Heap.get?_none_of_le F8.above⟩
      · exact ⟨(N7 p (.tail _ (List.mem_append_right _ hp))).1, (N7 p (.tail _ (List.mem_append_right _ hp))).2.2⟩
    intro frs2 h5 tk5 SU2 hk5 hf5
    have e5 : ∀ p ∈ (D9, LCg.lst ys) :: srtL w.params { σ with rv := .ref D9 }, p.1 ∉ frs.map (·.1) := by
      intro p hp hm
      rcases List.mem_cons.mp hp with rfl | hp
      · exact e4 (by rw [List.map_append]; exact List.mem_append_right _ hm)
      · have h1 := hnd
        rw [List.map_append, List.nodup_append] at h1
        exact h1.2.2 p.1 (List.mem_map_of_mem (f := (·.1)) (l := srtL w.params { σ with rv := .ref D9 }) hp) p.1 hm rfl
    obtain ⟨F5, frs', SU', N5⟩ := frs_back F8 N7 hL e5 SU2 hk5 hf5
    clear N8 N7 F8 F8' hk5 hf5 SU2 e5
    walk_at "m_go"
    rename Fr _ _ _ _ => F4
    rename News _ _ _ _ => N4
    try dsimp only
    refine hQ { σ with rv := .ref D9 } D9 ys ys.length frs' _ _ Wf' a' ⟨rfl, rfl, rfl, rfl⟩ rfl (fun hm => e4 (by rw [List.map_append]; exact List.mem_append_left _ hm)) hI SU' (keep_back hg F4) (fun p hp => ?_) (fun p hp => (N4 p (List.mem_append_right _ hp)).1)
    rcases List.mem_cons.mp hp with rfl | hp
    · exact ⟨(N4 (D9, LCg.lst ys) (.head _)).1, .inr ((fresh_or hg (N4 (D9, LCg.lst ys) (.head _)).2.2).resolve_left e4)⟩
    · exact ⟨(N4 p (.tail _ (List.mem_append_left _ hp))).1, .inl (List.mem_map_of_mem (f := (·.1)) (l := srtL w.params { σ with rv := .ref D9 }) hp)⟩
  · intro i v ys nw I oI C oC D m₂ h tk E' hi hJ09 hJ19 hC hx F N off ne
    try k_fold
    obtain ⟨k, hkv⟩ := hJ09
    obtain ⟨rfl, hI⟩ := hJ19
    clear N9 F9
    obtain ⟨d, hd, hdk⟩ := List.mem_map.mp (List.mem_of_getElem? hkv)
    obtain ⟨hkk, hdv⟩ := Prod.mk.inj hdk
    clear hdk
    subst hdv
    have hki : ks[i]? = some d.key := by
      have h1 := congrArg (Option.map (·.1)) hkv
      rw [← List.getElem?_map] at h1
      rw [← a.kse, hkk]
      simpa only [kvs, List.map_map, Option.map_some, Function.comp_def] using h1
    have hdp := (a.at' d hd).1
    have m2 : ∀ p ∈ ndL d, p ∈ ndsL σ.ns ++ frs := fun p hp => List.mem_append_left _ (List.mem_flatMap.mpr ⟨d, hd, hp⟩)
    have N2 := nw_app (news₁ := [(d.i, infoObj d.dx (.int d.key d.kt) (.int d.np d.nt) (.ref d.l)), (d.dx, dictOf [] 0)]) (nw_sub N (by
      intro p hp
      refine .tail _ (.tail _ (.tail _ (.tail _ (.tail _ (.tail _ (.tail _ ?_))))))
      rcases List.mem_cons.mp hp with rfl | hp
      · exact m2 _ (.head _)
      rcases List.mem_cons.mp hp with rfl | hp
      · exact m2 _ (.tail _ (.head _))
      · exact nomatch hp)) N
    simp only [List.cons_append, List.nil_append] at N2
    have zt : d.np = 0 → zer P (ks.take (i + 1)) = zer P (ks.take i) ++ [d.key] := fun h => by
      have h' : P d.key = 0 := by rw [← hdp]; exact h
      simp [zer, List.take_add_one, hki, List.filter_append, h']
    have zf : ¬ d.np = 0 → zer P (ks.take (i + 1)) = zer P (ks.take i) := fun h => by
      have h' : ¬ P d.key = 0 := by rw [← hdp]; exact h
      simp [zer, List.take_add_one, hki, List.filter_append, h']
    clear N
    walk_at "m_go"
    · rename Fr _ _ _ _ => F8
      rename News _ _ _ _ => N8
      exact LCg.CompEnd.intro F8 (nw_tl (nw_tl N8)) _ (fun p hp => hp) off (by k_mem) ⟨rfl, by rw [zt (by assumption)]; exact hI.append (.cons _ _ .nil)⟩
    · rename Fr _ _ _ _ => F8
      rename News _ _ _ _ => N8
      exact LCg.CompEnd.intro F8 (nw_tl (nw_tl N8)) _ (fun p hp => hp) off (by k_mem) ⟨rfl, by rw [zf (by assumption)]; exact hI⟩
end

end P30
section P31
theorem ru31 : True := by
  k_with_none
  k_with "m_stop" => (first | with_reducible show LCg.CompRest _ _ _ _ _ _ _ _ _ _ _ _ _ _ _ _ _ _ _ | with_reducible show LCt.CompRestT _ _ _ _ _ _ _ _ _ _ _ _ _ _ _ _ _ _ _ _)
  k_with "m_go0" => (repeat' ((fail_if_success (k_extra "m_stop")); first | (k_unfold; (try dsimp only)) | walk1 | (dsimp only; walk1) | (leave1; try dsimp only) | fail "no step"))
  k_with "m_go" => (((try k_fold) <;> (try dsimp only) <;> k_extra "m_go0" <;> (try k_fold)))
  k_with "m_inA" => (((case zzkX => assumption); (case zzkT => assumption); (case zzkl => k_is); (case zzk1 => exact rfl); (case zzk2 => exact rfl); (case zzk3 => exact rfl); (case zzk4 => decide); (case zzkc => k_is); (case zzkr => omega); (case zzkb => first | exact BindsTo.of_eq rfl | exact binds_K (by k_in) rfl (by k_is) rfl rfl rfl); (case zzko => exact locs rfl); intro _ _; walk_at "t_0"))
  k_with "m_inB" => (((case zzkX => assumption); (case zzkT => assumption); (case zzkl => k_is); (case zzk1 => exact rfl); (case zzk2 => exact rfl); (case zzk3 => exact rfl); (case zzkc => k_is); (case zzkr => omega); (case zzkb => first | exact BindsTo.of_eq rfl | exact binds_K (by k_in) rfl (by k_is) rfl rfl rfl); (case zzko => exact rfl); (case zzkn => decide +kernel); intro _ _ _ _; walk_at "t_1"))
  k_with "m_in1" => ((refine' freeze1 ?zzkX ?zzkT ?zzkl ?zzkc ?zzkr ?zzkb ?zzko ?_ ?zzk1 ?zzk2 ?zzk3 ?zzk4; k_extra "m_inA"))
  k_with "m_inC1" => ((refine' freezeC1 ?zzkX ?zzkT ?zzkl ?zzkc ?zzkr ?zzkb ?zzko ?zzkn ?_ ?zzk1 ?zzk2 ?zzk3; k_extra "m_inB"))
  k_with "m_in2" => ((refine' freeze2 ?zzkX ?zzkT ?zzkl ?zzkc ?zzkr ?zzkb ?zzko ?_ ?zzk1 ?zzk2 ?zzk3 ?zzk4; k_extra "m_inA"))
  k_with "m_inC2" => ((refine' freezeC2 ?zzkX ?zzkT ?zzkl ?zzkc ?zzkr ?zzkb ?zzko ?zzkn ?_ ?zzk1 ?zzk2 ?zzk3; k_extra "m_inB"))
  k_with "m_in3" => ((refine' freeze3 ?zzkX ?zzkT ?zzkl ?zzkc ?zzkr ?zzkb ?zzko ?_ ?zzk1 ?zzk2 ?zzk3 ?zzk4; k_extra "m_inA"))
  k_with "m_inC3" => ((refine' freezeC3 ?zzkX ?zzkT ?zzkl ?zzkc ?zzkr ?zzkb ?zzko ?zzkn ?_ ?zzk1 ?zzk2 ?zzk3; k_extra "m_inB"))
  k_with "m_in4" => ((refine' freeze4 ?zzkX ?zzkT ?zzkl ?zzkc ?zzkr ?zzkb ?zzko ?_ ?zzk1 ?zzk2 ?zzk3 ?zzk4; k_extra "m_inA"))
  k_with "m_inC4" => ((refine' freezeC4 ?zzkX ?zzkT ?zzkl ?zzkc ?zzkr ?zzkb ?zzko ?zzkn ?_ ?zzk1 ?zzk2 ?zzk3; k_extra "m_inB"))
  k_with "m_size" => (first | ((with_reducible refine z_sz ?_); omega) | ((with_reducible refine z_szl ?_); omega) | omega | (rw [sizeLine_eq]; omega) | (simp only [List.size_toArray, sizeLine_eq, List.length_append, List.length_cons, List.length_nil, List.length_map] at *; omega))
  k_with "eval ListComp" => ((k_here; k_dflt (first | ((with_reducible apply LCt.ListComp_T); (case F₀ => k_asm); (case hclos => with_unfolding_all rfl); (case hcell => decide); (case hkind => rfl); (case hnames => decide); (case hx => rfl); (case hs => intro _; with_unfolding_all rfl)) | ((with_reducible apply LCg.ListComp_U); (case F₀ => k_asm); (case hclos => with_unfolding_all rfl); (case hcell => decide); (case hkind => rfl); (case hnames => decide); (case hx => rfl); (case hs => intro _; with_unfolding_all rfl)))))
  k_with "exec Assign cons ListComp" => ((k_here; k_dflt (first | ((with_reducible apply LCt.Assign_ListComp_T); (case F₀ => k_asm); (case hLe => rfl); (case hsw => with_unfolding_all rfl); (case hclos => with_unfolding_all rfl); (case hcell => decide); (case hkind => rfl); (case hnames => decide); (case hx => rfl); (case hy => rfl); (case hp => rfl); (case hs => intro _; with_unfolding_all rfl)) | ((with_reducible apply LCg.Assign_ListComp_U); (case F₀ => k_asm); (case hLe => rfl); (case hsw => with_unfolding_all rfl); (case hclos => with_unfolding_all rfl); (case hcell => decide); (case hkind => rfl); (case hnames => decide); (case hx => rfl); (case hy => rfl); (case hp => rfl); (case hs => intro _; with_unfolding_all rfl)) | (refine wpAny_Assign_Name ?_))))
  k_with "CompSrcT" => ((k_here; k_dflt (first | (refine LCt.CompSrcT.ledger (by first | assumption | rfl) (by k_asm) (by k_asm) (by k_mem) (by k_extra "m_size") ?_; intro _) | (refine LCt.CompSrcT.base (by first | assumption | rfl) (by k_asm) (by k_asm) (by assumption) (by k_extra "m_size") ?_; intro _) | (refine LCt.CompSrcT.range (by first | assumption | rfl) (by k_asm) (by k_asm) (by assumption) (by first | decide | exact small_nat (by omega) | exact small_one (by omega) (by omega) (by omega) (by omega)) (by first | rfl | decide | exact rangeSize_nat _ _) (by k_extra "m_size") ?_; intro _))))
  k_with "CompSrc" => ((k_here; k_dflt (first | (refine LCg.CompSrc.ledger (by first | assumption | rfl) (by k_asm) (by k_asm) (by k_mem) (by k_extra "m_size") ?_; intro _) | (refine LCg.CompSrc.base (by first | assumption | rfl) (by k_asm) (by k_asm) (by assumption) (by k_extra "m_size") ?_; intro _) | (refine LCg.CompSrc.range (by first | assumption | rfl) (by k_asm) (by k_asm) (by assumption) (by first | decide | exact small_nat (by omega) | exact small_one (by omega) (by omega) (by omega) (by omega)) (by first | rfl | decide | exact rangeSize_nat _ _) (by k_extra "m_size") ?_; intro _))))
  k_with "m_arith" => (first | ((try simp only [depth_under_make, depth_under_kw, depth_in1, depth_deeper, units_in1, units_deeper, Around.mark_units]); omega) | (simp only [depth_under_make, depth_under_kw, depth_in1, depth_deeper, units_in1, units_deeper, Around.mark_units] at *; omega))
  k_with "m_p1" => (first | with_reducible assumption | exact And.left (by with_reducible assumption) | exact And.left (And.right (by with_reducible assumption)) | exact And.right (by with_reducible assumption) | exact And.left (And.right (And.right (by with_reducible assumption))) | exact And.right (And.right (by with_reducible assumption)) | exact And.left (And.right (And.right (And.right (by with_reducible assumption)))) | exact And.right (And.right (And.right (by with_reducible assumption))) | exact And.left (And.right (And.right (And.right (And.right (by with_reducible assumption))))) | exact And.right (And.right (And.right (And.right (by with_reducible assumption)))) | exact And.left (And.right (And.right (And.right (And.right (And.right (by with_reducible assumption)))))) | exact And.right (And.right (And.right (And.right (And.right (by with_reducible assumption))))) | exact And.left (And.right (And.right (And.right (And.right (And.right (And.right (by with_reducible assumption))))))) | exact And.right (And.right (And.right (And.right (And.right (And.right (by with_reducible assumption)))))) | exact And.left (And.right (And.right (And.right (And.right (And.right (And.right (And.right (by with_reducible assumption)))))))) | exact And.right (And.right (And.right (And.right (And.right (And.right (And.right (by with_reducible assumption))))))) | exact And.left (And.right (And.right (And.right (And.right (And.right (And.right (And.right (And.right (by with_reducible assumption))))))))) | exact And.right (And.right (And.right (And.right (And.right (And.right (And.right (And.right (by with_reducible assumption)))))))) | exact And.left (And.right (And.right (And.right (And.right (And.right (And.right (And.right (And.right (And.right (by with_reducible assumption)))))))))) | exact And.right (And.right (And.right (And.right (And.right (And.right (And.right (And.right (And.right (by with_reducible assumption))))))))) | exact And.left (And.right (And.right (And.right (And.right (And.right (And.right (And.right (And.right (And.right (And.right (by with_reducible assumption))))))))))) | exact And.right (And.right (And.right (And.right (And.right (And.right (And.right (And.right (And.right (And.right (by with_reducible assumption)))))))))) | exact And.left (And.right (And.right (And.right (And.right (And.right (And.right (And.right (And.right (And.right (And.right (And.right (by with_reducible assumption)))))))))))) | exact And.right (And.right (And.right (And.right (And.right (And.right (And.right (And.right (And.right (And.right (And.right (by with_reducible assumption))))))))))))
  k_with "m_p2" => (first | exact And.left (And.left (by with_reducible assumption)) | exact And.left (And.right (And.left (by with_reducible assumption))) | exact And.left (And.right (And.right (And.left (by with_reducible assumption)))) | exact And.left (And.right (And.right (And.right (And.left (by with_reducible assumption))))) | exact And.right (And.left (by with_reducible assumption)) | exact And.right (And.right (And.left (by with_reducible assumption))) | exact And.right (And.right (And.right (And.left (by with_reducible assumption)))) | exact And.left (And.left (And.right (by with_reducible assumption))) | exact And.left (And.right (And.left (And.right (by with_reducible assumption)))) | exact And.left (And.right (And.right (And.left (And.right (by with_reducible assumption))))) | exact And.left (And.right (And.right (And.right (And.left (And.right (by with_reducible assumption)))))) | exact And.right (And.left (And.right (by with_reducible assumption))) | exact And.right (And.right (And.left (And.right (by with_reducible assumption)))) | exact And.right (And.right (And.right (And.left (And.right (by with_reducible assumption))))) | exact And.left (And.left (And.right (And.right (by with_reducible assumption)))) | exact And.left (And.right (And.left (And.right (And.right (by with_reducible assumption))))) | exact And.left (And.right (And.right (And.left (And.right (And.right (by with_reducible assumption)))))) | exact And.left (And.right (And.right (And.right (And.left (And.right (And.right (by with_reducible assumption))))))) | exact And.right (And.left (And.right (And.right (by with_reducible assumption)))) | exact And.right (And.right (And.left (And.right (And.right (by with_reducible assumption))))) | exact And.right (And.right (And.right (And.left (And.right (And.right (by with_reducible assumption)))))) | exact And.left (And.left (And.right (And.right (And.right (by with_reducible assumption))))) | exact And.left (And.right (And.left (And.right (And.right (And.right (by with_reducible assumption)))))) | exact And.left (And.right (And.right (And.left (And.right (And.right (And.right (by with_reducible assumption))))))) | exact And.left (And.right (And.right (And.right (And.left (And.right (And.right (And.right (by with_reducible assumption)))))))) | exact And.right (And.left (And.right (And.right (And.right (by with_reducible assumption))))) | exact And.right (And.right (And.left (And.right (And.right (And.right (by with_reducible assumption)))))) | exact And.right (And.right (And.right (And.left (And.right (And.right (And.right (by with_reducible assumption))))))))
  k_with "m_ne" => (first | assumption | (refine Ne.symm ?_; assumption) | (refine Nat.ne_of_lt ?_; k_extra "m_p1") | (refine Nat.ne_of_gt ?_; k_extra "m_p1") | k_extra "m_p1" | (refine Ne.symm ?_; k_extra "m_p1") | k_extra "m_p2" | (refine Ne.symm ?_; k_extra "m_p2"))
  k_with "call ref" => ((k_here; (with_reducible show wpAny _ _ (call (Value.ref 59) _) _ _ _); k_dflt (refine' mk_entry ?zzk1 ?zzk2 ?zzk3 ?zzk4 ?zzkr ?_; (case zzk1 => k_asm); (case zzk2 => k_asm); (case zzk3 => k_asm); (case zzk4 => k_asm); (case zzkr => (simp only [depth_in1, depth_deeper]; omega)); intro _ _ _ _ _ _ _ _ _ _ _ _; walk_at "t_2")))
  k_with "assign Tuple" => ((k_here; k_dflt (refine' assign2 ?zzk1 ?zzk2 ?zzk3 ?zzk4 ?_; (case zzk1 => first | assumption | exact rfl); (case zzk2 => k_asm); (case zzk3 => k_asm); (case zzk4 => k_mem); intro _ _ _)))
  k_with "exec For Name Attribute cons nil" => ((k_here; k_dflt (refine For_at ?_)))
  k_with "exec For Name Name cons nil" => ((k_here; k_dflt (refine For_at ?_)))
  k_with "exec For Name Call cons nil" => ((k_here; k_dflt (refine For_at ?_)))
  k_with "exec For Name Tuple cons nil" => ((k_here; k_dflt (refine For_at ?_)))
  k_with "exec For Name List cons nil" => ((k_here; k_dflt (refine For_at ?_)))
  k_with "m_stop" => (with_reducible show ForAt _ _ _ _ _ _ _ _ _ _)
  k_with "m_up" => (first | exact ⟨_, by funext z; repeat' (first | rfl | split) <;> simp_all⟩ | exact ⟨_, _, by funext z; repeat' (first | rfl | split) <;> simp_all⟩ | exact ⟨_, _, _, by funext z; repeat' (first | rfl | split) <;> simp_all⟩)
  k_with "newList" => ((k_here; k_dflt (refine' newList_M ?zzk1 ?zzk2 ?zzk3 ?_; (case zzk1 => k_asm); (case zzk2 => k_asm); (case zzk3 => exact Nat.le_of_ble_eq_true rfl)); intro _ _ _ _; walk_at "t_3"))
  k_with "call ref" => ((k_here; (with_reducible show wpAny _ _ (call (Value.ref 119) _) _ _ _); k_dflt (refine' mk_nodeinfo ?zzk1 ?zzk2 ?zzk3 ?zzk4 ?zzkr ?zzkv ?_; (case zzk1 => k_asm); (case zzk2 => k_asm); (case zzk3 => k_asm); (case zzk4 => k_asm); (case zzkv => k_handed); (case zzkr => (simp only [depth_in1, depth_deeper]; omega)); intro _ _ _ _ _ _ _ _; walk_at "t_2")))
  k_with "call ref" => ((k_here; (with_reducible show wpAny _ _ (call (Value.ref 216) _) _ _ _); k_dflt (refine' mk_sorter ?zzk1 ?zzk2 ?zzk3 ?zzk4 ?zzkr ?_; (case zzk1 => k_asm); (case zzk2 => k_asm); (case zzk3 => k_asm); (case zzk4 => k_asm); (case zzkr => (simp only [depth_in1, depth_deeper]; omega)); intro _ _ _ _ _ _ _ _ _ _ _ _ _ _ _ _; walk_at "t_2")))
  k_with "getMethod ref" => ((k_here; (with_reducible show wpAny _ _ (getMethod (Value.ref _) (Str.ofString "get") _) _ _ _); k_dflt (refine kdg_method (knd := PySem.intKind _ _) (by k_asm) (by k_mem) (by assumption) ?_)))
  k_with "call builtin:dict.get" => ((k_here; k_dflt (refine kdg_get1 (knd := PySem.intKind _ _) (by k_asm) (by k_mem) (by assumption) (by assumption) (intKind_is _ _ _ _) _ (by assumption) ?_; (try dsimp only [Option.getD]))))
  k_with "subscriptTail Name Name ref int" => ((k_here; k_dflt (refine' kda_item (knd := PySem.intKind _ _) ?zzk1 ?zzk2 ?zzk3 ?zzk4 ?zzk5 ?_ ?zzk6 ?zzk7; (case zzk6 => with_unfolding_all rfl); (case zzk7 => intro _; with_unfolding_all rfl); (case zzk1 => k_asm); (case zzk2 => k_mem); (case zzk3 => assumption); (case zzk4 => exact intKind_is _ _ _ _); (case zzk5 => assumption))))
  k_with "setItem ref int" => ((k_here; k_dflt (refine' kda_set (knd := PySem.intKind _ _) ?zzF ?zzN ?zzU ?zzd (intKind_is _ _ _ _) ?zzz ?_; (case zzF => k_asm); (case zzN => k_asm); (case zzU => k_updF); (case zzd => assumption); (case zzz => rw [sizeLine_eq]; assumption)); intro _ _ _; walk_at "t_7"))
  k_with "call builtin:list.append" => ((k_here; (with_reducible show wpAny _ _ (call (Value.builtin _) [Value.ref _, _]) _ _ _); k_dflt (refine' append_K ?zzk1 ?zzk2 ?zzk3 ?_ ?zzz; (case zzk1 => k_asm); (case zzk2 => k_asm); (case zzk3 => k_upd); (case zzz => rw [sizeLine_eq]; omega); k_whole); intro _ _ _; (try k_sweep)))
  k_with "call type:bool" => ((k_here; (with_reducible show wpAny _ _ (call _ [Value.ref _]) _ _ _); k_dflt (refine call_bool_list (by is_list) (by omega) ?_)))
  k_with "call builtin:list.clear" => ((k_here; (with_reducible show wpAny _ _ (call (Value.builtin _) [Value.ref _]) _ _ _); k_dflt (refine' clear_any ?zzF ?zzN ?zzU ?zzz ?_; (case zzF => k_asm); (case zzN => k_asm); (case zzU => k_updF); (case zzz => rw [sizeLine_eq]; omega)); intro _ _ _; walk_at "t_8"))
  k_with "m_stop" => (with_reducible show WhileAt _ _ _ _ _ _ _ _ _)
  k_with "exec While" => ((k_here; k_dflt (refine While_at ?_)))
  k_with "exec While Name" => ((k_here; k_dflt (refine While_at ?_)))
  k_with "exec While Constant" => ((k_here; k_dflt (refine While_at ?_)))
  k_with "getAttr ref" => ((k_here; (with_reducible show wpAny _ _ (getAttr (Value.ref _) (Str.ofString "__next__") true) _ _ _); k_dflt (refine NX.next_N (by k_asm) (by k_asm) (by k_mem) ?_; intro _ _ _ _ _; walk_at "t_3")))
  k_with "call builtin:iter" => ((k_here; (with_reducible show wpAny _ _ (call (Value.builtin "iter") [Value.ref _]) _ _ _); k_dflt (refine NX.iter_N (by k_asm) (by k_asm) (by is_list) ?_; intro _ _ _ _; walk_at "t_3")))
  k_with "callWith ref" => ((k_here; (with_reducible show wpAny _ _ (callWith _ (Value.ref _) [] (backTo _ (starEach [] _)) []) _ _ _); k_dflt (with_unfolding_all refine NX.callWith_N (by k_asm) (by k_mem) ?_)))
  k_with "call ref" => ((k_here; (with_reducible show wpAny _ _ (call (Value.ref _) []) _ _ _); k_dflt (first | (refine' NX.item_N ?zzk1 ?zzk2 ?zzk3 ?zzk4 ?zzk5 ?zzk6 ?_; (case zzk1 => k_asm); (case zzk2 => k_asm); (case zzk4 => k_mem); (case zzk3 => k_updF); (case zzk5 => is_list); (case zzk6 => assumption); intro _ _; walk_at "t_8") | (refine' NX.end_N ?zzk0 ?zzk1 ?zzk2 ?zzk3 ?zzk4 ?zzk5 ?zzk6 ?_; (case zzk0 => assumption); (case zzk1 => k_asm); (case zzk2 => k_asm); (case zzk4 => k_mem); (case zzk3 => k_updF); (case zzk5 => is_list); (case zzk6 => assumption); intro _ _ _ _ _; walk_at "t_8"))))
  k_with "call builtin:list.pop" => ((k_here; (with_reducible show wpAny _ _ (call (Value.builtin _) [Value.ref _]) _ _ _); k_dflt (refine' NX.pop_N ?zzk1 ?zzk2 ?zzk3 ?zzk4 ?_; (case zzk1 => k_asm); (case zzk2 => k_asm); (case zzk3 => k_updF); (case zzk4 => omega); intro _ _; walk_at "t_8")))
  k_with "subscriptTail Name UnaryOp ref int" => ((k_here; k_dflt (refine' NX.last_N ?zzk1 ?zzk2 ?zzk3 ?_ ?zzk4; (case zzk1 => k_asm); (case zzk2 => k_mem); (case zzk3 => omega); (case zzk4 => with_unfolding_all rfl))))
  k_with "call builtin:len" => ((k_here; (with_reducible show wpAny _ _ (call (Value.builtin "len") [Value.ref _]) _ _ _); k_dflt (refine call_len_list (by is_list) (by omega) ?_)))
  k_with "truthy ref" => ((k_here; k_dflt (refine wpAny_truthy_list (by is_list) (by omega) ?_)))
  k_with "truthy ref" => ((k_here; k_dflt (first | (refine NX.truthy_nil (by k_asm) (by k_mem) ?_) | (refine NX.truthy_snoc (by k_asm) (by k_mem) (by omega) ?_))))
  trivial
noncomputable def tot (S : Int → List Int) (rs : List Int) (x : Int) : Nat := (rs.map fun r => (S r).count x).sum
theorem step_fold (x : Int) : ∀ (l : List Int) (P : Int → Int) (ls : List Int), (l.foldl stepD (P, ls)).1 x = P x - (l.count x : Nat)
  | [], P, ls => by simp
  | y :: l, P, ls => by
    rw [List.foldl_cons, stepD, step_fold x l]
    by_cases h : y = x
    · subst h; simp only [updP, if_true, List.count_cons_self]; omega
    · have h' : ¬ x = y := fun e => h e.symm
      simp only [updP, h', if_false, List.count_cons_of_ne h]
theorem step_list (x : Int) : ∀ (l : List Int) (P : Int → Int) (ls : List Int), x ∈ (l.foldl stepD (P, ls)).2 ↔ x ∈ ls ∨ (0 < P x ∧ P x ≤ (l.count x : Nat))
  | [], P, ls => by
    simp only [List.foldl_nil, List.count_nil]
    constructor
    · exact .inl
    · rintro (h | h)
      · exact h
      · omega
  | y :: l, P, ls => by
    rw [List.foldl_cons, stepD, step_list x l]
    by_cases h : y = x
    · subst h
      simp only [updP, if_true, List.count_cons_self]
      by_cases h0 : P y - 1 = 0
      · simp only [h0, if_true, List.mem_append, List.mem_singleton, or_true, true_or, true_iff]
        right; omega
      · simp only [h0, if_false]
        constructor
        · rintro (h | h)
          · exact .inl h
          · right; omega
        · rintro (h | h)
          · exact .inl h
          · right; omega
    · have h' : ¬ x = y := fun e => h e.symm
      simp only [updP, h', if_false, List.count_cons_of_ne h]
      by_cases h0 : P y - 1 = 0
      · simp only [h0, if_true, List.mem_append, List.mem_singleton, h', or_false]
      · simp only [h0, if_false]
theorem step_nodup : ∀ (l : List Int) (P : Int → Int) (ls : List Int), ls.Nodup → (∀ x ∈ ls, P x ≤ 0) → (l.foldl stepD (P, ls)).2.Nodup
  | [], _, _, h, _ => h
  | y :: l, P, ls, h, h0 => by
    rw [List.foldl_cons, stepD]
    refine step_nodup l _ _ ?_ ?_
    · by_cases h1 : P y - 1 = 0
      · simp only [h1, if_true]
        rw [List.nodup_append]
        refine ⟨h, by simp, fun a ha b hb e => ?_⟩
        rw [List.mem_singleton] at hb
        have := h0 a ha
        rw [e, hb] at this
        omega
      · simp only [h1, if_false]; exact h
    · intro x hx
      by_cases h1 : P y - 1 = 0
      · simp only [h1, if_true, List.mem_append, List.mem_singleton] at hx
        rcases hx with hx | hx
        · have := h0 x hx
          simp only [updP]; split
          · rename_i e; omega
          · exact this
        · subst hx; simp only [updP, if_true]; omega
      · simp only [h1, if_false] at hx
        have := h0 x hx
        simp only [updP]; split
        · rename_i e; subst e; omega
        · exact this
theorem tot_zero {S : Int → List Int} {x : Int} : ∀ {rs : List Int}, (∀ q ∈ rs, x ∉ S q) → tot S rs x = 0
  | [], _ => rfl
  | r :: rs, h => by
    have ih := tot_zero (rs := rs) fun q hq => h q (.tail _ hq)
    unfold tot at ih ⊢
    rw [List.map_cons, List.sum_cons, ih, List.count_eq_zero.mpr (h r (.head _))]
theorem done_fold {S : Int → List Int} : ∀ (rs : List Int) (P : Int → Int) (ls : List Int), rs.Nodup → (∀ r ∈ rs, ∀ q ∈ rs, r ∉ S q) → (∀ r ∈ rs, P r ≤ 0) → ls.Nodup → (∀ x ∈ ls, P x ≤ 0) →
    (∀ x, x ∉ rs → (rs.foldl (doneD S) (P, ls)).1 x = P x - (tot S rs x : Nat)) ∧ (∀ x ∈ rs, (rs.foldl (doneD S) (P, ls)).1 x = -2) ∧
    (∀ x, x ∈ (rs.foldl (doneD S) (P, ls)).2 ↔ x ∈ ls ∨ (x ∉ rs ∧ 0 < P x ∧ P x ≤ (tot S rs x : Nat))) ∧ (rs.foldl (doneD S) (P, ls)).2.Nodup
  | [], P, ls, _, _, _, hls, _ => by
    refine ⟨fun x _ => by simp [tot], fun _ h => (nomatch h), fun x => ?_, hls⟩
    simp only [List.foldl_nil, tot, List.map_nil, List.sum_nil]
    constructor
    · exact .inl
    · rintro (h | ⟨_, h⟩)
      · exact h
      · omega
  | r :: rs, P, ls, hnd, hS, hP, hls, hl0 => by
    obtain ⟨hr, hnd'⟩ := List.nodup_cons.mp hnd
    have e1 : ∀ x, (doneD S (P, ls) r).1 x = updP P r (-2) x - ((S r).count x : Nat) := fun x => step_fold x _ _ _
    have e2 : ∀ x, x ∈ (doneD S (P, ls) r).2 ↔ x ∈ ls ∨ (0 < updP P r (-2) x ∧ updP P r (-2) x ≤ ((S r).count x : Nat)) := fun x => step_list x _ _ _
    have hu : ∀ x ∈ ls, updP P r (-2) x ≤ 0 := fun x hx => by
      have := hl0 x hx
      simp only [updP]; split <;> omega
    have e3 : (doneD S (P, ls) r).2.Nodup := step_nodup _ _ _ hls hu
    have hu2 : ∀ x, updP P r (-2) x = if x = r then -2 else P x := fun x => rfl
    have ih := done_fold rs (doneD S (P, ls) r).1 (doneD S (P, ls) r).2 hnd' (fun a ha b hb => hS a (.tail _ ha) b (.tail _ hb)) (fun x hx => by
      have := hP x (.tail _ hx)
      rw [e1, hu2]; split <;> omega) e3 (fun x hx => by
      rw [e1]
      rcases (e2 x).mp hx with h | h
      · have := hu x h; omega
      · omega)
    have et : ∀ x, tot S (r :: rs) x = (S r).count x + tot S rs x := fun x => by simp [tot]
    have c0 : (S r).count r = 0 := List.count_eq_zero.mpr (hS r (.head _) r (.head _))
    have t0 : tot S rs r = 0 := tot_zero fun q hq => hS r (.head _) q (.tail _ hq)
    obtain ⟨i1, i2, i3, i4⟩ := ih
    rw [List.foldl_cons]
    refine ⟨fun x hx => ?_, fun x hx => ?_, fun x => ?_, i4⟩
    · have hxr : ¬ x = r := fun e => hx (e ▸ .head _)
      rw [i1 x fun h => hx (.tail _ h), e1, hu2, if_neg hxr, et]; omega
    · rcases List.mem_cons.mp hx with rfl | hx
      · rw [i1 x hr, e1, hu2, if_pos rfl, c0, t0]; omega
      · exact i2 x hx
    · rw [i3, e2]
      by_cases hxr : x = r
      · subst hxr
        have hp := hP x (.head _)
        simp only [hu2, if_true, e1, c0, List.mem_cons, true_or, not_true, false_and, or_false]
        constructor
        · rintro ((h | h) | h)
          · exact h
          · omega
          · omega
        · exact fun h => .inl (.inl h)
      · have hu3 : updP P r (-2) x = P x := by rw [hu2, if_neg hxr]
        simp only [e1, hu3, et, List.mem_cons, hxr, false_or]
        constructor
        · rintro ((h | h) | ⟨h, h'⟩)
          · exact .inl h
          · by_cases hm : x ∈ rs
            · have := hP x (.tail _ hm); omega
            · right; exact ⟨hm, by omega, by omega⟩
          · right; exact ⟨h, by omega, by omega⟩
        · rintro (h | ⟨h, h1, h2⟩)
          · exact .inl (.inl h)
          · by_cases h3 : P x ≤ ((S r).count x : Nat)
            · exact .inl (.inr ⟨h1, h3⟩)
            · right; exact ⟨h, by omega, by omega⟩
theorem sum_ind (y : Int) : ∀ (rs : List Int), rs.Nodup → (rs.map fun r => if y = r then 1 else 0).sum = if y ∈ rs then 1 else 0
  | [], _ => by simp
  | r :: rs, h => by
    obtain ⟨h1, h2⟩ := List.nodup_cons.mp h
    rw [List.map_cons, List.sum_cons, sum_ind y rs h2]
    by_cases e : y = r
    · subst e; simp [h1]
    · simp [e]
theorem sum_add2 (f g : Int → Nat) : ∀ (rs : List Int), (rs.map fun r => f r + g r).sum = (rs.map f).sum + (rs.map g).sum
  | [] => rfl
  | r :: rs => by
    simp only [List.map_cons, List.sum_cons, sum_add2 f g rs]; omega
theorem count_sum {rs : List Int} (h : rs.Nodup) : ∀ (l : List Int), (rs.map fun r => l.count r).sum = (l.filter fun q => decide (q ∈ rs)).length
  | [] => by
    simp only [List.count_nil, List.filter_nil, List.length_nil]
    have := tot_zero (S := fun _ => []) (x := 0) (rs := rs) fun _ _ h => nomatch h
    simpa [tot] using this
  | y :: l => by
    have e : (rs.map fun r => (y :: l).count r) = rs.map fun r => l.count r + if y = r then 1 else 0 := by
      refine List.map_congr_left fun r _ => ?_
      rw [List.count_cons]
      by_cases h : y = r <;> simp [h]
    rw [e, sum_add2, count_sum h l, sum_ind y rs h]
    by_cases hm : y ∈ rs <;> simp [hm]
noncomputable def dpi (dp : List Int) (j : Int) : Int := dp.getD j.toNat 0
noncomputable def ahk (ah : List (List Int)) (j : Int) : List Int := ah.getD j.toNat []
noncomputable def stA (ah : List (List Int)) : Nat → (Int → Int) × (Int → List Int)
  | 0 => (fun _ => 0, fun _ => [])
  | i + 1 => ((fun j => if j = (i : Int) then (stA ah i).1 i + ((ahk ah i).length : Nat) else (stA ah i).1 j), fun j => (stA ah i).2 j ++ ((ahk ah i).filter (· = j)).map fun _ => (i : Int))
theorem stA_P (ah : List (List Int)) : ∀ (m : Nat) (j : Int), (stA ah m).1 j = if 0 ≤ j ∧ j < m then ((ahk ah j).length : Nat) else 0
  | 0, j => by
    have : ¬ (0 ≤ j ∧ j < ((0 : Nat) : Int)) := by omega
    rw [if_neg this]; rfl
  | m + 1, j => by
    show (if j = (m : Int) then (stA ah m).1 m + ((ahk ah m).length : Nat) else (stA ah m).1 j) = _
    by_cases h : j = (m : Int)
    · subst h
      rw [if_pos rfl, stA_P ah m, if_neg (by omega), if_pos (by omega)]; omega
    · rw [if_neg h, stA_P ah m]
      by_cases h2 : 0 ≤ j ∧ j < m
      · rw [if_pos h2, if_pos (by omega)]
      · rw [if_neg h2, if_neg (by omega)]
theorem stA_S (ah : List (List Int)) (j x : Int) : ∀ (m : Nat), ((stA ah m).2 j).count x = if 0 ≤ x ∧ x < m then (ahk ah x).count j else 0
  | 0 => by
    have : ¬ (0 ≤ x ∧ x < ((0 : Nat) : Int)) := by omega
    rw [if_neg this]; rfl
  | m + 1 => by
    show ((stA ah m).2 j ++ ((ahk ah m).filter (· = j)).map fun _ => (m : Int)).count x = _
    rw [List.count_append, stA_S ah j x m]
    have e : (((ahk ah m).filter (· = j)).map fun _ => (m : Int)) = List.replicate ((ahk ah m).count j) (m : Int) := by
      rw [List.eq_replicate_iff]
      refine ⟨?_, fun b hb => ?_⟩
      · rw [List.length_map, List.count_eq_length_filter]
        congr 1
      · obtain ⟨_, _, e⟩ := List.mem_map.mp hb
        exact e.symm
    rw [e, List.count_replicate]
    by_cases h : x = (m : Int)
    · subst h
      have c1 : ¬ (0 ≤ (m : Int) ∧ (m : Int) < m) := by omega
      have c2 : 0 ≤ (m : Int) ∧ (m : Int) < ((m + 1 : Nat) : Int) := by omega
      rw [if_neg c1, if_pos c2]; simp
    · have h' : ((m : Int) == x) = false := by simp only [beq_eq_false_iff_ne]; exact fun e => h e.symm
      rw [h']
      by_cases h2 : 0 ≤ x ∧ x < m
      · have c2 : 0 ≤ x ∧ x < ((m + 1 : Nat) : Int) := by omega
        rw [if_pos h2, if_pos c2]; simp
      · have c2 : ¬ (0 ≤ x ∧ x < ((m + 1 : Nat) : Int)) := by omega
        rw [if_neg h2, if_neg c2]; simp
theorem stA_mem {ah : List (List Int)} {m : Nat} {j x : Int} : x ∈ (stA ah m).2 j ↔ (0 ≤ x ∧ x < m) ∧ j ∈ ahk ah x := by
  rw [← List.count_pos_iff, stA_S]
  by_cases h : 0 ≤ x ∧ x < m
  · rw [if_pos h, List.count_pos_iff]; exact ⟨fun q => ⟨h, q⟩, fun q => q.2⟩
  · rw [if_neg h]; exact ⟨fun q => absurd q (by omega), fun q => absurd q.1 h⟩
theorem stA_len {ah : List (List Int)} (h : ∀ j, (ahk ah j).length ≤ 7) (j : Int) : ∀ m, ((stA ah m).2 j).length ≤ 7 * m
  | 0 => Nat.zero_le _
  | m + 1 => by
    show ((stA ah m).2 j ++ ((ahk ah m).filter (· = j)).map fun _ => (m : Int)).length ≤ _
    rw [List.length_append, List.length_map]
    have h1 := stA_len h j m
    have h2 := List.length_filter_le (fun x => decide (x = j)) (ahk ah m)
    have h3 := h m
    omega
structure RdH (ah : List (List Int)) (dp : List Int) (n : Nat) : Prop where
  la : ah.length = n
  ld : dp.length = n
  hn : n ≤ 7
  l7 : ∀ j, (ahk ah j).length ≤ 7
  lt : ∀ k : Int, 0 ≤ k → k < n → ∀ j ∈ ahk ah k, (0 ≤ j ∧ j < n) ∧ dpi dp j < dpi dp k
  ex : ∀ k : Int, 0 ≤ k → k < n → 0 < dpi dp k → ∃ j ∈ ahk ah k, dpi dp j + 1 = dpi dp k
  nn : ∀ k : Int, 0 ≤ k → k < n → 0 ≤ dpi dp k ∧ dpi dp k ≤ 90
noncomputable def PRd (ah : List (List Int)) (dp : List Int) (n : Nat) (d : Int) (j : Int) : Int :=
  if 0 ≤ j ∧ j < n then (if dpi dp j < d then -2 else (((ahk ah j).filter fun q => decide (d ≤ dpi dp q)).length : Nat)) else 0
theorem PRd_zero {ah : List (List Int)} {dp : List Int} {n : Nat} (H : RdH ah dp n) : PRd ah dp n 0 = (stA ah n).1 := by
  funext j
  rw [stA_P]
  unfold PRd
  by_cases h : 0 ≤ j ∧ j < n
  · rw [if_pos h, if_pos h, if_neg (by have := (H.nn j h.1 h.2).1; omega), List.filter_eq_self.mpr]
    intro q hq
    have h1 := (H.lt j h.1 h.2 q hq).1
    exact decide_eq_true (H.nn q h1.1 h1.2).1
  · rw [if_neg h, if_neg h]; rfl
theorem zer_mem {ah : List (List Int)} {dp : List Int} {n : Nat} (H : RdH ah dp n) {ks : List Int} (hk : ∀ j, j ∈ ks ↔ 0 ≤ j ∧ j < n) (x : Int) : x ∈ zer (stA ah n).1 ks ↔ (0 ≤ x ∧ x < n) ∧ dpi dp x = 0 := by
  unfold zer
  rw [List.mem_filter, hk, decide_eq_true_iff, stA_P]
  refine and_congr_right fun h => ?_
  rw [if_pos h]
  have h0 := (H.nn x h.1 h.2).1
  constructor
  · intro e
    rcases Int.lt_or_le 0 (dpi dp x) with h1 | h1
    · obtain ⟨j, hj, _⟩ := H.ex x h.1 h.2 h1
      have : (ahk ah x).length ≠ 0 := fun e => by rw [List.length_eq_zero_iff.mp e] at hj; cases hj
      omega
    · omega
  · intro e
    cases hq : ahk ah x with
    | nil => rfl
    | cons j r =>
      have := (H.lt x h.1 h.2 j (by rw [hq]; exact .head _))
      have h2 := (H.nn j this.1.1 this.1.2).1
      omega
theorem tot_eq {ah : List (List Int)} {dp : List Int} {n : Nat} (H : RdH ah dp n) {rs : List Int} {d : Int} (hnd : rs.Nodup) (hm : ∀ x, x ∈ rs ↔ (0 ≤ x ∧ x < n) ∧ dpi dp x = d) (x : Int) :
    tot (stA ah n).2 rs x = if 0 ≤ x ∧ x < n then ((ahk ah x).filter fun q => decide (dpi dp q = d)).length else 0 := by
  unfold tot
  by_cases h : 0 ≤ x ∧ x < n
  · rw [if_pos h]
    have e : (rs.map fun r => ((stA ah n).2 r).count x) = rs.map fun r => (ahk ah x).count r := List.map_congr_left fun r _ => by rw [stA_S, if_pos h]
    rw [e, count_sum hnd]
    congr 1
    refine List.filter_congr fun q hq => ?_
    have h1 := (H.lt x h.1 h.2 q hq).1
    by_cases h2 : dpi dp q = d
    · rw [decide_eq_true h2, decide_eq_true ((hm q).mpr ⟨h1, h2⟩)]
    · rw [decide_eq_false h2, decide_eq_false fun h3 => h2 ((hm q).mp h3).2]
  · rw [if_neg h]
    exact tot_zero (S := (stA ah n).2) fun q _ hx => h (stA_mem.mp hx).1
theorem filt_split {dp : List Int} {d : Int} : ∀ (l : List Int), (l.filter fun q => decide (d ≤ dpi dp q)).length = (l.filter fun q => decide (dpi dp q = d)).length + (l.filter fun q => decide (d + 1 ≤ dpi dp q)).length
  | [] => rfl
  | q :: l => by
    have ih := filt_split (dp := dp) (d := d) l
    simp only [List.filter_cons]
    by_cases h1 : d ≤ dpi dp q
    · by_cases h2 : dpi dp q = d
      · have h3 : ¬ d + 1 ≤ dpi dp q := by omega
        simp only [decide_eq_true h1, decide_eq_true h2, decide_eq_false h3, if_true, Bool.false_eq_true, if_false, List.length_cons, ih]; omega
      · have h3 : d + 1 ≤ dpi dp q := by omega
        simp only [decide_eq_true h1, decide_eq_false h2, decide_eq_true h3, if_true, Bool.false_eq_true, if_false, List.length_cons, ih]; omega
    · have h2 : ¬ dpi dp q = d := by omega
      have h3 : ¬ d + 1 ≤ dpi dp q := by omega
      simp only [decide_eq_false h1, decide_eq_false h2, decide_eq_false h3, Bool.false_eq_true, if_false, ih]
theorem round_ok {ah : List (List Int)} {dp : List Int} {n : Nat} (H : RdH ah dp n) {rs : List Int} {d : Int} (hd : 0 ≤ d) (hnd : rs.Nodup) (hm : ∀ x, x ∈ rs ↔ (0 ≤ x ∧ x < n) ∧ dpi dp x = d) :
    (rs.foldl (doneD (stA ah n).2) ((fun j => if j ∈ rs then -1 else PRd ah dp n d j), [])).1 = PRd ah dp n (d + 1) ∧
    (∀ x, x ∈ (rs.foldl (doneD (stA ah n).2) ((fun j => if j ∈ rs then -1 else PRd ah dp n d j), [])).2 ↔ (0 ≤ x ∧ x < n) ∧ dpi dp x = d + 1) ∧
    (rs.foldl (doneD (stA ah n).2) ((fun j => if j ∈ rs then -1 else PRd ah dp n d j), [])).2.Nodup := by
  have hS : ∀ r ∈ rs, ∀ q ∈ rs, r ∉ (stA ah n).2 q := fun r hr q hq h => by
    obtain ⟨h1, h2⟩ := stA_mem.mp h
    have h3 := (H.lt r h1.1 h1.2 q h2).2
    rw [((hm r).mp hr).2, ((hm q).mp hq).2] at h3
    omega
  obtain ⟨f1, f2, f3, f4⟩ := done_fold rs (fun j => if j ∈ rs then -1 else PRd ah dp n d j) [] hnd hS (fun r hr => by simp only [hr, if_true]; omega) .nil (fun _ h => nomatch h)
  refine ⟨?_, ?_, f4⟩
  · funext x
    by_cases hx : x ∈ rs
    · rw [f2 x hx]
      obtain ⟨h1, h2⟩ := (hm x).mp hx
      unfold PRd
      rw [if_pos h1, if_pos (by omega)]
    · rw [f1 x hx, if_neg hx, tot_eq H hnd hm]
      unfold PRd
      by_cases h : 0 ≤ x ∧ x < n
      · simp only [if_pos h]
        have hne : ¬ dpi dp x = d := fun e => hx ((hm x).mpr ⟨h, e⟩)
        by_cases h2 : dpi dp x < d
        · rw [if_pos h2, if_pos (by omega)]
          rw [List.filter_eq_nil_iff.mpr]
          · simp
          · intro q hq
            have := (H.lt x h.1 h.2 q hq).2
            simp only [decide_eq_true_eq]; omega
        · rw [if_neg h2, if_neg (by omega), filt_split]
          omega
      · simp only [if_neg h]; omega
  · intro x
    rw [f3]
    simp only [List.not_mem_nil, false_or]
    constructor
    · rintro ⟨hx, h1, h2⟩
      rw [if_neg hx] at h1 h2
      rw [tot_eq H hnd hm] at h2
      unfold PRd at h1 h2
      by_cases h : 0 ≤ x ∧ x < n
      · simp only [if_pos h] at h1 h2
        refine ⟨h, ?_⟩
        by_cases h3 : dpi dp x < d
        · rw [if_pos h3] at h1; omega
        · rw [if_neg h3] at h1 h2
          have hne : ¬ dpi dp x = d := fun e => hx ((hm x).mpr ⟨h, e⟩)
          rw [filt_split] at h2
          have h4 : ((ahk ah x).filter fun q => decide (d + 1 ≤ dpi dp q)).length = 0 := by omega
          obtain ⟨j, hj, hj2⟩ := H.ex x h.1 h.2 (by omega)
          have h5 := List.filter_eq_nil_iff.mp (List.length_eq_zero_iff.mp h4) j hj
          simp only [decide_eq_true_eq] at h5
          omega
      · simp only [if_neg h] at h1; omega
    · rintro ⟨h, h1⟩
      have hx : x ∉ rs := fun hx => by have := ((hm x).mp hx).2; omega
      rw [if_neg hx, tot_eq H hnd hm]
      unfold PRd
      simp only [if_pos h]
      rw [if_neg (by omega), filt_split]
      have h4 : ((ahk ah x).filter fun q => decide (d + 1 ≤ dpi dp q)).length = 0 := by
        rw [List.length_eq_zero_iff, List.filter_eq_nil_iff]
        intro q hq
        have := (H.lt x h.1 h.2 q hq).2
        simp only [decide_eq_true_eq]; omega
      obtain ⟨j, hj, hj2⟩ := H.ex x h.1 h.2 (by omega)
      have h5 : 0 < ((ahk ah x).filter fun q => decide (dpi dp q = d)).length := List.length_pos_of_mem (List.mem_filter.mpr ⟨hj, decide_eq_true (by omega)⟩)
      refine ⟨hx, ?_, ?_⟩ <;> omega
theorem depth_ex {ah : List (List Int)} {dp : List Int} {n : Nat} (H : RdH ah dp n) : ∀ (m : Nat) (k : Int), 0 ≤ k → k < n → ∀ d : Int, 0 ≤ d → d + m = dpi dp k → ∃ x : Int, (0 ≤ x ∧ x < n) ∧ dpi dp x = d
  | 0, k, h0, h1, d, _, hm => ⟨k, ⟨h0, h1⟩, by omega⟩
  | m + 1, k, h0, h1, d, hd, hm => by
    obtain ⟨j, hj, hj2⟩ := H.ex k h0 h1 (by omega)
    have h2 := (H.lt k h0 h1 j hj).1
    exact depth_ex H m j h2.1 h2.2 d hd (by omega)

end P31
section P32
theorem ru32 : True := by
  k_with_none
  k_with "m_stop" => (first | with_reducible show LCg.CompRest _ _ _ _ _ _ _ _ _ _ _ _ _ _ _ _ _ _ _ | with_reducible show LCt.CompRestT _ _ _ _ _ _ _ _ _ _ _ _ _ _ _ _ _ _ _ _)
  k_with "m_go0" => (repeat' ((fail_if_success (k_extra "m_stop")); first | (k_unfold; (try dsimp only)) | walk1 | (dsimp only; walk1) | (leave1; try dsimp only) | fail "no step"))
  k_with "m_go" => (((try k_fold) <;> (try dsimp only) <;> k_extra "m_go0" <;> (try k_fold)))
  k_with "m_inA" => (((case zzkX => assumption); (case zzkT => assumption); (case zzkl => k_is); (case zzk1 => exact rfl); (case zzk2 => exact rfl); (case zzk3 => exact rfl); (case zzk4 => decide); (case zzkc => k_is); (case zzkr => omega); (case zzkb => first | exact BindsTo.of_eq rfl | exact binds_K (by k_in) rfl (by k_is) rfl rfl rfl); (case zzko => exact locs rfl); intro _ _; walk_at "t_0"))
  k_with "m_inB" => (((case zzkX => assumption); (case zzkT => assumption); (case zzkl => k_is); (case zzk1 => exact rfl); (case zzk2 => exact rfl); (case zzk3 => exact rfl); (case zzkc => k_is); (case zzkr => omega); (case zzkb => first | exact BindsTo.of_eq rfl | exact binds_K (by k_in) rfl (by k_is) rfl rfl rfl); (case zzko => exact rfl); (case zzkn => decide +kernel); intro _ _ _ _; walk_at "t_1"))
  k_with "m_in1" => ((refine' freeze1 ?zzkX ?zzkT ?zzkl ?zzkc ?zzkr ?zzkb ?zzko ?_ ?zzk1 ?zzk2 ?zzk3 ?zzk4; k_extra "m_inA"))
  k_with "m_inC1" => ((refine' freezeC1 ?zzkX ?zzkT ?zzkl ?zzkc ?zzkr ?zzkb ?zzko ?zzkn ?_ ?zzk1 ?zzk2 ?zzk3; k_extra "m_inB"))
  k_with "m_in2" => ((refine' freeze2 ?zzkX ?zzkT ?zzkl ?zzkc ?zzkr ?zzkb ?zzko ?_ ?zzk1 ?zzk2 ?zzk3 ?zzk4; k_extra "m_inA"))
  k_with "m_inC2" => ((refine' freezeC2 ?zzkX ?zzkT ?zzkl ?zzkc ?zzkr ?zzkb ?zzko ?zzkn ?_ ?zzk1 ?zzk2 ?zzk3; k_extra "m_inB"))
  k_with "m_in3" => ((refine' freeze3 ?zzkX ?zzkT ?zzkl ?zzkc ?zzkr ?zzkb ?zzko ?_ ?zzk1 ?zzk2 ?zzk3 ?zzk4; k_extra "m_inA"))
  k_with "m_inC3" => ((refine' freezeC3 ?zzkX ?zzkT ?zzkl ?zzkc ?zzkr ?zzkb ?zzko ?zzkn ?_ ?zzk1 ?zzk2 ?zzk3; k_extra "m_inB"))
  k_with "m_in4" => ((refine' freeze4 ?zzkX ?zzkT ?zzkl ?zzkc ?zzkr ?zzkb ?zzko ?_ ?zzk1 ?zzk2 ?zzk3 ?zzk4; k_extra "m_inA"))
  k_with "m_inC4" => ((refine' freezeC4 ?zzkX ?zzkT ?zzkl ?zzkc ?zzkr ?zzkb ?zzko ?zzkn ?_ ?zzk1 ?zzk2 ?zzk3; k_extra "m_inB"))
  k_with "m_size" => (first | ((with_reducible refine z_sz ?_); omega) | ((with_reducible refine z_szl ?_); omega) | omega | (rw [sizeLine_eq]; omega) | (simp only [List.size_toArray, sizeLine_eq, List.length_append, List.length_cons, List.length_nil, List.length_map] at *; omega))
  k_with "eval ListComp" => ((k_here; k_dflt (first | ((with_reducible apply LCt.ListComp_T); (case F₀ => k_asm); (case hclos => with_unfolding_all rfl); (case hcell => decide); (case hkind => rfl); (case hnames => decide); (case hx => rfl); (case hs => intro _; with_unfolding_all rfl)) | ((with_reducible apply LCg.ListComp_U); (case F₀ => k_asm); (case hclos => with_unfolding_all rfl); (case hcell => decide); (case hkind => rfl); (case hnames => decide); (case hx => rfl); (case hs => intro _; with_unfolding_all rfl)))))
  k_with "exec Assign cons ListComp" => ((k_here; k_dflt (first | ((with_reducible apply LCt.Assign_ListComp_T); (case F₀ => k_asm); (case hLe => rfl); (case hsw => with_unfolding_all rfl); (case hclos => with_unfolding_all rfl); (case hcell => decide); (case hkind => rfl); (case hnames => decide); (case hx => rfl); (case hy => rfl); (case hp => rfl); (case hs => intro _; with_unfolding_all rfl)) | ((with_reducible apply LCg.Assign_ListComp_U); (case F₀ => k_asm); (case hLe => rfl); (case hsw => with_unfolding_all rfl); (case hclos => with_unfolding_all rfl); (case hcell => decide); (case hkind => rfl); (case hnames => decide); (case hx => rfl); (case hy => rfl); (case hp => rfl); (case hs => intro _; with_unfolding_all rfl)) | (refine wpAny_Assign_Name ?_))))
  k_with "CompSrcT" => ((k_here; k_dflt (first | (refine LCt.CompSrcT.ledger (by first | assumption | rfl) (by k_asm) (by k_asm) (by k_mem) (by k_extra "m_size") ?_; intro _) | (refine LCt.CompSrcT.base (by first | assumption | rfl) (by k_asm) (by k_asm) (by assumption) (by k_extra "m_size") ?_; intro _) | (refine LCt.CompSrcT.range (by first | assumption | rfl) (by k_asm) (by k_asm) (by assumption) (by first | decide | exact small_nat (by omega) | exact small_one (by omega) (by omega) (by omega) (by omega)) (by first | rfl | decide | exact rangeSize_nat _ _) (by k_extra "m_size") ?_; intro _))))
  k_with "CompSrc" => ((k_here; k_dflt (first | (refine LCg.CompSrc.ledger (by first | assumption | rfl) (by k_asm) (by k_asm) (by k_mem) (by k_extra "m_size") ?_; intro _) | (refine LCg.CompSrc.base (by first | assumption | rfl) (by k_asm) (by k_asm) (by assumption) (by k_extra "m_size") ?_; intro _) | (refine LCg.CompSrc.range (by first | assumption | rfl) (by k_asm) (by k_asm) (by assumption) (by first | decide | exact small_nat (by omega) | exact small_one (by omega) (by omega) (by omega) (by omega)) (by first | rfl | decide | exact rangeSize_nat _ _) (by k_extra "m_size") ?_; intro _))))
  k_with "m_arith" => (first | ((try simp only [depth_under_make, depth_under_kw, depth_in1, depth_deeper, units_in1, units_deeper, Around.mark_units]); omega) | (simp only [depth_under_make, depth_under_kw, depth_in1, depth_deeper, units_in1, units_deeper, Around.mark_units] at *; omega))
  k_with "m_p1" => (first | with_reducible assumption | exact And.left (by with_reducible assumption) | exact And.left (And.right (by with_reducible assumption)) | exact And.right (by with_reducible assumption) | exact And.left (And.right (And.right (by with_reducible assumption))) | exact And.right (And.right (by with_reducible assumption)) | exact And.left (And.right (And.right (And.right (by with_reducible assumption)))) | exact And.right (And.right (And.right (by with_reducible assumption))) | exact And.left (And.right (And.right (And.right (And.right (by with_reducible assumption))))) | exact And.right (And.right (And.right (And.right (by with_reducible assumption)))) | exact And.left (And.right (And.right (And.right (And.right (And.right (by with_reducible assumption)))))) | exact And.right (And.right (And.right (And.right (And.right (by with_reducible assumption))))) | exact And.left (And.right (And.right (And.right (And.right (And.right (And.right (by with_reducible assumption))))))) | exact And.right (And.right (And.right (And.right (And.right (And.right (by with_reducible assumption)))))) | exact And.left (And.right (And.right (And.right (And.right (And.right (And.right (And.right (by with_reducible assumption)))))))) | exact And.right (And.right (And.right (And.right (And.right (And.right (And.right (by with_reducible assumption))))))) | exact And.left (And.right (And.right (And.right (And.right (And.right (And.right (And.right (And.right (by with_reducible assumption))))))))) | exact And.right (And.right (And.right (And.right (And.right (And.right (And.right (And.right (by with_reducible assumption)))))))) | exact And.left (And.right (And.right (And.right (And.right (And.right (And.right (And.right (And.right (And.right (by with_reducible assumption)))))))))) | exact And.right (And.right (And.right (And.right (And.right (And.right (And.right (And.right (And.right (by with_reducible assumption))))))))) | exact And.left (And.right (And.right (And.right (And.right (And.right (And.right (And.right (And.right (And.right (And.right (by with_reducible assumption))))))))))) | exact And.right (And.right (And.right (And.right (And.right (And.right (And.right (And.right (And.right (And.right (by with_reducible assumption)))))))))) | exact And.left (And.right (And.right (And.right (And.right (And.right (And.right (And.right (And.right (And.right (And.right (And.right (by with_reducible assumption)))))))))))) | exact And.right (And.right (And.right (And.right (And.right (And.right (And.right (And.right (And.right (And.right (And.right (by with_reducible assumption))))))))))))
  k_with "m_p2" => (first | exact And.left (And.left (by with_reducible assumption)) | exact And.left (And.right (And.left (by with_reducible assumption))) | exact And.left (And.right (And.right (And.left (by with_reducible assumption)))) | exact And.left (And.right (And.right (And.right (And.left (by with_reducible assumption))))) | exact And.right (And.left (by with_reducible assumption)) | exact And.right (And.right (And.left (by with_reducible assumption))) | exact And.right (And.right (And.right (And.left (by with_reducible assumption)))) | exact And.left (And.left (And.right (by with_reducible assumption))) | exact And.left (And.right (And.left (And.right (by with_reducible assumption)))) | exact And.left (And.right (And.right (And.left (And.right (by with_reducible assumption))))) | exact And.left (And.right (And.right (And.right (And.left (And.right (by with_reducible assumption)))))) | exact And.right (And.left (And.right (by with_reducible assumption))) | exact And.right (And.right (And.left (And.right (by with_reducible assumption)))) | exact And.right (And.right (And.right (And.left (And.right (by with_reducible assumption))))) | exact And.left (And.left (And.right (And.right (by with_reducible assumption)))) | exact And.left (And.right (And.left (And.right (And.right (by with_reducible assumption))))) | exact And.left (And.right (And.right (And.left (And.right (And.right (by with_reducible assumption)))))) | exact And.left (And.right (And.right (And.right (And.left (And.right (And.right (by with_reducible assumption))))))) | exact And.right (And.left (And.right (And.right (by with_reducible assumption)))) | exact And.right (And.right (And.left (And.right (And.right (by with_reducible assumption))))) | exact And.right (And.right (And.right (And.left (And.right (And.right (by with_reducible assumption)))))) | exact And.left (And.left (And.right (And.right (And.right (by with_reducible assumption))))) | exact And.left (And.right (And.left (And.right (And.right (And.right (by with_reducible assumption)))))) | exact And.left (And.right (And.right (And.left (And.right (And.right (And.right (by with_reducible assumption))))))) | exact And.left (And.right (And.right (And.right (And.left (And.right (And.right (And.right (by with_reducible assumption)))))))) | exact And.right (And.left (And.right (And.right (And.right (by with_reducible assumption))))) | exact And.right (And.right (And.left (And.right (And.right (And.right (by with_reducible assumption)))))) | exact And.right (And.right (And.right (And.left (And.right (And.right (And.right (by with_reducible assumption))))))))
  k_with "m_ne" => (first | assumption | (refine Ne.symm ?_; assumption) | (refine Nat.ne_of_lt ?_; k_extra "m_p1") | (refine Nat.ne_of_gt ?_; k_extra "m_p1") | k_extra "m_p1" | (refine Ne.symm ?_; k_extra "m_p1") | k_extra "m_p2" | (refine Ne.symm ?_; k_extra "m_p2"))
  k_with "call ref" => ((k_here; (with_reducible show wpAny _ _ (call (Value.ref 59) _) _ _ _); k_dflt (refine' mk_entry ?zzk1 ?zzk2 ?zzk3 ?zzk4 ?zzkr ?_; (case zzk1 => k_asm); (case zzk2 => k_asm); (case zzk3 => k_asm); (case zzk4 => k_asm); (case zzkr => (simp only [depth_in1, depth_deeper]; omega)); intro _ _ _ _ _ _ _ _ _ _ _ _; walk_at "t_2")))
  k_with "assign Tuple" => ((k_here; k_dflt (refine' assign2 ?zzk1 ?zzk2 ?zzk3 ?zzk4 ?_; (case zzk1 => first | assumption | exact rfl); (case zzk2 => k_asm); (case zzk3 => k_asm); (case zzk4 => k_mem); intro _ _ _)))
  k_with "exec For Name Attribute cons nil" => ((k_here; k_dflt (refine For_at ?_)))
  k_with "exec For Name Name cons nil" => ((k_here; k_dflt (refine For_at ?_)))
  k_with "exec For Name Call cons nil" => ((k_here; k_dflt (refine For_at ?_)))
  k_with "exec For Name Tuple cons nil" => ((k_here; k_dflt (refine For_at ?_)))
  k_with "exec For Name List cons nil" => ((k_here; k_dflt (refine For_at ?_)))
  k_with "m_stop" => (with_reducible show ForAt _ _ _ _ _ _ _ _ _ _)
  k_with "m_up" => (first | exact ⟨_, by funext z; repeat' (first | rfl | split) <;> simp_all⟩ | exact ⟨_, _, by funext z; repeat' (first | rfl | split) <;> simp_all⟩ | exact ⟨_, _, _, by funext z; repeat' (first | rfl | split) <;> simp_all⟩)
  k_with "newList" => ((k_here; k_dflt (refine' newList_M ?zzk1 ?zzk2 ?zzk3 ?_; (case zzk1 => k_asm); (case zzk2 => k_asm); (case zzk3 => exact Nat.le_of_ble_eq_true rfl)); intro _ _ _ _; walk_at "t_3"))
  k_with "call ref" => ((k_here; (with_reducible show wpAny _ _ (call (Value.ref 234) _) _ _ _); k_dflt (refine' record_ok ?zzk1 ?zzk2 ?zzkr ?zzk3 ?zzk4 ?zzk5 ?zzk6 ?_; (case zzk1 => exact Frag.In.keeps (by k_asm) (Fr.keep (by k_asm))); (case zzk2 => exact Top.keeps (by k_asm) (Fr.keep (by k_asm))); (case zzk4 => first | exact Heap.IsList.at (by assumption) (fun o e => Fr.keep (by k_asm) _ _ e) | exact News.isList (by k_asm) (by k_mem)); (case zzk5 => assumption); (case zzk3 => assumption); (case zzk6 => k_extra "m_size"); (case zzkr => (simp only [depth_in1, depth_deeper]; omega)); intro _ _ _ _ _ _ _ _ _ _ _; walk_at "t_4")))
  k_with "call ref" => ((k_here; (with_reducible show wpAny _ _ (call (Value.ref 227) _) _ _ _); k_dflt (refine' figures_ok ?zzk1 ?zzk2 ?zzkr ?zzk3 ?_; (case zzk1 => exact Frag.In.keeps (by k_asm) (Fr.keep (by k_asm))); (case zzk2 => exact Top.keeps (by k_asm) (Fr.keep (by k_asm))); (case zzk3 => assumption); (case zzkr => (simp only [depth_in1, depth_deeper]; omega)); intro _ _ _ _ _; walk_at "t_5")))
  k_with "call ref" => ((k_here; (with_reducible show wpAny _ _ (call (Value.ref 239) _) _ _ _); k_dflt (refine' within_ok ?zzk5 ?zzk6 ?zzk1 ?zzk2 ?zzkr ?zzku ?zzk3 ?_; (case zzk1 => exact Frag.In.keeps (by k_asm) (Fr.keep (by k_asm))); (case zzk2 => exact Top.keeps (by k_asm) (Fr.keep (by k_asm))); (case zzk3 => assumption); (case zzk5 => first | assumption | omega); (case zzk6 => first | assumption | omega); (case zzkr => (simp only [depth_in1, depth_deeper]; omega)); (case zzku => k_units); intro _ _; walk_at "t_6")))
  k_with "compareOp NotEq ref ref" => ((k_here; k_dflt (first | refine ne_bools (by is_list) (by is_list) (by assumption) (by assumption) (by k_units) ?_ | refine ne_strs (by is_list) (by is_list) (by assumption) (by assumption) (by assumption) (by assumption) (by k_units) ?_)))
  k_with "compareOp Eq ref ref" => ((k_here; k_dflt (first | refine eq_bools (by is_list) (by is_list) (by assumption) (by assumption) (by k_units) ?_ | refine eq_strs (by is_list) (by is_list) (by assumption) (by assumption) (by assumption) (by assumption) (by k_units) ?_)))
  k_with "subscriptTail Name Name ref int" => ((k_here; k_dflt (refine' item_list ?zzk1 ?zzk2 ?zzk3 ?zzk4 ?_ ?zzk6; (case zzk6 => with_unfolding_all rfl); (case zzk1 => is_list); (case zzk4 => assumption); (case zzk2 => first | exact z_ge _ | omega); (case zzk3 => first | ((with_reducible refine z_63 ?_); omega) | omega))))
  k_with "call ref" => ((k_here; (with_reducible show wpAny _ _ (call (Value.ref 119) _) _ _ _); k_dflt (refine' mk_nodeinfo ?zzk1 ?zzk2 ?zzk3 ?zzk4 ?zzkr ?zzkv ?_; (case zzk1 => k_asm); (case zzk2 => k_asm); (case zzk3 => k_asm); (case zzk4 => k_asm); (case zzkv => k_handed); (case zzkr => (simp only [depth_in1, depth_deeper]; omega)); intro _ _ _ _ _ _ _ _; walk_at "t_2")))
  k_with "call ref" => ((k_here; (with_reducible show wpAny _ _ (call (Value.ref 216) _) _ _ _); k_dflt (refine' mk_sorter ?zzk1 ?zzk2 ?zzk3 ?zzk4 ?zzkr ?_; (case zzk1 => k_asm); (case zzk2 => k_asm); (case zzk3 => k_asm); (case zzk4 => k_asm); (case zzkr => (simp only [depth_in1, depth_deeper]; omega)); intro _ _ _ _ _ _ _ _ _ _ _ _ _ _ _ _; walk_at "t_2")))
  k_with "getMethod ref" => ((k_here; (with_reducible show wpAny _ _ (getMethod (Value.ref _) (Str.ofString "get") _) _ _ _); k_dflt (refine kdg_method (knd := PySem.intKind _ _) (by k_asm) (by k_mem) (by assumption) ?_)))
  k_with "call builtin:dict.get" => ((k_here; k_dflt (refine kdg_get1 (knd := PySem.intKind _ _) (by k_asm) (by k_mem) (by assumption) (by assumption) (intKind_is _ _ _ _) _ (by assumption) ?_; (try dsimp only [Option.getD]))))
  k_with "subscriptTail Name Name ref int" => ((k_here; k_dflt (refine' kda_item (knd := PySem.intKind _ _) ?zzk1 ?zzk2 ?zzk3 ?zzk4 ?zzk5 ?_ ?zzk6 ?zzk7; (case zzk6 => with_unfolding_all rfl); (case zzk7 => intro _; with_unfolding_all rfl); (case zzk1 => k_asm); (case zzk2 => k_mem); (case zzk3 => assumption); (case zzk4 => exact intKind_is _ _ _ _); (case zzk5 => assumption))))
  k_with "setItem ref int" => ((k_here; k_dflt (refine' kda_set (knd := PySem.intKind _ _) ?zzF ?zzN ?zzU ?zzd (intKind_is _ _ _ _) ?zzz ?_; (case zzF => k_asm); (case zzN => k_asm); (case zzU => k_updF); (case zzd => assumption); (case zzz => rw [sizeLine_eq]; assumption)); intro _ _ _; walk_at "t_7"))
  k_with "call builtin:list.append" => ((k_here; (with_reducible show wpAny _ _ (call (Value.builtin _) [Value.ref _, _]) _ _ _); k_dflt (refine' append_K ?zzk1 ?zzk2 ?zzk3 ?_ ?zzz; (case zzk1 => k_asm); (case zzk2 => k_asm); (case zzk3 => k_upd); (case zzz => rw [sizeLine_eq]; omega); k_whole); intro _ _ _; (try k_sweep)))
  k_with "call type:bool" => ((k_here; (with_reducible show wpAny _ _ (call _ [Value.ref _]) _ _ _); k_dflt (refine call_bool_list (by is_list) (by omega) ?_)))
  k_with "call builtin:list.clear" => ((k_here; (with_reducible show wpAny _ _ (call (Value.builtin _) [Value.ref _]) _ _ _); k_dflt (refine' clear_any ?zzF ?zzN ?zzU ?zzz ?_; (case zzF => k_asm); (case zzN => k_asm); (case zzU => k_updF); (case zzz => rw [sizeLine_eq]; omega)); intro _ _ _; walk_at "t_8"))
  k_with "m_stop" => (with_reducible show WhileAt _ _ _ _ _ _ _ _ _)
  k_with "exec While" => ((k_here; k_dflt (refine While_at ?_)))
  k_with "exec While Name" => ((k_here; k_dflt (refine While_at ?_)))
  k_with "exec While Constant" => ((k_here; k_dflt (refine While_at ?_)))
  k_with "getAttr ref" => ((k_here; (with_reducible show wpAny _ _ (getAttr (Value.ref _) (Str.ofString "__next__") true) _ _ _); k_dflt (refine NX.next_N (by k_asm) (by k_asm) (by k_mem) ?_; intro _ _ _ _ _; walk_at "t_3")))
  k_with "call builtin:iter" => ((k_here; (with_reducible show wpAny _ _ (call (Value.builtin "iter") [Value.ref _]) _ _ _); k_dflt (refine NX.iter_N (by k_asm) (by k_asm) (by is_list) ?_; intro _ _ _ _; walk_at "t_3")))
  k_with "callWith ref" => ((k_here; (with_reducible show wpAny _ _ (callWith _ (Value.ref _) [] (backTo _ (starEach [] _)) []) _ _ _); k_dflt (with_unfolding_all refine NX.callWith_N (by k_asm) (by k_mem) ?_)))
  k_with "call ref" => ((k_here; (with_reducible show wpAny _ _ (call (Value.ref _) []) _ _ _); k_dflt (first | (refine' NX.item_N ?zzk1 ?zzk2 ?zzk3 ?zzk4 ?zzk5 ?zzk6 ?_; (case zzk1 => k_asm); (case zzk2 => k_asm); (case zzk4 => k_mem); (case zzk3 => k_updF); (case zzk5 => is_list); (case zzk6 => assumption); intro _ _; walk_at "t_8") | (refine' NX.end_N ?zzk0 ?zzk1 ?zzk2 ?zzk3 ?zzk4 ?zzk5 ?zzk6 ?_; (case zzk0 => assumption); (case zzk1 => k_asm); (case zzk2 => k_asm); (case zzk4 => k_mem); (case zzk3 => k_updF); (case zzk5 => is_list); (case zzk6 => assumption); intro _ _ _ _ _; walk_at "t_8"))))
  k_with "call builtin:list.pop" => ((k_here; (with_reducible show wpAny _ _ (call (Value.builtin _) [Value.ref _]) _ _ _); k_dflt (refine' NX.pop_N ?zzk1 ?zzk2 ?zzk3 ?zzk4 ?_; (case zzk1 => k_asm); (case zzk2 => k_asm); (case zzk3 => k_updF); (case zzk4 => omega); intro _ _; walk_at "t_8")))
  k_with "subscriptTail Name UnaryOp ref int" => ((k_here; k_dflt (refine' NX.last_N ?zzk1 ?zzk2 ?zzk3 ?_ ?zzk4; (case zzk1 => k_asm); (case zzk2 => k_mem); (case zzk3 => omega); (case zzk4 => with_unfolding_all rfl))))
  k_with "call builtin:len" => ((k_here; (with_reducible show wpAny _ _ (call (Value.builtin "len") [Value.ref _]) _ _ _); k_dflt (refine call_len_list (by is_list) (by omega) ?_)))
  k_with "truthy ref" => ((k_here; k_dflt (refine wpAny_truthy_list (by is_list) (by omega) ?_)))
  k_with "truthy ref" => ((k_here; k_dflt (first | (refine NX.truthy_nil (by k_asm) (by k_mem) ?_) | (refine NX.truthy_snoc (by k_asm) (by k_mem) (by omega) ?_))))
  trivial
section
variable {prog : Program} {w : World} {A : Around} {s : Shared} {K : Frag} {p : Program} {loose : List Str} {mean : ExcName → Option Value} {mg mb : Str → Option Value}
    {name qual : Str} {params : Arguments} {body : List Stmt} {scope : Scope} {dV kV doc pm cdv ct oc : Value} {an od : Option Addr} {osl : Array (Option Value)} {f : Addr} {args : List Value} {kw : List (Str × Value)} {binds : List (Str × Value)}
    {Q E : Value → Shared → Prop} {h₀ : Heap} {X : List Addr} {news : List (Addr × Obj)}
theorem call_freezeXC
    (X₀ : K.In h₀) (T : Top p loose mean mg mb h₀) (hk : LK h₀ s.heap) (hX : ∀ x ∈ X, h₀.get? x = none) (hN : ∀ q ∈ news, s.heap.get? q.1 = some q.2 ∧ q.1 ∈ X)
    (ho : K.lookup f = some ⟨oc, od, .func (fnOf name qual params body scope dV kV doc pm an cdv ct), osl⟩) (hcd : codeIn K cdv qual = true) (hroom : A.depth < recursionLimit)
    (hbind : BindsTo s (fnOf name qual params body scope dV kV doc pm an cdv ct) ⟨args, kw⟩ binds)
    (hkind : (binds.all fun y => scope.names.lookup y.1 == some .local || scope.names.lookup y.1 == some .cell) = true)
    (hnd : ((cellsFrom 0 scope.names []).map (·.1)).Nodup)
    (h : ∀ g L' h₁ tk cells, K.In g → Top p loose mean mg mb g → (∀ b o, b ∉ X → s.heap.get? b = some o → g.get? b = some o) → (∀ q ∈ news, q.1 < L') → Fr g L' h₁ (bindL (envOfC qual scope L' f cdv).kindOf binds fun _ => none) → News g L' h₁ (cells ++ news) →
      CellsAre (bindC (envOfC qual scope L' f cdv).kindOf binds fun _ => none) (cellsFrom (L' + 1) scope.names []) cells → (∀ q ∈ news, ∀ c ∈ cells, q.1 ≠ c.1) →
      wpAny (model prog w) (A.deeper (envOfC qual scope L' f cdv)) (execs body (envOfC qual scope L' f cdv)) (fun fl s' => Q (match fl with | .ret v => v | _ => .none) s') (fun _ _ => False)
        { s with heap := h₁, toks := tk })
    (hco : scope.isCoroutine = false) (hgen : scope.isGenerator = false) (hk' : scope.kind = .function) : wpAny (model prog w) A (call (.ref f) args kw) Q E s := by
  have st : LK h₀ (hideAll s.heap X) := fun b o e => hideAll_get _ (hk b o e) fun hb => by rw [hX b hb] at e; cases e
  refine wpAny_call (codeAny_call_function (fd := fnOf name qual params body scope dV kV doc pm an cdv ct) hroom (X₀.keeps hk _ _ ho) rfl hco hgen rfl (codeRec_of (X₀.keeps hk) hcd) (hbind _ _ _ _ ?_))
  refine wpAny_newFunctionEnv_cells hk' (kindsX hkind _) fun env' he s' x => ?_
  subst he
  refine ⟨(T.nolimit.keeps hk).keeps x.toInCall.keep, codeAny_func ?_⟩
  obtain ⟨h₁, tk, rfl, _⟩ := x.done
  have hk₁ := x.toInCall.keep
  obtain ⟨cells, NC, Y⟩ := Cl.news (h₀ := s.heap) (Nat.le_refl _) fun n c hm => ⟨x.cell n c (lookup_of_mem_nodup (cellsFrom_names scope.names 0 (s.heap.objs.size + 1) [] [] rfl ▸ hnd) hm), x.above n c hm⟩
  have hnn : ∀ b : Addr, s.heap.get? b = none → (hideAll s.heap X).get? b = none := fun b hb => by
    cases q : (hideAll s.heap X).get? b with
    | none => rfl
    | some o => rw [of_hideAll _ q] at hb; cases hb
  refine wpAny_mono (h (hideAll s.heap X) s.heap.objs.size h₁ tk cells (X₀.keeps st) (T.keeps st) (fun b o hb e => hideAll_get _ e hb) (fun q hq => Heap.lt_size (hN q hq).1)
    ⟨x.toInCall.ns, fun b o e => hk₁ b o (of_hideAll _ e), Nat.le_of_eq (hideAll_size _ _)⟩ (nw_app (fun q hq => ⟨(NC q hq).1, (NC q hq).2.1, hnn _ (NC q hq).2.2⟩) (fun q hq => ⟨hk₁ _ _ (hN q hq).1, Nat.ne_of_lt (Heap.lt_size (hN q hq).1), hideAll_none _ (hN q hq).2⟩)) Y
    (fun q hq c hc e => by have h1 := (NC c hc).2.2; rw [← e, (hN q hq).1] at h1; cases h1)) (fun _ _ x => x) (fun _ _ x => x.elim)
end
section
variable {prog : Program} {w : World} {A : Around} {E : Value → Shared → Prop} {s : Shared} {h₀ : Heap} {L q f : Addr} {m : Str → Option Value} {env : Env} {news : List (Addr × Obj)} {K : Frag}
theorem star_call {o : Expr} {name : Str} {apos pos : Pos} {args : List Expr} {Q : Value → Shared → Prop}
    (h : wpAny (model prog w) A (eval o env) (fun ov s₁ => wpAny (model prog w) A (getAttr ov name true) (fun f s₂ => wpAny (model prog w) A (callWith pos f [] (backTo pos (starEach args env)) []) Q E s₂) E s₁) E s)
    (he : eval (.Call (.Attribute o name apos) args [] pos) env = (do
      let ov ← eval o env
      standAt apos.atName
      let (f, first) ← holding [ov] (do pure (← getAttr ov name true, []))
      let callPos ← (pure pos : Sem Pos)
      callWith callPos f first (backTo pos (starEach args env)) [])) :
    wpAny (model prog w) A (eval (.Call (.Attribute o name apos) args [] pos) env) Q E s := by
  rw [he]
  refine wpAny_bind (wpAny_mono h (fun ov s₁ h₁ => wpAny_bind (wpAny_standAt (wpAny_bind (wpAny_holding (wpAny_bind (wpAny_mono h₁ (fun fx s₂ h₂ => wpAny_pure ?_) fun _ _ x => x)))))) fun _ _ x => x)
  exact wpAny_bind (wpAny_pure h₂)
end
section
variable {prog : Program} {w : World} {A : Around} {E : Value → Shared → Prop} {s : Shared} {h₀ : Heap} {L q f : Addr} {m : Str → Option Value} {env : Env} {news : List (Addr × Obj)} {K : Frag}
theorem Paired.get {α β : Type} {F : α → β → Prop} {l₁ : List α} {l₂ : List β} (h : Paired F l₁ l₂) : ∀ (i : Nat) (a : α), l₁[i]? = some a → ∃ b, l₂[i]? = some b ∧ F a b := by
  induction h with
  | nil => intro i a h; simp at h
  | cons h1 _ ih =>
    intro i a h
    cases i with
    | zero => exact ⟨_, rfl, by simp at h; subst h; exact h1⟩
    | succ i => simpa using ih i a (by simpa using h)
theorem frs_back2 {g h h' : Heap} {L' : Addr} {m : Str → Option Value} {led led' rest frs frs2 : List (Addr × Obj)} {oL : Obj} (F : Fr g L' h m) (N : News g L' h (led ++ (rest ++ frs))) (hL : h.get? L' = some oL) (hdis : ∀ p ∈ rest, p.1 ∉ (led ++ (L', oL) :: frs).map (·.1)) (SU : TI.SameUp ((L', oL) :: frs) frs2)
    (hk : ∀ b o, b ∉ (led ++ (L', oL) :: frs).map (·.1) → h.get? b = some o → h'.get? b = some o) (hn : ∀ p ∈ led', h'.get? p.1 = some p.2 ∧ (p.1 ∈ led.map (·.1) ∨ h.get? p.1 = none)) (hf : ∀ p ∈ frs2, h'.get? p.1 = some p.2) : Fr g L' h' m ∧ ∃ frs', TI.SameUp frs frs' ∧ News g L' h' (led' ++ (rest ++ frs')) := by
  cases frs2 with
  | nil => exact False.elim SU
  | cons q qs =>
    obtain ⟨q1, ⟨sl, q2⟩, q3⟩ := SU
    have hL' : h'.get? L' = some { oL with slots := sl } := by
      have := hf q (.head _)
      rw [q1, q2] at this; exact this
    refine ⟨⟨?_, fun b o e => hk b o ?_ (F.keep b o e), F.above⟩, qs, q3, fun p hp => ?_⟩
    · obtain ⟨o, es, ep, ho, r⟩ := F.ns
      rw [hL] at ho
      cases ho
      exact ⟨_, es, ep, hL', r⟩
    · intro hm
      obtain ⟨p, hp, rfl⟩ := List.mem_map.mp hm
      rcases List.mem_append.mp hp with hp | hp
      · rw [(N p (List.mem_append_left _ hp)).2.2] at e; cases e
      rcases List.mem_cons.mp hp with rfl | hp
      · rw [Heap.get?_none_of_le F.above] at e; cases e
      · rw [(N p (List.mem_append_right _ (List.mem_append_right _ hp))).2.2] at e; cases e
    · rcases List.mem_append.mp hp with hp | hp
      · refine ⟨(hn p hp).1, ?_⟩
        rcases (hn p hp).2 with e | e
        · obtain ⟨x, hx, e⟩ := List.mem_map.mp e
          exact e ▸ (N x (List.mem_append_left _ hx)).2
        · exact fresh_ne F e
      rcases List.mem_append.mp hp with hp | hp
      · have h1 := N p (List.mem_append_right _ (List.mem_append_left _ hp))
        exact ⟨hk _ _ (hdis p hp) h1.1, h1.2⟩
      · obtain ⟨x, hx, e⟩ := TI.SameUp.fwd q3 p hp
        rw [e]
        exact ⟨e ▸ hf p (.tail _ hp), (N x (List.mem_append_right _ (List.mem_append_right _ hx))).2⟩
noncomputable def StarK (prog : Program) (w : World) (A : Around) (E : Value → Shared → Prop) (K : Frag) (q f : Addr) (self : Value) (Q : Value → Shared → Prop) (vs : List Value) (s : Shared) : Prop := MethP K q f self s.heap ∧ wpAny (model prog w) A (call (.ref q) vs) Q E s
theorem star_with2 {self : Value} {pos : Pos} {e e2 : Expr} {p2 : Pos} {Q : Value → Shared → Prop} (_N : News h₀ L s.heap news) (_hq : (q, methodObj (.ref f) self) ∈ news) (_X : K.In h₀) (hf : fnIn K f = true)
    (h : wpAny (model prog w) A (spliced (backTo pos (starEach [e, .Starred e2 p2] env))) (StarK prog w A E K q f self Q) E s)
    (he : starEach [e, .Starred e2 p2] env = [(false, eval e env), (true, eval e2 env)] := by rfl) : wpAny (model prog w) A (callWith pos (.ref q) [] (backTo pos (starEach [e, .Starred e2 p2] env)) []) Q E s := by
  rw [he] at h ⊢
  exact ks_call rfl (keeps_M (self := self) hf) (evalArgs_plain h)
theorem star_with1 {self : Value} {pos : Pos} {e2 : Expr} {p2 : Pos} {Q : Value → Shared → Prop} (_N : News h₀ L s.heap news) (_hq : (q, methodObj (.ref f) self) ∈ news) (_X : K.In h₀) (hf : fnIn K f = true)
    (h : wpAny (model prog w) A (eval e2 env) (fun v s₁ => StarOf (model prog w) A E v (StarK prog w A E K q f self Q) s₁) E s)
    (he : starEach [.Starred e2 p2] env = [(true, eval e2 env)] := by rfl) : wpAny (model prog w) A (callWith pos (.ref q) [] (backTo pos (starEach [.Starred e2 p2] env)) []) Q E s := by
  rw [he]
  exact ks_call rfl (keeps_M (self := self) hf) (ks_lone h)
theorem star_any {a : Addr} {o : Obj} {T : String} {its : Array Value} {n : Nat} {Q : List Value → Shared → Prop} (F : Fr h₀ L s.heap m) (N : News h₀ L s.heap news) (D : s.heap.get? a = some o) (hc : o.cls = .type T) (hd : o.data = .seq its n) (hT : T = "list" ∨ T = "tuple")
    (hz : its.size ≤ 1000) (h : ∀ h', Fr h₀ L h' m → News h₀ L h' news → Q its.toList { s with heap := h' }) : StarOf (model prog w) A E (.ref a) Q s := by
  have hT' : s.TypeIs (.ref a) T := ⟨o, D, hc⟩
  have z : wpAny (model prog w) A (collect (.ref a)) Q E s := by
    refine wpAny_collect_seq a hT D hc hd (fun h' hk => h h' ?_ fun p hp => ⟨hk _ _ (N p hp).1, (N p hp).2⟩) (by rw [sizeLine_eq]; omega)
    obtain ⟨oL, es, ep, hL, r⟩ := F.ns
    exact ⟨⟨oL, es, ep, hk _ _ hL, r⟩, fun b x q => hk _ _ (F.keep b x q), F.above⟩
  unfold StarOf notIterableAtAll
  rcases hT with rfl | rfl
  · exact wpAny_bind (wpAny_specialOf hT' PySem.F.slot_list_iter.lookup (wpAny_pure ⟨rfl, z⟩))
  · exact wpAny_bind (wpAny_specialOf hT' PySem.F.slot_tuple_iter.lookup (wpAny_pure ⟨rfl, z⟩))
theorem star_list {a : Addr} {vs : List Value} {Q : List Value → Shared → Prop} (F : Fr h₀ L s.heap m) (N : News h₀ L s.heap news) (hl : s.heap.IsList a vs.toArray) (hz : vs.length ≤ 1000) (h : ∀ h', Fr h₀ L h' m → News h₀ L h' news → Q vs { s with heap := h' }) : StarOf (model prog w) A E (.ref a) Q s := by
  obtain ⟨o, e, hc, n, hd⟩ := hl
  exact star_any F N e hc hd (.inl rfl) (by simpa using hz) fun h' F' N' => by simpa using h h' F' N'
theorem star_tup {a : Addr} {vs : List Value} {Q : List Value → Shared → Prop} (F : Fr h₀ L s.heap m) (N : News h₀ L s.heap news) (hl : s.heap.IsTuple a vs.toArray) (hz : vs.length ≤ 1000) (h : ∀ h', Fr h₀ L h' m → News h₀ L h' news → Q vs { s with heap := h' }) : StarOf (model prog w) A E (.ref a) Q s := by
  obtain ⟨o, e, hc, n, hd⟩ := hl
  exact star_any F N e hc hd (.inr rfl) (by simpa using hz) fun h' F' N' => by simpa using h h' F' N'
end
theorem ru32x0 : True := by
  k_with "binaryOp Add ref ref" => ((k_here; (with_reducible show wpAny _ _ (binaryOp _ (Value.ref _) (Value.ref _)) _ _ _); k_dflt (refine' kmk_add_ints ?zzF ?zzN ?zza ?zzb ?zzi ?zzj ?_ ?zzz; (case zzF => k_asm); (case zzN => k_asm); (case zza => is_list); (case zzb => is_list); (case zzi => assumption); (case zzj => first | assumption | exact .cons _ _ .nil); (case zzz => (simp only [List.length_cons, List.length_nil]; rw [sizeLine_eq]; omega))); intro _ _ _ _ _; walk_at "t_2"))
  k_with "call builtin:max" => ((k_here; (with_reducible show wpAny _ _ (call (Value.builtin _) [Value.ref _]) _ _ _); k_dflt (refine' kso_max ?zzF ?zzN ?zza ?zzi ?zzn ?zzh ?_; (case zzF => k_asm); (case zzN => k_asm); (case zza => is_list); (case zzi => assumption); (case zzn => (simp only [List.length_append, List.length_cons, List.length_nil]; omega)); (case zzh => assumption)); intro _ _ _ _ _ _ _ _))
  trivial

theorem ru32x2 : True := by
  k_with "eval Call Attribute" => ((k_here; k_dflt (refine star_call ?_ (by with_unfolding_all rfl))))
  k_with "callWith ref" => ((k_here; k_dflt (first | ((with_reducible show wpAny _ _ (callWith _ (Value.ref _) [] (backTo _ (starEach [_, Expr.Starred _ _] _)) []) _ _ _); refine star_with2 (by k_asm) (by k_mem) (by k_asm) (by k_is) ?_) | ((with_reducible show wpAny _ _ (callWith _ (Value.ref _) [] (backTo _ (starEach [Expr.Starred _ _] _)) []) _ _ _); refine star_with1 (by k_asm) (by k_mem) (by k_asm) (by k_is) ?_))))
  k_with "StarOf ref" => ((k_here; k_dflt (first | (refine star_list (by k_asm) (by k_asm) (by is_list) (by omega) ?_) | (refine star_tup (by k_asm) (by k_asm) (by first | exact News.isTup (by k_asm) (by k_mem) | assumption) (by omega) ?_)); intro _ _ _))
  k_with "m_stop" => (with_reducible show wpAny _ _ (call (Value.ref 171) _) _ _ _)
  k_with "m_stop" => (with_reducible show wpAny _ _ (call (Value.ref 178) _) _ _ _)
  k_with "m_stop" => (with_reducible show wpAny _ _ (call (Value.ref 185) _) _ _ _)
  k_with "m_stop" => (with_reducible show StarK _ _ _ _ _ _ _ _ _ _ _)
  trivial

section
variable {w : World} {A : Around} {s : Shared} {mean : ExcName → Option Value} {mg mb : Str → Option Value} {Q E : Value → Shared → Prop} {h₀ : Heap} {L : Addr} {m : Str → Option Value} {rest : List (Addr × Obj)} {σ : Srt} {rl x : Addr} {us vs : List Value} {n : Nat} {rs ls ks : List Int} {P : Int → Int} {S : Int → List Int}
theorem ready_in (hx : σ.x = x) (KX : (hd.heap_39 w.params).In h₀) (T : Top hd.view_39 LS mean mg mb h₀) (F : Fr h₀ L s.heap m) (N : News h₀ L s.heap (rdyL w.params σ rl vs n ++ rest)) (hr : ∀ p ∈ rest, p.1 ∉ rdyX w.params σ rl) (hroom : A.depth + 20 < recursionLimit) (hu : A.units + 200 < cLine) (hh : A.handled = none)
    (Wf : WF w σ) (a : Abs σ ks P S) (hrl : rl ∉ srtX w.params σ) (hrv : σ.rv = .ref rl) (hvs : IntsAre vs rs) (hvl : vs.length ≤ 100) (hks : ∀ r ∈ rs, r ∈ ks)
    (hQ : ∀ σ' D n' h' tk, WF w σ' → Abs σ' ks (fun j => if j ∈ rs then -1 else P j) S → (σ'.x = σ.x ∧ σ'.rv = σ.rv ∧ σ'.p = σ.p + rs.length ∧ σ'.f = σ.f) → rl ∉ srtX w.params σ' → Fr h₀ L h' m →
      News h₀ L h' ((D, ({ cls := .type "tuple", data := .seq vs.toArray } : Obj)) :: (rdyL w.params σ' rl [] n' ++ rest)) → (∀ p ∈ rest, p.1 ∉ rdyX w.params σ' rl ∧ @Ne Nat p.1 D) → D ∉ rdyX w.params σ' rl → Q (.ref D) { s with heap := h', toks := tk }) :
    wpAny (model PR w) A (call (.ref 178) [.ref x] []) Q E s := by
  subst hx
  refine ready_ok KX T F.keep hroom hu hh Wf a hrl hrv (fun p hp => ⟨(N p (List.mem_append_left _ hp)).1, (N p (List.mem_append_left _ hp)).2.2⟩) hvs hvl hks ?_
  intro σ' D n' h' tk W' a' hf hX r1 r2 hT hD hD0
  obtain ⟨F', N', hr'⟩ := call_back (led' := (D, ({ cls := .type "tuple", data := .seq vs.toArray } : Obj)) :: rdyL w.params σ' rl [] n') F N hr r1 (fun p hp => by
    rcases List.mem_cons.mp hp with rfl | hp
    · exact ⟨hT, .inr hD0⟩
    · exact r2 p hp)
  exact hQ σ' D n' h' tk W' a' hf (by rw [hX]; exact hrl) F' N' (fun p hp => ⟨fun h => hr' p hp (.tail _ h), fun h => hr' p hp (h ▸ .head _)⟩) hD
theorem done_in (hx : σ.x = x) (KX : (hd.heap_39 w.params).In h₀) (T : Top hd.view_39 LS mean mg mb h₀) (F : Fr h₀ L s.heap m) (N : News h₀ L s.heap (rdyL w.params σ rl us n ++ rest)) (hr : ∀ p ∈ rest, p.1 ∉ rdyX w.params σ rl) (hroom : A.depth + 20 < recursionLimit) (hu : A.units + 200 < cLine) (hh : A.handled = none)
    (Wf : WF w σ) (a : Abs σ ks P S) (hrl : rl ∉ srtX w.params σ) (hrv : σ.rv = .ref rl) (hus : IntsAre us ls) (hul : us.length ≤ 100) (hvs : IntsAre vs rs) (hvl : vs.length ≤ 7) (hks : ∀ r ∈ rs, r ∈ ks ∧ P r = -1) (hnd : rs.Nodup)
    (hS : ∀ r ∈ rs, (S r).length ≤ 50 ∧ ∀ x ∈ S r, x ∈ ks ∧ x ∉ rs)
    (hQ : ∀ σ' us' n' h' tk, WF w σ' → Abs σ' ks (rs.foldl (doneD S) (P, ls)).1 S → IntsAre us' (rs.foldl (doneD S) (P, ls)).2 → (σ'.x = σ.x ∧ σ'.rv = σ.rv ∧ σ'.p = σ.p ∧ σ'.f = σ.f + rs.length) → rl ∉ srtX w.params σ' → Fr h₀ L h' m →
      News h₀ L h' (rdyL w.params σ' rl us' n' ++ rest) → (∀ p ∈ rest, p.1 ∉ rdyX w.params σ' rl) → Q .none { s with heap := h', toks := tk }) :
    codeAny (model PR w) A (.call (.ref 199) ⟨.ref x :: vs, []⟩) (fun r s' => match r with | .ok (.ret v) => Q v s' | .ok _ => False | .error e => E e s') s := by
  subst hx
  refine done_ok KX T F.keep hroom hu hh Wf a hrl hrv (fun p hp => ⟨(N p (List.mem_append_left _ hp)).1, (N p (List.mem_append_left _ hp)).2.2⟩) hus hul hvs hvl hks hnd hS ?_
  intro σ' us' n' h' tk W' a' hus' hf hX r1 r2
  obtain ⟨F', N', hr'⟩ := call_back (led' := rdyL w.params σ' rl us' n') F N hr r1 r2
  exact hQ σ' us' n' h' tk W' a' hus' hf (by rw [hX]; exact hrl) F' N' hr'
end
section
variable {prog : Program} {w : World} {A : Around} {E : Value → Shared → Prop} {s : Shared} {h₀ : Heap} {L : Addr} {m : Str → Option Value} {news : List (Addr × Obj)}
theorem sorted_tup {l : Addr} {vs : List Value} {ns : List Int} {Q : Value → Shared → Prop} (F : Fr h₀ L s.heap m) (N : News h₀ L s.heap news) (hl : s.heap.IsTuple l vs.toArray) (hI : IntsAre vs ns) (h64 : vs.length < 64)
    (h : ∀ D h' vs' ns' e, Fr h₀ L h' m → News h₀ L h' ((D, W.listOf (List.toArray vs') e) :: news) → (∀ p ∈ news, p.1 < D) → IntsAre vs' ns' → ns'.Perm ns → ns'.Pairwise (· ≤ ·) → Q (.ref D) { s with heap := h' }) :
    wpAny (model prog w) A (call (.builtin "sorted") [.ref l]) Q E s := by
  obtain ⟨o, eo, hc, nn, hd⟩ := hl
  refine call_function_entry kind_sorted plain_sorted entry_sorted (args_sorted1 _) ?_
  unfold Builtin.«sorted»
  refine wpAny_bind (m := checkCount "sorted" 1 1 _) (wpAny_pure ?_)
  refine wpAny_bind (wpAny_collect_seq l (.inr rfl) eo hc hd (fun h1 hk => ?_) (by rw [List.size_toArray, sizeLine_eq]; omega))
  rw [List.toList_toArray]
  refine wpAny_bind (wpAny_newList ?_ (by rw [sizeLine_eq]; omega))
  have hoL : (h1.push (seqObj "list" vs.toArray 0)).get? h1.objs.size = some (seqObj "list" vs.toArray 0) := Heap.get?_push_size _ rfl
  refine wpAny_bind (wpAny_holding (wpAny_call_entry slot_list_sort ⟨_, hoL, rfl⟩ entry_list_sort (list_sort_tree hoL hI h64 fun out ns' a1 a2 a3 => ⟨_, rfl, ?_⟩) (args_list_sort _)))
  obtain ⟨e, he⟩ := sortedHeap_at (vs := vs) (out := out) hoL
  have old : ∀ b o, h1.get? b = some o → (sortedHeap (h1.push (seqObj "list" vs.toArray 0)) h1.objs.size vs out).get? b = some o := fun b o hb => by
    have hlt := Heap.lt_size hb
    rw [sortedHeap_old (Nat.ne_of_lt hlt) (by rw [size_push']; exact Nat.lt_succ_of_lt hlt)]
    exact Heap.get?_push_of_some _ hb
  have N1 : News h₀ L h1 news := fun p hp => ⟨hk _ _ (N p hp).1, (N p hp).2⟩
  exact wpAny_pure ⟨_, rfl, h _ _ out.toList ns' e ((F.kept hk).kept old) (N1.kept_cons (F.kept hk) old (Nat.le_refl _) he) (fun p hp => Heap.lt_size (N1 p hp).1) a1 a2 a3⟩
end
theorem ru32x9 : True := by
  k_with "call builtin:sorted" => ((k_here; (with_reducible show wpAny _ _ (call (Value.builtin _) [Value.ref _]) _ _ _); k_dflt (refine' sorted_tup ?zzF ?zzN ?zza ?zzi ?zzz ?_; (case zzF => k_asm); (case zzN => k_asm); (case zza => exact News.isTup (by k_asm) (by k_mem)); (case zzi => assumption); (case zzz => omega)); intro _ _ _ _ _ _ _; walk_at "t_9"))
  trivial

noncomputable def sel (dp : List Int) (d : Int) (m : Nat) : List Int := ((List.range m).map fun (k : Nat) => (0 : Int) + (k : Int)).filter fun j => decide (dpi dp j = d)
theorem sel_t {dp : List Int} {d : Int} {j : Nat} (h : dpi dp (0 + (j : Int)) = d) : sel dp d (j + 1) = sel dp d j ++ [0 + (j : Int)] := by
  simp [sel, List.range_succ, List.filter_append, h]; simpa using h
theorem sel_f {dp : List Int} {d : Int} {j : Nat} (h : ¬ dpi dp (0 + (j : Int)) = d) : sel dp d (j + 1) = sel dp d j := by
  simp [sel, List.range_succ, List.filter_append]; simpa using h
theorem sel_mem {dp : List Int} {d : Int} {n : Nat} {x : Int} : x ∈ sel dp d n ↔ (0 ≤ x ∧ x < n) ∧ dpi dp x = d := by
  unfold sel
  rw [List.mem_filter, List.mem_map, decide_eq_true_iff]
  refine and_congr_left fun _ => ?_
  constructor
  · rintro ⟨k, hk, rfl⟩
    have := List.mem_range.mp hk
    omega
  · rintro ⟨h0, h1⟩
    exact ⟨x.toNat, List.mem_range.mpr (by omega), by omega⟩
theorem sel_up (dp : List Int) (d : Int) : ∀ n, (sel dp d n).Pairwise (· < ·)
  | 0 => .nil
  | n + 1 => by
    have ih := sel_up dp d n
    by_cases h : dpi dp (0 + (n : Int)) = d
    · rw [sel_t h, List.pairwise_append]
      refine ⟨ih, List.pairwise_singleton _ _, fun a ha b hb => ?_⟩
      have h1 := (sel_mem.mp ha).1
      rw [List.mem_singleton.mp hb]; omega
    · rw [sel_f h]; exact ih
theorem sorted_eq : ∀ {l r : List Int}, l.Perm r → l.Pairwise (· ≤ ·) → r.Pairwise (· ≤ ·) → l = r
  | [], r, h, _, _ => (List.Perm.nil_eq h)
  | a :: l, [], h, _, _ => absurd h.length_eq (by simp)
  | a :: l, b :: r, h, hl, hr => by
    have h1 : a ∈ b :: r := h.mem_iff.mp (.head _)
    have h2 : b ∈ a :: l := h.mem_iff.mpr (.head _)
    have e : a = b := by
      rcases List.mem_cons.mp h1 with e | h1
      · exact e
      · rcases List.mem_cons.mp h2 with e | h2
        · exact e.symm
        · exact Int.le_antisymm ((List.pairwise_cons.mp hl).1 b h2) ((List.pairwise_cons.mp hr).1 a h1)
    subst e
    rw [sorted_eq (List.Perm.cons_inv h) (List.pairwise_cons.mp hl).2 (List.pairwise_cons.mp hr).2]
theorem sel_eq {dp : List Int} {d : Int} {n : Nat} {rs ns : List Int} (hnd : rs.Nodup) (hrs : ∀ x, x ∈ rs ↔ (0 ≤ x ∧ x < n) ∧ dpi dp x = d) (hp : ns.Perm rs) (hs : ns.Pairwise (· ≤ ·)) : sel dp d n = ns := by
  have h1 : (sel dp d n).Nodup := (sel_up dp d n).imp fun h e => by omega
  have h2 : (sel dp d n).Perm rs := (List.perm_ext_iff_of_nodup h1 hnd).mpr fun x => by rw [sel_mem, hrs]
  exact sorted_eq (h2.trans hp.symm) ((sel_up dp d n).imp fun h => by omega) hs
theorem nodup_len {rs : List Int} {n : Nat} (h : rs.Nodup) (hm : ∀ x ∈ rs, 0 ≤ x ∧ x < n) : rs.length ≤ n := by
  have h1 := count_sum h ((List.range n).map fun (k : Nat) => (k : Int))
  have h2 := List.length_filter_le (fun q => decide (q ∈ rs)) ((List.range n).map fun (k : Nat) => (k : Int))
  rw [List.length_map, List.length_range, ← h1] at h2
  refine Nat.le_trans ?_ h2
  have key : ∀ (l : List Int), (∀ x ∈ l, 0 ≤ x ∧ x < n) → l.length ≤ (l.map fun r => ((List.range n).map fun (k : Nat) => (k : Int)).count r).sum := by
    intro l
    induction l with
    | nil => intro _; exact Nat.zero_le _
    | cons y l ih =>
      intro hl
      have h3 := ih fun x hx => hl x (.tail _ hx)
      have h4 := hl y (.head _)
      have h5 : 0 < ((List.range n).map fun (k : Nat) => (k : Int)).count y := List.count_pos_iff.mpr (List.mem_map.mpr ⟨y.toNat, List.mem_range.mpr (by omega), by omega⟩)
      rw [List.map_cons, List.sum_cons, List.length_cons]; omega
  exact key rs hm
section
variable {w : World} {A : Around} {s : Shared} {mean : ExcName → Option Value} {mg mb : Str → Option Value} {Q E : Value → Shared → Prop} {h₀ : Heap}
set_option maxHeartbeats 4000000 in
theorem rounds_ok {ev : List Env} {L0 : Addr} {oL0 : Obj} {la ld : Addr} {rows : List RowD} {na : Nat} {ah : List (List Int)} {dvs : List Value} {dp : List Int} {n : Nat} {t : Tok} (KX : (hd.heap_39 w.params).In h₀) (T : Top hd.view_39 LS mean mg mb h₀) (hk : LK h₀ s.heap) (hroom : A.depth + 80 < recursionLimit) (hu : A.units + 800 < cLine) (hh : A.handled = none)
    (hA : A.frames = some ev) (Fs : TI.Frs ev [(L0, oL0)]) (ho : s.heap.get? L0 = some oL0 ∧ h₀.get? L0 = none)
    (hla : s.heap.get? la = some (W.listOf (rowVs rows).toArray na)) (hlaf : la ≠ L0) (hrow : ∀ p ∈ rowsL rows, s.heap.get? p.1 = some p.2 ∧ p.1 ≠ L0) (hrows : Paired (fun (r : RowD) ns => IntsAre r.vs ns) rows ah)
    (hld : s.heap.IsList ld dvs.toArray) (hldf : ld ≠ L0) (hdp : IntsAre dvs dp) (H : RdH ah dp n) (hn1 : 1 ≤ n)
    (hQ : ∀ sl h' tk, (∀ b o, b ≠ L0 → s.heap.get? b = some o → h'.get? b = some o) → h'.get? L0 = some { oL0 with slots := sl } → Q (.bool true) { s with heap := h', toks := tk }) :
    wpAny (model PR w) A (call (.ref 254) [.int n t, .ref la, .ref ld] []) Q E s := by
  refine call_freezeXC (X := [L0]) (news := [(L0, oL0)]) (binds := [(Str.ofString "count", .int n t), (Str.ofString "ahead", .ref la), (Str.ofString "depths", .ref ld)]) KX T hk ?_ ?_ (by k_is) (by k_is) (by omega) (BindsTo.of_eq rfl) rfl (by decide +kernel) ?_ rfl rfl rfl
  · intro y hy
    rw [List.mem_singleton.mp hy]; exact ho.2
  · intro q hq
    rw [List.mem_singleton.mp hq]; exact ⟨ho.1, .head _⟩
  intro g L' h₁ tk cells KX' T' hg hlt F N Y hc
  k_cells Y
  simp only [List.cons_append, List.nil_append] at N
  have hla' : g.IsList la (rowVs rows).toArray := ⟨_, hg la _ (fun h => hlaf (List.mem_singleton.mp h)) hla, rfl, _, rfl⟩
  have hld' : g.IsList ld dvs.toArray := by
    obtain ⟨o, e, r⟩ := hld
    exact ⟨o, hg ld _ (fun h => hldf (List.mem_singleton.mp h)) e, r⟩
  walk_at "m_go"
  walk_at "m_stop"
  rename_i oC2 oC1 dC2 dC1 x0 dx0 nd0 ond0 t1 t2 t3 t4 tp tf _ _ lo0 hi0 l2 l1 _ F8 N8 _ _ _ _ _ hr9 F9 N9 _
  clear F8 N8
  have hrl : rows.length = ah.length := Paired.length hrows
  obtain ⟨σ₀, hσ₀⟩ : ∃ σ : Srt, σ = { x := x0, dx := dx0, nd := nd0, ond := ond0, rv := .none, p := 0, f := 0, t1 := t1, t2 := t2, t3 := t3, t4 := t4, pt := tp, ft := tf, ns := [] } := ⟨_, rfl⟩
  have N7 : News g L' _ (srtL w.params σ₀ ++ [(L' + 1 + 1, oC2), (L' + 1, oC1), (L0, oL0)]) := nw_sub N9 (by
    intro p hp
    subst hσ₀
    simp only [srtL, ndsL, List.flatMap_nil, List.cons_append, List.nil_append, List.mem_cons, List.not_mem_nil, or_false] at hp ⊢
    rcases hp with h | h | h | h | h | h <;> simp only [h, true_or, or_true])
  have Wf0 : WF w σ₀ := by
    subst hσ₀
    refine ⟨lo0, hi0, (fun _ h => nomatch h), ?_, .nil⟩
    have z1 : x0 ≠ dx0 := Nat.ne_of_gt l2.1
    have z2 : x0 ≠ nd0 := Nat.ne_of_lt l2.2
    have z3 : dx0 ≠ nd0 := Nat.ne_of_lt (Nat.lt_trans l2.1 l2.2)
    simp [srtX, srtL, ndsL, z1, z2, z3]
  have a0 : Abs σ₀ [] (stA ah 0).1 (stA ah 0).2 := by
    subst hσ₀
    exact ⟨rfl, (fun _ h => nomatch h), fun _ _ => ⟨rfl, rfl⟩⟩
  have hdis : ∀ p ∈ [(L' + 1 + 1, oC2), (L' + 1, oC1), (L0, oL0)], p.1 ∉ srtX w.params σ₀ := by
    intro p hp hm
    have h1 : @LT.lt Nat _ p.1 dx0 := by
      simp only [List.mem_cons, List.not_mem_nil, or_false] at hp
      rcases hp with rfl | rfl | rfl
      · exact l1.1
      · exact l1.2.1
      · exact l1.2.2
    subst hσ₀
    simp only [srtX, srtL, ndsL, List.flatMap_nil, List.map_cons, List.map_nil, List.mem_cons, List.not_mem_nil, or_false] at hm
    rcases hm with e | e | e
    · rw [e] at h1; exact Nat.lt_asymm h1 l2.1
    · rw [e] at h1; exact Nat.lt_irrefl _ h1
    · rw [e] at h1; exact Nat.lt_asymm h1 (Nat.lt_trans l2.1 l2.2)
  clear hi0 lo0
  refine ForAt.range hh F9 N7 hr9 ?_ (rangeSize_nat _ _) (fun m₀ nw₀ i m nw => Up1 (Str.ofString "k") m₀ m ∧ ∃ σ ks, WF w σ ∧ Abs σ ks (stA ah i).1 (stA ah i).2 ∧ (∀ j, j ∈ ks → 0 ≤ j ∧ j < n) ∧ (∀ j : Int, 0 ≤ j → j < i → j ∈ ks) ∧ (σ.x = x0 ∧ σ.rv = .none ∧ σ.p = 0 ∧ σ.f = 0) ∧ σ.ns.length ≤ 8 * i ∧
    (∀ p ∈ [(L' + 1 + 1, oC2), (L' + 1, oC1), (L0, oL0)], p.1 ∉ srtX w.params σ) ∧ nw = srtL w.params σ ++ [(L' + 1 + 1, oC2), (L' + 1, oC1), (L0, oL0)]) ⟨Up1.refl _ _, σ₀, [], Wf0, a0, (fun _ h => nomatch h), by intro j h1 h2; omega, ?_, ?_, hdis, rfl⟩ ?_ ?_
  · have := H.hn
    first | exact small_nat (by omega) | exact small_one (by omega) (by omega) (by omega) (by omega)
  · subst hσ₀; exact ⟨rfl, rfl, rfl, rfl⟩
  · subst hσ₀; exact Nat.zero_le _
  · intro I i tk₀ m₁ nw h tk oI E' hi hJ09 off F N
    try k_fold
    obtain ⟨⟨u1, rfl⟩, σ, ks, Wf, a, hks1, hks2, ⟨f1, f2, f3, f4⟩, hlen, hdis', rfl⟩ := hJ09
    simp only [srtL, List.cons_append, f1, f2] at N
    clear N7 F9
    have hi' : i < rows.length := by rw [hrl, H.la]; first | exact z_lt (by assumption) | omega
    obtain ⟨r, hr⟩ : ∃ r, rows[i]? = some r := ⟨rows[i], by simp [hi']⟩
    obtain ⟨ns, hns, hri⟩ := Paired.get hrows i r hr
    have hrv : (rowVs rows).toArray[((0 : Int) + (i : Int)).toNat]? = some (.ref r.a) := by
      rw [z_tn i]
      simp [rowVs, hr]
    have hrg : g.IsList r.a r.vs.toArray := by
      have h1 := hrow _ (List.mem_map.mpr ⟨r, List.mem_of_getElem? hr, rfl⟩)
      exact ⟨_, hg _ _ (fun h => h1.2 (List.mem_singleton.mp h)) h1.1, rfl, _, rfl⟩
    have hns7 : r.vs.length ≤ 7 := by
      rw [IntsAre.length hri]
      have := H.l7 i
      unfold ahk at this
      rwa [z_nn i, List.getD_eq_getElem?_getD, hns] at this
    have hi7 : i < 7 := Nat.lt_of_lt_of_le (by omega) H.hn
    have hahk : ahk ah i = ns := by
      unfold ahk
      rw [z_nn i, List.getD_eq_getElem?_getD, hns]; rfl
    have hin : (i : Int) < n := by omega
    walk_at "m_go"
    rename Fr _ _ _ _ => F8
    rename News _ _ _ _ => N8
    refine ⟨⟨(N8 _ (.head _)).1, KX'.keeps F8.keep⟩, ?_⟩
    simp only [List.append_nil, List.cons_append, List.nil_append, Int.zero_add] at F8 ⊢
    refine call_meth N8 (.head _) ?_
    rw [show Value.ref x0 = Value.ref σ.x by rw [f1]]
    have N7 : News g L' _ (srtL w.params σ ++ [(I, oI), (L' + 1 + 1, oC2), (L' + 1, oC1), (L0, oL0)]) := nw_sub N8 (by
      intro p hp
      simp only [srtL, List.cons_append, f1, f2] at hp
      rcases List.mem_cons.mp hp with rfl | hp
      · exact .tail _ (.tail _ (.head _))
      rcases List.mem_cons.mp hp with rfl | hp
      · exact .tail _ (.tail _ (.tail _ (.head _)))
      rcases List.mem_cons.mp hp with rfl | hp
      · exact .tail _ (.tail _ (.tail _ (.tail _ (.head _))))
      rcases List.mem_append.mp hp with hp | hp
      · exact .tail _ (.tail _ (.tail _ (.tail _ (.tail _ (List.mem_append_left _ hp)))))
      rcases List.mem_cons.mp hp with rfl | hp
      · exact .tail _ (.head _)
      · exact .tail _ (.tail _ (.tail _ (.tail _ (.tail _ (List.mem_append_right _ hp))))))
    refine add_ok (σ := σ) KX' T' F8.keep ?_ ?_ hh Wf a f2 (fun p hp => ⟨(N7 p (List.mem_append_left _ hp)).1, (N7 p (List.mem_append_left _ hp)).2.2⟩) (by omega) hri hns7 (fun j => Nat.le_trans (stA_len H.l7 j i) (by omega)) ?_
    · simp only [depth_in1, depth_deeper]; omega
    · k_units
    intro σ' ks' h5 tk5 W' a' hks' e1 e2 e3 e4 hl5 r1 r2
    obtain ⟨F5, N5, hd5⟩ := call_back F8 N7 (by
      intro p hp hm
      rcases List.mem_cons.mp hp with rfl | hp
      · obtain ⟨q, hq, e⟩ := List.mem_map.mp hm
        exact off q (List.mem_append_left _ hq) e
      · exact hdis' p hp hm) r1 r2
    try dsimp only
    clear N8 N7 F8 r1 r2
    walk_at "m_go"
    dsimp only [ForPost]
    rename Fr _ _ _ _ => F8
    rename News _ _ _ _ => N8
    have hnl : ns.length ≤ 7 := by rw [← IntsAre.length hri]; exact hns7
    refine TurnEnd.intro (nw' := srtL w.params σ' ++ [(L' + 1 + 1, oC2), (L' + 1, oC1), (L0, oL0)]) F8 (nw_sub N8 ?_) ?_ ⟨by walk_at "m_up", σ', ks', W', ?_, ?_, ?_, ⟨e1.trans f1, e2, e3.trans f3, e4.trans f4⟩, by omega, fun p hp => hd5 p (.tail _ hp), rfl⟩
    · intro p hp
      rcases List.mem_cons.mp hp with rfl | hp
      · exact List.mem_append_right _ (.head _)
      · exact (List.mem_append.mp hp).elim (fun h => List.mem_append_left _ h) fun h => List.mem_append_right _ (.tail _ h)
    · intro p hp
      rcases List.mem_append.mp hp with hp | hp
      · exact fun e => hd5 _ (.head _) (e ▸ List.mem_map_of_mem (f := (·.1)) hp)
      · exact off p (List.mem_append_right _ hp)
    · have e5 : stA ah (i + 1) = ((fun j => if j = (i : Int) then (stA ah i).1 i + (ns.length : Nat) else (stA ah i).1 j), fun j => (stA ah i).2 j ++ (ns.filter (· = j)).map fun _ => (i : Int)) := by rw [stA, hahk]
      rw [e5]
      exact a'
    · intro j hj
      rcases (hks' j).mp hj with h | rfl | h
      · exact hks1 j h
      · omega
      · exact (H.lt i (by omega) hin j (by rw [hahk]; exact h)).1
    · intro j h0 h1
      rw [hks' j]
      by_cases e : j = i
      · exact .inr (.inl e)
      · exact .inl (hks2 j h0 (by omega))
  · intro m₁ nw h tk hJ09 F N
    try k_fold
    obtain ⟨⟨u1, rfl⟩, σ, ks, Wf, a, hks1, hks2, ⟨f1, f2, f3, f4⟩, hlen, hdis', rfl⟩ := hJ09
    clear N7 F9 N9 Wf0 a0 hdis
    rw [z_nt n] at a hks2 hlen
    have hn7 := H.hn
    try dsimp only
    have N2 := N
    simp only [srtL, List.cons_append, f1, f2] at N2
    walk_at "m_go"
    dsimp only [List.append_nil]
    rename Fr _ _ _ _ => F8
    rename News _ _ _ _ => N8
    have N7 : News g L' _ (srtL w.params σ ++ ([(L' + 1 + 1, oC2), (L' + 1, oC1)] ++ [(L0, oL0)])) := nw_sub N8 (by intro p hp; simpa only [srtL, List.cons_append, List.nil_append, f1, f2] using hp)
    obtain ⟨oL, es, ep, hL, hLd, _⟩ := id F8.ns
    have hkm : ∀ j, j ∈ ks ↔ 0 ≤ j ∧ j < n := fun j => ⟨hks1 j, fun h => hks2 j h.1 h.2⟩
    have hLn : ∀ p ∈ srtL w.params σ ++ ([(L' + 1 + 1, oC2), (L' + 1, oC1)] ++ [(L0, oL0)]), p.1 ≠ L' := fun p hp => (N7 p hp).2.1
    have hnd : ((srtL w.params σ ++ [(L', oL), (L0, oL0)]).map (·.1)).Nodup := by
      rw [List.map_append, List.nodup_append]
      refine ⟨Wf.nodup, ?_, ?_⟩
      · simp only [List.map_cons, List.map_nil, List.nodup_cons, List.mem_singleton, List.not_mem_nil, not_false_iff, List.nodup_nil, and_true]
        exact fun e => hLn (L0, oL0) (List.mem_append_right _ (.tail _ (.tail _ (.head _)))) e.symm
      · intro x hx y hy e
        obtain ⟨p, hp, rfl⟩ := List.mem_map.mp hx
        simp only [List.map_cons, List.map_nil, List.mem_cons, List.not_mem_nil, or_false] at hy
        rcases hy with hy | hy
        · exact hLn p (List.mem_append_left _ hp) (e.trans hy)
        · exact hdis' (L0, oL0) (.tail _ (.tail _ (.head _))) (e.trans hy ▸ List.mem_map_of_mem (f := (·.1)) hp)
    rw [show Value.ref x0 = Value.ref σ.x by rw [f1]]
    refine prepare_ok (σ := σ) (frs := [(L', oL), (L0, oL0)]) (ev := _ :: ev) (dep := fun k => (dpi dp k).toNat) KX' T' F8.keep ?_ ?_ hh (Around.frames_deeper hA) ⟨fun e => (nomatch e), rfl, ⟨es, ep, hLd⟩, Fs⟩ Wf a f2 hnd ?_ (by omega) ?_ ?_
    · simp only [depth_in1, depth_deeper]; omega
    · k_units
    · intro p hp
      rcases List.mem_append.mp hp with hp | hp
      · exact ⟨(N7 p (List.mem_append_left _ hp)).1, (N7 p (List.mem_append_left _ hp)).2.2⟩
      rcases List.mem_cons.mp hp with rfl | hp
      · exact ⟨hL, Heap.get?_none_of_le F8.above⟩
      · exact ⟨(N7 p (List.mem_append_right _ (List.mem_append_right _ hp))).1, (N7 p (List.mem_append_right _ (List.mem_append_right _ hp))).2.2⟩
    · intro k hk
      have h1 := (hkm k).mp hk
      have h2 := H.nn k h1.1 h1.2
      refine ⟨by omega, Nat.le_trans (stA_len H.l7 k n) (by omega), fun x hx => ?_⟩
      obtain ⟨h3, h4⟩ := stA_mem.mp hx
      refine ⟨(hkm x).mpr h3, ?_⟩
      have h5 := (H.lt x h3.1 h3.2 k h4).2
      have h6 := H.nn x h3.1 h3.2
      omega
    intro σ1 rl vs1 n1 frs2 h5 tk5 W1 a1 hf1 hX1 hrl hv1 SU2 r1 r2 r3
    obtain ⟨F5, frs3, SU3, N5⟩ := frs_back2 (led := srtL w.params σ) (led' := rdyL w.params σ1 rl vs1 n1) (rest := [(L' + 1 + 1, oC2), (L' + 1, oC1)]) (frs := [(L0, oL0)]) F8 N7 hL (by
      intro p hp hm
      rw [List.map_append] at hm
      rcases List.mem_append.mp hm with hm | hm
      · exact hdis' p (by rcases List.mem_cons.mp hp with rfl | hp; exact .head _; exact .tail _ (by rw [List.mem_singleton.mp hp]; exact .head _)) hm
      simp only [List.map_cons, List.map_nil, List.mem_cons, List.not_mem_nil, or_false] at hm
      rcases hm with e | e
      · exact hLn p (List.mem_append_right _ (List.mem_append_left _ hp)) e
      · have hp' : p ∈ [(L' + 1 + 1, oC2), (L' + 1, oC1)] := hp
        exact hc (L0, oL0) (.head _) p hp' e.symm) SU2 r1 r2 r3
    obtain ⟨sl3, rfl⟩ := TLg.one_up SU3
    have hc1 : ∀ p ∈ [(L' + 1 + 1, oC2), (L' + 1, oC1), (L0, { oL0 with slots := sl3 })], p.1 ∉ rdyX w.params σ1 rl := by
      have hrn := ((r2 (rl, W.listOf vs1.toArray n1) (.head _)).2).resolve_left hrl
      have key : ∀ (b : Addr) (o : Obj), (b, o) ∈ [(L' + 1 + 1, oC2), (L' + 1, oC1), (L0, oL0)] → b ∉ rdyX w.params σ1 rl := fun b o hb hm => by
        rcases List.mem_cons.mp hm with e | hm
        · have h1 := (N7 (b, o) (List.mem_append_right _ hb)).1
          rw [show ((b, o) : Addr × Obj).1 = rl from e, hrn] at h1
          cases h1
        · rw [hX1] at hm
          exact hdis' (b, o) hb hm
      intro p hp
      rcases List.mem_cons.mp hp with rfl | hp
      · exact key _ oC2 (.head _)
      rcases List.mem_cons.mp hp with rfl | hp
      · exact key _ oC1 (.tail _ (.head _))
      rw [List.mem_singleton.mp hp]
      exact key L0 oL0 (.tail _ (.tail _ (.head _)))
    clear N8 N7 F8 r1 r2 r3 SU2 SU3 hL hLn hnd
    have N6 : News g L' _ ((L' + 1 + 1, oC2) :: (L' + 1, oC1) :: (L0, { oL0 with slots := sl3 }) :: rdyL w.params σ1 rl vs1 n1) := nw_sub N5 (by
      intro p hp
      rcases List.mem_cons.mp hp with rfl | hp
      · exact List.mem_append_right _ (.head _)
      rcases List.mem_cons.mp hp with rfl | hp
      · exact List.mem_append_right _ (.tail _ (.head _))
      rcases List.mem_cons.mp hp with rfl | hp
      · exact List.mem_append_right _ (.tail _ (.tail _ (.head _)))
      · exact List.mem_append_left _ hp)
    clear N5
    obtain ⟨gf1, gf2, gf3, gf4⟩ := hf1
    have hdl : dvs.length ≤ 7 := by rw [IntsAre.length hdp, H.ld]; exact H.hn
    have hdl2 : dp.length ≤ 7 := by rw [H.ld]; exact H.hn
    walk_at "m_go"
    rename IsRange _ _ 0 _ 1 _ _ _ => hr9
    rename _ ∈ dp ++ [-1] => hM
    rename ∀ a : Int, a ∈ dp ++ [-1] → a ≤ _ => hM2
    rename_i M _ _ _ _ _ _ _ _ _ F9 N9 _
    have hM0 : 0 ≤ M ∧ M ≤ 90 ∧ ∃ j : Int, (0 ≤ j ∧ j < n) ∧ dpi dp j = M := by
      have hmem : ∀ a ∈ dp, ∃ j : Int, (0 ≤ j ∧ j < n) ∧ dpi dp j = a := by
        intro a ha
        obtain ⟨i, hi⟩ := List.getElem?_of_mem ha
        have h1 := (List.getElem?_eq_some_iff.mp hi).1
        rw [H.ld] at h1
        refine ⟨(i : Int), ⟨by omega, by omega⟩, ?_⟩
        unfold dpi
        rw [z_nn i, List.getD_eq_getElem?_getD, hi]; rfl
      have h0 : 0 ≤ M := by
        have h1 : 0 < dp.length := by rw [H.ld]; omega
        have h2 := hM2 dp[0] (List.mem_append_left _ (List.getElem_mem h1))
        obtain ⟨j, hj, hj2⟩ := hmem dp[0] (List.getElem_mem h1)
        have h3 := (H.nn j hj.1 hj.2).1
        omega
      rcases List.mem_append.mp hM with h | h
      · obtain ⟨j, hj, hj2⟩ := hmem M h
        exact ⟨h0, hj2 ▸ (H.nn j hj.1 hj.2).2, j, hj, hj2⟩
      · rw [List.mem_singleton.mp h] at h0; omega
    obtain ⟨hM0, hM90, j0, hj0, hj1⟩ := hM0
    have N5 := nw_tl (nw_tl N9)
    clear N6 N9
    refine ForAt.range hh F9 N5 hr9 ?_ (rangeSize_nat _ _) (fun m₀ nw₀ i m nw => Up1 (Str.ofString "ready") m₀ m ∧ ∃ σ vs n' rs oc2 v2, WF w σ ∧ Abs σ ks (PRd ah dp n i) (stA ah n).2 ∧ IntsAre vs rs ∧ rs.Nodup ∧ (∀ x, x ∈ rs ↔ (0 ≤ x ∧ x < n) ∧ dpi dp x = (i : Int)) ∧ (σ.x = x0 ∧ σ.rv = .ref rl ∧ σ.p = σ.f) ∧ rl ∉ srtX w.params σ ∧
      (∀ p ∈ [(L' + 1 + 1, oC2), (L' + 1, oC1), (L0, { oL0 with slots := sl3 })], p.1 ∉ rdyX w.params σ rl) ∧ oc2.data = .cell v2 ∧ nw = (L' + 1 + 1, oc2) :: (L' + 1, oC1) :: (L0, { oL0 with slots := sl3 }) :: rdyL w.params σ rl vs n')
      ⟨Up1.refl _ _, σ1, vs1, n1, zer (stA ah n).1 ks, oC2, _, W1, ?_, hv1, ?_, ?_, ⟨gf1.trans f1, gf2, ?_⟩, ?_, hc1, dC2, rfl⟩ ?_ ?_
    · exact small_one (by omega) (by omega) (by omega) (by omega)
    · rw [show ((0 : Nat) : Int) = 0 from rfl, PRd_zero H]; exact a1
    · have h1 : ks.Nodup := a.kse ▸ Wf.kn
      exact h1.sublist List.filter_sublist
    · exact zer_mem H hkm
    · rw [gf3, gf4, f3, f4]
    · rw [hX1]; exact hrl
    · intro I i tk₀ m₁ nw h tk oI E' hi hJ09 off F N
      try k_fold
      obtain ⟨⟨u1, rfl⟩, σ, vs, n', rs, oc2, v2, Wf, a, hvs, hnd, hrs, ⟨f1, f2, f3⟩, hrl', hc', hoc2, rfl⟩ := hJ09
      clear N5 F9
      have y1 : @Ne Nat (L' + 1 + 1) L0 := fun e => hc (L0, oL0) (.head _) (L' + 1 + 1, oC2) (.head _) e.symm
      have hcc := hc' _ (.head _)
      have y2 : @Ne Nat rl (L' + 1 + 1) := fun e => hcc (by rw [← e]; exact .head _)
      have y3 : @Ne Nat x0 (L' + 1 + 1) := fun e => hcc (by rw [← e, ← f1]; exact .tail _ (.head _))
      have y4 : @Ne Nat σ.dx (L' + 1 + 1) := fun e => hcc (by rw [← e]; exact .tail _ (.tail _ (.head _)))
      have y5 : @Ne Nat σ.nd (L' + 1 + 1) := fun e => hcc (by rw [← e]; exact .tail _ (.tail _ (.tail _ (.head _))))
      have y6 : ∀ p ∈ ndsL σ.ns, p.1 ≠ L' + 1 + 1 := fun p hp e => hcc (by rw [← e]; exact .tail _ (.tail _ (.tail _ (.tail _ (List.mem_map_of_mem (f := (·.1)) hp)))))
      have y7 : @Ne Nat I (L' + 1 + 1) := fun e => off _ (.head _) e.symm
      have N2 := N
      simp only [rdyL, srtL, f1, f2] at N2
      walk_at "m_go"
      dsimp only [List.append_nil]
      rename Fr _ _ _ _ => F8
      rename News _ _ _ _ => N8
      rename _ = Data.cell (some (Value.int _ _)) => dC9
      have N8' := fun p hp => N8 p hp
      obtain ⟨oc9, dC9, N8⟩ : ∃ oc9 : Obj, oc9.data = .cell (some (.int (0 + (i : Int)) tk₀)) ∧ News g L' _ ((I, oI) :: (L' + 1 + 1, oc9) :: (L' + 1, oC1) :: (L0, { oL0 with slots := sl3 }) :: (rl, W.listOf vs.toArray n') :: (x0, instObj 216 σ.dx) :: (σ.dx, dictOf (srtD w.params (.ref σ.nd) (.ref rl) (.int σ.p σ.pt) (.int σ.f σ.ft) σ.t1 σ.t2 σ.t3 σ.t4) 4) :: (σ.nd, σ.ond) :: ndsL σ.ns) := ⟨_, dC9, N8'⟩
      clear N8'
      have hrl7 : rs.length ≤ 7 := Nat.le_trans (nodup_len hnd fun x hx => ((hrs x).mp hx).1) hn7
      have hvl7 : vs.length ≤ 7 := by rw [IntsAre.length hvs]; exact hrl7
      have hrsk : ∀ r ∈ rs, r ∈ ks := fun r hr => (hkm r).mpr ((hrs r).mp hr).1
      have N7 : News g L' _ (rdyL w.params σ rl vs n' ++ [(I, oI), (L' + 1 + 1, oc9), (L' + 1, oC1), (L0, { oL0 with slots := sl3 })]) := nw_sub N8 (by
        intro p hp
        rcases List.mem_append.mp hp with hp | hp
        · simp only [rdyL, srtL, f1, f2] at hp
          exact .tail _ (.tail _ (.tail _ (.tail _ hp)))
        · simp only [List.mem_cons, List.not_mem_nil, or_false] at hp ⊢
          rcases hp with h | h | h | h <;> simp only [h, true_or, or_true])
      have hr7 : ∀ p ∈ [(I, oI), (L' + 1 + 1, oc9), (L' + 1, oC1), (L0, { oL0 with slots := sl3 })], p.1 ∉ rdyX w.params σ rl := by
        intro p hp
        rcases List.mem_cons.mp hp with rfl | hp
        · intro hm
          have hm : I ∈ (rdyL w.params σ rl vs n').map (·.1) := hm
          obtain ⟨q, hq, e⟩ := List.mem_map.mp hm
          exact off q (.tail _ (.tail _ (.tail _ hq))) e
        rcases List.mem_cons.mp hp with rfl | hp
        · exact hcc
        · exact hc' p (.tail _ hp)
      refine ready_in f1 KX' T' F8 N7 hr7 ?_ ?_ hh Wf a hrl' f2 hvs (by omega) hrsk ?_
      · simp only [depth_in1, depth_deeper]; omega
      · k_units
      intro σ2 D n2 h2 tk2 W2 a2 ⟨g1, g2, g3, g4⟩ hrl2 F2 N3 hr2 hD2
      clear N8 N7 y1 y2 y3 y4 y5 y6 y7
      have N4 : News g L' _ ((D, ({ cls := .type "tuple", data := .seq vs.toArray } : Obj)) :: (I, oI) :: (L' + 1 + 1, oc9) :: (L' + 1, oC1) :: (L0, { oL0 with slots := sl3 }) :: (rl, W.listOf #[] n2) :: srtL w.params σ2) := nw_sub N3 (by
        intro p hp
        rcases List.mem_cons.mp hp with rfl | hp
        · exact .head _
        rcases List.mem_cons.mp hp with rfl | hp
        · exact .tail _ (List.mem_append_right _ (.head _))
        rcases List.mem_cons.mp hp with rfl | hp
        · exact .tail _ (List.mem_append_right _ (.tail _ (.head _)))
        rcases List.mem_cons.mp hp with rfl | hp
        · exact .tail _ (List.mem_append_right _ (.tail _ (.tail _ (.head _))))
        rcases List.mem_cons.mp hp with rfl | hp
        · exact .tail _ (List.mem_append_right _ (.tail _ (.tail _ (.tail _ (.head _)))))
        · exact .tail _ (List.mem_append_left _ hp))
      clear N3
      simp only [srtL, g1, f1, g2, f2] at N4
      walk_at "m_go"
      rename List.Perm _ _ => hp9
      rename List.Pairwise _ _ => hs9
      have hsel : sel dp i n = _ := sel_eq hnd hrs hp9 hs9
      rename Fr _ _ _ _ => F8
      rename News _ _ _ _ => N8
      refine restT_inv (fun j ys nw => nw = _ ∧ IntsAre ys (sel dp i j)) ⟨rfl, .nil⟩ ?_ ?_
      · rintro ys nw ⟨rfl, hI⟩
        rw [z_nt n, hsel] at hI
        walk_at "m_go"
        dsimp only [List.append_nil]
        rename Fr _ _ _ _ => F8
        rename News _ _ _ _ => N8
        have N7 : News g L' _ (rdyL w.params σ2 rl [] n2 ++ [(D, ({ cls := .type "tuple", data := .seq vs.toArray } : Obj)), (I, oI), (L' + 1 + 1, oc9), (L' + 1, oC1), (L0, { oL0 with slots := sl3 })]) := nw_sub N8 (by
          intro p hp
          rcases List.mem_append.mp hp with hp | hp
          · simp only [rdyL, srtL, g1, g2, f1, f2] at hp
            exact .tail _ (.tail _ (.tail _ (.tail _ (.tail _ (.tail _ (.tail _ hp))))))
          · simp only [List.mem_cons, List.not_mem_nil, or_false] at hp ⊢
            rcases hp with h | h | h | h | h <;> simp only [h, true_or, or_true])
        have hr8 : ∀ p ∈ [(D, ({ cls := .type "tuple", data := .seq vs.toArray } : Obj)), (I, oI), (L' + 1 + 1, oc9), (L' + 1, oC1), (L0, { oL0 with slots := sl3 })], p.1 ∉ rdyX w.params σ2 rl := by
          intro p hp
          rcases List.mem_cons.mp hp with rfl | hp
          · exact hD2
          · exact (hr2 p hp).1
        refine ready_in (g1.trans f1) KX' T' F8 N7 hr8 ?_ ?_ hh W2 a2 hrl2 (g2.trans f2) .nil (Nat.zero_le _) (fun _ h => nomatch h) ?_
        · simp only [depth_in1, depth_deeper]; omega
        · k_units
        intro σ3 D3 n3 h3 tk3 W3 a3 ⟨j1, j2, j3, j4⟩ hrl3 F3 N3 hr3 hD3
        clear N8 N7 F8
        have N4 : News g L' _ ((D3, ({ cls := .type "tuple", data := .seq ([] : List Value).toArray } : Obj)) :: (D, ({ cls := .type "tuple", data := .seq vs.toArray } : Obj)) :: (I, oI) :: (L' + 1 + 1, oc9) :: (L' + 1, oC1) :: (L0, { oL0 with slots := sl3 }) :: (rl, W.listOf #[] n3) :: srtL w.params σ3) := nw_sub N3 (by
          intro p hp
          rcases List.mem_cons.mp hp with rfl | hp
          · exact .head _
          rcases List.mem_cons.mp hp with rfl | hp
          · exact .tail _ (List.mem_append_right _ (.head _))
          rcases List.mem_cons.mp hp with rfl | hp
          · exact .tail _ (List.mem_append_right _ (.tail _ (.head _)))
          rcases List.mem_cons.mp hp with rfl | hp
          · exact .tail _ (List.mem_append_right _ (.tail _ (.tail _ (.head _))))
          rcases List.mem_cons.mp hp with rfl | hp
          · exact .tail _ (List.mem_append_right _ (.tail _ (.tail _ (.tail _ (.head _)))))
          rcases List.mem_cons.mp hp with rfl | hp
          · exact .tail _ (List.mem_append_right _ (.tail _ (.tail _ (.tail _ (.tail _ (.head _))))))
          · exact .tail _ (List.mem_append_left _ hp))
        clear N3
        simp only [srtL, j1, g1, f1, j2, g2, f2] at N4
        walk_at "m_go"
        dsimp only [List.append_nil]
        rename Fr _ _ _ _ => F8
        rename News _ _ _ _ => N8
        have hrp : 0 < rs.length := by
          obtain ⟨x, hx, hx2⟩ := depth_ex H (M - (i : Int)).toNat j0 hj0.1 hj0.2 i (by omega) (by first | exact z_dep (by assumption) (by assumption) | omega)
          exact List.length_pos_of_mem ((hrs x).mpr ⟨hx, hx2⟩)
        have a3' : Abs σ3 ks (fun j => if j ∈ rs then -1 else PRd ah dp n i j) (stA ah n).2 := by simpa using a3
        have hx3 : σ3.x = x0 := j1.trans (g1.trans f1)
        have hv3 : σ3.rv = .ref rl := j2.trans (g2.trans f2)
        rw [show Value.ref x0 = Value.ref σ3.x by rw [hx3]]
        have N6 : News g L' _ ((D, ({ cls := .type "tuple", data := .seq vs.toArray } : Obj)) :: (I, oI) :: (L' + 1 + 1, oc9) :: (L' + 1, oC1) :: (L0, { oL0 with slots := sl3 }) :: (rl, W.listOf #[] n3) :: (x0, instObj 216 σ3.dx) :: (σ3.dx, dictOf (srtD w.params (.ref σ3.nd) (.ref rl) (.int σ3.p σ3.pt) (.int σ3.f σ3.ft) σ3.t1 σ3.t2 σ3.t3 σ3.t4) 4) :: (σ3.nd, σ3.ond) :: ndsL σ3.ns) := nw_tl (nw_tl N8)
        refine active_ok (σ := σ3) (rl := rl) (vs := []) (n := n3) (rs := []) KX' T' F8.keep ?_ ?_ hh hv3 ?_ .nil (Nat.zero_le _) ?_
        · simp only [depth_in1, depth_deeper]; omega
        · k_units
        · intro p hp
          simp only [rdyL, srtL, hx3, hv3] at hp
          have hp' := N6 p (.tail _ (.tail _ (.tail _ (.tail _ (.tail _ hp)))))
          exact ⟨hp'.1, hp'.2.2⟩
        intro h5 tk5 hk5
        rw [decide_eq_true (show σ3.f < σ3.p by rw [j4, j3, g4, g3, f3]; simp only [List.length_nil]; omega), Bool.true_or]
        have F5 := F8.keeps hk5
        have N5 := N6.grown hk5
        clear N8 N6 F8
        walk_at "m_go"
        rename Fr _ _ _ _ => F8
        rename News _ _ _ _ => N8
        refine ⟨⟨(N8 _ (.head _)).1, KX'.keeps F8.keep⟩, ?_⟩
        refine call_meth N8 (.head _) ?_
        have N7 : News g L' _ (rdyL w.params σ3 rl [] n3 ++ [(I, oI), (L' + 1 + 1, oc9), (L' + 1, oC1), (L0, { oL0 with slots := sl3 })]) := nw_sub N8 (by
          intro p hp
          rcases List.mem_append.mp hp with hp | hp
          · simp only [rdyL, srtL, hx3, hv3] at hp
            exact .tail _ (.tail _ (.tail _ (.tail _ (.tail _ (.tail _ hp)))))
          · simp only [List.mem_cons, List.not_mem_nil, or_false] at hp ⊢
            rcases hp with h | h | h | h <;> simp only [h, true_or, or_true])
        refine done_in hx3 KX' T' F8 N7 (fun p hp => (hr3 p (.tail _ hp)).1) ?_ ?_ hh W3 a3' hrl3 hv3 .nil (Nat.zero_le _) hvs hvl7 (fun r hr => ⟨hrsk r hr, by simp only [hr, if_true]⟩) hnd ?_ ?_
        · simp only [depth_in1, depth_deeper]; omega
        · k_units
        · intro r hr
          refine ⟨Nat.le_trans (stA_len H.l7 r n) (by omega), fun x hx => ?_⟩
          obtain ⟨h3, h4⟩ := stA_mem.mp hx
          refine ⟨(hkm x).mpr h3, fun hxr => ?_⟩
          have h5 := (H.lt x h3.1 h3.2 r h4).2
          rw [((hrs r).mp hr).2, ((hrs x).mp hxr).2] at h5
          omega
        intro σ4 us4 n4 h6 tk6 W4 a4 hus4 ⟨k1, k2, k3, k4⟩ hrl4 F6 N3 hr4
        obtain ⟨b1, b2, b3⟩ := round_ok H (d := (i : Int)) (by omega) hnd hrs
        rw [b1] at a4
        have hcast : ((i + 1 : Nat) : Int) = (i : Int) + 1 := by omega
        try dsimp only
        clear N8 N7 F8
        walk_at "m_go"
        dsimp only [ForPost]
        rename Fr _ _ _ _ => F8
        rename News _ _ _ _ => N8
        refine TurnEnd.intro (nw' := (L' + 1 + 1, oc9) :: (L' + 1, oC1) :: (L0, { oL0 with slots := sl3 }) :: rdyL w.params σ4 rl us4 n4) F8 (nw_sub N8 ?_) ?_ ⟨by walk_at "m_up", σ4, us4, n4, _, oc9, _, W4, by rw [hcast]; exact a4, hus4, b3, by rw [hcast]; exact b2, ⟨k1.trans hx3, k2.trans hv3, ?_⟩, hrl4, ?_, dC9, rfl⟩
        · intro p hp
          rcases List.mem_cons.mp hp with rfl | hp
          · exact List.mem_append_right _ (.head _)
          rcases List.mem_cons.mp hp with rfl | hp
          · exact List.mem_append_right _ (.tail _ (.head _))
          rcases List.mem_cons.mp hp with rfl | hp
          · exact List.mem_append_right _ (.tail _ (.tail _ (.head _)))
          rcases List.mem_cons.mp hp with rfl | hp
          · exact List.mem_append_right _ (.tail _ (.tail _ (.tail _ (.head _))))
          · exact List.mem_append_left _ hp
        · intro p hp
          rcases List.mem_cons.mp hp with rfl | hp
          · exact off (L' + 1 + 1, oc2) (.head _)
          rcases List.mem_cons.mp hp with rfl | hp
          · exact off _ (.tail _ (.head _))
          rcases List.mem_cons.mp hp with rfl | hp
          · exact off _ (.tail _ (.tail _ (.head _)))
          · exact fun e => hr4 (I, oI) (.head _) (by show I ∈ _; rw [← e]; exact List.mem_map_of_mem (f := (·.1)) (l := rdyL w.params σ4 rl us4 n4) hp)
        · rw [k3, k4, j3, j4, g3, g4, f3]; simp only [List.length_nil]; omega
        · intro p hp
          rcases List.mem_cons.mp hp with rfl | hp
          · exact hr4 (L' + 1 + 1, oc9) (.tail _ (.head _))
          rcases List.mem_cons.mp hp with rfl | hp
          · exact hr4 _ (.tail _ (.tail _ (.head _)))
          · exact hr4 p (.tail _ (.tail _ (.tail _ hp)))
      · intro j v ys nw I5 oI5 C oC D5 m₂ h tk E' hj hJ09 hJ19 hC hx F N off5 ne5
        try k_fold
        obtain ⟨tv, rfl⟩ := hJ09
        obtain ⟨rfl, hI⟩ := hJ19
        clear N8 F8
        have hj' : j < dvs.length := by rw [IntsAre.length hdp, H.ld]; first | exact z_lt (by assumption) | omega
        obtain ⟨tq, hdv⟩ : ∃ tq, dvs.toArray[((0 : Int) + (j : Int)).toNat]? = some (.int (dpi dp (0 + (j : Int))) tq) := by
          rw [z_tn j]
          obtain ⟨q, hq, tq, e⟩ := ii_at hdp j dvs[j] (by simp [hj'])
          refine ⟨tq, ?_⟩
          unfold dpi
          rw [z_tn j, List.getD_eq_getElem?_getD, hq]
          simp only [List.getElem?_toArray, Option.getD_some]
          rw [← e]; simp [hj']
        walk_at "m_go"
        · rename Fr _ _ _ _ => F8
          rename News _ _ _ _ => N8
          rename dpi dp _ = _ => h9
          exact LCg.CompEnd.intro F8 N8 _ (fun p hp => hp) off5 trivial ⟨rfl, by rw [sel_t (by rw [h9, Int.zero_add])]; exact hI.append (.cons _ _ .nil)⟩
        · rename Fr _ _ _ _ => F8
          rename News _ _ _ _ => N8
          rename dpi dp _ ≠ _ => h9
          exact LCg.CompEnd.intro F8 N8 _ (fun p hp => hp) off5 trivial ⟨rfl, by rw [sel_f (by intro e; exact h9 (by rw [e, Int.zero_add]))]; exact hI⟩
    · intro m₁ nw h tk hJ09 F N
      try k_fold
      obtain ⟨⟨u1, rfl⟩, σ, vs, n', rs, oc2, v2, Wf, a, hvs, hnd, hrs, ⟨f1, f2, f3⟩, hrl', hc', hoc2, rfl⟩ := hJ09
      clear N5 F9
      have hrs0 : rs = [] := by
        cases rs with
        | nil => rfl
        | cons x rs =>
          exfalso
          obtain ⟨h1, h2⟩ := (hrs x).mp (.head _)
          have h3 : dpi dp x ∈ dp := by
            unfold dpi
            have h4 : x.toNat < dp.length := by rw [H.ld]; omega
            rw [List.getD_eq_getElem?_getD, List.getElem?_eq_getElem h4]
            exact List.getElem_mem h4
          have h5 := hM2 _ (List.mem_append_left _ h3)
          omega
      subst hrs0
      have hvs0 : vs = [] := by cases hvs; rfl
      subst hvs0
      have N2 := N
      simp only [rdyL, srtL, f1, f2] at N2
      try dsimp only
      walk_at "m_go"
      dsimp only [List.append_nil]
      rename Fr _ _ _ _ => F8
      rename News _ _ _ _ => N8
      rw [show Value.ref x0 = Value.ref σ.x by rw [f1]]
      refine active_ok (σ := σ) (rl := rl) (vs := []) (n := n') (rs := []) KX' T' F8.keep ?_ ?_ hh f2 ?_ .nil (Nat.zero_le _) ?_
      · simp only [depth_in1, depth_deeper]; omega
      · k_units
      · intro p hp
        simp only [rdyL, srtL, f1, f2] at hp
        have hp' := N8 p (.tail _ (.tail _ (.tail _ hp)))
        exact ⟨hp'.1, hp'.2.2⟩
      intro h5 tk5 hk5
      rw [decide_eq_false (show ¬ σ.f < σ.p by omega)]
      have F5 := F8.keeps hk5
      have N5 := N8.grown hk5
      clear N8 F8
      walk_at "m_go"
      rename Fr _ _ _ _ => F8
      rename News _ _ _ _ => N8
      show Q (.bool true) _
      exact hQ sl3 _ _ (fun b o hb e => keep_back hg F8 b o (fun hm => hb (List.mem_singleton.mp hm)) e) (N8 _ (.tail _ (.tail _ (.head _)))).1
end

end P32
section P33
theorem ru33 : True := by
  k_with_none
  k_with "m_stop" => (first | with_reducible show LCg.CompRest _ _ _ _ _ _ _ _ _ _ _ _ _ _ _ _ _ _ _ | with_reducible show LCt.CompRestT _ _ _ _ _ _ _ _ _ _ _ _ _ _ _ _ _ _ _ _)
  k_with "m_go0" => (repeat' ((fail_if_success (k_extra "m_stop")); first | (k_unfold; (try dsimp only)) | walk1 | (dsimp only; walk1) | (leave1; try dsimp only) | fail "no step"))
  k_with "m_go" => (((try k_fold) <;> (try dsimp only) <;> k_extra "m_go0" <;> (try k_fold)))
  k_with "m_inA" => (((case zzkX => assumption); (case zzkT => assumption); (case zzkl => k_is); (case zzk1 => exact rfl); (case zzk2 => exact rfl); (case zzk3 => exact rfl); (case zzk4 => decide); (case zzkc => k_is); (case zzkr => omega); (case zzkb => first | exact BindsTo.of_eq rfl | exact binds_K (by k_in) rfl (by k_is) rfl rfl rfl); (case zzko => exact locs rfl); intro _ _; walk_at "t_0"))
  k_with "m_inB" => (((case zzkX => assumption); (case zzkT => assumption); (case zzkl => k_is); (case zzk1 => exact rfl); (case zzk2 => exact rfl); (case zzk3 => exact rfl); (case zzkc => k_is); (case zzkr => omega); (case zzkb => first | exact BindsTo.of_eq rfl | exact binds_K (by k_in) rfl (by k_is) rfl rfl rfl); (case zzko => exact rfl); (case zzkn => decide +kernel); intro _ _ _ _; walk_at "t_1"))
  k_with "m_in1" => ((refine' freeze1 ?zzkX ?zzkT ?zzkl ?zzkc ?zzkr ?zzkb ?zzko ?_ ?zzk1 ?zzk2 ?zzk3 ?zzk4; k_extra "m_inA"))
  k_with "m_inC1" => ((refine' freezeC1 ?zzkX ?zzkT ?zzkl ?zzkc ?zzkr ?zzkb ?zzko ?zzkn ?_ ?zzk1 ?zzk2 ?zzk3; k_extra "m_inB"))
  k_with "m_in2" => ((refine' freeze2 ?zzkX ?zzkT ?zzkl ?zzkc ?zzkr ?zzkb ?zzko ?_ ?zzk1 ?zzk2 ?zzk3 ?zzk4; k_extra "m_inA"))
  k_with "m_inC2" => ((refine' freezeC2 ?zzkX ?zzkT ?zzkl ?zzkc ?zzkr ?zzkb ?zzko ?zzkn ?_ ?zzk1 ?zzk2 ?zzk3; k_extra "m_inB"))
  k_with "m_in3" => ((refine' freeze3 ?zzkX ?zzkT ?zzkl ?zzkc ?zzkr ?zzkb ?zzko ?_ ?zzk1 ?zzk2 ?zzk3 ?zzk4; k_extra "m_inA"))
  k_with "m_inC3" => ((refine' freezeC3 ?zzkX ?zzkT ?zzkl ?zzkc ?zzkr ?zzkb ?zzko ?zzkn ?_ ?zzk1 ?zzk2 ?zzk3; k_extra "m_inB"))
  k_with "m_in4" => ((refine' freeze4 ?zzkX ?zzkT ?zzkl ?zzkc ?zzkr ?zzkb ?zzko ?_ ?zzk1 ?zzk2 ?zzk3 ?zzk4; k_extra "m_inA"))
  k_with "m_inC4" => ((refine' freezeC4 ?zzkX ?zzkT ?zzkl ?zzkc ?zzkr ?zzkb ?zzko ?zzkn ?_ ?zzk1 ?zzk2 ?zzk3; k_extra "m_inB"))
  k_with "m_size" => (first | ((with_reducible refine z_sz ?_); omega) | ((with_reducible refine z_szl ?_); omega) | omega | (rw [sizeLine_eq]; omega) | (simp only [List.size_toArray, sizeLine_eq, List.length_append, List.length_cons, List.length_nil, List.length_map] at *; omega))
  k_with "eval ListComp" => ((k_here; k_dflt (first | ((with_reducible apply LCt.ListComp_T); (case F₀ => k_asm); (case hclos => with_unfolding_all rfl); (case hcell => decide); (case hkind => rfl); (case hnames => decide); (case hx => rfl); (case hs => intro _; with_unfolding_all rfl)) | ((with_reducible apply LCg.ListComp_U); (case F₀ => k_asm); (case hclos => with_unfolding_all rfl); (case hcell => decide); (case hkind => rfl); (case hnames => decide); (case hx => rfl); (case hs => intro _; with_unfolding_all rfl)))))
  k_with "exec Assign cons ListComp" => ((k_here; k_dflt (first | ((with_reducible apply LCt.Assign_ListComp_T); (case F₀ => k_asm); (case hLe => rfl); (case hsw => with_unfolding_all rfl); (case hclos => with_unfolding_all rfl); (case hcell => decide); (case hkind => rfl); (case hnames => decide); (case hx => rfl); (case hy => rfl); (case hp => rfl); (case hs => intro _; with_unfolding_all rfl)) | ((with_reducible apply LCg.Assign_ListComp_U); (case F₀ => k_asm); (case hLe => rfl); (case hsw => with_unfolding_all rfl); (case hclos => with_unfolding_all rfl); (case hcell => decide); (case hkind => rfl); (case hnames => decide); (case hx => rfl); (case hy => rfl); (case hp => rfl); (case hs => intro _; with_unfolding_all rfl)) | (refine wpAny_Assign_Name ?_))))
  k_with "CompSrcT" => ((k_here; k_dflt (first | (refine LCt.CompSrcT.ledger (by first | assumption | rfl) (by k_asm) (by k_asm) (by k_mem) (by k_extra "m_size") ?_; intro _) | (refine LCt.CompSrcT.base (by first | assumption | rfl) (by k_asm) (by k_asm) (by assumption) (by k_extra "m_size") ?_; intro _) | (refine LCt.CompSrcT.range (by first | assumption | rfl) (by k_asm) (by k_asm) (by assumption) (by first | decide | exact small_nat (by omega) | exact small_one (by omega) (by omega) (by omega) (by omega)) (by first | rfl | decide | exact rangeSize_nat _ _) (by k_extra "m_size") ?_; intro _))))
  k_with "CompSrc" => ((k_here; k_dflt (first | (refine LCg.CompSrc.ledger (by first | assumption | rfl) (by k_asm) (by k_asm) (by k_mem) (by k_extra "m_size") ?_; intro _) | (refine LCg.CompSrc.base (by first | assumption | rfl) (by k_asm) (by k_asm) (by assumption) (by k_extra "m_size") ?_; intro _) | (refine LCg.CompSrc.range (by first | assumption | rfl) (by k_asm) (by k_asm) (by assumption) (by first | decide | exact small_nat (by omega) | exact small_one (by omega) (by omega) (by omega) (by omega)) (by first | rfl | decide | exact rangeSize_nat _ _) (by k_extra "m_size") ?_; intro _))))
  k_with "m_arith" => (first | ((try simp only [depth_under_make, depth_under_kw, depth_in1, depth_deeper, units_in1, units_deeper, Around.mark_units]); omega) | (simp only [depth_under_make, depth_under_kw, depth_in1, depth_deeper, units_in1, units_deeper, Around.mark_units] at *; omega))
  k_with "m_p1" => (first | with_reducible assumption | exact And.left (by with_reducible assumption) | exact And.left (And.right (by with_reducible assumption)) | exact And.right (by with_reducible assumption) | exact And.left (And.right (And.right (by with_reducible assumption))) | exact And.right (And.right (by with_reducible assumption)) | exact And.left (And.right (And.right (And.right (by with_reducible assumption)))) | exact And.right (And.right (And.right (by with_reducible assumption))) | exact And.left (And.right (And.right (And.right (And.right (by with_reducible assumption))))) | exact And.right (And.right (And.right (And.right (by with_reducible assumption)))) | exact And.left (And.right (And.right (And.right (And.right (And.right (by with_reducible assumption)))))) | exact And.right (And.right (And.right (And.right (And.right (by with_reducible assumption))))) | exact And.left (And.right (And.right (And.right (And.right (And.right (And.right (by with_reducible assumption))))))) | exact And.right (And.right (And.right (And.right (And.right (And.right (by with_reducible assumption)))))) | exact And.left (And.right (And.right (And.right (And.right (And.right (And.right (And.right (by with_reducible assumption)))))))) | exact And.right (And.right (And.right (And.right (And.right (And.right (And.right (by with_reducible assumption))))))) | exact And.left (And.right (And.right (And.right (And.right (And.right (And.right (And.right (And.right (by with_reducible assumption))))))))) | exact And.right (And.right (And.right (And.right (And.right (And.right (And.right (And.right (by with_reducible assumption)))))))) | exact And.left (And.right (And.right (And.right (And.right (And.right (And.right (And.right (And.right (And.right (by with_reducible assumption)))))))))) | exact And.right (And.right (And.right (And.right (And.right (And.right (And.right (And.right (And.right (by with_reducible assumption))))))))) | exact And.left (And.right (And.right (And.right (And.right (And.right (And.right (And.right (And.right (And.right (And.right (by with_reducible assumption))))))))))) | exact And.right (And.right (And.right (And.right (And.right (And.right (And.right (And.right (And.right (And.right (by with_reducible assumption)))))))))) | exact And.left (And.right (And.right (And.right (And.right (And.right (And.right (And.right (And.right (And.right (And.right (And.right (by with_reducible assumption)))))))))))) | exact And.right (And.right (And.right (And.right (And.right (And.right (And.right (And.right (And.right (And.right (And.right (by with_reducible assumption))))))))))))
  k_with "m_p2" => (first | exact And.left (And.left (by with_reducible assumption)) | exact And.left (And.right (And.left (by with_reducible assumption))) | exact And.left (And.right (And.right (And.left (by with_reducible assumption)))) | exact And.left (And.right (And.right (And.right (And.left (by with_reducible assumption))))) | exact And.right (And.left (by with_reducible assumption)) | exact And.right (And.right (And.left (by with_reducible assumption))) | exact And.right (And.right (And.right (And.left (by with_reducible assumption)))) | exact And.left (And.left (And.right (by with_reducible assumption))) | exact And.left (And.right (And.left (And.right (by with_reducible assumption)))) | exact And.left (And.right (And.right (And.left (And.right (by with_reducible assumption))))) | exact And.left (And.right (And.right (And.right (And.left (And.right (by with_reducible assumption)))))) | exact And.right (And.left (And.right (by with_reducible assumption))) | exact And.right (And.right (And.left (And.right (by with_reducible assumption)))) | exact And.right (And.right (And.right (And.left (And.right (by with_reducible assumption))))) | exact And.left (And.left (And.right (And.right (by with_reducible assumption)))) | exact And.left (And.right (And.left (And.right (And.right (by with_reducible assumption))))) | exact And.left (And.right (And.right (And.left (And.right (And.right (by with_reducible assumption)))))) | exact And.left (And.right (And.right (And.right (And.left (And.right (And.right (by with_reducible assumption))))))) | exact And.right (And.left (And.right (And.right (by with_reducible assumption)))) | exact And.right (And.right (And.left (And.right (And.right (by with_reducible assumption))))) | exact And.right (And.right (And.right (And.left (And.right (And.right (by with_reducible assumption)))))) | exact And.left (And.left (And.right (And.right (And.right (by with_reducible assumption))))) | exact And.left (And.right (And.left (And.right (And.right (And.right (by with_reducible assumption)))))) | exact And.left (And.right (And.right (And.left (And.right (And.right (And.right (by with_reducible assumption))))))) | exact And.left (And.right (And.right (And.right (And.left (And.right (And.right (And.right (by with_reducible assumption)))))))) | exact And.right (And.left (And.right (And.right (And.right (by with_reducible assumption))))) | exact And.right (And.right (And.left (And.right (And.right (And.right (by with_reducible assumption)))))) | exact And.right (And.right (And.right (And.left (And.right (And.right (And.right (by with_reducible assumption))))))))
  k_with "m_ne" => (first | assumption | (refine Ne.symm ?_; assumption) | (refine Nat.ne_of_lt ?_; k_extra "m_p1") | (refine Nat.ne_of_gt ?_; k_extra "m_p1") | k_extra "m_p1" | (refine Ne.symm ?_; k_extra "m_p1") | k_extra "m_p2" | (refine Ne.symm ?_; k_extra "m_p2"))
  k_with "call ref" => ((k_here; (with_reducible show wpAny _ _ (call (Value.ref 59) _) _ _ _); k_dflt (refine' mk_entry ?zzk1 ?zzk2 ?zzk3 ?zzk4 ?zzkr ?_; (case zzk1 => k_asm); (case zzk2 => k_asm); (case zzk3 => k_asm); (case zzk4 => k_asm); (case zzkr => (simp only [depth_in1, depth_deeper]; omega)); intro _ _ _ _ _ _ _ _ _ _ _ _; walk_at "t_2")))
  k_with "assign Tuple" => ((k_here; k_dflt (refine' assign2 ?zzk1 ?zzk2 ?zzk3 ?zzk4 ?_; (case zzk1 => first | assumption | exact rfl); (case zzk2 => k_asm); (case zzk3 => k_asm); (case zzk4 => k_mem); intro _ _ _)))
  k_with "exec For Name Attribute cons nil" => ((k_here; k_dflt (refine For_at ?_)))
  k_with "exec For Name Name cons nil" => ((k_here; k_dflt (refine For_at ?_)))
  k_with "exec For Name Call cons nil" => ((k_here; k_dflt (refine For_at ?_)))
  k_with "exec For Name Tuple cons nil" => ((k_here; k_dflt (refine For_at ?_)))
  k_with "exec For Name List cons nil" => ((k_here; k_dflt (refine For_at ?_)))
  k_with "m_stop" => (with_reducible show ForAt _ _ _ _ _ _ _ _ _ _)
  k_with "m_up" => (first | exact ⟨_, by funext z; repeat' (first | rfl | split) <;> simp_all⟩ | exact ⟨_, _, by funext z; repeat' (first | rfl | split) <;> simp_all⟩ | exact ⟨_, _, _, by funext z; repeat' (first | rfl | split) <;> simp_all⟩)
  k_with "newList" => ((k_here; k_dflt (refine' newList_M ?zzk1 ?zzk2 ?zzk3 ?_; (case zzk1 => k_asm); (case zzk2 => k_asm); (case zzk3 => exact Nat.le_of_ble_eq_true rfl)); intro _ _ _ _; walk_at "t_3"))
  k_with "call ref" => ((k_here; (with_reducible show wpAny _ _ (call (Value.ref 234) _) _ _ _); k_dflt (refine' record_ok ?zzk1 ?zzk2 ?zzkr ?zzk3 ?zzk4 ?zzk5 ?zzk6 ?_; (case zzk1 => exact Frag.In.keeps (by k_asm) (Fr.keep (by k_asm))); (case zzk2 => exact Top.keeps (by k_asm) (Fr.keep (by k_asm))); (case zzk4 => first | exact Heap.IsList.at (by assumption) (fun o e => Fr.keep (by k_asm) _ _ e) | exact News.isList (by k_asm) (by k_mem)); (case zzk5 => assumption); (case zzk3 => assumption); (case zzk6 => k_extra "m_size"); (case zzkr => (simp only [depth_in1, depth_deeper]; omega)); intro _ _ _ _ _ _ _ _ _ _ _; walk_at "t_4")))
  k_with "call ref" => ((k_here; (with_reducible show wpAny _ _ (call (Value.ref 227) _) _ _ _); k_dflt (refine' figures_ok ?zzk1 ?zzk2 ?zzkr ?zzk3 ?_; (case zzk1 => exact Frag.In.keeps (by k_asm) (Fr.keep (by k_asm))); (case zzk2 => exact Top.keeps (by k_asm) (Fr.keep (by k_asm))); (case zzk3 => assumption); (case zzkr => (simp only [depth_in1, depth_deeper]; omega)); intro _ _ _ _ _; walk_at "t_5")))
  k_with "call ref" => ((k_here; (with_reducible show wpAny _ _ (call (Value.ref 239) _) _ _ _); k_dflt (refine' within_ok ?zzk5 ?zzk6 ?zzk1 ?zzk2 ?zzkr ?zzku ?zzk3 ?_; (case zzk1 => exact Frag.In.keeps (by k_asm) (Fr.keep (by k_asm))); (case zzk2 => exact Top.keeps (by k_asm) (Fr.keep (by k_asm))); (case zzk3 => assumption); (case zzk5 => first | assumption | omega); (case zzk6 => first | assumption | omega); (case zzkr => (simp only [depth_in1, depth_deeper]; omega)); (case zzku => k_units); intro _ _; walk_at "t_6")))
  k_with "compareOp NotEq ref ref" => ((k_here; k_dflt (first | refine ne_bools (by is_list) (by is_list) (by assumption) (by assumption) (by k_units) ?_ | refine ne_strs (by is_list) (by is_list) (by assumption) (by assumption) (by assumption) (by assumption) (by k_units) ?_)))
  k_with "compareOp Eq ref ref" => ((k_here; k_dflt (first | refine eq_bools (by is_list) (by is_list) (by assumption) (by assumption) (by k_units) ?_ | refine eq_strs (by is_list) (by is_list) (by assumption) (by assumption) (by assumption) (by assumption) (by k_units) ?_)))
  k_with "subscriptTail Name Name ref int" => ((k_here; k_dflt (refine' item_list ?zzk1 ?zzk2 ?zzk3 ?zzk4 ?_ ?zzk6; (case zzk6 => with_unfolding_all rfl); (case zzk1 => is_list); (case zzk4 => assumption); (case zzk2 => first | exact z_ge _ | omega); (case zzk3 => first | ((with_reducible refine z_63 ?_); omega) | omega))))
  k_with "binaryOp Add ref ref" => ((k_here; (with_reducible show wpAny _ _ (binaryOp _ (Value.ref _) (Value.ref _)) _ _ _); k_dflt (refine' kmk_add_ints ?zzF ?zzN ?zza ?zzb ?zzi ?zzj ?_ ?zzz; (case zzF => k_asm); (case zzN => k_asm); (case zza => is_list); (case zzb => is_list); (case zzi => assumption); (case zzj => first | assumption | exact .cons _ _ .nil); (case zzz => (simp only [List.length_cons, List.length_nil]; rw [sizeLine_eq]; omega))); intro _ _ _ _ _; walk_at "t_2"))
  k_with "call builtin:max" => ((k_here; (with_reducible show wpAny _ _ (call (Value.builtin _) [Value.ref _]) _ _ _); k_dflt (refine' kso_max ?zzF ?zzN ?zza ?zzi ?zzn ?zzh ?_; (case zzF => k_asm); (case zzN => k_asm); (case zza => is_list); (case zzi => assumption); (case zzn => (simp only [List.length_append, List.length_cons, List.length_nil]; omega)); (case zzh => assumption)); intro _ _ _ _ _ _ _ _))
  trivial
noncomputable def DepAt (ts : List Str) (dp : List Int) (k : Nat) (t : Str) : Prop :=
  (∀ (j : Nat) (a : Str), ts[j]? = some a → a.length < t.length → within (Txt.lower a) (Txt.lower t) = true → dpi dp j < dpi dp k) ∧
  (0 < dpi dp k → ∃ (j : Nat) (a : Str), ts[j]? = some a ∧ a.length < t.length ∧ within (Txt.lower a) (Txt.lower t) = true ∧ dpi dp j + 1 = dpi dp k)
noncomputable def DepI (ts : List Str) (dp : List Int) (p i : Nat) : Prop :=
  dp.length = ts.length ∧ (∀ j : Nat, 0 ≤ dpi dp j ∧ dpi dp j ≤ p + 1) ∧ (∀ (j : Nat) (a : Str), ts[j]? = some a → a.length < 4 * (p + 1) → dpi dp j ≤ p) ∧
  ∀ (k : Nat) (t : Str), ts[k]? = some t → (t.length < 4 * (p + 1) ∨ (t.length = 4 * (p + 1) ∧ k < i)) → DepAt ts dp k t
noncomputable def belB (ts : List Str) (sz : Nat) (t : Str) (j : Nat) : Bool := match ts[j]? with
  | some a => decide (a.length < sz) && within (Txt.lower a) (Txt.lower t)
  | none => false
noncomputable def belS (ts : List Str) (dp : List Int) (sz : Nat) (t : Str) (m : Nat) : List Int := ((List.range m).filter (belB ts sz t)).map fun (j : Nat) => dpi dp j
theorem belS_t {ts : List Str} {dp : List Int} {sz : Nat} {t : Str} {j : Nat} (h : belB ts sz t j = true) : belS ts dp sz t (j + 1) = belS ts dp sz t j ++ [dpi dp j] := by
  simp [belS, List.range_succ, h]
theorem belS_f {ts : List Str} {dp : List Int} {sz : Nat} {t : Str} {j : Nat} (h : belB ts sz t j = false) : belS ts dp sz t (j + 1) = belS ts dp sz t j := by
  simp [belS, List.range_succ, h]
theorem dpi_set {dp : List Int} {i j : Nat} {v : Int} (hi : i < dp.length) : dpi (dp.set i v) j = if j = i then v else dpi dp j := by
  unfold dpi
  simp only [Int.toNat_natCast, List.getD_eq_getElem?_getD, List.getElem?_set]
  by_cases h : j = i
  · subst h; simp [hi]
  · have h' : ¬ i = j := fun e => h e.symm
    simp [h, h']
theorem dep_init {ts : List Str} (hT : ∀ t ∈ ts, t.length = 4 ∨ t.length = 8 ∨ t.length = 12) {dp : List Int} (hl : dp.length = ts.length) (h0 : ∀ x ∈ dp, x = 0) : DepI ts dp 0 0 := by
  have hz : ∀ j : Nat, dpi dp j = 0 := fun j => by
    unfold dpi
    rw [Int.toNat_natCast, List.getD_eq_getElem?_getD]
    cases hq : dp[j]? with
    | none => rfl
    | some x => exact h0 x (List.mem_of_getElem? hq)
  refine ⟨hl, fun j => by rw [hz]; omega, fun j a _ _ => by rw [hz]; omega, fun k t hk h => ?_⟩
  have := hT t (List.mem_of_getElem? hk)
  omega
theorem dep_skip {ts : List Str} {dp : List Int} {p i : Nat} {t : Str} (H : DepI ts dp p i) (ht : ts[i]? = some t) (hne : t.length ≠ 4 * (p + 1)) : DepI ts dp p (i + 1) := by
  obtain ⟨h1, h2, h3, h4⟩ := H
  refine ⟨h1, h2, h3, fun k u hk h => ?_⟩
  by_cases e : k = i
  · subst e
    rw [ht] at hk
    cases hk
    rcases h with h | h
    · exact h4 k t ht (.inl h)
    · exact absurd h.1 hne
  · exact h4 k u hk (by omega)
theorem dep_set {ts : List Str} {dp : List Int} {p i : Nat} {t : Str} {M : Int} (H : DepI ts dp p i) (ht : ts[i]? = some t) (he : t.length = 4 * (p + 1)) (hM : M ∈ belS ts dp (4 * (p + 1)) t ts.length ++ [-1]) (hM2 : ∀ a ∈ belS ts dp (4 * (p + 1)) t ts.length ++ [-1], a ≤ M) :
    DepI ts (dp.set i (M + 1)) p (i + 1) := by
  obtain ⟨h1, h2, h3, h4⟩ := H
  have hi : i < dp.length := by rw [h1]; exact (List.getElem?_eq_some_iff.mp ht).1
  have hset : ∀ j : Nat, dpi (dp.set i (M + 1)) j = if j = i then M + 1 else dpi dp j := fun j => dpi_set hi
  have hb : ∀ x, x ∈ belS ts dp (4 * (p + 1)) t ts.length ↔ ∃ (j : Nat) (a : Str), ts[j]? = some a ∧ a.length < 4 * (p + 1) ∧ within (Txt.lower a) (Txt.lower t) = true ∧ dpi dp j = x := by
    intro x
    unfold belS
    rw [List.mem_map]
    constructor
    · rintro ⟨j, hj, rfl⟩
      obtain ⟨_, hj2⟩ := List.mem_filter.mp hj
      unfold belB at hj2
      cases hq : ts[j]? with
      | none => rw [hq] at hj2; cases hj2
      | some a =>
        rw [hq] at hj2
        simp only [Bool.and_eq_true, decide_eq_true_eq] at hj2
        exact ⟨j, a, hq, hj2.1, hj2.2, rfl⟩
    · rintro ⟨j, a, hj, hj1, hj2, rfl⟩
      refine ⟨j, List.mem_filter.mpr ⟨List.mem_range.mpr (List.getElem?_eq_some_iff.mp hj).1, ?_⟩, rfl⟩
      unfold belB
      rw [hj]
      simp only [Bool.and_eq_true, decide_eq_true_eq]
      exact ⟨hj1, hj2⟩
  have hm1 : -1 ≤ M := hM2 _ (List.mem_append_right _ (.head _))
  have hmp : M ≤ p := by
    rcases List.mem_append.mp hM with h | h
    · obtain ⟨j, a, hj, hj1, _, rfl⟩ := (hb M).mp h
      exact h3 j a hj hj1
    · rw [List.mem_singleton.mp h]; omega
  refine ⟨by rw [List.length_set]; exact h1, fun j => ?_, fun j a hj hj1 => ?_, fun k u hk h => ?_⟩
  · rw [hset]; split
    · omega
    · exact h2 j
  · rw [hset, if_neg]
    · exact h3 j a hj hj1
    · rintro rfl
      rw [ht] at hj; cases hj; omega
  · by_cases e : k = i
    · subst e
      rw [ht] at hk
      cases hk
      have hne : ∀ (j : Nat) (a : Str), ts[j]? = some a → a.length < t.length → ¬ j = k := by
        rintro j a hj hj1 rfl
        rw [ht] at hj; cases hj; omega
      refine ⟨fun j a hj hj1 hj2 => ?_, fun hp => ?_⟩
      · rw [hset, hset, if_pos rfl, if_neg (hne j a hj hj1)]
        have := hM2 (dpi dp j) (List.mem_append_left _ ((hb _).mpr ⟨j, a, hj, by omega, hj2, rfl⟩))
        omega
      · rw [hset, if_pos rfl] at hp
        rcases List.mem_append.mp hM with h | h
        · obtain ⟨j, a, hj, hj1, hj2, hj3⟩ := (hb M).mp h
          refine ⟨j, a, hj, by omega, hj2, ?_⟩
          rw [hset, hset, if_pos rfl, if_neg (hne j a hj (by omega)), hj3]
        · rw [List.mem_singleton.mp h] at hp; omega
    · have hk2 := h4 k u hk (by omega)
      have hul : u.length ≤ 4 * (p + 1) := by omega
      have hne : ∀ (j : Nat) (a : Str), ts[j]? = some a → a.length < u.length → ¬ j = i := by
        rintro j a hj hj1 rfl
        rw [ht] at hj; cases hj; omega
      refine ⟨fun j a hj hj1 hj2 => ?_, fun hp => ?_⟩
      · rw [hset, hset, if_neg e, if_neg (hne j a hj hj1)]
        exact hk2.1 j a hj hj1 hj2
      · rw [hset, if_neg e] at hp
        obtain ⟨j, a, hj, hj1, hj2, hj3⟩ := hk2.2 hp
        refine ⟨j, a, hj, hj1, hj2, ?_⟩
        rw [hset, hset, if_neg e, if_neg (hne j a hj hj1)]
        exact hj3
theorem dep_next {ts : List Str} (hT : ∀ t ∈ ts, t.length = 4 ∨ t.length = 8 ∨ t.length = 12) {dp : List Int} {p : Nat} (H : DepI ts dp p ts.length) : DepI ts dp (p + 1) 0 := by
  obtain ⟨h1, h2, h3, h4⟩ := H
  refine ⟨h1, fun j => ?_, fun j a _ _ => ?_, fun k t hk h => ?_⟩
  · have := h2 j; omega
  · have := h2 j; omega
  · have h5 := hT t (List.mem_of_getElem? hk)
    have h6 := (List.getElem?_eq_some_iff.mp hk).1
    refine h4 k t hk ?_
    by_cases e : t.length < 4 * (p + 1)
    · exact .inl e
    · exact .inr ⟨by omega, h6⟩
theorem dep_end {ts : List Str} (hT : ∀ t ∈ ts, t.length = 4 ∨ t.length = 8 ∨ t.length = 12) {dp : List Int} (H : DepI ts dp 3 0) : (∀ j : Nat, 0 ≤ dpi dp j ∧ dpi dp j ≤ 4) ∧ ∀ k t, ts[k]? = some t → DepAt ts dp k t := by
  obtain ⟨h1, h2, h3, h4⟩ := H
  refine ⟨fun j => ?_, fun k t hk => h4 k t hk ?_⟩
  · have := h2 j; omega
  · have h5 := hT t (List.mem_of_getElem? hk)
    omega
theorem rest_0 (i : Nat) : (0 : Int) ≤ 0 + (i : Int) := by omega
theorem rest_1 {i n : Nat} (h : i < n) : (0 : Int) + (i : Int) < (n : Int) := by omega
theorem rest_2 {i : Nat} (h : i < 10) : (0 : Int) + (i : Int) < 2 ^ 63 := by omega
theorem rest_3 (i : Nat) : ((0 : Int) + (i : Int)).toNat = i := by omega
theorem Up1.ov {x : Str} {m₀ : Str → Option Value} {u v : Option Value} : Up1 x m₀ (fun z => if z = x then u else (fun z => if z = x then v else m₀ z) z) := ⟨u, by funext z; by_cases h : z = x <;> simp [h]⟩
section
variable {w : World} {A : Around} {s : Shared} {mean : ExcName → Option Value} {mg mb : Str → Option Value} {Q E : Value → Shared → Prop}
set_option maxHeartbeats 4000000 in
theorem depths_ok {l : Addr} {vs : List Value} {ts : List Str}
    (KX : (hd.heap_39 w.params).In s.heap) (T : Top hd.view_39 LS mean mg mb s.heap) (hroom : A.depth + 30 < recursionLimit) (hu : A.units + 300 < cLine) (hh : A.handled = none)
    (hl : s.heap.IsList l vs.toArray) (hs : StrsAre vs ts) (hn : vs.length ≤ 10) (hT : ∀ t ∈ ts, t.length = 4 ∨ t.length = 8 ∨ t.length = 12)
    (hQ : ∀ ld dvs dp n h' tk, LK s.heap h' → IntsAre dvs dp → dp.length = ts.length → (∀ j : Nat, 0 ≤ dpi dp j ∧ dpi dp j ≤ 4) → (∀ k t, ts[k]? = some t → DepAt ts dp k t) → (h'.get? ld = some (W.listOf dvs.toArray n) ∧ s.heap.get? ld = none) → Q (.ref ld) { s with heap := h', toks := tk }) :
    wpAny (model PR w) A (call (.ref 249) [.ref l] []) Q E s := by
  have htl : ts.length ≤ 10 := by rw [← ss_length hs]; exact hn
  have hvl : vs.length = ts.length := ss_length hs
  have hget := ss_get hs
  have hsat := ss_at hs
  walk_at "m_inC1"
  walk_at "m_go"
  rename Fr _ _ _ _ => F9
  rename News _ _ _ _ => N9
  rename IntsAre (List.flatten _) _ => hI0
  rename_i L0 _ _ o4 o3 o2' o1 dC4 dC3 _ dC1 l0 _ _ LD _ _ _ _ _ _ _ _ o2 dC2 Tp _ _
  have hI0' : DepI ts (List.replicate ((ts.length : Int)).toNat [0]).flatten 0 0 := dep_init hT (by simp) (fun x hx => by have h := hx; simp at h; exact h.2)
  obtain ⟨ta, tb, tc, tz, hI1, N8⟩ : ∃ ta tb tc tz, IntsAre (List.replicate ((ts.length : Int)).toNat [Value.int 0 tz]).flatten (List.replicate ((ts.length : Int)).toNat [(0 : Int)]).flatten ∧ News s.heap L0 _ ((Tp, ({ cls := .type "tuple", data := .seq #[.int 4 ta, .int 8 tb, .int 12 tc] } : Obj)) :: (LD, W.listOf (List.replicate ((ts.length : Int)).toNat [Value.int 0 tz]).flatten.toArray 0) :: (l0, W.listOf #[Value.int 0 tz] 0) :: (L0 + 1 + 1 + 1 + 1, o4) :: (L0 + 1 + 1 + 1, o3) :: (L0 + 1 + 1, o2) :: [(L0 + 1, o1)]) := ⟨_, _, _, _, hI0, N9⟩
  have N7 : News s.heap L0 _ ((LD, W.listOf (List.replicate ((ts.length : Int)).toNat [Value.int 0 tz]).flatten.toArray 0) :: (L0 + 1 + 1 + 1 + 1, o4) :: (L0 + 1 + 1 + 1, o3) :: (L0 + 1 + 1, o2) :: (L0 + 1, o1) :: [(Tp, ({ cls := .type "tuple", data := .seq #[.int 4 ta, .int 8 tb, .int 12 tc] } : Obj))]) := nw_sub N8 (by
    intro p hp
    simp only [List.mem_cons, List.not_mem_nil, or_false] at hp ⊢
    rcases hp with h | h | h | h | h | h <;> simp only [h, true_or, or_true])
  clear N8 N9 hI0
  refine ForAt.tuple (its := #[.int 4 ta, .int 8 tb, .int 12 tc]) hh F9 N7 (fun m₀ nw₀ p m nw => Up1 (Str.ofString "below") m₀ m ∧ ∃ dvs dp nD oS oK vS vK, IntsAre dvs dp ∧ DepI ts dp p 0 ∧ oS.data = .cell vS ∧ oK.data = .cell vK ∧
    nw = (LD, W.listOf (List.toArray dvs) nD) :: (L0 + 1 + 1 + 1 + 1, oK) :: (L0 + 1 + 1 + 1, oS) :: (L0 + 1 + 1, o2) :: (L0 + 1, o1) :: [(Tp, ({ cls := .type "tuple", data := .seq #[.int 4 ta, .int 8 tb, .int 12 tc] } : Obj))])
    ?_ ⟨Up1.refl _ _, _, _, 0, o3, o4, _, _, hI1, hI0', dC3, dC4, rfl⟩ ?_ ?_
  · rintro i m nw ⟨_, _, _, _, _, _, _, _, _, _, _, _, rfl⟩
    exact .inr ⟨_, by k_mem, rfl, _, rfl⟩
  · intro I p v m₁ nw h tk oI E' hp hv hJ09 off F N
    try k_fold
    obtain ⟨⟨u1, rfl⟩, dvs, dp, nD, oS, oK, vS, vK, hdv, hD, hoS, hoK, rfl⟩ := hJ09
    clear N7 F9 hI1 hI0'
    have hp3 : p < 3 := by simpa using hp
    obtain ⟨tv, rfl⟩ : ∃ tv, v = .int ((4 * (p + 1) : Nat) : Int) tv := by
      have : p = 0 ∨ p = 1 ∨ p = 2 := by omega
      rcases this with rfl | rfl | rfl
      · exact ⟨ta, (Option.some.inj hv).symm⟩
      · exact ⟨tb, (Option.some.inj hv).symm⟩
      · exact ⟨tc, (Option.some.inj hv).symm⟩
    have y1 : @Ne Nat LD I := off _ (.head _)
    have y2 : @Ne Nat (L0 + 1 + 1 + 1 + 1) I := off _ (.tail _ (.head _))
    have y3 : @Ne Nat (L0 + 1 + 1 + 1) I := off _ (.tail _ (.tail _ (.head _)))
    have y4 : @Ne Nat (L0 + 1 + 1) I := off _ (.tail _ (.tail _ (.tail _ (.head _))))
    have y5 : @Ne Nat (L0 + 1) I := off _ (.tail _ (.tail _ (.tail _ (.tail _ (.head _)))))
    have y6 : @Ne Nat Tp I := off _ (.tail _ (.tail _ (.tail _ (.tail _ (.tail _ (.head _))))))
    walk_at "m_go"
    walk_at "m_stop"
    rename IsRange _ _ 0 _ 1 _ _ _ => hr9
    rename Fr _ _ _ _ => F9
    rename News _ _ _ _ => N9
    rename _ = Data.cell (some (Value.int _ _)) => dS9
    obtain ⟨oS2, hS2, N8⟩ : ∃ oS2 : Obj, oS2.data = .cell (some (.int ((4 * (p + 1) : Nat) : Int) tv)) ∧ News s.heap L0 _ ((I, oI) :: (LD, W.listOf (List.toArray dvs) nD) :: (L0 + 1 + 1 + 1 + 1, oK) :: (L0 + 1 + 1 + 1, oS2) :: (L0 + 1 + 1, o2) :: (L0 + 1, o1) :: [(Tp, ({ cls := .type "tuple", data := .seq #[.int 4 ta, .int 8 tb, .int 12 tc] } : Obj))]) := ⟨_, dS9, N9⟩
    clear N9
    refine ForAt.range hh F9 N8 hr9 (small_nat (by omega)) (rangeSize_nat _ _) (fun m₀ nw₀ i m nw => Up1 (Str.ofString "below") m₀ m ∧ ∃ dvs dp nD oK vK, IntsAre dvs dp ∧ DepI ts dp p i ∧ oK.data = .cell vK ∧
      nw = (I, oI) :: (LD, W.listOf (List.toArray dvs) nD) :: (L0 + 1 + 1 + 1 + 1, oK) :: (L0 + 1 + 1 + 1, oS2) :: (L0 + 1 + 1, o2) :: (L0 + 1, o1) :: [(Tp, ({ cls := .type "tuple", data := .seq #[.int 4 ta, .int 8 tb, .int 12 tc] } : Obj))])
      ⟨Up1.refl _ _, dvs, dp, nD, oK, vK, hdv, hD, hoK, rfl⟩ ?_ ?_
    · clear N8 F9 hdv hD
      intro I2 i tk₀ m₁ nw h tk oI2 E'' hi hJ09 off2 F N
      try k_fold
      obtain ⟨⟨u2, rfl⟩, dvs, dp, nD, oK, vK, hdv, hD, hoK, rfl⟩ := hJ09
      have hi' : i < ts.length := by first | exact z_lt (by assumption) | omega
      obtain ⟨t, ht⟩ : ∃ t, ts[i]? = some t := ⟨ts[i], by simp [hi']⟩
      obtain ⟨tt, hvt'⟩ := hget i t ht
      have hvt : vs.toArray[((0 : Int) + (i : Int)).toNat]? = some (.str t tt) := by
        rw [z_tn i]; simpa using hvt'
      have htl2 : t.length ≤ 100 := by rcases hT t (List.mem_of_getElem? ht) with h | h | h <;> omega
      have z0 : @Ne Nat I I2 := off2 _ (.head _)
      have z1 : @Ne Nat LD I2 := off2 _ (.tail _ (.head _))
      have z2 : @Ne Nat (L0 + 1 + 1 + 1 + 1) I2 := off2 _ (.tail _ (.tail _ (.head _)))
      have z3 : @Ne Nat (L0 + 1 + 1 + 1) I2 := off2 _ (.tail _ (.tail _ (.tail _ (.head _))))
      have z4 : @Ne Nat (L0 + 1 + 1) I2 := off2 _ (.tail _ (.tail _ (.tail _ (.tail _ (.head _)))))
      have z5 : @Ne Nat (L0 + 1) I2 := off2 _ (.tail _ (.tail _ (.tail _ (.tail _ (.tail _ (.head _))))))
      have z6 : @Ne Nat Tp I2 := off2 _ (.tail _ (.tail _ (.tail _ (.tail _ (.tail _ (.tail _ (.head _)))))))
      have hbl : ∀ m, (belS ts dp (4 * (p + 1)) t m).length ≤ m := fun m => by
        unfold belS
        rw [List.length_map]
        have := List.length_filter_le (belB ts (4 * (p + 1)) t) (List.range m)
        rwa [List.length_range] at this
      have hbl2 := hbl ts.length
      have hdl : dvs.length = ts.length := by rw [IntsAre.length hdv, hD.1]
      walk_at "m_go"
      · rename Fr _ _ _ _ => F8
        rename News _ _ _ _ => N8
        rename _ = Data.cell (some (Value.int (0 + _) _)) => dK9
        rename (_ : Int) = _ => he9
        have he : t.length = 4 * (p + 1) := by omega
        clear he9
        refine restT_inv (fun j ys nw => nw = _ ∧ IntsAre ys (belS ts dp (4 * (p + 1)) t j)) ⟨rfl, .nil⟩ ?_ ?_
        · rintro ys nw ⟨rfl, hI⟩
          rw [z_nt ts.length] at hI
          have hk0 : (0 : Int) ≤ 0 + (i : Int) := rest_0 i
          have hk1 : (0 : Int) + (i : Int) < (dp.length : Int) := rest_1 (by rw [hD.1]; exact hi')
          have hk2 : (0 : Int) + (i : Int) < 2 ^ 63 := rest_2 (Nat.lt_of_lt_of_le hi' htl)
          walk_at "m_go"
          rename Fr _ _ _ _ => F8
          rename News _ _ _ _ => N8
          rename _ ∈ belS _ _ _ _ _ ++ _ => hm9
          rename (∀ a : Int, _ → _) => hx9
          rename IntsAre (List.set _ _ _) _ => hi9
          rw [show ((0 : Int) + (i : Int)).toNat = i from rest_3 i] at hi9 N8
          dsimp only [ForPost]
          refine TurnEnd.intro F8 (nw_sub N8 (fun p hp => .tail _ (.tail _ (.tail _ hp)))) (fun p hp => ?_) ⟨Up1.ov, _, _, nD, _, _, hi9, dep_set hD ht he hm9 hx9, dK9, rfl⟩
          · simp only [List.mem_cons, List.not_mem_nil, or_false] at hp
            rcases hp with rfl | rfl | rfl | rfl | rfl | rfl | rfl
            · exact z0
            · exact z1
            · exact z2
            · exact z3
            · exact z4
            · exact z5
            · exact z6
        · intro j v ys nw I5 oI5 C oC D5 m₂ h tk E' hj hJ09 hJ19 hC hx F N off5 ne5
          try k_fold
          obtain ⟨tv5, rfl⟩ := hJ09
          obtain ⟨rfl, hI⟩ := hJ19
          clear N8 F8
          have hj' : j < ts.length := by first | exact z_lt (by assumption) | omega
          obtain ⟨b, hb⟩ : ∃ b, ts[j]? = some b := ⟨ts[j], by simp [hj']⟩
          obtain ⟨tb5, hvb'⟩ := hget j b hb
          have hvb : vs.toArray[((0 : Int) + (j : Int)).toNat]? = some (.str b tb5) := by
            rw [z_tn j]; simpa using hvb'
          have hbl5 : b.length ≤ 100 := by rcases hT b (List.mem_of_getElem? hb) with h | h | h <;> omega
          obtain ⟨tq, hdj⟩ : ∃ tq, dvs.toArray[((0 : Int) + (j : Int)).toNat]? = some (.int (dpi dp j) tq) := by
            rw [z_tn j]
            obtain ⟨q, hq, tq, e⟩ := ii_at hdv j (dvs[j]'(by omega)) (by simp)
            refine ⟨tq, ?_⟩
            unfold dpi
            rw [Int.toNat_natCast, List.getD_eq_getElem?_getD, hq]
            simp only [List.getElem?_toArray, Option.getD_some]
            rw [← e]; simp
          walk_at "m_go"
          · rename Fr _ _ _ _ => F8
            rename News _ _ _ _ => N8
            have hbt : belB ts (4 * (p + 1)) t j = true := by
              unfold belB; rw [hb]
              rename (b.length : Int) < _ => hq9
              simp only [Bool.and_eq_true, decide_eq_true_eq]
              exact ⟨Int.ofNat_lt.mp hq9, by assumption⟩
            exact LCg.CompEnd.intro F8 N8 _ (fun p hp => hp) off5 trivial ⟨rfl, by rw [belS_t hbt]; exact hI.append (.cons _ _ .nil)⟩
          · rename Fr _ _ _ _ => F8
            rename News _ _ _ _ => N8
            have hbt : belB ts (4 * (p + 1)) t j = false := by
              unfold belB; rw [hb]
              rename _ = false => hq9
              simp only [hq9, Bool.and_false]
            exact LCg.CompEnd.intro F8 N8 _ (fun p hp => hp) off5 trivial ⟨rfl, by rw [belS_f hbt]; exact hI⟩
          · have hbt : belB ts (4 * (p + 1)) t j = false := by
              unfold belB; rw [hb]
              rename ¬ (b.length : Int) < _ => hq9
              have : ¬ b.length < 4 * (p + 1) := fun h => hq9 (Int.ofNat_lt.mpr h)
              simp only [this, decide_false, Bool.false_and]
            exact LCg.CompEnd.intro F N _ (fun p hp => hp) off5 trivial ⟨rfl, by rw [belS_f hbt]; exact hI⟩
      · rename Fr _ _ _ _ => F8
        rename News _ _ _ _ => N8
        rename _ = Data.cell (some (Value.int (0 + _) _)) => dK9
        rename (_ : Int) ≠ _ => he9
        dsimp only [ForPost]
        exact TurnEnd.intro F8 N8 (fun p hp => by
          simp only [List.mem_cons, List.not_mem_nil, or_false] at hp
          rcases hp with rfl | rfl | rfl | rfl | rfl | rfl | rfl
          · exact z0
          · exact z1
          · exact z2
          · exact z3
          · exact z4
          · exact z5
          · exact z6) ⟨by walk_at "m_up", dvs, dp, nD, _, _, hdv, dep_skip hD ht (by omega), dK9, rfl⟩
    · intro m₁ nw h tk hJ09 F N
      try k_fold
      obtain ⟨⟨u2, rfl⟩, dvs, dp, nD, oK, vK, hdv, hD, hoK, rfl⟩ := hJ09
      clear N8 F9
      rw [z_nt ts.length] at hD
      try dsimp only
      walk_at "m_go"
      dsimp only [ForPost]
      rename Fr _ _ _ _ => F8
      rename News _ _ _ _ => N8
      exact TurnEnd.intro F8 N8 (fun p hp => by
        simp only [List.mem_cons, List.not_mem_nil, or_false] at hp
        rcases hp with rfl | rfl | rfl | rfl | rfl | rfl
        · exact y1
        · exact y2
        · exact y3
        · exact y4
        · exact y5
        · exact y6) ⟨⟨u2, by funext z; by_cases h : z = Str.ofString "below" <;> simp [h]⟩, dvs, dp, nD, oS2, oK, _, _, hdv, dep_next hT hD, hS2, hoK, rfl⟩
  · intro m₁ nw h tk hJ09 F N
    try k_fold
    obtain ⟨⟨u1, rfl⟩, dvs, dp, nD, oS, oK, vS, vK, hdv, hD, hoS, hoK, rfl⟩ := hJ09
    clear N7 F9 hI1 hI0'
    have hD3 : DepI ts dp 3 0 := hD
    obtain ⟨hd1, hd2⟩ := dep_end hT hD3
    try dsimp only
    walk_at "m_go"
    rename Fr _ _ _ _ => F8
    rename News _ _ _ _ => N8
    exact hQ LD dvs dp nD _ _ F8.keep hdv hD3.1 hd1 hd2 ⟨(N8 _ (.head _)).1, (N8 _ (.head _)).2.2⟩
end

end P33
section P34
theorem ru34 : True := by
  k_with_none
  k_with "m_stop" => (first | with_reducible show LCg.CompRest _ _ _ _ _ _ _ _ _ _ _ _ _ _ _ _ _ _ _ | with_reducible show LCt.CompRestT _ _ _ _ _ _ _ _ _ _ _ _ _ _ _ _ _ _ _ _)
  k_with "m_go0" => (repeat' ((fail_if_success (k_extra "m_stop")); first | (k_unfold; (try dsimp only)) | walk1 | (dsimp only; walk1) | (leave1; try dsimp only) | fail "no step"))
  k_with "m_go" => (((try k_fold) <;> (try dsimp only) <;> k_extra "m_go0" <;> (try k_fold)))
  k_with "m_inA" => (((case zzkX => assumption); (case zzkT => assumption); (case zzkl => k_is); (case zzk1 => exact rfl); (case zzk2 => exact rfl); (case zzk3 => exact rfl); (case zzk4 => decide); (case zzkc => k_is); (case zzkr => omega); (case zzkb => first | exact BindsTo.of_eq rfl | exact binds_K (by k_in) rfl (by k_is) rfl rfl rfl); (case zzko => exact locs rfl); intro _ _; walk_at "t_0"))
  k_with "m_inB" => (((case zzkX => assumption); (case zzkT => assumption); (case zzkl => k_is); (case zzk1 => exact rfl); (case zzk2 => exact rfl); (case zzk3 => exact rfl); (case zzkc => k_is); (case zzkr => omega); (case zzkb => first | exact BindsTo.of_eq rfl | exact binds_K (by k_in) rfl (by k_is) rfl rfl rfl); (case zzko => exact rfl); (case zzkn => decide +kernel); intro _ _ _ _; walk_at "t_1"))
  k_with "m_in1" => ((refine' freeze1 ?zzkX ?zzkT ?zzkl ?zzkc ?zzkr ?zzkb ?zzko ?_ ?zzk1 ?zzk2 ?zzk3 ?zzk4; k_extra "m_inA"))
  k_with "m_inC1" => ((refine' freezeC1 ?zzkX ?zzkT ?zzkl ?zzkc ?zzkr ?zzkb ?zzko ?zzkn ?_ ?zzk1 ?zzk2 ?zzk3; k_extra "m_inB"))
  k_with "m_in2" => ((refine' freeze2 ?zzkX ?zzkT ?zzkl ?zzkc ?zzkr ?zzkb ?zzko ?_ ?zzk1 ?zzk2 ?zzk3 ?zzk4; k_extra "m_inA"))
  k_with "m_inC2" => ((refine' freezeC2 ?zzkX ?zzkT ?zzkl ?zzkc ?zzkr ?zzkb ?zzko ?zzkn ?_ ?zzk1 ?zzk2 ?zzk3; k_extra "m_inB"))
  k_with "m_in3" => ((refine' freeze3 ?zzkX ?zzkT ?zzkl ?zzkc ?zzkr ?zzkb ?zzko ?_ ?zzk1 ?zzk2 ?zzk3 ?zzk4; k_extra "m_inA"))
  k_with "m_inC3" => ((refine' freezeC3 ?zzkX ?zzkT ?zzkl ?zzkc ?zzkr ?zzkb ?zzko ?zzkn ?_ ?zzk1 ?zzk2 ?zzk3; k_extra "m_inB"))
  k_with "m_in4" => ((refine' freeze4 ?zzkX ?zzkT ?zzkl ?zzkc ?zzkr ?zzkb ?zzko ?_ ?zzk1 ?zzk2 ?zzk3 ?zzk4; k_extra "m_inA"))
  k_with "m_inC4" => ((refine' freezeC4 ?zzkX ?zzkT ?zzkl ?zzkc ?zzkr ?zzkb ?zzko ?zzkn ?_ ?zzk1 ?zzk2 ?zzk3; k_extra "m_inB"))
  k_with "m_size" => (first | ((with_reducible refine z_sz ?_); omega) | ((with_reducible refine z_szl ?_); omega) | omega | (rw [sizeLine_eq]; omega) | (simp only [List.size_toArray, sizeLine_eq, List.length_append, List.length_cons, List.length_nil, List.length_map] at *; omega))
  k_with "eval ListComp" => ((k_here; k_dflt (first | ((with_reducible apply LCt.ListComp_T); (case F₀ => k_asm); (case hclos => with_unfolding_all rfl); (case hcell => decide); (case hkind => rfl); (case hnames => decide); (case hx => rfl); (case hs => intro _; with_unfolding_all rfl)) | ((with_reducible apply LCg.ListComp_U); (case F₀ => k_asm); (case hclos => with_unfolding_all rfl); (case hcell => decide); (case hkind => rfl); (case hnames => decide); (case hx => rfl); (case hs => intro _; with_unfolding_all rfl)))))
  k_with "exec Assign cons ListComp" => ((k_here; k_dflt (first | ((with_reducible apply LCt.Assign_ListComp_T); (case F₀ => k_asm); (case hLe => rfl); (case hsw => with_unfolding_all rfl); (case hclos => with_unfolding_all rfl); (case hcell => decide); (case hkind => rfl); (case hnames => decide); (case hx => rfl); (case hy => rfl); (case hp => rfl); (case hs => intro _; with_unfolding_all rfl)) | ((with_reducible apply LCg.Assign_ListComp_U); (case F₀ => k_asm); (case hLe => rfl); (case hsw => with_unfolding_all rfl); (case hclos => with_unfolding_all rfl); (case hcell => decide); (case hkind => rfl); (case hnames => decide); (case hx => rfl); (case hy => rfl); (case hp => rfl); (case hs => intro _; with_unfolding_all rfl)) | (refine wpAny_Assign_Name ?_))))
  k_with "CompSrcT" => ((k_here; k_dflt (first | (refine LCt.CompSrcT.ledger (by first | assumption | rfl) (by k_asm) (by k_asm) (by k_mem) (by k_extra "m_size") ?_; intro _) | (refine LCt.CompSrcT.base (by first | assumption | rfl) (by k_asm) (by k_asm) (by assumption) (by k_extra "m_size") ?_; intro _) | (refine LCt.CompSrcT.range (by first | assumption | rfl) (by k_asm) (by k_asm) (by assumption) (by first | decide | exact small_nat (by omega) | exact small_one (by omega) (by omega) (by omega) (by omega)) (by first | rfl | decide | exact rangeSize_nat _ _) (by k_extra "m_size") ?_; intro _))))
  k_with "CompSrc" => ((k_here; k_dflt (first | (refine LCg.CompSrc.ledger (by first | assumption | rfl) (by k_asm) (by k_asm) (by k_mem) (by k_extra "m_size") ?_; intro _) | (refine LCg.CompSrc.base (by first | assumption | rfl) (by k_asm) (by k_asm) (by assumption) (by k_extra "m_size") ?_; intro _) | (refine LCg.CompSrc.range (by first | assumption | rfl) (by k_asm) (by k_asm) (by assumption) (by first | decide | exact small_nat (by omega) | exact small_one (by omega) (by omega) (by omega) (by omega)) (by first | rfl | decide | exact rangeSize_nat _ _) (by k_extra "m_size") ?_; intro _))))
  k_with "m_arith" => (first | ((try simp only [depth_under_make, depth_under_kw, depth_in1, depth_deeper, units_in1, units_deeper, Around.mark_units]); omega) | (simp only [depth_under_make, depth_under_kw, depth_in1, depth_deeper, units_in1, units_deeper, Around.mark_units] at *; omega))
  k_with "m_p1" => (first | with_reducible assumption | exact And.left (by with_reducible assumption) | exact And.left (And.right (by with_reducible assumption)) | exact And.right (by with_reducible assumption) | exact And.left (And.right (And.right (by with_reducible assumption))) | exact And.right (And.right (by with_reducible assumption)) | exact And.left (And.right (And.right (And.right (by with_reducible assumption)))) | exact And.right (And.right (And.right (by with_reducible assumption))) | exact And.left (And.right (And.right (And.right (And.right (by with_reducible assumption))))) | exact And.right (And.right (And.right (And.right (by with_reducible assumption)))) | exact And.left (And.right (And.right (And.right (And.right (And.right (by with_reducible assumption)))))) | exact And.right (And.right (And.right (And.right (And.right (by with_reducible assumption))))) | exact And.left (And.right (And.right (And.right (And.right (And.right (And.right (by with_reducible assumption))))))) | exact And.right (And.right (And.right (And.right (And.right (And.right (by with_reducible assumption)))))) | exact And.left (And.right (And.right (And.right (And.right (And.right (And.right (And.right (by with_reducible assumption)))))))) | exact And.right (And.right (And.right (And.right (And.right (And.right (And.right (by with_reducible assumption))))))) | exact And.left (And.right (And.right (And.right (And.right (And.right (And.right (And.right (And.right (by with_reducible assumption))))))))) | exact And.right (And.right (And.right (And.right (And.right (And.right (And.right (And.right (by with_reducible assumption)))))))) | exact And.left (And.right (And.right (And.right (And.right (And.right (And.right (And.right (And.right (And.right (by with_reducible assumption)))))))))) | exact And.right (And.right (And.right (And.right (And.right (And.right (And.right (And.right (And.right (by with_reducible assumption))))))))) | exact And.left (And.right (And.right (And.right (And.right (And.right (And.right (And.right (And.right (And.right (And.right (by with_reducible assumption))))))))))) | exact And.right (And.right (And.right (And.right (And.right (And.right (And.right (And.right (And.right (And.right (by with_reducible assumption)))))))))) | exact And.left (And.right (And.right (And.right (And.right (And.right (And.right (And.right (And.right (And.right (And.right (And.right (by with_reducible assumption)))))))))))) | exact And.right (And.right (And.right (And.right (And.right (And.right (And.right (And.right (And.right (And.right (And.right (by with_reducible assumption))))))))))))
  k_with "m_p2" => (first | exact And.left (And.left (by with_reducible assumption)) | exact And.left (And.right (And.left (by with_reducible assumption))) | exact And.left (And.right (And.right (And.left (by with_reducible assumption)))) | exact And.left (And.right (And.right (And.right (And.left (by with_reducible assumption))))) | exact And.right (And.left (by with_reducible assumption)) | exact And.right (And.right (And.left (by with_reducible assumption))) | exact And.right (And.right (And.right (And.left (by with_reducible assumption)))) | exact And.left (And.left (And.right (by with_reducible assumption))) | exact And.left (And.right (And.left (And.right (by with_reducible assumption)))) | exact And.left (And.right (And.right (And.left (And.right (by with_reducible assumption))))) | exact And.left (And.right (And.right (And.right (And.left (And.right (by with_reducible assumption)))))) | exact And.right (And.left (And.right (by with_reducible assumption))) | exact And.right (And.right (And.left (And.right (by with_reducible assumption)))) | exact And.right (And.right (And.right (And.left (And.right (by with_reducible assumption))))) | exact And.left (And.left (And.right (And.right (by with_reducible assumption)))) | exact And.left (And.right (And.left (And.right (And.right (by with_reducible assumption))))) | exact And.left (And.right (And.right (And.left (And.right (And.right (by with_reducible assumption)))))) | exact And.left (And.right (And.right (And.right (And.left (And.right (And.right (by with_reducible assumption))))))) | exact And.right (And.left (And.right (And.right (by with_reducible assumption)))) | exact And.right (And.right (And.left (And.right (And.right (by with_reducible assumption))))) | exact And.right (And.right (And.right (And.left (And.right (And.right (by with_reducible assumption)))))) | exact And.left (And.left (And.right (And.right (And.right (by with_reducible assumption))))) | exact And.left (And.right (And.left (And.right (And.right (And.right (by with_reducible assumption)))))) | exact And.left (And.right (And.right (And.left (And.right (And.right (And.right (by with_reducible assumption))))))) | exact And.left (And.right (And.right (And.right (And.left (And.right (And.right (And.right (by with_reducible assumption)))))))) | exact And.right (And.left (And.right (And.right (And.right (by with_reducible assumption))))) | exact And.right (And.right (And.left (And.right (And.right (And.right (by with_reducible assumption)))))) | exact And.right (And.right (And.right (And.left (And.right (And.right (And.right (by with_reducible assumption))))))))
  k_with "m_ne" => (first | assumption | (refine Ne.symm ?_; assumption) | (refine Nat.ne_of_lt ?_; k_extra "m_p1") | (refine Nat.ne_of_gt ?_; k_extra "m_p1") | k_extra "m_p1" | (refine Ne.symm ?_; k_extra "m_p1") | k_extra "m_p2" | (refine Ne.symm ?_; k_extra "m_p2"))
  k_with "call ref" => ((k_here; (with_reducible show wpAny _ _ (call (Value.ref 59) _) _ _ _); k_dflt (refine' mk_entry ?zzk1 ?zzk2 ?zzk3 ?zzk4 ?zzkr ?_; (case zzk1 => k_asm); (case zzk2 => k_asm); (case zzk3 => k_asm); (case zzk4 => k_asm); (case zzkr => (simp only [depth_in1, depth_deeper]; omega)); intro _ _ _ _ _ _ _ _ _ _ _ _; walk_at "t_2")))
  k_with "assign Tuple" => ((k_here; k_dflt (refine' assign2 ?zzk1 ?zzk2 ?zzk3 ?zzk4 ?_; (case zzk1 => first | assumption | exact rfl); (case zzk2 => k_asm); (case zzk3 => k_asm); (case zzk4 => k_mem); intro _ _ _)))
  k_with "exec For Name Attribute cons nil" => ((k_here; k_dflt (refine For_at ?_)))
  k_with "exec For Name Name cons nil" => ((k_here; k_dflt (refine For_at ?_)))
  k_with "exec For Name Call cons nil" => ((k_here; k_dflt (refine For_at ?_)))
  k_with "exec For Name Tuple cons nil" => ((k_here; k_dflt (refine For_at ?_)))
  k_with "exec For Name List cons nil" => ((k_here; k_dflt (refine For_at ?_)))
  k_with "m_stop" => (with_reducible show ForAt _ _ _ _ _ _ _ _ _ _)
  k_with "m_up" => (first | exact ⟨_, by funext z; repeat' (first | rfl | split) <;> simp_all⟩ | exact ⟨_, _, by funext z; repeat' (first | rfl | split) <;> simp_all⟩ | exact ⟨_, _, _, by funext z; repeat' (first | rfl | split) <;> simp_all⟩)
  k_with "newList" => ((k_here; k_dflt (refine' newList_M ?zzk1 ?zzk2 ?zzk3 ?_; (case zzk1 => k_asm); (case zzk2 => k_asm); (case zzk3 => exact Nat.le_of_ble_eq_true rfl)); intro _ _ _ _; walk_at "t_3"))
  k_with "call ref" => ((k_here; (with_reducible show wpAny _ _ (call (Value.ref 234) _) _ _ _); k_dflt (refine' record_ok ?zzk1 ?zzk2 ?zzkr ?zzk3 ?zzk4 ?zzk5 ?zzk6 ?_; (case zzk1 => exact Frag.In.keeps (by k_asm) (Fr.keep (by k_asm))); (case zzk2 => exact Top.keeps (by k_asm) (Fr.keep (by k_asm))); (case zzk4 => first | exact Heap.IsList.at (by assumption) (fun o e => Fr.keep (by k_asm) _ _ e) | exact News.isList (by k_asm) (by k_mem)); (case zzk5 => assumption); (case zzk3 => assumption); (case zzk6 => k_extra "m_size"); (case zzkr => (simp only [depth_in1, depth_deeper]; omega)); intro _ _ _ _ _ _ _ _ _ _ _; walk_at "t_4")))
  k_with "call ref" => ((k_here; (with_reducible show wpAny _ _ (call (Value.ref 227) _) _ _ _); k_dflt (refine' figures_ok ?zzk1 ?zzk2 ?zzkr ?zzk3 ?_; (case zzk1 => exact Frag.In.keeps (by k_asm) (Fr.keep (by k_asm))); (case zzk2 => exact Top.keeps (by k_asm) (Fr.keep (by k_asm))); (case zzk3 => assumption); (case zzkr => (simp only [depth_in1, depth_deeper]; omega)); intro _ _ _ _ _; walk_at "t_5")))
  k_with "call ref" => ((k_here; (with_reducible show wpAny _ _ (call (Value.ref 239) _) _ _ _); k_dflt (refine' within_ok ?zzk5 ?zzk6 ?zzk1 ?zzk2 ?zzkr ?zzku ?zzk3 ?_; (case zzk1 => exact Frag.In.keeps (by k_asm) (Fr.keep (by k_asm))); (case zzk2 => exact Top.keeps (by k_asm) (Fr.keep (by k_asm))); (case zzk3 => assumption); (case zzk5 => first | assumption | omega); (case zzk6 => first | assumption | omega); (case zzkr => (simp only [depth_in1, depth_deeper]; omega)); (case zzku => k_units); intro _ _; walk_at "t_6")))
  k_with "compareOp NotEq ref ref" => ((k_here; k_dflt (first | refine ne_bools (by is_list) (by is_list) (by assumption) (by assumption) (by k_units) ?_ | refine ne_strs (by is_list) (by is_list) (by assumption) (by assumption) (by assumption) (by assumption) (by k_units) ?_)))
  k_with "compareOp Eq ref ref" => ((k_here; k_dflt (first | refine eq_bools (by is_list) (by is_list) (by assumption) (by assumption) (by k_units) ?_ | refine eq_strs (by is_list) (by is_list) (by assumption) (by assumption) (by assumption) (by assumption) (by k_units) ?_)))
  k_with "subscriptTail Name Name ref int" => ((k_here; k_dflt (refine' item_list ?zzk1 ?zzk2 ?zzk3 ?zzk4 ?_ ?zzk6; (case zzk6 => with_unfolding_all rfl); (case zzk1 => is_list); (case zzk4 => assumption); (case zzk2 => first | exact z_ge _ | omega); (case zzk3 => first | ((with_reducible refine z_63 ?_); omega) | omega))))
  trivial
namespace FX
open PySem.Sem (wp)
theorem slot_set_has : Slot "set" "__contains__" "set.__contains__" :=
  .of (owner := "set") (n := "__contains__") (by rw [typeLookup_type, builtinLookup_eq_fast]; kernel_rfl) (by decide +kernel) (by decide +kernel) (by decide +kernel)
    (by first | exact .inl (by decide +kernel) | exact .inr (by decide +kernel)) (by rw [isSubtype_type]; kernel_rfl)
theorem ty_has : typeOf (.builtin "set.__contains__") = pure (.type "method_descriptor") := by show builtinType _ = _; rw [builtinType_eq_fast]; kernel_rfl
theorem slot_md_get : Slot "method_descriptor" "__get__" "method_descriptor.__get__" :=
  .of (owner := "method_descriptor") (n := "__get__") (by rw [typeLookup_type, builtinLookup_eq_fast]; kernel_rfl) (by decide +kernel) (by decide +kernel) (by decide +kernel)
    (by first | exact .inl (by decide +kernel) | exact .inr (by decide +kernel)) (by rw [isSubtype_type]; kernel_rfl)
theorem md_noset : typeLookup (.type "method_descriptor") "__set__" = pure none := by rw [typeLookup_type, builtinLookup_eq_fast]; kernel_rfl
theorem md_nodel : typeLookup (.type "method_descriptor") "__delete__" = pure none := by rw [typeLookup_type, builtinLookup_eq_fast]; kernel_rfl
theorem entry_md_get : entryFor table "method_descriptor.__get__" = some Builtin.«method_descriptor.__get__» := entryFor_of_tree (by kernel_rfl)
theorem args_md_get (a b c : Value) : argsOk "method_descriptor.__get__" ⟨[a, b, c], []⟩ := by unfold argsOk; kernel_rfl
theorem told_has : Manifest.toldItsClass.contains "set.__contains__" = false := by decide +kernel
theorem owner_set : (".".intercalate ("set.__contains__".cutAt '.').dropLast) = "set" := by
  have e0 : "set.__contains__".cutAt '.' = ["set", "__contains__"] := by first | rfl | decide +kernel
  rw [e0]; decide +kernel
theorem sub_set : isSubtype (.type "set") (.type (".".intercalate ("set.__contains__".cutAt '.').dropLast)) = pure true := by
  rw [owner_set, isSubtype_type]; kernel_rfl
theorem set_noga : typeLookup (.type "set") "__getattr__" = pure none := by rw [typeLookup_type, builtinLookup_eq_fast]; kernel_rfl
noncomputable abbrev so (e : Array (Int × Value)) (n : Nat) (tb : SetTable) : Obj := { cls := .type "set", data := .set e n tb }
noncomputable abbrev bc (a : Addr) : Obj := { cls := .type "builtin_function_or_method", data := .fields #[.builtin "set.__contains__", .ref a] }
section
variable {prog : Program} {w : World} {A : Around} {E : Value → Shared → Prop} {h : Heap} {g : Array GenState} {d : Drawn} {t : Nat} {os : OsState} {a : Addr} {e0 : Array (Int × Value)} {n0 : Nat} {tb0 : SetTable}
theorem has_get {R : Result → Shared → Prop} (hx : h.get? a = some (so e0 n0 tb0)) (hq : R (.ok (.ret (.ref h.objs.size))) ⟨h.push (bc a), g, d, t, os⟩) :
    codeAny (model prog w) A (.call (.builtin "method_descriptor.__get__") ⟨[.builtin "set.__contains__", .ref a, .type "set"], []⟩) R ⟨h, g, d, t, os⟩ := by
  have hT : (⟨h, g, d, t, os⟩ : Shared).TypeIs (.ref a) "set" := ⟨_, hx, rfl⟩
  have hT5 : (⟨h, g, d, t, os⟩ : Shared).TypeIs (.builtin "set.__contains__") "method_descriptor" := ty_has
  have f8 := sub_set
  have f9 := told_has
  refine codeAny_call_builtin slot_md_get.plain entry_md_get (slot_md_get.check _ _ _ _ _ _ _ _ hT5 (args_md_get _ _ _) ?_)
  unfold Builtin.«method_descriptor.__get__»
  refine wpAny_bind (wpAny_of_eq (a := (Value.builtin "set.__contains__", some (Value.ref a), some (Value.type "set"))) rfl ?_)
  show wpAny _ _ (if Manifest.toldItsClass.contains "set.__contains__" = true then _ else _) _ _ _
  rw [if_neg (by rw [told_has]; exact Bool.false_ne_true)]
  repeat (any_goals (first | assumption | wp_step))
theorem has_entry {tk : Tok} {Q : Fin → Shared → Prop} (hx : h.get? a = some (so e0 n0 tb0)) (hq : Q (.done (.ret (.ref h.objs.size))) ⟨h.push (bc a), g, d, t, os⟩) :
    wpAny (model prog w) A (Builtin.«object.__getattribute__» ⟨[.ref a, .str "__contains__" tk], []⟩) Q E ⟨h, g, d, t, os⟩ := by
  have hT : (⟨h, g, d, t, os⟩ : Shared).TypeIs (.ref a) "set" := ⟨_, hx, rfl⟩
  have hT5 : (⟨h, g, d, t, os⟩ : Shared).TypeIs (.builtin "set.__contains__") "method_descriptor" := ty_has
  have f4 := slot_set_has.lookup
  have f5 := ty_has
  have f6 := slot_md_get.lookup
  have f7 := md_noset
  have f8 := md_nodel
  repeat (any_goals (first | assumption | wp_step))
  refine has_get hx ?_
  repeat (any_goals (first | assumption | wp_step))
theorem has_call {tk : Tok} {R : Result → Shared → Prop} (hx : h.get? a = some (so e0 n0 tb0)) (hq : R (.ok (.ret (.ref h.objs.size))) ⟨h.push (bc a), g, d, t, os⟩) :
    codeAny (model prog w) A (.call (.builtin "set.__getattribute__") ⟨[.ref a, .str "__contains__" tk], []⟩) R ⟨h, g, d, t, os⟩ :=
  codeAny_call_builtin F.slot_set_getattribute.plain F.entry_set_ga (F.slot_set_getattribute.check _ _ _ _ _ _ _ _ (show (⟨h, g, d, t, os⟩ : Shared).TypeIs (.ref a) "set" from ⟨_, hx, rfl⟩) (F.args_set_getattribute_2 _ _) (has_entry hx hq))
theorem has_by {tk : Tok} {Q : Value → Shared → Prop} (hx : h.get? a = some (so e0 n0 tb0)) (hq : Q (.ref h.objs.size) ⟨h.push (bc a), g, d, t, os⟩) : wpAny (model prog w) A (getAttrBy (.ref a) (.str "__contains__" tk) true true) Q E ⟨h, g, d, t, os⟩ := by
  have hT : (⟨h, g, d, t, os⟩ : Shared).TypeIs (.ref a) "set" := ⟨_, hx, rfl⟩
  have f2 := F.slot_set_getattribute.lookup
  have f3 := F.slot_set_getattribute.bind (.ref a)
  have f4 := set_noga
  repeat (any_goals (first | assumption | wp_step))
  refine has_call hx ?_
  repeat (any_goals (first | assumption | wp_step))
theorem has_attr {s : Shared} {Q : Value → Shared → Prop} (hx : s.heap.get? a = some (so e0 n0 tb0)) (hq : Q (.ref s.heap.objs.size) { s with heap := s.heap.push (bc a), toks := s.toks + 1 }) : wpAny (model prog w) A (getAttr (.ref a) "__contains__" true) Q E s := by
  obtain ⟨h, g, d, t, os⟩ := s
  have hx' : h.get? a = some (so e0 n0 tb0) := hx
  unfold getAttr
  repeat (any_goals (first | assumption | with_reducible apply has_by hx' | wp_step))
end
theorem mro_filter : mroOf (.type "filter") = pure [.type "filter", .type "object"] := by rw [mroOf_type]; kernel_rfl
theorem sub_filter : isSubtype (.type "filter") (.type "filter") = pure true := by rw [isSubtype_type]; kernel_rfl
theorem lookup_filter_new : typeLookup (.type "filter") "__new__" = pure (some (.builtin "filter.__new__")) := by rw [typeLookup_type, builtinLookup_eq_fast]; kernel_rfl
theorem slot_filter_init : Slot "filter" "__init__" "object.__init__" :=
  .of (owner := "object") (n := "__init__") (by rw [typeLookup_type, builtinLookup_eq_fast]; kernel_rfl) (by decide +kernel) (by decide +kernel) (by decide +kernel)
    (by first | exact .inl (by decide +kernel) | exact .inr (by decide +kernel)) (by rw [isSubtype_type]; kernel_rfl)
theorem called_filter : TypeCalled "filter" "filter.__new__" "object.__init__" :=
  ⟨by decide +kernel, by decide +kernel, ⟨_, _, mro_filter⟩, madeBy_type mro_filter lookup_filter_new (by decide +kernel), by decide +kernel, sub_filter, slot_filter_init⟩
theorem typeCall_filter_2 (a b : Value) : checkTypeCall "filter" ⟨[a, b], []⟩ = pure () := by kernel_rfl
theorem newCall_filter_2 (a b : Value) : checkBuiltinCall "filter.__new__" ⟨[.type "filter", a, b], []⟩ = pure () := by kernel_rfl
theorem entry_filter_new : entryFor table "filter.__new__" = some Builtin.«filter.__new__» := entryFor_of_tree (by kernel_rfl)
noncomputable abbrev fit (l : Addr) (i : Nat) : Obj := { cls := .type "list_iterator", data := .fields #[.ref l, .int i 0] }
noncomputable abbrev fo (u i : Addr) : Obj := { cls := .type "filter", data := .fields #[.ref u, .ref i] }
theorem meets_filter_new (u l : Addr) (xs : Array Value) : Meets (Builtin.«filter.__new__» ⟨[.type "filter", .ref u, .ref l], []⟩) (fun _ R s => s.heap.IsList l xs ∧
      R (.ok (.ret (.ref (s.heap.push (fit l 0)).objs.size))) { s with heap := (s.heap.push (fit l 0)).push (fo u s.heap.objs.size) }) :=
  .of_wp fun prog w A R s h => by
    obtain ⟨hp, g, d, tk, os⟩ := s; obtain ⟨hl, h⟩ := h
    have hsub := sub_filter
    have hL : Heap.IsList (Shared.heap ⟨hp, g, d, tk, os⟩) l xs := hl
    wp_walk using wpAny_pyIter_list hL
    exact ⟨_, rfl, h⟩
theorem call_filter {prog : Program} {w : World} {A : Around} {E : Value → Shared → Prop} {s : Shared} {u l : Addr} {xs : Array Value} {Q : Value → Shared → Prop} (hl : s.heap.IsList l xs)
    (h : ∀ h', h'.get? (s.heap.objs.size + 1) = some (fo u s.heap.objs.size) → h'.get? s.heap.objs.size = some (fit l 0) → LK s.heap h' → Q (.ref (s.heap.objs.size + 1)) { s with heap := h' }) :
    wpAny (model prog w) A (call (.type "filter") [.ref u, .ref l]) Q E s := by
  refine callType_new called_filter (by decide) (typeCall_filter_2 _ _) (newCall_filter_2 _ _) (fun obj => F.args_object_init_3 obj _ _) entry_filter_new (meets_filter_new u l xs) ⟨hl, ?_⟩
  have hz : (s.heap.push (fit l 0)).objs.size = s.heap.objs.size + 1 := Heap.size_push ..
  have he := Heap.get?_push_size (s.heap.push (fit l 0)) (o := fo u s.heap.objs.size) rfl
  show _ ∧ _
  rw [hz] at he ⊢
  exact ⟨⟨_, he, rfl⟩, h _ he (Heap.get?_push_of_some _ (Heap.get?_push_size _ rfl)) fun b o x => Heap.get?_push_of_some _ (Heap.get?_push_of_some _ x)⟩
theorem ck_sub : isSubtype (.type "set") (.type "module") = pure false := by rw [isSubtype_type]; kernel_rfl
theorem ck_kind : builtinKind "set.__contains__" = some .method := by first | kernel_rfl | decide +kernel
theorem ck_sig : ∃ sig, Manifest.signature? "set.__contains__" = some sig ∧ ∀ (a : Addr) (key : Value), Bind.checkArgs "set.__contains__" { sig with full := s!"{Bind.lastOf "set"}.{Bind.lastOf "set.__contains__"}" } ⟨[.ref a, key], []⟩ = pure () := by
  rw [signature?_of (id := "set.__contains__") (n := ['_', '_', 's', 'n', 'i', 'a', 't', 'n', 'o', 'c', '_', '_']) (o := ['t', 'e', 's']) (by kernel_rfl) F.owner_set]
  refine ⟨_, rfl, fun a key => ?_⟩
  kernel_rfl
theorem ck_va : Manifest.varargsMethods.contains "set.__contains__" = false := by decide +kernel
section
variable {prog : Program} {w : World} {A : Around} {E : Value → Shared → Prop} {s : Shared} {u a : Addr}
theorem check_has_wp {key : Value} {Q : Unit → Shared → Prop} {e0 : Array (Int × Value)} {n0 : Nat} {tb0 : SetTable} (hx : s.heap.get? a = some { cls := .type "set", data := .set e0 n0 tb0 }) (h : Q () s) : wpAny (model prog w) A (checkBoundCall "set.__contains__" ⟨[.ref a, key], []⟩) Q E s := by
  have hT : s.TypeIs (.ref a) "set" := ⟨_, hx, rfl⟩
  obtain ⟨sig, hsig, hck⟩ := ck_sig
  have hck' := hck a key
  unfold checkBoundCall
  rw [hsig, ck_kind]
  show wpAny _ _ (isInstance (.ref a) (.type "module") >>= _) _ _ _
  refine wpAny_bind (wpAny_isInstance hT ck_sub ?_)
  rw [ck_va]
  simp only [Bool.or_self, Bool.false_eq_true, if_false]
  obtain ⟨hp, g, d, tk, os⟩ := s
  have hx' : hp.get? a = some { cls := .type "set", data := .set e0 n0 tb0 } := hx
  refine wpAny_bind ?_
  unfold isType
  repeat (any_goals (first | assumption | wp_step))
end
section
variable {prog : Program} {w : World} {A : Around} {E : Value → Shared → Prop} {s : Shared} {u a : Addr} {K : Type} [DecidableEq K] {knd : KeyKind prog w K} {k : K} {key : Value} {S : K → Bool} {n : Nat}
theorem bc_call {Q : Value → Shared → Prop} (ho : s.heap.get? u = some (bc a)) (hkey : knd.is k key = true) (hsc : key.scannable = true) (hS : s.heap.SetOf knd a S n)
    (h : Q (.bool (S k)) { s with toks := s.toks + 1 }) : wpAny (model prog w) A (call (.ref u) [key]) Q E s := by
  refine wpAny_call (codeAny_of_tree ?_)
  show wpAny _ A.in1 (callAny (.ref u) ⟨[key], []⟩) _ _ s
  simp only [callAny]
  refine wpAny_bind (wpAny_load ho ?_)
  simp only [bc, show (Value.type "builtin_function_or_method" == Value.type "method" || Value.type "builtin_function_or_method" == Value.type "builtin_function_or_method" || Value.type "builtin_function_or_method" == Value.type "method-wrapper") = true by decide, if_true]
  refine KFB.if_so (by decide) ?_
  obtain ⟨o, es, ep, tb, hso, hex, hdat, _⟩ := id hS
  have hso' : s.heap.get? a = some { cls := .type "set", data := .set es ep tb } := by
    rw [hso]
    obtain ⟨c1, c2, c3, c4⟩ := o
    obtain ⟨x1, x2, x3⟩ := hex
    cases x1; cases x2; cases x3; cases hdat; rfl
  refine wpAny_bind (check_has_wp hso' ?_)
  refine wpAny_bind (wpAny_pure (wpAny_pure ?_))
  refine ⟨Code.quiet_builtin _ (by decide +kernel), codeAny_builtin entry_set_contains ?_⟩
  unfold Builtin.«frozenset.__contains__» Builtin.Frozenset.oneOther
  simp only [List.isEmpty_nil, bind_assoc]
  unfold Builtin.Frozenset.addrOf Builtin.Frozenset.withSetAsKey setContains
  refine wpAny_bind (wpAny_pure ?_)
  try dsimp only
  refine wpAny_bind (wpAny_pure ?_)
  try dsimp only
  refine wpAny_bind (wpAny_tryCatch ?_)
  refine wpAny_holding ?_
  refine wpAny_bind (knd.pyHash hkey ?_)
  refine wpAny_bind (wpAny_setFind_of (s := { s with toks := s.toks + 1 }) hkey hsc hS fun r hr => ?_)
  refine wpAny_pure ?_
  show wpAny _ _ (ret (Value.bool r.isSome)) _ _ _
  rw [hr]
  exact wpAny_pure h
end
end FX

end P34
section P35
theorem ru35 : True := by
  k_with_none
  k_with "m_stop" => (first | with_reducible show LCg.CompRest _ _ _ _ _ _ _ _ _ _ _ _ _ _ _ _ _ _ _ | with_reducible show LCt.CompRestT _ _ _ _ _ _ _ _ _ _ _ _ _ _ _ _ _ _ _ _)
  k_with "m_go0" => (repeat' ((fail_if_success (k_extra "m_stop")); first | (k_unfold; (try dsimp only)) | walk1 | (dsimp only; walk1) | (leave1; try dsimp only) | fail "no step"))
  k_with "m_go" => (((try k_fold) <;> (try dsimp only) <;> k_extra "m_go0" <;> (try k_fold)))
  k_with "m_inA" => (((case zzkX => assumption); (case zzkT => assumption); (case zzkl => k_is); (case zzk1 => exact rfl); (case zzk2 => exact rfl); (case zzk3 => exact rfl); (case zzk4 => decide); (case zzkc => k_is); (case zzkr => omega); (case zzkb => first | exact BindsTo.of_eq rfl | exact binds_K (by k_in) rfl (by k_is) rfl rfl rfl); (case zzko => exact locs rfl); intro _ _; walk_at "t_0"))
  k_with "m_inB" => (((case zzkX => assumption); (case zzkT => assumption); (case zzkl => k_is); (case zzk1 => exact rfl); (case zzk2 => exact rfl); (case zzk3 => exact rfl); (case zzkc => k_is); (case zzkr => omega); (case zzkb => first | exact BindsTo.of_eq rfl | exact binds_K (by k_in) rfl (by k_is) rfl rfl rfl); (case zzko => exact rfl); (case zzkn => decide +kernel); intro _ _ _ _; walk_at "t_1"))
  k_with "m_in1" => ((refine' freeze1 ?zzkX ?zzkT ?zzkl ?zzkc ?zzkr ?zzkb ?zzko ?_ ?zzk1 ?zzk2 ?zzk3 ?zzk4; k_extra "m_inA"))
  k_with "m_inC1" => ((refine' freezeC1 ?zzkX ?zzkT ?zzkl ?zzkc ?zzkr ?zzkb ?zzko ?zzkn ?_ ?zzk1 ?zzk2 ?zzk3; k_extra "m_inB"))
  k_with "m_in2" => ((refine' freeze2 ?zzkX ?zzkT ?zzkl ?zzkc ?zzkr ?zzkb ?zzko ?_ ?zzk1 ?zzk2 ?zzk3 ?zzk4; k_extra "m_inA"))
  k_with "m_inC2" => ((refine' freezeC2 ?zzkX ?zzkT ?zzkl ?zzkc ?zzkr ?zzkb ?zzko ?zzkn ?_ ?zzk1 ?zzk2 ?zzk3; k_extra "m_inB"))
  k_with "m_in3" => ((refine' freeze3 ?zzkX ?zzkT ?zzkl ?zzkc ?zzkr ?zzkb ?zzko ?_ ?zzk1 ?zzk2 ?zzk3 ?zzk4; k_extra "m_inA"))
  k_with "m_inC3" => ((refine' freezeC3 ?zzkX ?zzkT ?zzkl ?zzkc ?zzkr ?zzkb ?zzko ?zzkn ?_ ?zzk1 ?zzk2 ?zzk3; k_extra "m_inB"))
  k_with "m_in4" => ((refine' freeze4 ?zzkX ?zzkT ?zzkl ?zzkc ?zzkr ?zzkb ?zzko ?_ ?zzk1 ?zzk2 ?zzk3 ?zzk4; k_extra "m_inA"))
  k_with "m_inC4" => ((refine' freezeC4 ?zzkX ?zzkT ?zzkl ?zzkc ?zzkr ?zzkb ?zzko ?zzkn ?_ ?zzk1 ?zzk2 ?zzk3; k_extra "m_inB"))
  k_with "m_size" => (first | ((with_reducible refine z_sz ?_); omega) | ((with_reducible refine z_szl ?_); omega) | omega | (rw [sizeLine_eq]; omega) | (simp only [List.size_toArray, sizeLine_eq, List.length_append, List.length_cons, List.length_nil, List.length_map] at *; omega))
  k_with "eval ListComp" => ((k_here; k_dflt (first | ((with_reducible apply LCt.ListComp_T); (case F₀ => k_asm); (case hclos => with_unfolding_all rfl); (case hcell => decide); (case hkind => rfl); (case hnames => decide); (case hx => rfl); (case hs => intro _; with_unfolding_all rfl)) | ((with_reducible apply LCg.ListComp_U); (case F₀ => k_asm); (case hclos => with_unfolding_all rfl); (case hcell => decide); (case hkind => rfl); (case hnames => decide); (case hx => rfl); (case hs => intro _; with_unfolding_all rfl)))))
  k_with "exec Assign cons ListComp" => ((k_here; k_dflt (first | ((with_reducible apply LCt.Assign_ListComp_T); (case F₀ => k_asm); (case hLe => rfl); (case hsw => with_unfolding_all rfl); (case hclos => with_unfolding_all rfl); (case hcell => decide); (case hkind => rfl); (case hnames => decide); (case hx => rfl); (case hy => rfl); (case hp => rfl); (case hs => intro _; with_unfolding_all rfl)) | ((with_reducible apply LCg.Assign_ListComp_U); (case F₀ => k_asm); (case hLe => rfl); (case hsw => with_unfolding_all rfl); (case hclos => with_unfolding_all rfl); (case hcell => decide); (case hkind => rfl); (case hnames => decide); (case hx => rfl); (case hy => rfl); (case hp => rfl); (case hs => intro _; with_unfolding_all rfl)) | (refine wpAny_Assign_Name ?_))))
  k_with "CompSrcT" => ((k_here; k_dflt (first | (refine LCt.CompSrcT.ledger (by first | assumption | rfl) (by k_asm) (by k_asm) (by k_mem) (by k_extra "m_size") ?_; intro _) | (refine LCt.CompSrcT.base (by first | assumption | rfl) (by k_asm) (by k_asm) (by assumption) (by k_extra "m_size") ?_; intro _) | (refine LCt.CompSrcT.range (by first | assumption | rfl) (by k_asm) (by k_asm) (by assumption) (by first | decide | exact small_nat (by omega) | exact small_one (by omega) (by omega) (by omega) (by omega)) (by first | rfl | decide | exact rangeSize_nat _ _) (by k_extra "m_size") ?_; intro _))))
  k_with "CompSrc" => ((k_here; k_dflt (first | (refine LCg.CompSrc.ledger (by first | assumption | rfl) (by k_asm) (by k_asm) (by k_mem) (by k_extra "m_size") ?_; intro _) | (refine LCg.CompSrc.base (by first | assumption | rfl) (by k_asm) (by k_asm) (by assumption) (by k_extra "m_size") ?_; intro _) | (refine LCg.CompSrc.range (by first | assumption | rfl) (by k_asm) (by k_asm) (by assumption) (by first | decide | exact small_nat (by omega) | exact small_one (by omega) (by omega) (by omega) (by omega)) (by first | rfl | decide | exact rangeSize_nat _ _) (by k_extra "m_size") ?_; intro _))))
  k_with "m_arith" => (first | ((try simp only [depth_under_make, depth_under_kw, depth_in1, depth_deeper, units_in1, units_deeper, Around.mark_units]); omega) | (simp only [depth_under_make, depth_under_kw, depth_in1, depth_deeper, units_in1, units_deeper, Around.mark_units] at *; omega))
  k_with "m_p1" => (first | with_reducible assumption | exact And.left (by with_reducible assumption) | exact And.left (And.right (by with_reducible assumption)) | exact And.right (by with_reducible assumption) | exact And.left (And.right (And.right (by with_reducible assumption))) | exact And.right (And.right (by with_reducible assumption)) | exact And.left (And.right (And.right (And.right (by with_reducible assumption)))) | exact And.right (And.right (And.right (by with_reducible assumption))) | exact And.left (And.right (And.right (And.right (And.right (by with_reducible assumption))))) | exact And.right (And.right (And.right (And.right (by with_reducible assumption)))) | exact And.left (And.right (And.right (And.right (And.right (And.right (by with_reducible assumption)))))) | exact And.right (And.right (And.right (And.right (And.right (by with_reducible assumption))))) | exact And.left (And.right (And.right (And.right (And.right (And.right (And.right (by with_reducible assumption))))))) | exact And.right (And.right (And.right (And.right (And.right (And.right (by with_reducible assumption)))))) | exact And.left (And.right (And.right (And.right (And.right (And.right (And.right (And.right (by with_reducible assumption)))))))) | exact And.right (And.right (And.right (And.right (And.right (And.right (And.right (by with_reducible assumption))))))) | exact And.left (And.right (And.right (And.right (And.right (And.right (And.right (And.right (And.right (by with_reducible assumption))))))))) | exact And.right (And.right (And.right (And.right (And.right (And.right (And.right (And.right (by with_reducible assumption)))))))) | exact And.left (And.right (And.right (And.right (And.right (And.right (And.right (And.right (And.right (And.right (by with_reducible assumption)))))))))) | exact And.right (And.right (And.right (And.right (And.right (And.right (And.right (And.right (And.right (by with_reducible assumption))))))))) | exact And.left (And.right (And.right (And.right (And.right (And.right (And.right (And.right (And.right (And.right (And.right (by with_reducible assumption))))))))))) | exact And.right (And.right (And.right (And.right (And.right (And.right (And.right (And.right (And.right (And.right (by with_reducible assumption)))))))))) | exact And.left (And.right (And.right (And.right (And.right (And.right (And.right (And.right (And.right (And.right (And.right (And.right (by with_reducible assumption)))))))))))) | exact And.right (And.right (And.right (And.right (And.right (And.right (And.right (And.right (And.right (And.right (And.right (by with_reducible assumption))))))))))))
  k_with "m_p2" => (first | exact And.left (And.left (by with_reducible assumption)) | exact And.left (And.right (And.left (by with_reducible assumption))) | exact And.left (And.right (And.right (And.left (by with_reducible assumption)))) | exact And.left (And.right (And.right (And.right (And.left (by with_reducible assumption))))) | exact And.right (And.left (by with_reducible assumption)) | exact And.right (And.right (And.left (by with_reducible assumption))) | exact And.right (And.right (And.right (And.left (by with_reducible assumption)))) | exact And.left (And.left (And.right (by with_reducible assumption))) | exact And.left (And.right (And.left (And.right (by with_reducible assumption)))) | exact And.left (And.right (And.right (And.left (And.right (by with_reducible assumption))))) | exact And.left (And.right (And.right (And.right (And.left (And.right (by with_reducible assumption)))))) | exact And.right (And.left (And.right (by with_reducible assumption))) | exact And.right (And.right (And.left (And.right (by with_reducible assumption)))) | exact And.right (And.right (And.right (And.left (And.right (by with_reducible assumption))))) | exact And.left (And.left (And.right (And.right (by with_reducible assumption)))) | exact And.left (And.right (And.left (And.right (And.right (by with_reducible assumption))))) | exact And.left (And.right (And.right (And.left (And.right (And.right (by with_reducible assumption)))))) | exact And.left (And.right (And.right (And.right (And.left (And.right (And.right (by with_reducible assumption))))))) | exact And.right (And.left (And.right (And.right (by with_reducible assumption)))) | exact And.right (And.right (And.left (And.right (And.right (by with_reducible assumption))))) | exact And.right (And.right (And.right (And.left (And.right (And.right (by with_reducible assumption)))))) | exact And.left (And.left (And.right (And.right (And.right (by with_reducible assumption))))) | exact And.left (And.right (And.left (And.right (And.right (And.right (by with_reducible assumption)))))) | exact And.left (And.right (And.right (And.left (And.right (And.right (And.right (by with_reducible assumption))))))) | exact And.left (And.right (And.right (And.right (And.left (And.right (And.right (And.right (by with_reducible assumption)))))))) | exact And.right (And.left (And.right (And.right (And.right (by with_reducible assumption))))) | exact And.right (And.right (And.left (And.right (And.right (And.right (by with_reducible assumption)))))) | exact And.right (And.right (And.right (And.left (And.right (And.right (And.right (by with_reducible assumption))))))))
  k_with "m_ne" => (first | assumption | (refine Ne.symm ?_; assumption) | (refine Nat.ne_of_lt ?_; k_extra "m_p1") | (refine Nat.ne_of_gt ?_; k_extra "m_p1") | k_extra "m_p1" | (refine Ne.symm ?_; k_extra "m_p1") | k_extra "m_p2" | (refine Ne.symm ?_; k_extra "m_p2"))
  k_with "call ref" => ((k_here; (with_reducible show wpAny _ _ (call (Value.ref 59) _) _ _ _); k_dflt (refine' mk_entry ?zzk1 ?zzk2 ?zzk3 ?zzk4 ?zzkr ?_; (case zzk1 => k_asm); (case zzk2 => k_asm); (case zzk3 => k_asm); (case zzk4 => k_asm); (case zzkr => (simp only [depth_in1, depth_deeper]; omega)); intro _ _ _ _ _ _ _ _ _ _ _ _; walk_at "t_2")))
  k_with "assign Tuple" => ((k_here; k_dflt (refine' assign2 ?zzk1 ?zzk2 ?zzk3 ?zzk4 ?_; (case zzk1 => first | assumption | exact rfl); (case zzk2 => k_asm); (case zzk3 => k_asm); (case zzk4 => k_mem); intro _ _ _)))
  k_with "exec For Name Attribute cons nil" => ((k_here; k_dflt (refine For_at ?_)))
  k_with "exec For Name Name cons nil" => ((k_here; k_dflt (refine For_at ?_)))
  k_with "exec For Name Call cons nil" => ((k_here; k_dflt (refine For_at ?_)))
  k_with "exec For Name Tuple cons nil" => ((k_here; k_dflt (refine For_at ?_)))
  k_with "exec For Name List cons nil" => ((k_here; k_dflt (refine For_at ?_)))
  k_with "m_stop" => (with_reducible show ForAt _ _ _ _ _ _ _ _ _ _)
  k_with "m_up" => (first | exact ⟨_, by funext z; repeat' (first | rfl | split) <;> simp_all⟩ | exact ⟨_, _, by funext z; repeat' (first | rfl | split) <;> simp_all⟩ | exact ⟨_, _, _, by funext z; repeat' (first | rfl | split) <;> simp_all⟩)
  k_with "newList" => ((k_here; k_dflt (refine' newList_M ?zzk1 ?zzk2 ?zzk3 ?_; (case zzk1 => k_asm); (case zzk2 => k_asm); (case zzk3 => exact Nat.le_of_ble_eq_true rfl)); intro _ _ _ _; walk_at "t_3"))
  k_with "call ref" => ((k_here; (with_reducible show wpAny _ _ (call (Value.ref 119) _) _ _ _); k_dflt (refine' mk_nodeinfo ?zzk1 ?zzk2 ?zzk3 ?zzk4 ?zzkr ?zzkv ?_; (case zzk1 => k_asm); (case zzk2 => k_asm); (case zzk3 => k_asm); (case zzk4 => k_asm); (case zzkv => k_handed); (case zzkr => (simp only [depth_in1, depth_deeper]; omega)); intro _ _ _ _ _ _ _ _; walk_at "t_2")))
  k_with "call ref" => ((k_here; (with_reducible show wpAny _ _ (call (Value.ref 216) _) _ _ _); k_dflt (refine' mk_sorter ?zzk1 ?zzk2 ?zzk3 ?zzk4 ?zzkr ?_; (case zzk1 => k_asm); (case zzk2 => k_asm); (case zzk3 => k_asm); (case zzk4 => k_asm); (case zzkr => (simp only [depth_in1, depth_deeper]; omega)); intro _ _ _ _ _ _ _ _ _ _ _ _ _ _ _ _; walk_at "t_2")))
  k_with "getMethod ref" => ((k_here; (with_reducible show wpAny _ _ (getMethod (Value.ref _) (Str.ofString "get") _) _ _ _); k_dflt (refine kdg_method (knd := PySem.intKind _ _) (by k_asm) (by k_mem) (by assumption) ?_)))
  k_with "call builtin:dict.get" => ((k_here; k_dflt (refine kdg_get1 (knd := PySem.intKind _ _) (by k_asm) (by k_mem) (by assumption) (by assumption) (intKind_is _ _ _ _) _ (by assumption) ?_; (try dsimp only [Option.getD]))))
  k_with "subscriptTail Name Name ref int" => ((k_here; k_dflt (refine' kda_item (knd := PySem.intKind _ _) ?zzk1 ?zzk2 ?zzk3 ?zzk4 ?zzk5 ?_ ?zzk6 ?zzk7; (case zzk6 => with_unfolding_all rfl); (case zzk7 => intro _; with_unfolding_all rfl); (case zzk1 => k_asm); (case zzk2 => k_mem); (case zzk3 => assumption); (case zzk4 => exact intKind_is _ _ _ _); (case zzk5 => assumption))))
  k_with "setItem ref int" => ((k_here; k_dflt (refine' kda_set (knd := PySem.intKind _ _) ?zzF ?zzN ?zzU ?zzd (intKind_is _ _ _ _) ?zzz ?_; (case zzF => k_asm); (case zzN => k_asm); (case zzU => k_updF); (case zzd => assumption); (case zzz => rw [sizeLine_eq]; assumption)); intro _ _ _; walk_at "t_7"))
  k_with "call builtin:list.append" => ((k_here; (with_reducible show wpAny _ _ (call (Value.builtin _) [Value.ref _, _]) _ _ _); k_dflt (refine' append_K ?zzk1 ?zzk2 ?zzk3 ?_ ?zzz; (case zzk1 => k_asm); (case zzk2 => k_asm); (case zzk3 => k_upd); (case zzz => rw [sizeLine_eq]; omega); k_whole); intro _ _ _; (try k_sweep)))
  k_with "m_stop" => (with_reducible show WhileAt _ _ _ _ _ _ _ _ _)
  k_with "exec While" => ((k_here; k_dflt (refine While_at ?_)))
  k_with "exec While Name" => ((k_here; k_dflt (refine While_at ?_)))
  k_with "exec While Constant" => ((k_here; k_dflt (refine While_at ?_)))
  k_with "getAttr ref" => ((k_here; (with_reducible show wpAny _ _ (getAttr (Value.ref _) (Str.ofString "__next__") true) _ _ _); k_dflt (refine NX.next_N (by k_asm) (by k_asm) (by k_mem) ?_; intro _ _ _ _ _; walk_at "t_3")))
  k_with "call builtin:iter" => ((k_here; (with_reducible show wpAny _ _ (call (Value.builtin "iter") [Value.ref _]) _ _ _); k_dflt (refine NX.iter_N (by k_asm) (by k_asm) (by is_list) ?_; intro _ _ _ _; walk_at "t_3")))
  k_with "callWith ref" => ((k_here; (with_reducible show wpAny _ _ (callWith _ (Value.ref _) [] (backTo _ (starEach [] _)) []) _ _ _); k_dflt (with_unfolding_all refine NX.callWith_N (by k_asm) (by k_mem) ?_)))
  k_with "call ref" => ((k_here; (with_reducible show wpAny _ _ (call (Value.ref _) []) _ _ _); k_dflt (first | (refine' NX.item_N ?zzk1 ?zzk2 ?zzk3 ?zzk4 ?zzk5 ?zzk6 ?_; (case zzk1 => k_asm); (case zzk2 => k_asm); (case zzk4 => k_mem); (case zzk3 => k_updF); (case zzk5 => is_list); (case zzk6 => assumption); intro _ _; walk_at "t_8") | (refine' NX.end_N ?zzk0 ?zzk1 ?zzk2 ?zzk3 ?zzk4 ?zzk5 ?zzk6 ?_; (case zzk0 => assumption); (case zzk1 => k_asm); (case zzk2 => k_asm); (case zzk4 => k_mem); (case zzk3 => k_updF); (case zzk5 => is_list); (case zzk6 => assumption); intro _ _ _ _ _; walk_at "t_8"))))
  k_with "call builtin:list.pop" => ((k_here; (with_reducible show wpAny _ _ (call (Value.builtin _) [Value.ref _]) _ _ _); k_dflt (refine' NX.pop_N ?zzk1 ?zzk2 ?zzk3 ?zzk4 ?_; (case zzk1 => k_asm); (case zzk2 => k_asm); (case zzk3 => k_updF); (case zzk4 => omega); intro _ _; walk_at "t_8")))
  k_with "subscriptTail Name UnaryOp ref int" => ((k_here; k_dflt (refine' NX.last_N ?zzk1 ?zzk2 ?zzk3 ?_ ?zzk4; (case zzk1 => k_asm); (case zzk2 => k_mem); (case zzk3 => omega); (case zzk4 => with_unfolding_all rfl))))
  k_with "call builtin:len" => ((k_here; (with_reducible show wpAny _ _ (call (Value.builtin "len") [Value.ref _]) _ _ _); k_dflt (refine call_len_list (by is_list) (by omega) ?_)))
  k_with "truthy ref" => ((k_here; k_dflt (refine wpAny_truthy_list (by is_list) (by omega) ?_)))
  k_with "truthy ref" => ((k_here; k_dflt (first | (refine NX.truthy_nil (by k_asm) (by k_mem) ?_) | (refine NX.truthy_snoc (by k_asm) (by k_mem) (by omega) ?_))))
  trivial
section
variable {prog : Program} {w : World} {A : Around} {E : Value → Shared → Prop} {s : Shared} {h₀ : Heap} {env : Env} {x : Str} {px : Pos} {body : List Stmt} {Q : Flow → Shared → Prop} {L : Addr} {m : Str → Option Value} {news : List (Addr × Obj)}
theorem ForAt.bytes {b : Array UInt8} {tb : Tok} (hh : A.handled = none) (F : Fr h₀ L s.heap m) (N : News h₀ L s.heap news)
    (J : (Str → Option Value) → List (Addr × Obj) → Nat → (Str → Option Value) → List (Addr × Obj) → Prop) (h0 : J m news 0 m news)
    (turn : ∀ I i c t m₁ nw h tk oI (E' : Value → Shared → Prop), i < b.size → b[i]? = some c → J m news i m₁ nw → (∀ p ∈ nw, p.1 ≠ I) → Fr h₀ L h m₁ → News h₀ L h ((I, oI) :: nw) →
      wpAny (model prog w) A (assign (.Name x px) env (.int (c.toNat : Int) t)) (fun _ s₂ => wpAny (model prog w) A (execs body env) (ForPost h₀ L I oI (J m news (i + 1)) { s with heap := h, toks := tk } Q) E' s₂) E' { s with heap := h, toks := tk })
    (done : ∀ m₁ nw h tk, J m news b.size m₁ nw → Fr h₀ L h m₁ → News h₀ L h nw → Q .next { s with heap := h, toks := tk }) :
    ForAt prog w A env x px body Q (.bytes b tb) s := by
  refine KBw.pyIter_bytes ?_
  have up : LK s.heap (s.heap.push { cls := .type "bytes_iterator", data := .fields #[.bytes b tb, .int 0 0] }) := fun b o e => Heap.get?_push_of_some _ e
  exact for_gen (S := fun _ => True) (KBw.walks hh s.heap.objs.size b tb) (fun i h st => by obtain ⟨o, e, _⟩ := st; exact ⟨o, e⟩)
    (fun i h h' o nw st e e' k N S => by obtain ⟨o', q, r⟩ := st; rw [e] at q; cases q; exact ⟨_, e', r⟩) ⟨_, Heap.get?_push_size _ rfl, rfl, rfl⟩ (Nat.ne_of_gt F.ns.lt) (next_is_new F)
    (fun p hp => Nat.ne_of_lt (Heap.lt_size (N p hp).1)) (F.keeps up) (N.grown up) (J m news) (fun _ _ _ _ => trivial) h0 (fun i v m₁ nw h tk oI E' hi hP hJ off F N => by obtain ⟨c, u, hc, rfl⟩ := hP; exact turn _ i c u m₁ nw h tk oI E' hi hc hJ off F N) done
end
theorem ru35x0 : True := by
  k_with "call type:type" => (((with_reducible show wpAny _ _ (call (Value.type "type") [Value.bytes _ _]) _ _ _); (refine call_type_of (typeIs_bytes _ _ _) (by decide) ?_)))
  k_with "call type:type" => (((with_reducible show wpAny _ _ (call (Value.type "type") [Value.bool _]) _ _ _); (refine call_type_of (typeIs_bool' _ _) (by decide) ?_)))
  trivial

section
variable {w : World} {A : Around} {s : Shared} {mean : ExcName → Option Value} {mg mb : Str → Option Value} {Q E : Value → Shared → Prop}
set_option maxHeartbeats 4000000 in
theorem buffer_ok {b : Array UInt8} {tb : Tok}
    (KX : (hd.heap_39 w.params).In s.heap) (T : Top hd.view_39 LS mean mg mb s.heap) (hroom : A.depth + 10 < recursionLimit) (hu : A.units + 100 < cLine) (hh : A.handled = none)
    (hQ : ∀ h' tk, LK s.heap h' → Q (.bytes b tb) { s with heap := h', toks := tk }) :
    wpAny (model PR w) A (call (.ref 77) [.bytes b tb] []) Q E s := by
  walk_at "m_in1"
  walk_at "m_go"
  try dsimp only
  rename Fr _ _ _ _ => F9
  exact hQ _ _ F9.keep
set_option maxHeartbeats 4000000 in
theorem truth_ok
    (KX : (hd.heap_39 w.params).In s.heap) (T : Top hd.view_39 LS mean mg mb s.heap) (hroom : A.depth + 10 < recursionLimit) (hu : A.units + 100 < cLine) (hh : A.handled = none)
    (hQ : ∀ h' tk, LK s.heap h' → Q (.bool false) { s with heap := h', toks := tk }) :
    wpAny (model PR w) A (call (.ref 84) [.bool false] []) Q E s := by
  walk_at "m_in1"
  walk_at "m_go"
  try dsimp only
  rename Fr _ _ _ _ => F9
  exact hQ _ _ F9.keep
end
theorem ru35x2 : True := by
  k_with "call ref" => ((k_here; (with_reducible show wpAny _ _ (call (Value.ref 77) _) _ _ _); k_dflt (refine' buffer_ok ?zzk1 ?zzk2 ?zzkr ?zzku ?zzk3 ?_; (case zzk1 => exact Frag.In.keeps (by k_asm) (Fr.keep (by k_asm))); (case zzk2 => exact Top.keeps (by k_asm) (Fr.keep (by k_asm))); (case zzk3 => assumption); (case zzkr => (simp only [depth_in1, depth_deeper]; omega)); (case zzku => k_units); intro _ _; walk_at "t_6")))
  k_with "call ref" => ((k_here; (with_reducible show wpAny _ _ (call (Value.ref 84) _) _ _ _); k_dflt (refine' truth_ok ?zzk1 ?zzk2 ?zzkr ?zzku ?zzk3 ?_; (case zzk1 => exact Frag.In.keeps (by k_asm) (Fr.keep (by k_asm))); (case zzk2 => exact Top.keeps (by k_asm) (Fr.keep (by k_asm))); (case zzk3 => assumption); (case zzkr => (simp only [depth_in1, depth_deeper]; omega)); (case zzku => k_units); intro _ _; walk_at "t_6")))
  trivial

noncomputable def blc (lc c : Int) : Int := Builtin.bitAnd (Builtin.bitOr (lc * 2 ^ (8 : Int).toNat) c) 65535
theorem band_mask {x m : Int} {k : Nat} (h : m = 2 ^ k - 1) : 0 ≤ Builtin.bitAnd x m ∧ Builtin.bitAnd x m < 2 ^ k := by
  subst h
  rw [kbt_mask]
  have hp : (0 : Int) < 2 ^ k := Int.pow_pos (by decide)
  exact ⟨Int.emod_nonneg _ (Int.ne_of_gt hp), Int.emod_lt_of_pos _ hp⟩
theorem blc_in (lc c : Int) : 0 ≤ blc lc c ∧ blc lc c < 65536 := band_mask (k := 16) (by decide)
theorem bidx (x : Int) : 0 ≤ Builtin.bitAnd x 63 ∧ Builtin.bitAnd x 63 < 64 := band_mask (k := 6) (by decide)
theorem blc_abs {x : Int} (h : 0 ≤ x ∧ x < 65536) : x.natAbs < 2 ^ 64 := by omega
theorem ru35x4 : True := by
  k_with "binaryOp LShift int int" => ((k_here; (with_reducible refine lshift_int_small (by decide) (by decide) ?zzkb3 ?_); (case zzkb3 => assumption)))
  k_with "binaryOp RShift int int" => ((k_here; (with_reducible refine rshift_int ?zzkb1 ?_); (case zzkb1 => first | assumption | omega)))
  trivial

noncomputable def bch (x : Int) : Int := (([65, 66, 67, 68, 69, 70, 71, 72, 73, 74, 75, 76, 77, 78, 79, 80, 81, 82, 83, 84, 85, 86, 87, 88, 89, 90, 97, 98, 99, 100, 101, 102, 103, 104, 105, 106, 107, 108, 109, 110, 111, 112, 113, 114, 115, 116, 117, 118, 119, 120, 121, 122, 48, 49, 50, 51, 52, 53, 54, 55, 56, 57, 43, 47] : List UInt8).getD x.toNat 0).toNat
theorem bch_in (x : Int) : 0 ≤ bch x ∧ bch x < 256 := by
  unfold bch
  generalize List.getD _ _ _ = u
  have := u.toNat_lt
  omega
noncomputable def bput (lc lb : Int) : Int := bch (Builtin.bitAnd (lc.fdiv (2 ^ (lb - 6).toNat)) 63)
noncomputable def bwh : Nat → Int → Int → List Int → Int × List Int
  | 0, _, lb, out => (lb, out)
  | k + 1, lc, lb, out => if 6 ≤ lb then bwh k lc (lb - 6) (out ++ [bput lc lb]) else (lb, out)
theorem bwh_end {k : Nat} {lc lb : Int} {out : List Int} (h : ¬ 6 ≤ lb) : bwh k lc lb out = (lb, out) := by
  cases k with
  | zero => rfl
  | succ k => simp only [bwh, if_neg h]
theorem bwh_step {lc lb : Int} {out : List Int} (h : 6 ≤ lb) (h12 : lb ≤ 17) : bwh 3 lc (lb - 6) (out ++ [bput lc lb]) = bwh 3 lc lb out := by
  have e : bwh 3 lc lb out = bwh 2 lc (lb - 6) (out ++ [bput lc lb]) := by
    show (if 6 ≤ lb then _ else _) = _
    rw [if_pos h]
  rw [e]
  by_cases h6 : 6 ≤ lb - 6
  · show (if 6 ≤ lb - 6 then _ else _) = (if 6 ≤ lb - 6 then _ else _)
    rw [if_pos h6, if_pos h6, bwh_end (by omega), bwh_end (by omega)]
  · rw [bwh_end h6, bwh_end h6]
noncomputable def bstep (st : Int × Int × List Int) (c : Int) : Int × Int × List Int := (blc st.1 c, bwh 3 (blc st.1 c) (st.2.1 + 8) st.2.2)
noncomputable def bst (l : List Int) : Int × Int × List Int := l.foldl bstep (0, 0, [])
theorem bst_succ {b : Array UInt8} {i : Nat} {c : UInt8} (h : b[i]? = some c) : bst ((KBw.bInts b).take (i + 1)) = bstep (bst ((KBw.bInts b).take i)) (c.toNat : Int) := by
  unfold bst
  rw [List.take_add_one, KBw.ints_get h, List.foldl_append]
  rfl
theorem bin_app {out : List Int} (h : KBa.In out) (x : Int) : KBa.In (out ++ [bch x]) := fun n hn => by
  rcases List.mem_append.mp hn with q | q
  · exact h n q
  · rw [List.mem_singleton.mp q]; exact bch_in x
theorem b1_ov {a : Str} {m : Str → Option Value} {x y : Option Value} : (fun z => if z = a then x else (fun z => if z = a then y else m z) z) = fun z => if z = a then x else m z := by
  funext z
  by_cases e : z = a <;> simp [e]
theorem b3_fin {a b c : Str} (hab : a ≠ b) {m : Str → Option Value} {v v1 x y p q r : Option Value} :
    (fun z => if z = b then v else (fun z => if z = b then v1 else (if z = a then x else if z = c then y else (if z = a then p else if z = b then q else if z = c then r else m z))) z) = fun z => if z = a then x else if z = b then v else if z = c then y else m z := by
  funext z
  by_cases e1 : z = a
  · subst e1; simp [hab]
  · by_cases e2 : z = b
    · subst e2; simp [e1]
    · by_cases e3 : z = c
      · subst e3; simp [e1, e2]
      · simp [e1, e2, e3]
theorem b1_refl {a : Str} {m₀ : Str → Option Value} {x : Value} (h1 : m₀ a = some x) : m₀ = fun z => if z = a then some x else m₀ z := by
  funext z
  by_cases e1 : z = a
  · subst e1; simp [h1]
  · simp [e1]
theorem b3_refl {a b c : Str} {m₀ : Str → Option Value} {x y : Value} (h1 : m₀ a = some x) (h2 : m₀ b = some y) : m₀ = fun z => if z = a then some x else if z = b then some y else if z = c then m₀ c else m₀ z := by
  funext z
  by_cases e1 : z = a
  · subst e1; simp [h1]
  · by_cases e2 : z = b
    · subst e2; simp [h2, e1]
    · by_cases e3 : z = c
      · subst e3; simp [e1, e2]
      · simp [e1, e2, e3]
section
variable {w : World} {A : Around} {s : Shared} {mean : ExcName → Option Value} {mg mb : Str → Option Value} {Q E : Value → Shared → Prop}
set_option maxHeartbeats 4000000 in
theorem b2a_ok {b : Array UInt8} {tb : Tok}
    (KX : (hd.heap_39 w.params).In s.heap) (T : Top hd.view_39 LS mean mg mb s.heap) (hroom : A.depth + 20 < recursionLimit) (hu : A.units + 200 < cLine) (hh : A.handled = none)
    (hb : b.size ≤ 9) {lcE : Int} {outE : List Int} (hB : bst (KBw.bInts b) = (lcE, 0, outE))
    (hQ : ∀ t h' tk, LK s.heap h' → Q (.bytes (byteArr outE) t) { s with heap := h', toks := tk }) :
    wpAny (model PR w) A (call (.ref 92) [.bytes b tb] [(Str.ofString "newline", .bool false)]) Q E s := by
  refine' call_freeze (args := [.bytes b tb]) (kw := [(Str.ofString "newline", .bool false)]) (binds := [(Str.ofString "data", .bytes b tb), (Str.ofString "newline", .bool false)]) ?kX ?kT ?kl ?kc ?kr ?kb ?ko ?_ ?k1 ?k2 ?k3 ?k4
  case kX => assumption
  case kT => assumption
  case kl => k_is
  case k1 => exact rfl
  case k2 => exact rfl
  case k3 => exact rfl
  case k4 => decide
  case kc => k_is
  case kr => omega
  case kb => first | exact BindsTo.of_eq rfl | exact binds_K (by k_in) rfl (by k_is) rfl rfl rfl
  case ko => exact locs rfl
  intro L' h' hL F' N'
  clear hL
  (try dsimp only [List.reverse_cons, List.reverse_nil, List.nil_append, List.cons_append] at F')
  (try dsimp only)
  walk_at "m_go"
  walk_at "m_stop"
  rename Fr _ _ _ _ => F9
  rename News _ _ _ _ => N8
  rename_i D _ _ _ _ _
  refine ForAt.bytes hh F9 N8 (fun m₀ nw₀ i m nw => ∃ lc lb out us n t1 t2 u3, m = (fun z => if z = Str.ofString "leftchar" then some (.int lc t1) else if z = Str.ofString "leftbits" then some (.int lb t2) else if z = Str.ofString "b" then u3 else m₀ z) ∧ nw = [(D, W.listOf (List.toArray us) n)] ∧ IntsAre us out ∧ (0 ≤ lc ∧ lc < 65536) ∧ (0 ≤ lb ∧ lb ≤ 5) ∧ 6 * (out.length : Int) + lb = 8 * (i : Int) ∧ KBa.In out ∧ bst ((KBw.bInts b).take i) = (lc, lb, out)) ⟨0, 0, [], [], 0, _, _, _, b3_refl rfl rfl, rfl, .nil, by decide, by decide, by decide, (fun _ h => nomatch h), rfl⟩ ?_ ?_
  · clear F9 N8
    intro I i c t m₁ nw h tk oI E' hi hc hJ09 off F N
    try k_fold
    obtain ⟨lc, lb, out, us, n, t1, t2, u3, rfl, rfl, hI, hl, hb0, hlen, hin, hst⟩ := hJ09
    have z1 : @Ne Nat D I := off _ (.head _)
    have ha := blc_abs hl
    have hl2 := blc_in lc (c.toNat : Int)
    walk_at "m_go"
    walk_at "m_stop"
    rename Fr _ _ _ _ => F9
    rename News _ _ _ _ => N8
    refine WhileAt.inv (n := (lb + 8).toNat) (fun m₀ n m nw => ∃ lb2 out2 us2 n2 t2, m = (fun z => if z = Str.ofString "leftbits" then some (.int lb2 t2) else m₀ z) ∧ nw = [(I, oI), (D, W.listOf (List.toArray us2) n2)] ∧ IntsAre us2 out2 ∧ lb2 = (n : Int) ∧ lb2 ≤ 13 ∧ 6 * (out2.length : Int) + lb2 = 8 * ((i + 1 : Nat) : Int) ∧ KBa.In out2 ∧ bwh 3 (blc lc (c.toNat : Int)) lb2 out2 = bwh 3 (blc lc (c.toNat : Int)) (lb + 8) out) F9 N8 ⟨lb + 8, out, us, n, _, b1_refl rfl, rfl, hI, by omega, by omega, by omega, hin, rfl⟩ ?_
    clear F9 N8 hI hin
    intro nn m₁ nw h tk hJ09 F N
    try k_fold
    obtain ⟨lb2, out2, us2, n2, t2, rfl, rfl, hI, hn, h12, hlen2, hin, hwh⟩ := hJ09
    obtain ⟨hx0, hx1⟩ := bidx ((blc lc (c.toNat : Int)).fdiv (2 ^ (lb2 - 6).toNat))
    unfold blc at hx0 hx1
    have hz : us2.toArray.size ≤ 100 := by rw [List.size_toArray, hI.length]; omega
    walk_at "m_go"
    · rename Fr _ _ _ _ => F9
      rename News _ _ _ _ => N9
      have h6 : 6 ≤ lb2 := by assumption
      dsimp only [WPost]
      refine WTurn.intro (k := (lb2 - 6).toNat) (by omega) F9 N9 ⟨lb2 - 6, out2 ++ [bput (blc lc (c.toNat : Int)) lb2], _, _, _, b1_ov, rfl, (by rw [List.concat_eq_append]; exact hI.append (.cons _ _ .nil)), by omega, by omega, ?_, bin_app hin _, (bwh_step h6 (by omega)).trans hwh⟩
      rw [List.length_append]
      show 6 * ((out2.length + 1 : Nat) : Int) + (lb2 - 6) = _
      omega
    · rename Fr _ _ _ _ => F9
      rename News _ _ _ _ => N9
      have h6 : ¬ 6 ≤ lb2 := by assumption
      dsimp only [ForPost]
      refine TurnEnd.intro F9 N9 (fun p hp => by rw [List.mem_singleton.mp hp]; exact z1) ⟨blc lc (c.toNat : Int), lb2, out2, us2, n2, _, t2, _, b3_fin (by decide), rfl, hI, hl2, by omega, hlen2, hin, ?_⟩
      rw [bst_succ hc, hst]
      show (blc lc (c.toNat : Int), bwh 3 (blc lc (c.toNat : Int)) (lb + 8) out) = _
      rw [← hwh, bwh_end h6]
  · clear F9 N8
    intro m₁ nw h tk hJ09 F N
    try k_fold
    obtain ⟨lc, lb, out, us, n, t1, t2, u3, rfl, rfl, hI, hl, hb0, hlen, hin, hst⟩ := hJ09
    rw [← KBw.ints_length b, List.take_length, hB] at hst
    cases hst
    have hz : us.toArray.size ≤ 100 := by rw [List.size_toArray, hI.length]; omega
    try dsimp only
    walk_at "m_go"
    rename Fr _ _ _ _ => F9
    rename News _ _ _ _ => N9
    refine KBa.make_K F9 N9 hh (PySem.IsL.isList (n := n) (N9 _ (.head _)).1) hI hin (by omega) fun h' t' k F9 N9 _ => ?_
    exact hQ _ _ _ F9.keep
end
theorem ru35x6 : True := by
  k_with "call ref" => ((k_here; (with_reducible show wpAny _ _ (call (Value.ref 92) _ _) _ _ _); k_dflt (refine' b2a_ok ?zzk1 ?zzk2 ?zzkr ?zzku ?zzk3 ?zzkb ?zzkB ?_; (case zzk1 => exact Frag.In.keeps (by k_asm) (Fr.keep (by k_asm))); (case zzk2 => exact Top.keeps (by k_asm) (Fr.keep (by k_asm))); (case zzk3 => assumption); (case zzkb => assumption); (case zzkB => assumption); (case zzkr => (simp only [depth_in1, depth_deeper]; omega)); (case zzku => k_units); intro _ _ _; walk_at "t_6")))
  trivial

section
variable {w : World} {A : Around} {s : Shared} {mean : ExcName → Option Value} {mg mb : Str → Option Value} {Q E : Value → Shared → Prop}
set_option maxHeartbeats 4000000 in
theorem b64encode_ok {b : Array UInt8} {tb : Tok}
    (KX : (hd.heap_39 w.params).In s.heap) (T : Top hd.view_39 LS mean mg mb s.heap) (hroom : A.depth + 30 < recursionLimit) (hu : A.units + 300 < cLine) (hh : A.handled = none)
    (hb : b.size ≤ 9) {lcE : Int} {outE : List Int} (hB : bst (KBw.bInts b) = (lcE, 0, outE))
    (hQ : ∀ t h' tk, LK s.heap h' → Q (.bytes (byteArr outE) t) { s with heap := h', toks := tk }) :
    wpAny (model PR w) A (call (.ref 100) [.bytes b tb] []) Q E s := by
  refine' call_freeze (args := [.bytes b tb]) (kw := []) (binds := [(Str.ofString "s", .bytes b tb), (Str.ofString "altchars", .none)]) ?kX ?kT ?kl ?kc ?kr ?kb ?ko ?_ ?k1 ?k2 ?k3 ?k4
  case kX => assumption
  case kT => assumption
  case kl => k_is
  case k1 => exact rfl
  case k2 => exact rfl
  case k3 => exact rfl
  case k4 => decide
  case kc => k_is
  case kr => omega
  case kb => first | exact BindsTo.of_eq rfl | exact binds_K (by k_in) rfl (by k_is) rfl rfl rfl
  case ko => exact locs rfl
  intro L' h' hL F' N'
  clear hL
  (try dsimp only [List.reverse_cons, List.reverse_nil, List.nil_append, List.cons_append] at F')
  (try dsimp only)
  walk_at "m_go"
  try dsimp only
  rename Fr _ _ _ _ => F9
  exact hQ _ _ _ F9.keep
end
theorem ru35x7 : True := by
  k_with "call ref" => ((k_here; (with_reducible show wpAny _ _ (call (Value.ref 100) _ _) _ _ _); k_dflt (refine' b64encode_ok ?zzk1 ?zzk2 ?zzkr ?zzku ?zzk3 ?zzkb ?zzkB ?_; (case zzk1 => exact Frag.In.keeps (by k_asm) (Fr.keep (by k_asm))); (case zzk2 => exact Top.keeps (by k_asm) (Fr.keep (by k_asm))); (case zzk3 => assumption); (case zzkb => assumption); (case zzkB => assumption); (case zzkr => (simp only [depth_in1, depth_deeper]; omega)); (case zzku => k_units); intro _ _ _; walk_at "t_6")))
  trivial

noncomputable def blk : Int → List Int
  | 0 => [0, 16, 131]
  | 1 => [105, 183, 29]
  | _ => [251, 239, 190]
noncomputable def blt : Int → List Int
  | 0 => [65, 66, 67, 68]
  | 1 => [97, 98, 99, 100]
  | _ => [43, 43, 43, 43]
noncomputable def figAll : List (List Int) := [[0], [1], [2]] ++ ([0, 1, 2].flatMap fun a => [0, 1, 2].map fun b => [a, b]) ++ ([0, 1, 2].flatMap fun a => [0, 1, 2].flatMap fun b => [0, 1, 2].map fun c => [a, b, c])
theorem figAll_bst : ∀ r ∈ figAll, (bst (r.flatMap blk)).2 = (0, r.flatMap blt) := by decide +kernel

end P35
section P37
theorem ru37 : True := by
  k_with_none
  k_with "m_stop" => (first | with_reducible show LCg.CompRest _ _ _ _ _ _ _ _ _ _ _ _ _ _ _ _ _ _ _ | with_reducible show LCt.CompRestT _ _ _ _ _ _ _ _ _ _ _ _ _ _ _ _ _ _ _ _)
  k_with "m_go0" => (repeat' ((fail_if_success (k_extra "m_stop")); first | (k_unfold; (try dsimp only)) | walk1 | (dsimp only; walk1) | (leave1; try dsimp only) | fail "no step"))
  k_with "m_go" => (((try k_fold) <;> (try dsimp only) <;> k_extra "m_go0" <;> (try k_fold)))
  k_with "m_inA" => (((case zzkX => assumption); (case zzkT => assumption); (case zzkl => k_is); (case zzk1 => exact rfl); (case zzk2 => exact rfl); (case zzk3 => exact rfl); (case zzk4 => decide); (case zzkc => k_is); (case zzkr => omega); (case zzkb => first | exact BindsTo.of_eq rfl | exact binds_K (by k_in) rfl (by k_is) rfl rfl rfl); (case zzko => exact locs rfl); intro _ _; walk_at "t_0"))
  k_with "m_inB" => (((case zzkX => assumption); (case zzkT => assumption); (case zzkl => k_is); (case zzk1 => exact rfl); (case zzk2 => exact rfl); (case zzk3 => exact rfl); (case zzkc => k_is); (case zzkr => omega); (case zzkb => first | exact BindsTo.of_eq rfl | exact binds_K (by k_in) rfl (by k_is) rfl rfl rfl); (case zzko => exact rfl); (case zzkn => decide +kernel); intro _ _ _ _; walk_at "t_1"))
  k_with "m_in1" => ((refine' freeze1 ?zzkX ?zzkT ?zzkl ?zzkc ?zzkr ?zzkb ?zzko ?_ ?zzk1 ?zzk2 ?zzk3 ?zzk4; k_extra "m_inA"))
  k_with "m_inC1" => ((refine' freezeC1 ?zzkX ?zzkT ?zzkl ?zzkc ?zzkr ?zzkb ?zzko ?zzkn ?_ ?zzk1 ?zzk2 ?zzk3; k_extra "m_inB"))
  k_with "m_in2" => ((refine' freeze2 ?zzkX ?zzkT ?zzkl ?zzkc ?zzkr ?zzkb ?zzko ?_ ?zzk1 ?zzk2 ?zzk3 ?zzk4; k_extra "m_inA"))
  k_with "m_inC2" => ((refine' freezeC2 ?zzkX ?zzkT ?zzkl ?zzkc ?zzkr ?zzkb ?zzko ?zzkn ?_ ?zzk1 ?zzk2 ?zzk3; k_extra "m_inB"))
  k_with "m_in3" => ((refine' freeze3 ?zzkX ?zzkT ?zzkl ?zzkc ?zzkr ?zzkb ?zzko ?_ ?zzk1 ?zzk2 ?zzk3 ?zzk4; k_extra "m_inA"))
  k_with "m_inC3" => ((refine' freezeC3 ?zzkX ?zzkT ?zzkl ?zzkc ?zzkr ?zzkb ?zzko ?zzkn ?_ ?zzk1 ?zzk2 ?zzk3; k_extra "m_inB"))
  k_with "m_in4" => ((refine' freeze4 ?zzkX ?zzkT ?zzkl ?zzkc ?zzkr ?zzkb ?zzko ?_ ?zzk1 ?zzk2 ?zzk3 ?zzk4; k_extra "m_inA"))
  k_with "m_inC4" => ((refine' freezeC4 ?zzkX ?zzkT ?zzkl ?zzkc ?zzkr ?zzkb ?zzko ?zzkn ?_ ?zzk1 ?zzk2 ?zzk3; k_extra "m_inB"))
  k_with "m_size" => (first | ((with_reducible refine z_sz ?_); omega) | ((with_reducible refine z_szl ?_); omega) | omega | (rw [sizeLine_eq]; omega) | (simp only [List.size_toArray, sizeLine_eq, List.length_append, List.length_cons, List.length_nil, List.length_map] at *; omega))
  k_with "eval ListComp" => ((k_here; k_dflt (first | ((with_reducible apply LCt.ListComp_T); (case F₀ => k_asm); (case hclos => with_unfolding_all rfl); (case hcell => decide); (case hkind => rfl); (case hnames => decide); (case hx => rfl); (case hs => intro _; with_unfolding_all rfl)) | ((with_reducible apply LCg.ListComp_U); (case F₀ => k_asm); (case hclos => with_unfolding_all rfl); (case hcell => decide); (case hkind => rfl); (case hnames => decide); (case hx => rfl); (case hs => intro _; with_unfolding_all rfl)))))
  k_with "exec Assign cons ListComp" => ((k_here; k_dflt (first | ((with_reducible apply LCt.Assign_ListComp_T); (case F₀ => k_asm); (case hLe => rfl); (case hsw => with_unfolding_all rfl); (case hclos => with_unfolding_all rfl); (case hcell => decide); (case hkind => rfl); (case hnames => decide); (case hx => rfl); (case hy => rfl); (case hp => rfl); (case hs => intro _; with_unfolding_all rfl)) | ((with_reducible apply LCg.Assign_ListComp_U); (case F₀ => k_asm); (case hLe => rfl); (case hsw => with_unfolding_all rfl); (case hclos => with_unfolding_all rfl); (case hcell => decide); (case hkind => rfl); (case hnames => decide); (case hx => rfl); (case hy => rfl); (case hp => rfl); (case hs => intro _; with_unfolding_all rfl)) | (refine wpAny_Assign_Name ?_))))
  k_with "CompSrcT" => ((k_here; k_dflt (first | (refine LCt.CompSrcT.ledger (by first | assumption | rfl) (by k_asm) (by k_asm) (by k_mem) (by k_extra "m_size") ?_; intro _) | (refine LCt.CompSrcT.base (by first | assumption | rfl) (by k_asm) (by k_asm) (by assumption) (by k_extra "m_size") ?_; intro _) | (refine LCt.CompSrcT.range (by first | assumption | rfl) (by k_asm) (by k_asm) (by assumption) (by first | decide | exact small_nat (by omega) | exact small_one (by omega) (by omega) (by omega) (by omega)) (by first | rfl | decide | exact rangeSize_nat _ _) (by k_extra "m_size") ?_; intro _))))
  k_with "CompSrc" => ((k_here; k_dflt (first | (refine LCg.CompSrc.ledger (by first | assumption | rfl) (by k_asm) (by k_asm) (by k_mem) (by k_extra "m_size") ?_; intro _) | (refine LCg.CompSrc.base (by first | assumption | rfl) (by k_asm) (by k_asm) (by assumption) (by k_extra "m_size") ?_; intro _) | (refine LCg.CompSrc.range (by first | assumption | rfl) (by k_asm) (by k_asm) (by assumption) (by first | decide | exact small_nat (by omega) | exact small_one (by omega) (by omega) (by omega) (by omega)) (by first | rfl | decide | exact rangeSize_nat _ _) (by k_extra "m_size") ?_; intro _))))
  k_with "m_arith" => (first | ((try simp only [depth_under_make, depth_under_kw, depth_in1, depth_deeper, units_in1, units_deeper, Around.mark_units]); omega) | (simp only [depth_under_make, depth_under_kw, depth_in1, depth_deeper, units_in1, units_deeper, Around.mark_units] at *; omega))
  k_with "m_p1" => (first | with_reducible assumption | exact And.left (by with_reducible assumption) | exact And.left (And.right (by with_reducible assumption)) | exact And.right (by with_reducible assumption) | exact And.left (And.right (And.right (by with_reducible assumption))) | exact And.right (And.right (by with_reducible assumption)) | exact And.left (And.right (And.right (And.right (by with_reducible assumption)))) | exact And.right (And.right (And.right (by with_reducible assumption))) | exact And.left (And.right (And.right (And.right (And.right (by with_reducible assumption))))) | exact And.right (And.right (And.right (And.right (by with_reducible assumption)))) | exact And.left (And.right (And.right (And.right (And.right (And.right (by with_reducible assumption)))))) | exact And.right (And.right (And.right (And.right (And.right (by with_reducible assumption))))) | exact And.left (And.right (And.right (And.right (And.right (And.right (And.right (by with_reducible assumption))))))) | exact And.right (And.right (And.right (And.right (And.right (And.right (by with_reducible assumption)))))) | exact And.left (And.right (And.right (And.right (And.right (And.right (And.right (And.right (by with_reducible assumption)))))))) | exact And.right (And.right (And.right (And.right (And.right (And.right (And.right (by with_reducible assumption))))))) | exact And.left (And.right (And.right (And.right (And.right (And.right (And.right (And.right (And.right (by with_reducible assumption))))))))) | exact And.right (And.right (And.right (And.right (And.right (And.right (And.right (And.right (by with_reducible assumption)))))))) | exact And.left (And.right (And.right (And.right (And.right (And.right (And.right (And.right (And.right (And.right (by with_reducible assumption)))))))))) | exact And.right (And.right (And.right (And.right (And.right (And.right (And.right (And.right (And.right (by with_reducible assumption))))))))) | exact And.left (And.right (And.right (And.right (And.right (And.right (And.right (And.right (And.right (And.right (And.right (by with_reducible assumption))))))))))) | exact And.right (And.right (And.right (And.right (And.right (And.right (And.right (And.right (And.right (And.right (by with_reducible assumption)))))))))) | exact And.left (And.right (And.right (And.right (And.right (And.right (And.right (And.right (And.right (And.right (And.right (And.right (by with_reducible assumption)))))))))))) | exact And.right (And.right (And.right (And.right (And.right (And.right (And.right (And.right (And.right (And.right (And.right (by with_reducible assumption))))))))))))
  k_with "m_p2" => (first | exact And.left (And.left (by with_reducible assumption)) | exact And.left (And.right (And.left (by with_reducible assumption))) | exact And.left (And.right (And.right (And.left (by with_reducible assumption)))) | exact And.left (And.right (And.right (And.right (And.left (by with_reducible assumption))))) | exact And.right (And.left (by with_reducible assumption)) | exact And.right (And.right (And.left (by with_reducible assumption))) | exact And.right (And.right (And.right (And.left (by with_reducible assumption)))) | exact And.left (And.left (And.right (by with_reducible assumption))) | exact And.left (And.right (And.left (And.right (by with_reducible assumption)))) | exact And.left (And.right (And.right (And.left (And.right (by with_reducible assumption))))) | exact And.left (And.right (And.right (And.right (And.left (And.right (by with_reducible assumption)))))) | exact And.right (And.left (And.right (by with_reducible assumption))) | exact And.right (And.right (And.left (And.right (by with_reducible assumption)))) | exact And.right (And.right (And.right (And.left (And.right (by with_reducible assumption))))) | exact And.left (And.left (And.right (And.right (by with_reducible assumption)))) | exact And.left (And.right (And.left (And.right (And.right (by with_reducible assumption))))) | exact And.left (And.right (And.right (And.left (And.right (And.right (by with_reducible assumption)))))) | exact And.left (And.right (And.right (And.right (And.left (And.right (And.right (by with_reducible assumption))))))) | exact And.right (And.left (And.right (And.right (by with_reducible assumption)))) | exact And.right (And.right (And.left (And.right (And.right (by with_reducible assumption))))) | exact And.right (And.right (And.right (And.left (And.right (And.right (by with_reducible assumption)))))) | exact And.left (And.left (And.right (And.right (And.right (by with_reducible assumption))))) | exact And.left (And.right (And.left (And.right (And.right (And.right (by with_reducible assumption)))))) | exact And.left (And.right (And.right (And.left (And.right (And.right (And.right (by with_reducible assumption))))))) | exact And.left (And.right (And.right (And.right (And.left (And.right (And.right (And.right (by with_reducible assumption)))))))) | exact And.right (And.left (And.right (And.right (And.right (by with_reducible assumption))))) | exact And.right (And.right (And.left (And.right (And.right (And.right (by with_reducible assumption)))))) | exact And.right (And.right (And.right (And.left (And.right (And.right (And.right (by with_reducible assumption))))))))
  k_with "m_ne" => (first | assumption | (refine Ne.symm ?_; assumption) | (refine Nat.ne_of_lt ?_; k_extra "m_p1") | (refine Nat.ne_of_gt ?_; k_extra "m_p1") | k_extra "m_p1" | (refine Ne.symm ?_; k_extra "m_p1") | k_extra "m_p2" | (refine Ne.symm ?_; k_extra "m_p2"))
  k_with "call ref" => ((k_here; (with_reducible show wpAny _ _ (call (Value.ref 59) _) _ _ _); k_dflt (refine' mk_entry ?zzk1 ?zzk2 ?zzk3 ?zzk4 ?zzkr ?_; (case zzk1 => k_asm); (case zzk2 => k_asm); (case zzk3 => k_asm); (case zzk4 => k_asm); (case zzkr => (simp only [depth_in1, depth_deeper]; omega)); intro _ _ _ _ _ _ _ _ _ _ _ _; walk_at "t_2")))
  k_with "assign Tuple" => ((k_here; k_dflt (refine' assign2 ?zzk1 ?zzk2 ?zzk3 ?zzk4 ?_; (case zzk1 => first | assumption | exact rfl); (case zzk2 => k_asm); (case zzk3 => k_asm); (case zzk4 => k_mem); intro _ _ _)))
  k_with "exec For Name Attribute cons nil" => ((k_here; k_dflt (refine For_at ?_)))
  k_with "exec For Name Name cons nil" => ((k_here; k_dflt (refine For_at ?_)))
  k_with "exec For Name Call cons nil" => ((k_here; k_dflt (refine For_at ?_)))
  k_with "exec For Name Tuple cons nil" => ((k_here; k_dflt (refine For_at ?_)))
  k_with "exec For Name List cons nil" => ((k_here; k_dflt (refine For_at ?_)))
  k_with "m_stop" => (with_reducible show ForAt _ _ _ _ _ _ _ _ _ _)
  k_with "m_up" => (first | exact ⟨_, by funext z; repeat' (first | rfl | split) <;> simp_all⟩ | exact ⟨_, _, by funext z; repeat' (first | rfl | split) <;> simp_all⟩ | exact ⟨_, _, _, by funext z; repeat' (first | rfl | split) <;> simp_all⟩)
  k_with "newList" => ((k_here; k_dflt (refine' newList_M ?zzk1 ?zzk2 ?zzk3 ?_; (case zzk1 => k_asm); (case zzk2 => k_asm); (case zzk3 => exact Nat.le_of_ble_eq_true rfl)); intro _ _ _ _; walk_at "t_3"))
  k_with "call ref" => ((k_here; (with_reducible show wpAny _ _ (call (Value.ref 234) _) _ _ _); k_dflt (refine' record_ok ?zzk1 ?zzk2 ?zzkr ?zzk3 ?zzk4 ?zzk5 ?zzk6 ?_; (case zzk1 => exact Frag.In.keeps (by k_asm) (Fr.keep (by k_asm))); (case zzk2 => exact Top.keeps (by k_asm) (Fr.keep (by k_asm))); (case zzk4 => first | exact Heap.IsList.at (by assumption) (fun o e => Fr.keep (by k_asm) _ _ e) | exact News.isList (by k_asm) (by k_mem)); (case zzk5 => assumption); (case zzk3 => assumption); (case zzk6 => k_extra "m_size"); (case zzkr => (simp only [depth_in1, depth_deeper]; omega)); intro _ _ _ _ _ _ _ _ _ _ _; walk_at "t_4")))
  k_with "call ref" => ((k_here; (with_reducible show wpAny _ _ (call (Value.ref 227) _) _ _ _); k_dflt (refine' figures_ok ?zzk1 ?zzk2 ?zzkr ?zzk3 ?_; (case zzk1 => exact Frag.In.keeps (by k_asm) (Fr.keep (by k_asm))); (case zzk2 => exact Top.keeps (by k_asm) (Fr.keep (by k_asm))); (case zzk3 => assumption); (case zzkr => (simp only [depth_in1, depth_deeper]; omega)); intro _ _ _ _ _; walk_at "t_5")))
  k_with "call ref" => ((k_here; (with_reducible show wpAny _ _ (call (Value.ref 239) _) _ _ _); k_dflt (refine' within_ok ?zzk5 ?zzk6 ?zzk1 ?zzk2 ?zzkr ?zzku ?zzk3 ?_; (case zzk1 => exact Frag.In.keeps (by k_asm) (Fr.keep (by k_asm))); (case zzk2 => exact Top.keeps (by k_asm) (Fr.keep (by k_asm))); (case zzk3 => assumption); (case zzk5 => first | assumption | omega); (case zzk6 => first | assumption | omega); (case zzkr => (simp only [depth_in1, depth_deeper]; omega)); (case zzku => k_units); intro _ _; walk_at "t_6")))
  trivial
noncomputable def pblk : Int → String
  | 0 => "ABCD"
  | 1 => "abcd"
  | _ => "++++"
noncomputable def ptxt (r : List Int) : Str := Str.ofString (String.join (r.map pblk))
noncomputable def figL : List (List Int) := [[0], [1], [2]] ++ ([0, 1, 2].flatMap fun a => [0, 1, 2].map fun b => [a, b]) ++ ([0, 1, 2].flatMap fun a => [0, 1, 2].flatMap fun b => [0, 1, 2].map fun c => [a, b, c])
noncomputable def lows : List Str := ["abcd", "++++", "abcdabcd", "abcd++++", "++++abcd", "++++++++", "abcdabcdabcd", "abcdabcd++++", "abcd++++abcd", "abcd++++++++", "++++abcdabcd", "++++abcd++++", "++++++++abcd", "++++++++++++"].map Str.ofString
theorem ptxt_len : ∀ r ∈ figL, (ptxt r).length = 4 ∨ (ptxt r).length = 8 ∨ (ptxt r).length = 12 := by decide +kernel
theorem ptxt_low : ∀ r ∈ figL, Txt.lower (ptxt r) ∈ lows := by decide +kernel
theorem ptxt_split : ∀ r ∈ figL, Txt.split (ptxt r) (Str.ofString "/") = [ptxt r] := by decide +kernel
theorem ptxt_star : ∀ r ∈ figL, (ptxt r == Str.ofString "*") = false := by decide +kernel
theorem lows_inn : ∀ a ∈ lows, ∀ b ∈ lows, inn a b = within a b := by decide +kernel

end P37
section P38
theorem ru38 : True := by
  k_with_none
  k_with "m_stop" => (first | with_reducible show LCg.CompRest _ _ _ _ _ _ _ _ _ _ _ _ _ _ _ _ _ _ _ | with_reducible show LCt.CompRestT _ _ _ _ _ _ _ _ _ _ _ _ _ _ _ _ _ _ _ _)
  k_with "m_go0" => (repeat' ((fail_if_success (k_extra "m_stop")); first | (k_unfold; (try dsimp only)) | walk1 | (dsimp only; walk1) | (leave1; try dsimp only) | fail "no step"))
  k_with "m_go" => (((try k_fold) <;> (try dsimp only) <;> k_extra "m_go0" <;> (try k_fold)))
  k_with "m_inA" => (((case zzkX => assumption); (case zzkT => assumption); (case zzkl => k_is); (case zzk1 => exact rfl); (case zzk2 => exact rfl); (case zzk3 => exact rfl); (case zzk4 => decide); (case zzkc => k_is); (case zzkr => omega); (case zzkb => first | exact BindsTo.of_eq rfl | exact binds_K (by k_in) rfl (by k_is) rfl rfl rfl); (case zzko => exact locs rfl); intro _ _; walk_at "t_0"))
  k_with "m_inB" => (((case zzkX => assumption); (case zzkT => assumption); (case zzkl => k_is); (case zzk1 => exact rfl); (case zzk2 => exact rfl); (case zzk3 => exact rfl); (case zzkc => k_is); (case zzkr => omega); (case zzkb => first | exact BindsTo.of_eq rfl | exact binds_K (by k_in) rfl (by k_is) rfl rfl rfl); (case zzko => exact rfl); (case zzkn => decide +kernel); intro _ _ _ _; walk_at "t_1"))
  k_with "m_in1" => ((refine' freeze1 ?zzkX ?zzkT ?zzkl ?zzkc ?zzkr ?zzkb ?zzko ?_ ?zzk1 ?zzk2 ?zzk3 ?zzk4; k_extra "m_inA"))
  k_with "m_inC1" => ((refine' freezeC1 ?zzkX ?zzkT ?zzkl ?zzkc ?zzkr ?zzkb ?zzko ?zzkn ?_ ?zzk1 ?zzk2 ?zzk3; k_extra "m_inB"))
  k_with "m_in2" => ((refine' freeze2 ?zzkX ?zzkT ?zzkl ?zzkc ?zzkr ?zzkb ?zzko ?_ ?zzk1 ?zzk2 ?zzk3 ?zzk4; k_extra "m_inA"))
  k_with "m_inC2" => ((refine' freezeC2 ?zzkX ?zzkT ?zzkl ?zzkc ?zzkr ?zzkb ?zzko ?zzkn ?_ ?zzk1 ?zzk2 ?zzk3; k_extra "m_inB"))
  k_with "m_in3" => ((refine' freeze3 ?zzkX ?zzkT ?zzkl ?zzkc ?zzkr ?zzkb ?zzko ?_ ?zzk1 ?zzk2 ?zzk3 ?zzk4; k_extra "m_inA"))
  k_with "m_inC3" => ((refine' freezeC3 ?zzkX ?zzkT ?zzkl ?zzkc ?zzkr ?zzkb ?zzko ?zzkn ?_ ?zzk1 ?zzk2 ?zzk3; k_extra "m_inB"))
  k_with "m_in4" => ((refine' freeze4 ?zzkX ?zzkT ?zzkl ?zzkc ?zzkr ?zzkb ?zzko ?_ ?zzk1 ?zzk2 ?zzk3 ?zzk4; k_extra "m_inA"))
  k_with "m_inC4" => ((refine' freezeC4 ?zzkX ?zzkT ?zzkl ?zzkc ?zzkr ?zzkb ?zzko ?zzkn ?_ ?zzk1 ?zzk2 ?zzk3; k_extra "m_inB"))
  k_with "m_size" => (first | ((with_reducible refine z_sz ?_); omega) | ((with_reducible refine z_szl ?_); omega) | omega | (rw [sizeLine_eq]; omega) | (simp only [List.size_toArray, sizeLine_eq, List.length_append, List.length_cons, List.length_nil, List.length_map] at *; omega))
  k_with "eval ListComp" => ((k_here; k_dflt (first | ((with_reducible apply LCt.ListComp_T); (case F₀ => k_asm); (case hclos => with_unfolding_all rfl); (case hcell => decide); (case hkind => rfl); (case hnames => decide); (case hx => rfl); (case hs => intro _; with_unfolding_all rfl)) | ((with_reducible apply LCg.ListComp_U); (case F₀ => k_asm); (case hclos => with_unfolding_all rfl); (case hcell => decide); (case hkind => rfl); (case hnames => decide); (case hx => rfl); (case hs => intro _; with_unfolding_all rfl)))))
  k_with "exec Assign cons ListComp" => ((k_here; k_dflt (first | ((with_reducible apply LCt.Assign_ListComp_T); (case F₀ => k_asm); (case hLe => rfl); (case hsw => with_unfolding_all rfl); (case hclos => with_unfolding_all rfl); (case hcell => decide); (case hkind => rfl); (case hnames => decide); (case hx => rfl); (case hy => rfl); (case hp => rfl); (case hs => intro _; with_unfolding_all rfl)) | ((with_reducible apply LCg.Assign_ListComp_U); (case F₀ => k_asm); (case hLe => rfl); (case hsw => with_unfolding_all rfl); (case hclos => with_unfolding_all rfl); (case hcell => decide); (case hkind => rfl); (case hnames => decide); (case hx => rfl); (case hy => rfl); (case hp => rfl); (case hs => intro _; with_unfolding_all rfl)) | (refine wpAny_Assign_Name ?_))))
  k_with "CompSrcT" => ((k_here; k_dflt (first | (refine LCt.CompSrcT.ledger (by first | assumption | rfl) (by k_asm) (by k_asm) (by k_mem) (by k_extra "m_size") ?_; intro _) | (refine LCt.CompSrcT.base (by first | assumption | rfl) (by k_asm) (by k_asm) (by assumption) (by k_extra "m_size") ?_; intro _) | (refine LCt.CompSrcT.range (by first | assumption | rfl) (by k_asm) (by k_asm) (by assumption) (by first | decide | exact small_nat (by omega) | exact small_one (by omega) (by omega) (by omega) (by omega)) (by first | rfl | decide | exact rangeSize_nat _ _) (by k_extra "m_size") ?_; intro _))))
  k_with "CompSrc" => ((k_here; k_dflt (first | (refine LCg.CompSrc.ledger (by first | assumption | rfl) (by k_asm) (by k_asm) (by k_mem) (by k_extra "m_size") ?_; intro _) | (refine LCg.CompSrc.base (by first | assumption | rfl) (by k_asm) (by k_asm) (by assumption) (by k_extra "m_size") ?_; intro _) | (refine LCg.CompSrc.range (by first | assumption | rfl) (by k_asm) (by k_asm) (by assumption) (by first | decide | exact small_nat (by omega) | exact small_one (by omega) (by omega) (by omega) (by omega)) (by first | rfl | decide | exact rangeSize_nat _ _) (by k_extra "m_size") ?_; intro _))))
  k_with "m_arith" => (first | ((try simp only [depth_under_make, depth_under_kw, depth_in1, depth_deeper, units_in1, units_deeper, Around.mark_units]); omega) | (simp only [depth_under_make, depth_under_kw, depth_in1, depth_deeper, units_in1, units_deeper, Around.mark_units] at *; omega))
  k_with "m_p1" => (first | with_reducible assumption | exact And.left (by with_reducible assumption) | exact And.left (And.right (by with_reducible assumption)) | exact And.right (by with_reducible assumption) | exact And.left (And.right (And.right (by with_reducible assumption))) | exact And.right (And.right (by with_reducible assumption)) | exact And.left (And.right (And.right (And.right (by with_reducible assumption)))) | exact And.right (And.right (And.right (by with_reducible assumption))) | exact And.left (And.right (And.right (And.right (And.right (by with_reducible assumption))))) | exact And.right (And.right (And.right (And.right (by with_reducible assumption)))) | exact And.left (And.right (And.right (And.right (And.right (And.right (by with_reducible assumption)))))) | exact And.right (And.right (And.right (And.right (And.right (by with_reducible assumption))))) | exact And.left (And.right (And.right (And.right (And.right (And.right (And.right (by with_reducible assumption))))))) | exact And.right (And.right (And.right (And.right (And.right (And.right (by with_reducible assumption)))))) | exact And.left (And.right (And.right (And.right (And.right (And.right (And.right (And.right (by with_reducible assumption)))))))) | exact And.right (And.right (And.right (And.right (And.right (And.right (And.right (by with_reducible assumption))))))) | exact And.left (And.right (And.right (And.right (And.right (And.right (And.right (And.right (And.right (by with_reducible assumption))))))))) | exact And.right (And.right (And.right (And.right (And.right (And.right (And.right (And.right (by with_reducible assumption)))))))) | exact And.left (And.right (And.right (And.right (And.right (And.right (And.right (And.right (And.right (And.right (by with_reducible assumption)))))))))) | exact And.right (And.right (And.right (And.right (And.right (And.right (And.right (And.right (And.right (by with_reducible assumption))))))))) | exact And.left (And.right (And.right (And.right (And.right (And.right (And.right (And.right (And.right (And.right (And.right (by with_reducible assumption))))))))))) | exact And.right (And.right (And.right (And.right (And.right (And.right (And.right (And.right (And.right (And.right (by with_reducible assumption)))))))))) | exact And.left (And.right (And.right (And.right (And.right (And.right (And.right (And.right (And.right (And.right (And.right (And.right (by with_reducible assumption)))))))))))) | exact And.right (And.right (And.right (And.right (And.right (And.right (And.right (And.right (And.right (And.right (And.right (by with_reducible assumption))))))))))))
  k_with "m_p2" => (first | exact And.left (And.left (by with_reducible assumption)) | exact And.left (And.right (And.left (by with_reducible assumption))) | exact And.left (And.right (And.right (And.left (by with_reducible assumption)))) | exact And.left (And.right (And.right (And.right (And.left (by with_reducible assumption))))) | exact And.right (And.left (by with_reducible assumption)) | exact And.right (And.right (And.left (by with_reducible assumption))) | exact And.right (And.right (And.right (And.left (by with_reducible assumption)))) | exact And.left (And.left (And.right (by with_reducible assumption))) | exact And.left (And.right (And.left (And.right (by with_reducible assumption)))) | exact And.left (And.right (And.right (And.left (And.right (by with_reducible assumption))))) | exact And.left (And.right (And.right (And.right (And.left (And.right (by with_reducible assumption)))))) | exact And.right (And.left (And.right (by with_reducible assumption))) | exact And.right (And.right (And.left (And.right (by with_reducible assumption)))) | exact And.right (And.right (And.right (And.left (And.right (by with_reducible assumption))))) | exact And.left (And.left (And.right (And.right (by with_reducible assumption)))) | exact And.left (And.right (And.left (And.right (And.right (by with_reducible assumption))))) | exact And.left (And.right (And.right (And.left (And.right (And.right (by with_reducible assumption)))))) | exact And.left (And.right (And.right (And.right (And.left (And.right (And.right (by with_reducible assumption))))))) | exact And.right (And.left (And.right (And.right (by with_reducible assumption)))) | exact And.right (And.right (And.left (And.right (And.right (by with_reducible assumption))))) | exact And.right (And.right (And.right (And.left (And.right (And.right (by with_reducible assumption)))))) | exact And.left (And.left (And.right (And.right (And.right (by with_reducible assumption))))) | exact And.left (And.right (And.left (And.right (And.right (And.right (by with_reducible assumption)))))) | exact And.left (And.right (And.right (And.left (And.right (And.right (And.right (by with_reducible assumption))))))) | exact And.left (And.right (And.right (And.right (And.left (And.right (And.right (And.right (by with_reducible assumption)))))))) | exact And.right (And.left (And.right (And.right (And.right (by with_reducible assumption))))) | exact And.right (And.right (And.left (And.right (And.right (And.right (by with_reducible assumption)))))) | exact And.right (And.right (And.right (And.left (And.right (And.right (And.right (by with_reducible assumption))))))))
  k_with "m_ne" => (first | assumption | (refine Ne.symm ?_; assumption) | (refine Nat.ne_of_lt ?_; k_extra "m_p1") | (refine Nat.ne_of_gt ?_; k_extra "m_p1") | k_extra "m_p1" | (refine Ne.symm ?_; k_extra "m_p1") | k_extra "m_p2" | (refine Ne.symm ?_; k_extra "m_p2"))
  k_with "call ref" => ((k_here; (with_reducible show wpAny _ _ (call (Value.ref 59) _) _ _ _); k_dflt (refine' mk_entry ?zzk1 ?zzk2 ?zzk3 ?zzk4 ?zzkr ?_; (case zzk1 => k_asm); (case zzk2 => k_asm); (case zzk3 => k_asm); (case zzk4 => k_asm); (case zzkr => (simp only [depth_in1, depth_deeper]; omega)); intro _ _ _ _ _ _ _ _ _ _ _ _; walk_at "t_2")))
  k_with "assign Tuple" => ((k_here; k_dflt (refine' assign2 ?zzk1 ?zzk2 ?zzk3 ?zzk4 ?_; (case zzk1 => first | assumption | exact rfl); (case zzk2 => k_asm); (case zzk3 => k_asm); (case zzk4 => k_mem); intro _ _ _)))
  k_with "exec For Name Attribute cons nil" => ((k_here; k_dflt (refine For_at ?_)))
  k_with "exec For Name Name cons nil" => ((k_here; k_dflt (refine For_at ?_)))
  k_with "exec For Name Call cons nil" => ((k_here; k_dflt (refine For_at ?_)))
  k_with "exec For Name Tuple cons nil" => ((k_here; k_dflt (refine For_at ?_)))
  k_with "exec For Name List cons nil" => ((k_here; k_dflt (refine For_at ?_)))
  k_with "m_stop" => (with_reducible show ForAt _ _ _ _ _ _ _ _ _ _)
  k_with "m_up" => (first | exact ⟨_, by funext z; repeat' (first | rfl | split) <;> simp_all⟩ | exact ⟨_, _, by funext z; repeat' (first | rfl | split) <;> simp_all⟩ | exact ⟨_, _, _, by funext z; repeat' (first | rfl | split) <;> simp_all⟩)
  k_with "newList" => ((k_here; k_dflt (refine' newList_M ?zzk1 ?zzk2 ?zzk3 ?_; (case zzk1 => k_asm); (case zzk2 => k_asm); (case zzk3 => exact Nat.le_of_ble_eq_true rfl)); intro _ _ _ _; walk_at "t_3"))
  k_with "m_stop" => (with_reducible show WhileAt _ _ _ _ _ _ _ _ _)
  k_with "exec While" => ((k_here; k_dflt (refine While_at ?_)))
  k_with "exec While Name" => ((k_here; k_dflt (refine While_at ?_)))
  k_with "exec While Constant" => ((k_here; k_dflt (refine While_at ?_)))
  k_with "getAttr ref" => ((k_here; (with_reducible show wpAny _ _ (getAttr (Value.ref _) (Str.ofString "__next__") true) _ _ _); k_dflt (refine NX.next_N (by k_asm) (by k_asm) (by k_mem) ?_; intro _ _ _ _ _; walk_at "t_3")))
  k_with "call builtin:iter" => ((k_here; (with_reducible show wpAny _ _ (call (Value.builtin "iter") [Value.ref _]) _ _ _); k_dflt (refine NX.iter_N (by k_asm) (by k_asm) (by is_list) ?_; intro _ _ _ _; walk_at "t_3")))
  k_with "callWith ref" => ((k_here; (with_reducible show wpAny _ _ (callWith _ (Value.ref _) [] (backTo _ (starEach [] _)) []) _ _ _); k_dflt (with_unfolding_all refine NX.callWith_N (by k_asm) (by k_mem) ?_)))
  k_with "call ref" => ((k_here; (with_reducible show wpAny _ _ (call (Value.ref _) []) _ _ _); k_dflt (first | (refine' NX.item_N ?zzk1 ?zzk2 ?zzk3 ?zzk4 ?zzk5 ?zzk6 ?_; (case zzk1 => k_asm); (case zzk2 => k_asm); (case zzk4 => k_mem); (case zzk3 => k_updF); (case zzk5 => is_list); (case zzk6 => assumption); intro _ _; walk_at "t_8") | (refine' NX.end_N ?zzk0 ?zzk1 ?zzk2 ?zzk3 ?zzk4 ?zzk5 ?zzk6 ?_; (case zzk0 => assumption); (case zzk1 => k_asm); (case zzk2 => k_asm); (case zzk4 => k_mem); (case zzk3 => k_updF); (case zzk5 => is_list); (case zzk6 => assumption); intro _ _ _ _ _; walk_at "t_8"))))
  k_with "call builtin:list.pop" => ((k_here; (with_reducible show wpAny _ _ (call (Value.builtin _) [Value.ref _]) _ _ _); k_dflt (refine' NX.pop_N ?zzk1 ?zzk2 ?zzk3 ?zzk4 ?_; (case zzk1 => k_asm); (case zzk2 => k_asm); (case zzk3 => k_updF); (case zzk4 => omega); intro _ _; walk_at "t_8")))
  k_with "subscriptTail Name UnaryOp ref int" => ((k_here; k_dflt (refine' NX.last_N ?zzk1 ?zzk2 ?zzk3 ?_ ?zzk4; (case zzk1 => k_asm); (case zzk2 => k_mem); (case zzk3 => omega); (case zzk4 => with_unfolding_all rfl))))
  k_with "call builtin:len" => ((k_here; (with_reducible show wpAny _ _ (call (Value.builtin "len") [Value.ref _]) _ _ _); k_dflt (refine call_len_list (by is_list) (by omega) ?_)))
  k_with "truthy ref" => ((k_here; k_dflt (refine wpAny_truthy_list (by is_list) (by omega) ?_)))
  k_with "truthy ref" => ((k_here; k_dflt (first | (refine NX.truthy_nil (by k_asm) (by k_mem) ?_) | (refine NX.truthy_snoc (by k_asm) (by k_mem) (by omega) ?_))))
  trivial
namespace FX
theorem slot_filter_next : Slot "filter" "__next__" "filter.__next__" :=
  .of (owner := "filter") (n := "__next__") (by rw [typeLookup_type, builtinLookup_eq_fast]; kernel_rfl) (by decide +kernel) (by decide +kernel) (by decide +kernel)
    (by first | exact .inl (by decide +kernel) | exact .inr (by decide +kernel)) (by rw [isSubtype_type]; kernel_rfl)
theorem entry_filter_next : entryFor table "filter.__next__" = some Builtin.«filter.__next__» := entryFor_of_tree (by kernel_rfl)
theorem args_filter_next (a : Value) : argsOk "filter.__next__" ⟨[a], []⟩ := by unfold argsOk; kernel_rfl
theorem args_li_next (a : Value) : argsOk "list_iterator.__next__" ⟨[a], []⟩ := by unfold argsOk; kernel_rfl
section
variable {prog : Program} {w : World} {A : Around} {E : Value → Shared → Prop} {s : Shared} {z u a i l : Addr} {p : Nat} {xs : Array Value} {x : Value} {K : Type} [DecidableEq K] {knd : KeyKind prog w K} {k : K} {S : K → Bool} {n : Nat}
theorem fnext_turn {Q : Fin → Shared → Prop} (hz : s.heap.get? z = some (fo u i)) (hi : s.heap.get? i = some (fit l p)) (hl : s.heap.IsList l xs) (hx : xs[p]? = some x) (hu : s.heap.get? u = some (bc a)) (hkey : knd.is k x = true) (hsc : x.scannable = true)
    (hS : s.heap.SetOf knd a S n) (hai : a ≠ i) (hui : u ≠ i)
    (h : ∀ h' tk, h'.get? i = some (fit l (p + 1)) → Heap.SameBut i s.heap h' → Q (if S k = true then .done (.ret x) else .again (.builtin "filter.__next__" ⟨[.ref z], []⟩)) { s with heap := h', toks := tk }) :
    wpAny (model prog w) A (Builtin.«filter.__next__» ⟨[.ref z], []⟩) Q E s := by
  have hT : s.TypeIs (.ref i) "list_iterator" := ⟨_, hi, rfl⟩
  unfold Builtin.«filter.__next__»
  show wpAny _ _ (field (.ref z) 0 >>= _) _ _ s
  refine wpAny_bind (wpAny_field hz rfl (x := .ref u) rfl ?_)
  show wpAny _ _ (field (.ref z) 1 >>= _) _ _ s
  refine wpAny_bind (wpAny_field hz rfl (x := .ref i) rfl ?_)
  refine wpAny_bind (wpAny_callSpecial?_slot (name := Str.ofString "__next__") hT slot_listiter_next (wpAny_call_entry slot_listiter_next hT entry_listiter_next ?_ (args_li_next _)))
  obtain ⟨ol, hol, _, nl, hdl⟩ := hl
  show wpAny _ _ (field (.ref i) 0 >>= _) _ _ s
  refine wpAny_bind (wpAny_field hi rfl (x := .ref l) rfl ?_)
  show wpAny _ _ (if (Value.ref l == Value.none) = true then _ else _) _ _ s
  rw [if_neg (show ¬ ((Value.ref l == Value.none) = true) from Bool.false_ne_true)]
  show wpAny _ _ (field (.ref i) 1 >>= _) _ _ s
  refine wpAny_bind (wpAny_field hi rfl (x := .int p 0) rfl ?_)
  show wpAny _ _ (seqItems? (.ref l) >>= _) _ _ s
  refine wpAny_bind (wpAny_seqItems hol hdl ?_)
  simp only [Int.toNat_natCast, hx]
  refine wpAny_bind (wpAny_setField hi rfl (by simp) (wpAny_pure ⟨x, rfl, ?_⟩))
  have sb : Heap.SameBut i s.heap (s.heap.update i (Obj.mapFields (·.setIfInBounds 1 (.int (p + 1 : Nat) 0)))) := Heap.SameBut.update ..
  have hi' : (s.heap.update i (Obj.mapFields (·.setIfInBounds 1 (.int (p + 1 : Nat) 0)))).get? i = some (fit l (p + 1)) := Heap.get?_update_self _ hi rfl
  have hu' : (s.heap.update i (Obj.mapFields (·.setIfInBounds 1 (.int (p + 1 : Nat) 0)))).get? u = some (bc a) := (Heap.get?_update_other _ _ (Ne.symm hui)).trans hu
  have hS' : (s.heap.update i (Obj.mapFields (·.setIfInBounds 1 (.int (p + 1 : Nat) 0)))).SetOf knd a S n := by
    obtain ⟨o, es, ep, tb, hso, r⟩ := hS
    exact ⟨o, es, ep, tb, (Heap.get?_update_other _ _ (Ne.symm hai)).trans hso, r⟩
  try dsimp only
  refine wpAny_bind (wpAny_holding ?_)
  rw [if_neg (show ¬ ((Value.ref u == Value.none || Value.ref u == Value.type "bool") = true) from Bool.false_ne_true)]
  refine wpAny_bind (bc_call hu' hkey hsc hS' ?_)
  refine wpAny_holding (wpAny_truthy_bool ?_)
  have hh := h _ (s.toks + 1) hi' sb
  cases hk : S k
  · rw [hk] at hh
    exact wpAny_pure hh
  · rw [hk] at hh
    exact wpAny_pure hh
theorem fnext_end {Q : Fin → Shared → Prop} (hh : A.handled = none) (hz : s.heap.get? z = some (fo u i)) (hi : s.heap.get? i = some (fit l p)) (hl : s.heap.IsList l xs) (hx : xs[p]? = none)
    (h : ∀ h' e, Heap.NewExc (s.heap.update i (Obj.mapFields (·.setIfInBounds 0 .none))) h' e "StopIteration" → E (.ref e) { s with heap := h' }) :
    wpAny (model prog w) A (Builtin.«filter.__next__» ⟨[.ref z], []⟩) Q E s := by
  have hT : s.TypeIs (.ref i) "list_iterator" := ⟨_, hi, rfl⟩
  unfold Builtin.«filter.__next__»
  show wpAny _ _ (field (.ref z) 0 >>= _) _ _ s
  refine wpAny_bind (wpAny_field hz rfl (x := .ref u) rfl ?_)
  show wpAny _ _ (field (.ref z) 1 >>= _) _ _ s
  refine wpAny_bind (wpAny_field hz rfl (x := .ref i) rfl ?_)
  refine wpAny_bind (wpAny_callSpecial?_slot (name := Str.ofString "__next__") hT slot_listiter_next (wpAny_call_entry slot_listiter_next hT entry_listiter_next ?_ (args_li_next _)))
  obtain ⟨ol, hol, _, nl, hdl⟩ := hl
  show wpAny _ _ (field (.ref i) 0 >>= _) _ _ s
  refine wpAny_bind (wpAny_field hi rfl (x := .ref l) rfl ?_)
  show wpAny _ _ (if (Value.ref l == Value.none) = true then _ else _) _ _ s
  rw [if_neg (show ¬ ((Value.ref l == Value.none) = true) from Bool.false_ne_true)]
  show wpAny _ _ (field (.ref i) 1 >>= _) _ _ s
  refine wpAny_bind (wpAny_field hi rfl (x := .int p 0) rfl ?_)
  show wpAny _ _ (seqItems? (.ref l) >>= _) _ _ s
  refine wpAny_bind (wpAny_seqItems hol hdl ?_)
  simp only [Int.toNat_natCast, hx]
  refine wpAny_bind (wpAny_rule (wpAny_bind (wpAny_setField hi rfl (by simp) ?_)))
  show wpAny _ _ (newExc (.type "StopIteration") [] >>= _) _ _ _
  refine wpAny_bind (NX.new_stop fun h' e he => ?_)
  simp only [raiseNew]
  refine wpAny_bind (wpAny_handled ?_)
  rw [show A.in1.handled = none from hh]
  refine wpAny_bind (wpAny_pure (wpAny_throw ?_))
  exact h _ _ he
theorem fnext_body {R : Result → Shared → Prop} {kp : Nat → Bool} (hai : a ≠ i) (hui : u ≠ i) (hzi : z ≠ i) (hli : l ≠ i)
    (hall : ∀ q y, xs[q]? = some y → y.scannable = true ∧ ∃ k : K, knd.is k y = true ∧ S k = kp q) :
    ∀ (j p : Nat) (s : Shared) (A : Around), A.handled = none → xs.size = p + j → s.heap.get? z = some (fo u i) → s.heap.get? i = some (fit l p) → s.heap.IsList l xs → s.heap.get? u = some (bc a) → s.heap.SetOf knd a S n →
    (∀ q y h' tk, p ≤ q → xs[q]? = some y → kp q = true → (∀ r, p ≤ r → r < q → kp r = false) → h'.get? i = some (fit l (q + 1)) → Heap.SameBut i s.heap h' → R (.ok (.ret y)) { s with heap := h', toks := tk }) →
    ((∀ r, p ≤ r → r < xs.size → kp r = false) → ∀ h₁ h' e tk, Heap.SameBut i s.heap h₁ → Heap.NewExc h₁ h' e "StopIteration" → R (.error (.ref e)) { s with heap := h', toks := tk }) →
    wpAny (model prog w) A (Builtin.«filter.__next__» ⟨[.ref z], []⟩) (fun fin s' => match fin with | .done f => R (.ok f) s' | .again c' => c'.quiet = true ∧ ∀ B : Around, B.handled = none → codeAny (model prog w) B c' R s') (fun e s' => R (.error e) s') s := by
  intro j
  induction j with
  | zero =>
    intro p s A hh hp hz hi hl hu hS h1 h2
    exact fnext_end hh hz hi hl (Array.getElem?_eq_none (by omega)) fun h' e he => h2 (fun r hr1 hr2 => by omega) _ h' e s.toks (Heap.SameBut.update ..) he
  | succ j ih =>
    intro p s A hh hp hz hi hl hu hS h1 h2
    obtain ⟨y, hy⟩ : ∃ y, xs[p]? = some y := ⟨xs[p]'(by omega), by simp [show p < xs.size by omega]⟩
    obtain ⟨hsc, k, hkey, hkk⟩ := hall p y hy
    refine fnext_turn hz hi hl hy hu hkey hsc hS hai hui fun h' tk hi' sb => ?_
    rw [hkk]
    cases hk : kp p
    · simp only [Bool.false_eq_true, if_false]
      refine ⟨plainId_quiet (by decide +kernel) _, fun B hB => codeAny_builtin entry_filter_next (wpAny_mono (ih (p + 1) _ _ hB (by omega) (sb.extBut z _ hzi hz) hi' (hl.extBut sb.extBut hli) (sb.extBut u _ hui hu) ?_ ?_ ?_) (fun fin s' hf => ?_) fun _ _ x => x)⟩
      · obtain ⟨o, es, ep, tb, hso, r⟩ := hS
        exact ⟨o, es, ep, tb, sb.extBut a _ hai hso, r⟩
      · intro q y2 h'' tk2 hq hy2 hkq hr hi2 sb2
        refine h1 q y2 h'' tk2 (by omega) hy2 hkq (fun r hr1 hr2 => ?_) hi2 (sb.trans sb2)
        by_cases e : r = p
        · rw [e]; exact hk
        · exact hr r (by omega) hr2
      · intro hr h₁ h'' e tk2 sb2 he
        refine h2 (fun r hr1 hr2 => ?_) h₁ h'' e tk2 (sb.trans sb2) he
        by_cases e : r = p
        · rw [e]; exact hk
        · exact hr r (by omega) hr2
      · cases fin with
        | done f => exact hf
        | again c' => exact ⟨hf.1, hf.2 _ hB⟩
    · simp only [if_true]
      exact h1 p y h' tk (Nat.le_refl _) hy hk (fun r hr1 hr2 => by omega) hi' sb
theorem filter_next {Q : Option Value → Shared → Prop} {kp : Nat → Bool} (hh : A.handled = none) (hai : a ≠ i) (hui : u ≠ i) (hzi : z ≠ i) (hli : l ≠ i)
    (hall : ∀ q y, xs[q]? = some y → y.scannable = true ∧ ∃ k : K, knd.is k y = true ∧ S k = kp q) (hp : p ≤ xs.size)
    (hz : s.heap.get? z = some (fo u i)) (hi : s.heap.get? i = some (fit l p)) (hl : s.heap.IsList l xs) (hu : s.heap.get? u = some (bc a)) (hS : s.heap.SetOf knd a S n)
    (h1 : ∀ q y h' tk, p ≤ q → xs[q]? = some y → kp q = true → (∀ r, p ≤ r → r < q → kp r = false) → h'.get? i = some (fit l (q + 1)) → Heap.SameBut i s.heap h' → Q (some y) { s with heap := h', toks := tk })
    (h2 : (∀ r, p ≤ r → r < xs.size → kp r = false) → ∀ h' tk, Heap.ExtBut i s.heap h' → Q none { s with heap := h', toks := tk }) : wpAny (model prog w) A (pyNext (.ref z)) Q E s := by
  have hT : s.TypeIs (.ref z) "filter" := ⟨_, hz, rfl⟩
  unfold pyNext
  refine wpAny_bind (wpAny_attempt (wpAny_callSpecial?_slot (name := Str.ofString "__next__") hT slot_filter_next ?_))
  refine wpAny_call (codeAny_call_builtin slot_filter_next.plain entry_filter_next (slot_filter_next.check _ _ _ _ _ _ _ _ hT (args_filter_next _) ?_))
  refine wpAny_mono (fnext_body (R := fun r s' => match r with | .ok (.ret v) => Q (some v) s' | .ok _ => False | .error e => wpAny (model prog w) A (isInstance e (.type "StopIteration") >>= fun b => if b = true then pure none else throw e) Q E s') hai hui hzi hli hall (xs.size - p) p s _ hh (by omega) hz hi hl hu hS
    (fun q y h' tk a1 a2 a3 a4 a5 a6 => h1 q y h' tk a1 a2 a3 a4 a5 a6) (fun hr h₁ h' e tk sb he => ?_)) (fun fin s' hf => ?_) (fun e s' hf => ?_)
  · obtain ⟨ke, _, oe, ve, hoe, hce, _⟩ := he
    refine wpAny_bind (wpAny_isInstance (T := "StopIteration") (b := true) ⟨oe, hoe, hce⟩ isSubtype_stop ?_)
    exact wpAny_pure (h2 hr h' tk fun b o hb hbo => ke b o (sb.extBut b o hb hbo))
  · cases fin with
    | done f =>
      cases f with
      | ret v => exact wpAny_pure hf
      | _ => exact hf.elim
    | again c' =>
      refine ⟨hf.1, codeAny_mono (hf.2 _ hh) fun r s' hr => ?_⟩
      cases r with
      | error e => exact hr
      | ok f =>
        cases f with
        | ret v => exact wpAny_pure hr
        | _ => exact hr.elim
  · exact hf
end
theorem flt_skip {kp : Nat → Bool} {p : Nat} : ∀ d : Nat, (∀ r, p ≤ r → r < p + d → kp r = false) → (List.range (p + d)).filter kp = (List.range p).filter kp
  | 0, _ => rfl
  | d + 1, h => by
    rw [← Nat.add_assoc, List.range_succ, List.filter_append, flt_skip d (fun r h1 h2 => h r h1 (by omega))]
    simp [h (p + d) (by omega) (by omega)]
theorem flt_at {kp : Nat → Bool} {q : Nat} (hk : kp q = true) : ∀ d : Nat, ((List.range (q + 1 + d)).filter kp)[((List.range q).filter kp).length]? = some q
  | 0 => by
    rw [Nat.add_zero, List.range_succ, List.filter_append]
    simp [hk]
  | d + 1 => by
    have ih := flt_at hk d
    rw [← Nat.add_assoc, List.range_succ, List.filter_append, List.getElem?_append_left]
    · exact ih
    · exact (List.getElem?_eq_some_iff.mp ih).1
theorem slot_filter_iter : Slot "filter" "__iter__" "filter.__iter__" :=
  .of (owner := "filter") (n := "__iter__") (by rw [typeLookup_type, builtinLookup_eq_fast]; kernel_rfl) (by decide +kernel) (by decide +kernel) (by decide +kernel)
    (by first | exact .inl (by decide +kernel) | exact .inr (by decide +kernel)) (by rw [isSubtype_type]; kernel_rfl)
theorem entry_filter_iter : entryFor table "filter.__iter__" = some Builtin.«dict_keyiterator.__iter__» := entryFor_alias (id' := "dict_keyiterator.__iter__") (by kernel_rfl) rfl (by decide +kernel) (by kernel_rfl)
theorem args_filter_iter (a : Value) : argsOk "filter.__iter__" ⟨[a], []⟩ := by unfold argsOk; kernel_rfl
section
variable {prog : Program} {w : World} {A : Around} {z u a i l : Addr} {xs : Array Value} {K : Type} [DecidableEq K] {knd : KeyKind prog w K} {S : K → Bool} {n : Nat} {kp : Nat → Bool}
theorem filter_walks (hh : A.handled = none) (hai : a ≠ i) (hui : u ≠ i) (hzi : z ≠ i) (hli : l ≠ i)
    (hall : ∀ q y, xs[q]? = some y → y.scannable = true ∧ ∃ k : K, knd.is k y = true ∧ S k = kp q) :
    Walks prog w A z [z, u, a, i, l] [i] ((List.range xs.size).filter kp).length (fun j v => ∃ q, ((List.range xs.size).filter kp)[j]? = some q ∧ xs[q]? = some v)
      (fun j h => ∃ p, p ≤ xs.size ∧ ((List.range p).filter kp).length = j ∧ h.get? z = some (fo u i) ∧ h.get? i = some (fit l p) ∧ h.IsList l xs ∧ h.get? u = some (bc a) ∧ h.SetOf knd a S n) where
  sub := fun b hb => by rw [List.mem_singleton.mp hb]; simp
  frame := by
    rintro j h h' ⟨p, h1, h2, hz, hi, ⟨ol, hol, rl⟩, hu, ⟨o, es, ep, tb, hso, r⟩⟩ hk
    exact ⟨p, h1, h2, hk z (by simp) _ hz, hk i (by simp) _ hi, ⟨ol, hk l (by simp) _ hol, rl⟩, hk u (by simp) _ hu, ⟨o, es, ep, tb, hk a (by simp) _ hso, r⟩⟩
  item := by
    rintro j s Q E hj ⟨p, hp, hc, hz, hi, hl, hu, hS⟩ hQ
    refine filter_next hh hai hui hzi hli hall hp hz hi hl hu hS ?_ ?_
    · intro q y h' tk hpq hy hk hsk hi' sb
      have hqs : q < xs.size := (Array.getElem?_eq_some_iff.mp hy).1
      have e1 : (List.range q).filter kp = (List.range p).filter kp := by
        have := flt_skip (kp := kp) (p := p) (q - p) (fun r a1 a2 => hsk r a1 (by omega))
        rwa [show p + (q - p) = q by omega] at this
      have e2 := flt_at (q := q) hk (xs.size - (q + 1))
      rw [show q + 1 + (xs.size - (q + 1)) = xs.size by omega, e1, hc] at e2
      refine hQ y h' tk ⟨q, e2, hy⟩ ⟨q + 1, hqs, ?_, sb.extBut z _ hzi hz, hi', hl.extBut sb.extBut hli, sb.extBut u _ hui hu, ?_⟩ fun b o hb e => sb.extBut b o (fun h => hb (by simp [h])) e
      · rw [List.range_succ, List.filter_append, e1]
        simp [hk, hc]
      · obtain ⟨o, es, ep, tb, hso, r⟩ := hS
        exact ⟨o, es, ep, tb, sb.extBut a _ hai hso, r⟩
    · intro hsk
      have e1 := flt_skip (kp := kp) (p := p) (xs.size - p) (fun r a1 a2 => hsk r a1 (by omega))
      rw [show p + (xs.size - p) = xs.size by omega] at e1
      rw [e1, hc] at hj
      omega
  done := by
    rintro s Q E ⟨p, hp, hc, hz, hi, hl, hu, hS⟩ hQ
    refine filter_next hh hai hui hzi hli hall hp hz hi hl hu hS ?_ ?_
    · intro q y h' tk hpq hy hk hsk hi' sb
      have hqs : q < xs.size := (Array.getElem?_eq_some_iff.mp hy).1
      have e1 : (List.range q).filter kp = (List.range p).filter kp := by
        have := flt_skip (kp := kp) (p := p) (q - p) (fun r a1 a2 => hsk r a1 (by omega))
        rwa [show p + (q - p) = q by omega] at this
      have e2 := flt_at (q := q) hk (xs.size - (q + 1))
      rw [show q + 1 + (xs.size - (q + 1)) = xs.size by omega, e1, hc] at e2
      have := (List.getElem?_eq_some_iff.mp e2).1
      omega
    · exact fun _ h' tk he => hQ h' tk fun b o hb e => he b o (fun h => hb (by simp [h])) e
  self := by
    rintro j s Q E ⟨p, hp, hc, hz, _⟩ hQ
    have hT : s.TypeIs (.ref z) "filter" := ⟨_, hz, rfl⟩
    refine wpAny_pyIter_slot hT slot_filter_iter (wpAny_call_entry slot_filter_iter hT entry_filter_iter ?_ (args_filter_iter _))
    show wpAny _ _ (ret (.ref z)) _ _ s
    exact wpAny_pure ⟨_, rfl, "filter", _, hT, slot_filter_next.lookup, hQ⟩
end
end FX

end P38
section P39
namespace FX
theorem filter_no_len : typeLookup (.type "filter") "__len__" = pure none := by rw [typeLookup_type, builtinLookup_eq_fast]; kernel_rfl
theorem filter_no_hint : typeLookup (.type "filter") "__length_hint__" = pure none := by rw [typeLookup_type, builtinLookup_eq_fast]; kernel_rfl
section
variable {prog : Program} {w : World} {A : Around} {s : Shared} {R : Result → Shared → Prop}
variable {I S : Addr} {fp wr : List Addr} {n : Nat} {P : Nat → Value → Prop} {St : Nat → Heap → Prop}
theorem lf_init (W : Walks prog w A.in1 I fp wr n P St) (hT : s.TypeIs (.ref I) "filter") (hT' : ∀ h', (∀ b ∈ fp, ∀ o, s.heap.get? b = some o → h'.get? b = some o) → ∀ tk, ({ s with heap := h', toks := tk } : Shared).TypeIs (.ref I) "filter")
    (hst : St 0 s.heap) (hSf : S ∉ fp) (hI : I ∈ fp) (hS : s.heap.get? S = some { cls := .type "list", data := .seq #[] }) (hn : n ≤ sizeLine)
    (hR : ∀ h' tk acc c, (∀ b o, b ≠ S → b ∉ wr → s.heap.get? b = some o → h'.get? b = some o) → h'.get? S = some { cls := .type "list", dict := none, data := .seq acc c, slots := #[] } → ItemsOf P acc n → R (.ok (.ret .none)) { s with heap := h', toks := tk }) :
    wpAny (model prog w) A.in1 (Builtin.«list.__init__» ⟨[.ref S, .ref I], []⟩)
      (fun fin s' => match fin with | .done f => R (.ok f) s' | .again c' => c'.quiet = true ∧ codeAny (model prog w) A c' R s') (fun e s' => R (.error e) s') s := by
  have hSI : S ≠ I := fun e => hSf (e ▸ hI)
  show wpAny _ A.in1 (Builtin.List.listItems (.ref S) >>= _) _ _ s
  refine wpAny_bind ?_
  unfold Builtin.List.listItems
  refine wpAny_bind (wpAny_seqItems hS rfl (wpAny_pure ?_))
  show wpAny _ A.in1 (updateSeq S (fun _ => #[]) >>= _) _ _ s
  refine wpAny_bind (wpAny_updateSeq hS rfl ?_)
  have hS2 := Heap.get?_update_self (Obj.mapSeq (fun _ => (#[] : Array Value))) hS rfl
  have o2 : ∀ b o, b ≠ S → s.heap.get? b = some o → (s.heap.update S (Obj.mapSeq (fun _ => (#[] : Array Value)))).get? b = some o :=
    fun b o hb e => (Heap.get?_update_other _ _ (Ne.symm hb)).trans e
  have k2 : ∀ b ∈ fp, ∀ o, s.heap.get? b = some o → (s.heap.update S (Obj.mapSeq (fun _ => (#[] : Array Value)))).get? b = some o := fun b hb o e => o2 b o (fun h => hSf (h ▸ hb)) e
  have st2 := W.frame 0 _ _ hst k2
  have T2 := hT' _ k2 s.toks
  generalize (s.heap.update S (Obj.mapSeq (fun _ => (#[] : Array Value)))) = hp at hS2 o2 k2 st2 T2 ⊢
  refine wpAny_bind (wpAny_letGo ?_)
  unfold Builtin.List.listExtendWith
  refine wpAny_bind (wpAny_typeOf T2 ?_)
  have h1 : Builtin.List.listSameRef (.ref S) (.ref I) = false := by simp [Builtin.List.listSameRef, hSI]
  have h2 : (Value.type "filter" == Value.type "list") = false := by decide
  have h3 : (Value.type "filter" == Value.type "tuple") = false := by decide
  simp only [h1, h2, h3, Bool.or_false, Bool.false_eq_true, if_false]
  refine wpAny_bind (W.self 0 _ _ _ st2 ?_)
  refine wpAny_bind (wpAny_holding ?_)
  unfold Builtin.List.listLengthHint
  refine wpAny_bind (wpAny_specialOf T2 filter_no_len ?_)
  show wpAny _ A.in1 (specialOf (Value.ref I) (Str.ofString "__length_hint__") >>= _) _ _ _
  refine wpAny_bind (wpAny_specialOf T2 filter_no_hint ?_)
  refine wpAny_pure ?_
  refine wpAny_bind (wpAny_rule ?_)
  refine wpAny_bind ?_
  show wpAny _ A.in1 (updateSeq S (·.push .none) >>= fun _ => updateSeq S (·.pop)) _ _ _
  refine wpAny_bind (wpAny_updateSeq hS2 rfl ?_)
  have hS3 := Heap.get?_update_self (Obj.mapSeq (·.push Value.none)) hS2 rfl
  refine wpAny_updateSeq (hz := by seq_fits) hS3 rfl ?_
  have hS4 := Heap.get?_update_self (Obj.mapSeq (·.pop)) hS3 rfl
  have o4 : ∀ b o, b ≠ S → hp.get? b = some o → ((hp.update S (Obj.mapSeq (·.push Value.none))).update S (Obj.mapSeq (·.pop))).get? b = some o :=
    fun b o hb e => (Heap.get?_update_other _ _ (Ne.symm hb)).trans ((Heap.get?_update_other _ _ (Ne.symm hb)).trans e)
  have st4 := W.frame 0 _ _ st2 fun b hb o e => o4 b o (fun h => hSf (h ▸ hb)) e
  refine wpAny_pure ⟨plainId_quiet F.plain_extend_loop _, codeAny_extend_loopS W.toS hn _ hSf _ n 0 _ _ _ rfl (Nat.zero_le _) st4 hS4 (ItemsOf.nil P) fun s' acc' c' hm hS' hacc => ?_⟩
  obtain ⟨hp', g', d', tk', os'⟩ := s'
  obtain ⟨m1, m2, m3, m4, m5⟩ := hm
  cases m2; cases m3; cases m4
  exact hR hp' tk' acc' c' (fun b o hb hw e => m1 b o (by simp [hb, hw]) (o4 b o hb (o2 b o hb e))) hS' hacc
end
section
variable {prog : Program} {w : World} {A : Around} {E : Value → Shared → Prop} {s : Shared} {Q : Value → Shared → Prop}
variable {I : Addr} {fp wr : List Addr} {n : Nat} {P : Nat → Value → Prop} {St : Nat → Heap → Prop}
theorem call_lf {u i : Addr} (W : Walks prog w A.in1.in1 I fp wr n P St) (hz : s.heap.get? I = some (fo u i)) (hst : St 0 s.heap) (hfp : ∀ b ∈ fp, b < s.heap.objs.size) (hI : I ∈ fp) (hn : n ≤ sizeLine)
    (hQ : ∀ S h' tk acc c, S = s.heap.objs.size → s.heap.get? S = none → (∀ b o, b ∉ wr → s.heap.get? b = some o → h'.get? b = some o) → h'.get? S = some (listOf acc c) → ItemsOf P acc n → Q (.ref S) { s with heap := h', toks := tk }) :
    wpAny (model prog w) A (call (.type "list") [.ref I]) Q E s := by
  have hSf : s.heap.objs.size ∉ fp := fun hm => Nat.lt_irrefl _ (hfp _ hm)
  refine callType_codes (Q₁ := fun obj s₁ => obj = .ref s.heap.objs.size ∧ s₁ = { s with heap := s.heap.push { cls := .type "list", data := .seq #[] } }) F.called_list (F.typeCall_list_1 _) F.entry_list_init
    (code_list_new _ ⟨rfl, rfl⟩) fun obj s₁ h₁ => ?_
  obtain ⟨rfl, rfl⟩ := h₁
  have hS : (s.heap.push { cls := .type "list", data := .seq #[] }).get? s.heap.objs.size = some { cls := .type "list", data := .seq #[] } := Heap.get?_push_size _ rfl
  have hk : ∀ b o, s.heap.get? b = some o → (s.heap.push { cls := .type "list", data := .seq #[] }).get? b = some o := fun b o e => Heap.get?_push_of_some _ e
  refine ⟨⟨_, hS, rfl⟩, F.args_list_init_2 _ _, lf_init W ⟨_, hk _ _ hz, rfl⟩ (fun h' kh tk => ⟨_, kh I hI _ (hk _ _ hz), rfl⟩) (W.frame 0 _ _ hst fun b _ o e => hk b o e) hSf hI hS hn fun h' tk acc c kk hS' hacc => ?_⟩
  have hnone : s.heap.get? s.heap.objs.size = none := by
    cases q : s.heap.get? s.heap.objs.size with
    | none => rfl
    | some o => exact absurd (Heap.lt_size q) (Nat.lt_irrefl _)
  exact ⟨rfl, hQ _ _ _ _ _ rfl hnone (fun b o hb e => kk b o (fun h => by rw [h, hnone] at e; cases e) hb (hk b o e)) hS' hacc⟩
end
end FX

end P39
section P40
namespace FX
section
variable {prog : Program} {w : World} {K : Type} [DecidableEq K] {knd : KeyKind prog w K}
noncomputable def metOf (val : Nat → K) (i : Nat) (k : K) : Bool := (List.range i).any fun j => decide (k = val j)
theorem met_succ (val : Nat → K) (i : Nat) : (fun k => metOf val i k || decide (k = val i)) = metOf val (i + 1) := by
  funext k
  simp [metOf, List.range_succ]
theorem su_loop {A : Around} {R : Result → Shared → Prop} {I l S : Addr} {items : Array Value} (W : Walks prog w A.in1 I [I, l] [I] items.size (fun i v => items[i]? = some v) (fun i h => h.IsListIter I l i ∧ h.IsList l items))
    (hSf : S ∉ [I, l]) (val : Nat → K) (hval : ∀ (i : Nat) (v : Value), items[i]? = some v → knd.is (val i) v = true ∧ v.scannable = true) (hb : items.size + 1 < scanBound) :
    ∀ (k i m : Nat) (s : Shared), i + k = items.size → m ≤ i → s.heap.IsListIter I l i → s.heap.IsList l items → s.heap.SetOf knd S (metOf val i) m →
      (∀ h' tk m', m' ≤ items.size → (∀ b o, b ≠ S → b ≠ I → s.heap.get? b = some o → h'.get? b = some o) → h'.SetOf knd S (metOf val items.size) m' → R (.ok (.ret .none)) { s with heap := h', toks := tk }) →
      codeAny (model prog w) A (.builtin "set.update.loop" ⟨[.ref S, .ref I], []⟩) R s := by
  simp only [List.mem_cons, List.not_mem_nil, or_false, not_or] at hSf
  have sf : ∀ {a : Addr} {h h' : Heap} {f : K → Bool} {m : Nat}, (∀ o, h.get? a = some o → h'.get? a = some o) → h.SetOf knd a f m → h'.SetOf knd a f m := by
    rintro a h h' f m e ⟨o, es, ep, t, ho, rest⟩
    exact ⟨o, es, ep, t, e o ho, rest⟩
  intro k
  induction k with
  | zero =>
    intro i m s hi hm hit hl hS hR
    obtain rfl : i = items.size := by omega
    refine codeAny_builtin F.entry_set_update_loop ?_
    rw [Around.under_plainId F.plain_set_update_loop _]
    show wpAny _ A.in1 (pyNext (.ref I) >>= _) _ _ s
    refine wpAny_bind (W.done s _ _ ⟨hit, hl⟩ fun h' tk hk => ?_)
    refine wpAny_pure (hR h' tk m hm (fun b o _ h2 e => hk b o (by simpa using h2) e) (sf (fun o e => hk S o (by simpa using hSf.1) e) hS))
  | succ k ih =>
    intro i m s hi hm hit hl hS hR
    refine codeAny_builtin F.entry_set_update_loop ?_
    rw [Around.under_plainId F.plain_set_update_loop _]
    show wpAny _ A.in1 (pyNext (.ref I) >>= _) _ _ s
    refine wpAny_bind (W.item i s _ _ (by omega) ⟨hit, hl⟩ fun v h' tk hv st hk => ?_)
    obtain ⟨hkey, hsc⟩ := hval i v hv
    have hS' := sf (h' := h') (fun o e => hk S o (by simpa using hSf.1) e) hS
    show wpAny _ A.in1 (holding [v] (setAdd S v) >>= _) _ _ _
    refine wpAny_bind (wpAny_holding ?_)
    unfold setAdd
    refine wpAny_holding ?_
    refine wpAny_bind (knd.pyHash hkey ?_)
    refine wpAny_setAddHashed_of (knd := knd) hkey hsc hS' (by omega) fun h2 hsb hS2 => ?_
    rw [met_succ] at hS2
    refine wpAny_pure ⟨plainId_quiet F.plain_set_update_loop _, ih (i + 1) _ _ (by omega) ?_ (st.1.at fun o e => ?_) (st.2.at fun o e => ?_) hS2 fun h3 tk3 m' hm' hk' hS' => ?_⟩
    · split <;> omega
    · exact (hsb.2 I (fun h => hSf.1 h.symm)).trans e
    · exact (hsb.2 l (fun h => hSf.2 h.symm)).trans e
    · exact hR h3 tk3 m' hm' (fun b o h1 h2' e => hk' b o h1 h2' ((hsb.2 b h1).trans (hk b o (by simpa using h2') e))) hS'
end
section
variable {prog : Program} {w : World} {K : Type} [DecidableEq K] [BEq K] [LawfulBEq K] {knd : KeyKind prog w K} {A : Around} {E : Value → Shared → Prop} {s : Shared}
theorem set_new_at {obj : Value} {Q₁ : Value → Shared → Prop} (hn : ∀ led : Bool, Q₁ (.ref s.heap.objs.size) { s with heap := s.heap.push { cls := .type "set", dict := none, data := .set #[] 0 (.fresh 0 0 led) } }) :
    codeAny (model prog w) A (.call (.builtin "set.__new__") ⟨[.type "set", obj], []⟩) (wants Q₁ E) s := code_set_new_1 obj hn
set_option maxHeartbeats 4000000 in
theorem call_sfrom {l : Addr} {items : Array Value} {Q : Value → Shared → Prop} (hh : A.handled = none) (hl : s.heap.IsList l items) (val : Nat → K) (hval : ∀ (i : Nat) (v : Value), items[i]? = some v → knd.is (val i) v = true ∧ v.scannable = true) (hb : items.size + 1 < scanBound)
    (h : ∀ h' tk m, m ≤ items.size → LK s.heap h' → h'.SetOf knd s.heap.objs.size (metOf val items.size) m → Q (.ref s.heap.objs.size) { s with heap := h', toks := tk }) :
    wpAny (model prog w) A (call (.type "set") [.ref l]) Q E s := by
  obtain ⟨c, tl, hmro⟩ := F.called_set.mro
  have hmade := F.called_set.made
  have hsub := F.called_set.sub
  refine wpAny_call (codeAny_of_tree ?_)
  show wpAny _ _ (callAny (.type "set") _) _ _ _
  refine wpAny_pure ⟨Code.quiet_builtin _ (by decide +kernel), codeAny_builtin F.entry_type_call ?_⟩
  rw [Around.under_plain (weight_type_call_type "set" [.ref l] []) rfl]
  have h1 := F.called_set.notType
  have h2 := F.called_set.canCreate
  have hct := F.typeCall_set_1 (.ref l)
  repeat (any_goals (first | assumption | wp_step))
  refine codeAny_mono (set_new_at (E := E) (Q₁ := fun obj s₁ => ∃ led : Bool, obj = .ref s.heap.objs.size ∧ s₁ = { s with heap := s.heap.push { cls := .type "set", dict := none, data := .set #[] 0 (.fresh 0 0 led) } }) fun led => ⟨led, rfl, rfl⟩) fun r s₁ hr => ?_
  obtain _ | fl := r
  case error => exact hr
  cases fl
  case ret obj =>
    obtain ⟨led, rfl, rfl⟩ := hr
    have hS : (s.heap.push { cls := .type "set", dict := none, data := .set #[] 0 (.fresh 0 0 led) }).get? s.heap.objs.size = some { cls := .type "set", dict := none, data := .set #[] 0 (.fresh 0 0 led) } := Heap.get?_push_size _ rfl
    have hT : Shared.TypeIs { s with heap := s.heap.push { cls := .type "set", dict := none, data := .set #[] 0 (.fresh 0 0 led) } } (.ref s.heap.objs.size) "set" := ⟨_, hS, rfl⟩
    have hli := F.called_set.init.lookup
    have hbi := F.called_set.init.bind (.ref s.heap.objs.size)
    repeat (any_goals (first | assumption | wp_step))
    refine codeAny_mono (codeAny_call_builtin (R := wants (fun r s₂ => r = .none ∧ ∃ h' tk m, s₂ = { s with heap := h', toks := tk } ∧ m ≤ items.size ∧ LK s.heap h' ∧ h'.SetOf knd s.heap.objs.size (metOf val items.size) m) E)
      F.called_set.init.plain F.entry_set_init (check_set_init_1 hT ?_)) fun r₂ s₂ hr₂ => ?_
    · have hl1 := hl
      obtain ⟨ol, hol, hcl, nl, hdl⟩ := hl1
      obtain ⟨ocls, odict, odata, oslots⟩ := ol
      simp only at hcl hdl
      subst hcl; subst hdl
      have hlt : l < s.heap.objs.size := Heap.lt_size hol
      have hpk : ∀ b o, s.heap.get? b = some o → (s.heap.push { cls := .type "set", dict := none, data := .set #[] 0 (.fresh 0 0 led) }).get? b = some o := fun b o e => Heap.get?_push_of_some _ e
      have hpz : (s.heap.push { cls := .type "set", dict := none, data := .set #[] 0 (.fresh 0 0 led) }).objs.size = s.heap.objs.size + 1 := Heap.size_push ..
      generalize (s.heap.push { cls := .type "set", dict := none, data := .set #[] 0 (.fresh 0 0 led) }) = g at hS hT hpk hpz ⊢
      have hol' := hpk _ _ hol
      have hl2 : g.IsList l items := hl.at (fun o e => hpk _ _ e)
      have hsls := F.sub_list_set
      have hslf := F.sub_list_frozenset
      have hne : (Value.type "list" == Value.type "dict") = false := by decide
      unfold Builtin.«set.__init__» noKeywords Builtin.Frozenset.updateFrom
      generalize hPI : pyIter = PI
      wp_walk
      subst hPI
      refine wpAny_pyIter_list hl2 ?_
      refine wpAny_bind (wpAny_runValue ?_)
      try dsimp only
      have hlI : l ≠ g.objs.size := by rw [hpz]; exact Nat.ne_of_lt (Nat.lt_succ_of_lt hlt)
      have hS2 : (g.push { cls := .type "list_iterator", data := .fields #[.ref l, .int 0 0] }).get? s.heap.objs.size = some { cls := .type "set", dict := none, data := .set #[] 0 (.fresh 0 0 led) } := Heap.get?_push_of_some _ hS
      have W := Walks.list (prog := prog) (w := w) (A := A.in1.in1.in1) (by simp [hh]) g.objs.size l hlI items
      have hS3 : (g.push { cls := .type "list_iterator", data := .fields #[.ref l, .int 0 0] }).SetOf knd s.heap.objs.size (metOf val 0) 0 := (PyProof.Rows.setObjOf_fresh (knd := knd) led).setOf hS2 (by unfold scanBound; omega)
      have hI0 : (g.push { cls := .type "list_iterator", data := .fields #[.ref l, .int 0 0] }).IsListIter g.objs.size l 0 := ⟨_, Heap.get?_push_size _ rfl, rfl, rfl⟩
      have hL0 : (g.push { cls := .type "list_iterator", data := .fields #[.ref l, .int 0 0] }).IsList l items := hl2.push _
      refine su_loop (knd := knd) W ?_ val hval hb items.size 0 0 _ (Nat.zero_add _) (Nat.le_refl _) hI0 hL0 hS3 ?_
      · simp only [List.mem_cons, List.not_mem_nil, or_false, not_or]
        exact ⟨by rw [hpz]; exact Nat.ne_of_lt (Nat.lt_succ_self _), Nat.ne_of_gt hlt⟩
      · intro h' tk m hm hk hS'
        refine wpAny_pure ?_
        show wpAny _ _ (ret Value.none) _ _ _
        refine wpAny_pure ⟨rfl, h', tk, m, rfl, hm, fun b o e => ?_, hS'⟩
        have hbl := Heap.lt_size e
        exact hk b o (Nat.ne_of_lt hbl) (by rw [hpz]; exact Nat.ne_of_lt (Nat.lt_succ_of_lt hbl)) (Heap.get?_push_of_some _ (hpk _ _ e))
    · obtain _ | fl₂ := r₂
      case error => exact hr₂
      cases fl₂
      case ret r =>
        obtain ⟨rfl, h', tk, m, rfl, hm, hk, hS'⟩ := hr₂
        repeat (any_goals (first | assumption | wp_step))
        exact h _ _ _ hm hk hS'
      all_goals exact hr₂.elim
  all_goals exact hr.elim
end
end FX

end P40
section P41
theorem ru41 : True := by
  k_with_none
  k_with "m_stop" => (first | with_reducible show LCg.CompRest _ _ _ _ _ _ _ _ _ _ _ _ _ _ _ _ _ _ _ | with_reducible show LCt.CompRestT _ _ _ _ _ _ _ _ _ _ _ _ _ _ _ _ _ _ _ _)
  k_with "m_go0" => (repeat' ((fail_if_success (k_extra "m_stop")); first | (k_unfold; (try dsimp only)) | walk1 | (dsimp only; walk1) | (leave1; try dsimp only) | fail "no step"))
  k_with "m_go" => (((try k_fold) <;> (try dsimp only) <;> k_extra "m_go0" <;> (try k_fold)))
  k_with "m_inA" => (((case zzkX => assumption); (case zzkT => assumption); (case zzkl => k_is); (case zzk1 => exact rfl); (case zzk2 => exact rfl); (case zzk3 => exact rfl); (case zzk4 => decide); (case zzkc => k_is); (case zzkr => omega); (case zzkb => first | exact BindsTo.of_eq rfl | exact binds_K (by k_in) rfl (by k_is) rfl rfl rfl); (case zzko => exact locs rfl); intro _ _; walk_at "t_0"))
  k_with "m_inB" => (((case zzkX => assumption); (case zzkT => assumption); (case zzkl => k_is); (case zzk1 => exact rfl); (case zzk2 => exact rfl); (case zzk3 => exact rfl); (case zzkc => k_is); (case zzkr => omega); (case zzkb => first | exact BindsTo.of_eq rfl | exact binds_K (by k_in) rfl (by k_is) rfl rfl rfl); (case zzko => exact rfl); (case zzkn => decide +kernel); intro _ _ _ _; walk_at "t_1"))
  k_with "m_in1" => ((refine' freeze1 ?zzkX ?zzkT ?zzkl ?zzkc ?zzkr ?zzkb ?zzko ?_ ?zzk1 ?zzk2 ?zzk3 ?zzk4; k_extra "m_inA"))
  k_with "m_inC1" => ((refine' freezeC1 ?zzkX ?zzkT ?zzkl ?zzkc ?zzkr ?zzkb ?zzko ?zzkn ?_ ?zzk1 ?zzk2 ?zzk3; k_extra "m_inB"))
  k_with "m_in2" => ((refine' freeze2 ?zzkX ?zzkT ?zzkl ?zzkc ?zzkr ?zzkb ?zzko ?_ ?zzk1 ?zzk2 ?zzk3 ?zzk4; k_extra "m_inA"))
  k_with "m_inC2" => ((refine' freezeC2 ?zzkX ?zzkT ?zzkl ?zzkc ?zzkr ?zzkb ?zzko ?zzkn ?_ ?zzk1 ?zzk2 ?zzk3; k_extra "m_inB"))
  k_with "m_in3" => ((refine' freeze3 ?zzkX ?zzkT ?zzkl ?zzkc ?zzkr ?zzkb ?zzko ?_ ?zzk1 ?zzk2 ?zzk3 ?zzk4; k_extra "m_inA"))
  k_with "m_inC3" => ((refine' freezeC3 ?zzkX ?zzkT ?zzkl ?zzkc ?zzkr ?zzkb ?zzko ?zzkn ?_ ?zzk1 ?zzk2 ?zzk3; k_extra "m_inB"))
  k_with "m_in4" => ((refine' freeze4 ?zzkX ?zzkT ?zzkl ?zzkc ?zzkr ?zzkb ?zzko ?_ ?zzk1 ?zzk2 ?zzk3 ?zzk4; k_extra "m_inA"))
  k_with "m_inC4" => ((refine' freezeC4 ?zzkX ?zzkT ?zzkl ?zzkc ?zzkr ?zzkb ?zzko ?zzkn ?_ ?zzk1 ?zzk2 ?zzk3; k_extra "m_inB"))
  k_with "m_size" => (first | ((with_reducible refine z_sz ?_); omega) | ((with_reducible refine z_szl ?_); omega) | omega | (rw [sizeLine_eq]; omega) | (simp only [List.size_toArray, sizeLine_eq, List.length_append, List.length_cons, List.length_nil, List.length_map] at *; omega))
  k_with "eval ListComp" => ((k_here; k_dflt (first | ((with_reducible apply LCt.ListComp_T); (case F₀ => k_asm); (case hclos => with_unfolding_all rfl); (case hcell => decide); (case hkind => rfl); (case hnames => decide); (case hx => rfl); (case hs => intro _; with_unfolding_all rfl)) | ((with_reducible apply LCg.ListComp_U); (case F₀ => k_asm); (case hclos => with_unfolding_all rfl); (case hcell => decide); (case hkind => rfl); (case hnames => decide); (case hx => rfl); (case hs => intro _; with_unfolding_all rfl)))))
  k_with "exec Assign cons ListComp" => ((k_here; k_dflt (first | ((with_reducible apply LCt.Assign_ListComp_T); (case F₀ => k_asm); (case hLe => rfl); (case hsw => with_unfolding_all rfl); (case hclos => with_unfolding_all rfl); (case hcell => decide); (case hkind => rfl); (case hnames => decide); (case hx => rfl); (case hy => rfl); (case hp => rfl); (case hs => intro _; with_unfolding_all rfl)) | ((with_reducible apply LCg.Assign_ListComp_U); (case F₀ => k_asm); (case hLe => rfl); (case hsw => with_unfolding_all rfl); (case hclos => with_unfolding_all rfl); (case hcell => decide); (case hkind => rfl); (case hnames => decide); (case hx => rfl); (case hy => rfl); (case hp => rfl); (case hs => intro _; with_unfolding_all rfl)) | (refine wpAny_Assign_Name ?_))))
  k_with "CompSrcT" => ((k_here; k_dflt (first | (refine LCt.CompSrcT.ledger (by first | assumption | rfl) (by k_asm) (by k_asm) (by k_mem) (by k_extra "m_size") ?_; intro _) | (refine LCt.CompSrcT.base (by first | assumption | rfl) (by k_asm) (by k_asm) (by assumption) (by k_extra "m_size") ?_; intro _) | (refine LCt.CompSrcT.range (by first | assumption | rfl) (by k_asm) (by k_asm) (by assumption) (by first | decide | exact small_nat (by omega) | exact small_one (by omega) (by omega) (by omega) (by omega)) (by first | rfl | decide | exact rangeSize_nat _ _) (by k_extra "m_size") ?_; intro _))))
  k_with "CompSrc" => ((k_here; k_dflt (first | (refine LCg.CompSrc.ledger (by first | assumption | rfl) (by k_asm) (by k_asm) (by k_mem) (by k_extra "m_size") ?_; intro _) | (refine LCg.CompSrc.base (by first | assumption | rfl) (by k_asm) (by k_asm) (by assumption) (by k_extra "m_size") ?_; intro _) | (refine LCg.CompSrc.range (by first | assumption | rfl) (by k_asm) (by k_asm) (by assumption) (by first | decide | exact small_nat (by omega) | exact small_one (by omega) (by omega) (by omega) (by omega)) (by first | rfl | decide | exact rangeSize_nat _ _) (by k_extra "m_size") ?_; intro _))))
  k_with "m_arith" => (first | ((try simp only [depth_under_make, depth_under_kw, depth_in1, depth_deeper, units_in1, units_deeper, Around.mark_units]); omega) | (simp only [depth_under_make, depth_under_kw, depth_in1, depth_deeper, units_in1, units_deeper, Around.mark_units] at *; omega))
  k_with "m_p1" => (first | with_reducible assumption | exact And.left (by with_reducible assumption) | exact And.left (And.right (by with_reducible assumption)) | exact And.right (by with_reducible assumption) | exact And.left (And.right (And.right (by with_reducible assumption))) | exact And.right (And.right (by with_reducible assumption)) | exact And.left (And.right (And.right (And.right (by with_reducible assumption)))) | exact And.right (And.right (And.right (by with_reducible assumption))) | exact And.left (And.right (And.right (And.right (And.right (by with_reducible assumption))))) | exact And.right (And.right (And.right (And.right (by with_reducible assumption)))) | exact And.left (And.right (And.right (And.right (And.right (And.right (by with_reducible assumption)))))) | exact And.right (And.right (And.right (And.right (And.right (by with_reducible assumption))))) | exact And.left (And.right (And.right (And.right (And.right (And.right (And.right (by with_reducible assumption))))))) | exact And.right (And.right (And.right (And.right (And.right (And.right (by with_reducible assumption)))))) | exact And.left (And.right (And.right (And.right (And.right (And.right (And.right (And.right (by with_reducible assumption)))))))) | exact And.right (And.right (And.right (And.right (And.right (And.right (And.right (by with_reducible assumption))))))) | exact And.left (And.right (And.right (And.right (And.right (And.right (And.right (And.right (And.right (by with_reducible assumption))))))))) | exact And.right (And.right (And.right (And.right (And.right (And.right (And.right (And.right (by with_reducible assumption)))))))) | exact And.left (And.right (And.right (And.right (And.right (And.right (And.right (And.right (And.right (And.right (by with_reducible assumption)))))))))) | exact And.right (And.right (And.right (And.right (And.right (And.right (And.right (And.right (And.right (by with_reducible assumption))))))))) | exact And.left (And.right (And.right (And.right (And.right (And.right (And.right (And.right (And.right (And.right (And.right (by with_reducible assumption))))))))))) | exact And.right (And.right (And.right (And.right (And.right (And.right (And.right (And.right (And.right (And.right (by with_reducible assumption)))))))))) | exact And.left (And.right (And.right (And.right (And.right (And.right (And.right (And.right (And.right (And.right (And.right (And.right (by with_reducible assumption)))))))))))) | exact And.right (And.right (And.right (And.right (And.right (And.right (And.right (And.right (And.right (And.right (And.right (by with_reducible assumption))))))))))))
  k_with "m_p2" => (first | exact And.left (And.left (by with_reducible assumption)) | exact And.left (And.right (And.left (by with_reducible assumption))) | exact And.left (And.right (And.right (And.left (by with_reducible assumption)))) | exact And.left (And.right (And.right (And.right (And.left (by with_reducible assumption))))) | exact And.right (And.left (by with_reducible assumption)) | exact And.right (And.right (And.left (by with_reducible assumption))) | exact And.right (And.right (And.right (And.left (by with_reducible assumption)))) | exact And.left (And.left (And.right (by with_reducible assumption))) | exact And.left (And.right (And.left (And.right (by with_reducible assumption)))) | exact And.left (And.right (And.right (And.left (And.right (by with_reducible assumption))))) | exact And.left (And.right (And.right (And.right (And.left (And.right (by with_reducible assumption)))))) | exact And.right (And.left (And.right (by with_reducible assumption))) | exact And.right (And.right (And.left (And.right (by with_reducible assumption)))) | exact And.right (And.right (And.right (And.left (And.right (by with_reducible assumption))))) | exact And.left (And.left (And.right (And.right (by with_reducible assumption)))) | exact And.left (And.right (And.left (And.right (And.right (by with_reducible assumption))))) | exact And.left (And.right (And.right (And.left (And.right (And.right (by with_reducible assumption)))))) | exact And.left (And.right (And.right (And.right (And.left (And.right (And.right (by with_reducible assumption))))))) | exact And.right (And.left (And.right (And.right (by with_reducible assumption)))) | exact And.right (And.right (And.left (And.right (And.right (by with_reducible assumption))))) | exact And.right (And.right (And.right (And.left (And.right (And.right (by with_reducible assumption)))))) | exact And.left (And.left (And.right (And.right (And.right (by with_reducible assumption))))) | exact And.left (And.right (And.left (And.right (And.right (And.right (by with_reducible assumption)))))) | exact And.left (And.right (And.right (And.left (And.right (And.right (And.right (by with_reducible assumption))))))) | exact And.left (And.right (And.right (And.right (And.left (And.right (And.right (And.right (by with_reducible assumption)))))))) | exact And.right (And.left (And.right (And.right (And.right (by with_reducible assumption))))) | exact And.right (And.right (And.left (And.right (And.right (And.right (by with_reducible assumption)))))) | exact And.right (And.right (And.right (And.left (And.right (And.right (And.right (by with_reducible assumption))))))))
  k_with "m_ne" => (first | assumption | (refine Ne.symm ?_; assumption) | (refine Nat.ne_of_lt ?_; k_extra "m_p1") | (refine Nat.ne_of_gt ?_; k_extra "m_p1") | k_extra "m_p1" | (refine Ne.symm ?_; k_extra "m_p1") | k_extra "m_p2" | (refine Ne.symm ?_; k_extra "m_p2"))
  k_with "call ref" => ((k_here; (with_reducible show wpAny _ _ (call (Value.ref 59) _) _ _ _); k_dflt (refine' mk_entry ?zzk1 ?zzk2 ?zzk3 ?zzk4 ?zzkr ?_; (case zzk1 => k_asm); (case zzk2 => k_asm); (case zzk3 => k_asm); (case zzk4 => k_asm); (case zzkr => (simp only [depth_in1, depth_deeper]; omega)); intro _ _ _ _ _ _ _ _ _ _ _ _; walk_at "t_2")))
  k_with "assign Tuple" => ((k_here; k_dflt (refine' assign2 ?zzk1 ?zzk2 ?zzk3 ?zzk4 ?_; (case zzk1 => first | assumption | exact rfl); (case zzk2 => k_asm); (case zzk3 => k_asm); (case zzk4 => k_mem); intro _ _ _)))
  k_with "exec For Name Attribute cons nil" => ((k_here; k_dflt (refine For_at ?_)))
  k_with "exec For Name Name cons nil" => ((k_here; k_dflt (refine For_at ?_)))
  k_with "exec For Name Call cons nil" => ((k_here; k_dflt (refine For_at ?_)))
  k_with "exec For Name Tuple cons nil" => ((k_here; k_dflt (refine For_at ?_)))
  k_with "exec For Name List cons nil" => ((k_here; k_dflt (refine For_at ?_)))
  k_with "m_stop" => (with_reducible show ForAt _ _ _ _ _ _ _ _ _ _)
  k_with "m_up" => (first | exact ⟨_, by funext z; repeat' (first | rfl | split) <;> simp_all⟩ | exact ⟨_, _, by funext z; repeat' (first | rfl | split) <;> simp_all⟩ | exact ⟨_, _, _, by funext z; repeat' (first | rfl | split) <;> simp_all⟩)
  k_with "newList" => ((k_here; k_dflt (refine' newList_M ?zzk1 ?zzk2 ?zzk3 ?_; (case zzk1 => k_asm); (case zzk2 => k_asm); (case zzk3 => exact Nat.le_of_ble_eq_true rfl)); intro _ _ _ _; walk_at "t_3"))
  k_with "call ref" => ((k_here; (with_reducible show wpAny _ _ (call (Value.ref 234) _) _ _ _); k_dflt (refine' record_ok ?zzk1 ?zzk2 ?zzkr ?zzk3 ?zzk4 ?zzk5 ?zzk6 ?_; (case zzk1 => exact Frag.In.keeps (by k_asm) (Fr.keep (by k_asm))); (case zzk2 => exact Top.keeps (by k_asm) (Fr.keep (by k_asm))); (case zzk4 => first | exact Heap.IsList.at (by assumption) (fun o e => Fr.keep (by k_asm) _ _ e) | exact News.isList (by k_asm) (by k_mem)); (case zzk5 => assumption); (case zzk3 => assumption); (case zzk6 => k_extra "m_size"); (case zzkr => (simp only [depth_in1, depth_deeper]; omega)); intro _ _ _ _ _ _ _ _ _ _ _; walk_at "t_4")))
  k_with "call ref" => ((k_here; (with_reducible show wpAny _ _ (call (Value.ref 227) _) _ _ _); k_dflt (refine' figures_ok ?zzk1 ?zzk2 ?zzkr ?zzk3 ?_; (case zzk1 => exact Frag.In.keeps (by k_asm) (Fr.keep (by k_asm))); (case zzk2 => exact Top.keeps (by k_asm) (Fr.keep (by k_asm))); (case zzk3 => assumption); (case zzkr => (simp only [depth_in1, depth_deeper]; omega)); intro _ _ _ _ _; walk_at "t_5")))
  k_with "call ref" => ((k_here; (with_reducible show wpAny _ _ (call (Value.ref 239) _) _ _ _); k_dflt (refine' within_ok ?zzk5 ?zzk6 ?zzk1 ?zzk2 ?zzkr ?zzku ?zzk3 ?_; (case zzk1 => exact Frag.In.keeps (by k_asm) (Fr.keep (by k_asm))); (case zzk2 => exact Top.keeps (by k_asm) (Fr.keep (by k_asm))); (case zzk3 => assumption); (case zzk5 => first | assumption | omega); (case zzk6 => first | assumption | omega); (case zzkr => (simp only [depth_in1, depth_deeper]; omega)); (case zzku => k_units); intro _ _; walk_at "t_6")))
  k_with "compareOp NotEq ref ref" => ((k_here; k_dflt (first | refine ne_bools (by is_list) (by is_list) (by assumption) (by assumption) (by k_units) ?_ | refine ne_strs (by is_list) (by is_list) (by assumption) (by assumption) (by assumption) (by assumption) (by k_units) ?_)))
  k_with "compareOp Eq ref ref" => ((k_here; k_dflt (first | refine eq_bools (by is_list) (by is_list) (by assumption) (by assumption) (by k_units) ?_ | refine eq_strs (by is_list) (by is_list) (by assumption) (by assumption) (by assumption) (by assumption) (by k_units) ?_)))
  k_with "subscriptTail Name Name ref int" => ((k_here; k_dflt (refine' item_list ?zzk1 ?zzk2 ?zzk3 ?zzk4 ?_ ?zzk6; (case zzk6 => with_unfolding_all rfl); (case zzk1 => is_list); (case zzk4 => assumption); (case zzk2 => first | exact z_ge _ | omega); (case zzk3 => first | ((with_reducible refine z_63 ?_); omega) | omega))))
  k_with "m_stop" => (with_reducible show WhileAt _ _ _ _ _ _ _ _ _)
  k_with "exec While" => ((k_here; k_dflt (refine While_at ?_)))
  k_with "exec While Name" => ((k_here; k_dflt (refine While_at ?_)))
  k_with "exec While Constant" => ((k_here; k_dflt (refine While_at ?_)))
  k_with "getAttr ref" => ((k_here; (with_reducible show wpAny _ _ (getAttr (Value.ref _) (Str.ofString "__next__") true) _ _ _); k_dflt (refine NX.next_N (by k_asm) (by k_asm) (by k_mem) ?_; intro _ _ _ _ _; walk_at "t_3")))
  k_with "call builtin:iter" => ((k_here; (with_reducible show wpAny _ _ (call (Value.builtin "iter") [Value.ref _]) _ _ _); k_dflt (refine NX.iter_N (by k_asm) (by k_asm) (by is_list) ?_; intro _ _ _ _; walk_at "t_3")))
  k_with "callWith ref" => ((k_here; (with_reducible show wpAny _ _ (callWith _ (Value.ref _) [] (backTo _ (starEach [] _)) []) _ _ _); k_dflt (with_unfolding_all refine NX.callWith_N (by k_asm) (by k_mem) ?_)))
  k_with "call ref" => ((k_here; (with_reducible show wpAny _ _ (call (Value.ref _) []) _ _ _); k_dflt (first | (refine' NX.item_N ?zzk1 ?zzk2 ?zzk3 ?zzk4 ?zzk5 ?zzk6 ?_; (case zzk1 => k_asm); (case zzk2 => k_asm); (case zzk4 => k_mem); (case zzk3 => k_updF); (case zzk5 => is_list); (case zzk6 => assumption); intro _ _; walk_at "t_8") | (refine' NX.end_N ?zzk0 ?zzk1 ?zzk2 ?zzk3 ?zzk4 ?zzk5 ?zzk6 ?_; (case zzk0 => assumption); (case zzk1 => k_asm); (case zzk2 => k_asm); (case zzk4 => k_mem); (case zzk3 => k_updF); (case zzk5 => is_list); (case zzk6 => assumption); intro _ _ _ _ _; walk_at "t_8"))))
  k_with "call builtin:list.pop" => ((k_here; (with_reducible show wpAny _ _ (call (Value.builtin _) [Value.ref _]) _ _ _); k_dflt (refine' NX.pop_N ?zzk1 ?zzk2 ?zzk3 ?zzk4 ?_; (case zzk1 => k_asm); (case zzk2 => k_asm); (case zzk3 => k_updF); (case zzk4 => omega); intro _ _; walk_at "t_8")))
  k_with "subscriptTail Name UnaryOp ref int" => ((k_here; k_dflt (refine' NX.last_N ?zzk1 ?zzk2 ?zzk3 ?_ ?zzk4; (case zzk1 => k_asm); (case zzk2 => k_mem); (case zzk3 => omega); (case zzk4 => with_unfolding_all rfl))))
  k_with "call builtin:len" => ((k_here; (with_reducible show wpAny _ _ (call (Value.builtin "len") [Value.ref _]) _ _ _); k_dflt (refine call_len_list (by is_list) (by omega) ?_)))
  k_with "truthy ref" => ((k_here; k_dflt (refine wpAny_truthy_list (by is_list) (by omega) ?_)))
  k_with "truthy ref" => ((k_here; k_dflt (first | (refine NX.truthy_nil (by k_asm) (by k_mem) ?_) | (refine NX.truthy_snoc (by k_asm) (by k_mem) (by omega) ?_))))
  trivial
namespace FX
theorem ss_of : ∀ {vs : List Value} {as : List Str}, vs.length = as.length → (∀ (i : Nat) (v : Value), vs[i]? = some v → ∃ x t, as[i]? = some x ∧ v = .str x t) → StrsAre vs as
  | [], [], _, _ => .nil
  | [], _ :: _, h, _ => by simp at h
  | _ :: _, [], h, _ => by simp at h
  | v :: vs, a :: as, h, g => by
    obtain ⟨x, t, h1, h2⟩ := g 0 v rfl
    obtain rfl : a = x := Option.some.inj h1
    subst h2
    exact .cons _ _ (ss_of (by simpa using h) fun i v hv => g (i + 1) v (by simpa using hv))
theorem flt_map0 {α : Type} {p : α → Bool} {kp : Nat → Bool} : ∀ (ts : List α) (a : Nat), (∀ (q : Nat) t, ts[q]? = some t → kp (a + q) = p t) →
    (((List.range' a ts.length).filter kp).length = (ts.filter p).length) ∧ ∀ j q : Nat, ((List.range' a ts.length).filter kp)[j]? = some q → a ≤ q ∧ (ts.filter p)[j]? = ts[q - a]?
  | [], a, _ => by simp
  | t :: ts, a, h => by
    obtain ⟨i1, i2⟩ := flt_map0 (p := p) (kp := kp) ts (a + 1) fun q t' hq => by
      have := h (q + 1) t' (by simpa using hq)
      rwa [← Nat.add_assoc, Nat.add_right_comm] at this
    have h0 : kp a = p t := h 0 t rfl
    have sh : ∀ q, a + 1 ≤ q → (t :: ts)[q - a]? = ts[q - (a + 1)]? := fun q hq => by
      rw [show q - a = q - (a + 1) + 1 by omega, List.getElem?_cons_succ]
    rw [List.length_cons, List.range'_succ]
    cases hp : p t
    · rw [List.filter_cons_of_neg (by simp [h0, hp]), List.filter_cons_of_neg (by simp [hp])]
      refine ⟨i1, fun j q hj => ?_⟩
      obtain ⟨g1, g2⟩ := i2 j q hj
      exact ⟨by omega, by rw [g2, sh q g1]⟩
    · rw [List.filter_cons_of_pos (by simp [h0, hp]), List.filter_cons_of_pos (by simp [hp])]
      refine ⟨by simp [i1], fun j q hj => ?_⟩
      cases j with
      | zero =>
        obtain rfl : a = q := by simpa using hj
        simp
      | succ j =>
        obtain ⟨g1, g2⟩ := i2 j q (by simpa using hj)
        exact ⟨by omega, by rw [sh q g1, ← g2]; simp⟩
theorem flt_map {α : Type} {p : α → Bool} {ts : List α} {kp : Nat → Bool} (h : ∀ (q : Nat) t, ts[q]? = some t → kp q = p t) :
    (((List.range ts.length).filter kp).length = (ts.filter p).length) ∧ ∀ j q : Nat, ((List.range ts.length).filter kp)[j]? = some q → (ts.filter p)[j]? = ts[q]? := by
  have := flt_map0 (p := p) (kp := kp) ts 0 fun q t hq => by rw [Nat.zero_add]; exact h q t hq
  rw [← List.range_eq_range'] at this
  exact ⟨this.1, fun j q hj => by simpa using (this.2 j q hj).2⟩
theorem flt_strs {xs acc : Array Value} {ts : List Str} {kp : Nat → Bool} {p : Str → Bool} (hs : StrsAre xs.toList ts) (hk : ∀ q t, ts[q]? = some t → kp q = p t)
    (hI : ItemsOf (fun j v => ∃ q, ((List.range xs.size).filter kp)[j]? = some q ∧ xs[q]? = some v) acc ((List.range xs.size).filter kp).length) : StrsAre acc.toList (ts.filter p) := by
  obtain ⟨h1, h2⟩ := hI
  have hn : xs.size = ts.length := by simpa using ss_length hs
  rw [hn] at h1 h2
  obtain ⟨i1, i2⟩ := flt_map (ts := ts) hk
  refine ss_of (by simpa [h1] using i1) fun i v hv => ?_
  obtain ⟨q, h3, h4⟩ := h2 i v (by simpa using hv)
  obtain ⟨x, t, h5, h6⟩ := ss_at hs q v (by simpa using h4)
  exact ⟨x, t, by rw [i2 i q h3, h5], h6⟩
theorem met_mem {ts : List Str} {k : Str} : metOf (fun i => ts.getD i default) ts.length k = decide (k ∈ ts) := by
  rw [Bool.eq_iff_iff]
  simp only [metOf, List.any_eq_true, List.mem_range, decide_eq_true_eq]
  constructor
  · rintro ⟨j, hj, rfl⟩
    simp [List.getD, hj]
  · intro h
    obtain ⟨j, hj, e⟩ := List.getElem_of_mem h
    exact ⟨j, hj, by simp [List.getD, hj, e]⟩
section
variable {w : World} {A : Around} {s : Shared} {Q E : Value → Shared → Prop} {h₀ : Heap} {L : Addr} {m : Str → Option Value} {news : List (Addr × Obj)}
noncomputable def SetStrs (w : World) (a : Addr) (o : Obj) (ts : List Str) : Prop := (∃ e n tb, o = so e n tb) ∧ ∃ n, ∀ g : Heap, g.get? a = some o → g.SetOf (strKind PR w) a (fun k => decide (k ∈ ts)) n
theorem set_N {l : Addr} {vs : List Value} {ts : List Str} (hh : A.handled = none) (F : Fr h₀ L s.heap m) (N : News h₀ L s.heap news) (hl : s.heap.IsList l vs.toArray) (hs : StrsAre vs ts) (hn : vs.length ≤ 1000)
    (h : ∀ a o h' tk, SetStrs w a o ts → Fr h₀ L h' m → News h₀ L h' ((a, o) :: news) → (∀ p ∈ news, p.1 < a) → Q (.ref a) { s with heap := h', toks := tk }) :
    wpAny (model PR w) A (call (.type "set") [.ref l]) Q E s := by
  have hz : vs.toArray.size = ts.length := by simpa using ss_length hs
  refine call_sfrom (knd := strKind PR w) hh hl (fun i => ts.getD i default) (fun i v hv => ?_) (by rw [List.size_toArray]; unfold scanBound; omega) fun h' tk n hn' hk hS => ?_
  · obtain ⟨x, t, h1, rfl⟩ := ss_at hs i v (by simpa using hv)
    simp only [List.getD, h1, Option.getD_some]
    exact ⟨strKind_is _ _ _ _, rfl⟩
  · rw [hz, show metOf (fun i => ts.getD i default) ts.length = fun k => decide (k ∈ ts) from funext fun k => met_mem] at hS
    obtain ⟨o, es, ep, tb, ho, hex, hd, rest⟩ := hS
    have hnone : s.heap.get? s.heap.objs.size = none := by
      cases q : s.heap.get? s.heap.objs.size with
      | none => rfl
      | some o => exact absurd (Heap.lt_size q) (Nat.lt_irrefl _)
    have eo : o = so es ep tb := by
      obtain ⟨c1, c2, c3, c4⟩ := o
      obtain ⟨x1, x2, x3⟩ := hex
      cases x1; cases x2; cases x3; cases hd; rfl
    have FN := nw_grow F N (os := [(s.heap.objs.size, o)]) hk (fun p hp => by rw [List.mem_singleton.mp hp]; exact ⟨ho, hnone⟩)
    exact h _ o h' tk ⟨⟨es, ep, tb, eo⟩, n, fun g hg => ⟨o, es, ep, tb, hg, hex, hd, rest⟩⟩ FN.1 FN.2 fun q hq => Heap.lt_size (N q hq).1
theorem has_N {a : Addr} {o : Obj} {ts : List Str} (F : Fr h₀ L s.heap m) (N : News h₀ L s.heap news) (hp : (a, o) ∈ news) (hS : SetStrs w a o ts)
    (h : ∀ u h' tk, Fr h₀ L h' m → News h₀ L h' ((u, bc a) :: news) → (∀ p ∈ news, p.1 < u) → Q (.ref u) { s with heap := h', toks := tk }) :
    wpAny (model PR w) A (getAttr (.ref a) (Str.ofString "__contains__") true) Q E s := by
  obtain ⟨⟨e, n, tb, rfl⟩, _⟩ := hS
  exact has_attr (N _ hp).1 (h _ _ _ (F.push _) (News.push F N _ rfl) (fun q hq => Heap.lt_size (N q hq).1))
theorem filter_N {l u : Addr} {xs : Array Value} (F : Fr h₀ L s.heap m) (N : News h₀ L s.heap news) (hl : s.heap.IsList l xs)
    (h : ∀ z i h', Fr h₀ L h' m → News h₀ L h' ((z, fo u i) :: (i, fit l 0) :: news) → (∀ p ∈ news, p.1 < i) → @LT.lt Nat _ l i → @LT.lt Nat _ i z → Q (.ref z) { s with heap := h' }) :
    wpAny (model PR w) A (call (.type "filter") [.ref u, .ref l]) Q E s := by
  have hnone : ∀ k, s.heap.get? (s.heap.objs.size + k) = none := fun k => by
    cases q : s.heap.get? (s.heap.objs.size + k) with
    | none => rfl
    | some o => exact absurd (Heap.lt_size q) (Nat.not_lt.mpr (Nat.le_add_right _ _))
  refine call_filter hl fun h' h1 h2 hk => ?_
  have FN := nw_grow F N (os := [(s.heap.objs.size + 1, fo u s.heap.objs.size), (s.heap.objs.size, fit l 0)]) hk (fun p hp => by
    simp only [List.mem_cons, List.not_mem_nil, or_false] at hp
    rcases hp with rfl | rfl
    · exact ⟨h1, hnone 1⟩
    · exact ⟨h2, hnone 0⟩)
  obtain ⟨ol, hol, _⟩ := hl
  exact h _ _ h' FN.1 FN.2 (fun q hq => Heap.lt_size (N q hq).1) (Heap.lt_size hol) (Nat.lt_succ_self _)
theorem list_N {z u a i l : Addr} {o : Obj} {vs : List Value} {ts ws : List Str} (hh : A.handled = none) (F : Fr h₀ L s.heap m) (N : News h₀ L s.heap ((z, fo u i) :: (i, fit l 0) :: (u, bc a) :: (a, o) :: news))
    (hl : s.heap.IsList l vs.toArray) (hs : StrsAre vs ws) (hz : vs.length ≤ 1000) (hS : SetStrs w a o ts) (hai : @LT.lt Nat _ a i) (hui : @LT.lt Nat _ u i) (hli : @LT.lt Nat _ l i) (hiz : @LT.lt Nat _ i z) (hni : ∀ p ∈ news, p.1 < i)
    (h : ∀ S us c h' tk, StrsAre us (ws.filter fun t => decide (t ∈ ts)) → Fr h₀ L h' m → News h₀ L h' ((S, W.listOf us.toArray c) :: news) → (∀ p ∈ news, p.1 < S) → Q (.ref S) { s with heap := h', toks := tk }) :
    wpAny (model PR w) A (call (.type "list") [.ref z]) Q E s := by
  have hzz := N _ (.head _)
  have hii := N _ (.tail _ (.head _))
  have huu := N _ (.tail _ (.tail _ (.head _)))
  have haa := N _ (.tail _ (.tail _ (.tail _ (.head _))))
  have N0 := nw_tl (nw_tl (nw_tl (nw_tl N)))
  obtain ⟨_, n, hSS⟩ := hS
  have hlen := ss_length hs
  have hzn : vs.toArray.size ≤ 1000 := by simpa using hz
  have W := filter_walks (prog := PR) (w := w) (A := A.in1.in1) (z := z) (u := u) (a := a) (i := i) (l := l) (xs := vs.toArray) (knd := strKind PR w) (S := fun k => decide (k ∈ ts)) (n := n) (kp := fun q => decide (ws.getD q default ∈ ts))
    (by simp [hh]) (Nat.ne_of_lt hai) (Nat.ne_of_lt hui) (Nat.ne_of_gt hiz) (Nat.ne_of_lt hli) (fun q y hy => by
      obtain ⟨x, t, h1, rfl⟩ := ss_at hs q y (by simpa using hy)
      refine ⟨rfl, x, strKind_is _ _ _ _, ?_⟩
      simp only [List.getD, h1, Option.getD_some])
  refine call_lf W hzz.1 ⟨0, Nat.zero_le _, rfl, hzz.1, hii.1, hl, huu.1, hSS _ haa.1⟩ ?_ (by simp) ?_ fun S h' tk acc c hSz hn0 hk hS' hI => ?_
  · obtain ⟨ol, hol, _⟩ := hl
    intro b hb
    simp only [List.mem_cons, List.not_mem_nil, or_false] at hb
    rcases hb with rfl | rfl | rfl | rfl | rfl
    · exact Heap.lt_size hzz.1
    · exact Heap.lt_size huu.1
    · exact Heap.lt_size haa.1
    · exact Heap.lt_size hii.1
    · exact Heap.lt_size hol
  · have := List.length_filter_le (fun q => decide (ws.getD q default ∈ ts)) (List.range vs.toArray.size)
    rw [List.length_range] at this
    rw [sizeLine_eq]
    omega
  · obtain ⟨hSL, hS0⟩ := fresh_ne F hn0
    have hus : StrsAre acc.toList (ws.filter fun t => decide (t ∈ ts)) := flt_strs (by simpa using hs) (fun q t ht => by simp [List.getD, ht]) hI
    have ki : ∀ b o, b ≠ i → s.heap.get? b = some o → h'.get? b = some o := fun b o hb e => hk b o (by simpa using hb) e
    have F' : Fr h₀ L h' m := ⟨F.ns.at' fun o e => ki L o (fun e => hii.2.1 e.symm) e, fun b o e => ki b o (fun hb => by rw [hb, hii.2.2] at e; cases e) (F.keep b o e), F.above⟩
    refine h S acc.toList c h' tk hus F' (fun p hp => ?_) fun p hp => ?_
    · rcases List.mem_cons.mp hp with rfl | hp
      · exact ⟨by simpa using hS', hSL, hS0⟩
      · exact ⟨ki _ _ (Nat.ne_of_lt (hni p hp)) (N0 p hp).1, (N0 p hp).2⟩
    · rw [hSz]
      exact Heap.lt_size (N0 p hp).1
end
end FX

end P41
section P42
theorem ru42x0 : True := by
  k_with "call type:set" => ((k_here; (with_reducible show wpAny _ _ (call _ [Value.ref _]) _ _ _); k_dflt (refine' FX.set_N ?zzk1 ?zzk2 ?zzk3 ?zzk4 ?zzk5 ?zzk6 ?_; (case zzk1 => k_asm); (case zzk2 => k_asm); (case zzk3 => k_asm); (case zzk4 => is_list); (case zzk5 => assumption); (case zzk6 => assumption); intro _ _ _ _ _ _ _; walk_at "t_3")))
  k_with "getAttr ref" => ((k_here; (with_reducible show wpAny _ _ (getAttr (Value.ref _) (Str.ofString "__contains__") true) _ _ _); k_dflt (refine FX.has_N (by k_asm) (by k_asm) (by k_mem) (by assumption) ?_; intro _ _ _ _ _; walk_at "t_3")))
  k_with "call type:filter" => ((k_here; (with_reducible show wpAny _ _ (call _ [Value.ref _, Value.ref _]) _ _ _); k_dflt (refine FX.filter_N (by k_asm) (by k_asm) (by is_list) ?_; intro _ _ _ _ _; walk_at "t_10")))
  k_with "call type:list" => ((k_here; (with_reducible show wpAny _ _ (call _ [Value.ref _]) _ _ _); k_dflt (refine' FX.list_N ?zzk1 ?zzk2 ?zzk3 ?zzk4 ?zzk5 ?zzk6 ?zzk7 ?zzk8 ?zzk9 ?zzk10 ?zzk11 ?zzk12 ?_; (case zzk1 => k_asm); (case zzk2 => k_asm); (case zzk3 => k_asm); (case zzk4 => is_list); (case zzk5 => assumption); (case zzk6 => assumption); (case zzk7 => assumption); (case zzk12 => (rename ∀ p ∈ _, _ => hc'; exact fun p hp => hc' p (.tail _ (.tail _ hp)))); (case zzk8 => omega); (case zzk9 => omega); (case zzk10 => assumption); (case zzk11 => assumption); intro _ _ _ _ _ _ _ _; walk_at "t_3")))
  trivial

theorem merge_fin {g h h' : Heap} {L' D S x d : Addr} {ps : Params} {us : List Value} {c : Nat} {dv : Value} {t1 t2 t3 t4 : Tok} {m : Str → Option Value} {X : List Addr} {rec : List (Addr × Obj)} {y1 y2 : Addr × Obj}
    (N : News g L' h' ((D, W.listOf #[] 0) :: (S, W.listOf us.toArray c) :: y1 :: y2 :: (x, instObj 59 d) :: (d, dictOf (entryD ps (.ref S) (.ref D) dv .none t1 t2 t3 t4) 4) :: rec)) (F : Fr g L' h' m)
    (hg : ∀ b o, b ∉ X → h.get? b = some o → g.get? b = some o) (hX : X = rec.map (·.1)) (hb : ∀ p ∈ rec, h.get? p.1 = some p.2) (hl : ∀ a ∈ X, @LT.lt Nat _ a d) (l1 : @LT.lt Nat _ d x) (l2 : @LT.lt Nat _ d S) (l3 : @LT.lt Nat _ d D) :
    LK h h' ∧ ∀ p ∈ recObjs ps x d S D us c dv t1 t2 t3 t4, h'.get? p.1 = some p.2 ∧ h.get? p.1 = none := by
  refine ⟨lk_ro hX hb hg F N fun p hp => .tail _ (.tail _ (.tail _ (.tail _ (.tail _ (.tail _ hp))))), fun p hp => ?_⟩
  have key : ∀ b : Addr, @LE.le Nat _ d b → g.get? b = none → h.get? b = none := fun b hb hn => by
    cases q : h.get? b with
    | none => rfl
    | some o => rw [hg b o (fun hm => absurd (hl b hm) (Nat.not_lt.mpr hb)) q] at hn; cases hn
  simp only [recObjs, List.mem_cons, List.not_mem_nil, or_false] at hp
  rcases hp with rfl | rfl | rfl | rfl
  · have := N _ (.tail _ (.head _)); exact ⟨this.1, key _ (Nat.le_of_lt l2) this.2.2⟩
  · have := N _ (.head _); exact ⟨this.1, key _ (Nat.le_of_lt l3) this.2.2⟩
  · have := N _ (.tail _ (.tail _ (.tail _ (.tail _ (.head _))))); exact ⟨this.1, key _ (Nat.le_of_lt l1) this.2.2⟩
  · have := N _ (.tail _ (.tail _ (.tail _ (.tail _ (.tail _ (.head _)))))); exact ⟨this.1, key _ (Nat.le_refl _) this.2.2⟩
section
variable {w : World} {A : Around} {s : Shared} {mean : ExcName → Option Value} {mg mb : Str → Option Value} {Q E : Value → Shared → Prop} {h₀ : Heap}
set_option maxHeartbeats 4000000 in
theorem merge_ok {e1 dx1 ul1 rl1 e2 dx2 ul2 rl2 : Addr} {vs1 vs2 : List Value} {ts1 ts2 : List Str} {n1 n2 : Nat} {d1 d2 : Value} {p1 p2 p3 p4 q1 q2 q3 q4 : Tok} {k : Int} {t : Tok}
    (hs1 : StrsAre vs1 ts1) (hs2 : StrsAre vs2 ts2) (hz1 : vs1.length ≤ 1000) (hz2 : vs2.length ≤ 1000) (hdd : d1 = .none ∧ d2 = .int k t ∨ d1 = .int k t ∧ d2 = .none)
    (KX : (hd.heap_39 w.params).In h₀) (T : Top hd.view_39 LS mean mg mb h₀) (hroom : A.depth + 20 < recursionLimit) (hu : A.units + 100 < cLine) (hh : A.handled = none)
    (hk : LK h₀ s.heap) (ho : ∀ p ∈ recObjs w.params e1 dx1 ul1 rl1 vs1 n1 d1 p1 p2 p3 p4 ++ recObjs w.params e2 dx2 ul2 rl2 vs2 n2 d2 q1 q2 q3 q4, s.heap.get? p.1 = some p.2 ∧ h₀.get? p.1 = none)
    (hQ : ∀ x dx ul rl vs n t1 t2 t3 t4 h' tk, StrsAre vs (ts1.filter fun t => decide (t ∈ ts2)) → LK s.heap h' → (∀ p ∈ recObjs w.params x dx ul rl vs n (.int k t) t1 t2 t3 t4, h'.get? p.1 = some p.2 ∧ s.heap.get? p.1 = none) → Q (.ref x) { s with heap := h', toks := tk }) :
    wpAny (model PR w) A (call (.ref 70) [.ref e1, .ref e2] []) Q E s := by
  have hsub : ∀ p ∈ recObjs w.params e1 dx1 ul1 rl1 vs1 n1 d1 p1 p2 p3 p4 ++ recObjs w.params e2 dx2 ul2 rl2 vs2 n2 d2 q1 q2 q3 q4, p.1 ∈ [ul1, rl1, e1, dx1, ul2, rl2, e2, dx2] := by
    intro q hq
    simp only [recObjs, List.cons_append, List.nil_append, List.mem_cons, List.not_mem_nil, or_false] at hq ⊢
    rcases hq with rfl | rfl | rfl | rfl | rfl | rfl | rfl | rfl <;> simp
  refine call_freezeX (X := [ul1, rl1, e1, dx1, ul2, rl2, e2, dx2]) (news := recObjs w.params e1 dx1 ul1 rl1 vs1 n1 d1 p1 p2 p3 p4 ++ recObjs w.params e2 dx2 ul2 rl2 vs2 n2 d2 q1 q2 q3 q4) (binds := [(Str.ofString "e1", .ref e1), (Str.ofString "e2", .ref e2)]) KX T hk ?_ ?_ (by k_is) (by k_is) ?_ (BindsTo.of_eq rfl) (locs rfl) ?_ rfl rfl rfl (by decide)
  · intro q hq
    simp only [List.mem_cons, List.not_mem_nil, or_false] at hq
    rcases hq with rfl | rfl | rfl | rfl | rfl | rfl | rfl | rfl
    · exact (ho _ (.head _)).2
    · exact (ho _ (.tail _ (.head _))).2
    · exact (ho _ (.tail _ (.tail _ (.head _)))).2
    · exact (ho _ (.tail _ (.tail _ (.tail _ (.head _))))).2
    · exact (ho _ (.tail _ (.tail _ (.tail _ (.tail _ (.head _)))))).2
    · exact (ho _ (.tail _ (.tail _ (.tail _ (.tail _ (.tail _ (.head _))))))).2
    · exact (ho _ (.tail _ (.tail _ (.tail _ (.tail _ (.tail _ (.tail _ (.head _)))))))).2
    · exact (ho _ (.tail _ (.tail _ (.tail _ (.tail _ (.tail _ (.tail _ (.tail _ (.head _))))))))).2
  · exact fun q hq => ⟨(ho q hq).1, hsub q hq⟩
  · omega
  intro g L' h₁ KX' T' hg hlt F N
  simp only [recObjs, List.cons_append, List.nil_append] at N
  clear hlt
  walk_at "m_go0"
  rcases hdd with ⟨rfl, rfl⟩ | ⟨rfl, rfl⟩ <;> walk_at "m_go0"
  all_goals
    rename Fr _ _ _ _ => F9
    rename News _ _ _ _ => N9
    rename_i x9 d9 u9 r9 _ _ _ _ _ _ l2 l1 _ _ _ _ _ _ _ _ _ _ _ _ _ _ _ _ _ _ S9 us9 _ _ _ hI9 l4 _ D9 _ l5 _ _ _ _
    have fin := merge_fin (dv := .int k t) N9 F9 hg (by rfl) (fun p hp => (ho p hp).1) (by simp only [List.forall_mem_cons, List.not_mem_nil, false_implies, implies_true, and_true]; exact l1) (by omega) (by omega) (by omega)
    exact hQ _ _ _ _ _ _ _ _ _ _ _ _ hI9 fin.1 fin.2
end
theorem ru42x4 : True := by
  k_with "call ref" => ((k_here; (with_reducible show wpAny _ _ (call (Value.ref 70) _) _ _ _); k_dflt (refine' merge_ok ?zzk1 ?zzk2 ?zzk3 ?zzk4 ?zzk5 ?zzk6 ?zzk7 ?zzk8 ?zzk9 ?zzk10 ?zzk11 ?zzk12 ?_; (case zzk6 => k_asm); (case zzk7 => k_asm); (case zzk10 => k_asm); (case zzk11 => exact Fr.keep (by k_asm)); (case zzk8 => k_room); (case zzk9 => k_room); (case zzk12 => refine nw_pos (nw_sub (by k_asm) ?_); simp only [recObjs, List.cons_append, List.nil_append, List.forall_mem_cons, List.not_mem_nil, false_implies, implies_true, and_true]; refine ⟨?zza1, ?zza2, ?zza3, ?zza4, ?zzb1, ?zzb2, ?zzb3, ?zzb4⟩; (case zza3 => k_mem); (case zza4 => k_mem); (case zza1 => k_mem); (case zza2 => k_mem); (case zzb3 => k_mem); (case zzb4 => k_mem); (case zzb1 => k_mem); (case zzb2 => k_mem)); (case zzk1 => assumption); (case zzk2 => assumption); (case zzk3 => k_extra "m_size"); (case zzk4 => k_extra "m_size"); (case zzk5 => first | exact .inl ⟨rfl, rfl⟩ | exact .inr ⟨rfl, rfl⟩); intro _ _ _ _ _ _ _ _ _ _ _ _ _; walk_at "t_11")))
  trivial


end P42
section P43
noncomputable def ptB (ts : List Str) (dp : List Int) (k : Int) (i : Nat) : Option Str := if dpi dp i = k then ts[i]? else none
noncomputable def ptS (ts : List Str) (dp : List Int) (k : Int) (j : Nat) : List Str := (List.range j).filterMap (ptB ts dp k)
theorem ptS_t {ts : List Str} {dp : List Int} {k : Int} {j : Nat} {b : Str} (h : dpi dp j = k) (hb : ts[j]? = some b) : ptS ts dp k (j + 1) = ptS ts dp k j ++ [b] := by
  simp [ptS, List.range_succ, List.filterMap_append, ptB, h, hb]
theorem ptS_f {ts : List Str} {dp : List Int} {k : Int} {j : Nat} (h : ¬ dpi dp j = k) : ptS ts dp k (j + 1) = ptS ts dp k j := by
  simp [ptS, List.range_succ, List.filterMap_append, ptB, h]
theorem ptS_len {ts : List Str} {dp : List Int} {k : Int} (j : Nat) : (ptS ts dp k j).length ≤ j := by
  have := List.length_filterMap_le (ptB ts dp k) (List.range j)
  rwa [List.length_range] at this
theorem ptS_mem {ts : List Str} {dp : List Int} {k : Int} {j : Nat} {x : Str} (h : x ∈ ptS ts dp k j) : x ∈ ts := by
  unfold ptS at h
  obtain ⟨i, _, hi⟩ := List.mem_filterMap.mp h
  unfold ptB at hi
  split at hi
  · exact List.mem_of_getElem? hi
  · cases hi
theorem ru43x0 : True := by
  k_with "m_stop" => (with_reducible show wpAny _ _ (call (Value.ref 234) _) _ _ _)
  k_with "unpackItems ref" => ((k_here; k_dflt (refine' unpackItemsN_ ?zzk1 ?zzk2 ?zzk3 ?zzk4 ?zzk5 ?_; (case zzk1 => k_asm); (case zzk2 => k_asm); (case zzk3 => exact News.isTup (by k_asm) (by k_mem)); (case zzk4 => first | assumption | exact rfl); (case zzk5 => exact rfl)); intro _ _ _))
  trivial

theorem off_ne {h₀ h : Heap} {L : Addr} {news os : List (Addr × Obj)} (N : News h₀ L h news) (hn : ∀ p ∈ os, h.get? p.1 = none) : ∀ q ∈ news, ∀ p ∈ os, @Ne Nat q.1 p.1 := fun q hq p hp e => by
  have := (N q hq).1
  rw [show q.1 = p.1 from e, hn p hp] at this
  cases this
theorem flt_t {ts pt : List Str} {j : Nat} {b : Str} (h : (pt.any fun x => x == b) = true) (hb : ts[j]? = some b) : (ts.take (j + 1)).filter (fun t => decide (t ∈ pt)) = (ts.take j).filter (fun t => decide (t ∈ pt)) ++ [b] := by
  have hm : b ∈ pt := by
    obtain ⟨x, hx, e⟩ := List.any_eq_true.mp h
    rwa [← eq_of_beq e]
  rw [List.take_add_one, hb, List.filter_append]
  simp [hm]
theorem flt_f {ts pt : List Str} {j : Nat} {b : Str} (h : (pt.any fun x => x == b) = false) (hb : ts[j]? = some b) : (ts.take (j + 1)).filter (fun t => decide (t ∈ pt)) = (ts.take j).filter (fun t => decide (t ∈ pt)) := by
  have hm : ¬ b ∈ pt := fun hm => by
    have := List.any_eq_false.mp h b hm
    simp at this
  rw [List.take_add_one, hb, List.filter_append]
  simp [hm]
theorem FX.ss_rev : ∀ {vs : List Value} {as : List Str}, StrsAre vs as → StrsAre vs.reverse as.reverse
  | _, _, .nil => .nil
  | _, _, .cons y t r => by simpa using ss_append (FX.ss_rev r) (.cons y t .nil)
section
variable {w : World} {A : Around} {s : Shared} {mean : ExcName → Option Value} {mg mb : Str → Option Value} {Q E : Value → Shared → Prop}
set_option maxHeartbeats 4000000 in
theorem merged_ok {l ld : Addr} {vs dvs : List Value} {ts : List Str} {dp : List Int} {k : Int} {t : Tok}
    (KX : (hd.heap_39 w.params).In s.heap) (T : Top hd.view_39 LS mean mg mb s.heap) (hroom : A.depth + 30 < recursionLimit) (hu : A.units + 300 < cLine) (hh : A.handled = none)
    (hl : s.heap.IsList l vs.toArray) (hs : StrsAre vs ts) (hn : vs.length ≤ 10) (hok : ∀ x ∈ ts, PyData.strOk x = true) (hld : s.heap.IsList ld dvs.toArray) (hdv : IntsAre dvs dp) (hdl : dp.length = ts.length) (hk0 : 0 ≤ k) (hk9 : k ≤ 9)
    (hQ : ∀ h' tk, LK s.heap h' → Q (.bool true) { s with heap := h', toks := tk }) :
    wpAny (model PR w) A (call (.ref 259) [.ref l, .ref ld, .int k t] []) Q E s := by
  have htl : ts.length ≤ 10 := by rw [← ss_length hs]; exact hn
  have hvl : vs.length = ts.length := ss_length hs
  have hget := ss_get hs
  have hsF : 0 = 0 → StrsAre vs ts := fun _ => hs
  have hsat := ss_at hs
  walk_at "m_inC3"
  walk_at "m_go"
  rename_i L0 h1 tk1 F1 o4 o3 o2 o1 c4 c3 c2 c1 N1
  refine' record_ok (Frag.In.keeps KX F1.keep) (Top.keeps T F1.keep) ?kr hh (Heap.IsList.at hl fun o e => F1.keep _ _ e) hs (by omega) ?_
  case kr => k_room
  intro xW dW uW rW nW w1 w2 w3 w4 h2 tk2 hk2 ho2
  have offW := off_ne N1 fun p hp => (ho2 p hp).2
  obtain ⟨F2, N2⟩ := nw_grow F1 N1 hk2 ho2
  simp only [recObjs, List.cons_append, List.nil_append] at N2
  clear F1 N1 hk2 ho2
  walk_at "m_go"
  have dvl : dvs.length = ts.length := by rw [IntsAre.length hdv, hdl]
  refine restT_inv (fun j ys nw => nw = _ ∧ StrsAre ys (ptS ts dp k j)) ⟨rfl, .nil⟩ ?_ ?_
  · rintro ys nw ⟨rfl, hI⟩
    rw [z_nt ts.length] at hI
    have hyl : ys.length ≤ 10 := by rw [ss_length hI]; exact Nat.le_trans (ptS_len _) htl
    walk_at "m_go"
    rename News _ _ _ _ => N9
    rename Fr _ _ _ _ => F9
    dsimp only at N9
    rw [krv_pick, List.toList_toArray] at N9
    have hIr : StrsAre ys.reverse (ptS ts dp k ts.length).reverse := FX.ss_rev hI
    have hyr : ys.reverse.length ≤ 10 := by simpa using hyl
    clear hI
    rename_i hP D9 offD _
    refine' record_ok (Frag.In.keeps KX F9.keep) (Top.keeps T F9.keep) ?kr hh (News.isList N9 (.head _)) hIr (by omega) ?_
    case kr => k_room
    intro xP dP uP rP nP z1 z2 z3 z4 h3 tk3 hk3 ho3
    have offP := off_ne N9 fun p hp => (ho3 p hp).2
    obtain ⟨F3, N3⟩ := nw_grow F9 N9 hk3 ho3
    simp only [recObjs, List.cons_append, List.nil_append] at N3
    clear hk3 ho3
    have N4 : News s.heap L0 h3 ((L0 + 1 + 1 + 1 + 1, o4) :: [(uP, W.listOf ys.reverse.toArray nP), (rP, W.listOf #[] 0), (xP, instObj 59 dP), (dP, dictOf (entryD w.params (.ref uP) (.ref rP) (.int k t) .none z1 z2 z3 z4) 4), (uW, W.listOf vs.toArray nW), (rW, W.listOf #[] 0), (xW, instObj 59 dW), (dW, dictOf (entryD w.params (.ref uW) (.ref rW) .none .none w1 w2 w3 w4) 4), (L0 + 1 + 1 + 1, o3), (L0 + 1 + 1, o2), (L0 + 1, o1)]) := nw_sub N3 (by
      intro p hp
      simp only [List.mem_cons, List.not_mem_nil, or_false] at hp ⊢
      rcases hp with h | h | h | h | h | h | h | h | h | h | h | h <;> simp only [h, true_or, or_true])
    have y1 := offP (L0 + 1 + 1 + 1 + 1, o4) (by simp)
    have y2 := offW (L0 + 1 + 1 + 1 + 1, o4) (by simp)
    simp only [recObjs, List.forall_mem_cons, List.not_mem_nil, false_implies, implies_true, and_true] at y1 y2
    have y3 : ∀ p ∈ [(uP, W.listOf ys.reverse.toArray nP), (rP, W.listOf #[] 0), (xP, instObj 59 dP), (dP, dictOf (entryD w.params (.ref uP) (.ref rP) (.int k t) .none z1 z2 z3 z4) 4), (uW, W.listOf vs.toArray nW), (rW, W.listOf #[] 0), (xW, instObj 59 dW), (dW, dictOf (entryD w.params (.ref uW) (.ref rW) .none .none w1 w2 w3 w4) 4), (L0 + 1 + 1 + 1, o3), (L0 + 1 + 1, o2), (L0 + 1, o1)], p.1 ≠ L0 + 1 + 1 + 1 + 1 := by
      simp only [List.forall_mem_cons, List.not_mem_nil, false_implies, implies_true, and_true]
      exact ⟨y1.1.symm, y1.2.1.symm, y1.2.2.1.symm, y1.2.2.2.symm, y2.1.symm, y2.2.1.symm, y2.2.2.1.symm, y2.2.2.2.symm, by simp, by simp, by simp⟩
    clear y1 y2 offP offW F9 N9 N3
    refine' storeX_C F3 N4 ?c (.head y3) c4 ?_ ?a ?b
    case c => rfl
    case a => rfl
    case b => rfl
    intro h5 oP F5 N5 dP5
    try dsimp only at N5
    clear F3 N4 y3
    walk_at "m_go"
    rename News _ _ _ _ => N9
    rename Fr _ _ _ _ => F9
    rename_i x1 d1 u1 r1 vs1 n1 a1 a2 a3 a4 _ _ hI1 hk1 ho1 x2 d2 u2 r2 vs2 n2 b1 b2 b3 b4 _ _ hI2 hk2 ho2 D2 _ l2 _ _ _ g9
    clear hk1 ho1 hk2 ho2 l2
    have hv1 : vs1.length ≤ 10 := by
      rw [ss_length hI1]
      exact Nat.le_trans (List.length_filter_le _ _) htl
    have hv2 : vs2.length ≤ 10 := by
      rw [ss_length hI2]
      exact Nat.le_trans (List.length_filter_le _ _) (by rw [List.length_reverse]; exact Nat.le_trans (ptS_len _) htl)
    have e2 : (ptS ts dp k ts.length).reverse.filter (fun t => decide (t ∈ ts)) = (ptS ts dp k ts.length).reverse := List.filter_eq_self.mpr fun x hx => decide_eq_true (ptS_mem (List.mem_reverse.mp hx))
    rw [e2] at hI2
    have hokP : ∀ x ∈ (ptS ts dp k ts.length).reverse, PyData.strOk x = true := fun x hx => hok x (ptS_mem (List.mem_reverse.mp hx))
    have hokF : ∀ x ∈ ts.filter (fun t => decide (t ∈ (ptS ts dp k ts.length).reverse)), PyData.strOk x = true := fun x hx => hok x (List.mem_filter.mp hx).1
    generalize (ptS ts dp k ts.length).reverse = pt at *
    refine restT_inv (fun j ys nw => nw = _ ∧ StrsAre ys ((ts.take j).filter fun t => decide (t ∈ pt))) ⟨rfl, .nil⟩ ?_ ?_
    · rintro zs nw ⟨rfl, hI3⟩
      rw [List.take_of_length_le (by simp [hvl])] at hI3
      walk_at "m_go"
      all_goals first | exact hQ _ _ (Fr.keep (by assumption)) | (exfalso; rename ¬ _ = _ => hne; exact hne rfl)
    · intro j v zs nw I5 oI5 C oC D5 m₂ h tk E' hj hv hJ09 hC hx F N off5 ne5
      try k_fold
      obtain ⟨rfl, hI3⟩ := hJ09
      obtain ⟨b, tb, hb, rfl⟩ := hsat j v (by simpa using hv)
      walk_at "m_go"
      · rename (List.any _ _) = _ => ha9
        exact LCg.CompEnd.intro F N _ (fun p hp => hp) off5 (.inl hl) ⟨rfl, by rw [flt_t ha9 hb]; exact ss_append hI3 (.cons _ _ .nil)⟩
      · rename (List.any _ _) = _ => ha9
        exact LCg.CompEnd.intro F N _ (fun p hp => hp) off5 (.inl hl) ⟨rfl, by rw [flt_f ha9 hb]; exact hI3⟩
  · intro j v ys nw I5 oI5 C oC D5 m₂ h tk E' hj hJ09 hJ19 hC hx F N off5 ne5
    try k_fold
    obtain ⟨tv5, rfl⟩ := hJ09
    obtain ⟨rfl, hI⟩ := hJ19
    have hj' : j < ts.length := by first | exact z_lt (by assumption) | omega
    obtain ⟨b, hb⟩ : ∃ b, ts[j]? = some b := ⟨ts[j], by simp [hj']⟩
    obtain ⟨tb5, hvb'⟩ := hget j b hb
    have hvb : vs.toArray[((0 : Int) + (j : Int)).toNat]? = some (.str b tb5) := by
      rw [z_tn j]; simpa using hvb'
    obtain ⟨tq, hdj⟩ : ∃ tq, dvs.toArray[((0 : Int) + (j : Int)).toNat]? = some (.int (dpi dp j) tq) := by
      rw [z_tn j]
      obtain ⟨q, hq, tq, e⟩ := ii_at hdv j (dvs[j]'(by omega)) (by simp)
      refine ⟨tq, ?_⟩
      unfold dpi
      rw [Int.toNat_natCast, List.getD_eq_getElem?_getD, hq]
      simp only [List.getElem?_toArray, Option.getD_some]
      rw [← e]; simp
    walk_at "m_go"
    · rename Fr _ _ _ _ => F8
      rename News _ _ _ _ => N8
      rename dpi _ _ = _ => he9
      exact LCg.CompEnd.intro F8 N8 _ (fun p hp => hp) off5 trivial ⟨rfl, by rw [ptS_t he9 hb]; exact ss_append hI (.cons _ _ .nil)⟩
    · rename Fr _ _ _ _ => F8
      rename News _ _ _ _ => N8
      rename dpi _ _ ≠ _ => he9
      exact LCg.CompEnd.intro F8 N8 _ (fun p hp => hp) off5 trivial ⟨rfl, by rw [ptS_f he9]; exact hI⟩
end

end P43
section P44
theorem ru44 : True := by
  k_with_none
  k_with "m_stop" => (first | with_reducible show LCg.CompRest _ _ _ _ _ _ _ _ _ _ _ _ _ _ _ _ _ _ _ | with_reducible show LCt.CompRestT _ _ _ _ _ _ _ _ _ _ _ _ _ _ _ _ _ _ _ _)
  k_with "m_go0" => (repeat' ((fail_if_success (k_extra "m_stop")); first | (k_unfold; (try dsimp only)) | walk1 | (dsimp only; walk1) | (leave1; try dsimp only) | fail "no step"))
  k_with "m_go" => (((try k_fold) <;> (try dsimp only) <;> k_extra "m_go0" <;> (try k_fold)))
  k_with "m_inA" => (((case zzkX => assumption); (case zzkT => assumption); (case zzkl => k_is); (case zzk1 => exact rfl); (case zzk2 => exact rfl); (case zzk3 => exact rfl); (case zzk4 => decide); (case zzkc => k_is); (case zzkr => omega); (case zzkb => first | exact BindsTo.of_eq rfl | exact binds_K (by k_in) rfl (by k_is) rfl rfl rfl); (case zzko => exact locs rfl); intro _ _; walk_at "t_0"))
  k_with "m_inB" => (((case zzkX => assumption); (case zzkT => assumption); (case zzkl => k_is); (case zzk1 => exact rfl); (case zzk2 => exact rfl); (case zzk3 => exact rfl); (case zzkc => k_is); (case zzkr => omega); (case zzkb => first | exact BindsTo.of_eq rfl | exact binds_K (by k_in) rfl (by k_is) rfl rfl rfl); (case zzko => exact rfl); (case zzkn => decide +kernel); intro _ _ _ _; walk_at "t_1"))
  k_with "m_in1" => ((refine' freeze1 ?zzkX ?zzkT ?zzkl ?zzkc ?zzkr ?zzkb ?zzko ?_ ?zzk1 ?zzk2 ?zzk3 ?zzk4; k_extra "m_inA"))
  k_with "m_inC1" => ((refine' freezeC1 ?zzkX ?zzkT ?zzkl ?zzkc ?zzkr ?zzkb ?zzko ?zzkn ?_ ?zzk1 ?zzk2 ?zzk3; k_extra "m_inB"))
  k_with "m_in2" => ((refine' freeze2 ?zzkX ?zzkT ?zzkl ?zzkc ?zzkr ?zzkb ?zzko ?_ ?zzk1 ?zzk2 ?zzk3 ?zzk4; k_extra "m_inA"))
  k_with "m_inC2" => ((refine' freezeC2 ?zzkX ?zzkT ?zzkl ?zzkc ?zzkr ?zzkb ?zzko ?zzkn ?_ ?zzk1 ?zzk2 ?zzk3; k_extra "m_inB"))
  k_with "m_in3" => ((refine' freeze3 ?zzkX ?zzkT ?zzkl ?zzkc ?zzkr ?zzkb ?zzko ?_ ?zzk1 ?zzk2 ?zzk3 ?zzk4; k_extra "m_inA"))
  k_with "m_inC3" => ((refine' freezeC3 ?zzkX ?zzkT ?zzkl ?zzkc ?zzkr ?zzkb ?zzko ?zzkn ?_ ?zzk1 ?zzk2 ?zzk3; k_extra "m_inB"))
  k_with "m_in4" => ((refine' freeze4 ?zzkX ?zzkT ?zzkl ?zzkc ?zzkr ?zzkb ?zzko ?_ ?zzk1 ?zzk2 ?zzk3 ?zzk4; k_extra "m_inA"))
  k_with "m_inC4" => ((refine' freezeC4 ?zzkX ?zzkT ?zzkl ?zzkc ?zzkr ?zzkb ?zzko ?zzkn ?_ ?zzk1 ?zzk2 ?zzk3; k_extra "m_inB"))
  k_with "m_size" => (first | ((with_reducible refine z_sz ?_); omega) | ((with_reducible refine z_szl ?_); omega) | omega | (rw [sizeLine_eq]; omega) | (simp only [List.size_toArray, sizeLine_eq, List.length_append, List.length_cons, List.length_nil, List.length_map] at *; omega))
  k_with "eval ListComp" => ((k_here; k_dflt (first | ((with_reducible apply LCt.ListComp_T); (case F₀ => k_asm); (case hclos => with_unfolding_all rfl); (case hcell => decide); (case hkind => rfl); (case hnames => decide); (case hx => rfl); (case hs => intro _; with_unfolding_all rfl)) | ((with_reducible apply LCg.ListComp_U); (case F₀ => k_asm); (case hclos => with_unfolding_all rfl); (case hcell => decide); (case hkind => rfl); (case hnames => decide); (case hx => rfl); (case hs => intro _; with_unfolding_all rfl)))))
  k_with "exec Assign cons ListComp" => ((k_here; k_dflt (first | ((with_reducible apply LCt.Assign_ListComp_T); (case F₀ => k_asm); (case hLe => rfl); (case hsw => with_unfolding_all rfl); (case hclos => with_unfolding_all rfl); (case hcell => decide); (case hkind => rfl); (case hnames => decide); (case hx => rfl); (case hy => rfl); (case hp => rfl); (case hs => intro _; with_unfolding_all rfl)) | ((with_reducible apply LCg.Assign_ListComp_U); (case F₀ => k_asm); (case hLe => rfl); (case hsw => with_unfolding_all rfl); (case hclos => with_unfolding_all rfl); (case hcell => decide); (case hkind => rfl); (case hnames => decide); (case hx => rfl); (case hy => rfl); (case hp => rfl); (case hs => intro _; with_unfolding_all rfl)) | (refine wpAny_Assign_Name ?_))))
  k_with "CompSrcT" => ((k_here; k_dflt (first | (refine LCt.CompSrcT.ledger (by first | assumption | rfl) (by k_asm) (by k_asm) (by k_mem) (by k_extra "m_size") ?_; intro _) | (refine LCt.CompSrcT.base (by first | assumption | rfl) (by k_asm) (by k_asm) (by assumption) (by k_extra "m_size") ?_; intro _) | (refine LCt.CompSrcT.range (by first | assumption | rfl) (by k_asm) (by k_asm) (by assumption) (by first | decide | exact small_nat (by omega) | exact small_one (by omega) (by omega) (by omega) (by omega)) (by first | rfl | decide | exact rangeSize_nat _ _) (by k_extra "m_size") ?_; intro _))))
  k_with "CompSrc" => ((k_here; k_dflt (first | (refine LCg.CompSrc.ledger (by first | assumption | rfl) (by k_asm) (by k_asm) (by k_mem) (by k_extra "m_size") ?_; intro _) | (refine LCg.CompSrc.base (by first | assumption | rfl) (by k_asm) (by k_asm) (by assumption) (by k_extra "m_size") ?_; intro _) | (refine LCg.CompSrc.range (by first | assumption | rfl) (by k_asm) (by k_asm) (by assumption) (by first | decide | exact small_nat (by omega) | exact small_one (by omega) (by omega) (by omega) (by omega)) (by first | rfl | decide | exact rangeSize_nat _ _) (by k_extra "m_size") ?_; intro _))))
  k_with "m_arith" => (first | ((try simp only [depth_under_make, depth_under_kw, depth_in1, depth_deeper, units_in1, units_deeper, Around.mark_units]); omega) | (simp only [depth_under_make, depth_under_kw, depth_in1, depth_deeper, units_in1, units_deeper, Around.mark_units] at *; omega))
  k_with "m_p1" => (first | with_reducible assumption | exact And.left (by with_reducible assumption) | exact And.left (And.right (by with_reducible assumption)) | exact And.right (by with_reducible assumption) | exact And.left (And.right (And.right (by with_reducible assumption))) | exact And.right (And.right (by with_reducible assumption)) | exact And.left (And.right (And.right (And.right (by with_reducible assumption)))) | exact And.right (And.right (And.right (by with_reducible assumption))) | exact And.left (And.right (And.right (And.right (And.right (by with_reducible assumption))))) | exact And.right (And.right (And.right (And.right (by with_reducible assumption)))) | exact And.left (And.right (And.right (And.right (And.right (And.right (by with_reducible assumption)))))) | exact And.right (And.right (And.right (And.right (And.right (by with_reducible assumption))))) | exact And.left (And.right (And.right (And.right (And.right (And.right (And.right (by with_reducible assumption))))))) | exact And.right (And.right (And.right (And.right (And.right (And.right (by with_reducible assumption)))))) | exact And.left (And.right (And.right (And.right (And.right (And.right (And.right (And.right (by with_reducible assumption)))))))) | exact And.right (And.right (And.right (And.right (And.right (And.right (And.right (by with_reducible assumption))))))) | exact And.left (And.right (And.right (And.right (And.right (And.right (And.right (And.right (And.right (by with_reducible assumption))))))))) | exact And.right (And.right (And.right (And.right (And.right (And.right (And.right (And.right (by with_reducible assumption)))))))) | exact And.left (And.right (And.right (And.right (And.right (And.right (And.right (And.right (And.right (And.right (by with_reducible assumption)))))))))) | exact And.right (And.right (And.right (And.right (And.right (And.right (And.right (And.right (And.right (by with_reducible assumption))))))))) | exact And.left (And.right (And.right (And.right (And.right (And.right (And.right (And.right (And.right (And.right (And.right (by with_reducible assumption))))))))))) | exact And.right (And.right (And.right (And.right (And.right (And.right (And.right (And.right (And.right (And.right (by with_reducible assumption)))))))))) | exact And.left (And.right (And.right (And.right (And.right (And.right (And.right (And.right (And.right (And.right (And.right (And.right (by with_reducible assumption)))))))))))) | exact And.right (And.right (And.right (And.right (And.right (And.right (And.right (And.right (And.right (And.right (And.right (by with_reducible assumption))))))))))))
  k_with "m_p2" => (first | exact And.left (And.left (by with_reducible assumption)) | exact And.left (And.right (And.left (by with_reducible assumption))) | exact And.left (And.right (And.right (And.left (by with_reducible assumption)))) | exact And.left (And.right (And.right (And.right (And.left (by with_reducible assumption))))) | exact And.right (And.left (by with_reducible assumption)) | exact And.right (And.right (And.left (by with_reducible assumption))) | exact And.right (And.right (And.right (And.left (by with_reducible assumption)))) | exact And.left (And.left (And.right (by with_reducible assumption))) | exact And.left (And.right (And.left (And.right (by with_reducible assumption)))) | exact And.left (And.right (And.right (And.left (And.right (by with_reducible assumption))))) | exact And.left (And.right (And.right (And.right (And.left (And.right (by with_reducible assumption)))))) | exact And.right (And.left (And.right (by with_reducible assumption))) | exact And.right (And.right (And.left (And.right (by with_reducible assumption)))) | exact And.right (And.right (And.right (And.left (And.right (by with_reducible assumption))))) | exact And.left (And.left (And.right (And.right (by with_reducible assumption)))) | exact And.left (And.right (And.left (And.right (And.right (by with_reducible assumption))))) | exact And.left (And.right (And.right (And.left (And.right (And.right (by with_reducible assumption)))))) | exact And.left (And.right (And.right (And.right (And.left (And.right (And.right (by with_reducible assumption))))))) | exact And.right (And.left (And.right (And.right (by with_reducible assumption)))) | exact And.right (And.right (And.left (And.right (And.right (by with_reducible assumption))))) | exact And.right (And.right (And.right (And.left (And.right (And.right (by with_reducible assumption)))))) | exact And.left (And.left (And.right (And.right (And.right (by with_reducible assumption))))) | exact And.left (And.right (And.left (And.right (And.right (And.right (by with_reducible assumption)))))) | exact And.left (And.right (And.right (And.left (And.right (And.right (And.right (by with_reducible assumption))))))) | exact And.left (And.right (And.right (And.right (And.left (And.right (And.right (And.right (by with_reducible assumption)))))))) | exact And.right (And.left (And.right (And.right (And.right (by with_reducible assumption))))) | exact And.right (And.right (And.left (And.right (And.right (And.right (by with_reducible assumption)))))) | exact And.right (And.right (And.right (And.left (And.right (And.right (And.right (by with_reducible assumption))))))))
  k_with "m_ne" => (first | assumption | (refine Ne.symm ?_; assumption) | (refine Nat.ne_of_lt ?_; k_extra "m_p1") | (refine Nat.ne_of_gt ?_; k_extra "m_p1") | k_extra "m_p1" | (refine Ne.symm ?_; k_extra "m_p1") | k_extra "m_p2" | (refine Ne.symm ?_; k_extra "m_p2"))
  k_with "call ref" => ((k_here; (with_reducible show wpAny _ _ (call (Value.ref 59) _) _ _ _); k_dflt (refine' mk_entry ?zzk1 ?zzk2 ?zzk3 ?zzk4 ?zzkr ?_; (case zzk1 => k_asm); (case zzk2 => k_asm); (case zzk3 => k_asm); (case zzk4 => k_asm); (case zzkr => (simp only [depth_in1, depth_deeper]; omega)); intro _ _ _ _ _ _ _ _ _ _ _ _; walk_at "t_2")))
  k_with "assign Tuple" => ((k_here; k_dflt (refine' assign2 ?zzk1 ?zzk2 ?zzk3 ?zzk4 ?_; (case zzk1 => first | assumption | exact rfl); (case zzk2 => k_asm); (case zzk3 => k_asm); (case zzk4 => k_mem); intro _ _ _)))
  k_with "exec For Name Attribute cons nil" => ((k_here; k_dflt (refine For_at ?_)))
  k_with "exec For Name Name cons nil" => ((k_here; k_dflt (refine For_at ?_)))
  k_with "exec For Name Call cons nil" => ((k_here; k_dflt (refine For_at ?_)))
  k_with "exec For Name Tuple cons nil" => ((k_here; k_dflt (refine For_at ?_)))
  k_with "exec For Name List cons nil" => ((k_here; k_dflt (refine For_at ?_)))
  k_with "m_stop" => (with_reducible show ForAt _ _ _ _ _ _ _ _ _ _)
  k_with "m_up" => (first | exact ⟨_, by funext z; repeat' (first | rfl | split) <;> simp_all⟩ | exact ⟨_, _, by funext z; repeat' (first | rfl | split) <;> simp_all⟩ | exact ⟨_, _, _, by funext z; repeat' (first | rfl | split) <;> simp_all⟩)
  k_with "newList" => ((k_here; k_dflt (refine' newList_M ?zzk1 ?zzk2 ?zzk3 ?_; (case zzk1 => k_asm); (case zzk2 => k_asm); (case zzk3 => exact Nat.le_of_ble_eq_true rfl)); intro _ _ _ _; walk_at "t_3"))
  trivial
namespace BJ
open Builtin
theorem slot_join : Slot "bytes" "join" "bytes.join" :=
  .of (owner := "bytes") (n := "join") (by rw [typeLookup_type, builtinLookup_eq_fast]; kernel_rfl) (by decide +kernel) (by decide +kernel) (by decide +kernel)
    (by first | exact .inl (by decide +kernel) | exact .inr (by decide +kernel)) (by rw [isSubtype_type]; kernel_rfl)
theorem ty_join : typeOf (.builtin "bytes.join") = pure (.type "method_descriptor") := by show builtinType _ = _; rw [builtinType_eq_fast]; kernel_rfl
theorem entry_join : entryFor table "bytes.join" = some Builtin.«bytes.join» := entryFor_of_tree (by kernel_rfl)
theorem args_join (a b : Value) : argsOk "bytes.join" ⟨[a, b], []⟩ := by unfold argsOk; kernel_rfl
section
variable {b : Array UInt8} {t : Tok}
theorem take_eq {id : String} : Bytes.takeBuffer? id (.bytes b t) 0 = pure (some (b, none)) := by
  unfold Bytes.takeBuffer?
  rw [KBy.special_eq KBy.look_buffer, KBy.own_buffer]
  show (Bytes.buffer? id (.bytes b t) false >>= _) = _
  rw [KBy.buffer_eq]
  rfl
theorem takeQuiet_eq {id : String} : Bytes.takeBufferQuiet? id (.bytes b t) 0 = pure (some (b, none)) := by
  unfold Bytes.takeBufferQuiet?
  rw [take_eq]
  rfl
end
section
variable {prog : Program} {w : World} {A : Around} {E : Value → Shared → Prop} {s : Shared}
theorem letGo_taken {Q : Unit → Shared → Prop} {keep : List Value} : ∀ (l : List (Value × Option Value)), (∀ p ∈ l, p.2 = none) → Q () s → wpAny (model prog w) A (Bytes.joinLetGo l keep) Q E s
  | [], _, h => wpAny_pure h
  | (x, u) :: rest, hn, h => by
    obtain rfl : u = none := hn _ (.head _)
    unfold Bytes.joinLetGo
    refine wpAny_bind (wpAny_letGo ?_)
    exact letGo_taken rest (fun p hp => hn p (.tail _ hp)) h
theorem join_body1 {l : Addr} {b1 : Array UInt8} {t t1 : Tok} {Q : Fin → Shared → Prop} (hl : s.heap.IsList l #[.bytes b1 t1]) 
    (hQ : ∀ t' k, Q (.done (.ret (.bytes b1 t'))) { s with toks := k }) :
    wpAny (model prog w) A («bytes.join» ⟨[.bytes #[] t, .ref l], []⟩) Q E s := by
  have hT : s.TypeIs (.ref l) "list" := by obtain ⟨o, ho, hc, _⟩ := hl; exact ⟨o, ho, hc⟩
  obtain ⟨ol, hol, _, nl, hdl⟩ := hl
  show wpAny _ _ (Bytes.joinM .bytes ⟨[.bytes #[] t, .ref l], []⟩) _ _ s
  unfold Bytes.joinM
  refine wpAny_bind (wpAny_pure ?_)
  try dsimp only
  rw [if_pos (show (Bytes.Kind.bytes == Bytes.Kind.bytes) = true from rfl)]
  unfold Bytes.joinItems
  refine wpAny_bind (wpAny_bind (wpAny_typeOf hT ?_))
  rw [if_pos (show (Value.type "list" == Value.type "list" || Value.type "list" == Value.type "tuple") = true from rfl)]
  refine wpAny_pure ?_
  refine wpAny_bind (wpAny_seqItems hol hdl ?_)
  refine wpAny_bind (wpAny_typeOf (typeIs_bytes _ _ _) ?_)
  rw [if_pos (show (Value.type "bytes" == Value.type "bytes") = true by decide)]
  exact wpAny_bind (wpAny_rule (wpAny_pure (hQ _ _)))
theorem join_body2 {l : Addr} {v1 v2 : Value} {vs : List Value} {t : Tok} {Q : Fin → Shared → Prop} (hl : s.heap.IsList l (v1 :: v2 :: vs).toArray) (bs : List (Array UInt8)) (hb : ∀ (i : Nat), i < bs.length → ∃ t, (v1 :: v2 :: vs)[i]? = some (.bytes (bs.getD i #[]) t)) (hlen : bs.length = vs.length + 2)
    (hz : (bs.toArray.foldl (fun n b => n + b.size) 0) ≤ 1000) (hj : (Bytes.joined #[] bs).size ≤ 1000)
    (hQ : ∀ t' k, Q (.done (.ret (.bytes (Bytes.joined #[] bs) t'))) { s with toks := k }) :
    wpAny (model prog w) A («bytes.join» ⟨[.bytes #[] t, .ref l], []⟩) Q E s := by
  have hT : s.TypeIs (.ref l) "list" := by obtain ⟨o, ho, hc, _⟩ := hl; exact ⟨o, ho, hc⟩
  obtain ⟨ol, hol, _, nl, hdl⟩ := hl
  show wpAny _ _ (Bytes.joinM .bytes ⟨[.bytes #[] t, .ref l], []⟩) _ _ s
  unfold Bytes.joinM
  refine wpAny_bind (wpAny_pure ?_)
  try dsimp only
  rw [if_pos (show (Bytes.Kind.bytes == Bytes.Kind.bytes) = true from rfl)]
  unfold Bytes.joinItems
  refine wpAny_bind (wpAny_bind (wpAny_typeOf hT ?_))
  rw [if_pos (show (Value.type "list" == Value.type "list" || Value.type "list" == Value.type "tuple") = true from rfl)]
  refine wpAny_pure ?_
  refine wpAny_bind (wpAny_seqItems hol hdl ?_)
  try dsimp only
  rw [if_pos (show (Bytes.Kind.bytes == Bytes.Kind.bytes) = true from rfl)]
  delta Bytes.joinM.match_1
  rw [dif_neg (show ¬ (v1 :: v2 :: vs).toArray.size = 1 by simp)]
  rw [KPc.range_list]
  show wpAny _ _ (forIn (List.range' 0 (v1 :: v2 :: vs).toArray.size) (#[], []) _ >>= _) _ _ s
  have hsz : (v1 :: v2 :: vs).toArray.size = bs.length := by simp [hlen]
  refine wpAny_bind (wpAny_forIn_list _ (fun rest st s' => s' = s ∧ ∃ i, i + rest.length = bs.length ∧ rest = List.range' i rest.length ∧ st.1 = (bs.take i).toArray ∧ ∀ p ∈ st.2, p.2 = none ∧ p.1.onHeap = false) _ ?_ ?_ _ _ ⟨rfl, 0, ?_, ?_, rfl, fun p hp => nomatch hp⟩)
  · rintro i rest ⟨parts, taken⟩ s' ⟨rfl, j, h1, h2, h3, h4⟩
    rw [List.length_cons, List.range'_succ] at h2
    obtain ⟨rfl, h5⟩ := List.cons.inj h2
    rw [List.length_cons] at h1
    obtain ⟨tj, hv⟩ := hb i (by omega)
    have hg : (v1 :: v2 :: vs).toArray.getD i .none = .bytes (bs.getD i #[]) tj := by
      rw [Array.getD_eq_getD_getElem?, List.getElem?_toArray, hv]; rfl
    have hany : (taken.any fun x => x.1.onHeap) = false := List.any_eq_false.mpr fun p hp => by simp [(h4 p hp).2]
    refine wpAny_bind (wpAny_seqItems hol hdl ?_)
    try dsimp only
    rw [if_neg (by rw [hany]; decide), hg]
    refine wpAny_bind (wpAny_holding (wpAny_of_eq takeQuiet_eq ?_))
    try dsimp only
    refine wpAny_bind (wpAny_seqItems hol hdl ?_)
    try dsimp only
    rw [if_neg (by simp)]
    dsimp only at h3 h4
    refine wpAny_pure ⟨rfl, i + 1, by omega, h5, ?_, fun p hp => ?_⟩
    · have hlt : i < bs.length := by first | exact z_lt (by assumption) | omega
      rw [h3, List.take_add_one, List.getElem?_eq_getElem hlt]
      simp [List.getD, hlt]
    · rcases List.mem_append.mp hp with hp | hp
      · exact h4 p hp
      · rw [List.mem_singleton.mp hp]; exact ⟨rfl, rfl⟩
  · rintro ⟨parts, taken⟩ s' ⟨rfl, j, h1, h2, h3, h4⟩
    dsimp only at h3 h4 ⊢
    rw [List.length_nil, Nat.add_zero] at h1
    rw [h1, List.take_length] at h3
    subst h3
    refine wpAny_bind ?_
    unfold Bytes.payload Bytes.payload?
    refine wpAny_bind (wpAny_pure (wpAny_pure ?_))
    rw [if_neg (by rw [KBy.tooLong_not (by simpa using Nat.le_trans hz (by decide))]; decide)]
    refine wpAny_bind ?_
    show wpAny _ _ (mkBytes (Bytes.joined #[] bs)) _ _ _
    refine wpAny_mkBytes ?_ (by rw [sizeLine_eq]; exact Nat.le_trans hj (by decide))
    refine wpAny_bind (wpAny_holding (wpAny_point ?_))
    refine wpAny_bind (letGo_taken _ (fun p hp => (h4 p hp).1) ?_)
    exact wpAny_pure (hQ _ _)
  · simp [hlen]
  · simp
theorem join_call {l : Addr} {vs : List Value} {bs : List (Array UInt8)} {t : Tok} {Q : Value → Shared → Prop} (hl : s.heap.IsList l vs.toArray) (h1 : 1 ≤ vs.length) (hlen : bs.length = vs.length) (hb : ∀ (i : Nat), i < bs.length → ∃ t, vs[i]? = some (.bytes (bs.getD i #[]) t))
    (hz : (bs.toArray.foldl (fun n b => n + b.size) 0) ≤ 1000) (hj : (Bytes.joined #[] bs).size ≤ 1000) (hQ : ∀ t' k, Q (.bytes (Bytes.joined #[] bs) t') { s with toks := k }) :
    wpAny (model prog w) A (call (.builtin "bytes.join") [.bytes #[] t, .ref l]) Q E s := by
  refine wpAny_call_entry slot_join (typeIs_bytes _ _ _) entry_join ?_ (args_join _ _)
  match vs, bs, h1, hlen with
  | [v], [b], _, _ =>
    obtain ⟨t1, ht⟩ := hb 0 (by simp)
    obtain rfl : v = .bytes b t1 := by simpa using ht
    refine join_body1 hl fun t' k => ⟨_, rfl, ?_⟩
    have := hQ t' k
    rwa [show Bytes.joined #[] [b] = b by simp [Bytes.joined]] at this
  | v1 :: v2 :: vs, bs, _, hlen =>
    exact join_body2 hl bs hb (by simpa using hlen) hz hj fun t' k => ⟨_, rfl, hQ t' k⟩
theorem join_method {t : Tok} {pl : Sem Bool} {Q : Value × List Value → Shared → Prop} (h : Q (.builtin "bytes.join", [.bytes #[] t]) s) : wpAny (model prog w) A (getMethod (.bytes #[] t) (Str.ofString "join") pl) Q E s := by
  with_reducible exact KBd.method_of (.bytes #[] t) (typeIs_bytes _ _ _) slot_join ty_join KBd.noRef h
end
end BJ

end P44
section P45
theorem ru45 : True := by
  k_with "call ref" => ((k_here; (with_reducible show wpAny _ _ (call (Value.ref 234) _) _ _ _); k_dflt (refine' record_ok ?zzk1 ?zzk2 ?zzkr ?zzk3 ?zzk4 ?zzk5 ?zzk6 ?_; (case zzk1 => exact Frag.In.keeps (by k_asm) (Fr.keep (by k_asm))); (case zzk2 => exact Top.keeps (by k_asm) (Fr.keep (by k_asm))); (case zzk4 => first | exact Heap.IsList.at (by assumption) (fun o e => Fr.keep (by k_asm) _ _ e) | exact News.isList (by k_asm) (by k_mem)); (case zzk5 => assumption); (case zzk3 => assumption); (case zzk6 => k_extra "m_size"); (case zzkr => (simp only [depth_in1, depth_deeper]; omega)); intro _ _ _ _ _ _ _ _ _ _ _; walk_at "t_4")))
  k_with "call ref" => ((k_here; (with_reducible show wpAny _ _ (call (Value.ref 227) _) _ _ _); k_dflt (refine' figures_ok ?zzk1 ?zzk2 ?zzkr ?zzk3 ?_; (case zzk1 => exact Frag.In.keeps (by k_asm) (Fr.keep (by k_asm))); (case zzk2 => exact Top.keeps (by k_asm) (Fr.keep (by k_asm))); (case zzk3 => assumption); (case zzkr => (simp only [depth_in1, depth_deeper]; omega)); intro _ _ _ _ _; walk_at "t_5")))
  k_with "call ref" => ((k_here; (with_reducible show wpAny _ _ (call (Value.ref 239) _) _ _ _); k_dflt (refine' within_ok ?zzk5 ?zzk6 ?zzk1 ?zzk2 ?zzkr ?zzku ?zzk3 ?_; (case zzk1 => exact Frag.In.keeps (by k_asm) (Fr.keep (by k_asm))); (case zzk2 => exact Top.keeps (by k_asm) (Fr.keep (by k_asm))); (case zzk3 => assumption); (case zzk5 => first | assumption | omega); (case zzk6 => first | assumption | omega); (case zzkr => (simp only [depth_in1, depth_deeper]; omega)); (case zzku => k_units); intro _ _; walk_at "t_6")))
  k_with "call type:type" => (((with_reducible show wpAny _ _ (call (Value.type "type") [Value.bytes _ _]) _ _ _); (refine call_type_of (typeIs_bytes _ _ _) (by decide) ?_)))
  k_with "call type:type" => (((with_reducible show wpAny _ _ (call (Value.type "type") [Value.bool _]) _ _ _); (refine call_type_of (typeIs_bool' _ _) (by decide) ?_)))
  k_with "call ref" => ((k_here; (with_reducible show wpAny _ _ (call (Value.ref 77) _) _ _ _); k_dflt (refine' buffer_ok ?zzk1 ?zzk2 ?zzkr ?zzku ?zzk3 ?_; (case zzk1 => exact Frag.In.keeps (by k_asm) (Fr.keep (by k_asm))); (case zzk2 => exact Top.keeps (by k_asm) (Fr.keep (by k_asm))); (case zzk3 => assumption); (case zzkr => (simp only [depth_in1, depth_deeper]; omega)); (case zzku => k_units); intro _ _; walk_at "t_6")))
  k_with "call ref" => ((k_here; (with_reducible show wpAny _ _ (call (Value.ref 84) _) _ _ _); k_dflt (refine' truth_ok ?zzk1 ?zzk2 ?zzkr ?zzku ?zzk3 ?_; (case zzk1 => exact Frag.In.keeps (by k_asm) (Fr.keep (by k_asm))); (case zzk2 => exact Top.keeps (by k_asm) (Fr.keep (by k_asm))); (case zzk3 => assumption); (case zzkr => (simp only [depth_in1, depth_deeper]; omega)); (case zzku => k_units); intro _ _; walk_at "t_6")))
  k_with "call ref" => ((k_here; (with_reducible show wpAny _ _ (call (Value.ref 92) _ _) _ _ _); k_dflt (refine' b2a_ok ?zzk1 ?zzk2 ?zzkr ?zzku ?zzk3 ?zzkb ?zzkB ?_; (case zzk1 => exact Frag.In.keeps (by k_asm) (Fr.keep (by k_asm))); (case zzk2 => exact Top.keeps (by k_asm) (Fr.keep (by k_asm))); (case zzk3 => assumption); (case zzkb => assumption); (case zzkB => assumption); (case zzkr => (simp only [depth_in1, depth_deeper]; omega)); (case zzku => k_units); intro _ _ _; walk_at "t_6")))
  k_with "call ref" => ((k_here; (with_reducible show wpAny _ _ (call (Value.ref 100) _ _) _ _ _); k_dflt (refine' b64encode_ok ?zzk1 ?zzk2 ?zzkr ?zzku ?zzk3 ?zzkb ?zzkB ?_; (case zzk1 => exact Frag.In.keeps (by k_asm) (Fr.keep (by k_asm))); (case zzk2 => exact Top.keeps (by k_asm) (Fr.keep (by k_asm))); (case zzk3 => assumption); (case zzkb => assumption); (case zzkB => assumption); (case zzkr => (simp only [depth_in1, depth_deeper]; omega)); (case zzku => k_units); intro _ _ _; walk_at "t_6")))
  trivial
namespace AD
open Builtin
section
variable {b : Array UInt8} {c : UInt8} {cs : List UInt8} {t : Tok} {x : Str} {n : Nat}
theorem road_eq {id : String} : _codecs.decodeRoad id b (Str.ofString "ascii") none [] = (_codecs.runDecoder id _codecs.asciiDecoder none true b 0 [] >>= fun r => mkStr ⟨r.1⟩) := by kernel_rfl
theorem meets_text {t1 t2 : Tok} {d : Str} (hd : ∀ id, _codecs.runDecoder id _codecs.asciiDecoder none true b 0 [] = pure (x.cps, n)) :
    Meets («_codecs.decode.text» ⟨[.bytes b t, .str (Str.ofString "ascii") t1, .none, .str d t2], []⟩) (fun _ R s => x.length ≤ sizeLine ∧ R (.ok (.ret (.str x s.toks))) { s with toks := s.toks + 1 }) := by
  refine .of_wp fun prog w A R s hS => ?_
  obtain ⟨hsz, h⟩ := hS
  show wpAny _ _ (Bytes.bytesLike _ (.bytes b t) >>= fun r => _) _ _ s
  refine wpAny_bind (wpAny_of_eq KBd.like_eq ?_)
  refine wpAny_bind (wpAny_of_eq KBd.held_eq ?_)
  show wpAny _ _ (_codecs.decodeRoad _ b (Str.ofString "ascii") none [] >>= fun v => _) _ _ s
  rw [road_eq, hd]
  refine wpAny_bind (wpAny_bind (wpAny_pure ?_))
  exact wpAny_mkStr (wpAny_pure ⟨_, rfl, h⟩) hsz
theorem entry_eq {u : Tok} : «bytes.decode» ⟨[.bytes (c :: cs).toArray t, .str (Str.ofString "ascii") u], []⟩ = (mkStr (Str.ofString "utf-8") >>= fun _ => mkStr (Str.ofString "ascii") >>= fun e => mkStr (Str.ofString "bytes.decode") >>= fun d =>
    call (.builtin "_codecs.decode.text") [.bytes (c :: cs).toArray t, e, .none, d] >>= fun v => ret v) := by kernel_rfl
theorem args_2 (a b : Value) : argsOk "bytes.decode" ⟨[a, b], []⟩ := by unfold argsOk; kernel_rfl
theorem meets_decode {u : Tok} (hd : ∀ id, _codecs.runDecoder id _codecs.asciiDecoder none true (c :: cs).toArray 0 [] = pure (x.cps, n)) :
    Meets («bytes.decode» ⟨[.bytes (c :: cs).toArray t, .str (Str.ofString "ascii") u], []⟩) (fun _ R s => x.length ≤ sizeLine ∧ ∀ t' k, R (.ok (.ret (.str x t'))) { s with toks := k }) := by
  refine .of_wp fun prog w A R s hS => ?_
  obtain ⟨hsz, h⟩ := hS
  rw [entry_eq]
  refine wpAny_bind (wpAny_mkStr ?_ (by decide))
  refine wpAny_bind (wpAny_mkStr ?_ (by decide))
  refine wpAny_bind (wpAny_mkStr ?_ (by decide))
  exact wpAny_bind (call_function_meets KBd.kind_text KBd.plain_text KBd.entry_text (KBd.args_text _ _ _ _) (meets_text hd) ⟨hsz, wpAny_pure ⟨_, rfl, h _ _⟩⟩)
end
noncomputable def DecRow (r : List Int) : Prop := ∃ c cs n, byteArr (r.flatMap blt) = List.toArray (c :: cs) ∧ (∀ id, _codecs.runDecoder id _codecs.asciiDecoder none true (List.toArray (c :: cs)) 0 [] = pure ((ptxt r).cps, n)) ∧ (ptxt r).length ≤ 16777216
theorem rows_all {P : List Int → Prop} (h1 : ∀ a ∈ [0, 1, 2], P [a]) (h2 : ∀ a ∈ [0, 1, 2], ∀ b ∈ [0, 1, 2], P [a, b]) (h3 : ∀ a ∈ [0, 1, 2], ∀ b ∈ [0, 1, 2], ∀ c ∈ [0, 1, 2], P [a, b, c]) : ∀ r ∈ figL, P r := by
  intro r hr
  unfold figL at hr
  simp only [List.mem_append, List.mem_flatMap, List.mem_map] at hr
  rcases hr with (hr | ⟨a, ha, b, hb, rfl⟩) | ⟨a, ha, b, hb, c, hc, rfl⟩
  · simp only [List.mem_cons, List.not_mem_nil, or_false] at hr
    rcases hr with rfl | rfl | rfl
    · exact h1 0 (by simp)
    · exact h1 1 (by simp)
    · exact h1 2 (by simp)
  · exact h2 a ha b hb
  · exact h3 a ha b hb c hc
theorem of3 {P : Int → Prop} (h0 : P 0) (h1 : P 1) (h2 : P 2) : ∀ a ∈ [0, 1, 2], P a := by
  intro a ha
  simp only [List.mem_cons, List.not_mem_nil, or_false] at ha
  rcases ha with rfl | rfl | rfl
  · exact h0
  · exact h1
  · exact h2
theorem dec1 : ∀ a ∈ [0, 1, 2], DecRow [a] := of3 ⟨65, [66, 67, 68], 4, by decide +kernel, fun _ => by kernel_rfl, by decide +kernel⟩ ⟨97, [98, 99, 100], 4, by decide +kernel, fun _ => by kernel_rfl, by decide +kernel⟩ ⟨43, [43, 43, 43], 4, by decide +kernel, fun _ => by kernel_rfl, by decide +kernel⟩
theorem dec2 : ∀ a ∈ [0, 1, 2], ∀ b ∈ [0, 1, 2], DecRow [a, b] := of3 (of3 ⟨65, [66, 67, 68, 65, 66, 67, 68], 8, by decide +kernel, fun _ => by kernel_rfl, by decide +kernel⟩ ⟨65, [66, 67, 68, 97, 98, 99, 100], 8, by decide +kernel, fun _ => by kernel_rfl, by decide +kernel⟩ ⟨65, [66, 67, 68, 43, 43, 43, 43], 8, by decide +kernel, fun _ => by kernel_rfl, by decide +kernel⟩) (of3 ⟨97, [98, 99, 100, 65, 66, 67, 68], 8, by decide +kernel, fun _ => by kernel_rfl, by decide +kernel⟩ ⟨97, [98, 99, 100, 97, 98, 99, 100], 8, by decide +kernel, fun _ => by kernel_rfl, by decide +kernel⟩ ⟨97, [98, 99, 100, 43, 43, 43, 43], 8, by decide +kernel, fun _ => by kernel_rfl, by decide +kernel⟩) (of3 ⟨43, [43, 43, 43, 65, 66, 67, 68], 8, by decide +kernel, fun _ => by kernel_rfl, by decide +kernel⟩ ⟨43, [43, 43, 43, 97, 98, 99, 100], 8, by decide +kernel, fun _ => by kernel_rfl, by decide +kernel⟩ ⟨43, [43, 43, 43, 43, 43, 43, 43], 8, by decide +kernel, fun _ => by kernel_rfl, by decide +kernel⟩)
theorem dec3_0 : ∀ b ∈ [0, 1, 2], ∀ c ∈ [0, 1, 2], DecRow [0, b, c] := of3 (of3 ⟨65, [66, 67, 68, 65, 66, 67, 68, 65, 66, 67, 68], 12, by decide +kernel, fun _ => by kernel_rfl, by decide +kernel⟩ ⟨65, [66, 67, 68, 65, 66, 67, 68, 97, 98, 99, 100], 12, by decide +kernel, fun _ => by kernel_rfl, by decide +kernel⟩ ⟨65, [66, 67, 68, 65, 66, 67, 68, 43, 43, 43, 43], 12, by decide +kernel, fun _ => by kernel_rfl, by decide +kernel⟩) (of3 ⟨65, [66, 67, 68, 97, 98, 99, 100, 65, 66, 67, 68], 12, by decide +kernel, fun _ => by kernel_rfl, by decide +kernel⟩ ⟨65, [66, 67, 68, 97, 98, 99, 100, 97, 98, 99, 100], 12, by decide +kernel, fun _ => by kernel_rfl, by decide +kernel⟩ ⟨65, [66, 67, 68, 97, 98, 99, 100, 43, 43, 43, 43], 12, by decide +kernel, fun _ => by kernel_rfl, by decide +kernel⟩) (of3 ⟨65, [66, 67, 68, 43, 43, 43, 43, 65, 66, 67, 68], 12, by decide +kernel, fun _ => by kernel_rfl, by decide +kernel⟩ ⟨65, [66, 67, 68, 43, 43, 43, 43, 97, 98, 99, 100], 12, by decide +kernel, fun _ => by kernel_rfl, by decide +kernel⟩ ⟨65, [66, 67, 68, 43, 43, 43, 43, 43, 43, 43, 43], 12, by decide +kernel, fun _ => by kernel_rfl, by decide +kernel⟩)
theorem dec3_1 : ∀ b ∈ [0, 1, 2], ∀ c ∈ [0, 1, 2], DecRow [1, b, c] := of3 (of3 ⟨97, [98, 99, 100, 65, 66, 67, 68, 65, 66, 67, 68], 12, by decide +kernel, fun _ => by kernel_rfl, by decide +kernel⟩ ⟨97, [98, 99, 100, 65, 66, 67, 68, 97, 98, 99, 100], 12, by decide +kernel, fun _ => by kernel_rfl, by decide +kernel⟩ ⟨97, [98, 99, 100, 65, 66, 67, 68, 43, 43, 43, 43], 12, by decide +kernel, fun _ => by kernel_rfl, by decide +kernel⟩) (of3 ⟨97, [98, 99, 100, 97, 98, 99, 100, 65, 66, 67, 68], 12, by decide +kernel, fun _ => by kernel_rfl, by decide +kernel⟩ ⟨97, [98, 99, 100, 97, 98, 99, 100, 97, 98, 99, 100], 12, by decide +kernel, fun _ => by kernel_rfl, by decide +kernel⟩ ⟨97, [98, 99, 100, 97, 98, 99, 100, 43, 43, 43, 43], 12, by decide +kernel, fun _ => by kernel_rfl, by decide +kernel⟩) (of3 ⟨97, [98, 99, 100, 43, 43, 43, 43, 65, 66, 67, 68], 12, by decide +kernel, fun _ => by kernel_rfl, by decide +kernel⟩ ⟨97, [98, 99, 100, 43, 43, 43, 43, 97, 98, 99, 100], 12, by decide +kernel, fun _ => by kernel_rfl, by decide +kernel⟩ ⟨97, [98, 99, 100, 43, 43, 43, 43, 43, 43, 43, 43], 12, by decide +kernel, fun _ => by kernel_rfl, by decide +kernel⟩)
theorem dec3_2 : ∀ b ∈ [0, 1, 2], ∀ c ∈ [0, 1, 2], DecRow [2, b, c] := of3 (of3 ⟨43, [43, 43, 43, 65, 66, 67, 68, 65, 66, 67, 68], 12, by decide +kernel, fun _ => by kernel_rfl, by decide +kernel⟩ ⟨43, [43, 43, 43, 65, 66, 67, 68, 97, 98, 99, 100], 12, by decide +kernel, fun _ => by kernel_rfl, by decide +kernel⟩ ⟨43, [43, 43, 43, 65, 66, 67, 68, 43, 43, 43, 43], 12, by decide +kernel, fun _ => by kernel_rfl, by decide +kernel⟩) (of3 ⟨43, [43, 43, 43, 97, 98, 99, 100, 65, 66, 67, 68], 12, by decide +kernel, fun _ => by kernel_rfl, by decide +kernel⟩ ⟨43, [43, 43, 43, 97, 98, 99, 100, 97, 98, 99, 100], 12, by decide +kernel, fun _ => by kernel_rfl, by decide +kernel⟩ ⟨43, [43, 43, 43, 97, 98, 99, 100, 43, 43, 43, 43], 12, by decide +kernel, fun _ => by kernel_rfl, by decide +kernel⟩) (of3 ⟨43, [43, 43, 43, 43, 43, 43, 43, 65, 66, 67, 68], 12, by decide +kernel, fun _ => by kernel_rfl, by decide +kernel⟩ ⟨43, [43, 43, 43, 43, 43, 43, 43, 97, 98, 99, 100], 12, by decide +kernel, fun _ => by kernel_rfl, by decide +kernel⟩ ⟨43, [43, 43, 43, 43, 43, 43, 43, 43, 43, 43, 43], 12, by decide +kernel, fun _ => by kernel_rfl, by decide +kernel⟩)
theorem dec_rows : ∀ r ∈ figL, DecRow r := rows_all dec1 dec2 (of3 dec3_0 dec3_1 dec3_2)
section
variable {prog : Program} {w : World} {A : Around} {E : Value → Shared → Prop} {s : Shared} {t u : Tok}
theorem decode {r : List Int} {Q : Value → Shared → Prop} (hr : r ∈ figL) (h : ∀ t' k, Q (.str (ptxt r) t') { s with toks := k }) :
    wpAny (model prog w) A (call (.builtin "bytes.decode") [.bytes (byteArr (r.flatMap blt)) t, .str (Str.ofString "ascii") u]) Q E s := by
  obtain ⟨c, cs, n, e, hd, hz⟩ := dec_rows r hr
  rw [e]
  exact call_meets FB.slot_bytes_decode (typeIs_bytes _ _ _) FB.entry_bytes_decode (args_2 _ _) (meets_decode hd) ⟨by rw [sizeLine_eq]; exact hz, h⟩
end
end AD

end P45
section P46
theorem fmod3 (x : Int) : x.fmod 3 ∈ ([0, 1, 2] : List Int) := by
  have h1 := Int.fmod_nonneg_of_pos x (show (0 : Int) < 3 by decide)
  have h2 := Int.fmod_lt_of_pos x (show (0 : Int) < 3 by decide)
  have : x.fmod 3 = 0 ∨ x.fmod 3 = 1 ∨ x.fmod 3 = 2 := by omega
  simpa using this
theorem figL1 : ∀ a ∈ ([0, 1, 2] : List Int), [a] ∈ figL := by decide +kernel
theorem figL2 : ∀ a ∈ ([0, 1, 2] : List Int), ∀ b ∈ ([0, 1, 2] : List Int), [a, b] ∈ figL := by decide +kernel
theorem figL3 : ∀ a ∈ ([0, 1, 2] : List Int), ∀ b ∈ ([0, 1, 2] : List Int), ∀ c ∈ ([0, 1, 2] : List Int), [a, b, c] ∈ figL := by decide +kernel
theorem figs_in (x : Int) : figs x ∈ figL := by
  have h := fmod3 x
  have h1 := fmod3 (x.fdiv 3)
  have h2 := fmod3 (x.fdiv 9)
  have h3 := fmod3 (x.fdiv 27)
  unfold figs
  generalize (x.fdiv 3).fmod 3 = a at *
  generalize (x.fdiv 9).fmod 3 = b at *
  generalize (x.fdiv 27).fmod 3 = c at *
  simp only [List.mem_cons, List.not_mem_nil, or_false] at h
  rcases h with h | h | h <;> rw [h]
  · exact figL1 a h1
  · exact figL2 a h1 b h2
  · exact figL3 a h1 b h2 c h3
noncomputable def blkA : Int → Array UInt8
  | 0 => #[0, 16, 131]
  | 1 => #[105, 183, 29]
  | _ => #[251, 239, 190]
theorem figL_oct : ∀ r ∈ figL, KBw.bInts (Builtin.Bytes.joined #[] (r.map blkA)) = r.flatMap blk ∧ (Builtin.Bytes.joined #[] (r.map blkA)).size ≤ 9 ∧ ((r.map blkA).toArray.foldl (fun n b => n + b.size) 0) ≤ 1000 := by decide +kernel
theorem figL_bst : ∀ r ∈ figL, (bst (r.flatMap blk)).2 = (0, r.flatMap blt) := by decide +kernel
theorem figL_txt : ∀ r ∈ figL, Txt.join (Str.ofString "") (r.map fun a => Str.ofString (pblk a)) = ptxt r := by decide +kernel
theorem figL_ok : ∀ r ∈ figL, PyData.strOk (ptxt r) = true := by decide +kernel
theorem figL_012 : ∀ r ∈ figL, (∀ a ∈ r, a = 0 ∨ a = 1 ∨ a = 2) ∧ 1 ≤ r.length ∧ r.length ≤ 3 := by decide +kernel

end P46
section P47
theorem ru47 : True := by
  k_with_none
  k_with "m_stop" => (first | with_reducible show LCg.CompRest _ _ _ _ _ _ _ _ _ _ _ _ _ _ _ _ _ _ _ | with_reducible show LCt.CompRestT _ _ _ _ _ _ _ _ _ _ _ _ _ _ _ _ _ _ _ _)
  k_with "m_go0" => (repeat' ((fail_if_success (k_extra "m_stop")); first | (k_unfold; (try dsimp only)) | walk1 | (dsimp only; walk1) | (leave1; try dsimp only) | fail "no step"))
  k_with "m_go" => (((try k_fold) <;> (try dsimp only) <;> k_extra "m_go0" <;> (try k_fold)))
  k_with "m_inA" => (((case zzkX => assumption); (case zzkT => assumption); (case zzkl => k_is); (case zzk1 => exact rfl); (case zzk2 => exact rfl); (case zzk3 => exact rfl); (case zzk4 => decide); (case zzkc => k_is); (case zzkr => omega); (case zzkb => first | exact BindsTo.of_eq rfl | exact binds_K (by k_in) rfl (by k_is) rfl rfl rfl); (case zzko => exact locs rfl); intro _ _; walk_at "t_0"))
  k_with "m_inB" => (((case zzkX => assumption); (case zzkT => assumption); (case zzkl => k_is); (case zzk1 => exact rfl); (case zzk2 => exact rfl); (case zzk3 => exact rfl); (case zzkc => k_is); (case zzkr => omega); (case zzkb => first | exact BindsTo.of_eq rfl | exact binds_K (by k_in) rfl (by k_is) rfl rfl rfl); (case zzko => exact rfl); (case zzkn => decide +kernel); intro _ _ _ _; walk_at "t_1"))
  k_with "m_in1" => ((refine' freeze1 ?zzkX ?zzkT ?zzkl ?zzkc ?zzkr ?zzkb ?zzko ?_ ?zzk1 ?zzk2 ?zzk3 ?zzk4; k_extra "m_inA"))
  k_with "m_inC1" => ((refine' freezeC1 ?zzkX ?zzkT ?zzkl ?zzkc ?zzkr ?zzkb ?zzko ?zzkn ?_ ?zzk1 ?zzk2 ?zzk3; k_extra "m_inB"))
  k_with "m_in2" => ((refine' freeze2 ?zzkX ?zzkT ?zzkl ?zzkc ?zzkr ?zzkb ?zzko ?_ ?zzk1 ?zzk2 ?zzk3 ?zzk4; k_extra "m_inA"))
  k_with "m_inC2" => ((refine' freezeC2 ?zzkX ?zzkT ?zzkl ?zzkc ?zzkr ?zzkb ?zzko ?zzkn ?_ ?zzk1 ?zzk2 ?zzk3; k_extra "m_inB"))
  k_with "m_in3" => ((refine' freeze3 ?zzkX ?zzkT ?zzkl ?zzkc ?zzkr ?zzkb ?zzko ?_ ?zzk1 ?zzk2 ?zzk3 ?zzk4; k_extra "m_inA"))
  k_with "m_inC3" => ((refine' freezeC3 ?zzkX ?zzkT ?zzkl ?zzkc ?zzkr ?zzkb ?zzko ?zzkn ?_ ?zzk1 ?zzk2 ?zzk3; k_extra "m_inB"))
  k_with "m_in4" => ((refine' freeze4 ?zzkX ?zzkT ?zzkl ?zzkc ?zzkr ?zzkb ?zzko ?_ ?zzk1 ?zzk2 ?zzk3 ?zzk4; k_extra "m_inA"))
  k_with "m_inC4" => ((refine' freezeC4 ?zzkX ?zzkT ?zzkl ?zzkc ?zzkr ?zzkb ?zzko ?zzkn ?_ ?zzk1 ?zzk2 ?zzk3; k_extra "m_inB"))
  k_with "m_size" => (first | ((with_reducible refine z_sz ?_); omega) | ((with_reducible refine z_szl ?_); omega) | omega | (rw [sizeLine_eq]; omega) | (simp only [List.size_toArray, sizeLine_eq, List.length_append, List.length_cons, List.length_nil, List.length_map] at *; omega))
  k_with "eval ListComp" => ((k_here; k_dflt (first | ((with_reducible apply LCt.ListComp_T); (case F₀ => k_asm); (case hclos => with_unfolding_all rfl); (case hcell => decide); (case hkind => rfl); (case hnames => decide); (case hx => rfl); (case hs => intro _; with_unfolding_all rfl)) | ((with_reducible apply LCg.ListComp_U); (case F₀ => k_asm); (case hclos => with_unfolding_all rfl); (case hcell => decide); (case hkind => rfl); (case hnames => decide); (case hx => rfl); (case hs => intro _; with_unfolding_all rfl)))))
  k_with "exec Assign cons ListComp" => ((k_here; k_dflt (first | ((with_reducible apply LCt.Assign_ListComp_T); (case F₀ => k_asm); (case hLe => rfl); (case hsw => with_unfolding_all rfl); (case hclos => with_unfolding_all rfl); (case hcell => decide); (case hkind => rfl); (case hnames => decide); (case hx => rfl); (case hy => rfl); (case hp => rfl); (case hs => intro _; with_unfolding_all rfl)) | ((with_reducible apply LCg.Assign_ListComp_U); (case F₀ => k_asm); (case hLe => rfl); (case hsw => with_unfolding_all rfl); (case hclos => with_unfolding_all rfl); (case hcell => decide); (case hkind => rfl); (case hnames => decide); (case hx => rfl); (case hy => rfl); (case hp => rfl); (case hs => intro _; with_unfolding_all rfl)) | (refine wpAny_Assign_Name ?_))))
  k_with "CompSrcT" => ((k_here; k_dflt (first | (refine LCt.CompSrcT.ledger (by first | assumption | rfl) (by k_asm) (by k_asm) (by k_mem) (by k_extra "m_size") ?_; intro _) | (refine LCt.CompSrcT.base (by first | assumption | rfl) (by k_asm) (by k_asm) (by assumption) (by k_extra "m_size") ?_; intro _) | (refine LCt.CompSrcT.range (by first | assumption | rfl) (by k_asm) (by k_asm) (by assumption) (by first | decide | exact small_nat (by omega) | exact small_one (by omega) (by omega) (by omega) (by omega)) (by first | rfl | decide | exact rangeSize_nat _ _) (by k_extra "m_size") ?_; intro _))))
  k_with "CompSrc" => ((k_here; k_dflt (first | (refine LCg.CompSrc.ledger (by first | assumption | rfl) (by k_asm) (by k_asm) (by k_mem) (by k_extra "m_size") ?_; intro _) | (refine LCg.CompSrc.base (by first | assumption | rfl) (by k_asm) (by k_asm) (by assumption) (by k_extra "m_size") ?_; intro _) | (refine LCg.CompSrc.range (by first | assumption | rfl) (by k_asm) (by k_asm) (by assumption) (by first | decide | exact small_nat (by omega) | exact small_one (by omega) (by omega) (by omega) (by omega)) (by first | rfl | decide | exact rangeSize_nat _ _) (by k_extra "m_size") ?_; intro _))))
  k_with "m_arith" => (first | ((try simp only [depth_under_make, depth_under_kw, depth_in1, depth_deeper, units_in1, units_deeper, Around.mark_units]); omega) | (simp only [depth_under_make, depth_under_kw, depth_in1, depth_deeper, units_in1, units_deeper, Around.mark_units] at *; omega))
  k_with "m_p1" => (first | with_reducible assumption | exact And.left (by with_reducible assumption) | exact And.left (And.right (by with_reducible assumption)) | exact And.right (by with_reducible assumption) | exact And.left (And.right (And.right (by with_reducible assumption))) | exact And.right (And.right (by with_reducible assumption)) | exact And.left (And.right (And.right (And.right (by with_reducible assumption)))) | exact And.right (And.right (And.right (by with_reducible assumption))) | exact And.left (And.right (And.right (And.right (And.right (by with_reducible assumption))))) | exact And.right (And.right (And.right (And.right (by with_reducible assumption)))) | exact And.left (And.right (And.right (And.right (And.right (And.right (by with_reducible assumption)))))) | exact And.right (And.right (And.right (And.right (And.right (by with_reducible assumption))))) | exact And.left (And.right (And.right (And.right (And.right (And.right (And.right (by with_reducible assumption))))))) | exact And.right (And.right (And.right (And.right (And.right (And.right (by with_reducible assumption)))))) | exact And.left (And.right (And.right (And.right (And.right (And.right (And.right (And.right (by with_reducible assumption)))))))) | exact And.right (And.right (And.right (And.right (And.right (And.right (And.right (by with_reducible assumption))))))) | exact And.left (And.right (And.right (And.right (And.right (And.right (And.right (And.right (And.right (by with_reducible assumption))))))))) | exact And.right (And.right (And.right (And.right (And.right (And.right (And.right (And.right (by with_reducible assumption)))))))) | exact And.left (And.right (And.right (And.right (And.right (And.right (And.right (And.right (And.right (And.right (by with_reducible assumption)))))))))) | exact And.right (And.right (And.right (And.right (And.right (And.right (And.right (And.right (And.right (by with_reducible assumption))))))))) | exact And.left (And.right (And.right (And.right (And.right (And.right (And.right (And.right (And.right (And.right (And.right (by with_reducible assumption))))))))))) | exact And.right (And.right (And.right (And.right (And.right (And.right (And.right (And.right (And.right (And.right (by with_reducible assumption)))))))))) | exact And.left (And.right (And.right (And.right (And.right (And.right (And.right (And.right (And.right (And.right (And.right (And.right (by with_reducible assumption)))))))))))) | exact And.right (And.right (And.right (And.right (And.right (And.right (And.right (And.right (And.right (And.right (And.right (by with_reducible assumption))))))))))))
  k_with "m_p2" => (first | exact And.left (And.left (by with_reducible assumption)) | exact And.left (And.right (And.left (by with_reducible assumption))) | exact And.left (And.right (And.right (And.left (by with_reducible assumption)))) | exact And.left (And.right (And.right (And.right (And.left (by with_reducible assumption))))) | exact And.right (And.left (by with_reducible assumption)) | exact And.right (And.right (And.left (by with_reducible assumption))) | exact And.right (And.right (And.right (And.left (by with_reducible assumption)))) | exact And.left (And.left (And.right (by with_reducible assumption))) | exact And.left (And.right (And.left (And.right (by with_reducible assumption)))) | exact And.left (And.right (And.right (And.left (And.right (by with_reducible assumption))))) | exact And.left (And.right (And.right (And.right (And.left (And.right (by with_reducible assumption)))))) | exact And.right (And.left (And.right (by with_reducible assumption))) | exact And.right (And.right (And.left (And.right (by with_reducible assumption)))) | exact And.right (And.right (And.right (And.left (And.right (by with_reducible assumption))))) | exact And.left (And.left (And.right (And.right (by with_reducible assumption)))) | exact And.left (And.right (And.left (And.right (And.right (by with_reducible assumption))))) | exact And.left (And.right (And.right (And.left (And.right (And.right (by with_reducible assumption)))))) | exact And.left (And.right (And.right (And.right (And.left (And.right (And.right (by with_reducible assumption))))))) | exact And.right (And.left (And.right (And.right (by with_reducible assumption)))) | exact And.right (And.right (And.left (And.right (And.right (by with_reducible assumption))))) | exact And.right (And.right (And.right (And.left (And.right (And.right (by with_reducible assumption)))))) | exact And.left (And.left (And.right (And.right (And.right (by with_reducible assumption))))) | exact And.left (And.right (And.left (And.right (And.right (And.right (by with_reducible assumption)))))) | exact And.left (And.right (And.right (And.left (And.right (And.right (And.right (by with_reducible assumption))))))) | exact And.left (And.right (And.right (And.right (And.left (And.right (And.right (And.right (by with_reducible assumption)))))))) | exact And.right (And.left (And.right (And.right (And.right (by with_reducible assumption))))) | exact And.right (And.right (And.left (And.right (And.right (And.right (by with_reducible assumption)))))) | exact And.right (And.right (And.right (And.left (And.right (And.right (And.right (by with_reducible assumption))))))))
  k_with "m_ne" => (first | assumption | (refine Ne.symm ?_; assumption) | (refine Nat.ne_of_lt ?_; k_extra "m_p1") | (refine Nat.ne_of_gt ?_; k_extra "m_p1") | k_extra "m_p1" | (refine Ne.symm ?_; k_extra "m_p1") | k_extra "m_p2" | (refine Ne.symm ?_; k_extra "m_p2"))
  k_with "call ref" => ((k_here; (with_reducible show wpAny _ _ (call (Value.ref 59) _) _ _ _); k_dflt (refine' mk_entry ?zzk1 ?zzk2 ?zzk3 ?zzk4 ?zzkr ?_; (case zzk1 => k_asm); (case zzk2 => k_asm); (case zzk3 => k_asm); (case zzk4 => k_asm); (case zzkr => (simp only [depth_in1, depth_deeper]; omega)); intro _ _ _ _ _ _ _ _ _ _ _ _; walk_at "t_2")))
  k_with "assign Tuple" => ((k_here; k_dflt (refine' assign2 ?zzk1 ?zzk2 ?zzk3 ?zzk4 ?_; (case zzk1 => first | assumption | exact rfl); (case zzk2 => k_asm); (case zzk3 => k_asm); (case zzk4 => k_mem); intro _ _ _)))
  k_with "exec For Name Attribute cons nil" => ((k_here; k_dflt (refine For_at ?_)))
  k_with "exec For Name Name cons nil" => ((k_here; k_dflt (refine For_at ?_)))
  k_with "exec For Name Call cons nil" => ((k_here; k_dflt (refine For_at ?_)))
  k_with "exec For Name Tuple cons nil" => ((k_here; k_dflt (refine For_at ?_)))
  k_with "exec For Name List cons nil" => ((k_here; k_dflt (refine For_at ?_)))
  k_with "m_stop" => (with_reducible show ForAt _ _ _ _ _ _ _ _ _ _)
  k_with "m_up" => (first | exact ⟨_, by funext z; repeat' (first | rfl | split) <;> simp_all⟩ | exact ⟨_, _, by funext z; repeat' (first | rfl | split) <;> simp_all⟩ | exact ⟨_, _, _, by funext z; repeat' (first | rfl | split) <;> simp_all⟩)
  k_with "newList" => ((k_here; k_dflt (refine' newList_M ?zzk1 ?zzk2 ?zzk3 ?_; (case zzk1 => k_asm); (case zzk2 => k_asm); (case zzk3 => exact Nat.le_of_ble_eq_true rfl)); intro _ _ _ _; walk_at "t_3"))
  k_with "call ref" => ((k_here; (with_reducible show wpAny _ _ (call (Value.ref 234) _) _ _ _); k_dflt (refine' record_ok ?zzk1 ?zzk2 ?zzkr ?zzk3 ?zzk4 ?zzk5 ?zzk6 ?_; (case zzk1 => exact Frag.In.keeps (by k_asm) (Fr.keep (by k_asm))); (case zzk2 => exact Top.keeps (by k_asm) (Fr.keep (by k_asm))); (case zzk4 => first | exact Heap.IsList.at (by assumption) (fun o e => Fr.keep (by k_asm) _ _ e) | exact News.isList (by k_asm) (by k_mem)); (case zzk5 => assumption); (case zzk3 => assumption); (case zzk6 => k_extra "m_size"); (case zzkr => (simp only [depth_in1, depth_deeper]; omega)); intro _ _ _ _ _ _ _ _ _ _ _; walk_at "t_4")))
  k_with "call ref" => ((k_here; (with_reducible show wpAny _ _ (call (Value.ref 227) _) _ _ _); k_dflt (refine' figures_ok ?zzk1 ?zzk2 ?zzkr ?zzk3 ?_; (case zzk1 => exact Frag.In.keeps (by k_asm) (Fr.keep (by k_asm))); (case zzk2 => exact Top.keeps (by k_asm) (Fr.keep (by k_asm))); (case zzk3 => assumption); (case zzkr => (simp only [depth_in1, depth_deeper]; omega)); intro _ _ _ _ _; walk_at "t_5")))
  k_with "call ref" => ((k_here; (with_reducible show wpAny _ _ (call (Value.ref 239) _) _ _ _); k_dflt (refine' within_ok ?zzk5 ?zzk6 ?zzk1 ?zzk2 ?zzkr ?zzku ?zzk3 ?_; (case zzk1 => exact Frag.In.keeps (by k_asm) (Fr.keep (by k_asm))); (case zzk2 => exact Top.keeps (by k_asm) (Fr.keep (by k_asm))); (case zzk3 => assumption); (case zzk5 => first | assumption | omega); (case zzk6 => first | assumption | omega); (case zzkr => (simp only [depth_in1, depth_deeper]; omega)); (case zzku => k_units); intro _ _; walk_at "t_6")))
  k_with "compareOp NotEq ref ref" => ((k_here; k_dflt (first | refine ne_bools (by is_list) (by is_list) (by assumption) (by assumption) (by k_units) ?_ | refine ne_strs (by is_list) (by is_list) (by assumption) (by assumption) (by assumption) (by assumption) (by k_units) ?_)))
  k_with "compareOp Eq ref ref" => ((k_here; k_dflt (first | refine eq_bools (by is_list) (by is_list) (by assumption) (by assumption) (by k_units) ?_ | refine eq_strs (by is_list) (by is_list) (by assumption) (by assumption) (by assumption) (by assumption) (by k_units) ?_)))
  k_with "subscriptTail Name Name ref int" => ((k_here; k_dflt (refine' item_list ?zzk1 ?zzk2 ?zzk3 ?zzk4 ?_ ?zzk6; (case zzk6 => with_unfolding_all rfl); (case zzk1 => is_list); (case zzk4 => assumption); (case zzk2 => first | exact z_ge _ | omega); (case zzk3 => first | ((with_reducible refine z_63 ?_); omega) | omega))))
  k_with "binaryOp Add ref ref" => ((k_here; (with_reducible show wpAny _ _ (binaryOp _ (Value.ref _) (Value.ref _)) _ _ _); k_dflt (refine' kmk_add_ints ?zzF ?zzN ?zza ?zzb ?zzi ?zzj ?_ ?zzz; (case zzF => k_asm); (case zzN => k_asm); (case zza => is_list); (case zzb => is_list); (case zzi => assumption); (case zzj => first | assumption | exact .cons _ _ .nil); (case zzz => (simp only [List.length_cons, List.length_nil]; rw [sizeLine_eq]; omega))); intro _ _ _ _ _; walk_at "t_2"))
  k_with "call builtin:max" => ((k_here; (with_reducible show wpAny _ _ (call (Value.builtin _) [Value.ref _]) _ _ _); k_dflt (refine' kso_max ?zzF ?zzN ?zza ?zzi ?zzn ?zzh ?_; (case zzF => k_asm); (case zzN => k_asm); (case zza => is_list); (case zzi => assumption); (case zzn => (simp only [List.length_append, List.length_cons, List.length_nil]; omega)); (case zzh => assumption)); intro _ _ _ _ _ _ _ _))
  trivial
theorem ahk_at {ts : List Str} {k : Int} {t : Str} (h0 : 0 ≤ k) (h : ts[k.toNat]? = some t) : ahk (ts.map fun t => aheadN ts t ts.length) k = aheadN ts t ts.length := by
  unfold ahk
  rw [List.getD_eq_getElem?_getD, List.getElem?_map, h]
  rfl
theorem mem_ahead {ts : List Str} {t : Str} {j : Int} : j ∈ aheadN ts t ts.length ↔ ∃ (i : Nat) (a : Str), ts[i]? = some a ∧ inn (Txt.lower a) (Txt.lower t) = true ∧ a.length < t.length ∧ j = (i : Int) := by
  unfold aheadN
  simp only [List.mem_map, List.mem_filter, List.mem_range, aheadB, Bool.and_eq_true, decide_eq_true_eq]
  constructor
  · rintro ⟨i, ⟨hi, h1, h2⟩, rfl⟩
    rw [List.getD_eq_getElem?_getD, List.getElem?_eq_getElem hi, Option.getD_some] at h1 h2
    exact ⟨i, ts[i], List.getElem?_eq_getElem hi, h1, by omega, by omega⟩
  · rintro ⟨i, a, ha, h1, h2, rfl⟩
    obtain ⟨hi, he⟩ := List.getElem?_eq_some_iff.mp ha
    refine ⟨i, ⟨hi, ?_, ?_⟩, by omega⟩
    · rw [List.getD_eq_getElem?_getD, ha, Option.getD_some]; exact h1
    · rw [List.getD_eq_getElem?_getD, ha, Option.getD_some]; omega
theorem ahead_len {ts : List Str} {t : Str} : (aheadN ts t ts.length).length ≤ ts.length := by
  unfold aheadN
  rw [List.length_map]
  have := List.length_filter_le (aheadB ts t) (List.range ts.length)
  rwa [List.length_range] at this
theorem law_RdH {ts : List Str} {dp : List Int} (hn : ts.length ≤ 7) (hdl : dp.length = ts.length) (hb : ∀ j : Nat, 0 ≤ dpi dp j ∧ dpi dp j ≤ 4) (hD : ∀ k t, ts[k]? = some t → DepAt ts dp k t)
    (hE : ∀ a ∈ ts, ∀ b ∈ ts, inn (Txt.lower a) (Txt.lower b) = within (Txt.lower a) (Txt.lower b)) : RdH (ts.map fun t => aheadN ts t ts.length) dp ts.length := by
  have hat : ∀ k : Int, 0 ≤ k → k < ts.length → ∃ (n : Nat) (t : Str), k = (n : Int) ∧ ts[n]? = some t ∧ t ∈ ts ∧ ahk (ts.map fun t => aheadN ts t ts.length) k = aheadN ts t ts.length := by
    intro k h0 h1
    have hk : k.toNat < ts.length := by omega
    refine ⟨k.toNat, ts[k.toNat], by omega, List.getElem?_eq_getElem hk, List.getElem_mem hk, ahk_at h0 (List.getElem?_eq_getElem hk)⟩
  refine ⟨by rw [List.length_map], hdl, hn, fun j => ?_, fun k h0 h1 j hj => ?_, fun k h0 h1 hp => ?_, fun k h0 h1 => ?_⟩
  · unfold ahk
    rw [List.getD_eq_getElem?_getD, List.getElem?_map]
    cases hq : ts[j.toNat]? with
    | none => simp
    | some t => simpa using Nat.le_trans ahead_len hn
  · obtain ⟨n, t, rfl, ht, hm, e⟩ := hat k h0 h1
    rw [e] at hj
    obtain ⟨i, a, ha, h2, h3, rfl⟩ := mem_ahead.mp hj
    have hi := (List.getElem?_eq_some_iff.mp ha).1
    refine ⟨⟨by omega, by omega⟩, (hD n t ht).1 i a ha h3 ?_⟩
    rw [← hE a (List.mem_of_getElem? ha) t hm]; exact h2
  · obtain ⟨n, t, rfl, ht, hm, e⟩ := hat k h0 h1
    obtain ⟨j, a, ha, h2, h3, h4⟩ := (hD n t ht).2 hp
    refine ⟨(j : Int), ?_, h4⟩
    rw [e]
    exact mem_ahead.mpr ⟨j, a, ha, by rw [hE a (List.mem_of_getElem? ha) t hm]; exact h3, h2, rfl⟩
  · obtain ⟨n, t, rfl, ht, hm, e⟩ := hat k h0 h1
    have := hb n
    omega

end P47
section P48
theorem ru48 : True := by
  k_with "call type:type" => (((with_reducible show wpAny _ _ (call (Value.type "type") [Value.bytes _ _]) _ _ _); (refine call_type_of (typeIs_bytes _ _ _) (by decide) ?_)))
  k_with "call type:type" => (((with_reducible show wpAny _ _ (call (Value.type "type") [Value.bool _]) _ _ _); (refine call_type_of (typeIs_bool' _ _) (by decide) ?_)))
  k_with "call ref" => ((k_here; (with_reducible show wpAny _ _ (call (Value.ref 77) _) _ _ _); k_dflt (refine' buffer_ok ?zzk1 ?zzk2 ?zzkr ?zzku ?zzk3 ?_; (case zzk1 => exact Frag.In.keeps (by k_asm) (Fr.keep (by k_asm))); (case zzk2 => exact Top.keeps (by k_asm) (Fr.keep (by k_asm))); (case zzk3 => assumption); (case zzkr => (simp only [depth_in1, depth_deeper]; omega)); (case zzku => k_units); intro _ _; walk_at "t_6")))
  k_with "call ref" => ((k_here; (with_reducible show wpAny _ _ (call (Value.ref 84) _) _ _ _); k_dflt (refine' truth_ok ?zzk1 ?zzk2 ?zzkr ?zzku ?zzk3 ?_; (case zzk1 => exact Frag.In.keeps (by k_asm) (Fr.keep (by k_asm))); (case zzk2 => exact Top.keeps (by k_asm) (Fr.keep (by k_asm))); (case zzk3 => assumption); (case zzkr => (simp only [depth_in1, depth_deeper]; omega)); (case zzku => k_units); intro _ _; walk_at "t_6")))
  k_with "call ref" => ((k_here; (with_reducible show wpAny _ _ (call (Value.ref 92) _ _) _ _ _); k_dflt (refine' b2a_ok ?zzk1 ?zzk2 ?zzkr ?zzku ?zzk3 ?zzkb ?zzkB ?_; (case zzk1 => exact Frag.In.keeps (by k_asm) (Fr.keep (by k_asm))); (case zzk2 => exact Top.keeps (by k_asm) (Fr.keep (by k_asm))); (case zzk3 => assumption); (case zzkb => assumption); (case zzkB => assumption); (case zzkr => (simp only [depth_in1, depth_deeper]; omega)); (case zzku => k_units); intro _ _ _; walk_at "t_6")))
  k_with "call ref" => ((k_here; (with_reducible show wpAny _ _ (call (Value.ref 100) _ _) _ _ _); k_dflt (refine' b64encode_ok ?zzk1 ?zzk2 ?zzkr ?zzku ?zzk3 ?zzkb ?zzkB ?_; (case zzk1 => exact Frag.In.keeps (by k_asm) (Fr.keep (by k_asm))); (case zzk2 => exact Top.keeps (by k_asm) (Fr.keep (by k_asm))); (case zzk3 => assumption); (case zzkb => assumption); (case zzkB => assumption); (case zzkr => (simp only [depth_in1, depth_deeper]; omega)); (case zzku => k_units); intro _ _ _; walk_at "t_6")))
  trivial
theorem ru48x0 : True := by
  k_with "m_stop" => (with_reducible show wpAny _ _ (call (Value.ref 244) _) _ _ _)
  k_with "m_stop" => (with_reducible show wpAny _ _ (call (Value.ref 249) _) _ _ _)
  k_with "m_stop" => (with_reducible show wpAny _ _ (call (Value.ref 254) _) _ _ _)
  k_with "m_stop" => (with_reducible show wpAny _ _ (call (Value.ref 259) _) _ _ _)
  k_with "getMethod bytes" => ((k_here; (with_reducible refine BJ.join_method ?_)))
  k_with "call builtin:bytes.decode" => ((k_here; (with_reducible show wpAny _ _ (call _ [Value.bytes _ _, Value.str _ _]) _ _ _); (refine AD.decode (by assumption) ?_); intro _ _))
  trivial

noncomputable abbrev oct (r : List Int) : Array UInt8 := Builtin.Bytes.joined #[] (r.map blkA)
noncomputable abbrev IsByt (v : Value) (b : Array UInt8) : Prop := ∃ t, v = .bytes b t
theorem row_at {rows : List RowD} {rl : List (List Int)} (h : Paired (fun (r : RowD) ns => IntsAre r.vs ns) rows rl) : ∀ (i : Nat) (v : Value), (rowVs rows)[i]? = some v → ∃ (a : Addr) (us : List Value) (n : Nat) (ρ : List Int), v = .ref a ∧ (a, W.listOf us.toArray n) ∈ rowsL rows ∧ IntsAre us ρ ∧ rl[i]? = some ρ := by
  induction h with
  | nil => intro i v hv; simp at hv
  | @cons r ρ l1 l2 h1 h2 ih =>
    intro i v hv
    cases i with
    | zero => exact ⟨r.a, r.vs, r.n, ρ, by simpa using hv.symm, .head _, h1, rfl⟩
    | succ i =>
      obtain ⟨a, us, n, ρ', e1, e2, e3, e4⟩ := ih i v (by simpa using hv)
      exact ⟨a, us, n, ρ', e1, .tail _ e2, e3, by simpa using e4⟩
theorem paired_len {α β : Type} {F : α → β → Prop} {l1 : List α} {l2 : List β} (h : Paired F l1 l2) : l1.length = l2.length := by
  induction h with
  | nil => rfl
  | cons _ _ ih => simp [ih]
theorem paired_at {α β : Type} {F : α → β → Prop} {l1 : List α} {l2 : List β} (h : Paired F l1 l2) : ∀ (i : Nat) (a : α), l1[i]? = some a → ∃ b, l2[i]? = some b ∧ F a b := by
  induction h with
  | nil => intro i a ha; simp at ha
  | @cons x y _ _ h1 h2 ih =>
    intro i a ha
    cases i with
    | zero => exact ⟨y, rfl, by rw [show a = x from (Option.some.inj ha).symm]; exact h1⟩
    | succ i => simpa using ih i a (by simpa using ha)
theorem paired_get {α β : Type} {F : α → β → Prop} {l1 : List α} {l2 : List β} (h : Paired F l1 l2) : ∀ (i : Nat) (b : β), l2[i]? = some b → ∃ a, l1[i]? = some a ∧ F a b := by
  induction h with
  | nil => intro i a ha; simp at ha
  | @cons x y _ _ h1 h2 ih =>
    intro i a ha
    cases i with
    | zero => exact ⟨x, rfl, by rw [show a = y from (Option.some.inj ha).symm]; exact h1⟩
    | succ i => simpa using ih i a (by simpa using ha)
theorem cell_ne {h₀ h : Heap} {L c : Addr} {oc : Obj} {v : Option Value} {nw : List (Addr × Obj)} (N : News h₀ L h ((c, oc) :: nw)) (hd : oc.data = .cell v) (hp : ∀ p ∈ nw, (∀ v, p.2.data ≠ .cell v) ∨ p.1 ≠ c) : ∀ p ∈ nw, p.1 ≠ c := by
  intro p hm
  rcases hp p hm with h1 | h1
  · intro e
    have a := (N _ (.tail _ hm)).1
    rw [e, (N _ (.head _)).1] at a
    cases a
    exact h1 v hd
  · exact h1
theorem law_hT {ts : List Str} (h : ∀ t ∈ ts, ∃ ρ ∈ figL, t = ptxt ρ) : ∀ t ∈ ts, t.length ≤ 100 ∧ Txt.split t (Str.ofString "/") = [t] ∧ (t == Str.ofString "*") = false := fun t ht => by
  obtain ⟨ρ, hρ, rfl⟩ := h t ht
  refine ⟨?_, ptxt_split ρ hρ, ptxt_star ρ hρ⟩
  have := ptxt_len ρ hρ
  omega
theorem law_hE {ts : List Str} (h : ∀ t ∈ ts, ∃ ρ ∈ figL, t = ptxt ρ) : ∀ a ∈ ts, ∀ b ∈ ts, inn (Txt.lower a) (Txt.lower b) = within (Txt.lower a) (Txt.lower b) := fun a ha b hb => by
  obtain ⟨ρ, hρ, rfl⟩ := h a ha
  obtain ⟨σ, hσ, rfl⟩ := h b hb
  exact lows_inn _ (ptxt_low ρ hρ) _ (ptxt_low σ hσ)
theorem law_hL {ts : List Str} (h : ∀ t ∈ ts, ∃ ρ ∈ figL, t = ptxt ρ) : ∀ t ∈ ts, t.length = 4 ∨ t.length = 8 ∨ t.length = 12 := fun t ht => by
  obtain ⟨ρ, hρ, rfl⟩ := h t ht
  exact ptxt_len ρ hρ
section
variable {w : World} {A : Around} {s : Shared} {mean : ExcName → Option Value} {mg mb : Str → Option Value} {Q E : Value → Shared → Prop}
set_option maxHeartbeats 4000000 in
theorem law_ok {l : Addr} {vs : List Value} {ns : List Int}
    (KX : (hd.heap_39 w.params).In s.heap) (T : Top hd.view_39 LS mean mg mb s.heap) (hroom : A.depth + 100 < recursionLimit) (hu : A.units + 1000 < cLine) (hh : A.handled = none) (hA : A.frames = some [])
    (hl : s.heap.IsList l vs.toArray) (hI : IntsAre vs ns) (hz : vs.length ≤ 63)
    (hQ : ∀ h' tk, LK s.heap h' → Q (.bool true) { s with heap := h', toks := tk }) :
    wpAny (model PR w) A (call (.ref 264) [.ref l] []) Q E s := by
  walk_at "m_inC1"
  rename_i L0 h1 tk1 F1 oD oT cD cT N1
  walk_at "m_go"
  rename IntsAre _ (_ ++ _) => hX
  rename Fr _ _ _ _ => F9
  rename News _ _ _ _ => N9
  rename_i ws _ _
  have hxl := IntsAre.length hX
  have hxn : ([0, 4, 32, 16] ++ List.take 3 ns).length ≤ 7 := by simp; omega
  have hws : ws.length ≤ 7 := by omega
  have hx4 : 4 ≤ ([0, 4, 32, 16] ++ List.take 3 ns).length := by simp
  generalize [0, 4, 32, 16] ++ List.take 3 ns = xs at *
  have hget := ii_at hX
  walk_at "m_go"
  rename News _ _ _ _ => N9
  refine rest_inv (fun i ys nw => ∃ rows : List RowD, Paired (fun (r : RowD) ns => IntsAre r.vs ns) rows ((xs.take i).map figs) ∧ ys = rowVs rows ∧ nw = _ ++ rowsL rows) ⟨[], .nil, rfl, (List.append_nil _).symm⟩ ?_ ?_
  · rintro ys nw ⟨rows, hrows, rfl, rfl⟩
    rw [List.take_of_length_le (by rw [List.size_toArray]; omega)] at hrows
    have hrl : ∀ ρ ∈ xs.map figs, ρ ∈ figL := fun ρ h => by obtain ⟨x, _, rfl⟩ := List.mem_map.mp h; exact figs_in x
    have hrat := row_at hrows
    have hrn : (rowVs rows).length = (xs.map figs).length := by have := paired_len hrows; simpa using this
    have hrn4 : 4 ≤ (xs.map figs).length := by simpa using hx4
    have hrn7 : (xs.map figs).length ≤ 7 := by simpa using hxn
    walk_at "m_go"
    rename Fr _ _ _ _ => F9
    rename News _ _ _ _ => N9
    rename_i DR h2 tk2 g2 of2
    have hrls : ∀ p ∈ rowsL rows, ∀ v, p.2.data ≠ .cell v := fun p hp v => by
      obtain ⟨r, _, rfl⟩ := List.mem_map.mp hp
      exact fun e => by cases e
    generalize rowVs rows = us at *
    generalize rowsL rows = rls at *
    generalize xs.map figs = rl at *
    clear hget hX hI hws hxl hxn hx4 hrows
    refine rest_inv (fun i ys nw => nw = _ ∧ Paired IsByt ys ((rl.take i).map oct)) ⟨rfl, .nil⟩ ?_ ?_
    · rintro ys nw ⟨rfl, hys⟩
      rw [List.take_of_length_le (by rw [List.size_toArray]; omega)] at hys
      have hyn := paired_len hys
      rw [List.length_map] at hyn
      have hyat := paired_at hys
      walk_at "m_go"
      rename Fr _ _ _ _ => F9
      rename News _ _ _ _ => N9
      refine rest_inv (fun i zs nw => nw = _ ∧ StrsAre zs ((rl.take i).map ptxt)) ⟨rfl, .nil⟩ ?_ ?_
      · rintro zs nw ⟨rfl, hzs⟩
        rw [List.take_of_length_le (by rw [List.size_toArray]; omega)] at hzs
        walk_at "m_go"
        rename Fr _ _ _ _ => F8
        rename News _ _ _ _ => N8
        rename_i _ DT h4 tk4 of4
        have N7 : News s.heap L0 h4 ((L0 + 1, oT) :: ([(DT, LCg.lst zs), (DR, LCg.lst us), (L0 + 1 + 1, oD)] ++ rls)) := nw_sub N8 (fun p hp => by
          simp only [List.cons_append, List.nil_append, List.mem_cons] at hp ⊢
          rcases hp with h | h | h | h | h <;> simp only [h, true_or, or_true])
        have hne : ∀ p ∈ [(DT, LCg.lst zs), (DR, LCg.lst us), (L0 + 1 + 1, oD)] ++ rls, p.1 ≠ L0 + 1 := cell_ne N7 cT (fun p hp => by
          simp only [List.cons_append, List.nil_append, List.mem_cons] at hp
          rcases hp with rfl | rfl | rfl | hp
          · exact .inl fun v e => by cases e
          · exact .inl fun v e => by cases e
          · exact .inr (Nat.succ_ne_self _)
          · exact .inl (hrls p hp))
        clear N8 F9 N9
        refine' storeX_C F8 N7 ?c (.head hne) cT ?_ ?a ?b
        case c => rfl
        case a => rfl
        case b => rfl
        intro h5 oT2 F5 N5 cT2
        try dsimp only [List.cons_append, List.nil_append] at N5
        clear F8 N7 hne
        walk_at "m_go"
        refine rest_inv (fun i qs nw => nw = _ ∧ StrsAre qs ((rl.take i).map ptxt)) ⟨rfl, .nil⟩ ?_ ?_
        · rintro qs nw ⟨rfl, hqs⟩
          rw [List.take_of_length_le (by rw [List.size_toArray]; omega)] at hqs
          have hokL : ∀ x ∈ rl.map ptxt, PyData.strOk x = true := fun x hx => by
            obtain ⟨ρ, hρ, rfl⟩ := List.mem_map.mp hx
            exact figL_ok ρ (hrl ρ hρ)
          have hln : (rl.map ptxt).length = rl.length := List.length_map ..
          have hts : ∀ t ∈ rl.map ptxt, ∃ ρ ∈ figL, t = ptxt ρ := fun x hx => by
            obtain ⟨ρ, hρ, rfl⟩ := List.mem_map.mp hx
            exact ⟨ρ, hrl ρ hρ, rfl⟩
          generalize rl.map ptxt = ts at *
          have hzl := ss_length hzs
          have hsF : 0 = 0 → StrsAre zs ts := fun _ => hzs
          have hql := ss_length hqs
          walk_at "m_go"
          rotate_left
          · exfalso; rename ¬ _ = _ => hne; exact hne rfl
          rename Fr _ _ _ _ => F9
          rename News _ _ _ _ => N9
          have N10 := nw_sub (news₂ := [(DT, LCg.lst zs), (L0 + 1, oT2), (L0 + 1 + 1, oD)]) N9 (fun p hp => by
            simp only [List.mem_cons, List.not_mem_nil, or_false] at hp ⊢
            rcases hp with h | h | h <;> simp only [h, true_or, or_true])
          repeat (rename (_ ∧ _) => hcl; clear hcl)
          clear hqs hql hys hyn hyat hrat hrls
          revert F9 N10
          repeat (rename (News _ _ _ _) => hcl; clear hcl)
          repeat (rename (Fr _ _ _ _) => hcl; clear hcl)
          intro F9 N10
          have hz10 : zs.length ≤ 10 := by omega
          refine' ahead_ok (Frag.In.keeps KX F9.keep) (Top.keeps T F9.keep) ?kr ?ku hh (News.isList N10 (.head _)) hzs hz10 ?hT ?hE ?_
          case kr => k_room
          case ku => k_units
          case hT => exact law_hT hts
          case hE => exact law_hE hts
          intro la rows6 n6 h6 tk6 hk6 hrl6 hP6 ho6
          have offA := off_ne N10 fun p hp => (ho6 p hp).2
          obtain ⟨F6, N6⟩ := nw_grow F9 N10 hk6 ho6
          replace N6 : News s.heap L0 h6 ((la, W.listOf (rowVs rows6).toArray n6) :: (DT, LCg.lst zs) :: (L0 + 1, oT2) :: (L0 + 1 + 1, oD) :: rowsL rows6) := nw_sub N6 (fun p hp => by
            simp only [List.mem_cons, List.cons_append, List.mem_append, List.not_mem_nil, or_false] at hp ⊢
            rcases hp with h | h | h | h | h <;> simp only [h, true_or, or_true])
          clear F9 N10 hk6 ho6
          walk_at "m_go"
          rename Fr _ _ _ _ => F9
          rename News _ _ _ _ => N9
          refine' depths_ok (Frag.In.keeps KX F9.keep) (Top.keeps T F9.keep) ?kr ?ku hh (News.isList N9 (by k_mem)) hzs hz10 (law_hL hts) ?_
          case kr => k_room
          case ku => k_units
          intro ld dvs dp n7 h7 tk7 hk7 hI7 hdl7 hb7 hD7 ho7
          have offD := off_ne (os := [(ld, W.listOf dvs.toArray n7)]) N9 fun p hp => by rw [List.mem_singleton.mp hp]; exact ho7.2
          obtain ⟨F7, N7⟩ := nw_grow (os := [(ld, W.listOf dvs.toArray n7)]) F9 N9 hk7 fun p hp => by rw [List.mem_singleton.mp hp]; exact ho7
          simp only [List.cons_append, List.nil_append] at N7
          clear F9 N9 hk7 ho7
          walk_at "m_go"
          rename Fr _ _ _ _ => F9
          rename News _ _ _ _ => N9
          rename_i DU hu1 lU hu2 h8
          have hne8 : ∀ p ∈ [(ld, W.listOf dvs.toArray n7), (la, W.listOf (rowVs rows6).toArray n6), (DT, LCg.lst zs), (L0 + 1, oT2)] ++ rowsL rows6, p ∈ (DU, ({ cls := Value.type "tuple", data := Data.seq #[Value.ref la, Value.ref ld] } : Obj)) :: (ld, W.listOf dvs.toArray n7) :: (la, W.listOf (rowVs rows6).toArray n6) :: (DT, LCg.lst zs) :: (L0 + 1, oT2) :: (L0 + 1 + 1, oD) :: rowsL rows6 := fun p hp => by
            simp only [List.cons_append, List.nil_append, List.mem_cons] at hp ⊢
            rcases hp with h | h | h | h | h <;> simp only [h, true_or, or_true]
          have N8 : News s.heap L0 h8 ((L0 + 1 + 1, oD) :: ([(ld, W.listOf dvs.toArray n7), (la, W.listOf (rowVs rows6).toArray n6), (DT, LCg.lst zs), (L0 + 1, oT2)] ++ rowsL rows6)) := nw_sub N9 (fun p hp => by
            rcases List.mem_cons.mp hp with rfl | hp
            · simp only [List.mem_cons, true_or, or_true]
            · exact hne8 p hp)
          have hne : ∀ p ∈ [(ld, W.listOf dvs.toArray n7), (la, W.listOf (rowVs rows6).toArray n6), (DT, LCg.lst zs), (L0 + 1, oT2)] ++ rowsL rows6, p.1 ≠ L0 + 1 + 1 := cell_ne N8 cD (fun p hp => by
            simp only [List.cons_append, List.nil_append, List.mem_cons] at hp
            rcases hp with rfl | rfl | rfl | rfl | hp
            · exact .inl fun v e => by cases e
            · exact .inl fun v e => by cases e
            · exact .inl fun v e => by cases e
            · exact .inr (Nat.succ_ne_self _).symm
            · obtain ⟨r, _, rfl⟩ := List.mem_map.mp hp
              exact .inl fun v e => by cases e)
          clear N9 lU hne8
          refine' storeX_C F9 N8 ?c (.head hne) cD ?_ ?a ?b
          case c => rfl
          case a => rfl
          case b => rfl
          intro h9 oD2 F8 N7 cD2
          try dsimp only [List.cons_append, List.nil_append] at N7
          clear F9 N8 hne
          walk_at "m_go"
          have hrn7' : ts.length ≤ 7 := by omega
          have hrn1' : 1 ≤ ts.length := by omega
          have HR : RdH (ts.map fun t => aheadN ts t ts.length) dp ts.length := law_RdH hrn7' hdl7 hb7 hD7 (law_hE hts)
          have F9 := F8
          clear F8
          obtain ⟨oL, esL, epL, hoL, hoLd, hoLr⟩ := id F9.ns
          have hL0 : s.heap.get? L0 = none := by
            cases q : s.heap.get? L0 with
            | none => rfl
            | some o => exact absurd (Heap.lt_size q) (Nat.not_lt.mpr F9.above)
          refine' rounds_ok KX T F9.keep ?kr ?ku hh ?hA ?Fs ⟨hoL, hL0⟩ (N7 _ (.tail _ (.tail _ (.head _)))).1 (N7 _ (.tail _ (.tail _ (.head _)))).2.1 ?hrow hP6 (News.isList N7 (.tail _ (.head _))) (N7 _ (.tail _ (.head _))).2.1 hI7 HR hrn1' ?_
          case kr => k_room
          case ku => k_units
          case hA => exact congrArg (Option.map _) hA
          case Fs => exact ⟨(fun e => nomatch e), rfl, ⟨esL, epL, hoLd⟩, trivial⟩
          case hrow =>
            intro p hp
            have := N7 p (.tail _ (.tail _ (.tail _ (.tail _ (.tail _ hp)))))
            exact ⟨this.1, this.2.1⟩
          intro sl h10 tk10 hk10 hL10
          have F10 : Fr s.heap L0 h10 _ := ⟨⟨_, esL, epL, hL10, hoLd, hoLr⟩, fun b o e => hk10 b o (fun hb => by rw [hb, hL0] at e; cases e) (F9.keep b o e), F9.above⟩
          have N10 : News s.heap L0 h10 [(L0 + 1 + 1, oD2), (ld, W.listOf dvs.toArray n7), (DT, LCg.lst zs), (L0 + 1, oT2)] := fun p hp => by
            have hm : p ∈ (L0 + 1 + 1, oD2) :: (ld, W.listOf dvs.toArray n7) :: (la, W.listOf (rowVs rows6).toArray n6) :: (DT, LCg.lst zs) :: (L0 + 1, oT2) :: rowsL rows6 := by
              simp only [List.mem_cons, List.not_mem_nil, or_false] at hp ⊢
              rcases hp with h | h | h | h <;> simp only [h, true_or, or_true]
            have := N7 p hm
            exact ⟨hk10 _ _ this.2.1 this.1, this.2⟩
          clear N7 F9 hk10 hL10
          walk_at "m_go"
          have hB3 : BoolsAre [.bool true, .bool true, .bool true] [true, true, true] := .cons _ (.cons _ (.cons _ .nil))
          refine rest_inv (fun i bs nw => nw = _ ∧ BoolsAre bs (List.replicate i true)) ⟨rfl, .nil⟩ ?_ ?_
          · rintro bs nw ⟨rfl, hbs⟩
            have hbs3 : BoolsAre bs [true, true, true] := hbs
            clear hbs
            walk_at "m_go"
            rw [decide_eq_true (rfl : [true, true, true] = [true, true, true])]
            exact hQ _ _ (Fr.keep (by k_asm))
          · intro i v bs nw I5 oI5 C5 oC5 D5 m₂ h tk E' hi hJ09 hJ19 hC hx F N off5 ne5
            try k_fold
            obtain ⟨tv, rfl⟩ := hJ09
            obtain ⟨rfl, hbs⟩ := hJ19
            have hi3 : i < 3 := hi
            walk_at "m_go"
            have hi0 : (0 : Int) ≤ 0 + (i : Int) := by omega
            have hi9 : (0 : Int) + (i : Int) ≤ 9 := by omega
            refine' merged_ok (Frag.In.keeps KX F.keep) (Top.keeps T F.keep) ?kr ?ku hh (News.isList N (by k_mem)) (hsF rfl) hz10 hokL (News.isList N (by k_mem)) hI7 hdl7 hi0 hi9 ?_
            case kr => k_room
            case ku => k_units
            intro h' tk' hk'
            exact LCg.CompEnd.intro (F.keeps hk') (N.grown hk') _ (fun p hp => hp) off5 trivial ⟨rfl, by
              rw [List.replicate_succ']
              exact bs_append hbs (.cons _ .nil)⟩
        · intro i v qs nw I5 oI5 C5 oC5 D5 m₂ h tk E' hi hv hJ09 hC hx F N off5 ne5
          try k_fold
          obtain ⟨rfl, hqs⟩ := hJ09
          obtain ⟨a, us2, n2, ρ, rfl, hm, hI2, hρ⟩ := hrat i v (by simpa using hv)
          obtain ⟨h012, hρ1, hρ3⟩ := figL_012 ρ (hrl ρ (List.mem_of_getElem? hρ))
          have hl2 := IntsAre.length hI2
          have hget2 := ii_at hI2
          walk_at "m_go"
          refine LCg.CompSrc.ledger hh F N (by repeat (first | exact hm | refine List.Mem.tail _ ?_)) (by walk_at "m_size") ?_
          intro g7
          refine rest_inv (fun j ps nw => nw = _ ∧ StrsAre ps ((ρ.take j).map fun a => Str.ofString (pblk a))) ⟨rfl, .nil⟩ ?_ ?_
          · rintro ps nw ⟨rfl, hps⟩
            rw [List.take_of_length_le (by rw [List.size_toArray]; omega)] at hps
            walk_at "m_go"
            rename News _ _ _ _ => N9
            rename Fr _ _ _ _ => F9
            refine KT.join_B (l := ρ) (g := fun a => Str.ofString (pblk a)) 4 (by is_list) (by have := ss_carried hps; rwa [List.map_map] at this) (fun a ha => by rcases h012 a ha with rfl | rfl | rfl <;> decide) (by omega) (by decide) fun t' k => ?_
            rw [figL_txt ρ (hrl ρ (List.mem_of_getElem? hρ))]
            exact LCg.CompEnd.intro F9 N9 _ (fun p hp => .tail _ hp) off5 (.inr ⟨_, by k_mem, rfl, _, rfl⟩) ⟨rfl, by
              rw [List.take_add_one, hρ, List.map_append]
              exact ss_append hqs (.cons _ _ .nil)⟩
          · intro j v ps nw I7 oI7 C7 oC7 D7 m₂ h tk E' hj hv hJ09 hC hx F N off7 ne7
            try k_fold
            obtain ⟨rfl, hps⟩ := hJ09
            obtain ⟨q, hq, tq, rfl⟩ := hget2 j v (by simpa using hv)
            have hps' : ∀ (x : Str) t, x = Str.ofString (pblk q) → StrsAre (ps ++ [.str x t]) ((ρ.take (j + 1)).map fun a => Str.ofString (pblk a)) := fun x t e => by
              rw [List.take_add_one, hq, List.map_append, e]
              exact ss_append hps (.cons _ _ .nil)
            rcases h012 q (List.mem_of_getElem? hq) with rfl | rfl | rfl <;> walk_at "m_go"
            all_goals
              rename News _ _ _ _ => N9
              rename Fr _ _ _ _ => F9
              exact LCg.CompEnd.intro F9 N9 _ (fun p hp => .tail _ hp) off7 (.inr ⟨_, by repeat (first | exact hm | refine List.Mem.tail _ ?_), rfl, _, rfl⟩) ⟨rfl, hps' _ _ (by rfl)⟩
      · intro i v zs nw I5 oI5 C5 oC5 D5 m₂ h tk E' hi hv hJ09 hC hx F N off5 ne5
        try k_fold
        obtain ⟨rfl, hzs⟩ := hJ09
        obtain ⟨b, hb, tb, rfl⟩ := hyat i v (by simpa using hv)
        rw [List.getElem?_map] at hb
        obtain ⟨ρ, hρ, rfl⟩ := Option.map_eq_some_iff.mp hb
        have hmem := hrl ρ (List.mem_of_getElem? hρ)
        obtain ⟨hf1, hf2, hf3⟩ := figL_oct ρ hmem
        have hB : bst (KBw.bInts (oct ρ)) = ((bst (ρ.flatMap blk)).1, 0, ρ.flatMap blt) := by rw [hf1, ← figL_bst ρ hmem]
        walk_at "m_go"
        rename News _ _ _ _ => N9
        rename Fr _ _ _ _ => F9
        exact LCg.CompEnd.intro F9 N9 _ (fun p hp => hp) off5 (.inr ⟨_, by k_mem, rfl, _, rfl⟩) ⟨rfl, by
            rw [List.take_add_one, hρ, List.map_append]
            exact ss_append hzs (.cons _ _ .nil)⟩
    · intro i v ys nw I5 oI5 C5 oC5 D5 m₂ h tk E' hi hv hJ09 hC hx F N off5 ne5
      try k_fold
      obtain ⟨rfl, hys⟩ := hJ09
      obtain ⟨a, us2, n2, ρ, rfl, hm, hI2, hρ⟩ := hrat i v (by simpa using hv)
      obtain ⟨h012, hρ1, hρ3⟩ := figL_012 ρ (hrl ρ (List.mem_of_getElem? hρ))
      have hl2 := IntsAre.length hI2
      have hget2 := ii_at hI2
      walk_at "m_go"
      refine LCg.CompSrc.ledger hh F N (by repeat (first | exact hm | refine List.Mem.tail _ ?_)) (by walk_at "m_size") ?_
      intro g7
      refine rest_inv (fun j zs nw => nw = _ ∧ Paired IsByt zs ((ρ.take j).map blkA)) ⟨rfl, .nil⟩ ?_ ?_
      · rintro zs nw ⟨rfl, hzs⟩
        rw [List.take_of_length_le (by rw [List.size_toArray]; omega)] at hzs
        walk_at "m_go"
        rename News _ _ _ _ => N9
        rename Fr _ _ _ _ => F9
        obtain ⟨hf1, hf2, hf3⟩ := figL_oct ρ (hrl ρ (List.mem_of_getElem? hρ))
        have hzl := paired_len hzs
        rw [List.length_map] at hzl
        refine BJ.join_call (vs := zs) (bs := ρ.map blkA) (by is_list) (by omega) (by rw [List.length_map]; exact hzl.symm) (fun i hi => ?_) hf3 (Nat.le_trans hf2 (by decide)) fun t' k => ?_
        · obtain ⟨z, hz1, tz, rfl⟩ := paired_get hzs i _ (List.getElem?_eq_getElem hi)
          refine ⟨tz, ?_⟩
          rw [hz1, List.getD_eq_getElem?_getD, List.getElem?_eq_getElem hi, Option.getD_some]
        · exact LCg.CompEnd.intro F9 N9 _ (fun p hp => .tail _ hp) off5 (.inr ⟨_, by k_mem, rfl, _, rfl⟩) ⟨rfl, by
            rw [List.take_add_one, hρ, List.map_append]
            exact Paired.snoc hys ⟨_, rfl⟩⟩
      · intro j v zs nw I7 oI7 C7 oC7 D7 m₂ h tk E' hj hv hJ09 hC hx F N off7 ne7
        try k_fold
        obtain ⟨rfl, hzs⟩ := hJ09
        obtain ⟨q, hq, tq, rfl⟩ := hget2 j v (by simpa using hv)
        have hzs' : ∀ (z : Value) b, IsByt z b → b = blkA q → Paired IsByt (zs ++ [z]) ((ρ.take (j + 1)).map blkA) := fun z b hz e => by
          rw [List.take_add_one, hq, List.map_append]
          exact Paired.snoc hzs (e ▸ hz)
        rcases h012 q (List.mem_of_getElem? hq) with rfl | rfl | rfl <;> walk_at "m_go"
        all_goals
          rename News _ _ _ _ => N9
          rename Fr _ _ _ _ => F9
          exact LCg.CompEnd.intro F9 N9 _ (fun p hp => .tail _ hp) off7 (.inr ⟨_, by repeat (first | exact hm | refine List.Mem.tail _ ?_), rfl, _, rfl⟩) ⟨rfl, hzs' _ _ ⟨_, rfl⟩ (by rfl)⟩
  · intro i v ys nw I oI C oC D m₂ h tk E' hi hv hJ09 hC hx F N off ne
    try k_fold
    obtain ⟨rows, hrows, rfl, rfl⟩ := hJ09
    obtain ⟨x, hx1, tx, rfl⟩ := hget i v (by simpa using hv)
    simp only [List.cons_append, List.nil_append] at N
    walk_at "m_go"
    rename News _ _ _ _ => N9
    rename Fr _ _ _ _ => F9
    clear N9 F9
    rename News _ _ _ _ => N9
    rename Fr _ _ _ _ => F9
    rename_i D9 vs9 n9 _ _ hk9 ho9 hI9
    refine comp_end_fresh F9 N9 hk9 ho9 (by k_mem) (by k_mem) (by k_mem) ?_ off ?_ ?_
    · intro p hp
      exact .tail _ (.tail _ (.tail _ hp))
    · exact .inr ⟨_, by k_mem, rfl, _, rfl⟩
    · refine ⟨rows ++ [⟨D9, vs9, n9⟩], ?_, ?_, ?_⟩
      · rw [List.take_add_one, hx1, List.map_append]; exact Paired.snoc hrows hI9
      · simp only [rowVs, List.map_append]; rfl
      · simp only [rowsL, List.map_append, List.append_assoc]; rfl
end

end P48
section P49
theorem ru49 : True := by
  k_with_none
  k_with "m_stop" => (first | with_reducible show LCg.CompRest _ _ _ _ _ _ _ _ _ _ _ _ _ _ _ _ _ _ _ | with_reducible show LCt.CompRestT _ _ _ _ _ _ _ _ _ _ _ _ _ _ _ _ _ _ _ _)
  k_with "m_go0" => (repeat' ((fail_if_success (k_extra "m_stop")); first | (k_unfold; (try dsimp only)) | walk1 | (dsimp only; walk1) | (leave1; try dsimp only) | fail "no step"))
  k_with "m_go" => (((try k_fold) <;> (try dsimp only) <;> k_extra "m_go0" <;> (try k_fold)))
  k_with "m_inA" => (((case zzkX => assumption); (case zzkT => assumption); (case zzkl => k_is); (case zzk1 => exact rfl); (case zzk2 => exact rfl); (case zzk3 => exact rfl); (case zzk4 => decide); (case zzkc => k_is); (case zzkr => omega); (case zzkb => first | exact BindsTo.of_eq rfl | exact binds_K (by k_in) rfl (by k_is) rfl rfl rfl); (case zzko => exact locs rfl); intro _ _; walk_at "t_0"))
  k_with "m_inB" => (((case zzkX => assumption); (case zzkT => assumption); (case zzkl => k_is); (case zzk1 => exact rfl); (case zzk2 => exact rfl); (case zzk3 => exact rfl); (case zzkc => k_is); (case zzkr => omega); (case zzkb => first | exact BindsTo.of_eq rfl | exact binds_K (by k_in) rfl (by k_is) rfl rfl rfl); (case zzko => exact rfl); (case zzkn => decide +kernel); intro _ _ _ _; walk_at "t_1"))
  k_with "m_in1" => ((refine' freeze1 ?zzkX ?zzkT ?zzkl ?zzkc ?zzkr ?zzkb ?zzko ?_ ?zzk1 ?zzk2 ?zzk3 ?zzk4; k_extra "m_inA"))
  k_with "m_inC1" => ((refine' freezeC1 ?zzkX ?zzkT ?zzkl ?zzkc ?zzkr ?zzkb ?zzko ?zzkn ?_ ?zzk1 ?zzk2 ?zzk3; k_extra "m_inB"))
  k_with "m_in2" => ((refine' freeze2 ?zzkX ?zzkT ?zzkl ?zzkc ?zzkr ?zzkb ?zzko ?_ ?zzk1 ?zzk2 ?zzk3 ?zzk4; k_extra "m_inA"))
  k_with "m_inC2" => ((refine' freezeC2 ?zzkX ?zzkT ?zzkl ?zzkc ?zzkr ?zzkb ?zzko ?zzkn ?_ ?zzk1 ?zzk2 ?zzk3; k_extra "m_inB"))
  k_with "m_in3" => ((refine' freeze3 ?zzkX ?zzkT ?zzkl ?zzkc ?zzkr ?zzkb ?zzko ?_ ?zzk1 ?zzk2 ?zzk3 ?zzk4; k_extra "m_inA"))
  k_with "m_inC3" => ((refine' freezeC3 ?zzkX ?zzkT ?zzkl ?zzkc ?zzkr ?zzkb ?zzko ?zzkn ?_ ?zzk1 ?zzk2 ?zzk3; k_extra "m_inB"))
  k_with "m_in4" => ((refine' freeze4 ?zzkX ?zzkT ?zzkl ?zzkc ?zzkr ?zzkb ?zzko ?_ ?zzk1 ?zzk2 ?zzk3 ?zzk4; k_extra "m_inA"))
  k_with "m_inC4" => ((refine' freezeC4 ?zzkX ?zzkT ?zzkl ?zzkc ?zzkr ?zzkb ?zzko ?zzkn ?_ ?zzk1 ?zzk2 ?zzk3; k_extra "m_inB"))
  k_with "m_size" => (first | ((with_reducible refine z_sz ?_); omega) | ((with_reducible refine z_szl ?_); omega) | omega | (rw [sizeLine_eq]; omega) | (simp only [List.size_toArray, sizeLine_eq, List.length_append, List.length_cons, List.length_nil, List.length_map] at *; omega))
  k_with "eval ListComp" => ((k_here; k_dflt (first | ((with_reducible apply LCt.ListComp_T); (case F₀ => k_asm); (case hclos => with_unfolding_all rfl); (case hcell => decide); (case hkind => rfl); (case hnames => decide); (case hx => rfl); (case hs => intro _; with_unfolding_all rfl)) | ((with_reducible apply LCg.ListComp_U); (case F₀ => k_asm); (case hclos => with_unfolding_all rfl); (case hcell => decide); (case hkind => rfl); (case hnames => decide); (case hx => rfl); (case hs => intro _; with_unfolding_all rfl)))))
  k_with "exec Assign cons ListComp" => ((k_here; k_dflt (first | ((with_reducible apply LCt.Assign_ListComp_T); (case F₀ => k_asm); (case hLe => rfl); (case hsw => with_unfolding_all rfl); (case hclos => with_unfolding_all rfl); (case hcell => decide); (case hkind => rfl); (case hnames => decide); (case hx => rfl); (case hy => rfl); (case hp => rfl); (case hs => intro _; with_unfolding_all rfl)) | ((with_reducible apply LCg.Assign_ListComp_U); (case F₀ => k_asm); (case hLe => rfl); (case hsw => with_unfolding_all rfl); (case hclos => with_unfolding_all rfl); (case hcell => decide); (case hkind => rfl); (case hnames => decide); (case hx => rfl); (case hy => rfl); (case hp => rfl); (case hs => intro _; with_unfolding_all rfl)) | (refine wpAny_Assign_Name ?_))))
  k_with "CompSrcT" => ((k_here; k_dflt (first | (refine LCt.CompSrcT.ledger (by first | assumption | rfl) (by k_asm) (by k_asm) (by k_mem) (by k_extra "m_size") ?_; intro _) | (refine LCt.CompSrcT.base (by first | assumption | rfl) (by k_asm) (by k_asm) (by assumption) (by k_extra "m_size") ?_; intro _) | (refine LCt.CompSrcT.range (by first | assumption | rfl) (by k_asm) (by k_asm) (by assumption) (by first | decide | exact small_nat (by omega) | exact small_one (by omega) (by omega) (by omega) (by omega)) (by first | rfl | decide | exact rangeSize_nat _ _) (by k_extra "m_size") ?_; intro _))))
  k_with "CompSrc" => ((k_here; k_dflt (first | (refine LCg.CompSrc.ledger (by first | assumption | rfl) (by k_asm) (by k_asm) (by k_mem) (by k_extra "m_size") ?_; intro _) | (refine LCg.CompSrc.base (by first | assumption | rfl) (by k_asm) (by k_asm) (by assumption) (by k_extra "m_size") ?_; intro _) | (refine LCg.CompSrc.range (by first | assumption | rfl) (by k_asm) (by k_asm) (by assumption) (by first | decide | exact small_nat (by omega) | exact small_one (by omega) (by omega) (by omega) (by omega)) (by first | rfl | decide | exact rangeSize_nat _ _) (by k_extra "m_size") ?_; intro _))))
  k_with "m_arith" => (first | ((try simp only [depth_under_make, depth_under_kw, depth_in1, depth_deeper, units_in1, units_deeper, Around.mark_units]); omega) | (simp only [depth_under_make, depth_under_kw, depth_in1, depth_deeper, units_in1, units_deeper, Around.mark_units] at *; omega))
  k_with "m_p1" => (first | with_reducible assumption | exact And.left (by with_reducible assumption) | exact And.left (And.right (by with_reducible assumption)) | exact And.right (by with_reducible assumption) | exact And.left (And.right (And.right (by with_reducible assumption))) | exact And.right (And.right (by with_reducible assumption)) | exact And.left (And.right (And.right (And.right (by with_reducible assumption)))) | exact And.right (And.right (And.right (by with_reducible assumption))) | exact And.left (And.right (And.right (And.right (And.right (by with_reducible assumption))))) | exact And.right (And.right (And.right (And.right (by with_reducible assumption)))) | exact And.left (And.right (And.right (And.right (And.right (And.right (by with_reducible assumption)))))) | exact And.right (And.right (And.right (And.right (And.right (by with_reducible assumption))))) | exact And.left (And.right (And.right (And.right (And.right (And.right (And.right (by with_reducible assumption))))))) | exact And.right (And.right (And.right (And.right (And.right (And.right (by with_reducible assumption)))))) | exact And.left (And.right (And.right (And.right (And.right (And.right (And.right (And.right (by with_reducible assumption)))))))) | exact And.right (And.right (And.right (And.right (And.right (And.right (And.right (by with_reducible assumption))))))) | exact And.left (And.right (And.right (And.right (And.right (And.right (And.right (And.right (And.right (by with_reducible assumption))))))))) | exact And.right (And.right (And.right (And.right (And.right (And.right (And.right (And.right (by with_reducible assumption)))))))) | exact And.left (And.right (And.right (And.right (And.right (And.right (And.right (And.right (And.right (And.right (by with_reducible assumption)))))))))) | exact And.right (And.right (And.right (And.right (And.right (And.right (And.right (And.right (And.right (by with_reducible assumption))))))))) | exact And.left (And.right (And.right (And.right (And.right (And.right (And.right (And.right (And.right (And.right (And.right (by with_reducible assumption))))))))))) | exact And.right (And.right (And.right (And.right (And.right (And.right (And.right (And.right (And.right (And.right (by with_reducible assumption)))))))))) | exact And.left (And.right (And.right (And.right (And.right (And.right (And.right (And.right (And.right (And.right (And.right (And.right (by with_reducible assumption)))))))))))) | exact And.right (And.right (And.right (And.right (And.right (And.right (And.right (And.right (And.right (And.right (And.right (by with_reducible assumption))))))))))))
  k_with "m_p2" => (first | exact And.left (And.left (by with_reducible assumption)) | exact And.left (And.right (And.left (by with_reducible assumption))) | exact And.left (And.right (And.right (And.left (by with_reducible assumption)))) | exact And.left (And.right (And.right (And.right (And.left (by with_reducible assumption))))) | exact And.right (And.left (by with_reducible assumption)) | exact And.right (And.right (And.left (by with_reducible assumption))) | exact And.right (And.right (And.right (And.left (by with_reducible assumption)))) | exact And.left (And.left (And.right (by with_reducible assumption))) | exact And.left (And.right (And.left (And.right (by with_reducible assumption)))) | exact And.left (And.right (And.right (And.left (And.right (by with_reducible assumption))))) | exact And.left (And.right (And.right (And.right (And.left (And.right (by with_reducible assumption)))))) | exact And.right (And.left (And.right (by with_reducible assumption))) | exact And.right (And.right (And.left (And.right (by with_reducible assumption)))) | exact And.right (And.right (And.right (And.left (And.right (by with_reducible assumption))))) | exact And.left (And.left (And.right (And.right (by with_reducible assumption)))) | exact And.left (And.right (And.left (And.right (And.right (by with_reducible assumption))))) | exact And.left (And.right (And.right (And.left (And.right (And.right (by with_reducible assumption)))))) | exact And.left (And.right (And.right (And.right (And.left (And.right (And.right (by with_reducible assumption))))))) | exact And.right (And.left (And.right (And.right (by with_reducible assumption)))) | exact And.right (And.right (And.left (And.right (And.right (by with_reducible assumption))))) | exact And.right (And.right (And.right (And.left (And.right (And.right (by with_reducible assumption)))))) | exact And.left (And.left (And.right (And.right (And.right (by with_reducible assumption))))) | exact And.left (And.right (And.left (And.right (And.right (And.right (by with_reducible assumption)))))) | exact And.left (And.right (And.right (And.left (And.right (And.right (And.right (by with_reducible assumption))))))) | exact And.left (And.right (And.right (And.right (And.left (And.right (And.right (And.right (by with_reducible assumption)))))))) | exact And.right (And.left (And.right (And.right (And.right (by with_reducible assumption))))) | exact And.right (And.right (And.left (And.right (And.right (And.right (by with_reducible assumption)))))) | exact And.right (And.right (And.right (And.left (And.right (And.right (And.right (by with_reducible assumption))))))))
  k_with "m_ne" => (first | assumption | (refine Ne.symm ?_; assumption) | (refine Nat.ne_of_lt ?_; k_extra "m_p1") | (refine Nat.ne_of_gt ?_; k_extra "m_p1") | k_extra "m_p1" | (refine Ne.symm ?_; k_extra "m_p1") | k_extra "m_p2" | (refine Ne.symm ?_; k_extra "m_p2"))
  k_with "call ref" => ((k_here; (with_reducible show wpAny _ _ (call (Value.ref 59) _) _ _ _); k_dflt (refine' mk_entry ?zzk1 ?zzk2 ?zzk3 ?zzk4 ?zzkr ?_; (case zzk1 => k_asm); (case zzk2 => k_asm); (case zzk3 => k_asm); (case zzk4 => k_asm); (case zzkr => (simp only [depth_in1, depth_deeper]; omega)); intro _ _ _ _ _ _ _ _ _ _ _ _; walk_at "t_2")))
  k_with "assign Tuple" => ((k_here; k_dflt (refine' assign2 ?zzk1 ?zzk2 ?zzk3 ?zzk4 ?_; (case zzk1 => first | assumption | exact rfl); (case zzk2 => k_asm); (case zzk3 => k_asm); (case zzk4 => k_mem); intro _ _ _)))
  k_with "exec For Name Attribute cons nil" => ((k_here; k_dflt (refine For_at ?_)))
  k_with "exec For Name Name cons nil" => ((k_here; k_dflt (refine For_at ?_)))
  k_with "exec For Name Call cons nil" => ((k_here; k_dflt (refine For_at ?_)))
  k_with "exec For Name Tuple cons nil" => ((k_here; k_dflt (refine For_at ?_)))
  k_with "exec For Name List cons nil" => ((k_here; k_dflt (refine For_at ?_)))
  k_with "m_stop" => (with_reducible show ForAt _ _ _ _ _ _ _ _ _ _)
  k_with "m_up" => (first | exact ⟨_, by funext z; repeat' (first | rfl | split) <;> simp_all⟩ | exact ⟨_, _, by funext z; repeat' (first | rfl | split) <;> simp_all⟩ | exact ⟨_, _, _, by funext z; repeat' (first | rfl | split) <;> simp_all⟩)
  k_with "newList" => ((k_here; k_dflt (refine' newList_M ?zzk1 ?zzk2 ?zzk3 ?_; (case zzk1 => k_asm); (case zzk2 => k_asm); (case zzk3 => exact Nat.le_of_ble_eq_true rfl)); intro _ _ _ _; walk_at "t_3"))
  k_with "call ref" => ((k_here; (with_reducible show wpAny _ _ (call (Value.ref 234) _) _ _ _); k_dflt (refine' record_ok ?zzk1 ?zzk2 ?zzkr ?zzk3 ?zzk4 ?zzk5 ?zzk6 ?_; (case zzk1 => exact Frag.In.keeps (by k_asm) (Fr.keep (by k_asm))); (case zzk2 => exact Top.keeps (by k_asm) (Fr.keep (by k_asm))); (case zzk4 => first | exact Heap.IsList.at (by assumption) (fun o e => Fr.keep (by k_asm) _ _ e) | exact News.isList (by k_asm) (by k_mem)); (case zzk5 => assumption); (case zzk3 => assumption); (case zzk6 => k_extra "m_size"); (case zzkr => (simp only [depth_in1, depth_deeper]; omega)); intro _ _ _ _ _ _ _ _ _ _ _; walk_at "t_4")))
  k_with "call ref" => ((k_here; (with_reducible show wpAny _ _ (call (Value.ref 227) _) _ _ _); k_dflt (refine' figures_ok ?zzk1 ?zzk2 ?zzkr ?zzk3 ?_; (case zzk1 => exact Frag.In.keeps (by k_asm) (Fr.keep (by k_asm))); (case zzk2 => exact Top.keeps (by k_asm) (Fr.keep (by k_asm))); (case zzk3 => assumption); (case zzkr => (simp only [depth_in1, depth_deeper]; omega)); intro _ _ _ _ _; walk_at "t_5")))
  k_with "call ref" => ((k_here; (with_reducible show wpAny _ _ (call (Value.ref 239) _) _ _ _); k_dflt (refine' within_ok ?zzk5 ?zzk6 ?zzk1 ?zzk2 ?zzkr ?zzku ?zzk3 ?_; (case zzk1 => exact Frag.In.keeps (by k_asm) (Fr.keep (by k_asm))); (case zzk2 => exact Top.keeps (by k_asm) (Fr.keep (by k_asm))); (case zzk3 => assumption); (case zzk5 => first | assumption | omega); (case zzk6 => first | assumption | omega); (case zzkr => (simp only [depth_in1, depth_deeper]; omega)); (case zzku => k_units); intro _ _; walk_at "t_6")))
  k_with "compareOp NotEq ref ref" => ((k_here; k_dflt (first | refine ne_bools (by is_list) (by is_list) (by assumption) (by assumption) (by k_units) ?_ | refine ne_strs (by is_list) (by is_list) (by assumption) (by assumption) (by assumption) (by assumption) (by k_units) ?_)))
  k_with "compareOp Eq ref ref" => ((k_here; k_dflt (first | refine eq_bools (by is_list) (by is_list) (by assumption) (by assumption) (by k_units) ?_ | refine eq_strs (by is_list) (by is_list) (by assumption) (by assumption) (by assumption) (by assumption) (by k_units) ?_)))
  k_with "subscriptTail Name Name ref int" => ((k_here; k_dflt (refine' item_list ?zzk1 ?zzk2 ?zzk3 ?zzk4 ?_ ?zzk6; (case zzk6 => with_unfolding_all rfl); (case zzk1 => is_list); (case zzk4 => assumption); (case zzk2 => first | exact z_ge _ | omega); (case zzk3 => first | ((with_reducible refine z_63 ?_); omega) | omega))))
  k_with "call ref" => ((k_here; (with_reducible show wpAny _ _ (call (Value.ref 119) _) _ _ _); k_dflt (refine' mk_nodeinfo ?zzk1 ?zzk2 ?zzk3 ?zzk4 ?zzkr ?zzkv ?_; (case zzk1 => k_asm); (case zzk2 => k_asm); (case zzk3 => k_asm); (case zzk4 => k_asm); (case zzkv => k_handed); (case zzkr => (simp only [depth_in1, depth_deeper]; omega)); intro _ _ _ _ _ _ _ _; walk_at "t_2")))
  k_with "call ref" => ((k_here; (with_reducible show wpAny _ _ (call (Value.ref 216) _) _ _ _); k_dflt (refine' mk_sorter ?zzk1 ?zzk2 ?zzk3 ?zzk4 ?zzkr ?_; (case zzk1 => k_asm); (case zzk2 => k_asm); (case zzk3 => k_asm); (case zzk4 => k_asm); (case zzkr => (simp only [depth_in1, depth_deeper]; omega)); intro _ _ _ _ _ _ _ _ _ _ _ _ _ _ _ _; walk_at "t_2")))
  k_with "getMethod ref" => ((k_here; (with_reducible show wpAny _ _ (getMethod (Value.ref _) (Str.ofString "get") _) _ _ _); k_dflt (refine kdg_method (knd := PySem.intKind _ _) (by k_asm) (by k_mem) (by assumption) ?_)))
  k_with "call builtin:dict.get" => ((k_here; k_dflt (refine kdg_get1 (knd := PySem.intKind _ _) (by k_asm) (by k_mem) (by assumption) (by assumption) (intKind_is _ _ _ _) _ (by assumption) ?_; (try dsimp only [Option.getD]))))
  k_with "subscriptTail Name Name ref int" => ((k_here; k_dflt (refine' kda_item (knd := PySem.intKind _ _) ?zzk1 ?zzk2 ?zzk3 ?zzk4 ?zzk5 ?_ ?zzk6 ?zzk7; (case zzk6 => with_unfolding_all rfl); (case zzk7 => intro _; with_unfolding_all rfl); (case zzk1 => k_asm); (case zzk2 => k_mem); (case zzk3 => assumption); (case zzk4 => exact intKind_is _ _ _ _); (case zzk5 => assumption))))
  k_with "setItem ref int" => ((k_here; k_dflt (refine' kda_set (knd := PySem.intKind _ _) ?zzF ?zzN ?zzU ?zzd (intKind_is _ _ _ _) ?zzz ?_; (case zzF => k_asm); (case zzN => k_asm); (case zzU => k_updF); (case zzd => assumption); (case zzz => rw [sizeLine_eq]; assumption)); intro _ _ _; walk_at "t_7"))
  k_with "call builtin:list.append" => ((k_here; (with_reducible show wpAny _ _ (call (Value.builtin _) [Value.ref _, _]) _ _ _); k_dflt (refine' append_K ?zzk1 ?zzk2 ?zzk3 ?_ ?zzz; (case zzk1 => k_asm); (case zzk2 => k_asm); (case zzk3 => k_upd); (case zzz => rw [sizeLine_eq]; omega); k_whole); intro _ _ _; (try k_sweep)))
  k_with "call type:bool" => ((k_here; (with_reducible show wpAny _ _ (call _ [Value.ref _]) _ _ _); k_dflt (refine call_bool_list (by is_list) (by omega) ?_)))
  k_with "call builtin:list.clear" => ((k_here; (with_reducible show wpAny _ _ (call (Value.builtin _) [Value.ref _]) _ _ _); k_dflt (refine' clear_any ?zzF ?zzN ?zzU ?zzz ?_; (case zzF => k_asm); (case zzN => k_asm); (case zzU => k_updF); (case zzz => rw [sizeLine_eq]; omega)); intro _ _ _; walk_at "t_8"))
  k_with "m_stop" => (with_reducible show WhileAt _ _ _ _ _ _ _ _ _)
  k_with "exec While" => ((k_here; k_dflt (refine While_at ?_)))
  k_with "exec While Name" => ((k_here; k_dflt (refine While_at ?_)))
  k_with "exec While Constant" => ((k_here; k_dflt (refine While_at ?_)))
  k_with "getAttr ref" => ((k_here; (with_reducible show wpAny _ _ (getAttr (Value.ref _) (Str.ofString "__next__") true) _ _ _); k_dflt (refine NX.next_N (by k_asm) (by k_asm) (by k_mem) ?_; intro _ _ _ _ _; walk_at "t_3")))
  k_with "call builtin:iter" => ((k_here; (with_reducible show wpAny _ _ (call (Value.builtin "iter") [Value.ref _]) _ _ _); k_dflt (refine NX.iter_N (by k_asm) (by k_asm) (by is_list) ?_; intro _ _ _ _; walk_at "t_3")))
  k_with "callWith ref" => ((k_here; (with_reducible show wpAny _ _ (callWith _ (Value.ref _) [] (backTo _ (starEach [] _)) []) _ _ _); k_dflt (with_unfolding_all refine NX.callWith_N (by k_asm) (by k_mem) ?_)))
  k_with "call ref" => ((k_here; (with_reducible show wpAny _ _ (call (Value.ref _) []) _ _ _); k_dflt (first | (refine' NX.item_N ?zzk1 ?zzk2 ?zzk3 ?zzk4 ?zzk5 ?zzk6 ?_; (case zzk1 => k_asm); (case zzk2 => k_asm); (case zzk4 => k_mem); (case zzk3 => k_updF); (case zzk5 => is_list); (case zzk6 => assumption); intro _ _; walk_at "t_8") | (refine' NX.end_N ?zzk0 ?zzk1 ?zzk2 ?zzk3 ?zzk4 ?zzk5 ?zzk6 ?_; (case zzk0 => assumption); (case zzk1 => k_asm); (case zzk2 => k_asm); (case zzk4 => k_mem); (case zzk3 => k_updF); (case zzk5 => is_list); (case zzk6 => assumption); intro _ _ _ _ _; walk_at "t_8"))))
  k_with "call builtin:list.pop" => ((k_here; (with_reducible show wpAny _ _ (call (Value.builtin _) [Value.ref _]) _ _ _); k_dflt (refine' NX.pop_N ?zzk1 ?zzk2 ?zzk3 ?zzk4 ?_; (case zzk1 => k_asm); (case zzk2 => k_asm); (case zzk3 => k_updF); (case zzk4 => omega); intro _ _; walk_at "t_8")))
  k_with "subscriptTail Name UnaryOp ref int" => ((k_here; k_dflt (refine' NX.last_N ?zzk1 ?zzk2 ?zzk3 ?_ ?zzk4; (case zzk1 => k_asm); (case zzk2 => k_mem); (case zzk3 => omega); (case zzk4 => with_unfolding_all rfl))))
  k_with "call builtin:len" => ((k_here; (with_reducible show wpAny _ _ (call (Value.builtin "len") [Value.ref _]) _ _ _); k_dflt (refine call_len_list (by is_list) (by omega) ?_)))
  k_with "truthy ref" => ((k_here; k_dflt (refine wpAny_truthy_list (by is_list) (by omega) ?_)))
  k_with "truthy ref" => ((k_here; k_dflt (first | (refine NX.truthy_nil (by k_asm) (by k_mem) ?_) | (refine NX.truthy_snoc (by k_asm) (by k_mem) (by omega) ?_))))
  k_with "binaryOp Add ref ref" => ((k_here; (with_reducible show wpAny _ _ (binaryOp _ (Value.ref _) (Value.ref _)) _ _ _); k_dflt (refine' kmk_add_ints ?zzF ?zzN ?zza ?zzb ?zzi ?zzj ?_ ?zzz; (case zzF => k_asm); (case zzN => k_asm); (case zza => is_list); (case zzb => is_list); (case zzi => assumption); (case zzj => first | assumption | exact .cons _ _ .nil); (case zzz => (simp only [List.length_cons, List.length_nil]; rw [sizeLine_eq]; omega))); intro _ _ _ _ _; walk_at "t_2"))
  k_with "call builtin:max" => ((k_here; (with_reducible show wpAny _ _ (call (Value.builtin _) [Value.ref _]) _ _ _); k_dflt (refine' kso_max ?zzF ?zzN ?zza ?zzi ?zzn ?zzh ?_; (case zzF => k_asm); (case zzN => k_asm); (case zza => is_list); (case zzi => assumption); (case zzn => (simp only [List.length_append, List.length_cons, List.length_nil]; omega)); (case zzh => assumption)); intro _ _ _ _ _ _ _ _))
  k_with "call type:type" => (((with_reducible show wpAny _ _ (call (Value.type "type") [Value.bytes _ _]) _ _ _); (refine call_type_of (typeIs_bytes _ _ _) (by decide) ?_)))
  k_with "call type:type" => (((with_reducible show wpAny _ _ (call (Value.type "type") [Value.bool _]) _ _ _); (refine call_type_of (typeIs_bool' _ _) (by decide) ?_)))
  k_with "call ref" => ((k_here; (with_reducible show wpAny _ _ (call (Value.ref 77) _) _ _ _); k_dflt (refine' buffer_ok ?zzk1 ?zzk2 ?zzkr ?zzku ?zzk3 ?_; (case zzk1 => exact Frag.In.keeps (by k_asm) (Fr.keep (by k_asm))); (case zzk2 => exact Top.keeps (by k_asm) (Fr.keep (by k_asm))); (case zzk3 => assumption); (case zzkr => (simp only [depth_in1, depth_deeper]; omega)); (case zzku => k_units); intro _ _; walk_at "t_6")))
  k_with "call ref" => ((k_here; (with_reducible show wpAny _ _ (call (Value.ref 84) _) _ _ _); k_dflt (refine' truth_ok ?zzk1 ?zzk2 ?zzkr ?zzku ?zzk3 ?_; (case zzk1 => exact Frag.In.keeps (by k_asm) (Fr.keep (by k_asm))); (case zzk2 => exact Top.keeps (by k_asm) (Fr.keep (by k_asm))); (case zzk3 => assumption); (case zzkr => (simp only [depth_in1, depth_deeper]; omega)); (case zzku => k_units); intro _ _; walk_at "t_6")))
  k_with "call ref" => ((k_here; (with_reducible show wpAny _ _ (call (Value.ref 92) _ _) _ _ _); k_dflt (refine' b2a_ok ?zzk1 ?zzk2 ?zzkr ?zzku ?zzk3 ?zzkb ?zzkB ?_; (case zzk1 => exact Frag.In.keeps (by k_asm) (Fr.keep (by k_asm))); (case zzk2 => exact Top.keeps (by k_asm) (Fr.keep (by k_asm))); (case zzk3 => assumption); (case zzkb => assumption); (case zzkB => assumption); (case zzkr => (simp only [depth_in1, depth_deeper]; omega)); (case zzku => k_units); intro _ _ _; walk_at "t_6")))
  k_with "call ref" => ((k_here; (with_reducible show wpAny _ _ (call (Value.ref 100) _ _) _ _ _); k_dflt (refine' b64encode_ok ?zzk1 ?zzk2 ?zzkr ?zzku ?zzk3 ?zzkb ?zzkB ?_; (case zzk1 => exact Frag.In.keeps (by k_asm) (Fr.keep (by k_asm))); (case zzk2 => exact Top.keeps (by k_asm) (Fr.keep (by k_asm))); (case zzk3 => assumption); (case zzkb => assumption); (case zzkB => assumption); (case zzkr => (simp only [depth_in1, depth_deeper]; omega)); (case zzku => k_units); intro _ _ _; walk_at "t_6")))
  k_with "call type:set" => ((k_here; (with_reducible show wpAny _ _ (call _ [Value.ref _]) _ _ _); k_dflt (refine' FX.set_N ?zzk1 ?zzk2 ?zzk3 ?zzk4 ?zzk5 ?zzk6 ?_; (case zzk1 => k_asm); (case zzk2 => k_asm); (case zzk3 => k_asm); (case zzk4 => is_list); (case zzk5 => assumption); (case zzk6 => assumption); intro _ _ _ _ _ _ _; walk_at "t_3")))
  k_with "getAttr ref" => ((k_here; (with_reducible show wpAny _ _ (getAttr (Value.ref _) (Str.ofString "__contains__") true) _ _ _); k_dflt (refine FX.has_N (by k_asm) (by k_asm) (by k_mem) (by assumption) ?_; intro _ _ _ _ _; walk_at "t_3")))
  k_with "call type:filter" => ((k_here; (with_reducible show wpAny _ _ (call _ [Value.ref _, Value.ref _]) _ _ _); k_dflt (refine FX.filter_N (by k_asm) (by k_asm) (by is_list) ?_; intro _ _ _ _ _; walk_at "t_10")))
  k_with "call type:list" => ((k_here; (with_reducible show wpAny _ _ (call _ [Value.ref _]) _ _ _); k_dflt (refine' FX.list_N ?zzk1 ?zzk2 ?zzk3 ?zzk4 ?zzk5 ?zzk6 ?zzk7 ?zzk8 ?zzk9 ?zzk10 ?zzk11 ?zzk12 ?_; (case zzk1 => k_asm); (case zzk2 => k_asm); (case zzk3 => k_asm); (case zzk4 => is_list); (case zzk5 => assumption); (case zzk6 => assumption); (case zzk7 => assumption); (case zzk12 => (rename ∀ p ∈ _, _ => hc'; exact fun p hp => hc' p (.tail _ (.tail _ hp)))); (case zzk8 => omega); (case zzk9 => omega); (case zzk10 => assumption); (case zzk11 => assumption); intro _ _ _ _ _ _ _ _; walk_at "t_3")))
  k_with "call ref" => ((k_here; (with_reducible show wpAny _ _ (call (Value.ref 70) _) _ _ _); k_dflt (refine' merge_ok ?zzk1 ?zzk2 ?zzk3 ?zzk4 ?zzk5 ?zzk6 ?zzk7 ?zzk8 ?zzk9 ?zzk10 ?zzk11 ?zzk12 ?_; (case zzk6 => k_asm); (case zzk7 => k_asm); (case zzk10 => k_asm); (case zzk11 => exact Fr.keep (by k_asm)); (case zzk8 => k_room); (case zzk9 => k_room); (case zzk12 => refine nw_pos (nw_sub (by k_asm) ?_); simp only [recObjs, List.cons_append, List.nil_append, List.forall_mem_cons, List.not_mem_nil, false_implies, implies_true, and_true]; refine ⟨?zza1, ?zza2, ?zza3, ?zza4, ?zzb1, ?zzb2, ?zzb3, ?zzb4⟩; (case zza3 => k_mem); (case zza4 => k_mem); (case zza1 => k_mem); (case zza2 => k_mem); (case zzb3 => k_mem); (case zzb4 => k_mem); (case zzb1 => k_mem); (case zzb2 => k_mem)); (case zzk1 => assumption); (case zzk2 => assumption); (case zzk3 => k_extra "m_size"); (case zzk4 => k_extra "m_size"); (case zzk5 => first | exact .inl ⟨rfl, rfl⟩ | exact .inr ⟨rfl, rfl⟩); intro _ _ _ _ _ _ _ _ _ _ _ _ _; walk_at "t_11")))
  trivial
set_option maxHeartbeats 8000000 in
theorem law_holds : PySem.Challenge.rw_pg0300_01.Holds := by
  refine holds_law hdSaid fun said => ?_
  refine holds_open (q := hd.view_39) (loose := hdL) (Xt := hdX) (XP := XL hd.view_39 []) (Yf := Hook.obs hdH) (Ya := Hook.val hdH) (YP := Hook.says hdH) (N := 3704) hdLeft (Hook.of hdH) (Hook.keeps hdH) (fun s e => xl_of s (Bool.and_eq_true_iff.mp e).1) XL.keeps (by rfl) (by rfl) (by rfl) (fun s e => recFacts_of (Bool.and_eq_true_iff.mp e).2) (by rfl) said (by decide +kernel) ⟨rfl, rfl, rfl, rfl, rfl, by decide +kernel⟩ ?hw ?hc
  case hw => w_witness2
  case hc =>
  intro w s₀ s₁ mg mb G Y fa o pm cd doc dV kV ho hd hcd hD hmg hg args vals as hpre hlay hrd hwl hlo
  have KX := kIn_of Y
  have X := (Ground.X G).1
  have V := (Ground.X G).2
  refine Ground.open G ?_
  intro T B D TE TW
  have e264 := mg_of (n := Str.ofString "law") (v := .ref 264) KX T.g (by k_is)
  wrow_args hpre hlay hrd hwl hlo
  rename_i ns _ _ _ _ _ _ _ l vs _ hL _ _ _ hI _ hlen _
  have hfa : fa = 264 := by
    have h1 : mg (Str.ofString "law") = some (.ref fa) := hmg
    rw [e264] at h1
    cases h1
    rfl
  subst hfa
  have hz : vs.length ≤ 63 := by have := IntsAre.length hI; omega
  show wpAny _ _ (call (.ref 264) [.ref l] []) _ _ _
  refine law_ok KX T (by decide) (by decide) rfl rfl hL hI hz fun h' tk hk => ?_
  refine ⟨.inl ⟨.bool true, .bool true, [], rfl, fun _ => rfl, ReadsW.bool true, (by first | rfl | wrow_post), fun _ => ⟨List.nodup_nil, fun _ hm => (nomatch hm)⟩⟩, .of_keep hk, rfl, .of_eq hg⟩

end P49
end Mine
set_option maxHeartbeats 4000000 in
theorem PySem.Challenge.cw_pg0300_01_holds : PySem.Challenge.rw_pg0300_01.Holds := by
  exact Mine.law_holds
