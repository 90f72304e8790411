import PyProof.Rows.All
import Wide.All
import OpenK.AllK
import Wide.FinOn
import Lean
import PySem.Challenge.RW_wc0029_01
set_option Elab.async false
set_option linter.unusedVariables false
set_option linter.unusedSimpArgs false
section
open PySem PySem.W PyProof.Rows
set_option Elab.async false
set_option maxRecDepth 1000000
set_option maxHeartbeats 0
set_option linter.unusedVariables false
namespace Mine
noncomputable abbrev pw := PySem.Challenge.pw_wc0029_01
@[reducible] noncomputable def litOf {α : Type} (a b : α) (_ : a = b) : α := b
noncomputable def mainStmt (i : Nat) : Stmt := pw.main.body.getD i (.Pass ⟨0, 0, 0, 0⟩)
noncomputable def clsStmt (i j : Nat) : Stmt := match mainStmt i with
  | .ClassDef _ _ _ b _ _ _ _ _ _ _ => b.getD j (.Pass ⟨0, 0, 0, 0⟩)
  | s => s
noncomputable def fnParams : Stmt → Arguments
  | .FunctionDef _ a _ _ _ _ _ _ _ _ => a
  | _ => ⟨[], [], none, [], [], none, []⟩
noncomputable def fnBody : Stmt → List Stmt
  | .FunctionDef _ _ b _ _ _ _ _ _ _ => b
  | _ => []
noncomputable def fnScope : Stmt → Scope
  | .FunctionDef _ _ _ _ _ _ s _ _ _ => s
  | _ => ⟨.module, [], false, false, []⟩
@[reducible] noncomputable def p_1 : Arguments := litOf (fnParams (mainStmt 1)) _ (by conv => lhs; whnf)
@[reducible] noncomputable def b_1 : List Stmt := litOf (fnBody (mainStmt 1)) _ (by conv => lhs; whnf)
@[reducible] noncomputable def s_1 : Scope := litOf (fnScope (mainStmt 1)) _ (by conv => lhs; whnf)
@[reducible] noncomputable def p_4_0 : Arguments := litOf (fnParams (clsStmt 4 0)) _ (by conv => lhs; whnf)
@[reducible] noncomputable def b_4_0 : List Stmt := litOf (fnBody (clsStmt 4 0)) _ (by conv => lhs; whnf)
@[reducible] noncomputable def s_4_0 : Scope := litOf (fnScope (clsStmt 4 0)) _ (by conv => lhs; whnf)
@[reducible] noncomputable def p_4_1 : Arguments := litOf (fnParams (clsStmt 4 1)) _ (by conv => lhs; whnf)
@[reducible] noncomputable def b_4_1 : List Stmt := litOf (fnBody (clsStmt 4 1)) _ (by conv => lhs; whnf)
@[reducible] noncomputable def s_4_1 : Scope := litOf (fnScope (clsStmt 4 1)) _ (by conv => lhs; whnf)
@[reducible] noncomputable def p_4_2 : Arguments := litOf (fnParams (clsStmt 4 2)) _ (by conv => lhs; whnf)
@[reducible] noncomputable def b_4_2 : List Stmt := litOf (fnBody (clsStmt 4 2)) _ (by conv => lhs; whnf)
@[reducible] noncomputable def s_4_2 : Scope := litOf (fnScope (clsStmt 4 2)) _ (by conv => lhs; whnf)
@[reducible] noncomputable def p_4_3 : Arguments := litOf (fnParams (clsStmt 4 3)) _ (by conv => lhs; whnf)
@[reducible] noncomputable def b_4_3 : List Stmt := litOf (fnBody (clsStmt 4 3)) _ (by conv => lhs; whnf)
@[reducible] noncomputable def s_4_3 : Scope := litOf (fnScope (clsStmt 4 3)) _ (by conv => lhs; whnf)
@[reducible] noncomputable def p_4_4 : Arguments := litOf (fnParams (clsStmt 4 4)) _ (by conv => lhs; whnf)
@[reducible] noncomputable def b_4_4 : List Stmt := litOf (fnBody (clsStmt 4 4)) _ (by conv => lhs; whnf)
@[reducible] noncomputable def s_4_4 : Scope := litOf (fnScope (clsStmt 4 4)) _ (by conv => lhs; whnf)
@[reducible] noncomputable def p_4_5 : Arguments := litOf (fnParams (clsStmt 4 5)) _ (by conv => lhs; whnf)
@[reducible] noncomputable def b_4_5 : List Stmt := litOf (fnBody (clsStmt 4 5)) _ (by conv => lhs; whnf)
@[reducible] noncomputable def s_4_5 : Scope := litOf (fnScope (clsStmt 4 5)) _ (by conv => lhs; whnf)
@[reducible] noncomputable def p_4_6 : Arguments := litOf (fnParams (clsStmt 4 6)) _ (by conv => lhs; whnf)
@[reducible] noncomputable def b_4_6 : List Stmt := litOf (fnBody (clsStmt 4 6)) _ (by conv => lhs; whnf)
@[reducible] noncomputable def s_4_6 : Scope := litOf (fnScope (clsStmt 4 6)) _ (by conv => lhs; whnf)
@[reducible] noncomputable def p_4_7 : Arguments := litOf (fnParams (clsStmt 4 7)) _ (by conv => lhs; whnf)
@[reducible] noncomputable def b_4_7 : List Stmt := litOf (fnBody (clsStmt 4 7)) _ (by conv => lhs; whnf)
@[reducible] noncomputable def s_4_7 : Scope := litOf (fnScope (clsStmt 4 7)) _ (by conv => lhs; whnf)
@[reducible] noncomputable def p_4_8 : Arguments := litOf (fnParams (clsStmt 4 8)) _ (by conv => lhs; whnf)
@[reducible] noncomputable def b_4_8 : List Stmt := litOf (fnBody (clsStmt 4 8)) _ (by conv => lhs; whnf)
@[reducible] noncomputable def s_4_8 : Scope := litOf (fnScope (clsStmt 4 8)) _ (by conv => lhs; whnf)
@[reducible] noncomputable def p_7 : Arguments := litOf (fnParams (mainStmt 7)) _ (by conv => lhs; whnf)
@[reducible] noncomputable def b_7 : List Stmt := litOf (fnBody (mainStmt 7)) _ (by conv => lhs; whnf)
@[reducible] noncomputable def s_7 : Scope := litOf (fnScope (mainStmt 7)) _ (by conv => lhs; whnf)
@[reducible] noncomputable def p_9 : Arguments := litOf (fnParams (mainStmt 9)) _ (by conv => lhs; whnf)
@[reducible] noncomputable def b_9 : List Stmt := litOf (fnBody (mainStmt 9)) _ (by conv => lhs; whnf)
@[reducible] noncomputable def s_9 : Scope := litOf (fnScope (mainStmt 9)) _ (by conv => lhs; whnf)
@[reducible] noncomputable def p_14 : Arguments := litOf (fnParams (mainStmt 14)) _ (by conv => lhs; whnf)
@[reducible] noncomputable def b_14 : List Stmt := litOf (fnBody (mainStmt 14)) _ (by conv => lhs; whnf)
@[reducible] noncomputable def s_14 : Scope := litOf (fnScope (mainStmt 14)) _ (by conv => lhs; whnf)
@[reducible] noncomputable def p_15_0 : Arguments := litOf (fnParams (clsStmt 15 0)) _ (by conv => lhs; whnf)
@[reducible] noncomputable def b_15_0 : List Stmt := litOf (fnBody (clsStmt 15 0)) _ (by conv => lhs; whnf)
@[reducible] noncomputable def s_15_0 : Scope := litOf (fnScope (clsStmt 15 0)) _ (by conv => lhs; whnf)
@[reducible] noncomputable def p_15_1 : Arguments := litOf (fnParams (clsStmt 15 1)) _ (by conv => lhs; whnf)
@[reducible] noncomputable def b_15_1 : List Stmt := litOf (fnBody (clsStmt 15 1)) _ (by conv => lhs; whnf)
@[reducible] noncomputable def s_15_1 : Scope := litOf (fnScope (clsStmt 15 1)) _ (by conv => lhs; whnf)
@[reducible] noncomputable def p_15_2 : Arguments := litOf (fnParams (clsStmt 15 2)) _ (by conv => lhs; whnf)
@[reducible] noncomputable def b_15_2 : List Stmt := litOf (fnBody (clsStmt 15 2)) _ (by conv => lhs; whnf)
@[reducible] noncomputable def s_15_2 : Scope := litOf (fnScope (clsStmt 15 2)) _ (by conv => lhs; whnf)
@[reducible] noncomputable def p_15_3 : Arguments := litOf (fnParams (clsStmt 15 3)) _ (by conv => lhs; whnf)
@[reducible] noncomputable def b_15_3 : List Stmt := litOf (fnBody (clsStmt 15 3)) _ (by conv => lhs; whnf)
@[reducible] noncomputable def s_15_3 : Scope := litOf (fnScope (clsStmt 15 3)) _ (by conv => lhs; whnf)
@[reducible] noncomputable def p_15_4 : Arguments := litOf (fnParams (clsStmt 15 4)) _ (by conv => lhs; whnf)
@[reducible] noncomputable def b_15_4 : List Stmt := litOf (fnBody (clsStmt 15 4)) _ (by conv => lhs; whnf)
@[reducible] noncomputable def s_15_4 : Scope := litOf (fnScope (clsStmt 15 4)) _ (by conv => lhs; whnf)
@[reducible] noncomputable def p_15_5 : Arguments := litOf (fnParams (clsStmt 15 5)) _ (by conv => lhs; whnf)
@[reducible] noncomputable def b_15_5 : List Stmt := litOf (fnBody (clsStmt 15 5)) _ (by conv => lhs; whnf)
@[reducible] noncomputable def s_15_5 : Scope := litOf (fnScope (clsStmt 15 5)) _ (by conv => lhs; whnf)
@[reducible] noncomputable def p_15_6 : Arguments := litOf (fnParams (clsStmt 15 6)) _ (by conv => lhs; whnf)
@[reducible] noncomputable def b_15_6 : List Stmt := litOf (fnBody (clsStmt 15 6)) _ (by conv => lhs; whnf)
@[reducible] noncomputable def s_15_6 : Scope := litOf (fnScope (clsStmt 15 6)) _ (by conv => lhs; whnf)
@[reducible] noncomputable def p_15_7 : Arguments := litOf (fnParams (clsStmt 15 7)) _ (by conv => lhs; whnf)
@[reducible] noncomputable def b_15_7 : List Stmt := litOf (fnBody (clsStmt 15 7)) _ (by conv => lhs; whnf)
@[reducible] noncomputable def s_15_7 : Scope := litOf (fnScope (clsStmt 15 7)) _ (by conv => lhs; whnf)
@[reducible] noncomputable def p_15_8 : Arguments := litOf (fnParams (clsStmt 15 8)) _ (by conv => lhs; whnf)
@[reducible] noncomputable def b_15_8 : List Stmt := litOf (fnBody (clsStmt 15 8)) _ (by conv => lhs; whnf)
@[reducible] noncomputable def s_15_8 : Scope := litOf (fnScope (clsStmt 15 8)) _ (by conv => lhs; whnf)
@[reducible] noncomputable def p_15_9 : Arguments := litOf (fnParams (clsStmt 15 9)) _ (by conv => lhs; whnf)
@[reducible] noncomputable def b_15_9 : List Stmt := litOf (fnBody (clsStmt 15 9)) _ (by conv => lhs; whnf)
@[reducible] noncomputable def s_15_9 : Scope := litOf (fnScope (clsStmt 15 9)) _ (by conv => lhs; whnf)
@[reducible] noncomputable def p_15_10 : Arguments := litOf (fnParams (clsStmt 15 10)) _ (by conv => lhs; whnf)
@[reducible] noncomputable def b_15_10 : List Stmt := litOf (fnBody (clsStmt 15 10)) _ (by conv => lhs; whnf)
@[reducible] noncomputable def s_15_10 : Scope := litOf (fnScope (clsStmt 15 10)) _ (by conv => lhs; whnf)
@[reducible] noncomputable def p_15_11 : Arguments := litOf (fnParams (clsStmt 15 11)) _ (by conv => lhs; whnf)
@[reducible] noncomputable def b_15_11 : List Stmt := litOf (fnBody (clsStmt 15 11)) _ (by conv => lhs; whnf)
@[reducible] noncomputable def s_15_11 : Scope := litOf (fnScope (clsStmt 15 11)) _ (by conv => lhs; whnf)
@[reducible] noncomputable def p_15_12 : Arguments := litOf (fnParams (clsStmt 15 12)) _ (by conv => lhs; whnf)
@[reducible] noncomputable def b_15_12 : List Stmt := litOf (fnBody (clsStmt 15 12)) _ (by conv => lhs; whnf)
@[reducible] noncomputable def s_15_12 : Scope := litOf (fnScope (clsStmt 15 12)) _ (by conv => lhs; whnf)
@[reducible] noncomputable def p_15_13 : Arguments := litOf (fnParams (clsStmt 15 13)) _ (by conv => lhs; whnf)
@[reducible] noncomputable def b_15_13 : List Stmt := litOf (fnBody (clsStmt 15 13)) _ (by conv => lhs; whnf)
@[reducible] noncomputable def s_15_13 : Scope := litOf (fnScope (clsStmt 15 13)) _ (by conv => lhs; whnf)
@[reducible] noncomputable def p_15_14 : Arguments := litOf (fnParams (clsStmt 15 14)) _ (by conv => lhs; whnf)
@[reducible] noncomputable def b_15_14 : List Stmt := litOf (fnBody (clsStmt 15 14)) _ (by conv => lhs; whnf)
@[reducible] noncomputable def s_15_14 : Scope := litOf (fnScope (clsStmt 15 14)) _ (by conv => lhs; whnf)
@[reducible] noncomputable def p_15_15 : Arguments := litOf (fnParams (clsStmt 15 15)) _ (by conv => lhs; whnf)
@[reducible] noncomputable def b_15_15 : List Stmt := litOf (fnBody (clsStmt 15 15)) _ (by conv => lhs; whnf)
@[reducible] noncomputable def s_15_15 : Scope := litOf (fnScope (clsStmt 15 15)) _ (by conv => lhs; whnf)
@[reducible] noncomputable def p_15_16 : Arguments := litOf (fnParams (clsStmt 15 16)) _ (by conv => lhs; whnf)
@[reducible] noncomputable def b_15_16 : List Stmt := litOf (fnBody (clsStmt 15 16)) _ (by conv => lhs; whnf)
@[reducible] noncomputable def s_15_16 : Scope := litOf (fnScope (clsStmt 15 16)) _ (by conv => lhs; whnf)
@[reducible] noncomputable def p_17 : Arguments := litOf (fnParams (mainStmt 17)) _ (by conv => lhs; whnf)
@[reducible] noncomputable def b_17 : List Stmt := litOf (fnBody (mainStmt 17)) _ (by conv => lhs; whnf)
@[reducible] noncomputable def s_17 : Scope := litOf (fnScope (mainStmt 17)) _ (by conv => lhs; whnf)
@[reducible] noncomputable def p_18 : Arguments := litOf (fnParams (mainStmt 18)) _ (by conv => lhs; whnf)
@[reducible] noncomputable def b_18 : List Stmt := litOf (fnBody (mainStmt 18)) _ (by conv => lhs; whnf)
@[reducible] noncomputable def s_18 : Scope := litOf (fnScope (mainStmt 18)) _ (by conv => lhs; whnf)
@[reducible] noncomputable def p_19 : Arguments := litOf (fnParams (mainStmt 19)) _ (by conv => lhs; whnf)
@[reducible] noncomputable def b_19 : List Stmt := litOf (fnBody (mainStmt 19)) _ (by conv => lhs; whnf)
@[reducible] noncomputable def s_19 : Scope := litOf (fnScope (mainStmt 19)) _ (by conv => lhs; whnf)
@[reducible] noncomputable def p_20 : Arguments := litOf (fnParams (mainStmt 20)) _ (by conv => lhs; whnf)
@[reducible] noncomputable def b_20 : List Stmt := litOf (fnBody (mainStmt 20)) _ (by conv => lhs; whnf)
@[reducible] noncomputable def s_20 : Scope := litOf (fnScope (mainStmt 20)) _ (by conv => lhs; whnf)

-- the dict of the top's eighth statement: its pairs, its entries
noncomputable def b3keyOf : Option PySem.Expr → Int
  | some (.Constant (.int i) _ _) => i
  | _ => 0
noncomputable def b3valOf : PySem.Expr → Str
  | .Constant (.str s) _ _ => s
  | _ => ⟨#[]⟩
noncomputable def b3of : Stmt → List (Int × Str)
  | .Assign _ (.Dict ks vs _) _ => (ks.map b3keyOf).zip (vs.map b3valOf)
  | _ => []
noncomputable def b3pairs : List (Int × Str) := b3of (mainStmt 8)
noncomputable def entsBy (gap : Nat) : Nat → List (Int × Str) → List DictEntry
  | _, [] => []
  | t, (k, v) :: r => ⟨k, .int k t, .str v (t + 1)⟩ :: entsBy gap (t + gap) r
noncomputable def b3ents : List DictEntry := entsBy 3 457 (b3pairs.take 646) ++ entsBy 2 2395 (b3pairs.drop 646)
noncomputable def b3chunk (c : Nat) : List DictEntry := if c < 38 then entsBy 3 (457 + 51 * c) ((b3pairs.drop (17 * c)).take 17) else entsBy 2 2395 (b3pairs.drop 646)
noncomputable def dictObj (es : List DictEntry) (n : Nat) : Obj := ⟨.type "dict", none, .dict (List.toArray es) n, #[]⟩
noncomputable def o140 (_ : Params) : Obj := dictObj b3ents 650
noncomputable def o141 (_ : Params) : Obj := dictObj (b3chunk 1) 17
noncomputable def o142 (_ : Params) : Obj := dictObj (b3chunk 2) 17
noncomputable def o143 (_ : Params) : Obj := dictObj (b3chunk 3) 17
noncomputable def o144 (_ : Params) : Obj := dictObj (b3chunk 4) 17
noncomputable def o145 (_ : Params) : Obj := dictObj (b3chunk 5) 17
noncomputable def o146 (_ : Params) : Obj := dictObj (b3chunk 6) 17
noncomputable def o147 (_ : Params) : Obj := dictObj (b3chunk 7) 17
noncomputable def o148 (_ : Params) : Obj := dictObj (b3chunk 8) 17
noncomputable def o149 (_ : Params) : Obj := dictObj (b3chunk 9) 17
noncomputable def o150 (_ : Params) : Obj := dictObj (b3chunk 10) 17
noncomputable def o151 (_ : Params) : Obj := dictObj (b3chunk 11) 17
noncomputable def o152 (_ : Params) : Obj := dictObj (b3chunk 12) 17
noncomputable def o153 (_ : Params) : Obj := dictObj (b3chunk 13) 17
noncomputable def o154 (_ : Params) : Obj := dictObj (b3chunk 14) 17
noncomputable def o155 (_ : Params) : Obj := dictObj (b3chunk 15) 17
noncomputable def o156 (_ : Params) : Obj := dictObj (b3chunk 16) 17
noncomputable def o157 (_ : Params) : Obj := dictObj (b3chunk 17) 17
noncomputable def o158 (_ : Params) : Obj := dictObj (b3chunk 18) 17
noncomputable def o159 (_ : Params) : Obj := dictObj (b3chunk 19) 17
noncomputable def o160 (_ : Params) : Obj := dictObj (b3chunk 20) 17
noncomputable def o161 (_ : Params) : Obj := dictObj (b3chunk 21) 17
noncomputable def o162 (_ : Params) : Obj := dictObj (b3chunk 22) 17
noncomputable def o163 (_ : Params) : Obj := dictObj (b3chunk 23) 17
noncomputable def o164 (_ : Params) : Obj := dictObj (b3chunk 24) 17
noncomputable def o165 (_ : Params) : Obj := dictObj (b3chunk 25) 17
noncomputable def o166 (_ : Params) : Obj := dictObj (b3chunk 26) 17
noncomputable def o167 (_ : Params) : Obj := dictObj (b3chunk 27) 17
noncomputable def o168 (_ : Params) : Obj := dictObj (b3chunk 28) 17
noncomputable def o169 (_ : Params) : Obj := dictObj (b3chunk 29) 17
noncomputable def o170 (_ : Params) : Obj := dictObj (b3chunk 30) 17
noncomputable def o171 (_ : Params) : Obj := dictObj (b3chunk 31) 17
noncomputable def o172 (_ : Params) : Obj := dictObj (b3chunk 32) 17
noncomputable def o173 (_ : Params) : Obj := dictObj (b3chunk 33) 17
noncomputable def o174 (_ : Params) : Obj := dictObj (b3chunk 34) 17
noncomputable def o175 (_ : Params) : Obj := dictObj (b3chunk 35) 17
noncomputable def o176 (_ : Params) : Obj := dictObj (b3chunk 36) 17
noncomputable def o177 (_ : Params) : Obj := dictObj (b3chunk 37) 17
noncomputable def o178 (_ : Params) : Obj := dictObj (b3chunk 38) 4
@[reducible] noncomputable def o0 (P : Params) : Obj := ⟨(.type "dict"), .none, .dict (List.toArray [⟨(PyData.keyHash P (Str.ofString "__name__")), (.str (Str.ofString "__name__") 1), (.str (Str.ofString "builtins") 160)⟩, ⟨(PyData.keyHash P (Str.ofString "__doc__")), (.str (Str.ofString "__doc__") 2), (.builtin "builtins.__doc__:str#opaque")⟩, ⟨(PyData.keyHash P (Str.ofString "__package__")), (.str (Str.ofString "__package__") 3), (.builtin "builtins.__package__:str#opaque")⟩, ⟨(PyData.keyHash P (Str.ofString "__loader__")), (.str (Str.ofString "__loader__") 4), (.builtin "builtins.__loader__:shared#opaque")⟩, ⟨(PyData.keyHash P (Str.ofString "__spec__")), (.str (Str.ofString "__spec__") 5), (.builtin "builtins.__spec__#opaque")⟩, ⟨(PyData.keyHash P (Str.ofString "__build_class__")), (.str (Str.ofString "__build_class__") 6), (.builtin "__build_class__")⟩, ⟨(PyData.keyHash P (Str.ofString "__import__")), (.str (Str.ofString "__import__") 7), (.builtin "__import__")⟩, ⟨(PyData.keyHash P (Str.ofString "abs")), (.str (Str.ofString "abs") 8), (.builtin "abs")⟩, ⟨(PyData.keyHash P (Str.ofString "all")), (.str (Str.ofString "all") 9), (.builtin "all")⟩, ⟨(PyData.keyHash P (Str.ofString "any")), (.str (Str.ofString "any") 10), (.builtin "any")⟩, ⟨(PyData.keyHash P (Str.ofString "ascii")), (.str (Str.ofString "ascii") 11), (.builtin "ascii")⟩, ⟨(PyData.keyHash P (Str.ofString "bin")), (.str (Str.ofString "bin") 12), (.builtin "bin")⟩, ⟨(PyData.keyHash P (Str.ofString "breakpoint")), (.str (Str.ofString "breakpoint") 13), (.builtin "breakpoint")⟩, ⟨(PyData.keyHash P (Str.ofString "callable")), (.str (Str.ofString "callable") 14), (.builtin "callable")⟩, ⟨(PyData.keyHash P (Str.ofString "chr")), (.str (Str.ofString "chr") 15), (.builtin "chr")⟩, ⟨(PyData.keyHash P (Str.ofString "compile")), (.str (Str.ofString "compile") 16), (.builtin "compile")⟩, ⟨(PyData.keyHash P (Str.ofString "delattr")), (.str (Str.ofString "delattr") 17), (.builtin "delattr")⟩, ⟨(PyData.keyHash P (Str.ofString "dir")), (.str (Str.ofString "dir") 18), (.builtin "dir")⟩, ⟨(PyData.keyHash P (Str.ofString "divmod")), (.str (Str.ofString "divmod") 19), (.builtin "divmod")⟩, ⟨(PyData.keyHash P (Str.ofString "eval")), (.str (Str.ofString "eval") 20), (.builtin "eval")⟩, ⟨(PyData.keyHash P (Str.ofString "exec")), (.str (Str.ofString "exec") 21), (.builtin "exec")⟩, ⟨(PyData.keyHash P (Str.ofString "format")), (.str (Str.ofString "format") 22), (.builtin "format")⟩, ⟨(PyData.keyHash P (Str.ofString "getattr")), (.str (Str.ofString "getattr") 23), (.builtin "getattr")⟩, ⟨(PyData.keyHash P (Str.ofString "globals")), (.str (Str.ofString "globals") 24), (.builtin "globals")⟩, ⟨(PyData.keyHash P (Str.ofString "hasattr")), (.str (Str.ofString "hasattr") 25), (.builtin "hasattr")⟩, ⟨(PyData.keyHash P (Str.ofString "hash")), (.str (Str.ofString "hash") 26), (.builtin "hash")⟩, ⟨(PyData.keyHash P (Str.ofString "hex")), (.str (Str.ofString "hex") 27), (.builtin "hex")⟩, ⟨(PyData.keyHash P (Str.ofString "id")), (.str (Str.ofString "id") 28), (.builtin "id")⟩, ⟨(PyData.keyHash P (Str.ofString "input")), (.str (Str.ofString "input") 29), (.builtin "input")⟩, ⟨(PyData.keyHash P (Str.ofString "isinstance")), (.str (Str.ofString "isinstance") 30), (.builtin "isinstance")⟩, ⟨(PyData.keyHash P (Str.ofString "issubclass")), (.str (Str.ofString "issubclass") 31), (.builtin "issubclass")⟩, ⟨(PyData.keyHash P (Str.ofString "iter")), (.str (Str.ofString "iter") 32), (.builtin "iter")⟩, ⟨(PyData.keyHash P (Str.ofString "aiter")), (.str (Str.ofString "aiter") 33), (.builtin "aiter")⟩, ⟨(PyData.keyHash P (Str.ofString "len")), (.str (Str.ofString "len") 34), (.builtin "len")⟩, ⟨(PyData.keyHash P (Str.ofString "locals")), (.str (Str.ofString "locals") 35), (.builtin "locals")⟩, ⟨(PyData.keyHash P (Str.ofString "max")), (.str (Str.ofString "max") 36), (.builtin "max")⟩, ⟨(PyData.keyHash P (Str.ofString "min")), (.str (Str.ofString "min") 37), (.builtin "min")⟩, ⟨(PyData.keyHash P (Str.ofString "next")), (.str (Str.ofString "next") 38), (.builtin "next")⟩, ⟨(PyData.keyHash P (Str.ofString "anext")), (.str (Str.ofString "anext") 39), (.builtin "anext")⟩, ⟨(PyData.keyHash P (Str.ofString "oct")), (.str (Str.ofString "oct") 40), (.builtin "oct")⟩, ⟨(PyData.keyHash P (Str.ofString "ord")), (.str (Str.ofString "ord") 41), (.builtin "ord")⟩, ⟨(PyData.keyHash P (Str.ofString "pow")), (.str (Str.ofString "pow") 42), (.builtin "pow")⟩, ⟨(PyData.keyHash P (Str.ofString "print")), (.str (Str.ofString "print") 43), (.builtin "print")⟩, ⟨(PyData.keyHash P (Str.ofString "repr")), (.str (Str.ofString "repr") 44), (.builtin "repr")⟩, ⟨(PyData.keyHash P (Str.ofString "round")), (.str (Str.ofString "round") 45), (.builtin "round")⟩, ⟨(PyData.keyHash P (Str.ofString "setattr")), (.str (Str.ofString "setattr") 46), (.builtin "setattr")⟩, ⟨(PyData.keyHash P (Str.ofString "sorted")), (.str (Str.ofString "sorted") 47), (.builtin "sorted")⟩, ⟨(PyData.keyHash P (Str.ofString "sum")), (.str (Str.ofString "sum") 48), (.builtin "sum")⟩, ⟨(PyData.keyHash P (Str.ofString "vars")), (.str (Str.ofString "vars") 49), (.builtin "vars")⟩, ⟨(PyData.keyHash P (Str.ofString "None")), (.str (Str.ofString "None") 50), .none⟩, ⟨(PyData.keyHash P (Str.ofString "Ellipsis")), (.str (Str.ofString "Ellipsis") 51), .ellipsis⟩, ⟨(PyData.keyHash P (Str.ofString "NotImplemented")), (.str (Str.ofString "NotImplemented") 52), .notImplemented⟩, ⟨(PyData.keyHash P (Str.ofString "False")), (.str (Str.ofString "False") 53), (.bool false)⟩, ⟨(PyData.keyHash P (Str.ofString "True")), (.str (Str.ofString "True") 54), (.bool true)⟩, ⟨(PyData.keyHash P (Str.ofString "bool")), (.str (Str.ofString "bool") 55), (.type "bool")⟩, ⟨(PyData.keyHash P (Str.ofString "memoryview")), (.str (Str.ofString "memoryview") 56), (.type "memoryview")⟩, ⟨(PyData.keyHash P (Str.ofString "bytearray")), (.str (Str.ofString "bytearray") 57), (.type "bytearray")⟩, ⟨(PyData.keyHash P (Str.ofString "bytes")), (.str (Str.ofString "bytes") 58), (.type "bytes")⟩, ⟨(PyData.keyHash P (Str.ofString "classmethod")), (.str (Str.ofString "classmethod") 59), (.type "classmethod")⟩, ⟨(PyData.keyHash P (Str.ofString "complex")), (.str (Str.ofString "complex") 60), (.type "complex")⟩, ⟨(PyData.keyHash P (Str.ofString "dict")), (.str (Str.ofString "dict") 61), (.type "dict")⟩, ⟨(PyData.keyHash P (Str.ofString "enumerate")), (.str (Str.ofString "enumerate") 62), (.type "enumerate")⟩, ⟨(PyData.keyHash P (Str.ofString "filter")), (.str (Str.ofString "filter") 63), (.type "filter")⟩, ⟨(PyData.keyHash P (Str.ofString "float")), (.str (Str.ofString "float") 64), (.type "float")⟩, ⟨(PyData.keyHash P (Str.ofString "frozenset")), (.str (Str.ofString "frozenset") 65), (.type "frozenset")⟩, ⟨(PyData.keyHash P (Str.ofString "property")), (.str (Str.ofString "property") 66), (.type "property")⟩, ⟨(PyData.keyHash P (Str.ofString "int")), (.str (Str.ofString "int") 67), (.type "int")⟩, ⟨(PyData.keyHash P (Str.ofString "list")), (.str (Str.ofString "list") 68), (.type "list")⟩, ⟨(PyData.keyHash P (Str.ofString "map")), (.str (Str.ofString "map") 69), (.type "map")⟩, ⟨(PyData.keyHash P (Str.ofString "object")), (.str (Str.ofString "object") 70), (.type "object")⟩, ⟨(PyData.keyHash P (Str.ofString "range")), (.str (Str.ofString "range") 71), (.type "range")⟩, ⟨(PyData.keyHash P (Str.ofString "reversed")), (.str (Str.ofString "reversed") 72), (.type "reversed")⟩, ⟨(PyData.keyHash P (Str.ofString "set")), (.str (Str.ofString "set") 73), (.type "set")⟩, ⟨(PyData.keyHash P (Str.ofString "slice")), (.str (Str.ofString "slice") 74), (.type "slice")⟩, ⟨(PyData.keyHash P (Str.ofString "staticmethod")), (.str (Str.ofString "staticmethod") 75), (.type "staticmethod")⟩, ⟨(PyData.keyHash P (Str.ofString "str")), (.str (Str.ofString "str") 76), (.type "str")⟩, ⟨(PyData.keyHash P (Str.ofString "super")), (.str (Str.ofString "super") 77), (.type "super")⟩, ⟨(PyData.keyHash P (Str.ofString "tuple")), (.str (Str.ofString "tuple") 78), (.type "tuple")⟩, ⟨(PyData.keyHash P (Str.ofString "type")), (.str (Str.ofString "type") 79), (.type "type")⟩, ⟨(PyData.keyHash P (Str.ofString "zip")), (.str (Str.ofString "zip") 80), (.type "zip")⟩, ⟨(PyData.keyHash P (Str.ofString "__debug__")), (.str (Str.ofString "__debug__") 81), (.bool true)⟩, ⟨(PyData.keyHash P (Str.ofString "BaseException")), (.str (Str.ofString "BaseException") 82), (.type "BaseException")⟩, ⟨(PyData.keyHash P (Str.ofString "BaseExceptionGroup")), (.str (Str.ofString "BaseExceptionGroup") 83), (.type "BaseExceptionGroup")⟩, ⟨(PyData.keyHash P (Str.ofString "Exception")), (.str (Str.ofString "Exception") 84), (.type "Exception")⟩, ⟨(PyData.keyHash P (Str.ofString "GeneratorExit")), (.str (Str.ofString "GeneratorExit") 85), (.type "GeneratorExit")⟩, ⟨(PyData.keyHash P (Str.ofString "KeyboardInterrupt")), (.str (Str.ofString "KeyboardInterrupt") 86), (.type "KeyboardInterrupt")⟩, ⟨(PyData.keyHash P (Str.ofString "SystemExit")), (.str (Str.ofString "SystemExit") 87), (.type "SystemExit")⟩, ⟨(PyData.keyHash P (Str.ofString "ArithmeticError")), (.str (Str.ofString "ArithmeticError") 88), (.type "ArithmeticError")⟩, ⟨(PyData.keyHash P (Str.ofString "AssertionError")), (.str (Str.ofString "AssertionError") 89), (.type "AssertionError")⟩, ⟨(PyData.keyHash P (Str.ofString "AttributeError")), (.str (Str.ofString "AttributeError") 90), (.type "AttributeError")⟩, ⟨(PyData.keyHash P (Str.ofString "BufferError")), (.str (Str.ofString "BufferError") 91), (.type "BufferError")⟩, ⟨(PyData.keyHash P (Str.ofString "EOFError")), (.str (Str.ofString "EOFError") 92), (.type "EOFError")⟩, ⟨(PyData.keyHash P (Str.ofString "ImportError")), (.str (Str.ofString "ImportError") 93), (.type "ImportError")⟩, ⟨(PyData.keyHash P (Str.ofString "LookupError")), (.str (Str.ofString "LookupError") 94), (.type "LookupError")⟩, ⟨(PyData.keyHash P (Str.ofString "MemoryError")), (.str (Str.ofString "MemoryError") 95), (.type "MemoryError")⟩, ⟨(PyData.keyHash P (Str.ofString "NameError")), (.str (Str.ofString "NameError") 96), (.type "NameError")⟩, ⟨(PyData.keyHash P (Str.ofString "OSError")), (.str (Str.ofString "OSError") 97), (.type "OSError")⟩, ⟨(PyData.keyHash P (Str.ofString "ReferenceError")), (.str (Str.ofString "ReferenceError") 98), (.type "ReferenceError")⟩, ⟨(PyData.keyHash P (Str.ofString "RuntimeError")), (.str (Str.ofString "RuntimeError") 99), (.type "RuntimeError")⟩, ⟨(PyData.keyHash P (Str.ofString "StopAsyncIteration")), (.str (Str.ofString "StopAsyncIteration") 100), (.type "StopAsyncIteration")⟩, ⟨(PyData.keyHash P (Str.ofString "StopIteration")), (.str (Str.ofString "StopIteration") 101), (.type "StopIteration")⟩, ⟨(PyData.keyHash P (Str.ofString "SyntaxError")), (.str (Str.ofString "SyntaxError") 102), (.type "SyntaxError")⟩, ⟨(PyData.keyHash P (Str.ofString "SystemError")), (.str (Str.ofString "SystemError") 103), (.type "SystemError")⟩, ⟨(PyData.keyHash P (Str.ofString "TypeError")), (.str (Str.ofString "TypeError") 104), (.type "TypeError")⟩, ⟨(PyData.keyHash P (Str.ofString "ValueError")), (.str (Str.ofString "ValueError") 105), (.type "ValueError")⟩, ⟨(PyData.keyHash P (Str.ofString "Warning")), (.str (Str.ofString "Warning") 106), (.type "Warning")⟩, ⟨(PyData.keyHash P (Str.ofString "FloatingPointError")), (.str (Str.ofString "FloatingPointError") 107), (.type "FloatingPointError")⟩, ⟨(PyData.keyHash P (Str.ofString "OverflowError")), (.str (Str.ofString "OverflowError") 108), (.type "OverflowError")⟩, ⟨(PyData.keyHash P (Str.ofString "ZeroDivisionError")), (.str (Str.ofString "ZeroDivisionError") 109), (.type "ZeroDivisionError")⟩, ⟨(PyData.keyHash P (Str.ofString "BytesWarning")), (.str (Str.ofString "BytesWarning") 110), (.type "BytesWarning")⟩, ⟨(PyData.keyHash P (Str.ofString "DeprecationWarning")), (.str (Str.ofString "DeprecationWarning") 111), (.type "DeprecationWarning")⟩, ⟨(PyData.keyHash P (Str.ofString "EncodingWarning")), (.str (Str.ofString "EncodingWarning") 112), (.type "EncodingWarning")⟩, ⟨(PyData.keyHash P (Str.ofString "FutureWarning")), (.str (Str.ofString "FutureWarning") 113), (.type "FutureWarning")⟩, ⟨(PyData.keyHash P (Str.ofString "ImportWarning")), (.str (Str.ofString "ImportWarning") 114), (.type "ImportWarning")⟩, ⟨(PyData.keyHash P (Str.ofString "PendingDeprecationWarning")), (.str (Str.ofString "PendingDeprecationWarning") 115), (.type "PendingDeprecationWarning")⟩, ⟨(PyData.keyHash P (Str.ofString "ResourceWarning")), (.str (Str.ofString "ResourceWarning") 116), (.type "ResourceWarning")⟩, ⟨(PyData.keyHash P (Str.ofString "RuntimeWarning")), (.str (Str.ofString "RuntimeWarning") 117), (.type "RuntimeWarning")⟩, ⟨(PyData.keyHash P (Str.ofString "SyntaxWarning")), (.str (Str.ofString "SyntaxWarning") 118), (.type "SyntaxWarning")⟩, ⟨(PyData.keyHash P (Str.ofString "UnicodeWarning")), (.str (Str.ofString "UnicodeWarning") 119), (.type "UnicodeWarning")⟩, ⟨(PyData.keyHash P (Str.ofString "UserWarning")), (.str (Str.ofString "UserWarning") 120), (.type "UserWarning")⟩, ⟨(PyData.keyHash P (Str.ofString "BlockingIOError")), (.str (Str.ofString "BlockingIOError") 121), (.type "BlockingIOError")⟩, ⟨(PyData.keyHash P (Str.ofString "ChildProcessError")), (.str (Str.ofString "ChildProcessError") 122), (.type "ChildProcessError")⟩, ⟨(PyData.keyHash P (Str.ofString "ConnectionError")), (.str (Str.ofString "ConnectionError") 123), (.type "ConnectionError")⟩, ⟨(PyData.keyHash P (Str.ofString "FileExistsError")), (.str (Str.ofString "FileExistsError") 124), (.type "FileExistsError")⟩, ⟨(PyData.keyHash P (Str.ofString "FileNotFoundError")), (.str (Str.ofString "FileNotFoundError") 125), (.type "FileNotFoundError")⟩, ⟨(PyData.keyHash P (Str.ofString "InterruptedError")), (.str (Str.ofString "InterruptedError") 126), (.type "InterruptedError")⟩, ⟨(PyData.keyHash P (Str.ofString "IsADirectoryError")), (.str (Str.ofString "IsADirectoryError") 127), (.type "IsADirectoryError")⟩, ⟨(PyData.keyHash P (Str.ofString "NotADirectoryError")), (.str (Str.ofString "NotADirectoryError") 128), (.type "NotADirectoryError")⟩, ⟨(PyData.keyHash P (Str.ofString "PermissionError")), (.str (Str.ofString "PermissionError") 129), (.type "PermissionError")⟩, ⟨(PyData.keyHash P (Str.ofString "ProcessLookupError")), (.str (Str.ofString "ProcessLookupError") 130), (.type "ProcessLookupError")⟩, ⟨(PyData.keyHash P (Str.ofString "TimeoutError")), (.str (Str.ofString "TimeoutError") 131), (.type "TimeoutError")⟩, ⟨(PyData.keyHash P (Str.ofString "IndentationError")), (.str (Str.ofString "IndentationError") 132), (.type "IndentationError")⟩, ⟨(PyData.keyHash P (Str.ofString "_IncompleteInputError")), (.str (Str.ofString "_IncompleteInputError") 133), (.type "_IncompleteInputError")⟩, ⟨(PyData.keyHash P (Str.ofString "IndexError")), (.str (Str.ofString "IndexError") 134), (.type "IndexError")⟩, ⟨(PyData.keyHash P (Str.ofString "KeyError")), (.str (Str.ofString "KeyError") 135), (.type "KeyError")⟩, ⟨(PyData.keyHash P (Str.ofString "ModuleNotFoundError")), (.str (Str.ofString "ModuleNotFoundError") 136), (.type "ModuleNotFoundError")⟩, ⟨(PyData.keyHash P (Str.ofString "NotImplementedError")), (.str (Str.ofString "NotImplementedError") 137), (.type "NotImplementedError")⟩, ⟨(PyData.keyHash P (Str.ofString "PythonFinalizationError")), (.str (Str.ofString "PythonFinalizationError") 138), (.type "PythonFinalizationError")⟩, ⟨(PyData.keyHash P (Str.ofString "RecursionError")), (.str (Str.ofString "RecursionError") 139), (.type "RecursionError")⟩, ⟨(PyData.keyHash P (Str.ofString "UnboundLocalError")), (.str (Str.ofString "UnboundLocalError") 140), (.type "UnboundLocalError")⟩, ⟨(PyData.keyHash P (Str.ofString "UnicodeError")), (.str (Str.ofString "UnicodeError") 141), (.type "UnicodeError")⟩, ⟨(PyData.keyHash P (Str.ofString "BrokenPipeError")), (.str (Str.ofString "BrokenPipeError") 142), (.type "BrokenPipeError")⟩, ⟨(PyData.keyHash P (Str.ofString "ConnectionAbortedError")), (.str (Str.ofString "ConnectionAbortedError") 143), (.type "ConnectionAbortedError")⟩, ⟨(PyData.keyHash P (Str.ofString "ConnectionRefusedError")), (.str (Str.ofString "ConnectionRefusedError") 144), (.type "ConnectionRefusedError")⟩, ⟨(PyData.keyHash P (Str.ofString "ConnectionResetError")), (.str (Str.ofString "ConnectionResetError") 145), (.type "ConnectionResetError")⟩, ⟨(PyData.keyHash P (Str.ofString "TabError")), (.str (Str.ofString "TabError") 146), (.type "TabError")⟩, ⟨(PyData.keyHash P (Str.ofString "UnicodeDecodeError")), (.str (Str.ofString "UnicodeDecodeError") 147), (.type "UnicodeDecodeError")⟩, ⟨(PyData.keyHash P (Str.ofString "UnicodeEncodeError")), (.str (Str.ofString "UnicodeEncodeError") 148), (.type "UnicodeEncodeError")⟩, ⟨(PyData.keyHash P (Str.ofString "UnicodeTranslateError")), (.str (Str.ofString "UnicodeTranslateError") 149), (.type "UnicodeTranslateError")⟩, ⟨(PyData.keyHash P (Str.ofString "ExceptionGroup")), (.str (Str.ofString "ExceptionGroup") 150), (.type "ExceptionGroup")⟩, ⟨(PyData.keyHash P (Str.ofString "EnvironmentError")), (.str (Str.ofString "EnvironmentError") 151), (.type "OSError")⟩, ⟨(PyData.keyHash P (Str.ofString "IOError")), (.str (Str.ofString "IOError") 152), (.type "OSError")⟩, ⟨(PyData.keyHash P (Str.ofString "open")), (.str (Str.ofString "open") 153), (.builtin "open")⟩, ⟨(PyData.keyHash P (Str.ofString "quit")), (.str (Str.ofString "quit") 154), (.builtin "builtins.quit#opaque")⟩, ⟨(PyData.keyHash P (Str.ofString "exit")), (.str (Str.ofString "exit") 155), (.builtin "builtins.exit#opaque")⟩, ⟨(PyData.keyHash P (Str.ofString "copyright")), (.str (Str.ofString "copyright") 156), (.builtin "builtins.copyright#opaque")⟩, ⟨(PyData.keyHash P (Str.ofString "credits")), (.str (Str.ofString "credits") 157), (.builtin "builtins.credits#opaque")⟩, ⟨(PyData.keyHash P (Str.ofString "license")), (.str (Str.ofString "license") 158), (.builtin "builtins.license#opaque")⟩, ⟨(PyData.keyHash P (Str.ofString "help")), (.str (Str.ofString "help") 159), (.builtin "builtins.help#opaque")⟩]) 159, #[]⟩
@[reducible] noncomputable def o1 (P : Params) : Obj := ⟨(.type "dict"), .none, .dict (List.toArray [⟨(PyData.keyHash P (Str.ofString "builtins")), (.str (Str.ofString "builtins") 162), (.ref 4)⟩, ⟨(PyData.keyHash P (Str.ofString "__main__")), (.str (Str.ofString "__main__") 163), (.ref 5)⟩, ⟨(PyData.keyHash P (Str.ofString "_sre")), (.str (Str.ofString "_sre") 244), (.ref 12)⟩]) 3, #[]⟩
@[reducible] noncomputable def o2 (P : Params) : Obj := ⟨.none, .none, .dict (List.toArray [⟨(PyData.keyHash P (Str.ofString "\x69mport.loaded._sre")), (.str (Str.ofString "\x69mport.loaded._sre") 183), (.bool true)⟩, ⟨(PyData.keyHash P (Str.ofString "class._frozen_importlib.BuiltinImporter")), (.str (Str.ofString "class._frozen_importlib.BuiltinImporter") 185), (.ref 14)⟩, ⟨(PyData.keyHash P (Str.ofString "watched.\x69mport")), (.str (Str.ofString "watched.\x69mport") 206), (.ref 18)⟩, ⟨(PyData.keyHash P (Str.ofString "class._frozen_importlib.ModuleSpec")), (.str (Str.ofString "class._frozen_importlib.ModuleSpec") 216), (.ref 22)⟩, ⟨(PyData.keyHash P (Str.ofString "sys.modules.booked-epoch")), (.str (Str.ofString "sys.modules.booked-epoch") 245), (.int 3 0)⟩, ⟨(PyData.keyHash P (Str.ofString "\x69mport.later-laid._sre")), (.str (Str.ofString "\x69mport.later-laid._sre") 270), (.bool true)⟩, ⟨(PyData.keyHash P (Str.ofString "watched.library")), (.str (Str.ofString "watched.library") 272), (.ref 27)⟩, ⟨(PyData.keyHash P (Str.ofString "watched.library-objects")), (.str (Str.ofString "watched.library-objects") 0), (.str (Str.mk #[12]) 0)⟩, ⟨(PyData.keyHash P (Str.ofString "watched.library-deep._sre")), (.str (Str.ofString "watched.library-deep._sre") 273), (.str (Str.mk #[4, 0, 0, 11, 4, 0, 0, 11, 4, 0, 0, 3, 4, 0, 0, 11, 8, 4, 100, 105, 99, 116, 2]) 0)⟩]) 9, #[]⟩
@[reducible] noncomputable def o3 (P : Params) : Obj := ⟨(.type "dict"), .none, .dict (List.toArray [⟨(PyData.keyHash P (Str.ofString "__name__")), (.str (Str.ofString "__name__") 165), (.str (Str.ofString "law_wc0029_01") 2679)⟩, ⟨(PyData.keyHash P (Str.ofString "__doc__")), (.str (Str.ofString "__doc__") 166), .none⟩, ⟨(PyData.keyHash P (Str.ofString "__package__")), (.str (Str.ofString "__package__") 167), .none⟩, ⟨(PyData.keyHash P (Str.ofString "__loader__")), (.str (Str.ofString "__loader__") 168), (.builtin "__main__.__loader__#opaque")⟩, ⟨(PyData.keyHash P (Str.ofString "__spec__")), (.str (Str.ofString "__spec__") 169), .none⟩, ⟨(PyData.keyHash P (Str.ofString "__annotations__")), (.str (Str.ofString "__annotations__") 170), (.ref 6)⟩, ⟨(PyData.keyHash P (Str.ofString "__builtins__")), (.str (Str.ofString "__builtins__") 171), (.ref 4)⟩, ⟨(PyData.keyHash P (Str.ofString "__file__")), (.str (Str.ofString "__file__") 173), (.str (Str.ofString "/claim/cut.py") 172)⟩, ⟨(PyData.keyHash P (Str.ofString "__cached__")), (.str (Str.ofString "__cached__") 174), .none⟩, ⟨(PyData.keyHash P (Str.ofString "_sre")), (.str (Str.ofString "_sre") 275), (.ref 12)⟩, ⟨(PyData.keyHash P (Str.ofString "_wall")), (.str (Str.ofString "_wall") 288), (.ref 38)⟩, ⟨(PyData.keyHash P (Str.ofString "EMPTYSTRING")), (.str (Str.ofString "EMPTYSTRING") 292), (.str (Str.ofString "") 291)⟩, ⟨(PyData.keyHash P (Str.ofString "_Accumulator")), (.str (Str.ofString "_Accumulator") 387), (.ref 117)⟩, ⟨(PyData.keyHash P (Str.ofString "b1_set")), (.str (Str.ofString "b1_set") 449), (.ref 129)⟩, ⟨(PyData.keyHash P (Str.ofString "in_table_b1")), (.str (Str.ofString "in_table_b1") 456), (.ref 139)⟩, ⟨(PyData.keyHash P (Str.ofString "b3_exceptions")), (.str (Str.ofString "b3_exceptions") 2407), (.ref 140)⟩, ⟨(PyData.keyHash P (Str.ofString "map_table_b3")), (.str (Str.ofString "map_table_b3") 2415), (.ref 185)⟩, ⟨(PyData.keyHash P (Str.ofString "tspecials")), (.str (Str.ofString "tspecials") 2451), (.ref 190)⟩, ⟨(PyData.keyHash P (Str.ofString "_name_disallowed_re")), (.str (Str.ofString "_name_disallowed_re") 2477), (.ref 195)⟩, ⟨(PyData.keyHash P (Str.ofString "_value_disallowed_re")), (.str (Str.ofString "_value_disallowed_re") 2511), (.ref 200)⟩, ⟨(PyData.keyHash P (Str.ofString "_formatparam")), (.str (Str.ofString "_formatparam") 2521), (.ref 208)⟩, ⟨(PyData.keyHash P (Str.ofString "Headers")), (.str (Str.ofString "Headers") 2678), (.ref 329)⟩, ⟨(PyData.keyHash P (Str.ofString "_law_word")), (.str (Str.ofString "_law_word") 2686), (.ref 338)⟩, ⟨(PyData.keyHash P (Str.ofString "_law_code")), (.str (Str.ofString "_law_code") 2692), (.ref 343)⟩, ⟨(PyData.keyHash P (Str.ofString "_law_sent")), (.str (Str.ofString "_law_sent") 2698), (.ref 348)⟩, ⟨(PyData.keyHash P (Str.ofString "law")), (.str (Str.ofString "law") 2704), (.ref 353)⟩]) 26, #[]⟩
@[reducible] noncomputable def o4 (P : Params) : Obj := ⟨(.type "module"), (.some 0), .plain, #[]⟩
@[reducible] noncomputable def o5 (P : Params) : Obj := ⟨(.type "module"), (.some 3), .plain, #[]⟩
@[reducible] noncomputable def o6 (P : Params) : Obj := ⟨(.type "dict"), .none, .dict (List.toArray []) 0, #[]⟩
@[reducible] noncomputable def o7 (P : Params) : Obj := ⟨(.type "tuple"), .none, .seq #[] 0, #[]⟩
@[reducible] noncomputable def o8 (P : Params) : Obj := ⟨.none, .none, .fields #[], #[]⟩
@[reducible] noncomputable def o9 (P : Params) : Obj := ⟨(.type "code"), .none, .fields #[(.str (Str.ofString "<module>") 176), (.str (Str.ofString "<module>") 177), (.str (Str.ofString "/claim/cut.py") 178), (.int 1 0), (.int 0 0), (.int 0 0), (.int 0 0), (.int 0 0), (.ref 7), (.bool false), (.int 175 0), (.ref 8), .none, .none, .none, .none, (.int 179 0), (.int 1 0), (.str (Str.ofString "/claim/cut.py") 180)], #[]⟩
@[reducible] noncomputable def o10 (P : Params) : Obj := ⟨(.type "frame"), .none, .plain, #[(.some (.ref 9)), (.some (.ref 3)), (.some (.ref 3)), .none, (.some (.str (Str.ofString "__main__") 164)), .none, (.some (.ref 0))]⟩
@[reducible] noncomputable def o11 (P : Params) : Obj := ⟨(.type "dict"), .none, .dict (List.toArray [⟨(PyData.keyHash P (Str.ofString "__name__")), (.str (Str.ofString "__name__") 247), (.str (Str.ofString "_sre") 246)⟩, ⟨(PyData.keyHash P (Str.ofString "__doc__")), (.str (Str.ofString "__doc__") 248), .none⟩, ⟨(PyData.keyHash P (Str.ofString "__package__")), (.str (Str.ofString "__package__") 250), (.str (Str.ofString "") 249)⟩, ⟨(PyData.keyHash P (Str.ofString "__loader__")), (.str (Str.ofString "__loader__") 251), (.builtin "off-the-table:_sre.__loader__:shared#opaque")⟩, ⟨(PyData.keyHash P (Str.ofString "__spec__")), (.str (Str.ofString "__spec__") 252), (.builtin "off-the-table:_sre.__spec__:shared#opaque")⟩, ⟨(PyData.keyHash P (Str.ofString "compile")), (.str (Str.ofString "compile") 253), (.builtin "_sre.compile")⟩, ⟨(PyData.keyHash P (Str.ofString "template")), (.str (Str.ofString "template") 254), (.builtin "off-the-table:_sre.template:shared#opaque")⟩, ⟨(PyData.keyHash P (Str.ofString "getcodesize")), (.str (Str.ofString "getcodesize") 255), (.builtin "off-the-table:_sre.getcodesize:shared#opaque")⟩, ⟨(PyData.keyHash P (Str.ofString "ascii_iscased")), (.str (Str.ofString "ascii_iscased") 256), (.builtin "off-the-table:_sre.ascii_iscased:shared#opaque")⟩, ⟨(PyData.keyHash P (Str.ofString "unicode_iscased")), (.str (Str.ofString "unicode_iscased") 257), (.builtin "off-the-table:_sre.unicode_iscased:shared#opaque")⟩, ⟨(PyData.keyHash P (Str.ofString "ascii_tolower")), (.str (Str.ofString "ascii_tolower") 258), (.builtin "off-the-table:_sre.ascii_tolower:shared#opaque")⟩, ⟨(PyData.keyHash P (Str.ofString "unicode_tolower")), (.str (Str.ofString "unicode_tolower") 259), (.builtin "off-the-table:_sre.unicode_tolower:shared#opaque")⟩, ⟨(PyData.keyHash P (Str.ofString "MAGIC")), (.str (Str.ofString "MAGIC") 261), (.int 20230612 260)⟩, ⟨(PyData.keyHash P (Str.ofString "CODESIZE")), (.str (Str.ofString "CODESIZE") 263), (.int 4 262)⟩, ⟨(PyData.keyHash P (Str.ofString "MAXREPEAT")), (.str (Str.ofString "MAXREPEAT") 265), (.int 4294967295 264)⟩, ⟨(PyData.keyHash P (Str.ofString "MAXGROUPS")), (.str (Str.ofString "MAXGROUPS") 267), (.int 1073741823 266)⟩, ⟨(PyData.keyHash P (Str.ofString "copyright")), (.str (Str.ofString "copyright") 269), (.str (Str.ofString " SRE 2.2.2 Copyright (c) 1997-2002 by Secret Labs AB ") 268)⟩]) 17, #[]⟩
@[reducible] noncomputable def o12 (P : Params) : Obj := ⟨(.type "module"), (.some 11), .plain, #[]⟩
@[reducible] noncomputable def o13 (P : Params) : Obj := ⟨(.type "dict"), .none, .dict (List.toArray [⟨(PyData.keyHash P (Str.ofString "__module__")), (.str (Str.ofString "__module__") 189), (.str (Str.ofString "_frozen_importlib") 186)⟩, ⟨(PyData.keyHash P (Str.ofString "__firstlineno__")), (.str (Str.ofString "__firstlineno__") 190), (.int 971 187)⟩, ⟨(PyData.keyHash P (Str.ofString "__doc__")), (.str (Str.ofString "__doc__") 191), (.builtin "_frozen_importlib.BuiltinImporter.__doc__:str#opaque")⟩, ⟨(PyData.keyHash P (Str.ofString "_ORIGIN")), (.str (Str.ofString "_ORIGIN") 192), (.str (Str.ofString "built-in") 188)⟩, ⟨(PyData.keyHash P (Str.ofString "find_spec")), (.str (Str.ofString "find_spec") 193), (.builtin "_frozen_importlib.BuiltinImporter.find_spec#opaque")⟩, ⟨(PyData.keyHash P (Str.ofString "create_module")), (.str (Str.ofString "create_module") 194), (.builtin "_frozen_importlib.BuiltinImporter.create_module#opaque")⟩, ⟨(PyData.keyHash P (Str.ofString "exec_module")), (.str (Str.ofString "exec_module") 195), (.builtin "_frozen_importlib.BuiltinImporter.exec_module#opaque")⟩, ⟨(PyData.keyHash P (Str.ofString "get_code")), (.str (Str.ofString "get_code") 196), (.builtin "_frozen_importlib.BuiltinImporter.get_code#opaque")⟩, ⟨(PyData.keyHash P (Str.ofString "get_source")), (.str (Str.ofString "get_source") 197), (.builtin "_frozen_importlib.BuiltinImporter.get_source#opaque")⟩, ⟨(PyData.keyHash P (Str.ofString "is_package")), (.str (Str.ofString "is_package") 198), (.builtin "_frozen_importlib.BuiltinImporter.is_package#opaque")⟩, ⟨(PyData.keyHash P (Str.ofString "load_module")), (.str (Str.ofString "load_module") 199), (.builtin "_frozen_importlib.BuiltinImporter.load_module#opaque")⟩, ⟨(PyData.keyHash P (Str.ofString "__static_attributes__")), (.str (Str.ofString "__static_attributes__") 200), (.ref 15)⟩, ⟨(PyData.keyHash P (Str.ofString "__dict__")), (.str (Str.ofString "__dict__") 202), (.ref 16)⟩, ⟨(PyData.keyHash P (Str.ofString "__weakref__")), (.str (Str.ofString "__weakref__") 204), (.ref 17)⟩]) 14, #[]⟩
@[reducible] noncomputable def o14 (P : Params) : Obj := ⟨(.type "type"), .none, .cls { name := (Str.ofString "BuiltinImporter"), bases := [(.type "object")], mro := [(.ref 14), (.type "object")], ns := 13, qualname := (Str.ofString "BuiltinImporter"), hasDict := true, slotNames := [], subclasses := [], abstract := false, collection := .none, hasDel := false }, #[]⟩
@[reducible] noncomputable def o15 (P : Params) : Obj := ⟨(.type "tuple"), .none, .seq #[] 0, #[]⟩
@[reducible] noncomputable def o16 (P : Params) : Obj := ⟨(.type "getset_descriptor"), .none, .fields #[(.str (Str.ofString "__dict__") 201), (.ref 14), (.builtin "function.__dict__"), (.builtin "function.__dict__#set")], #[]⟩
@[reducible] noncomputable def o17 (P : Params) : Obj := ⟨(.type "getset_descriptor"), .none, .fields #[(.str (Str.ofString "__weakref__") 203), (.ref 14), (.builtin "ExceptionGroup.__weakref__"), .none], #[]⟩
@[reducible] noncomputable def o18 (P : Params) : Obj := ⟨.none, .none, .seq #[(.int 13 0), (.str (Str.mk #[6, 189, 10, 95, 95, 109, 111, 100, 117, 108, 101, 95, 95, 6, 186, 17, 95, 102, 114, 111, 122, 101, 110, 95, 105, 109, 112, 111, 114, 116, 108, 105, 98, 6, 190, 15, 95, 95, 102, 105, 114, 115, 116, 108, 105, 110, 101, 110, 111, 95, 95, 4, 187, 0, 971, 6, 191, 7, 95, 95, 100, 111, 99, 95, 95, 9, 52, 95, 102, 114, 111, 122, 101, 110, 95, 105, 109, 112, 111, 114, 116, 108, 105, 98, 46, 66, 117, 105, 108, 116, 105, 110, 73, 109, 112, 111, 114, 116, 101, 114, 46, 95, 95, 100, 111, 99, 95, 95, 58, 115, 116, 114, 35, 111, 112, 97, 113, 117, 101, 6, 192, 7, 95, 79, 82, 73, 71, 73, 78, 6, 188, 8, 98, 117, 105, 108, 116, 45, 105, 110, 6, 193, 9, 102, 105, 110, 100, 95, 115, 112, 101, 99, 9, 50, 95, 102, 114, 111, 122, 101, 110, 95, 105, 109, 112, 111, 114, 116, 108, 105, 98, 46, 66, 117, 105, 108, 116, 105, 110, 73, 109, 112, 111, 114, 116, 101, 114, 46, 102, 105, 110, 100, 95, 115, 112, 101, 99, 35, 111, 112, 97, 113, 117, 101, 6, 194, 13, 99, 114, 101, 97, 116, 101, 95, 109, 111, 100, 117, 108, 101, 9, 54, 95, 102, 114, 111, 122, 101, 110, 95, 105, 109, 112, 111, 114, 116, 108, 105, 98, 46, 66, 117, 105, 108, 116, 105, 110, 73, 109, 112, 111, 114, 116, 101, 114, 46, 99, 114, 101, 97, 116, 101, 95, 109, 111, 100, 117, 108, 101, 35, 111, 112, 97, 113, 117, 101, 6, 195, 11, 101, 120, 101, 99, 95, 109, 111, 100, 117, 108, 101, 9, 52, 95, 102, 114, 111, 122, 101, 110, 95, 105, 109, 112, 111, 114, 116, 108, 105, 98, 46, 66, 117, 105, 108, 116, 105, 110, 73, 109, 112, 111, 114, 116, 101, 114, 46, 101, 120, 101, 99, 95, 109, 111, 100, 117, 108, 101, 35, 111, 112, 97, 113, 117, 101, 6, 196, 8, 103, 101, 116, 95, 99, 111, 100, 101, 9, 49, 95, 102, 114, 111, 122, 101, 110, 95, 105, 109, 112, 111, 114, 116, 108, 105, 98, 46, 66, 117, 105, 108, 116, 105, 110, 73, 109, 112, 111, 114, 116, 101, 114, 46, 103, 101, 116, 95, 99, 111, 100, 101, 35, 111, 112, 97, 113, 117, 101, 6, 197, 10, 103, 101, 116, 95, 115, 111, 117, 114, 99, 101, 9, 51, 95, 102, 114, 111, 122, 101, 110, 95, 105, 109, 112, 111, 114, 116, 108, 105, 98, 46, 66, 117, 105, 108, 116, 105, 110, 73, 109, 112, 111, 114, 116, 101, 114, 46, 103, 101, 116, 95, 115, 111, 117, 114, 99, 101, 35, 111, 112, 97, 113, 117, 101, 6, 198, 10, 105, 115, 95, 112, 97, 99, 107, 97, 103, 101, 9, 51, 95, 102, 114, 111, 122, 101, 110, 95, 105, 109, 112, 111, 114, 116, 108, 105, 98, 46, 66, 117, 105, 108, 116, 105, 110, 73, 109, 112, 111, 114, 116, 101, 114, 46, 105, 115, 95, 112, 97, 99, 107, 97, 103, 101, 35, 111, 112, 97, 113, 117, 101, 6, 199, 11, 108, 111, 97, 100, 95, 109, 111, 100, 117, 108, 101, 9, 52, 95, 102, 114, 111, 122, 101, 110, 95, 105, 109, 112, 111, 114, 116, 108, 105, 98, 46, 66, 117, 105, 108, 116, 105, 110, 73, 109, 112, 111, 114, 116, 101, 114, 46, 108, 111, 97, 100, 95, 109, 111, 100, 117, 108, 101, 35, 111, 112, 97, 113, 117, 101, 6, 200, 21, 95, 95, 115, 116, 97, 116, 105, 99, 95, 97, 116, 116, 114, 105, 98, 117, 116, 101, 115, 95, 95, 4, 0, 0, 15, 6, 202, 8, 95, 95, 100, 105, 99, 116, 95, 95, 4, 0, 0, 16, 6, 204, 11, 95, 95, 119, 101, 97, 107, 114, 101, 102, 95, 95, 4, 0, 0, 17]) 0), (.bool true), (.bool true), (.str (Str.ofString "") 205), (.int 21 0), (.str (Str.mk #[6, 227, 10, 95, 95, 109, 111, 100, 117, 108, 101, 95, 95, 6, 217, 17, 95, 102, 114, 111, 122, 101, 110, 95, 105, 109, 112, 111, 114, 116, 108, 105, 98, 6, 228, 15, 95, 95, 102, 105, 114, 115, 116, 108, 105, 110, 101, 110, 111, 95, 95, 4, 218, 0, 562, 6, 229, 7, 95, 95, 100, 111, 99, 95, 95, 9, 47, 95, 102, 114, 111, 122, 101, 110, 95, 105, 109, 112, 111, 114, 116, 108, 105, 98, 46, 77, 111, 100, 117, 108, 101, 83, 112, 101, 99, 46, 95, 95, 100, 111, 99, 95, 95, 58, 115, 116, 114, 35, 111, 112, 97, 113, 117, 101, 6, 230, 8, 95, 95, 105, 110, 105, 116, 95, 95, 9, 44, 95, 102, 114, 111, 122, 101, 110, 95, 105, 109, 112, 111, 114, 116, 108, 105, 98, 46, 77, 111, 100, 117, 108, 101, 83, 112, 101, 99, 46, 95, 95, 105, 110, 105, 116, 95, 95, 35, 111, 112, 97, 113, 117, 101, 6, 231, 8, 95, 95, 114, 101, 112, 114, 95, 95, 9, 44, 95, 102, 114, 111, 122, 101, 110, 95, 105, 109, 112, 111, 114, 116, 108, 105, 98, 46, 77, 111, 100, 117, 108, 101, 83, 112, 101, 99, 46, 95, 95, 114, 101, 112, 114, 95, 95, 35, 111, 112, 97, 113, 117, 101, 6, 232, 6, 95, 95, 101, 113, 95, 95, 9, 42, 95, 102, 114, 111, 122, 101, 110, 95, 105, 109, 112, 111, 114, 116, 108, 105, 98, 46, 77, 111, 100, 117, 108, 101, 83, 112, 101, 99, 46, 95, 95, 101, 113, 95, 95, 35, 111, 112, 97, 113, 117, 101, 6, 233, 6, 99, 97, 99, 104, 101, 100, 9, 42, 95, 102, 114, 111, 122, 101, 110, 95, 105, 109, 112, 111, 114, 116, 108, 105, 98, 46, 77, 111, 100, 117, 108, 101, 83, 112, 101, 99, 46, 99, 97, 99, 104, 101, 100, 35, 111, 112, 97, 113, 117, 101, 6, 234, 6, 112, 97, 114, 101, 110, 116, 9, 42, 95, 102, 114, 111, 122, 101, 110, 95, 105, 109, 112, 111, 114, 116, 108, 105, 98, 46, 77, 111, 100, 117, 108, 101, 83, 112, 101, 99, 46, 112, 97, 114, 101, 110, 116, 35, 111, 112, 97, 113, 117, 101, 6, 235, 12, 104, 97, 115, 95, 108, 111, 99, 97, 116, 105, 111, 110, 9, 48, 95, 102, 114, 111, 122, 101, 110, 95, 105, 109, 112, 111, 114, 116, 108, 105, 98, 46, 77, 111, 100, 117, 108, 101, 83, 112, 101, 99, 46, 104, 97, 115, 95, 108, 111, 99, 97, 116, 105, 111, 110, 35, 111, 112, 97, 113, 117, 101, 6, 236, 21, 95, 95, 115, 116, 97, 116, 105, 99, 95, 97, 116, 116, 114, 105, 98, 117, 116, 101, 115, 95, 95, 4, 0, 0, 23, 6, 238, 8, 95, 95, 100, 105, 99, 116, 95, 95, 4, 0, 0, 24, 6, 240, 11, 95, 95, 119, 101, 97, 107, 114, 101, 102, 95, 95, 4, 0, 0, 25, 6, 241, 8, 95, 95, 104, 97, 115, 104, 95, 95, 0]) 0), (.bool true), (.bool true), (.str (Str.ofString "") 242)] 1, #[]⟩
@[reducible] noncomputable def o19 (P : Params) : Obj := ⟨(.type "list"), .none, .seq #[] 0, #[]⟩
@[reducible] noncomputable def o20 (P : Params) : Obj := ⟨(.type "dict"), .none, .dict (List.toArray [⟨(PyData.keyHash P (Str.ofString "name")), (.str (Str.ofString "name") 208), (.str (Str.ofString "_sre") 207)⟩, ⟨(PyData.keyHash P (Str.ofString "loader")), (.str (Str.ofString "loader") 209), (.ref 14)⟩, ⟨(PyData.keyHash P (Str.ofString "origin")), (.str (Str.ofString "origin") 210), (.str (Str.ofString "built-in") 184)⟩, ⟨(PyData.keyHash P (Str.ofString "loader_state")), (.str (Str.ofString "loader_state") 211), .none⟩, ⟨(PyData.keyHash P (Str.ofString "submodule_search_locations")), (.str (Str.ofString "submodule_search_locations") 212), .none⟩, ⟨(PyData.keyHash P (Str.ofString "_uninitialized_submodules")), (.str (Str.ofString "_uninitialized_submodules") 213), (.ref 19)⟩, ⟨(PyData.keyHash P (Str.ofString "_set_fileattr")), (.str (Str.ofString "_set_fileattr") 214), (.bool false)⟩, ⟨(PyData.keyHash P (Str.ofString "_cached")), (.str (Str.ofString "_cached") 215), .none⟩, ⟨(PyData.keyHash P (Str.ofString "_initializing")), (.str (Str.ofString "_initializing") 243), (.bool false)⟩]) 9, #[]⟩
@[reducible] noncomputable def o21 (P : Params) : Obj := ⟨(.type "dict"), .none, .dict (List.toArray [⟨(PyData.keyHash P (Str.ofString "__module__")), (.str (Str.ofString "__module__") 227), (.str (Str.ofString "_frozen_importlib") 217)⟩, ⟨(PyData.keyHash P (Str.ofString "__firstlineno__")), (.str (Str.ofString "__firstlineno__") 228), (.int 562 218)⟩, ⟨(PyData.keyHash P (Str.ofString "__doc__")), (.str (Str.ofString "__doc__") 229), (.builtin "_frozen_importlib.ModuleSpec.__doc__:str#opaque")⟩, ⟨(PyData.keyHash P (Str.ofString "__init__")), (.str (Str.ofString "__init__") 230), (.builtin "_frozen_importlib.ModuleSpec.__init__#opaque")⟩, ⟨(PyData.keyHash P (Str.ofString "__repr__")), (.str (Str.ofString "__repr__") 231), (.builtin "_frozen_importlib.ModuleSpec.__repr__#opaque")⟩, ⟨(PyData.keyHash P (Str.ofString "__eq__")), (.str (Str.ofString "__eq__") 232), (.builtin "_frozen_importlib.ModuleSpec.__eq__#opaque")⟩, ⟨(PyData.keyHash P (Str.ofString "cached")), (.str (Str.ofString "cached") 233), (.builtin "_frozen_importlib.ModuleSpec.cached#opaque")⟩, ⟨(PyData.keyHash P (Str.ofString "parent")), (.str (Str.ofString "parent") 234), (.builtin "_frozen_importlib.ModuleSpec.parent#opaque")⟩, ⟨(PyData.keyHash P (Str.ofString "has_location")), (.str (Str.ofString "has_location") 235), (.builtin "_frozen_importlib.ModuleSpec.has_location#opaque")⟩, ⟨(PyData.keyHash P (Str.ofString "__static_attributes__")), (.str (Str.ofString "__static_attributes__") 236), (.ref 23)⟩, ⟨(PyData.keyHash P (Str.ofString "__dict__")), (.str (Str.ofString "__dict__") 238), (.ref 24)⟩, ⟨(PyData.keyHash P (Str.ofString "__weakref__")), (.str (Str.ofString "__weakref__") 240), (.ref 25)⟩, ⟨(PyData.keyHash P (Str.ofString "__hash__")), (.str (Str.ofString "__hash__") 241), .none⟩]) 13, #[]⟩
@[reducible] noncomputable def o22 (P : Params) : Obj := ⟨(.type "type"), .none, .cls { name := (Str.ofString "ModuleSpec"), bases := [(.type "object")], mro := [(.ref 22), (.type "object")], ns := 21, qualname := (Str.ofString "ModuleSpec"), hasDict := true, slotNames := [], subclasses := [], abstract := false, collection := .none, hasDel := false }, #[]⟩
@[reducible] noncomputable def o23 (P : Params) : Obj := ⟨(.type "tuple"), .none, .seq #[(.str (Str.ofString "_cached") 219), (.str (Str.ofString "_set_fileattr") 220), (.str (Str.ofString "_uninitialized_submodules") 221), (.str (Str.ofString "loader") 222), (.str (Str.ofString "loader_state") 223), (.str (Str.ofString "name") 224), (.str (Str.ofString "origin") 225), (.str (Str.ofString "submodule_search_locations") 226)] 0, #[]⟩
@[reducible] noncomputable def o24 (P : Params) : Obj := ⟨(.type "getset_descriptor"), .none, .fields #[(.str (Str.ofString "__dict__") 237), (.ref 22), (.builtin "function.__dict__"), (.builtin "function.__dict__#set")], #[]⟩
@[reducible] noncomputable def o25 (P : Params) : Obj := ⟨(.type "getset_descriptor"), .none, .fields #[(.str (Str.ofString "__weakref__") 239), (.ref 22), (.builtin "ExceptionGroup.__weakref__"), .none], #[]⟩
@[reducible] noncomputable def o26 (P : Params) : Obj := ⟨(.ref 22), (.some 20), .plain, #[]⟩
@[reducible] noncomputable def o27 (P : Params) : Obj := ⟨.none, .none, .seq #[(.int 11 0), (.str (Str.mk #[6, 247, 8, 95, 95, 110, 97, 109, 101, 95, 95, 6, 246, 4, 95, 115, 114, 101, 6, 248, 7, 95, 95, 100, 111, 99, 95, 95, 0, 6, 250, 11, 95, 95, 112, 97, 99, 107, 97, 103, 101, 95, 95, 6, 249, 0, 6, 251, 10, 95, 95, 108, 111, 97, 100, 101, 114, 95, 95, 4, 0, 0, 14, 6, 252, 8, 95, 95, 115, 112, 101, 99, 95, 95, 4, 0, 0, 26, 6, 253, 7, 99, 111, 109, 112, 105, 108, 101, 9, 12, 95, 115, 114, 101, 46, 99, 111, 109, 112, 105, 108, 101, 6, 254, 8, 116, 101, 109, 112, 108, 97, 116, 101, 9, 13, 95, 115, 114, 101, 46, 116, 101, 109, 112, 108, 97, 116, 101, 6, 255, 11, 103, 101, 116, 99, 111, 100, 101, 115, 105, 122, 101, 9, 16, 95, 115, 114, 101, 46, 103, 101, 116, 99, 111, 100, 101, 115, 105, 122, 101, 6, 256, 13, 97, 115, 99, 105, 105, 95, 105, 115, 99, 97, 115, 101, 100, 9, 18, 95, 115, 114, 101, 46, 97, 115, 99, 105, 105, 95, 105, 115, 99, 97, 115, 101, 100, 6, 257, 15, 117, 110, 105, 99, 111, 100, 101, 95, 105, 115, 99, 97, 115, 101, 100, 9, 20, 95, 115, 114, 101, 46, 117, 110, 105, 99, 111, 100, 101, 95, 105, 115, 99, 97, 115, 101, 100, 6, 258, 13, 97, 115, 99, 105, 105, 95, 116, 111, 108, 111, 119, 101, 114, 9, 18, 95, 115, 114, 101, 46, 97, 115, 99, 105, 105, 95, 116, 111, 108, 111, 119, 101, 114, 6, 259, 15, 117, 110, 105, 99, 111, 100, 101, 95, 116, 111, 108, 111, 119, 101, 114, 9, 20, 95, 115, 114, 101, 46, 117, 110, 105, 99, 111, 100, 101, 95, 116, 111, 108, 111, 119, 101, 114, 6, 261, 5, 77, 65, 71, 73, 67, 4, 260, 0, 20230612, 6, 263, 8, 67, 79, 68, 69, 83, 73, 90, 69, 4, 262, 0, 4, 6, 265, 9, 77, 65, 88, 82, 69, 80, 69, 65, 84, 4, 264, 0, 4294967295, 6, 267, 9, 77, 65, 88, 71, 82, 79, 85, 80, 83, 4, 266, 0, 1073741823, 6, 269, 9, 99, 111, 112, 121, 114, 105, 103, 104, 116, 6, 268, 53, 32, 83, 82, 69, 32, 50, 46, 50, 46, 50, 32, 67, 111, 112, 121, 114, 105, 103, 104, 116, 32, 40, 99, 41, 32, 49, 57, 57, 55, 45, 50, 48, 48, 50, 32, 98, 121, 32, 83, 101, 99, 114, 101, 116, 32, 76, 97, 98, 115, 32, 65, 66, 32]) 0), (.bool true), (.bool false), (.str (Str.ofString "_sre") 271)] 0, #[]⟩
@[reducible] noncomputable def o28 (P : Params) : Obj := ⟨(.type "tuple"), .none, .seq #[] 0, #[]⟩
@[reducible] noncomputable def o29 (P : Params) : Obj := ⟨.none, .none, .fields #[(.int 2 0), (.int 0 0), (.ref 37), (.int 7 0), (.int 0 0), (.ref 45), (.int 40 0), (.int 0 0), (.ref 138), (.int 43 0), (.int 0 0), (.ref 184), (.int 52 0), (.int 0 0), (.ref 207), (.int 61 0), (.int 0 0), (.ref 214), (.int 144 0), (.int 0 0), (.ref 337), (.int 147 0), (.int 0 0), (.ref 342), (.int 159 0), (.int 0 0), (.ref 347), (.int 164 0), (.int 0 0), (.ref 352)], #[]⟩
@[reducible] noncomputable def o30 (P : Params) : Obj := ⟨(.type "code"), .none, .fields #[(.str (Str.ofString "<module>") 277), (.str (Str.ofString "<module>") 278), (.str (Str.ofString "/claim/cut.py") 279), (.int 1 0), (.int 0 0), (.int 0 0), (.int 0 0), (.int 0 0), (.ref 28), (.bool false), (.int 276 0), (.ref 29), .none, .none, .none, .none, (.int 280 0), (.int 1 0), (.str (Str.ofString "/claim/cut.py") 281)], #[]⟩
@[reducible] noncomputable def o31 (P : Params) : Obj := ⟨(.type "frame"), .none, .plain, #[(.some (.ref 30)), (.some (.ref 3)), (.some (.ref 3)), .none, (.some (.str (Str.ofString "__main__") 164)), .none, (.some (.ref 0))]⟩
@[reducible] noncomputable def o32 (P : Params) : Obj := ⟨(.type "tuple"), .none, .seq #[] 0, #[]⟩
@[reducible] noncomputable def o33 (P : Params) : Obj := ⟨.none, .none, .fields #[], #[]⟩
@[reducible] noncomputable def o34 (P : Params) : Obj := ⟨(.type "tuple"), .none, .seq #[(.str (Str.ofString "k") 285)] 0, #[]⟩
@[reducible] noncomputable def o35 (P : Params) : Obj := ⟨(.type "tuple"), .none, .seq #[] 0, #[]⟩
@[reducible] noncomputable def o36 (P : Params) : Obj := ⟨.none, .none, .func { name := (Str.ofString "_wall"), qualname := (Str.ofString "_wall"), params := p_1, body := .stmts b_1, scope := s_1, globals := 0, closure := [], defaults := .none, kwdefaults := .none, doc := .none, pyModule := .none, annotations := .none, code := .none, closureTuple := .none, builtins := 0 }, #[]⟩
@[reducible] noncomputable def o37 (P : Params) : Obj := ⟨(.type "code"), .none, .fields #[(.str (Str.ofString "_wall") 282), (.str (Str.ofString "_wall") 283), (.str (Str.ofString "/claim/cut.py") 284), (.int 2 0), (.int 1 0), (.int 0 0), (.int 0 0), (.int 3 0), (.ref 32), (.bool true), (.int 276 0), (.ref 33), .none, (.ref 34), (.ref 35), (.ref 36), (.int 286 0), (.int 2 0), (.str (Str.ofString "/claim/cut.py") 287)], #[]⟩
@[reducible] noncomputable def o38 (P : Params) : Obj := ⟨(.type "function"), .none, .func { name := (Str.ofString "_wall"), qualname := (Str.ofString "_wall"), params := p_1, body := .stmts b_1, scope := s_1, globals := 3, closure := [], defaults := .none, kwdefaults := .none, doc := .none, pyModule := (.str (Str.ofString "__main__") 164), annotations := .none, code := (.ref 37), closureTuple := .none, builtins := 0 }, #[]⟩
@[reducible] noncomputable def o39 (P : Params) : Obj := ⟨(.type "tuple"), .none, .seq #[(.type "list")] 0, #[]⟩
@[reducible] noncomputable def o40 (P : Params) : Obj := ⟨(.type "builtin_function_or_method"), .none, .fields #[(.builtin "type.__prepare__"), (.type "type")], #[]⟩
@[reducible] noncomputable def o41 (P : Params) : Obj := ⟨(.type "dict"), .none, .dict (List.toArray [⟨(PyData.keyHash P (Str.ofString "__module__")), (.str (Str.ofString "__module__") 300), (.str (Str.ofString "cpy313.email.header") 289)⟩, ⟨(PyData.keyHash P (Str.ofString "__qualname__")), (.str (Str.ofString "__qualname__") 302), (.str (Str.ofString "_Accumulator") 301)⟩, ⟨(PyData.keyHash P (Str.ofString "__firstlineno__")), (.str (Str.ofString "__firstlineno__") 304), (.int 7 303)⟩, ⟨(PyData.keyHash P (Str.ofString "__init__")), (.str (Str.ofString "__init__") 314), (.ref 55)⟩, ⟨(PyData.keyHash P (Str.ofString "push")), (.str (Str.ofString "push") 323), (.ref 62)⟩, ⟨(PyData.keyHash P (Str.ofString "pop_from")), (.str (Str.ofString "pop_from") 333), (.ref 70)⟩, ⟨(PyData.keyHash P (Str.ofString "pop")), (.str (Str.ofString "pop") 340), (.ref 77)⟩, ⟨(PyData.keyHash P (Str.ofString "__len__")), (.str (Str.ofString "__len__") 347), (.ref 84)⟩, ⟨(PyData.keyHash P (Str.ofString "__str__")), (.str (Str.ofString "__str__") 354), (.ref 91)⟩, ⟨(PyData.keyHash P (Str.ofString "reset")), (.str (Str.ofString "reset") 362), (.ref 99)⟩, ⟨(PyData.keyHash P (Str.ofString "is_onlyws")), (.str (Str.ofString "is_onlyws") 369), (.ref 106)⟩, ⟨(PyData.keyHash P (Str.ofString "part_count")), (.str (Str.ofString "part_count") 377), (.ref 114)⟩, ⟨(PyData.keyHash P (Str.ofString "__static_attributes__")), (.str (Str.ofString "__static_attributes__") 379), (.ref 115)⟩, ⟨(PyData.keyHash P (Str.ofString "__classcell__")), (.str (Str.ofString "__classcell__") 380), (.ref 42)⟩]) 14, #[]⟩
@[reducible] noncomputable def o42 (P : Params) : Obj := ⟨(.type "cell"), .none, .cell (.some (.ref 117)), #[]⟩
@[reducible] noncomputable def o43 (P : Params) : Obj := ⟨(.type "tuple"), .none, .seq #[] 0, #[]⟩
@[reducible] noncomputable def o44 (P : Params) : Obj := ⟨.none, .none, .fields #[(.int 9 0), (.int 4 0), (.ref 54), (.int 13 0), (.int 4 0), (.ref 61), (.int 16 0), (.int 4 0), (.ref 69), (.int 21 0), (.int 4 0), (.ref 76), (.int 24 0), (.int 4 0), (.ref 83), (.int 27 0), (.int 4 0), (.ref 90), (.int 30 0), (.int 4 0), (.ref 98), (.int 33 0), (.int 4 0), (.ref 105), (.int 36 0), (.int 4 0), (.ref 113)], #[]⟩
@[reducible] noncomputable def o45 (P : Params) : Obj := ⟨(.type "code"), .none, .fields #[(.str (Str.ofString "_Accumulator") 295), (.str (Str.ofString "_Accumulator") 296), (.str (Str.ofString "/claim/cut.py") 297), (.int 7 0), (.int 0 0), (.int 0 0), (.int 0 0), (.int 0 0), (.ref 43), (.bool false), (.int 276 0), (.ref 44), .none, .none, .none, .none, (.int 298 0), (.int 7 0), (.str (Str.ofString "/claim/cut.py") 299)], #[]⟩
@[reducible] noncomputable def o46 (P : Params) : Obj := ⟨(.type "frame"), .none, .plain, #[(.some (.ref 45)), (.some (.ref 3)), (.some (.ref 41)), .none, (.some (.str (Str.ofString "cpy313.email.header") 289)), .none, (.some (.ref 0))]⟩
@[reducible] noncomputable def o47 (P : Params) : Obj := ⟨(.type "tuple"), .none, .seq #[(.int 0 305)] 0, #[]⟩
@[reducible] noncomputable def o48 (P : Params) : Obj := ⟨(.type "tuple"), .none, .seq #[(.ref 42)] 0, #[]⟩
@[reducible] noncomputable def o49 (P : Params) : Obj := ⟨(.type "tuple"), .none, .seq #[(.str (Str.ofString "__class__") 309)] 0, #[]⟩
@[reducible] noncomputable def o50 (P : Params) : Obj := ⟨.none, .none, .fields #[], #[]⟩
@[reducible] noncomputable def o51 (P : Params) : Obj := ⟨(.type "tuple"), .none, .seq #[(.str (Str.ofString "self") 310), (.str (Str.ofString "initial_size") 311)] 0, #[]⟩
@[reducible] noncomputable def o52 (P : Params) : Obj := ⟨(.type "tuple"), .none, .seq #[] 0, #[]⟩
@[reducible] noncomputable def o53 (P : Params) : Obj := ⟨.none, .none, .func { name := (Str.ofString "__init__"), qualname := (Str.ofString "_Accumulator.__init__"), params := p_4_0, body := .stmts b_4_0, scope := s_4_0, globals := 0, closure := [], defaults := .none, kwdefaults := .none, doc := .none, pyModule := .none, annotations := .none, code := .none, closureTuple := .none, builtins := 0 }, #[]⟩
@[reducible] noncomputable def o54 (P : Params) : Obj := ⟨(.type "code"), .none, .fields #[(.str (Str.ofString "__init__") 306), (.str (Str.ofString "_Accumulator.__init__") 307), (.str (Str.ofString "/claim/cut.py") 308), (.int 9 0), (.int 2 0), (.int 0 0), (.int 0 0), (.int 3 0), (.ref 49), (.bool true), (.int 276 0), (.ref 50), .none, (.ref 51), (.ref 52), (.ref 53), (.int 312 0), (.int 9 0), (.str (Str.ofString "/claim/cut.py") 313)], #[]⟩
@[reducible] noncomputable def o55 (P : Params) : Obj := ⟨(.type "function"), .none, .func { name := (Str.ofString "__init__"), qualname := (Str.ofString "_Accumulator.__init__"), params := p_4_0, body := .stmts b_4_0, scope := s_4_0, globals := 3, closure := [((Str.ofString "__class__"), 42)], defaults := (.ref 47), kwdefaults := .none, doc := .none, pyModule := (.str (Str.ofString "cpy313.email.header") 289), annotations := .none, code := (.ref 54), closureTuple := (.ref 48), builtins := 0 }, #[]⟩
@[reducible] noncomputable def o56 (P : Params) : Obj := ⟨(.type "tuple"), .none, .seq #[] 0, #[]⟩
@[reducible] noncomputable def o57 (P : Params) : Obj := ⟨.none, .none, .fields #[], #[]⟩
@[reducible] noncomputable def o58 (P : Params) : Obj := ⟨(.type "tuple"), .none, .seq #[(.str (Str.ofString "self") 318), (.str (Str.ofString "fws") 319), (.str (Str.ofString "string") 320)] 0, #[]⟩
@[reducible] noncomputable def o59 (P : Params) : Obj := ⟨(.type "tuple"), .none, .seq #[] 0, #[]⟩
@[reducible] noncomputable def o60 (P : Params) : Obj := ⟨.none, .none, .func { name := (Str.ofString "push"), qualname := (Str.ofString "_Accumulator.push"), params := p_4_1, body := .stmts b_4_1, scope := s_4_1, globals := 0, closure := [], defaults := .none, kwdefaults := .none, doc := .none, pyModule := .none, annotations := .none, code := .none, closureTuple := .none, builtins := 0 }, #[]⟩
@[reducible] noncomputable def o61 (P : Params) : Obj := ⟨(.type "code"), .none, .fields #[(.str (Str.ofString "push") 315), (.str (Str.ofString "_Accumulator.push") 316), (.str (Str.ofString "/claim/cut.py") 317), (.int 13 0), (.int 3 0), (.int 0 0), (.int 0 0), (.int 3 0), (.ref 56), (.bool true), (.int 276 0), (.ref 57), .none, (.ref 58), (.ref 59), (.ref 60), (.int 321 0), (.int 13 0), (.str (Str.ofString "/claim/cut.py") 322)], #[]⟩
@[reducible] noncomputable def o62 (P : Params) : Obj := ⟨(.type "function"), .none, .func { name := (Str.ofString "push"), qualname := (Str.ofString "_Accumulator.push"), params := p_4_1, body := .stmts b_4_1, scope := s_4_1, globals := 3, closure := [], defaults := .none, kwdefaults := .none, doc := .none, pyModule := (.str (Str.ofString "cpy313.email.header") 289), annotations := .none, code := (.ref 61), closureTuple := .none, builtins := 0 }, #[]⟩
@[reducible] noncomputable def o63 (P : Params) : Obj := ⟨(.type "tuple"), .none, .seq #[(.int 0 324)] 0, #[]⟩
@[reducible] noncomputable def o64 (P : Params) : Obj := ⟨(.type "tuple"), .none, .seq #[] 0, #[]⟩
@[reducible] noncomputable def o65 (P : Params) : Obj := ⟨.none, .none, .fields #[], #[]⟩
@[reducible] noncomputable def o66 (P : Params) : Obj := ⟨(.type "tuple"), .none, .seq #[(.str (Str.ofString "self") 328), (.str (Str.ofString "i") 329), (.str (Str.ofString "popped") 330)] 0, #[]⟩
@[reducible] noncomputable def o67 (P : Params) : Obj := ⟨(.type "tuple"), .none, .seq #[] 0, #[]⟩
@[reducible] noncomputable def o68 (P : Params) : Obj := ⟨.none, .none, .func { name := (Str.ofString "pop_from"), qualname := (Str.ofString "_Accumulator.pop_from"), params := p_4_2, body := .stmts b_4_2, scope := s_4_2, globals := 0, closure := [], defaults := .none, kwdefaults := .none, doc := .none, pyModule := .none, annotations := .none, code := .none, closureTuple := .none, builtins := 0 }, #[]⟩
@[reducible] noncomputable def o69 (P : Params) : Obj := ⟨(.type "code"), .none, .fields #[(.str (Str.ofString "pop_from") 325), (.str (Str.ofString "_Accumulator.pop_from") 326), (.str (Str.ofString "/claim/cut.py") 327), (.int 16 0), (.int 2 0), (.int 0 0), (.int 0 0), (.int 3 0), (.ref 64), (.bool true), (.int 276 0), (.ref 65), .none, (.ref 66), (.ref 67), (.ref 68), (.int 331 0), (.int 16 0), (.str (Str.ofString "/claim/cut.py") 332)], #[]⟩
@[reducible] noncomputable def o70 (P : Params) : Obj := ⟨(.type "function"), .none, .func { name := (Str.ofString "pop_from"), qualname := (Str.ofString "_Accumulator.pop_from"), params := p_4_2, body := .stmts b_4_2, scope := s_4_2, globals := 3, closure := [], defaults := (.ref 63), kwdefaults := .none, doc := .none, pyModule := (.str (Str.ofString "cpy313.email.header") 289), annotations := .none, code := (.ref 69), closureTuple := .none, builtins := 0 }, #[]⟩
@[reducible] noncomputable def o71 (P : Params) : Obj := ⟨(.type "tuple"), .none, .seq #[] 0, #[]⟩
@[reducible] noncomputable def o72 (P : Params) : Obj := ⟨.none, .none, .fields #[], #[]⟩
@[reducible] noncomputable def o73 (P : Params) : Obj := ⟨(.type "tuple"), .none, .seq #[(.str (Str.ofString "self") 337)] 0, #[]⟩
@[reducible] noncomputable def o74 (P : Params) : Obj := ⟨(.type "tuple"), .none, .seq #[] 0, #[]⟩
@[reducible] noncomputable def o75 (P : Params) : Obj := ⟨.none, .none, .func { name := (Str.ofString "pop"), qualname := (Str.ofString "_Accumulator.pop"), params := p_4_3, body := .stmts b_4_3, scope := s_4_3, globals := 0, closure := [], defaults := .none, kwdefaults := .none, doc := .none, pyModule := .none, annotations := .none, code := .none, closureTuple := .none, builtins := 0 }, #[]⟩
@[reducible] noncomputable def o76 (P : Params) : Obj := ⟨(.type "code"), .none, .fields #[(.str (Str.ofString "pop") 334), (.str (Str.ofString "_Accumulator.pop") 335), (.str (Str.ofString "/claim/cut.py") 336), (.int 21 0), (.int 1 0), (.int 0 0), (.int 0 0), (.int 3 0), (.ref 71), (.bool true), (.int 276 0), (.ref 72), .none, (.ref 73), (.ref 74), (.ref 75), (.int 338 0), (.int 21 0), (.str (Str.ofString "/claim/cut.py") 339)], #[]⟩
@[reducible] noncomputable def o77 (P : Params) : Obj := ⟨(.type "function"), .none, .func { name := (Str.ofString "pop"), qualname := (Str.ofString "_Accumulator.pop"), params := p_4_3, body := .stmts b_4_3, scope := s_4_3, globals := 3, closure := [], defaults := .none, kwdefaults := .none, doc := .none, pyModule := (.str (Str.ofString "cpy313.email.header") 289), annotations := .none, code := (.ref 76), closureTuple := .none, builtins := 0 }, #[]⟩
@[reducible] noncomputable def o78 (P : Params) : Obj := ⟨(.type "tuple"), .none, .seq #[] 0, #[]⟩
@[reducible] noncomputable def o79 (P : Params) : Obj := ⟨.none, .none, .fields #[], #[]⟩
@[reducible] noncomputable def o80 (P : Params) : Obj := ⟨(.type "tuple"), .none, .seq #[(.str (Str.ofString "self") 344)] 0, #[]⟩
@[reducible] noncomputable def o81 (P : Params) : Obj := ⟨(.type "tuple"), .none, .seq #[] 0, #[]⟩
@[reducible] noncomputable def o82 (P : Params) : Obj := ⟨.none, .none, .func { name := (Str.ofString "__len__"), qualname := (Str.ofString "_Accumulator.__len__"), params := p_4_4, body := .stmts b_4_4, scope := s_4_4, globals := 0, closure := [], defaults := .none, kwdefaults := .none, doc := .none, pyModule := .none, annotations := .none, code := .none, closureTuple := .none, builtins := 0 }, #[]⟩
@[reducible] noncomputable def o83 (P : Params) : Obj := ⟨(.type "code"), .none, .fields #[(.str (Str.ofString "__len__") 341), (.str (Str.ofString "_Accumulator.__len__") 342), (.str (Str.ofString "/claim/cut.py") 343), (.int 24 0), (.int 1 0), (.int 0 0), (.int 0 0), (.int 3 0), (.ref 78), (.bool true), (.int 276 0), (.ref 79), .none, (.ref 80), (.ref 81), (.ref 82), (.int 345 0), (.int 24 0), (.str (Str.ofString "/claim/cut.py") 346)], #[]⟩
@[reducible] noncomputable def o84 (P : Params) : Obj := ⟨(.type "function"), .none, .func { name := (Str.ofString "__len__"), qualname := (Str.ofString "_Accumulator.__len__"), params := p_4_4, body := .stmts b_4_4, scope := s_4_4, globals := 3, closure := [], defaults := .none, kwdefaults := .none, doc := .none, pyModule := (.str (Str.ofString "cpy313.email.header") 289), annotations := .none, code := (.ref 83), closureTuple := .none, builtins := 0 }, #[]⟩
@[reducible] noncomputable def o85 (P : Params) : Obj := ⟨(.type "tuple"), .none, .seq #[] 0, #[]⟩
@[reducible] noncomputable def o86 (P : Params) : Obj := ⟨.none, .none, .fields #[], #[]⟩
@[reducible] noncomputable def o87 (P : Params) : Obj := ⟨(.type "tuple"), .none, .seq #[(.str (Str.ofString "self") 351)] 0, #[]⟩
@[reducible] noncomputable def o88 (P : Params) : Obj := ⟨(.type "tuple"), .none, .seq #[] 0, #[]⟩
@[reducible] noncomputable def o89 (P : Params) : Obj := ⟨.none, .none, .func { name := (Str.ofString "__str__"), qualname := (Str.ofString "_Accumulator.__str__"), params := p_4_5, body := .stmts b_4_5, scope := s_4_5, globals := 0, closure := [], defaults := .none, kwdefaults := .none, doc := .none, pyModule := .none, annotations := .none, code := .none, closureTuple := .none, builtins := 0 }, #[]⟩
@[reducible] noncomputable def o90 (P : Params) : Obj := ⟨(.type "code"), .none, .fields #[(.str (Str.ofString "__str__") 348), (.str (Str.ofString "_Accumulator.__str__") 349), (.str (Str.ofString "/claim/cut.py") 350), (.int 27 0), (.int 1 0), (.int 0 0), (.int 0 0), (.int 3 0), (.ref 85), (.bool true), (.int 276 0), (.ref 86), .none, (.ref 87), (.ref 88), (.ref 89), (.int 352 0), (.int 27 0), (.str (Str.ofString "/claim/cut.py") 353)], #[]⟩
@[reducible] noncomputable def o91 (P : Params) : Obj := ⟨(.type "function"), .none, .func { name := (Str.ofString "__str__"), qualname := (Str.ofString "_Accumulator.__str__"), params := p_4_5, body := .stmts b_4_5, scope := s_4_5, globals := 3, closure := [], defaults := .none, kwdefaults := .none, doc := .none, pyModule := (.str (Str.ofString "cpy313.email.header") 289), annotations := .none, code := (.ref 90), closureTuple := .none, builtins := 0 }, #[]⟩
@[reducible] noncomputable def o92 (P : Params) : Obj := ⟨(.type "tuple"), .none, .seq #[.none] 0, #[]⟩
@[reducible] noncomputable def o93 (P : Params) : Obj := ⟨(.type "tuple"), .none, .seq #[] 0, #[]⟩
@[reducible] noncomputable def o94 (P : Params) : Obj := ⟨.none, .none, .fields #[], #[]⟩
@[reducible] noncomputable def o95 (P : Params) : Obj := ⟨(.type "tuple"), .none, .seq #[(.str (Str.ofString "self") 358), (.str (Str.ofString "startval") 359)] 0, #[]⟩
@[reducible] noncomputable def o96 (P : Params) : Obj := ⟨(.type "tuple"), .none, .seq #[] 0, #[]⟩
@[reducible] noncomputable def o97 (P : Params) : Obj := ⟨.none, .none, .func { name := (Str.ofString "reset"), qualname := (Str.ofString "_Accumulator.reset"), params := p_4_6, body := .stmts b_4_6, scope := s_4_6, globals := 0, closure := [], defaults := .none, kwdefaults := .none, doc := .none, pyModule := .none, annotations := .none, code := .none, closureTuple := .none, builtins := 0 }, #[]⟩
@[reducible] noncomputable def o98 (P : Params) : Obj := ⟨(.type "code"), .none, .fields #[(.str (Str.ofString "reset") 355), (.str (Str.ofString "_Accumulator.reset") 356), (.str (Str.ofString "/claim/cut.py") 357), (.int 30 0), (.int 2 0), (.int 0 0), (.int 0 0), (.int 3 0), (.ref 93), (.bool true), (.int 276 0), (.ref 94), .none, (.ref 95), (.ref 96), (.ref 97), (.int 360 0), (.int 30 0), (.str (Str.ofString "/claim/cut.py") 361)], #[]⟩
@[reducible] noncomputable def o99 (P : Params) : Obj := ⟨(.type "function"), .none, .func { name := (Str.ofString "reset"), qualname := (Str.ofString "_Accumulator.reset"), params := p_4_6, body := .stmts b_4_6, scope := s_4_6, globals := 3, closure := [], defaults := (.ref 92), kwdefaults := .none, doc := .none, pyModule := (.str (Str.ofString "cpy313.email.header") 289), annotations := .none, code := (.ref 98), closureTuple := .none, builtins := 0 }, #[]⟩
@[reducible] noncomputable def o100 (P : Params) : Obj := ⟨(.type "tuple"), .none, .seq #[] 0, #[]⟩
@[reducible] noncomputable def o101 (P : Params) : Obj := ⟨.none, .none, .fields #[], #[]⟩
@[reducible] noncomputable def o102 (P : Params) : Obj := ⟨(.type "tuple"), .none, .seq #[(.str (Str.ofString "self") 366)] 0, #[]⟩
@[reducible] noncomputable def o103 (P : Params) : Obj := ⟨(.type "tuple"), .none, .seq #[] 0, #[]⟩
@[reducible] noncomputable def o104 (P : Params) : Obj := ⟨.none, .none, .func { name := (Str.ofString "is_onlyws"), qualname := (Str.ofString "_Accumulator.is_onlyws"), params := p_4_7, body := .stmts b_4_7, scope := s_4_7, globals := 0, closure := [], defaults := .none, kwdefaults := .none, doc := .none, pyModule := .none, annotations := .none, code := .none, closureTuple := .none, builtins := 0 }, #[]⟩
@[reducible] noncomputable def o105 (P : Params) : Obj := ⟨(.type "code"), .none, .fields #[(.str (Str.ofString "is_onlyws") 363), (.str (Str.ofString "_Accumulator.is_onlyws") 364), (.str (Str.ofString "/claim/cut.py") 365), (.int 33 0), (.int 1 0), (.int 0 0), (.int 0 0), (.int 3 0), (.ref 100), (.bool true), (.int 276 0), (.ref 101), .none, (.ref 102), (.ref 103), (.ref 104), (.int 367 0), (.int 33 0), (.str (Str.ofString "/claim/cut.py") 368)], #[]⟩
@[reducible] noncomputable def o106 (P : Params) : Obj := ⟨(.type "function"), .none, .func { name := (Str.ofString "is_onlyws"), qualname := (Str.ofString "_Accumulator.is_onlyws"), params := p_4_7, body := .stmts b_4_7, scope := s_4_7, globals := 3, closure := [], defaults := .none, kwdefaults := .none, doc := .none, pyModule := (.str (Str.ofString "cpy313.email.header") 289), annotations := .none, code := (.ref 105), closureTuple := .none, builtins := 0 }, #[]⟩
@[reducible] noncomputable def o107 (P : Params) : Obj := ⟨(.type "tuple"), .none, .seq #[(.ref 42)] 0, #[]⟩
@[reducible] noncomputable def o108 (P : Params) : Obj := ⟨(.type "tuple"), .none, .seq #[(.str (Str.ofString "__class__") 373)] 0, #[]⟩
@[reducible] noncomputable def o109 (P : Params) : Obj := ⟨.none, .none, .fields #[], #[]⟩
@[reducible] noncomputable def o110 (P : Params) : Obj := ⟨(.type "tuple"), .none, .seq #[(.str (Str.ofString "self") 374)] 0, #[]⟩
@[reducible] noncomputable def o111 (P : Params) : Obj := ⟨(.type "tuple"), .none, .seq #[] 0, #[]⟩
@[reducible] noncomputable def o112 (P : Params) : Obj := ⟨.none, .none, .func { name := (Str.ofString "part_count"), qualname := (Str.ofString "_Accumulator.part_count"), params := p_4_8, body := .stmts b_4_8, scope := s_4_8, globals := 0, closure := [], defaults := .none, kwdefaults := .none, doc := .none, pyModule := .none, annotations := .none, code := .none, closureTuple := .none, builtins := 0 }, #[]⟩
@[reducible] noncomputable def o113 (P : Params) : Obj := ⟨(.type "code"), .none, .fields #[(.str (Str.ofString "part_count") 370), (.str (Str.ofString "_Accumulator.part_count") 371), (.str (Str.ofString "/claim/cut.py") 372), (.int 36 0), (.int 1 0), (.int 0 0), (.int 0 0), (.int 3 0), (.ref 108), (.bool true), (.int 276 0), (.ref 109), .none, (.ref 110), (.ref 111), (.ref 112), (.int 375 0), (.int 36 0), (.str (Str.ofString "/claim/cut.py") 376)], #[]⟩
@[reducible] noncomputable def o114 (P : Params) : Obj := ⟨(.type "function"), .none, .func { name := (Str.ofString "part_count"), qualname := (Str.ofString "_Accumulator.part_count"), params := p_4_8, body := .stmts b_4_8, scope := s_4_8, globals := 3, closure := [((Str.ofString "__class__"), 42)], defaults := .none, kwdefaults := .none, doc := .none, pyModule := (.str (Str.ofString "cpy313.email.header") 289), annotations := .none, code := (.ref 113), closureTuple := (.ref 107), builtins := 0 }, #[]⟩
@[reducible] noncomputable def o115 (P : Params) : Obj := ⟨(.type "tuple"), .none, .seq #[(.str (Str.ofString "_initial_size") 378)] 0, #[]⟩
@[reducible] noncomputable def o116 (P : Params) : Obj := ⟨(.type "dict"), .none, .dict (List.toArray [⟨(PyData.keyHash P (Str.ofString "__module__")), (.str (Str.ofString "__module__") 300), (.str (Str.ofString "cpy313.email.header") 289)⟩, ⟨(PyData.keyHash P (Str.ofString "__firstlineno__")), (.str (Str.ofString "__firstlineno__") 304), (.int 7 303)⟩, ⟨(PyData.keyHash P (Str.ofString "__init__")), (.str (Str.ofString "__init__") 314), (.ref 55)⟩, ⟨(PyData.keyHash P (Str.ofString "push")), (.str (Str.ofString "push") 323), (.ref 62)⟩, ⟨(PyData.keyHash P (Str.ofString "pop_from")), (.str (Str.ofString "pop_from") 333), (.ref 70)⟩, ⟨(PyData.keyHash P (Str.ofString "pop")), (.str (Str.ofString "pop") 340), (.ref 77)⟩, ⟨(PyData.keyHash P (Str.ofString "__len__")), (.str (Str.ofString "__len__") 347), (.ref 84)⟩, ⟨(PyData.keyHash P (Str.ofString "__str__")), (.str (Str.ofString "__str__") 354), (.ref 91)⟩, ⟨(PyData.keyHash P (Str.ofString "reset")), (.str (Str.ofString "reset") 362), (.ref 99)⟩, ⟨(PyData.keyHash P (Str.ofString "is_onlyws")), (.str (Str.ofString "is_onlyws") 369), (.ref 106)⟩, ⟨(PyData.keyHash P (Str.ofString "part_count")), (.str (Str.ofString "part_count") 377), (.ref 114)⟩, ⟨(PyData.keyHash P (Str.ofString "__static_attributes__")), (.str (Str.ofString "__static_attributes__") 379), (.ref 115)⟩, ⟨(PyData.keyHash P (Str.ofString "__dict__")), (.str (Str.ofString "__dict__") 382), (.ref 118)⟩, ⟨(PyData.keyHash P (Str.ofString "__weakref__")), (.str (Str.ofString "__weakref__") 384), (.ref 119)⟩, ⟨(PyData.keyHash P (Str.ofString "__doc__")), (.str (Str.ofString "__doc__") 385), .none⟩]) 5, #[]⟩
@[reducible] noncomputable def o117 (P : Params) : Obj := ⟨(.type "type"), .none, .cls { name := (Str.ofString "_Accumulator"), bases := [(.type "list")], mro := [(.ref 117), (.type "list"), (.type "object")], ns := 116, qualname := (Str.ofString "_Accumulator"), hasDict := true, slotNames := [], subclasses := [], abstract := false, collection := .none, hasDel := false }, #[(.some (.ref 39)), .none, (.some (.str (Str.ofString "_Accumulator") 293)), (.some (.str (Str.ofString "_Accumulator") 301)), (.some (.builtin "list.__new__")), (.some (.bool true))]⟩
@[reducible] noncomputable def o118 (P : Params) : Obj := ⟨(.type "getset_descriptor"), .none, .fields #[(.str (Str.ofString "__dict__") 381), (.ref 117), (.builtin "function.__dict__"), (.builtin "function.__dict__#set")], #[]⟩
@[reducible] noncomputable def o119 (P : Params) : Obj := ⟨(.type "getset_descriptor"), .none, .fields #[(.str (Str.ofString "__weakref__") 383), (.ref 117), (.builtin "ExceptionGroup.__weakref__"), .none], #[]⟩
@[reducible] noncomputable def o120 (P : Params) : Obj := ⟨(.type "super"), .none, .fields #[(.ref 117), (.ref 117), (.ref 117)], #[]⟩
@[reducible] noncomputable def o121 (P : Params) : Obj := ⟨(.type "builtin_function_or_method"), .none, .fields #[(.builtin "object.__init_subclass__"), (.ref 117)], #[]⟩
@[reducible] noncomputable def o122 (P : Params) : Obj := ⟨(.type "list"), .none, .seq #[(.int 173 390), (.int 847 391), (.int 6150 392), (.int 6155 393), (.int 6156 394), (.int 6157 395), (.int 8203 396), (.int 8204 397), (.int 8205 398), (.int 8288 399), (.int 65279 400)] 0, #[]⟩
@[reducible] noncomputable def o123 (P : Params) : Obj := ⟨(.type "range"), .none, .fields #[(.int 65024 401), (.int 65040 402), (.int 1 403)], #[]⟩
@[reducible] noncomputable def o124 (P : Params) : Obj := ⟨(.type "list"), .none, .seq #[(.int 65024 406), (.int 65025 407), (.int 65026 408), (.int 65027 409), (.int 65028 410), (.int 65029 411), (.int 65030 412), (.int 65031 413), (.int 65032 414), (.int 65033 415), (.int 65034 416), (.int 65035 417), (.int 65036 418), (.int 65037 419), (.int 65038 420), (.int 65039 421)] 18, #[]⟩
@[reducible] noncomputable def o125 (P : Params) : Obj := ⟨(.type "range_iterator"), .none, .fields #[(.int 65040 0), (.int 0 0), (.int 1 0)], #[]⟩
@[reducible] noncomputable def o126 (P : Params) : Obj := ⟨(.type "tuple"), .none, .seq #[] 0, #[]⟩
@[reducible] noncomputable def o127 (P : Params) : Obj := ⟨(.type "StopIteration"), .none, .fields #[(.ref 126), .none, .none, .none, (.bool false), .none], #[]⟩
@[reducible] noncomputable def o128 (P : Params) : Obj := ⟨(.type "list"), .none, .seq #[(.int 173 390), (.int 847 391), (.int 6150 392), (.int 6155 393), (.int 6156 394), (.int 6157 395), (.int 8203 396), (.int 8204 397), (.int 8205 398), (.int 8288 399), (.int 65279 400), (.int 65024 406), (.int 65025 407), (.int 65026 408), (.int 65027 409), (.int 65028 410), (.int 65029 411), (.int 65030 412), (.int 65031 413), (.int 65032 414), (.int 65033 415), (.int 65034 416), (.int 65035 417), (.int 65036 418), (.int 65037 419), (.int 65038 420), (.int 65039 421)] 0, #[]⟩
@[reducible] noncomputable def o129 (P : Params) : Obj := ⟨(.type "set"), .none, .set #[(65024, (.int 65024 406)), (65025, (.int 65025 407)), (65026, (.int 65026 408)), (65027, (.int 65027 409)), (65028, (.int 65028 410)), (65029, (.int 65029 411)), (6150, (.int 6150 392)), (65030, (.int 65030 412)), (65031, (.int 65031 413)), (65032, (.int 65032 414)), (65033, (.int 65033 415)), (6155, (.int 6155 393)), (6156, (.int 6156 394)), (6157, (.int 6157 395)), (8203, (.int 8203 396)), (8204, (.int 8204 397)), (8205, (.int 8205 398)), (65034, (.int 65034 416)), (65035, (.int 65035 417)), (65036, (.int 65036 418)), (65037, (.int 65037 419)), (65038, (.int 65038 420)), (65039, (.int 65039 421)), (173, (.int 173 390)), (847, (.int 847 391)), (8288, (.int 8288 399)), (65279, (.int 65279 400))] 29 ⟨127, #[0, 1, 2, 3, 4, 5, 6, 7, 8, 9, 10, 11, 12, 13, 14, 15, 16, 17, 18, 19, 20, 21, 22, 45, 79, 96, 127], #[], 0, !(P.followText "set-order"), 2, true⟩, #[]⟩
@[reducible] noncomputable def o130 (P : Params) : Obj := ⟨(.type "list_iterator"), .none, .fields #[.none, (.int 27 0)], #[]⟩
@[reducible] noncomputable def o131 (P : Params) : Obj := ⟨(.type "tuple"), .none, .seq #[] 0, #[]⟩
@[reducible] noncomputable def o132 (P : Params) : Obj := ⟨(.type "StopIteration"), .none, .fields #[(.ref 131), .none, .none, .none, (.bool false), .none], #[]⟩
@[reducible] noncomputable def o133 (P : Params) : Obj := ⟨(.type "tuple"), .none, .seq #[] 0, #[]⟩
@[reducible] noncomputable def o134 (P : Params) : Obj := ⟨.none, .none, .fields #[], #[]⟩
@[reducible] noncomputable def o135 (P : Params) : Obj := ⟨(.type "tuple"), .none, .seq #[(.str (Str.ofString "code") 453)] 0, #[]⟩
@[reducible] noncomputable def o136 (P : Params) : Obj := ⟨(.type "tuple"), .none, .seq #[] 0, #[]⟩
@[reducible] noncomputable def o137 (P : Params) : Obj := ⟨.none, .none, .func { name := (Str.ofString "in_table_b1"), qualname := (Str.ofString "in_table_b1"), params := p_7, body := .stmts b_7, scope := s_7, globals := 0, closure := [], defaults := .none, kwdefaults := .none, doc := .none, pyModule := .none, annotations := .none, code := .none, closureTuple := .none, builtins := 0 }, #[]⟩
@[reducible] noncomputable def o138 (P : Params) : Obj := ⟨(.type "code"), .none, .fields #[(.str (Str.ofString "in_table_b1") 450), (.str (Str.ofString "in_table_b1") 451), (.str (Str.ofString "/claim/cut.py") 452), (.int 40 0), (.int 1 0), (.int 0 0), (.int 0 0), (.int 3 0), (.ref 133), (.bool true), (.int 276 0), (.ref 134), .none, (.ref 135), (.ref 136), (.ref 137), (.int 454 0), (.int 40 0), (.str (Str.ofString "/claim/cut.py") 455)], #[]⟩
@[reducible] noncomputable def o139 (P : Params) : Obj := ⟨(.type "function"), .none, .func { name := (Str.ofString "in_table_b1"), qualname := (Str.ofString "in_table_b1"), params := p_7, body := .stmts b_7, scope := s_7, globals := 3, closure := [], defaults := .none, kwdefaults := .none, doc := .none, pyModule := (.str (Str.ofString "cpy313.stringprep") 388), annotations := .none, code := (.ref 138), closureTuple := .none, builtins := 0 }, #[]⟩
@[reducible] noncomputable def o179 (P : Params) : Obj := ⟨(.type "tuple"), .none, .seq #[] 0, #[]⟩
@[reducible] noncomputable def o180 (P : Params) : Obj := ⟨.none, .none, .fields #[], #[]⟩
@[reducible] noncomputable def o181 (P : Params) : Obj := ⟨(.type "tuple"), .none, .seq #[(.str (Str.ofString "code") 2411), (.str (Str.ofString "r") 2412)] 0, #[]⟩
@[reducible] noncomputable def o182 (P : Params) : Obj := ⟨(.type "tuple"), .none, .seq #[] 0, #[]⟩
@[reducible] noncomputable def o183 (P : Params) : Obj := ⟨.none, .none, .func { name := (Str.ofString "map_table_b3"), qualname := (Str.ofString "map_table_b3"), params := p_9, body := .stmts b_9, scope := s_9, globals := 0, closure := [], defaults := .none, kwdefaults := .none, doc := .none, pyModule := .none, annotations := .none, code := .none, closureTuple := .none, builtins := 0 }, #[]⟩
@[reducible] noncomputable def o184 (P : Params) : Obj := ⟨(.type "code"), .none, .fields #[(.str (Str.ofString "map_table_b3") 2408), (.str (Str.ofString "map_table_b3") 2409), (.str (Str.ofString "/claim/cut.py") 2410), (.int 43 0), (.int 1 0), (.int 0 0), (.int 0 0), (.int 3 0), (.ref 179), (.bool true), (.int 276 0), (.ref 180), .none, (.ref 181), (.ref 182), (.ref 183), (.int 2413 0), (.int 43 0), (.str (Str.ofString "/claim/cut.py") 2414)], #[]⟩
@[reducible] noncomputable def o185 (P : Params) : Obj := ⟨(.type "function"), .none, .func { name := (Str.ofString "map_table_b3"), qualname := (Str.ofString "map_table_b3"), params := p_9, body := .stmts b_9, scope := s_9, globals := 3, closure := [], defaults := .none, kwdefaults := .none, doc := .none, pyModule := (.str (Str.ofString "cpy313.stringprep") 388), annotations := .none, code := (.ref 184), closureTuple := .none, builtins := 0 }, #[]⟩
@[reducible] noncomputable def o186 (P : Params) : Obj := ⟨(.type "list"), .none, .seq #[(.int 14 2421), (.int 14 2422), (.int 4 2423), (.int 1 2424), (.int 1 2425), (.int 9 2426), (.int 0 2427), (.int 4227896069 2428), (.int 939524097 2429), (.int 0 2430), (.int 0 2431), (.int 0 2432), (.int 0 2433), (.int 0 2434), (.int 0 2435), (.int 13 2436), (.int 11 2437), (.int 9 2438), (.int 0 2439), (.int 4227896069 2440), (.int 939524097 2441), (.int 0 2442), (.int 0 2443), (.int 0 2444), (.int 0 2445), (.int 0 2446), (.int 0 2447), (.int 1 2448)] 0, #[]⟩
@[reducible] noncomputable def o187 (P : Params) : Obj := ⟨(.type "dict"), .none, .dict (List.toArray []) 0, #[]⟩
@[reducible] noncomputable def o188 (P : Params) : Obj := ⟨(.type "tuple"), .none, .seq #[.none] 0, #[]⟩
@[reducible] noncomputable def o189 (P : Params) : Obj := ⟨(.type "tuple"), .none, .seq #[(.int 14 0), (.int 14 0), (.int 4 0), (.int 1 0), (.int 1 0), (.int 9 0), (.int 0 0), (.int 4227896069 0), (.int 939524097 0), (.int 0 0), (.int 0 0), (.int 0 0), (.int 0 0), (.int 0 0), (.int 0 0), (.int 13 0), (.int 11 0), (.int 9 0), (.int 0 0), (.int 4227896069 0), (.int 939524097 0), (.int 0 0), (.int 0 0), (.int 0 0), (.int 0 0), (.int 0 0), (.int 0 0), (.int 1 0)] 0, #[]⟩
@[reducible] noncomputable def o190 (P : Params) : Obj := ⟨(.type "re.Pattern"), .none, .fields #[(.str (Str.mk #[91, 32, 92, 40, 92, 41, 60, 62, 64, 44, 59, 58, 92, 92, 34, 47, 92, 91, 92, 93, 92, 63, 61, 93]) 2419), (.int 32 2450), (.int 0 0), .none, .none, (.ref 189), (.int 0 0)], #[]⟩
@[reducible] noncomputable def o191 (P : Params) : Obj := ⟨(.type "list"), .none, .seq #[(.int 14 2455), (.int 10 2456), (.int 4 2457), (.int 1 2458), (.int 1 2459), (.int 22 2460), (.int 0 2461), (.int 31 2462), (.int 16 2463), (.int 127 2464), (.int 0 2465), (.int 13 2466), (.int 7 2467), (.int 22 2468), (.int 0 2469), (.int 31 2470), (.int 16 2471), (.int 127 2472), (.int 0 2473), (.int 1 2474)] 0, #[]⟩
@[reducible] noncomputable def o192 (P : Params) : Obj := ⟨(.type "dict"), .none, .dict (List.toArray []) 0, #[]⟩
@[reducible] noncomputable def o193 (P : Params) : Obj := ⟨(.type "tuple"), .none, .seq #[.none] 0, #[]⟩
@[reducible] noncomputable def o194 (P : Params) : Obj := ⟨(.type "tuple"), .none, .seq #[(.int 14 0), (.int 10 0), (.int 4 0), (.int 1 0), (.int 1 0), (.int 22 0), (.int 0 0), (.int 31 0), (.int 16 0), (.int 127 0), (.int 0 0), (.int 13 0), (.int 7 0), (.int 22 0), (.int 0 0), (.int 31 0), (.int 16 0), (.int 127 0), (.int 0 0), (.int 1 0)] 0, #[]⟩
@[reducible] noncomputable def o195 (P : Params) : Obj := ⟨(.type "re.Pattern"), .none, .fields #[(.str (Str.mk #[91, 92, 120, 48, 48, 45, 92, 120, 49, 70, 92, 120, 55, 70, 93]) 2453), (.int 32 2476), (.int 0 0), .none, .none, (.ref 194), (.int 0 0)], #[]⟩
@[reducible] noncomputable def o196 (P : Params) : Obj := ⟨(.type "list"), .none, .seq #[(.int 14 2481), (.int 14 2482), (.int 4 2483), (.int 1 2484), (.int 1 2485), (.int 9 2486), (.int 4294966783 2487), (.int 0 2488), (.int 0 2489), (.int 2147483648 2490), (.int 0 2491), (.int 0 2492), (.int 0 2493), (.int 0 2494), (.int 0 2495), (.int 13 2496), (.int 11 2497), (.int 9 2498), (.int 4294966783 2499), (.int 0 2500), (.int 0 2501), (.int 2147483648 2502), (.int 0 2503), (.int 0 2504), (.int 0 2505), (.int 0 2506), (.int 0 2507), (.int 1 2508)] 0, #[]⟩
@[reducible] noncomputable def o197 (P : Params) : Obj := ⟨(.type "dict"), .none, .dict (List.toArray []) 0, #[]⟩
@[reducible] noncomputable def o198 (P : Params) : Obj := ⟨(.type "tuple"), .none, .seq #[.none] 0, #[]⟩
@[reducible] noncomputable def o199 (P : Params) : Obj := ⟨(.type "tuple"), .none, .seq #[(.int 14 0), (.int 14 0), (.int 4 0), (.int 1 0), (.int 1 0), (.int 9 0), (.int 4294966783 0), (.int 0 0), (.int 0 0), (.int 2147483648 0), (.int 0 0), (.int 0 0), (.int 0 0), (.int 0 0), (.int 0 0), (.int 13 0), (.int 11 0), (.int 9 0), (.int 4294966783 0), (.int 0 0), (.int 0 0), (.int 2147483648 0), (.int 0 0), (.int 0 0), (.int 0 0), (.int 0 0), (.int 0 0), (.int 1 0)] 0, #[]⟩
@[reducible] noncomputable def o200 (P : Params) : Obj := ⟨(.type "re.Pattern"), .none, .fields #[(.str (Str.mk #[91, 92, 120, 48, 48, 45, 92, 120, 48, 56, 92, 120, 48, 65, 45, 92, 120, 49, 70, 92, 120, 55, 70, 93]) 2479), (.int 32 2510), (.int 0 0), .none, .none, (.ref 199), (.int 0 0)], #[]⟩
@[reducible] noncomputable def o201 (P : Params) : Obj := ⟨(.type "tuple"), .none, .seq #[.none, (.int 1 2512)] 0, #[]⟩
@[reducible] noncomputable def o202 (P : Params) : Obj := ⟨(.type "tuple"), .none, .seq #[] 0, #[]⟩
@[reducible] noncomputable def o203 (P : Params) : Obj := ⟨.none, .none, .fields #[], #[]⟩
@[reducible] noncomputable def o204 (P : Params) : Obj := ⟨(.type "tuple"), .none, .seq #[(.str (Str.ofString "param") 2516), (.str (Str.ofString "value") 2517), (.str (Str.ofString "quote") 2518)] 0, #[]⟩
@[reducible] noncomputable def o205 (P : Params) : Obj := ⟨(.type "tuple"), .none, .seq #[] 0, #[]⟩
@[reducible] noncomputable def o206 (P : Params) : Obj := ⟨.none, .none, .func { name := (Str.ofString "_formatparam"), qualname := (Str.ofString "_formatparam"), params := p_14, body := .stmts b_14, scope := s_14, globals := 0, closure := [], defaults := .none, kwdefaults := .none, doc := .none, pyModule := .none, annotations := .none, code := .none, closureTuple := .none, builtins := 0 }, #[]⟩
@[reducible] noncomputable def o207 (P : Params) : Obj := ⟨(.type "code"), .none, .fields #[(.str (Str.ofString "_formatparam") 2513), (.str (Str.ofString "_formatparam") 2514), (.str (Str.ofString "/claim/cut.py") 2515), (.int 52 0), (.int 3 0), (.int 0 0), (.int 0 0), (.int 3 0), (.ref 202), (.bool true), (.int 276 0), (.ref 203), .none, (.ref 204), (.ref 205), (.ref 206), (.int 2519 0), (.int 52 0), (.str (Str.ofString "/claim/cut.py") 2520)], #[]⟩
@[reducible] noncomputable def o208 (P : Params) : Obj := ⟨(.type "function"), .none, .func { name := (Str.ofString "_formatparam"), qualname := (Str.ofString "_formatparam"), params := p_14, body := .stmts b_14, scope := s_14, globals := 3, closure := [], defaults := (.ref 201), kwdefaults := .none, doc := .none, pyModule := (.str (Str.ofString "cpy313.wsgiref.headers") 2416), annotations := .none, code := (.ref 207), closureTuple := .none, builtins := 0 }, #[]⟩
@[reducible] noncomputable def o209 (P : Params) : Obj := ⟨(.type "tuple"), .none, .seq #[] 0, #[]⟩
@[reducible] noncomputable def o210 (P : Params) : Obj := ⟨(.type "builtin_function_or_method"), .none, .fields #[(.builtin "type.__prepare__"), (.type "type")], #[]⟩
@[reducible] noncomputable def o211 (P : Params) : Obj := ⟨(.type "dict"), .none, .dict (List.toArray [⟨(PyData.keyHash P (Str.ofString "__module__")), (.str (Str.ofString "__module__") 2529), (.str (Str.ofString "cpy313.wsgiref.headers") 2416)⟩, ⟨(PyData.keyHash P (Str.ofString "__qualname__")), (.str (Str.ofString "__qualname__") 2531), (.str (Str.ofString "Headers") 2530)⟩, ⟨(PyData.keyHash P (Str.ofString "__firstlineno__")), (.str (Str.ofString "__firstlineno__") 2533), (.int 61 2532)⟩, ⟨(PyData.keyHash P (Str.ofString "__init__")), (.str (Str.ofString "__init__") 2543), (.ref 223)⟩, ⟨(PyData.keyHash P (Str.ofString "_convert_string_type")), (.str (Str.ofString "_convert_string_type") 2553), (.ref 230)⟩, ⟨(PyData.keyHash P (Str.ofString "__len__")), (.str (Str.ofString "__len__") 2560), (.ref 237)⟩, ⟨(PyData.keyHash P (Str.ofString "__setitem__")), (.str (Str.ofString "__setitem__") 2569), (.ref 244)⟩, ⟨(PyData.keyHash P (Str.ofString "__delitem__")), (.str (Str.ofString "__delitem__") 2575), (.ref 249)⟩, ⟨(PyData.keyHash P (Str.ofString "__getitem__")), (.str (Str.ofString "__getitem__") 2583), (.ref 256)⟩, ⟨(PyData.keyHash P (Str.ofString "__contains__")), (.str (Str.ofString "__contains__") 2591), (.ref 263)⟩, ⟨(PyData.keyHash P (Str.ofString "get_all")), (.str (Str.ofString "get_all") 2597), (.ref 268)⟩, ⟨(PyData.keyHash P (Str.ofString "get")), (.str (Str.ofString "get") 2608), (.ref 276)⟩, ⟨(PyData.keyHash P (Str.ofString "keys")), (.str (Str.ofString "keys") 2614), (.ref 281)⟩, ⟨(PyData.keyHash P (Str.ofString "values")), (.str (Str.ofString "values") 2620), (.ref 286)⟩, ⟨(PyData.keyHash P (Str.ofString "items")), (.str (Str.ofString "items") 2627), (.ref 293)⟩, ⟨(PyData.keyHash P (Str.ofString "__repr__")), (.str (Str.ofString "__repr__") 2634), (.ref 300)⟩, ⟨(PyData.keyHash P (Str.ofString "__str__")), (.str (Str.ofString "__str__") 2640), (.ref 305)⟩, ⟨(PyData.keyHash P (Str.ofString "__bytes__")), (.str (Str.ofString "__bytes__") 2647), (.ref 312)⟩, ⟨(PyData.keyHash P (Str.ofString "setdefault")), (.str (Str.ofString "setdefault") 2656), (.ref 319)⟩, ⟨(PyData.keyHash P (Str.ofString "add_header")), (.str (Str.ofString "add_header") 2669), (.ref 326)⟩, ⟨(PyData.keyHash P (Str.ofString "__static_attributes__")), (.str (Str.ofString "__static_attributes__") 2671), (.ref 327)⟩]) 21, #[]⟩
@[reducible] noncomputable def o212 (P : Params) : Obj := ⟨(.type "tuple"), .none, .seq #[] 0, #[]⟩
@[reducible] noncomputable def o213 (P : Params) : Obj := ⟨.none, .none, .fields #[(.int 63 0), (.int 4 0), (.ref 222), (.int 73 0), (.int 4 0), (.ref 229), (.int 81 0), (.int 4 0), (.ref 236), (.int 84 0), (.int 4 0), (.ref 243), (.int 88 0), (.int 4 0), (.ref 248), (.int 92 0), (.int 4 0), (.ref 255), (.int 95 0), (.int 4 0), (.ref 262), (.int 98 0), (.int 4 0), (.ref 267), (.int 102 0), (.int 4 0), (.ref 275), (.int 109 0), (.int 4 0), (.ref 280), (.int 112 0), (.int 4 0), (.ref 285), (.int 115 0), (.int 4 0), (.ref 292), (.int 118 0), (.int 4 0), (.ref 299), (.int 121 0), (.int 4 0), (.ref 304), (.int 124 0), (.int 4 0), (.ref 311), (.int 127 0), (.int 4 0), (.ref 318), (.int 130 0), (.int 4 0), (.ref 325)], #[]⟩
@[reducible] noncomputable def o214 (P : Params) : Obj := ⟨(.type "code"), .none, .fields #[(.str (Str.ofString "Headers") 2524), (.str (Str.ofString "Headers") 2525), (.str (Str.ofString "/claim/cut.py") 2526), (.int 61 0), (.int 0 0), (.int 0 0), (.int 0 0), (.int 0 0), (.ref 212), (.bool false), (.int 276 0), (.ref 213), .none, .none, .none, .none, (.int 2527 0), (.int 61 0), (.str (Str.ofString "/claim/cut.py") 2528)], #[]⟩
@[reducible] noncomputable def o215 (P : Params) : Obj := ⟨(.type "frame"), .none, .plain, #[(.some (.ref 214)), (.some (.ref 3)), (.some (.ref 211)), .none, (.some (.str (Str.ofString "cpy313.wsgiref.headers") 2416)), .none, (.some (.ref 0))]⟩
@[reducible] noncomputable def o216 (P : Params) : Obj := ⟨(.type "tuple"), .none, .seq #[.none] 0, #[]⟩
@[reducible] noncomputable def o217 (P : Params) : Obj := ⟨(.type "tuple"), .none, .seq #[] 0, #[]⟩
@[reducible] noncomputable def o218 (P : Params) : Obj := ⟨.none, .none, .fields #[], #[]⟩
@[reducible] noncomputable def o219 (P : Params) : Obj := ⟨(.type "tuple"), .none, .seq #[(.str (Str.ofString "self") 2537), (.str (Str.ofString "headers") 2538), (.str (Str.ofString "k") 2539), (.str (Str.ofString "v") 2540)] 0, #[]⟩
@[reducible] noncomputable def o220 (P : Params) : Obj := ⟨(.type "tuple"), .none, .seq #[] 0, #[]⟩
@[reducible] noncomputable def o221 (P : Params) : Obj := ⟨.none, .none, .func { name := (Str.ofString "__init__"), qualname := (Str.ofString "Headers.__init__"), params := p_15_0, body := .stmts b_15_0, scope := s_15_0, globals := 0, closure := [], defaults := .none, kwdefaults := .none, doc := .none, pyModule := .none, annotations := .none, code := .none, closureTuple := .none, builtins := 0 }, #[]⟩
@[reducible] noncomputable def o222 (P : Params) : Obj := ⟨(.type "code"), .none, .fields #[(.str (Str.ofString "__init__") 2534), (.str (Str.ofString "Headers.__init__") 2535), (.str (Str.ofString "/claim/cut.py") 2536), (.int 63 0), (.int 2 0), (.int 0 0), (.int 0 0), (.int 3 0), (.ref 217), (.bool true), (.int 276 0), (.ref 218), .none, (.ref 219), (.ref 220), (.ref 221), (.int 2541 0), (.int 63 0), (.str (Str.ofString "/claim/cut.py") 2542)], #[]⟩
@[reducible] noncomputable def o223 (P : Params) : Obj := ⟨(.type "function"), .none, .func { name := (Str.ofString "__init__"), qualname := (Str.ofString "Headers.__init__"), params := p_15_0, body := .stmts b_15_0, scope := s_15_0, globals := 3, closure := [], defaults := (.ref 216), kwdefaults := .none, doc := .none, pyModule := (.str (Str.ofString "cpy313.wsgiref.headers") 2416), annotations := .none, code := (.ref 222), closureTuple := .none, builtins := 0 }, #[]⟩
@[reducible] noncomputable def o224 (P : Params) : Obj := ⟨(.type "tuple"), .none, .seq #[] 0, #[]⟩
@[reducible] noncomputable def o225 (P : Params) : Obj := ⟨.none, .none, .fields #[], #[]⟩
@[reducible] noncomputable def o226 (P : Params) : Obj := ⟨(.type "tuple"), .none, .seq #[(.str (Str.ofString "self") 2547), (.str (Str.ofString "value") 2548), (.str (Str.ofString "name") 2549), (.str (Str.ofString "regex") 2550)] 0, #[]⟩
@[reducible] noncomputable def o227 (P : Params) : Obj := ⟨(.type "tuple"), .none, .seq #[] 0, #[]⟩
@[reducible] noncomputable def o228 (P : Params) : Obj := ⟨.none, .none, .func { name := (Str.ofString "_convert_string_type"), qualname := (Str.ofString "Headers._convert_string_type"), params := p_15_1, body := .stmts b_15_1, scope := s_15_1, globals := 0, closure := [], defaults := .none, kwdefaults := .none, doc := .none, pyModule := .none, annotations := .none, code := .none, closureTuple := .none, builtins := 0 }, #[]⟩
@[reducible] noncomputable def o229 (P : Params) : Obj := ⟨(.type "code"), .none, .fields #[(.str (Str.ofString "_convert_string_type") 2544), (.str (Str.ofString "Headers._convert_string_type") 2545), (.str (Str.ofString "/claim/cut.py") 2546), (.int 73 0), (.int 2 0), (.int 0 0), (.int 1 0), (.int 3 0), (.ref 224), (.bool true), (.int 276 0), (.ref 225), .none, (.ref 226), (.ref 227), (.ref 228), (.int 2551 0), (.int 73 0), (.str (Str.ofString "/claim/cut.py") 2552)], #[]⟩
@[reducible] noncomputable def o230 (P : Params) : Obj := ⟨(.type "function"), .none, .func { name := (Str.ofString "_convert_string_type"), qualname := (Str.ofString "Headers._convert_string_type"), params := p_15_1, body := .stmts b_15_1, scope := s_15_1, globals := 3, closure := [], defaults := .none, kwdefaults := .none, doc := .none, pyModule := (.str (Str.ofString "cpy313.wsgiref.headers") 2416), annotations := .none, code := (.ref 229), closureTuple := .none, builtins := 0 }, #[]⟩
@[reducible] noncomputable def o231 (P : Params) : Obj := ⟨(.type "tuple"), .none, .seq #[] 0, #[]⟩
@[reducible] noncomputable def o232 (P : Params) : Obj := ⟨.none, .none, .fields #[], #[]⟩
@[reducible] noncomputable def o233 (P : Params) : Obj := ⟨(.type "tuple"), .none, .seq #[(.str (Str.ofString "self") 2557)] 0, #[]⟩
@[reducible] noncomputable def o234 (P : Params) : Obj := ⟨(.type "tuple"), .none, .seq #[] 0, #[]⟩
@[reducible] noncomputable def o235 (P : Params) : Obj := ⟨.none, .none, .func { name := (Str.ofString "__len__"), qualname := (Str.ofString "Headers.__len__"), params := p_15_2, body := .stmts b_15_2, scope := s_15_2, globals := 0, closure := [], defaults := .none, kwdefaults := .none, doc := .none, pyModule := .none, annotations := .none, code := .none, closureTuple := .none, builtins := 0 }, #[]⟩
@[reducible] noncomputable def o236 (P : Params) : Obj := ⟨(.type "code"), .none, .fields #[(.str (Str.ofString "__len__") 2554), (.str (Str.ofString "Headers.__len__") 2555), (.str (Str.ofString "/claim/cut.py") 2556), (.int 81 0), (.int 1 0), (.int 0 0), (.int 0 0), (.int 3 0), (.ref 231), (.bool true), (.int 276 0), (.ref 232), .none, (.ref 233), (.ref 234), (.ref 235), (.int 2558 0), (.int 81 0), (.str (Str.ofString "/claim/cut.py") 2559)], #[]⟩
@[reducible] noncomputable def o237 (P : Params) : Obj := ⟨(.type "function"), .none, .func { name := (Str.ofString "__len__"), qualname := (Str.ofString "Headers.__len__"), params := p_15_2, body := .stmts b_15_2, scope := s_15_2, globals := 3, closure := [], defaults := .none, kwdefaults := .none, doc := .none, pyModule := (.str (Str.ofString "cpy313.wsgiref.headers") 2416), annotations := .none, code := (.ref 236), closureTuple := .none, builtins := 0 }, #[]⟩
@[reducible] noncomputable def o238 (P : Params) : Obj := ⟨(.type "tuple"), .none, .seq #[] 0, #[]⟩
@[reducible] noncomputable def o239 (P : Params) : Obj := ⟨.none, .none, .fields #[], #[]⟩
@[reducible] noncomputable def o240 (P : Params) : Obj := ⟨(.type "tuple"), .none, .seq #[(.str (Str.ofString "self") 2564), (.str (Str.ofString "name") 2565), (.str (Str.ofString "val") 2566)] 0, #[]⟩
@[reducible] noncomputable def o241 (P : Params) : Obj := ⟨(.type "tuple"), .none, .seq #[] 0, #[]⟩
@[reducible] noncomputable def o242 (P : Params) : Obj := ⟨.none, .none, .func { name := (Str.ofString "__setitem__"), qualname := (Str.ofString "Headers.__setitem__"), params := p_15_3, body := .stmts b_15_3, scope := s_15_3, globals := 0, closure := [], defaults := .none, kwdefaults := .none, doc := .none, pyModule := .none, annotations := .none, code := .none, closureTuple := .none, builtins := 0 }, #[]⟩
@[reducible] noncomputable def o243 (P : Params) : Obj := ⟨(.type "code"), .none, .fields #[(.str (Str.ofString "__setitem__") 2561), (.str (Str.ofString "Headers.__setitem__") 2562), (.str (Str.ofString "/claim/cut.py") 2563), (.int 84 0), (.int 3 0), (.int 0 0), (.int 0 0), (.int 3 0), (.ref 238), (.bool true), (.int 276 0), (.ref 239), .none, (.ref 240), (.ref 241), (.ref 242), (.int 2567 0), (.int 84 0), (.str (Str.ofString "/claim/cut.py") 2568)], #[]⟩
@[reducible] noncomputable def o244 (P : Params) : Obj := ⟨(.type "function"), .none, .func { name := (Str.ofString "__setitem__"), qualname := (Str.ofString "Headers.__setitem__"), params := p_15_3, body := .stmts b_15_3, scope := s_15_3, globals := 3, closure := [], defaults := .none, kwdefaults := .none, doc := .none, pyModule := (.str (Str.ofString "cpy313.wsgiref.headers") 2416), annotations := .none, code := (.ref 243), closureTuple := .none, builtins := 0 }, #[]⟩
@[reducible] noncomputable def o245 (P : Params) : Obj := ⟨(.type "tuple"), .none, .seq #[] 0, #[]⟩
@[reducible] noncomputable def o246 (P : Params) : Obj := ⟨.none, .none, .fields #[], #[]⟩
@[reducible] noncomputable def o247 (P : Params) : Obj := ⟨.none, .none, .func { name := (Str.ofString "__delitem__"), qualname := (Str.ofString "Headers.__delitem__"), params := p_15_4, body := .stmts b_15_4, scope := s_15_4, globals := 0, closure := [], defaults := .none, kwdefaults := .none, doc := .none, pyModule := .none, annotations := .none, code := .none, closureTuple := .none, builtins := 0 }, #[]⟩
@[reducible] noncomputable def o248 (P : Params) : Obj := ⟨(.type "code"), .none, .fields #[(.str (Str.ofString "__delitem__") 2570), (.str (Str.ofString "Headers.__delitem__") 2571), (.str (Str.ofString "/claim/cut.py") 2572), (.int 88 0), (.int 2 0), (.int 0 0), (.int 0 0), (.int 3 0), (.ref 245), (.bool true), (.int 276 0), (.ref 246), .none, .none, .none, (.ref 247), (.int 2573 0), (.int 88 0), (.str (Str.ofString "/claim/cut.py") 2574)], #[]⟩
@[reducible] noncomputable def o249 (P : Params) : Obj := ⟨(.type "function"), .none, .func { name := (Str.ofString "__delitem__"), qualname := (Str.ofString "Headers.__delitem__"), params := p_15_4, body := .stmts b_15_4, scope := s_15_4, globals := 3, closure := [], defaults := .none, kwdefaults := .none, doc := .none, pyModule := (.str (Str.ofString "cpy313.wsgiref.headers") 2416), annotations := .none, code := (.ref 248), closureTuple := .none, builtins := 0 }, #[]⟩
@[reducible] noncomputable def o250 (P : Params) : Obj := ⟨(.type "tuple"), .none, .seq #[] 0, #[]⟩
@[reducible] noncomputable def o251 (P : Params) : Obj := ⟨.none, .none, .fields #[], #[]⟩
@[reducible] noncomputable def o252 (P : Params) : Obj := ⟨(.type "tuple"), .none, .seq #[(.str (Str.ofString "self") 2579), (.str (Str.ofString "name") 2580)] 0, #[]⟩
@[reducible] noncomputable def o253 (P : Params) : Obj := ⟨(.type "tuple"), .none, .seq #[] 0, #[]⟩
@[reducible] noncomputable def o254 (P : Params) : Obj := ⟨.none, .none, .func { name := (Str.ofString "__getitem__"), qualname := (Str.ofString "Headers.__getitem__"), params := p_15_5, body := .stmts b_15_5, scope := s_15_5, globals := 0, closure := [], defaults := .none, kwdefaults := .none, doc := .none, pyModule := .none, annotations := .none, code := .none, closureTuple := .none, builtins := 0 }, #[]⟩
@[reducible] noncomputable def o255 (P : Params) : Obj := ⟨(.type "code"), .none, .fields #[(.str (Str.ofString "__getitem__") 2576), (.str (Str.ofString "Headers.__getitem__") 2577), (.str (Str.ofString "/claim/cut.py") 2578), (.int 92 0), (.int 2 0), (.int 0 0), (.int 0 0), (.int 3 0), (.ref 250), (.bool true), (.int 276 0), (.ref 251), .none, (.ref 252), (.ref 253), (.ref 254), (.int 2581 0), (.int 92 0), (.str (Str.ofString "/claim/cut.py") 2582)], #[]⟩
@[reducible] noncomputable def o256 (P : Params) : Obj := ⟨(.type "function"), .none, .func { name := (Str.ofString "__getitem__"), qualname := (Str.ofString "Headers.__getitem__"), params := p_15_5, body := .stmts b_15_5, scope := s_15_5, globals := 3, closure := [], defaults := .none, kwdefaults := .none, doc := .none, pyModule := (.str (Str.ofString "cpy313.wsgiref.headers") 2416), annotations := .none, code := (.ref 255), closureTuple := .none, builtins := 0 }, #[]⟩
@[reducible] noncomputable def o257 (P : Params) : Obj := ⟨(.type "tuple"), .none, .seq #[] 0, #[]⟩
@[reducible] noncomputable def o258 (P : Params) : Obj := ⟨.none, .none, .fields #[], #[]⟩
@[reducible] noncomputable def o259 (P : Params) : Obj := ⟨(.type "tuple"), .none, .seq #[(.str (Str.ofString "self") 2587), (.str (Str.ofString "name") 2588)] 0, #[]⟩
@[reducible] noncomputable def o260 (P : Params) : Obj := ⟨(.type "tuple"), .none, .seq #[] 0, #[]⟩
@[reducible] noncomputable def o261 (P : Params) : Obj := ⟨.none, .none, .func { name := (Str.ofString "__contains__"), qualname := (Str.ofString "Headers.__contains__"), params := p_15_6, body := .stmts b_15_6, scope := s_15_6, globals := 0, closure := [], defaults := .none, kwdefaults := .none, doc := .none, pyModule := .none, annotations := .none, code := .none, closureTuple := .none, builtins := 0 }, #[]⟩
@[reducible] noncomputable def o262 (P : Params) : Obj := ⟨(.type "code"), .none, .fields #[(.str (Str.ofString "__contains__") 2584), (.str (Str.ofString "Headers.__contains__") 2585), (.str (Str.ofString "/claim/cut.py") 2586), (.int 95 0), (.int 2 0), (.int 0 0), (.int 0 0), (.int 3 0), (.ref 257), (.bool true), (.int 276 0), (.ref 258), .none, (.ref 259), (.ref 260), (.ref 261), (.int 2589 0), (.int 95 0), (.str (Str.ofString "/claim/cut.py") 2590)], #[]⟩
@[reducible] noncomputable def o263 (P : Params) : Obj := ⟨(.type "function"), .none, .func { name := (Str.ofString "__contains__"), qualname := (Str.ofString "Headers.__contains__"), params := p_15_6, body := .stmts b_15_6, scope := s_15_6, globals := 3, closure := [], defaults := .none, kwdefaults := .none, doc := .none, pyModule := (.str (Str.ofString "cpy313.wsgiref.headers") 2416), annotations := .none, code := (.ref 262), closureTuple := .none, builtins := 0 }, #[]⟩
@[reducible] noncomputable def o264 (P : Params) : Obj := ⟨(.type "tuple"), .none, .seq #[] 0, #[]⟩
@[reducible] noncomputable def o265 (P : Params) : Obj := ⟨.none, .none, .fields #[], #[]⟩
@[reducible] noncomputable def o266 (P : Params) : Obj := ⟨.none, .none, .func { name := (Str.ofString "get_all"), qualname := (Str.ofString "Headers.get_all"), params := p_15_7, body := .stmts b_15_7, scope := s_15_7, globals := 0, closure := [], defaults := .none, kwdefaults := .none, doc := .none, pyModule := .none, annotations := .none, code := .none, closureTuple := .none, builtins := 0 }, #[]⟩
@[reducible] noncomputable def o267 (P : Params) : Obj := ⟨(.type "code"), .none, .fields #[(.str (Str.ofString "get_all") 2592), (.str (Str.ofString "Headers.get_all") 2593), (.str (Str.ofString "/claim/cut.py") 2594), (.int 98 0), (.int 2 0), (.int 0 0), (.int 0 0), (.int 3 0), (.ref 264), (.bool true), (.int 276 0), (.ref 265), .none, .none, .none, (.ref 266), (.int 2595 0), (.int 98 0), (.str (Str.ofString "/claim/cut.py") 2596)], #[]⟩
@[reducible] noncomputable def o268 (P : Params) : Obj := ⟨(.type "function"), .none, .func { name := (Str.ofString "get_all"), qualname := (Str.ofString "Headers.get_all"), params := p_15_7, body := .stmts b_15_7, scope := s_15_7, globals := 3, closure := [], defaults := .none, kwdefaults := .none, doc := .none, pyModule := (.str (Str.ofString "cpy313.wsgiref.headers") 2416), annotations := .none, code := (.ref 267), closureTuple := .none, builtins := 0 }, #[]⟩
@[reducible] noncomputable def o269 (P : Params) : Obj := ⟨(.type "tuple"), .none, .seq #[.none] 0, #[]⟩
@[reducible] noncomputable def o270 (P : Params) : Obj := ⟨(.type "tuple"), .none, .seq #[] 0, #[]⟩
@[reducible] noncomputable def o271 (P : Params) : Obj := ⟨.none, .none, .fields #[], #[]⟩
@[reducible] noncomputable def o272 (P : Params) : Obj := ⟨(.type "tuple"), .none, .seq #[(.str (Str.ofString "self") 2601), (.str (Str.ofString "name") 2602), (.str (Str.ofString "default") 2603), (.str (Str.ofString "k") 2604), (.str (Str.ofString "v") 2605)] 0, #[]⟩
@[reducible] noncomputable def o273 (P : Params) : Obj := ⟨(.type "tuple"), .none, .seq #[] 0, #[]⟩
@[reducible] noncomputable def o274 (P : Params) : Obj := ⟨.none, .none, .func { name := (Str.ofString "get"), qualname := (Str.ofString "Headers.get"), params := p_15_8, body := .stmts b_15_8, scope := s_15_8, globals := 0, closure := [], defaults := .none, kwdefaults := .none, doc := .none, pyModule := .none, annotations := .none, code := .none, closureTuple := .none, builtins := 0 }, #[]⟩
@[reducible] noncomputable def o275 (P : Params) : Obj := ⟨(.type "code"), .none, .fields #[(.str (Str.ofString "get") 2598), (.str (Str.ofString "Headers.get") 2599), (.str (Str.ofString "/claim/cut.py") 2600), (.int 102 0), (.int 3 0), (.int 0 0), (.int 0 0), (.int 3 0), (.ref 270), (.bool true), (.int 276 0), (.ref 271), .none, (.ref 272), (.ref 273), (.ref 274), (.int 2606 0), (.int 102 0), (.str (Str.ofString "/claim/cut.py") 2607)], #[]⟩
@[reducible] noncomputable def o276 (P : Params) : Obj := ⟨(.type "function"), .none, .func { name := (Str.ofString "get"), qualname := (Str.ofString "Headers.get"), params := p_15_8, body := .stmts b_15_8, scope := s_15_8, globals := 3, closure := [], defaults := (.ref 269), kwdefaults := .none, doc := .none, pyModule := (.str (Str.ofString "cpy313.wsgiref.headers") 2416), annotations := .none, code := (.ref 275), closureTuple := .none, builtins := 0 }, #[]⟩
@[reducible] noncomputable def o277 (P : Params) : Obj := ⟨(.type "tuple"), .none, .seq #[] 0, #[]⟩
@[reducible] noncomputable def o278 (P : Params) : Obj := ⟨.none, .none, .fields #[], #[]⟩
@[reducible] noncomputable def o279 (P : Params) : Obj := ⟨.none, .none, .func { name := (Str.ofString "keys"), qualname := (Str.ofString "Headers.keys"), params := p_15_9, body := .stmts b_15_9, scope := s_15_9, globals := 0, closure := [], defaults := .none, kwdefaults := .none, doc := .none, pyModule := .none, annotations := .none, code := .none, closureTuple := .none, builtins := 0 }, #[]⟩
@[reducible] noncomputable def o280 (P : Params) : Obj := ⟨(.type "code"), .none, .fields #[(.str (Str.ofString "keys") 2609), (.str (Str.ofString "Headers.keys") 2610), (.str (Str.ofString "/claim/cut.py") 2611), (.int 109 0), (.int 1 0), (.int 0 0), (.int 0 0), (.int 3 0), (.ref 277), (.bool true), (.int 276 0), (.ref 278), .none, .none, .none, (.ref 279), (.int 2612 0), (.int 109 0), (.str (Str.ofString "/claim/cut.py") 2613)], #[]⟩
@[reducible] noncomputable def o281 (P : Params) : Obj := ⟨(.type "function"), .none, .func { name := (Str.ofString "keys"), qualname := (Str.ofString "Headers.keys"), params := p_15_9, body := .stmts b_15_9, scope := s_15_9, globals := 3, closure := [], defaults := .none, kwdefaults := .none, doc := .none, pyModule := (.str (Str.ofString "cpy313.wsgiref.headers") 2416), annotations := .none, code := (.ref 280), closureTuple := .none, builtins := 0 }, #[]⟩
@[reducible] noncomputable def o282 (P : Params) : Obj := ⟨(.type "tuple"), .none, .seq #[] 0, #[]⟩
@[reducible] noncomputable def o283 (P : Params) : Obj := ⟨.none, .none, .fields #[], #[]⟩
@[reducible] noncomputable def o284 (P : Params) : Obj := ⟨.none, .none, .func { name := (Str.ofString "values"), qualname := (Str.ofString "Headers.values"), params := p_15_10, body := .stmts b_15_10, scope := s_15_10, globals := 0, closure := [], defaults := .none, kwdefaults := .none, doc := .none, pyModule := .none, annotations := .none, code := .none, closureTuple := .none, builtins := 0 }, #[]⟩
@[reducible] noncomputable def o285 (P : Params) : Obj := ⟨(.type "code"), .none, .fields #[(.str (Str.ofString "values") 2615), (.str (Str.ofString "Headers.values") 2616), (.str (Str.ofString "/claim/cut.py") 2617), (.int 112 0), (.int 1 0), (.int 0 0), (.int 0 0), (.int 3 0), (.ref 282), (.bool true), (.int 276 0), (.ref 283), .none, .none, .none, (.ref 284), (.int 2618 0), (.int 112 0), (.str (Str.ofString "/claim/cut.py") 2619)], #[]⟩
@[reducible] noncomputable def o286 (P : Params) : Obj := ⟨(.type "function"), .none, .func { name := (Str.ofString "values"), qualname := (Str.ofString "Headers.values"), params := p_15_10, body := .stmts b_15_10, scope := s_15_10, globals := 3, closure := [], defaults := .none, kwdefaults := .none, doc := .none, pyModule := (.str (Str.ofString "cpy313.wsgiref.headers") 2416), annotations := .none, code := (.ref 285), closureTuple := .none, builtins := 0 }, #[]⟩
@[reducible] noncomputable def o287 (P : Params) : Obj := ⟨(.type "tuple"), .none, .seq #[] 0, #[]⟩
@[reducible] noncomputable def o288 (P : Params) : Obj := ⟨.none, .none, .fields #[], #[]⟩
@[reducible] noncomputable def o289 (P : Params) : Obj := ⟨(.type "tuple"), .none, .seq #[(.str (Str.ofString "self") 2624)] 0, #[]⟩
@[reducible] noncomputable def o290 (P : Params) : Obj := ⟨(.type "tuple"), .none, .seq #[] 0, #[]⟩
@[reducible] noncomputable def o291 (P : Params) : Obj := ⟨.none, .none, .func { name := (Str.ofString "items"), qualname := (Str.ofString "Headers.items"), params := p_15_11, body := .stmts b_15_11, scope := s_15_11, globals := 0, closure := [], defaults := .none, kwdefaults := .none, doc := .none, pyModule := .none, annotations := .none, code := .none, closureTuple := .none, builtins := 0 }, #[]⟩
@[reducible] noncomputable def o292 (P : Params) : Obj := ⟨(.type "code"), .none, .fields #[(.str (Str.ofString "items") 2621), (.str (Str.ofString "Headers.items") 2622), (.str (Str.ofString "/claim/cut.py") 2623), (.int 115 0), (.int 1 0), (.int 0 0), (.int 0 0), (.int 3 0), (.ref 287), (.bool true), (.int 276 0), (.ref 288), .none, (.ref 289), (.ref 290), (.ref 291), (.int 2625 0), (.int 115 0), (.str (Str.ofString "/claim/cut.py") 2626)], #[]⟩
@[reducible] noncomputable def o293 (P : Params) : Obj := ⟨(.type "function"), .none, .func { name := (Str.ofString "items"), qualname := (Str.ofString "Headers.items"), params := p_15_11, body := .stmts b_15_11, scope := s_15_11, globals := 3, closure := [], defaults := .none, kwdefaults := .none, doc := .none, pyModule := (.str (Str.ofString "cpy313.wsgiref.headers") 2416), annotations := .none, code := (.ref 292), closureTuple := .none, builtins := 0 }, #[]⟩
@[reducible] noncomputable def o294 (P : Params) : Obj := ⟨(.type "tuple"), .none, .seq #[] 0, #[]⟩
@[reducible] noncomputable def o295 (P : Params) : Obj := ⟨.none, .none, .fields #[], #[]⟩
@[reducible] noncomputable def o296 (P : Params) : Obj := ⟨(.type "tuple"), .none, .seq #[(.str (Str.ofString "self") 2631)] 0, #[]⟩
@[reducible] noncomputable def o297 (P : Params) : Obj := ⟨(.type "tuple"), .none, .seq #[] 0, #[]⟩
@[reducible] noncomputable def o298 (P : Params) : Obj := ⟨.none, .none, .func { name := (Str.ofString "__repr__"), qualname := (Str.ofString "Headers.__repr__"), params := p_15_12, body := .stmts b_15_12, scope := s_15_12, globals := 0, closure := [], defaults := .none, kwdefaults := .none, doc := .none, pyModule := .none, annotations := .none, code := .none, closureTuple := .none, builtins := 0 }, #[]⟩
@[reducible] noncomputable def o299 (P : Params) : Obj := ⟨(.type "code"), .none, .fields #[(.str (Str.ofString "__repr__") 2628), (.str (Str.ofString "Headers.__repr__") 2629), (.str (Str.ofString "/claim/cut.py") 2630), (.int 118 0), (.int 1 0), (.int 0 0), (.int 0 0), (.int 3 0), (.ref 294), (.bool true), (.int 276 0), (.ref 295), .none, (.ref 296), (.ref 297), (.ref 298), (.int 2632 0), (.int 118 0), (.str (Str.ofString "/claim/cut.py") 2633)], #[]⟩
@[reducible] noncomputable def o300 (P : Params) : Obj := ⟨(.type "function"), .none, .func { name := (Str.ofString "__repr__"), qualname := (Str.ofString "Headers.__repr__"), params := p_15_12, body := .stmts b_15_12, scope := s_15_12, globals := 3, closure := [], defaults := .none, kwdefaults := .none, doc := .none, pyModule := (.str (Str.ofString "cpy313.wsgiref.headers") 2416), annotations := .none, code := (.ref 299), closureTuple := .none, builtins := 0 }, #[]⟩
@[reducible] noncomputable def o301 (P : Params) : Obj := ⟨(.type "tuple"), .none, .seq #[] 0, #[]⟩
@[reducible] noncomputable def o302 (P : Params) : Obj := ⟨.none, .none, .fields #[], #[]⟩
@[reducible] noncomputable def o303 (P : Params) : Obj := ⟨.none, .none, .func { name := (Str.ofString "__str__"), qualname := (Str.ofString "Headers.__str__"), params := p_15_13, body := .stmts b_15_13, scope := s_15_13, globals := 0, closure := [], defaults := .none, kwdefaults := .none, doc := .none, pyModule := .none, annotations := .none, code := .none, closureTuple := .none, builtins := 0 }, #[]⟩
@[reducible] noncomputable def o304 (P : Params) : Obj := ⟨(.type "code"), .none, .fields #[(.str (Str.ofString "__str__") 2635), (.str (Str.ofString "Headers.__str__") 2636), (.str (Str.ofString "/claim/cut.py") 2637), (.int 121 0), (.int 1 0), (.int 0 0), (.int 0 0), (.int 3 0), (.ref 301), (.bool true), (.int 276 0), (.ref 302), .none, .none, .none, (.ref 303), (.int 2638 0), (.int 121 0), (.str (Str.ofString "/claim/cut.py") 2639)], #[]⟩
@[reducible] noncomputable def o305 (P : Params) : Obj := ⟨(.type "function"), .none, .func { name := (Str.ofString "__str__"), qualname := (Str.ofString "Headers.__str__"), params := p_15_13, body := .stmts b_15_13, scope := s_15_13, globals := 3, closure := [], defaults := .none, kwdefaults := .none, doc := .none, pyModule := (.str (Str.ofString "cpy313.wsgiref.headers") 2416), annotations := .none, code := (.ref 304), closureTuple := .none, builtins := 0 }, #[]⟩
@[reducible] noncomputable def o306 (P : Params) : Obj := ⟨(.type "tuple"), .none, .seq #[] 0, #[]⟩
@[reducible] noncomputable def o307 (P : Params) : Obj := ⟨.none, .none, .fields #[], #[]⟩
@[reducible] noncomputable def o308 (P : Params) : Obj := ⟨(.type "tuple"), .none, .seq #[(.str (Str.ofString "self") 2644)] 0, #[]⟩
@[reducible] noncomputable def o309 (P : Params) : Obj := ⟨(.type "tuple"), .none, .seq #[] 0, #[]⟩
@[reducible] noncomputable def o310 (P : Params) : Obj := ⟨.none, .none, .func { name := (Str.ofString "__bytes__"), qualname := (Str.ofString "Headers.__bytes__"), params := p_15_14, body := .stmts b_15_14, scope := s_15_14, globals := 0, closure := [], defaults := .none, kwdefaults := .none, doc := .none, pyModule := .none, annotations := .none, code := .none, closureTuple := .none, builtins := 0 }, #[]⟩
@[reducible] noncomputable def o311 (P : Params) : Obj := ⟨(.type "code"), .none, .fields #[(.str (Str.ofString "__bytes__") 2641), (.str (Str.ofString "Headers.__bytes__") 2642), (.str (Str.ofString "/claim/cut.py") 2643), (.int 124 0), (.int 1 0), (.int 0 0), (.int 0 0), (.int 3 0), (.ref 306), (.bool true), (.int 276 0), (.ref 307), .none, (.ref 308), (.ref 309), (.ref 310), (.int 2645 0), (.int 124 0), (.str (Str.ofString "/claim/cut.py") 2646)], #[]⟩
@[reducible] noncomputable def o312 (P : Params) : Obj := ⟨(.type "function"), .none, .func { name := (Str.ofString "__bytes__"), qualname := (Str.ofString "Headers.__bytes__"), params := p_15_14, body := .stmts b_15_14, scope := s_15_14, globals := 3, closure := [], defaults := .none, kwdefaults := .none, doc := .none, pyModule := (.str (Str.ofString "cpy313.wsgiref.headers") 2416), annotations := .none, code := (.ref 311), closureTuple := .none, builtins := 0 }, #[]⟩
@[reducible] noncomputable def o313 (P : Params) : Obj := ⟨(.type "tuple"), .none, .seq #[] 0, #[]⟩
@[reducible] noncomputable def o314 (P : Params) : Obj := ⟨.none, .none, .fields #[], #[]⟩
@[reducible] noncomputable def o315 (P : Params) : Obj := ⟨(.type "tuple"), .none, .seq #[(.str (Str.ofString "self") 2651), (.str (Str.ofString "name") 2652), (.str (Str.ofString "value") 2653)] 0, #[]⟩
@[reducible] noncomputable def o316 (P : Params) : Obj := ⟨(.type "tuple"), .none, .seq #[] 0, #[]⟩
@[reducible] noncomputable def o317 (P : Params) : Obj := ⟨.none, .none, .func { name := (Str.ofString "setdefault"), qualname := (Str.ofString "Headers.setdefault"), params := p_15_15, body := .stmts b_15_15, scope := s_15_15, globals := 0, closure := [], defaults := .none, kwdefaults := .none, doc := .none, pyModule := .none, annotations := .none, code := .none, closureTuple := .none, builtins := 0 }, #[]⟩
@[reducible] noncomputable def o318 (P : Params) : Obj := ⟨(.type "code"), .none, .fields #[(.str (Str.ofString "setdefault") 2648), (.str (Str.ofString "Headers.setdefault") 2649), (.str (Str.ofString "/claim/cut.py") 2650), (.int 127 0), (.int 3 0), (.int 0 0), (.int 0 0), (.int 3 0), (.ref 313), (.bool true), (.int 276 0), (.ref 314), .none, (.ref 315), (.ref 316), (.ref 317), (.int 2654 0), (.int 127 0), (.str (Str.ofString "/claim/cut.py") 2655)], #[]⟩
@[reducible] noncomputable def o319 (P : Params) : Obj := ⟨(.type "function"), .none, .func { name := (Str.ofString "setdefault"), qualname := (Str.ofString "Headers.setdefault"), params := p_15_15, body := .stmts b_15_15, scope := s_15_15, globals := 3, closure := [], defaults := .none, kwdefaults := .none, doc := .none, pyModule := (.str (Str.ofString "cpy313.wsgiref.headers") 2416), annotations := .none, code := (.ref 318), closureTuple := .none, builtins := 0 }, #[]⟩
@[reducible] noncomputable def o320 (P : Params) : Obj := ⟨(.type "tuple"), .none, .seq #[] 0, #[]⟩
@[reducible] noncomputable def o321 (P : Params) : Obj := ⟨.none, .none, .fields #[], #[]⟩
@[reducible] noncomputable def o322 (P : Params) : Obj := ⟨(.type "tuple"), .none, .seq #[(.str (Str.ofString "self") 2660), (.str (Str.ofString "_name") 2661), (.str (Str.ofString "_value") 2662), (.str (Str.ofString "_params") 2663), (.str (Str.ofString "parts") 2664), (.str (Str.ofString "k") 2665), (.str (Str.ofString "v") 2666)] 0, #[]⟩
@[reducible] noncomputable def o323 (P : Params) : Obj := ⟨(.type "tuple"), .none, .seq #[] 0, #[]⟩
@[reducible] noncomputable def o324 (P : Params) : Obj := ⟨.none, .none, .func { name := (Str.ofString "add_header"), qualname := (Str.ofString "Headers.add_header"), params := p_15_16, body := .stmts b_15_16, scope := s_15_16, globals := 0, closure := [], defaults := .none, kwdefaults := .none, doc := .none, pyModule := .none, annotations := .none, code := .none, closureTuple := .none, builtins := 0 }, #[]⟩
@[reducible] noncomputable def o325 (P : Params) : Obj := ⟨(.type "code"), .none, .fields #[(.str (Str.ofString "add_header") 2657), (.str (Str.ofString "Headers.add_header") 2658), (.str (Str.ofString "/claim/cut.py") 2659), (.int 130 0), (.int 3 0), (.int 0 0), (.int 0 0), (.int 11 0), (.ref 320), (.bool true), (.int 276 0), (.ref 321), .none, (.ref 322), (.ref 323), (.ref 324), (.int 2667 0), (.int 130 0), (.str (Str.ofString "/claim/cut.py") 2668)], #[]⟩
@[reducible] noncomputable def o326 (P : Params) : Obj := ⟨(.type "function"), .none, .func { name := (Str.ofString "add_header"), qualname := (Str.ofString "Headers.add_header"), params := p_15_16, body := .stmts b_15_16, scope := s_15_16, globals := 3, closure := [], defaults := .none, kwdefaults := .none, doc := .none, pyModule := (.str (Str.ofString "cpy313.wsgiref.headers") 2416), annotations := .none, code := (.ref 325), closureTuple := .none, builtins := 0 }, #[]⟩
@[reducible] noncomputable def o327 (P : Params) : Obj := ⟨(.type "tuple"), .none, .seq #[(.str (Str.ofString "_headers") 2670)] 0, #[]⟩
@[reducible] noncomputable def o328 (P : Params) : Obj := ⟨(.type "dict"), .none, .dict (List.toArray [⟨(PyData.keyHash P (Str.ofString "__module__")), (.str (Str.ofString "__module__") 2529), (.str (Str.ofString "cpy313.wsgiref.headers") 2416)⟩, ⟨(PyData.keyHash P (Str.ofString "__firstlineno__")), (.str (Str.ofString "__firstlineno__") 2533), (.int 61 2532)⟩, ⟨(PyData.keyHash P (Str.ofString "__init__")), (.str (Str.ofString "__init__") 2543), (.ref 223)⟩, ⟨(PyData.keyHash P (Str.ofString "_convert_string_type")), (.str (Str.ofString "_convert_string_type") 2553), (.ref 230)⟩, ⟨(PyData.keyHash P (Str.ofString "__len__")), (.str (Str.ofString "__len__") 2560), (.ref 237)⟩, ⟨(PyData.keyHash P (Str.ofString "__setitem__")), (.str (Str.ofString "__setitem__") 2569), (.ref 244)⟩, ⟨(PyData.keyHash P (Str.ofString "__delitem__")), (.str (Str.ofString "__delitem__") 2575), (.ref 249)⟩, ⟨(PyData.keyHash P (Str.ofString "__getitem__")), (.str (Str.ofString "__getitem__") 2583), (.ref 256)⟩, ⟨(PyData.keyHash P (Str.ofString "__contains__")), (.str (Str.ofString "__contains__") 2591), (.ref 263)⟩, ⟨(PyData.keyHash P (Str.ofString "get_all")), (.str (Str.ofString "get_all") 2597), (.ref 268)⟩, ⟨(PyData.keyHash P (Str.ofString "get")), (.str (Str.ofString "get") 2608), (.ref 276)⟩, ⟨(PyData.keyHash P (Str.ofString "keys")), (.str (Str.ofString "keys") 2614), (.ref 281)⟩, ⟨(PyData.keyHash P (Str.ofString "values")), (.str (Str.ofString "values") 2620), (.ref 286)⟩, ⟨(PyData.keyHash P (Str.ofString "items")), (.str (Str.ofString "items") 2627), (.ref 293)⟩, ⟨(PyData.keyHash P (Str.ofString "__repr__")), (.str (Str.ofString "__repr__") 2634), (.ref 300)⟩, ⟨(PyData.keyHash P (Str.ofString "__str__")), (.str (Str.ofString "__str__") 2640), (.ref 305)⟩, ⟨(PyData.keyHash P (Str.ofString "__bytes__")), (.str (Str.ofString "__bytes__") 2647), (.ref 312)⟩, ⟨(PyData.keyHash P (Str.ofString "setdefault")), (.str (Str.ofString "setdefault") 2656), (.ref 319)⟩, ⟨(PyData.keyHash P (Str.ofString "add_header")), (.str (Str.ofString "add_header") 2669), (.ref 326)⟩, ⟨(PyData.keyHash P (Str.ofString "__static_attributes__")), (.str (Str.ofString "__static_attributes__") 2671), (.ref 327)⟩, ⟨(PyData.keyHash P (Str.ofString "__dict__")), (.str (Str.ofString "__dict__") 2673), (.ref 330)⟩, ⟨(PyData.keyHash P (Str.ofString "__weakref__")), (.str (Str.ofString "__weakref__") 2675), (.ref 331)⟩, ⟨(PyData.keyHash P (Str.ofString "__doc__")), (.str (Str.ofString "__doc__") 2676), .none⟩]) 4, #[]⟩
@[reducible] noncomputable def o329 (P : Params) : Obj := ⟨(.type "type"), .none, .cls { name := (Str.ofString "Headers"), bases := [(.type "object")], mro := [(.ref 329), (.type "object")], ns := 328, qualname := (Str.ofString "Headers"), hasDict := true, slotNames := [], subclasses := [], abstract := false, collection := .none, hasDel := false }, #[.none, .none, (.some (.str (Str.ofString "Headers") 2522)), (.some (.str (Str.ofString "Headers") 2530)), (.some (.builtin "object.__new__")), (.some (.bool true))]⟩
@[reducible] noncomputable def o330 (P : Params) : Obj := ⟨(.type "getset_descriptor"), .none, .fields #[(.str (Str.ofString "__dict__") 2672), (.ref 329), (.builtin "function.__dict__"), (.builtin "function.__dict__#set")], #[]⟩
@[reducible] noncomputable def o331 (P : Params) : Obj := ⟨(.type "getset_descriptor"), .none, .fields #[(.str (Str.ofString "__weakref__") 2674), (.ref 329), (.builtin "ExceptionGroup.__weakref__"), .none], #[]⟩
@[reducible] noncomputable def o332 (P : Params) : Obj := ⟨(.type "super"), .none, .fields #[(.ref 329), (.ref 329), (.ref 329)], #[]⟩
@[reducible] noncomputable def o333 (P : Params) : Obj := ⟨(.type "builtin_function_or_method"), .none, .fields #[(.builtin "object.__init_subclass__"), (.ref 329)], #[]⟩
@[reducible] noncomputable def o334 (P : Params) : Obj := ⟨(.type "tuple"), .none, .seq #[] 0, #[]⟩
@[reducible] noncomputable def o335 (P : Params) : Obj := ⟨.none, .none, .fields #[], #[]⟩
@[reducible] noncomputable def o336 (P : Params) : Obj := ⟨.none, .none, .func { name := (Str.ofString "_law_word"), qualname := (Str.ofString "_law_word"), params := p_17, body := .stmts b_17, scope := s_17, globals := 0, closure := [], defaults := .none, kwdefaults := .none, doc := .none, pyModule := .none, annotations := .none, code := .none, closureTuple := .none, builtins := 0 }, #[]⟩
@[reducible] noncomputable def o337 (P : Params) : Obj := ⟨(.type "code"), .none, .fields #[(.str (Str.ofString "_law_word") 2681), (.str (Str.ofString "_law_word") 2682), (.str (Str.ofString "/claim/cut.py") 2683), (.int 144 0), (.int 2 0), (.int 0 0), (.int 0 0), (.int 3 0), (.ref 334), (.bool true), (.int 276 0), (.ref 335), .none, .none, .none, (.ref 336), (.int 2684 0), (.int 144 0), (.str (Str.ofString "/claim/cut.py") 2685)], #[]⟩
@[reducible] noncomputable def o338 (P : Params) : Obj := ⟨(.type "function"), .none, .func { name := (Str.ofString "_law_word"), qualname := (Str.ofString "_law_word"), params := p_17, body := .stmts b_17, scope := s_17, globals := 3, closure := [], defaults := .none, kwdefaults := .none, doc := .none, pyModule := (.str (Str.ofString "law_wc0029_01") 2679), annotations := .none, code := (.ref 337), closureTuple := .none, builtins := 0 }, #[]⟩
@[reducible] noncomputable def o339 (P : Params) : Obj := ⟨(.type "tuple"), .none, .seq #[] 0, #[]⟩
@[reducible] noncomputable def o340 (P : Params) : Obj := ⟨.none, .none, .fields #[], #[]⟩
@[reducible] noncomputable def o341 (P : Params) : Obj := ⟨.none, .none, .func { name := (Str.ofString "_law_code"), qualname := (Str.ofString "_law_code"), params := p_18, body := .stmts b_18, scope := s_18, globals := 0, closure := [], defaults := .none, kwdefaults := .none, doc := .none, pyModule := .none, annotations := .none, code := .none, closureTuple := .none, builtins := 0 }, #[]⟩
@[reducible] noncomputable def o342 (P : Params) : Obj := ⟨(.type "code"), .none, .fields #[(.str (Str.ofString "_law_code") 2687), (.str (Str.ofString "_law_code") 2688), (.str (Str.ofString "/claim/cut.py") 2689), (.int 147 0), (.int 1 0), (.int 0 0), (.int 0 0), (.int 3 0), (.ref 339), (.bool true), (.int 276 0), (.ref 340), .none, .none, .none, (.ref 341), (.int 2690 0), (.int 147 0), (.str (Str.ofString "/claim/cut.py") 2691)], #[]⟩
@[reducible] noncomputable def o343 (P : Params) : Obj := ⟨(.type "function"), .none, .func { name := (Str.ofString "_law_code"), qualname := (Str.ofString "_law_code"), params := p_18, body := .stmts b_18, scope := s_18, globals := 3, closure := [], defaults := .none, kwdefaults := .none, doc := .none, pyModule := (.str (Str.ofString "law_wc0029_01") 2679), annotations := .none, code := (.ref 342), closureTuple := .none, builtins := 0 }, #[]⟩
@[reducible] noncomputable def o344 (P : Params) : Obj := ⟨(.type "tuple"), .none, .seq #[] 0, #[]⟩
@[reducible] noncomputable def o345 (P : Params) : Obj := ⟨.none, .none, .fields #[], #[]⟩
@[reducible] noncomputable def o346 (P : Params) : Obj := ⟨.none, .none, .func { name := (Str.ofString "_law_sent"), qualname := (Str.ofString "_law_sent"), params := p_19, body := .stmts b_19, scope := s_19, globals := 0, closure := [], defaults := .none, kwdefaults := .none, doc := .none, pyModule := .none, annotations := .none, code := .none, closureTuple := .none, builtins := 0 }, #[]⟩
@[reducible] noncomputable def o347 (P : Params) : Obj := ⟨(.type "code"), .none, .fields #[(.str (Str.ofString "_law_sent") 2693), (.str (Str.ofString "_law_sent") 2694), (.str (Str.ofString "/claim/cut.py") 2695), (.int 159 0), (.int 1 0), (.int 0 0), (.int 0 0), (.int 3 0), (.ref 344), (.bool true), (.int 276 0), (.ref 345), .none, .none, .none, (.ref 346), (.int 2696 0), (.int 159 0), (.str (Str.ofString "/claim/cut.py") 2697)], #[]⟩
@[reducible] noncomputable def o348 (P : Params) : Obj := ⟨(.type "function"), .none, .func { name := (Str.ofString "_law_sent"), qualname := (Str.ofString "_law_sent"), params := p_19, body := .stmts b_19, scope := s_19, globals := 3, closure := [], defaults := .none, kwdefaults := .none, doc := .none, pyModule := (.str (Str.ofString "law_wc0029_01") 2679), annotations := .none, code := (.ref 347), closureTuple := .none, builtins := 0 }, #[]⟩
@[reducible] noncomputable def o349 (P : Params) : Obj := ⟨(.type "tuple"), .none, .seq #[] 0, #[]⟩
@[reducible] noncomputable def o350 (P : Params) : Obj := ⟨.none, .none, .fields #[], #[]⟩
@[reducible] noncomputable def o351 (P : Params) : Obj := ⟨.none, .none, .func { name := (Str.ofString "law"), qualname := (Str.ofString "law"), params := p_20, body := .stmts b_20, scope := s_20, globals := 0, closure := [], defaults := .none, kwdefaults := .none, doc := .none, pyModule := .none, annotations := .none, code := .none, closureTuple := .none, builtins := 0 }, #[]⟩
@[reducible] noncomputable def o352 (P : Params) : Obj := ⟨(.type "code"), .none, .fields #[(.str (Str.ofString "law") 2699), (.str (Str.ofString "law") 2700), (.str (Str.ofString "/claim/cut.py") 2701), (.int 164 0), (.int 1 0), (.int 0 0), (.int 0 0), (.int 3 0), (.ref 349), (.bool true), (.int 276 0), (.ref 350), .none, .none, .none, (.ref 351), (.int 2702 0), (.int 164 0), (.str (Str.ofString "/claim/cut.py") 2703)], #[]⟩
@[reducible] noncomputable def o353 (P : Params) : Obj := ⟨(.type "function"), .none, .func { name := (Str.ofString "law"), qualname := (Str.ofString "law"), params := p_20, body := .stmts b_20, scope := s_20, globals := 3, closure := [], defaults := .none, kwdefaults := .none, doc := .none, pyModule := (.str (Str.ofString "law_wc0029_01") 2679), annotations := .none, code := (.ref 352), closureTuple := .none, builtins := 0 }, #[]⟩
@[reducible] noncomputable def o3_Z (P : Params) : Obj := ⟨(.type "dict"), .none, .dict (List.toArray [⟨(PyData.keyHash P (Str.ofString "__name__")), (.str (Str.ofString "__name__") 165), (.str (Str.ofString "__main__") 164)⟩, ⟨(PyData.keyHash P (Str.ofString "__doc__")), (.str (Str.ofString "__doc__") 166), .none⟩, ⟨(PyData.keyHash P (Str.ofString "__package__")), (.str (Str.ofString "__package__") 167), .none⟩, ⟨(PyData.keyHash P (Str.ofString "__loader__")), (.str (Str.ofString "__loader__") 168), (.builtin "__main__.__loader__#opaque")⟩, ⟨(PyData.keyHash P (Str.ofString "__spec__")), (.str (Str.ofString "__spec__") 169), .none⟩, ⟨(PyData.keyHash P (Str.ofString "__annotations__")), (.str (Str.ofString "__annotations__") 170), (.ref 6)⟩, ⟨(PyData.keyHash P (Str.ofString "__builtins__")), (.str (Str.ofString "__builtins__") 171), (.ref 4)⟩, ⟨(PyData.keyHash P (Str.ofString "__file__")), (.str (Str.ofString "__file__") 173), (.str (Str.ofString "/claim/cut.py") 172)⟩, ⟨(PyData.keyHash P (Str.ofString "__cached__")), (.str (Str.ofString "__cached__") 174), .none⟩, ⟨(PyData.keyHash P (Str.ofString "_sre")), (.str (Str.ofString "_sre") 275), (.ref 12)⟩]) 10, #[]⟩
@[reducible] noncomputable def o29_A (P : Params) : Obj := ⟨.none, .none, .fields #[], #[]⟩
@[reducible] noncomputable def o3_3 (P : Params) : Obj := ⟨(.type "dict"), .none, .dict (List.toArray [⟨(PyData.keyHash P (Str.ofString "__name__")), (.str (Str.ofString "__name__") 165), (.str (Str.ofString "cpy313.email.header") 289)⟩, ⟨(PyData.keyHash P (Str.ofString "__doc__")), (.str (Str.ofString "__doc__") 166), .none⟩, ⟨(PyData.keyHash P (Str.ofString "__package__")), (.str (Str.ofString "__package__") 167), .none⟩, ⟨(PyData.keyHash P (Str.ofString "__loader__")), (.str (Str.ofString "__loader__") 168), (.builtin "__main__.__loader__#opaque")⟩, ⟨(PyData.keyHash P (Str.ofString "__spec__")), (.str (Str.ofString "__spec__") 169), .none⟩, ⟨(PyData.keyHash P (Str.ofString "__annotations__")), (.str (Str.ofString "__annotations__") 170), (.ref 6)⟩, ⟨(PyData.keyHash P (Str.ofString "__builtins__")), (.str (Str.ofString "__builtins__") 171), (.ref 4)⟩, ⟨(PyData.keyHash P (Str.ofString "__file__")), (.str (Str.ofString "__file__") 173), (.str (Str.ofString "/claim/cut.py") 172)⟩, ⟨(PyData.keyHash P (Str.ofString "__cached__")), (.str (Str.ofString "__cached__") 174), .none⟩, ⟨(PyData.keyHash P (Str.ofString "_sre")), (.str (Str.ofString "_sre") 275), (.ref 12)⟩, ⟨(PyData.keyHash P (Str.ofString "_wall")), (.str (Str.ofString "_wall") 288), (.ref 38)⟩, ⟨(PyData.keyHash P (Str.ofString "EMPTYSTRING")), (.str (Str.ofString "EMPTYSTRING") 292), (.str (Str.ofString "") 291)⟩]) 12, #[]⟩
@[reducible] noncomputable def o29_3 (P : Params) : Obj := ⟨.none, .none, .fields #[(.int 2 0), (.int 0 0), (.ref 37)], #[]⟩
@[reducible] noncomputable def o3_4 (P : Params) : Obj := ⟨(.type "dict"), .none, .dict (List.toArray [⟨(PyData.keyHash P (Str.ofString "__name__")), (.str (Str.ofString "__name__") 165), (.str (Str.ofString "cpy313.email.header") 289)⟩, ⟨(PyData.keyHash P (Str.ofString "__doc__")), (.str (Str.ofString "__doc__") 166), .none⟩, ⟨(PyData.keyHash P (Str.ofString "__package__")), (.str (Str.ofString "__package__") 167), .none⟩, ⟨(PyData.keyHash P (Str.ofString "__loader__")), (.str (Str.ofString "__loader__") 168), (.builtin "__main__.__loader__#opaque")⟩, ⟨(PyData.keyHash P (Str.ofString "__spec__")), (.str (Str.ofString "__spec__") 169), .none⟩, ⟨(PyData.keyHash P (Str.ofString "__annotations__")), (.str (Str.ofString "__annotations__") 170), (.ref 6)⟩, ⟨(PyData.keyHash P (Str.ofString "__builtins__")), (.str (Str.ofString "__builtins__") 171), (.ref 4)⟩, ⟨(PyData.keyHash P (Str.ofString "__file__")), (.str (Str.ofString "__file__") 173), (.str (Str.ofString "/claim/cut.py") 172)⟩, ⟨(PyData.keyHash P (Str.ofString "__cached__")), (.str (Str.ofString "__cached__") 174), .none⟩, ⟨(PyData.keyHash P (Str.ofString "_sre")), (.str (Str.ofString "_sre") 275), (.ref 12)⟩, ⟨(PyData.keyHash P (Str.ofString "_wall")), (.str (Str.ofString "_wall") 288), (.ref 38)⟩, ⟨(PyData.keyHash P (Str.ofString "EMPTYSTRING")), (.str (Str.ofString "EMPTYSTRING") 292), (.str (Str.ofString "") 291)⟩, ⟨(PyData.keyHash P (Str.ofString "_Accumulator")), (.str (Str.ofString "_Accumulator") 387), (.ref 117)⟩]) 13, #[]⟩
@[reducible] noncomputable def o29_4 (P : Params) : Obj := ⟨.none, .none, .fields #[(.int 2 0), (.int 0 0), (.ref 37), (.int 7 0), (.int 0 0), (.ref 45)], #[]⟩
@[reducible] noncomputable def o3_5 (P : Params) : Obj := ⟨(.type "dict"), .none, .dict (List.toArray [⟨(PyData.keyHash P (Str.ofString "__name__")), (.str (Str.ofString "__name__") 165), (.str (Str.ofString "cpy313.stringprep") 388)⟩, ⟨(PyData.keyHash P (Str.ofString "__doc__")), (.str (Str.ofString "__doc__") 166), .none⟩, ⟨(PyData.keyHash P (Str.ofString "__package__")), (.str (Str.ofString "__package__") 167), .none⟩, ⟨(PyData.keyHash P (Str.ofString "__loader__")), (.str (Str.ofString "__loader__") 168), (.builtin "__main__.__loader__#opaque")⟩, ⟨(PyData.keyHash P (Str.ofString "__spec__")), (.str (Str.ofString "__spec__") 169), .none⟩, ⟨(PyData.keyHash P (Str.ofString "__annotations__")), (.str (Str.ofString "__annotations__") 170), (.ref 6)⟩, ⟨(PyData.keyHash P (Str.ofString "__builtins__")), (.str (Str.ofString "__builtins__") 171), (.ref 4)⟩, ⟨(PyData.keyHash P (Str.ofString "__file__")), (.str (Str.ofString "__file__") 173), (.str (Str.ofString "/claim/cut.py") 172)⟩, ⟨(PyData.keyHash P (Str.ofString "__cached__")), (.str (Str.ofString "__cached__") 174), .none⟩, ⟨(PyData.keyHash P (Str.ofString "_sre")), (.str (Str.ofString "_sre") 275), (.ref 12)⟩, ⟨(PyData.keyHash P (Str.ofString "_wall")), (.str (Str.ofString "_wall") 288), (.ref 38)⟩, ⟨(PyData.keyHash P (Str.ofString "EMPTYSTRING")), (.str (Str.ofString "EMPTYSTRING") 292), (.str (Str.ofString "") 291)⟩, ⟨(PyData.keyHash P (Str.ofString "_Accumulator")), (.str (Str.ofString "_Accumulator") 387), (.ref 117)⟩]) 13, #[]⟩
@[reducible] noncomputable def o3_6 (P : Params) : Obj := ⟨(.type "dict"), .none, .dict (List.toArray [⟨(PyData.keyHash P (Str.ofString "__name__")), (.str (Str.ofString "__name__") 165), (.str (Str.ofString "cpy313.stringprep") 388)⟩, ⟨(PyData.keyHash P (Str.ofString "__doc__")), (.str (Str.ofString "__doc__") 166), .none⟩, ⟨(PyData.keyHash P (Str.ofString "__package__")), (.str (Str.ofString "__package__") 167), .none⟩, ⟨(PyData.keyHash P (Str.ofString "__loader__")), (.str (Str.ofString "__loader__") 168), (.builtin "__main__.__loader__#opaque")⟩, ⟨(PyData.keyHash P (Str.ofString "__spec__")), (.str (Str.ofString "__spec__") 169), .none⟩, ⟨(PyData.keyHash P (Str.ofString "__annotations__")), (.str (Str.ofString "__annotations__") 170), (.ref 6)⟩, ⟨(PyData.keyHash P (Str.ofString "__builtins__")), (.str (Str.ofString "__builtins__") 171), (.ref 4)⟩, ⟨(PyData.keyHash P (Str.ofString "__file__")), (.str (Str.ofString "__file__") 173), (.str (Str.ofString "/claim/cut.py") 172)⟩, ⟨(PyData.keyHash P (Str.ofString "__cached__")), (.str (Str.ofString "__cached__") 174), .none⟩, ⟨(PyData.keyHash P (Str.ofString "_sre")), (.str (Str.ofString "_sre") 275), (.ref 12)⟩, ⟨(PyData.keyHash P (Str.ofString "_wall")), (.str (Str.ofString "_wall") 288), (.ref 38)⟩, ⟨(PyData.keyHash P (Str.ofString "EMPTYSTRING")), (.str (Str.ofString "EMPTYSTRING") 292), (.str (Str.ofString "") 291)⟩, ⟨(PyData.keyHash P (Str.ofString "_Accumulator")), (.str (Str.ofString "_Accumulator") 387), (.ref 117)⟩, ⟨(PyData.keyHash P (Str.ofString "b1_set")), (.str (Str.ofString "b1_set") 449), (.ref 129)⟩]) 14, #[]⟩
@[reducible] noncomputable def o3_7 (P : Params) : Obj := ⟨(.type "dict"), .none, .dict (List.toArray [⟨(PyData.keyHash P (Str.ofString "__name__")), (.str (Str.ofString "__name__") 165), (.str (Str.ofString "cpy313.stringprep") 388)⟩, ⟨(PyData.keyHash P (Str.ofString "__doc__")), (.str (Str.ofString "__doc__") 166), .none⟩, ⟨(PyData.keyHash P (Str.ofString "__package__")), (.str (Str.ofString "__package__") 167), .none⟩, ⟨(PyData.keyHash P (Str.ofString "__loader__")), (.str (Str.ofString "__loader__") 168), (.builtin "__main__.__loader__#opaque")⟩, ⟨(PyData.keyHash P (Str.ofString "__spec__")), (.str (Str.ofString "__spec__") 169), .none⟩, ⟨(PyData.keyHash P (Str.ofString "__annotations__")), (.str (Str.ofString "__annotations__") 170), (.ref 6)⟩, ⟨(PyData.keyHash P (Str.ofString "__builtins__")), (.str (Str.ofString "__builtins__") 171), (.ref 4)⟩, ⟨(PyData.keyHash P (Str.ofString "__file__")), (.str (Str.ofString "__file__") 173), (.str (Str.ofString "/claim/cut.py") 172)⟩, ⟨(PyData.keyHash P (Str.ofString "__cached__")), (.str (Str.ofString "__cached__") 174), .none⟩, ⟨(PyData.keyHash P (Str.ofString "_sre")), (.str (Str.ofString "_sre") 275), (.ref 12)⟩, ⟨(PyData.keyHash P (Str.ofString "_wall")), (.str (Str.ofString "_wall") 288), (.ref 38)⟩, ⟨(PyData.keyHash P (Str.ofString "EMPTYSTRING")), (.str (Str.ofString "EMPTYSTRING") 292), (.str (Str.ofString "") 291)⟩, ⟨(PyData.keyHash P (Str.ofString "_Accumulator")), (.str (Str.ofString "_Accumulator") 387), (.ref 117)⟩, ⟨(PyData.keyHash P (Str.ofString "b1_set")), (.str (Str.ofString "b1_set") 449), (.ref 129)⟩, ⟨(PyData.keyHash P (Str.ofString "in_table_b1")), (.str (Str.ofString "in_table_b1") 456), (.ref 139)⟩]) 15, #[]⟩
@[reducible] noncomputable def o29_7 (P : Params) : Obj := ⟨.none, .none, .fields #[(.int 2 0), (.int 0 0), (.ref 37), (.int 7 0), (.int 0 0), (.ref 45), (.int 40 0), (.int 0 0), (.ref 138)], #[]⟩
@[reducible] noncomputable def o3_8 (P : Params) : Obj := ⟨(.type "dict"), .none, .dict (List.toArray [⟨(PyData.keyHash P (Str.ofString "__name__")), (.str (Str.ofString "__name__") 165), (.str (Str.ofString "cpy313.stringprep") 388)⟩, ⟨(PyData.keyHash P (Str.ofString "__doc__")), (.str (Str.ofString "__doc__") 166), .none⟩, ⟨(PyData.keyHash P (Str.ofString "__package__")), (.str (Str.ofString "__package__") 167), .none⟩, ⟨(PyData.keyHash P (Str.ofString "__loader__")), (.str (Str.ofString "__loader__") 168), (.builtin "__main__.__loader__#opaque")⟩, ⟨(PyData.keyHash P (Str.ofString "__spec__")), (.str (Str.ofString "__spec__") 169), .none⟩, ⟨(PyData.keyHash P (Str.ofString "__annotations__")), (.str (Str.ofString "__annotations__") 170), (.ref 6)⟩, ⟨(PyData.keyHash P (Str.ofString "__builtins__")), (.str (Str.ofString "__builtins__") 171), (.ref 4)⟩, ⟨(PyData.keyHash P (Str.ofString "__file__")), (.str (Str.ofString "__file__") 173), (.str (Str.ofString "/claim/cut.py") 172)⟩, ⟨(PyData.keyHash P (Str.ofString "__cached__")), (.str (Str.ofString "__cached__") 174), .none⟩, ⟨(PyData.keyHash P (Str.ofString "_sre")), (.str (Str.ofString "_sre") 275), (.ref 12)⟩, ⟨(PyData.keyHash P (Str.ofString "_wall")), (.str (Str.ofString "_wall") 288), (.ref 38)⟩, ⟨(PyData.keyHash P (Str.ofString "EMPTYSTRING")), (.str (Str.ofString "EMPTYSTRING") 292), (.str (Str.ofString "") 291)⟩, ⟨(PyData.keyHash P (Str.ofString "_Accumulator")), (.str (Str.ofString "_Accumulator") 387), (.ref 117)⟩, ⟨(PyData.keyHash P (Str.ofString "b1_set")), (.str (Str.ofString "b1_set") 449), (.ref 129)⟩, ⟨(PyData.keyHash P (Str.ofString "in_table_b1")), (.str (Str.ofString "in_table_b1") 456), (.ref 139)⟩, ⟨(PyData.keyHash P (Str.ofString "b3_exceptions")), (.str (Str.ofString "b3_exceptions") 2407), (.ref 140)⟩]) 16, #[]⟩
@[reducible] noncomputable def o3_14 (P : Params) : Obj := ⟨(.type "dict"), .none, .dict (List.toArray [⟨(PyData.keyHash P (Str.ofString "__name__")), (.str (Str.ofString "__name__") 165), (.str (Str.ofString "cpy313.wsgiref.headers") 2416)⟩, ⟨(PyData.keyHash P (Str.ofString "__doc__")), (.str (Str.ofString "__doc__") 166), .none⟩, ⟨(PyData.keyHash P (Str.ofString "__package__")), (.str (Str.ofString "__package__") 167), .none⟩, ⟨(PyData.keyHash P (Str.ofString "__loader__")), (.str (Str.ofString "__loader__") 168), (.builtin "__main__.__loader__#opaque")⟩, ⟨(PyData.keyHash P (Str.ofString "__spec__")), (.str (Str.ofString "__spec__") 169), .none⟩, ⟨(PyData.keyHash P (Str.ofString "__annotations__")), (.str (Str.ofString "__annotations__") 170), (.ref 6)⟩, ⟨(PyData.keyHash P (Str.ofString "__builtins__")), (.str (Str.ofString "__builtins__") 171), (.ref 4)⟩, ⟨(PyData.keyHash P (Str.ofString "__file__")), (.str (Str.ofString "__file__") 173), (.str (Str.ofString "/claim/cut.py") 172)⟩, ⟨(PyData.keyHash P (Str.ofString "__cached__")), (.str (Str.ofString "__cached__") 174), .none⟩, ⟨(PyData.keyHash P (Str.ofString "_sre")), (.str (Str.ofString "_sre") 275), (.ref 12)⟩, ⟨(PyData.keyHash P (Str.ofString "_wall")), (.str (Str.ofString "_wall") 288), (.ref 38)⟩, ⟨(PyData.keyHash P (Str.ofString "EMPTYSTRING")), (.str (Str.ofString "EMPTYSTRING") 292), (.str (Str.ofString "") 291)⟩, ⟨(PyData.keyHash P (Str.ofString "_Accumulator")), (.str (Str.ofString "_Accumulator") 387), (.ref 117)⟩, ⟨(PyData.keyHash P (Str.ofString "b1_set")), (.str (Str.ofString "b1_set") 449), (.ref 129)⟩, ⟨(PyData.keyHash P (Str.ofString "in_table_b1")), (.str (Str.ofString "in_table_b1") 456), (.ref 139)⟩, ⟨(PyData.keyHash P (Str.ofString "b3_exceptions")), (.str (Str.ofString "b3_exceptions") 2407), (.ref 140)⟩, ⟨(PyData.keyHash P (Str.ofString "map_table_b3")), (.str (Str.ofString "map_table_b3") 2415), (.ref 185)⟩, ⟨(PyData.keyHash P (Str.ofString "tspecials")), (.str (Str.ofString "tspecials") 2451), (.ref 190)⟩, ⟨(PyData.keyHash P (Str.ofString "_name_disallowed_re")), (.str (Str.ofString "_name_disallowed_re") 2477), (.ref 195)⟩, ⟨(PyData.keyHash P (Str.ofString "_value_disallowed_re")), (.str (Str.ofString "_value_disallowed_re") 2511), (.ref 200)⟩, ⟨(PyData.keyHash P (Str.ofString "_formatparam")), (.str (Str.ofString "_formatparam") 2521), (.ref 208)⟩]) 21, #[]⟩
@[reducible] noncomputable def o29_14 (P : Params) : Obj := ⟨.none, .none, .fields #[(.int 2 0), (.int 0 0), (.ref 37), (.int 7 0), (.int 0 0), (.ref 45), (.int 40 0), (.int 0 0), (.ref 138), (.int 43 0), (.int 0 0), (.ref 184), (.int 52 0), (.int 0 0), (.ref 207)], #[]⟩
@[reducible] noncomputable def o3_15 (P : Params) : Obj := ⟨(.type "dict"), .none, .dict (List.toArray [⟨(PyData.keyHash P (Str.ofString "__name__")), (.str (Str.ofString "__name__") 165), (.str (Str.ofString "cpy313.wsgiref.headers") 2416)⟩, ⟨(PyData.keyHash P (Str.ofString "__doc__")), (.str (Str.ofString "__doc__") 166), .none⟩, ⟨(PyData.keyHash P (Str.ofString "__package__")), (.str (Str.ofString "__package__") 167), .none⟩, ⟨(PyData.keyHash P (Str.ofString "__loader__")), (.str (Str.ofString "__loader__") 168), (.builtin "__main__.__loader__#opaque")⟩, ⟨(PyData.keyHash P (Str.ofString "__spec__")), (.str (Str.ofString "__spec__") 169), .none⟩, ⟨(PyData.keyHash P (Str.ofString "__annotations__")), (.str (Str.ofString "__annotations__") 170), (.ref 6)⟩, ⟨(PyData.keyHash P (Str.ofString "__builtins__")), (.str (Str.ofString "__builtins__") 171), (.ref 4)⟩, ⟨(PyData.keyHash P (Str.ofString "__file__")), (.str (Str.ofString "__file__") 173), (.str (Str.ofString "/claim/cut.py") 172)⟩, ⟨(PyData.keyHash P (Str.ofString "__cached__")), (.str (Str.ofString "__cached__") 174), .none⟩, ⟨(PyData.keyHash P (Str.ofString "_sre")), (.str (Str.ofString "_sre") 275), (.ref 12)⟩, ⟨(PyData.keyHash P (Str.ofString "_wall")), (.str (Str.ofString "_wall") 288), (.ref 38)⟩, ⟨(PyData.keyHash P (Str.ofString "EMPTYSTRING")), (.str (Str.ofString "EMPTYSTRING") 292), (.str (Str.ofString "") 291)⟩, ⟨(PyData.keyHash P (Str.ofString "_Accumulator")), (.str (Str.ofString "_Accumulator") 387), (.ref 117)⟩, ⟨(PyData.keyHash P (Str.ofString "b1_set")), (.str (Str.ofString "b1_set") 449), (.ref 129)⟩, ⟨(PyData.keyHash P (Str.ofString "in_table_b1")), (.str (Str.ofString "in_table_b1") 456), (.ref 139)⟩, ⟨(PyData.keyHash P (Str.ofString "b3_exceptions")), (.str (Str.ofString "b3_exceptions") 2407), (.ref 140)⟩, ⟨(PyData.keyHash P (Str.ofString "map_table_b3")), (.str (Str.ofString "map_table_b3") 2415), (.ref 185)⟩, ⟨(PyData.keyHash P (Str.ofString "tspecials")), (.str (Str.ofString "tspecials") 2451), (.ref 190)⟩, ⟨(PyData.keyHash P (Str.ofString "_name_disallowed_re")), (.str (Str.ofString "_name_disallowed_re") 2477), (.ref 195)⟩, ⟨(PyData.keyHash P (Str.ofString "_value_disallowed_re")), (.str (Str.ofString "_value_disallowed_re") 2511), (.ref 200)⟩, ⟨(PyData.keyHash P (Str.ofString "_formatparam")), (.str (Str.ofString "_formatparam") 2521), (.ref 208)⟩, ⟨(PyData.keyHash P (Str.ofString "Headers")), (.str (Str.ofString "Headers") 2678), (.ref 329)⟩]) 22, #[]⟩
@[reducible] noncomputable def o29_15 (P : Params) : Obj := ⟨.none, .none, .fields #[(.int 2 0), (.int 0 0), (.ref 37), (.int 7 0), (.int 0 0), (.ref 45), (.int 40 0), (.int 0 0), (.ref 138), (.int 43 0), (.int 0 0), (.ref 184), (.int 52 0), (.int 0 0), (.ref 207), (.int 61 0), (.int 0 0), (.ref 214)], #[]⟩

noncomputable abbrev lf (x : Obj) : BT := .node x .nil .nil
noncomputable def tZ (P : Params) : BT := (.node (o0 P) (.node (o1 P) (.node (o3_Z P) (.node (o7 P) (lf (o15 P)) (lf (o23 P))) (.node (o11 P) (lf (o19 P)) (lf (o27 P)))) (.node (o5 P) (.node (o9 P) (lf (o17 P)) (lf (o25 P))) (.node (o13 P) (lf (o21 P)) .nil))) (.node (o2 P) (.node (o4 P) (.node (o8 P) (lf (o16 P)) (lf (o24 P))) (.node (o12 P) (lf (o20 P)) .nil)) (.node (o6 P) (.node (o10 P) (lf (o18 P)) (lf (o26 P))) (.node (o14 P) (lf (o22 P)) .nil))))
noncomputable def tA (P : Params) : BT := (.node (o0 P) (.node (o1 P) (.node (o3_Z P) (.node (o7 P) (.node (o15 P) (lf (o31 P)) .nil) (lf (o23 P))) (.node (o11 P) (lf (o19 P)) (lf (o27 P)))) (.node (o5 P) (.node (o9 P) (lf (o17 P)) (lf (o25 P))) (.node (o13 P) (lf (o21 P)) (lf (o29_A P))))) (.node (o2 P) (.node (o4 P) (.node (o8 P) (lf (o16 P)) (lf (o24 P))) (.node (o12 P) (lf (o20 P)) (lf (o28 P)))) (.node (o6 P) (.node (o10 P) (lf (o18 P)) (lf (o26 P))) (.node (o14 P) (lf (o22 P)) (lf (o30 P))))))
noncomputable def tB (P : Params) : BT := (.node (o0 P) (.node (o1 P) (.node (o3_Z P) (.node (o7 P) (.node (o15 P) (lf (o31 P)) .nil) (lf (o23 P))) (.node (o11 P) (lf (o19 P)) (lf (o27 P)))) (.node (o5 P) (.node (o9 P) (lf (o17 P)) (lf (o25 P))) (.node (o13 P) (lf (o21 P)) (lf (o29_A P))))) (.node (o2 P) (.node (o4 P) (.node (o8 P) (lf (o16 P)) (lf (o24 P))) (.node (o12 P) (lf (o20 P)) (lf (o28 P)))) (.node (o6 P) (.node (o10 P) (lf (o18 P)) (lf (o26 P))) (.node (o14 P) (lf (o22 P)) (lf (o30 P))))))
noncomputable def t3 (P : Params) : BT := (.node (o0 P) (.node (o1 P) (.node (o3_3 P) (.node (o7 P) (.node (o15 P) (lf (o31 P)) .nil) (lf (o23 P))) (.node (o11 P) (.node (o19 P) (lf (o35 P)) .nil) (lf (o27 P)))) (.node (o5 P) (.node (o9 P) (.node (o17 P) (lf (o33 P)) .nil) (lf (o25 P))) (.node (o13 P) (.node (o21 P) (lf (o37 P)) .nil) (lf (o29_3 P))))) (.node (o2 P) (.node (o4 P) (.node (o8 P) (.node (o16 P) (lf (o32 P)) .nil) (lf (o24 P))) (.node (o12 P) (.node (o20 P) (lf (o36 P)) .nil) (lf (o28 P)))) (.node (o6 P) (.node (o10 P) (.node (o18 P) (lf (o34 P)) .nil) (lf (o26 P))) (.node (o14 P) (.node (o22 P) (lf (o38 P)) .nil) (lf (o30 P))))))
noncomputable def t4 (P : Params) : BT := (.node (o0 P) (.node (o1 P) (.node (o3_4 P) (.node (o7 P) (.node (o15 P) (.node (o31 P) (lf (o63 P)) (lf (o95 P))) (.node (o47 P) (lf (o79 P)) (lf (o111 P)))) (.node (o23 P) (.node (o39 P) (lf (o71 P)) (lf (o103 P))) (.node (o55 P) (lf (o87 P)) (lf (o119 P))))) (.node (o11 P) (.node (o19 P) (.node (o35 P) (lf (o67 P)) (lf (o99 P))) (.node (o51 P) (lf (o83 P)) (lf (o115 P)))) (.node (o27 P) (.node (o43 P) (lf (o75 P)) (lf (o107 P))) (.node (o59 P) (lf (o91 P)) .nil)))) (.node (o5 P) (.node (o9 P) (.node (o17 P) (.node (o33 P) (lf (o65 P)) (lf (o97 P))) (.node (o49 P) (lf (o81 P)) (lf (o113 P)))) (.node (o25 P) (.node (o41 P) (lf (o73 P)) (lf (o105 P))) (.node (o57 P) (lf (o89 P)) (lf (o121 P))))) (.node (o13 P) (.node (o21 P) (.node (o37 P) (lf (o69 P)) (lf (o101 P))) (.node (o53 P) (lf (o85 P)) (lf (o117 P)))) (.node (o29_4 P) (.node (o45 P) (lf (o77 P)) (lf (o109 P))) (.node (o61 P) (lf (o93 P)) .nil))))) (.node (o2 P) (.node (o4 P) (.node (o8 P) (.node (o16 P) (.node (o32 P) (lf (o64 P)) (lf (o96 P))) (.node (o48 P) (lf (o80 P)) (lf (o112 P)))) (.node (o24 P) (.node (o40 P) (lf (o72 P)) (lf (o104 P))) (.node (o56 P) (lf (o88 P)) (lf (o120 P))))) (.node (o12 P) (.node (o20 P) (.node (o36 P) (lf (o68 P)) (lf (o100 P))) (.node (o52 P) (lf (o84 P)) (lf (o116 P)))) (.node (o28 P) (.node (o44 P) (lf (o76 P)) (lf (o108 P))) (.node (o60 P) (lf (o92 P)) .nil)))) (.node (o6 P) (.node (o10 P) (.node (o18 P) (.node (o34 P) (lf (o66 P)) (lf (o98 P))) (.node (o50 P) (lf (o82 P)) (lf (o114 P)))) (.node (o26 P) (.node (o42 P) (lf (o74 P)) (lf (o106 P))) (.node (o58 P) (lf (o90 P)) .nil))) (.node (o14 P) (.node (o22 P) (.node (o38 P) (lf (o70 P)) (lf (o102 P))) (.node (o54 P) (lf (o86 P)) (lf (o118 P)))) (.node (o30 P) (.node (o46 P) (lf (o78 P)) (lf (o110 P))) (.node (o62 P) (lf (o94 P)) .nil))))))
noncomputable def t5 (P : Params) : BT := (.node (o0 P) (.node (o1 P) (.node (o3_5 P) (.node (o7 P) (.node (o15 P) (.node (o31 P) (lf (o63 P)) (lf (o95 P))) (.node (o47 P) (lf (o79 P)) (lf (o111 P)))) (.node (o23 P) (.node (o39 P) (lf (o71 P)) (lf (o103 P))) (.node (o55 P) (lf (o87 P)) (lf (o119 P))))) (.node (o11 P) (.node (o19 P) (.node (o35 P) (lf (o67 P)) (lf (o99 P))) (.node (o51 P) (lf (o83 P)) (lf (o115 P)))) (.node (o27 P) (.node (o43 P) (lf (o75 P)) (lf (o107 P))) (.node (o59 P) (lf (o91 P)) .nil)))) (.node (o5 P) (.node (o9 P) (.node (o17 P) (.node (o33 P) (lf (o65 P)) (lf (o97 P))) (.node (o49 P) (lf (o81 P)) (lf (o113 P)))) (.node (o25 P) (.node (o41 P) (lf (o73 P)) (lf (o105 P))) (.node (o57 P) (lf (o89 P)) (lf (o121 P))))) (.node (o13 P) (.node (o21 P) (.node (o37 P) (lf (o69 P)) (lf (o101 P))) (.node (o53 P) (lf (o85 P)) (lf (o117 P)))) (.node (o29_4 P) (.node (o45 P) (lf (o77 P)) (lf (o109 P))) (.node (o61 P) (lf (o93 P)) .nil))))) (.node (o2 P) (.node (o4 P) (.node (o8 P) (.node (o16 P) (.node (o32 P) (lf (o64 P)) (lf (o96 P))) (.node (o48 P) (lf (o80 P)) (lf (o112 P)))) (.node (o24 P) (.node (o40 P) (lf (o72 P)) (lf (o104 P))) (.node (o56 P) (lf (o88 P)) (lf (o120 P))))) (.node (o12 P) (.node (o20 P) (.node (o36 P) (lf (o68 P)) (lf (o100 P))) (.node (o52 P) (lf (o84 P)) (lf (o116 P)))) (.node (o28 P) (.node (o44 P) (lf (o76 P)) (lf (o108 P))) (.node (o60 P) (lf (o92 P)) .nil)))) (.node (o6 P) (.node (o10 P) (.node (o18 P) (.node (o34 P) (lf (o66 P)) (lf (o98 P))) (.node (o50 P) (lf (o82 P)) (lf (o114 P)))) (.node (o26 P) (.node (o42 P) (lf (o74 P)) (lf (o106 P))) (.node (o58 P) (lf (o90 P)) .nil))) (.node (o14 P) (.node (o22 P) (.node (o38 P) (lf (o70 P)) (lf (o102 P))) (.node (o54 P) (lf (o86 P)) (lf (o118 P)))) (.node (o30 P) (.node (o46 P) (lf (o78 P)) (lf (o110 P))) (.node (o62 P) (lf (o94 P)) .nil))))))
noncomputable def t6 (P : Params) : BT := (.node (o0 P) (.node (o1 P) (.node (o3_6 P) (.node (o7 P) (.node (o15 P) (.node (o31 P) (.node (o63 P) (lf (o127 P)) .nil) (lf (o95 P))) (.node (o47 P) (lf (o79 P)) (lf (o111 P)))) (.node (o23 P) (.node (o39 P) (lf (o71 P)) (lf (o103 P))) (.node (o55 P) (lf (o87 P)) (lf (o119 P))))) (.node (o11 P) (.node (o19 P) (.node (o35 P) (.node (o67 P) (lf (o131 P)) .nil) (lf (o99 P))) (.node (o51 P) (lf (o83 P)) (lf (o115 P)))) (.node (o27 P) (.node (o43 P) (lf (o75 P)) (lf (o107 P))) (.node (o59 P) (lf (o91 P)) (lf (o123 P)))))) (.node (o5 P) (.node (o9 P) (.node (o17 P) (.node (o33 P) (.node (o65 P) (lf (o129 P)) .nil) (lf (o97 P))) (.node (o49 P) (lf (o81 P)) (lf (o113 P)))) (.node (o25 P) (.node (o41 P) (lf (o73 P)) (lf (o105 P))) (.node (o57 P) (lf (o89 P)) (lf (o121 P))))) (.node (o13 P) (.node (o21 P) (.node (o37 P) (lf (o69 P)) (lf (o101 P))) (.node (o53 P) (lf (o85 P)) (lf (o117 P)))) (.node (o29_4 P) (.node (o45 P) (lf (o77 P)) (lf (o109 P))) (.node (o61 P) (lf (o93 P)) (lf (o125 P))))))) (.node (o2 P) (.node (o4 P) (.node (o8 P) (.node (o16 P) (.node (o32 P) (.node (o64 P) (lf (o128 P)) .nil) (lf (o96 P))) (.node (o48 P) (lf (o80 P)) (lf (o112 P)))) (.node (o24 P) (.node (o40 P) (lf (o72 P)) (lf (o104 P))) (.node (o56 P) (lf (o88 P)) (lf (o120 P))))) (.node (o12 P) (.node (o20 P) (.node (o36 P) (.node (o68 P) (lf (o132 P)) .nil) (lf (o100 P))) (.node (o52 P) (lf (o84 P)) (lf (o116 P)))) (.node (o28 P) (.node (o44 P) (lf (o76 P)) (lf (o108 P))) (.node (o60 P) (lf (o92 P)) (lf (o124 P)))))) (.node (o6 P) (.node (o10 P) (.node (o18 P) (.node (o34 P) (.node (o66 P) (lf (o130 P)) .nil) (lf (o98 P))) (.node (o50 P) (lf (o82 P)) (lf (o114 P)))) (.node (o26 P) (.node (o42 P) (lf (o74 P)) (lf (o106 P))) (.node (o58 P) (lf (o90 P)) (lf (o122 P))))) (.node (o14 P) (.node (o22 P) (.node (o38 P) (lf (o70 P)) (lf (o102 P))) (.node (o54 P) (lf (o86 P)) (lf (o118 P)))) (.node (o30 P) (.node (o46 P) (lf (o78 P)) (lf (o110 P))) (.node (o62 P) (lf (o94 P)) (lf (o126 P))))))))
noncomputable def t7 (P : Params) : BT := (.node (o0 P) (.node (o1 P) (.node (o3_7 P) (.node (o7 P) (.node (o15 P) (.node (o31 P) (.node (o63 P) (lf (o127 P)) .nil) (lf (o95 P))) (.node (o47 P) (lf (o79 P)) (lf (o111 P)))) (.node (o23 P) (.node (o39 P) (.node (o71 P) (lf (o135 P)) .nil) (lf (o103 P))) (.node (o55 P) (lf (o87 P)) (lf (o119 P))))) (.node (o11 P) (.node (o19 P) (.node (o35 P) (.node (o67 P) (lf (o131 P)) .nil) (lf (o99 P))) (.node (o51 P) (lf (o83 P)) (lf (o115 P)))) (.node (o27 P) (.node (o43 P) (.node (o75 P) (lf (o139 P)) .nil) (lf (o107 P))) (.node (o59 P) (lf (o91 P)) (lf (o123 P)))))) (.node (o5 P) (.node (o9 P) (.node (o17 P) (.node (o33 P) (.node (o65 P) (lf (o129 P)) .nil) (lf (o97 P))) (.node (o49 P) (lf (o81 P)) (lf (o113 P)))) (.node (o25 P) (.node (o41 P) (.node (o73 P) (lf (o137 P)) .nil) (lf (o105 P))) (.node (o57 P) (lf (o89 P)) (lf (o121 P))))) (.node (o13 P) (.node (o21 P) (.node (o37 P) (.node (o69 P) (lf (o133 P)) .nil) (lf (o101 P))) (.node (o53 P) (lf (o85 P)) (lf (o117 P)))) (.node (o29_7 P) (.node (o45 P) (lf (o77 P)) (lf (o109 P))) (.node (o61 P) (lf (o93 P)) (lf (o125 P))))))) (.node (o2 P) (.node (o4 P) (.node (o8 P) (.node (o16 P) (.node (o32 P) (.node (o64 P) (lf (o128 P)) .nil) (lf (o96 P))) (.node (o48 P) (lf (o80 P)) (lf (o112 P)))) (.node (o24 P) (.node (o40 P) (.node (o72 P) (lf (o136 P)) .nil) (lf (o104 P))) (.node (o56 P) (lf (o88 P)) (lf (o120 P))))) (.node (o12 P) (.node (o20 P) (.node (o36 P) (.node (o68 P) (lf (o132 P)) .nil) (lf (o100 P))) (.node (o52 P) (lf (o84 P)) (lf (o116 P)))) (.node (o28 P) (.node (o44 P) (lf (o76 P)) (lf (o108 P))) (.node (o60 P) (lf (o92 P)) (lf (o124 P)))))) (.node (o6 P) (.node (o10 P) (.node (o18 P) (.node (o34 P) (.node (o66 P) (lf (o130 P)) .nil) (lf (o98 P))) (.node (o50 P) (lf (o82 P)) (lf (o114 P)))) (.node (o26 P) (.node (o42 P) (.node (o74 P) (lf (o138 P)) .nil) (lf (o106 P))) (.node (o58 P) (lf (o90 P)) (lf (o122 P))))) (.node (o14 P) (.node (o22 P) (.node (o38 P) (.node (o70 P) (lf (o134 P)) .nil) (lf (o102 P))) (.node (o54 P) (lf (o86 P)) (lf (o118 P)))) (.node (o30 P) (.node (o46 P) (lf (o78 P)) (lf (o110 P))) (.node (o62 P) (lf (o94 P)) (lf (o126 P))))))))
noncomputable def t8 (P : Params) : BT := (.node (o0 P) (.node (o1 P) (.node (o3_8 P) (.node (o7 P) (.node (o15 P) (.node (o31 P) (.node (o63 P) (lf (o127 P)) .nil) (.node (o95 P) (lf (o159 P)) .nil)) (.node (o47 P) (.node (o79 P) (lf (o143 P)) .nil) (.node (o111 P) (lf (o175 P)) .nil))) (.node (o23 P) (.node (o39 P) (.node (o71 P) (lf (o135 P)) .nil) (.node (o103 P) (lf (o167 P)) .nil)) (.node (o55 P) (.node (o87 P) (lf (o151 P)) .nil) (lf (o119 P))))) (.node (o11 P) (.node (o19 P) (.node (o35 P) (.node (o67 P) (lf (o131 P)) .nil) (.node (o99 P) (lf (o163 P)) .nil)) (.node (o51 P) (.node (o83 P) (lf (o147 P)) .nil) (lf (o115 P)))) (.node (o27 P) (.node (o43 P) (.node (o75 P) (lf (o139 P)) .nil) (.node (o107 P) (lf (o171 P)) .nil)) (.node (o59 P) (.node (o91 P) (lf (o155 P)) .nil) (lf (o123 P)))))) (.node (o5 P) (.node (o9 P) (.node (o17 P) (.node (o33 P) (.node (o65 P) (lf (o129 P)) .nil) (.node (o97 P) (lf (o161 P)) .nil)) (.node (o49 P) (.node (o81 P) (lf (o145 P)) .nil) (.node (o113 P) (lf (o177 P)) .nil))) (.node (o25 P) (.node (o41 P) (.node (o73 P) (lf (o137 P)) .nil) (.node (o105 P) (lf (o169 P)) .nil)) (.node (o57 P) (.node (o89 P) (lf (o153 P)) .nil) (lf (o121 P))))) (.node (o13 P) (.node (o21 P) (.node (o37 P) (.node (o69 P) (lf (o133 P)) .nil) (.node (o101 P) (lf (o165 P)) .nil)) (.node (o53 P) (.node (o85 P) (lf (o149 P)) .nil) (lf (o117 P)))) (.node (o29_7 P) (.node (o45 P) (.node (o77 P) (lf (o141 P)) .nil) (.node (o109 P) (lf (o173 P)) .nil)) (.node (o61 P) (.node (o93 P) (lf (o157 P)) .nil) (lf (o125 P))))))) (.node (o2 P) (.node (o4 P) (.node (o8 P) (.node (o16 P) (.node (o32 P) (.node (o64 P) (lf (o128 P)) .nil) (.node (o96 P) (lf (o160 P)) .nil)) (.node (o48 P) (.node (o80 P) (lf (o144 P)) .nil) (.node (o112 P) (lf (o176 P)) .nil))) (.node (o24 P) (.node (o40 P) (.node (o72 P) (lf (o136 P)) .nil) (.node (o104 P) (lf (o168 P)) .nil)) (.node (o56 P) (.node (o88 P) (lf (o152 P)) .nil) (lf (o120 P))))) (.node (o12 P) (.node (o20 P) (.node (o36 P) (.node (o68 P) (lf (o132 P)) .nil) (.node (o100 P) (lf (o164 P)) .nil)) (.node (o52 P) (.node (o84 P) (lf (o148 P)) .nil) (lf (o116 P)))) (.node (o28 P) (.node (o44 P) (.node (o76 P) (lf (o140 P)) .nil) (.node (o108 P) (lf (o172 P)) .nil)) (.node (o60 P) (.node (o92 P) (lf (o156 P)) .nil) (lf (o124 P)))))) (.node (o6 P) (.node (o10 P) (.node (o18 P) (.node (o34 P) (.node (o66 P) (lf (o130 P)) .nil) (.node (o98 P) (lf (o162 P)) .nil)) (.node (o50 P) (.node (o82 P) (lf (o146 P)) .nil) (.node (o114 P) (lf (o178 P)) .nil))) (.node (o26 P) (.node (o42 P) (.node (o74 P) (lf (o138 P)) .nil) (.node (o106 P) (lf (o170 P)) .nil)) (.node (o58 P) (.node (o90 P) (lf (o154 P)) .nil) (lf (o122 P))))) (.node (o14 P) (.node (o22 P) (.node (o38 P) (.node (o70 P) (lf (o134 P)) .nil) (.node (o102 P) (lf (o166 P)) .nil)) (.node (o54 P) (.node (o86 P) (lf (o150 P)) .nil) (lf (o118 P)))) (.node (o30 P) (.node (o46 P) (.node (o78 P) (lf (o142 P)) .nil) (.node (o110 P) (lf (o174 P)) .nil)) (.node (o62 P) (.node (o94 P) (lf (o158 P)) .nil) (lf (o126 P))))))))
noncomputable def t14 (P : Params) : BT := (.node (o0 P) (.node (o1 P) (.node (o3_14 P) (.node (o7 P) (.node (o15 P) (.node (o31 P) (.node (o63 P) (lf (o127 P)) (lf (o191 P))) (.node (o95 P) (lf (o159 P)) .nil)) (.node (o47 P) (.node (o79 P) (lf (o143 P)) (lf (o207 P))) (.node (o111 P) (lf (o175 P)) .nil))) (.node (o23 P) (.node (o39 P) (.node (o71 P) (lf (o135 P)) (lf (o199 P))) (.node (o103 P) (lf (o167 P)) .nil)) (.node (o55 P) (.node (o87 P) (lf (o151 P)) .nil) (.node (o119 P) (lf (o183 P)) .nil)))) (.node (o11 P) (.node (o19 P) (.node (o35 P) (.node (o67 P) (lf (o131 P)) (lf (o195 P))) (.node (o99 P) (lf (o163 P)) .nil)) (.node (o51 P) (.node (o83 P) (lf (o147 P)) .nil) (.node (o115 P) (lf (o179 P)) .nil))) (.node (o27 P) (.node (o43 P) (.node (o75 P) (lf (o139 P)) (lf (o203 P))) (.node (o107 P) (lf (o171 P)) .nil)) (.node (o59 P) (.node (o91 P) (lf (o155 P)) .nil) (.node (o123 P) (lf (o187 P)) .nil))))) (.node (o5 P) (.node (o9 P) (.node (o17 P) (.node (o33 P) (.node (o65 P) (lf (o129 P)) (lf (o193 P))) (.node (o97 P) (lf (o161 P)) .nil)) (.node (o49 P) (.node (o81 P) (lf (o145 P)) .nil) (.node (o113 P) (lf (o177 P)) .nil))) (.node (o25 P) (.node (o41 P) (.node (o73 P) (lf (o137 P)) (lf (o201 P))) (.node (o105 P) (lf (o169 P)) .nil)) (.node (o57 P) (.node (o89 P) (lf (o153 P)) .nil) (.node (o121 P) (lf (o185 P)) .nil)))) (.node (o13 P) (.node (o21 P) (.node (o37 P) (.node (o69 P) (lf (o133 P)) (lf (o197 P))) (.node (o101 P) (lf (o165 P)) .nil)) (.node (o53 P) (.node (o85 P) (lf (o149 P)) .nil) (.node (o117 P) (lf (o181 P)) .nil))) (.node (o29_14 P) (.node (o45 P) (.node (o77 P) (lf (o141 P)) (lf (o205 P))) (.node (o109 P) (lf (o173 P)) .nil)) (.node (o61 P) (.node (o93 P) (lf (o157 P)) .nil) (.node (o125 P) (lf (o189 P)) .nil)))))) (.node (o2 P) (.node (o4 P) (.node (o8 P) (.node (o16 P) (.node (o32 P) (.node (o64 P) (lf (o128 P)) (lf (o192 P))) (.node (o96 P) (lf (o160 P)) .nil)) (.node (o48 P) (.node (o80 P) (lf (o144 P)) (lf (o208 P))) (.node (o112 P) (lf (o176 P)) .nil))) (.node (o24 P) (.node (o40 P) (.node (o72 P) (lf (o136 P)) (lf (o200 P))) (.node (o104 P) (lf (o168 P)) .nil)) (.node (o56 P) (.node (o88 P) (lf (o152 P)) .nil) (.node (o120 P) (lf (o184 P)) .nil)))) (.node (o12 P) (.node (o20 P) (.node (o36 P) (.node (o68 P) (lf (o132 P)) (lf (o196 P))) (.node (o100 P) (lf (o164 P)) .nil)) (.node (o52 P) (.node (o84 P) (lf (o148 P)) .nil) (.node (o116 P) (lf (o180 P)) .nil))) (.node (o28 P) (.node (o44 P) (.node (o76 P) (lf (o140 P)) (lf (o204 P))) (.node (o108 P) (lf (o172 P)) .nil)) (.node (o60 P) (.node (o92 P) (lf (o156 P)) .nil) (.node (o124 P) (lf (o188 P)) .nil))))) (.node (o6 P) (.node (o10 P) (.node (o18 P) (.node (o34 P) (.node (o66 P) (lf (o130 P)) (lf (o194 P))) (.node (o98 P) (lf (o162 P)) .nil)) (.node (o50 P) (.node (o82 P) (lf (o146 P)) .nil) (.node (o114 P) (lf (o178 P)) .nil))) (.node (o26 P) (.node (o42 P) (.node (o74 P) (lf (o138 P)) (lf (o202 P))) (.node (o106 P) (lf (o170 P)) .nil)) (.node (o58 P) (.node (o90 P) (lf (o154 P)) .nil) (.node (o122 P) (lf (o186 P)) .nil)))) (.node (o14 P) (.node (o22 P) (.node (o38 P) (.node (o70 P) (lf (o134 P)) (lf (o198 P))) (.node (o102 P) (lf (o166 P)) .nil)) (.node (o54 P) (.node (o86 P) (lf (o150 P)) .nil) (.node (o118 P) (lf (o182 P)) .nil))) (.node (o30 P) (.node (o46 P) (.node (o78 P) (lf (o142 P)) (lf (o206 P))) (.node (o110 P) (lf (o174 P)) .nil)) (.node (o62 P) (.node (o94 P) (lf (o158 P)) .nil) (.node (o126 P) (lf (o190 P)) .nil)))))))
noncomputable def t15 (P : Params) : BT := (.node (o0 P) (.node (o1 P) (.node (o3_15 P) (.node (o7 P) (.node (o15 P) (.node (o31 P) (.node (o63 P) (.node (o127 P) (lf (o255 P)) .nil) (.node (o191 P) (lf (o319 P)) .nil)) (.node (o95 P) (.node (o159 P) (lf (o287 P)) .nil) (lf (o223 P)))) (.node (o47 P) (.node (o79 P) (.node (o143 P) (lf (o271 P)) .nil) (lf (o207 P))) (.node (o111 P) (.node (o175 P) (lf (o303 P)) .nil) (lf (o239 P))))) (.node (o23 P) (.node (o39 P) (.node (o71 P) (.node (o135 P) (lf (o263 P)) .nil) (.node (o199 P) (lf (o327 P)) .nil)) (.node (o103 P) (.node (o167 P) (lf (o295 P)) .nil) (lf (o231 P)))) (.node (o55 P) (.node (o87 P) (.node (o151 P) (lf (o279 P)) .nil) (lf (o215 P))) (.node (o119 P) (.node (o183 P) (lf (o311 P)) .nil) (lf (o247 P)))))) (.node (o11 P) (.node (o19 P) (.node (o35 P) (.node (o67 P) (.node (o131 P) (lf (o259 P)) .nil) (.node (o195 P) (lf (o323 P)) .nil)) (.node (o99 P) (.node (o163 P) (lf (o291 P)) .nil) (lf (o227 P)))) (.node (o51 P) (.node (o83 P) (.node (o147 P) (lf (o275 P)) .nil) (lf (o211 P))) (.node (o115 P) (.node (o179 P) (lf (o307 P)) .nil) (lf (o243 P))))) (.node (o27 P) (.node (o43 P) (.node (o75 P) (.node (o139 P) (lf (o267 P)) .nil) (.node (o203 P) (lf (o331 P)) .nil)) (.node (o107 P) (.node (o171 P) (lf (o299 P)) .nil) (lf (o235 P)))) (.node (o59 P) (.node (o91 P) (.node (o155 P) (lf (o283 P)) .nil) (lf (o219 P))) (.node (o123 P) (.node (o187 P) (lf (o315 P)) .nil) (lf (o251 P))))))) (.node (o5 P) (.node (o9 P) (.node (o17 P) (.node (o33 P) (.node (o65 P) (.node (o129 P) (lf (o257 P)) .nil) (.node (o193 P) (lf (o321 P)) .nil)) (.node (o97 P) (.node (o161 P) (lf (o289 P)) .nil) (lf (o225 P)))) (.node (o49 P) (.node (o81 P) (.node (o145 P) (lf (o273 P)) .nil) (lf (o209 P))) (.node (o113 P) (.node (o177 P) (lf (o305 P)) .nil) (lf (o241 P))))) (.node (o25 P) (.node (o41 P) (.node (o73 P) (.node (o137 P) (lf (o265 P)) .nil) (.node (o201 P) (lf (o329 P)) .nil)) (.node (o105 P) (.node (o169 P) (lf (o297 P)) .nil) (lf (o233 P)))) (.node (o57 P) (.node (o89 P) (.node (o153 P) (lf (o281 P)) .nil) (lf (o217 P))) (.node (o121 P) (.node (o185 P) (lf (o313 P)) .nil) (lf (o249 P)))))) (.node (o13 P) (.node (o21 P) (.node (o37 P) (.node (o69 P) (.node (o133 P) (lf (o261 P)) .nil) (.node (o197 P) (lf (o325 P)) .nil)) (.node (o101 P) (.node (o165 P) (lf (o293 P)) .nil) (lf (o229 P)))) (.node (o53 P) (.node (o85 P) (.node (o149 P) (lf (o277 P)) .nil) (lf (o213 P))) (.node (o117 P) (.node (o181 P) (lf (o309 P)) .nil) (lf (o245 P))))) (.node (o29_15 P) (.node (o45 P) (.node (o77 P) (.node (o141 P) (lf (o269 P)) .nil) (.node (o205 P) (lf (o333 P)) .nil)) (.node (o109 P) (.node (o173 P) (lf (o301 P)) .nil) (lf (o237 P)))) (.node (o61 P) (.node (o93 P) (.node (o157 P) (lf (o285 P)) .nil) (lf (o221 P))) (.node (o125 P) (.node (o189 P) (lf (o317 P)) .nil) (lf (o253 P)))))))) (.node (o2 P) (.node (o4 P) (.node (o8 P) (.node (o16 P) (.node (o32 P) (.node (o64 P) (.node (o128 P) (lf (o256 P)) .nil) (.node (o192 P) (lf (o320 P)) .nil)) (.node (o96 P) (.node (o160 P) (lf (o288 P)) .nil) (lf (o224 P)))) (.node (o48 P) (.node (o80 P) (.node (o144 P) (lf (o272 P)) .nil) (lf (o208 P))) (.node (o112 P) (.node (o176 P) (lf (o304 P)) .nil) (lf (o240 P))))) (.node (o24 P) (.node (o40 P) (.node (o72 P) (.node (o136 P) (lf (o264 P)) .nil) (.node (o200 P) (lf (o328 P)) .nil)) (.node (o104 P) (.node (o168 P) (lf (o296 P)) .nil) (lf (o232 P)))) (.node (o56 P) (.node (o88 P) (.node (o152 P) (lf (o280 P)) .nil) (lf (o216 P))) (.node (o120 P) (.node (o184 P) (lf (o312 P)) .nil) (lf (o248 P)))))) (.node (o12 P) (.node (o20 P) (.node (o36 P) (.node (o68 P) (.node (o132 P) (lf (o260 P)) .nil) (.node (o196 P) (lf (o324 P)) .nil)) (.node (o100 P) (.node (o164 P) (lf (o292 P)) .nil) (lf (o228 P)))) (.node (o52 P) (.node (o84 P) (.node (o148 P) (lf (o276 P)) .nil) (lf (o212 P))) (.node (o116 P) (.node (o180 P) (lf (o308 P)) .nil) (lf (o244 P))))) (.node (o28 P) (.node (o44 P) (.node (o76 P) (.node (o140 P) (lf (o268 P)) .nil) (.node (o204 P) (lf (o332 P)) .nil)) (.node (o108 P) (.node (o172 P) (lf (o300 P)) .nil) (lf (o236 P)))) (.node (o60 P) (.node (o92 P) (.node (o156 P) (lf (o284 P)) .nil) (lf (o220 P))) (.node (o124 P) (.node (o188 P) (lf (o316 P)) .nil) (lf (o252 P))))))) (.node (o6 P) (.node (o10 P) (.node (o18 P) (.node (o34 P) (.node (o66 P) (.node (o130 P) (lf (o258 P)) .nil) (.node (o194 P) (lf (o322 P)) .nil)) (.node (o98 P) (.node (o162 P) (lf (o290 P)) .nil) (lf (o226 P)))) (.node (o50 P) (.node (o82 P) (.node (o146 P) (lf (o274 P)) .nil) (lf (o210 P))) (.node (o114 P) (.node (o178 P) (lf (o306 P)) .nil) (lf (o242 P))))) (.node (o26 P) (.node (o42 P) (.node (o74 P) (.node (o138 P) (lf (o266 P)) .nil) (.node (o202 P) (lf (o330 P)) .nil)) (.node (o106 P) (.node (o170 P) (lf (o298 P)) .nil) (lf (o234 P)))) (.node (o58 P) (.node (o90 P) (.node (o154 P) (lf (o282 P)) .nil) (lf (o218 P))) (.node (o122 P) (.node (o186 P) (lf (o314 P)) .nil) (lf (o250 P)))))) (.node (o14 P) (.node (o22 P) (.node (o38 P) (.node (o70 P) (.node (o134 P) (lf (o262 P)) .nil) (.node (o198 P) (lf (o326 P)) .nil)) (.node (o102 P) (.node (o166 P) (lf (o294 P)) .nil) (lf (o230 P)))) (.node (o54 P) (.node (o86 P) (.node (o150 P) (lf (o278 P)) .nil) (lf (o214 P))) (.node (o118 P) (.node (o182 P) (lf (o310 P)) .nil) (lf (o246 P))))) (.node (o30 P) (.node (o46 P) (.node (o78 P) (.node (o142 P) (lf (o270 P)) .nil) (lf (o206 P))) (.node (o110 P) (.node (o174 P) (lf (o302 P)) .nil) (lf (o238 P)))) (.node (o62 P) (.node (o94 P) (.node (o158 P) (lf (o286 P)) .nil) (lf (o222 P))) (.node (o126 P) (.node (o190 P) (lf (o318 P)) .nil) (lf (o254 P)))))))))
noncomputable def t20 (P : Params) : BT := (.node (o0 P) (.node (o1 P) (.node (o3 P) (.node (o7 P) (.node (o15 P) (.node (o31 P) (.node (o63 P) (.node (o127 P) (lf (o255 P)) .nil) (.node (o191 P) (lf (o319 P)) .nil)) (.node (o95 P) (.node (o159 P) (lf (o287 P)) .nil) (.node (o223 P) (lf (o351 P)) .nil))) (.node (o47 P) (.node (o79 P) (.node (o143 P) (lf (o271 P)) .nil) (.node (o207 P) (lf (o335 P)) .nil)) (.node (o111 P) (.node (o175 P) (lf (o303 P)) .nil) (lf (o239 P))))) (.node (o23 P) (.node (o39 P) (.node (o71 P) (.node (o135 P) (lf (o263 P)) .nil) (.node (o199 P) (lf (o327 P)) .nil)) (.node (o103 P) (.node (o167 P) (lf (o295 P)) .nil) (lf (o231 P)))) (.node (o55 P) (.node (o87 P) (.node (o151 P) (lf (o279 P)) .nil) (.node (o215 P) (lf (o343 P)) .nil)) (.node (o119 P) (.node (o183 P) (lf (o311 P)) .nil) (lf (o247 P)))))) (.node (o11 P) (.node (o19 P) (.node (o35 P) (.node (o67 P) (.node (o131 P) (lf (o259 P)) .nil) (.node (o195 P) (lf (o323 P)) .nil)) (.node (o99 P) (.node (o163 P) (lf (o291 P)) .nil) (lf (o227 P)))) (.node (o51 P) (.node (o83 P) (.node (o147 P) (lf (o275 P)) .nil) (.node (o211 P) (lf (o339 P)) .nil)) (.node (o115 P) (.node (o179 P) (lf (o307 P)) .nil) (lf (o243 P))))) (.node (o27 P) (.node (o43 P) (.node (o75 P) (.node (o139 P) (lf (o267 P)) .nil) (.node (o203 P) (lf (o331 P)) .nil)) (.node (o107 P) (.node (o171 P) (lf (o299 P)) .nil) (lf (o235 P)))) (.node (o59 P) (.node (o91 P) (.node (o155 P) (lf (o283 P)) .nil) (.node (o219 P) (lf (o347 P)) .nil)) (.node (o123 P) (.node (o187 P) (lf (o315 P)) .nil) (lf (o251 P))))))) (.node (o5 P) (.node (o9 P) (.node (o17 P) (.node (o33 P) (.node (o65 P) (.node (o129 P) (lf (o257 P)) .nil) (.node (o193 P) (lf (o321 P)) .nil)) (.node (o97 P) (.node (o161 P) (lf (o289 P)) .nil) (.node (o225 P) (lf (o353 P)) .nil))) (.node (o49 P) (.node (o81 P) (.node (o145 P) (lf (o273 P)) .nil) (.node (o209 P) (lf (o337 P)) .nil)) (.node (o113 P) (.node (o177 P) (lf (o305 P)) .nil) (lf (o241 P))))) (.node (o25 P) (.node (o41 P) (.node (o73 P) (.node (o137 P) (lf (o265 P)) .nil) (.node (o201 P) (lf (o329 P)) .nil)) (.node (o105 P) (.node (o169 P) (lf (o297 P)) .nil) (lf (o233 P)))) (.node (o57 P) (.node (o89 P) (.node (o153 P) (lf (o281 P)) .nil) (.node (o217 P) (lf (o345 P)) .nil)) (.node (o121 P) (.node (o185 P) (lf (o313 P)) .nil) (lf (o249 P)))))) (.node (o13 P) (.node (o21 P) (.node (o37 P) (.node (o69 P) (.node (o133 P) (lf (o261 P)) .nil) (.node (o197 P) (lf (o325 P)) .nil)) (.node (o101 P) (.node (o165 P) (lf (o293 P)) .nil) (lf (o229 P)))) (.node (o53 P) (.node (o85 P) (.node (o149 P) (lf (o277 P)) .nil) (.node (o213 P) (lf (o341 P)) .nil)) (.node (o117 P) (.node (o181 P) (lf (o309 P)) .nil) (lf (o245 P))))) (.node (o29 P) (.node (o45 P) (.node (o77 P) (.node (o141 P) (lf (o269 P)) .nil) (.node (o205 P) (lf (o333 P)) .nil)) (.node (o109 P) (.node (o173 P) (lf (o301 P)) .nil) (lf (o237 P)))) (.node (o61 P) (.node (o93 P) (.node (o157 P) (lf (o285 P)) .nil) (.node (o221 P) (lf (o349 P)) .nil)) (.node (o125 P) (.node (o189 P) (lf (o317 P)) .nil) (lf (o253 P)))))))) (.node (o2 P) (.node (o4 P) (.node (o8 P) (.node (o16 P) (.node (o32 P) (.node (o64 P) (.node (o128 P) (lf (o256 P)) .nil) (.node (o192 P) (lf (o320 P)) .nil)) (.node (o96 P) (.node (o160 P) (lf (o288 P)) .nil) (.node (o224 P) (lf (o352 P)) .nil))) (.node (o48 P) (.node (o80 P) (.node (o144 P) (lf (o272 P)) .nil) (.node (o208 P) (lf (o336 P)) .nil)) (.node (o112 P) (.node (o176 P) (lf (o304 P)) .nil) (lf (o240 P))))) (.node (o24 P) (.node (o40 P) (.node (o72 P) (.node (o136 P) (lf (o264 P)) .nil) (.node (o200 P) (lf (o328 P)) .nil)) (.node (o104 P) (.node (o168 P) (lf (o296 P)) .nil) (lf (o232 P)))) (.node (o56 P) (.node (o88 P) (.node (o152 P) (lf (o280 P)) .nil) (.node (o216 P) (lf (o344 P)) .nil)) (.node (o120 P) (.node (o184 P) (lf (o312 P)) .nil) (lf (o248 P)))))) (.node (o12 P) (.node (o20 P) (.node (o36 P) (.node (o68 P) (.node (o132 P) (lf (o260 P)) .nil) (.node (o196 P) (lf (o324 P)) .nil)) (.node (o100 P) (.node (o164 P) (lf (o292 P)) .nil) (lf (o228 P)))) (.node (o52 P) (.node (o84 P) (.node (o148 P) (lf (o276 P)) .nil) (.node (o212 P) (lf (o340 P)) .nil)) (.node (o116 P) (.node (o180 P) (lf (o308 P)) .nil) (lf (o244 P))))) (.node (o28 P) (.node (o44 P) (.node (o76 P) (.node (o140 P) (lf (o268 P)) .nil) (.node (o204 P) (lf (o332 P)) .nil)) (.node (o108 P) (.node (o172 P) (lf (o300 P)) .nil) (lf (o236 P)))) (.node (o60 P) (.node (o92 P) (.node (o156 P) (lf (o284 P)) .nil) (.node (o220 P) (lf (o348 P)) .nil)) (.node (o124 P) (.node (o188 P) (lf (o316 P)) .nil) (lf (o252 P))))))) (.node (o6 P) (.node (o10 P) (.node (o18 P) (.node (o34 P) (.node (o66 P) (.node (o130 P) (lf (o258 P)) .nil) (.node (o194 P) (lf (o322 P)) .nil)) (.node (o98 P) (.node (o162 P) (lf (o290 P)) .nil) (lf (o226 P)))) (.node (o50 P) (.node (o82 P) (.node (o146 P) (lf (o274 P)) .nil) (.node (o210 P) (lf (o338 P)) .nil)) (.node (o114 P) (.node (o178 P) (lf (o306 P)) .nil) (lf (o242 P))))) (.node (o26 P) (.node (o42 P) (.node (o74 P) (.node (o138 P) (lf (o266 P)) .nil) (.node (o202 P) (lf (o330 P)) .nil)) (.node (o106 P) (.node (o170 P) (lf (o298 P)) .nil) (lf (o234 P)))) (.node (o58 P) (.node (o90 P) (.node (o154 P) (lf (o282 P)) .nil) (.node (o218 P) (lf (o346 P)) .nil)) (.node (o122 P) (.node (o186 P) (lf (o314 P)) .nil) (lf (o250 P)))))) (.node (o14 P) (.node (o22 P) (.node (o38 P) (.node (o70 P) (.node (o134 P) (lf (o262 P)) .nil) (.node (o198 P) (lf (o326 P)) .nil)) (.node (o102 P) (.node (o166 P) (lf (o294 P)) .nil) (lf (o230 P)))) (.node (o54 P) (.node (o86 P) (.node (o150 P) (lf (o278 P)) .nil) (.node (o214 P) (lf (o342 P)) .nil)) (.node (o118 P) (.node (o182 P) (lf (o310 P)) .nil) (lf (o246 P))))) (.node (o30 P) (.node (o46 P) (.node (o78 P) (.node (o142 P) (lf (o270 P)) .nil) (.node (o206 P) (lf (o334 P)) .nil)) (.node (o110 P) (.node (o174 P) (lf (o302 P)) .nil) (lf (o238 P)))) (.node (o62 P) (.node (o94 P) (.node (o158 P) (lf (o286 P)) .nil) (.node (o222 P) (lf (o350 P)) .nil)) (.node (o126 P) (.node (o190 P) (lf (o318 P)) .nil) (lf (o254 P)))))))))

noncomputable def mainStmtV (W : Program) (i : Nat) : Stmt := W.main.body.getD i (.Pass ⟨0, 0, 0, 0⟩)
noncomputable def envV (W : Program) : Env := { scope := W.main.scope, locals := mainNs, globals := mainNs, cells := [], code := .ref 30, frame := some 31 }
noncomputable def cV (W : Program) : Code := .body (behindTheImports W) (envV W)
noncomputable def envT : Env := envV pw
noncomputable def cT : Code := cV pw
noncomputable def z0 : Pos := ⟨0, 0, 0, 0⟩
noncomputable def frs : List PySem.Frame := [topFrame z0]
noncomputable def stmV (W : Program) (a n : Nat) : List Stmt := match a, n with
  | _, 0 => []
  | a, n + 1 => mainStmtV W a :: stmV W (a + 1) n
noncomputable def stm (a n : Nat) : List Stmt := stmV pw a n
noncomputable abbrev Out := Option (Flow × SharedT × Code × Pos)
noncomputable def stT (t : Params → BT) (n k : Nat) (w : World) (os : OsState) : SharedT := ⟨t w.params, n, {}, #[], {}, k, os⟩
noncomputable def lhsV (W : Program) (m : Nat) (s : SharedT) (a n : Nat) (p : Pos) (w : World) : Out := segRunT treeTable W w 28 (some (.ref 6)) 1 m s (piecesOf (stmV W a n) (envV W) (cV W) p frs)
noncomputable def rhsV (W : Program) (s : SharedT) (p : Pos) : Out := some (.next, s, cV W, p)
noncomputable def lhsOf (m : Nat) (s : SharedT) (a n : Nat) (p : Pos) (w : World) : Out := lhsV pw m s a n p w
noncomputable def rhsOf (s : SharedT) (p : Pos) : Out := rhsV pw s p
noncomputable def Trig {α : Type} (_ _ : α) : Bool := true
noncomputable def lB (W : Program) (t : Params → BT) (w : World) (os : OsState) : Out := lhsV W 48 (stT t 32 282 w os) 1 3 ⟨0, 0, 0, 0⟩ w
noncomputable def rB (W : Program) (t : Params → BT) (w : World) (os : OsState) : Out := rhsV W (stT t 39 293 w os) ⟨6, 0, 6, 11⟩
noncomputable def l3 (W : Program) (t : Params → BT) (w : World) (os : OsState) : Out := lhsV W 503 (stT t 39 293 w os) 4 1 ⟨6, 0, 6, 11⟩ w
noncomputable def r3 (W : Program) (t : Params → BT) (w : World) (os : OsState) : Out := rhsV W (stT t 122 388 w os) ⟨7, 0, 37, 32⟩
noncomputable def l4 (W : Program) (t : Params → BT) (w : World) (os : OsState) : Out := lhsV W 10 (stT t 122 388 w os) 5 1 ⟨7, 0, 37, 32⟩ w
noncomputable def r4 (W : Program) (t : Params → BT) (w : World) (os : OsState) : Out := rhsV W (stT t 122 390 w os) ⟨38, 0, 38, 8⟩
noncomputable def l5ff (W : Program) (t : Params → BT) (w : World) (os : OsState) : Out := lhsV W 999 (stT t 122 390 ((w.withFollow "set-order" false).withFollow "special-get-raises" false) os) 6 1 ⟨38, 0, 38, 8⟩ ((w.withFollow "set-order" false).withFollow "special-get-raises" false)
noncomputable def r5ff (W : Program) (t : Params → BT) (w : World) (os : OsState) : Out := rhsV W (stT t 133 450 ((w.withFollow "set-order" false).withFollow "special-get-raises" false) os) ⟨39, 0, 39, 6⟩
noncomputable def l5ft (W : Program) (t : Params → BT) (w : World) (os : OsState) : Out := lhsV W 999 (stT t 122 390 ((w.withFollow "set-order" false).withFollow "special-get-raises" true) os) 6 1 ⟨38, 0, 38, 8⟩ ((w.withFollow "set-order" false).withFollow "special-get-raises" true)
noncomputable def r5ft (W : Program) (t : Params → BT) (w : World) (os : OsState) : Out := rhsV W (stT t 133 450 ((w.withFollow "set-order" false).withFollow "special-get-raises" true) os) ⟨39, 0, 39, 6⟩
noncomputable def l5tf (W : Program) (t : Params → BT) (w : World) (os : OsState) : Out := lhsV W 999 (stT t 122 390 ((w.withFollow "set-order" true).withFollow "special-get-raises" false) os) 6 1 ⟨38, 0, 38, 8⟩ ((w.withFollow "set-order" true).withFollow "special-get-raises" false)
noncomputable def r5tf (W : Program) (t : Params → BT) (w : World) (os : OsState) : Out := rhsV W (stT t 133 450 ((w.withFollow "set-order" true).withFollow "special-get-raises" false) os) ⟨39, 0, 39, 6⟩
noncomputable def l5tt (W : Program) (t : Params → BT) (w : World) (os : OsState) : Out := lhsV W 999 (stT t 122 390 ((w.withFollow "set-order" true).withFollow "special-get-raises" true) os) 6 1 ⟨38, 0, 38, 8⟩ ((w.withFollow "set-order" true).withFollow "special-get-raises" true)
noncomputable def r5tt (W : Program) (t : Params → BT) (w : World) (os : OsState) : Out := rhsV W (stT t 133 450 ((w.withFollow "set-order" true).withFollow "special-get-raises" true) os) ⟨39, 0, 39, 6⟩
noncomputable def l6 (W : Program) (t : Params → BT) (w : World) (os : OsState) : Out := lhsV W 30 (stT t 133 450 w os) 7 1 ⟨39, 0, 39, 6⟩ w
noncomputable def r6 (W : Program) (t : Params → BT) (w : World) (os : OsState) : Out := rhsV W (stT t 140 457 w os) ⟨40, 0, 41, 30⟩
noncomputable def l8 (W : Program) (t : Params → BT) (w : World) (os : OsState) : Out := lhsV W 296 (stT t 179 2408 w os) 9 6 ⟨42, 0, 42, 13⟩ w
noncomputable def r8 (W : Program) (t : Params → BT) (w : World) (os : OsState) : Out := rhsV W (stT t 209 2522 w os) ⟨52, 0, 60, 20⟩
noncomputable def l14 (W : Program) (t : Params → BT) (w : World) (os : OsState) : Out := lhsV W 727 (stT t 209 2522 w os) 15 1 ⟨52, 0, 60, 20⟩ w
noncomputable def r14 (W : Program) (t : Params → BT) (w : World) (os : OsState) : Out := rhsV W (stT t 334 2679 w os) ⟨61, 0, 142, 93⟩
noncomputable def l15 (W : Program) (t : Params → BT) (w : World) (os : OsState) : Out := lhsV W 114 (stT t 334 2679 w os) 16 5 ⟨61, 0, 142, 93⟩ w
noncomputable def r15 (W : Program) (t : Params → BT) (w : World) (os : OsState) : Out := rhsV W (stT t 354 2705 w os) ⟨164, 0, 179, 15⟩
theorem trigB : Trig lB rB = true := by k_qdec
theorem eB : lB pw tB = rB pw t3 := (congrFun (congrFun PySem.W.Fast.te14150769451746639782 pw) tB).trans (funext fun w => funext fun os => by kernel_rfl)
theorem trig3 : Trig l3 r3 = true := by k_qdec
theorem e3 : l3 pw t3 = r3 pw t4 := (congrFun (congrFun PySem.W.Fast.te16054228911466079971 pw) t3).trans (funext fun w => funext fun os => by kernel_rfl)
theorem trig4 : Trig l4 r4 = true := by k_qdec
theorem e4 : l4 pw t4 = r4 pw t5 := (congrFun (congrFun PySem.W.Fast.te2112476580388404797 pw) t4).trans (funext fun w => funext fun os => by kernel_rfl)
theorem trig5ff : Trig l5ff r5ff = true := by k_qdec
theorem e5ff : l5ff pw t5 = r5ff pw t6 := (congrFun (congrFun PySem.W.Fast.te3013741739715887544 pw) t5).trans (funext fun w => funext fun os => by kernel_rfl)
theorem trig5ft : Trig l5ft r5ft = true := by k_qdec
theorem e5ft : l5ft pw t5 = r5ft pw t6 := (congrFun (congrFun PySem.W.Fast.te9190870727984667124 pw) t5).trans (funext fun w => funext fun os => by kernel_rfl)
theorem trig5tf : Trig l5tf r5tf = true := by k_qdec
theorem e5tf : l5tf pw t5 = r5tf pw t6 := (congrFun (congrFun PySem.W.Fast.te5261075532308019262 pw) t5).trans (funext fun w => funext fun os => by kernel_rfl)
theorem trig5tt : Trig l5tt r5tt = true := by k_qdec
theorem e5tt : l5tt pw t5 = r5tt pw t6 := (congrFun (congrFun PySem.W.Fast.te15893491981242585953 pw) t5).trans (funext fun w => funext fun os => by kernel_rfl)
theorem trig6 : Trig l6 r6 = true := by k_qdec
theorem e6 : l6 pw t6 = r6 pw t7 := (congrFun (congrFun PySem.W.Fast.te7445631743472700543 pw) t6).trans (funext fun w => funext fun os => by kernel_rfl)
theorem trig8 : Trig l8 r8 = true := by k_qdec
theorem e8 : l8 pw t8 = r8 pw t14 := (congrFun (congrFun PySem.W.Fast.te4023811552128844416 pw) t8).trans (funext fun w => funext fun os => by kernel_rfl)
theorem trig14 : Trig l14 r14 = true := by k_qdec
theorem e14 : l14 pw t14 = r14 pw t15 := (congrFun (congrFun PySem.W.Fast.te12388415024670442012 pw) t14).trans (funext fun w => funext fun os => by kernel_rfl)
theorem trig15 : Trig l15 r15 = true := by k_qdec
theorem e15 : l15 pw t15 = r15 pw t20 := (congrFun (congrFun PySem.W.Fast.te1993972668740917945 pw) t15).trans (funext fun w => funext fun os => by kernel_rfl)
end Mine
end
section
open PySem PySem.W PyProof.Rows
set_option Elab.async false
set_option maxRecDepth 1000000
set_option maxHeartbeats 0
set_option linter.unusedVariables false
namespace Mine
noncomputable abbrev sgo (w : World) (n : Nat) (s : Shared) (t : Thread) : Option (Shared × Thread) := segGo treeTable pw w 28 (some (.ref 6)) 1 n s t
theorem sgo_add (w : World) : ∀ (n m : Nat) {s s1 : Shared} {t t1 : Thread} {r : Option (Shared × Thread)}, sgo w n s t = some (s1, t1) → sgo w m s1 t1 = r → sgo w (n + m) s t = r
  | 0, m, s, s1, t, t1, r, h, k => by
    obtain ⟨rfl, rfl⟩ : s = s1 ∧ t = t1 := by simpa [sgo, segGo] using h
    rw [Nat.zero_add]; exact k
  | n + 1, m, s, s1, t, t1, r, h, k => by
    rw [show n + 1 + m = n + m + 1 by omega]
    unfold sgo segGo at h ⊢
    cases he : endAt 1 t with
    | some f => rw [he] at h; cases h
    | none =>
      rw [he] at h
      cases hk : stepOk 28 (some (.ref 6)) t with
      | false => rw [hk] at h; cases h
      | true =>
        rw [hk] at h
        cases hs : step (denote treeTable) pw w s t with
        | halt o s2 => rw [hs] at h; cases h
        | go s2 t2 => rw [hs] at h; exact sgo_add w n m h k
/-- from s at p the tree ends, in n steps of the machine, with a at s' and p' -/
noncomputable def Big {α : Type} (w : World) (n : Nat) (s : Shared) (p : Pos) (m : Sem α) (s' : Shared) (p' : Pos) (a : α) : Prop :=
  ∀ (K : α → Sem Fin) (H : Value → Sem Fin) (gd : Bool → Bool) (lv : List Value → List Value) (c : Code), sgo w n s ⟨m.wrap K H gd lv, c, p, frs⟩ = some (s', ⟨K a, c, p', frs⟩)
section
variable {α β : Type} {w : World} {s s1 s2 : Shared} {p p1 p2 : Pos}
theorem Big.pure' {a : α} : Big w 0 s p (Pure.pure a) s p a := fun _ _ _ _ _ => rfl
theorem Big.bind {m : Sem α} {f : α → Sem β} {n1 n2 : Nat} {a : α} {b : β} (h : Big w n1 s p m s1 p1 a) (k : Big w n2 s1 p1 (f a) s2 p2 b) : Big w (n1 + n2) s p (m >>= f) s2 p2 b := fun K H gd lv c => by
  rw [Sem.bind_eq_wrap', Sem.wrap_wrap]
  exact sgo_add w n1 n2 (h _ _ _ _ c) (k K H gd lv c)
theorem Big.keep {m : Sem α} {n : Nat} {a : α} {vs : List Value} (h : Big w n s p m s1 p1 a) : Big w n s p (m.keep vs) s1 p1 a := fun K H gd lv c => by
  rw [Sem.keep_eq_wrap, Sem.wrap_wrap]
  exact h _ _ _ _ c
theorem Big.holding {m : Sem α} {n : Nat} {a : α} {vs : List Value} (h : Big w n s p m s1 p1 a) : Big w n s p (PySem.holding vs m) s1 p1 a := by
  unfold PySem.holding
  split
  · exact h
  · exact h.keep
theorem Big.onRaise {m : Sem α} {n : Nat} {a : α} {k : Value → Sem Unit} (h : Big w n s p m s1 p1 a) : Big w n s p (m.onRaise k) s1 p1 a := fun K H gd lv c => by
  rw [Sem.onRaise_eq_wrap, Sem.wrap_wrap]
  exact h _ _ _ _ c
theorem Big.at' {q : Pos} : Big w 1 s p (standAt q) s q () := fun _ _ _ _ _ => rfl
theorem Big.rule' {t : String} : Big w 1 s p (rule t) s p () := fun _ _ _ _ _ => rfl
theorem Big.fresh' : Big w 1 s p fresh { s with toks := s.toks + 1 } p s.toks := fun _ _ _ _ _ => rfl
theorem Big.ask' : Big w 1 s p ask s p ⟨pw, w.params⟩ := fun _ _ _ _ _ => rfl
theorem Big.alloc' {o : Obj} : Big w 1 s p (alloc o) { s with heap := s.heap.push o } p s.heap.objs.size := fun _ _ _ _ _ => rfl
theorem Big.load' {a : Addr} {q : Option Value} {o : Obj} (h : s.heap.get? a = some o) : Big w 1 s p (loadPart a q) s p o := fun K H gd lv c => by
  show (match step (denote treeTable) pw w s ⟨.load a q fun x => K x, c, p, frs⟩ with
        | .go s' t' => sgo w 0 s' t'
        | .halt _ _ => none) = _
  simp only [step, h]
  rfl
theorem Big.update' {a : Addr} {q : Option Value} {f : Obj → Obj} {o : Obj} (h : s.heap.get? a = some o) (ha : 28 ≤ a) : Big w 1 s p (updatePart a q f) { s with heap := s.heap.update a f } p () := fun K H gd lv c => by
  show (match (some ()) with
    | some _ => (match stepOk 28 (some (.ref 6)) ⟨.update a q f fun x => K x, c, p, frs⟩ with
      | false => none
      | true => match step (denote treeTable) pw w s ⟨.update a q f fun x => K x, c, p, frs⟩ with
        | .go s' t' => sgo w 0 s' t'
        | .halt _ _ => none)
    | none => none) = _
  have e : stepOk 28 (some (.ref 6)) ⟨.update a q f fun x => K x, c, p, frs⟩ = true := by
    simp only [stepOk, Thread.calm, Thread.atCollectorCode, Thread.atExit, Thread.yieldsInsideHandler, Nat.ble_eq_true_of_le ha]
    rfl
  simp only [e, step, h]
  rfl
theorem Big.congr {m m' : Sem α} {n : Nat} {a : α} (h : Big w n s p m s1 p1 a) (e : m' = m) : Big w n s p m' s1 p1 a := e ▸ h
theorem Big.mkInt' {i : Int} : Big w 1 s p (mkInt i) { s with toks := s.toks + 1 } p (.int i s.toks) := fun _ _ _ _ _ => rfl
theorem Big.mkText' {x : Str} : Big w 1 s p (mkText x) { s with toks := s.toks + 1 } p (.str x s.toks) := fun _ _ _ _ _ => rfl
theorem Big.congrS {m : Sem α} {n : Nat} {a : α} {s1' : Shared} (h : Big w n s p m s1 p1 a) (e : s1 = s1') : Big w n s p m s1' p1 a := e ▸ h
noncomputable def hx (x : Int) : Int :=
  let h : Int := x.natAbs % (2 ^ 61 - 1 : Nat)
  let h := if x < 0 then -h else h
  (if h == -1 then -2 else h)
theorem hash_row (w : World) (b : Bool) (s : Shared) (p : Pos) (i : Int) (t : Tok) (K : Int → Sem Fin) (H : Value → Sem Fin) (gd : Bool → Bool) (lv : List Value → List Value) (c : Code) :
    sgo (w.withFollow "special-get-raises" b) 5 s ⟨(pyHash (.int i t)).wrap K H gd lv, c, p, frs⟩ = some ({ s with toks := s.toks + 1 }, ⟨(pyHashByItsType.reduced (hx i)).wrap K H gd lv, c, p, frs⟩) := by
  cases b
  · kernel_rfl
  · kernel_rfl
theorem hx_id {i : Int} (h0 : 0 ≤ i) (h1 : i < 2 ^ 60) : pyHashByItsType.reduced (hx i) = pure i := by
  have e : hx i = i := by
    unfold hx
    have : ¬ i < 0 := by omega
    have e1 : ((i.natAbs % (2 ^ 61 - 1) : Nat) : Int) = i := by
      rw [Nat.mod_eq_of_lt (by omega)]; omega
    have e2 : ((↑(i.natAbs) : Int) % ((2 ^ 61 - 1 : Nat) : Int)) = i := by rw [← Int.natCast_emod]; exact e1
    rw [e2]
    have t3 : (i == -1) = false := by simp; omega
    dsimp only
    rw [if_neg this, t3]; rfl
  rw [e]
  unfold pyHashByItsType.reduced
  have a : (decide (-(2 ^ 63 : Int) ≤ i) && decide (i < 2 ^ 63)) = true := by simp; omega
  have b : (i == -1) = false := by simp; omega
  simp only [a, if_true, b]
  rfl
theorem Big.hash {i : Int} {t : Tok} (h0 : 0 ≤ i) (h1 : i < 2 ^ 60) : Big w 5 s p (pyHash (.int i t)) { s with toks := s.toks + 1 } p i := by
  refine byRow2 "special-get-raises" (P := fun w => Big w 5 s p (pyHash (.int i t)) { s with toks := s.toks + 1 } p i) (fun w => ?_) (fun w => ?_) w
  all_goals
    intro K H gd lv c
    rw [hash_row, hx_id h0 h1]
    rfl
theorem Big.entries {d : Addr} {q : Option Value} {o : Obj} {es : Array DictEntry} {e : Nat} (h : s.heap.get? d = some o) (hd : o.data = .dict es e) : Big w 1 s p (dictEntries d q) s p es := by
  unfold dictEntries
  refine Big.bind (n1 := 1) (n2 := 0) (Big.load' h) ?_
  rw [hd]
  exact Big.pure'
theorem Big.find {d : Addr} {i : Int} {t : Tok} {o : Obj} {es : Array DictEntry} {e : Nat} {hh : Int} (h : s.heap.get? d = some o) (hd : o.data = .dict es e) (hn : placesWithHash es.size (fun i => es[i]?.map (·.hash)) hh = []) : Big w 1 s p (dictFind d (.int i t) hh) s p none := by
  unfold dictFind
  refine Big.holding (Big.bind (n1 := 1) (n2 := 0) (Big.entries h hd) ?_)
  rw [hn]
  exact Big.pure'
noncomputable def hp (l : List Obj) : Heap := ⟨l.toArray, {}⟩
theorem hp_push (l : List Obj) (o : Obj) : (hp l).push o = hp (l ++ [o]) := by
  unfold hp Heap.push
  simp
theorem hp_size (l : List Obj) : (hp l).objs.size = l.length := by simp [hp]
theorem hp_get (pre : List Obj) (o : Obj) (post : List Obj) (hf : ∀ c d sl, o ≠ ⟨c, d, .freed, sl⟩) : (hp (pre ++ o :: post)).get? pre.length = some o := by
  unfold hp Heap.get?
  simp only [List.getElem?_toArray, List.getElem?_append_right (Nat.le_refl _), Nat.sub_self, List.getElem?_cons_zero]
  split
  · rename_i c d sl h; exact absurd (Option.some.inj h) (hf _ _ _)
  · rfl
theorem hp_update (pre : List Obj) (o : Obj) (post : List Obj) (f : Obj → Obj) : (hp (pre ++ o :: post)).update pre.length f = hp (pre ++ f o :: post) := by
  have : (pre ++ o :: post).toArray.modify pre.length f = (pre ++ f o :: post).toArray := by
    apply Array.ext_getElem?
    intro j
    rw [Array.getElem?_modify]
    simp only [List.getElem?_toArray]
    by_cases h : pre.length = j
    · subst h; simp
    · rw [if_neg h]
      by_cases h2 : j < pre.length
      · rw [List.getElem?_append_left h2, List.getElem?_append_left h2]
      · rw [List.getElem?_append_right (by omega), List.getElem?_append_right (by omega)]
        obtain ⟨q, hq⟩ : ∃ q, j - pre.length = q + 1 := ⟨j - pre.length - 1, by omega⟩
        rw [hq]; rfl
  unfold hp Heap.update
  exact congrArg (fun x => Heap.mk x {}) this
theorem dictObj_ne (es : List DictEntry) (n : Nat) (c : Value) (d : Option Addr) (sl : Array (Option Value)) : dictObj es n ≠ ⟨c, d, .freed, sl⟩ := by
  intro h; cases h
theorem no_places {es : List DictEntry} {i : Int} (h : ∀ x ∈ es, x.hash ≠ i) : placesWithHash es.toArray.size (fun j => es.toArray[j]?.map (·.hash)) i = [] := by
  unfold placesWithHash
  rw [List.filter_eq_nil_iff]
  intro j _
  simp only [List.getElem?_toArray]
  cases e : es[j]? with
  | none => simp
  | some x => simpa using h x (List.mem_of_getElem? e)
theorem Big.setNew {pre post : List Obj} {es : List DictEntry} {e : Nat} {i : Int} {t : Tok} {v : Value} {k : Nat} (h0 : 0 ≤ i) (h1 : i < 2 ^ 60) (hn : ∀ x ∈ es, x.hash ≠ i) (hl : es.length < 2 ^ 20) (hpre : 28 ≤ pre.length) {os : OsState} :
    Big w 10 ⟨hp (pre ++ dictObj es e :: post), #[], {}, k, os⟩ p (dictSet pre.length (.int i t) v) ⟨hp (pre ++ dictObj (es ++ [⟨i, .int i t, v⟩]) (e + 1) :: post), #[], {}, k + 1, os⟩ p () := by
  unfold dictSet
  refine Big.holding (Big.bind (n1 := 5) (n2 := 5) (Big.hash h0 h1) ?_)
  unfold dictSetHashed
  have g := hp_get pre (dictObj es e) post (dictObj_ne es e)
  refine Big.holding (Big.bind (n1 := 1) (n2 := 4) (Big.find g rfl (no_places hn)) ?_)
  refine Big.bind (n1 := 1) (n2 := 3) Big.rule' ?_
  unfold updateDictKeys
  refine Big.bind (n1 := 1) (n2 := 2) (Big.load' g) ?_
  refine Big.bind (n1 := 1) (n2 := 1) (Big.update' g hpre) ?_
  unfold lookBehind
  rw [hp_update]
  have e2 : Obj.mapDictKeys (·.push ⟨i, .int i t, v⟩) (dictObj es e) = dictObj (es ++ [⟨i, .int i t, v⟩]) (e + 1) := by
    unfold dictObj Obj.mapDictKeys; simp
  rw [e2]
  refine Big.bind (n1 := 1) (n2 := 0) (Big.load' (hp_get pre _ post (dictObj_ne _ _))) ?_
  have e3 : (dictObj (es ++ [⟨i, .int i t, v⟩]) (e + 1)).data.pastItsLine = none := by
    unfold dictObj Data.pastItsLine
    simp only [List.size_toArray, List.length_append, List.length_cons, List.length_nil]
    rw [if_neg]
    unfold sizeLine
    omega
  rw [e3]
  exact Big.pure'
noncomputable abbrev Vt (x : Str) (q : Pos) : Sem Value := do let v ← mkText x; standAt q; pure v
noncomputable def sh (l : List Obj) (k : Nat) (os : OsState) : Shared := ⟨hp l, #[], {}, k, os⟩
theorem Big.sub_loop {q : Pos} {os : OsState} {pre post : List Obj} (hpre : 28 ≤ pre.length) : ∀ (l : List (Int × Str)) (es : List DictEntry) (e k : Nat), (∀ x ∈ l, 0 ≤ x.1 ∧ x.1 < 2 ^ 60) → (∀ x ∈ l, ∀ y ∈ es, y.hash ≠ x.1) → (l.map (·.1)).Nodup → es.length + l.length < 2 ^ 20 →
    Big w (13 * l.length) (sh (pre ++ dictObj es e :: post) k os) q (forIn (l.map fun x => (mkInt x.1, Vt x.2 q)) PUnit.unit (fun x _ => do
      let kv ← x.1
      let vv ← PySem.holding [kv] x.2
      PySem.holding [kv, vv] (dictSet pre.length kv vv)
      pure (ForInStep.yield PUnit.unit))) (sh (pre ++ dictObj (es ++ entsBy 3 k l) (e + l.length) :: post) (k + 3 * l.length) os) q PUnit.unit
  | [], es, e, k, _, _, _, _ => by
    simp only [List.map_nil, List.forIn_nil, entsBy, List.append_nil, List.length_nil, Nat.mul_zero, Nat.add_zero]
    exact Big.pure'
  | (i, x) :: l, es, e, k, hr, hn, hd, hl => by
    simp only [List.map_cons, List.forIn_cons]
    have ih := Big.sub_loop (q := q) (os := os) (post := post) hpre l (es ++ [⟨i, .int i k, .str x (k + 1)⟩]) (e + 1) (k + 3) (fun y hy => hr y (.tail _ hy)) (by
      intro y hy z hz
      rcases List.mem_append.mp hz with hz | hz
      · exact hn y (.tail _ hy) z hz
      · rcases List.mem_singleton.mp hz with rfl
        have := (List.nodup_cons.mp hd).1
        intro h
        exact this (List.mem_map.mpr ⟨y, hy, h.symm⟩)) (List.nodup_cons.mp hd).2 (by simp at hl ⊢; omega)
    have e1 : 13 * ((i, x) :: l).length = (1 + (2 + (10 + 0))) + 13 * l.length := by simp; omega
    rw [e1]
    refine Big.bind (a := ForInStep.yield PUnit.unit) (s1 := sh (pre ++ dictObj (es ++ [⟨i, .int i k, .str x (k + 1)⟩]) (e + 1) :: post) (k + 3) os) (p1 := q) ?_ ?_
    · refine Big.bind (Big.mkInt' (s := sh _ k os)) ?_
      refine Big.bind (p1 := q) (s1 := sh (pre ++ dictObj es e :: post) (k + 2) os) (Big.holding (Big.bind (n1 := 1) (n2 := 1) Big.mkText' (Big.bind (n1 := 1) (n2 := 0) Big.at' Big.pure'))) ?_
      have h0 := hr (i, x) (.head _)
      refine Big.bind (Big.holding (Big.setNew h0.1 h0.2 (fun y hy => hn (i, x) (.head _) y hy) (by simp at hl; omega) hpre)) ?_
      exact Big.pure'
    · simp only [entsBy]
      have e2 : e + ((i, x) :: l).length = e + 1 + l.length := by simp; omega
      have e3 : k + 3 * ((i, x) :: l).length = k + 3 + 3 * l.length := by simp; omega
      rw [e2, e3, show es ++ ⟨i, .int i k, .str x (k + 1)⟩ :: entsBy 3 (k + 3) l = (es ++ [⟨i, .int i k, .str x (k + 1)⟩]) ++ entsBy 3 (k + 3) l by simp]
      exact ih
theorem Big.sub {q : Pos} {os : OsState} {L : List Obj} (hL : 28 ≤ L.length) {l : List (Int × Str)} {k : Nat} (h15 : 15 < l.length) (hr : ∀ x ∈ l, 0 ≤ x.1 ∧ x.1 < 2 ^ 60) (hd : (l.map (·.1)).Nodup) (hl : l.length < 2 ^ 20) :
    Big w (2 + 13 * l.length) (sh L k os) q (subDict (l.map fun x => (mkInt x.1, Vt x.2 q))) (sh (L ++ [dictObj (entsBy 3 k l) l.length]) (k + 3 * l.length) os) q L.length := by
  unfold subDict
  have e : 2 + 13 * l.length = 1 + ((1 + (13 * l.length + 0)) + 0) := by omega
  rw [e]
  have sz : (sh L k os).heap.objs.size = L.length := hp_size L
  refine Big.bind (a := L.length) (s1 := sh (L ++ dictObj [] 0 :: []) k os) (p1 := q) ?_ ?_
  · have := Big.alloc' (w := w) (s := sh L k os) (p := q) (o := { cls := .type "dict", data := .dict #[] })
    rw [sz] at this
    exact this.congrS (by show Shared.mk ((hp L).push _) _ _ _ _ = _; rw [hp_push]; rfl)
  · refine Big.bind (a := ()) (Big.holding ?_) Big.pure'
    rw [if_neg (by rw [List.length_map]; omega)]
    refine Big.bind Big.rule' ?_
    refine Big.bind (a := PUnit.unit) (p1 := q) (s1 := sh (L ++ dictObj ([] ++ entsBy 3 k l) (0 + l.length) :: []) (k + 3 * l.length) os) (Big.sub_loop hL l [] 0 k hr (fun _ _ y hy => nomatch hy) hd (by simpa using hl)) ?_
    simp only [List.nil_append, Nat.zero_add]
    exact Big.pure'
theorem sub_dict_dict : isSubtype (.type "dict") (.type "dict") = pure true := by kernel_rfl
theorem look_dict_iter : typeLookup (.type "dict") (Str.ofString "__iter__") = pure (some (.builtin "dict.__iter__")) := by kernel_rfl
theorem Big.evalPairs {q : Pos} {os : OsState} {L : List Obj} : ∀ (l : List (Int × Str)) (k : Nat), Big w (3 * l.length) (sh L k os) q (evalPairs (l.map fun x => (mkInt x.1, Vt x.2 q))) (sh L (k + 2 * l.length) os) q ((entsBy 2 k l).map fun e => (e.key, e.val))
  | [], k => Big.pure'
  | (i, x) :: l, k => by
    have ih := Big.evalPairs (q := q) (os := os) (L := L) l (k + 2)
    have e1 : 3 * ((i, x) :: l).length = 1 + (2 + (3 * l.length + 0)) := by simp; omega
    rw [e1]
    simp only [List.map_cons, PySem.evalPairs, entsBy]
    refine Big.bind (Big.mkInt' (s := sh L k os)) ?_
    refine Big.bind (p1 := q) (s1 := sh L (k + 2) os) (Big.holding (Big.bind (n1 := 1) (n2 := 1) Big.mkText' (Big.bind (n1 := 1) (n2 := 0) Big.at' Big.pure'))) ?_
    refine Big.bind (Big.holding ih) ?_
    have e3 : k + 2 * ((i, x) :: l).length = k + 2 + 2 * l.length := by simp; omega
    rw [e3]
    exact Big.pure'
theorem Big.set_loop {q : Pos} {os : OsState} {pre post : List Obj} (hpre : 28 ≤ pre.length) : ∀ (l : List (Int × Str)) (t : Nat) (es : List DictEntry) (e k : Nat), (∀ x ∈ l, 0 ≤ x.1 ∧ x.1 < 2 ^ 60) → (∀ x ∈ l, ∀ y ∈ es, y.hash ≠ x.1) → (l.map (·.1)).Nodup → es.length + l.length < 2 ^ 20 →
    Big w (10 * l.length) (sh (pre ++ dictObj es e :: post) k os) q (forIn ((entsBy 2 t l).map fun e => (e.key, e.val)) PUnit.unit (fun x _ => do
      dictSet pre.length x.1 x.2
      pure (ForInStep.yield PUnit.unit))) (sh (pre ++ dictObj (es ++ entsBy 2 t l) (e + l.length) :: post) (k + l.length) os) q PUnit.unit
  | [], t, es, e, k, _, _, _, _ => by
    simp only [entsBy, List.map_nil, List.forIn_nil, List.append_nil, List.length_nil, Nat.mul_zero, Nat.add_zero]
    exact Big.pure'
  | (i, x) :: l, t, es, e, k, hr, hn, hd, hl => by
    simp only [entsBy, List.map_cons, List.forIn_cons]
    have ih := Big.set_loop (q := q) (os := os) (post := post) hpre l (t + 2) (es ++ [⟨i, .int i t, .str x (t + 1)⟩]) (e + 1) (k + 1) (fun y hy => hr y (.tail _ hy)) (by
      intro y hy z hz
      rcases List.mem_append.mp hz with hz | hz
      · exact hn y (.tail _ hy) z hz
      · rcases List.mem_singleton.mp hz with rfl
        have := (List.nodup_cons.mp hd).1
        intro h
        exact this (List.mem_map.mpr ⟨y, hy, h.symm⟩)) (List.nodup_cons.mp hd).2 (by simp at hl ⊢; omega)
    have e1 : 10 * ((i, x) :: l).length = (10 + 0) + 10 * l.length := by simp; omega
    rw [e1]
    have h0 := hr (i, x) (.head _)
    refine Big.bind (a := ForInStep.yield PUnit.unit) (s1 := sh (pre ++ dictObj (es ++ [⟨i, .int i t, .str x (t + 1)⟩]) (e + 1) :: post) (k + 1) os) (p1 := q) ?_ ?_
    · exact Big.bind (Big.setNew h0.1 h0.2 (fun y hy => hn (i, x) (.head _) y hy) (by simp at hl; omega) hpre) Big.pure'
    · have e2 : e + ((i, x) :: l).length = e + 1 + l.length := by simp; omega
      have e3 : k + ((i, x) :: l).length = k + 1 + l.length := by simp; omega
      rw [e2, e3, show es ++ ⟨i, .int i t, .str x (t + 1)⟩ :: entsBy 2 (t + 2) l = (es ++ [⟨i, .int i t, .str x (t + 1)⟩]) ++ entsBy 2 (t + 2) l by simp]
      exact ih
theorem Big.subS {q : Pos} {os : OsState} {L : List Obj} (hL : 28 ≤ L.length) {l : List (Int × Str)} {k : Nat} (h15 : l.length ≤ 15) (hr : ∀ x ∈ l, 0 ≤ x.1 ∧ x.1 < 2 ^ 60) (hd : (l.map (·.1)).Nodup) (hl : l.length < 2 ^ 20) :
    Big w (1 + 13 * l.length) (sh L k os) q (subDict (l.map fun x => (mkInt x.1, Vt x.2 q))) (sh (L ++ [dictObj (entsBy 2 k l) l.length]) (k + 3 * l.length) os) q L.length := by
  unfold subDict
  have e : 1 + 13 * l.length = 1 + ((3 * l.length + (10 * l.length + 0)) + 0) := by omega
  rw [e]
  have sz : (sh L k os).heap.objs.size = L.length := hp_size L
  refine Big.bind (a := L.length) (s1 := sh (L ++ dictObj [] 0 :: []) k os) (p1 := q) ?_ ?_
  · have := Big.alloc' (w := w) (s := sh L k os) (p := q) (o := { cls := .type "dict", data := .dict #[] })
    rw [sz] at this
    exact this.congrS (by show Shared.mk ((hp L).push _) _ _ _ _ = _; rw [hp_push]; rfl)
  · refine Big.bind (a := ()) (Big.holding ?_) Big.pure'
    rw [if_pos (by rw [List.length_map]; omega)]
    refine Big.bind (Big.evalPairs l k) ?_
    have e3 : k + 3 * l.length = k + 2 * l.length + l.length := by omega
    rw [e3]
    refine Big.holding (Big.bind (a := PUnit.unit) (p1 := q) (s1 := sh (L ++ dictObj ([] ++ entsBy 2 k l) (0 + l.length) :: []) (k + 2 * l.length + l.length) os) (Big.set_loop hL l k [] 0 (k + 2 * l.length) hr (fun _ _ y hy => nomatch hy) hd (by simpa using hl)) ?_)
    simp only [List.nil_append, Nat.zero_add]
    exact Big.pure'
theorem Big.put {pre post : List Obj} {es : List DictEntry} {e : Nat} {i : Int} {t : Tok} {v : Value} {k : Nat} (hn : ∀ x ∈ es, x.hash ≠ i) (hl : es.length < 2 ^ 20) (hpre : 28 ≤ pre.length) {os : OsState} :
    Big w 4 (sh (pre ++ dictObj es e :: post) k os) p (dictPut pre.length i (.int i t) v) (sh (pre ++ dictObj (es ++ [⟨i, .int i t, v⟩]) (e + 1) :: post) k os) p () := by
  unfold dictPut
  have g := hp_get pre (dictObj es e) post (dictObj_ne es e)
  refine Big.bind (n1 := 1) (n2 := 3) (Big.find g rfl (no_places hn)) ?_
  unfold updateDictKeys
  refine Big.bind (n1 := 1) (n2 := 2) (Big.load' g) ?_
  refine Big.bind (n1 := 1) (n2 := 1) (Big.update' g hpre) ?_
  unfold lookBehind
  simp only [sh]
  rw [hp_update]
  have e2 : Obj.mapDictKeys (·.push ⟨i, .int i t, v⟩) (dictObj es e) = dictObj (es ++ [⟨i, .int i t, v⟩]) (e + 1) := by
    unfold dictObj Obj.mapDictKeys; simp
  rw [e2]
  refine Big.bind (n1 := 1) (n2 := 0) (Big.load' (hp_get pre _ post (dictObj_ne _ _))) ?_
  have e3 : (dictObj (es ++ [⟨i, .int i t, v⟩]) (e + 1)).data.pastItsLine = none := by
    unfold dictObj Data.pastItsLine
    simp only [List.size_toArray, List.length_append, List.length_cons, List.length_nil]
    rw [if_neg]
    unfold sizeLine
    omega
  rw [e3]
  exact Big.pure'
theorem Big.epoch {d : Addr} {q : Option Value} {o : Obj} {es : Array DictEntry} {e : Nat} (h : s.heap.get? d = some o) (hd : o.data = .dict es e) : Big w 1 s p (dictEpoch d q) s p e := by
  unfold dictEpoch
  refine Big.bind (n1 := 1) (n2 := 0) (Big.load' h) ?_
  rw [hd]
  exact Big.pure'
theorem entsBy_get {gap : Nat} : ∀ (l : List (Int × Str)) (t i : Nat) (h : i < l.length), ∃ tk, (entsBy gap t l)[i]? = some ⟨l[i].1, .int l[i].1 tk, .str l[i].2 (tk + 1)⟩
  | (a, b) :: l, t, 0, h => ⟨t, rfl⟩
  | (a, b) :: l, t, i + 1, h => by
    obtain ⟨tk, e⟩ := entsBy_get l (t + gap) i (by simpa using h)
    exact ⟨tk, by simpa [entsBy] using e⟩
theorem entsBy_len {gap : Nat} : ∀ (l : List (Int × Str)) (t : Nat), (entsBy gap t l).length = l.length
  | [], _ => rfl
  | (a, b) :: l, t => by simp [entsBy, entsBy_len l]
theorem entsBy_hash {gap : Nat} : ∀ (l : List (Int × Str)) (t : Nat), (entsBy gap t l).map (·.hash) = l.map (·.1)
  | [], _ => rfl
  | (a, b) :: l, t => by simp [entsBy, entsBy_hash l]
theorem Big.merge_loop {os : OsState} {A B : List Obj} (hA : 28 ≤ A.length) {gap t n k : Nat} (l : List (Int × Str)) (hd : (l.map (·.1)).Nodup) (es : List DictEntry) (hn : ∀ x ∈ l, ∀ y ∈ es, y.hash ≠ x.1) (hl : es.length + l.length < 2 ^ 20) :
    ∀ (m i e : Nat), i + m = l.length →
    Big w (6 * m) (sh (A ++ dictObj (es ++ (entsBy gap t l).take i) e :: (B ++ [dictObj (entsBy gap t l) n])) k os) p (forIn (List.range' i m) PUnit.unit (fun i _ => do
      let __do_lift ← dictEntries (A.length + 1 + B.length)
      match __do_lift[i]? with
        | some e => do
          PySem.holding [e.key, e.val] do
            dictPut A.length e.hash e.key e.val
          let __do_lift ← dictEpoch (A.length + 1 + B.length)
          if (__do_lift != n) = true then do
            unsupported "dict.changed-during-merge"
            pure (ForInStep.yield PUnit.unit)
          else pure (ForInStep.yield PUnit.unit)
        | x => unsupported "dict.changed-during-merge")) (sh (A ++ dictObj (es ++ entsBy gap t l) (e + m) :: (B ++ [dictObj (entsBy gap t l) n])) k os) p PUnit.unit
  | 0, i, e, h => by
    have : (entsBy gap t l).take i = entsBy gap t l := List.take_of_length_le (by rw [entsBy_len]; omega)
    rw [this]
    exact Big.pure'
  | m + 1, i, e, h => by
    have ih := Big.merge_loop (os := os) (B := B) (gap := gap) (t := t) (n := n) (k := k) hA l hd es hn hl m (i + 1) (e + 1) (by omega)
    obtain ⟨tk, he⟩ := entsBy_get (gap := gap) l t i (by omega)
    have g (es' : List DictEntry) (e' : Nat) : (sh (A ++ dictObj es' e' :: (B ++ [dictObj (entsBy gap t l) n])) k os).heap.get? (A.length + 1 + B.length) = some (dictObj (entsBy gap t l) n) := by
      have := hp_get (A ++ dictObj es' e' :: B) (dictObj (entsBy gap t l) n) [] (dictObj_ne _ _)
      rw [show (A ++ dictObj es' e' :: B).length = A.length + 1 + B.length by simp; omega] at this
      simpa [sh] using this
    simp only [List.range'_succ, List.forIn_cons]
    have e1 : 6 * (m + 1) = (1 + (4 + (1 + 0))) + 6 * m := by omega
    rw [e1]
    have tk1 : (entsBy gap t l).take (i + 1) = (entsBy gap t l).take i ++ [⟨(l[i]'(by omega)).1, .int (l[i]'(by omega)).1 tk, .str (l[i]'(by omega)).2 (tk + 1)⟩] := by
      rw [List.take_add_one, he]; rfl
    refine Big.bind (a := ForInStep.yield PUnit.unit) (s1 := sh (A ++ dictObj (es ++ (entsBy gap t l).take (i + 1)) (e + 1) :: (B ++ [dictObj (entsBy gap t l) n])) k os) (p1 := p) ?_ ?_
    · refine Big.bind (Big.entries (g _ _) rfl) ?_
      simp only [List.getElem?_toArray, he]
      refine Big.bind (a := ()) (p1 := p) (s1 := sh (A ++ dictObj (es ++ (entsBy gap t l).take (i + 1)) (e + 1) :: (B ++ [dictObj (entsBy gap t l) n])) k os) (Big.holding ?_) ?_
      · rw [tk1, ← List.append_assoc]
        refine Big.put (fun y hy => ?_) ?_ hA
        · rcases List.mem_append.mp hy with hy | hy
          · exact hn _ (List.getElem_mem _) y hy
          · intro hq
            obtain ⟨j, hj, rfl⟩ := List.getElem_of_mem hy
            have hj' : j < i := by simp at hj; omega
            have a1 : (List.take i (entsBy gap t l))[j].hash = (l[j]'(by omega)).1 := by
              obtain ⟨tk', he'⟩ := entsBy_get (gap := gap) l t j (by omega)
              rw [List.getElem_take]
              have := List.getElem?_eq_some_iff.mp he'
              rw [this.2]
            rw [a1] at hq
            have := List.pairwise_iff_getElem.mp hd j i (by simp; omega) (by simp; omega) hj'
            exact this (by simpa using hq)
        · simp only [List.length_append, List.length_take]; omega
      · refine Big.bind (Big.epoch (g _ _) rfl) ?_
        simp only [bne_self_eq_false, Bool.false_eq_true, if_false]
        exact Big.pure'
    · rw [show e + (m + 1) = e + 1 + m by omega]
      exact ih
theorem Big.typeOfRef {a : Addr} {o : Obj} (h : s.heap.get? a = some o) : Big w 1 s p (typeOf (.ref a)) s p o.cls :=
  Big.bind (n1 := 1) (n2 := 0) (Big.load' h) Big.pure'
theorem Big.merge {os : OsState} {A B : List Obj} (hA : 28 ≤ A.length) {gap t n k : Nat} (l : List (Int × Str)) (hd : (l.map (·.1)).Nodup) (es : List DictEntry) (hne : es ≠ []) (hn : ∀ x ∈ l, ∀ y ∈ es, y.hash ≠ x.1) (hl : es.length + l.length < 2 ^ 20) (e : Nat) :
    Big w (5 + 6 * l.length) (sh (A ++ dictObj es e :: (B ++ [dictObj (entsBy gap t l) n])) k os) p (mergeMapping A.length (.ref (A.length + 1 + B.length)) false)
      (sh (A ++ dictObj (es ++ entsBy gap t l) (e + l.length) :: (B ++ [dictObj (entsBy gap t l) n])) k os) p () := by
  have g : (sh (A ++ dictObj es e :: (B ++ [dictObj (entsBy gap t l) n])) k os).heap.get? (A.length + 1 + B.length) = some (dictObj (entsBy gap t l) n) := by
      have := hp_get (A ++ dictObj es e :: B) (dictObj (entsBy gap t l) n) [] (dictObj_ne _ _)
      rw [show (A ++ dictObj es e :: B).length = A.length + 1 + B.length by simp; omega] at this
      simpa [sh] using this
  have gm : (sh (A ++ dictObj es e :: (B ++ [dictObj (entsBy gap t l) n])) k os).heap.get? A.length = some (dictObj es e) := hp_get A (dictObj es e) _ (dictObj_ne _ _)
  unfold mergeMapping
  have e1 : 5 + 6 * l.length = (1 + 0) + ((1 + 0) + (0 + (1 + (1 + (1 + (6 * l.length + 0)))))) := by omega
  rw [e1]
  unfold isInstance
  have gt : Big w 1 (sh (A ++ dictObj es e :: (B ++ [dictObj (entsBy gap t l) n])) k os) p (typeOf (.ref (A.length + 1 + B.length))) (sh (A ++ dictObj es e :: (B ++ [dictObj (entsBy gap t l) n])) k os) p (.type "dict") := Big.typeOfRef g
  refine Big.bind (a := true) (p1 := p) (Big.bind gt (Big.pure'.congr sub_dict_dict)) ?_
  simp only [if_true]
  unfold specialOf
  refine Big.bind (a := some (.builtin "dict.__iter__")) (p1 := p) (Big.bind gt (Big.pure'.congr look_dict_iter)) ?_
  · have hs : (A.length + 1 + B.length == sysModules) = false := by
      rw [beq_eq_false_iff_ne]; intro h
      have h' : (A.length + 1 + B.length : Nat) = 1 := h
      omega
    refine Big.bind (n1 := 0) (n2 := 1 + (1 + (1 + (6 * l.length + 0)))) (a := true) Big.pure' ?_
    simp only [hs, Bool.false_eq_true, if_false]
    refine Big.bind (Big.entries gm rfl) ?_
    have he : es.toArray.isEmpty = false := by
      cases es with
      | nil => exact absurd rfl hne
      | cons a b => rfl
    simp only [he, Bool.false_eq_true, if_false]
    refine Big.bind (Big.entries g rfl) ?_
    refine Big.bind (Big.epoch g rfl) ?_
    have := Big.merge_loop (w := w) (p := p) (os := os) (B := B) (gap := gap) (t := t) (n := n) (k := k) hA l hd es hn hl l.length 0 e (by omega)
    simp only [List.take_zero, List.append_nil] at this
    rw [List.size_toArray, entsBy_len, List.range_eq_range']
    exact Big.bind (a := PUnit.unit) (p1 := p) this Big.pure'
end
end Mine
end
section
open PySem PySem.W PyProof.Rows
set_option Elab.async false
set_option maxRecDepth 1000000
set_option maxHeartbeats 0
set_option linter.unusedVariables false
namespace Mine
noncomputable abbrev Prs := List (Sem Value × Sem Value)
noncomputable def prs (q : Pos) (l : List (Int × Str)) : Prs := l.map fun x => (mkInt x.1, Vt x.2 q)
noncomputable def somes (c : Prs) : List (Option (Sem Value) × Sem Value) := c.map fun x => (some x.1, x.2)
noncomputable def flushB (run : Prs) (main : Option Addr) : Sem (Option Addr) :=
  if run.isEmpty = true then pure main
  else
    match main with
    | none => do
      let r ← subDict run
      pure (some r)
    | some d => do
      let sub ← holding [Value.ref d] (subDict run)
      (holding [Value.ref d, Value.ref sub] (mergeMapping d (Value.ref sub) false)).onRaise fun x => do
          let _ ← holding [Value.ref d, x] (runValue (Code.builtin "proto.let_go" { }))
          pure ()
      pure (some d)
noncomputable abbrev StB := Option Addr × Prs
noncomputable abbrev Bod := (Option (Sem Value) × Sem Value) → StB → Sem (ForInStep StB)
noncomputable def IsB (f : Bod) : Prop := ∀ k v main run, f (some k, v) (main, run) = if ((run ++ [(k, v)]).length == 17) = true then (do let m ← flushB (run ++ [(k, v)]) main; pure (ForInStep.yield (m, []))) else pure (ForInStep.yield (main, run ++ [(k, v)]))
theorem chunk_run {f : Bod} (hf : IsB f) (rest : List (Option (Sem Value) × Sem Value)) (main : Option Addr) : ∀ (c run : Prs), run.length + c.length = 17 → c ≠ [] →
    forIn (somes c ++ rest) (main, run) f = (do let m ← flushB (run ++ c) main; forIn rest (m, []) f)
  | [], run, _, h => absurd rfl h
  | [(k, v)], run, h, _ => by
    simp only [somes, List.map_cons, List.map_nil, List.cons_append, List.nil_append, List.forIn_cons]
    rw [hf, if_pos (by simp only [List.length_append, List.length_cons, List.length_nil] at h ⊢; simp; omega)]
    simp only [bind_assoc, pure_bind]
  | (k, v) :: y :: c, run, h, _ => by
    have ih := chunk_run hf rest main (y :: c) (run ++ [(k, v)]) (by simp at h ⊢; omega) (by simp)
    simp only [somes, List.map_cons, List.cons_append, List.forIn_cons] at ih ⊢
    rw [hf, if_neg (by simp at h ⊢; omega), pure_bind]
    simp only [List.append_assoc, List.cons_append, List.nil_append] at ih
    exact ih
theorem tail_run {f : Bod} (hf : IsB f) (main : Option Addr) : ∀ (c run : Prs), run.length + c.length < 17 → forIn (somes c) (main, run) f = pure (main, run ++ c)
  | [], run, _ => by simp [somes]
  | (k, v) :: c, run, h => by
    have ih := tail_run hf main c (run ++ [(k, v)]) (by simp at h ⊢; omega)
    simp only [somes, List.map_cons, List.forIn_cons] at ih ⊢
    rw [hf, if_neg (by simp at h ⊢; omega), pure_bind]
    simp only [List.append_assoc, List.cons_append, List.nil_append] at ih
    exact ih
theorem entsBy_app {gap : Nat} : ∀ (a b : List (Int × Str)) (t : Nat), entsBy gap t (a ++ b) = entsBy gap t a ++ entsBy gap (t + gap * a.length) b
  | [], b, t => by simp [entsBy]
  | (i, x) :: a, b, t => by
    simp only [List.cons_append, entsBy, entsBy_app a b, List.length_cons]
    rw [show t + gap + gap * a.length = t + gap * (a.length + 1) by rw [Nat.mul_add]; omega]
noncomputable def subsOf : Nat → Nat → List (Int × Str) → List Obj
  | 0, _, _ => []
  | n + 1, k, l => dictObj (entsBy 3 k (l.take 17)) 17 :: subsOf n (k + 51) (l.drop 17)
noncomputable def Ok (l : List (Int × Str)) : Prop := (∀ x ∈ l, 0 ≤ x.1 ∧ x.1 < 2 ^ 60) ∧ (l.map (·.1)).Nodup
theorem Ok.append {a b : List (Int × Str)} (h : Ok (a ++ b)) : Ok a ∧ Ok b ∧ ∀ x ∈ a, ∀ y ∈ b, x.1 ≠ y.1 := by
  obtain ⟨h1, h2⟩ := h
  rw [List.map_append, List.nodup_append] at h2
  exact ⟨⟨fun x hx => h1 x (List.mem_append_left _ hx), h2.1⟩, ⟨fun x hx => h1 x (List.mem_append_right _ hx), h2.2.1⟩, fun x hx y hy => h2.2.2 x.1 (List.mem_map_of_mem hx) y.1 (List.mem_map_of_mem hy)⟩
theorem Big.flush {w : World} {q : Pos} {os : OsState} {A B : List Obj} (hA : 28 ≤ A.length) {gap n1 k k2 n : Nat} {l : List (Int × Str)} (hlen : 0 < l.length) {es : List DictEntry} (hne : es ≠ []) {e : Nat}
    (hs : Big w n1 (sh (A ++ dictObj es e :: B) k os) q (subDict (prs q l)) (sh ((A ++ dictObj es e :: B) ++ [dictObj (entsBy gap k l) n]) k2 os) q (A ++ dictObj es e :: B).length)
    (hd : (l.map (·.1)).Nodup) (hn : ∀ x ∈ l, ∀ y ∈ es, y.hash ≠ x.1) (hl : es.length + l.length < 2 ^ 20) :
    Big w (n1 + (5 + 6 * l.length)) (sh (A ++ dictObj es e :: B) k os) q (flushB (prs q l) (some A.length)) (sh (A ++ dictObj (es ++ entsBy gap k l) (e + l.length) :: (B ++ [dictObj (entsBy gap k l) n])) k2 os) q (some A.length) := by
  unfold flushB
  have : (prs q l).isEmpty = false := by
    cases l with
    | nil => simp at hlen
    | cons a b => rfl
  rw [this]
  simp only [Bool.false_eq_true, if_false]
  refine Big.bind (Big.holding hs) ?_
  rw [show 5 + 6 * l.length = (5 + 6 * l.length) + 0 from rfl]
  have e1 : (A ++ dictObj es e :: B) ++ [dictObj (entsBy gap k l) n] = A ++ dictObj es e :: (B ++ [dictObj (entsBy gap k l) n]) := by simp
  have e2 : (A ++ dictObj es e :: B).length = A.length + 1 + B.length := by simp; omega
  rw [e1, e2]
  exact Big.bind (a := ()) (Big.onRaise (Big.holding (Big.merge hA l hd es hne hn hl e))) Big.pure'
theorem Big.chunks {w : World} {q p2 : Pos} {os : OsState} {A : List Obj} (hA : 28 ≤ A.length) {f : Bod} (hf : IsB f) (rest : List (Option (Sem Value) × Sem Value)) {N2 : Nat} {s2 : Shared} {b : StB} :
    ∀ (n : Nat) (l : List (Int × Str)) (es : List DictEntry) (B : List Obj) (e k : Nat), l.length = 17 * n → Ok l → es ≠ [] → (∀ x ∈ l, ∀ y ∈ es, y.hash ≠ x.1) → es.length + l.length < 2 ^ 20 →
      Big w N2 (sh (A ++ dictObj (es ++ entsBy 3 k l) (e + 17 * n) :: (B ++ subsOf n k l)) (k + 51 * n) os) q (forIn rest (some A.length, []) f) s2 p2 b →
      Big w (330 * n + N2) (sh (A ++ dictObj es e :: B) k os) q (forIn (somes (prs q l) ++ rest) (some A.length, []) f) s2 p2 b
  | 0, l, es, B, e, k, hl, _, _, _, _, h => by
    obtain rfl : l = [] := List.length_eq_zero_iff.mp (by omega)
    simpa [somes, prs, entsBy, subsOf] using h
  | n + 1, l, es, B, e, k, hl, ok, hne, hn, hlt, h => by
    have sp : l = l.take 17 ++ l.drop 17 := (List.take_append_drop 17 l).symm
    have l1 : (l.take 17).length = 17 := by rw [List.length_take]; omega
    have l2 : (l.drop 17).length = 17 * n := by rw [List.length_drop]; omega
    obtain ⟨o1, o2, o3⟩ := Ok.append (sp ▸ ok)
    have m1 : ∀ x ∈ l.take 17, x ∈ l := fun x hx => List.mem_of_mem_take hx
    have m2 : ∀ x ∈ l.drop 17, x ∈ l := fun x hx => List.mem_of_mem_drop hx
    have e0 : somes (prs q l) ++ rest = somes (prs q (l.take 17)) ++ (somes (prs q (l.drop 17)) ++ rest) := by
      conv => lhs; rw [sp]
      simp only [somes, prs, List.map_append, List.append_assoc]
    rw [e0, chunk_run hf _ _ (prs q (l.take 17)) [] (by simp only [prs, List.length_map, List.length_nil, l1]) (by intro h0; have := congrArg List.length h0; simp only [prs, List.length_map, l1, List.length_nil] at this; omega), List.nil_append]
    rw [show 330 * (n + 1) + N2 = ((2 + 13 * (l.take 17).length) + (5 + 6 * (l.take 17).length)) + (330 * n + N2) by rw [l1]; omega]
    refine Big.bind (Big.flush hA (by omega) hne (Big.sub (by simp; omega) (by omega) o1.1 o1.2 (by omega)) o1.2 (fun x hx y hy => hn x (m1 x hx) y hy) (by omega)) ?_
    refine Big.chunks hA hf rest n (l.drop 17) _ _ _ _ l2 o2 (by simp [hne]) ?_ ?_ ?_
    · intro x hx y hy
      rcases List.mem_append.mp hy with hy | hy
      · exact hn x (m2 x hx) y hy
      · have := List.mem_map_of_mem (f := (·.hash)) hy
        rw [entsBy_hash] at this
        obtain ⟨z, hz, hzh⟩ := List.mem_map.mp this
        rw [← hzh]
        exact o3 z hz x hx
    · rw [List.length_append, entsBy_len]; omega
    · have a1 : entsBy 3 k l = entsBy 3 k (l.take 17) ++ entsBy 3 (k + 51) (l.drop 17) := by
        conv => lhs; rw [sp]
        rw [entsBy_app, l1]
      rw [l1, List.append_assoc, List.append_assoc, show e + 17 + 17 * n = e + 17 * (n + 1) by omega, show k + 3 * 17 + 51 * n = k + 51 * (n + 1) by omega]
      simp only [subsOf, a1] at h
      exact h
theorem display_eq : ∃ f : Bod, IsB f ∧ ∀ it, dictDisplay it = (do let s ← forIn it (none, []) f; let r ← flushB s.2 s.1; match r with | some d => pure (Value.ref d) | none => newDict) :=
  ⟨_, fun k v main run => rfl, fun it => rfl⟩
theorem Big.display {w : World} {q : Pos} {os : OsState} {A : List Obj} (hA : 28 ≤ A.length) {n k : Nat} {a m c : List (Int × Str)} (ha : a.length = 17) (hm : m.length = 17 * n) (hc : 0 < c.length) (hc2 : c.length ≤ 15) (ok : Ok (a ++ (m ++ c))) (hn : n < 2 ^ 15) :
    Big w (223 + (330 * n + (6 + 19 * c.length))) (sh A k os) q (dictDisplay (somes (prs q (a ++ (m ++ c)))))
      (sh (A ++ dictObj (entsBy 3 k (a ++ m) ++ entsBy 2 (k + 51 + 51 * n) c) (17 + 17 * n + c.length) :: (subsOf n (k + 51) m ++ [dictObj (entsBy 2 (k + 51 + 51 * n) c) c.length])) (k + 51 + 51 * n + 3 * c.length) os) q (.ref A.length) := by
  obtain ⟨f, hf, hD⟩ := display_eq
  rw [hD]
  obtain ⟨oa, omc, hab⟩ := Ok.append ok
  obtain ⟨om, oc, hmc⟩ := Ok.append omc
  have e0 : somes (prs q (a ++ (m ++ c))) = somes (prs q a) ++ (somes (prs q m) ++ somes (prs q c)) := by simp only [somes, prs, List.map_append]
  rw [e0, chunk_run hf _ _ (prs q a) [] (by simp only [prs, List.length_map, List.length_nil, ha]) (by intro h0; have := congrArg List.length h0; simp only [prs, List.length_map, ha, List.length_nil] at this; omega), List.nil_append]
  have hfl : flushB (prs q a) none = (do let r ← subDict (prs q a); pure (some r)) := by
    unfold flushB
    have : (prs q a).isEmpty = false := by
      cases a with
      | nil => simp at ha
      | cons x y => rfl
    rw [this]; rfl
  rw [hfl, bind_assoc, bind_assoc]
  simp only [pure_bind]
  rw [show 223 + (330 * n + (6 + 19 * c.length)) = (2 + 13 * a.length) + ((330 * n + 0) + ((1 + 13 * c.length + (5 + 6 * c.length)) + 0)) by rw [ha]; omega]
  refine Big.bind (Big.sub hA (by omega) oa.1 oa.2 (by omega)) ?_
  have e1 : A ++ [dictObj (entsBy 3 k a) a.length] = A ++ dictObj (entsBy 3 k a) 17 :: [] := by rw [ha]
  rw [e1, ha]
  have hne : entsBy 3 k a ≠ [] := by
    cases a with
    | nil => simp at ha
    | cons x y => simp [entsBy]
  have hh : ∀ (gap t : Nat) (l : List (Int × Str)), ∀ y ∈ entsBy gap t l, ∃ z ∈ l, y.hash = z.1 := by
    intro gap t l y hy
    have := List.mem_map_of_mem (f := (·.hash)) hy
    rw [entsBy_hash] at this
    obtain ⟨z, hz, hzh⟩ := List.mem_map.mp this
    exact ⟨z, hz, hzh.symm⟩
  refine Big.bind (a := (some A.length, prs q c)) (p1 := q) (s1 := sh (A ++ dictObj (entsBy 3 k (a ++ m)) (17 + 17 * n) :: (subsOf n (k + 51) m)) (k + 51 + 51 * n) os) ?_ ?_
  · refine Big.chunks hA hf (somes (prs q c)) n m _ [] 17 (k + 3 * 17) hm om hne ?_ ?_ ?_
    · intro x hx y hy
      obtain ⟨z, hz, e⟩ := hh _ _ _ y hy
      rw [e]
      exact hab z hz x (List.mem_append_left _ hx)
    · rw [entsBy_len]; omega
    · rw [tail_run hf _ (prs q c) [] (by simp only [prs, List.length_map, List.length_nil]; omega)]
      have e3 : entsBy 3 k (a ++ m) = entsBy 3 k a ++ entsBy 3 (k + 3 * 17) m := by rw [entsBy_app, ha]
      rw [e3]
      exact Big.pure'
  · refine Big.bind (a := some A.length) (p1 := q) (Big.flush hA hc (l := c) (gap := 2) (es := entsBy 3 k (a ++ m)) (by rw [entsBy_app]; simp [hne]) (Big.subS (by simp; omega) hc2 oc.1 oc.2 (by omega)) oc.2 ?_ ?_) ?_
    · intro x hx y hy
      obtain ⟨z, hz, e⟩ := hh _ _ _ y hy
      rw [e]
      rcases List.mem_append.mp hz with hz | hz
      · exact hab z hz x (List.mem_append_right _ hx)
      · exact hmc z hz x hx
    · rw [entsBy_len, List.length_append]; omega
    · exact Big.pure'
end Mine
end
section
open PySem PySem.W PyProof.Rows
set_option Elab.async false
set_option maxRecDepth 1000000
set_option maxHeartbeats 0
set_option linter.unusedVariables false
namespace Mine
noncomputable def ascB : Int → List Int → Bool
  | _, [] => true
  | a, b :: l => decide (a < b) && ascB b l
theorem asc_all : ∀ (l : List Int) (a : Int), ascB a l = true → (∀ x ∈ l, a < x) ∧ l.Nodup
  | [], _, _ => ⟨fun _ h => (nomatch h), .nil⟩
  | b :: l, a, h => by
    simp only [ascB, Bool.and_eq_true, decide_eq_true_eq] at h
    obtain ⟨h1, h2⟩ := h
    obtain ⟨i1, i2⟩ := asc_all l b h2
    refine ⟨fun x hx => ?_, List.nodup_cons.mpr ⟨fun hb => ?_, i2⟩⟩
    · rcases List.mem_cons.mp hx with rfl | hx
      · exact h1
      · have := i1 x hx; omega
    · have := i1 b hb; omega
theorem b3_asc : ascB (-1) (b3pairs.map (·.1)) = true := by decide +kernel
theorem b3_top : (b3pairs.map (·.1)).all (fun x => decide (x < 2 ^ 60)) = true := by decide +kernel
theorem b3_len : b3pairs.length = 650 := by decide +kernel
theorem b3_ok : Ok b3pairs := by
  obtain ⟨h1, h2⟩ := asc_all _ _ b3_asc
  refine ⟨fun x hx => ?_, h2⟩
  have a := h1 x.1 (List.mem_map_of_mem hx)
  have b := List.all_eq_true.mp b3_top x.1 (List.mem_map_of_mem hx)
  simp only [decide_eq_true_eq] at b
  omega
noncomputable def b3keys : List (Option PySem.Expr) := match mainStmt 8 with
  | .Assign _ (.Dict ks _ _) _ => ks
  | _ => []
noncomputable def b3vals : List PySem.Expr := match mainStmt 8 with
  | .Assign _ (.Dict _ vs _) _ => vs
  | _ => []
noncomputable def q8 : Pos := match mainStmt 8 with
  | .Assign _ (.Dict _ _ q) _ => q
  | _ => z0
noncomputable def p8 : Pos := match mainStmt 8 with
  | .Assign _ _ p => p
  | _ => z0
noncomputable def n8 : Pos := match mainStmt 8 with
  | .Assign [.Name _ p] _ _ => p
  | _ => z0
theorem st8_is : mainStmt 8 = .Assign [.Name (Str.ofString "b3_exceptions") n8] (.Dict b3keys b3vals q8) p8 := by kernel_rfl
theorem items8 : (evalEachOpt b3keys envT).zip ((evalEach b3vals envT).map fun v => do let x ← v; standAt q8; pure x) = somes (prs q8 b3pairs) := by kernel_rfl
noncomputable def tailV (E : Env) (n : Pos) (v : Value) : Sem Flow := do
  match ← (do standAt n; bindName E (Str.ofString "b3_exceptions") v; pure Flow.next) with
  | .next => execs [] E
  | f => pure f
noncomputable def tailK (v : Value) : Sem Flow := tailV envT n8 v
theorem swaps8 : swapsWith (.Dict b3keys b3vals q8) (some (.Name (Str.ofString "b3_exceptions") n8)) p8.line envT = pure false := by kernel_rfl
theorem execs8 : execs (stm 8 1) envT = (do standAt p8; standAt q8; let v ← dictDisplay (somes (prs q8 b3pairs)); tailK v) := by
  show execs [mainStmt 8] envT = _
  rw [st8_is]
  show (do match ← exec _ envT with | .next => execs [] envT | f => pure f) = _
  rw [exec_Assign_Name (hs := swaps8)]
  have e : eval (.Dict b3keys b3vals q8) envT = (do standAt q8; dictDisplay ((evalEachOpt b3keys envT).zip ((evalEach b3vals envT).map fun v => do let x ← v; standAt q8; pure x))) := rfl
  rw [e, items8]
  simp only [bind_assoc, tailK, tailV]
noncomputable def t8x (P : Params) : BT := (t8 P).set 3 fun _ => o3_7 P
theorem heap7 (P : Params) : absHeap (t7 P) 140 {} = hp ((t7 P).list 140) := rfl
theorem len7 (P : Params) : ((t7 P).list 140).length = 140 := by unfold BT.list; rw [List.length_map, List.length_range]
theorem heap8 (P : Params) : (t7 P).list 140 ++ dictObj (entsBy 3 457 (b3pairs.take 17 ++ (b3pairs.drop 17).take 629) ++ entsBy 2 2395 (b3pairs.drop 646)) 650 :: (subsOf 37 508 ((b3pairs.drop 17).take 629) ++ [dictObj (entsBy 2 2395 (b3pairs.drop 646)) 4]) = (t8x P).list 179 := by kernel_rfl
theorem take17 : b3pairs = b3pairs.take 17 ++ ((b3pairs.drop 17).take 629 ++ b3pairs.drop 646) := by
  conv => lhs; rw [← List.take_append_drop 17 b3pairs, ← List.take_append_drop 629 (b3pairs.drop 17), List.drop_drop]
theorem big8 (w : World) (os : OsState) : Big w (223 + (330 * 37 + (6 + 19 * 4))) (sh ((t7 w.params).list 140) 457 os) q8 (dictDisplay (somes (prs q8 b3pairs))) (sh ((t8x w.params).list 179) 2407 os) q8 (.ref 140) := by
  have l4 : (b3pairs.drop 646).length = 4 := by rw [List.length_drop, b3_len]
  have ok := b3_ok
  rw [take17] at ok
  have := Big.display (w := w) (q := q8) (os := os) (A := (t7 w.params).list 140) (n := 37) (k := 457) (a := b3pairs.take 17) (m := (b3pairs.drop 17).take 629) (c := b3pairs.drop 646) (by rw [len7]; omega) (by rw [List.length_take, b3_len]; omega)
    (by rw [List.length_take, List.length_drop, b3_len]; omega) (by rw [l4]; omega) (by rw [l4]; omega) ok (by omega)
  rw [← take17, l4, len7] at this
  simp only [Nat.reduceMul, Nat.reduceAdd] at this ⊢
  rw [heap8] at this
  exact this
noncomputable def ltail (W : Program) (t : Params → BT) (n q : Pos) (w : World) (os : OsState) : Out := segRunT treeTable W w 28 (some (.ref 6)) 1 8 (stT t 179 2407 w os) ⟨(tailV (envV W) n (.ref 140)).wrap doneF deadEnd id id, cV W, q, frs⟩
theorem trigtail : Trig ltail ltail = true := by k_qdec
theorem etail : ltail pw t8x n8 q8 = fun w os => rhsOf (stT t8 179 2408 w os) ⟨42, 0, 42, 13⟩ := (congrFun (congrFun (congrFun (congrFun PySem.W.Fast.te2595609735310605810 pw) t8x) n8) q8).trans (funext fun w => funext fun os => by kernel_rfl)
theorem piece8 (w : World) (os : OsState) : segRun treeTable pw w 28 (some (.ref 6)) 1 (12517 + 8) (stT t7 140 457 w os).abs (piecesOf (stm 8 1) envT cT ⟨40, 0, 41, 30⟩ frs) = some (.next, (stT t8 179 2408 w os).abs, cT, ⟨42, 0, 42, 13⟩) := by
  refine seg_go (s' := (stT t8x 179 2407 w os).abs) (t' := ⟨(tailK (.ref 140)).wrap doneF deadEnd id id, cT, q8, frs⟩) ?_ (segRun_of (congrFun (congrFun etail w) os))
  show sgo w 12517 (sh ((t7 w.params).list 140) 457 os) ⟨(execs (stm 8 1) envT).wrap doneF deadEnd id id, cT, _, frs⟩ = _
  rw [execs8, Sem.bind_eq_wrap', Sem.wrap_wrap]
  refine sgo_add w 1 12516 (Big.at' (w := w) (s := sh ((t7 w.params).list 140) 457 os) (q := p8) _ _ _ _ cT) ?_
  rw [Sem.bind_eq_wrap', Sem.wrap_wrap]
  refine sgo_add w 1 12515 (Big.at' (w := w) (s := sh ((t7 w.params).list 140) 457 os) (q := q8) _ _ _ _ cT) ?_
  rw [Sem.bind_eq_wrap', Sem.wrap_wrap]
  exact big8 w os _ _ _ _ cT
end Mine
end
section
open PySem PySem.W PyProof.Rows
set_option Elab.async false
set_option maxRecDepth 1000000
set_option maxHeartbeats 0
set_option linter.unusedVariables false
namespace Mine
noncomputable def Trg {α : Type} (_ _ : α) : Bool := true
noncomputable def HV (t : Params → BT) (n : Nat) (P : Params) : Heap := absHeap (t P) n {}
noncomputable def HZ (P : Params) : Heap := HV tZ 28 P
noncomputable def HF (P : Params) : Heap := HV t20 354 P
noncomputable abbrev Op := Option (Heap × Array GenState × Drawn × Nat)
noncomputable def lopen (W : Program) (w : World) : Op := (fencedOpening treeTable W w 40000).map (fun s => (s.heap, s.gens, s.drawn, s.toks))
noncomputable def ropen (w : World) : Op := some (HZ w.params, #[], {}, 276)
theorem trigopen : Trg lopen lopen = true := by k_qdec
theorem eopen : lopen pw = ropen := (congrFun PySem.W.Fast.te15953733159093957385 pw).trans (funext fun w => by kernel_rfl)

noncomputable def lsize (t : Params → BT) (w : World) : Bool × Nat × Option Value := ((HV t 28 w.params).isNs mainGlobals && (#[] : Array GenState).size == 0, (HV t 28 w.params).objs.size, (HV t 28 w.params).nsMap mainGlobals "__annotations__")
noncomputable def rsize (w : World) : Bool × Nat × Option Value := (true, 28, some (.ref 6))
theorem trigsize : Trg lsize lsize = true := by k_qdec
theorem esize : lsize tZ = rsize := (congrFun PySem.W.Fast.te9229357087344386167 tZ).trans (funext fun w => by kernel_rfl)

noncomputable def lpre (W : Program) (t : Params → BT) (w : World) (os : OsState) : Option (Shared × Thread) := topGo treeTable W w 28 (some (.ref 6)) 12 ⟨HV t 28 w.params, #[], {}, 276, os⟩ (topStub W)
noncomputable def rpre (W : Program) (t : Params → BT) (w : World) (os : OsState) : Option (Shared × Thread) := some ((stT t 32 282 w os).abs, ⟨denote treeTable (cV W), cV W, z0, frs⟩)
theorem trigpre : Trg lpre rpre = true := by k_qdec
theorem epre : lpre pw tZ = rpre pw tA := (congrFun (congrFun PySem.W.Fast.te1437939269574452636 pw) tZ).trans (Eq.trans (b := PySem.W.Fast.tw15538541996600057605 pw tA) (funext fun w => funext fun os => by kernel_rfl) (congrFun (congrFun PySem.W.Fast.te15538541996600057605 pw) tA).symm)

noncomputable def lblk (W : Program) (t : Params → BT) (w : World) (os : OsState) : Option (Flow × Shared × Code × Pos) := segRun treeTable W w 28 (some (.ref 6)) 1 1 (stT t 32 282 w os).abs (blockOf (behindTheImports W) (envV W) (cV W) z0 frs)
noncomputable def rblk (w : World) (os : OsState) : Option (Flow × Shared × Code × Pos) := some (.next, (stT tB 32 282 w os).abs, cT, z0)
theorem trigblk : Trg lblk lblk = true := by k_qdec
theorem eblk : lblk pw tA = rblk := (congrFun (congrFun PySem.W.Fast.te7724753233269623317 pw) tA).trans (funext fun w => funext fun os => by kernel_rfl)

noncomputable def lfin (W : Program) (t : Params → BT) (w : World) (os : OsState) : Option Shared := topRun treeTable W w 28 (some (.ref 6)) 2 (stT t 354 2705 w os).abs ⟨doneF .next, cV W, ⟨164, 0, 179, 15⟩, frs⟩
noncomputable def rfin (w : World) (os : OsState) : Option Shared := some (stT t20 354 2705 w os).abs
theorem trigfin : Trg lfin lfin = true := by k_qdec
theorem efin : lfin pw t20 = rfin := (congrFun (congrFun PySem.W.Fast.te12063316936795459398 pw) t20).trans (funext fun w => funext fun os => by kernel_rfl)
noncomputable def KK (P : Params) : Frag := (nat_lit 2, o2 P) :: (nat_lit 3, o3 P) :: (nat_lit 32, o32 P) :: (nat_lit 34, o34 P) :: (nat_lit 35, o35 P) :: (nat_lit 37, o37 P) :: (nat_lit 38, o38 P) :: (nat_lit 39, o39 P) :: (nat_lit 42, o42 P) :: (nat_lit 47, o47 P) :: (nat_lit 48, o48 P) :: (nat_lit 49, o49 P) :: (nat_lit 51, o51 P) :: (nat_lit 52, o52 P) :: (nat_lit 54, o54 P) :: (nat_lit 55, o55 P) :: (nat_lit 56, o56 P) :: (nat_lit 58, o58 P) :: (nat_lit 59, o59 P) :: (nat_lit 61, o61 P) :: (nat_lit 62, o62 P) :: (nat_lit 63, o63 P) :: (nat_lit 64, o64 P) :: (nat_lit 66, o66 P) :: (nat_lit 67, o67 P) :: (nat_lit 69, o69 P) :: (nat_lit 70, o70 P) :: (nat_lit 71, o71 P) :: (nat_lit 73, o73 P) :: (nat_lit 74, o74 P) :: (nat_lit 76, o76 P) :: (nat_lit 77, o77 P) :: (nat_lit 78, o78 P) :: (nat_lit 80, o80 P) :: (nat_lit 81, o81 P) :: (nat_lit 83, o83 P) :: (nat_lit 84, o84 P) :: (nat_lit 85, o85 P) :: (nat_lit 87, o87 P) :: (nat_lit 88, o88 P) :: (nat_lit 90, o90 P) :: (nat_lit 91, o91 P) :: (nat_lit 92, o92 P) :: (nat_lit 93, o93 P) :: (nat_lit 95, o95 P) :: (nat_lit 96, o96 P) :: (nat_lit 98, o98 P) :: (nat_lit 99, o99 P) :: (nat_lit 100, o100 P) :: (nat_lit 102, o102 P) :: (nat_lit 103, o103 P) :: (nat_lit 105, o105 P) :: (nat_lit 106, o106 P) :: (nat_lit 107, o107 P) :: (nat_lit 108, o108 P) :: (nat_lit 110, o110 P) :: (nat_lit 111, o111 P) :: (nat_lit 113, o113 P) :: (nat_lit 114, o114 P) :: (nat_lit 115, o115 P) :: (nat_lit 116, o116 P) :: (nat_lit 117, o117 P) :: (nat_lit 118, o118 P) :: (nat_lit 119, o119 P) :: (nat_lit 129, o129 P) :: (nat_lit 133, o133 P) :: (nat_lit 135, o135 P) :: (nat_lit 136, o136 P) :: (nat_lit 138, o138 P) :: (nat_lit 139, o139 P) :: (nat_lit 140, o140 P) :: (nat_lit 179, o179 P) :: (nat_lit 181, o181 P) :: (nat_lit 182, o182 P) :: (nat_lit 184, o184 P) :: (nat_lit 185, o185 P) :: (nat_lit 187, o187 P) :: (nat_lit 189, o189 P) :: (nat_lit 190, o190 P) :: (nat_lit 192, o192 P) :: (nat_lit 194, o194 P) :: (nat_lit 195, o195 P) :: (nat_lit 197, o197 P) :: (nat_lit 199, o199 P) :: (nat_lit 200, o200 P) :: (nat_lit 201, o201 P) :: (nat_lit 202, o202 P) :: (nat_lit 204, o204 P) :: (nat_lit 205, o205 P) :: (nat_lit 207, o207 P) :: (nat_lit 208, o208 P) :: (nat_lit 216, o216 P) :: (nat_lit 217, o217 P) :: (nat_lit 219, o219 P) :: (nat_lit 220, o220 P) :: (nat_lit 222, o222 P) :: (nat_lit 223, o223 P) :: (nat_lit 224, o224 P) :: (nat_lit 226, o226 P) :: (nat_lit 227, o227 P) :: (nat_lit 229, o229 P) :: (nat_lit 230, o230 P) :: (nat_lit 231, o231 P) :: (nat_lit 233, o233 P) :: (nat_lit 234, o234 P) :: (nat_lit 236, o236 P) :: (nat_lit 237, o237 P) :: (nat_lit 238, o238 P) :: (nat_lit 240, o240 P) :: (nat_lit 241, o241 P) :: (nat_lit 243, o243 P) :: (nat_lit 244, o244 P) :: (nat_lit 245, o245 P) :: (nat_lit 248, o248 P) :: (nat_lit 249, o249 P) :: (nat_lit 250, o250 P) :: (nat_lit 252, o252 P) :: (nat_lit 253, o253 P) :: (nat_lit 255, o255 P) :: (nat_lit 256, o256 P) :: (nat_lit 257, o257 P) :: (nat_lit 259, o259 P) :: (nat_lit 260, o260 P) :: (nat_lit 262, o262 P) :: (nat_lit 263, o263 P) :: (nat_lit 264, o264 P) :: (nat_lit 267, o267 P) :: (nat_lit 268, o268 P) :: (nat_lit 269, o269 P) :: (nat_lit 270, o270 P) :: (nat_lit 272, o272 P) :: (nat_lit 273, o273 P) :: (nat_lit 275, o275 P) :: (nat_lit 276, o276 P) :: (nat_lit 277, o277 P) :: (nat_lit 280, o280 P) :: (nat_lit 281, o281 P) :: (nat_lit 282, o282 P) :: (nat_lit 285, o285 P) :: (nat_lit 286, o286 P) :: (nat_lit 287, o287 P) :: (nat_lit 289, o289 P) :: (nat_lit 290, o290 P) :: (nat_lit 292, o292 P) :: (nat_lit 293, o293 P) :: (nat_lit 294, o294 P) :: (nat_lit 296, o296 P) :: (nat_lit 297, o297 P) :: (nat_lit 299, o299 P) :: (nat_lit 300, o300 P) :: (nat_lit 301, o301 P) :: (nat_lit 304, o304 P) :: (nat_lit 305, o305 P) :: (nat_lit 306, o306 P) :: (nat_lit 308, o308 P) :: (nat_lit 309, o309 P) :: (nat_lit 311, o311 P) :: (nat_lit 312, o312 P) :: (nat_lit 313, o313 P) :: (nat_lit 315, o315 P) :: (nat_lit 316, o316 P) :: (nat_lit 318, o318 P) :: (nat_lit 319, o319 P) :: (nat_lit 320, o320 P) :: (nat_lit 322, o322 P) :: (nat_lit 323, o323 P) :: (nat_lit 325, o325 P) :: (nat_lit 326, o326 P) :: (nat_lit 327, o327 P) :: (nat_lit 328, o328 P) :: (nat_lit 329, o329 P) :: (nat_lit 330, o330 P) :: (nat_lit 331, o331 P) :: (nat_lit 334, o334 P) :: (nat_lit 337, o337 P) :: (nat_lit 338, o338 P) :: (nat_lit 339, o339 P) :: (nat_lit 342, o342 P) :: (nat_lit 343, o343 P) :: (nat_lit 344, o344 P) :: (nat_lit 347, o347 P) :: (nat_lit 348, o348 P) :: (nat_lit 349, o349 P) :: (nat_lit 352, o352 P) :: (nat_lit 353, o353 P) :: []
noncomputable def AA : List Addr := nat_lit 2 :: nat_lit 3 :: nat_lit 32 :: nat_lit 34 :: nat_lit 35 :: nat_lit 37 :: nat_lit 38 :: nat_lit 39 :: nat_lit 42 :: nat_lit 47 :: nat_lit 48 :: nat_lit 49 :: nat_lit 51 :: nat_lit 52 :: nat_lit 54 :: nat_lit 55 :: nat_lit 56 :: nat_lit 58 :: nat_lit 59 :: nat_lit 61 :: nat_lit 62 :: nat_lit 63 :: nat_lit 64 :: nat_lit 66 :: nat_lit 67 :: nat_lit 69 :: nat_lit 70 :: nat_lit 71 :: nat_lit 73 :: nat_lit 74 :: nat_lit 76 :: nat_lit 77 :: nat_lit 78 :: nat_lit 80 :: nat_lit 81 :: nat_lit 83 :: nat_lit 84 :: nat_lit 85 :: nat_lit 87 :: nat_lit 88 :: nat_lit 90 :: nat_lit 91 :: nat_lit 92 :: nat_lit 93 :: nat_lit 95 :: nat_lit 96 :: nat_lit 98 :: nat_lit 99 :: nat_lit 100 :: nat_lit 102 :: nat_lit 103 :: nat_lit 105 :: nat_lit 106 :: nat_lit 107 :: nat_lit 108 :: nat_lit 110 :: nat_lit 111 :: nat_lit 113 :: nat_lit 114 :: nat_lit 115 :: nat_lit 116 :: nat_lit 117 :: nat_lit 118 :: nat_lit 119 :: nat_lit 129 :: nat_lit 133 :: nat_lit 135 :: nat_lit 136 :: nat_lit 138 :: nat_lit 139 :: nat_lit 140 :: nat_lit 179 :: nat_lit 181 :: nat_lit 182 :: nat_lit 184 :: nat_lit 185 :: nat_lit 187 :: nat_lit 189 :: nat_lit 190 :: nat_lit 192 :: nat_lit 194 :: nat_lit 195 :: nat_lit 197 :: nat_lit 199 :: nat_lit 200 :: nat_lit 201 :: nat_lit 202 :: nat_lit 204 :: nat_lit 205 :: nat_lit 207 :: nat_lit 208 :: nat_lit 216 :: nat_lit 217 :: nat_lit 219 :: nat_lit 220 :: nat_lit 222 :: nat_lit 223 :: nat_lit 224 :: nat_lit 226 :: nat_lit 227 :: nat_lit 229 :: nat_lit 230 :: nat_lit 231 :: nat_lit 233 :: nat_lit 234 :: nat_lit 236 :: nat_lit 237 :: nat_lit 238 :: nat_lit 240 :: nat_lit 241 :: nat_lit 243 :: nat_lit 244 :: nat_lit 245 :: nat_lit 248 :: nat_lit 249 :: nat_lit 250 :: nat_lit 252 :: nat_lit 253 :: nat_lit 255 :: nat_lit 256 :: nat_lit 257 :: nat_lit 259 :: nat_lit 260 :: nat_lit 262 :: nat_lit 263 :: nat_lit 264 :: nat_lit 267 :: nat_lit 268 :: nat_lit 269 :: nat_lit 270 :: nat_lit 272 :: nat_lit 273 :: nat_lit 275 :: nat_lit 276 :: nat_lit 277 :: nat_lit 280 :: nat_lit 281 :: nat_lit 282 :: nat_lit 285 :: nat_lit 286 :: nat_lit 287 :: nat_lit 289 :: nat_lit 290 :: nat_lit 292 :: nat_lit 293 :: nat_lit 294 :: nat_lit 296 :: nat_lit 297 :: nat_lit 299 :: nat_lit 300 :: nat_lit 301 :: nat_lit 304 :: nat_lit 305 :: nat_lit 306 :: nat_lit 308 :: nat_lit 309 :: nat_lit 311 :: nat_lit 312 :: nat_lit 313 :: nat_lit 315 :: nat_lit 316 :: nat_lit 318 :: nat_lit 319 :: nat_lit 320 :: nat_lit 322 :: nat_lit 323 :: nat_lit 325 :: nat_lit 326 :: nat_lit 327 :: nat_lit 328 :: nat_lit 329 :: nat_lit 330 :: nat_lit 331 :: nat_lit 334 :: nat_lit 337 :: nat_lit 338 :: nat_lit 339 :: nat_lit 342 :: nat_lit 343 :: nat_lit 344 :: nat_lit 347 :: nat_lit 348 :: nat_lit 349 :: nat_lit 352 :: nat_lit 353 :: []
theorem aa_is (P : Params) : AA = (KK P).map (·.1) := by kernel_rfl
@[reducible] noncomputable def S0 : Stmt := litOf (mainStmt 0) _ (by conv => lhs; whnf)
@[reducible] noncomputable def S20 : Stmt := litOf (mainStmt 20) _ (by conv => lhs; whnf)
noncomputable def qq : Program := { pw with main := { pw.main with body := [S0, S20] } }
noncomputable def looseQ : List Str := [Str.ofString "_wall", Str.ofString "EMPTYSTRING", Str.ofString "_Accumulator", Str.ofString "b1_set", Str.ofString "in_table_b1", Str.ofString "b3_exceptions", Str.ofString "map_table_b3", Str.ofString "tspecials", Str.ofString "_name_disallowed_re", Str.ofString "_value_disallowed_re", Str.ofString "_formatparam", Str.ofString "Headers", Str.ofString "_law_word", Str.ofString "_law_code", Str.ofString "_law_sent"]
noncomputable def XtV (Q : Program) (R : WRecords) (s : Shared) : Bool := xlAt Q [] s && recOk R s
noncomputable def recQ : WRecords := RowW.records (OpenLaw.row PySem.Challenge.rw_wc0029_01).toRowW
noncomputable def XtQ (s : Shared) : Bool := xlAt qq [] s && recOk (RowW.records (OpenLaw.row PySem.Challenge.rw_wc0029_01).toRowW) s
noncomputable def sV (t : Params → BT) (w : World) (os : OsState) : Shared := ⟨HV t 354 w.params, #[], {}, 2705, os⟩
noncomputable def sF (w : World) (os : OsState) : Shared := sV t20 w os
noncomputable def lk1 (W : Program) (t0 t : Params → BT) (w : World) (os : OsState) : Bool := staticsOk (importedModules W.main.body) (HV t0 28 w.params) (HV t 354 w.params) && namesBound W (HV t 354 w.params) && gensDone (sV t w os) && laidKept (HV t0 28 w.params) (HV t 354 w.params)
noncomputable def rk1 (w : World) (os : OsState) : Bool := true
theorem trigk1 : Trg lk1 lk1 = true := by k_qdec
theorem ek1 : lk1 pw tZ t20 = rk1 := (congrFun (congrFun (congrFun PySem.W.Fast.te789351446613279169 pw) tZ) t20).trans (funext fun w => funext fun os => by kernel_rfl)
noncomputable def lk2 (W Q : Program) (L : List Str) (R : WRecords) (t : Params → BT) (w : World) (os : OsState) := openSeen Q L (importedModules W.main.body) (XtV Q R) true (sV t w os)
noncomputable def rk2 (w : World) (os : OsState) := openGood qq looseQ
theorem trigk2 : Trg lk2 lk2 = true := by k_qdec
theorem ek2 : lk2 pw qq looseQ recQ t20 = rk2 := (congrFun (congrFun (congrFun (congrFun (congrFun PySem.W.Fast.te3882062993937625271 pw) qq) looseQ) recQ) t20).trans (funext fun w => funext fun os => by kernel_rfl)
noncomputable def lk3 (w : World) (os : OsState) : List (Option Obj) := AA.map (sF w os).heap.get?
noncomputable def rk3 (w : World) (os : OsState) : List (Option Obj) := (KK w.params).map fun p => some p.2
theorem ek3 : lk3 = rk3 := funext fun w => funext fun os => by kernel_rfl

end Mine
end
section
open PySem PySem.W PyProof.Rows
set_option Elab.async false
set_option maxRecDepth 1000000
set_option maxHeartbeats 0
set_option linter.unusedVariables false
namespace Mine
noncomputable abbrev rw1 := PySem.Challenge.rw_wc0029_01
theorem e5 (w : World) (os : OsState) : lhsOf 999 (stT t5 122 390 w os) 6 1 ⟨38, 0, 38, 8⟩ w = rhsOf (stT t6 133 450 w os) ⟨39, 0, 39, 6⟩ := by
  refine byRow2 "special-get-raises" (P := fun w => ∀ os, lhsOf 999 (stT t5 122 390 w os) 6 1 ⟨38, 0, 38, 8⟩ w = rhsOf (stT t6 133 450 w os) ⟨39, 0, 39, 6⟩) (fun w => ?_) (fun w => ?_) w os
  · exact byRow2 "set-order" (P := fun w => ∀ os, lhsOf 999 (stT t5 122 390 (w.withFollow "special-get-raises" false) os) 6 1 ⟨38, 0, 38, 8⟩ (w.withFollow "special-get-raises" false) = rhsOf (stT t6 133 450 (w.withFollow "special-get-raises" false) os) ⟨39, 0, 39, 6⟩)
      (fun w os => congrFun (congrFun e5ff w) os) (fun w os => congrFun (congrFun e5tf w) os) w
  · exact byRow2 "set-order" (P := fun w => ∀ os, lhsOf 999 (stT t5 122 390 (w.withFollow "special-get-raises" true) os) 6 1 ⟨38, 0, 38, 8⟩ (w.withFollow "special-get-raises" true) = rhsOf (stT t6 133 450 (w.withFollow "special-get-raises" true) os) ⟨39, 0, 39, 6⟩)
      (fun w os => congrFun (congrFun e5ft w) os) (fun w os => congrFun (congrFun e5tt w) os) w
theorem body_is : behindTheImports pw = stm 1 3 ++ (stm 4 1 ++ (stm 5 1 ++ (stm 6 1 ++ (stm 7 1 ++ (stm 8 1 ++ (stm 9 6 ++ (stm 15 1 ++ (stm 16 5 ++ [])))))))) := by kernel_rfl
theorem run_top (w : World) (os : OsState) : topRun treeTable pw w 28 (some (.ref 6)) (12 + (1 + (48 + (503 + (10 + (999 + (30 + (12525 + (296 + (727 + (114 + 2))))))))))) ⟨HZ w.params, #[], {}, 276, os⟩ (topStub pw) = some ⟨HF w.params, #[], {}, 2705, os⟩ := by
  refine go_top (congrFun (congrFun epre w) os) ?_
  refine piece_block (congrFun (congrFun eblk w) os) ?_
  rw [body_is]
  refine piece_app (segRun_of (congrFun (congrFun eB w) os)) ?_
  refine piece_app (segRun_of (congrFun (congrFun e3 w) os)) ?_
  refine piece_app (segRun_of (congrFun (congrFun e4 w) os)) ?_
  refine piece_app (segRun_of (e5 w os)) ?_
  refine piece_app (segRun_of (congrFun (congrFun e6 w) os)) ?_
  refine piece_app (piece8 w os) ?_
  refine piece_app (segRun_of (congrFun (congrFun e8 w) os)) ?_
  refine piece_app (segRun_of (congrFun (congrFun e14 w) os)) ?_
  refine piece_app (segRun_of (congrFun (congrFun e15 w) os)) ?_
  exact congrFun (congrFun efin w) os
theorem left : LeftO pw qq looseQ XtQ (fun s => AA.map s.heap.get?) (fun w => (KK w.params).map fun p => some p.2) 40000 :=
  LeftO.of_pieces (fun w => congrFun eopen w) (fun w => congrFun esize w) run_top (by decide) (fun w => funext fun os => by
    have h1 := congrFun (congrFun ek1 w) os
    have h2 := congrFun (congrFun ek2 w) os
    have h3 := congrFun (congrFun ek3 w) os
    exact Prod.ext h1 (Prod.ext h2 h3))
end Mine
end
section
open PySem PySem.W PyProof.Rows PySem.Spec
set_option Elab.async false
set_option maxRecDepth 1000000
set_option linter.unusedVariables false
namespace Mine
noncomputable def dipAt (x : Str) (k : Nat) : Bool := decide (¬ (Txt.item x (0 + (k : Int) - 3)).cps.toList < (Txt.item x (0 + (k : Int) - 2)).cps.toList) && decide ((Txt.item x (0 + (k : Int) - 2)).cps.toList < (Txt.item x (0 + (k : Int) - 1)).cps.toList)
noncomputable def startsOf (x : Str) (n : Nat) : List Nat := (List.range n).filter (dipAt x)
noncomputable def chAt (x : Str) (st j : Nat) : Str := Txt.item x ((0 + (st : Int) + (j : Int)).fmod (x.length : Int))
noncomputable def codeRun (c : Nat → Str) : Nat → Nat → Nat → Option (Nat × Nat)
  | 0, _, _ => none
  | f + 1, i, l => if 1 ≤ l ∧ (c (i - 1)).cps.toList < (c i).cps.toList then (if (l + 1) % 2 = 1 then some (i, l + 1) else codeRun c f (i + 1) 0) else codeRun c f (i + 1) (l + 1)
noncomputable def lawCode (x : Str) : Str := match startsOf x x.length with
  | [] => ⟨#[]⟩
  | st :: _ => match codeRun (chAt x st) x.length 0 0 with
    | none => Str.ofString ""
    | some (i, l) => Txt.slice x (some ((0 + (st : Int) + (i : Int) + 1 - (l : Int)).fmod (x.length : Int))) none ++ Txt.slice x none (some ((0 + (st : Int) + (i : Int) + 1 - (l : Int)).fmod (x.length : Int)))
noncomputable def filst : Str := ⟨#[102, 105, 108, 115, 116]⟩
noncomputable def lawJ (number : Int) (n : Nat) : Str := Txt.join (Str.ofString "") ((rangeKs 0 n).map fun a => Txt.item (Str.ofString "filst") ((number.fdiv (5 ^ a.toNat)).fmod 5))
noncomputable def lawWord (number : Int) (n : Nat) : Str := if (lawJ number n == Txt.mul (Txt.item (lawJ number n) 0) n) = true then Txt.slice (lawJ number n) (some 1) none ++ Txt.item (Str.ofString "filst") ((Txt.find (Str.ofString "filst") (Txt.item (lawJ number n) 0) + 1).fmod 5) else lawJ number n
end Mine
end
section
open PySem PySem.W PyProof.Rows PySem.Spec
set_option Elab.async false
set_option maxRecDepth 1000000
set_option linter.unusedVariables false
namespace Mine
noncomputable def itL (d : List Nat) (i : Nat) : Nat := d.getD (i % d.length) 0
noncomputable def dipL (d : List Nat) (k : Nat) : Bool := !(Nat.blt (itL d (k + d.length - 3)) (itL d (k + d.length - 2))) && Nat.blt (itL d (k + d.length - 2)) (itL d (k + d.length - 1))
noncomputable def runL (c : Nat → Nat) : Nat → Nat → Nat → Option (Nat × Nat)
  | 0, _, _ => none
  | f + 1, i, l => bif Nat.ble 1 l && Nat.blt (c (i - 1)) (c i) then (bif Nat.beq ((l + 1) % 2) 1 then some (i, l + 1) else runL c f (i + 1) 0) else runL c f (i + 1) (l + 1)
noncomputable def codeL (d : List Nat) : List Nat := match (List.range d.length).filter (dipL d) with
  | [] => []
  | st :: _ => match runL (fun j => itL d (st + j)) d.length 0 0 with
    | none => []
    | some (i, l) => d.drop ((st + i + 1 - l) % d.length) ++ d.take ((st + i + 1 - l) % d.length)
theorem item_nat {d : List Nat} {j : Nat} (h : j < d.length) : Txt.item ⟨d.toArray⟩ (j : Int) = ⟨#[d.getD j 0]⟩ := by
  have hl : ((⟨d.toArray⟩ : Str).length) = d.length := by simp [Str.length]
  unfold Txt.item Txt.charAt
  rw [hl, StrLaws.seqIndex_nonneg (by omega) (by omega)]
  simp [h]
theorem item_neg {d : List Nat} {j : Nat} {i : Int} (h : j < d.length) (hi : i < 0) (e : i + d.length = j) : Txt.item ⟨d.toArray⟩ i = ⟨#[d.getD j 0]⟩ := by
  have hl : ((⟨d.toArray⟩ : Str).length) = d.length := by simp [Str.length]
  unfold Txt.item Txt.charAt
  rw [hl, StrLaws.seqIndex_neg hi (by omega)]
  have : (i + (d.length : Int)).toNat = j := by omega
  simp [h, this]
theorem lt_single {a b : Nat} : decide (([a] : List Nat) < [b]) = Nat.blt a b := by
  rw [StrLaws.lt_cons_cons]
  have : decide (([] : List Nat) < []) = false := StrLaws.lt_nil_nil
  rw [this, Bool.and_false, Bool.or_false, Bool.eq_iff_iff, decide_eq_true_iff]
  exact (iff_of_eq Nat.ble_eq).symm
theorem not_lt_single {a b : Nat} : decide (¬ (([a] : List Nat) < [b])) = !(Nat.blt a b) := by
  rw [decide_not, lt_single]
theorem dip_item {d : List Nat} (hd : d.length = 3 ∨ d.length = 5) {k c : Nat} (hk : k < d.length) (hc : c = 1 ∨ c = 2 ∨ c = 3) : Txt.item ⟨d.toArray⟩ (0 + (k : Int) - (c : Int)) = ⟨#[itL d (k + d.length - c)]⟩ := by
  unfold itL
  by_cases h : c ≤ k
  · have e : (0 + (k : Int) - (c : Int)) = ((k - c : Nat) : Int) := by omega
    have e2 : (k + d.length - c) % d.length = k - c := by rcases hd with hd | hd <;> rw [hd] at hk ⊢ <;> omega
    rw [e, item_nat (by omega), e2]
  · have e2 : (k + d.length - c) % d.length = k + d.length - c := Nat.mod_eq_of_lt (by omega)
    rw [item_neg (j := k + d.length - c) (by omega) (by omega) (by omega), e2]
theorem dipAt_eq {d : List Nat} (hd : d.length = 3 ∨ d.length = 5) {k : Nat} (hk : k < d.length) : dipAt ⟨d.toArray⟩ k = dipL d k := by
  have h1 := dip_item hd hk (c := 1) (by simp)
  have h2 := dip_item hd hk (c := 2) (by simp)
  have h3 := dip_item hd hk (c := 3) (by simp)
  simp only [Int.cast_ofNat_Int] at h1 h2 h3
  unfold dipAt dipL
  rw [h3, h2, h1]
  simp only [not_lt_single, lt_single]
theorem chAt_eq {d : List Nat} (hd : d.length = 3 ∨ d.length = 5) (st j : Nat) : chAt ⟨d.toArray⟩ st j = ⟨#[itL d (st + j)]⟩ := by
  have hl : ((⟨d.toArray⟩ : Str).length) = d.length := by simp [Str.length]
  unfold chAt itL
  rw [hl, Int.fmod_eq_emod_of_nonneg _ (by omega)]
  have e : (0 + (st : Int) + (j : Int)) % (d.length : Int) = (((st + j) % d.length : Nat) : Int) := by simp
  rw [e, item_nat (Nat.mod_lt _ (by omega))]
theorem run_eq {c : Nat → Str} {c' : Nat → Nat} (h : ∀ j, c j = ⟨#[c' j]⟩) : ∀ f i l, codeRun c f i l = runL c' f i l
  | 0, _, _ => rfl
  | f + 1, i, l => by
    have hc : (1 ≤ l ∧ (c (i - 1)).cps.toList < (c i).cps.toList) ↔ (Nat.ble 1 l && Nat.blt (c' (i - 1)) (c' i)) = true := by
      rw [h, h, Bool.and_eq_true, ← lt_single, decide_eq_true_iff, Nat.ble_eq]
    unfold codeRun runL
    rw [run_eq h f, run_eq h f]
    by_cases h1 : (1 ≤ l ∧ (c (i - 1)).cps.toList < (c i).cps.toList)
    · rw [if_pos h1, hc.mp h1]
      by_cases h2 : (l + 1) % 2 = 1
      · rw [if_pos h2, h2]; rfl
      · rw [if_neg h2]
        have : Nat.beq ((l + 1) % 2) 1 = false := by rw [Bool.eq_false_iff]; intro e; exact h2 (Nat.eq_of_beq_eq_true e)
        rw [this]; rfl
    · rw [if_neg h1]
      have : (Nat.ble 1 l && Nat.blt (c' (i - 1)) (c' i)) = false := by rw [Bool.eq_false_iff]; exact fun e => h1 (hc.mpr e)
      rw [this]; rfl
theorem run_le {c : Nat → Nat} : ∀ {f i l a b}, l ≤ i → runL c f i l = some (a, b) → b ≤ a + 1
  | 0, _, _, _, _, _, h => by cases h
  | f + 1, i, l, a, b, hl, h => by
    unfold runL at h
    cases e : (Nat.ble 1 l && Nat.blt (c (i - 1)) (c i)) <;> rw [e] at h
    · exact run_le (by omega) h
    · simp only [cond_true] at h
      cases e2 : Nat.beq ((l + 1) % 2) 1 <;> rw [e2] at h
      · exact run_le (by omega) h
      · simp only [cond_true, Option.some.injEq, Prod.mk.injEq] at h; omega
theorem slice_from {d : List Nat} {p : Nat} (h : p ≤ d.length) : Txt.slice ⟨d.toArray⟩ (some (p : Int)) none = ⟨(d.drop p).toArray⟩ := by
  have := StrLaws.sliceText_from (x := ⟨d.toArray⟩) (i := (p : Int)) ⟨by omega, by simpa using h⟩
  refine Eq.trans this ?_
  congr 2
  simp only [Int.toNat_natCast]
  rw [List.take_of_length_le]; simp
theorem slice_to {d : List Nat} {p : Nat} (h : p ≤ d.length) : Txt.slice ⟨d.toArray⟩ none (some (p : Int)) = ⟨(d.take p).toArray⟩ := by
  have := StrLaws.sliceText_to (x := ⟨d.toArray⟩) (j := (p : Int)) ⟨by omega, by simpa using h⟩
  refine Eq.trans this ?_
  congr 2
theorem lawCode_eq {d : List Nat} (hd : d.length = 3 ∨ d.length = 5) : lawCode ⟨d.toArray⟩ = ⟨(codeL d).toArray⟩ := by
  have hl : ((⟨d.toArray⟩ : Str).length) = d.length := by simp [Str.length]
  unfold lawCode codeL startsOf
  rw [hl]
  have e : (List.range d.length).filter (dipAt ⟨d.toArray⟩) = (List.range d.length).filter (dipL d) := List.filter_congr fun k hk => dipAt_eq hd (List.mem_range.mp hk)
  rw [e]
  cases hf : (List.range d.length).filter (dipL d) with
  | nil => rfl
  | cons st r =>
    simp only []
    rw [run_eq (chAt_eq hd st)]
    cases hr : runL (fun j => itL d (st + j)) d.length 0 0 with
    | none => rfl
    | some p =>
      obtain ⟨i, l⟩ := p
      have hle := run_le (Nat.le_refl 0) hr
      simp only []
      have ep : (0 + (st : Int) + (i : Int) + 1 - (l : Int)).fmod (d.length : Int) = (((st + i + 1 - l) % d.length : Nat) : Int) := by
        rw [Int.fmod_eq_emod_of_nonneg _ (by omega)]
        have : (0 + (st : Int) + (i : Int) + 1 - (l : Int)) = ((st + i + 1 - l : Nat) : Int) := by omega
        rw [this]; simp
      have hp : (st + i + 1 - l) % d.length ≤ d.length := Nat.le_of_lt (Nat.mod_lt _ (by omega))
      rw [ep, slice_from hp, slice_to hp]
      exact PySem.Str.ext' (by rw [PySem.Str.cps_append]; simp)
theorem starts_eq {d : List Nat} (hd : d.length = 3 ∨ d.length = 5) : startsOf ⟨d.toArray⟩ d.length = (List.range d.length).filter (dipL d) :=
  List.filter_congr fun k hk => dipAt_eq hd (List.mem_range.mp hk)
end Mine
end
section
open PySem PySem.W PyProof.Rows PySem.Spec
set_option Elab.async false
set_option maxRecDepth 1000000
set_option linter.unusedVariables false
namespace Mine
noncomputable def eqL : List Nat → List Nat → Bool
  | [], [] => true
  | a :: r, b :: t => bif Nat.beq a b then eqL r t else false
  | _, _ => false
theorem eqL_eq : ∀ {a b : List Nat}, eqL a b = true → a = b
  | [], [], _ => rfl
  | [], _ :: _, h => by cases h
  | _ :: _, [], h => by cases h
  | a :: r, b :: t, h => by
    unfold eqL at h
    cases e : Nat.beq a b <;> rw [e] at h
    · cases h
    · rw [Nat.eq_of_beq_eq_true e, eqL_eq h]
theorem eqL_refl : ∀ (a : List Nat), eqL a a = true
  | [] => rfl
  | a :: r => by
    unfold eqL
    rw [Nat.beq_refl, eqL_refl r]; rfl
noncomputable def letters : List Nat := [102, 105, 108, 115, 116]
noncomputable def dgL (c : Nat) : Nat := bif Nat.beq c 102 then 0 else bif Nat.beq c 105 then 1 else bif Nat.beq c 108 then 2 else bif Nat.beq c 115 then 3 else 4
noncomputable def idxL (a : Nat) : List Nat → Nat
  | [] => a
  | c :: r => idxL (a * 5 + dgL c) r
noncomputable def sufM3 : List Nat := [0, 30, 549790]
noncomputable def preM3 : List Nat := [0, 31, 16227425]
noncomputable def sufM5 : List Nat := [0, 30, 549790, 696941644269957810592618622484480030, 2281362232604971925597488334499980966974135457568308604643275089422530101454254338191356445449409133847356807851716049321109292446114402234889055280684470692560080474262800880682961731614]
noncomputable def preM5 : List Nat := [0, 31, 33004641, 42535294637080751219785092553716531231, 67335954687116477028476705892969544880929320953707108919206535738035641700831538177424332519638962159230378946726737145118498881449470410273732600964278663667252843526794952298201104236001]
noncomputable def hasM (M : List Nat) (x : List Nat) : Bool := Nat.beq ((M.getD x.length 0 / 2 ^ idxL 0 x) % 2) 1
noncomputable def rot1 (w : List Nat) : List Nat := match w with | [] => [] | a :: r => r ++ [a]
noncomputable def isRot (c : List Nat) : Nat → List Nat → Bool
  | 0, _ => false
  | f + 1, w => bif eqL w c then true else isRot c f (rot1 w)
noncomputable def sameL : List Nat → Bool
  | a :: b :: r => Nat.beq a b && sameL (b :: r)
  | _ => true
noncomputable def free (S P : List Nat) (w : List Nat) : Nat → Bool
  | 0 => true
  | r + 1 => (bif Nat.beq r 0 then true else hasM S (w.drop r) && hasM P (w.take r) && !(hasM S (w.take (w.length - r)) && hasM P (w.drop (w.length - r)))) && free S P w r
noncomputable def chk (S P : List Nat) (w : List Nat) : Bool :=
  sameL w || (isRot (codeL w) w.length w && eqL (codeL (rot1 w)) (codeL w) && (bif eqL (codeL w) w then free S P w w.length else true))
noncomputable def allW (p : List Nat → Bool) : Nat → List Nat → Bool
  | 0, w => p w
  | n + 1, w => letters.all fun c => allW p n (c :: w)
theorem chk3 : allW (chk sufM3 preM3) 3 [] = true := by decide +kernel
theorem chk5_102 : allW (chk sufM5 preM5) 4 [102] = true := by decide +kernel
theorem chk5_105 : allW (chk sufM5 preM5) 4 [105] = true := by decide +kernel
theorem chk5_108 : allW (chk sufM5 preM5) 4 [108] = true := by decide +kernel
theorem chk5_115 : allW (chk sufM5 preM5) 4 [115] = true := by decide +kernel
theorem chk5_116 : allW (chk sufM5 preM5) 4 [116] = true := by decide +kernel
end Mine
end
section
open PySem PySem.W PyProof.Rows PySem.Spec
set_option Elab.async false
set_option maxRecDepth 1000000
set_option linter.unusedVariables false
namespace Mine
theorem allW_spec {p : List Nat → Bool} : ∀ {n : Nat} {w : List Nat}, allW p n w = true → ∀ v : List Nat, v.length = n → (∀ c ∈ v, c ∈ letters) → p (v.reverse ++ w) = true
  | 0, w, h, v, hv, _ => by
    rw [List.length_eq_zero_iff.mp hv]; exact h
  | n + 1, w, h, [], hv, _ => by simp at hv
  | n + 1, w, h, c :: v, hv, hl => by
    have h1 := List.all_eq_true.mp h c (hl c (by simp))
    have := allW_spec h1 v (by simpa using hv) (fun x hx => hl x (by simp [hx]))
    simpa using this
noncomputable def sufM (n : Nat) : List Nat := bif Nat.beq n 3 then sufM3 else sufM5
noncomputable def preM (n : Nat) : List Nat := bif Nat.beq n 3 then preM3 else preM5
theorem chk_all {n : Nat} (hn : n = 3 ∨ n = 5) {d : List Nat} (hd : d.length = n) (hl : ∀ c ∈ d, c ∈ letters) : chk (sufM n) (preM n) d = true := by
  have hr : ∀ c ∈ d.reverse, c ∈ letters := fun c hc => hl c (List.mem_reverse.mp hc)
  rcases hn with rfl | rfl
  · have := allW_spec chk3 d.reverse (by simpa using hd) hr
    rw [List.reverse_reverse, List.append_nil] at this
    exact this
  · cases hq : d.reverse with
    | nil => rw [List.reverse_eq_nil_iff] at hq; rw [hq] at hd; simp at hd
    | cons a r =>
      have e : d = r.reverse ++ [a] := by
        have := congrArg List.reverse hq; simpa using this
      have hlen : r.length = 4 := by rw [e] at hd; simpa using hd
      have ha : a ∈ letters := hl a (by rw [e]; simp)
      have hrl : ∀ c ∈ r, c ∈ letters := fun c hc => hl c (by rw [e]; simp [hc])
      rw [e]
      simp only [letters, List.mem_cons, List.not_mem_nil, or_false] at ha
      rcases ha with rfl | rfl | rfl | rfl | rfl
      · exact allW_spec chk5_102 r hlen hrl
      · exact allW_spec chk5_105 r hlen hrl
      · exact allW_spec chk5_108 r hlen hrl
      · exact allW_spec chk5_115 r hlen hrl
      · exact allW_spec chk5_116 r hlen hrl
theorem sameL_iff : ∀ {d : List Nat}, sameL d = true ↔ ∀ a ∈ d, ∀ b ∈ d, a = b
  | [] => by simp [sameL]
  | [a] => by simp [sameL]
  | a :: b :: r => by
    have ih := sameL_iff (d := b :: r)
    simp only [sameL, Bool.and_eq_true]
    constructor
    · rintro ⟨h1, h2⟩
      have e : a = b := Nat.eq_of_beq_eq_true h1
      subst e
      have h3 := ih.mp h2
      intro x hx y hy
      have hx' : x ∈ a :: r := by simpa using hx
      have hy' : y ∈ a :: r := by simpa using hy
      exact h3 x hx' y hy'
    · intro h
      refine ⟨?_, ih.mpr fun x hx y hy => h x (List.mem_cons_of_mem _ hx) y (List.mem_cons_of_mem _ hy)⟩
      have : a = b := h a (by simp) b (by simp)
      rw [this]; exact Nat.beq_refl b
/-- a word of n letters that is not all one letter -/
noncomputable def Word (n : Nat) (d : List Nat) : Prop := d.length = n ∧ (∀ c ∈ d, c ∈ letters) ∧ sameL d = false
theorem Word.perm {n : Nat} {d e : List Nat} (h : Word n d) (hp : e.Perm d) : Word n e := by
  refine ⟨hp.length_eq.trans h.1, fun c hc => h.2.1 c (hp.mem_iff.mp hc), ?_⟩
  rw [Bool.eq_false_iff]
  intro he
  have := sameL_iff.mp he
  have h3 : sameL d = true := sameL_iff.mpr fun a ha b hb => this a (hp.mem_iff.mpr ha) b (hp.mem_iff.mpr hb)
  rw [h.2.2] at h3; cases h3
noncomputable def rotK (k : Nat) (d : List Nat) : List Nat := d.drop k ++ d.take k
theorem rotK_perm (k : Nat) (d : List Nat) : (rotK k d).Perm d := by
  unfold rotK
  exact (List.perm_append_comm).trans (by rw [List.take_append_drop])
theorem rot1_eq {d : List Nat} : rot1 d = rotK 1 d := by cases d <;> simp [rot1, rotK]
theorem rotK_succ {d : List Nat} {k : Nat} (h : k < d.length) : rotK (k + 1) d = rot1 (rotK k d) := by
  unfold rotK
  rw [List.drop_eq_getElem_cons h]
  simp only [List.cons_append, rot1, List.append_assoc]
  rw [List.take_succ_eq_append_getElem h]
theorem isRot_spec {c : List Nat} : ∀ {f : Nat} {w d : List Nat} {j : Nat}, w = rotK j d → j + f ≤ d.length → isRot c f w = true → ∃ k, k < d.length ∧ c = rotK k d
  | 0, _, _, _, _, _, h => by cases h
  | f + 1, w, d, j, e, hj, h => by
    unfold isRot at h
    cases h1 : eqL w c <;> rw [h1] at h
    · exact isRot_spec (f := f) (w := rot1 w) (d := d) (j := j + 1) (by rw [rotK_succ (by omega), e]) (by omega) h
    · exact ⟨j, by omega, by rw [← eqL_eq h1, e]⟩
theorem chk_word {n : Nat} (hn : n = 3 ∨ n = 5) {d : List Nat} (h : Word n d) : (∃ k, k < n ∧ codeL d = rotK k d) ∧ codeL (rot1 d) = codeL d ∧ (codeL d = d → free (sufM n) (preM n) d d.length = true) := by
  have hc := chk_all hn h.1 h.2.1
  unfold chk at hc
  rw [h.2.2, Bool.false_or, Bool.and_eq_true, Bool.and_eq_true] at hc
  obtain ⟨⟨h1, h2⟩, h3⟩ := hc
  refine ⟨?_, eqL_eq h2, fun e => ?_⟩
  · obtain ⟨k, hk, e⟩ := isRot_spec (j := 0) (d := d) (by simp [rotK]) (by omega) h1
    exact ⟨k, h.1 ▸ hk, e⟩
  · rw [e, eqL_refl] at h3; exact h3
theorem code_rotK {n : Nat} (hn : n = 3 ∨ n = 5) {d : List Nat} (h : Word n d) : ∀ {k : Nat}, k ≤ n → codeL (rotK k d) = codeL d
  | 0, _ => by simp [rotK]
  | k + 1, hk => by
    rw [rotK_succ (by rw [h.1]; omega), (chk_word hn (h.perm (rotK_perm k d))).2.1, code_rotK hn h (by omega)]
theorem code_word {n : Nat} (hn : n = 3 ∨ n = 5) {d : List Nat} (h : Word n d) : Word n (codeL d) := by
  obtain ⟨k, _, e⟩ := (chk_word hn h).1
  rw [e]; exact h.perm (rotK_perm k d)
theorem code_code {n : Nat} (hn : n = 3 ∨ n = 5) {d : List Nat} (h : Word n d) : codeL (codeL d) = codeL d := by
  obtain ⟨k, hk, e⟩ := (chk_word hn h).1
  have := code_rotK hn h (Nat.le_of_lt hk)
  rw [← e] at this; exact this
theorem starts_ne {n : Nat} (hn : n = 3 ∨ n = 5) {d : List Nat} (h : Word n d) : (List.range d.length).filter (dipL d) ≠ [] := by
  intro e
  have hw := (code_word hn h).1
  unfold codeL at hw
  rw [e] at hw
  simp at hw; omega
theorem free_spec {S P w : List Nat} : ∀ {f : Nat}, free S P w f = true → ∀ r, 0 < r → r < f → hasM S (w.drop r) = true ∧ hasM P (w.take r) = true ∧ (hasM S (w.take (w.length - r)) && hasM P (w.drop (w.length - r))) = false
  | 0, _, r, _, h => by omega
  | f + 1, h, r, h0, hr => by
    unfold free at h
    rw [Bool.and_eq_true] at h
    obtain ⟨h1, h2⟩ := h
    by_cases e : r = f
    · subst e
      have : Nat.beq r 0 = false := by rw [Bool.eq_false_iff]; intro q; have := Nat.eq_of_beq_eq_true q; omega
      rw [this] at h1
      simp only [cond_false, Bool.and_eq_true, Bool.not_eq_true'] at h1
      exact ⟨h1.1.1, h1.1.2, h1.2⟩
    · exact free_spec h2 r h0 (by omega)
theorem comma_free {n : Nat} (hn : n = 3 ∨ n = 5) {c c' : List Nat} (hc : Word n c) (hc' : Word n c') (ec : codeL c = c) (ec' : codeL c' = c') {r : Nat} (h0 : 0 < r) (hr : r < n) (hu : Word n (c.drop r ++ c'.take r)) : codeL (c.drop r ++ c'.take r) ≠ c.drop r ++ c'.take r := by
  intro e
  have h1 := (free_spec ((chk_word hn hc).2.2 ec) r h0 (by rw [hc.1]; exact hr)).1
  have h2 := (free_spec ((chk_word hn hc').2.2 ec') r h0 (by rw [hc'.1]; exact hr)).2.1
  have h3 := (free_spec ((chk_word hn hu).2.2 e) r h0 (by rw [hu.1]; exact hr)).2.2
  have hl : (c.drop r ++ c'.take r).length - r = (c.drop r).length := by
    rw [hu.1, List.length_drop, hc.1]
  rw [hl, List.take_left, List.drop_left, h1, h2] at h3
  cases h3
end Mine
end
section
open PySem PySem.W PyProof.Rows PySem.Spec
set_option Elab.async false
set_option maxRecDepth 1000000
set_option linter.unusedVariables false
namespace Mine
theorem join_sing : ∀ l : List Nat, (Txt.join (Str.ofString "") (l.map fun c => (⟨#[c]⟩ : Str))) = ⟨l.toArray⟩ := by
  have h : ∀ l : List Nat, (Str.join (Str.ofString "") (l.map fun c => (⟨#[c]⟩ : Str))).cps.toList = l := by
    intro l
    induction l with
    | nil => rfl
    | cons a r ih =>
      cases r with
      | nil => rfl
      | cons b r =>
        show ((⟨#[a]⟩ : Str) ++ Str.ofString "" ++ Str.join (Str.ofString "") ((b :: r).map fun c => (⟨#[c]⟩ : Str))).cps.toList = _
        rw [PySem.Str.cps_append, PySem.Str.cps_append, Array.toList_append, Array.toList_append, ih]
        have : (Str.ofString "").cps.toList = [] := rfl
        rw [this, List.append_nil]; rfl
  intro l
  refine PySem.Str.ext' (Array.toList_inj.mp ?_)
  show (Builtin.Str.glued _ _).cps.toList = _
  rw [StrLaws.glued_eq_join, h]
theorem filst_eq : Str.ofString "filst" = ⟨letters.toArray⟩ := by decide +kernel
theorem item_letter {i : Int} (h0 : 0 ≤ i) (h5 : i < 5) : ∃ c, c ∈ letters ∧ Txt.item (Str.ofString "filst") i = ⟨#[c]⟩ := by
  obtain ⟨j, rfl⟩ := Int.eq_ofNat_of_zero_le h0
  have hj : j < letters.length := by show j < 5; omega
  rw [filst_eq, item_nat hj]
  exact ⟨_, by rw [List.getD_eq_getElem?_getD, List.getElem?_eq_getElem hj]; exact List.getElem_mem hj, rfl⟩
theorem lawJ_eq {v : Int} {n : Nat} (hn : n = 3 ∨ n = 5) : ∃ d : List Nat, d.length = n ∧ (∀ c ∈ d, c ∈ letters) ∧ lawJ v n = ⟨d.toArray⟩ := by
  have key : ∀ l : List Int, ∃ d : List Nat, d.length = l.length ∧ (∀ c ∈ d, c ∈ letters) ∧ (l.map fun a => Txt.item (Str.ofString "filst") ((v.fdiv (5 ^ a.toNat)).fmod 5)) = d.map fun c => (⟨#[c]⟩ : Str) := by
    intro l
    induction l with
    | nil => exact ⟨[], rfl, by simp, rfl⟩
    | cons a r ih =>
      obtain ⟨d, h1, h2, h3⟩ := ih
      obtain ⟨c, hc, e⟩ := item_letter (i := (v.fdiv (5 ^ a.toNat)).fmod 5) (Int.fmod_nonneg_of_pos _ (by decide)) (Int.fmod_lt_of_pos _ (by decide))
      refine ⟨c :: d, by simp [h1], fun x hx => ?_, by rw [List.map_cons, List.map_cons, h3, e]⟩
      rcases List.mem_cons.mp hx with rfl | hx
      · exact hc
      · exact h2 x hx
  obtain ⟨d, h1, h2, h3⟩ := key (rangeKs 0 n)
  refine ⟨d, ?_, h2, ?_⟩
  · rw [h1]; rcases hn with rfl | rfl <;> rfl
  · unfold lawJ; rw [h3, join_sing]
noncomputable def nextC (c : Nat) : Str := Txt.item (Str.ofString "filst") ((Txt.find (Str.ofString "filst") ⟨#[c]⟩ + 1).fmod 5)
theorem next_ok : letters.all (fun c => decide (Txt.find (Str.ofString "filst") ⟨#[c]⟩ ≠ -1) && letters.any fun e => decide (nextC c = ⟨#[e]⟩) && !Nat.beq e c) = true := by decide +kernel
theorem lawJ_find {number : Int} {n : Nat} (h : 0 ≤ number) (hn : n = 3 ∨ n = 5) : Txt.find (Str.ofString "filst") (Txt.item (lawJ number n) 0) ≠ -1 := by
  obtain ⟨d, h1, h2, h3⟩ := lawJ_eq (v := number) hn
  have h0 : 0 < d.length := by omega
  have := item_nat (d := d) (j := 0) h0
  rw [h3, show ((0 : Nat) : Int) = 0 from rfl] at *
  rw [this]
  have hc : d.getD 0 0 ∈ letters := h2 _ (by rw [List.getD_eq_getElem?_getD, List.getElem?_eq_getElem h0]; exact List.getElem_mem h0)
  have := List.all_eq_true.mp next_ok _ hc
  rw [Bool.and_eq_true] at this
  exact of_decide_eq_true this.1
theorem mul_sing {c n : Nat} (hn : n = 3 ∨ n = 5) : Txt.mul ⟨#[c]⟩ n = ⟨(List.replicate n c).toArray⟩ := by
  rcases hn with rfl | rfl <;> rfl
theorem lawWord_eq {v : Int} {n : Nat} (hn : n = 3 ∨ n = 5) : ∃ d : List Nat, Word n d ∧ lawWord v n = ⟨d.toArray⟩ := by
  obtain ⟨d, h1, h2, h3⟩ := lawJ_eq (v := v) hn
  have h0 : 0 < d.length := by omega
  cases d with
  | nil => simp at h0
  | cons a r =>
    have hi : Txt.item (⟨(a :: r).toArray⟩ : Str) 0 = ⟨#[a]⟩ := item_nat (d := a :: r) (j := 0) h0
    have ha : a ∈ letters := h2 a (by simp)
    unfold lawWord
    rw [h3, hi, mul_sing hn]
    by_cases hs : ((⟨(a :: r).toArray⟩ : Str) == ⟨(List.replicate n a).toArray⟩) = true
    · rw [if_pos hs]
      have e := eq_of_beq hs
      have e : a :: r = List.replicate n a := by
        have := congrArg (fun x : Str => x.cps.toList) e; simpa using this
      have hq := List.all_eq_true.mp next_ok a ha
      rw [Bool.and_eq_true] at hq
      obtain ⟨x, hx, hq⟩ := List.any_eq_true.mp hq.2
      rw [Bool.and_eq_true] at hq
      have hx1 : nextC a = ⟨#[x]⟩ := of_decide_eq_true hq.1
      have hx2 : x ≠ a := by intro q; rw [q, Nat.beq_refl] at hq; exact absurd hq.2 (by decide)
      have hsl : Txt.slice (⟨(a :: r).toArray⟩ : Str) (some 1) none = ⟨r.toArray⟩ := slice_from (d := a :: r) (p := 1) (by simp)
      refine ⟨r ++ [x], ⟨?_, ?_, ?_⟩, ?_⟩
      · rw [List.length_append, ← h1]; rfl
      · intro c hc
        rcases List.mem_append.mp hc with hc | hc
        · exact h2 c (by simp [hc])
        · rw [List.mem_singleton.mp hc]; exact hx
      · rw [Bool.eq_false_iff]
        intro hsm
        have hall := sameL_iff.mp hsm
        have hr : a ∈ r := by
          have hr : r = List.replicate (n - 1) a := by
            have := congrArg List.tail e; rw [List.tail_cons] at this; rw [this]
            rcases hn with rfl | rfl <;> rfl
          rw [hr]; rcases hn with rfl | rfl <;> simp
        exact hx2 (hall x (by simp) a (by simp [hr]))
      · rw [hsl]
        show (⟨r.toArray⟩ : Str) ++ nextC a = _
        rw [hx1]
        exact PySem.Str.ext' (by rw [PySem.Str.cps_append]; simp)
    · rw [if_neg hs]
      refine ⟨a :: r, ⟨h1, h2, ?_⟩, rfl⟩
      rw [Bool.eq_false_iff]
      intro hsm
      have hall := sameL_iff.mp hsm
      apply hs
      have : a :: r = List.replicate n a := by
        rw [List.eq_replicate_iff]
        exact ⟨h1, fun b hb => hall b hb a (by simp)⟩
      rw [this]; exact beq_self_eq_true _
/-- the code word of a number -/
theorem codeWord_eq {v : Int} {n : Nat} (hn : n = 3 ∨ n = 5) : ∃ d : List Nat, Word n d ∧ codeL d = d ∧ lawCode (lawWord v n) = ⟨d.toArray⟩ := by
  obtain ⟨d, hw, e⟩ := lawWord_eq (v := v) hn
  refine ⟨codeL d, code_word hn hw, code_code hn hw, ?_⟩
  rw [e, lawCode_eq (by rw [hw.1]; exact hn)]
theorem lawWord_pre {v : Int} {n : Nat} (hn : n = 3 ∨ n = 5) : (lawWord v n).length = n ∧ (n = 3 ∨ n = 5) ∧ startsOf (lawWord v n) n ≠ [] := by
  obtain ⟨d, hw, e⟩ := lawWord_eq (v := v) hn
  rw [e]
  refine ⟨by simpa [Str.length] using hw.1, hn, ?_⟩
  have := starts_eq (d := d) (by rw [hw.1]; exact hn)
  rw [hw.1] at this
  rw [this]
  have h := starts_ne hn hw
  rw [hw.1] at h; exact h
end Mine
end
section
open PySem PySem.W PyProof.Rows PySem.Spec
set_option Elab.async false
set_option maxRecDepth 1000000
set_option linter.unusedVariables false
namespace Mine
noncomputable def Codes (n : Nat) (ds : List (List Nat)) : Prop := ∀ d ∈ ds, Word n d ∧ codeL d = d
noncomputable def strAt (n : Nat) (row : List Nat) (k : Nat) : List Nat := (row.drop k).take n
theorem flat_len' {n : Nat} : ∀ {ds : List (List Nat)}, Codes n ds → ds.flatten.length = ds.length * n
  | [], _ => by simp
  | d :: r, h => by
    rw [List.flatten_cons, List.length_append, flat_len' (fun x hx => h x (by simp [hx])), (h d (by simp)).1.1, List.length_cons, Nat.succ_mul, Nat.add_comm]
theorem flat_drop {n : Nat} : ∀ {ds : List (List Nat)} {q : Nat}, Codes n ds → q ≤ ds.length → ds.flatten.drop (q * n) = (ds.drop q).flatten
  | ds, 0, _, _ => by simp
  | [], q + 1, _, hq => by simp at hq
  | d :: r, q + 1, h, hq => by
    have hd := (h d (by simp)).1.1
    have : (q + 1) * n = d.length + q * n := by rw [hd, Nat.succ_mul, Nat.add_comm]
    rw [this, List.flatten_cons, ← List.drop_drop, List.drop_left, flat_drop (fun x hx => h x (by simp [hx])) (by simpa using hq)]
    rfl
theorem str_whole {n q : Nat} {ds : List (List Nat)} (h : Codes n ds) (hq : q < ds.length) : strAt n ds.flatten (q * n) = ds[q] := by
  unfold strAt
  rw [flat_drop h (Nat.le_of_lt hq), List.drop_eq_getElem_cons hq, List.flatten_cons]
  have : n = (ds[q]).length := ((h _ (List.getElem_mem hq)).1.1).symm
  rw [this, List.take_left]
theorem str_mid {n q r : Nat} {ds : List (List Nat)} (h : Codes n ds) (hq : q + 1 < ds.length) (hr : r < n) : strAt n ds.flatten (q * n + r) = (ds[q]'(by omega)).drop r ++ (ds[q + 1]).take r := by
  unfold strAt
  have h0 := (h _ (List.getElem_mem (show q < ds.length by omega))).1.1
  have h1 := (h _ (List.getElem_mem hq)).1.1
  rw [← List.drop_drop, flat_drop h (by omega), List.drop_eq_getElem_cons (show q < ds.length by omega), List.drop_eq_getElem_cons hq, List.flatten_cons, List.flatten_cons]
  rw [List.drop_append_of_le_length (by omega), List.take_append, List.length_drop, h0]
  rw [List.take_of_length_le (by rw [List.length_drop, h0]; omega)]
  congr 1
  have : n - (n - r) = r := by omega
  rw [this, List.take_append_of_le_length (by omega)]
theorem str_letters {n k : Nat} {ds : List (List Nat)} (h : Codes n ds) : ∀ c ∈ strAt n ds.flatten k, c ∈ letters := fun c hc => by
  have := List.mem_of_mem_drop (List.mem_of_mem_take hc)
  obtain ⟨d, hd, hc⟩ := List.mem_flatten.mp this
  exact (h d hd).1.2.1 c hc
theorem str_len {n k : Nat} {ds : List (List Nat)} (h : Codes n ds) (hk : k + n ≤ ds.length * n) : (strAt n ds.flatten k).length = n := by
  unfold strAt
  rw [List.length_take, List.length_drop, flat_len' h]; omega
/-- a stretch that starts with a code word is that word; no other stretch is a code word. -/
theorem str_facts {n k : Nat} {ds : List (List Nat)} (hn : n = 3 ∨ n = 5) (h : Codes n ds) (hk : k + n ≤ ds.length * n) :
    (k % n = 0 → Word n (strAt n ds.flatten k) ∧ codeL (strAt n ds.flatten k) = strAt n ds.flatten k) ∧ (k % n ≠ 0 → Word n (strAt n ds.flatten k) → codeL (strAt n ds.flatten k) ≠ strAt n ds.flatten k) := by
  have hn0 : 0 < n := by omega
  have hdm := Nat.div_add_mod k n
  refine ⟨fun hz => ?_, fun hz hw => ?_⟩
  · have e : k = (k / n) * n := by rw [hz, Nat.add_zero, Nat.mul_comm] at hdm; exact hdm.symm
    have hq : k / n < ds.length := by
      have h2 : (k / n + 1) * n ≤ ds.length * n := by rw [Nat.succ_mul, ← e]; exact hk
      exact Nat.lt_of_succ_le (Nat.le_of_mul_le_mul_right h2 hn0)
    rw [e, str_whole h hq]
    exact h _ (List.getElem_mem hq)
  · have hr := Nat.mod_lt k hn0
    have e : k = (k / n) * n + k % n := by rw [Nat.mul_comm]; exact hdm.symm
    have hq : k / n + 1 < ds.length := by
      rcases Nat.lt_or_ge (k / n + 1) ds.length with h2 | h2
      · exact h2
      · exfalso
        have h3 : ds.length * n ≤ (k / n + 1) * n := Nat.mul_le_mul_right n h2
        rw [Nat.succ_mul] at h3
        omega
    have es := str_mid h hq hr
    rw [← e] at es
    rw [es] at hw ⊢
    have c1 := h _ (List.getElem_mem (show k / n < ds.length by omega))
    have c2 := h _ (List.getElem_mem hq)
    exact comma_free hn c1.1 c2.1 c1.2 c2.2 (Nat.pos_of_ne_zero hz) hr hw
noncomputable def sK (n : Nat) (row : List Nat) (k : Nat) : Str := ⟨(strAt n row k).toArray⟩
/-- upper and lower case of a word of letters -/
theorem low_letters : letters.all (fun c => eqL (Unicode.lowerOf c) [c] && eqL (Unicode.upperOf c) [c - 32] && eqL (Unicode.lowerOf (c - 32)) [c] && !(Nat.beq c 0x3A3) && !(Nat.beq (c - 32) 0x3A3)) = true := by decide +kernel
theorem placed_list {x : Str} {f : Nat → Nat → List Nat} : (PySem.placed x f).toList = (x.cps.toList.mapIdx f).flatten := by
  unfold PySem.placed
  rw [Array.toList_flatten, Array.toList_mapIdx]
  congr 1
  apply List.ext_getElem?
  intro i
  rw [List.getElem?_map, List.getElem?_mapIdx, List.getElem?_mapIdx]
  cases x.cps.toList[i]? <;> simp
theorem mapIdx_sing {f : Nat → Nat → List Nat} {g : Nat → Nat} : ∀ {l : List Nat}, (∀ i c, l[i]? = some c → f i c = [g c]) → (l.mapIdx f).flatten = l.map g := by
  intro l h
  have : l.mapIdx f = l.map fun c => [g c] := by
    apply List.ext_getElem?
    intro i
    rw [List.getElem?_mapIdx, List.getElem?_map]
    cases e : l[i]? with
    | none => rfl
    | some c => simp [h i c e]
  rw [this]
  clear this h
  induction l with
  | nil => rfl
  | cons a r ih => rw [List.map_cons, List.flatten_cons, ih]; rfl
theorem lower_word {d : List Nat} (h : ∀ c ∈ d, c ∈ letters) : Txt.lower ⟨d.toArray⟩ = ⟨d.toArray⟩ := by
  refine PySem.Str.ext' (Array.toList_inj.mp ?_)
  show (PySem.placed _ _).toList = _
  rw [placed_list, mapIdx_sing (g := id)]
  · simp
  · intro i c hc
    have hc' : d[i]? = some c := by simpa using hc
    have hq := List.all_eq_true.mp low_letters c (h c (List.mem_of_getElem? hc'))
    simp only [Bool.and_eq_true, Bool.not_eq_true'] at hq
    unfold Unicode.lowerAt
    have : (⟨d.toArray⟩ : Str).cps[i]? = some c := by simpa using hc'
    rw [this]
    have h3 : (c == 0x3A3) = false := by have := hq.1.2; rw [beq_eq_false_iff_ne]; intro q; rw [q] at this; exact absurd this (by decide)
    simp only [h3, Bool.false_and, Bool.false_eq_true, if_false]
    exact eqL_eq hq.1.1.1.1
theorem upper_word {d : List Nat} (h : ∀ c ∈ d, c ∈ letters) : Txt.upper ⟨d.toArray⟩ = ⟨(d.map (· - 32)).toArray⟩ := by
  refine PySem.Str.ext' (Array.toList_inj.mp ?_)
  show (PySem.placed _ _).toList = _
  rw [placed_list, mapIdx_sing (g := (· - 32))]
  intro i c hc
  have hc' : d[i]? = some c := by simpa using hc
  have hq := List.all_eq_true.mp low_letters c (h c (List.mem_of_getElem? hc'))
  simp only [Bool.and_eq_true] at hq
  exact eqL_eq hq.1.1.1.2
theorem lower_upper {d : List Nat} (h : ∀ c ∈ d, c ∈ letters) : Txt.lower (Txt.upper ⟨d.toArray⟩) = ⟨d.toArray⟩ := by
  rw [upper_word h]
  refine PySem.Str.ext' (Array.toList_inj.mp ?_)
  show (PySem.placed _ _).toList = _
  rw [placed_list, mapIdx_sing (g := (· + 32))]
  · show (d.map (· - 32)).map (· + 32) = d
    rw [List.map_map]
    refine (List.map_congr_left fun c hc => ?_).trans (List.map_id _)
    have := h c hc
    simp only [letters, List.mem_cons, List.not_mem_nil, or_false] at this
    rcases this with rfl | rfl | rfl | rfl | rfl <;> rfl
  · intro i c hc
    have hc' : (d.map (· - 32))[i]? = some c := by simpa using hc
    rw [List.getElem?_map] at hc'
    obtain ⟨b, hb, rfl⟩ := Option.map_eq_some_iff.mp hc'
    have hbl := h b (List.mem_of_getElem? hb)
    have hq := List.all_eq_true.mp low_letters b hbl
    simp only [Bool.and_eq_true, Bool.not_eq_true'] at hq
    unfold Unicode.lowerAt
    have : (⟨(d.map (· - 32)).toArray⟩ : Str).cps[i]? = some (b - 32) := by simp [hb]
    rw [this]
    have h3 : ((b - 32) == 0x3A3) = false := by have := hq.2; rw [beq_eq_false_iff_ne]; intro q; rw [q] at this; exact absurd this (by decide)
    simp only [h3, Bool.false_and, Bool.false_eq_true, if_false]
    rw [eqL_eq hq.1.1.2]
    simp only [letters, List.mem_cons, List.not_mem_nil, or_false] at hbl
    rcases hbl with rfl | rfl | rfl | rfl | rfl <;> rfl
end Mine
end
section
open PySem PySem.W PyProof.Rows PySem.Spec
set_option Elab.async false
set_option maxRecDepth 1000000
set_option linter.unusedVariables false
namespace Mine
noncomputable abbrev pr1 := PySem.Challenge.rw_wc0029_01.row.prog
noncomputable def b1es : List (Int × Value) := match (o129 ⟨fun _ => 0, fun _ => 0, id, fun _ => 0, fun _ _ => 0, fun _ => false, fun _ => 0, .refcount, .text, fun _ => 0, fun _ => none, fun _ => false, fun _ _ _ => true, fun _ y a => a ≥ y, true, fun _ => false, fun _ => none, fun _ => none, fun _ _ _ => 0, fun _ _ => none, fun _ => none, fun _ => (0, false, ⟨#[]⟩), fun _ => none, id, fun _ => false⟩).data with
  | .set es _ _ => es.toList
  | _ => []
noncomputable def b1keys : List Int := b1es.map (·.1)
theorem o129_is (P : Params) : ∃ t, o129 P = ⟨.type "set", none, .set b1es.toArray 29 t, #[]⟩ ∧ t.fits b1es.toArray.size = true := ⟨_, rfl, rfl⟩
theorem b1_elems : b1es.all (fun e => match e.2 with | .int k _ => hashInt k == e.1 && e.1 == k | _ => false) = true := by decide +kernel
theorem set129 {w : World} {h : Heap} (X : (KK w.params).In h) : h.SetOf (intKind pr1 w) 129 (fun k => b1keys.contains k) 27 := by
  obtain ⟨t, e, hf⟩ := o129_is w.params
  have ho : h.get? 129 = some (o129 w.params) := X _ _ rfl
  have E := List.all_eq_true.mp b1_elems
  have shape : ∀ x ∈ b1es, ∃ k tk, x = (k, .int k tk) ∧ hashInt k = k := by
    intro x hx
    have := E x hx
    obtain ⟨a, v⟩ := x
    cases v <;> simp_all
  refine ⟨_, _, _, t, e ▸ ho, ⟨rfl, rfl, rfl⟩, rfl, ?_, ?_, by decide +kernel, hf, by decide +kernel⟩
  · intro x hx
    obtain ⟨k, tk, rfl, hh⟩ := shape x (by simpa using hx)
    exact ⟨⟨k, intKind_is _ _ _ _, hh.symm⟩, rfl⟩
  · intro k
    show b1keys.contains k = true ↔ _
    rw [List.contains_iff_mem]
    constructor
    · intro hk
      obtain ⟨x, hx, rfl⟩ := List.mem_map.mp hk
      obtain ⟨k', tk, rfl, _⟩ := shape x hx
      exact ⟨_, by simpa using hx, intKind_is _ _ _ _⟩
    · rintro ⟨x, hx, hk⟩
      have hx' : x ∈ b1es := by simpa using hx
      obtain ⟨k', tk, rfl, _⟩ := shape x hx'
      have : k' = k := (intKind pr1 w).inj _ _ _ (intKind_is _ _ _ _) hk
      subst this
      exact List.mem_map.mpr ⟨_, hx', rfl⟩
theorem in_b1 {w : World} {A : Around} {s : Shared} {k : Int} {t : Tok} {Q : Value → Shared → Prop} {E : Value → Shared → Prop} (X : (KK w.params).In s.heap) (h : Q (.bool (b1keys.contains k)) { s with toks := s.toks + 1 }) :
    wpAny (model pr1 w) A (compareOp .In (.int k t) (.ref 129)) Q E s :=
  wpAny_inSet_of (intKind_is _ _ _ _) rfl (set129 X) h
theorem hashInt_id {i : Int} (h0 : 0 ≤ i) (h1 : i < 2 ^ 60) : hashInt i = i := by
  have e : rawHash i = i := by
    unfold rawHash
    have e1 : ((i.natAbs % (2 ^ 61 - 1) : Nat) : Int) = i := by
      rw [Nat.mod_eq_of_lt (by omega)]; omega
    have e2 : ((↑(i.natAbs) : Int) % ((2 ^ 61 - 1 : Nat) : Int)) = i := by rw [← Int.natCast_emod]; exact e1
    rw [e2]
    have t3 : (i == -1) = false := by simp; omega
    have : ¬ i < 0 := by omega
    dsimp only
    rw [if_neg this, t3]; rfl
  unfold hashInt
  rw [e]
  have t3 : (i == -1) = false := by simp; omega
  rw [t3]; rfl
noncomputable def b3D : List (PyData × PyData) := b3pairs.map fun x => (.int x.1, .str x.2)
theorem ents_pairs {w : World} {gap : Nat} : ∀ (l : List (Int × Str)) (t : Nat), (∀ x ∈ l, 0 ≤ x.1 ∧ x.1 < 2 ^ 60) → ∃ kvs, (∀ e ∈ entsBy gap t l, ∃ k, (intKind pr1 w).is k e.key = true ∧ e.hash = (intKind pr1 w).hash k) ∧ Pairs (intKind pr1 w) (entsBy gap t l) kvs ∧ kvs.map (·.1) = l.map (·.1) ∧
    PyProof.V.FlatPairs PyData.int kvs (l.map fun x => (.int x.1, .str x.2))
  | [], t, _ => ⟨[], fun _ h => (nomatch h), .nil, rfl, .nil⟩
  | (i, x) :: l, t, hr => by
    obtain ⟨kvs, h1, h2, h3, h4⟩ := ents_pairs (w := w) (gap := gap) l (t + gap) fun y hy => hr y (.tail _ hy)
    have h0 := hr (i, x) (.head _)
    refine ⟨(i, .str x (t + 1)) :: kvs, fun e he => ?_, .cons (intKind_is _ _ _ _) rfl h2, by simp [h3], .cons (PyProof.V.Flat.str _ _) h4⟩
    rcases List.mem_cons.mp he with rfl | he
    · exact ⟨i, intKind_is _ _ _ _, (hashInt_id h0.1 h0.2).symm⟩
    · exact h1 e he
theorem pairs_app {w : World} : ∀ {es es' : List DictEntry} {kvs kvs' : List (Int × Value)}, Pairs (intKind pr1 w) es kvs → Pairs (intKind pr1 w) es' kvs' → Pairs (intKind pr1 w) (es ++ es') (kvs ++ kvs')
  | _, _, _, _, .nil, h => h
  | _, _, _, _, .cons a b c, h => .cons a b (pairs_app c h)
theorem flats_app : ∀ {kvs kvs' : List (Int × Value)} {D D' : List (PyData × PyData)}, PyProof.V.FlatPairs PyData.int kvs D → PyProof.V.FlatPairs PyData.int kvs' D' → PyProof.V.FlatPairs PyData.int (kvs ++ kvs') (D ++ D')
  | _, _, _, _, .nil, h => h
  | _, _, _, _, .cons a b, h => .cons a (flats_app b h)
theorem tab140 {w : World} {h : Heap} (X : (KK w.params).In h) : IntTab pr1 w h 140 b3D := by
  have ho : h.get? 140 = some (dictObj b3ents 650) := X _ _ rfl
  have ok := b3_ok
  obtain ⟨k1, a1, a2, a3, a4⟩ := ents_pairs (w := w) (gap := 3) (b3pairs.take 646) 457 fun x hx => ok.1 x (List.mem_of_mem_take hx)
  obtain ⟨k2, c1, c2, c3, c4⟩ := ents_pairs (w := w) (gap := 2) (b3pairs.drop 646) 2395 fun x hx => ok.1 x (List.mem_of_mem_drop hx)
  refine ⟨by decide, k1 ++ k2, ⟨_, _, _, ho, ⟨rfl, rfl, rfl⟩, rfl, fun e he => ?_, pairs_app a2 c2, ?_⟩, ?_⟩
  · have he' : e ∈ entsBy 3 457 (b3pairs.take 646) ++ entsBy 2 2395 (b3pairs.drop 646) := by simpa [b3ents] using he
    rcases List.mem_append.mp he' with he | he
    · exact a1 e he
    · exact c1 e he
  · rw [List.map_append, a3, c3, ← List.map_append, List.take_append_drop]
    exact ok.2
  · have := flats_app a4 c4
    rw [← List.map_append, List.take_append_drop] at this
    exact this
theorem b3_vals (c : Int) : (PySem.Spec.lookup (.int c) b3D).getD .none = .none ∨ ∃ x, (PySem.Spec.lookup (.int c) b3D).getD .none = .str x := by
  have : ∀ l : List (Int × Str), (PySem.Spec.lookup (.int c) (l.map fun x => (PyData.int x.1, PyData.str x.2))).getD .none = .none ∨ ∃ x, (PySem.Spec.lookup (.int c) (l.map fun x => (PyData.int x.1, PyData.str x.2))).getD .none = .str x := by
    intro l
    induction l with
    | nil => exact .inl rfl
    | cons a l ih =>
      simp only [List.map_cons, PySem.Spec.lookup]
      split
      · exact .inr ⟨_, rfl⟩
      · exact ih
  exact this _
theorem meth140 {w : World} {A : Around} {s : Shared} {pl : Sem Bool} {Q : Value × List Value → Shared → Prop} {E : Value → Shared → Prop} (X : (KK w.params).In s.heap) (h : Q (.builtin "dict.get", [.ref 140]) s) :
    wpAny (model pr1 w) A (getMethod (.ref 140) (Str.ofString "get") pl) Q E s := getMethod_tab PySem.F.slot_dict_get PySem.F.type_dict_get (tab140 X) h
theorem get140 {w : World} {A : Around} {s : Shared} {k : Int} {t : Tok} {Q : Value → Shared → Prop} {E : Value → Shared → Prop} (X : (KK w.params).In s.heap)
    (h0 : (PySem.Spec.lookup (.int k) b3D).getD .none = .none → Q .none { s with toks := s.toks + 1 }) (h1 : ∀ x u, (PySem.Spec.lookup (.int k) b3D).getD .none = .str x → Q (.str x u) { s with toks := s.toks + 1 }) :
    wpAny (model pr1 w) A (call (.builtin "dict.get") [.ref 140, .int k t]) Q E s := by
  refine call_get1_intTab (tab140 X) fun v hv => ?_
  rcases b3_vals k with e | ⟨x, e⟩
  · rw [e] at hv
    have : v = .none := by cases hv {} with | none => rfl
    rw [this]; exact h0 e
  · rw [e] at hv
    obtain ⟨u, rfl⟩ := PyProof.V.Flat.str_inv hv
    exact h1 x u e
noncomputable def b3map (c : Nat) : Str := match (PySem.Spec.lookup (.int (c : Int)) b3D).getD .none with
  | .str x => x
  | _ => Txt.lower ⟨#[c]⟩
set_option maxHeartbeats 4000000 in
theorem b1_claim (w : World) (mean : ExcName → Option Value) (mg mb : Str → Option Value) (news : List (Addr × Obj)) (c : Nat) (t1 : Tok) :
    CbClaim PySem.Challenge.rw_wc0029_01.row.prog w (KK w.params) qq (looseW qq looseQ) mean mg mb 139 news [] True [.str ⟨#[c]⟩ t1] (fun t => .bool (b1keys.contains (c : Int))) := by
  k_fill
  dsimp only [CbClaim, CbLists, CbRet]; intros; rename_i hret
  refine wpAny_call ?_
  k_dflt cell_enter
  k_steps
  refine in_b1 (by k_in) ?_
  k_steps
  all_goals cb_end hret
set_option maxHeartbeats 4000000 in
theorem b3_claim (w : World) (mean : ExcName → Option Value) (mg mb : Str → Option Value) (news : List (Addr × Obj)) (c : Nat) (t1 : Tok) :
    CbClaim PySem.Challenge.rw_wc0029_01.row.prog w (KK w.params) qq (looseW qq looseQ) mean mg mb 185 news [] (c < 70000) [.str ⟨#[c]⟩ t1] (fun t => .str (b3map c) t) := by
  k_fill
  dsimp only [CbClaim, CbLists, CbRet]; intros; rename_i hret
  refine wpAny_call ?_
  k_dflt cell_enter
  k_steps
  refine meth140 (by k_in) ?_
  k_steps
  refine get140 (by k_in) (fun e => ?_) (fun x u e => ?_)
  · k_steps
    dsimp only
    have e' : b3map c = Txt.lower ⟨#[c]⟩ := by unfold b3map; rw [e]
    refine SCL.lower (by show (1:Nat) ≤ 5592405; decide) fun _ => ?_
    rw [← e']
    k_steps
    cb_end hret
  · k_steps
    have e' : b3map c = x := by unfold b3map; rw [e]
    subst e'
    cb_end hret
end Mine
end
section
open PySem PySem.W PyProof.Rows PySem.Spec
set_option Elab.async false
set_option maxRecDepth 1000000
set_option linter.unusedVariables false
namespace Mine
noncomputable def Hold (P : Prop) : Prop := P
theorem hold {P : Prop} (h : Hold P) : P := h
theorem unhold {P : Prop} (h : P) : Hold P := h
/-- A call's contract, with room for ten frames more. -/
noncomputable abbrev LClaim (prog : Program) (w : World) (K : Frag) (p : Program) (loose : List Str) (mean : ExcName → Option Value) (mg mb : Str → Option Value) (f : Addr) (news : List (Addr × Obj)) (pre : Prop) (vs : List Value) (R : Tok → Value) : Prop :=
  ∀ (dp un : Nat) (gd : Option (List Code)) (cn : Str) (cs : Scope) (a : Addr) (ccd : Value) (cl : List (Str × Addr)) (outer : List Env) (A₀ : Around) (base h₀ : Heap) (L : Addr) (m : Str → Option Value) (s : Shared) (Q E : Value → Shared → Prop),
    Below A₀ base outer h₀ → Fr h₀ L s.heap m → K.In h₀ → News h₀ L s.heap news → Top p loose mean mg mb h₀ → cs.kind = .function →
    pre → dp + 10 < recursionLimit → un + 60 < cLine → CbRet h₀ L m news s Q R →
      wpAny (model prog w) (ktrTop dp un gd cn cs L a ccd cl outer) (call (.ref f) vs) Q E s
section
variable {prog : Program} {w : World} {A : Around} {E : Value → Shared → Prop} {s : Shared} {h₀ : Heap} {L : Addr} {m : Str → Option Value} {env : Env}
/-- A list comprehension's turns by an invariant over the turn's number, the values made and the ledger. -/
theorem restU_inv {elt : Expr} {x : Str} {scope : Scope} {cl : List (Str × Addr)} {S : List (Addr × Obj) → Prop} {P : Nat → Value → Prop} {Fin : List Value → List (Addr × Obj) → Prop} {n : Nat} {news : List (Addr × Obj)}
    (Inv : Nat → List Value → List (Addr × Obj) → Prop) (h0 : Inv 0 [] news)
    (turn : ∀ i ys news v I oI C oC D m₂ h tk (E' : Value → Shared → Prop), i < n → Inv i ys news → P i v → LCg.NsObj oC m₂ → m₂ x = some v → Fr h₀ L h m → News h₀ L h ((I, oI) :: (C, oC) :: (D, LCg.lst ys) :: news) → LCg.Off3 I C D news → ((@Ne Nat I C) ∧ (@Ne Nat I D) ∧ (@Ne Nat C D)) →
      wpAny (model prog w) A (eval elt (compEnvC scope cl C env)) (LCg.CompEnd h₀ L m { s with heap := h, toks := tk } I oI C oC D (LCg.lst ys) S (fun y news' => Inv (i + 1) (ys ++ [y]) news')) E' { s with heap := h, toks := tk })
    (fin : ∀ ys news, Inv n ys news → Fin ys news) : LCg.CompRest prog w A h₀ L m env elt x scope cl s S P Fin n 0 [] news := by
  have key : ∀ (j i : Nat) (ys : List Value) (news : List (Addr × Obj)), i + j = n → Inv i ys news → LCg.CompRest prog w A h₀ L m env elt x scope cl s S P Fin j i ys news := by
    intro j
    induction j with
    | zero => intro i ys news hi hy; exact .zero (fin _ _ (by simpa using (show i = n by omega) ▸ hy))
    | succ j ih =>
      intro i ys news hi hy
      refine .succ ?_
      intro v I oI C oC D m₂ h tk E' hv hC hx F N off ne
      refine wpAny_mono (turn i ys news v I oI C oC D m₂ h tk E' (by omega) hy hv hC hx F N off ne) (fun y s₂ hq => ?_) fun _ _ e => e
      obtain ⟨h', tk', nw, e, F', N', off', hS, r⟩ := hq
      exact ⟨h', tk', nw, e, F', N', off', hS, ih (i + 1) _ _ (by omega) r⟩
  exact key n 0 [] news (by omega) h0
theorem restT_inv {ct elt : Expr} {x : Str} {scope : Scope} {cl : List (Str × Addr)} {S : List (Addr × Obj) → Prop} {P : Nat → Value → Prop} {Fin : List Value → List (Addr × Obj) → Prop} {n : Nat} {news : List (Addr × Obj)}
    (Inv : Nat → List Value → List (Addr × Obj) → Prop) (h0 : Inv 0 [] news)
    (turn : ∀ i ys news v I oI C oC D m₂ h tk (E' : Value → Shared → Prop), i < n → Inv i ys news → P i v → LCg.NsObj oC m₂ → m₂ x = some v → Fr h₀ L h m → News h₀ L h ((I, oI) :: (C, oC) :: (D, LCg.lst ys) :: news) → LCg.Off3 I C D news → ((@Ne Nat I C) ∧ (@Ne Nat I D) ∧ (@Ne Nat C D)) →
      wpAny (model prog w) A (isTrue ct (compEnvC scope cl C env) (eval ct (compEnvC scope cl C env))) (fun ok s' => if ok = true then
        wpAny (model prog w) A (eval elt (compEnvC scope cl C env)) (LCg.CompEnd h₀ L m { s with heap := h, toks := tk } I oI C oC D (LCg.lst ys) S (fun y news' => Inv (i + 1) (ys ++ [y]) news')) E' s'
        else LCg.CompEnd h₀ L m { s with heap := h, toks := tk } I oI C oC D (LCg.lst ys) S (fun _ news' => Inv (i + 1) ys news') Value.none s') E' { s with heap := h, toks := tk })
    (fin : ∀ ys news, Inv n ys news → Fin ys news) : LCt.CompRestT prog w A h₀ L m env ct elt x scope cl s S P Fin n 0 [] news := by
  have key : ∀ (j i : Nat) (ys : List Value) (news : List (Addr × Obj)), i + j = n → Inv i ys news → LCt.CompRestT prog w A h₀ L m env ct elt x scope cl s S P Fin j i ys news := by
    intro j
    induction j with
    | zero => intro i ys news hi hy; exact .zero (fin _ _ (by simpa using (show i = n by omega) ▸ hy))
    | succ j ih =>
      intro i ys news hi hy
      refine .succ ?_
      intro v I oI C oC D m₂ h tk E' hv hC hx F N off ne
      refine wpAny_mono (turn i ys news v I oI C oC D m₂ h tk E' (by omega) hy hv hC hx F N off ne) (fun ok s₂ hq => ?_) fun _ _ e => e
      cases ok with
      | true =>
        simp only [if_true] at hq ⊢
        refine wpAny_mono hq (fun y s₃ hq => ?_) fun _ _ e => e
        obtain ⟨h', tk', nw, e, F', N', off', hS, r⟩ := hq
        exact ⟨h', tk', nw, e, F', N', off', hS, ih (i + 1) _ _ (by omega) r⟩
      | false =>
        simp only [Bool.false_eq_true, if_false] at hq ⊢
        obtain ⟨h', tk', nw, e, F', N', off', hS, r⟩ := hq
        exact ⟨h', tk', nw, e, F', N', off', hS, ih (i + 1) _ _ (by omega) r⟩
  exact key n 0 [] news (by omega) h0
theorem restP_inv {elt : Expr} {x x₂ : Str} {scope : Scope} {cl : List (Str × Addr)} {S : List (Addr × Obj) → Prop} {P : Nat → Value → Prop} {Fin : List Value → List (Addr × Obj) → Prop} {n : Nat} {news : List (Addr × Obj)}
    (Inv : Nat → List Value → List (Addr × Obj) → Prop) (h0 : Inv 0 [] news)
    (turn : ∀ i ys news v, i < n → Inv i ys news → P i v → ∃ (t : Addr) (ot : Obj) (v₁ v₂ : Value) (nt : Nat), v = .ref t ∧ (t, ot) ∈ news ∧ ot.cls = .type "tuple" ∧ ot.data = .seq #[v₁, v₂] nt ∧
      ∀ I oI C oC D m₂ h tk (E' : Value → Shared → Prop), LCg.NsObj oC m₂ → m₂ x = some v₁ → m₂ x₂ = some v₂ → Fr h₀ L h m → News h₀ L h ((I, oI) :: (C, oC) :: (D, LCg.lst ys) :: news) → LCg.Off3 I C D news → ((@Ne Nat I C) ∧ (@Ne Nat I D) ∧ (@Ne Nat C D)) →
      wpAny (model prog w) A (eval elt (compEnvC scope cl C env)) (LCg.CompEnd h₀ L m { s with heap := h, toks := tk } I oI C oC D (LCg.lst ys) S (fun y news' => Inv (i + 1) (ys ++ [y]) news')) E' { s with heap := h, toks := tk })
    (fin : ∀ ys news, Inv n ys news → Fin ys news) : LCp.CompRestP prog w A h₀ L m env elt x x₂ scope cl s S P Fin n 0 [] news := by
  have key : ∀ (j i : Nat) (ys : List Value) (news : List (Addr × Obj)), i + j = n → Inv i ys news → LCp.CompRestP prog w A h₀ L m env elt x x₂ scope cl s S P Fin j i ys news := by
    intro j
    induction j with
    | zero => intro i ys news hi hy; exact .zero (fin _ _ (by simpa using (show i = n by omega) ▸ hy))
    | succ j ih =>
      intro i ys news hi hy
      refine .succ ?_
      intro v hv
      obtain ⟨t, ot, v₁, v₂, nt, e, hm, hc, hd, r⟩ := turn i ys news v (by omega) hy hv
      refine ⟨t, ot, v₁, v₂, nt, e, hm, hc, hd, ?_⟩
      intro I oI C oC D m₂ h tk E' hC hx hx₂ F N off ne
      refine wpAny_mono (r I oI C oC D m₂ h tk E' hC hx hx₂ F N off ne) (fun y s₂ hq => ?_) fun _ _ e => e
      obtain ⟨h', tk', nw, e, F', N', off', hS, r⟩ := hq
      exact ⟨h', tk', nw, e, F', N', off', hS, ih (i + 1) _ _ (by omega) r⟩
  exact key n 0 [] news (by omega) h0

theorem restU_same {elt : Expr} {x : Str} {scope : Scope} {cl : List (Str × Addr)} {S : List (Addr × Obj) → Prop} {P : Nat → Value → Prop} {Fin : List Value → List (Addr × Obj) → Prop} {n : Nat} {news : List (Addr × Obj)}
    (Inv : Nat → List Value → Prop) (h0 : Inv 0 [])
    (turn : ∀ i ys v I oI C oC D m₂ h tk (E' : Value → Shared → Prop), i < n → Inv i ys → P i v → LCg.NsObj oC m₂ → m₂ x = some v → Fr h₀ L h m → News h₀ L h ((I, oI) :: (C, oC) :: (D, LCg.lst ys) :: news) → LCg.Off3 I C D news → ((@Ne Nat I C) ∧ (@Ne Nat I D) ∧ (@Ne Nat C D)) →
      wpAny (model prog w) A (eval elt (compEnvC scope cl C env)) (LCg.CompEnd h₀ L m { s with heap := h, toks := tk } I oI C oC D (LCg.lst ys) S (fun y news' => news' = news ∧ Inv (i + 1) (ys ++ [y]))) E' { s with heap := h, toks := tk })
    (fin : ∀ ys, Inv n ys → Fin ys news) : LCg.CompRest prog w A h₀ L m env elt x scope cl s S P Fin n 0 [] news :=
  restU_inv (fun i ys nw => nw = news ∧ Inv i ys) ⟨rfl, h0⟩ (by rintro i ys _ v I oI C oC D m₂ h tk E' hi ⟨rfl, hy⟩; exact turn i ys v I oI C oC D m₂ h tk E' hi hy) (by rintro ys _ ⟨rfl, hy⟩; exact fin ys hy)
theorem restT_same {ct elt : Expr} {x : Str} {scope : Scope} {cl : List (Str × Addr)} {S : List (Addr × Obj) → Prop} {P : Nat → Value → Prop} {Fin : List Value → List (Addr × Obj) → Prop} {n : Nat} {news : List (Addr × Obj)}
    (Inv : Nat → List Value → Prop) (h0 : Inv 0 [])
    (turn : ∀ i ys v I oI C oC D m₂ h tk (E' : Value → Shared → Prop), i < n → Inv i ys → P i v → LCg.NsObj oC m₂ → m₂ x = some v → Fr h₀ L h m → News h₀ L h ((I, oI) :: (C, oC) :: (D, LCg.lst ys) :: news) → LCg.Off3 I C D news → ((@Ne Nat I C) ∧ (@Ne Nat I D) ∧ (@Ne Nat C D)) →
      wpAny (model prog w) A (isTrue ct (compEnvC scope cl C env) (eval ct (compEnvC scope cl C env))) (fun ok s' => if ok = true then
        wpAny (model prog w) A (eval elt (compEnvC scope cl C env)) (LCg.CompEnd h₀ L m { s with heap := h, toks := tk } I oI C oC D (LCg.lst ys) S (fun y news' => news' = news ∧ Inv (i + 1) (ys ++ [y]))) E' s'
        else LCg.CompEnd h₀ L m { s with heap := h, toks := tk } I oI C oC D (LCg.lst ys) S (fun _ news' => news' = news ∧ Inv (i + 1) ys) Value.none s') E' { s with heap := h, toks := tk })
    (fin : ∀ ys, Inv n ys → Fin ys news) : LCt.CompRestT prog w A h₀ L m env ct elt x scope cl s S P Fin n 0 [] news :=
  restT_inv (fun i ys nw => nw = news ∧ Inv i ys) ⟨rfl, h0⟩ (by rintro i ys _ v I oI C oC D m₂ h tk E' hi ⟨rfl, hy⟩; exact turn i ys v I oI C oC D m₂ h tk E' hi hy) (by rintro ys _ ⟨rfl, hy⟩; exact fin ys hy)
/-- A for-loop's turn comes to its end: own ledger objects (the iterator) apart. -/
noncomputable def TurnEnd (h₀ : Heap) (L : Addr) (own : List (Addr × Obj)) (I : Addr) (J : (Str → Option Value) → List (Addr × Obj) → Prop) (s₁ s₂ : Shared) : Prop :=
  ∃ h' tk m' news', s₂ = { s₁ with heap := h', toks := tk } ∧ Fr h₀ L h' m' ∧ News h₀ L h' (own ++ news') ∧ (∀ p ∈ news', p.1 ≠ I) ∧ J m' news'
noncomputable def TurnPost (h₀ : Heap) (L : Addr) (own : List (Addr × Obj)) (I : Addr) (J : (Str → Option Value) → List (Addr × Obj) → Prop) (s₁ : Shared) (Q : Flow → Shared → Prop) (f : Flow) (s₂ : Shared) : Prop :=
  match f with
  | .ret v => Q (.ret v) s₂
  | .brk => Q .next s₂
  | _ => TurnEnd h₀ L own I J s₁ s₂
theorem TurnEnd.intro {h₀ h' : Heap} {L I : Addr} {own news all : List (Addr × Obj)} {J : (Str → Option Value) → List (Addr × Obj) → Prop} {s₁ : Shared} {tk : Nat} {m' : Str → Option Value} (F : Fr h₀ L h' m') (N : News h₀ L h' all) (hs : ∀ p ∈ own ++ news, p ∈ all) (ho : ∀ p ∈ news, p.1 ≠ I) (hJ : J m' news) :
    TurnEnd h₀ L own I J s₁ { s₁ with heap := h', toks := tk } := ⟨h', tk, m', news, rfl, F, fun p hp => N p (hs p hp), ho, hJ⟩
theorem stepV_of {h₀ : Heap} {L I : Addr} {own own' : List (Addr × Obj)} {J : (Str → Option Value) → List (Addr × Obj) → Prop} {s₁ : Shared} {Q : Flow → Shared → Prop} (hsub : ∀ p ∈ own, p ∈ own') {f : Flow} {s₂ : Shared} (h : TurnPost h₀ L own' I J s₁ Q f s₂) :
    LoopStepV h₀ L [I] own J s₁ (fun v s' => Q (.ret v) s') (fun s' => Q .next s') f s₂ := by
  have fin : TurnEnd h₀ L own' I J s₁ s₂ → LoopStepU h₀ L [I] own J s₁ .next s₂ := by
    rintro ⟨h', tk, m', news', e, F', N', ho, hJ⟩
    exact ⟨rfl, h', tk, m', news', e, F', fun p hp => N' p ((List.mem_append.mp hp).elim (fun h => List.mem_append_left _ (hsub p h)) (fun h => List.mem_append_right _ h)), fun p hp hq => ho p hp (List.mem_singleton.mp hq), hJ⟩
  cases f with
  | ret v => exact .ret h
  | brk => exact .brk h
  | next => exact .next (fin h)
  | cont => exact .cont (fin h)
/-- `for x in range(a, a + n)`. -/
theorem iter_range_inv {x : Str} {body : List Stmt} {Q : Flow → Shared → Prop} {r : Addr} {a b : Int} {t u v : Tok} {n : Nat} {m₀ : Str → Option Value} {news : List (Addr × Obj)} (J : Nat → (Str → Option Value) → List (Addr × Obj) → Prop)
    (hh : A.handled = none) (F : Fr h₀ env.locals s.heap m₀) (N : News h₀ env.locals s.heap news) (hr : IsRange s.heap r a b 1 t u v) (hsm : Builtin.Range.small a b 1 = true) (hn : Builtin.Range.rangeSize a b 1 = ((n : Nat) : Int)) (hj : J 0 m₀ news)
    (turn : ∀ i t m₁ news₁ h tk I oI, i < n → J i m₁ news₁ → Fr h₀ env.locals h (fun y => if y = x then some (.int (a + (i : Int)) t) else m₁ y) → News h₀ env.locals h ((I, oI) :: news₁) → (∀ p ∈ news₁, p.1 ≠ I) →
      wpAny (model prog w) A (execs body env) (TurnPost h₀ env.locals [(I, oI)] I (J (i + 1)) { s with heap := h, toks := tk } Q) E { s with heap := h, toks := tk })
    (done : ∀ m₁ news₁ h tk, J n m₁ news₁ → Fr h₀ env.locals h m₁ → News h₀ env.locals h news₁ → Q .next { s with heap := h, toks := tk }) :
    wpAny (model prog w) A (pyIter (.ref r)) (fun it s₂ => LoopAtV prog w A h₀ env x body Q E it s₂) E s := by
  refine wpAny_pyIter_range hr hsm ?_
  have W := LCg.range_walks (prog := prog) (w := w) (I := s.heap.objs.size) hh a n
  refine ⟨_, _, _, n, _, _, m₀, news, J, rfl, W, ?_, ?_, ?_, by show IsRangeIter _ _ _ _ _; rw [hn]; simpa using Heap.get?_push_size _ rfl, F.keeps fun _ _ e => Heap.get?_push_of_some _ e, N.grown fun _ _ e => Heap.get?_push_of_some _ e, hj, ?_, ?_⟩
  · intro hm
    exact absurd F.ns.lt ((List.mem_singleton.mp hm) ▸ Nat.lt_irrefl _)
  · intro b hb
    rw [List.mem_singleton.mp hb]
    exact next_is_new F
  · intro p hp hI
    exact absurd (Heap.lt_size (N p hp).1) ((List.mem_singleton.mp hI) ▸ Nat.lt_irrefl _)
  · rintro i v m₁ news₁ s₁ own ⟨hh', tk', rfl⟩ hin ⟨t, rfl⟩ hJ hoff hsub hown hall hst F₁ N₁
    obtain ⟨oI, hI⟩ : ∃ o, hh'.get? s.heap.objs.size = some o := ⟨_, hst⟩
    have hmem := hall _ (List.mem_singleton.mpr rfl) (next_is_new F) _ hI
    refine wpAny_mono (turn i t m₁ news₁ hh' tk' s.heap.objs.size oI hin hJ F₁ (fun p hp => N₁ p ?_) (fun p hp e => hoff p hp (List.mem_singleton.mpr e))) (fun f s₂ p => stepV_of (own' := [(s.heap.objs.size, oI)]) (fun p hp => ?_) p) fun _ _ e => e
    · rcases List.mem_cons.mp hp with rfl | hp
      · exact List.mem_append_left _ hmem
      · exact List.mem_append_right _ hp
    · have h1 := List.mem_singleton.mp (hsub p hp)
      have h2 := hown p hp
      rw [h1] at h2
      have h3 : p.2 = oI := Option.some.inj (h2.symm.trans hI)
      exact List.mem_singleton.mpr (Prod.ext h1 h3)
  · rintro h' tk m' news' F' N' _ hJ
    exact done m' news' h' tk hJ F' N'
/-- `for x in xs`, xs a list of the ledger. -/
theorem iter_list_inv {x : Str} {body : List Stmt} {Q : Flow → Shared → Prop} {ax : Addr} {its : List Value} {m₀ : Str → Option Value} {news : List (Addr × Obj)} (J : Nat → (Str → Option Value) → List (Addr × Obj) → Prop)
    (hh : A.handled = none) (F : Fr h₀ env.locals s.heap m₀) (N : News h₀ env.locals s.heap news) (hm : (ax, LCg.lst its) ∈ news) (hj : J 0 m₀ news)
    (turn : ∀ i v m₁ news₁ h tk I oI oA, its[i]? = some v → J i m₁ news₁ → Fr h₀ env.locals h (fun y => if y = x then some v else m₁ y) → News h₀ env.locals h ((I, oI) :: (ax, oA) :: news₁) → (∀ p ∈ news₁, p.1 ≠ I) → ax ≠ I →
      wpAny (model prog w) A (execs body env) (TurnPost h₀ env.locals [(I, oI), (ax, oA)] I (J (i + 1)) { s with heap := h, toks := tk } Q) E { s with heap := h, toks := tk })
    (done : ∀ m₁ news₁ h tk, J its.length m₁ news₁ → Fr h₀ env.locals h m₁ → News h₀ env.locals h news₁ → Q .next { s with heap := h, toks := tk }) :
    wpAny (model prog w) A (pyIter (.ref ax)) (fun it s₂ => LoopAtV prog w A h₀ env x body Q E it s₂) E s := by
  have hax := (N _ hm).1
  have hls : s.heap.IsList ax its.toArray := ⟨_, hax, rfl, _, rfl⟩
  have hne : ax ≠ s.heap.objs.size := Nat.ne_of_lt (Heap.lt_size hax)
  refine wpAny_pyIter_list hls ?_
  have W := Walks.list (prog := prog) (w := w) hh s.heap.objs.size ax hne its.toArray
  have hlen : its.toArray.size = its.length := by simp
  rw [hlen] at W
  refine ⟨_, _, _, its.length, _, _, m₀, news, J, rfl, W, ?_, ?_, ?_, ⟨⟨_, Heap.get?_push_size _ rfl, rfl, rfl⟩, hls.at fun o e => Heap.get?_push_of_some _ e⟩, F.keeps fun _ _ e => Heap.get?_push_of_some _ e, N.grown fun _ _ e => Heap.get?_push_of_some _ e, hj, ?_, ?_⟩
  · intro hm'
    rcases List.mem_cons.mp hm' with e | hm'
    · exact absurd F.ns.lt (e ▸ Nat.lt_irrefl _)
    · exact (N _ hm).2.1 (List.mem_singleton.mp hm').symm
  · intro b hb
    rw [List.mem_singleton.mp hb]
    exact next_is_new F
  · intro p hp hI
    exact absurd (Heap.lt_size (N p hp).1) ((List.mem_singleton.mp hI) ▸ Nat.lt_irrefl _)
  · rintro i v m₁ news₁ s₁ own ⟨hh', tk', rfl⟩ hin hP hJ hoff hsub hown hall hst F₁ N₁
    obtain ⟨oI, hI, _⟩ := id hst.1
    obtain ⟨oA, hA, _⟩ := id hst.2
    have hmem := hall _ (List.mem_cons_self) (next_is_new F) _ hI
    have hmem' := hall _ (List.mem_cons_of_mem _ List.mem_cons_self) (N _ hm).2.2 _ hA
    refine wpAny_mono (turn i v m₁ news₁ hh' tk' s.heap.objs.size oI oA (by simpa using hP) hJ F₁ (fun p hp => N₁ p ?_) (fun p hp e => hoff p hp (List.mem_singleton.mpr e)) hne) (fun f s₂ p => stepV_of (own' := [(s.heap.objs.size, oI), (ax, oA)]) (fun p hp => ?_) p) fun _ _ e => e
    · rcases List.mem_cons.mp hp with rfl | hp
      · exact List.mem_append_left _ hmem
      · rcases List.mem_cons.mp hp with rfl | hp
        · exact List.mem_append_left _ hmem'
        · exact List.mem_append_right _ hp
    · have h2 := hown p hp
      rcases List.mem_cons.mp (hsub p hp) with h1 | h1
      · rw [h1] at h2
        have h3 : p.2 = oI := Option.some.inj (h2.symm.trans hI)
        exact List.mem_cons.mpr (.inl (Prod.ext h1 h3))
      · have h1 := List.mem_singleton.mp h1
        rw [h1] at h2
        have h3 : p.2 = oA := Option.some.inj (h2.symm.trans hA)
        exact List.mem_cons_of_mem _ (List.mem_singleton.mpr (Prod.ext h1 h3))
  · rintro h' tk m' news' F' N' _ hJ
    exact done m' news' h' tk hJ F' N'
end
end Mine
end
section
open PySem PySem.W PyProof.Rows PySem.Spec PySem.Calls
set_option Elab.async false
set_option maxRecDepth 1000000
set_option linter.unusedVariables false
set_option maxHeartbeats 4000000
namespace Mine
section
variable {prog : Program} {w : World} {A : Around} {E : Value → Shared → Prop} {s : Shared} {h₀ : Heap} {env : Env}
theorem codeAny_forLoopP {R : Result → Shared → Prop} {target : Expr} {it : Value} {body orelse : List Stmt} {env : Env} (I : Nat → Shared → Prop)
    (turn : ∀ n s, I n s → wpAny (model prog w) A (pyNext it) (fun r s₁ => match r with
      | none => wpAny (model prog w) A (execs orelse env) (fun f s₃ => R (.ok f) s₃) (notedBy (model prog w) A env fun e s' => R (.error e) s') s₁
      | some v => wpAny (model prog w) A (letOwnedTupleGo target it v) (fun _ s₁' => wpAny (model prog w) A (assign target env v) (fun _ s₂ => wpAny (model prog w) A (execs body env) (fun f s₃ => match f with
          | .next | .cont => ∃ m, m < n ∧ I m s₃
          | .brk => R (.ok .next) s₃
          | .ret v => R (.ok (.ret v)) s₃) (notedBy (model prog w) A env fun e s' => R (.error e) s') s₂) (notedBy (model prog w) A env fun e s' => R (.error e) s') s₁') (notedBy (model prog w) A env fun e s' => R (.error e) s') s₁) (notedBy (model prog w) A env fun e s' => R (.error e) s') s)
    (n : Nat) (h : I n s) : codeAny (model prog w) A (.forLoop target it body orelse env) R s := by
  refine codeAny_loop' rfl I (fun n s hI => ?_) n h
  show wpAny _ _ ((forTurn target it body orelse env).onRaise (fun x => do noteFrame x env; theTreesLotGoes x)) _ _ s
  refine wpAny_noted ?_
  simp only [forTurn]
  refine wpAny_bind (wpAny_standAt (wpAny_bind (wpAny_onRaise (wpAny_mono (turn n s hI) (fun r s₁ h₁ => ?_) fun _ _ h' => wpAny_standAt h'))))
  cases r with
  | none => exact wpAny_pure (.inr ⟨rfl, codeAny_block h₁⟩)
  | some v =>
    refine wpAny_bind (wpAny_mono h₁ (fun _ s₁' h₁' => ?_) fun _ _ h' => h')
    refine wpAny_bind (wpAny_mono h₁' (fun _ s₂ h₂ => wpAny_bind (wpAny_mono h₂ (fun f s₃ h₃ => ?_) fun _ _ h' => h')) fun _ _ h' => h')
    cases f with
    | next => exact wpAny_pure (.inl ⟨rfl, h₃⟩)
    | cont => exact wpAny_pure (.inl ⟨rfl, h₃⟩)
    | brk => exact wpAny_pure h₃
    | ret v => exact wpAny_pure h₃
/-- `for a, b in xs`, xs a list of the ledger whose items are pairs of the ledger. -/
theorem for_pair_inv {xa xb : Str} {pa pb pt pos : Pos} {tk0 : Nat} {iter : Expr} {body : List Stmt} {Q : Flow → Shared → Prop} {J : Nat → (Str → Option Value) → List (Addr × Obj) → Prop} {m₀ : Str → Option Value} {news : List (Addr × Obj)} {ax : Addr} {its : List Value} {ep : Nat}
    (hka : env.kindOf xa = some .local) (hkb : env.kindOf xb = some .local) (hp : (env.scope.kind == .class || (env.scope.kind == .module && env.locals != env.globals)) = false) (hh : A.handled = none)
    (hj : J 0 m₀ news) (hm : (ax, ({ cls := .type "list", data := .seq its.toArray ep } : Obj)) ∈ news)
    (hit : wpAny (model prog w) A (eval iter env) (fun v s₁ => v = .ref ax ∧ (∃ h tk, s₁ = { s with heap := h, toks := tk }) ∧ Fr h₀ env.locals s₁.heap m₀ ∧ News h₀ env.locals s₁.heap news) E s)
    (turn : ∀ i v m₁ nw I oI, its[i]? = some v → J i m₁ nw → (∀ p ∈ nw, p.1 ≠ I) → ∃ (t : Addr) (ot : Obj) (v₁ v₂ : Value) (nt : Nat), v = .ref t ∧ (t, ot) ∈ nw ∧ ot.cls = .type "tuple" ∧ ot.data = .seq #[v₁, v₂] nt ∧
      ∀ h tk E', Fr h₀ env.locals h (fun y => if y = xb then some v₂ else if y = xa then some v₁ else m₁ y) → News h₀ env.locals h ((I, oI) :: nw) →
      wpAny (model prog w) A (execs body env) (TurnPost h₀ env.locals [(I, oI)] I (J (i + 1)) { s with heap := h, toks := tk } Q) E' { s with heap := h, toks := tk })
    (hJm : ∀ i m₁ nw, J i m₁ nw → (ax, ({ cls := .type "list", data := .seq its.toArray ep } : Obj)) ∈ nw)
    (done : ∀ m₁ nw h tk, J its.length m₁ nw → Fr h₀ env.locals h m₁ → News h₀ env.locals h nw → Q .next { s with heap := h, toks := tk })
    (hs : ∀ x, foldedSetIterable iter env x = pure x := by intro _; rfl) :
    wpAny (model prog w) A (exec (.For (.Tuple [.Name xa pa, .Name xb pb] tk0 pt) iter body [] pos) env) Q E s := by
  refine wpAny_For (wpAny_mono hit (fun xv s₁ h₁ => ?_) fun _ _ e => e) hs
  obtain ⟨rfl, ⟨hh1, tk1, rfl⟩, F, N⟩ := h₁
  have hax := (N _ hm).1
  have hls : hh1.IsList ax its.toArray := ⟨_, hax, rfl, _, rfl⟩
  refine wpAny_pyIter_list hls ?_
  have hne : ax ≠ hh1.objs.size := Nat.ne_of_lt (Heap.lt_size hax)
  have W := Walks.list (prog := prog) (w := w) hh hh1.objs.size ax hne its.toArray
  have hlen : its.toArray.size = its.length := by simp
  rw [hlen] at W
  have hIL : env.locals ≠ hh1.objs.size := Nat.ne_of_lt F.ns.lt
  have hI₀ : h₀.get? hh1.objs.size = none := next_is_new F
  refine codeAny_forLoopP (fun k s' => ∃ h' tk i m₁ nw, s' = { s with heap := h', toks := tk } ∧ i ≤ its.length ∧ k = its.length + 1 - i ∧ (h'.IsListIter hh1.objs.size ax i ∧ h'.IsList ax its.toArray) ∧ Fr h₀ env.locals h' m₁ ∧ News h₀ env.locals h' nw ∧ (∀ p ∈ nw, p.1 ≠ hh1.objs.size) ∧ J i m₁ nw) ?_ (its.length + 1)
    ⟨_, _, 0, m₀, news, rfl, Nat.zero_le _, rfl, ⟨⟨_, Heap.get?_push_size _ rfl, rfl, rfl⟩, hls.at fun o e => Heap.get?_push_of_some _ e⟩, F.keeps fun _ _ e => Heap.get?_push_of_some _ e, N.grown fun _ _ e => Heap.get?_push_of_some _ e, fun p hp => Nat.ne_of_lt (Heap.lt_size (N p hp).1), hj⟩
  rintro k s' ⟨h', tk, i, m₁, nw, rfl, hi, rfl, hst, F', N', off, hJ⟩
  by_cases hlt : i < its.length
  · refine W.item i _ _ _ hlt hst fun v h₂ tk₂ hPv hst₂ hk₂ => ?_
    obtain ⟨oI, hoI, hoI'⟩ := id hst₂.1
    obtain ⟨t, ot, v₁, v₂, nt, rfl, hmt, hct, hdt, body⟩ := turn i v m₁ nw hh1.objs.size oI (by simpa using hPv) hJ off
    have F₂ : Fr h₀ env.locals h₂ m₁ := LCg.fr_but F' hk₂ hIL hI₀
    have N₂ : News h₀ env.locals h₂ nw := LCg.news_but N' hk₂ off
    have ht : IsTup h₂ t #[v₁, v₂] := ⟨ot, (N₂ _ hmt).1, hct, nt, hdt⟩
    refine wpAny_letOwnedTupleGo_listiter hst₂.1 ?_
    refine assign_Tuple_tuple hh ht rfl rfl fun h₅ he => ?_
    have he' : ∀ b o, h₂.get? b = some o → h₅.get? b = some o := fun b o e => he b o (Nat.ne_of_lt (Heap.lt_size e)) e
    have F₅ := F₂.keeps he'
    have N₅ := N₂.grown he'
    refine assignInOrder_cons (wpAny_assign_Name (wpAny_storeName_local hka F₅.ns (fun h₆ hn₆ hs₆ => ?_) hp))
    have F₆ := F₅.set hn₆ hs₆
    have N₆ := N₅.set hs₆
    refine assignInOrder_cons (wpAny_assign_Name (wpAny_storeName_local hkb F₆.ns (fun h₇ hn₇ hs₇ => ?_) hp))
    have F₇ := F₆.set hn₇ hs₇
    have N₇ := N₆.set hs₇
    refine assignInOrder_nil ?_
    have hI7 : h₇.get? hh1.objs.size = some oI := (hs₇.2 _ (Ne.symm hIL)).trans ((hs₆.2 _ (Ne.symm hIL)).trans (he' _ _ hoI))
    have NI : News h₀ env.locals h₇ ((hh1.objs.size, oI) :: nw) := fun p hp => by
      rcases List.mem_cons.mp hp with rfl | hp
      · exact ⟨hI7, Ne.symm hIL, hI₀⟩
      · exact N₇ p hp
    refine wpAny_mono (body h₇ _ _ F₇ NI) (fun f s₃ hf => ?_) fun _ _ e => e
    have fin : TurnEnd h₀ env.locals [(hh1.objs.size, oI)] hh1.objs.size (J (i + 1)) { s with heap := h₇, toks := tk₂ } s₃ → ∃ m, m < its.length + 1 - i ∧ ∃ h' tk i' m₁ nw, s₃ = { s with heap := h', toks := tk } ∧ i' ≤ its.length ∧ m = its.length + 1 - i' ∧ (h'.IsListIter hh1.objs.size ax i' ∧ h'.IsList ax its.toArray) ∧ Fr h₀ env.locals h' m₁ ∧ News h₀ env.locals h' nw ∧ (∀ p ∈ nw, p.1 ≠ hh1.objs.size) ∧ J i' m₁ nw := by
      rintro ⟨h8, tk8, m8, nw8, rfl, F8, N8, off8, J8⟩
      have hx8 := (N8 (hh1.objs.size, oI) (by simp)).1
      have N8' : News h₀ env.locals h8 nw8 := fun p hp => N8 p (List.mem_append_right _ hp)
      refine ⟨its.length + 1 - (i + 1), by omega, h8, tk8, i + 1, m8, nw8, rfl, hlt, rfl, ⟨⟨oI, hx8, hoI'⟩, ⟨_, (N8' _ (hJm _ _ _ J8)).1, rfl, _, rfl⟩⟩, F8, N8', off8, J8⟩
    cases f with
    | next => exact fin hf
    | cont => exact fin hf
    | brk => exact hf
    | ret v => exact hf
  · obtain rfl : i = its.length := Nat.le_antisymm hi (Nat.not_lt.mp hlt)
    refine W.done _ _ _ hst fun h₂ tk₂ hk₂ => ?_
    refine wpAny_execs_nil ?_
    exact done m₁ nw h₂ tk₂ hJ (LCg.fr_but F' hk₂ hIL hI₀) (LCg.news_but N' hk₂ off)
theorem for_pair_nil {xa xb : Str} {pa pb pt pos : Pos} {tk0 : Nat} {iter : Expr} {body : List Stmt} {Q : Flow → Shared → Prop} {m₀ : Str → Option Value} {news : List (Addr × Obj)} {ax : Addr} {ep : Nat}
    (F : Fr h₀ env.locals s.heap m₀) (N : News h₀ env.locals s.heap news) (hka : env.kindOf xa = some .local) (hkb : env.kindOf xb = some .local) (hp : (env.scope.kind == .class || (env.scope.kind == .module && env.locals != env.globals)) = false) (hh : A.handled = none)
    (hm : (ax, ({ cls := .type "list", data := .seq ([] : List Value).toArray ep } : Obj)) ∈ news) (hit : wpAny (model prog w) A (eval iter env) (fun v s₁ => v = .ref ax ∧ s₁ = s) E s)
    (done : ∀ h tk, Fr h₀ env.locals h m₀ → News h₀ env.locals h news → Q .next { s with heap := h, toks := tk })
    (hs : ∀ x, foldedSetIterable iter env x = pure x := by intro _; rfl) :
    wpAny (model prog w) A (exec (.For (.Tuple [.Name xa pa, .Name xb pb] tk0 pt) iter body [] pos) env) Q E s := by
  refine for_pair_inv (h₀ := h₀) (J := fun _ m nw => m = m₀ ∧ nw = news) hka hkb hp hh ⟨rfl, rfl⟩ hm (wpAny_mono hit (fun v s₁ e => ?_) fun _ _ e => e) ?_ ?_ ?_ hs
  · obtain ⟨rfl, rfl⟩ := e
    exact ⟨rfl, ⟨_, _, rfl⟩, F, N⟩
  · intro i v m₁ nw I oI hv; simp at hv
  · rintro i m₁ nw ⟨_, rfl⟩; exact hm
  · rintro m₁ nw h tk ⟨rfl, rfl⟩ F' N'; exact done h tk F' N'
end
end Mine
end
section
open PySem PySem.W PyProof.Rows PySem.Spec PySem.Calls
set_option Elab.async false
set_option maxRecDepth 1000000
set_option linter.unusedVariables false
set_option linter.unusedSimpArgs false
set_option maxHeartbeats 4000000
namespace Mine
noncomputable def makesInL (K : Frag) (C : Addr) : Bool := match K.lookup C with
  | some ⟨_, _, .cls cd, sl⟩ => !cd.abstract && !cd.hasDel && (sl.toList[4]?).join == some (.builtin "list.__new__") && !cd.mro.isEmpty && cd.mro.contains (.ref C) && cd.mro.contains (.type "list") && cd.mro.contains (.type "object") &&
      specialIn K (.ref C) "__call__" == some (some (.builtin "type.__call__")) && instIn K (.ref C) (.type "type") == some true
  | _ => false
structure MakesL (M : Model) (h : Heap) (C : Addr) : Prop where
  obj : ∃ oc od cd sl, h.get? C = some ⟨oc, od, .cls cd, sl⟩ ∧ cd.abstract = false ∧ cd.hasDel = false ∧ cd.mro.isEmpty = false
  made : Looks M h (Bind.madeBy (.ref C)) (some "list.__new__")
  base : Looks M h (Bind.staticBase (.ref C)) (.ref C)
  self : Looks M h (isSubtype (.ref C) (.ref C)) true
  lst : Looks M h (isSubtype (.ref C) (.type "list")) true
  top : Looks M h (isSubtype (.ref C) (.type "object")) true
  call : Looks M h (specialOf (.ref C) "__call__") (some (.builtin "type.__call__"))
  typ : Looks M h (isInstance (.ref C) (.type "type")) true
theorem makesL_of {K : Frag} {M : Model} {h : Heap} (X : K.In h) {C : Addr} (e : makesInL K C = true) : MakesL M h C := by
  unfold makesInL at e
  split at e
  · rename_i oc od cd sl ho
    simp only [Bool.and_eq_true, Bool.not_eq_true', beq_iff_eq] at e
    obtain ⟨⟨⟨⟨⟨⟨⟨⟨e1, e2⟩, e3⟩, e4⟩, e5⟩, e0⟩, e6⟩, e7⟩, e8⟩ := e
    have hc : clsIn K C = some cd := by unfold clsIn; rw [ho]
    have hm : Looks M h (mroOf (.ref C)) cd.mro := (looks_clsIn X hc).andThen .now
    obtain ⟨c, l, hl⟩ : ∃ c l, cd.mro = c :: l := by cases q : cd.mro with | nil => rw [q] at e4; cases e4 | cons c l => exact ⟨c, l, rfl⟩
    have made : Looks M h (Bind.madeBy (.ref C)) (some "list.__new__") := by
      intro A Q E s k q
      unfold Bind.madeBy
      refine wpAny_bind (hm A _ E s k ?_)
      rw [hl, List.forIn_cons]
      refine wpAny_bind (wpAny_bind (wpAny_bind (wpAny_bind (wpAny_loadPart (k _ _ (X _ _ ho)) (wpAny_pure ?_)))))
      dsimp only
      rw [← Array.getElem?_toList, e3]
      exact wpAny_pure (wpAny_pure (wpAny_pure q))
    refine ⟨⟨oc, od, cd, sl, X _ _ ho, e1, e2, e4⟩, made, ?_, looks_mroIn X ?_, looks_mroIn X ?_, looks_mroIn X ?_, looks_specialIn X e7, looks_instIn X e8⟩
    · intro A Q E s k q
      unfold Bind.staticBase
      refine wpAny_bind (hm A _ E s k ?_)
      rw [hl, List.forIn_cons]
      exact wpAny_bind (wpAny_bind (wpAny_bind (made A _ E s k (wpAny_pure (wpAny_pure (wpAny_pure q))))))
    · unfold mroIn; rw [hc, Option.bind_some, if_neg (by rw [e4]; decide), e5]
    · unfold mroIn; rw [hc, Option.bind_some, if_neg (by rw [e4]; decide), e0]
    · unfold mroIn; rw [hc, Option.bind_some, if_neg (by rw [e4]; decide), e6]
  · cases e
noncomputable abbrev pileObj (C dx : Addr) (ys : List Value) : Obj := { cls := .ref C, dict := some dx, data := .seq ys.toArray ys.length }
theorem ln_kind : builtinKind "list.__new__" = some .builtinFn := by decide +kernel
theorem ln_split : splitId "list.__new__" = some ("list", "__new__") := by decide +kernel
theorem ln_args (C : Addr) : Bind.checkArgs "list.__new__" ⟨.any, "list", "list", .cls, [⟨"args", .varPos, false⟩, ⟨"kwargs", .varKw, false⟩]⟩ ⟨[.ref C], []⟩ = pure () := by kernel_rfl
theorem ln_row : Manifest.signature? "list.__new__" = some ⟨.any, "list", "list", .cls, [⟨"args", .varPos, false⟩, ⟨"kwargs", .varKw, false⟩]⟩ := by kernel_rfl
theorem ln_canon : Manifest.canonical "list.__getattribute__" = "object.__getattribute__" := by kernel_rfl
section
variable {prog : Program} {w : World} {A : Around} {E : Value → Shared → Prop} {K : Frag} {C : Addr} {R : Result → Shared → Prop} {h : Heap} {g : Array GenState} {d : Drawn} {t : Nat} {os : OsState}
theorem new_L (Y : MakesL (model prog w) h C)
    (hq : R (.ok (.ret (.ref (h.objs.size + 1)))) ⟨(h.push emptyDict).push (pileObj C h.objs.size []), g, d, t, os⟩) :
    codeAny (model prog w) A (.call (.builtin "list.__new__") ⟨[.ref C], []⟩) R ⟨h, g, d, t, os⟩ := by
  obtain ⟨⟨oc, od, cd, sl, hC, e1, e2, e4⟩, made, base, self, lsub, top, call, typ⟩ := Y
  refine codeAny_call_builtin_code (Code.quiet_builtin _ (by decide +kernel)) ?_
  simp only [checkBuiltinCall, ln_kind, ln_split, ln_row]
  have here : Looks (model prog w) h (Bind.madeHere "list.__new__" (.ref C)) () := base.andThen (made.andThen (Looks.of_pure (by simp only [Option.map_some, bne_self_eq_false, Bool.false_eq_true, if_false])))
  rw [ln_args]
  repeat (first | simp only [bne_self_eq_false, Bool.false_eq_true, if_false] | lk)
  refine codeAny_builtin_stack PySem.F.entry_list_new rfl fun p st => ?_
  have hown := owner_list_new
  simp only [hown]
  repeat (first | simp only [bne_self_eq_false, Bool.false_eq_true, if_false] | lk)
  have hC2 : ((h.push emptyDict).push (pileObj C h.objs.size [])).get? C = some ⟨oc, od, .cls cd, sl⟩ := Heap.get?_push_of_some _ (Heap.get?_push_of_some _ hC)
  refine nd_load hC2 (wpAny_pure ?_)
  show wpAny _ _ (pure cd.hasDel) _ _ _
  rw [e2]
  refine wpAny_pure ?_
  rw [if_neg (by decide)]
  refine wpAny_pure (wpAny_pure ?_)
  show R _ _
  rw [Heap.size_push]
  exact hq
theorem make_coreL {init : Value} (Y : MakesL (model prog w) h C) (hi : Looks (model prog w) h (typeLookup (.ref C) "__init__") (some init))
    (hb : ∀ self, Looks (model prog w) h (bindSpecial init self) (init, [self]))
    (hq : codeAny (model prog w) (A.under (.builtin "type.__call__" ⟨[.ref C], []⟩)) (.call init ⟨[.ref (h.objs.size + 1)], []⟩) (InitBack (h.objs.size + 1) R) ⟨(h.push emptyDict).push (pileObj C h.objs.size []), g, d, t, os⟩) :
    codeAny (model prog w) A (.call (.ref C) ⟨[], []⟩) R ⟨h, g, d, t, os⟩ := by
  have Y' := Y
  obtain ⟨⟨oc, od, cd, sl, hC, e1, e2, e4⟩, made, base, self, lsub, top, call, typ⟩ := Y
  refine codeAny_of_tree ?_
  show wpAny _ _ (callAny (.ref C) _) _ _ _
  refine nd_load hC ?_
  show wpAny _ _ (callAny.viaDunder (.ref C) _) _ _ _
  unfold callAny.viaDunder
  refine wpAny_bind (call.at ?_)
  dsimp only
  rw [tc_bind]
  refine wpAny_bind (wpAny_pure (wpAny_bind (wpAny_pure ?_)))
  refine wpAny_pure (a := Fin.again (.call (.builtin "type.__call__") ⟨.ref C :: [], []⟩)) (And.intro rfl ?_)
  refine codeAny_call_builtin_at (Code.quiet_builtin _ (by decide +kernel)) entry_typeCall (check_slot tc_kind tc_split typ (tc_args _ _ _) ?_)
  unfold Builtin.«type.__call__»
  have hm : Looks (model prog w) h (mroOf (.ref C)) cd.mro := ((Looks.ld (part := none) hC).andThen .now).andThen .now
  repeat (first | simp only [e4, Bool.false_eq_true, if_false] | with_reducible refine wpAny_call ?_ | lk)
  refine new_L Y' ?_
  have k : ∀ b o, h.get? b = some o → ((h.push emptyDict).push (pileObj C h.objs.size [])).get? b = some o := fun b o e => Heap.get?_push_of_some _ (Heap.get?_push_of_some _ e)
  have hx : ((h.push emptyDict).push (pileObj C h.objs.size [])).get? (h.objs.size + 1) = some (pileObj C h.objs.size []) := by heap_get
  have t1 : Looks (model prog w) ((h.push emptyDict).push (pileObj C h.objs.size [])) (typeOf (.ref (h.objs.size + 1))) (.ref C) := (Looks.ld hx).andThen .now
  have s1 := self.keeps k
  have i1 := hi.keeps k
  have b1 := (hb (.ref (h.objs.size + 1))).keeps k
  unfold isInstance callSpecial? specialOf
  repeat (first | with_reducible refine wpAny_call ?_ | lk)
  refine codeAny_mono hq fun r s' z => ?_
  rcases r with e | (v | _ | _ | _) <;> first | exact z | exact z.elim | skip
  obtain ⟨rfl, z⟩ := z
  exact wpAny_pure (wpAny_pure z)
end
section
variable {prog : Program} {w : World} {A : Around} {E : Value → Shared → Prop} {K : Frag} {C x : Addr} {s : Shared} {h₀ : Heap} {L : Addr} {m : Str → Option Value} {news : List (Addr × Obj)} {R : Result → Shared → Prop} {ox : Obj} {od : Option Obj} {name : Str}
theorem make_L {fI : Addr} (F : Fr h₀ L s.heap m) (N : News h₀ L s.heap news) (X : K.In s.heap) (hm : makesInL K C = true)
    (hi : findIn K (.ref C) "__init__" = some (some (.ref fI))) (hf : typeIn K (.ref fI) = some (.type "function"))
    (h : ∀ x dx h', Fr h₀ L h' m → News h₀ L h' ((x, pileObj C dx []) :: (dx, emptyDict) :: news) → (∀ p ∈ news, p.1 < dx) → dx < x →
      codeAny (model prog w) (A.under (.builtin "type.__call__" ⟨[.ref C], []⟩)) (.call (.ref fI) ⟨[.ref x], []⟩) (InitBack x R) { s with heap := h' }) :
    codeAny (model prog w) A (.call (.ref C) ⟨[], []⟩) R s := by
  obtain ⟨hh, g, d, t, os⟩ := s
  refine make_coreL (makesL_of X hm) (looks_findIn X hi) (fun self => bind_fn X self hf) (h _ hh.objs.size _ ((F.push _).push _) ?_ (fun p hp => Heap.lt_size (N p hp).1) (Nat.lt_succ_self _))
  have := (N.push F emptyDict).push (F.push _) (pileObj C hh.objs.size [])
  rwa [Heap.size_push] at this
theorem method_L {pl : Sem Bool} {Q : Value × List Value → Shared → Prop} {f tf : Value} (X : K.In s.heap) (I : W.InstAt s.heap x ox C od) (hga : findIn K (.ref C) "__getattribute__" = some (some (.builtin "list.__getattribute__"))) (hk : findIn K (.ref C) "__getattr__" = some none)
    (hf : findIn K (.ref C) name = some (some f)) (ht : typeIn K f = some tf) (hb : (tf != .type "function" && tf != .type "method_descriptor" && tf != .type "wrapper_descriptor") = false) (hs : shadowIn od name = some false) (h : Q (f, [.ref x]) s) :
    wpAny (model prog w) A (getMethod (.ref x) name pl) Q E s := by
  unfold getMethod specialOf
  refine wpAny_bind (wpAny_bind (I.type.here ((looks_findIn X hga).here ?_)))
  dsimp only
  rw [ln_canon, if_neg (by decide)]
  refine wpAny_bind (wpAny_bind (I.type.here ((looks_findIn X hk).here ?_)))
  refine wpAny_bind (wpAny_bind (I.type.here ((looks_findIn X hf).here (wpAny_bind ((looks_typeIn X ht).here ?_)))))
  rw [if_neg (by rw [hb]; decide)]
  refine wpAny_bind (wpAny_loadPart I.at_ ?_)
  have hd := I.dict
  cases e : ox.dict with
  | none => exact wpAny_bind (wpAny_rule (wpAny_pure h))
  | some dx =>
    cases od with
    | none => rw [e] at hd; exact hd.elim
    | some o =>
      rw [e] at hd
      obtain ⟨r, a, b⟩ := Option.map_eq_some_iff.mp hs
      refine wpAny_bind (wpAny_bind (wpAny_loadPart hd ?_))
      rw [nsLook_of a]
      refine wpAny_pure ?_
      rw [b]
      exact wpAny_bind (wpAny_rule (wpAny_pure h))
end
end Mine
end
section
open PySem PySem.W PyProof.Rows PySem.Spec PySem.Calls
set_option Elab.async false
set_option maxRecDepth 1000000
set_option linter.unusedVariables false
set_option linter.unusedSimpArgs false
set_option maxHeartbeats 4000000
namespace Mine
theorem pass_L (self : Value) (C : Addr) : refuseLoop self "__setattr__" [.ref C, .type "list", .type "object"] = pure () := by
  rw [refuseLoop_ref]; kernel_rfl
noncomputable abbrev pileO (C dx : Addr) (ys : List Value) (n : Nat) : Obj := { cls := .ref C, dict := some dx, data := .seq ys.toArray n }
noncomputable abbrev iniDict (hs : Int) (nm : Str) (tk : Tok) (v : Value) (n : Nat) : Obj := dictOf [⟨hs, .str nm tk, v⟩] n
section
variable {prog : Program} {w : World} {A : Around} {E : Value → Shared → Prop} {K : Frag} {C x dx : Addr} {s : Shared} {h₀ : Heap} {L : Addr} {m : Str → Option Value} {news : List (Addr × Obj)} {R : Result → Shared → Prop} {ox : Obj} {od : Option Obj} {name : Str} {ys : List Value} {n : Nat} {v : Value}
theorem osa_L {cd : ClassData} {tk : Tok} (F : Fr h₀ L s.heap m) (X : K.In s.heap) (N : News h₀ L s.heap ((x, pileO C dx ys n) :: (dx, emptyDict) :: news)) (hne : x ≠ dx) (hnw : ∀ p ∈ news, p.1 ≠ dx)
    (hc : clsIn K C = some cd) (hmro : cd.mro = [.ref C, .type "list", .type "object"]) (hd : cd.hasDict = true) (ht : findIn K (.ref C) name = some none)
    (h : ∀ h', Fr h₀ L h' m → News h₀ L h' ((x, pileO C dx ys n) :: (dx, iniDict (PyData.keyHash w.params name) name s.toks v 1) :: news) → R (.ok (.ret .none)) { s with heap := h', toks := s.toks + 1 }) :
    codeAny (model prog w) A (.call (.builtin "object.__setattr__") ⟨[.ref x, .str name tk, v], []⟩) R s := by
  have I : W.InstAt s.heap x (pileO C dx ys n) C (some emptyDict) := ⟨(N _ (.head _)).1, rfl, rfl, (N _ (.tail _ (.head _))).1⟩
  have SF := PySem.F.store_object
  have hm : Looks (model prog w) s.heap (mroOf (.ref C)) cd.mro := (looks_clsIn X hc).andThen .now
  have sub : Looks (model prog w) s.heap (isInstance (.ref x) (.type "object")) true := I.type.andThen (looks_mroIn X (by unfold mroIn; rw [hc, Option.bind_some, hmro]; rfl))
  refine codeAny_call_builtin SF.slot.plain SF.entry (@check_slot (model prog w) _ _ _ "object.__setattr__" "object" "__setattr__" (.ref x) [.str name tk, v] [] _ SF.kind SF.split sub (SF.args (.ref x) (.str name tk) v) ?_)
  rw [osa_eq, refuse_eq]
  refine wpAny_bind (wpAny_bind (I.type.here (wpAny_bind (hm.here ?_))))
  rw [hmro, pass_L]
  refine wpAny_pure (wpAny_bind (I.type.here (wpAny_bind ((looks_findIn X ht).here (wpAny_bind (wpAny_pure ?_))))))
  have hpre : ∀ p ∈ [(x, pileO C dx ys n)], p.1 ≠ dx := fun p hp => by rw [List.mem_singleton.mp hp]; exact hne
  obtain ⟨U1, U2⟩ := news_upd (d := dx) (o := emptyDict) (o' := iniDict (PyData.keyHash w.params name) name s.toks v 1) (pre := [(x, pileO C dx ys n)]) (f := Obj.putName name (PyData.keyHash w.params name) (.str name s.toks) v) F N hpre hnw (by show Obj.putName name _ _ v (dictOf [] 0) = _; rw [putName_dict]; rfl) rfl
  have D := (N _ (.tail _ (.head _))).1
  have D' := (U2 (dx, iniDict (PyData.keyHash w.params name) name s.toks v 1) (by simp)).1
  have hx := (N _ (.head _)).1
  refine wpAny_bind (wpAny_pure (wpAny_bind (wpAny_bind (wpAny_loadPart hx (wpAny_bind ((looks_clsIn X hc).here ?_))))))
  rw [hd]
  refine wpAny_pure (a := some dx) (wpAny_bind (wpAny_pure (wpAny_bind ?_)))
  unfold nsSet
  refine wpAny_bind (wpAny_bind (wpAny_askSetting (wpAny_pure (wpAny_bind (wpAny_mkText (wpAny_bind (wpAny_loadPart D ?_)))))))
  dsimp only
  rw [aRefKeyMayBeTheName_at, show (!(#[] : Array DictEntry).any (·.key.isStr name) && (#[] : Array DictEntry).any (·.refKey)) = false by simp]
  refine wpAny_updatePart D ?_
  refine wpAny_bind (wpAny_lookBehind D' (pastItsLine_dict (by show (1:Nat) ≤ sizeLine + 1; rw [sizeLine_eq]; omega)) ?_)
  exact wpAny_pure (h _ U1 U2)
theorem set_L {cd : ClassData} {Q : Unit → Shared → Prop} (F : Fr h₀ L s.heap m) (X₀ : K.In h₀) (N : News h₀ L s.heap ((x, pileO C dx ys n) :: (dx, emptyDict) :: news)) (hne : x ≠ dx) (hnw : ∀ p ∈ news, p.1 ≠ dx)
    (hs : findIn K (.ref C) "__setattr__" = some (some (.builtin "object.__setattr__"))) (hc : clsIn K C = some cd) (hmro : cd.mro = [.ref C, .type "list", .type "object"]) (hd : cd.hasDict = true) (ht : findIn K (.ref C) name = some none)
    (h : ∀ h', Fr h₀ L h' m → News h₀ L h' ((x, pileO C dx ys n) :: (dx, iniDict (PyData.keyHash w.params name) name (s.toks + 1) v 1) :: news) → Q () { s with heap := h', toks := s.toks + 2 }) :
    wpAny (model prog w) A (setAttr (.ref x) name v) Q E s := by
  have X := X₀.keeps F.keep
  have I : W.InstAt s.heap x (pileO C dx ys n) C (some emptyDict) := ⟨(N _ (.head _)).1, rfl, rfl, (N _ (.tail _ (.head _))).1⟩
  exact set_plain X I hs (osa_L (s := { s with toks := s.toks + 1 }) F X N hne hnw hc hmro hd ht fun h' F' N' => h h' F' N')

/-- A built-in slot or method of list's, called on an object of a class of list's. -/
theorem check_inst {M : Model} {A : Around} {E : Value → Shared → Prop} {s : Shared} {i owner n : String} {self : Value} {rest : List Value} {kw : List (Str × Value)} {Q : Unit → Shared → Prop}
    (hk : builtinKind i = some .slot ∨ builtinKind i = some .method) (hs : splitId i = some (owner, n)) (hi : Looks M s.heap (isInstance self (.type owner)) true) (ha : argsOk i ⟨self :: rest, kw⟩) (q : Q () s) :
    wpAny M A (checkBuiltinCall i ⟨self :: rest, kw⟩) Q E s := by
  rcases hk with hk | hk
  · exact check_slot hk hs hi ha q
  · simp only [checkBuiltinCall, hk, hs]
    refine wpAny_bind (hi.here ?_)
    simp only [Bool.not_true, Bool.false_eq_true, if_false]
    cases hsig : Manifest.signature? i with
    | none => exact wpAny_pure q
    | some sig =>
      simp only [argsOk, hsig] at ha
      have h2 : Bind.checkArgs i sig ⟨self :: rest, kw⟩ = pure () := ha
      show wpAny M A (Bind.checkArgs i sig ⟨self :: rest, kw⟩) Q E s
      rw [h2]; exact wpAny_pure q
theorem call_inst {i owner n : String} {b : Builtin} {self : Value} {rest : List Value} {Q : Value → Shared → Prop}
    (hk : builtinKind i = some .slot ∨ builtinKind i = some .method) (hs : splitId i = some (owner, n)) (hp : plainId i = true) (hb : entryFor table i = some b) (ha : argsOk i ⟨self :: rest, []⟩) (hi : Looks (model prog w) s.heap (isInstance self (.type owner)) true)
    (h : wpAny (model prog w) A.in1 (b ⟨self :: rest, []⟩) (fun fin s' => ∃ v, fin = .done (.ret v) ∧ Q v s') E s) :
    wpAny (model prog w) A (call (.builtin i) (self :: rest)) Q E s := by
  refine wpAny_call (codeAny_call_builtin hp hb (check_inst hk hs hi ha (wpAny_mono h (fun fin s' h' => ?_) fun _ _ h' => h')))
  obtain ⟨v, rfl, hv⟩ := h'; exact hv
theorem inst_list (X : K.In s.heap) (N : News h₀ L s.heap ((x, pileO C dx ys n) :: news)) (hm : mroIn K C (.type "list") = some true) : Looks (model prog w) s.heap (isInstance (.ref x) (.type "list")) true := by
  have I : Looks (model prog w) s.heap (typeOf (.ref x)) (.ref C) := (Looks.ld (N _ (.head _)).1).andThen .now
  exact I.andThen (looks_mroIn X hm)
theorem inst_listM {h : Heap} (X : K.In h) (hx : h.get? x = some (pileO C dx ys n)) (hm : mroIn K C (.type "list") = some true) : Looks (model prog w) h (isInstance (.ref x) (.type "list")) true := by
  have I : Looks (model prog w) h (typeOf (.ref x)) (.ref C) := (Looks.ld hx).andThen .now
  exact I.andThen (looks_mroIn X hm)
theorem append_L {news' : List (Addr × Obj)} {Q : Value → Shared → Prop} (F : Fr h₀ L s.heap m) (X₀ : K.In h₀) (N : News h₀ L s.heap news) (U : Upd x (pileO C dx ys n) (pileO C dx (ys ++ [v]) (n + 1)) news news') (hm : mroIn K C (.type "list") = some true) (hz : ys.length ≤ 1000)
    (h : ∀ h', Fr h₀ L h' m → News h₀ L h' news' → Q .none { s with heap := h' }) :
    wpAny (model prog w) A (call (.builtin "list.append") [.ref x, v]) Q E s := by
  obtain ⟨pre, post, rfl, rfl, h1, h2⟩ := U.split
  have hx := (N (x, pileO C dx ys n) (by simp)).1
  refine call_inst (.inr (by decide +kernel)) (n := "append") (owner := "list") (by decide +kernel) (by decide +kernel) PySem.F.entry_list_append (PySem.F.args_list_append_2 _ _) (inst_listM (X₀.keeps F.keep) hx hm) ?_
  show wpAny _ _ (updateSeq x (·.push v) >>= fun _ => ret .none) _ _ s
  obtain ⟨U1, U2⟩ := news_upd (d := x) (o := pileO C dx ys n) (o' := pileO C dx (ys ++ [v]) (n + 1)) (pre := pre) (f := Obj.mapSeq (·.push v)) F N h1 h2 (by simp [Obj.mapSeq]) rfl
  refine wpAny_bind (wpAny_updateSeq hx rfl (wpAny_pure ⟨.none, rfl, h _ U1 U2⟩) (by rw [List.size_toArray, sizeLine_eq]; omega) (by rw [Array.size_push, List.size_toArray, sizeLine_eq]; omega))
end
end Mine
end
section
open PySem PySem.W PyProof.Rows PySem.Spec PySem.Calls
set_option Elab.async false
set_option maxRecDepth 1000000
set_option linter.unusedVariables false
set_option linter.unusedSimpArgs false
set_option maxHeartbeats 4000000
namespace Mine

theorem slot_wd_get : Slot "wrapper_descriptor" "__get__" "wrapper_descriptor.__get__" := .of (owner := "wrapper_descriptor") (n := "__get__") (by rw [typeLookup_type, builtinLookup_eq_fast]; kernel_rfl) (by decide +kernel) (by decide +kernel) (by decide +kernel) (.inl (by decide +kernel)) (by rw [isSubtype_type]; kernel_rfl)
theorem entry_wd_get : entryFor table "wrapper_descriptor.__get__" = some Builtin.«wrapper_descriptor.__get__» := entryFor_of_tree (by kernel_rfl)
theorem args_wd_get (a b c : Value) : argsOk "wrapper_descriptor.__get__" ⟨[a, b, c], []⟩ := by unfold argsOk; kernel_rfl
theorem type_li : typeOf (.builtin "list.__init__") = pure (.type "wrapper_descriptor") := by show builtinType _ = _; rw [builtinType_eq_fast]; kernel_rfl
theorem type_ll : typeOf (.builtin "list.__len__") = pure (.type "wrapper_descriptor") := by show builtinType _ = _; rw [builtinType_eq_fast]; kernel_rfl
theorem own_li : (".".intercalate ("list.__init__".cutAt '.').dropLast) = "list" := by decide +kernel
theorem own_ll : (".".intercalate ("list.__len__".cutAt '.').dropLast) = "list" := by decide +kernel
structure WSlot (id : String) : Prop where
  typ : typeOf (.builtin id) = pure (.type "wrapper_descriptor")
  own : (".".intercalate (id.cutAt '.').dropLast) = "list"
theorem ws_init : WSlot "list.__init__" := ⟨type_li, own_li⟩
theorem ws_len : WSlot "list.__len__" := ⟨type_ll, own_ll⟩
noncomputable abbrev wrapObj (id : String) (x : Addr) : Obj := { cls := .type "method-wrapper", dict := none, data := .fields #[.builtin id, .ref x], slots := #[] }
section
variable {prog : Program} {w : World} {M : Model} {A : Around} {E : Value → Shared → Prop} {h : Heap} {g : Array GenState} {d : Drawn} {t : Nat} {os : OsState} {x C : Addr}
theorem wd_get {id : String} {ox : Obj} (W : WSlot id) {Q : PySem.Fin → Shared → Prop} (hx : h.get? x = some ox) (hcx : ox.cls = .ref C) (hi : Looks (model prog w) h (isSubtype (.ref C) (.type "list")) true)
    (hq : Q (.done (.ret (.ref h.objs.size))) ⟨h.push (wrapObj id x), g, d, t, os⟩) :
    wpAny (model prog w) A (Builtin.«wrapper_descriptor.__get__» ⟨[.builtin id, .ref x, .ref C], []⟩) Q E ⟨h, g, d, t, os⟩ := by
  have hi' : Looks (model prog w) h (isInstance (.ref x) (.type (".".intercalate (id.cutAt '.').dropLast))) true := by rw [W.own]; exact Looks.andThen (by rw [← hcx]; exact (Looks.ld hx).andThen .now) hi
  clear hx hcx
  unfold Builtin.«wrapper_descriptor.__get__»
  repeat lk
  exact hq
theorem super_ga_L {so D : Addr} {ox : Obj} {l₀ l : List Value} {K : Frag} {id : String} {name : Str} {tk : Tok} {Q : PySem.Fin → Shared → Prop} (W : WSlot id)
    (hso : h.get? so = some { cls := .type "super", dict := none, data := .fields #[.ref D, .ref x, .ref C], slots := #[] }) (hno : Looks (model prog w) h (opaqueClassAbove (.ref C)) none)
    (hC : Looks (model prog w) h (mroOf (.ref C)) l₀) (hl : (l₀.dropWhile (· != .ref D)).drop 1 = l) (X : K.In h)
    (hf : alongIn K name l = some (some (.builtin id))) (hx : h.get? x = some ox) (hcx : ox.cls = .ref C) (hi : Looks (model prog w) h (isSubtype (.ref C) (.type "list")) true) (hxC : x ≠ C) (hn : (name == ("__class__" : Str)) = false)
    (hq : Q (.done (.ret (.ref h.objs.size))) ⟨h.push (wrapObj id x), g, d, t, os⟩) :
    wpAny (model prog w) A (Builtin.«super.__getattribute__» ⟨[.ref so, .str name tk], []⟩) Q E ⟨h, g, d, t, os⟩ := by
  have hlk := slot_wd_get.lookup
  have hty := W.typ
  have hne : (Value.ref x == Value.ref C) = false := by simp [hxC]
  have hT : (⟨h, g, d, t, os⟩ : Shared).TypeIs (.builtin id) "wrapper_descriptor" := hty
  have hdt : ({ cls := .type "super", dict := none, data := .fields #[.ref D, .ref x, .ref C], slots := #[] } : Obj).data = .fields #[.ref D, .ref x, .ref C] := rfl
  have f0 : (#[.ref D, .ref x, .ref C] : Array Value)[0]? = some (.ref D) := rfl
  have f1 : (#[.ref D, .ref x, .ref C] : Array Value)[1]? = some (.ref x) := rfl
  have f2 : (#[.ref D, .ref x, .ref C] : Array Value)[2]? = some (.ref C) := rfl
  unfold Builtin.«super.__getattribute__»
  repeat (first
    | (with_reducible refine wpAny_field hso hdt f0 ?_) | (with_reducible refine wpAny_field hso hdt f1 ?_) | (with_reducible refine wpAny_field hso hdt f2 ?_)
    | (with_reducible refine ks_wpAny_notOpaque hno ?_)
    | (with_reducible refine Looks.at hC ?_; rw [hl])
    | (refine ks_forIn_along X (fun _ _ => rfl) rfl ?_ hf)
    | (with_reducible refine wpAny_typeOf hT ?_)
    | (with_reducible refine wpAny_call_entry slot_wd_get hT entry_wd_get ?_ (args_wd_get _ _ _))
    | (with_reducible refine wd_get W hx hcx hi ?_)
    | (with_reducible refine ⟨_, rfl, ?_⟩)
    | (simp only [hn, hne, Bool.or_false, Bool.false_eq_true, if_false])
    | wp_step
    | dsimp only)
  all_goals exact hq
end
end Mine
end
section
open PySem PySem.W PyProof.Rows PySem.Spec PySem.Calls PySem.Builtin
open PySem.Builtin.List (listItems)
set_option Elab.async false
set_option maxRecDepth 1000000
set_option linter.unusedVariables false
set_option linter.unusedSimpArgs false
set_option maxHeartbeats 4000000
namespace Mine
section
variable {prog : Program} {w : World} {A : Around} {E : Value → Shared → Prop} {K : Frag} {C x dx so : Addr} {s : Shared} {h₀ : Heap} {L : Addr} {m : Str → Option Value} {news : List (Addr × Obj)} {R : Result → Shared → Prop} {ox : Obj} {od : Option Obj} {name : Str} {ys : List Value} {n : Nat} {v : Value}
theorem inst_of {d : Obj} {h : Heap} (N : News h₀ L h news) (h1 : (x, pileO C dx ys n) ∈ news) (h2 : (dx, d) ∈ news) : PySem.W.InstAt h x (pileO C dx ys n) C (some d) := ⟨(N _ h1).1, rfl, rfl, (N _ h2).1⟩
theorem method_superL {id : String} {D : Addr} {pl : Sem Bool} {Q : Value × List Value → Shared → Prop} (Ws : WSlot id) (F : Fr h₀ L s.heap m) (X₀ : K.In h₀) (N : News h₀ L s.heap news) (hso : (so, ks_superObj D x C) ∈ news) (I : PySem.W.InstAt s.heap x ox C od) (ho : nsIn K cStatics "thirdparty.any" = some none)
    (hm : ks_superIn K C D name = some (some (.builtin id))) (hl : mroIn K C (.type "list") = some true) (hn : (name == ("__class__" : Str)) = false)
    (h : ∀ q h', Fr h₀ L h' m → News h₀ L h' ((q, wrapObj id x) :: news) → (∀ p ∈ news, p.1 < q) → Q (.ref q, []) { s with heap := h', toks := s.toks + 1 }) : wpAny (model prog w) A (getMethod (.ref so) name pl) Q E s := by
  have X : K.In s.heap := X₀.keeps F.keep
  obtain ⟨hh, g, d, t, os⟩ := s
  cases hc : clsIn K C with
  | none => unfold ks_superIn at hm; rw [hc] at hm; cases hm
  | some cd =>
    unfold ks_superIn at hm
    rw [hc] at hm
    have hso' := (N _ hso).1
    have hlk := PySem.F.ks_slot_super_ga.lookup
    have hcan := PySem.F.ks_canon_super_ga
    have hT : ∀ t', (⟨hh, g, d, t', os⟩ : Shared).TypeIs (.ref so) "super" := fun _ => ⟨_, hso', rfl⟩
    unfold getMethod
    refine wpAny_bind (wpAny_specialOf (hT _) hlk ?_)
    show wpAny _ _ (if (Manifest.canonical "super.__getattribute__" != "object.__getattribute__") = true then _ else _) _ _ _
    rw [if_pos hcan]
    unfold getAttr getAttrBy
    refine wpAny_bind (wpAny_bind (wpAny_mkText (wpAny_holding (wpAny_bind (wpAny_typeOf (hT _) (wpAny_bind (wpAny_of_eq hlk ?_)))))))
    show wpAny _ _ (getAttrByItsOwn (.ref so) (.str name t) (.type "super") (.builtin "super.__getattribute__") true false) _ _ _
    unfold getAttrByItsOwn hookBefore callGetattribute boundAndCalled
    refine wpAny_bind (wpAny_of_eq (show (if onTheHeap (.type "super") then typeLookup (.type "super") "__getattr__" else pure none) = pure none from rfl) ?_)
    refine wpAny_bind (wpAny_attempt (wpAny_holding ?_))
    show wpAny _ _ (bindSpecial (.builtin "super.__getattribute__") (.ref so) >>= _) _ _ _
    refine wpAny_bind (wpAny_of_eq (PySem.F.ks_slot_super_ga.bind _) ?_)
    have hC : Looks (model prog w) hh (mroOf (.ref C)) cd.mro := fun A Q E s k q => wpAny_bind ((looks_clsIn X hc) A _ E s k (wpAny_pure q))
    refine wpAny_mono (Q := fun v s' => v = .ref hh.objs.size ∧ s' = ⟨hh.push (wrapObj id x), g, d, t + 1, os⟩) (E := fun _ _ => False)
      (wpAny_call_entry PySem.F.ks_slot_super_ga (hT _) PySem.F.ks_entry_super_ga (super_ga_L Ws hso' (looks_opaque X ho) hC rfl X hm I.at_ I.cls (looks_mroIn X hl) (ks_ne X I hc) hn ⟨_, rfl, rfl, rfl⟩) (PySem.F.ks_gaArgs_super _ _)) (fun v s' hv => ?_) fun _ _ z => z.elim
    obtain ⟨rfl, rfl⟩ := hv
    refine wpAny_pure (wpAny_pure ?_)
    obtain ⟨F', N', l'⟩ := ks_newsPush (s := ⟨hh, g, d, t, os⟩) (o := wrapObj id x) F N rfl (Heap.get?_push_at rfl rfl) (fun b o e => Heap.get?_push_of_some _ e)
    exact h _ _ F' N' l'
theorem call_wrap {id : String} {b : Builtin} {q : Addr} {Q : Value → Shared → Prop} (hk : builtinKind id = some .slot) (hp : plainId id = true) (hb : entryFor table id = some b) (ha : argsOk id ⟨[.ref x], []⟩) (hq : s.heap.get? q = some (wrapObj id x))
    (h : wpAny (model prog w) A.in1 (b ⟨[.ref x], []⟩) (fun fin s' => ∃ v, fin = .done (.ret v) ∧ Q v s') E s) :
    wpAny (model prog w) A (call (.ref q) []) Q E s := by
  refine wpAny_call (codeAny_of_tree ?_)
  show wpAny _ A.in1 (callAny (.ref q) ⟨[], []⟩) _ _ _
  unfold callAny
  refine wpAny_bind (wpAny_load hq ?_)
  show wpAny _ _ (checkBoundCall id ⟨[.ref x], []⟩ >>= fun _ => again (.builtin id ⟨[.ref x], []⟩)) _ _ _
  refine wpAny_bind ?_
  have fin : wpAny (model prog w) A.in1 (again (.builtin id ⟨[.ref x], []⟩)) (fun fin s' => match fin with
      | .done f => (fun (r : Result) s' => match r with | .ok (.ret v) => Q v s' | .ok _ => False | .error e => E e s') (.ok f) s'
      | .again c' => c'.quiet = true ∧ codeAny (model prog w) A c' (fun (r : Result) s' => match r with | .ok (.ret v) => Q v s' | .ok _ => False | .error e => E e s') s') (fun e s' => E e s') s := by
    refine wpAny_pure ⟨plainId_quiet hp _, codeAny_builtin hb ?_⟩
    rw [Around.under_plainId hp _]
    refine wpAny_mono h (fun f s' h' => ?_) fun _ _ z => z
    obtain ⟨v, rfl, hv⟩ := h'
    exact hv
  unfold checkBoundCall
  cases hsig : Manifest.signature? id with
  | none => exact wpAny_pure fin
  | some sig =>
    simp only [argsOk, hsig] at ha
    have h2 : Bind.checkArgs id sig ⟨[.ref x], []⟩ = pure () := ha
    simp only [hk]
    rw [if_pos (by decide), h2]
    exact wpAny_pure fin
theorem listItems_at {o : Obj} {xs : Array Value} {Q : Array Value → Shared → Prop} (ho : s.heap.get? x = some o) (hd : o.data = .seq xs n) (h : Q xs s) : wpAny (model prog w) A (listItems (.ref x)) Q E s := by
  unfold listItems seqItems?
  refine wpAny_bind (wpAny_bind (wpAny_load ho ?_))
  rw [hd]
  exact wpAny_pure (wpAny_pure h)
theorem news_same {h h₀ : Heap} {f : Obj → Obj} {o : Obj} (F : Fr h₀ L h m) (N : News h₀ L h news) (hx : (x, o) ∈ news) (e : f o = o) (hf : o.isFreed = false) : Fr h₀ L (h.update x f) m ∧ News h₀ L (h.update x f) news := by
  have hx' := (N _ hx).1
  have same : ∀ b y, h.get? b = some y → (h.update x f).get? b = some y := by
    intro b y hb
    by_cases q : b = x
    · subst q
      have : y = o := by rw [hx'] at hb; exact (Option.some.inj hb).symm
      subst this
      rw [Heap.get?_update_self _ hx' (by rw [e]; exact hf), e]
    · rw [Heap.get?_update_ne _ _ _ _ q]; exact hb
  exact ⟨F.keeps same, N.grown same⟩
theorem init_L {q : Addr} {Q : Value → Shared → Prop} (F : Fr h₀ L s.heap m) (N : News h₀ L s.heap news) (hq : (q, wrapObj "list.__init__" x) ∈ news) (hx : (x, pileO C dx [] n) ∈ news)
    (h : ∀ h', Fr h₀ L h' m → News h₀ L h' news → Q .none { s with heap := h' }) :
    wpAny (model prog w) A (call (.ref q) []) Q E s := by
  refine call_wrap (by decide +kernel) (by decide +kernel) PySem.F.entry_list_init (PySem.F.args_list_init_1 _) (N _ hq).1 ?_
  obtain ⟨U1, U2⟩ := news_same (f := Obj.mapSeq (fun _ => #[])) F N hx (by simp [Obj.mapSeq]) rfl
  show wpAny _ _ (listItems (.ref x) >>= fun old => updateSeq x (fun _ => #[]) >>= fun _ => letGo old.toList.reverse >>= fun _ => ret .none) _ _ s
  have hx := (N _ hx).1
  refine wpAny_bind (listItems_at hx rfl (wpAny_bind (wpAny_updateSeq hx rfl ?_ (by simp) (by simp))))
  exact wpAny_bind (wpAny_letGo (wpAny_pure ⟨.none, rfl, h _ U1 U2⟩))
theorem len_L {q : Addr} {Q : Value → Shared → Prop} (N : News h₀ L s.heap news) (hq : (q, wrapObj "list.__len__" x) ∈ news) (hx : (x, pileO C dx ys n) ∈ news)
    (h : ∀ t tk, Q (.int (ys.length : Int) t) { s with toks := tk }) :
    wpAny (model prog w) A (call (.ref q) []) Q E s := by
  refine call_wrap (by decide +kernel) (by decide +kernel) PySem.F.entry_list_len (PySem.F.args_list_len_1 _) (N _ hq).1 ?_
  have hx := (N _ hx).1
  show wpAny _ _ (seqSize x >>= fun k => retInt k) _ _ s
  unfold seqSize
  refine wpAny_bind (wpAny_bind (wpAny_loadPart hx (wpAny_pure ?_)))
  show wpAny _ _ (retInt (ys.toArray.size : Nat)) _ _ _
  rw [List.size_toArray]
  exact wpAny_bind (wpAny_mkInt (wpAny_pure ⟨_, rfl, h _ _⟩))
theorem keeps_wrap {M : Model} {id : String} {q : Addr} (h : Heap) (X : h.get? q = some (wrapObj id x)) : ∃ k, (k = Keeper.frame ∨ k = Keeper.machine ∨ k = Keeper.boundFrame) ∧ Looks M h (keeperOf (.ref q)) k :=
  ⟨.machine, .inr (.inl rfl), (Looks.ld (part := none) X).andThen .now⟩
theorem callWith_W0 {id : String} {q : Addr} {pos : Pos} {env : Env} {first : List Value} {Q : Value → Shared → Prop} (hq : s.heap.get? q = some (wrapObj id x)) (h : wpAny (model prog w) A (call (.ref q) (first ++ [])) Q E s) :
    wpAny (model prog w) A (callWith pos (.ref q) first (backTo pos (starEach [] env)) []) Q E s :=
  callWith_of rfl keeps_wrap (evalArgs_nil3 ⟨hq, h⟩)
end
end Mine
end
section
open PySem PySem.W PyProof.Rows PySem.Spec PySem.Calls PySem.Builtin
open PySem.Builtin.List (listItems)
set_option Elab.async false
set_option maxRecDepth 1000000
set_option linter.unusedVariables false
set_option linter.unusedSimpArgs false
set_option maxHeartbeats 4000000
namespace Mine
section
variable {prog : Program} {w : World} {A : Around} {E : Value → Shared → Prop} {K : Frag} {C x dx so : Addr} {s : Shared} {h₀ : Heap} {L : Addr} {m : Str → Option Value} {news : List (Addr × Obj)} {R : Result → Shared → Prop} {ox : Obj} {od : Option Obj} {name : Str} {ys : List Value} {n : Nat} {v : Value}
theorem seqKey_L {k : Value} {nm : Str} {Q : Value → Shared → Prop} (X : K.In s.heap) (hx : s.heap.get? x = some (pileO C dx ys n)) (hd : mroIn K C (.type "collections.deque") = some false) (h : Q k s) :
    wpAny (model prog w) A (sequenceKey (.ref x) k nm) Q E s := by
  have I : Looks (model prog w) s.heap (typeOf (.ref x)) (.ref C) := (Looks.ld hx).andThen .now
  have D := looks_mroIn (M := model prog w) X hd
  obtain ⟨hh, g, d, t, os⟩ := s
  dsimp only at I D
  unfold sequenceKey seqItemTypes List.anyM List.anyM
  clear hx
  repeat lk
  exact h
theorem special_slot {i : String} {args : List Value} {Q : Option Value → Shared → Prop} (X : K.In s.heap) (hx : s.heap.get? x = some (pileO C dx ys n)) (hs : findIn K (.ref C) name = some (some (.builtin i))) (S : Slot "list" name i)
    (h : wpAny (model prog w) A (call (.builtin i) (.ref x :: args)) (fun v => Q (some v)) E s) :
    wpAny (model prog w) A (callSpecial? (.ref x) name args) Q E s := by
  have I : Looks (model prog w) s.heap (typeOf (.ref x)) (.ref C) := (Looks.ld hx).andThen .now
  refine wpAny_bind (wpAny_bind (I.here ((looks_findIn X hs).here (wpAny_holding ?_))))
  dsimp only
  rw [S.bind]
  exact wpAny_bind (wpAny_pure (wpAny_bind (wpAny_mono h (fun _ _ z => wpAny_pure z) fun _ _ z => z)))
theorem getItem_neg_L {k : Int} {t : Tok} {Q : Value → Shared → Prop} (X : K.In s.heap) (hx : s.heap.get? x = some (pileO C dx ys n)) (hd : mroIn K C (.type "collections.deque") = some false) (hl : mroIn K C (.type "list") = some true) (hg : findIn K (.ref C) "__getitem__" = some (some (.builtin "list.__getitem__")))
    (h0 : k < 0) (h1 : -(ys.length : Int) ≤ k) (hfit : -(2 ^ 63) ≤ k) (hv : ys[(k + ys.length).toNat]? = some v) (h : Q v s) : wpAny (model prog w) A (getItem (.ref x) (.int k t)) Q E s := by
  unfold getItem
  try with_reducible refine wpAny_holding ?_
  first | refine wpAny_bind (wpAny_pure ?_) | skip
  refine wpAny_bind (seqKey_L X hx hd ?_)
  refine wpAny_bind (special_slot (name := Str.ofString "__getitem__") X hx hg PySem.F.slot_list_getitem ?_)
  refine call_inst (.inr (by decide +kernel)) (n := "__getitem__") (owner := "list") (by decide +kernel) (by decide +kernel) PySem.F.entry_list_getitem (PySem.F.args_list_getitem_2 _ _) (inst_listM X hx hl) ?_
  show wpAny _ _ (Builtin.List.listSubscript? (.int k t) >>= _) _ _ s
  refine wpAny_bind (wpAny_listSubscript_int (fitsIndex_neg h0 hfit) ?_)
  clear hfit
  have hidx : seqIndex? k ys.toArray.size = some (k + ys.length).toNat := by rw [List.size_toArray]; exact PySem.seqIndex_neg h0 h1
  obtain ⟨j, rfl⟩ : ∃ j : Nat, k = Int.negSucc j := by
    cases k with
    | ofNat n => exact absurd h0 (Int.not_lt.mpr (Int.natCast_nonneg n))
    | negSucc n => exact ⟨n, rfl⟩
  show wpAny _ _ ((listItems (.ref x) >>= fun xs => pure ((seqIndex? (Int.negSucc j) xs.size).bind fun i => xs[i]?.map (i, ·))) >>= _) _ _ s
  refine wpAny_bind (wpAny_bind (listItems_at hx rfl (wpAny_pure ?_)))
  rw [hidx]
  have hv' : ys.toArray[(Int.negSucc j + ys.length).toNat]? = some v := by simpa using hv
  simp only [Option.bind_some, hv', Option.map_some]
  first
    | exact wpAny_bind (wpAny_pure (wpAny_pure ⟨v, rfl, wpAny_pure h⟩))
    | exact wpAny_pure ⟨v, rfl, wpAny_pure h⟩
theorem item_L {k : Int} {t : Tok} {value slice : Expr} {Q : Value → Shared → Prop} (X : K.In s.heap) (hx : s.heap.get? x = some (pileO C dx ys n)) (hd : mroIn K C (.type "collections.deque") = some false) (hl : mroIn K C (.type "list") = some true) (hg : findIn K (.ref C) "__getitem__" = some (some (.builtin "list.__getitem__")))
    (h0 : k < 0) (h1 : -(ys.length : Int) ≤ k) (hfit : -(2 ^ 63) ≤ k) (hv : ys[(k + ys.length).toNat]? = some v) (h : Q v s)
    (hs : subscripted slice false (.ref x) (.int k t) = operate [.ref x, .int k t] (getItem (.ref x) (.int k t)) := by with_unfolding_all rfl) :
    wpAny (model prog w) A (subscriptTail value slice (.ref x) (.int k t)) Q E s := by
  have I : Looks (model prog w) s.heap (typeOf (.ref x)) (.ref C) := (Looks.ld hx).andThen .now
  unfold subscriptTail
  refine wpAny_bind ?_
  unfold getitemInPython specialOf
  refine wpAny_bind (wpAny_bind (I.here ((looks_findIn X hg).here ?_)))
  refine wpAny_pure ?_
  rw [hs]
  refine wpAny_bind (wpAny_operating ?_)
  refine wpAny_mono (getItem_neg_L (Q := fun r s' => Q r s') X hx hd hl hg h0 h1 hfit hv h) (fun r s₃ h₃ => wpAny_bind (wpAny_letTemporaryGo (wpAny_pure h₃))) fun _ _ z => z
end
end Mine
end
section
open PySem PySem.W PyProof.Rows PySem.Spec PySem.Calls PySem.Builtin
open PySem.Builtin.List (listItems)
set_option Elab.async false
set_option maxRecDepth 1000000
set_option linter.unusedVariables false
set_option linter.unusedSimpArgs false
set_option maxHeartbeats 4000000
namespace Mine
section
variable {prog : Program} {w : World} {A : Around} {E : Value → Shared → Prop} {K : Frag} {C x dx so : Addr} {s : Shared} {h₀ : Heap} {L : Addr} {m : Str → Option Value} {news : List (Addr × Obj)} {R : Result → Shared → Prop} {ox : Obj} {od : Option Obj} {name : Str} {ys : List Value} {n : Nat} {v : Value}
noncomputable abbrev lst0 (ys : List Value) (n : Nat) : Obj := { cls := .type "list", data := .seq ys.toArray n }
theorem parts_from {sl : Addr} {a : Int} {t : Tok} {Q : Value × Value × Value → Shared → Prop} (hs : s.heap.IsSliceOf sl (.int a t) .none .none) (h : Q (rawPart (some a), rawPart none, rawPart none) s) :
    wpAny (model prog w) A (Builtin.List.listSliceParts (.ref sl)) Q E s := by
  obtain ⟨os, hos, hcs, hds⟩ := id hs
  rw [listSliceParts_eq]
  refine wpAny_bind (wpAny_field hos hds (x := .none) rfl (wpAny_bind (wpAny_listPart .none ?_)))
  rw [if_neg (by decide)]
  refine wpAny_bind (wpAny_field hos hds (x := .int a t) rfl (wpAny_bind (wpAny_listPart (.int a t) ?_)))
  exact wpAny_bind (wpAny_field hos hds (x := .none) rfl (wpAny_bind (wpAny_listPart .none (wpAny_pure h))))
theorem getSlice_L {sl : Addr} {t : Tok} {Q : Value → Shared → Prop} (X : K.In s.heap) (hx : s.heap.get? x = some (pileO C dx ys n)) (hd : mroIn K C (.type "collections.deque") = some false) (hl : mroIn K C (.type "list") = some true) (hg : findIn K (.ref C) "__getitem__" = some (some (.builtin "list.__getitem__")))
    (hs : s.heap.IsSliceOf sl (.int 0 t) .none .none) (hz : ys.length ≤ 1000) (h : Q (.ref s.heap.objs.size) { s with heap := s.heap.push (lst0 ys 0) }) : wpAny (model prog w) A (getItem (.ref x) (.ref sl)) Q E s := by
  obtain ⟨os, hos, hcs, hds⟩ := id hs
  have hTs : s.TypeIs (.ref sl) "slice" := ⟨os, hos, hcs⟩
  unfold getItem
  try with_reducible refine wpAny_holding ?_
  first | refine wpAny_bind (wpAny_pure ?_) | skip
  refine wpAny_bind (seqKey_L X hx hd ?_)
  refine wpAny_bind (special_slot (name := Str.ofString "__getitem__") X hx hg PySem.F.slot_list_getitem ?_)
  refine call_inst (.inr (by decide +kernel)) (n := "__getitem__") (owner := "list") (by decide +kernel) (by decide +kernel) PySem.F.entry_list_getitem (PySem.F.args_list_getitem_2 _ _) (inst_listM X hx hl) ?_
  show wpAny _ _ (Builtin.List.listSubscript? (.ref sl) >>= _) _ _ s
  refine wpAny_bind ?_
  unfold Builtin.List.listSubscript?
  refine wpAny_bind (wpAny_specialOf hTs slice_no_index ?_)
  simp only [Option.isNone_none, if_true]
  refine wpAny_pure ?_
  show wpAny _ _ (typeOf (.ref sl) >>= _) _ _ s
  refine wpAny_bind (wpAny_typeOf hTs ?_)
  rw [if_neg (by decide)]
  refine wpAny_bind (parts_from hs ?_)
  refine wpAny_bind (m := listItems (.ref x)) (listItems_at hx rfl ?_)
  refine wpAny_bind (wpAny_of_eq (sliceIndices_raw (some 0) none none ys.toArray.size (by decide)) ?_)
  have hpick : slicePick ys.toArray (some 0) none none = ys.toArray := by rw [show (some (0 : Int)) = some ((0 : Nat) : Int) from rfl, slicePick_from']; simp
  have h' : Q (.ref s.heap.objs.size) { s with heap := s.heap.push { cls := .type "list", data := .seq (slicePick ys.toArray (some 0) none none) } } := by rw [hpick]; exact h
  exact wpAny_bind (wpAny_newObj_type (wpAny_pure ⟨_, rfl, wpAny_pure h'⟩) (Nat.le_trans (slicePick_size_le _ _ _ _) (by rw [List.size_toArray, sizeLine_eq]; omega)))
theorem sliceTail_L {sl : Addr} {t : Tok} {value : Expr} {lo hi : Option Expr} {p : Pos} {Q : Value → Shared → Prop} (X : K.In s.heap) (hx : s.heap.get? x = some (pileO C dx ys n)) (hd : mroIn K C (.type "collections.deque") = some false) (hl : mroIn K C (.type "list") = some true) (hg : findIn K (.ref C) "__getitem__" = some (some (.builtin "list.__getitem__")))
    (hs : s.heap.IsSliceOf sl (.int 0 t) .none .none) (hz : ys.length ≤ 1000) (h : Q (.ref s.heap.objs.size) { s with heap := s.heap.push (lst0 ys 0) }) :
    wpAny (model prog w) A (subscriptTail value (.Slice lo hi none p) (.ref x) (.ref sl)) Q E s := by
  have I : Looks (model prog w) s.heap (typeOf (.ref x)) (.ref C) := (Looks.ld hx).andThen .now
  unfold subscriptTail
  refine wpAny_bind ?_
  unfold getitemInPython specialOf
  refine wpAny_bind (wpAny_bind (I.here ((looks_findIn X hg).here ?_)))
  refine wpAny_pure ?_
  show wpAny _ _ (operate [.ref sl, .ref x] (getItem (.ref x) (.ref sl)) >>= _) _ _ _
  refine wpAny_bind (wpAny_operating ?_)
  exact wpAny_mono (getSlice_L (Q := fun r s' => Q r s') X hx hd hl hg hs hz h) (fun r s₃ h₃ => wpAny_bind (wpAny_letTemporaryGo (wpAny_pure h₃))) fun _ _ z => z
theorem mapSeq_to_nil (xs : Array Value) (k : Nat) (d : Option Addr) (c : Value) (sl : Array (Option Value)) (f : Array Value → Array Value) (hf : f xs = #[]) : ∃ k', Obj.mapSeq f ⟨c, d, .seq xs k, sl⟩ = ⟨c, d, .seq #[] k', sl⟩ := by
  refine ⟨if ((#[] : Array Value).size == xs.size) = true then k else k + 1, ?_⟩
  simp only [Obj.mapSeq, hf]
theorem setSlice_L {sl v : Addr} {t : Tok} {kv : Nat} {Q : Unit → Shared → Prop} {pre post : List (Addr × Obj)} (F : Fr h₀ L s.heap m) (X₀ : K.In h₀) (N : News h₀ L s.heap (pre ++ (x, pileO C dx ys n) :: post)) (hp1 : ∀ p ∈ pre, p.1 ≠ x) (hp2 : ∀ p ∈ post, p.1 ≠ x)
    (hd : mroIn K C (.type "collections.deque") = some false) (hl : mroIn K C (.type "list") = some true) (hg : findIn K (.ref C) "__setitem__" = some (some (.builtin "list.__setitem__")))
    (hs : s.heap.IsSliceOf sl (.int 0 t) .none .none) (hv : s.heap.get? v = some (lst0 [] kv)) (hvx : x ≠ v) (hz : ys.length ≤ 1000)
    (h : ∀ h' k, Fr h₀ L h' m → News h₀ L h' (pre ++ (x, pileO C dx [] k) :: post) → Q () { s with heap := h' }) : wpAny (model prog w) A (setItem (.ref x) (.ref sl) (.ref v)) Q E s := by
  have X := X₀.keeps F.keep
  have hx := (N (x, pileO C dx ys n) (by simp)).1
  obtain ⟨os, hos, hcs, hds⟩ := id hs
  have hTs : s.TypeIs (.ref sl) "slice" := ⟨os, hos, hcs⟩
  have hTv : s.TypeIs (.ref v) "list" := ⟨_, hv, rfl⟩
  unfold setItem
  try with_reducible refine wpAny_holding ?_
  first | refine wpAny_bind (wpAny_pure ?_) | skip
  refine wpAny_bind (seqKey_L X hx hd ?_)
  refine wpAny_bind (special_slot (name := Str.ofString "__setitem__") X hx hg PySem.F.slot_list_setitem ?_)
  refine call_inst (.inl (by decide +kernel)) (n := "__setitem__") (owner := "list") (by decide +kernel) (by decide +kernel) PySem.F.entry_list_setitem (PySem.F.args_list_setitem_3 _ _ _) (inst_listM X hx hl) ?_
  show wpAny _ _ (Builtin.List.listSubscript? (.ref sl) >>= _) _ _ s
  refine wpAny_bind ?_
  unfold Builtin.List.listSubscript?
  refine wpAny_bind (wpAny_specialOf hTs slice_no_index ?_)
  simp only [Option.isNone_none, if_true]
  refine wpAny_pure ?_
  show wpAny _ _ (typeOf (.ref sl) >>= _) _ _ s
  refine wpAny_bind (wpAny_typeOf hTs ?_)
  rw [if_neg (by decide)]
  refine wpAny_bind (parts_from hs ?_)
  dsimp only
  rw [if_neg (by simp [Builtin.List.listSameRef, hvx])]
  unfold Builtin.List.listAllItems
  refine wpAny_bind (wpAny_bind (wpAny_typeOf hTv ?_))
  rw [if_pos (by decide)]
  refine listItems_at hv rfl ?_
  refine wpAny_bind (m := listItems (.ref x)) (listItems_at hx rfl ?_)
  refine wpAny_bind (wpAny_of_eq (sliceIndices_raw (some 0) none none ys.toArray.size (by decide)) ?_)
  have hb : sliceBounds (some 0) none none ys.toArray.size = (0, (ys.length : Int), 1) := by
    unfold sliceBounds; simp; omega
  rw [hb]
  dsimp only
  rw [if_pos (by decide)]
  refine wpAny_bind (wpAny_rule ?_)
  rw [if_neg (by simp [Builtin.List.listTooLong, sizeLine_eq]; omega)]
  obtain ⟨k', hk'⟩ := mapSeq_to_nil ys.toArray n (some dx) (.ref C) #[] (fun xs => xs.extract 0 (0 : Int).toNat ++ ([] : List Value).toArray ++ xs.extract (max (0 : Int) (ys.length : Int)).toNat xs.size) (by simp)
  obtain ⟨U1, U2⟩ := news_upd (d := x) (o := pileO C dx ys n) (o' := pileO C dx [] k') (pre := pre) (f := Obj.mapSeq (fun xs => xs.extract 0 (0 : Int).toNat ++ ([] : List Value).toArray ++ xs.extract (max (0 : Int) (ys.length : Int)).toNat xs.size)) F N hp1 hp2 hk' rfl
  refine wpAny_bind (wpAny_updateSeq hx rfl ?_ (by rw [List.size_toArray, sizeLine_eq]; omega) (by simp))
  exact wpAny_bind (wpAny_letGo (wpAny_pure ⟨_, rfl, wpAny_pure (h _ _ U1 U2)⟩))
end
end Mine
end
section
open PySem PySem.W PyProof.Rows PySem.Spec PySem.Calls
set_option Elab.async false


set_option maxRecDepth 1000000
set_option linter.unusedVariables false
set_option linter.unusedSimpArgs false
namespace Mine
local macro_rules | `(tactic| walk_at "MINE enter") => `(tactic| (refine' code_def ?k1 ?k2 ?k3 ?k4 ?k5 ?kA ?kF ?kK ?k6 ?k7 ?k8 ?k9 ?kB ?_ ?c2 ?c3 ?c4 ?c5; (case kA => exact rfl); (case kF => exact rfl); (case kK => first | exact rfl | assumption); (case k1 => k_asm); (case k2 => k_asm); (case k3 => k_asm); (case k4 => k_asm); (case k5 => k_asm); (case k6 => k_is); (case k7 => k_is); (case k8 => ktr_room); (case k9 => first | exact BindsTo.of_eq rfl | exact binds_K (by k_in) rfl (by k_is) rfl rfl rfl); (case c5 => decide); (case kB => exact locs rfl); (case c2 => exact rfl); (case c3 => exact rfl); (case c4 => exact rfl); k_whole; intro g' L' h' FG' F' N' B' X' T'; (try dsimp only); (try k_lift B'); (try k_fold)))
set_option maxHeartbeats 4000000 in
theorem pop_claim (w : World) (mean : ExcName → Option Value) (mg mb : Str → Option Value) (x dx : Addr) (ys : List Value) (nn : Nat) (od : Obj) (t1 : Tok) (pre post : List (Addr × Obj)) (hp1 : ∀ p ∈ pre, p.1 ≠ x) (hp2 : ∀ p ∈ post, p.1 ≠ x) (hz : ys.length ≤ 1000) (dp un : Nat) (gd : Option (List Code)) (cn : Str) (cs : Scope) (a : Addr) (ccd : Value) (cl : List (Str × Addr)) (outer : List Env) (A₀ : Around) (base h₀ : Heap) (L : Addr) (m : Str → Option Value) (s : Shared) (Q E : Value → Shared → Prop)
    (B : Below A₀ base outer h₀) (F : Fr h₀ L s.heap m) (X : (KK w.params).In h₀) (N : News h₀ L s.heap (pre ++ (x, pileO 117 dx ys nn) :: post)) (T : Top qq (looseW qq looseQ) mean mg mb h₀) (hcs : cs.kind = .function) (hdp : dp + 3 < recursionLimit) (hun : un + 20 < cLine)
    (hret : ∀ h' tk' D k, Fr h₀ L h' m → News h₀ L h' ((D, lst0 ys 0) :: (pre ++ (x, pileO 117 dx [] k) :: post)) → (∀ p ∈ pre ++ post, p.1 ≠ D) → D ≠ x → Q (.ref D) { s with heap := h', toks := tk' }) :
    wpAny (model PySem.Challenge.rw_wc0029_01.row.prog w) (ktrTop dp un gd cn cs L a ccd cl outer) (call (.ref 70) [.ref x, .int 0 t1]) Q E s := by
  revert B F X N T hcs hdp hun hret; k_fill; intro B F X N T hcs hdp hun hret
  refine wpAny_call ?_
  walk_at "MINE enter"
  k_steps
  have hx : (x, pileO 117 dx ys nn) ∈ pre ++ (x, pileO 117 dx ys nn) :: post := by simp
  rename Fr _ _ _ _ => F1
  rename News _ _ _ _ => N1
  have F2 := F1.push { cls := .type "slice", data := .fields #[.int 0 t1, .none, .none] }
  have N2 := N1.push F1 { cls := .type "slice", data := .fields #[.int 0 t1, .none, .none] }
  refine' sliceTail_L (by k_in) (News.get N2 (List.mem_cons_of_mem _ hx)) ?g1 ?g2 ?g3 (Heap.IsSliceOf.new ..) hz ?_
  case g1 => k_is
  case g2 => k_is
  case g3 => k_is
  have F3 := F2.push (lst0 ys 0)
  have N3 := N2.push F2 (lst0 ys 0)
  have hlt1 : ∀ p ∈ pre ++ (x, pileO 117 dx ys nn) :: post, p.1 < _ := fun p hp => Heap.lt_size (N1 p hp).1
  k_steps
  rename Fr _ _ _ _ => F4
  rename News _ _ _ _ => N4
  rename _ < _ ∧ _ < _ ∧ _ => hlt4
  have F5 := F4.push { cls := .type "slice", data := .fields #[.int 0 t1, .none, .none] }
  have N5 := N4.push F4 { cls := .type "slice", data := .fields #[.int 0 t1, .none, .none] }
  refine' setSlice_L (pre := _ :: _ :: _ :: _ :: pre) (post := post) F5 ?g1 N5 ?g2 hp2 ?g3 ?g4 ?g5 (Heap.IsSliceOf.new ..) (News.get N5 (.tail _ (.head _))) ?g6 hz ?_
  case g1 => k_asm
  case g2 =>
    have q1 := hlt1 _ hx
    have q2 := Heap.lt_size (N4 _ (List.mem_cons_of_mem _ (List.mem_cons_of_mem _ (List.mem_cons_of_mem _ hx)))).1
    have q3 := hlt4.2.1
    simp only [List.forall_mem_cons]
    refine ⟨Nat.ne_of_gt q2, Nat.ne_of_gt (Nat.lt_trans q1 q3), ?_, Nat.ne_of_gt q1, hp1⟩
    rw [Heap.size_push]
    exact Nat.ne_of_gt (Nat.lt_succ_of_lt q1)
  case g3 => k_is
  case g4 => k_is
  case g5 => k_is
  case g6 => exact Nat.ne_of_lt (Nat.lt_trans (hlt1 _ hx) hlt4.2.1)
  intro h' k F' N'
  k_steps
  refine hret _ _ _ k (by k_asm) (cb_drop (by k_asm) ?_) ?_ ?_
  · intro p hp
    rcases List.mem_cons.mp hp with rfl | hp
    · exact List.mem_cons_of_mem _ (List.mem_cons_of_mem _ (List.mem_cons_self))
    · exact List.mem_cons_of_mem _ (List.mem_cons_of_mem _ (List.mem_cons_of_mem _ (List.mem_cons_of_mem _ hp)))
  · intro p hp
    rw [Heap.size_push]
    refine Nat.ne_of_lt (Nat.lt_succ_of_lt (hlt1 p ?_))
    rcases List.mem_append.mp hp with h | h
    · exact List.mem_append_left _ h
    · exact List.mem_append_right _ (List.mem_cons_of_mem _ h)
  · rw [Heap.size_push]
    exact Nat.ne_of_gt (Nat.lt_succ_of_lt (hlt1 _ hx))
end Mine
end
section
open PySem PySem.W PyProof.Rows PySem.Spec PySem.Calls
set_option Elab.async false
set_option maxRecDepth 1000000
set_option linter.unusedVariables false
set_option linter.unusedSimpArgs false
namespace Mine
local macro_rules | `(tactic| walk_at "getMethod ref") => `(tactic| (k_here; k_dflt (refine' method_L ?k1 (inst_of (C := 117) ?k2 ?k3 ?k4) ?k5 ?k6 ?k7 ?k8 ?k9 ?k10 ?_; (case k2 => k_asm); (case k3 => first | k_mem | assumption); (case k4 => first | k_mem | assumption); (case k1 => k_in); (case k5 => k_is); (case k6 => k_is); (case k7 => k_is); (case k8 => k_is); (case k9 => decide); (case k10 => rfl))))
local macro_rules | `(tactic| walk_at "MINE enter") => `(tactic| (refine' code_def ?k1 ?k2 ?k3 ?k4 ?k5 ?kA ?kF ?kK ?k6 ?k7 ?k8 ?k9 ?kB ?_ ?c2 ?c3 ?c4 ?c5; (case kA => exact rfl); (case kF => exact rfl); (case kK => first | exact rfl | assumption); (case k1 => k_asm); (case k2 => k_asm); (case k3 => k_asm); (case k4 => k_asm); (case k5 => k_asm); (case k6 => k_is); (case k7 => k_is); (case k8 => ktr_room); (case k9 => first | exact BindsTo.of_eq rfl | exact binds_K (by k_in) rfl (by k_is) rfl rfl rfl); (case c5 => decide); (case kB => exact locs rfl); (case c2 => exact rfl); (case c3 => exact rfl); (case c4 => exact rfl); k_whole; intro g' L' h' FG' F' N' B' X' T'; (try dsimp only); (try k_lift B'); (try k_fold)))
local macro_rules | `(tactic| walk_at "MINE superEnter") => `(tactic| (refine' ks_code_super ?k1 ?k2 ?k3 ?k4 ?k5 ?kA ?kF ?kK ?k6 ?k7 ?k8 ?k9 ?kB ?_ ?c1 ?c2 ?c3 ?c4; (case kA => exact rfl); (case kF => exact rfl); (case kK => first | exact rfl | assumption); (case k1 => k_asm); (case k2 => k_asm); (case k3 => k_asm); (case k4 => k_asm); (case k5 => k_asm); (case k6 => k_is); (case k7 => k_is); (case k8 => ktr_room); (case k9 => first | exact BindsTo.of_eq rfl | exact binds_K (by k_in) rfl (by k_is) rfl rfl rfl); (case kB => exact locs rfl); (case c1 => decide); (case c2 => exact rfl); (case c3 => exact rfl); (case c4 => exact rfl); intro g' L' h' FG' F' N' B' X' T' l1; (try k_lt l1); (try dsimp only); (try k_lift B')))
noncomputable abbrev odI (hs : Int) (tk : Tok) (v : Value) : Obj := iniDict hs (Str.ofString "_initial_size") tk v 1
noncomputable abbrev partO (c : Str) (t1 t2 : Tok) : Obj := { cls := .type "tuple", data := .seq #[.str (Str.ofString "") t1, .str c t2] }
theorem allLt_mem {d : Nat} : ∀ {l : List (Addr × Obj)}, AllLt d l → ∀ p ∈ l, p.1 < d
  | [], _, p, hp => nomatch hp
  | q :: l, h, p, hp => by
    rcases List.mem_cons.mp hp with rfl | hp
    · exact h.1
    · exact allLt_mem h.2 p hp
set_option maxHeartbeats 4000000 in
theorem push_claim (w : World) (mean : ExcName → Option Value) (mg mb : Str → Option Value) (x dx : Addr) (ys : List Value) (nn : Nat) (hs : Int) (tv : Tok) (v : Value) (c : Str) (t1 t2 : Tok) (rest : List (Addr × Obj)) (hx : ∀ p ∈ (dx, odI hs tv v) :: rest, p.1 ≠ x) (hz : ys.length ≤ 999) (dp un : Nat) (gd : Option (List Code)) (cn : Str) (cs : Scope) (a : Addr) (ccd : Value) (cl : List (Str × Addr)) (outer : List Env) (A₀ : Around) (base h₀ : Heap) (L : Addr) (m : Str → Option Value) (s : Shared) (Q E : Value → Shared → Prop)
    (B : Below A₀ base outer h₀) (F : Fr h₀ L s.heap m) (X : (KK w.params).In h₀) (N : News h₀ L s.heap ((x, pileO 117 dx ys nn) :: (dx, odI hs tv v) :: rest)) (T : Top qq (looseW qq looseQ) mean mg mb h₀) (hcs : cs.kind = .function) (hdp : dp + 3 < recursionLimit) (hun : un + 20 < cLine)
    (hret : ∀ h' tk' D, Fr h₀ L h' m → News h₀ L h' ((x, pileO 117 dx (ys ++ [.ref D]) (nn + 1)) :: (dx, odI hs tv v) :: (D, partO c t1 t2) :: rest) → D ≠ x → (∀ p ∈ rest, p.1 ≠ D) → Q .none { s with heap := h', toks := tk' }) :
    wpAny (model PySem.Challenge.rw_wc0029_01.row.prog w) (ktrTop dp un gd cn cs L a ccd cl outer) (call (.ref 62) [.ref x, .str (Str.ofString "") t1, .str c t2]) Q E s := by
  revert B F X N T hcs hdp hun hret; k_fill; intro B F X N T hcs hdp hun hret
  refine wpAny_call ?_
  walk_at "MINE enter"
  k_steps
  rename _ < _ ∧ _ < _ ∧ _ => hlt4
  refine' append_L (v := .ref _) ?n1 ?n2 ?n3 (Upd.tail ?n4 (Upd.head hx)) ?n6 ?n7 ?_
  case n1 => k_asm
  case n2 => k_asm
  case n3 => k_asm
  case n4 => exact Nat.ne_of_gt hlt4.1
  case n6 => k_is
  case n7 => omega
  intro h' F' N'
  k_steps
  refine hret _ _ _ (by k_asm) (fun p hp => (by k_asm : News _ _ _ (_ :: _ :: _ :: rest)) p ?_) (Nat.ne_of_gt hlt4.1) (fun p hp => Nat.ne_of_lt (allLt_mem hlt4.2.2 p hp))
  simp only [List.mem_cons] at hp ⊢
  rcases hp with h | h | h | h <;> simp [h]
set_option maxHeartbeats 4000000 in
theorem count_claim (w : World) (mean : ExcName → Option Value) (mg mb : Str → Option Value) (x dx : Addr) (ys : List Value) (nn : Nat) (hs : Int) (tv : Tok) (v : Value) (news : List (Addr × Obj)) (hxm : (x, pileO 117 dx ys nn) ∈ news) (hdm : (dx, odI hs tv v) ∈ news) (hz : ys.length ≤ 1000) (dp un : Nat) (gd : Option (List Code)) (cn : Str) (cs : Scope) (a : Addr) (ccd : Value) (cl : List (Str × Addr)) (outer : List Env) (A₀ : Around) (base h₀ : Heap) (L : Addr) (m : Str → Option Value) (s : Shared) (Q E : Value → Shared → Prop)
    (B : Below A₀ base outer h₀) (F : Fr h₀ L s.heap m) (X : (KK w.params).In h₀) (N : News h₀ L s.heap news) (T : Top qq (looseW qq looseQ) mean mg mb h₀) (hcs : cs.kind = .function) (hdp : dp + 3 < recursionLimit) (hun : un + 20 < cLine)
    (hret : ∀ h' tk' t, Fr h₀ L h' m → News h₀ L h' news → Q (.int (ys.length : Int) t) { s with heap := h', toks := tk' }) :
    wpAny (model PySem.Challenge.rw_wc0029_01.row.prog w) (ktrTop dp un gd cn cs L a ccd cl outer) (call (.ref 114) [.ref x]) Q E s := by
  revert B F X N T hcs hdp hun hret; k_fill; intro B F X N T hcs hdp hun hret
  refine wpAny_call ?_
  walk_at "MINE superEnter"
  refine ks_wpAt_execs_cons ?_
  refine ks_wpAt_Return_some ?_
  refine ks_wpAt_MethodCall ?_
  k_dflt (refine ks_node (by k_asm) (by k_asm) (by k_asm) (by k_asm) (by k_is) (by rfl) (by rfl) (inst_of (C := 117) (by k_asm) hxm hdm) (by k_is) (by rfl) (by first | rfl | decide +kernel) (by k_is) (by k_is) (by k_is) (by k_is) (by decide) (by rfl) (by rfl) (by rfl) (by rfl) (by decide +kernel) (by first | boot_by_name | rfl | kernel_rfl) ?_)
  intro so' h' F' N' l3
  refine' method_superL ws_len F' ?m1 N' (.head _) (inst_of N' (.tail _ hxm) (.tail _ hdm)) ?m2 ?m3 ?m4 (by decide) ?_
  case m1 => k_asm
  case m2 => k_is
  case m3 => first | ks_is | kernel_rfl
  case m4 => k_is
  intro q' h' F' N' l4
  refine callWith_W0 (N' _ (.head _)).1 ?_
  refine len_L N' (.head _) (.tail _ (.tail _ hxm)) ?_
  intro t' tk'
  k_steps
  exact hret _ _ _ (by k_asm) (cb_drop (by k_asm) fun p hp => List.mem_cons_of_mem _ (List.mem_cons_of_mem _ hp))
end Mine
end
section
open PySem PySem.W PyProof.Rows PySem.Spec PySem.Calls
set_option Elab.async false
set_option maxRecDepth 1000000
set_option linter.unusedVariables false
set_option linter.unusedSimpArgs false
namespace Mine
local macro_rules | `(tactic| walk_at "MINE superEnter") => `(tactic| (refine' ks_code_super ?k1 ?k2 ?k3 ?k4 ?k5 ?kA ?kF ?kK ?k6 ?k7 ?k8 ?k9 ?kB ?_ ?c1 ?c2 ?c3 ?c4; (case kA => exact rfl); (case kF => exact rfl); (case kK => first | exact rfl | assumption); (case k1 => k_asm); (case k2 => k_asm); (case k3 => k_asm); (case k4 => k_asm); (case k5 => k_asm); (case k6 => k_is); (case k7 => k_is); (case k8 => ktr_room); (case k9 => first | exact BindsTo.of_eq rfl | exact binds_K (by k_in) rfl (by k_is) rfl rfl rfl); (case kB => exact locs rfl); (case c1 => decide); (case c2 => exact rfl); (case c3 => exact rfl); (case c4 => exact rfl); intro g' L' h' FG' F' N' B' X' T' l1; (try k_lt l1); (try dsimp only); (try k_lift B')))
set_option maxHeartbeats 4000000 in
theorem new_claim (w : World) (mean : ExcName → Option Value) (mg mb : Str → Option Value) (news : List (Addr × Obj)) (dp un : Nat) (gd : Option (List Code)) (cn : Str) (cs : Scope) (a : Addr) (ccd : Value) (cl : List (Str × Addr)) (outer : List Env) (A₀ : Around) (base h₀ : Heap) (L : Addr) (m : Str → Option Value) (s : Shared) (Q E : Value → Shared → Prop)
    (B : Below A₀ base outer h₀) (F : Fr h₀ L s.heap m) (X : (KK w.params).In h₀) (N : News h₀ L s.heap news) (T : Top qq (looseW qq looseQ) mean mg mb h₀) (hcs : cs.kind = .function) (hdp : dp + 3 < recursionLimit) (hun : un + 20 < cLine)
    (hret : ∀ h' tk' x dx hs tv v, Fr h₀ L h' m → News h₀ L h' ((x, pileO 117 dx [] 0) :: (dx, odI hs tv v) :: news) → (∀ p ∈ news, p.1 < dx) → dx < x → Q (.ref x) { s with heap := h', toks := tk' }) :
    wpAny (model PySem.Challenge.rw_wc0029_01.row.prog w) (ktrTop dp un gd cn cs L a ccd cl outer) (call (.ref 117) []) Q E s := by
  revert B F X N T hcs hdp hun hret; k_fill; intro B F X N T hcs hdp hun hret
  refine wpAny_call ?_
  refine' make_L ?m1 ?m2 ?m3 ?m4 ?m5 ?m6 ?_
  case m1 => k_asm
  case m2 => k_asm
  case m3 => k_in
  case m4 => kernel_rfl
  case m5 => k_is
  case m6 => k_is
  intro x' dx' h' F' N' l1 l2
  walk_at "MINE superEnter"
  k_steps
  refine' set_L ?n1 ?n2 ?n3 ?n4 ?n5 ?n6 ?n7 ?n8 ?n9 ?n10 ?_
  case n1 => k_asm
  case n2 => k_asm
  case n3 => k_asm
  case n4 => exact Nat.ne_of_gt l2
  case n5 => exact fun p hp => Nat.ne_of_lt (l1 p hp)
  case n6 => k_is
  case n7 => exact rfl
  case n8 => exact rfl
  case n9 => exact rfl
  case n10 => k_is
  intro h' F' N'
  dsimp only
  refine ks_wpAt_execs_cons ?_
  refine ks_wpAt_Expr_any ?_
  refine ks_wpAt_MethodCall ?_
  k_dflt (refine ks_node (by k_asm) (by k_asm) (by k_asm) (by k_asm) (by k_is) (by rfl) (by rfl) (inst_of N' (by k_mem) (by k_mem)) (by k_is) (by rfl) (by first | rfl | decide +kernel) (by k_is) (by k_is) (by k_is) (by k_is) (by decide) (by rfl) (by rfl) (by rfl) (by rfl) (by decide +kernel) (by first | boot_by_name | rfl | kernel_rfl) ?_)
  intro so' h' F' N' l3
  refine' method_superL ws_init F' ?m1 N' (.head _) (inst_of N' (by k_mem) (by k_mem)) ?m2 ?m3 ?m4 (by decide) ?_
  case m1 => k_asm
  case m2 => k_is
  case m3 => first | ks_is | kernel_rfl
  case m4 => k_is
  intro q' h' F' N' l4
  refine callWith_W0 (N' _ (.head _)).1 ?_
  refine init_L F' N' (.head _) (by k_mem) ?_
  intro h' F' N'
  dsimp only
  k_steps
  refine hret _ _ x' dx' _ _ _ (by k_asm) (cb_drop (by k_asm) fun p hp => List.mem_cons_of_mem _ (List.mem_cons_of_mem _ hp)) l1 l2
end Mine
end
section
open PySem PySem.W PyProof.Rows PySem.Spec PySem.Calls
set_option Elab.async false
set_option maxRecDepth 1000000
set_option linter.unusedVariables false
set_option linter.unusedSimpArgs false
namespace Mine
local macro_rules | `(tactic| walk_at "SrcLP") => `(tactic| refine hold ?_)
local macro_rules | `(tactic| walk_at "getMethod ref") => `(tactic| (k_here; k_dflt (refine' method_L ?k1 (inst_of (C := 117) ?k2 ?k3 ?k4) ?k5 ?k6 ?k7 ?k8 ?k9 ?k10 ?_; (case k2 => k_asm); (case k3 => first | k_mem | assumption); (case k4 => first | k_mem | assumption); (case k1 => k_in); (case k5 => k_is); (case k6 => k_is); (case k7 => k_is); (case k8 => k_is); (case k9 => decide); (case k10 => rfl))))
noncomputable def noExpr : Expr := .Name (Str.ofString "") ⟨0, 0, 0, 0⟩
noncomputable def codeFor : List Stmt := match (b_18 : List Stmt)[3]? with | some (Stmt.For _ _ b _ _) => b | _ => []
noncomputable def codeIf : List Stmt := match codeFor[1]? with | some (Stmt.If _ b _ _) => b | _ => []
noncomputable def dipComp0 : Expr := match codeIf[0]? with | some (Stmt.Assign _ (Expr.Call _ (c :: _) _ _) _) => c | _ => noExpr
section
variable {prog : Program} {w : World} {A : Around} {E : Value → Shared → Prop} {s : Shared} {h₀ : Heap} {L : Addr} {m : Str → Option Value} {env : Env}
theorem restP_same {elt : Expr} {x x₂ : Str} {scope : Scope} {cl : List (Str × Addr)} {S : List (Addr × Obj) → Prop} {P : Nat → Value → Prop} {Fin : List Value → List (Addr × Obj) → Prop} {n : Nat} {news : List (Addr × Obj)}
    (Inv : Nat → List Value → Prop) (h0 : Inv 0 [])
    (turn : ∀ i ys v, i < n → Inv i ys → P i v → ∃ (t : Addr) (ot : Obj) (v₁ v₂ : Value) (nt : Nat), v = .ref t ∧ (t, ot) ∈ news ∧ ot.cls = .type "tuple" ∧ ot.data = .seq #[v₁, v₂] nt ∧
      ∀ I oI C oC D m₂ h tk (E' : Value → Shared → Prop), LCg.NsObj oC m₂ → m₂ x = some v₁ → m₂ x₂ = some v₂ → Fr h₀ L h m → News h₀ L h ((I, oI) :: (C, oC) :: (D, LCg.lst ys) :: news) → LCg.Off3 I C D news → ((@Ne Nat I C) ∧ (@Ne Nat I D) ∧ (@Ne Nat C D)) →
      wpAny (model prog w) A (eval elt (compEnvC scope cl C env)) (LCg.CompEnd h₀ L m { s with heap := h, toks := tk } I oI C oC D (LCg.lst ys) S (fun y news' => news' = news ∧ Inv (i + 1) (ys ++ [y]))) E' { s with heap := h, toks := tk })
    (fin : ∀ ys, Inv n ys → Fin ys news) : LCp.CompRestP prog w A h₀ L m env elt x x₂ scope cl s S P Fin n 0 [] news :=
  restP_inv (fun i ys nw => nw = news ∧ Inv i ys) ⟨rfl, h0⟩ (by rintro i ys _ v hi ⟨rfl, hy⟩; exact turn i ys v hi hy) (by rintro ys _ ⟨rfl, hy⟩; exact fin ys hy)
end
theorem paired_len {α β : Type} {F : α → β → Prop} : ∀ {as : List α} {bs : List β}, Paired F as bs → as.length = bs.length
  | _, _, .nil => rfl
  | _, _, .cons _ r => by simp [paired_len r]
theorem paired_at {α β : Type} {F : α → β → Prop} : ∀ {as : List α} {bs : List β}, Paired F as bs → ∀ (j : Nat) (a : α), as[j]? = some a → ∃ b, bs[j]? = some b ∧ F a b
  | _, _, .nil, j, a, h => by simp at h
  | _, _, .cons hf r, 0, a, h => by simp at h; subst h; exact ⟨_, rfl, hf⟩
  | _, _, .cons hf r, j + 1, a, h => by simp at h ⊢; exact paired_at r j a h
@[reducible] noncomputable def dipComp : Expr := litOf dipComp0 _ (by conv => lhs; whnf)
set_option maxHeartbeats 4000000 in
theorem dip_claim (w : World) (mean : ExcName → Option Value) (mg mb : Str → Option Value) (x : Addr) (dx : Addr) (ys : List Value) (nn : Nat) (hs : Int) (tv : Tok) (v : Value) (cc : Nat → Str) (js : List Nat) (rest : List (Addr × Obj)) (hx : ∀ p ∈ (dx, odI hs tv v) :: rest, p.1 ≠ x) (hz : ys.length ≤ 999)
    (hP : Paired (fun j v => ∃ p c t1 t2, v = .ref p ∧ (p, ({ cls := .type "tuple", data := .seq #[.str (Str.ofString "") t1, .str (cc j) t2] c } : Obj)) ∈ rest) js ys)
    (dp un : Nat) (gd : Option (List Code)) (cn : Str) (cs : Scope) (L0 a : Addr) (ccd : Value) (cl : List (Str × Addr)) (outer : List Env) (base h₀ : Heap) (L : Addr) (m : Str → Option Value) (s : Shared) (Q E : Value → Shared → Prop)
    (F : Fr h₀ L s.heap m) (hm : m (Str.ofString "pile") = some (.ref x)) (X : (KK w.params).In h₀) (N : News h₀ L s.heap ((x, pileO 117 dx ys nn) :: (dx, odI hs tv v) :: rest)) (T : Top qq (looseW qq looseQ) mean mg mb h₀) (hcs : cs.kind = .function) (hdp : dp + 5 < recursionLimit) (hun : un + 30 < cLine)
    (hB : Below (ktrTop dp un gd cn cs L0 a ccd cl outer) base (envX cn cs L0 a ccd cl :: outer) h₀)
    (hret : ∀ h' tk' D k vs, StrsAre vs (js.map cc) → Fr h₀ L h' m → News h₀ L h' ((D, LCg.lst vs) :: (x, pileO 117 dx [] k) :: (dx, odI hs tv v) :: rest) → Q (.ref D) { s with heap := h', toks := tk' }) :
    wpAny (model PySem.Challenge.rw_wc0029_01.row.prog w) ((ktrTop dp un gd cn cs L0 a ccd cl outer).deeper (envOfC (Str.ofString "_law_code") s_18 L 343 (.ref 342))) (eval dipComp (envOfC (Str.ofString "_law_code") s_18 L 343 (.ref 342))) Q E s := by
  revert F X N T hcs hdp hun hB hret; k_fill; intro F X N T hcs hdp hun hB hret
  unfold dipComp litOf
  k_dflt (refine LCp.ListComp_P (F₀ := by k_asm) (by with_unfolding_all rfl) (by decide) (by rfl) (by decide) (by rfl) (by rfl) (by decide) ?_)
  k_steps
  refine nameX_L F hm ?_
  k_steps
  refine' pop_claim w mean mg mb x dx ys nn (odI hs tv v) _ [] ((dx, odI hs tv v) :: rest) ?p1 ?p2 ?p3 _ _ _ _ _ _ _ _ _ _ _ _ _ _ _ _ _ ?pB ?pF ?pX ?pN ?pT ?pcs ?pdp ?pun ?pret
  case pN => k_asm
  case pB => exact hB
  case pF => k_asm
  case pX => k_asm
  case pT => k_asm
  case pcs => exact rfl
  case pdp => show dp + 1 + 3 < _; omega
  case pun => first | omega | (show un + 20 < _; omega) | (show un + 3 + 20 < cLine; omega)
  case p2 => exact hx
  case p3 => omega
  case p1 => exact fun _ h => nomatch h
  intro h' tk' D k F' N' hne hDx
  have hlen := paired_len hP
  refine LCp.SrcLP.ledger (k := 0) rfl (by k_asm) N' (.head _) (by rw [List.size_toArray, sizeLine_eq]; omega) ?_
  intro g2
  refine restP_same (fun i ys2 => StrsAre ys2 ((js.take i).map cc)) .nil ?_ ?_
  · intro i2 ys2 v2 hi2 hI hv
    rw [List.size_toArray] at hi2
    have hj : i2 < js.length := by omega
    obtain ⟨v', hv', p2, c2, tp3, tp4, e, hm2⟩ := paired_at hP i2 js[i2] (by simp [hj])
    have hv2 : v2 = v' := by have hv3 : ys[i2]? = some v2 := by simpa using hv
                             rw [hv'] at hv3; exact (Option.some.inj hv3).symm
    refine ⟨p2, _, .str (Str.ofString "") tp3, .str (cc js[i2]) tp4, c2, hv2.trans e, List.mem_cons_of_mem _ (List.mem_cons_of_mem _ (List.mem_cons_of_mem _ hm2)), rfl, rfl, ?_⟩
    intro I2 oI2 C2 oC2 D2 m2 h2 tk2 E2 hC2 hx2 hx3 F2 N2 off2 ne2
    k_steps
    refine' LCg.CompEnd.intro F2 N2 _ (fun p hp => hp) off2 (.inr ⟨_, .head _, rfl, _, rfl⟩) ⟨rfl, ?_⟩
    rw [List.take_add_one, List.getElem?_eq_getElem hj, List.map_append]
    exact kct_snoc hI
  · intro ys2 hS
    rw [List.size_toArray, ← hlen, List.take_length] at hS
    unfold LCg.FinE
    intro D3 h3 tk3 F3 N3 off3
    exact hret _ _ D3 k ys2 hS F3 (cb_drop N3 fun p hp => by simp only [List.mem_cons, List.nil_append] at hp ⊢; rcases hp with h | h | h | h <;> simp [h])
end Mine
end
section
open PySem PySem.W PyProof.Rows PySem.Spec PySem.Calls
set_option Elab.async false
set_option maxRecDepth 1000000
set_option linter.unusedVariables false
set_option linter.unusedSimpArgs false
namespace Mine
local macro_rules | `(tactic| walk_at "eval ListComp") => `(tactic| refine hold ?_)
local macro_rules | `(tactic| walk_at "pyIter ref") => `(tactic| refine hold ?_)
local macro_rules | `(tactic| walk_at "call builtin:str.join") => `(tactic| refine hold ?_)
local macro_rules | `(tactic| walk_at "CompSrc") => `(tactic| refine hold ?_)
local macro_rules | `(tactic| walk_at "CompSrcT") => `(tactic| refine hold ?_)
local macro_rules | `(tactic| walk_at "getMethod ref") => `(tactic| (k_here; k_dflt (refine' method_L ?k1 (inst_of (C := 117) ?k2 ?k3 ?k4) ?k5 ?k6 ?k7 ?k8 ?k9 ?k10 ?_; (case k2 => k_asm); (case k3 => k_mem); (case k4 => k_mem); (case k1 => k_in); (case k5 => k_is); (case k6 => k_is); (case k7 => k_is); (case k8 => k_is); (case k9 => decide); (case k10 => rfl))))
local macro_rules | `(tactic| walk_at "MINE enterC") => `(tactic| (k_dflt (refine' code_defC ?k1 ?k2 ?k3 ?k4 ?k5 ?kA ?kF ?kK ?k6 ?k7 ?k8 ?k9 ?kB ?kD ?_ ?c2 ?c3 ?c4; (case kA => exact rfl); (case kF => exact rfl); (case kK => assumption); (case k1 => k_asm); (case k2 => k_asm); (case k3 => k_asm); (case k4 => k_asm); (case k5 => k_asm); (case k6 => k_is); (case k7 => k_is); (case k8 => ktr_room); (case k9 => exact BindsTo.of_eq rfl); (case kB => exact rfl); (case kD => decide +kernel); (case c2 => exact rfl); (case c3 => exact rfl); (case c4 => exact rfl); k_whole; intro g' L' h' tk' cells' FG' F' N' Y' B' X' T' l1; (try k_lt l1); k_cells Y'; (try simp only [List.cons_append, List.nil_append] at N'); (try dsimp only); (try k_lift B'); (try k_fold))))
noncomputable def Part (x : Str) (st : Nat) (rest : List (Addr × Obj)) (j : Nat) (v : Value) : Prop := ∃ p c t1 t2, v = .ref p ∧ (p, ({ cls := .type "tuple", data := .seq #[.str (Str.ofString "") t1, .str (chAt x st j) t2] c } : Obj)) ∈ rest
theorem Part.mono {x : Str} {st : Nat} {rest rest' : List (Addr × Obj)} (h : ∀ p ∈ rest, p ∈ rest') : ∀ {js : List Nat} {ys : List Value}, Paired (Part x st rest) js ys → Paired (Part x st rest') js ys
  | _, _, .nil => .nil
  | _, _, .cons ⟨p, c, t1, t2, e, hp⟩ r => .cons ⟨p, c, t1, t2, e, h _ hp⟩ (Part.mono h r)
noncomputable def CodeJ (x : Str) (st n : Nat) (m₀ : Str → Option Value) (xp dp cL : Addr) (od oc : Obj) (base : List (Addr × Obj)) (i : Nat) (m₁ : Str → Option Value) (nw : List (Addr × Obj)) : Prop :=
  ∃ (dv kv : Option Value) (l : Nat) (ys : List Value) (nn : Nat) (rest : List (Addr × Obj)), m₁ = (fun y => if y = Str.ofString "dip" then dv else if y = Str.ofString "k" then kv else m₀ y) ∧
    nw = (xp, pileO 117 dp ys nn) :: (dp, od) :: (cL, oc) :: rest ∧ (∀ p ∈ base, p ∈ rest) ∧ (∀ p ∈ (dp, od) :: (cL, oc) :: rest, p.1 ≠ xp) ∧ l ≤ i ∧ Paired (Part x st rest) (List.range' (i - l) l) ys ∧ codeRun (chAt x st) (n - i) i l = codeRun (chAt x st) n 0 0
theorem codeJ_start {x : Str} {st n : Nat} {m₀ : Str → Option Value} {xp dp cL : Addr} {od oc : Obj} {base : List (Addr × Obj)} {k : Nat} (h : ∀ p ∈ (dp, od) :: (cL, oc) :: base, p.1 ≠ xp) : CodeJ x st n m₀ xp dp cL od oc base 0 m₀ ((xp, pileO 117 dp [] k) :: (dp, od) :: (cL, oc) :: base) :=
  ⟨m₀ (Str.ofString "dip"), m₀ (Str.ofString "k"), 0, [], k, base, by funext y; by_cases h1 : y = Str.ofString "dip" <;> by_cases h2 : y = Str.ofString "k" <;> simp_all, rfl, fun _ h => h, h, Nat.le_refl _, .nil, rfl⟩
theorem paired_snoc {α β : Type} {F : α → β → Prop} {a : α} {b : β} : ∀ {l₁ : List α} {l₂ : List β}, Paired F l₁ l₂ → F a b → Paired F (l₁ ++ [a]) (l₂ ++ [b])
  | _, _, .nil, h => .cons h .nil
  | _, _, .cons z r, h => .cons z (paired_snoc r h)
theorem parts_all {x : Str} {st i l D : Nat} {rest led : List (Addr × Obj)} {ys : List Value} {t1 t2 : Tok} {c : Nat} (h : Paired (Part x st rest) (List.range' (i - l) l) ys) (hl : l ≤ i) (hs : ∀ p ∈ rest, p ∈ led) (hm : (D, ({ cls := .type "tuple", data := .seq #[.str (Str.ofString "") t1, .str (chAt x st i) t2] c } : Obj)) ∈ led) :
    Paired (Part x st led) (List.range' (i - l) (l + 1)) (ys ++ [.ref D]) := by
  have h1 := paired_snoc (Part.mono hs h) (a := i - l + 1 * l) (b := .ref D) ⟨D, c, t1, t2, rfl, by rw [show i - l + 1 * l = i by omega]; exact hm⟩
  rwa [← List.range'_concat] at h1
theorem codeJ_next {x : Str} {st n : Nat} {m₀ : Str → Option Value} {xp dp cL D : Addr} {od oc : Obj} {base rest : List (Addr × Obj)} {i l k c : Nat} {ys : List Value} {dv kv kv' : Option Value} {t1 t2 : Tok} (hi : i < n) (hb : ∀ p ∈ base, p ∈ rest) (hx : ∀ p ∈ (dp, od) :: (cL, oc) :: rest, p.1 ≠ xp) (hD : D ≠ xp) (hl : l ≤ i)
    (hP : Paired (Part x st rest) (List.range' (i - l) l) ys) (hrun : codeRun (chAt x st) (n - i) i l = codeRun (chAt x st) n 0 0) (hc : ¬ (1 ≤ l ∧ (chAt x st (i - 1)).cps.toList < (chAt x st i).cps.toList)) :
    CodeJ x st n m₀ xp dp cL od oc base (i + 1) (fun y => if y = Str.ofString "k" then kv' else if y = Str.ofString "dip" then dv else if y = Str.ofString "k" then kv else m₀ y) ((xp, pileO 117 dp (ys ++ [.ref D]) k) :: (dp, od) :: (cL, oc) :: (D, ({ cls := .type "tuple", data := .seq #[.str (Str.ofString "") t1, .str (chAt x st i) t2] c } : Obj)) :: rest) := by
  refine ⟨dv, kv', l + 1, ys ++ [.ref D], k, _, ?_, rfl, fun p hp => List.mem_cons_of_mem _ (hb p hp), ?_, by omega, ?_, ?_⟩
  · have hdk : Str.ofString "dip" ≠ Str.ofString "k" := by decide +kernel
    funext y; by_cases h1 : y = Str.ofString "dip" <;> by_cases h2 : y = Str.ofString "k" <;> simp_all
  · simp only [List.forall_mem_cons] at hx ⊢
    exact ⟨hx.1, hx.2.1, hD, hx.2.2⟩
  · rw [show i + 1 - (l + 1) = i - l by omega]
    exact parts_all hP hl (fun p hp => List.mem_cons_of_mem _ hp) (.head _)
  · rw [← hrun, show n - i = (n - (i + 1)) + 1 by omega]
    conv => rhs; unfold codeRun
    rw [if_neg hc]
theorem codeJ_pop {x : Str} {st n : Nat} {m₀ : Str → Option Value} {xp dp cL : Addr} {od oc : Obj} {base rest : List (Addr × Obj)} {i l k : Nat} {dv dv' kv kv' : Option Value} (hi : i < n) (hb : ∀ p ∈ base, p ∈ rest) (hx : ∀ p ∈ (dp, od) :: (cL, oc) :: rest, p.1 ≠ xp)
    (hrun : codeRun (chAt x st) (n - i) i l = codeRun (chAt x st) n 0 0) (hc : 1 ≤ l ∧ (chAt x st (i - 1)).cps.toList < (chAt x st i).cps.toList) (he : ¬ (l + 1) % 2 = 1) :
    CodeJ x st n m₀ xp dp cL od oc base (i + 1) (fun y => if y = Str.ofString "dip" then dv' else if y = Str.ofString "k" then kv' else if y = Str.ofString "dip" then dv else if y = Str.ofString "k" then kv else m₀ y) ((xp, pileO 117 dp [] k) :: (dp, od) :: (cL, oc) :: rest) := by
  refine ⟨dv', kv', 0, [], k, _, ?_, rfl, hb, hx, by omega, .nil, ?_⟩
  · funext y; by_cases h1 : y = Str.ofString "dip" <;> by_cases h2 : y = Str.ofString "k" <;> simp_all
  · rw [← hrun, show n - i = (n - (i + 1)) + 1 by omega]
    conv => rhs; unfold codeRun
    rw [if_pos hc, if_neg he]
theorem last_part {x : Str} {st i l : Nat} {rest : List (Addr × Obj)} {ys : List Value} (h : Paired (Part x st rest) (List.range' (i - l) l) ys) (hl : l ≤ i) (v : Value) (h1 : (1 : Int) < (((ys ++ [v]).length : Nat) : Int)) :
    ys.length = l ∧ 1 ≤ l ∧ ∃ p c t1 t2, (ys ++ [v])[((-2 : Int) + ((ys ++ [v]).length : Nat)).toNat]? = some (.ref p) ∧ (p, ({ cls := .type "tuple", data := .seq #[.str (Str.ofString "") t1, .str (chAt x st (i - 1)) t2] c } : Obj)) ∈ rest := by
  have hlen := paired_len h
  rw [List.length_range'] at hlen
  rw [List.length_append, List.length_singleton] at h1
  have h2 : 1 ≤ l := by omega
  obtain ⟨b, hb, p, c, t1, t2, e, hp⟩ := paired_at h (l - 1) (i - 1) (by rw [List.getElem?_range' (by omega)]; simp; omega)
  refine ⟨hlen.symm, h2, p, c, t1, t2, ?_, hp⟩
  rw [List.length_append, List.length_singleton, ← hlen]
  rw [show ((-2 : Int) + ((l + 1 : Nat) : Int)).toNat = l - 1 by omega]
  rw [List.getElem?_append_left (by omega), hb, e]
theorem new_part {ys : List Value} {v : Value} : (ys ++ [v])[((-1 : Int) + ((ys ++ [v]).length : Nat)).toNat]? = some v := by
  rw [List.length_append, List.length_singleton, show ((-1 : Int) + ((ys.length + 1 : Nat) : Int)).toNat = ys.length by omega]
  simp
theorem news_add {h₀ h : Heap} {L : Addr} {p : Addr × Obj} {news : List (Addr × Obj)} (N : News h₀ L h news) (hp : p ∈ news) : News h₀ L h (p :: news) := fun q hq => by
  rcases List.mem_cons.mp hq with rfl | hq
  · exact N _ hp
  · exact N _ hq
theorem reorder4 {h₀ h : Heap} {L : Addr} {c d e f : Addr × Obj} {news : List (Addr × Obj)} (N : News h₀ L h (c :: d :: e :: f :: news)) : News h₀ L h (c :: d :: f :: e :: news) := fun p hp => N p (by
  simp only [List.mem_cons] at hp ⊢
  rcases hp with h | h | h | h | h <;> simp [h])
theorem reorder3 {h₀ h : Heap} {L : Addr} {c d e f : Addr × Obj} {news : List (Addr × Obj)} (N : News h₀ L h (e :: c :: d :: f :: news)) : News h₀ L h (c :: d :: e :: f :: news) := fun p hp => N p (by
  simp only [List.mem_cons] at hp ⊢
  rcases hp with h | h | h | h | h <;> simp [h])
theorem room4 {d : Nat} (h : d + 10 < recursionLimit) : d + 1 + 3 < recursionLimit := by omega
theorem room5 {d : Nat} (h : d + 10 < recursionLimit) : d + 5 < recursionLimit := by omega
theorem unit3 {u : Nat} (h : u + 60 < cLine) : u + 3 + 20 < cLine := by omega
theorem unit30 {u : Nat} (h : u + 60 < cLine) : u + 30 < cLine := by omega
theorem off_ledger {I xp D : Addr} {o1 o2 o4 : Obj} {a b : Addr × Obj} {rest : List (Addr × Obj)} (hI : ∀ p ∈ (xp, o1) :: a :: b :: rest, p.1 ≠ I) (hD : I ≠ D) : ∀ p ∈ (xp, o2) :: a :: b :: (D, o4) :: rest, p.1 ≠ I := by
  intro p hp
  simp only [List.mem_cons] at hp
  rcases hp with h | h | h | h | h
  · rw [h]; exact hI (xp, o1) (.head _)
  · exact hI p (.tail _ (by rw [h]; exact .head _))
  · exact hI p (.tail _ (.tail _ (by rw [h]; exact .head _)))
  · rw [h]; exact fun e => hD e.symm
  · exact hI p (.tail _ (.tail _ (.tail _ h)))
theorem turn_sub {a b c d e : Addr × Obj} {rest : List (Addr × Obj)} : ∀ p ∈ [e] ++ (a :: b :: c :: d :: rest), p ∈ a :: b :: d :: e :: c :: rest := by
  intro p hp
  simp only [List.cons_append, List.nil_append, List.mem_cons] at hp ⊢
  rcases hp with h | h | h | h | h | h <;> simp [h]
theorem pop_sub {a b c d e g : Addr × Obj} {rest : List (Addr × Obj)} : ∀ p ∈ [e] ++ (a :: b :: c :: rest), p ∈ g :: a :: b :: d :: e :: c :: rest := by
  intro p hp
  simp only [List.cons_append, List.nil_append, List.mem_cons] at hp ⊢
  rcases hp with h | h | h | h | h <;> simp [h]
theorem off_ledger3 {I xp : Addr} {o1 o2 : Obj} {a b : Addr × Obj} {rest : List (Addr × Obj)} (hI : ∀ p ∈ (xp, o1) :: a :: b :: rest, p.1 ≠ I) : ∀ p ∈ (xp, o2) :: a :: b :: rest, p.1 ≠ I := by
  intro p hp
  rcases List.mem_cons.mp hp with h | h
  · rw [h]; exact hI (xp, o1) (.head _)
  · exact hI p (.tail _ h)
theorem odd_of {d : Nat} (h : ((d : Nat) : Int).fmod 2 = 1) : d % 2 = 1 := by
  rw [Int.fmod_eq_emod_of_nonneg _ (by decide)] at h
  omega
theorem even_of {d : Nat} (h : ((d : Nat) : Int).fmod 2 ≠ 1) : ¬ d % 2 = 1 := by
  rw [Int.fmod_eq_emod_of_nonneg _ (by decide)] at h
  omega
theorem code_ret {x : Str} {n st i l d : Nat} {rest : List Nat} (hn : x.length = n) (hst : startsOf x n = st :: rest) (hi : i < n) (hrun : codeRun (chAt x st) (n - i) i l = codeRun (chAt x st) n 0 0) (hc : 1 ≤ l ∧ (chAt x st (i - 1)).cps.toList < (chAt x st i).cps.toList)
    (hd : d = l + 1) (ho : ((d : Nat) : Int).fmod 2 = 1) : Txt.slice x (some ((0 + (st : Int) + (i : Int) + 1 - ((d : Nat) : Int)).fmod (x.length : Int))) none ++ Txt.slice x none (some ((0 + (st : Int) + (i : Int) + 1 - ((d : Nat) : Int)).fmod (x.length : Int))) = lawCode x := by
  have ho' := odd_of ho
  have : codeRun (chAt x st) n 0 0 = some (i, l + 1) := by
    rw [← hrun, show n - i = (n - (i + 1)) + 1 by omega]
    unfold codeRun
    rw [if_pos hc, if_pos (by omega)]
  unfold lawCode
  rw [hn, hst]
  dsimp only
  rw [this, hd]
theorem code_none {x : Str} {n st l : Nat} {rest : List Nat} (hn : x.length = n) (hst : startsOf x n = st :: rest) (hrun : codeRun (chAt x st) (n - n) n l = codeRun (chAt x st) n 0 0) : Str.ofString "" = lawCode x := by
  rw [Nat.sub_self] at hrun
  unfold lawCode
  rw [hn, hst]
  dsimp only
  rw [← hrun]
  rfl
theorem starts_lt {x : Str} {n st : Nat} {rest : List Nat} (h : startsOf x n = st :: rest) : st < n := by
  have : st ∈ startsOf x n := by rw [h]; exact .head _
  exact List.mem_range.mp (List.mem_filter.mp this).1
theorem small_range {n st : Nat} {x : Str} {rest : List Nat} (hp3 : n = 3 ∨ n = 5) (h : startsOf x n = st :: rest) : Builtin.Range.small (0 + (st : Int)) (0 + (st : Int) + (n : Int)) 1 = true := by
  have := starts_lt h
  rcases hp3 with rfl | rfl
  · match st, this with
    | 0, _ => decide
    | 1, _ => decide
    | 2, _ => decide
  · match st, this with
    | 0, _ => decide
    | 1, _ => decide
    | 2, _ => decide
    | 3, _ => decide
    | 4, _ => decide
theorem size_range {n st : Nat} (hp3 : n = 3 ∨ n = 5) : Builtin.Range.rangeSize (0 + (st : Int)) (0 + (st : Int) + (n : Int)) 1 = ((n : Nat) : Int) := by
  unfold Builtin.Range.rangeSize
  simp
  omega
theorem starts_yes {x : Str} {i : Nat} {ys : List Value} {t : Tok} (h : IntsAre ys ((startsOf x i).map fun (k : Nat) => (0 + (k : Int)))) (e : dipAt x i = true) : IntsAre (ys ++ [.int (0 + (i : Int)) t]) ((startsOf x (i + 1)).map fun (k : Nat) => (0 + (k : Int))) := by
  have : startsOf x (i + 1) = startsOf x i ++ [i] := by unfold startsOf; rw [List.range_succ, List.filter_append]; simp [e]
  rw [this, List.map_append]
  exact h.append (.cons _ _ .nil)
theorem starts_no {x : Str} {i : Nat} {ys : List Value} (h : IntsAre ys ((startsOf x i).map fun (k : Nat) => (0 + (k : Int)))) (e : dipAt x i = false) : IntsAre ys ((startsOf x (i + 1)).map fun (k : Nat) => (0 + (k : Int))) := by
  have : startsOf x (i + 1) = startsOf x i := by unfold startsOf; rw [List.range_succ, List.filter_append]; simp [e]
  rw [this]; exact h
set_option maxHeartbeats 4000000 in
theorem code_claim (w : World) (mean : ExcName → Option Value) (mg mb : Str → Option Value) (news : List (Addr × Obj)) (x : Str) (t1 : Tok) (n : Nat) :
    LClaim PySem.Challenge.rw_wc0029_01.row.prog w (KK w.params) qq (looseW qq looseQ) mean mg mb 343 news (x.length = n ∧ (n = 3 ∨ n = 5) ∧ startsOf x n ≠ []) [.str x t1] (fun t => .str (lawCode x) t) := by
  k_fill
  dsimp only [LClaim, CbRet]; intros; rename_i hret
  refine wpAny_call ?_
  walk_at "MINE enterC"
  k_steps
  refine unhold ?_
  k_dflt (refine LCt.ListComp_T (F₀ := by k_asm) (by with_unfolding_all rfl) (by decide) (by rfl) (by decide) (by rfl) ?_)
  k_steps
  have hp : x.length = n ∧ (n = 3 ∨ n = 5) ∧ startsOf x n ≠ [] := by assumption
  obtain ⟨hp1, hp3, hp4⟩ := hp
  refine unhold ?_
  refine' LCt.CompSrcT.range (n := n) ?a1 ?a2 ?a3 ?a4 ?a5 ?a6 ?a7 ?_
  case a1 => rfl
  case a2 => k_asm
  case a3 => k_asm
  case a4 => assumption
  case a5 => rw [hp1]; rcases hp3 with rfl | rfl <;> decide
  case a6 => rw [hp1]; rcases hp3 with rfl | rfl <;> rfl
  case a7 => rcases hp3 with rfl | rfl <;> decide
  intro g''
  refine restT_same (fun i ys => IntsAre ys ((startsOf x i).map fun (k : Nat) => (0 + (k : Int)))) .nil ?_ ?_
  · intro i ys v I' oI' C' oC' D' m' h' tk' E' hin hI hv hC' hx' F' N' off' ne'
    obtain ⟨tv, rfl⟩ := hv
    k_steps
    · refine' LCg.CompEnd.intro ?cF ?cN _ ?cS ?cO ?cT ⟨rfl, starts_no hI ?e⟩
      case cF => assumption
      case cN => assumption
      case cS => kcf_all
      case cO => exact off'
      case cT => trivial
      case e => rename (_ < _) => hlt; unfold dipAt; rw [Bool.and_eq_false_iff]; exact .inl (decide_eq_false fun h => h hlt)
    · refine' LCg.CompEnd.intro ?cF ?cN _ ?cS ?cO ?cT ⟨rfl, starts_yes hI ?e⟩
      case cF => assumption
      case cN => assumption
      case cS => kcf_all
      case cO => exact off'
      case cT => trivial
      case e => rename (_ < _) => hlt; rename (¬ _ < _) => hnl; unfold dipAt; rw [Bool.and_eq_true_iff]; exact ⟨decide_eq_true hnl, decide_eq_true hlt⟩
    · refine' LCg.CompEnd.intro ?cF ?cN _ ?cS ?cO ?cT ⟨rfl, starts_no hI ?e⟩
      case cF => assumption
      case cN => assumption
      case cS => kcf_all
      case cO => exact off'
      case cT => trivial
      case e => rename (¬ _ < _) => hnl; unfold dipAt; rw [Bool.and_eq_false_iff]; exact .inr (decide_eq_false hnl)
  · intro ys hI
    obtain ⟨st, rest, hst⟩ : ∃ a l, startsOf x n = a :: l := List.exists_cons_of_ne_nil hp4
    rw [hst] at hI
    cases hI with
    | cons k1 t1' hI' =>
    k_steps
    show wpAny _ _ (call (.ref 117) []) _ _ _
    refine' new_claim w mean mg mb _ _ _ _ _ _ _ _ _ _ _ _ _ _ _ _ _ _ ?pB ?pF ?pX ?pN ?pT ?pcs ?pdp ?pun ?pret
    case pB => k_asm
    case pF => k_asm
    case pX => k_asm
    case pN => k_asm
    case pT => k_asm
    case pcs => exact rfl
    case pdp => exact room4 (by assumption)
    case pun => exact unit3 (by assumption)
    intro h' tk' x' dx' hs tv v0 F' N' l1 l2
    try k_lt l1
    have hcx := l1.2.1
    k_steps
    refine unhold ?_
    rename IsRange _ _ _ _ _ _ _ _ => hrange
    refine' iter_range_inv (n := n) (CodeJ x st n _ x' dx' _ (odI hs tv v0) _ _) ?r1 ?r2 (reorder4 ?r3) hrange ?r5 ?r6 (codeJ_start ?r7) ?r8 ?r9
    case r1 => exact rfl
    case r2 => k_asm
    case r3 => k_asm
    case r5 => rw [hp1]; exact small_range hp3 hst
    case r6 => rw [hp1]; exact size_range hp3
    case r7 =>
      intro p hp
      have hq : p.1 < x' := by
        simp only [List.mem_cons] at hp
        rcases hp with h | h | h | h
        · rw [h]; exact l2
        · rw [h]; exact Nat.lt_trans l1.2.1 l2
        · rw [h]; exact Nat.lt_trans l1.1 l2
        · exact Nat.lt_trans (allLt_mem l1.2.2 p h) l2
      exact Nat.ne_of_lt hq
    · intro i t m₁ nw h tk I oI hin hJ F' N' hI
      obtain ⟨dv, kv, l, ys', nn, rest', rfl, rfl, hb, hx, hl, hP, hrun⟩ := hJ
      have hylen := paired_len hP
      rw [List.length_range'] at hylen
      have hm0 : 0 ≤ (0 + (st : Int) + (i : Int)).fmod (x.length : Int) := Int.fmod_nonneg_of_pos _ (by omega)
      have hm1 : (0 + (st : Int) + (i : Int)).fmod (x.length : Int) < x.length := Int.fmod_lt_of_pos _ (by omega)
      k_steps
      refine' push_claim w mean mg mb x' dx' ys' nn hs tv v0 _ _ _ (_ :: _ :: rest') ?q1 ?q2 _ _ _ _ _ _ _ _ _ _ _ _ _ _ _ _ _ ?bB ?bF ?bX (reorder3 ?bN) ?bT ?bcs ?bdp ?bun ?bret
      case bN => k_asm
      case q1 =>
        intro p hp
        simp only [List.mem_cons] at hp
        rcases hp with h | h | h | h
        · exact hx p (by rw [h]; exact .head _)
        · rw [h]; exact fun e => hI _ (.head _) e.symm
        · exact hx p (by rw [h]; exact .tail _ (.head _))
        · exact hx p (.tail _ (.tail _ h))
      case q2 => omega
      case bB => k_asm
      case bF => k_asm
      case bX => k_asm
      case bT => k_asm
      case bcs => exact rfl
      case bdp => exact room4 (by assumption)
      case bun => exact unit3 (by assumption)
      intro h' tk' D F' N' hDx hDr
      k_steps
      show wpAny _ _ (call (.ref 114) [.ref x']) _ _ _
      refine' count_claim w mean mg mb x' dx' (ys' ++ [.ref D]) (nn + 1) hs tv v0 _ ?q3 ?q4 ?q5 _ _ _ _ _ _ _ _ _ _ _ _ _ _ _ _ _ ?cB ?cF ?cX ?cN ?cT ?ccs ?cdp ?cun ?cret
      case cN => exact N'
      case q3 => k_mem
      case q4 => k_mem
      case q5 => rw [List.length_append, List.length_singleton]; omega
      case cB => k_asm
      case cF => k_asm
      case cX => k_asm
      case cT => k_asm
      case ccs => exact rfl
      case cdp => exact room4 (by assumption)
      case cun => exact unit3 (by assumption)
      intro h' tk' tcnt F' N'
      k_steps
      · rename (1 : Int) < _ => hlt
        obtain ⟨hyl, hl1, p, c, tp1, tp2, hat, hpm⟩ := last_part hP hl _ hlt
        have hN := news_add (p := (p, _)) (by k_asm) (by repeat (first | exact hpm | apply List.mem_cons_of_mem))
        refine' item_L ?g1 (News.get hN ?g2) ?g3 ?g4 ?g5 (by decide) ?g6 (by decide) hat ?_
        case g1 => k_in
        case g2 => k_mem
        case g3 => k_is
        case g4 => k_is
        case g5 => k_is
        case g6 => omega
        k_steps
        refine' item_L ?g1 (News.get (by k_asm) ?g2) ?g3 ?g4 ?g5 (by decide) ?g6 (by decide) new_part ?_
        case g1 => k_in
        case g2 => k_mem
        case g3 => k_is
        case g4 => k_is
        case g5 => k_is
        case g6 => omega
        k_steps
        · rename _ < _ => hcmp
          refine unhold ?_
          refine' dip_claim w mean mg mb x' dx' (ys' ++ [.ref D]) (nn + 1) hs tv v0 (chAt x st) (List.range' (i - l) (l + 1)) (_ :: _ :: _ :: rest') ?d1 ?d2 ?d3 _ _ _ _ _ _ _ _ _ _ _ _ _ _ _ _ _ ?dF ?dm ?dX ?dN ?dT ?dcs ?ddp ?dun ?dB ?dret
          case dN => exact N'
          case dF => k_asm
          case dm => exact rfl
          case dX => k_asm
          case dT => k_asm
          case dcs => assumption
          case ddp => exact room5 (by assumption)
          case dun => exact unit30 (by assumption)
          case dB => k_asm
          case d1 =>
            intro p hp
            simp only [List.mem_cons] at hp
            rcases hp with h | h | h | h | h
            · exact hx p (by rw [h]; exact .head _)
            · rw [h]; exact hDx
            · rw [h]; exact fun e => hI _ (.head _) e.symm
            · exact hx p (by rw [h]; exact .tail _ (.head _))
            · exact hx p (.tail _ (.tail _ h))
          case d2 => rw [List.length_append, List.length_singleton]; omega
          case d3 => exact parts_all hP hl (fun p hp => .tail _ (.tail _ (.tail _ hp))) (.head _)
          intro h' tk' D2 k2 vs hS F' N'
          have hc := hS.carried
          rw [List.map_map] at hc
          k_steps
          refine unhold ?_
          refine KT.join_1 (l := List.range' (i - l) (l + 1)) (g := chAt x st) (News.isList N' (.head _)) hc (fun _ _ => rfl) (by rw [List.length_range']; omega) ?_
          intro t9 k9 hdl
          rw [List.length_range'] at hdl
          k_steps
          · rename Int.fmod _ 2 = 1 => hodd
            unfold TurnPost
            dsimp only
            k_steps
            refine' cb_retS hret ?e1 ?e2 ?e3
            case e1 => exact code_ret hp1 hst hin hrun ⟨hl1, hcmp⟩ hdl hodd
            case e2 => k_asm
            case e3 => exact cb_drop (by k_asm) (fun p hp => by repeat (first | exact hb p (.tail _ hp) | apply List.mem_cons_of_mem))
          · rename Int.fmod _ 2 ≠ 1 => hev
            show TurnEnd _ _ _ _ _ _ _
            refine' TurnEnd.intro (news := (x', pileO 117 dx' [] k2) :: _ :: _ :: rest') ?ta ?tb ?tc ?td (codeJ_pop hin hb hx hrun ⟨hl1, hcmp⟩ (by rw [← hdl]; exact even_of hev))
            case ta => k_asm
            case tb => k_asm
            case tc => exact pop_sub
            case td => exact off_ledger3 hI
        · rename ¬ _ < _ => hcmp
          show TurnEnd _ _ _ _ _ _ _
          refine' TurnEnd.intro (news := _ :: _ :: _ :: _ :: rest') ?ta ?tb ?tc ?td (codeJ_next hin hb hx hDx hl hP hrun (fun e => hcmp e.2))
          case ta => k_asm
          case tb => exact N'
          case tc => exact turn_sub
          case td => exact off_ledger hI (hDr _ (.head _))
      · rename ¬ (1 : Int) < _ => hlt
        show TurnEnd _ _ _ _ _ _ _
        refine' TurnEnd.intro (news := _ :: _ :: _ :: _ :: rest') ?ta ?tb ?tc ?td (codeJ_next hin hb hx hDx hl hP hrun (fun e => hlt (by rw [List.length_append, List.length_singleton]; omega)))
        case ta => k_asm
        case tb => exact N'
        case tc => exact turn_sub
        case td => exact off_ledger hI (hDr _ (.head _))
    · intro m₁ nw h tk hJ F' N'
      obtain ⟨dv, kv, l, ys', nn, rest', rfl, rfl, hb, hx, hl, hP, hrun⟩ := hJ
      k_steps
      refine' cb_retS hret ?e1 ?e2 ?e3
      case e1 => exact code_none hp1 hst hrun
      case e2 => k_asm
      case e3 => exact cb_drop (by k_asm) (fun p hp => by repeat (first | exact hb p (.tail _ hp) | apply List.mem_cons_of_mem))
end Mine
end
section
open PySem PySem.W PyProof.Rows PySem.Spec
set_option Elab.async false
set_option maxRecDepth 1000000
set_option linter.unusedVariables false
namespace Mine
local macro_rules | `(tactic| walk_at "eval ListComp") => `(tactic| refine hold ?_)
local macro_rules | `(tactic| walk_at "CompSrc") => `(tactic| refine hold ?_)
local macro_rules | `(tactic| walk_at "MINE enterC") => `(tactic| (k_dflt (refine' code_defC ?k1 ?k2 ?k3 ?k4 ?k5 ?kA ?kF ?kK ?k6 ?k7 ?k8 ?k9 ?kB ?kD ?_ ?c2 ?c3 ?c4; (case kA => exact rfl); (case kF => exact rfl); (case kK => assumption); (case k1 => k_asm); (case k2 => k_asm); (case k3 => k_asm); (case k4 => k_asm); (case k5 => k_asm); (case k6 => k_is); (case k7 => k_is); (case k8 => ktr_room); (case k9 => exact BindsTo.of_eq rfl); (case kB => exact rfl); (case kD => decide +kernel); (case c2 => exact rfl); (case c3 => exact rfl); (case c4 => exact rfl); k_whole; intro g' L' h' tk' cells' FG' F' N' Y' B' X' T' l1; (try k_lt l1); k_cells Y'; (try simp only [List.cons_append, List.nil_append] at N'); (try dsimp only); (try k_lift B'); (try k_fold))))
set_option maxHeartbeats 4000000 in
theorem word_claim (w : World) (mean : ExcName → Option Value) (mg mb : Str → Option Value) (news : List (Addr × Obj)) (number : Int) (t1 : Tok) (n : Nat) (t2 : Tok) :
    CbClaim PySem.Challenge.rw_wc0029_01.row.prog w (KK w.params) qq (looseW qq looseQ) mean mg mb 338 news [] (0 ≤ number ∧ number < 6250 ∧ (n = 3 ∨ n = 5)) [.int number t1, .int (n : Int) t2] (fun t => .str (lawWord number n) t) := by
  k_fill
  dsimp only [CbClaim, CbLists, CbRet]; intros; rename_i hret
  refine wpAny_call ?_
  walk_at "MINE enterC"
  k_steps
  refine unhold ?_
  k_dflt (refine LCg.ListComp_U (F₀ := by k_asm) (by with_unfolding_all rfl) (by decide) (by rfl) (by decide) (by rfl) ?_)
  k_steps
  have hp : 0 ≤ number ∧ number < 6250 ∧ (n = 3 ∨ n = 5) := by assumption
  obtain ⟨hp1, hp2, hp3⟩ := hp
  refine unhold ?_
  refine' LCg.CompSrc.range (n := n) ?a1 ?a2 ?a3 ?a4 ?a5 ?a6 ?a7 ?_
  case a1 => rfl
  case a2 => k_asm
  case a3 => k_asm
  case a4 => assumption
  case a5 => rcases hp3 with rfl | rfl <;> decide
  case a6 => rcases hp3 with rfl | rfl <;> rfl
  case a7 => rcases hp3 with rfl | rfl <;> decide
  intro g''
  have p5 : ∀ k : Int, 0 ≤ k → k < 0 + (n : Int) → (5 : Int) ^ k.toNat ≠ 0 ∧ ((5 : Int) ^ k.toNat).natAbs < 1073741824 := by
    intro k h0 h1
    have : k.toNat < 5 := by omega
    generalize k.toNat = j at this
    match j, this with
    | 0, _ => decide
    | 1, _ => decide
    | 2, _ => decide
    | 3, _ => decide
    | 4, _ => decide
  refine kct_range (fun k => Txt.item (Str.ofString "filst") ((number.fdiv (5 ^ k.toNat)).fmod 5)) (fun k' t' I' oI' C' oC' D' m' ys' h' tk' E' hlo' hhi' hC' hx' F' N' off' ne' mk' => ?_) ?_
  · simp only [LCg.Off3, and_true] at off'
    k_steps
    refine floordiv_int (p5 k' hlo' hhi').1 ?_ (Or.inl (PyProof.noPylong_small (p5 k' hlo' hhi').2))
    k_steps
    refine' LCg.CompEnd.intro ?cF ?cN _ ?cS ?cO ?cT (kct_el rfl rfl rfl)
    case cF => assumption
    case cN => assumption
    case cS => kcf_all
    case cO => simpa only [LCg.Off3] using off'
    case cT => trivial
  · refine (fun h => h : ∀ {P : Prop}, P → KPfDone P) ?_
    intro ys hys hl
    k_steps
    · rename Txt.find _ _ = -1 => hf
      exact absurd hf (lawJ_find hp1 hp3)
    · rename (_ == Txt.mul _ _) = true => hb
      refine' cb_retS hret ?e1 ?e2 ?e3
      case e1 => exact (if_pos hb).symm
      case e2 => k_asm
      case e3 => first | assumption | (refine' cb_drop ?cbN ?cbS; (case cbN => assumption); (case cbS => kcj_all))
    · rename (_ == Txt.mul _ _) = false => hb
      refine' cb_retS hret ?e1 ?e2 ?e3
      case e1 => exact (if_neg (by rw [Bool.not_eq_true]; exact hb)).symm
      case e2 => k_asm
      case e3 => first | assumption | (refine' cb_drop ?cbN ?cbS; (case cbN => assumption); (case cbS => kcj_all))
end Mine
end
section
open PySem PySem.W PyProof.Rows PySem.Spec
set_option Elab.async false
set_option maxRecDepth 1000000
set_option linter.unusedVariables false
namespace Mine
open PySem.Sre PySem.Sre.M
noncomputable def codeN : Array Nat := #[14, 10, 4, 1, 1, 22, 0, 31, 16, 127, 0, 13, 7, 22, 0, 31, 16, 127, 0, 1]
noncomputable def codeV : Array Nat := #[14, 14, 4, 1, 1, 9, 4294966783, 0, 0, 2147483648, 0, 0, 0, 0, 0, 13, 11, 9, 4294966783, 0, 0, 2147483648, 0, 0, 0, 0, 0, 1]
noncomputable def quiet (c : Nat) : Bool := [102, 105, 108, 115, 116, 70, 73, 76, 83, 84].contains c
noncomputable def Quiet (code : Array Nat) : Prop := ∀ c, quiet c = true → ∀ sn, ∃ sn', inSet code c code.size 5 true sn = .ok (false, sn')
theorem quiet_cases {c : Nat} (h : quiet c = true) : c = 102 ∨ c = 105 ∨ c = 108 ∨ c = 115 ∨ c = 116 ∨ c = 70 ∨ c = 73 ∨ c = 76 ∨ c = 83 ∨ c = 84 := by
  simpa [quiet] using h
theorem quietN : Quiet codeN := by
  intro c hc sn
  rcases quiet_cases hc with rfl | rfl | rfl | rfl | rfl | rfl | rfl | rfl | rfl | rfl <;> exact ⟨_, rfl⟩
theorem quietV : Quiet codeV := by
  intro c hc sn
  rcases quiet_cases hc with rfl | rfl | rfl | rfl | rfl | rfl | rfl | rfl | rfl | rfl <;> exact ⟨_, rfl⟩
theorem admitted_none {m : M} (hq : Quiet m.code) (ht : ∀ s, s < m.lim → quiet (m.text.getD s 0) = true) : ∀ fuel s sn, ∃ sn', admitted m fuel s sn = .ok (none, sn')
  | 0, s, sn => ⟨_, rfl⟩
  | fuel + 1, s, sn => by
    unfold admitted
    by_cases h : s ≥ m.lim
    · rw [if_pos h]; exact ⟨_, rfl⟩
    · rw [if_neg h]
      obtain ⟨sn', e⟩ := hq _ (ht s (by omega)) sn
      rw [e]
      exact admitted_none hq ht fuel (s + 1) sn'
theorem quiet_code {code : Array Nat} (hc : code = codeN ∨ code = codeV) : Quiet code := by
  rcases hc with h | h
  · rw [h]; exact quietN
  · rw [h]; exact quietV
theorem from_none {m : M} (hf : m.hasFirstSet = true) (hq : Quiet m.code) (ht : ∀ s, s < m.lim → quiet (m.text.getD s 0) = true) (s : Nat) (b : Bool) : ∃ sn, m.attemptFrom s b = ({ m with seen := sn } : M).say false := by
  unfold attemptFrom
  obtain ⟨sn, e⟩ := admitted_none hq ht (m.lim + 1 - s) s m.seen
  rw [hf, e]
  exact ⟨sn, rfl⟩
theorem from_none' {X : M} {code text : Array Nat} (h1 : X.hasFirstSet = true) (h2 : X.code = code) (h3 : X.text = text) (h4 : X.lim = text.size) (h5 : X.frames = []) (h6 : X.outcome = none) (hq : Quiet code) (ht : ∀ s, s < text.size → quiet (text.getD s 0) = true) :
    ∃ m : M, X.attemptFrom 0 true = m.say false ∧ m.frames = [] ∧ m.outcome = none := by
  obtain ⟨sn, e⟩ := from_none h1 (by rw [h2]; exact hq) (by rw [h3, h4]; exact ht) 0 true
  exact ⟨_, e, h5, h6⟩
theorem search_none {code text : Array Nat} {groups : Nat} (hc : code = codeN ∨ code = codeV) (ht : ∀ s, s < text.size → quiet (text.getD s 0) = true) (h1 : 1 ≤ text.size) :
    ∃ m : M, forSearch code text groups 0 text.size false = m.say false ∧ m.frames = [] ∧ m.outcome = none := by
  have hq : Quiet code := quiet_code hc
  have hl : (header code).1 = 1 := by rcases hc with rfl | rfl <;> rfl
  unfold forSearch
  dsimp only
  rw [hl, if_neg (by
    intro h
    rw [Bool.or_eq_true] at h
    rcases h with h | h
    · exact absurd (of_decide_eq_true h) (by omega)
    · exact absurd (of_decide_eq_true h) (by omega))]
  exact from_none' (by rcases hc with rfl | rfl <;> rfl) rfl rfl rfl rfl rfl hq ht
theorem run_none {m : M} (h1 : m.frames = []) (h2 : m.outcome = none) : ((m.say false).runFor 4).outcome = some .failed := by
  cases m
  dsimp only at h1 h2
  subst h1
  subst h2
  rfl
section
open PySem.Builtin.Re
variable {prog : Program} {w : World} {A : Around} {E : Value → Shared → Prop} {s : Shared}
theorem drive_none {m : M} {Q : M → Shared → Prop} (h1 : m.frames = []) (h2 : m.outcome = none) (k : Nat) (h : ∀ m', m'.outcome = some .failed → Q m' s) : wpAny (model prog w) A (reDrive (k + 1) (m.say false)) Q E s := by
  unfold reDrive
  have e := run_none h1 h2
  show wpAny _ _ (if ((m.say false).runFor 4).outcome.isSome = true then pure ((m.say false).runFor 4) else _) _ _ _
  rw [if_pos (by rw [e]; rfl)]
  exact wpAny_pure (h _ e)
theorem forIn_quiet {f : Nat → PUnit → Sem (ForInStep PUnit)} (hf : ∀ i (Q : ForInStep PUnit → Shared → Prop), Q (.yield ⟨⟩) s → wpAny (model prog w) A (f i ⟨⟩) Q E s) : ∀ (l : List Nat) {Q : PUnit → Shared → Prop}, Q ⟨⟩ s → wpAny (model prog w) A (forIn l PUnit.unit f) Q E s
  | [], Q, h => by rw [List.forIn_nil]; exact wpAny_pure h
  | i :: l, Q, h => by
    rw [List.forIn_cons]
    exact wpAny_bind (hf i _ (forIn_quiet hf l h))
theorem end_none {m : M} {Q : Option M → Shared → Prop} (h1 : m.frames = []) (h2 : m.outcome = none) (h : Q none s) : wpAny (model prog w) A (reRunToEnd (m.say false)) Q E s := by
  unfold reRunToEnd
  refine wpAny_bind ?_
  rw [show (2 ^ 64 : Nat) = (2 ^ 64 - 1) + 1 from rfl]
  refine drive_none h1 h2 _ fun m' e => ?_
  refine wpAny_bind (forIn_quiet (fun i Q hQ => ?_) _ ?_)
  · split
    · exact wpAny_bind (wpAny_rule (wpAny_pure hQ))
    · exact wpAny_pure hQ
  · rw [e]
    exact wpAny_pure h
end
end Mine
end
section
open PySem PySem.W PyProof.Rows PySem.Spec PySem.Builtin.Re
set_option Elab.async false
set_option maxRecDepth 1000000
set_option linter.unusedVariables false
set_option linter.unusedSimpArgs false
set_option maxHeartbeats 4000000
namespace Mine
theorem slot_search : Slot "re.Pattern" "search" "re.Pattern.search" := .of (owner := "re.Pattern") (n := "search") (by rw [typeLookup_type, builtinLookup_eq_fast]; kernel_rfl) (by decide +kernel) (by decide +kernel) (by decide +kernel) (by first | exact .inl (by decide +kernel) | exact .inr (by decide +kernel)) (by rw [isSubtype_type]; kernel_rfl)
theorem entry_search : entryFor table "re.Pattern.search" = some Builtin.«re.Pattern.search» := entryFor_of_tree (by kernel_rfl)
theorem args_search (a b : Value) : argsOk "re.Pattern.search" ⟨[a, b], []⟩ := by unfold argsOk; kernel_rfl
section
variable {prog : Program} {w : World} {A : Around} {E : Value → Shared → Prop} {s : Shared}
noncomputable abbrev patO (a0 a1 a2 a6 : Value) (c : Addr) : Obj := ⟨.type "re.Pattern", none, .fields #[a0, a1, a2, .none, .none, .ref c, a6], #[]⟩
theorem target_of {p c : Addr} {a0 a1 : Value} {t2 t6 : Tok} {its : Array Value} {x : Str} {t : Tok} {Q : ReTarget → Shared → Prop} (hp : s.heap.get? p = some (patO a0 a1 (.int 0 t2) (.int 0 t6) c)) (hc : s.heap.get? c = some ⟨.type "tuple", none, .seq its 0, #[]⟩)
    (h : Q { pattern := .ref p, string := .str x t, code := (its.map reRawOf).map (·.toNat), text := x.cps, kind := 0, groups := 0, pos := min 0 x.cps.size, lim := min (2 ^ 63 - 1 : Int).toNat x.cps.size } s) : wpAny (model prog w) A (reTarget "re.Pattern.search" "search" ⟨[.ref p, .str x t], []⟩) Q E s := by
  obtain ⟨hh, g, d, tk, os⟩ := s
  unfold reTarget
  repeat lk
  exact h
theorem search_call {p c : Addr} {a0 a1 : Value} {t2 t6 : Tok} {its : Array Value} {x : Str} {t : Tok} {Q : Value → Shared → Prop} (hp : s.heap.get? p = some (patO a0 a1 (.int 0 t2) (.int 0 t6) c)) (hc : s.heap.get? c = some ⟨.type "tuple", none, .seq its 0, #[]⟩)
    (hcode : (its.map reRawOf).map (·.toNat) = codeN ∨ (its.map reRawOf).map (·.toNat) = codeV) (hx : ∀ i, i < x.cps.size → quiet (x.cps.getD i 0) = true) (h1 : 1 ≤ x.cps.size) (h2 : x.cps.size < 1000)
    (h : Q .none s) : wpAny (model prog w) A (call (.builtin "re.Pattern.search") [.ref p, .str x t]) Q E s := by
  refine wpAny_call_entry slot_search ⟨_, hp, rfl⟩ entry_search ?_ (args_search _ _)
  obtain ⟨m, e, hf, ho⟩ := search_none (groups := 0) hcode hx h1
  show wpAny _ _ (reTarget "re.Pattern.search" "search" ⟨[.ref p, .str x t], []⟩ >>= fun t => reAnswer t (Sre.forSearch t.code t.text t.groups t.pos t.lim false)) _ _ _
  refine wpAny_bind (target_of hp hc ?_)
  dsimp only
  rw [Nat.zero_min, Nat.min_eq_right (by show x.cps.size ≤ (2 ^ 63 - 1 : Int).toNat; have : (2 ^ 63 - 1 : Int).toNat = 9223372036854775807 := by decide
                                         omega), e]
  unfold reAnswer
  exact wpAny_bind (end_none hf ho (wpAny_pure ⟨_, rfl, h⟩))
end
end Mine
end
section
open PySem PySem.W PyProof.Rows PySem.Spec PySem.Calls PySem.Builtin.Re
set_option Elab.async false
set_option maxRecDepth 1000000
set_option linter.unusedVariables false
set_option linter.unusedSimpArgs false
namespace Mine
local macro_rules | `(tactic| walk_at "MINE enter") => `(tactic| (refine' code_def ?k1 ?k2 ?k3 ?k4 ?k5 ?kA ?kF ?kK ?k6 ?k7 ?k8 ?k9 ?kB ?_ ?c2 ?c3 ?c4 ?c5; (case kA => exact rfl); (case kF => exact rfl); (case kK => first | exact rfl | assumption); (case k1 => k_asm); (case k2 => k_asm); (case k3 => k_asm); (case k4 => k_asm); (case k5 => k_asm); (case k6 => k_is); (case k7 => k_is); (case k8 => ktr_room); (case k9 => first | exact BindsTo.of_eq rfl | exact binds_K (by k_in) rfl (by k_is) rfl rfl rfl); (case c5 => decide); (case kB => exact locs rfl); (case c2 => exact rfl); (case c3 => exact rfl); (case c4 => exact rfl); k_whole; intro g' L' h' FG' F' N' B' X' T'; (try dsimp only); (try k_lift B'); (try k_fold)))
section
variable {prog : Program} {w : World} {A : Around} {E : Value → Shared → Prop} {K : Frag} {s : Shared}
theorem ga_pat : typeLookup (.type "re.Pattern") "__getattribute__" = pure (some (.builtin "object.__getattribute__")) := by rw [typeLookup_type, builtinLookup_eq_fast]; kernel_rfl
theorem gx_pat : typeLookup (.type "re.Pattern") "__getattr__" = pure none := by rw [typeLookup_type, builtinLookup_eq_fast]; kernel_rfl
theorem ty_search : typeOf (.builtin "re.Pattern.search") = pure (.type "method_descriptor") := by show builtinType _ = _; rw [builtinType_eq_fast]; kernel_rfl
theorem method_pat {p : Addr} {o : Obj} {pl : Sem Bool} {Q : Value × List Value → Shared → Prop} (hp : s.heap.get? p = some o) (hc : o.cls = .type "re.Pattern") (hd : o.dict = none) (h : Q (.builtin "re.Pattern.search", [.ref p]) s) :
    wpAny (model prog w) A (getMethod (.ref p) "search" pl) Q E s := by
  have hT : s.TypeIs (.ref p) "re.Pattern" := ⟨_, hp, hc⟩
  unfold getMethod
  refine wpAny_bind (wpAny_specialOf hT ga_pat ?_)
  show wpAny _ _ (if (Manifest.canonical "object.__getattribute__" != "object.__getattribute__") = true then _ else _) _ _ _
  rw [PySem.F.canon_object_ga, if_neg (by decide)]
  refine wpAny_bind (wpAny_specialOf hT gx_pat ?_)
  refine wpAny_bind (wpAny_specialOf hT slot_search.lookup ?_)
  refine wpAny_bind (wpAny_of_eq ty_search ?_)
  rw [if_neg (by decide)]
  refine wpAny_bind (wpAny_loadPart hp ?_)
  rw [hd]
  exact wpAny_bind (wpAny_rule (wpAny_pure h))
end
set_option maxHeartbeats 4000000 in
theorem conv_claim (w : World) (mean : ExcName → Option Value) (mg mb : Str → Option Value) (y : Addr) (x : Str) (tx : Tok) (b : Bool) (news : List (Addr × Obj)) (hx : ∀ i, i < x.cps.size → quiet (x.cps.getD i 0) = true) (h1 : 1 ≤ x.cps.size) (h2 : x.cps.size < 1000) (dp un : Nat) (gd : Option (List Code)) (cn : Str) (cs : Scope) (a : Addr) (ccd : Value) (cl : List (Str × Addr)) (outer : List Env) (A₀ : Around) (base h₀ : Heap) (L : Addr) (m : Str → Option Value) (s : Shared) (Q E : Value → Shared → Prop)
    (B : Below A₀ base outer h₀) (F : Fr h₀ L s.heap m) (X : (KK w.params).In h₀) (N : News h₀ L s.heap news) (T : Top qq (looseW qq looseQ) mean mg mb h₀) (hcs : cs.kind = .function) (hdp : dp + 3 < recursionLimit) (hun : un + 20 < cLine)
    (hret : ∀ h' tk', Fr h₀ L h' m → News h₀ L h' news → Q (.str x tx) { s with heap := h', toks := tk' }) :
    wpAny (model PySem.Challenge.rw_wc0029_01.row.prog w) (ktrTop dp un gd cn cs L a ccd cl outer) (call (.ref 230) [.ref y, .str x tx] [(Str.ofString "name", .bool b)]) Q E s := by
  revert B F X N T hcs hdp hun hret; k_fill; intro B F X N T hcs hdp hun hret
  refine wpAny_call ?_
  walk_at "MINE enter"
  k_steps
  · refine method_pat (o := o195 w.params) (Frag.In.keeps (by k_asm) (Fr.keep (by k_asm)) 195 _ rfl) rfl rfl ?_
    k_steps
    refine search_call (Frag.In.keeps (by k_asm) (Fr.keep (by k_asm)) 195 _ rfl) (Frag.In.keeps (by k_asm) (Fr.keep (by k_asm)) 194 _ rfl) (.inl (by decide +kernel)) hx h1 h2 ?_
    k_steps
    exact hret _ _ (by k_asm) (by k_asm)
  · refine method_pat (o := o200 w.params) (Frag.In.keeps (by k_asm) (Fr.keep (by k_asm)) 200 _ rfl) rfl rfl ?_
    k_steps
    refine search_call (Frag.In.keeps (by k_asm) (Fr.keep (by k_asm)) 200 _ rfl) (Frag.In.keeps (by k_asm) (Fr.keep (by k_asm)) 199 _ rfl) (.inr (by decide +kernel)) hx h1 h2 ?_
    k_steps
    exact hret _ _ (by k_asm) (by k_asm)
end Mine
end
section
open PySem PySem.W PyProof.Rows PySem.Spec PySem.Calls PySem.Builtin.Re
set_option Elab.async false
set_option maxRecDepth 1000000
set_option linter.unusedVariables false
set_option linter.unusedSimpArgs false
namespace Mine
local macro_rules | `(tactic| walk_at "MINE enter") => `(tactic| (refine' code_def ?k1 ?k2 ?k3 ?k4 ?k5 ?kA ?kF ?kK ?k6 ?k7 ?k8 ?k9 ?kB ?_ ?c2 ?c3 ?c4 ?c5; (case kA => exact rfl); (case kF => exact rfl); (case kK => first | exact rfl | assumption); (case k1 => k_asm); (case k2 => k_asm); (case k3 => k_asm); (case k4 => k_asm); (case k5 => k_asm); (case k6 => k_is); (case k7 => k_is); (case k8 => ktr_room); (case k9 => first | exact BindsTo.of_eq rfl | exact binds_K (by k_in) rfl (by k_is) rfl rfl rfl); (case c5 => decide); (case kB => exact locs rfl); (case c2 => exact rfl); (case c3 => exact rfl); (case c4 => exact rfl); k_whole; intro g' L' h' FG' F' N' B' X' T'; (try dsimp only); (try k_lift B'); (try k_fold)))
set_option maxHeartbeats 4000000 in
theorem hnew_claim (w : World) (mean : ExcName → Option Value) (mg mb : Str → Option Value) (news : List (Addr × Obj)) (dp un : Nat) (gd : Option (List Code)) (cn : Str) (cs : Scope) (a : Addr) (ccd : Value) (cl : List (Str × Addr)) (outer : List Env) (A₀ : Around) (base h₀ : Heap) (L : Addr) (m : Str → Option Value) (s : Shared) (Q E : Value → Shared → Prop)
    (B : Below A₀ base outer h₀) (F : Fr h₀ L s.heap m) (X : (KK w.params).In h₀) (N : News h₀ L s.heap news) (T : Top qq (looseW qq looseQ) mean mg mb h₀) (hcs : cs.kind = .function) (hdp : dp + 3 < recursionLimit) (hun : un + 20 < cLine)
    (hret : ∀ h' tk' x dx lx hs tk, Fr h₀ L h' m → News h₀ L h' ((lx, lst0 [] 0) :: (x, instObj 329 dx) :: (dx, dictOf [⟨hs, .str (Str.ofString "_headers") tk, .ref lx⟩] 1) :: news) → (∀ p ∈ news, p.1 < dx) → dx < x → x < lx → Q (.ref x) { s with heap := h', toks := tk' }) :
    wpAny (model PySem.Challenge.rw_wc0029_01.row.prog w) (ktrTop dp un gd cn cs L a ccd cl outer) (call (.ref 329) []) Q E s := by
  revert B F X N T hcs hdp hun hret; k_fill; intro B F X N T hcs hdp hun hret
  refine wpAny_call ?_
  refine' make_K ?m1 ?m2 ?m3 ?m4 ?m5 ?m6 ?_
  case m1 => k_asm
  case m2 => k_asm
  case m3 => k_in
  case m4 => k_is
  case m5 => k_is
  case m6 => k_is
  intro x' dx' h' F' N' l1 l2
  (try k_lt l1); (try k_lt2 l2); (try k_sweep)
  walk_at "MINE enter"
  k_steps
  rename Fr _ _ _ _ => F5
  rename News _ _ _ _ => N5
  refine for_pair_nil (ep := 0) F5 N5 (by rfl) (by rfl) (by rfl) (by rfl) (.head _) (nameX_L F5 rfl ⟨rfl, rfl⟩) ?_
  intro h tk F' N'
  k_steps
  rename _ < _ ∧ _ < _ ∧ _ => hl5
  refine hret _ _ x' dx' _ _ _ (by k_asm) (by k_asm) ?_ l2 hl5.1
  first | exact l1 | exact fun p hp => allLt_mem l1 p hp
end Mine
end
section
open PySem PySem.W PyProof.Rows PySem.Spec PySem.Calls PySem.Builtin.Re
set_option Elab.async false
set_option maxRecDepth 1000000
set_option linter.unusedVariables false
set_option linter.unusedSimpArgs false
namespace Mine
local macro_rules | `(tactic| walk_at "call builtin:str.lower") => `(tactic| refine hold ?_)
local macro_rules | `(tactic| walk_at "MINE enter") => `(tactic| (refine' code_def ?k1 ?k2 ?k3 ?k4 ?k5 ?kA ?kF ?kK ?k6 ?k7 ?k8 ?k9 ?kB ?_ ?c2 ?c3 ?c4 ?c5; (case kA => exact rfl); (case kF => exact rfl); (case kK => first | exact rfl | assumption); (case k1 => k_asm); (case k2 => k_asm); (case k3 => k_asm); (case k4 => k_asm); (case k5 => k_asm); (case k6 => k_is); (case k7 => k_is); (case k8 => ktr_room); (case k9 => first | exact BindsTo.of_eq rfl | exact binds_K (by k_in) rfl (by k_is) rfl rfl rfl); (case c5 => decide); (case kB => exact locs rfl); (case c2 => exact rfl); (case c3 => exact rfl); (case c4 => exact rfl); k_whole; intro g' L' h' FG' F' N' B' X' T'; (try dsimp only); (try k_lift B'); (try k_fold)))
noncomputable abbrev hdO (hs : Int) (tk : Tok) (lx : Addr) : Obj := dictOf [⟨hs, .str (Str.ofString "_headers") tk, .ref lx⟩] 1
noncomputable def HEnt (rest : List (Addr × Obj)) (hd : Str × Str) (v : Value) : Prop := ∃ p c t1 t2, v = .ref p ∧ (p, ({ cls := .type "tuple", data := .seq #[.str hd.1 t1, .str hd.2 t2] c } : Obj)) ∈ rest
noncomputable def QuietS (x : Str) : Prop := (∀ i, i < x.cps.size → quiet (x.cps.getD i 0) = true) ∧ 1 ≤ x.cps.size ∧ x.cps.size < 1000
noncomputable def getOf (hds : List (Str × Str)) (nm : Str) : Option (Str × Str) := hds.find? fun hd => Txt.lower hd.1 == Txt.lower nm
section
variable {prog : Program} {w : World} {A : Around} {E : Value → Shared → Prop} {s : Shared} {h₀ : Heap} {env : Env}
theorem for_pair_F {xa xb : Str} {pa pb pt pos : Pos} {tk0 : Nat} {iter : Expr} {body : List Stmt} {Q : Flow → Shared → Prop} {J : Nat → (Str → Option Value) → List (Addr × Obj) → Prop} {m₀ : Str → Option Value} {news : List (Addr × Obj)} {ax : Addr} {its : List Value} {ep : Nat}
    (F : Fr h₀ env.locals s.heap m₀) (N : News h₀ env.locals s.heap news) (hm : (ax, ({ cls := .type "list", data := .seq its.toArray ep } : Obj)) ∈ news)
    (hka : env.kindOf xa = some .local) (hkb : env.kindOf xb = some .local) (hp : (env.scope.kind == .class || (env.scope.kind == .module && env.locals != env.globals)) = false) (hh : A.handled = none)
    (hj : J 0 m₀ news)
    (hit : wpAny (model prog w) A (eval iter env) (fun v s₁ => v = .ref ax ∧ (∃ h tk, s₁ = { s with heap := h, toks := tk }) ∧ Fr h₀ env.locals s₁.heap m₀ ∧ News h₀ env.locals s₁.heap news) E s)
    (turn : ∀ i v m₁ nw I oI, its[i]? = some v → J i m₁ nw → (∀ p ∈ nw, p.1 ≠ I) → ∃ (t : Addr) (ot : Obj) (v₁ v₂ : Value) (nt : Nat), v = .ref t ∧ (t, ot) ∈ nw ∧ ot.cls = .type "tuple" ∧ ot.data = .seq #[v₁, v₂] nt ∧
      ∀ h tk E', Fr h₀ env.locals h (fun y => if y = xb then some v₂ else if y = xa then some v₁ else m₁ y) → News h₀ env.locals h ((I, oI) :: nw) →
      wpAny (model prog w) A (execs body env) (TurnPost h₀ env.locals [(I, oI)] I (J (i + 1)) { s with heap := h, toks := tk } Q) E' { s with heap := h, toks := tk })
    (hJm : ∀ i m₁ nw, J i m₁ nw → (ax, ({ cls := .type "list", data := .seq its.toArray ep } : Obj)) ∈ nw)
    (done : ∀ m₁ nw h tk, J its.length m₁ nw → Fr h₀ env.locals h m₁ → News h₀ env.locals h nw → Q .next { s with heap := h, toks := tk })
    (hs : ∀ x, foldedSetIterable iter env x = pure x := by intro _; rfl) :
    wpAny (model prog w) A (exec (.For (.Tuple [.Name xa pa, .Name xb pb] tk0 pt) iter body [] pos) env) Q E s :=
  for_pair_inv hka hkb hp hh hj hm hit turn hJm done hs
end
theorem paired_at' {α β : Type} {F : α → β → Prop} : ∀ {as : List α} {bs : List β}, Paired F as bs → ∀ (j : Nat) (b : β), bs[j]? = some b → ∃ a, as[j]? = some a ∧ F a b
  | _, _, .nil, j, b, h => by simp at h
  | _, _, .cons h r, 0, b, e => by simp at e; exact ⟨_, rfl, e ▸ h⟩
  | _, _, .cons h r, j + 1, b, e => by simpa using paired_at' r j b (by simpa using e)
noncomputable def HdJ (m₀ : Str → Option Value) (news : List (Addr × Obj)) (hds : List (Str × Str)) (nm : Str) (i : Nat) (m₁ : Str → Option Value) (nw : List (Addr × Obj)) : Prop :=
  ∃ kv vv, m₁ = (fun y => if y = Str.ofString "v" then vv else if y = Str.ofString "k" then kv else m₀ y) ∧ nw = news ∧ ∀ j hd, j < i → hds[j]? = some hd → (Txt.lower hd.1 == Txt.lower nm) = false
theorem hdJ_start {m₀ : Str → Option Value} {news : List (Addr × Obj)} {hds : List (Str × Str)} {nm : Str} : HdJ m₀ news hds nm 0 m₀ news :=
  ⟨m₀ (Str.ofString "k"), m₀ (Str.ofString "v"), by funext y; by_cases h1 : y = Str.ofString "v" <;> by_cases h2 : y = Str.ofString "k" <;> simp_all, rfl, fun j _ h => by omega⟩
theorem getOf_some {nm : Str} : ∀ {hds : List (Str × Str)} {i : Nat} {hd : Str × Str}, hds[i]? = some hd → (Txt.lower hd.1 == Txt.lower nm) = true → (∀ j hd', j < i → hds[j]? = some hd' → (Txt.lower hd'.1 == Txt.lower nm) = false) → getOf hds nm = some hd
  | [], i, hd, h, _, _ => by simp at h
  | a :: r, 0, hd, h, hm, _ => by
    simp at h; subst h; unfold getOf; simp [List.find?, hm]
  | a :: r, i + 1, hd, h, hm, hp => by
    have h0 := hp 0 a (by omega) rfl
    have := getOf_some (hds := r) (i := i) (hd := hd) (by simpa using h) hm (fun j hd' hj e => hp (j + 1) hd' (by omega) (by simpa using e))
    unfold getOf at this ⊢
    simp only [List.find?, h0]; exact this
theorem getOf_none {nm : Str} {hds : List (Str × Str)} {n : Nat} (hn : hds.length = n) (hp : ∀ j hd', j < n → hds[j]? = some hd' → (Txt.lower hd'.1 == Txt.lower nm) = false) : getOf hds nm = none := by
  unfold getOf
  rw [List.find?_eq_none]
  intro a ha
  obtain ⟨j, hj, e⟩ := List.getElem_of_mem ha
  rw [hp j a (by omega) (by rw [List.getElem?_eq_getElem hj, e])]; exact Bool.false_ne_true
theorem hdJ_next {m₀ m₁ : Str → Option Value} {news nw : List (Addr × Obj)} {hds : List (Str × Str)} {nm : Str} {i : Nat} {hd : Str × Str} {a b : Value} (h : HdJ m₀ news hds nm i m₁ nw) (hi : hds[i]? = some hd) (hm : (Txt.lower hd.1 == Txt.lower nm) = false) :
    HdJ m₀ news hds nm (i + 1) (fun y => if y = Str.ofString "v" then some a else if y = Str.ofString "k" then some b else m₁ y) nw := by
  obtain ⟨kv, vv, rfl, rfl, hp⟩ := h
  refine ⟨some b, some a, ?_, rfl, fun j hd' hj e => ?_⟩
  · funext y; by_cases h1 : y = Str.ofString "v" <;> by_cases h2 : y = Str.ofString "k" <;> simp_all
  · by_cases hji : j = i
    · subst hji; rw [hi] at e; cases e; exact hm
    · exact hp j hd' (by omega) e
set_option maxHeartbeats 4000000 in
theorem get_claim (w : World) (mean : ExcName → Option Value) (mg mb : Str → Option Value) (x dx lx : Addr) (hds : List (Str × Str)) (ys : List Value) (ep : Nat) (hs : Int) (tk0 : Tok) (nm : Str) (tn : Tok) (news : List (Addr × Obj))
    (hxm : (x, instObj 329 dx) ∈ news) (hdm : (dx, hdO hs tk0 lx) ∈ news) (hlm : (lx, lst0 ys ep) ∈ news) (hT : Paired (HEnt news) hds ys) (hq : QuietS (Txt.lower nm)) (hnl : nm.length < 1000) (hqk : ∀ hd ∈ hds, hd.1.length < 1000)
    (dp un : Nat) (gd : Option (List Code)) (cn : Str) (cs : Scope) (a : Addr) (ccd : Value) (cl : List (Str × Addr)) (outer : List Env) (A₀ : Around) (base h₀ : Heap) (L : Addr) (m : Str → Option Value) (s : Shared) (Q E : Value → Shared → Prop)
    (B : Below A₀ base outer h₀) (F : Fr h₀ L s.heap m) (X : (KK w.params).In h₀) (N : News h₀ L s.heap news) (T : Top qq (looseW qq looseQ) mean mg mb h₀) (hcs : cs.kind = .function) (hdp : dp + 4 < recursionLimit) (hun : un + 23 < cLine)
    (hret0 : getOf hds nm = none → ∀ h' tk', Fr h₀ L h' m → News h₀ L h' news → Q .none { s with heap := h', toks := tk' })
    (hret1 : ∀ hd, getOf hds nm = some hd → ∀ h' tk' tv, Fr h₀ L h' m → News h₀ L h' news → Q (.str hd.2 tv) { s with heap := h', toks := tk' }) :
    wpAny (model PySem.Challenge.rw_wc0029_01.row.prog w) (ktrTop dp un gd cn cs L a ccd cl outer) (call (.ref 276) [.ref x, .str nm tn]) Q E s := by
  revert B F X N T hcs hdp hun hret0 hret1; k_fill; intro B F X N T hcs hdp hun hret0 hret1
  refine wpAny_call ?_
  walk_at "MINE enter"
  k_steps
  refine unhold ?_
  refine SCL.lower (by omega) ?_
  k_steps
  show wpAny _ _ (call (.ref 230) [.ref x, .str (Txt.lower nm) _] [(Str.ofString "name", .bool true)]) _ _ _
  refine' conv_claim w mean mg mb _ _ _ _ _ hq.1 hq.2.1 hq.2.2 _ _ _ _ _ _ _ _ _ _ _ _ _ _ _ _ _ ?pB ?pF ?pX ?pN ?pT ?pcs ?pdp ?pun ?pret
  case pB => k_asm
  case pF => k_asm
  case pX => k_asm
  case pN => k_asm
  case pT => k_asm
  case pcs => exact rfl
  case pdp => omega
  case pun => omega
  intro h5 tk5 F5 N5
  k_steps
  rename Fr _ _ _ _ => F6
  rename News _ _ _ _ => N6
  refine for_pair_F F6 N6 (J := HdJ _ news hds nm) hlm (by rfl) (by rfl) (by rfl) (by rfl) hdJ_start ?f3 ?f4 ?f5 ?f6
  case f3 =>
    k_steps
    all_goals first | exact rfl | exact ⟨_, _, rfl⟩ | k_asm
  case f4 =>
    rintro i v m₁ nw I oI hv hJ hI
    obtain ⟨kv, vv, rfl, rfl, hpre⟩ := id hJ
    obtain ⟨hd, hdi, p, c, t1, t2, rfl, hpm⟩ := paired_at' hT i v hv
    refine ⟨p, _, _, _, _, rfl, hpm, rfl, rfl, ?_⟩
    intro h tk E' F' N'
    k_steps
    refine unhold ?_
    refine SCL.lower (by have := hqk hd (List.mem_of_getElem? hdi); omega) ?_
    k_steps
    · rename (Txt.lower _ == Txt.lower _) = true => hmt
      unfold TurnPost
      k_steps
      exact hret1 hd (getOf_some hdi hmt hpre) _ _ _ (by k_asm) (cb_drop (by k_asm) fun p hp => .tail _ hp)
    · rename (Txt.lower _ == Txt.lower _) = false => hmf
      show TurnEnd _ _ _ _ _ _ _
      refine' TurnEnd.intro (news := nw) ?ta ?tb ?tc hI (hdJ_next hJ hdi hmf)
      case ta => k_asm
      case tb => exact N'
      case tc => exact fun p hp => hp
  case f5 => rintro i m₁ nw ⟨kv, vv, _, rfl, _⟩; exact hlm
  case f6 =>
    rintro m₁ nw h tk ⟨kv, vv, rfl, rfl, hpre⟩ F' N'
    k_steps
    exact hret0 (getOf_none (paired_len hT) hpre) _ _ (by k_asm) (by k_asm)
end Mine
end
section
open PySem PySem.W PyProof.Rows PySem.Spec PySem.Calls PySem.Builtin.Re
set_option Elab.async false
set_option maxRecDepth 1000000
set_option linter.unusedVariables false
set_option linter.unusedSimpArgs false
namespace Mine
local macro_rules | `(tactic| walk_at "MINE enter") => `(tactic| (refine' code_def ?k1 ?k2 ?k3 ?k4 ?k5 ?kA ?kF ?kK ?k6 ?k7 ?k8 ?k9 ?kB ?_ ?c2 ?c3 ?c4 ?c5; (case kA => exact rfl); (case kF => exact rfl); (case kK => first | exact rfl | assumption); (case k1 => k_asm); (case k2 => k_asm); (case k3 => k_asm); (case k4 => k_asm); (case k5 => k_asm); (case k6 => k_is); (case k7 => k_is); (case k8 => ktr_room); (case k9 => first | exact BindsTo.of_eq rfl | exact binds_K (by k_in) rfl (by k_is) rfl rfl rfl); (case c5 => decide); (case kB => exact locs rfl); (case c2 => exact rfl); (case c3 => exact rfl); (case c4 => exact rfl); k_whole; intro g' L' h' FG' F' N' B' X' T'; (try dsimp only); (try k_lift B'); (try k_fold)))
set_option maxHeartbeats 4000000 in
theorem contains_claim (w : World) (mean : ExcName → Option Value) (mg mb : Str → Option Value) (x dx lx : Addr) (hds : List (Str × Str)) (ys : List Value) (ep : Nat) (hs : Int) (tk0 : Tok) (nm : Str) (tn : Tok) (news : List (Addr × Obj))
    (hxm : (x, instObj 329 dx) ∈ news) (hdm : (dx, hdO hs tk0 lx) ∈ news) (hlm : (lx, lst0 ys ep) ∈ news) (hT : Paired (HEnt news) hds ys) (hq : QuietS (Txt.lower nm)) (hnl : nm.length < 1000) (hqk : ∀ hd ∈ hds, hd.1.length < 1000)
    (dp un : Nat) (gd : Option (List Code)) (cn : Str) (cs : Scope) (a : Addr) (ccd : Value) (cl : List (Str × Addr)) (outer : List Env) (A₀ : Around) (base h₀ : Heap) (L : Addr) (m : Str → Option Value) (s : Shared) (Q E : Value → Shared → Prop)
    (B : Below A₀ base outer h₀) (F : Fr h₀ L s.heap m) (X : (KK w.params).In h₀) (N : News h₀ L s.heap news) (T : Top qq (looseW qq looseQ) mean mg mb h₀) (hcs : cs.kind = .function) (hdp : dp + 5 < recursionLimit) (hun : un + 26 < cLine)
    (hret : ∀ h' tk', Fr h₀ L h' m → News h₀ L h' news → Q (.bool (getOf hds nm).isSome) { s with heap := h', toks := tk' }) :
    wpAny (model PySem.Challenge.rw_wc0029_01.row.prog w) (ktrTop dp un gd cn cs L a ccd cl outer) (call (.ref 263) [.ref x, .str nm tn]) Q E s := by
  revert B F X N T hcs hdp hun hret; k_fill; intro B F X N T hcs hdp hun hret
  refine wpAny_call ?_
  walk_at "MINE enter"
  k_steps
  show wpAny _ _ (call (.ref 276) [.ref x, .str nm _]) _ _ _
  refine' get_claim w mean mg mb x dx lx hds ys ep hs tk0 nm _ _ ?q1 ?q2 ?q3 hT hq hnl hqk _ _ _ _ _ _ _ _ _ _ _ _ _ _ _ _ _ ?pB ?pF ?pX ?pN ?pT ?pcs ?pdp ?pun ?pret0 ?pret1
  case pB => k_asm
  case pF => k_asm
  case pX => k_asm
  case pN => k_asm
  case q1 => assumption
  case q2 => assumption
  case q3 => assumption
  case pT => k_asm
  case pcs => exact rfl
  case pdp => omega
  case pun => omega
  case pret0 =>
    intro e h5 tk5 F5 N5
    k_steps
    rw [e] at hret
    exact hret _ _ (by k_asm) (by k_asm)
  case pret1 =>
    intro hd e h5 tk5 tv F5 N5
    k_steps
    rw [e] at hret
    exact hret _ _ (by k_asm) (by k_asm)
end Mine
end
section
open PySem PySem.W PyProof.Rows PySem.Spec PySem.Calls PySem.Builtin.Re
set_option Elab.async false
set_option maxRecDepth 1000000
set_option linter.unusedVariables false
set_option linter.unusedSimpArgs false
namespace Mine
local macro_rules | `(tactic| walk_at "call builtin:str.lower") => `(tactic| refine hold ?_)
local macro_rules | `(tactic| walk_at "eval ListComp") => `(tactic| refine hold ?_)
local macro_rules | `(tactic| walk_at "CompSrc") => `(tactic| refine hold ?_)
local macro_rules | `(tactic| walk_at "CompSrcT") => `(tactic| refine hold ?_)
local macro_rules | `(tactic| walk_at "MINE enter") => `(tactic| (refine' code_def ?k1 ?k2 ?k3 ?k4 ?k5 ?kA ?kF ?kK ?k6 ?k7 ?k8 ?k9 ?kB ?_ ?c2 ?c3 ?c4 ?c5; (case kA => exact rfl); (case kF => exact rfl); (case kK => first | exact rfl | assumption); (case k1 => k_asm); (case k2 => k_asm); (case k3 => k_asm); (case k4 => k_asm); (case k5 => k_asm); (case k6 => k_is); (case k7 => k_is); (case k8 => ktr_room); (case k9 => first | exact BindsTo.of_eq rfl | exact binds_K (by k_in) rfl (by k_is) rfl rfl rfl); (case c5 => decide); (case kB => exact locs rfl); (case c2 => exact rfl); (case c3 => exact rfl); (case c4 => exact rfl); k_whole; intro g' L' h' FG' F' N' B' X' T'; (try dsimp only); (try k_lift B'); (try k_fold)))
local macro_rules | `(tactic| walk_at "MINE enterC") => `(tactic| (k_dflt (refine' code_defC ?k1 ?k2 ?k3 ?k4 ?k5 ?kA ?kF ?kK ?k6 ?k7 ?k8 ?k9 ?kB ?kD ?_ ?c2 ?c3 ?c4; (case kA => exact rfl); (case kF => exact rfl); (case kK => assumption); (case k1 => k_asm); (case k2 => k_asm); (case k3 => k_asm); (case k4 => k_asm); (case k5 => k_asm); (case k6 => k_is); (case k7 => k_is); (case k8 => ktr_room); (case k9 => exact BindsTo.of_eq rfl); (case kB => exact rfl); (case kD => decide +kernel); (case c2 => exact rfl); (case c3 => exact rfl); (case c4 => exact rfl); k_whole; intro g' L' h' tk' cells' FG' F' N' Y' B' X' T' l1; (try k_lt l1); k_cells Y'; (try simp only [List.cons_append, List.nil_append] at N'); (try dsimp only); (try k_lift B'); (try k_fold))))

noncomputable def StrV (x : Str) (v : Value) : Prop := ∃ t, v = .str x t
noncomputable def allOf (hds : List (Str × Str)) (nm : Str) : List Str := (hds.filter fun hd => Txt.lower hd.1 == Txt.lower nm).map (·.2)
theorem allOf_yes {hds : List (Str × Str)} {nm : Str} {i : Nat} {vs : List Value} {hd : Str × Str} {t : Tok} (h : Paired StrV (allOf (hds.take i) nm) vs) (hi : hds[i]? = some hd) (hm : (Txt.lower hd.1 == Txt.lower nm) = true) : Paired StrV (allOf (hds.take (i + 1)) nm) (vs ++ [.str hd.2 t]) := by
  have : allOf (hds.take (i + 1)) nm = allOf (hds.take i) nm ++ [hd.2] := by
    unfold allOf; rw [List.take_add_one, hi]; simp [List.filter_append, hm]
  rw [this]; exact paired_snoc h ⟨_, rfl⟩
theorem allOf_no {hds : List (Str × Str)} {nm : Str} {i : Nat} {vs : List Value} {hd : Str × Str} (h : Paired StrV (allOf (hds.take i) nm) vs) (hi : hds[i]? = some hd) (hm : (Txt.lower hd.1 == Txt.lower nm) = false) : Paired StrV (allOf (hds.take (i + 1)) nm) vs := by
  have : allOf (hds.take (i + 1)) nm = allOf (hds.take i) nm := by
    unfold allOf; rw [List.take_add_one, hi]; simp [List.filter_append, hm]
  rw [this]; exact h
set_option maxHeartbeats 4000000 in
theorem all_claim0 (w : World) (mean : ExcName → Option Value) (mg mb : Str → Option Value) (x dx lx : Addr) (hds : List (Str × Str)) (ys : List Value) (ep : Nat) (hs : Int) (tk0 : Tok) (nm : Str) (tn : Tok) (rest : List (Addr × Obj))
    (hT : Paired (HEnt rest) hds ys) (hq : QuietS (Txt.lower nm)) (hnl : nm.length < 1000) (hqk : ∀ hd ∈ hds, hd.1.length < 1000) (hyl : ys.length < 1000)
    (dp un : Nat) (gd : Option (List Code)) (cn : Str) (cs : Scope) (a : Addr) (ccd : Value) (cl : List (Str × Addr)) (outer : List Env) (A₀ : Around) (base h₀ : Heap) (L : Addr) (m : Str → Option Value) (s : Shared) (Q E : Value → Shared → Prop)
    (B : Below A₀ base outer h₀) (F : Fr h₀ L s.heap m) (X : (KK w.params).In h₀) (N : News h₀ L s.heap ((x, instObj 329 dx) :: (dx, hdO hs tk0 lx) :: (lx, lst0 ys ep) :: rest)) (T : Top qq (looseW qq looseQ) mean mg mb h₀) (hcs : cs.kind = .function) (hdp : dp + 5 < recursionLimit) (hun : un + 26 < cLine)
    (hret : ∀ h' tk' r vs, Paired StrV (allOf hds nm) vs → LCg.Off1 r ((x, instObj 329 dx) :: (dx, hdO hs tk0 lx) :: (lx, lst0 ys ep) :: rest) → Fr h₀ L h' m → News h₀ L h' ((r, LCg.lst vs) :: (x, instObj 329 dx) :: (dx, hdO hs tk0 lx) :: (lx, lst0 ys ep) :: rest) → Q (.ref r) { s with heap := h', toks := tk' }) :
    wpAny (model PySem.Challenge.rw_wc0029_01.row.prog w) (ktrTop dp un gd cn cs L a ccd cl outer) (call (.ref 268) [.ref x, .str nm tn]) Q E s := by
  revert B F X N T hcs hdp hun hret; k_fill; intro B F X N T hcs hdp hun hret
  refine wpAny_call ?_
  walk_at "MINE enterC"
  k_steps
  refine unhold ?_
  refine SCL.lower (by omega) ?_
  k_steps
  show wpAny _ _ (call (.ref 230) [.ref x, .str (Txt.lower nm) _] [(Str.ofString "name", .bool true)]) _ _ _
  refine' conv_claim w mean mg mb _ _ _ _ _ hq.1 hq.2.1 hq.2.2 _ _ _ _ _ _ _ _ _ _ _ _ _ _ _ _ _ ?pB ?pF ?pX ?pN ?pT ?pcs ?pdp ?pun ?pret
  case pB => k_asm
  case pF => k_asm
  case pX => k_asm
  case pN => k_asm
  case pT => k_asm
  case pcs => exact rfl
  case pdp => show dp + 1 + 3 < _; omega
  case pun => show un + 3 + 20 < _; omega
  intro h5 tk5 F5 N5
  k_steps
  rename _ < _ ∧ _ ∧ _ ∧ AllLt _ _ => hl1
  refine' storeX_C ?F ?N ?c (UpdF.head ?U) ?d ?_ ?a ?b
  case a => rfl
  case b => rfl
  case F => k_asm
  case N => k_asm
  case c => rfl
  case U => exact fun p hp => Nat.ne_of_lt (Nat.lt_succ_of_lt (allLt_mem (l := (x, instObj 329 dx) :: (dx, hdO hs tk0 lx) :: (lx, lst0 ys ep) :: rest) hl1 p hp))
  case d => k_asm
  k_whole
  intro h6 o6 F6 N6 d6
  (try dsimp only at N6)
  k_sweep
  k_steps
  refine unhold ?_
  k_dflt (refine LCt.ListComp_T (F₀ := by k_asm) (by with_unfolding_all rfl) (by decide) (by rfl) (by decide) (by rfl) ?_)
  k_steps
  refine unhold ?_
  refine' LCt.CompSrcT.ledger (its := ys.toArray) (k := ep) (news := _) ?a1 ?a2 ?a3 ?a4 ?a5 ?_
  case a1 => rfl
  case a2 => k_asm
  case a3 => k_asm
  case a4 => k_mem
  case a5 => simp [sizeLine]; omega
  intro g''
  have hsz : ys.toArray.size = hds.length := by rw [List.size_toArray]; exact (paired_len hT).symm
  rw [hsz]
  refine restT_same (fun i vs => Paired StrV (allOf (hds.take i) nm) vs) .nil ?_ ?_
  · intro i vs v I' oI' C' oC' D' m' h' tk' E' hin hI hv hC' hx' F' N' off' ne'
    obtain ⟨hd, hdi, p, c, t1, t2, rfl, hpm⟩ := paired_at' hT i v (by simpa using hv)
    have hlen := hqk hd (List.mem_of_getElem? hdi)
    have N2 := news_add (p := (p, _)) N' (by repeat (first | exact hpm | apply List.mem_cons_of_mem))
    k_steps
    refine unhold ?_
    refine SCL.lower (by omega) ?_
    k_steps
    · rename (Txt.lower _ == Txt.lower _) = true => hmt
      rename News _ _ _ _ => N8
      refine' LCg.CompEnd.intro ?pF (fun p hp => N8 p (List.mem_cons_of_mem _ hp)) _ ?pS ?pO ?pT ⟨rfl, allOf_yes hI hdi hmt⟩
      case pF => k_asm
      case pS => kcf_all
      case pO => exact off'
      case pT => exact Or.inr ⟨_, by k_mem, rfl, _, rfl⟩
    · rename (Txt.lower _ == Txt.lower _) = false => hmf
      rename News _ _ _ _ => N8
      refine' LCg.CompEnd.intro ?qF (fun p hp => N8 p (List.mem_cons_of_mem _ hp)) _ ?qS ?qO ?qT ⟨rfl, allOf_no hI hdi hmf⟩
      case qF => k_asm
      case qS => kcf_all
      case qO => exact off'
      case qT => exact Or.inr ⟨_, by k_mem, rfl, _, rfl⟩
  · intro vs hI
    rw [List.take_length] at hI
    k_steps
    rename _ ≠ _ ∧ _ ∧ _ ∧ _ ∧ LCg.Off1 _ _ => ho1
    exact hret _ _ _ _ hI ho1.2 (by k_asm) (cb_drop (by k_asm) fun p hp => by
      rcases List.mem_cons.mp hp with rfl | hp
      · exact .head _
      · exact .tail _ (.tail _ hp))
theorem all_claim (w : World) (mean : ExcName → Option Value) (mg mb : Str → Option Value) (x dx lx : Addr) (hds : List (Str × Str)) (ys : List Value) (ep : Nat) (hs : Int) (tk0 : Tok) (nm : Str) (tn : Tok) (news : List (Addr × Obj))
    (hxm : (x, instObj 329 dx) ∈ news) (hdm : (dx, hdO hs tk0 lx) ∈ news) (hlm : (lx, lst0 ys ep) ∈ news) (hT : Paired (HEnt news) hds ys) (hq : QuietS (Txt.lower nm)) (hnl : nm.length < 1000) (hqk : ∀ hd ∈ hds, hd.1.length < 1000) (hyl : ys.length < 1000)
    (dp un : Nat) (gd : Option (List Code)) (cn : Str) (cs : Scope) (a : Addr) (ccd : Value) (cl : List (Str × Addr)) (outer : List Env) (A₀ : Around) (base h₀ : Heap) (L : Addr) (m : Str → Option Value) (s : Shared) (Q E : Value → Shared → Prop)
    (B : Below A₀ base outer h₀) (F : Fr h₀ L s.heap m) (X : (KK w.params).In h₀) (N : News h₀ L s.heap news) (T : Top qq (looseW qq looseQ) mean mg mb h₀) (hcs : cs.kind = .function) (hdp : dp + 5 < recursionLimit) (hun : un + 26 < cLine)
    (hret : ∀ h' tk' r vs, Paired StrV (allOf hds nm) vs → LCg.Off1 r news → Fr h₀ L h' m → News h₀ L h' ((r, LCg.lst vs) :: news) → Q (.ref r) { s with heap := h', toks := tk' }) :
    wpAny (model PySem.Challenge.rw_wc0029_01.row.prog w) (ktrTop dp un gd cn cs L a ccd cl outer) (call (.ref 268) [.ref x, .str nm tn]) Q E s :=
  all_claim0 w mean mg mb x dx lx hds ys ep hs tk0 nm tn news hT hq hnl hqk hyl dp un gd cn cs a ccd cl outer A₀ base h₀ L m s Q E B F X (news_add (news_add (news_add N hlm) (.tail _ hdm)) (.tail _ (.tail _ hxm))) T hcs hdp hun
    fun h' tk' r vs h1 h2 h3 h4 => hret h' tk' r vs h1 h2.2.2.2 h3 (cb_drop h4 fun p hp => by
      rcases List.mem_cons.mp hp with rfl | hp
      · exact .head _
      · exact .tail _ (.tail _ (.tail _ (.tail _ hp))))
end Mine
end
section
open PySem PySem.W PyProof.Rows PySem.Spec PySem.Calls PySem.Builtin.Re
set_option Elab.async false
set_option maxRecDepth 1000000
set_option linter.unusedVariables false
set_option linter.unusedSimpArgs false
namespace Mine

local macro_rules | `(tactic| walk_at "MINE enterP") => `(tactic| (refine' kp_more ?k1 ?k2 ?k3 ?k4 ?k5 ?kA ?kF ?kK ?k6 ?k7 ?k8 ?kX ?kM ?kN ?kD ?kR ?kP ?kT ?kB ?_ ?c2 ?c3 ?c4 ?c5; (case kA => exact rfl); (case kF => exact rfl); (case kK => first | exact rfl | assumption); (case k1 => k_asm); (case k2 => k_asm); (case k3 => k_asm); (case k4 => k_asm); (case k5 => k_asm); (case k6 => k_is); (case k7 => k_is); (case k8 => ktr_room); (case kX => kp_lit); (case kM => exact rfl); (case kN => exact rfl); (case kD => kp_flats); (case kR => exact rfl); (case kP => exact rfl); (case kT => exact fun _ => rfl); (case kB => exact fun _ => locs rfl); (case c5 => decide); (case c2 => exact rfl); (case c3 => exact rfl); (case c4 => exact rfl); k_whole; intro D' o' g' L' h' tk' l1 lo' hs' fs' FG' F' N' B' X' T'; (try k_lt l1); (try dsimp only); (try k_lift B'); (try k_fold)))

set_option maxHeartbeats 4000000 in
theorem add_claim (w : World) (mean : ExcName → Option Value) (mg mb : Str → Option Value) (x dx lx : Addr) (ys : List Value) (ep : Nat) (hs : Int) (tk0 : Tok) (nm : Str) (tn : Tok) (vl : Str) (tv : Tok) (rest : List (Addr × Obj))
    (hl : ∀ p ∈ (x, instObj 329 dx) :: (dx, hdO hs tk0 lx) :: rest, p.1 ≠ lx) (hq : QuietS nm) (hqv : QuietS vl) (hyl : ys.length < 1000)
    (dp un : Nat) (gd : Option (List Code)) (cn : Str) (cs : Scope) (a : Addr) (ccd : Value) (cl : List (Str × Addr)) (outer : List Env) (A₀ : Around) (base h₀ : Heap) (L : Addr) (m : Str → Option Value) (s : Shared) (Q E : Value → Shared → Prop)
    (B : Below A₀ base outer h₀) (F : Fr h₀ L s.heap m) (X : (KK w.params).In h₀) (N : News h₀ L s.heap ((lx, lst0 ys ep) :: (x, instObj 329 dx) :: (dx, hdO hs tk0 lx) :: rest)) (T : Top qq (looseW qq looseQ) mean mg mb h₀) (hcs : cs.kind = .function) (hdp : dp + 5 < recursionLimit) (hun : un + 26 < cLine)
    (hret : ∀ h' tk' p t1 t2 c, AllLt p ((lx, lst0 ys ep) :: (x, instObj 329 dx) :: (dx, hdO hs tk0 lx) :: rest) → Fr h₀ L h' m → News h₀ L h' ((p, ({ cls := .type "tuple", data := .seq #[.str nm t1, .str vl t2] c } : Obj)) :: (lx, lst0 (ys ++ [.ref p]) (ep + 1)) :: (x, instObj 329 dx) :: (dx, hdO hs tk0 lx) :: rest) → Q .none { s with heap := h', toks := tk' }) :
    wpAny (model PySem.Challenge.rw_wc0029_01.row.prog w) (ktrTop dp un gd cn cs L a ccd cl outer) (call (.ref 326) [.ref x, .str nm tn, .str vl tv]) Q E s := by
  revert B F X N T hcs hdp hun hret; k_fill; intro B F X N T hcs hdp hun hret
  refine wpAny_call ?_
  walk_at "MINE enterP"
  k_steps
  show wpAny _ _ (call (.ref 230) [.ref x, .str vl _] [(Str.ofString "name", .bool false)]) _ _ _
  refine' conv_claim w mean mg mb _ _ _ _ _ hqv.1 hqv.2.1 hqv.2.2 _ _ _ _ _ _ _ _ _ _ _ _ _ _ _ _ _ ?pB ?pF ?pX ?pN ?pT ?pcs ?pdp ?pun ?pret
  case pB => k_asm
  case pF => k_asm
  case pX => k_asm
  case pN => k_asm
  case pT => k_asm
  case pcs => exact rfl
  case pdp => show dp + 1 + 3 < _; omega
  case pun => show un + 3 + 20 < _; omega
  intro h5 tk5 F5 N5
  k_steps
  rename News _ _ _ ((_, W.listOf (#[].push _) _) :: _) => Nold
  have hvw := Heap.lt_size (Nold (lx, lst0 ys ep) (by k_mem)).1
  show wpAny _ _ (call (.ref 230) [.ref x, .str nm _] [(Str.ofString "name", .bool true)]) _ _ _
  refine' conv_claim w mean mg mb _ _ _ _ _ hq.1 hq.2.1 hq.2.2 _ _ _ _ _ _ _ _ _ _ _ _ _ _ _ _ _ ?qB ?qF ?qX ?qN ?qT ?qcs ?qdp ?qun ?qret
  case qB => k_asm
  case qF => k_asm
  case qX => k_asm
  case qN => k_asm
  case qT => k_asm
  case qcs => exact rfl
  case qdp => show dp + 1 + 3 < _; omega
  case qun => show un + 3 + 20 < _; omega
  intro h6 tk6 F6 N6
  k_steps
  have hvl : vl.length < 1000 := hqv.2.2
  refine join_listW (items := #[.str vl tv]) (News.isList N6 (by k_mem)) (StrsAre.cons _ _ .nil) (by decide) (by simp; omega) ?_
  intro tj kj
  rw [show Txt.join (Str.ofString "; ") [vl] = vl from rfl]
  k_steps
  refine' append_K (D := lx) (its := ys.toArray) (n := ep) ?r1 ?r2 (.tail ?r3 (.tail ?r4 (.tail ?r5 (.tail ?r6 (.head hl))))) ?_ ?r7
  case r1 => k_asm
  case r2 => k_asm
  case r3 => k_ne
  case r4 => exact Nat.ne_of_gt hvw
  case r5 => k_ne
  case r6 => k_ne
  case r7 => simp [sizeLine]; omega
  k_whole
  intro h8 F8 N8
  simp only [List.push_toArray] at N8
  k_sweep
  k_steps
  rename _ < _ ∧ _ < _ ∧ _ < _ ∧ _ < _ ∧ _ < _ ∧ _ < _ ∧ AllLt _ _ => hl9
  exact hret _ _ _ _ _ _ hl9.2.2.2 (by k_asm) (cb_drop (by k_asm) fun p hp => by
    rcases List.mem_cons.mp hp with rfl | hp
    · exact .head _
    · exact .tail _ (.tail _ (.tail _ (.tail _ hp))))
end Mine
end
section
open PySem PySem.W PyProof.Rows PySem.Spec
set_option Elab.async false
set_option maxRecDepth 1000000
set_option linter.unusedVariables false
namespace Mine
noncomputable def sentPairs : List (Str × Str) := [(Str.ofString "ffi", Str.ofString "ﬃ"), (Str.ofString "ffl", Str.ofString "ﬄ"), (Str.ofString "ff", Str.ofString "ﬀ"), (Str.ofString "fi", Str.ofString "ﬁ"), (Str.ofString "fl", Str.ofString "ﬂ"), (Str.ofString "st", Str.ofString "ﬆ"), (Str.ofString "ss", Str.ofString "ß")]
noncomputable def okC : List Nat := [102, 105, 108, 115, 116, 64259, 64260, 64256, 64257, 64258, 64262, 223]
noncomputable def decC (c : Nat) : List Nat := (b3map c).cps.toList
theorem ok_b1 : okC.all (fun c => !(b1keys.contains (c : Int)) && !(decC c).isEmpty && Nat.ble (decC c).length 3 && Nat.blt c 70000) = true := by decide +kernel
theorem b1_soft : b1keys.contains ((173 : Nat) : Int) = true := by decide +kernel
theorem dec_letters : letters.all (fun c => eqL (decC c) [c] && okC.contains c) = true := by decide +kernel
theorem pairs_dec : sentPairs.all (fun p => eqL (p.1.cps.toList.flatMap decC) (p.2.cps.toList.flatMap decC) && p.2.cps.toList.all okC.contains && Nat.beq p.2.length 1 && !(p.1 == p.2)) = true := by decide +kernel
noncomputable def SentOk (x y : Str) : Prop := (∀ c ∈ y.cps.toList, c ∈ okC) ∧ y.cps.toList.flatMap decC = x.cps.toList
theorem sent_start {x : Str} (h : ∀ c ∈ x.cps.toList, c ∈ letters) : SentOk x x := by
  have hl := List.all_eq_true.mp dec_letters
  refine ⟨fun c hc => ?_, ?_⟩
  · have := hl c (h c hc)
    rw [Bool.and_eq_true] at this
    simpa using this.2
  · have : ∀ l : List Nat, (∀ c ∈ l, c ∈ letters) → l.flatMap decC = l := by
      intro l
      induction l with
      | nil => intro _; rfl
      | cons a r ih =>
        intro h
        have := hl a (h a (by simp))
        rw [Bool.and_eq_true] at this
        rw [List.flatMap_cons, eqL_eq this.1, ih fun c hc => h c (by simp [hc])]; rfl
    exact this _ h
theorem join_dec {p s : Str} (h : p.cps.toList.flatMap decC = s.cps.toList.flatMap decC) : ∀ ps : List Str, (Str.join s ps).cps.toList.flatMap decC = (Str.join p ps).cps.toList.flatMap decC
  | [] => rfl
  | [x] => rfl
  | x :: y :: r => by
    show (x ++ s ++ Str.join s (y :: r)).cps.toList.flatMap decC = (x ++ p ++ Str.join p (y :: r)).cps.toList.flatMap decC
    simp only [PySem.Str.cps_append, Array.toList_append, List.flatMap_append]
    rw [join_dec h (y :: r), h]
theorem join_chars {p s : Str} {c : Nat} : ∀ ps : List Str, c ∈ (Str.join s ps).cps.toList → c ∈ s.cps.toList ∨ c ∈ (Str.join p ps).cps.toList
  | [], h => .inr h
  | [x], h => .inr h
  | x :: y :: r, h => by
    have h : c ∈ (x ++ s ++ Str.join s (y :: r)).cps.toList := h
    show _ ∨ c ∈ (x ++ p ++ Str.join p (y :: r)).cps.toList
    simp only [PySem.Str.cps_append, Array.toList_append, List.mem_append] at h ⊢
    rcases h with (h | h) | h
    · exact .inr (.inl (.inl h))
    · exact .inl h
    · rcases join_chars (p := p) (y :: r) h with h | h
      · exact .inl h
      · exact .inr (.inr h)
theorem rep_ok {x y p s : Str} (h : SentOk x y) (hp : (p, s) ∈ sentPairs) : SentOk x (Txt.replace y p s) := by
  have hq := List.all_eq_true.mp pairs_dec (p, s) hp
  simp only [Bool.and_eq_true] at hq
  obtain ⟨⟨⟨h1, h2⟩, _⟩, _⟩ := hq
  have h1 := eqL_eq h1
  unfold Txt.replace
  split
  · exact h
  · rw [StrLaws.glued_eq_join, StrLaws.partsBetween_eq]
    obtain ⟨f, hf⟩ := StrLaws.occ_chain y p (y.length + 1)
    have hj := StrLaws.join_partsFrom y p _ 0 f hf
    rw [StrLaws.sub_whole] at hj
    refine ⟨fun c hc => ?_, ?_⟩
    · rcases join_chars (p := p) _ hc with hc | hc
      · have := List.all_eq_true.mp h2 c hc
        simpa using this
      · rw [hj] at hc; exact h.1 c hc
    · rw [join_dec h1, hj]; exact h.2
theorem flat_len : ∀ {l : List Nat}, (∀ c ∈ l, c ∈ okC) → l.length ≤ (l.flatMap decC).length
  | [], _ => Nat.le_refl _
  | a :: r, h => by
    have := List.all_eq_true.mp ok_b1 a (h a (by simp))
    simp only [Bool.and_eq_true] at this
    have h1 : (decC a).length ≠ 0 := by
      intro e; have e := List.length_eq_zero_iff.mp e; rw [e] at this; simp at this
    have := flat_len (l := r) fun c hc => h c (by simp [hc])
    rw [List.flatMap_cons, List.length_append, List.length_cons]; omega
theorem SentOk.len {x y : Str} (h : SentOk x y) : y.length ≤ x.length := by
  have := flat_len h.1
  rw [h.2] at this; simpa [Str.length] using this
/-- the spelled text: a soft hyphen ahead of each second sign -/
noncomputable def spellAt (i c : Nat) : Str := Txt.mul (Str.ofString "\u00ad") ((i : Int).fmod 2) ++ ⟨#[c]⟩
theorem spellAt_cps (i c : Nat) : (spellAt i c).cps.toList = (if i % 2 = 1 then [173] else []) ++ [c] := by
  have e : ((i : Int).fmod 2) = ((i % 2 : Nat) : Int) := by rw [Int.fmod_eq_emod_of_nonneg _ (by decide)]; omega
  unfold spellAt
  rw [e, PySem.Str.cps_append, Array.toList_append]
  congr 1
  have h2 : i % 2 = 0 ∨ i % 2 = 1 := by omega
  rcases h2 with h2 | h2 <;> rw [h2]
  · rfl
  · show _ = [173]
    decide +kernel
noncomputable def spellL (k : Nat) : List Nat → List Str
  | [] => []
  | c :: r => spellAt k c :: spellL (k + 1) r
theorem spellL_snoc : ∀ (l : List Nat) (k c : Nat), spellL k (l ++ [c]) = spellL k l ++ [spellAt (k + l.length) c]
  | [], k, c => rfl
  | a :: r, k, c => by
    show spellAt k a :: spellL (k + 1) (r ++ [c]) = spellAt k a :: (spellL (k + 1) r ++ [spellAt (k + (r.length + 1)) c])
    rw [spellL_snoc r (k + 1) c]
    congr 4; omega
theorem spell_len : ∀ (l : List Nat) (k : Nat), (spellL k l).length = l.length
  | [], _ => rfl
  | a :: r, k => by show (spellL (k + 1) r).length + 1 = r.length + 1; rw [spell_len]
theorem spellAt_len (i c : Nat) : (spellAt i c).length ≤ 2 := by
  have := congrArg List.length (spellAt_cps i c)
  have e : (spellAt i c).length = (spellAt i c).cps.toList.length := by simp [Str.length]
  rw [e, this]; split <;> simp
theorem spell_sum : ∀ (l : List Nat) (k : Nat), ((spellL k l).map (·.length)).sum ≤ 2 * l.length
  | [], _ => Nat.le_refl _
  | a :: r, k => by
    have := spell_sum r (k + 1)
    have h := spellAt_len k a
    show (spellAt k a).length + ((spellL (k + 1) r).map (·.length)).sum ≤ 2 * (r.length + 1)
    omega
theorem join0 : ∀ ps : List Str, (Txt.join (Str.ofString "") ps).cps.toList = ps.flatMap (·.cps.toList) := by
  have h : ∀ ps : List Str, (Str.join (Str.ofString "") ps).cps.toList = ps.flatMap (·.cps.toList) := by
    intro ps
    induction ps with
    | nil => rfl
    | cons x r ih =>
      cases r with
      | nil => show x.cps.toList = _; simp
      | cons y r =>
        show (x ++ Str.ofString "" ++ Str.join (Str.ofString "") (y :: r)).cps.toList = _
        rw [PySem.Str.cps_append, PySem.Str.cps_append, Array.toList_append, Array.toList_append, ih]
        have : (Str.ofString "").cps.toList = [] := rfl
        rw [this, List.append_nil]; rfl
  intro ps
  show (Builtin.Str.glued _ ps).cps.toList = _
  rw [StrLaws.glued_eq_join]; exact h ps
noncomputable def keepC (c : Nat) : Bool := !(b1keys.contains (c : Int))
theorem spell_keep : ∀ (l : List Nat) (k : Nat), (∀ c ∈ l, c ∈ okC) → ((spellL k l).flatMap (·.cps.toList)).filter keepC = l
  | [], _, _ => rfl
  | a :: r, k, h => by
    have hq := List.all_eq_true.mp ok_b1 a (h a (by simp))
    simp only [Bool.and_eq_true] at hq
    have ha : keepC a = true := hq.1.1.1
    have hs : keepC 173 = false := by unfold keepC; rw [b1_soft]; rfl
    show ((spellAt k a).cps.toList ++ (spellL (k + 1) r).flatMap (·.cps.toList)).filter keepC = a :: r
    rw [List.filter_append, spell_keep r (k + 1) fun c hc => h c (by simp [hc]), spellAt_cps, List.filter_append]
    have : ([a] : List Nat).filter keepC = [a] := by simp [ha]
    rw [this]
    split <;> simp [hs]
/-- the chars that are left, mapped, give the first text again -/
noncomputable def mapL (l : List Nat) : List Str := (l.filter keepC).map b3map
theorem sent_end {x y : Str} (h : SentOk x y) : Txt.join (Str.ofString "") (mapL (Txt.join (Str.ofString "") (spellL 0 y.cps.toList)).cps.toList) = x := by
  refine PySem.Str.ext' (Array.toList_inj.mp ?_)
  rw [join0, mapL, join0, spell_keep _ 0 h.1, List.flatMap_map]
  exact h.2
theorem map_sum : ∀ {l : List Nat}, ((l.map b3map).map (·.length)).sum = (l.flatMap decC).length
  | [] => rfl
  | a :: r => by
    rw [List.map_cons, List.map_cons, List.sum_cons, map_sum, List.flatMap_cons, List.length_append]
    simp [decC, Str.length]
theorem sent_sum {x y : Str} (h : SentOk x y) : ((mapL (Txt.join (Str.ofString "") (spellL 0 y.cps.toList)).cps.toList).map (·.length)).sum = x.length ∧ (mapL (Txt.join (Str.ofString "") (spellL 0 y.cps.toList)).cps.toList).length ≤ x.length := by
  unfold mapL
  rw [join0, spell_keep _ 0 h.1, map_sum, h.2, List.length_map]
  exact ⟨by simp [Str.length], by have := h.len; simpa [Str.length] using this⟩
theorem spelled_len {y : Str} : (Txt.join (Str.ofString "") (spellL 0 y.cps.toList)).cps.size ≤ 2 * y.length := by
  have h1 := congrArg List.length (join0 (spellL 0 y.cps.toList))
  have h2 : ∀ ps : List Str, (ps.flatMap (·.cps.toList)).length = (ps.map (·.length)).sum := by
    intro ps
    induction ps with
    | nil => rfl
    | cons a r ih => rw [List.flatMap_cons, List.length_append, ih, List.map_cons, List.sum_cons]; simp [Str.length]
  rw [h2] at h1
  have := spell_sum y.cps.toList 0
  simp [Str.length] at h1 this ⊢; omega
theorem mapL_char {z : List Nat} {y : Str} (hz : z = (Txt.join (Str.ofString "") (spellL 0 y.cps.toList)).cps.toList) {x : Str} (h : SentOk x y) {c : Nat} (hc : c ∈ z) (hk : keepC c = true) : c < 70000 := by
  have : c ∈ z.filter keepC := List.mem_filter.mpr ⟨hc, hk⟩
  rw [hz, join0, spell_keep _ 0 h.1] at this
  have hq := List.all_eq_true.mp ok_b1 c (h.1 c this)
  simp only [Bool.and_eq_true] at hq
  exact Nat.le_of_ble_eq_true hq.2
end Mine
end
section
open PySem PySem.W PyProof.Rows PySem.Spec PySem.Calls PyProof.Rows.LCg
set_option Elab.async false
set_option maxRecDepth 1000000
set_option linter.unusedVariables false
set_option maxHeartbeats 4000000
namespace Mine
section
variable {prog : Program} {w : World} {A : Around} {E : Value → Shared → Prop} {s : Shared} {h₀ : Heap} {L : Addr} {m : Str → Option Value} {env : Env}
theorem str_draws {x : Str} {t : Tok} {it : Addr} (hh : A.handled = none) : Draws prog w A it [it] x.cps.size (fun i v => ∃ c u, x.cps[i]? = some c ∧ v = .str ⟨#[c]⟩ u) (fun i h => h.IsStrIter it (strIterType x) x t i) := by
  cases ha : x.cps.all (· < 128)
  · have e : strIterType x = "str_iterator" := by simp [strIterType, ha]
    rw [e]; exact Draws.strWide hh it x t
  · have e : strIterType x = "str_ascii_iterator" := by simp [strIterType, ha]
    rw [e]; exact Draws.strAscii hh it x t
/-- `[elt for a, b in enumerate(x)]`, x a text: its turns by an invariant. -/
theorem block_ES {elt iter : PySem.Expr} {a b : Str} {pa pb tp : Pos} {kk : Nat} {scope : Scope} {cl : List (Str × Addr)} {pos : Pos} {s₂ : Shared} {I IT : Addr} {x : Str} {t : Tok} {news : List (Addr × Obj)}
    {RR : Value → Addr → Result → Shared → Prop} (Inv : Nat → List Value → Prop)
    (hh : A.handled = none) (hne : I ≠ IT) (hsz : x.cps.size ≤ sizeLine) (hI : IsEnum s₂.heap I IT 0 .none) (hT : s₂.heap.IsStrIter IT (strIterType x) x t 0)
    (hcell : ∀ y ∈ scope.names, y.2 ≠ .cell) (hkind : scope.kind = .function) (hxa : scope.names.lookup a = some .local) (hxb : scope.names.lookup b = some .local) (hab : ¬ a = b)
    (F : Fr h₀ L s₂.heap m) (N : News h₀ L s₂.heap news) (hIL : L ≠ I) (hTL : L ≠ IT) (hI₀ : h₀.get? I = none) (hT₀ : h₀.get? IT = none) (off : ∀ p ∈ news, p.1 ≠ I) (offT : ∀ p ∈ news, p.1 ≠ IT)
    (h0 : Inv 0 [])
    (turn : ∀ i c u ys ti I oI IT oIT C oC D m₂ h tk (E' : Value → Shared → Prop), i < x.cps.size → x.cps[i]? = some c → Inv i ys → NsObj oC m₂ → m₂ a = some (.int i ti) → m₂ b = some (.str ⟨#[c]⟩ u) → Fr h₀ L h m → News h₀ L h ((I, oI) :: (C, oC) :: (D, lst ys) :: (IT, oIT) :: news) → Off3 I C D ((IT, oIT) :: news) → ((@Ne Nat I C) ∧ (@Ne Nat I D) ∧ (@Ne Nat C D)) →
      wpAny (model prog w) A (eval elt (compEnvC scope cl C env)) (CompEnd h₀ L m { s₂ with heap := h, toks := tk } I oI C oC D (lst ys) (fun _ => True) (fun y nw => nw = (IT, oIT) :: news ∧ Inv (i + 1) (ys ++ [y]))) E' { s₂ with heap := h, toks := tk })
    (hRR : ∀ D C h tk m' ys, Fr h₀ L h m → News h₀ L h ((D, lst ys) :: news) → Off1 D news → h.Ns C m' → h₀.get? C = none → h₀.get? D = none → C ≠ L → D ≠ L → C ≠ D → (∀ p ∈ news, p.1 ≠ C) → Inv x.cps.size ys → RR (.ref D) C (.ok .next) { s₂ with heap := h, toks := tk }) :
    wpAny (model prog w) A (newList []) (fun acc s₃ => wpAny (model prog w) A (newFunctionEnv scope env.globals cl [] env.qual none .none (some env)) (fun cenv s₄ =>
      codeAny (model prog w) A (.compStart (.ListComp elt [⟨.Tuple [.Name a pa, .Name b pb] kk tp, iter, [], 0⟩] scope pos) 0 (.ref I) acc { cenv with scope := relabel scope env }) (RR acc cenv.locals) s₄) E s₃) E s₂ := by
  refine wpAny_newObj_type (wpAny_newFunctionEnv hcell (by intro y hy; simp at hy) (fun h₁ hns₁ hsb₁ => ?_) hkind)
  dsimp only at hns₁ hsb₁ ⊢
  generalize hH2 : s₂.heap.push { cls := .type "list", dict := none, data := .seq ([] : List Value).toArray } = H2 at hns₁ hsb₁ ⊢
  have hC : H2.objs.size = s₂.heap.objs.size + 1 := by rw [← hH2, Heap.size_push]
  have hDC : s₂.heap.objs.size ≠ H2.objs.size := by rw [hC]; exact Nat.ne_of_lt (Nat.lt_succ_self _)
  have below : ∀ b, b < s₂.heap.objs.size → b ≠ H2.objs.size ∧ b ≠ s₂.heap.objs.size := fun b hb => ⟨by rw [hC]; exact Nat.ne_of_lt (Nat.lt_succ_of_lt hb), Nat.ne_of_lt hb⟩
  have hIlt : I < s₂.heap.objs.size := Heap.lt_size hI
  have hTlt : IT < s₂.heap.objs.size := by obtain ⟨o, e, _⟩ := hT; exact Heap.lt_size e
  have old : ∀ b o, s₂.heap.get? b = some o → h₁.get? b = some o := fun b o e => hsb₁.extBut b o (below b (Heap.lt_size e)).1 (Heap.get?_push_of_some _ (hH2 ▸ Heap.get?_push_of_some _ e))
  have hacc : h₁.get? s₂.heap.objs.size = some (lst []) := hsb₁.extBut _ _ hDC (Heap.get?_push_of_some _ (hH2 ▸ Heap.get?_push_size _ rfl))
  have hI₁ : IsEnum h₁ I IT 0 .none := old _ _ hI
  have hT₁ : h₁.IsStrIter IT (strIterType x) x t 0 := by obtain ⟨o, e, r⟩ := hT; exact ⟨o, old _ _ e, r⟩
  have fresh : ∀ a, s₂.heap.objs.size ≤ a → s₂.heap.get? a = none := fun a ha => by
    cases e : s₂.heap.get? a with
    | none => rfl
    | some o' => exact absurd (Heap.lt_size e) (Nat.not_lt.mpr ha)
  have fresh₀ : ∀ a, s₂.heap.objs.size ≤ a → h₀.get? a = none := fun a ha => by
    cases e : h₀.get? a with
    | none => rfl
    | some o' => have := F.keep a o' e; rw [fresh a ha] at this; cases this
  have hD₀ : h₀.get? s₂.heap.objs.size = none := fresh₀ _ (Nat.le_refl _)
  have hC₀ : h₀.get? H2.objs.size = none := fresh₀ _ (by rw [hC]; exact Nat.le_succ _)
  have hLlt : L < s₂.heap.objs.size := F.ns.lt
  have hDL : s₂.heap.objs.size ≠ L := Ne.symm (below L hLlt).2
  have hCL : H2.objs.size ≠ L := Ne.symm (below L hLlt).1
  have hCI : I ≠ H2.objs.size := (below I hIlt).1
  have hDI : I ≠ s₂.heap.objs.size := (below I hIlt).2
  have hCT : IT ≠ H2.objs.size := (below IT hTlt).1
  have hDT : IT ≠ s₂.heap.objs.size := (below IT hTlt).2
  have offN : ∀ p ∈ news, p.1 ≠ H2.objs.size ∧ p.1 ≠ s₂.heap.objs.size := fun p hp => below _ (Heap.lt_size (N p hp).1)
  have W := WalksT.enumerateD (prog := prog) (w := w) (A := A) (str_draws (prog := prog) (w := w) (A := A.in1) (x := x) (t := t) (it := IT) hh) I hne (by simpa using hne) (by simp)
  have loop : ∀ s₃ : Shared, s₃ = { s₂ with heap := h₁, toks := s₂.toks + ([] : List (Str × Value)).length } →
      codeAny (model prog w) A (.compLoop (.ListComp elt [⟨.Tuple [.Name a pa, .Name b pb] kk tp, iter, [], 0⟩] scope pos) 0 (.ref I) (.ref s₂.heap.objs.size) (compEnvC scope cl H2.objs.size env))
        (RR (.ref s₂.heap.objs.size) H2.objs.size) s₃ := by
    rintro s₃ rfl
    refine kcp_loop
      (fun k s' => ∃ h' tk i ys m', s' = { s₂ with heap := h', toks := tk } ∧ i ≤ x.cps.size ∧ k = x.cps.size + 1 - i ∧ ys.length = i ∧ ((∃ old, IsEnum h' I IT i old) ∧ h'.IsStrIter IT (strIterType x) x t i) ∧ Fr h₀ L h' m ∧ h'.Ns H2.objs.size m' ∧
        News h₀ L h' ((s₂.heap.objs.size, lst ys) :: news) ∧ Inv i ys) ?_ (x.cps.size + 1)
      ⟨h₁, _, 0, [], _, rfl, Nat.zero_le _, rfl, rfl, ⟨⟨_, hI₁⟩, hT₁⟩, F.keeps old, hns₁, fun p hp => ?_, h0⟩
    · rintro k s' ⟨h', tk, i, ys, m', rfl, hi, rfl, hyl, hst, F', hn', N', hv⟩
      by_cases hlt : i < x.cps.size
      · refine W.item i _ _ _ hlt hst fun T vals h₂ tk₂ hP hTs hTup hMd hk₂ => ?_
        obtain ⟨ti, xv, ⟨c, u, hc, rfl⟩, rfl⟩ := hP
        have hap := W.apart i T _ hMd
        refine W.go _ _ _ i T _ _ _ hMd fun h₃ hst₃ hk₃ => ?_
        have hTup₃ : h₃.IsTuple T #[.int i ti, .str ⟨#[c]⟩ u] := hTup.at fun o e => hk₃ T o hap e
        have up₃ : ∀ c o, c ≠ I → c ≠ IT → h'.get? c = some o → h₃.get? c = some o := fun c o h1 h2 e => hk₃ c o (by simp [h1, h2]) (hk₂ c o (by simp [h1, h2]) e)
        refine kcp_assign (env := compEnvC scope cl H2.objs.size env) hh hTup₃ (lookup_relabel_local hxa) (lookup_relabel_local hxb) (by simp [compEnvC, relabel, hkind]) (hn'.at' fun o e => up₃ _ o (Ne.symm hCI) (Ne.symm hCT) e) fun h₄ tk₄ hn₄ hs₄ => ?_
        have up : ∀ c o, c ≠ I → c ≠ IT → c ≠ H2.objs.size → h'.get? c = some o → h₄.get? c = some o := fun c o h1 h2 h3 e => hs₄ c o h3 (up₃ c o h1 h2 e)
        obtain ⟨⟨old', hI₃⟩, oT, hT₃, rT⟩ := hst₃
        obtain ⟨oI, heI, hoI⟩ : ∃ oI : Obj, h₄.get? I = some oI ∧ ∀ h : Heap, h.get? I = some oI → IsEnum h I IT (((i + 1 : Nat) : Int)) old' := ⟨_, hs₄ I _ hCI hI₃, fun _ e => e⟩
        have heT : h₄.get? IT = some oT := hs₄ IT _ hCT hT₃
        obtain ⟨oC, heC, hoC⟩ := ns_obj hn₄
        have F₄ : Fr h₀ L h₄ m := ⟨F'.ns.at' fun o e => up _ o hIL hTL (Ne.symm hCL) e, fun c o e => up c o (fun q => by rw [q, hI₀] at e; cases e) (fun q => by rw [q, hT₀] at e; cases e) (fun q => by rw [q, hC₀] at e; cases e) (F'.keep c o e), F'.above⟩
        have N₄ : News h₀ L h₄ ((I, oI) :: (H2.objs.size, oC) :: (s₂.heap.objs.size, lst ys) :: (IT, oT) :: news) := fun q hq => by
          rcases List.mem_cons.mp hq with rfl | hq
          · exact ⟨heI, Ne.symm hIL, hI₀⟩
          rcases List.mem_cons.mp hq with rfl | hq
          · exact ⟨heC, hCL, hC₀⟩
          rcases List.mem_cons.mp hq with rfl | hq
          · have z := N' (s₂.heap.objs.size, lst ys) (.head _)
            exact ⟨up _ _ (Ne.symm hDI) (Ne.symm hDT) hDC z.1, z.2⟩
          rcases List.mem_cons.mp hq with rfl | hq
          · exact ⟨heT, Ne.symm hTL, hT₀⟩
          · have z := N' q (.tail _ hq)
            exact ⟨up _ _ (off q hq) (offT q hq) (offN q hq).1 z.1, z.2⟩
        have off₄ : Off3 I H2.objs.size s₂.heap.objs.size ((IT, oT) :: news) := Off3.of fun p hp => by
          rcases List.mem_cons.mp hp with rfl | hp
          · exact ⟨Ne.symm hne, hCT, hDT⟩
          · exact ⟨off p hp, (offN p hp).1, (offN p hp).2⟩
        refine wpAny_mono (turn i c u ys ti I oI IT oT H2.objs.size oC s₂.heap.objs.size _ h₄ _ _ hlt hc hv hoC (by simp [hab]) (by simp) F₄ N₄ off₄ ⟨hCI, hDI, Ne.symm hDC⟩) (fun y s₅ h₅ => ?_) fun _ _ e => e
        obtain ⟨h₅, tk₅, news₅, rfl, F₅, N₅, off₅, -, rfl, hv₅⟩ := h₅
        have zI := (N₅ (I, oI) List.mem_cons_self).1
        have zC := (N₅ (H2.objs.size, oC) (List.mem_cons_of_mem _ List.mem_cons_self)).1
        have zD := (N₅ (s₂.heap.objs.size, lst ys) (List.mem_cons_of_mem _ (List.mem_cons_of_mem _ List.mem_cons_self))).1
        have zT := (N₅ (IT, oT) (List.mem_cons_of_mem _ (List.mem_cons_of_mem _ (List.mem_cons_of_mem _ List.mem_cons_self)))).1
        refine append_at (hsz := by show ys.toArray.size ≤ sizeLine; rw [List.size_toArray, hyl]; exact Nat.le_trans hi hsz) zD fun h₆ hs₆ hD₆ => ?_
        refine ⟨x.cps.size + 1 - (i + 1), by omega, h₆, tk₅, i + 1, ys ++ [y], _, rfl, hlt, rfl, by rw [List.length_append, List.length_singleton, hyl], ⟨⟨old', hoI h₆ (hs₆.extBut I oI hDI zI)⟩, oT, hs₆.extBut IT oT hDT zT, rT⟩, F₅.change hs₆ hDL hD₀,
          (hoC.ns zC).sameBut hs₆ (Ne.symm hDC), fun q hq => ?_, hv₅⟩
        rcases List.mem_cons.mp hq with rfl | hq
        · exact ⟨hD₆.trans (congrArg some (lst_snoc ys y)), hDL, hD₀⟩
        · have z := N₅ q (List.mem_cons_of_mem _ (List.mem_cons_of_mem _ (List.mem_cons_of_mem _ (List.mem_cons_of_mem _ hq))))
          exact ⟨hs₆.extBut _ _ (offN q hq).2 z.1, z.2⟩
      · have hin : i = x.cps.size := Nat.le_antisymm hi (Nat.not_lt.mp hlt)
        subst hin
        refine W.done _ _ _ hst fun h₂ tk₂ hk₂ => ?_
        have up₂ : ∀ c o, c ≠ I → c ≠ IT → h'.get? c = some o → h₂.get? c = some o := fun c o h1 h2 e => hk₂ c o (by simp [h1, h2]) e
        refine hRR _ _ h₂ tk₂ _ ys ⟨F'.ns.at' fun o e => up₂ _ o hIL hTL e, fun c o e => up₂ c o (fun q => by rw [q, hI₀] at e; cases e) (fun q => by rw [q, hT₀] at e; cases e) (F'.keep c o e), F'.above⟩
          (fun p hp => ?_) (Off3.one (I := I) (C := H2.objs.size) (Off3.of fun p hp => ⟨off p hp, (offN p hp).1, (offN p hp).2⟩)) (hn'.at' fun o e => up₂ _ o (Ne.symm hCI) (Ne.symm hCT) e) hC₀ hD₀ hCL hDL (Ne.symm hDC) (fun p hp => (offN p hp).1) hv
        have z := N' p hp
        refine ⟨up₂ _ _ ?_ ?_ z.1, z.2⟩
        · rcases List.mem_cons.mp hp with rfl | hp
          · exact Ne.symm hDI
          · exact off p hp
        · rcases List.mem_cons.mp hp with rfl | hp
          · exact Ne.symm hDT
          · exact offT p hp
    · rcases List.mem_cons.mp hp with rfl | hp
      · exact ⟨hacc, hDL, hD₀⟩
      · exact ⟨old _ _ (N p hp).1, (N p hp).2⟩
  exact codeAny_compStart_list (loop _ rfl) (wpAny_pyIter_enum hI₁ (loop _ rfl))
theorem str_walks {x : Str} {t : Tok} {it : Addr} (hh : A.handled = none) : Walks prog w A it [it] [it] x.cps.size (SignAt x) (fun i h => h.IsStrIter it (strIterType x) x t i) := by
  cases ha : x.cps.all (· < 128)
  · have e : strIterType x = "str_iterator" := by simp [strIterType, ha]
    rw [e]; exact Walks.strWide hh it x t
  · have e : strIterType x = "str_ascii_iterator" := by simp [strIterType, ha]
    rw [e]; exact Walks.strAscii hh it x t
/-- what `[elt for a, b in enumerate(x)]` asks at its source. -/
noncomputable def ESrc (prog : Program) (w : World) (A : Around) (h₀ : Heap) (L : Addr) (m : Str → Option Value) (env : Env) (elt : PySem.Expr) (a b : Str) (scope : Scope) (cl : List (Str × Addr)) (Q : Value → Shared → Prop) (xv : Value) (s₂ : Shared) : Prop :=
  ∃ (I IT : Addr) (x : Str) (t : Tok) (news : List (Addr × Obj)) (Inv : Nat → List Value → Prop), xv = .ref I ∧ A.handled = none ∧ I ≠ IT ∧ x.cps.size ≤ sizeLine ∧ IsEnum s₂.heap I IT 0 .none ∧ s₂.heap.IsStrIter IT (strIterType x) x t 0 ∧
    Fr h₀ L s₂.heap m ∧ News h₀ L s₂.heap news ∧ L ≠ I ∧ L ≠ IT ∧ h₀.get? I = none ∧ h₀.get? IT = none ∧ (∀ p ∈ news, p.1 ≠ I) ∧ (∀ p ∈ news, p.1 ≠ IT) ∧ Inv 0 [] ∧
    (∀ i c u ys ti I oI IT oIT C oC D m₂ h tk (E' : Value → Shared → Prop), i < x.cps.size → x.cps[i]? = some c → Inv i ys → NsObj oC m₂ → m₂ a = some (.int i ti) → m₂ b = some (.str ⟨#[c]⟩ u) → Fr h₀ L h m → News h₀ L h ((I, oI) :: (C, oC) :: (D, lst ys) :: (IT, oIT) :: news) → Off3 I C D ((IT, oIT) :: news) → ((@Ne Nat I C) ∧ (@Ne Nat I D) ∧ (@Ne Nat C D)) →
      wpAny (model prog w) A (eval elt (compEnvC scope cl C env)) (CompEnd h₀ L m { s₂ with heap := h, toks := tk } I oI C oC D (lst ys) (fun _ => True) (fun y nw => nw = (IT, oIT) :: news ∧ Inv (i + 1) (ys ++ [y]))) E' { s₂ with heap := h, toks := tk }) ∧
    (∀ ys, Inv x.cps.size ys → FinE h₀ L m s₂ Q ys news)
theorem ListComp_ES {elt iter : PySem.Expr} {a b : Str} {pa pb tp : Pos} {kk : Nat} {scope : Scope} {cl : List (Str × Addr)} {pos : Pos} {Q : Value → Shared → Prop} (F₀ : Fr h₀ L s.heap m)
    (hclos : closureFor scope env = pure cl) (hcell : ∀ y ∈ scope.names, y.2 ≠ .cell) (hkind : scope.kind = .function)
    (hnames : ∀ y ∈ scope.names, y.2 = .local → scope.names.lookup y.1 = some .local) (hxa : scope.names.lookup a = some .local) (hxb : scope.names.lookup b = some .local) (hab : ¬ a = b)
    (h : wpAny (model prog w) A (eval iter env) (ESrc prog w A h₀ L m env elt a b scope cl Q) E s)
    (hs : ∀ x, foldedSetIterable iter env x = pure x := by intro _; rfl) :
    wpAny (model prog w) A (eval (.ListComp elt [⟨.Tuple [.Name a pa, .Name b pb] kk tp, iter, [], 0⟩] scope pos) env) Q E s := by
  rw [eval_ListComp]
  refine wpAny_comprehension_free (use := none) rfl hs hclos hkind hnames (wpAny_mono h (fun xv s₁ h₁ => ?_) fun _ _ e => e)
  obtain ⟨I, IT, x, t, news, Inv, rfl, hh, hne, hsz, hI, hT, F, N, hIL, hTL, hI₀, hT₀, off, offT, h0, turn, fin⟩ := h₁
  refine wpAny_pyIter_enum hI ?_
  refine block_ES Inv hh hne hsz hI hT hcell hkind hxa hxb hab F N hIL hTL hI₀ hT₀ off offT h0 turn ?_
  intro D C h tk m' ys F' N' o1 hn hC₀ hD₀ hCL hDL hCD offC hv
  refine ⟨m', hn, fun h'' hs'' => fin ys hv D h'' tk (F'.change hs'' hCL hC₀) (fun p hp => ?_) o1⟩
  refine ⟨hs''.extBut _ _ ?_ (N' p hp).1, (N' p hp).2⟩
  rcases List.mem_cons.mp hp with rfl | hp
  · exact Ne.symm hCD
  · exact offC p hp
theorem enum_str_src {elt : PySem.Expr} {a b : Str} {scope : Scope} {cl : List (Str × Addr)} {Q : Value → Shared → Prop} {x : Str} {t : Tok} {news : List (Addr × Obj)} (F : Fr h₀ L s.heap m) (N : News h₀ L s.heap news) (Inv : Nat → List Value → Prop)
    (hh : A.handled = none) (hsz : x.cps.size ≤ sizeLine) (h0 : Inv 0 [])
    (turn : ∀ g i c u ys ti I oI IT oIT C oC D m₂ h tk (E' : Value → Shared → Prop), i < x.cps.size → x.cps[i]? = some c → Inv i ys → NsObj oC m₂ → m₂ a = some (.int i ti) → m₂ b = some (.str ⟨#[c]⟩ u) → Fr h₀ L h m → News h₀ L h ((I, oI) :: (C, oC) :: (D, lst ys) :: (IT, oIT) :: news) → Off3 I C D ((IT, oIT) :: news) → ((@Ne Nat I C) ∧ (@Ne Nat I D) ∧ (@Ne Nat C D)) →
      wpAny (model prog w) A (eval elt (compEnvC scope cl C env)) (CompEnd h₀ L m { { s with heap := g } with heap := h, toks := tk } I oI C oC D (lst ys) (fun _ => True) (fun y nw => nw = (IT, oIT) :: news ∧ Inv (i + 1) (ys ++ [y]))) E' { { s with heap := g } with heap := h, toks := tk })
    (fin : ∀ g ys, Inv x.cps.size ys → FinE h₀ L m { s with heap := g } Q ys news) :
    wpAny (model prog w) A (call (.type "enumerate") [.str x t]) (ESrc prog w A h₀ L m env elt a b scope cl Q) E s := by
  refine call_enumerate_str fun h' he hit hsz' hk => ?_
  have hLs : L < s.heap.objs.size := F.ns.lt
  refine ⟨s.heap.objs.size + 1, s.heap.objs.size, x, t, news, Inv, rfl, hh, Nat.succ_ne_self _, hsz, he, hit, F.keeps hk, N.grown hk, ktu_ne 1 hLs, Nat.ne_of_lt hLs, ktu_new F (Nat.le_add_right _ _), ktu_new F (Nat.le_refl _), fun p hp => ktu_ne 1 (Heap.lt_size (N p hp).1), fun p hp => Nat.ne_of_lt (Heap.lt_size (N p hp).1), h0, turn h', fin h'⟩
/-- what a tested comprehension over a text asks at its source. -/
noncomputable def TSrc (prog : Program) (w : World) (A : Around) (h₀ : Heap) (L : Addr) (m : Str → Option Value) (env : Env) (ct elt : PySem.Expr) (y : Str) (scope : Scope) (cl : List (Str × Addr)) (Q : Value → Shared → Prop) (xv : Value) (s₂ : Shared) : Prop :=
  ∃ (x : Str) (t : Tok) (news : List (Addr × Obj)), xv = .str x t ∧ A.handled = none ∧ x.cps.size ≤ sizeLine ∧ Fr h₀ L s₂.heap m ∧ News h₀ L s₂.heap news ∧
    ∀ g, LCt.CompRestT prog w A h₀ L m env ct elt y scope cl { s₂ with heap := g } (fun _ => True) (SignAt x) (FinE h₀ L m { s₂ with heap := g } Q) x.cps.size 0 [] news
theorem ListComp_TS {ct elt iter : PySem.Expr} {y : Str} {px : Pos} {scope : Scope} {cl : List (Str × Addr)} {pos : Pos} {Q : Value → Shared → Prop} (F₀ : Fr h₀ L s.heap m)
    (hclos : closureFor scope env = pure cl) (hcell : ∀ y ∈ scope.names, y.2 ≠ .cell) (hkind : scope.kind = .function)
    (hnames : ∀ y ∈ scope.names, y.2 = .local → scope.names.lookup y.1 = some .local) (hx : scope.names.lookup y = some .local)
    (h : wpAny (model prog w) A (eval iter env) (TSrc prog w A h₀ L m env ct elt y scope cl Q) E s)
    (hs : ∀ x, foldedSetIterable iter env x = pure x := by intro _; rfl) :
    wpAny (model prog w) A (eval (.ListComp elt [⟨.Name y px, iter, [ct], 0⟩] scope pos) env) Q E s := by
  rw [eval_ListComp]
  refine wpAny_comprehension_free (use := none) rfl hs hclos hkind hnames (wpAny_mono h (fun xv s₁ h₁ => ?_) fun _ _ e => e)
  obtain ⟨x, t, news, rfl, hh, hsz, F, N, R⟩ := h₁
  refine wpAny_pyIter_strU ?_
  have up : ∀ b o, s₁.heap.get? b = some o → (s₁.heap.push { cls := .type (strIterType x), data := .fields #[.str x t, .int 0 0] }).get? b = some o := fun b o e => Heap.get?_push_of_some _ e
  refine LCt.block_T (str_walks (x := x) (t := t) (it := s₁.heap.objs.size) hh) hsz (fun i h st => by obtain ⟨o, e, _⟩ := st; exact ⟨o, e⟩)
    (fun i h h' o nw st e1 e2 _ _ _ => by obtain ⟨o', e', r⟩ := st; rw [e1] at e'; cases e'; exact ⟨o, e2, r⟩) hcell hkind hx ⟨_, Heap.get?_push_size _ rfl, rfl, rfl⟩ (fun b hb => ?_)
    (F.keeps up) (N.grown up) (Nat.ne_of_lt F.ns.lt) (next_is_new F) (fun p hp => Nat.ne_of_lt (Heap.lt_size (N p hp).1)) trivial (R _) ?_
  · rw [List.mem_singleton.mp hb]
    show s₁.heap.objs.size < (s₁.heap.push _).objs.size
    rw [Heap.size_push]; exact Nat.lt_succ_self _
  · intro D C h tk m' ys news' F' N' o1 hn hC₀ hD₀ hCL hDL hCD offC fin
    refine ⟨m', hn, fun h'' hs'' => fin D h'' tk (F'.change hs'' hCL hC₀) (fun p hp => ?_) o1⟩
    refine ⟨hs''.extBut _ _ ?_ (N' p hp).1, (N' p hp).2⟩
    rcases List.mem_cons.mp hp with rfl | hp
    · exact Ne.symm hCD
    · exact offC p hp
end
end Mine
end
section
open PySem PySem.W PyProof.Rows PySem.Spec PySem.Calls PySem.Builtin.Re
set_option Elab.async false
set_option maxRecDepth 1000000
set_option linter.unusedVariables false
set_option linter.unusedSimpArgs false
namespace Mine
section
variable {prog : Program} {w : World} {A : Around} {E : Value → Shared → Prop} {s : Shared} {h₀ : Heap} {env : Env}
/-- what a `for a, b in xs` asks of the list that its iterable gives: its items are pairs of the ledger, J holds from turn to turn. -/
noncomputable def PairLoop (prog : Program) (w : World) (A : Around) (h₀ : Heap) (env : Env) (xa xb : Str) (body : List Stmt) (Q : Flow → Shared → Prop) (E : Value → Shared → Prop) (v : Value) (s : Shared) : Prop :=
  ∃ (ax : Addr) (its : List Value) (ep : Nat) (J : Nat → (Str → Option Value) → List (Addr × Obj) → Prop) (m₀ : Str → Option Value) (news : List (Addr × Obj)),
    v = .ref ax ∧ Fr h₀ env.locals s.heap m₀ ∧ News h₀ env.locals s.heap news ∧ (ax, ({ cls := .type "list", data := .seq its.toArray ep } : Obj)) ∈ news ∧ J 0 m₀ news ∧
    (∀ i v m₁ nw I oI, its[i]? = some v → J i m₁ nw → (∀ p ∈ nw, p.1 ≠ I) → ∃ (t : Addr) (ot : Obj) (v₁ v₂ : Value) (nt : Nat), v = .ref t ∧ (t, ot) ∈ nw ∧ ot.cls = .type "tuple" ∧ ot.data = .seq #[v₁, v₂] nt ∧
      ∀ h tk E', Fr h₀ env.locals h (fun y => if y = xb then some v₂ else if y = xa then some v₁ else m₁ y) → News h₀ env.locals h ((I, oI) :: nw) →
      wpAny (model prog w) A (execs body env) (TurnPost h₀ env.locals [(I, oI)] I (J (i + 1)) { s with heap := h, toks := tk } Q) E' { s with heap := h, toks := tk }) ∧
    (∀ i m₁ nw, J i m₁ nw → (ax, ({ cls := .type "list", data := .seq its.toArray ep } : Obj)) ∈ nw) ∧
    (∀ m₁ nw h tk, J its.length m₁ nw → Fr h₀ env.locals h m₁ → News h₀ env.locals h nw → Q .next { s with heap := h, toks := tk })
theorem for_pair_ex {xa xb : Str} {pa pb pt pos : Pos} {tk0 : Nat} {iter : Expr} {body : List Stmt} {Q : Flow → Shared → Prop} {mm : Str → Option Value} (F₀ : Fr h₀ env.locals s.heap mm)
    (hka : env.kindOf xa = some .local) (hkb : env.kindOf xb = some .local) (hp : (env.scope.kind == .class || (env.scope.kind == .module && env.locals != env.globals)) = false) (hh : A.handled = none)
    (hit : wpAny (model prog w) A (eval iter env) (PairLoop prog w A h₀ env xa xb body Q E) E s)
    (hs : ∀ x, foldedSetIterable iter env x = pure x := by intro _; rfl) :
    wpAny (model prog w) A (exec (.For (.Tuple [.Name xa pa, .Name xb pb] tk0 pt) iter body [] pos) env) Q E s := by
  refine wpAny_For (wpAny_mono hit (fun xv s₁ h₁ => ?_) fun _ _ e => e) hs
  obtain ⟨ax, its, ep, J, m₀, news, rfl, F, N, hm, hj, turn, hJm, done⟩ := h₁
  have hax := (N _ hm).1
  have hls : s₁.heap.IsList ax its.toArray := ⟨_, hax, rfl, _, rfl⟩
  refine wpAny_pyIter_list hls ?_
  have hne : ax ≠ s₁.heap.objs.size := Nat.ne_of_lt (Heap.lt_size hax)
  have W := Walks.list (prog := prog) (w := w) hh s₁.heap.objs.size ax hne its.toArray
  have hlen : its.toArray.size = its.length := by simp
  rw [hlen] at W
  have hIL : env.locals ≠ s₁.heap.objs.size := Nat.ne_of_lt F.ns.lt
  have hI₀ : h₀.get? s₁.heap.objs.size = none := next_is_new F
  refine codeAny_forLoopP (fun k s' => ∃ h' tk i m₁ nw, s' = { s₁ with heap := h', toks := tk } ∧ i ≤ its.length ∧ k = its.length + 1 - i ∧ (h'.IsListIter s₁.heap.objs.size ax i ∧ h'.IsList ax its.toArray) ∧ Fr h₀ env.locals h' m₁ ∧ News h₀ env.locals h' nw ∧ (∀ p ∈ nw, p.1 ≠ s₁.heap.objs.size) ∧ J i m₁ nw) ?_ (its.length + 1)
    ⟨_, _, 0, m₀, news, rfl, Nat.zero_le _, rfl, ⟨⟨_, Heap.get?_push_size _ rfl, rfl, rfl⟩, hls.at fun o e => Heap.get?_push_of_some _ e⟩, F.keeps fun _ _ e => Heap.get?_push_of_some _ e, N.grown fun _ _ e => Heap.get?_push_of_some _ e, fun p hp => Nat.ne_of_lt (Heap.lt_size (N p hp).1), hj⟩
  rintro k s' ⟨h', tk, i, m₁, nw, rfl, hi, rfl, hst, F', N', off, hJ⟩
  by_cases hlt : i < its.length
  · refine W.item i _ _ _ hlt hst fun v h₂ tk₂ hPv hst₂ hk₂ => ?_
    obtain ⟨oI, hoI, hoI'⟩ := id hst₂.1
    obtain ⟨t, ot, v₁, v₂, nt, rfl, hmt, hct, hdt, body⟩ := turn i v m₁ nw s₁.heap.objs.size oI (by simpa using hPv) hJ off
    have F₂ : Fr h₀ env.locals h₂ m₁ := LCg.fr_but F' hk₂ hIL hI₀
    have N₂ : News h₀ env.locals h₂ nw := LCg.news_but N' hk₂ off
    have ht : IsTup h₂ t #[v₁, v₂] := ⟨ot, (N₂ _ hmt).1, hct, nt, hdt⟩
    refine wpAny_letOwnedTupleGo_listiter hst₂.1 ?_
    refine assign_Tuple_tuple hh ht rfl rfl fun h₅ he => ?_
    have he' : ∀ b o, h₂.get? b = some o → h₅.get? b = some o := fun b o e => he b o (Nat.ne_of_lt (Heap.lt_size e)) e
    have F₅ := F₂.keeps he'
    have N₅ := N₂.grown he'
    refine assignInOrder_cons (wpAny_assign_Name (wpAny_storeName_local hka F₅.ns (fun h₆ hn₆ hs₆ => ?_) hp))
    have F₆ := F₅.set hn₆ hs₆
    have N₆ := N₅.set hs₆
    refine assignInOrder_cons (wpAny_assign_Name (wpAny_storeName_local hkb F₆.ns (fun h₇ hn₇ hs₇ => ?_) hp))
    have F₇ := F₆.set hn₇ hs₇
    have N₇ := N₆.set hs₇
    refine assignInOrder_nil ?_
    have hI7 : h₇.get? s₁.heap.objs.size = some oI := (hs₇.2 _ (Ne.symm hIL)).trans ((hs₆.2 _ (Ne.symm hIL)).trans (he' _ _ hoI))
    have NI : News h₀ env.locals h₇ ((s₁.heap.objs.size, oI) :: nw) := fun p hp => by
      rcases List.mem_cons.mp hp with rfl | hp
      · exact ⟨hI7, Ne.symm hIL, hI₀⟩
      · exact N₇ p hp
    refine wpAny_mono (body h₇ _ _ F₇ NI) (fun f s₃ hf => ?_) fun _ _ e => e
    have fin : TurnEnd h₀ env.locals [(s₁.heap.objs.size, oI)] s₁.heap.objs.size (J (i + 1)) { s₁ with heap := h₇, toks := tk₂ } s₃ → ∃ m, m < its.length + 1 - i ∧ ∃ h' tk i' m₁ nw, s₃ = { s₁ with heap := h', toks := tk } ∧ i' ≤ its.length ∧ m = its.length + 1 - i' ∧ (h'.IsListIter s₁.heap.objs.size ax i' ∧ h'.IsList ax its.toArray) ∧ Fr h₀ env.locals h' m₁ ∧ News h₀ env.locals h' nw ∧ (∀ p ∈ nw, p.1 ≠ s₁.heap.objs.size) ∧ J i' m₁ nw := by
      rintro ⟨h8, tk8, m8, nw8, rfl, F8, N8, off8, J8⟩
      have hx8 := (N8 (s₁.heap.objs.size, oI) (by simp)).1
      have N8' : News h₀ env.locals h8 nw8 := fun p hp => N8 p (List.mem_append_right _ hp)
      refine ⟨its.length + 1 - (i + 1), by omega, h8, tk8, i + 1, m8, nw8, rfl, hlt, rfl, ⟨⟨oI, hx8, hoI'⟩, ⟨_, (N8' _ (hJm _ _ _ J8)).1, rfl, _, rfl⟩⟩, F8, N8', off8, J8⟩
    cases f with
    | next => exact fin hf
    | cont => exact fin hf
    | brk => exact hf
    | ret v => exact hf
  · obtain rfl : i = its.length := Nat.le_antisymm hi (Nat.not_lt.mp hlt)
    refine W.done _ _ _ hst fun h₂ tk₂ hk₂ => ?_
    refine wpAny_execs_nil ?_
    exact done m₁ nw h₂ tk₂ hJ (LCg.fr_but F' hk₂ hIL hI₀) (LCg.news_but N' hk₂ off)
end
theorem gen_toks {α : Type} {M : Model} {A : Around} {t : Sem α} {Q : α → Shared → Prop} {E : Value → Shared → Prop} {s : Shared} {h : Heap} {n : Nat} (hn : 0 < n) (H : ∀ tk, 0 < tk → wpAny M A t Q E { s with heap := h, toks := tk }) : wpAny M A t Q E { s with heap := h, toks := s.toks + n } := H _ (by omega)
noncomputable def SEnt (nw : List (Addr × Obj)) (p : Str × Str) (v : Value) : Prop := ∃ t c u1 u2, v = .ref t ∧ (t, ({ cls := .type "tuple", data := .seq #[.str p.1 u1, .str p.2 u2] c } : Obj)) ∈ nw ∧ 0 < u1 ∧ 0 < u2 ∧ u1 ≠ u2
theorem paired_atR {α β : Type} {F : α → β → Prop} : ∀ {as : List α} {bs : List β}, Paired F as bs → ∀ (j : Nat) (b : β), bs[j]? = some b → ∃ a, as[j]? = some a ∧ F a b
  | _, _, .nil, j, b, h => by simp at h
  | _, _, .cons h r, 0, b, e => by simp at e; exact ⟨_, rfl, e ▸ h⟩
  | _, _, .cons h r, j + 1, b, e => by simpa using paired_atR r j b (by simpa using e)
theorem SEnt.at {nw : List (Addr × Obj)} {p : Str × Str} {t : Addr} {c : Nat} {u1 u2 : Tok} (hm : (t, ({ cls := .type "tuple", data := .seq #[.str p.1 u1, .str p.2 u2] c } : Obj)) ∈ nw) (h1 : 0 < u1) (h2 : 0 < u2) (h3 : u1 ≠ u2) : SEnt nw p (.ref t) := ⟨t, c, u1, u2, rfl, hm, h1, h2, h3⟩
local macro_rules | `(tactic| walk_at "MINE sent") => `(tactic| (refine' SEnt.at ?hm ?h1 ?h2 ?h3; (case hm => repeat (first | exact List.Mem.head _ | apply List.Mem.tail)); (case h1 => first | exact Nat.succ_pos _ | assumption); (case h2 => exact Nat.succ_pos _); (case h3 => exact Nat.ne_of_lt (Nat.lt_succ_self _))))
theorem sent_at {h₀ h : Heap} {L : Addr} {nw : List (Addr × Obj)} {its : List Value} {i : Nat} {v : Value} (N : News h₀ L h nw) (hi : its[i]? = some v) (hP : Paired (SEnt nw) sentPairs its) : ∃ p, p ∈ sentPairs ∧ SEnt nw p v := by
  obtain ⟨p, hp, h⟩ := paired_atR hP i v hi
  exact ⟨p, List.mem_of_getElem? hp, h⟩
theorem sent_ne {p : Str × Str} (hp : p ∈ sentPairs) : (p.1 == p.2) = false ∧ p.2.length ≤ 14 := by
  have hq := List.all_eq_true.mp pairs_dec p hp
  simp only [Bool.and_eq_true, Bool.not_eq_true'] at hq
  exact ⟨hq.2, by rw [Nat.eq_of_beq_eq_true hq.1.2]; omega⟩
theorem room1 {d : Nat} (h : d + 10 < recursionLimit) : d + 1 + 1 < recursionLimit := by omega
theorem unit8 {d : Nat} (h : d + 60 < cLine) : d + 3 + 8 < cLine := by omega
theorem map_next {z : Str} {i c : Nat} (hc : z.cps[i]? = some c) : mapL (z.cps.toList.take (i + 1)) = mapL (z.cps.toList.take i) ++ (if keepC c = true then [b3map c] else []) := by
  unfold mapL
  rw [List.take_add_one]
  have : z.cps.toList[i]? = some c := by simpa using hc
  rw [this, List.filter_append, List.map_append]
  congr 1
  cases h : keepC c <;> simp [h]
theorem map_yes {z : Str} {i c : Nat} {vs : List Value} {t : Tok} (h : StrsAre vs (mapL (z.cps.toList.take i))) (hc : z.cps[i]? = some c) (hk : b1keys.contains (c : Int) = false) : StrsAre (vs ++ [.str (b3map c) t]) (mapL (z.cps.toList.take (i + 1))) := by
  have hk' : keepC c = true := by unfold keepC; rw [hk]; rfl
  rw [map_next hc, if_pos hk']
  exact h.append' (.cons _ _ .nil)
theorem map_no {z : Str} {i c : Nat} {vs : List Value} (h : StrsAre vs (mapL (z.cps.toList.take i))) (hc : z.cps[i]? = some c) (hk : b1keys.contains (c : Int) = true) : StrsAre vs (mapL (z.cps.toList.take (i + 1))) := by
  have hk' : ¬ keepC c = true := by unfold keepC; rw [hk]; exact Bool.false_ne_true
  rw [map_next hc, if_neg hk', List.append_nil]
  exact h
theorem soft_len (i c : Nat) : (Txt.mul (Str.ofString "­") ((i : Int).fmod 2)).length + (⟨#[c]⟩ : Str).length ≤ sizeLine := by
  have h : ((Txt.mul (Str.ofString "­") ((i : Int).fmod 2)) ++ (⟨#[c]⟩ : Str)).length ≤ 2 := spellAt_len i c
  rw [PySem.Str.length_append] at h
  have : sizeLine = 2 ^ 24 := rfl
  omega
theorem spell_next {y : Str} {i c : Nat} {vs : List Value} {t : Tok} (hv : StrsAre vs (spellL 0 (y.cps.toList.take i))) (hin : i < y.cps.size) (hc : y.cps[i]? = some c) : StrsAre (vs ++ [.str (Txt.mul (Str.ofString "­") ((i : Int).fmod 2) ++ ⟨#[c]⟩) t]) (spellL 0 (y.cps.toList.take (i + 1))) := by
  have hl : (y.cps.toList.take i).length = i := by simp; omega
  have : y.cps.toList.take (i + 1) = y.cps.toList.take i ++ [c] := by
    rw [List.take_add_one]; simp [hc]
  rw [this, spellL_snoc, hl, Nat.zero_add]
  exact hv.append' (.cons _ _ .nil)
noncomputable def SentJ (m₀ : Str → Option Value) (news : List (Addr × Obj)) (x : Str) (i : Nat) (m₁ : Str → Option Value) (nw : List (Addr × Obj)) : Prop :=
  ∃ pv sv y ty, m₁ = (fun z => if z = Str.ofString "row" then some (.str y ty) else if z = Str.ofString "sign" then sv else if z = Str.ofString "plain" then pv else m₀ z) ∧ nw = news ∧ SentOk x y
theorem sentJ_start {m₀ : Str → Option Value} {news : List (Addr × Obj)} {x : Str} {t : Tok} (hr : m₀ (Str.ofString "row") = some (.str x t)) (hx : ∀ c ∈ x.cps.toList, c ∈ letters) : SentJ m₀ news x 0 m₀ news :=
  ⟨m₀ (Str.ofString "plain"), m₀ (Str.ofString "sign"), x, t, by funext z; by_cases h1 : z = Str.ofString "row" <;> by_cases h2 : z = Str.ofString "sign" <;> by_cases h3 : z = Str.ofString "plain" <;> simp_all, rfl, sent_start hx⟩
theorem sentJ_next {m₀ m₁ : Str → Option Value} {news nw : List (Addr × Obj)} {x y' : Str} {t' : Tok} {i : Nat} {a b : Value} (h : SentJ m₀ news x i m₁ nw) (hy : SentOk x y') :
    SentJ m₀ news x (i + 1) (fun z => if z = Str.ofString "row" then some (.str y' t') else if z = Str.ofString "sign" then some b else if z = Str.ofString "plain" then some a else m₁ z) nw := by
  obtain ⟨pv, sv, y, ty, rfl, rfl, _⟩ := h
  refine ⟨some a, some b, y', t', ?_, rfl, hy⟩
  funext z; by_cases h1 : z = Str.ofString "row" <;> by_cases h2 : z = Str.ofString "sign" <;> by_cases h3 : z = Str.ofString "plain" <;> simp_all
local macro_rules | `(tactic| walk_at "eval ListComp") => `(tactic| refine hold ?_)
local macro_rules | `(tactic| walk_at "exec For Tuple List cons nil") => `(tactic| refine hold ?_)
local macro_rules | `(tactic| walk_at "call builtin:str.replace") => `(tactic| refine hold ?_)
local macro_rules | `(tactic| walk_at "call type:enumerate") => `(tactic| refine hold ?_)
local macro_rules | `(tactic| walk_at "call builtin:str.join") => `(tactic| refine hold ?_)
local macro_rules | `(tactic| walk_at "MINE enter") => `(tactic| (refine' code_def ?k1 ?k2 ?k3 ?k4 ?k5 ?kA ?kF ?kK ?k6 ?k7 ?k8 ?k9 ?kB ?_ ?c2 ?c3 ?c4 ?c5; (case kA => exact rfl); (case kF => exact rfl); (case kK => first | exact rfl | assumption); (case k1 => k_asm); (case k2 => k_asm); (case k3 => k_asm); (case k4 => k_asm); (case k5 => k_asm); (case k6 => k_is); (case k7 => k_is); (case k8 => ktr_room); (case k9 => first | exact BindsTo.of_eq rfl | exact binds_K (by k_in) rfl (by k_is) rfl rfl rfl); (case c5 => decide); (case kB => exact locs rfl); (case c2 => exact rfl); (case c3 => exact rfl); (case c4 => exact rfl); k_whole; intro g' L' h' FG' F' N' B' X' T'; (try dsimp only); (try k_lift B'); (try k_fold)))
local macro_rules | `(tactic| walk_at "MINE enterC") => `(tactic| (k_dflt (refine' code_defC ?k1 ?k2 ?k3 ?k4 ?k5 ?kA ?kF ?kK ?k6 ?k7 ?k8 ?k9 ?kB ?kD ?_ ?c2 ?c3 ?c4; (case kA => exact rfl); (case kF => exact rfl); (case kK => assumption); (case k1 => k_asm); (case k2 => k_asm); (case k3 => k_asm); (case k4 => k_asm); (case k5 => k_asm); (case k6 => k_is); (case k7 => k_is); (case k8 => ktr_room); (case k9 => exact BindsTo.of_eq rfl); (case kB => exact rfl); (case kD => decide +kernel); (case c2 => exact rfl); (case c3 => exact rfl); (case c4 => exact rfl); k_whole; intro g' L' h' tk' cells' FG' F' N' Y' B' X' T' l1; (try k_lt l1); k_cells Y'; (try simp only [List.cons_append, List.nil_append] at N'); (try dsimp only); (try k_lift B'); (try k_fold))))

set_option maxHeartbeats 1000000 in
theorem sent_claim (w : World) (mean : ExcName → Option Value) (mg mb : Str → Option Value) (news : List (Addr × Obj)) (x : Str) (t1 : Tok) :
    LClaim PySem.Challenge.rw_wc0029_01.row.prog w (KK w.params) qq (looseW qq looseQ) mean mg mb 348 news (x.length < 100 ∧ ∀ c ∈ x.cps.toList, c ∈ letters) [.str x t1] (fun t => .str x t) := by
  k_fill
  dsimp only [LClaim, CbRet]; intros; rename_i hret
  refine wpAny_call ?_
  walk_at "MINE enter"
  have hpre : x.length < 100 ∧ ∀ c ∈ x.cps.toList, c ∈ letters := by assumption
  obtain ⟨hxl, hxc⟩ := hpre
  with_reducible refine gen_toks ?hn fun tk1 htk1 => ?_
  case hn => exact Nat.succ_pos _
  k_steps
  refine unhold ?_
  rename Fr _ _ _ _ => F5
  with_reducible refine for_pair_ex F5 ?a ?b ?c ?d ?_ ?hs
  case a => rfl
  case b => rfl
  case c => rfl
  case d => rfl
  case hs => intro _; with_unfolding_all rfl
  k_steps
  rename Fr _ _ _ _ => F7
  rename News _ _ _ _ => N7
  refine ⟨_, _, _, SentJ _ _ x, _, _, rfl, F7, N7, .head _, sentJ_start (t := t1) (by rfl) hxc, ?turn, ?mem, ?done⟩
  case turn =>
    intro i v m₁ nw I oI hi hJ hI
    obtain ⟨pv, sv, y, ty, rfl, rfl, hy⟩ := id hJ
    obtain ⟨p, hp, t, c, u1, u2, rfl, hm, h1, h2, h3⟩ := sent_at N7 hi (.cons (by walk_at "MINE sent") (.cons (by walk_at "MINE sent") (.cons (by walk_at "MINE sent") (.cons (by walk_at "MINE sent") (.cons (by walk_at "MINE sent") (.cons (by walk_at "MINE sent") (.cons (by walk_at "MINE sent") .nil)))))))
    refine ⟨t, _, _, _, _, rfl, hm, rfl, rfl, ?_⟩
    intro h tk E' F' N'
    k_steps
    refine unhold ?_
    have hyl := hy.len
    refine SC.replaceW (Nat.ne_of_gt h1) (Nat.ne_of_gt h2) h3 (sent_ne hp).1 (by omega) (sent_ne hp).2 ?_
    intro t' k
    k_steps
    show TurnEnd _ _ _ _ _ _ _
    rename News _ _ _ _ => N8
    refine' TurnEnd.intro (news := _) ?ta ?tb ?tc hI (sentJ_next hJ (rep_ok hy hp))
    case ta => k_asm
    case tb => exact N8
    case tc => exact fun p hp => hp
  case mem =>
    rintro i m₁ nw ⟨pv, sv, y, ty, _, rfl, _⟩
    exact .head _
  case done =>
    rintro m₁ nw h tk ⟨pv, sv, y, ty, rfl, rfl, hy⟩ F' N'
    have hyl := hy.len
    k_steps
    refine unhold ?_
    rename Fr _ _ _ _ => F9
    rename News _ _ _ _ => N9
    with_reducible refine' ListComp_ES F9 ?l1 ?l2 ?l3 ?l4 ?l5 ?l6 ?l7 ?_ ?l8
    case l1 => with_unfolding_all rfl
    case l2 => decide
    case l3 => rfl
    case l4 => decide
    case l5 => rfl
    case l6 => rfl
    case l7 => decide
    case l8 => intro _; with_unfolding_all rfl
    k_steps
    refine unhold ?_
    refine enum_str_src F9 N9 (fun i vs => StrsAre vs (spellL 0 (y.cps.toList.take i))) rfl ?e1 .nil ?_ ?_
    case e1 => show y.length ≤ _; simp [sizeLine]; omega
    · intro g i c u ys ti I oI IT oIT C oC D m₂ h' tk' E' hin hc hv hC ha hb F' N' off ne
      k_steps
      refine SB.add (fun t' k => ?_) (soft_len i c)
      k_steps
      refine' LCg.CompEnd.intro ?cF ?cN _ ?cS ?cO ?cT ⟨rfl, spell_next hv hin hc⟩
      case cF => k_asm
      case cN => k_asm
      case cS => kcf_all
      case cO => exact off
      case cT => trivial
    · intro g ys hv
      rw [show y.cps.size = y.cps.toList.length from rfl, List.take_length] at hv
      intro D h' tk' F' N' off
      k_steps
      refine unhold ?_
      rename News _ _ _ (_ :: _ :: _ :: _) => N10
      refine join_listW (items := ys.toArray) (News.isList N10 (.head _)) hv (by decide) ?js ?_
      case js => have h1 := spell_sum y.cps.toList 0; have h2 := spell_len y.cps.toList 0; have h3 : y.cps.toList.length = y.length := by simp [Str.length]
                 omega
      intro t11 k11
      k_steps
      refine unhold ?_
      rename Fr _ _ _ _ => F12
      rename News _ _ _ _ => N12
      with_reducible refine' ListComp_TS F12 ?m1 ?m2 ?m3 ?m4 ?m5 ?_ ?m8
      case m1 => with_unfolding_all rfl
      case m2 => decide
      case m3 => rfl
      case m4 => decide
      case m5 => rfl
      case m8 => intro _; with_unfolding_all rfl
      k_steps
      generalize hz : Txt.join (Str.ofString "") (spellL 0 y.cps.toList) = z at *
      refine ⟨z, _, _, rfl, rfl, ?sz, by k_asm, by k_asm, fun g => ?_⟩
      case sz => have h4 := spelled_len (y := y); rw [hz] at h4; simp [sizeLine]; omega
      refine restT_same (fun i vs => StrsAre vs (mapL (z.cps.toList.take i))) .nil ?_ ?_
      · intro i vs v I' oI' C' oC' D' m' h' tk' E' hin hI hv' hC' hx' F' N' off' ne'
        obtain ⟨c, u, hc, rfl⟩ := hv'
        k_steps
        refine' b1_claim w mean mg mb _ c u _ _ _ _ _ _ _ _ _ _ _ _ _ _ _ _ _ ?pB ?pF ?pX ?pN ?pT ?pcs ?ppre ?pdp ?pun ?pret
        case pB => k_asm
        case pF => k_asm
        case pX => k_asm
        case pN => k_asm
        case pT => k_asm
        case pcs => exact rfl
        case ppre => trivial
        case pdp => exact room1 (by assumption)
        case pun => exact unit8 (by assumption)
        intro t5 h5 tk5 F5 N5
        k_steps
        · rename _ = true => hbt
          refine' LCg.CompEnd.intro ?dF ?dN _ ?dS ?dO ?dT ⟨rfl, map_no hI hc hbt⟩
          case dF => k_asm
          case dN => k_asm
          case dS => kcf_all
          case dO => exact off'
          case dT => trivial
        · rename b1keys.contains _ = false => hbf
          refine' b3_claim w mean mg mb _ c u _ _ _ _ _ _ _ _ _ _ _ _ _ _ _ _ _ ?qB ?qF ?qX ?qN ?qT ?qcs ?qpre ?qdp ?qun ?qret
          case qB => k_asm
          case qF => k_asm
          case qX => k_asm
          case qN => k_asm
          case qT => k_asm
          case qcs => exact rfl
          case qpre => exact mapL_char (by rw [hz]) hy (List.mem_of_getElem? (by simpa using hc)) (by unfold keepC; rw [hbf]; rfl)
          case qdp => exact room1 (by assumption)
          case qun => exact unit8 (by assumption)
          intro t6 h6 tk6 F6 N6
          k_steps
          refine' LCg.CompEnd.intro ?fF ?fN _ ?fS ?fO ?fT ⟨rfl, map_yes hI hc hbf⟩
          case fF => k_asm
          case fN => k_asm
          case fS => kcf_all
          case fO => exact off'
          case fT => trivial
      · intro vs hI
        rw [show z.cps.size = z.cps.toList.length from rfl, List.take_length] at hI
        k_steps
        refine unhold ?_
        rename News _ _ _ (_ :: _ :: _ :: _) => N14
        have hss := sent_sum hy
        rw [hz] at hss
        refine join_listW (items := vs.toArray) (News.isList N14 (.head _)) hI (by decide) (by omega) ?_
        intro t15 k15
        have he := sent_end hy
        rw [hz] at he
        rw [he]
        k_steps
        exact hret _ _ _ (by k_asm) (cb_drop (by k_asm) fun p hp => by repeat (first | exact hp | apply List.mem_cons_of_mem))
end Mine
end
section
open PySem PySem.W PyProof.Rows PySem.Spec PySem.Calls
set_option Elab.async false
set_option maxRecDepth 1000000
set_option linter.unusedVariables false
set_option maxHeartbeats 4000000
namespace Mine
noncomputable def metS (l : List Str) : List Str := l.foldl step_dedup []
theorem metS_snoc (l : List Str) (x : Str) : metS (l ++ [x]) = step_dedup (metS l) x := by unfold metS; rw [List.foldl_append]; rfl
theorem stepS_any (σ : List Str) (v k : Str) : (step_dedup σ v).any (· == k) = (σ.any (· == k) || decide (k = v)) := by
  unfold step_dedup
  by_cases h : σ.any (· == v) = true
  · rw [if_pos h]
    by_cases e : k = v
    · subst e; rw [h]; simp
    · simp [e]
  · rw [if_neg h, List.any_append]
    congr 1
    simp only [List.any_cons, List.any_nil, Bool.or_false]
    by_cases e : k = v
    · subst e; simp
    · simp [e, Ne.symm e]
theorem stepS_length (σ : List Str) (v : Str) : (step_dedup σ v).length = if σ.any (· == v) then σ.length else σ.length + 1 := by
  unfold step_dedup; split <;> simp
theorem metS_len_le (l : List Str) : (metS l).length ≤ l.length := foldl_step_dedup_nil_length_le l
theorem metS_any (k : Str) : ∀ l : List Str, (metS l).any (· == k) = l.any (· == k) := by
  intro l
  have : ∀ (l σ : List Str), (l.foldl step_dedup σ).any (· == k) = (σ.any (· == k) || l.any (· == k)) := by
    intro l
    induction l with
    | nil => intro σ; simp
    | cons a r ih =>
      intro σ
      rw [List.foldl_cons, ih, stepS_any, List.any_cons, Bool.or_assoc]
      have e : decide (k = a) = (a == k) := by rw [Bool.eq_iff_iff, decide_eq_true_iff, beq_iff_eq]; exact eq_comm
      rw [e]
  have h := this l []
  rw [List.any_nil, Bool.false_or] at h
  exact h
theorem metS_same {c : Str} : ∀ {l : List Str}, (∀ y ∈ l, y = c) → (metS l).length ≤ 1 := by
  have : ∀ (l : List Str) (σ : List Str), (∀ y ∈ l, y = c) → (σ = [] ∨ σ = [c]) → l.foldl step_dedup σ = [] ∨ l.foldl step_dedup σ = [c] := by
    intro l
    induction l with
    | nil => intro σ _ h; exact h
    | cons a r ih =>
      intro σ h hs
      rw [List.foldl_cons]
      refine ih _ (fun y hy => h y (by simp [hy])) ?_
      have ha : a = c := h a (by simp)
      subst ha
      rcases hs with rfl | rfl
      · right; rfl
      · right; unfold step_dedup; rw [if_pos (by rw [List.any_cons, beq_self_eq_true]; rfl)]
  intro l h
  rcases this l [] h (.inl rfl) with e | e
  · unfold metS; rw [e]; exact Nat.zero_le _
  · unfold metS; rw [e]; exact Nat.le_refl _
theorem metS_two {a b : Str} {l : List Str} (ha : a ∈ l) (hb : b ∈ l) (hne : a ≠ b) : 1 < (metS l).length := by
  have h1 : (metS l).any (· == a) = true := by rw [metS_any]; exact List.any_eq_true.mpr ⟨a, ha, beq_self_eq_true a⟩
  have h2 : (metS l).any (· == b) = true := by rw [metS_any]; exact List.any_eq_true.mpr ⟨b, hb, beq_self_eq_true b⟩
  obtain ⟨x, hx, ex⟩ := List.any_eq_true.mp h1
  obtain ⟨y, hy, ey⟩ := List.any_eq_true.mp h2
  have ex := eq_of_beq ex
  have ey := eq_of_beq ey
  subst ex; subst ey
  cases e : metS l with
  | nil => rw [e] at hx; cases hx
  | cons p r =>
    cases r with
    | nil =>
      rw [e] at hx hy
      exact absurd ((List.mem_singleton.mp hx).trans (List.mem_singleton.mp hy).symm) hne
    | cons q r => show 1 < r.length + 1 + 1; omega
section
variable {prog : Program} {w : World} {A : Around} {E : Value → Shared → Prop} {s : Shared} {R : Result → Shared → Prop}
noncomputable def sgs (x : Str) : List Str := x.cps.toList.map fun c => ⟨#[c]⟩
theorem sgs_take {x : Str} {i c : Nat} (hc : x.cps[i]? = some c) : (sgs x).take (i + 1) = (sgs x).take i ++ [⟨#[c]⟩] := by
  unfold sgs
  rw [← List.map_take, ← List.map_take, List.take_add_one]
  have : x.cps.toList[i]? = some c := by simpa using hc
  rw [this]; simp
theorem set_loop {I : Addr} {x : Str} {fp wr : List Addr} {St : Nat → Heap → Prop} (W : Walks prog w A.in1 I fp wr x.cps.size (SignAt x) St) (S : Addr) (hSf : S ∉ fp) (hb : x.cps.size + 1 < scanBound) :
    ∀ (k i : Nat) (s : Shared), x.cps.size - i = k → i ≤ x.cps.size → St i s.heap →
      s.heap.SetOf (PySem.strKind prog w) S (fun k' => (metS ((sgs x).take i)).any (· == k')) (metS ((sgs x).take i)).length →
      (∀ h' tk, (∀ b o, b ∉ S :: wr → s.heap.get? b = some o → h'.get? b = some o) → h'.SetOf (PySem.strKind prog w) S (fun k' => (metS (sgs x)).any (· == k')) (metS (sgs x)).length → R (.ok (.ret .none)) { s with heap := h', toks := tk }) →
      codeAny (model prog w) A (.builtin "set.update.loop" ⟨[.ref S, .ref I], []⟩) R s := by
  have hSw : S ∉ wr := fun h => hSf (W.sub _ h)
  have hlen : (sgs x).length = x.cps.size := by unfold sgs; simp
  intro k
  induction k with
  | zero =>
    intro i s hk hi hst hS hR
    have hin : i = x.cps.size := by omega
    subst hin
    refine codeAny_builtin F.entry_set_update_loop ?_
    rw [Around.under_plainId F.plain_set_update_loop _]
    show wpAny _ A.in1 (pyNext (.ref I) >>= _) _ _ s
    refine wpAny_bind (W.done s _ _ hst fun h' tk hk' => ?_)
    show wpAny _ A.in1 (ret Value.none) _ _ _
    refine wpAny_pure (hR h' tk (fun b o hb e => hk' b o (fun q => hb (List.mem_cons_of_mem _ q)) e) ?_)
    obtain ⟨o, es, ep, t, ho, rest⟩ := hS
    rw [← hlen, List.take_length] at rest
    exact ⟨o, es, ep, t, hk' S _ hSw ho, rest⟩
  | succ k ih =>
    intro i s hk hi hst hS hR
    have hlt : i < x.cps.size := by omega
    refine codeAny_builtin F.entry_set_update_loop ?_
    rw [Around.under_plainId F.plain_set_update_loop _]
    show wpAny _ A.in1 (pyNext (.ref I) >>= _) _ _ s
    refine wpAny_bind (W.item i s _ _ hlt hst fun v h₁ tk₁ hP hst' hk₁ => ?_)
    obtain ⟨c, u, hc, rfl⟩ := hP
    have hS' : h₁.SetOf (PySem.strKind prog w) S (fun k' => (metS ((sgs x).take i)).any (· == k')) (metS ((sgs x).take i)).length := by
      obtain ⟨o, es, ep, tb, ho, rest⟩ := hS
      exact ⟨o, es, ep, tb, hk₁ S _ hSw ho, rest⟩
    show wpAny _ A.in1 (holding [Value.str ⟨#[c]⟩ u] (setAdd S (.str ⟨#[c]⟩ u)) >>= _) _ _ _
    refine wpAny_bind (wpAny_holding ?_)
    unfold setAdd
    refine wpAny_holding ?_
    refine wpAny_bind ((PySem.strKind prog w).pyHash (k := ⟨#[c]⟩) (strKind_is _ _ _ _) ?_)
    have hroom : (metS ((sgs x).take i)).length + 1 < scanBound := by have := metS_len_le ((sgs x).take i); rw [List.length_take] at this; omega
    refine wpAny_setAddHashed_of (knd := PySem.strKind prog w) (s := { s with heap := h₁, toks := tk₁ + 1 }) (strKind_is _ _ _ _) rfl hS' hroom fun h' hsb hS2 => ?_
    have hSi : h'.SetOf (PySem.strKind prog w) S (fun k' => (metS ((sgs x).take (i + 1))).any (· == k')) (metS ((sgs x).take (i + 1))).length :=
      SetOf_congr hS2 (fun k' => by rw [sgs_take hc, metS_snoc, stepS_any]) (by rw [sgs_take hc, metS_snoc, stepS_length])
    refine wpAny_pure ⟨plainId_quiet F.plain_set_update_loop _, ih (i + 1) _ (by omega) hlt (W.frame _ h₁ _ hst' fun b hb o e => ?_) hSi fun h₂ tk₂ hk₂ hS₂ => ?_⟩
    · rw [hsb.2 b (fun h : b = S => hSf (by rw [← h]; exact hb))]; exact e
    · refine hR h₂ tk₂ (fun b o hb e => hk₂ b o hb ?_) hS₂
      show h'.get? b = some o
      rw [hsb.2 b (fun h : b = S => hb (by rw [h]; exact List.mem_cons_self))]
      exact hk₁ b o (fun q => hb (List.mem_cons_of_mem _ q)) e
theorem sub_str_set : isSubtype (.type "str") (.type "set") = pure false := by rw [isSubtype_type]; kernel_rfl
theorem sub_str_frozenset : isSubtype (.type "str") (.type "frozenset") = pure false := by rw [isSubtype_type]; kernel_rfl
theorem call_set_str {x : Str} {t : Tok} {Q : Value → Shared → Prop} (hh : A.handled = none) (hb : x.cps.size + 1 < scanBound)
    (h : ∀ (h' : Heap) (tk : Nat), h'.SetOf (PySem.strKind prog w) s.heap.objs.size (fun k' => (metS (sgs x)).any (· == k')) (metS (sgs x)).length →
      (∀ b o, b < s.heap.objs.size → s.heap.get? b = some o → h'.get? b = some o) → Q (.ref s.heap.objs.size) { s with heap := h', toks := tk }) :
    wpAny (model prog w) A (call (.type "set") [.str x t]) Q E s := by
  obtain ⟨c, tl, hmro⟩ := F.called_set.mro
  have hmade := F.called_set.made
  have hsub := F.called_set.sub
  refine wpAny_call (codeAny_of_tree ?_)
  show wpAny _ _ (callAny (.type "set") _) _ _ _
  refine wpAny_pure ⟨Code.quiet_builtin _ (by decide +kernel), codeAny_builtin F.entry_type_call ?_⟩
  rw [Around.under_plain (weight_type_call_type "set" [.str x t] []) rfl]
  have h1 := F.called_set.notType
  have h2 := F.called_set.canCreate
  have hct := F.typeCall_set_1 (.str x t)
  repeat (any_goals (first | assumption | wp_step))
  refine codeAny_mono (code_set_new_1 (.str x t) (E := E) (Q₁ := fun obj s₁ => ∃ led : Bool, obj = .ref s.heap.objs.size ∧ s₁ = { s with heap := s.heap.push { cls := .type "set", dict := none, data := .set #[] 0 (.fresh 0 0 led) } }) fun led => ⟨led, rfl, rfl⟩) fun r s₁ hr => ?_
  cases r with
  | error e => exact hr
  | ok fl =>
    cases fl with
    | ret obj =>
      obtain ⟨led, rfl, rfl⟩ := hr
      have hS : (s.heap.push { cls := .type "set", dict := none, data := .set #[] 0 (.fresh 0 0 led) }).get? s.heap.objs.size = some { cls := .type "set", dict := none, data := .set #[] 0 (.fresh 0 0 led) } := Heap.get?_push_size _ rfl
      have hT : Shared.TypeIs { s with heap := s.heap.push { cls := .type "set", dict := none, data := .set #[] 0 (.fresh 0 0 led) } } (.ref s.heap.objs.size) "set" := ⟨_, hS, rfl⟩
      have hli := F.called_set.init.lookup
      have hbi := F.called_set.init.bind (.ref s.heap.objs.size)
      repeat (any_goals (first | assumption | wp_step))
      refine codeAny_mono (codeAny_call_builtin (R := wants (fun r s₂ => r = .none ∧ ∃ h' tk, s₂ = { s with heap := h', toks := tk } ∧
          h'.SetOf (PySem.strKind prog w) s.heap.objs.size (fun k' => (metS (sgs x)).any (· == k')) (metS (sgs x)).length ∧
          (∀ b o, b < s.heap.objs.size → s.heap.get? b = some o → h'.get? b = some o)) E) F.called_set.init.plain F.entry_set_init (check_set_init_1 hT ?_)) fun r₂ s₂ hr₂ => ?_
      · have hsls := sub_str_set
        have hslf := sub_str_frozenset
        have hne : (Value.type "str" == Value.type "dict") = false := by decide
        unfold Builtin.«set.__init__» noKeywords Builtin.Frozenset.updateFrom
        generalize hPI : pyIter = PI
        wp_walk
        subst hPI
        refine wpAny_pyIter_strU ?_
        refine wpAny_bind (wpAny_runValue ?_)
        have hh3 : A.in1.in1.in1.handled = none := by simp [hh]
        have hSf : s.heap.objs.size ∉ [(s.heap.push { cls := .type "set", dict := none, data := .set #[] 0 (.fresh 0 0 led) }).objs.size] := by
          rw [Heap.size_push]; simp only [List.mem_cons, List.mem_singleton, List.not_mem_nil, or_false, not_or]
          exact Nat.ne_of_lt (Nat.lt_succ_self _)
        refine set_loop (str_walks (x := x) (t := t) hh3) s.heap.objs.size hSf hb (x.cps.size - 0) 0 _ (by omega) (Nat.zero_le _)
          ⟨_, Heap.get?_push_size _ rfl, rfl, rfl⟩ ?hS0 ?hR
        case hS0 =>
          have hget : ((s.heap.push { cls := .type "set", dict := none, data := .set #[] 0 (.fresh 0 0 led) }).push { cls := .type (strIterType x), data := .fields #[.str x t, .int 0 0] }).get? s.heap.objs.size
              = some { cls := .type "set", dict := none, data := .set #[] 0 (.fresh 0 0 led) } := Heap.get?_push_of_some _ hS
          exact SetOf_congr ((setObjOf_fresh (knd := PySem.strKind prog w) led).setOf hget (by unfold scanBound; omega)) (fun _ => rfl) rfl
        case hR =>
          intro h' tk' hk hS'
          show wpAny _ _ _ _ _ _
          refine wpAny_pure ?_
          show wpAny _ _ (ret Value.none) _ _ _
          refine wpAny_pure ⟨rfl, h', tk', rfl, hS', fun b o hb e => ?_⟩
          have hb1 : b ≠ s.heap.objs.size := Nat.ne_of_lt hb
          have hb2 : b ≠ (s.heap.push { cls := .type "set", dict := none, data := .set #[] 0 (.fresh 0 0 led) }).objs.size := by
            rw [Heap.size_push]; exact Nat.ne_of_lt (Nat.lt_succ_of_lt hb)
          exact hk b o (by simp only [List.mem_cons, List.mem_singleton, List.not_mem_nil, or_false, not_or]; exact ⟨hb1, hb2⟩) (Heap.get?_push_of_some _ (Heap.get?_push_of_some _ e))
      · cases r₂ with
        | error e => exact hr₂
        | ok fl₂ =>
          cases fl₂ with
          | ret r =>
            obtain ⟨rfl, h', tk, rfl, hS', hk'⟩ := hr₂
            repeat (any_goals (first | assumption | wp_step))
            exact h _ _ hS' hk'
          | _ => exact hr₂.elim
    | _ => exact hr.elim
end
section
variable {prog : Program} {w : World} {A : Around} {E : Value → Shared → Prop} {s : Shared} {h₀ : Heap} {L : Addr} {m : Str → Option Value} {news : List (Addr × Obj)}
theorem newSet_str {x : Str} {t : Tok} {Q : Value → Shared → Prop} (F : Fr h₀ L s.heap m) (N : News h₀ L s.heap news) (hh : A.handled = none) (hb : x.cps.size < 1000)
    (h : ∀ h' (tk : Nat) o d, AllLt d news → Fr h₀ L h' m → News h₀ L h' ((d, o) :: news) → o.SetObjOf (PySem.strKind prog w) (fun k' => (metS (sgs x)).any (· == k')) (metS (sgs x)).length → ((metS (sgs x)).length : Int) < 2 ^ 63 → Q (.ref d) { s with heap := h', toks := tk }) :
    wpAny (model prog w) A (call (.type "set") [.str x t]) Q E s := by
  refine call_set_str hh (by unfold scanBound; omega) fun h' tk hS hk => ?_
  obtain ⟨o, ho, hso⟩ := hS.objOf
  obtain ⟨oL, _, _, hL, _⟩ := F.ns
  have hLlt : L < s.heap.objs.size := Heap.lt_size hL
  have hle := metS_len_le (sgs x)
  have hlen : (sgs x).length = x.cps.size := by unfold sgs; simp
  have hfit : ((metS (sgs x)).length : Int) < 2 ^ 63 := by
    have : ((metS (sgs x)).length : Int) < 1000 := by omega
    exact Int.lt_of_lt_of_le this (by decide)
  have hall : ∀ l : List (Addr × Obj), (∀ p ∈ l, p.1 < s.heap.objs.size) → AllLt s.heap.objs.size l := by
    intro l
    induction l with
    | nil => intro _; trivial
    | cons a r ih => intro h; exact ⟨h a (by simp), ih fun p hp => h p (by simp [hp])⟩
  refine h h' tk o _ (hall _ fun p hp => Heap.lt_size (N p hp).1) ⟨F.ns.at' fun o' e => hk L o' hLlt e, fun b o' e => hk b o' (Heap.lt_size (F.keep b o' e)) (F.keep b o' e), F.above⟩ (fun p hp => ?_) hso hfit
  rcases List.mem_cons.mp hp with rfl | hp
  · refine ⟨ho, Nat.ne_of_gt hLlt, ?_⟩
    cases hq : h₀.get? s.heap.objs.size with
    | none => rfl
    | some o' => exact absurd (Heap.lt_size (F.keep _ _ hq)) (Nat.lt_irrefl _)
  · exact ⟨hk _ _ (Heap.lt_size (N p hp).1) (N p hp).1, (N p hp).2.1, (N p hp).2.2⟩
end
end Mine
end
section
open PySem PySem.W PyProof.Rows PySem.Spec PySem.Calls
set_option Elab.async false
set_option maxRecDepth 1000000
set_option linter.unusedVariables false
set_option maxHeartbeats 4000000
namespace Mine
section
variable {prog : Program} {w : World} {A : Around} {E : Value → Shared → Prop} {s : Shared} {h₀ : Heap} {env : Env}
/-- what a `for x in xs` asks of the list that its iterable gives, the target's storing left to the user. -/
noncomputable def ListLoop (prog : Program) (w : World) (A : Around) (h₀ : Heap) (env : Env) (target : PySem.Expr) (body : List Stmt) (Q : Flow → Shared → Prop) (E : Value → Shared → Prop) (v : Value) (s : Shared) : Prop :=
  ∃ (ax : Addr) (its : List Value) (ep : Nat) (J : Nat → (Str → Option Value) → List (Addr × Obj) → Prop) (m₀ : Str → Option Value) (news : List (Addr × Obj)),
    v = .ref ax ∧ Fr h₀ env.locals s.heap m₀ ∧ News h₀ env.locals s.heap news ∧ (ax, ({ cls := .type "list", data := .seq its.toArray ep } : Obj)) ∈ news ∧ J 0 m₀ news ∧
    (∀ i v m₁ nw I oI h tk E', its[i]? = some v → J i m₁ nw → Fr h₀ env.locals h m₁ → News h₀ env.locals h ((I, oI) :: nw) → (∀ p ∈ nw, p.1 ≠ I) →
      wpAny (model prog w) A (assign target env v) (fun _ s₂ => wpAny (model prog w) A (execs body env) (TurnPost h₀ env.locals [(I, oI)] I (J (i + 1)) { s with heap := h, toks := tk } Q) E' s₂) E' { s with heap := h, toks := tk }) ∧
    (∀ i m₁ nw, J i m₁ nw → (ax, ({ cls := .type "list", data := .seq its.toArray ep } : Obj)) ∈ nw) ∧
    (∀ m₁ nw h tk, J its.length m₁ nw → Fr h₀ env.locals h m₁ → News h₀ env.locals h nw → Q .next { s with heap := h, toks := tk })
theorem for_list_ex {x : Str} {px pos : Pos} {iter : PySem.Expr} {body : List Stmt} {Q : Flow → Shared → Prop} {mm : Str → Option Value} (F₀ : Fr h₀ env.locals s.heap mm)
    (hh : A.handled = none)
    (hit : wpAny (model prog w) A (eval iter env) (ListLoop prog w A h₀ env (.Name x px) body Q E) E s)
    (hs : ∀ x, foldedSetIterable iter env x = pure x := by intro _; rfl) :
    wpAny (model prog w) A (exec (.For (.Name x px) iter body [] pos) env) Q E s := by
  refine wpAny_For (wpAny_mono hit (fun xv s₁ h₁ => ?_) fun _ _ e => e) hs
  obtain ⟨ax, its, ep, J, m₀, news, rfl, F, N, hm, hj, turn, hJm, done⟩ := h₁
  have hax := (N _ hm).1
  have hls : s₁.heap.IsList ax its.toArray := ⟨_, hax, rfl, _, rfl⟩
  refine wpAny_pyIter_list hls ?_
  have hne : ax ≠ s₁.heap.objs.size := Nat.ne_of_lt (Heap.lt_size hax)
  have W := Walks.list (prog := prog) (w := w) hh s₁.heap.objs.size ax hne its.toArray
  have hlen : its.toArray.size = its.length := by simp
  rw [hlen] at W
  have hIL : env.locals ≠ s₁.heap.objs.size := Nat.ne_of_lt F.ns.lt
  have hI₀ : h₀.get? s₁.heap.objs.size = none := next_is_new F
  refine codeAny_forLoopP (fun k s' => ∃ h' tk i m₁ nw, s' = { s₁ with heap := h', toks := tk } ∧ i ≤ its.length ∧ k = its.length + 1 - i ∧ (h'.IsListIter s₁.heap.objs.size ax i ∧ h'.IsList ax its.toArray) ∧ Fr h₀ env.locals h' m₁ ∧ News h₀ env.locals h' nw ∧ (∀ p ∈ nw, p.1 ≠ s₁.heap.objs.size) ∧ J i m₁ nw) ?_ (its.length + 1)
    ⟨_, _, 0, m₀, news, rfl, Nat.zero_le _, rfl, ⟨⟨_, Heap.get?_push_size _ rfl, rfl, rfl⟩, hls.at fun o e => Heap.get?_push_of_some _ e⟩, F.keeps fun _ _ e => Heap.get?_push_of_some _ e, N.grown fun _ _ e => Heap.get?_push_of_some _ e, fun p hp => Nat.ne_of_lt (Heap.lt_size (N p hp).1), hj⟩
  rintro k s' ⟨h', tk, i, m₁, nw, rfl, hi, rfl, hst, F', N', off, hJ⟩
  by_cases hlt : i < its.length
  · refine W.item i _ _ _ hlt hst fun v h₂ tk₂ hPv hst₂ hk₂ => ?_
    obtain ⟨oI, hoI, hoI'⟩ := id hst₂.1
    have F₂ : Fr h₀ env.locals h₂ m₁ := LCg.fr_but F' hk₂ hIL hI₀
    have N₂ : News h₀ env.locals h₂ nw := LCg.news_but N' hk₂ off
    have NI : News h₀ env.locals h₂ ((s₁.heap.objs.size, oI) :: nw) := fun p hp => by
      rcases List.mem_cons.mp hp with rfl | hp
      · exact ⟨hoI, Ne.symm hIL, hI₀⟩
      · exact N₂ p hp
    refine wpAny_of_eq (rfl : letOwnedTupleGo (.Name x px) (.ref s₁.heap.objs.size) v = pure ()) ?_
    refine wpAny_mono (turn i v m₁ nw _ oI h₂ tk₂ _ (by simpa using hPv) hJ F₂ NI off) (fun _ s₂ h₂' => ?_) fun _ _ e => e
    refine wpAny_mono h₂' (fun f s₃ hf => ?_) fun _ _ e => e
    have fin : TurnEnd h₀ env.locals [(s₁.heap.objs.size, oI)] s₁.heap.objs.size (J (i + 1)) { s₁ with heap := h₂, toks := tk₂ } s₃ → ∃ m, m < its.length + 1 - i ∧ ∃ h' tk i' m₁ nw, s₃ = { s₁ with heap := h', toks := tk } ∧ i' ≤ its.length ∧ m = its.length + 1 - i' ∧ (h'.IsListIter s₁.heap.objs.size ax i' ∧ h'.IsList ax its.toArray) ∧ Fr h₀ env.locals h' m₁ ∧ News h₀ env.locals h' nw ∧ (∀ p ∈ nw, p.1 ≠ s₁.heap.objs.size) ∧ J i' m₁ nw := by
      rintro ⟨h8, tk8, m8, nw8, rfl, F8, N8, off8, J8⟩
      have hx8 := (N8 (s₁.heap.objs.size, oI) (by simp)).1
      have N8' : News h₀ env.locals h8 nw8 := fun p hp => N8 p (List.mem_append_right _ hp)
      refine ⟨its.length + 1 - (i + 1), by omega, h8, tk8, i + 1, m8, nw8, rfl, hlt, rfl, ⟨⟨oI, hx8, hoI'⟩, ⟨_, (N8' _ (hJm _ _ _ J8)).1, rfl, _, rfl⟩⟩, F8, N8', off8, J8⟩
    cases f with
    | next => exact fin hf
    | cont => exact fin hf
    | brk => exact hf
    | ret v => exact hf
  · obtain rfl : i = its.length := Nat.le_antisymm hi (Nat.not_lt.mp hlt)
    refine W.done _ _ _ hst fun h₂ tk₂ hk₂ => ?_
    refine wpAny_execs_nil ?_
    exact done m₁ nw h₂ tk₂ hJ (LCg.fr_but F' hk₂ hIL hI₀) (LCg.news_but N' hk₂ off)
end
end Mine
end
section
open PySem PySem.W PyProof.Rows PySem.Spec PySem.Calls PyProof.V
set_option Elab.async false
set_option maxRecDepth 1000000
set_option linter.unusedVariables false
set_option maxHeartbeats 4000000
namespace Mine
theorem lay_strs : ∀ ss : List Str, (∀ x ∈ ss, PyData.strOk x = true) → PyData.canLayAll0 (ss.map PyData.str) = true
  | [], _ => rfl
  | a :: r, h => by simp [PyData.canLayAll0, PyData.canLay0, lay_strs r fun x hx => h x (by simp [hx]), h a (by simp)]
theorem depth_strs : ∀ ss : List Str, PyData.depthAll (ss.map PyData.str) = 0
  | [] => rfl
  | _ :: r => by simp [PyData.depthAll, PyData.depth, depth_strs r]
theorem shaped_strs (ss : List Str) (h : ∀ x ∈ ss, PyData.strOk x = true) : SeqAt.shaped (.list (ss.map PyData.str)) = true := by
  simp [SeqAt.shaped, PyData.canLay0, PyData.depth, lay_strs ss h, depth_strs]
theorem sameAll_strs : ∀ ss : List Str, PySem.Spec.sameAll (ss.map PyData.str) (ss.map PyData.str) = true
  | [] => by simp [PySem.Spec.sameAll]
  | a :: r => by simp [PySem.Spec.sameAll, PySem.Spec.same, sameAll_strs r]
theorem lay_bools : ∀ ss : List Bool, PyData.canLayAll0 (ss.map PyData.bool) = true
  | [] => rfl
  | _ :: r => by simp [PyData.canLayAll0, PyData.canLay0, lay_bools r]
theorem depth_bools : ∀ ss : List Bool, PyData.depthAll (ss.map PyData.bool) = 0
  | [] => rfl
  | _ :: r => by simp [PyData.depthAll, PyData.depth, depth_bools r]
theorem shaped_bools (ss : List Bool) : SeqAt.shaped (.list (ss.map PyData.bool)) = true := by
  simp [SeqAt.shaped, PyData.canLay0, PyData.depth, lay_bools, depth_bools]
theorem sameAll_bools : ∀ ss : List Bool, PySem.Spec.sameAll (ss.map PyData.bool) (ss.map PyData.bool) = true
  | [] => by simp [PySem.Spec.sameAll]
  | a :: r => by simp [PySem.Spec.sameAll, PySem.Spec.same, sameAll_bools r]
section
variable {prog : Program} {w : World} {A : Around} {E : Value → Shared → Prop} {s : Shared} {a b : Addr} {xs ys : List Value} {Q : Value → Shared → Prop}
theorem ne_strs {ss : List Str} (ha : s.heap.IsList a xs.toArray) (hb : s.heap.IsList b ys.toArray) (hi : StrsAre xs ss) (hj : StrsAre ys ss) (hok : ∀ x ∈ ss, PyData.strOk x = true) (hu : A.units + 64 < cLine) (h : Q (.bool false) s) :
    wpAny (model prog w) A (compareOp .NotEq (.ref a) (.ref b)) Q E s :=
  ne_dataH_same (reads_newData ha hi.carried) (reads_newData hb hj.carried) (shaped_strs _ hok) (shaped_strs _ hok) hu (SeqAt.noMix_of_shape (.list .str) rfl _ _ (list_map_has fun _ => rfl) (list_map_has fun _ => rfl)) (by
    have : PySem.Spec.same (.list (ss.map PyData.str)) (.list (ss.map PyData.str)) = true := by simp only [PySem.Spec.same]; exact sameAll_strs ss
    rw [this]; exact h)
theorem ne_bools {bs : List Bool} (ha : s.heap.IsList a xs.toArray) (hb : s.heap.IsList b ys.toArray) (hi : CarriedAll xs (bs.map PyData.bool)) (hj : CarriedAll ys (bs.map PyData.bool)) (hu : A.units + 64 < cLine) (h : Q (.bool false) s) :
    wpAny (model prog w) A (compareOp .NotEq (.ref a) (.ref b)) Q E s :=
  ne_dataH_same (reads_newData ha hi) (reads_newData hb hj) (shaped_bools _) (shaped_bools _) hu (SeqAt.noMix_of_shape (.list .bool) rfl _ _ (list_map_has fun _ => rfl) (list_map_has fun _ => rfl)) (by
    have : PySem.Spec.same (.list (bs.map PyData.bool)) (.list (bs.map PyData.bool)) = true := by simp only [PySem.Spec.same]; exact sameAll_bools bs
    rw [this]; exact h)
end
end Mine
end
section
open PySem PySem.W PyProof.Rows PySem.Spec
set_option Elab.async false
set_option maxRecDepth 1000000
set_option linter.unusedVariables false
namespace Mine
noncomputable def hdsOf (n : Nat) (row : List Nat) (i : Nat) : List (Str × Str) := ((List.range i).filter fun k => !sameL (strAt n row k)).map fun k => (Txt.upper (lawCode (sK n row k)), sK n row k)
theorem hdsOf_yes {n : Nat} {row : List Nat} {i : Nat} (h : sameL (strAt n row i) = false) : hdsOf n row (i + 1) = hdsOf n row i ++ [(Txt.upper (lawCode (sK n row i)), sK n row i)] := by
  unfold hdsOf
  rw [List.range_succ, List.filter_append, List.map_append]
  congr 1
  simp [h]
theorem hdsOf_no {n : Nat} {row : List Nat} {i : Nat} (h : sameL (strAt n row i) = true) : hdsOf n row (i + 1) = hdsOf n row i := by
  unfold hdsOf
  rw [List.range_succ, List.filter_append, List.map_append]
  simp [h]
section
variable {n : Nat} {ds : List (List Nat)} (hn : n = 3 ∨ n = 5) (h : Codes n ds)
include hn h
theorem str_word {k : Nat} (hk : k + n ≤ ds.length * n) (hs : sameL (strAt n ds.flatten k) = false) : Word n (strAt n ds.flatten k) := ⟨str_len h hk, str_letters h, hs⟩
theorem code_sK {k : Nat} (hk : k + n ≤ ds.length * n) : lawCode (sK n ds.flatten k) = ⟨(codeL (strAt n ds.flatten k)).toArray⟩ := by
  unfold sK; rw [lawCode_eq (by rw [str_len h hk]; exact hn)]
theorem key_sK {k : Nat} (hk : k + n ≤ ds.length * n) (hs : sameL (strAt n ds.flatten k) = false) : Txt.lower (Txt.upper (lawCode (sK n ds.flatten k))) = ⟨(codeL (strAt n ds.flatten k)).toArray⟩ := by
  rw [code_sK hn h hk, lower_upper (code_word hn (str_word hn h hk hs)).2.1]
omit hn in
theorem low_sK (k : Nat) : Txt.lower (sK n ds.flatten k) = sK n ds.flatten k := lower_word (str_letters h)
theorem key_eq {k j : Nat} (hk : k + n ≤ ds.length * n) (hs : sameL (strAt n ds.flatten k) = false) : (Txt.lower (Txt.upper (lawCode (sK n ds.flatten k))) == Txt.lower (sK n ds.flatten j)) = true ↔ codeL (strAt n ds.flatten k) = strAt n ds.flatten j := by
  rw [key_sK hn h hk hs, low_sK h j, beq_iff_eq]
  unfold sK
  constructor
  · intro e
    have := congrArg (fun x : Str => x.cps.toList) e
    simpa using this
  · intro e; rw [e]
theorem getOf_spec {j c : Nat} (hc : ∀ k, k < c ↔ k + n ≤ ds.length * n) (hj : j < c) : (getOf (hdsOf n ds.flatten c) (sK n ds.flatten j)).isSome = decide (j % n = 0) := by
  have hjn := (hc j).mp hj
  have hf := str_facts hn h hjn
  unfold getOf
  unfold hdsOf
  rw [Bool.eq_iff_iff, List.find?_isSome, decide_eq_true_iff]
  constructor
  · rintro ⟨p, hp, hm⟩
    obtain ⟨k, hk, rfl⟩ := List.mem_map.mp hp
    obtain ⟨hk1, hk2⟩ := List.mem_filter.mp hk
    have hk1 := (hc k).mp (List.mem_range.mp hk1)
    have hs : sameL (strAt n ds.flatten k) = false := by simpa using hk2
    have e := (key_eq hn h hk1 hs (j := j)).mp hm
    have hw := str_word hn h hk1 hs
    rcases Nat.eq_zero_or_pos (j % n) with hz | hz
    · exact hz
    · exfalso
      refine hf.2 (Nat.ne_of_gt hz) ?_ ?_
      · rw [← e]; exact code_word hn hw
      · rw [← e]; exact code_code hn hw
  · intro hz
    obtain ⟨hw, hcd⟩ := hf.1 hz
    refine ⟨_, List.mem_map.mpr ⟨j, List.mem_filter.mpr ⟨List.mem_range.mpr hj, by rw [hw.2.2]; rfl⟩, rfl⟩, ?_⟩
    exact (key_eq hn h hjn hw.2.2 (j := j)).mpr hcd
noncomputable def turnsOf (n : Nat) (x : Str) : List Str := (List.range n).map fun (t : Nat) => Txt.slice x (some (0 + (t : Int))) none ++ Txt.slice x none (some (0 + (t : Int)))
omit hn h in
theorem turns_rot {d : List Nat} (hd : d.length = n) : turnsOf n ⟨d.toArray⟩ = (List.range n).map fun t => (⟨(rotK t d).toArray⟩ : Str) := by
  unfold turnsOf
  refine List.map_congr_left fun t ht => ?_
  have ht := List.mem_range.mp ht
  rw [Int.zero_add, slice_from (by omega), slice_to (by omega)]
  exact PySem.Str.ext' (by rw [PySem.Str.cps_append]; simp [rotK])
omit hn h in
theorem rot_back {d : List Nat} {t : Nat} (hd : d.length = n) (ht : t < n) : ∃ t', t' < n ∧ d = rotK t' (rotK t d) := by
  by_cases h0 : t = 0
  · subst h0; exact ⟨0, ht, by simp [rotK]⟩
  · refine ⟨n - t, by omega, ?_⟩
    unfold rotK
    have hl : (d.drop t).length = n - t := by rw [List.length_drop, hd]
    rw [← hl, List.drop_left, List.take_left, List.take_append_drop]
theorem allOf_spec {j c : Nat} (hc : ∀ k, k < c ↔ k + n ≤ ds.length * n) (hj : j < c) (hz : j % n = 0) :
    allOf (hdsOf n ds.flatten c) (sK n ds.flatten j) = ((List.range c).map (sK n ds.flatten)).filter fun o => (turnsOf n (sK n ds.flatten j)).any (· == o) := by
  have hjn := (hc j).mp hj
  obtain ⟨hw, hcd⟩ := (str_facts hn h hjn).1 hz
  unfold allOf hdsOf
  rw [List.filter_map, List.map_map, List.filter_filter, List.filter_map]
  have : (List.range c).filter (fun a => ((fun hd : Str × Str => Txt.lower hd.1 == Txt.lower (sK n ds.flatten j)) ∘ fun k => (Txt.upper (lawCode (sK n ds.flatten k)), sK n ds.flatten k)) a && !sameL (strAt n ds.flatten a)) = (List.range c).filter ((fun o => (turnsOf n (sK n ds.flatten j)).any (· == o)) ∘ sK n ds.flatten) := by
    refine List.filter_congr fun k hk => ?_
    have hk1 := (hc k).mp (List.mem_range.mp hk)
    have hturn : ((turnsOf n (sK n ds.flatten j)).any (· == sK n ds.flatten k)) = true ↔ ∃ t, t < n ∧ rotK t (strAt n ds.flatten j) = strAt n ds.flatten k := by
      have e : sK n ds.flatten j = ⟨(strAt n ds.flatten j).toArray⟩ := rfl
      rw [e, turns_rot hw.1, List.any_map, List.any_eq_true]
      constructor
      · rintro ⟨t, ht, hm⟩
        refine ⟨t, List.mem_range.mp ht, ?_⟩
        have := congrArg (fun x : Str => x.cps.toList) (eq_of_beq hm)
        simpa [sK] using this
      · rintro ⟨t, ht, hm⟩
        refine ⟨t, List.mem_range.mpr ht, ?_⟩
        show ((⟨(rotK t (strAt n ds.flatten j)).toArray⟩ : Str) == sK n ds.flatten k) = true
        rw [hm]; exact beq_self_eq_true _
    show ((Txt.lower (Txt.upper (lawCode (sK n ds.flatten k))) == Txt.lower (sK n ds.flatten j)) && !sameL (strAt n ds.flatten k)) = (turnsOf n (sK n ds.flatten j)).any (· == sK n ds.flatten k)
    rw [Bool.eq_iff_iff, hturn, Bool.and_eq_true, Bool.not_eq_true']
    constructor
    · rintro ⟨h1, hs⟩
      have e := (key_eq hn h hk1 hs (j := j)).mp h1
      obtain ⟨t, ht, e2⟩ := (chk_word hn (str_word hn h hk1 hs)).1
      obtain ⟨t', ht', e3⟩ := rot_back (str_len h hk1) ht
      exact ⟨t', ht', by rw [← e, e2]; exact e3.symm⟩
    · rintro ⟨t, ht, e⟩
      have hwk : Word n (strAt n ds.flatten k) := by rw [← e]; exact hw.perm (rotK_perm t _)
      have hck : codeL (strAt n ds.flatten k) = strAt n ds.flatten j := by rw [← e, code_rotK hn hw (Nat.le_of_lt ht), hcd]
      exact ⟨(key_eq hn h hk1 hwk.2.2 (j := j)).mpr hck, hwk.2.2⟩
  rw [← this]
  rfl
end
end Mine
end
section
open PySem PySem.W PyProof.Rows PySem.Spec
set_option Elab.async false
set_option maxRecDepth 1000000
set_option linter.unusedVariables false
namespace Mine
noncomputable def lawNums (ns : List Int) : List Int := (ns.take 4).map (fun v => v.fmod 6250) ++ ([1466, 2354, 808] : List Int).drop ns.length
theorem nums_facts (ns : List Int) : 3 ≤ (lawNums ns).length ∧ (lawNums ns).length ≤ 4 ∧ ∀ v ∈ lawNums ns, 0 ≤ v ∧ v < 6250 := by
  refine ⟨?_, ?_, fun v hv => ?_⟩
  · unfold lawNums; simp; omega
  · unfold lawNums; simp; omega
  · rcases List.mem_append.mp hv with h | h
    · obtain ⟨a, _, rfl⟩ := List.mem_map.mp h
      exact ⟨Int.fmod_nonneg_of_pos _ (by decide), Int.fmod_lt_of_pos _ (by decide)⟩
    · have := List.mem_of_mem_drop h
      simp only [List.mem_cons, List.not_mem_nil, or_false] at this
      rcases this with rfl | rfl | rfl <;> decide
theorem size_nat (v : Int) : ∃ n : Nat, (n = 3 ∨ n = 5) ∧ 5 - 2 * v.fmod 2 = (n : Int) := by
  have h0 : 0 ≤ v.fmod 2 := Int.fmod_nonneg_of_pos _ (by decide)
  have h1 : v.fmod 2 < 2 := Int.fmod_lt_of_pos _ (by decide)
  have : v.fmod 2 = 0 ∨ v.fmod 2 = 1 := by omega
  rcases this with h | h
  · exact ⟨5, .inr rfl, by rw [h]; rfl⟩
  · exact ⟨3, .inl rfl, by rw [h]; rfl⟩
/-- the row's words -/
noncomputable def lawCodes (n : Nat) (ns : List Int) : List Str := ns.map fun v => lawCode (lawWord v n)
theorem codes_ds {n : Nat} (hn : n = 3 ∨ n = 5) : ∀ ns : List Int, ∃ ds : List (List Nat), Codes n ds ∧ ds.length = ns.length ∧ lawCodes n ns = ds.map fun d => (⟨d.toArray⟩ : Str)
  | [] => ⟨[], fun _ h => by simp at h, rfl, rfl⟩
  | v :: r => by
    obtain ⟨ds, h1, h2, h3⟩ := codes_ds hn r
    obtain ⟨d, hw, hc, e⟩ := codeWord_eq (v := v) hn
    refine ⟨d :: ds, fun x hx => ?_, by simp [h2], ?_⟩
    · rcases List.mem_cons.mp hx with rfl | hx
      · exact ⟨hw, hc⟩
      · exact h1 x hx
    · show lawCode (lawWord v n) :: lawCodes n r = _
      rw [e, h3]; rfl
theorem join_flat (ds : List (List Nat)) : Txt.join (Str.ofString "") (ds.map fun d => (⟨d.toArray⟩ : Str)) = ⟨ds.flatten.toArray⟩ := by
  have h : ∀ ps : List Str, (Str.join (Str.ofString "") ps).cps.toList = ps.flatMap (·.cps.toList) := by
    intro ps
    induction ps with
    | nil => rfl
    | cons x r ih =>
      cases r with
      | nil => show x.cps.toList = _; simp
      | cons y r =>
        show (x ++ Str.ofString "" ++ Str.join (Str.ofString "") (y :: r)).cps.toList = _
        rw [PySem.Str.cps_append, PySem.Str.cps_append, Array.toList_append, Array.toList_append, ih]
        have : (Str.ofString "").cps.toList = [] := rfl
        rw [this, List.append_nil]; rfl
  refine PySem.Str.ext' (Array.toList_inj.mp ?_)
  show (Builtin.Str.glued _ _).cps.toList = _
  rw [StrLaws.glued_eq_join, h, List.flatMap_map, List.flatMap_def]
  simp
theorem slice_sK {n k : Nat} {row : List Nat} (hk : k + n ≤ row.length) : Txt.slice ⟨row.toArray⟩ (some (0 + (k : Int))) (some (0 + (k : Int) + (n : Int))) = sK n row k := by
  have := StrLaws.sliceText_nat (⟨row.toArray⟩ : Str) (a := k) (b := k + n) (by omega) (by simpa [Str.length] using hk)
  have e : Txt.slice ⟨row.toArray⟩ (some (0 + (k : Int))) (some (0 + (k : Int) + (n : Int))) = StrLaws.sliceText ⟨row.toArray⟩ (some (k : Int)) (some ((k + n : Nat) : Int)) := by
    show StrLaws.sliceText _ _ _ = _
    congr 2 <;> omega
  rw [e, this]
  unfold sK strAt
  congr 3
  omega
theorem strsAre_of {vs : List Value} {ss : List Str} (h : Paired StrV ss vs) : StrsAre vs ss := by
  induction h with
  | nil => exact .nil
  | cons h _ ih => obtain ⟨t, rfl⟩ := h; exact .cons _ _ ih
end Mine
end
section
open PySem PySem.W PyProof.Rows PySem.Spec PySem.Calls PySem.Builtin.Re
set_option Elab.async false
set_option maxRecDepth 1000000
set_option linter.unusedVariables false
set_option linter.unusedSimpArgs false
namespace Mine
local macro_rules | `(tactic| walk_at "eval ListComp") => `(tactic| refine hold ?_)
local macro_rules | `(tactic| walk_at "CompSrc") => `(tactic| refine hold ?_)
local macro_rules | `(tactic| walk_at "MINE upto sub") => `(tactic| repeat' (first | ((fail_if_success (with_reducible show wpAny _ _ (subscriptTail _ _ (Value.ref _) _) _ _ _)); (first | (k_unfold; (try dsimp only)) | walk1 | (dsimp only; walk1)))))
local macro_rules | `(tactic| walk_at "CompSrcT") => `(tactic| refine hold ?_)
local macro_rules | `(tactic| walk_at "exec For Name Name cons nil") => `(tactic| refine hold ?_)
local macro_rules | `(tactic| walk_at "call ref") => `(tactic| refine hold ?_)
local macro_rules | `(tactic| walk_at "compareOp NotEq ref ref") => `(tactic| refine hold ?_)
local macro_rules | `(tactic| walk_at "exec For Name Subscript cons nil") => `(tactic| refine hold ?_)
local macro_rules | `(tactic| walk_at "call builtin:str.join") => `(tactic| refine hold ?_)
theorem ints_at {vs : List Value} {ns : List Int} (h : IntsAre vs ns) {i : Nat} {v : Value} (e : vs[i]? = some v) : ∃ t, v = .int (ns.getD i 0) t := IntsAre.int_at h i v e
theorem getD_mem {ns : List Int} {i : Nat} (h : i < ns.length) : ns.getD i 0 ∈ ns := by
  rw [List.getD_eq_getElem?_getD, List.getElem?_eq_getElem h]; exact List.getElem_mem h
theorem ints_next {vs : List Value} {ns : List Int} {i : Nat} {t : Tok} (h : IntsAre vs ((ns.take i).map fun v => v.fmod 6250)) (hi : i < ns.length) : IntsAre (vs ++ [.int ((ns.getD i 0).fmod 6250) t]) ((ns.take (i + 1)).map fun v => v.fmod 6250) := by
  have : ns.take (i + 1) = ns.take i ++ [ns.getD i 0] := by rw [List.take_succ_eq_append_getElem hi]; simp [hi]
  rw [this, List.map_append]
  exact h.append (.cons _ _ .nil)

theorem codes_next {vs : List Value} {nums : List Int} {n i : Nat} {t : Tok} (h : StrsAre vs (lawCodes n (nums.take i))) (hi : i < nums.length) : StrsAre (vs ++ [.str (lawCode (lawWord (nums.getD i 0) n)) t]) (lawCodes n (nums.take (i + 1))) := by
  have : nums.take (i + 1) = nums.take i ++ [nums.getD i 0] := by rw [List.take_succ_eq_append_getElem hi]; simp [hi]
  unfold lawCodes at h ⊢
  rw [this, List.map_append]
  exact h.append' (.cons _ _ .nil)
theorem row_weight {ds : List (List Nat)} {n : Nat} (h : Codes n ds) (hn : n = 3 ∨ n = 5) (hl : ds.length ≤ 4) : (((ds.map fun d => (⟨d.toArray⟩ : Str))).map (·.length)).sum + (ds.map fun d => (⟨d.toArray⟩ : Str)).length ≤ 1048576 := by
  have h1 : ∀ ds : List (List Nat), Codes n ds → (((ds.map fun d => (⟨d.toArray⟩ : Str))).map (·.length)).sum = ds.length * n := by
    intro ds
    induction ds with
    | nil => intro _; simp
    | cons d r ih =>
      intro h
      rw [List.map_cons, List.map_cons, List.sum_cons, ih fun x hx => h x (by simp [hx]), List.length_cons, Nat.succ_mul]
      have : (⟨d.toArray⟩ : Str).length = n := by have := (h d (by simp)).1.1; simpa [Str.length] using this
      rw [this, Nat.add_comm]
  rw [h1 ds h, List.length_map]
  have : ds.length * n ≤ 4 * 5 := Nat.mul_le_mul hl (by omega)
  omega
theorem row_pre {ds : List (List Nat)} {n : Nat} (h : Codes n ds) (hn : n = 3 ∨ n = 5) (hl : ds.length ≤ 4) : (⟨ds.flatten.toArray⟩ : Str).length < 100 ∧ ∀ c ∈ (⟨ds.flatten.toArray⟩ : Str).cps.toList, c ∈ letters := by
  constructor
  · have : (⟨ds.flatten.toArray⟩ : Str).length = ds.length * n := by have := flat_len' h; simpa [Str.length] using this
    rw [this]
    have : ds.length * n ≤ 4 * 5 := Nat.mul_le_mul hl (by omega)
    omega
  · intro c hc
    have hc : c ∈ ds.flatten := by simpa using hc
    obtain ⟨d, hd, hc⟩ := List.mem_flatten.mp hc
    exact (h d hd).1.2.1 c hc
theorem count_facts {n N : Nat} (hn : n = 3 ∨ n = 5) (h3 : 3 ≤ N) (h4 : N ≤ 4) : ∃ c : Nat, (((N * n : Nat) : Int) - (n : Int) + 1) = (c : Int) ∧ (∀ k, k < c ↔ k + n ≤ N * n) ∧ c < 30 := by
  have : N = 3 ∨ N = 4 := by omega
  rcases this with rfl | rfl <;> rcases hn with rfl | rfl
  · exact ⟨7, by decide, fun k => by omega, by decide⟩
  · exact ⟨11, by decide, fun k => by omega, by decide⟩
  · exact ⟨10, by decide, fun k => by omega, by decide⟩
  · exact ⟨16, by decide, fun k => by omega, by decide⟩
theorem small0 : ∀ c : Nat, c < 30 → Builtin.Range.small 0 (c : Int) 1 = true := by decide
theorem size0 : ∀ c : Nat, c < 30 → Builtin.Range.rangeSize 0 (c : Int) 1 = ((c : Nat) : Int) := by decide
theorem str_next {vs : List Value} {ds : List (List Nat)} {n i : Nat} {t : Tok} (h : StrsAre vs ((List.range i).map (sK n ds.flatten))) (hk : i + n ≤ ds.length * n) (hds : Codes n ds) : StrsAre (vs ++ [.str (Txt.slice ⟨ds.flatten.toArray⟩ (some (0 + (i : Int))) (some (0 + (i : Int) + (n : Int)))) t]) ((List.range (i + 1)).map (sK n ds.flatten)) := by
  rw [slice_sK (by rw [flat_len' hds]; exact hk), List.range_succ, List.map_append]
  exact h.append' (.cons _ _ .nil)
theorem set_size {d : List Nat} : (1 : Int) < (((metS (sgs ⟨d.toArray⟩)).length : Nat) : Int) ↔ sameL d = false := by
  constructor
  · intro h
    rw [Bool.eq_false_iff]
    intro hs
    have hall := sameL_iff.mp hs
    have : (metS (sgs ⟨d.toArray⟩)).length ≤ 1 := by
      cases d with
      | nil => exact Nat.zero_le _
      | cons a r =>
        refine metS_same (c := ⟨#[a]⟩) fun y hy => ?_
        obtain ⟨b, hb, rfl⟩ := List.mem_map.mp hy
        rw [hall b (by simpa using hb) a (by simp)]
    omega
  · intro h
    have : ∃ a ∈ d, ∃ b ∈ d, a ≠ b := by
      apply Classical.byContradiction
      intro hn
      have : sameL d = true := sameL_iff.mpr fun a ha b hb => Classical.byContradiction fun hne => hn ⟨a, ha, b, hb, hne⟩
      rw [h] at this; cases this
    obtain ⟨a, ha, b, hb, hne⟩ := this
    have h2 := metS_two (l := sgs ⟨d.toArray⟩) (List.mem_map.mpr ⟨a, by simpa using ha, rfl⟩) (List.mem_map.mpr ⟨b, by simpa using hb, rfl⟩) (by
      intro e; injection e with e; exact hne (by simpa using e))
    omega
noncomputable def TabJ (n : Nat) (row : List Nat) (m : Str → Option Value) (lx x dx D L : Addr) (hs : Int) (tkh : Tok) (vs : List Value) (o5 oT oR oS : Obj) (i : Nat) (m₁ : Str → Option Value) (nw : List (Addr × Obj)) : Prop :=
  ∃ ys ep o4 v4 extra, m₁ = m ∧ nw = (lx, lst0 ys ep) :: (x, instObj 329 dx) :: (dx, hdO hs tkh lx) :: (D, LCg.lst vs) :: (L + 1 + 1 + 1 + 1 + 1, o5) :: (L + 1 + 1 + 1 + 1, o4) :: (L + 1 + 1 + 1, oT) :: (L + 1 + 1, oR) :: (L + 1, oS) :: extra ∧
    o4.data = .cell v4 ∧ Paired (HEnt extra) (hdsOf n row i) ys ∧ (∀ p ∈ extra, @LT.lt Nat _ lx p.1) ∧ ys.length ≤ i
theorem strs_at {vs : List Value} {c n : Nat} {row : List Nat} {i : Nat} {v : Value} (h : StrsAre vs ((List.range c).map (sK n row))) (e : vs[i]? = some v) : i < c ∧ ∃ t, v = .str (sK n row i) t := by
  obtain ⟨y, t, rfl, hy⟩ := StrsAre.item h i v e
  rw [List.getElem?_map] at hy
  obtain ⟨k, hk, rfl⟩ := Option.map_eq_some_iff.mp hy
  obtain ⟨h1, h2⟩ := List.getElem?_eq_some_iff.mp hk
  rw [List.getElem_range] at h2
  subst h2
  exact ⟨by simpa using h1, t, rfl⟩
theorem off_same {I : Addr} {l l' : List (Addr × Obj)} (h : l'.map (·.1) = l.map (·.1)) (off : ∀ p ∈ l, p.1 ≠ I) : ∀ p ∈ l', p.1 ≠ I := fun p hp => by
  have : p.1 ∈ l.map (·.1) := by rw [← h]; exact List.mem_map_of_mem hp
  obtain ⟨q, hq, e⟩ := List.mem_map.mp this
  rw [← e]; exact off q hq
theorem off_mid {I : Addr} {A B : List (Addr × Obj)} {pp : Addr × Obj} (h : ∀ q ∈ A ++ B, q.1 ≠ I) (hp : pp.1 ≠ I) : ∀ q ∈ A ++ pp :: B, q.1 ≠ I := fun q hq => by
  rcases List.mem_append.mp hq with hq | hq
  · exact h q (List.mem_append_left _ hq)
  · rcases List.mem_cons.mp hq with rfl | hq
    · exact hp
    · exact h q (List.mem_append_right _ hq)
theorem tab_front {h₀ h : Heap} {L : Addr} {a b c d e : Addr × Obj} {r : List (Addr × Obj)} (N : News h₀ L h (a :: b :: c :: d :: e :: r)) : News h₀ L h (c :: d :: e :: a :: b :: r) := fun p hp => N p (by
  simp only [List.mem_cons] at hp ⊢
  rcases hp with hp | hp | hp | hp | hp | hp <;> simp [hp])
theorem tab_sub {a b c d e p : Addr × Obj} {r : List (Addr × Obj)} {c5 c4 c3 c2 c1 dd : Addr × Obj} : ∀ q ∈ [b] ++ (c :: d :: e :: dd :: c5 :: c4 :: c3 :: c2 :: c1 :: p :: r), q ∈ p :: c :: d :: e :: a :: b :: dd :: c5 :: c4 :: c3 :: c2 :: c1 :: r := fun q hp => by
  simp only [List.cons_append, List.nil_append, List.mem_cons] at hp ⊢
  rcases hp with hp | hp | hp | hp | hp | hp | hp | hp | hp | hp | hp | hp <;> simp [hp]
theorem tab_sub2 {a b : Addr × Obj} {r : List (Addr × Obj)} : ∀ q ∈ [b] ++ r, q ∈ a :: b :: r := fun q hq => .tail _ hq
theorem hent_mono {p : Addr × Obj} {ex : List (Addr × Obj)} : ∀ {hds : List (Str × Str)} {ys : List Value}, Paired (HEnt ex) hds ys → Paired (HEnt (p :: ex)) hds ys
  | _, _, .nil => .nil
  | _, _, .cons ⟨q, c, t1, t2, e, hq⟩ r => .cons ⟨q, c, t1, t2, e, .tail _ hq⟩ (hent_mono r)
theorem tabJ_yes {n : Nat} {row : List Nat} {m : Str → Option Value} {lx x dx D L p : Addr} {hs : Int} {tkh t1 t2 : Tok} {vs ys : List Value} {o4 o5 oT oR oS : Obj} {i ep c : Nat} {v4 : Option Value} {extra : List (Addr × Obj)}
    (d4 : o4.data = .cell v4) (hP : Paired (HEnt extra) (hdsOf n row i) ys) (hex : ∀ p ∈ extra, @LT.lt Nat _ lx p.1) (hyl : ys.length ≤ i) (hsm : sameL (strAt n row i) = false) (hp : @LT.lt Nat _ lx p) :
    TabJ n row m lx x dx D L hs tkh vs o5 oT oR oS (i + 1) m ((lx, lst0 (ys ++ [.ref p]) (ep + 1)) :: (x, instObj 329 dx) :: (dx, hdO hs tkh lx) :: (D, LCg.lst vs) :: (L + 1 + 1 + 1 + 1 + 1, o5) :: (L + 1 + 1 + 1 + 1, o4) :: (L + 1 + 1 + 1, oT) :: (L + 1 + 1, oR) :: (L + 1, oS) :: (p, ({ cls := .type "tuple", data := .seq #[.str (Txt.upper (lawCode (sK n row i))) t1, .str (sK n row i) t2] c } : Obj)) :: extra) :=
  ⟨_, _, _, _, _, rfl, rfl, d4, by rw [hdsOf_yes hsm]; exact (hent_mono hP).snoc ⟨p, c, t1, t2, rfl, .head _⟩, fun q hq => by
    rcases List.mem_cons.mp hq with rfl | hq
    · exact hp
    · exact hex q hq, by rw [List.length_append, List.length_singleton]; omega⟩
theorem tabJ_no {n : Nat} {row : List Nat} {m : Str → Option Value} {lx x dx D L : Addr} {hs : Int} {tkh : Tok} {vs ys : List Value} {o4 o5 oT oR oS : Obj} {i ep : Nat} {v4 : Option Value} {extra : List (Addr × Obj)}
    (d4 : o4.data = .cell v4) (hP : Paired (HEnt extra) (hdsOf n row i) ys) (hex : ∀ p ∈ extra, @LT.lt Nat _ lx p.1) (hyl : ys.length ≤ i) (hsm : sameL (strAt n row i) = true) :
    TabJ n row m lx x dx D L hs tkh vs o5 oT oR oS (i + 1) m ((lx, lst0 ys ep) :: (x, instObj 329 dx) :: (dx, hdO hs tkh lx) :: (D, LCg.lst vs) :: (L + 1 + 1 + 1 + 1 + 1, o5) :: (L + 1 + 1 + 1 + 1, o4) :: (L + 1 + 1 + 1, oT) :: (L + 1 + 1, oR) :: (L + 1, oS) :: extra) :=
  ⟨_, _, _, _, _, rfl, rfl, d4, by rw [hdsOf_no hsm]; exact hP, hex, by omega⟩
theorem sK_pre {n i : Nat} {ds : List (List Nat)} (hn : n = 3 ∨ n = 5) (hw : Word n (strAt n ds.flatten i)) : (sK n ds.flatten i).length = n ∧ (n = 3 ∨ n = 5) ∧ startsOf (sK n ds.flatten i) n ≠ [] := by
  refine ⟨by have := hw.1; simpa [sK, Str.length] using this, hn, ?_⟩
  have := starts_eq (d := strAt n ds.flatten i) (by rw [hw.1]; exact hn)
  rw [hw.1] at this
  show startsOf ⟨(strAt n ds.flatten i).toArray⟩ n ≠ []
  rw [this]
  have h := starts_ne hn hw
  rw [hw.1] at h; exact h
theorem quiet_word {n : Nat} {d : List Nat} (hn : n = 3 ∨ n = 5) (hd : d.length = n) (hl : ∀ c ∈ d, c ∈ letters) : QuietS ⟨d.toArray⟩ := by
  refine ⟨fun i hi => ?_, ?_, ?_⟩
  · have hi' : i < d.length := by simpa using hi
    have hm := hl _ (List.getElem_mem hi')
    have e : (⟨d.toArray⟩ : Str).cps.getD i 0 = d[i] := by simp [hi']
    rw [e]
    simp only [letters, List.mem_cons, List.not_mem_nil, or_false] at hm
    rcases hm with h | h | h | h | h <;> rw [h] <;> rfl
  · show 1 ≤ d.toArray.size; rw [List.size_toArray]; omega
  · show d.toArray.size < 1000; rw [List.size_toArray]; omega
theorem quiet_upper {n : Nat} {d : List Nat} (hn : n = 3 ∨ n = 5) (hd : d.length = n) (hl : ∀ c ∈ d, c ∈ letters) : QuietS (Txt.upper ⟨d.toArray⟩) := by
  rw [upper_word hl]
  refine ⟨fun i hi => ?_, ?_, ?_⟩
  · have hi' : i < d.length := by simpa using hi
    have hm := hl _ (List.getElem_mem hi')
    have e : (⟨(d.map (· - 32)).toArray⟩ : Str).cps.getD i 0 = d[i] - 32 := by simp [hi']
    rw [e]
    simp only [letters, List.mem_cons, List.not_mem_nil, or_false] at hm
    rcases hm with h | h | h | h | h <;> rw [h] <;> rfl
  · show 1 ≤ (d.map (· - 32)).toArray.size; rw [List.size_toArray, List.length_map]; omega
  · show (d.map (· - 32)).toArray.size < 1000; rw [List.size_toArray, List.length_map]; omega
theorem up_fit {n : Nat} {d : List Nat} (hn : n = 3 ∨ n = 5) (hd : d.length = n) (hl : ∀ c ∈ d, c ∈ letters) : PySem.Builtin.Str.tooLong (Txt.upper ⟨d.toArray⟩).length = false := by
  rw [upper_word hl]
  refine decide_eq_false ?_
  show ¬ (d.map (· - 32)).toArray.size > sizeLine
  rw [List.size_toArray, List.length_map]
  have : sizeLine = 2 ^ 24 := rfl
  omega
theorem hent_sub {ex nw : List (Addr × Obj)} (h : ∀ p ∈ ex, p ∈ nw) : ∀ {hds : List (Str × Str)} {ys : List Value}, Paired (HEnt ex) hds ys → Paired (HEnt nw) hds ys
  | _, _, .nil => .nil
  | _, _, .cons ⟨q, c, t1, t2, e, hq⟩ r => .cons ⟨q, c, t1, t2, e, h _ hq⟩ (hent_sub h r)
theorem hds_len {n c : Nat} {ds : List (List Nat)} (hn : n = 3 ∨ n = 5) (h : Codes n ds) (hc : ∀ k, k < c ↔ k + n ≤ ds.length * n) : ∀ hd ∈ hdsOf n ds.flatten c, hd.1.length < 1000 := by
  intro hd hm
  unfold hdsOf at hm
  obtain ⟨k, hk, rfl⟩ := List.mem_map.mp hm
  obtain ⟨hk1, hk2⟩ := List.mem_filter.mp hk
  have hk1 := (hc k).mp (List.mem_range.mp hk1)
  have hs : sameL (strAt n ds.flatten k) = false := by simpa using hk2
  have hw := code_word hn (str_word hn h hk1 hs)
  show (Txt.upper (lawCode (sK n ds.flatten k))).length < 1000
  rw [code_sK hn h hk1]
  exact (quiet_upper hn hw.1 hw.2.1).2.2
theorem carried_snoc {d : PyData} {v : Value} : ∀ {vs : List Value} {ds : List PyData}, CarriedAll vs ds → Carried v d → CarriedAll (vs ++ [v]) (ds ++ [d])
  | _, _, .nil, h => .cons h .nil
  | _, _, .cons h r, k => .cons h (carried_snoc r k)
theorem bools_next {bs : List Value} {i n : Nat} (h : CarriedAll bs (((List.range i).map fun k => decide (k % n = 0)).map PyData.bool)) : CarriedAll (bs ++ [.bool (decide (i % n = 0))]) (((List.range (i + 1)).map fun k => decide (k % n = 0)).map PyData.bool) := by
  rw [List.range_succ, List.map_append, List.map_append]
  exact carried_snoc h (.bool _)
theorem fmod_nat (i n : Nat) : (0 + (i : Int)).fmod (n : Int) = ((i % n : Nat) : Int) := by
  rw [Int.zero_add, Int.fmod_eq_emod_of_nonneg _ (by omega)]; omega
theorem bools_nextB {bs : List Value} {i n : Nat} {b : Bool} (h : CarriedAll bs (((List.range i).map fun k => decide (k % n = 0)).map PyData.bool)) (hb : b = decide (i % n = 0)) : CarriedAll (bs ++ [.bool b]) (((List.range (i + 1)).map fun k => decide (k % n = 0)).map PyData.bool) := by
  subst hb; exact bools_next h
theorem law_units {env : Env} : (callerA.deeper env).units + 64 < cLine := by
  show 4 + 3 + 64 < cLine
  decide +kernel
theorem step_items {vs : List Value} {c n : Nat} {row : List Nat} (hn : 0 < n) (h : StrsAre vs ((List.range c).map (sK n row))) {j : Nat} {v : Value} (e : (slicePick vs.toArray none none (some (n : Int))).toList[j]? = some v) : ∃ k, k < c ∧ k % n = 0 ∧ ∃ t, v = .str (sK n row k) t := by
  have hm := List.mem_of_getElem? e
  unfold slicePick at hm
  rw [List.toList_toArray] at hm
  obtain ⟨idx, hidx, hv⟩ := List.mem_filterMap.mp hm
  unfold sliceRange at hidx
  obtain ⟨k, _, hk⟩ := List.mem_map.mp hidx
  have hb : (sliceBounds none none (some (n : Int)) vs.toArray.size).1 = 0 := by
    simp only [sliceBounds, Option.getD_some]; rw [if_pos (by omega)]
  have hb2 : (sliceBounds none none (some (n : Int)) vs.toArray.size).2.2 = (n : Int) := rfl
  rw [hb, hb2] at hk
  have hidx2 : idx = n * k := by rw [← hk]; rw [Int.zero_add]; exact Int.toNat_natCast (n * k)
  have hv' : vs[idx]? = some v := by simpa using hv
  obtain ⟨h1, t, h2⟩ := strs_at h hv'
  exact ⟨idx, h1, by rw [hidx2]; exact Nat.mul_mod_right n k, t, h2⟩
noncomputable def LastJ (m : Str → Option Value) (Z lx x dx D L : Addr) (hs : Int) (tkh : Tok) (zs vs ys : List Value) (ep : Nat) (oT oR oS : Obj) (extra : List (Addr × Obj)) (i : Nat) (m₁ : Str → Option Value) (nw : List (Addr × Obj)) : Prop :=
  ∃ o4 v4 o5 v5, m₁ = m ∧ nw = (Z, W.listOf zs.toArray 0) :: (lx, lst0 ys ep) :: (x, instObj 329 dx) :: (dx, hdO hs tkh lx) :: (D, LCg.lst vs) :: (L + 1 + 1 + 1 + 1 + 1, o5) :: (L + 1 + 1 + 1 + 1, o4) :: (L + 1 + 1 + 1, oT) :: (L + 1 + 1, oR) :: (L + 1, oS) :: extra ∧ Obj.data o4 = .cell v4 ∧ Obj.data o5 = .cell v5
theorem drop2 {h₀ h : Heap} {L : Addr} {z a b : Addr × Obj} {r : List (Addr × Obj)} (N : News h₀ L h (z :: a :: b :: r)) : News h₀ L h (z :: r) := fun p hp => N p (by
  rcases List.mem_cons.mp hp with rfl | hp
  · exact .head _
  · exact .tail _ (.tail _ (.tail _ hp)))
theorem turns_next {ts : List Value} {i : Nat} {x : Str} {t : Tok} (h : StrsAre ts (turnsOf i x)) : StrsAre (ts ++ [.str (Txt.slice x (some (0 + (i : Int))) none ++ Txt.slice x none (some (0 + (i : Int)))) t]) (turnsOf (i + 1) x) := by
  unfold turnsOf at h ⊢
  rw [List.range_succ, List.map_append]
  exact h.append' (.cons _ _ .nil)
theorem tail5 {L lx : Addr} {o4 oT oR oS : Obj} {extra : List (Addr × Obj)} (hx : @LT.lt Nat _ (L + 1 + 1 + 1 + 1 + 1) lx) (hex : ∀ p ∈ extra, @LT.lt Nat _ lx p.1) : ∀ p ∈ (L + 1 + 1 + 1 + 1, o4) :: (L + 1 + 1 + 1, oT) :: (L + 1 + 1, oR) :: (L + 1, oS) :: extra, p.1 ≠ L + 1 + 1 + 1 + 1 + 1 := by
  intro p hp
  simp only [List.mem_cons] at hp
  rcases hp with rfl | rfl | rfl | rfl | hp
  · k_ne
  · k_ne
  · k_ne
  · k_ne
  · have := hex p hp; exact neN (by omega)
theorem filt_next {os : List Value} {c n i : Nat} {row : List Nat} {P : Str → Bool} {t : Tok} (h : StrsAre os (((List.range i).map (sK n row)).filter P)) : (P (sK n row i) = true → StrsAre (os ++ [.str (sK n row i) t]) (((List.range (i + 1)).map (sK n row)).filter P)) ∧ (P (sK n row i) = false → StrsAre os (((List.range (i + 1)).map (sK n row)).filter P)) := by
  rw [List.range_succ, List.map_append, List.filter_append]
  constructor
  · intro hp
    have : (List.map (sK n row) [i]).filter P = [sK n row i] := by simp [hp]
    rw [this]; exact h.append' (.cons _ _ .nil)
  · intro hp
    have : (List.map (sK n row) [i]).filter P = [] := by simp [hp]
    rw [this, List.append_nil]; exact h
theorem strs_ok {c n : Nat} {ds : List (List Nat)} {P : Str → Bool} (h : Codes n ds) : ∀ x ∈ ((List.range c).map (sK n ds.flatten)).filter P, PyData.strOk x = true := by
  intro x hx
  obtain ⟨k, _, rfl⟩ := List.mem_map.mp (List.mem_filter.mp hx).1
  unfold PyData.strOk sK
  rw [← Array.all_toList, List.all_eq_true]
  intro a ha
  have ha : a ∈ strAt n ds.flatten k := by simpa using ha
  have := str_letters h a ha
  simp only [letters, List.mem_cons, List.not_mem_nil, or_false] at this
  rcases this with rfl | rfl | rfl | rfl | rfl <;> decide
noncomputable abbrev eLaw (L fa : Addr) (ccd : Value) : Env := envOfC (Str.ofString "law") s_20 L fa ccd
set_option maxHeartbeats 0 in
theorem law_body (w : World) (mean : ExcName → Option Value) (mg mb : Str → Option Value) (h₀ : Heap) (s : Shared) (L sx : Addr) (vs0 : List Value) (ns : List Int) (fa : Addr) (ccd : Value) (m0 : Str → Option Value) (o1 o2 o3 o4 o5 : Obj) (h₁ : Heap) (tk₁ : Nat) (Q : Flow → Shared → Prop) (E : Value → Shared → Prop)
    (B : Below callerA h₀ [] h₀) (F : Fr h₀ L h₁ (fun y => if y = Str.ofString "script" then some (.ref sx) else m0 y)) (X : (KK w.params).In h₀)
    (N : News h₀ L h₁ [(L + 1 + 1 + 1 + 1 + 1, o5), (L + 1 + 1 + 1 + 1, o4), (L + 1 + 1 + 1, o3), (L + 1 + 1, o2), (L + 1, o1)])
    (d1 : o1.data = .cell none) (d2 : o2.data = .cell none) (d3 : o3.data = .cell none) (d4 : o4.data = .cell none) (d5 : o5.data = .cell none) (T : Top qq (looseW qq looseQ) mean mg mb h₀)
    (hl : h₀.IsList sx vs0.toArray) (hI0 : IntsAre vs0 ns) (hlen : ns.length ≤ 63)
    (hret : ∀ h' tk' m' nw, Fr h₀ L h' m' → News h₀ L h' nw → Q (.ret (.bool true)) { s with heap := h', toks := tk' }) :
    wpAny (model PySem.Challenge.rw_wc0029_01.row.prog w) (callerA.deeper (envOfC (Str.ofString "law") s_20 L fa ccd)) (execs b_20 (envOfC (Str.ofString "law") s_20 L fa ccd)) Q E { s with heap := h₁, toks := tk₁ } := by
  revert B F X N T hret; k_fill; intro B F X N T hret
  k_steps
  refine unhold ?_
  k_dflt (refine LCg.ListComp_U (F₀ := by k_asm) (by with_unfolding_all rfl) (by decide) (by rfl) (by decide) (by rfl) ?_)
  k_steps
  refine unhold ?_
  rename IntsAre _ (List.take 4 _) => hI4
  refine' LCg.CompSrc.ledger ?a1 ?a2 ?a3 (.head _) ?a5 ?_
  case a1 => rfl
  case a2 => k_asm
  case a3 => k_asm
  case a5 => have := IntsAre.length hI4; simp [sizeLine, List.length_take] at this ⊢; omega
  intro g1
  have hsz4 := IntsAre.length hI4
  rw [show ∀ l : List Value, l.toArray.size = l.length from fun l => List.size_toArray .., hsz4]
  refine restU_same (fun i vs => IntsAre vs ((((ns.take 4)).take i).map fun v => v.fmod 6250)) .nil ?_ ?_
  · intro i vs v I' oI' C' oC' D' m' h' tk' E' hin hI hv hC' hx' F' N' off' ne'
    obtain ⟨t, rfl⟩ := ints_at hI4 (by simpa using hv)
    k_steps
    refine' LCg.CompEnd.intro ?cF ?cN _ ?cS ?cO ?cT ⟨rfl, ints_next hI hin⟩
    case cF => k_asm
    case cN => k_asm
    case cS => kcf_all
    case cO => exact off'
    case cT => exact Or.inr ⟨_, .head _, rfl, _, rfl⟩
  · intro vs hI
    rw [List.take_length] at hI
    walk_at "MINE upto sub"
    refine kba_turn (value' := PySem.Expr.Name (PySem.Str.ofString "_") ⟨0, 0, 0, 0⟩) (fun _ => rfl) ?_
    rename News _ _ _ _ => N5
    rename Fr _ _ _ _ => F5
    refine' kmk_slice_ints (vs := [.int 1466 _, .int 2354 _, .int 808 _]) (ns := [1466, 2354, 808]) (ms := ([1466, 2354, 808] : List Int).drop ns.length) F5 N5 (News.isList N5 (.head _)) (.int _ _) .none ?i ?m ?c ?_ ?s ?t ?z
    case i => exact .cons _ _ (.cons _ _ (.cons _ _ .nil))
    case m => exact kmk_from (x := (ns.length : Int)) (.cons _ _ (.cons _ _ (.cons _ _ .nil))) (by omega)
    case c => exact rfl
    case s => with_unfolding_all rfl
    case t => exact fun _ => rfl
    case z => exact Nat.le_of_ble_eq_true rfl
    intro D6 ws6 h6 F6 N6 l6 hI6 _ _
    k_lt l6
    walk_at "MINE upto sub"
    rename IntsAre _ (List.map _ _ ++ _) => hI7
    have hI8 : IntsAre _ (lawNums ns) := hI7
    clear hI7 hI6 hI hI4
    obtain ⟨hn3, hn4, hnr⟩ := nums_facts ns
    generalize lawNums ns = nums at hI8 hn3 hn4 hnr
    rename News _ _ _ _ => N7
    obtain ⟨n, hn, hnz⟩ := size_nat (nums.getD 0 0)
    have hn30 : n < 30 := by rcases hn with rfl | rfl <;> decide
    have hn0 : 0 < n := by rcases hn with rfl | rfl <;> decide
    have hnl : n ≤ sizeLine := Nat.le_trans (Nat.le_of_lt hn30) (by decide +kernel)
    refine item_list_ints (News.isList N7 (.head _)) hI8 (by decide) (by omega) (by decide) ?_
    intro t0
    k_steps
    rename Obj.data _ = Data.cell (some (Value.int _ _)) => dS
    rename Obj => oS
    rw [show Int.toNat 0 = 0 from rfl, hnz] at dS
    refine unhold ?_
    k_dflt (refine LCg.ListComp_U (F₀ := by k_asm) (by with_unfolding_all rfl) (by decide) (by rfl) (by decide) (by rfl) ?_)
    k_steps
    refine unhold ?_
    refine' LCg.CompSrc.ledger ?c1 ?c2 ?c3 (.head _) ?c5 ?_
    case c1 => rfl
    case c2 => k_asm
    case c3 => k_asm
    case c5 => have := IntsAre.length hI8; simp [sizeLine] at this ⊢; omega
    intro g2
    have hsz8 := IntsAre.length hI8
    rw [show ∀ l : List Value, l.toArray.size = l.length from fun l => List.size_toArray .., hsz8]
    refine restU_same (fun i vs => StrsAre vs (lawCodes n (nums.take i))) .nil ?_ ?_
    · intro i vs v I' oI' C' oC' D' m' h' tk' E' hin hI hv hC' hx' F' N' off' ne'
      obtain ⟨t, rfl⟩ := ints_at hI8 (by simpa using hv)
      have hvr := hnr (nums.getD i 0) (getD_mem hin)
      k_steps
      refine unhold ?_
      refine' word_claim w mean mg mb _ (nums.getD i 0) _ n _ _ _ _ _ _ _ _ _ _ _ _ _ _ _ _ _ _ ?wB ?wF ?wX ?wN ?wT ?wcs ?wpre ?wdp ?wun ?wret
      case wB => exact B
      case wF => k_asm
      case wX => exact X
      case wN => k_asm
      case wT => exact T
      case wcs => exact rfl
      case wpre => exact ⟨hvr.1, hvr.2, hn⟩
      case wdp => decide +kernel
      case wun => decide +kernel
      intro t5 h5 tk5 F5 N5
      k_steps
      refine unhold ?_
      refine' code_claim w mean mg mb _ (lawWord (nums.getD i 0) n) _ n _ _ _ _ _ _ _ _ _ _ _ _ _ _ _ _ _ ?vB ?vF ?vX ?vN ?vT ?vcs ?vpre ?vdp ?vun ?vret
      case vB => exact B
      case vF => k_asm
      case vX => exact X
      case vN => k_asm
      case vT => exact T
      case vcs => exact rfl
      case vpre => exact lawWord_pre hn
      case vdp => decide +kernel
      case vun => decide +kernel
      intro t6 h6' tk6 F6' N6'
      k_steps
      refine' LCg.CompEnd.intro ?dF ?dN _ ?dS' ?dO ?dT ⟨rfl, codes_next hI hin⟩
      case dF => k_asm
      case dN => k_asm
      case dS' => kcf_all
      case dO => exact off'
      case dT => exact Or.inr ⟨_, .head _, rfl, _, rfl⟩
    · intro vs hI
      rw [List.take_length] at hI
      k_steps
      refine unhold ?_
      obtain ⟨ds, hds, hdl, hde⟩ := codes_ds hn nums
      rw [hde] at hI
      rename News _ _ _ (_ :: _ :: _ :: _ :: _ :: _ :: _ :: _) => N9
      refine join_listW (items := vs.toArray) (News.isList N9 (.head _)) hI (by decide) ?js ?_
      case js => exact row_weight hds hn (by omega)
      intro t9 k9
      rw [join_flat]
      k_steps
      refine unhold ?_
      refine' sent_claim w mean mg mb _ ⟨ds.flatten.toArray⟩ _ _ _ _ _ _ _ _ _ _ _ _ _ _ _ _ _ _ ?uB ?uF ?uX ?uN ?uT ?ucs ?upre ?udp ?uun ?uret
      case uB => exact B
      case uF => k_asm
      case uX => exact X
      case uN => k_asm
      case uT => exact T
      case ucs => exact rfl
      case upre => exact row_pre hds hn (by omega)
      case udp => decide +kernel
      case uun => decide +kernel
      intro t10 h10 tk10 F10 N10
      have N11 : News h₀ L h10 [(L + 1 + 1 + 1 + 1 + 1, o5), (L + 1 + 1 + 1 + 1, o4), (L + 1 + 1 + 1, o3), (L + 1 + 1, o2), (L + 1, oS)] := cb_drop N10 (by kcf_all)
      clear N10 N9
      have hrl : (⟨ds.flatten.toArray⟩ : Str).length = ds.length * n := by have := flat_len' hds; simpa [Str.length] using this
      obtain ⟨c, hc, hcb, hcs⟩ := count_facts (n := n) (N := ds.length) hn (by omega) (by omega)
      k_steps
      rename Obj.data _ = Data.cell (some (Value.str _ _)) => dR
      rename Obj => oR
      rename IsRange _ _ _ _ _ _ _ _ => hR1
      rw [hrl, hc] at hR1
      refine unhold ?_
      refine' LCg.CompSrc.range (n := c) ?f1 ?f2 ?f3 hR1 (small0 c hcs) (size0 c hcs) ?f7 ?_
      case f1 => rfl
      case f2 => k_asm
      case f3 => k_asm
      case f7 => simp [sizeLine]; omega
      intro g3
      refine restU_same (fun i vs => StrsAre vs ((List.range i).map (sK n ds.flatten))) .nil ?_ ?_
      · intro i vs v I' oI' C' oC' D' m' h' tk' E' hin hI hv hC' hx' F' N' off' ne'
        obtain ⟨t, rfl⟩ := hv
        k_steps
        refine' LCg.CompEnd.intro ?gF ?gN _ ?gS ?gO ?gT ⟨rfl, str_next hI ((hcb i).mp hin) hds⟩
        case gF => k_asm
        case gN => k_asm
        case gS => kcf_all
        case gO => exact off'
        case gT => trivial
      · intro vs hI
        k_steps
        rename _ ≠ _ ∧ _ ≠ _ ∧ _ ≠ _ ∧ _ ≠ _ ∧ _ ≠ _ => ho5
        refine unhold ?_
        show wpAny _ _ (call (.ref 329) []) _ _ _
        refine' hnew_claim w mean mg mb _ _ _ _ _ _ _ _ _ _ _ _ _ _ _ _ _ _ ?sB ?sF ?sX ?sN ?sT ?scs ?sdp ?sun ?sret
        case sB => exact B
        case sF => k_asm
        case sX => exact X
        case sN => k_asm
        case sT => exact T
        case scs => exact rfl
        case sdp => decide +kernel
        case sun => decide +kernel
        intro h12 tk12 x dx lx hs tkh F12 N12 hlt1 hlt2 hlt3
        k_lt hlt1
        have hlt2' : @LT.lt Nat _ dx x := hlt2
        have hlt3' : @LT.lt Nat _ x lx := hlt3
        clear hlt2 hlt3
        rename StrsAre _ _ => hI
        k_steps
        refine unhold ?_
        rename Fr _ _ _ _ => F13
        rename News _ _ _ _ => N13
        rename Obj.data _ = Data.cell (some (Value.ref _)) => dT
        rename Obj => oT
        with_reducible refine for_list_ex F13 ?la ?lb ?lc
        case la => rfl
        case lc => intro _; with_unfolding_all rfl
        case lb =>
        k_steps
        have hvl := StrsAre.length hI
        rw [List.length_map, List.length_range] at hvl
        refine ⟨_, vs, _, TabJ n ds.flatten _ lx x dx _ L hs tkh vs o5 oT oR oS, _, _, rfl, F13, N13, .tail _ (.tail _ (.tail _ (.head _))), ⟨[], 0, o4, none, [], rfl, rfl, d4, .nil, (fun _ h => nomatch h), Nat.le_refl _⟩, ?tn, ?tm, ?td⟩
        case tm =>
          rintro i m₁ nw ⟨ys, ep, o4', v4, extra, _, rfl, _⟩
          exact .tail _ (.tail _ (.tail _ (.head _)))
        case tn =>
          intro i v m₁ nw I oI h tk E' hiv hJ FT NT off
          replace FT : Fr h₀ L h m₁ := FT
          replace NT : News h₀ L h ((I, oI) :: nw) := NT
          clear F13 N13
          obtain ⟨ys, ep, o4', v4, extra, rfl, rfl, d4', hP, hex, hyl⟩ := id hJ
          obtain ⟨hic, tv, rfl⟩ := strs_at hI hiv
          have hI4n : @Ne Nat I (L + 1 + 1 + 1 + 1) := fun e => off _ (.tail _ (.tail _ (.tail _ (.tail _ (.tail _ (.head _)))))) e.symm
          have hIlx : @Ne Nat I lx := fun e => off _ (.head _) e.symm
          refine wpAny_assign_Name ?_
          refine' storeX_C FT NT ?cc (.tail hI4n (.tail ?e1 (.tail ?e2 (.tail ?e3 (.tail ?e4 (.tail ?e5 (.head ?e6))))))) d4' ?_ ?ca ?cb
          case cc => rfl
          case ca => rfl
          case cb => rfl
          case e1 => k_ne
          case e2 => k_ne
          case e3 => k_ne
          case e4 => k_ne
          case e5 => k_ne
          case e6 => 
            intro p hp
            simp only [List.mem_cons] at hp
            rcases hp with rfl | rfl | rfl | hp
            · k_ne
            · k_ne
            · k_ne
            · have := hex p hp; exact neN (by omega)
          intro h14 o4n F14 N14 d4n
          (try dsimp only at N14)
          k_steps
          have hin := (hcb i).mp hic
          have hsl := str_len (k := i) hds hin
          refine newSet_str F14 N14 rfl (by show (strAt n ds.flatten i).toArray.size < 1000; rw [List.size_toArray, hsl]; omega) ?_
          intro h15 tk15 oset da hAd F15 N15 hso hfit
          clear hJ NT FT N14 F14
          k_steps
          · rename (1 : Int) < _ => hgt
            have hsm : sameL (strAt n ds.flatten i) = false := set_size.mp hgt
            have hw := str_word hn hds hin hsm
            refine unhold ?_
            refine' code_claim w mean mg mb _ (sK n ds.flatten i) _ n _ _ _ _ _ _ _ _ _ _ _ _ _ _ _ _ _ ?yB ?yF ?yX ?yN ?yT ?ycs ?ypre ?ydp ?yun ?yret
            case yB => exact B
            case yF => k_asm
            case yX => exact X
            case yN => k_asm
            case yT => exact T
            case ycs => exact rfl
            case ypre => exact sK_pre hn hw
            case ydp => decide +kernel
            case yun => decide +kernel
            intro t17 h17 tk17 F17 N17
            k_steps
            have hcw := code_word hn hw
            have hce := code_sK hn hds hin
            show wpAny _ _ (call (.builtin "str.upper") [.str (lawCode (sK n ds.flatten i)) _]) _ _ _
            refine SC.upper (by rw [hce]; exact up_fit hn hcw.1 hcw.2.1) ?_
            k_steps
            refine unhold ?_
            show wpAny _ _ (call (.ref 326) [.ref x, .str (Txt.upper (lawCode (sK n ds.flatten i))) _, .str (sK n ds.flatten i) _]) _ _ _
            rename News _ _ _ _ => N18
            obtain ⟨hd0, hd1, hd2, hd3, hd4, hd5, hd6, hd7, hd8, hd9, hdx⟩ := id hAd
            refine' add_claim w mean mg mb x dx lx ys ep hs tkh _ _ _ _ _ ?al ?aq ?aqv ?ayl _ _ _ _ _ _ _ _ _ _ _ _ _ _ _ _ _ ?aB ?aF ?aX (tab_front N18) ?aT ?acs ?adp ?aun ?aret
            case aq => rw [hce]; exact quiet_upper hn hcw.1 hcw.2.1
            case aqv => exact quiet_word hn hw.1 hw.2.1
            case ayl => omega
            case aB => exact B
            case aF => k_asm
            case aX => exact X
            case aT => exact T
            case acs => exact rfl
            case adp => decide +kernel
            case aun => decide +kernel
            case al =>
              intro q hq
              simp only [List.mem_cons] at hq
              rcases hq with rfl | rfl | rfl | rfl | rfl | rfl | rfl | rfl | rfl | rfl | hq
              · k_ne
              · k_ne
              · k_ne
              · exact hIlx
              · k_ne
              · k_ne
              · k_ne
              · k_ne
              · k_ne
              · k_ne
              · have := hex q hq; exact neN (by omega)
            intro h19 tk19 p t1 t2 ct hAp F19 N19
            k_steps
            rename Fr _ _ _ _ => F20
            rename News _ _ _ _ => N20
            refine' TurnEnd.intro F20 N20 tab_sub (off_mid (A := [_, _, _, _, _, _, _, _, _]) (off_same (by rfl) off) ?op) (tabJ_yes d4n hP hex hyl hsm hAp.1)
            case op => exact fun e => Nat.lt_irrefl _ (e ▸ hAp.2.2.2.2.1)
          · rename ¬ (1 : Int) < _ => hgt
            have hsm : sameL (strAt n ds.flatten i) = true := by
              cases e : sameL (strAt n ds.flatten i)
              · exact absurd (set_size.mpr e) hgt
              · rfl
            rename News _ _ _ _ => N16
            rename Fr _ _ _ _ => F16
            refine' TurnEnd.intro F16 N16 tab_sub2 (off_same (by rfl) off) (tabJ_no d4n hP hex hyl hsm)
        case td =>
          intro m₁ nw h tk hJ FD ND
          replace FD : Fr h₀ L h m₁ := FD
          replace ND : News h₀ L h nw := ND
          clear F13 N13
          obtain ⟨ys, ep, o4', v4, extra, rfl, rfl, d4', hP, hex, hyl⟩ := hJ
          rw [hvl] at hP hyl
          k_steps
          refine unhold ?_
          k_dflt (refine LCg.ListComp_U (F₀ := by k_asm) (by with_unfolding_all rfl) (by decide) (by rfl) (by decide) (by rfl) ?_)
          k_steps
          refine unhold ?_
          refine' LCg.CompSrc.ledger (its := vs.toArray) (k := _) ?ha1 ?ha2 ND (.tail _ (.tail _ (.tail _ (.head _)))) ?ha5 ?_
          case ha1 => rfl
          case ha2 => k_asm
          case ha5 => rw [List.size_toArray, hvl]; simp [sizeLine]; omega
          intro g5
          rw [List.size_toArray, hvl]
          refine restU_same (fun i bs => CarriedAll bs (((List.range i).map fun k => decide (k % n = 0)).map PyData.bool)) .nil ?_ ?_
          · intro i bs v I' oI' C' oC' D' m' h' tk' E' hin hB hv hC' hx' F' N' off' ne'
            obtain ⟨_, tv, rfl⟩ := strs_at hI (by simpa using hv)
            k_steps
            refine unhold ?_
            have hin5 := (hcb i).mp hin
            have hsl5 := str_len (k := i) hds hin5
            refine' contains_claim w mean mg mb x dx lx (hdsOf n ds.flatten c) ys ep hs tkh (sK n ds.flatten i) _ _ ?mx ?md ?ml ?mt ?mq ?mn ?mk _ _ _ _ _ _ _ _ _ _ _ _ _ _ _ _ _ ?mB ?mF ?mX ?mN ?mT ?mcs ?mdp ?mun ?mret
            case mB => exact B
            case mF => k_asm
            case mX => exact X
            case mN => exact N'
            case mT => exact T
            case mcs => exact rfl
            case mdp => decide +kernel
            case mun => decide +kernel
            case mx => repeat (first | exact List.Mem.head _ | apply List.Mem.tail)
            case md => repeat (first | exact List.Mem.head _ | apply List.Mem.tail)
            case ml => repeat (first | exact List.Mem.head _ | apply List.Mem.tail)
            case mt => exact hent_sub (fun p hp => by repeat (first | exact hp | apply List.Mem.tail)) hP
            case mq => rw [low_sK hds]; exact quiet_word hn hsl5 (str_letters hds)
            case mn => exact (quiet_word hn hsl5 (str_letters hds)).2.2
            case mk => exact hds_len hn hds hcb
            intro h22 tk22 F22 N22
            rw [getOf_spec hn hds hcb hin]
            k_steps
            refine' LCg.CompEnd.intro ?iF N22 _ (fun p hp => hp) off' ?iT ⟨rfl, bools_next hB⟩
            case iF => k_asm
            case iT => exact Or.inr ⟨_, by repeat (first | exact List.Mem.head _ | apply List.Mem.tail), rfl, _, rfl⟩
          · intro bs hB
            k_steps
            refine unhold ?_
            k_dflt (refine LCg.ListComp_U (F₀ := by k_asm) (by with_unfolding_all rfl) (by decide) (by rfl) (by decide) (by rfl) ?_)
            k_steps
            rename News _ _ _ _ => N23
            refine len_strsA (News.isList N23 (by repeat (first | exact List.Mem.head _ | apply List.Mem.tail))) hI (by rw [List.length_map, List.length_range]; omega) ?_
            rw [List.length_map, List.length_range]
            k_steps
            clear hR1
            rename IsRange _ _ _ _ _ _ _ _ => hR2
            refine unhold ?_
            refine' LCg.CompSrc.range (n := c) ?ja1 ?ja2 ?ja3 hR2 (small0 c hcs) (size0 c hcs) ?ja7 ?_
            case ja1 => rfl
            case ja2 => k_asm
            case ja3 => k_asm
            case ja7 => simp [sizeLine]; omega
            intro g6
            refine restU_same (fun i bs => CarriedAll bs (((List.range i).map fun k => decide (k % n = 0)).map PyData.bool)) .nil ?_ ?_
            · intro i bs2 v I' oI' C' oC' D' m' h' tk' E' hin hB2 hv hC' hx' F' N' off' ne'
              obtain ⟨t, rfl⟩ := hv
              k_steps
              rename News _ _ _ (_ :: _ :: _ :: _ :: _ :: _) => N24
              refine' LCg.CompEnd.intro ?kF N24 _ (fun p hp => hp) off' trivial ⟨rfl, bools_nextB hB2 ?kb⟩
              case kF => k_asm
              case kb => rw [fmod_nat, Bool.eq_iff_iff, beq_iff_eq, decide_eq_true_iff]; generalize i % n = r; omega
            · intro bs2 hB2
              k_steps
              refine unhold ?_
              rename News _ _ _ (_ :: _ :: _ :: _ :: _ :: _) => N25
              refine ne_bools (News.isList N25 (.tail _ (.head _))) (News.isList N25 (.head _)) hB hB2 ?qc ?_
              case qc => exact law_units
              k_steps
              refine unhold ?_
              rename Fr _ _ _ _ => F27
              with_reducible refine for_list_ex F27 ?na ?nb ?nc
              case na => rfl
              case nc => intro _; with_unfolding_all rfl
              case nb =>
              walk_at "MINE upto sub"
              rename Fr _ _ _ _ => F28
              rename News _ _ _ _ => N28
              refine' kmk_slice3_lit (its := vs.toArray) (zs := (slicePick vs.toArray none none (some (n : Int))).toList) (st := some (n : Int)) F28 N28 (News.isList N28 ?z1) .none .none (.int _ _) ?z2 rfl ?_ ?z3 ?z4 ?z5
              case z1 => repeat (first | exact List.Mem.head _ | apply List.Mem.tail)
              case z2 => intro e; injection e with e; omega
              case z3 => with_unfolding_all rfl
              case z4 => exact fun _ => rfl
              case z5 => rw [List.size_toArray, hvl]; simp [sizeLine]; omega
              intro Z h29 F29 N29 hZ
              have hZ2 := allLt_of hZ
              obtain ⟨_, _, hz1, hz2, hz3, hz4, hz5, hz6, hz7, hz8, hz9, hzx⟩ := hZ2
              have N30 := drop2 N29
              dsimp only at hz1 hz2 hz3 hz4 hz5 hz6 hz7 hz8 hz9
              clear N29
              refine ⟨_, _, _, LastJ _ Z lx x dx _ L hs tkh _ vs ys ep oT oR oS extra, _, _, rfl, F29, N30, .head _, ⟨o4', v4, o5, none, rfl, rfl, d4', d5⟩, ?pn, ?pm, ?pd⟩
              case pm =>
                rintro i m₁ nw ⟨_, _, _, _, _, rfl, _, _⟩
                exact .head _
              case pd =>
                rintro m₁ nw h tk ⟨_, _, _, _, rfl, rfl, _, _⟩ FD2 ND2
                k_steps
                exact hret _ _ _ _ FD2 ND2
              case pn =>
              intro i v m₁ nw I oI h tk E' hiv hJ FT NT off
              replace FT : Fr h₀ L h m₁ := FT
              replace NT : News h₀ L h ((I, oI) :: nw) := NT
              clear F29 N30
              obtain ⟨o4c, v4c, o5c, v5c, rfl, rfl, d4c, d5c⟩ := hJ
              obtain ⟨k, hkc, hkz, tv, rfl⟩ := step_items hn0 hI hiv
              have hI4n : @Ne Nat I (L + 1 + 1 + 1 + 1) := fun e => off _ (.tail _ (.tail _ (.tail _ (.tail _ (.tail _ (.tail _ (.head _))))))) e.symm
              have hI5n : @Ne Nat I (L + 1 + 1 + 1 + 1 + 1) := fun e => off _ (.tail _ (.tail _ (.tail _ (.tail _ (.tail _ (.head _)))))) e.symm
              refine wpAny_assign_Name ?_
              refine' storeX_C FT NT ?qcc (.tail hI4n (.tail ?q0 (.tail ?q1 (.tail ?q2 (.tail ?q3 (.tail ?q4 (.tail ?q5 (.head ?q6)))))))) d4c ?_ ?qca ?qcb
              case qcc => rfl
              case qca => rfl
              case qcb => rfl
              case q0 => k_ne
              case q1 => k_ne
              case q2 => k_ne
              case q3 => k_ne
              case q4 => k_ne
              case q5 => k_ne
              case q6 =>
                intro p hp
                simp only [List.mem_cons] at hp
                rcases hp with rfl | rfl | rfl | hp
                · k_ne
                · k_ne
                · k_ne
                · have := hex p hp; exact neN (by omega)
              intro h31 o4n F31 N31 d4n
              (try dsimp only at N31)
              have hkn := (hcb k).mp hkc
              have hkl : (sK n ds.flatten k).length = n := by have := str_len (k := k) hds hkn; simpa [sK, Str.length] using this
              k_steps
              clear hR2
              refine unhold ?_
              k_dflt (refine LCg.ListComp_U (F₀ := by k_asm) (by with_unfolding_all rfl) (by decide) (by rfl) (by decide) (by rfl) ?_)
              k_steps
              refine unhold ?_
              rename IsRange _ _ _ _ _ _ _ _ => hR3
              rename Fr _ _ _ _ => F33
              rename News _ _ _ _ => N33
              refine' LCg.CompSrc.range (n := n) ?ra1 ?ra2 ?ra3 hR3 (small0 n hn30) (size0 n hn30) ?ra7 ?_
              case ra1 => rfl
              case ra2 => exact F33
              case ra3 => exact N33
              case ra7 => exact hnl
              intro g7
              refine restU_same (fun i ts => StrsAre ts (turnsOf i (sK n ds.flatten k))) .nil ?_ ?_
              · intro i ts v I' oI' C' oC' D' m' h' tk' E' hin hTs hv hC' hx' F' N' off' ne'
                obtain ⟨t, rfl⟩ := hv
                k_steps
                rename News _ _ _ _ => N32
                rename Fr _ _ _ _ => F32
                refine' LCg.CompEnd.intro F32 N32 _ (fun p hp => hp) off' trivial ⟨rfl, turns_next hTs⟩
              · intro ts hTs
                clear FT NT F33 N33 FD ND F28 N28
                walk1
                rename _ ≠ _ ∧ _ ∧ _ ∧ _ ∧ _ ∧ _ ∧ _ ∧ _ ∧ _ ∧ _ ∧ _ ∧ LCg.Off1 _ _ => ho1
                rename Fr _ _ _ _ => F34
                rename News _ _ _ _ => N34
                have hx5 : @LT.lt Nat _ (L + 1 + 1 + 1 + 1 + 1) lx := Nat.lt_trans hlt1.2.1 (Nat.lt_trans hlt2' hlt3')
                refine' storeX_C F34 N34 ?scc (.tail (Ne.symm ho1.2.2.2.2.2.2.1) (.tail hI5n (.tail (Nat.ne_of_gt hz5) (.tail (Nat.ne_of_gt hx5) (.tail (Nat.ne_of_gt (Nat.lt_trans hlt1.2.1 hlt2')) (.tail (Nat.ne_of_gt hlt1.2.1) (.tail (Ne.symm ho5.1) (.head (tail5 hx5 hex))))))))) d5c ?_ ?sca ?scb
                case scc => rfl
                case sca => rfl
                case scb => rfl
                intro h35 o5n F35 N35 d5n
                (try dsimp only at N35)
                clear F34 N34
                have hks := str_letters (n := n) (k := k) hds
                have hkl2 := str_len (k := k) hds hkn
                k_steps
                refine unhold ?_
                refine' all_claim w mean mg mb x dx lx (hdsOf n ds.flatten c) ys ep hs tkh (sK n ds.flatten k) _ _ ?tx ?tdm ?tl ?tt ?tq ?tn1 ?tk1 ?ty _ _ _ _ _ _ _ _ _ _ _ _ _ _ _ _ _ ?tB F35 ?tX N35 ?tT ?tcs ?tdp ?tun ?tret
                case tB => exact B
                case tX => exact X
                case tT => exact T
                case tcs => exact rfl
                case tdp => decide +kernel
                case tun => decide +kernel
                case tx => repeat (first | exact List.Mem.head _ | apply List.Mem.tail)
                case tdm => repeat (first | exact List.Mem.head _ | apply List.Mem.tail)
                case tl => repeat (first | exact List.Mem.head _ | apply List.Mem.tail)
                case tt => exact hent_sub (fun p hp => by repeat (first | exact hp | apply List.Mem.tail)) hP
                case tq => rw [low_sK hds]; exact quiet_word hn hkl2 hks
                case tn1 => exact (quiet_word hn hkl2 hks).2.2
                case tk1 => exact hds_len hn hds hcb
                case ty => exact Nat.lt_of_le_of_lt hyl (Nat.lt_trans hcs (by decide))
                intro h36 tk36 r vs36 hP36 hof F36 N36
                rw [allOf_spec hn hds hcb hkc hkz] at hP36
                have hS36 := strsAre_of hP36
                clear F35 N35 hP36
                k_steps
                refine unhold ?_
                k_dflt (refine LCt.ListComp_T (F₀ := by k_asm) (by with_unfolding_all rfl) (by decide) (by rfl) (by decide) (by rfl) ?_)
                k_steps
                refine unhold ?_
                refine' LCt.CompSrcT.ledger (its := vs.toArray) (k := _) ?va1 F36 N36 (.tail _ (.tail _ (.tail _ (.tail _ (.tail _ (.tail _ (.tail _ (.head _)))))))) ?va5 ?_
                case va1 => rfl
                case va5 => rw [List.size_toArray, hvl]; exact Nat.le_trans (Nat.le_of_lt hcs) (by decide +kernel)
                intro g8
                rw [List.size_toArray, hvl]
                refine restT_same (fun i os => StrsAre os (((List.range i).map (sK n ds.flatten)).filter fun o => (turnsOf n (sK n ds.flatten k)).any (· == o))) .nil ?_ ?_
                · intro i os v I' oI' C' oC' D' m' h' tk' E' hin hO hv hC' hx' F' N' off' ne'
                  obtain ⟨_, to, rfl⟩ := strs_at hI (by simpa using hv)
                  iterate 6 (first | walk1 | (dsimp only; walk1))
                  · rename List.any _ _ = true => hyes
                    iterate 1 (first | walk1 | (dsimp only; walk1))
                    refine' LCg.CompEnd.intro F' N' _ (fun p hp => hp) off' ?xa ⟨rfl, (filt_next hO).1 hyes⟩
                    case xa => exact Or.inr ⟨LCg.lst vs, by repeat (first | exact List.Mem.head _ | apply List.Mem.tail), rfl, _, rfl⟩
                    all_goals exact (0 : Nat)
                  · rename List.any _ _ = false => hno
                    refine' LCg.CompEnd.intro F' N' _ (fun p hp => hp) off' ?xb ⟨rfl, (filt_next hO).2 hno⟩
                    case xb => exact Or.inr ⟨LCg.lst vs, by repeat (first | exact List.Mem.head _ | apply List.Mem.tail), rfl, _, rfl⟩
                    all_goals exact (0 : Nat)
                · intro os hO
                  clear F36 N36
                  k_steps
                  refine unhold ?_
                  rename News _ _ _ _ => N37
                  refine ne_strs (News.isList N37 (.tail _ (.head _))) (News.isList N37 (.head _)) hS36 hO (strs_ok hds) law_units ?_
                  k_steps
                  show TurnEnd _ _ _ _ _ _ _
                  rename Fr _ _ _ _ => F38
                  rename News _ _ _ _ => N38
                  refine' TurnEnd.intro F38 N38 (fun q hq => .tail _ (.tail _ (.tail _ hq))) (off_same (by rfl) off) ⟨o4n, _, o5n, _, rfl, rfl, d4n, d5n⟩
end Mine
end
section
open PySem PySem.W PyProof.Rows PySem.Spec PySem.Calls
set_option Elab.async false
set_option maxRecDepth 1000000
set_option linter.unusedVariables false
set_option linter.unusedSimpArgs false
namespace Mine
noncomputable abbrev HK : Hook := kHook KK AA aa_is
theorem fr_if {h₀ h : Heap} {L : Addr} {m : Str → Option Value} {k : Str} {v : Value} (F : Fr h₀ L h m) (e : m k = some v) : Fr h₀ L h (fun y => if y = k then some v else m y) := by
  have : (fun y => if y = k then some v else m y) = m := by
    funext y
    by_cases hy : y = k
    · subst hy; rw [if_pos rfl, e]
    · rw [if_neg hy]
  rw [this]; exact F
noncomputable def lsaid (l : OpenLaw) : Bool := l.wellSaid
theorem trigsaid : Trg lsaid lsaid = true := by k_qdec
theorem lawSaid : OpenLaw.wellSaid PySem.Challenge.rw_wc0029_01 = true := show lsaid PySem.Challenge.rw_wc0029_01 = true from (congrFun PySem.W.Fast.te17360303129662250772 PySem.Challenge.rw_wc0029_01).trans (by kernel_rfl)
noncomputable def gN (p : Program) (l : List Str) : Bool := namesOk p (looseW p l) (namesW p l)
noncomputable def gI (p : Program) : Bool := importsNone p
theorem trigN : Trg gN gN = true := by k_qdec
theorem trigI : Trg gI gI = true := by k_qdec
theorem globN : namesOk qq (looseW qq looseQ) (namesW qq looseQ) = true := show gN qq looseQ = true from (congrFun (congrFun PySem.W.Fast.te14842016226826527378 qq) looseQ).trans (by kernel_rfl)
theorem globI : importsNone qq = true := show gI qq = true from (congrFun PySem.W.Fast.te16719974584820907312 qq).trans (by kernel_rfl)
end Mine
end
open PySem PySem.W PyProof.Rows PySem.Spec PySem.Calls
set_option maxRecDepth 1000000
open Mine
local macro_rules | `(tactic| k_qdec) => `(tactic| first | exact globN | exact globI | decide +kernel)
set_option maxHeartbeats 0 in
theorem PySem.Challenge.cw_wc0029_01_holds : PySem.Challenge.rw_wc0029_01.Holds := by
  w_on
  refine holds_law lawSaid fun said => ?_
  refine holds_open (q := Mine.qq) (loose := Mine.looseQ) (Xt := Mine.XtQ) (XP := XL Mine.qq []) (Yf := Hook.obs Mine.HK) (Ya := Hook.val Mine.HK) (YP := Hook.says Mine.HK) (N := 40000) Mine.left (Hook.of Mine.HK) (Hook.keeps Mine.HK) (fun s e => xl_of s (Bool.and_eq_true_iff.mp e).1) XL.keeps (by rfl) (by rfl) (by rfl) (fun s e => recFacts_of (Bool.and_eq_true_iff.mp e).2) (by rfl) (by first | assumption | decide +kernel) (by decide +kernel) ⟨rfl, rfl, rfl, rfl, rfl, by decide +kernel⟩ ?hw ?hc
  case hw => w_witness2
  k_go0
  rename IntsAre _ _ => hI0
  rename Heap.IsList _ _ _ => hl0
  rename Frag.In _ _ => X0
  rename Fr _ _ _ _ => F0
  rename News _ _ _ _ => N0
  rename Below _ _ _ _ => B0
  rename Top _ _ _ _ _ _ => T0
  refine' law_body _ _ _ _ _ _ _ _ _ _ _ _ _ _ _ _ _ _ _ _ _ _ B0 (fr_if F0 ?ge) X0 N0 ?gd1 ?gd2 ?gd3 ?gd4 ?gd5 T0 hl0 hI0 ?hle ?hrt
  case ge => rfl
  case gd1 => assumption
  case gd2 => assumption
  case gd3 => assumption
  case gd4 => assumption
  case gd5 => assumption
  case hle => omega
  case hrt =>
    intro h' tk' m' nw Fh Nh
    dsimp only
    k_steps
